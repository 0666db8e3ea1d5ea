import JvmDerived
import JvmDerived.Pilot.@@N@@Statement
import JvmDerived.Pilot.@@N@@Code
set_option linter.unusedVariables false
set_option linter.unusedSimpArgs false

namespace Jvm.Pilot.@@N@@
open Jvm Jvm.ClassFile Sem Op Lib Jvm.Free Jvm.Stand Jvm.LawKit Jvm.RoadKit Bundle Jvm.Pilot.@@N@@.Jvm.D
def QH (w : Value) (n0 : Nat) (v : Option Value) (h : Heap) (L : List Loc) : Prop := v = some w ∧ Fr n0 L
def own_at (l : List Int32) (j : Int32) : Int32 := l.getD j.toNatClampNeg 0
theorem own_getD (l : List Int32) (j : Int32) : (List.map Value.int l).getD j.toNatClampNeg (.int (0 : Int32)) = .int (own_at l j) := by
  simp only [own_at, List.getD_eq_getElem?_getD, List.getElem?_map]
  cases l[j.toNatClampNeg]? <;> rfl
def own_atJ (l : List Int64) (j : Int32) : Int64 := l.getD j.toNatClampNeg 0
theorem own_getDJ (l : List Int64) (j : Int32) : (List.map Value.long l).getD j.toNatClampNeg (.long (0 : Int64)) = .long (own_atJ l j) := by
  simp only [own_atJ, List.getD_eq_getElem?_getD, List.getElem?_map]
  cases l[j.toNatClampNeg]? <;> rfl
def QP (w : Value) (h0 : Heap) (v : Option Value) (h : Heap) (L : List Loc) : Prop := v = some w ∧ L = [] ∧ h = h0
def Runs (p : Program) (e : Env) (below : List Frame) (s : State) (Q : Option Value → Heap → List Loc → Prop) (k n : Nat) (A : State) : Prop :=
  ∃ s₂ o, Steps p.tables e below A s₂ ∧ s₂.status = .running ∧ Ended s₂ below o ∧ ∃ v L, o = .returned v ∧ Q v s₂.heap L ∧ FrameEnd s o s₂ L k n
section Ends
variable {p : Program} {l : Launch} {e : Env} {R : Room} {s : State} {m : MethodId} {args : Array Value} {below : List Frame} {meth : Method} {c : Code} {T A B : State} {locs : List Loc} {cells slots : Nat} {Q : Option Value → Heap → List Loc → Prop} {k n pc : Nat} {Ls : Array Slot} {rest : List Value}
theorem Runs.go (h : ∀ t, Steps p.tables e below B t → Steps p.tables e below A t) (q : Runs p e below s Q k n B) : Runs p e below s Q k n A := by
  obtain ⟨s₂, o, h1, h2⟩ := q; exact ⟨s₂, o, h _ h1, h2⟩
theorem Runs.endI (X : Stand p l e R s m args below meth c T locs cells slots) (hx : p.tables.exec = Jvm.exec) {z : Int32} (hret : meth.sig.returnType = some .int) (hl : meth.locks = false) (hd : decode c.code pc = .ok (.ireturn, 1)) (hQ : Q (some (.int z)) T.heap locs) (hk : cells ≤ k) (hn : slots ≤ n) : Runs p e below s Q k n (T.setTop (mkF m pc Ls (.int z :: rest))) := by
  obtain ⟨fs, hr, hrun, hended, hW, hsame⟩ := X.leave (v := some (.int z)) (fun h => by rw [hret] at h; cases h) hl
  exact ⟨_, _, retOut X hx hret rfl (Or.inl ⟨rfl, Or.inl rfl, _, rfl⟩) hd hr, hrun, hended, _, _, rfl, hQ, ⟨_, rfl⟩, hW, hsame.mono hk hn⟩
theorem Runs.endJ (X : Stand p l e R s m args below meth c T locs cells slots) (hx : p.tables.exec = Jvm.exec) {z : Int64} (hret : meth.sig.returnType = some .long) (hl : meth.locks = false) (hd : decode c.code pc = .ok (.lreturn, 1)) (hQ : Q (some (.long z)) T.heap locs) (hk : cells ≤ k) (hn : slots ≤ n) : Runs p e below s Q k n (T.setTop (mkF m pc Ls (.long z :: rest))) := by
  obtain ⟨fs, hr, hrun, hended, hW, hsame⟩ := X.leave (v := some (.long z)) (fun h => by rw [hret] at h; cases h) hl
  exact ⟨_, _, retOut X hx hret rfl (Or.inr (Or.inl ⟨rfl, rfl, _, rfl⟩)) hd hr, hrun, hended, _, _, rfl, hQ, ⟨_, rfl⟩, hW, hsame.mono hk hn⟩
theorem Runs.endN (X : Stand p l e R s m args below meth c T locs cells slots) (hx : p.tables.exec = Jvm.exec) {z : Int32} {t : FieldType} (hret : meth.sig.returnType = some t) (ht : t = .boolean ∨ t = .byte ∨ t = .char ∨ t = .short) (hl : meth.locks = false) (hd : decode c.code pc = .ok (.ireturn, 1)) (hQ : Q (some (.int (nar t z))) T.heap locs) (hk : cells ≤ k) (hn : slots ≤ n) : Runs p e below s Q k n (T.setTop (mkF m pc Ls (.int z :: rest))) := by
  obtain ⟨fs, hr, hrun, hended, hW, hsame⟩ := X.leave (v := some (.int (nar t z))) (fun h => by rw [hret] at h; cases h) hl
  exact ⟨_, _, retN X hx hret ht hd hr, hrun, hended, _, _, rfl, hQ, ⟨_, rfl⟩, hW, hsame.mono hk hn⟩
theorem Runs.endV (X : Stand p l e R s m args below meth c T locs cells slots) (hx : p.tables.exec = Jvm.exec) (hret : meth.sig.returnType = none) (hl : meth.locks = false) (hd : decode c.code pc = .ok (.return_, 1)) (hQ : Q none T.heap locs) (hk : cells ≤ k) (hn : slots ≤ n) : Runs p e below s Q k n (T.setTop (mkF m pc Ls [])) := by
  obtain ⟨fs, hr, hrun, hended, hW, hsame⟩ := X.leave (v := none) (fun _ => rfl) hl
  exact ⟨_, _, X.returnOut hx hret hd hr, hrun, hended, _, _, rfl, hQ, ⟨_, rfl⟩, hW, hsame.mono hk hn⟩
theorem Runs.endR (X : Stand p l e R s m args below meth c T locs cells slots) (hx : p.tables.exec = Jvm.exec) {z : Addr} {t : FieldType} (hret : meth.sig.returnType = some t) (ht : t.isReference = true) (hl : meth.locks = false) (hd : decode c.code pc = .ok (.areturn, 1)) (hQ : Q (some (.ref z)) T.heap locs) (hk : cells ≤ k) (hn : slots ≤ n) : Runs p e below s Q k n (T.setTop (mkF m pc Ls (.ref z :: rest))) := by
  obtain ⟨fs, hr, hrun, hended, hW, hsame⟩ := X.leave (v := some (.ref z)) (fun h => by rw [hret] at h; cases h) hl
  exact ⟨_, _, retOut X hx hret (by cases t <;> first | rfl | cases ht) (Or.inr (Or.inr (Or.inr (Or.inr ⟨rfl, ht, rfl⟩)))) hd hr, hrun, hended, _, _, rfl, hQ, ⟨_, rfl⟩, hW, hsame.mono hk hn⟩
end Ends

def f1_16  : Int32 := (1 : Int32)
def f1_0 (x0 : Int32) (x1 : Int32) : Int32 := (if (x1 - (x1 / (2 : Int32)) * (2 : Int32)) = (0 : Int32) then (f1_16) else (if x0 = ((1 : Int32) + (x1 - (x1 / (10 : Int32)) * (10 : Int32))) then (f1_16) else (0 : Int32)))
def F1 (x0 : Int32) (x1 : Int32) : Int32 := f1_0 x0 x1
def f2_0 (x0 : Int32) (x1 : Int32) : Int32 := (if (x1 &&& (1 : Int32)) = (0 : Int32) then (1 : Int32) else (if x1 < (10 : Int32) then (if x0 = (x1 + (1 : Int32)) then (1 : Int32) else (0 : Int32)) else (if x0 = (x1 - (9 : Int32)) then (1 : Int32) else (0 : Int32))))
def F2 (x0 : Int32) (x1 : Int32) : Int32 := f2_0 x0 x1
def f0_0 (x0 : Int32) (x1 : Int32) : Int32 := (if (F1 (((x1 &&& (2147483647 : Int32)) - ((x1 &&& (2147483647 : Int32)) / (10 : Int32)) * (10 : Int32)) + (1 : Int32)) (((x0 &&& (2147483647 : Int32)) - ((x0 &&& (2147483647 : Int32)) / (20 : Int32)) * (20 : Int32)) + (1 : Int32))) = (F2 (((x1 &&& (2147483647 : Int32)) - ((x1 &&& (2147483647 : Int32)) / (10 : Int32)) * (10 : Int32)) + (1 : Int32)) (((x0 &&& (2147483647 : Int32)) - ((x0 &&& (2147483647 : Int32)) / (20 : Int32)) * (20 : Int32)) + (1 : Int32))) then (1 : Int32) else (0 : Int32))
def F0 (x0 : Int32) (x1 : Int32) : Int32 := f0_0 x0 x1
theorem li32_0 : (0 : Int32).toInt = 0 := by decide
theorem li32_1 : (1 : Int32).toInt = 1 := by decide
theorem li32_2 : (2 : Int32).toInt = 2 := by decide
theorem li32_9 : (9 : Int32).toInt = 9 := by decide
theorem li32_10 : (10 : Int32).toInt = 10 := by decide
theorem li32_20 : (20 : Int32).toInt = 20 := by decide
theorem li32_2147483647 : (2147483647 : Int32).toInt = 2147483647 := by decide
theorem own_rem (x y : Int32) : x - (x / y) * y = x % y := by
  apply Int32.toInt_inj.mp
  have h1 := Int32.le_toInt (x % y)
  have h2 := Int32.toInt_lt (x % y)
  rw [Int32.toInt_sub, Int32.toInt_mul, Int32.toInt_div, Int.bmod_mul_bmod, Int.sub_bmod_bmod, Int.mul_comm (x.toInt.tdiv y.toInt), ← Int.tmod_def, ← Int32.toInt_mod]
  exact Int.bmod_eq_of_le_mul_two (by omega) (by omega)
theorem own_F12 (a v : Int32) (h1 : 1 ≤ v.toInt) (h2 : v.toInt ≤ 20) : F1 a v = F2 a v := by
  have c1 : (v % (2 : Int32)).toInt = v.toInt % 2 := (c_irem v 2 2 (by decide)).1 (by omega)
  have c2 : (v % (10 : Int32)).toInt = v.toInt % 10 := (c_irem v 10 10 (by decide)).1 (by omega)
  have c3 : (v &&& (1 : Int32)).toInt = v.toInt % 2 := by have := c_mask v 1 1 (by decide) (by decide); simpa using this
  have r1 := rng32 ((1 : Int32) + v % 10); have q1 := c_iadd 1 (v % 10)
  have r2 := rng32 (v + 1); have q2 := c_iadd v 1
  have r3 := rng32 (v - 9); have q3 := c_isub v 9
  simp only [F1, F2, f1_0, f1_16, f2_0, own_rem, Int32.lt_iff_toInt_lt, ← Int32.toInt_inj, c1, c2, c3, li32_0, li32_1, li32_2, li32_9, li32_10, li32_20, li32_2147483647] at *
  repeat' split
  all_goals first | rfl | omega
theorem law_true (x0 x1 : Int32) : F0 x0 x1 = 1 := by
  have m0 : (x0 &&& (2147483647 : Int32)).toInt = x0.toInt % 2147483648 := by have := c_mask x0 2147483647 31 (by decide) (by decide); simpa using this
  have c0 : ((x0 &&& (2147483647 : Int32)) % (20 : Int32)).toInt = (x0 &&& (2147483647 : Int32)).toInt % 20 := (c_irem _ 20 20 (by decide)).1 (by omega)
  have q0 := c_iadd ((x0 &&& (2147483647 : Int32)) % (20 : Int32)) 1
  have r0 := rng32 ((x0 &&& (2147483647 : Int32)) % (20 : Int32) + 1)
  rw [li32_1] at q0
  simp only [F0, f0_0, own_rem]
  rw [own_F12 _ _ (by omega) (by omega)]
  simp

theorem pd_0 : parseMethodDescriptor "(II)Z" = some ⟨[.int, .int], some .boolean⟩ := by decide +kernel
theorem d1_0 : decode prog_24_method_8_code 0 = .ok (.iload_n 1, 1) := by decide +kernel
theorem d1_1 : decode prog_24_method_8_code 1 = .ok (.iconst 2, 1) := by decide +kernel
theorem d1_2 : decode prog_24_method_8_code 2 = .ok (.irem, 1) := by decide +kernel
theorem d1_3 : decode prog_24_method_8_code 3 = .ok (.ifCond .eq 13, 3) := by decide +kernel
theorem d1_6 : decode prog_24_method_8_code 6 = .ok (.iload_n 0, 1) := by decide +kernel
theorem d1_7 : decode prog_24_method_8_code 7 = .ok (.iconst 1, 1) := by decide +kernel
theorem d1_8 : decode prog_24_method_8_code 8 = .ok (.iload_n 1, 1) := by decide +kernel
theorem d1_9 : decode prog_24_method_8_code 9 = .ok (.bipush 10, 2) := by decide +kernel
theorem d1_11 : decode prog_24_method_8_code 11 = .ok (.irem, 1) := by decide +kernel
theorem d1_12 : decode prog_24_method_8_code 12 = .ok (.iadd, 1) := by decide +kernel
theorem d1_13 : decode prog_24_method_8_code 13 = .ok (.if_icmp .ne 7, 3) := by decide +kernel
theorem d1_16 : decode prog_24_method_8_code 16 = .ok (.iconst 1, 1) := by decide +kernel
theorem d1_17 : decode prog_24_method_8_code 17 = .ok (.goto 4, 3) := by decide +kernel
theorem d1_20 : decode prog_24_method_8_code 20 = .ok (.iconst 0, 1) := by decide +kernel
theorem d1_21 : decode prog_24_method_8_code 21 = .ok (.ireturn, 1) := by decide +kernel
theorem pn_1 : plainName "com/example/serialis/serialis/cli/World" = true := by first | (simp [plainName, overriddenIn]; done) | decide +kernel
theorem ef_1 (m : MethodId) (x0 : Int32) (x1 : Int32) : entryFrame m #[(.int x0), (.int x1)] 2 = mkF m 0 #[.val (.int x0), .val (.int x1)] [] := by first | (simp [entryFrame, mkF, argsToLocals, Value.category]; done) | rfl
set_option maxRecDepth 65536 in
set_option maxHeartbeats 40000000 in
theorem rm1 (l : Launch) (Z : State) (a0 : Array Value) (hw : ∀ d ∈ tables_1, d.before a0 Z = true) (ws : List Jvm.Cond) (x0 : Int32) (x1 : Int32) (h0 : Heap) :
    MetFree l (⟨"com/example/serialis/serialis/cli/World", "keeps", "(II)Z"⟩ : MethodName) (head1 (Jvm.Cond.code (⟨"com/example/serialis/serialis/cli/World", "keeps", "(II)Z"⟩ : MethodName) prog_24_method_8_code 2 (some .boolean) :: ws) ({ frames := 0, cells := 0, slots := 0, locals := 0 } : Room)) (fun a U => a = #[(.int x0), (.int x1)] ∧ Z.Warmed39 U.vm ∧ U.heap = h0) (fun _ _ _ _ _ => True) (fun _ U o U' => ∃ v L, o = .returned v ∧ QP (.int (F1 x0 x1)) h0 v U'.heap L ∧ FrameEnd U o U' L ({ frames := 0, cells := 0, slots := 0, locals := 0 } : Room).cells ({ frames := 0, cells := 0, slots := 0, locals := 0 } : Room).slots) := by
  refine MetFree.of_bodySF (plainFor_of_name pn_1) hisR ?_
  intro p e s m args below meth c s₁ Bd hml0 hP hK
  obtain ⟨rfl, hZ, hh⟩ := hP
  have hx := Bd.exec
  have hby := Bd.bytes
  have hml : c.maxLocals = 2 := hml0
  have hown : s.vm.findClass "com/example/serialis/serialis/cli/World" = some m.cls := findClass_of_methodNamed Bd.named
  have X0 : Stand p l e ({ frames := 0, cells := 0, slots := 0, locals := 0 } : Room) s m #[(.int x0), (.int x1)] below meth c s₁ [] 0 0 := Stand.of_body Bd
  have e0 : s₁.heap = h0 := by rw [← hh, Bd.state]; rfl
  show Runs p e below s (QP (.int (F1 x0 x1)) h0) ({ frames := 0, cells := 0, slots := 0, locals := 0 } : Room).cells ({ frames := 0, cells := 0, slots := 0, locals := 0 } : Room).slots (s₁.setTop (entryFrame m #[(.int x0), (.int x1)] 2))
  rw [ef_1 m x0 x1]
  obtain ⟨r, hF⟩ : ∃ r, F1 x0 x1 = r := ⟨_, rfl⟩
  rw [hF]
  have k_16 : ∀ (T : State) (X : Stand p l e ({ frames := 0, cells := 0, slots := 0, locals := 0 } : Room) s m #[(.int x0), (.int x1)] below meth c T [] 0 0) (eT : T.heap = h0) (v0 : Int32) (v1 : Int32), f1_16 = r → Runs p e below s (QP (.int r) h0) ({ frames := 0, cells := 0, slots := 0, locals := 0 } : Room).cells ({ frames := 0, cells := 0, slots := 0, locals := 0 } : Room).slots (T.setTop (mkF m 16 #[.val (.int v0), .val (.int v1)] [])) := by
    intro T X eT v0 v1 hv
    unfold f1_16 at hv
    refine Runs.go (fun _ => XS.iconst X.here hx rfl (hb hby d1_16)) ?_
    show Runs p e below s _ _ _ (T.setTop (mkF m 17 #[.val (.int v0), .val (.int v1)] [(.int (1 : Int32))]))
    refine Runs.go (fun _ => XS.goto X.here hx rfl (pc0 := 17) (pc' := 21) rfl (hb hby d1_17) (by decide) (by decide)) ?_
    show Runs p e below s _ _ _ (T.setTop (mkF m 21 #[.val (.int v0), .val (.int v1)] [(.int (1 : Int32))]))
    exact Runs.endN X hx (t := .boolean) Bd.returns (by simp) Bd.notSynchronized (hb hby d1_21) ⟨congrArg (fun z => some (Value.int z)) hv, rfl, eT⟩ (by decide) (by decide)
  have k_0 : ∀ (T : State) (X : Stand p l e ({ frames := 0, cells := 0, slots := 0, locals := 0 } : Room) s m #[(.int x0), (.int x1)] below meth c T [] 0 0) (eT : T.heap = h0), f1_0 x0 x1 = r → Runs p e below s (QP (.int r) h0) ({ frames := 0, cells := 0, slots := 0, locals := 0 } : Room).cells ({ frames := 0, cells := 0, slots := 0, locals := 0 } : Room).slots (T.setTop (mkF m 0 #[.val (.int x0), .val (.int x1)] [])) := by
    intro T X eT  hv
    unfold f1_0 at hv
    refine Runs.go (fun _ => XS.iloadN X.here hx rfl (hb hby d1_0) rfl) ?_
    show Runs p e below s _ _ _ (T.setTop (mkF m 1 #[.val (.int x0), .val (.int x1)] [(.int x1)]))
    refine Runs.go (fun _ => XS.iconst X.here hx rfl (hb hby d1_1)) ?_
    show Runs p e below s _ _ _ (T.setTop (mkF m 2 #[.val (.int x0), .val (.int x1)] [(.int (2 : Int32)), (.int x1)]))
    refine Runs.go (fun _ => XS.irem X.here hx rfl (hb hby d1_2) rfl (by decide)) ?_
    show Runs p e below s _ _ _ (T.setTop (mkF m 3 #[.val (.int x0), .val (.int x1)] [(.int (x1 - (x1 / (2 : Int32)) * (2 : Int32)))]))
    by_cases hc3 : (x1 - (x1 / (2 : Int32)) * (2 : Int32)) = (0 : Int32)
    · have hv := (if_pos hc3).symm.trans hv
      refine Runs.go (fun _ => XS.ifYes X.here hx rfl (pc0 := 3) (pc' := 16) rfl (hb hby d1_3) rfl ((if0 _ _).trans (teq hc3).1) (by decide) (by decide)) ?_
      show Runs p e below s _ _ _ (T.setTop (mkF m 16 #[.val (.int x0), .val (.int x1)] []))
      exact k_16 _ X eT x0 x1 hv
    · have hv := (if_neg hc3).symm.trans hv
      refine Runs.go (fun _ => XS.ifNo X.here hx rfl (hb hby d1_3) rfl ((if0 _ _).trans (feq hc3).1)) ?_
      show Runs p e below s _ _ _ (T.setTop (mkF m 6 #[.val (.int x0), .val (.int x1)] []))
      refine Runs.go (fun _ => XS.iloadN X.here hx rfl (hb hby d1_6) rfl) ?_
      show Runs p e below s _ _ _ (T.setTop (mkF m 7 #[.val (.int x0), .val (.int x1)] [(.int x0)]))
      refine Runs.go (fun _ => XS.iconst X.here hx rfl (hb hby d1_7)) ?_
      show Runs p e below s _ _ _ (T.setTop (mkF m 8 #[.val (.int x0), .val (.int x1)] [(.int (1 : Int32)), (.int x0)]))
      refine Runs.go (fun _ => XS.iloadN X.here hx rfl (hb hby d1_8) rfl) ?_
      show Runs p e below s _ _ _ (T.setTop (mkF m 9 #[.val (.int x0), .val (.int x1)] [(.int x1), (.int (1 : Int32)), (.int x0)]))
      refine Runs.go (fun _ => XS.bipush X.here hx rfl (hb hby d1_9)) ?_
      show Runs p e below s _ _ _ (T.setTop (mkF m 11 #[.val (.int x0), .val (.int x1)] [(.int (10 : Int32)), (.int x1), (.int (1 : Int32)), (.int x0)]))
      refine Runs.go (fun _ => XS.irem X.here hx rfl (hb hby d1_11) rfl (by decide)) ?_
      show Runs p e below s _ _ _ (T.setTop (mkF m 12 #[.val (.int x0), .val (.int x1)] [(.int (x1 - (x1 / (10 : Int32)) * (10 : Int32))), (.int (1 : Int32)), (.int x0)]))
      refine Runs.go (fun _ => XS.iadd X.here hx rfl (hb hby d1_12) rfl) ?_
      show Runs p e below s _ _ _ (T.setTop (mkF m 13 #[.val (.int x0), .val (.int x1)] [(.int ((1 : Int32) + (x1 - (x1 / (10 : Int32)) * (10 : Int32)))), (.int x0)]))
      by_cases hc13 : x0 = ((1 : Int32) + (x1 - (x1 / (10 : Int32)) * (10 : Int32)))
      · have hv := (if_pos hc13).symm.trans hv
        refine Runs.go (fun _ => XS.icmpNo X.here hx rfl (hb hby d1_13) rfl (teq hc13).2) ?_
        show Runs p e below s _ _ _ (T.setTop (mkF m 16 #[.val (.int x0), .val (.int x1)] []))
        exact k_16 _ X eT x0 x1 hv
      · have hv := (if_neg hc13).symm.trans hv
        refine Runs.go (fun _ => XS.icmpYes X.here hx rfl (pc0 := 13) (pc' := 20) rfl (hb hby d1_13) rfl (feq hc13).2 (by decide) (by decide)) ?_
        show Runs p e below s _ _ _ (T.setTop (mkF m 20 #[.val (.int x0), .val (.int x1)] []))
        refine Runs.go (fun _ => XS.iconst X.here hx rfl (hb hby d1_20)) ?_
        show Runs p e below s _ _ _ (T.setTop (mkF m 21 #[.val (.int x0), .val (.int x1)] [(.int (0 : Int32))]))
        exact Runs.endN X hx (t := .boolean) Bd.returns (by simp) Bd.notSynchronized (hb hby d1_21) ⟨congrArg (fun z => some (Value.int z)) hv, rfl, eT⟩ (by decide) (by decide)
  exact k_0 _ X0 e0 hF
theorem d2_0 : decode method_2_code 0 = .ok (.iload_n 1, 1) := by decide +kernel
theorem d2_1 : decode method_2_code 1 = .ok (.iconst 1, 1) := by decide +kernel
theorem d2_2 : decode method_2_code 2 = .ok (.iand, 1) := by decide +kernel
theorem d2_3 : decode method_2_code 3 = .ok (.ifCond .ne 5, 3) := by decide +kernel
theorem d2_6 : decode method_2_code 6 = .ok (.iconst 1, 1) := by decide +kernel
theorem d2_7 : decode method_2_code 7 = .ok (.ireturn, 1) := by decide +kernel
theorem d2_8 : decode method_2_code 8 = .ok (.iload_n 1, 1) := by decide +kernel
theorem d2_9 : decode method_2_code 9 = .ok (.bipush 10, 2) := by decide +kernel
theorem d2_11 : decode method_2_code 11 = .ok (.if_icmp .ge 16, 3) := by decide +kernel
theorem d2_14 : decode method_2_code 14 = .ok (.iload_n 0, 1) := by decide +kernel
theorem d2_15 : decode method_2_code 15 = .ok (.iload_n 1, 1) := by decide +kernel
theorem d2_16 : decode method_2_code 16 = .ok (.iconst 1, 1) := by decide +kernel
theorem d2_17 : decode method_2_code 17 = .ok (.iadd, 1) := by decide +kernel
theorem d2_18 : decode method_2_code 18 = .ok (.if_icmp .ne 7, 3) := by decide +kernel
theorem d2_21 : decode method_2_code 21 = .ok (.iconst 1, 1) := by decide +kernel
theorem d2_22 : decode method_2_code 22 = .ok (.goto 4, 3) := by decide +kernel
theorem d2_25 : decode method_2_code 25 = .ok (.iconst 0, 1) := by decide +kernel
theorem d2_26 : decode method_2_code 26 = .ok (.ireturn, 1) := by decide +kernel
theorem d2_27 : decode method_2_code 27 = .ok (.iload_n 0, 1) := by decide +kernel
theorem d2_28 : decode method_2_code 28 = .ok (.iload_n 1, 1) := by decide +kernel
theorem d2_29 : decode method_2_code 29 = .ok (.bipush 9, 2) := by decide +kernel
theorem d2_31 : decode method_2_code 31 = .ok (.isub, 1) := by decide +kernel
theorem d2_32 : decode method_2_code 32 = .ok (.if_icmp .ne 7, 3) := by decide +kernel
theorem d2_35 : decode method_2_code 35 = .ok (.iconst 1, 1) := by decide +kernel
theorem d2_36 : decode method_2_code 36 = .ok (.goto 4, 3) := by decide +kernel
theorem d2_39 : decode method_2_code 39 = .ok (.iconst 0, 1) := by decide +kernel
theorem d2_40 : decode method_2_code 40 = .ok (.ireturn, 1) := by decide +kernel
theorem pn_2 : plainName "com/example/serialis/serialis/cli/WorldKeepsPinLaw" = true := by first | (simp [plainName, overriddenIn]; done) | decide +kernel
theorem ef_2 (m : MethodId) (x0 : Int32) (x1 : Int32) : entryFrame m #[(.int x0), (.int x1)] 2 = mkF m 0 #[.val (.int x0), .val (.int x1)] [] := by first | (simp [entryFrame, mkF, argsToLocals, Value.category]; done) | rfl
set_option maxRecDepth 65536 in
set_option maxHeartbeats 40000000 in
theorem rm2 (l : Launch) (Z : State) (a0 : Array Value) (hw : ∀ d ∈ tables_1, d.before a0 Z = true) (ws : List Jvm.Cond) (x0 : Int32) (x1 : Int32) (h0 : Heap) :
    MetFree l (⟨"com/example/serialis/serialis/cli/WorldKeepsPinLaw", "expected", "(II)Z"⟩ : MethodName) (head1 (Jvm.Cond.code (⟨"com/example/serialis/serialis/cli/WorldKeepsPinLaw", "expected", "(II)Z"⟩ : MethodName) method_2_code 2 (some .boolean) :: ws) ({ frames := 0, cells := 0, slots := 0, locals := 0 } : Room)) (fun a U => a = #[(.int x0), (.int x1)] ∧ Z.Warmed39 U.vm ∧ U.heap = h0) (fun _ _ _ _ _ => True) (fun _ U o U' => ∃ v L, o = .returned v ∧ QP (.int (F2 x0 x1)) h0 v U'.heap L ∧ FrameEnd U o U' L ({ frames := 0, cells := 0, slots := 0, locals := 0 } : Room).cells ({ frames := 0, cells := 0, slots := 0, locals := 0 } : Room).slots) := by
  refine MetFree.of_bodySF (plainFor_of_name pn_2) hisR ?_
  intro p e s m args below meth c s₁ Bd hml0 hP hK
  obtain ⟨rfl, hZ, hh⟩ := hP
  have hx := Bd.exec
  have hby := Bd.bytes
  have hml : c.maxLocals = 2 := hml0
  have hown : s.vm.findClass "com/example/serialis/serialis/cli/WorldKeepsPinLaw" = some m.cls := findClass_of_methodNamed Bd.named
  have X0 : Stand p l e ({ frames := 0, cells := 0, slots := 0, locals := 0 } : Room) s m #[(.int x0), (.int x1)] below meth c s₁ [] 0 0 := Stand.of_body Bd
  have e0 : s₁.heap = h0 := by rw [← hh, Bd.state]; rfl
  show Runs p e below s (QP (.int (F2 x0 x1)) h0) ({ frames := 0, cells := 0, slots := 0, locals := 0 } : Room).cells ({ frames := 0, cells := 0, slots := 0, locals := 0 } : Room).slots (s₁.setTop (entryFrame m #[(.int x0), (.int x1)] 2))
  rw [ef_2 m x0 x1]
  obtain ⟨r, hF⟩ : ∃ r, F2 x0 x1 = r := ⟨_, rfl⟩
  rw [hF]
  have k_0 : ∀ (T : State) (X : Stand p l e ({ frames := 0, cells := 0, slots := 0, locals := 0 } : Room) s m #[(.int x0), (.int x1)] below meth c T [] 0 0) (eT : T.heap = h0), f2_0 x0 x1 = r → Runs p e below s (QP (.int r) h0) ({ frames := 0, cells := 0, slots := 0, locals := 0 } : Room).cells ({ frames := 0, cells := 0, slots := 0, locals := 0 } : Room).slots (T.setTop (mkF m 0 #[.val (.int x0), .val (.int x1)] [])) := by
    intro T X eT  hv
    unfold f2_0 at hv
    refine Runs.go (fun _ => XS.iloadN X.here hx rfl (hb hby d2_0) rfl) ?_
    show Runs p e below s _ _ _ (T.setTop (mkF m 1 #[.val (.int x0), .val (.int x1)] [(.int x1)]))
    refine Runs.go (fun _ => XS.iconst X.here hx rfl (hb hby d2_1)) ?_
    show Runs p e below s _ _ _ (T.setTop (mkF m 2 #[.val (.int x0), .val (.int x1)] [(.int (1 : Int32)), (.int x1)]))
    refine Runs.go (fun _ => XS.iand X.here hx rfl (hb hby d2_2) rfl) ?_
    show Runs p e below s _ _ _ (T.setTop (mkF m 3 #[.val (.int x0), .val (.int x1)] [(.int (x1 &&& (1 : Int32)))]))
    by_cases hc3 : (x1 &&& (1 : Int32)) = (0 : Int32)
    · have hv := (if_pos hc3).symm.trans hv
      refine Runs.go (fun _ => XS.ifNo X.here hx rfl (hb hby d2_3) rfl ((if0 _ _).trans (teq hc3).2)) ?_
      show Runs p e below s _ _ _ (T.setTop (mkF m 6 #[.val (.int x0), .val (.int x1)] []))
      refine Runs.go (fun _ => XS.iconst X.here hx rfl (hb hby d2_6)) ?_
      show Runs p e below s _ _ _ (T.setTop (mkF m 7 #[.val (.int x0), .val (.int x1)] [(.int (1 : Int32))]))
      exact Runs.endN X hx (t := .boolean) Bd.returns (by simp) Bd.notSynchronized (hb hby d2_7) ⟨congrArg (fun z => some (Value.int z)) hv, rfl, eT⟩ (by decide) (by decide)
    · have hv := (if_neg hc3).symm.trans hv
      refine Runs.go (fun _ => XS.ifYes X.here hx rfl (pc0 := 3) (pc' := 8) rfl (hb hby d2_3) rfl ((if0 _ _).trans (feq hc3).2) (by decide) (by decide)) ?_
      show Runs p e below s _ _ _ (T.setTop (mkF m 8 #[.val (.int x0), .val (.int x1)] []))
      refine Runs.go (fun _ => XS.iloadN X.here hx rfl (hb hby d2_8) rfl) ?_
      show Runs p e below s _ _ _ (T.setTop (mkF m 9 #[.val (.int x0), .val (.int x1)] [(.int x1)]))
      refine Runs.go (fun _ => XS.bipush X.here hx rfl (hb hby d2_9)) ?_
      show Runs p e below s _ _ _ (T.setTop (mkF m 11 #[.val (.int x0), .val (.int x1)] [(.int (10 : Int32)), (.int x1)]))
      by_cases hc11 : x1 < (10 : Int32)
      · have hv := (if_pos hc11).symm.trans hv
        refine Runs.go (fun _ => XS.icmpNo X.here hx rfl (hb hby d2_11) rfl (tlt hc11).2.1) ?_
        show Runs p e below s _ _ _ (T.setTop (mkF m 14 #[.val (.int x0), .val (.int x1)] []))
        refine Runs.go (fun _ => XS.iloadN X.here hx rfl (hb hby d2_14) rfl) ?_
        show Runs p e below s _ _ _ (T.setTop (mkF m 15 #[.val (.int x0), .val (.int x1)] [(.int x0)]))
        refine Runs.go (fun _ => XS.iloadN X.here hx rfl (hb hby d2_15) rfl) ?_
        show Runs p e below s _ _ _ (T.setTop (mkF m 16 #[.val (.int x0), .val (.int x1)] [(.int x1), (.int x0)]))
        refine Runs.go (fun _ => XS.iconst X.here hx rfl (hb hby d2_16)) ?_
        show Runs p e below s _ _ _ (T.setTop (mkF m 17 #[.val (.int x0), .val (.int x1)] [(.int (1 : Int32)), (.int x1), (.int x0)]))
        refine Runs.go (fun _ => XS.iadd X.here hx rfl (hb hby d2_17) rfl) ?_
        show Runs p e below s _ _ _ (T.setTop (mkF m 18 #[.val (.int x0), .val (.int x1)] [(.int (x1 + (1 : Int32))), (.int x0)]))
        by_cases hc18 : x0 = (x1 + (1 : Int32))
        · have hv := (if_pos hc18).symm.trans hv
          refine Runs.go (fun _ => XS.icmpNo X.here hx rfl (hb hby d2_18) rfl (teq hc18).2) ?_
          show Runs p e below s _ _ _ (T.setTop (mkF m 21 #[.val (.int x0), .val (.int x1)] []))
          refine Runs.go (fun _ => XS.iconst X.here hx rfl (hb hby d2_21)) ?_
          show Runs p e below s _ _ _ (T.setTop (mkF m 22 #[.val (.int x0), .val (.int x1)] [(.int (1 : Int32))]))
          refine Runs.go (fun _ => XS.goto X.here hx rfl (pc0 := 22) (pc' := 26) rfl (hb hby d2_22) (by decide) (by decide)) ?_
          show Runs p e below s _ _ _ (T.setTop (mkF m 26 #[.val (.int x0), .val (.int x1)] [(.int (1 : Int32))]))
          exact Runs.endN X hx (t := .boolean) Bd.returns (by simp) Bd.notSynchronized (hb hby d2_26) ⟨congrArg (fun z => some (Value.int z)) hv, rfl, eT⟩ (by decide) (by decide)
        · have hv := (if_neg hc18).symm.trans hv
          refine Runs.go (fun _ => XS.icmpYes X.here hx rfl (pc0 := 18) (pc' := 25) rfl (hb hby d2_18) rfl (feq hc18).2 (by decide) (by decide)) ?_
          show Runs p e below s _ _ _ (T.setTop (mkF m 25 #[.val (.int x0), .val (.int x1)] []))
          refine Runs.go (fun _ => XS.iconst X.here hx rfl (hb hby d2_25)) ?_
          show Runs p e below s _ _ _ (T.setTop (mkF m 26 #[.val (.int x0), .val (.int x1)] [(.int (0 : Int32))]))
          exact Runs.endN X hx (t := .boolean) Bd.returns (by simp) Bd.notSynchronized (hb hby d2_26) ⟨congrArg (fun z => some (Value.int z)) hv, rfl, eT⟩ (by decide) (by decide)
      · have hv := (if_neg hc11).symm.trans hv
        refine Runs.go (fun _ => XS.icmpYes X.here hx rfl (pc0 := 11) (pc' := 27) rfl (hb hby d2_11) rfl (flt hc11).2.1 (by decide) (by decide)) ?_
        show Runs p e below s _ _ _ (T.setTop (mkF m 27 #[.val (.int x0), .val (.int x1)] []))
        refine Runs.go (fun _ => XS.iloadN X.here hx rfl (hb hby d2_27) rfl) ?_
        show Runs p e below s _ _ _ (T.setTop (mkF m 28 #[.val (.int x0), .val (.int x1)] [(.int x0)]))
        refine Runs.go (fun _ => XS.iloadN X.here hx rfl (hb hby d2_28) rfl) ?_
        show Runs p e below s _ _ _ (T.setTop (mkF m 29 #[.val (.int x0), .val (.int x1)] [(.int x1), (.int x0)]))
        refine Runs.go (fun _ => XS.bipush X.here hx rfl (hb hby d2_29)) ?_
        show Runs p e below s _ _ _ (T.setTop (mkF m 31 #[.val (.int x0), .val (.int x1)] [(.int (9 : Int32)), (.int x1), (.int x0)]))
        refine Runs.go (fun _ => XS.isub X.here hx rfl (hb hby d2_31) rfl) ?_
        show Runs p e below s _ _ _ (T.setTop (mkF m 32 #[.val (.int x0), .val (.int x1)] [(.int (x1 - (9 : Int32))), (.int x0)]))
        by_cases hc32 : x0 = (x1 - (9 : Int32))
        · have hv := (if_pos hc32).symm.trans hv
          refine Runs.go (fun _ => XS.icmpNo X.here hx rfl (hb hby d2_32) rfl (teq hc32).2) ?_
          show Runs p e below s _ _ _ (T.setTop (mkF m 35 #[.val (.int x0), .val (.int x1)] []))
          refine Runs.go (fun _ => XS.iconst X.here hx rfl (hb hby d2_35)) ?_
          show Runs p e below s _ _ _ (T.setTop (mkF m 36 #[.val (.int x0), .val (.int x1)] [(.int (1 : Int32))]))
          refine Runs.go (fun _ => XS.goto X.here hx rfl (pc0 := 36) (pc' := 40) rfl (hb hby d2_36) (by decide) (by decide)) ?_
          show Runs p e below s _ _ _ (T.setTop (mkF m 40 #[.val (.int x0), .val (.int x1)] [(.int (1 : Int32))]))
          exact Runs.endN X hx (t := .boolean) Bd.returns (by simp) Bd.notSynchronized (hb hby d2_40) ⟨congrArg (fun z => some (Value.int z)) hv, rfl, eT⟩ (by decide) (by decide)
        · have hv := (if_neg hc32).symm.trans hv
          refine Runs.go (fun _ => XS.icmpYes X.here hx rfl (pc0 := 32) (pc' := 39) rfl (hb hby d2_32) rfl (feq hc32).2 (by decide) (by decide)) ?_
          show Runs p e below s _ _ _ (T.setTop (mkF m 39 #[.val (.int x0), .val (.int x1)] []))
          refine Runs.go (fun _ => XS.iconst X.here hx rfl (hb hby d2_39)) ?_
          show Runs p e below s _ _ _ (T.setTop (mkF m 40 #[.val (.int x0), .val (.int x1)] [(.int (0 : Int32))]))
          exact Runs.endN X hx (t := .boolean) Bd.returns (by simp) Bd.notSynchronized (hb hby d2_40) ⟨congrArg (fun z => some (Value.int z)) hv, rfl, eT⟩ (by decide) (by decide)
  exact k_0 _ X0 e0 hF
theorem pn_0 : plainName "com/example/serialis/serialis/cli/WorldKeepsPinLaw" = true := by first | (simp [plainName, overriddenIn]; done) | decide +kernel
theorem ef_0 (m : MethodId) (x0 : Int32) (x1 : Int32) : entryFrame m #[(.int x0), (.int x1)] maxLocals = mkF m 0 #[.val (.int x0), .val (.int x1), .unset, .unset] [] := by first | (simp [entryFrame, mkF, argsToLocals, Value.category, maxLocals]; done) | rfl
set_option maxRecDepth 65536 in
set_option maxHeartbeats 40000000 in
theorem rm0 (l : Launch) (Z : State) (a0 : Array Value) (hw : ∀ d ∈ tables_1, d.before a0 Z = true) (ws : List Jvm.Cond) (x0 : Int32) (x1 : Int32) (h0 : Heap) :
    MetFree l x (head1 (Jvm.Cond.code x code maxLocals ret :: ws) room_1) (fun a U => a = #[(.int x0), (.int x1)] ∧ Z.Warmed39 U.vm ∧ U.heap = h0) (fun _ _ _ _ _ => True) (fun _ U o U' => ∃ v L, o = .returned v ∧ QP (.int (F0 x0 x1)) h0 v U'.heap L ∧ FrameEnd U o U' L 0 0) := by
  refine MetFree.of_bodySF (plainFor_of_name pn_0) hisR ?_
  intro p e s m args below meth c s₁ Bd hml0 hP hK
  obtain ⟨rfl, hZ, hh⟩ := hP
  have hx := Bd.exec
  have hby := Bd.bytes
  have hml : c.maxLocals = 4 := hml0
  have hown : s.vm.findClass "com/example/serialis/serialis/cli/WorldKeepsPinLaw" = some m.cls := findClass_of_methodNamed Bd.named
  have X0 : Stand p l e room_1 s m #[(.int x0), (.int x1)] below meth c s₁ [] 0 0 := Stand.of_body Bd
  have e0 : s₁.heap = h0 := by rw [← hh, Bd.state]; rfl
  show Runs p e below s (QP (.int (F0 x0 x1)) h0) 0 0 (s₁.setTop (entryFrame m #[(.int x0), (.int x1)] maxLocals))
  rw [ef_0 m x0 x1]
  obtain ⟨r, hF⟩ : ∃ r, F0 x0 x1 = r := ⟨_, rfl⟩
  rw [hF]
  have k_0 : ∀ (T : State) (X : Stand p l e room_1 s m #[(.int x0), (.int x1)] below meth c T [] 0 0) (eT : T.heap = h0), f0_0 x0 x1 = r → Runs p e below s (QP (.int r) h0) 0 0 (T.setTop (mkF m 0 #[.val (.int x0), .val (.int x1), .unset, .unset] [])) := by
    intro T X eT  hv
    unfold f0_0 at hv
    refine Runs.go (fun _ => XS.iloadN X.here hx rfl (hb hby at_0) rfl) ?_
    show Runs p e below s _ _ _ (T.setTop (mkF m 1 #[.val (.int x0), .val (.int x1), .unset, .unset] [(.int x0)]))
    refine Runs.go (X.ldcInt hx hown (mvT hZ (hw _ (List.mem_of_getElem? (i := 0) rfl))) (g := (mkF m 1 #[.val (.int x0), .val (.int x1), .unset, .unset] [(.int x0)])) rfl (hb hby at_1)) ?_
    show Runs p e below s _ _ _ (T.setTop (mkF m 3 #[.val (.int x0), .val (.int x1), .unset, .unset] [(.int (2147483647 : Int32)), (.int x0)]))
    refine Runs.go (fun _ => XS.iand X.here hx rfl (hb hby at_3) rfl) ?_
    show Runs p e below s _ _ _ (T.setTop (mkF m 4 #[.val (.int x0), .val (.int x1), .unset, .unset] [(.int (x0 &&& (2147483647 : Int32)))]))
    refine Runs.go (fun _ => XS.bipush X.here hx rfl (hb hby at_4)) ?_
    show Runs p e below s _ _ _ (T.setTop (mkF m 6 #[.val (.int x0), .val (.int x1), .unset, .unset] [(.int (20 : Int32)), (.int (x0 &&& (2147483647 : Int32)))]))
    refine Runs.go (fun _ => XS.irem X.here hx rfl (hb hby at_6) rfl (by decide)) ?_
    show Runs p e below s _ _ _ (T.setTop (mkF m 7 #[.val (.int x0), .val (.int x1), .unset, .unset] [(.int ((x0 &&& (2147483647 : Int32)) - ((x0 &&& (2147483647 : Int32)) / (20 : Int32)) * (20 : Int32)))]))
    refine Runs.go (fun _ => XS.iconst X.here hx rfl (hb hby at_7)) ?_
    show Runs p e below s _ _ _ (T.setTop (mkF m 8 #[.val (.int x0), .val (.int x1), .unset, .unset] [(.int (1 : Int32)), (.int ((x0 &&& (2147483647 : Int32)) - ((x0 &&& (2147483647 : Int32)) / (20 : Int32)) * (20 : Int32)))]))
    refine Runs.go (fun _ => XS.iadd X.here hx rfl (hb hby at_8) rfl) ?_
    show Runs p e below s _ _ _ (T.setTop (mkF m 9 #[.val (.int x0), .val (.int x1), .unset, .unset] [(.int (((x0 &&& (2147483647 : Int32)) - ((x0 &&& (2147483647 : Int32)) / (20 : Int32)) * (20 : Int32)) + (1 : Int32)))]))
    refine Runs.go (fun _ => XS.istoreN X.here hx rfl (hb hby at_9) rfl (l' := #[.val (.int x0), .val (.int x1), .val (.int (((x0 &&& (2147483647 : Int32)) - ((x0 &&& (2147483647 : Int32)) / (20 : Int32)) * (20 : Int32)) + (1 : Int32))), .unset]) rfl) ?_
    show Runs p e below s _ _ _ (T.setTop (mkF m 10 #[.val (.int x0), .val (.int x1), .val (.int (((x0 &&& (2147483647 : Int32)) - ((x0 &&& (2147483647 : Int32)) / (20 : Int32)) * (20 : Int32)) + (1 : Int32))), .unset] []))
    refine Runs.go (fun _ => XS.iloadN X.here hx rfl (hb hby at_10) rfl) ?_
    show Runs p e below s _ _ _ (T.setTop (mkF m 11 #[.val (.int x0), .val (.int x1), .val (.int (((x0 &&& (2147483647 : Int32)) - ((x0 &&& (2147483647 : Int32)) / (20 : Int32)) * (20 : Int32)) + (1 : Int32))), .unset] [(.int x1)]))
    refine Runs.go (X.ldcInt hx hown (mvT hZ (hw _ (List.mem_of_getElem? (i := 0) rfl))) (g := (mkF m 11 #[.val (.int x0), .val (.int x1), .val (.int (((x0 &&& (2147483647 : Int32)) - ((x0 &&& (2147483647 : Int32)) / (20 : Int32)) * (20 : Int32)) + (1 : Int32))), .unset] [(.int x1)])) rfl (hb hby at_11)) ?_
    show Runs p e below s _ _ _ (T.setTop (mkF m 13 #[.val (.int x0), .val (.int x1), .val (.int (((x0 &&& (2147483647 : Int32)) - ((x0 &&& (2147483647 : Int32)) / (20 : Int32)) * (20 : Int32)) + (1 : Int32))), .unset] [(.int (2147483647 : Int32)), (.int x1)]))
    refine Runs.go (fun _ => XS.iand X.here hx rfl (hb hby at_13) rfl) ?_
    show Runs p e below s _ _ _ (T.setTop (mkF m 14 #[.val (.int x0), .val (.int x1), .val (.int (((x0 &&& (2147483647 : Int32)) - ((x0 &&& (2147483647 : Int32)) / (20 : Int32)) * (20 : Int32)) + (1 : Int32))), .unset] [(.int (x1 &&& (2147483647 : Int32)))]))
    refine Runs.go (fun _ => XS.bipush X.here hx rfl (hb hby at_14)) ?_
    show Runs p e below s _ _ _ (T.setTop (mkF m 16 #[.val (.int x0), .val (.int x1), .val (.int (((x0 &&& (2147483647 : Int32)) - ((x0 &&& (2147483647 : Int32)) / (20 : Int32)) * (20 : Int32)) + (1 : Int32))), .unset] [(.int (10 : Int32)), (.int (x1 &&& (2147483647 : Int32)))]))
    refine Runs.go (fun _ => XS.irem X.here hx rfl (hb hby at_16) rfl (by decide)) ?_
    show Runs p e below s _ _ _ (T.setTop (mkF m 17 #[.val (.int x0), .val (.int x1), .val (.int (((x0 &&& (2147483647 : Int32)) - ((x0 &&& (2147483647 : Int32)) / (20 : Int32)) * (20 : Int32)) + (1 : Int32))), .unset] [(.int ((x1 &&& (2147483647 : Int32)) - ((x1 &&& (2147483647 : Int32)) / (10 : Int32)) * (10 : Int32)))]))
    refine Runs.go (fun _ => XS.iconst X.here hx rfl (hb hby at_17)) ?_
    show Runs p e below s _ _ _ (T.setTop (mkF m 18 #[.val (.int x0), .val (.int x1), .val (.int (((x0 &&& (2147483647 : Int32)) - ((x0 &&& (2147483647 : Int32)) / (20 : Int32)) * (20 : Int32)) + (1 : Int32))), .unset] [(.int (1 : Int32)), (.int ((x1 &&& (2147483647 : Int32)) - ((x1 &&& (2147483647 : Int32)) / (10 : Int32)) * (10 : Int32)))]))
    refine Runs.go (fun _ => XS.iadd X.here hx rfl (hb hby at_18) rfl) ?_
    show Runs p e below s _ _ _ (T.setTop (mkF m 19 #[.val (.int x0), .val (.int x1), .val (.int (((x0 &&& (2147483647 : Int32)) - ((x0 &&& (2147483647 : Int32)) / (20 : Int32)) * (20 : Int32)) + (1 : Int32))), .unset] [(.int (((x1 &&& (2147483647 : Int32)) - ((x1 &&& (2147483647 : Int32)) / (10 : Int32)) * (10 : Int32)) + (1 : Int32)))]))
    refine Runs.go (fun _ => XS.istoreN X.here hx rfl (hb hby at_19) rfl (l' := #[.val (.int x0), .val (.int x1), .val (.int (((x0 &&& (2147483647 : Int32)) - ((x0 &&& (2147483647 : Int32)) / (20 : Int32)) * (20 : Int32)) + (1 : Int32))), .val (.int (((x1 &&& (2147483647 : Int32)) - ((x1 &&& (2147483647 : Int32)) / (10 : Int32)) * (10 : Int32)) + (1 : Int32)))]) rfl) ?_
    show Runs p e below s _ _ _ (T.setTop (mkF m 20 #[.val (.int x0), .val (.int x1), .val (.int (((x0 &&& (2147483647 : Int32)) - ((x0 &&& (2147483647 : Int32)) / (20 : Int32)) * (20 : Int32)) + (1 : Int32))), .val (.int (((x1 &&& (2147483647 : Int32)) - ((x1 &&& (2147483647 : Int32)) / (10 : Int32)) * (10 : Int32)) + (1 : Int32)))] []))
    refine Runs.go (fun _ => XS.iloadN X.here hx rfl (hb hby at_20) rfl) ?_
    show Runs p e below s _ _ _ (T.setTop (mkF m 21 #[.val (.int x0), .val (.int x1), .val (.int (((x0 &&& (2147483647 : Int32)) - ((x0 &&& (2147483647 : Int32)) / (20 : Int32)) * (20 : Int32)) + (1 : Int32))), .val (.int (((x1 &&& (2147483647 : Int32)) - ((x1 &&& (2147483647 : Int32)) / (10 : Int32)) * (10 : Int32)) + (1 : Int32)))] [(.int (((x1 &&& (2147483647 : Int32)) - ((x1 &&& (2147483647 : Int32)) / (10 : Int32)) * (10 : Int32)) + (1 : Int32)))]))
    refine Runs.go (fun _ => XS.iloadN X.here hx rfl (hb hby at_21) rfl) ?_
    show Runs p e below s _ _ _ (T.setTop (mkF m 22 #[.val (.int x0), .val (.int x1), .val (.int (((x0 &&& (2147483647 : Int32)) - ((x0 &&& (2147483647 : Int32)) / (20 : Int32)) * (20 : Int32)) + (1 : Int32))), .val (.int (((x1 &&& (2147483647 : Int32)) - ((x1 &&& (2147483647 : Int32)) / (10 : Int32)) * (10 : Int32)) + (1 : Int32)))] [(.int (((x0 &&& (2147483647 : Int32)) - ((x0 &&& (2147483647 : Int32)) / (20 : Int32)) * (20 : Int32)) + (1 : Int32))), (.int (((x1 &&& (2147483647 : Int32)) - ((x1 &&& (2147483647 : Int32)) / (10 : Int32)) * (10 : Int32)) + (1 : Int32)))]))
    obtain ⟨_, _, ⟨Tc22_1, Lc22_1, kc22_1, nc22_1⟩, -, Xc22_1, ⟨Lcc22_1, ⟨rfl, rfl, ec22_1⟩, lc22_1, yc22_1, zc22_1⟩, stc22_1⟩ := Jvm.LawKit.callS X hx (y := (⟨"com/example/serialis/serialis/cli/World", "keeps", "(II)Z"⟩ : MethodName)) hown (mvT hZ (hw _ (List.mem_of_getElem? (i := 1) rfl))) (mvT hZ (hw _ (List.mem_of_getElem? (i := 2) rfl))) (mvT hZ (hw _ (List.mem_of_getElem? (i := 3) rfl))) (mvT hZ (hw _ (List.mem_of_getElem? (i := 4) rfl))) (by decide) (backOf (W := 0) (rm1 l Z a0 hw [] (((x1 &&& (2147483647 : Int32)) - ((x1 &&& (2147483647 : Int32)) / (10 : Int32)) * (10 : Int32)) + (1 : Int32)) (((x0 &&& (2147483647 : Int32)) - ((x0 &&& (2147483647 : Int32)) / (20 : Int32)) * (20 : Int32)) + (1 : Int32)) h0) hZ (hw _ (List.mem_of_getElem? (i := 4) rfl)) (hw _ (List.mem_of_getElem? (i := 3) rfl)) (by decide) (by decide)) (g := (mkF m 22 #[.val (.int x0), .val (.int x1), .val (.int (((x0 &&& (2147483647 : Int32)) - ((x0 &&& (2147483647 : Int32)) / (20 : Int32)) * (20 : Int32)) + (1 : Int32))), .val (.int (((x1 &&& (2147483647 : Int32)) - ((x1 &&& (2147483647 : Int32)) / (10 : Int32)) * (10 : Int32)) + (1 : Int32)))] [(.int (((x0 &&& (2147483647 : Int32)) - ((x0 &&& (2147483647 : Int32)) / (20 : Int32)) * (20 : Int32)) + (1 : Int32))), (.int (((x1 &&& (2147483647 : Int32)) - ((x1 &&& (2147483647 : Int32)) / (10 : Int32)) * (10 : Int32)) + (1 : Int32)))])) rfl (by rw [hml]; rfl) (argsL := [(.int (((x1 &&& (2147483647 : Int32)) - ((x1 &&& (2147483647 : Int32)) / (10 : Int32)) * (10 : Int32)) + (1 : Int32))), (.int (((x0 &&& (2147483647 : Int32)) - ((x0 &&& (2147483647 : Int32)) / (20 : Int32)) * (20 : Int32)) + (1 : Int32)))]) (rest := []) (lenOf pd_0 rfl) rfl (by show 2 * 0 + _ ≤ _; exact Nat.le_of_eq rfl) (hb hby at_22) (fun _ _ => ⟨rfl, eT, (by decide : 0 + 0 ≤ _), (by decide : 0 + 0 ≤ _)⟩)
    dsimp only [Pt.U, Pt.locs, Pt.cells, Pt.slots] at Xc22_1 lc22_1 yc22_1 zc22_1 stc22_1 ec22_1
    subst lc22_1 yc22_1 zc22_1
    refine Runs.go stc22_1 ?_
    show Runs p e below s _ _ _ (Tc22_1.setTop (mkF m 25 #[.val (.int x0), .val (.int x1), .val (.int (((x0 &&& (2147483647 : Int32)) - ((x0 &&& (2147483647 : Int32)) / (20 : Int32)) * (20 : Int32)) + (1 : Int32))), .val (.int (((x1 &&& (2147483647 : Int32)) - ((x1 &&& (2147483647 : Int32)) / (10 : Int32)) * (10 : Int32)) + (1 : Int32)))] [(.int (F1 (((x1 &&& (2147483647 : Int32)) - ((x1 &&& (2147483647 : Int32)) / (10 : Int32)) * (10 : Int32)) + (1 : Int32)) (((x0 &&& (2147483647 : Int32)) - ((x0 &&& (2147483647 : Int32)) / (20 : Int32)) * (20 : Int32)) + (1 : Int32))))]))
    refine Runs.go (fun _ => XS.iloadN Xc22_1.here hx rfl (hb hby at_25) rfl) ?_
    show Runs p e below s _ _ _ (Tc22_1.setTop (mkF m 26 #[.val (.int x0), .val (.int x1), .val (.int (((x0 &&& (2147483647 : Int32)) - ((x0 &&& (2147483647 : Int32)) / (20 : Int32)) * (20 : Int32)) + (1 : Int32))), .val (.int (((x1 &&& (2147483647 : Int32)) - ((x1 &&& (2147483647 : Int32)) / (10 : Int32)) * (10 : Int32)) + (1 : Int32)))] [(.int (((x1 &&& (2147483647 : Int32)) - ((x1 &&& (2147483647 : Int32)) / (10 : Int32)) * (10 : Int32)) + (1 : Int32))), (.int (F1 (((x1 &&& (2147483647 : Int32)) - ((x1 &&& (2147483647 : Int32)) / (10 : Int32)) * (10 : Int32)) + (1 : Int32)) (((x0 &&& (2147483647 : Int32)) - ((x0 &&& (2147483647 : Int32)) / (20 : Int32)) * (20 : Int32)) + (1 : Int32))))]))
    refine Runs.go (fun _ => XS.iloadN Xc22_1.here hx rfl (hb hby at_26) rfl) ?_
    show Runs p e below s _ _ _ (Tc22_1.setTop (mkF m 27 #[.val (.int x0), .val (.int x1), .val (.int (((x0 &&& (2147483647 : Int32)) - ((x0 &&& (2147483647 : Int32)) / (20 : Int32)) * (20 : Int32)) + (1 : Int32))), .val (.int (((x1 &&& (2147483647 : Int32)) - ((x1 &&& (2147483647 : Int32)) / (10 : Int32)) * (10 : Int32)) + (1 : Int32)))] [(.int (((x0 &&& (2147483647 : Int32)) - ((x0 &&& (2147483647 : Int32)) / (20 : Int32)) * (20 : Int32)) + (1 : Int32))), (.int (((x1 &&& (2147483647 : Int32)) - ((x1 &&& (2147483647 : Int32)) / (10 : Int32)) * (10 : Int32)) + (1 : Int32))), (.int (F1 (((x1 &&& (2147483647 : Int32)) - ((x1 &&& (2147483647 : Int32)) / (10 : Int32)) * (10 : Int32)) + (1 : Int32)) (((x0 &&& (2147483647 : Int32)) - ((x0 &&& (2147483647 : Int32)) / (20 : Int32)) * (20 : Int32)) + (1 : Int32))))]))
    obtain ⟨_, _, ⟨Tc27_2, Lc27_2, kc27_2, nc27_2⟩, -, Xc27_2, ⟨Lcc27_2, ⟨rfl, rfl, ec27_2⟩, lc27_2, yc27_2, zc27_2⟩, stc27_2⟩ := Jvm.LawKit.callS Xc22_1 hx (y := (⟨"com/example/serialis/serialis/cli/WorldKeepsPinLaw", "expected", "(II)Z"⟩ : MethodName)) hown (mvT hZ (hw _ (List.mem_of_getElem? (i := 5) rfl))) (mvT hZ (hw _ (List.mem_of_getElem? (i := 6) rfl))) (mvT hZ (hw _ (List.mem_of_getElem? (i := 7) rfl))) (mvT hZ (hw _ (List.mem_of_getElem? (i := 8) rfl))) (by decide) (backOf (W := 1) (rm2 l Z a0 hw [] (((x1 &&& (2147483647 : Int32)) - ((x1 &&& (2147483647 : Int32)) / (10 : Int32)) * (10 : Int32)) + (1 : Int32)) (((x0 &&& (2147483647 : Int32)) - ((x0 &&& (2147483647 : Int32)) / (20 : Int32)) * (20 : Int32)) + (1 : Int32)) h0) hZ (hw _ (List.mem_of_getElem? (i := 8) rfl)) (hw _ (List.mem_of_getElem? (i := 7) rfl)) (by decide) (by decide)) (g := (mkF m 27 #[.val (.int x0), .val (.int x1), .val (.int (((x0 &&& (2147483647 : Int32)) - ((x0 &&& (2147483647 : Int32)) / (20 : Int32)) * (20 : Int32)) + (1 : Int32))), .val (.int (((x1 &&& (2147483647 : Int32)) - ((x1 &&& (2147483647 : Int32)) / (10 : Int32)) * (10 : Int32)) + (1 : Int32)))] [(.int (((x0 &&& (2147483647 : Int32)) - ((x0 &&& (2147483647 : Int32)) / (20 : Int32)) * (20 : Int32)) + (1 : Int32))), (.int (((x1 &&& (2147483647 : Int32)) - ((x1 &&& (2147483647 : Int32)) / (10 : Int32)) * (10 : Int32)) + (1 : Int32))), (.int (F1 (((x1 &&& (2147483647 : Int32)) - ((x1 &&& (2147483647 : Int32)) / (10 : Int32)) * (10 : Int32)) + (1 : Int32)) (((x0 &&& (2147483647 : Int32)) - ((x0 &&& (2147483647 : Int32)) / (20 : Int32)) * (20 : Int32)) + (1 : Int32))))])) rfl (by rw [hml]; rfl) (argsL := [(.int (((x1 &&& (2147483647 : Int32)) - ((x1 &&& (2147483647 : Int32)) / (10 : Int32)) * (10 : Int32)) + (1 : Int32))), (.int (((x0 &&& (2147483647 : Int32)) - ((x0 &&& (2147483647 : Int32)) / (20 : Int32)) * (20 : Int32)) + (1 : Int32)))]) (rest := [(.int (F1 (((x1 &&& (2147483647 : Int32)) - ((x1 &&& (2147483647 : Int32)) / (10 : Int32)) * (10 : Int32)) + (1 : Int32)) (((x0 &&& (2147483647 : Int32)) - ((x0 &&& (2147483647 : Int32)) / (20 : Int32)) * (20 : Int32)) + (1 : Int32))))]) (lenOf pd_0 rfl) rfl (by show 2 * 0 + _ ≤ _; exact Nat.le_of_eq rfl) (hb hby at_27) (fun _ _ => ⟨rfl, ec22_1, (by decide : 0 + 0 ≤ _), (by decide : 0 + 0 ≤ _)⟩)
    dsimp only [Pt.U, Pt.locs, Pt.cells, Pt.slots] at Xc27_2 lc27_2 yc27_2 zc27_2 stc27_2 ec27_2
    subst lc27_2 yc27_2 zc27_2
    refine Runs.go stc27_2 ?_
    show Runs p e below s _ _ _ (Tc27_2.setTop (mkF m 30 #[.val (.int x0), .val (.int x1), .val (.int (((x0 &&& (2147483647 : Int32)) - ((x0 &&& (2147483647 : Int32)) / (20 : Int32)) * (20 : Int32)) + (1 : Int32))), .val (.int (((x1 &&& (2147483647 : Int32)) - ((x1 &&& (2147483647 : Int32)) / (10 : Int32)) * (10 : Int32)) + (1 : Int32)))] [(.int (F2 (((x1 &&& (2147483647 : Int32)) - ((x1 &&& (2147483647 : Int32)) / (10 : Int32)) * (10 : Int32)) + (1 : Int32)) (((x0 &&& (2147483647 : Int32)) - ((x0 &&& (2147483647 : Int32)) / (20 : Int32)) * (20 : Int32)) + (1 : Int32)))), (.int (F1 (((x1 &&& (2147483647 : Int32)) - ((x1 &&& (2147483647 : Int32)) / (10 : Int32)) * (10 : Int32)) + (1 : Int32)) (((x0 &&& (2147483647 : Int32)) - ((x0 &&& (2147483647 : Int32)) / (20 : Int32)) * (20 : Int32)) + (1 : Int32))))]))
    by_cases hc30 : (F1 (((x1 &&& (2147483647 : Int32)) - ((x1 &&& (2147483647 : Int32)) / (10 : Int32)) * (10 : Int32)) + (1 : Int32)) (((x0 &&& (2147483647 : Int32)) - ((x0 &&& (2147483647 : Int32)) / (20 : Int32)) * (20 : Int32)) + (1 : Int32))) = (F2 (((x1 &&& (2147483647 : Int32)) - ((x1 &&& (2147483647 : Int32)) / (10 : Int32)) * (10 : Int32)) + (1 : Int32)) (((x0 &&& (2147483647 : Int32)) - ((x0 &&& (2147483647 : Int32)) / (20 : Int32)) * (20 : Int32)) + (1 : Int32)))
    · have hv := (if_pos hc30).symm.trans hv
      refine Runs.go (fun _ => XS.icmpNo Xc27_2.here hx rfl (hb hby at_30) rfl (teq hc30).2) ?_
      show Runs p e below s _ _ _ (Tc27_2.setTop (mkF m 33 #[.val (.int x0), .val (.int x1), .val (.int (((x0 &&& (2147483647 : Int32)) - ((x0 &&& (2147483647 : Int32)) / (20 : Int32)) * (20 : Int32)) + (1 : Int32))), .val (.int (((x1 &&& (2147483647 : Int32)) - ((x1 &&& (2147483647 : Int32)) / (10 : Int32)) * (10 : Int32)) + (1 : Int32)))] []))
      refine Runs.go (fun _ => XS.iconst Xc27_2.here hx rfl (hb hby at_33)) ?_
      show Runs p e below s _ _ _ (Tc27_2.setTop (mkF m 34 #[.val (.int x0), .val (.int x1), .val (.int (((x0 &&& (2147483647 : Int32)) - ((x0 &&& (2147483647 : Int32)) / (20 : Int32)) * (20 : Int32)) + (1 : Int32))), .val (.int (((x1 &&& (2147483647 : Int32)) - ((x1 &&& (2147483647 : Int32)) / (10 : Int32)) * (10 : Int32)) + (1 : Int32)))] [(.int (1 : Int32))]))
      refine Runs.go (fun _ => XS.goto Xc27_2.here hx rfl (pc0 := 34) (pc' := 38) rfl (hb hby at_34) (by decide) (by decide)) ?_
      show Runs p e below s _ _ _ (Tc27_2.setTop (mkF m 38 #[.val (.int x0), .val (.int x1), .val (.int (((x0 &&& (2147483647 : Int32)) - ((x0 &&& (2147483647 : Int32)) / (20 : Int32)) * (20 : Int32)) + (1 : Int32))), .val (.int (((x1 &&& (2147483647 : Int32)) - ((x1 &&& (2147483647 : Int32)) / (10 : Int32)) * (10 : Int32)) + (1 : Int32)))] [(.int (1 : Int32))]))
      exact Runs.endN Xc27_2 hx (t := .boolean) Bd.returns (by simp) Bd.notSynchronized (hb hby at_38) ⟨congrArg (fun z => some (Value.int z)) hv, rfl, ec27_2⟩ (by decide) (by decide)
    · have hv := (if_neg hc30).symm.trans hv
      refine Runs.go (fun _ => XS.icmpYes Xc27_2.here hx rfl (pc0 := 30) (pc' := 37) rfl (hb hby at_30) rfl (feq hc30).2 (by decide) (by decide)) ?_
      show Runs p e below s _ _ _ (Tc27_2.setTop (mkF m 37 #[.val (.int x0), .val (.int x1), .val (.int (((x0 &&& (2147483647 : Int32)) - ((x0 &&& (2147483647 : Int32)) / (20 : Int32)) * (20 : Int32)) + (1 : Int32))), .val (.int (((x1 &&& (2147483647 : Int32)) - ((x1 &&& (2147483647 : Int32)) / (10 : Int32)) * (10 : Int32)) + (1 : Int32)))] []))
      refine Runs.go (fun _ => XS.iconst Xc27_2.here hx rfl (hb hby at_37)) ?_
      show Runs p e below s _ _ _ (Tc27_2.setTop (mkF m 38 #[.val (.int x0), .val (.int x1), .val (.int (((x0 &&& (2147483647 : Int32)) - ((x0 &&& (2147483647 : Int32)) / (20 : Int32)) * (20 : Int32)) + (1 : Int32))), .val (.int (((x1 &&& (2147483647 : Int32)) - ((x1 &&& (2147483647 : Int32)) / (10 : Int32)) * (10 : Int32)) + (1 : Int32)))] [(.int (0 : Int32))]))
      exact Runs.endN Xc27_2 hx (t := .boolean) Bd.returns (by simp) Bd.notSynchronized (hb hby at_38) ⟨congrArg (fun z => some (Value.int z)) hv, rfl, ec27_2⟩ (by decide) (by decide)
  exact k_0 _ X0 e0 hF
set_option maxRecDepth 65536 in
set_option maxHeartbeats 40000000 in
theorem comes_1 {Post : Tables → Env → Array Value → State → Outcome → State → Prop} (hpost : ∀ tb e args s v u, (limb_1_1.after args s (.returned v) u = true ∧ limb_1_2.after args s (.returned v) u = true ∧ True) → FrameEnd s (.returned v) u (Jvm.fieldLocs frame_1_writes args s ++ Jvm.arrayLocs frame_1_arrays args s ++ Jvm.staticLocs frame_1_statics s) 0 0 → Post tb e args s (.returned v) u) :
    ArmFor flags0 classFile x code maxLocals ret World_1 tables_1 room_1 Calls_1 rest_1 Pre_1 Post := by
  intro l hfl _ _ p e ha hc hk s m args below hf hA hF happ hP
  obtain ⟨hcalls, hrest, hpre⟩ := hP
  obtain ⟨-, -, -, hnamed, -, -, -, hat⟩ := (Spec.applies_iff hf).mp happ
  obtain ⟨hg, hn⟩ := and_e (Cond.before_iff.mp (show (Jvm.Cond.and given_1 narrow_1).before args s = true from hpre))
  obtain ⟨hcnt, hg⟩ := and_e hg
  obtain ⟨w0, w1, rfl⟩ : ∃ w0 w1 : Value, args = #[w0, w1] := by
    have hs : args.size = 2 := by simpa [Cond.value, given_1] using hcnt
    obtain ⟨L⟩ := args
    match L, hs with
    | [w0, w1], _ => exact ⟨w0, w1, rfl⟩
  obtain ⟨ga0, hg⟩ := and_e hg
  obtain ⟨i0, ei0⟩ := is_v ga0
  obtain rfl : w0 = (.int i0) := Option.some.inj ei0
  have ga1 := hg
  obtain ⟨i1, ei1⟩ := is_v ga1
  obtain rfl : w1 = (.int i1) := Option.some.inj ei1
  have hw := fun d (hd : d ∈ tables_1) => atoms_spec (ws := Jvm.Cond.code x code maxLocals ret :: tables_1) hat d (List.mem_cons_of_mem _ hd)
  obtain ⟨n, o, h1, h2, h3, _, L, rfl, ⟨rfl, rfl, hheap⟩, hq⟩ := rm0 l s _ hw tables_1 i0 i1 s.heap p e ha hc hk s m _ below hf ((Spec.applies_iff_loose hf).mp happ).1 ⟨rfl, State.Warmed39.refl s, rfl⟩ trivial
  rw [law_true i0 i1] at hq h3
  exact ⟨n, _, h1, h2, h3, hpost _ _ _ _ _ _ ⟨Cond.after_iff.mpr rfl, Cond.after_iff.mpr (eq_i res_at (Term.int_eval (1)) rfl), trivial⟩ ⟨hq.1, hq.2.1, (hq.2.2.sift fun y hy => nomatch hy).mono (by decide) (by decide)⟩⟩
theorem main_1_1 : Claimed_1_1 := comes_1 fun _ _ _ _ _ _ h hF => ⟨h.1, hF⟩
theorem main_1_2 : Claimed_1_2 := comes_1 fun _ _ _ _ _ _ h hF => ⟨h.2.1, hF⟩
end Jvm.Pilot.@@N@@
namespace Jvm.Pilot.@@N@@
open Jvm Jvm.ClassFile Sem Op Lib Jvm.Free Jvm.Stand Jvm.Pilot.@@N@@.Jvm.D
/-! MADE BY PROGRAM (witnessworld.py) out of the Statement's table words and the real class files: 9 classes; the members and pool entries that the words name. The judged class is class 1, her method 2. -/
namespace start1
open Jvm.ClassFile
def u (s : String) : CpInfo := .utf8 (stringToUtf16 s)
/-- a pool by its gaps: so many unusable entries, then the entry; so many at the end -/
def gap : Nat → List CpInfo → List CpInfo
  | 0, r => r
  | n + 1, r => .unusable :: gap n r
def poolList (es : List (Nat × CpInfo)) (last : Nat) : List CpInfo := es.foldr (fun e r => gap e.1 (e.2 :: r)) (gap last [])
def pool (es : List (Nat × CpInfo)) (last : Nat) : Array CpInfo := ⟨poolList es last⟩
def fileOf (pool : Array CpInfo) (this : Nat) (attrs : Array Attribute := #[]) (ms : Array MethodInfo := #[]) (fl : Nat := 33) (sup : Nat := 0) (ifs : Array Nat := #[]) (fds : Array FieldInfo := #[]) : ClassFile where
  minorVersion := 0
  majorVersion := 65
  constantPool := pool
  accessFlags := fl
  thisClass := this
  superClass := sup
  interfaces := ifs
  fields := fds
  methods := ms
  attributes := attrs
def plain (name : String) (sup : Option ClassId) : Class where
  name := name
  kind := .ordinary
  loader := none
  accessFlags := 33
  super := sup
  interfaces := #[]
  cf := none
  fields := #[]
  methods := #[]
  instanceTypes := #[]
  staticTypes := #[]
  resolved := #[]
  callSites := []
  init := .initialized
  statics := none
  mirror := none

def pool0 : Array CpInfo := pool [(5, u "<init>"), (0, u "()V"), (1, .class_ 10), (1, u "java/lang/Object")] 113

def k0m0 : Method := { name := "<init>", desc := "()V", sig := { parameters := [], returnType := none }, accessFlags := 1, code := none }
/-- java/lang/Object -/
def k0 : Class := { plain "java/lang/Object" none with
  accessFlags := 33
  interfaces := #[]
  cf := some (fileOf pool0 8 #[] #[{ accessFlags := 1, nameIndex := 5, descriptorIndex := 6, attributes := #[] }] 33 0 #[] #[])
  fields := #[]
  methods := #[k0m0]
  instanceTypes := #[]
  staticTypes := #[]
  resolved := Array.replicate 124 none
  statics := none }

def pool1 : Array CpInfo := pool [(2, .class_ 4), (1, u "java/lang/Object"), (0, u "<init>"), (0, u "()V"), (0, .integer 2147483647), (0, .methodref 9 10), (0, .class_ 11), (0, .nameAndType 12 13), (0, u "com/example/serialis/serialis/cli/World"), (0, u "keeps"), (0, u "(II)Z"), (0, .methodref 15 16), (0, .class_ 17), (0, .nameAndType 18 13), (0, u "com/example/serialis/serialis/cli/WorldKeepsPinLaw"), (0, u "expected"), (3, u "law")] 2

def k1m0 : Method := { name := "<init>", desc := "()V", sig := { parameters := [], returnType := none }, accessFlags := 2, code := none }
def k1c1 : Code := { maxStack := 3, maxLocals := 2, code := method_2_code, exceptionTable := #[], attributes := #[] }
def k1m1 : Method := { name := "expected", desc := "(II)Z", sig := { parameters := [.int, .int], returnType := some .boolean }, accessFlags := 10, code := some k1c1 }
def k1c2 : Code := { maxStack := 3, maxLocals := 4, code := code, exceptionTable := #[], attributes := #[] }
def k1m2 : Method := { name := "law", desc := "(II)Z", sig := { parameters := [.int, .int], returnType := some .boolean }, accessFlags := 9, code := some k1c2 }
/-- com/example/serialis/serialis/cli/WorldKeepsPinLaw -/
def k1 : Class := { plain "com/example/serialis/serialis/cli/WorldKeepsPinLaw" (some 0) with
  accessFlags := 49
  interfaces := #[]
  cf := some (fileOf pool1 15 #[] #[{ accessFlags := 2, nameIndex := 5, descriptorIndex := 6, attributes := #[] }, { accessFlags := 10, nameIndex := 18, descriptorIndex := 13, attributes := #[] }, { accessFlags := 9, nameIndex := 22, descriptorIndex := 13, attributes := #[] }] 49 2 #[] #[])
  fields := #[]
  methods := #[k1m0, k1m1, k1m2]
  instanceTypes := #[]
  staticTypes := #[]
  resolved := Array.replicate 25 none
  statics := none }

def pool2 : Array CpInfo := pool [(2, .class_ 4), (1, u "java/lang/Object"), (0, u "<init>"), (0, u "()V"), (5, .class_ 14), (1, u "com/example/serialis/serialis/cli/World"), (13, u "KEY_DIGITS"), (0, u "I"), (48, u "keeps"), (0, u "(II)Z"), (5, u "PLACEMENT"), (0, u "Lcom/example/serialis/serialis/Placement;"), (0, u "VARIABLES"), (2, u "SITES")] 44

def k2m0 : Method := { name := "<init>", desc := "()V", sig := { parameters := [], returnType := none }, accessFlags := 2, code := none }
def k2c1 : Code := { maxStack := 4, maxLocals := 2, code := prog_24_method_8_code, exceptionTable := #[], attributes := #[] }
def k2m1 : Method := { name := "keeps", desc := "(II)Z", sig := { parameters := [.int, .int], returnType := some .boolean }, accessFlags := 8, code := some k2c1 }
/-- com/example/serialis/serialis/cli/World -/
def k2 : Class := { plain "com/example/serialis/serialis/cli/World" (some 0) with
  accessFlags := 48
  interfaces := #[]
  cf := some (fileOf pool2 12 #[] #[{ accessFlags := 2, nameIndex := 5, descriptorIndex := 6, attributes := #[] }, { accessFlags := 8, nameIndex := 78, descriptorIndex := 79, attributes := #[] }] 48 2 #[] #[{ accessFlags := 24, nameIndex := 87, descriptorIndex := 29, attributes := #[] }, { accessFlags := 24, nameIndex := 90, descriptorIndex := 29, attributes := #[] }, { accessFlags := 24, nameIndex := 85, descriptorIndex := 86, attributes := #[] }, { accessFlags := 26, nameIndex := 28, descriptorIndex := 29, attributes := #[] }])
  fields := #[{ name := "VARIABLES", type := .int, accessFlags := 24, slot := 0, constantValue := 0 }, { name := "SITES", type := .int, accessFlags := 24, slot := 1, constantValue := 0 }, { name := "PLACEMENT", type := (.object "com/example/serialis/serialis/Placement"), accessFlags := 24, slot := 2, constantValue := 0 }, { name := "KEY_DIGITS", type := .int, accessFlags := 26, slot := 3, constantValue := 0 }]
  methods := #[k2m0, k2m1]
  instanceTypes := #[]
  staticTypes := #[.int, .int, (.object "com/example/serialis/serialis/Placement"), .int]
  resolved := Array.replicate 135 none
  statics := none }

def pool3 : Array CpInfo := pool [(1, u "java/lang/Cloneable"), (0, .class_ 1), (0, u "java/lang/Object"), (0, .class_ 3)] 3

/-- java/lang/Cloneable -/
def k3 : Class := { plain "java/lang/Cloneable" (some 0) with
  accessFlags := 1537
  interfaces := #[]
  cf := some (fileOf pool3 2 #[] #[] 1537 4 #[] #[])
  fields := #[]
  methods := #[]
  instanceTypes := #[]
  staticTypes := #[]
  resolved := Array.replicate 8 none
  statics := none }

def pool4 : Array CpInfo := pool [(1, u "java/io/Serializable"), (0, .class_ 1), (0, u "java/lang/Object"), (0, .class_ 3)] 3

/-- java/io/Serializable -/
def k4 : Class := { plain "java/io/Serializable" (some 0) with
  accessFlags := 1537
  interfaces := #[]
  cf := some (fileOf pool4 2 #[] #[] 1537 4 #[] #[])
  fields := #[]
  methods := #[]
  instanceTypes := #[]
  staticTypes := #[]
  resolved := Array.replicate 8 none
  statics := none }

/-- the primitive byte -/
def k5 : Class := { plain "byte" none with kind := .primitive 'B', accessFlags := 0x411 }
/-- [B -/
def k6 : Class := { plain "[B" (some 0) with kind := .array 5 .byte, interfaces := #[3, 4], accessFlags := 1041 }

/-- the primitive int -/
def k7 : Class := { plain "int" none with kind := .primitive 'I', accessFlags := 0x411 }
/-- [I -/
def k8 : Class := { plain "[I" (some 0) with kind := .array 7 .int, interfaces := #[3, 4], accessFlags := 1041 }

def heap : Heap := #[]
def classes : Array Class := #[k0, k1, k2, k3, k4, k5, k6, k7, k8]
def interned : List (Array UInt16 × Addr) := []
def slotsUsed : Nat := 0
def theMethod : MethodId := ⟨1, 2⟩
def args0 : Array Value := #[.int 7, .int 8]
def aboutOver (below : List Frame) : State where
  vm := { classes := classes, interned := interned.toArray }
  heap := heap
  slotsUsed := slotsUsed
  threads := #[{ frames := .invoking theMethod args0 :: below }]
def below0 : List Frame := [.native { method := ⟨0, 0⟩, args := #[] }]
def about1 : State := aboutOver below0
def p0 : Program := .bare "" "" ""
def e0 : Env := launch0.env 0 0 0
theorem w_frames : about1.frames = Frame.invoking theMethod args0 :: below0 := rfl
set_option maxRecDepth 65536 in
theorem w_args : argsFit about1.vm theMethod args0 = true := by decide +kernel
set_option maxRecDepth 65536 in
theorem w_heap : heapFits about1 = true := by decide +kernel
set_option maxRecDepth 65536 in
theorem w_runnable : about1.curStatus? = some .runnable := by decide +kernel
set_option maxRecDepth 65536 in
theorem w_alone : about1.alone = true := by decide +kernel
set_option maxRecDepth 65536 in
theorem w_named : about1.methodNamed? x = some theMethod := by decide +kernel
set_option maxRecDepth 65536 in
theorem w_hears : about1.hears theMethod below0 = true := by decide +kernel
set_option maxRecDepth 65536 in
theorem w_ripe : about1.ripe theMethod args0 below0 = true := by decide +kernel
theorem w_running : about1.status = .running := rfl
set_option maxRecDepth 65536 in
theorem w_room : about1.hasRoom e0.platform room_1 = true :=
  launch0.hasRoom_least _ room_1 (by decide +kernel) (by decide +kernel) (by decide +kernel) (by decide +kernel) (by decide +kernel) (by decide +kernel)
theorem allAtoms_all (ts : List Jvm.Cond) (a : Array Jvm.Value) (st : Jvm.State) : (allAtoms ts).before a st = ts.all (fun c => c.before a st) := by
  induction ts with
  | nil => rfl
  | cons c t ih =>
    show (Jvm.Cond.and c (allAtoms t)).before a st = _
    rw [Jvm.Cond.before_and, ih, List.all_cons]
def words1 : List Jvm.Cond := Jvm.Cond.code x code maxLocals ret :: tables_1
/-- a 'code' word, met by the world's own term for the bytes: nothing is compared byte by byte -/
theorem code_word {y : MethodName} {bytes : ByteArray} {mx : Nat} {rt : Option FieldType} {a : Array Value} {s : State} {m : MethodId} {meth : Method} {c : Code} (h1 : s.methodNamed? y = some m) (h2 : s.vm.method? m = some meth) (h3 : meth.code = some c) (h4 : c.code = bytes)
    (h5 : (c.maxLocals == mx && c.exceptionTable.isEmpty && decide (c.maxStack ≤ mostOperands) && decide (meth.sig.returnType = rt) && !meth.locks && decide (parseMethodDescriptor y.desc = some meth.sig)) = true) : (Jvm.Cond.code y bytes mx rt).before a s = true := by
  simp only [Bool.and_eq_true, beq_iff_eq, Bool.not_eq_true', decide_eq_true_eq] at h5
  obtain ⟨⟨⟨⟨⟨g1, g2⟩, g3⟩, g4⟩, g5⟩, g6⟩ := h5
  simp [Cond.before, Cond.holds, Cond.value, h1, h2, h3, h4, g1, g2, g3, g4, g5, g6]
def isCode : Jvm.Cond → Bool
  | .code _ _ _ _ => true
  | _ => false
theorem all_split {L : List Jvm.Cond} {P : Jvm.Cond → Bool} (h1 : L.all (fun c => isCode c || P c) = true) (h2 : ∀ c ∈ L.filter isCode, P c = true) : L.all P = true := by
  refine List.all_eq_true.mpr fun c hc => ?_
  have h := List.all_eq_true.mp h1 c hc
  rcases Bool.eq_false_or_eq_true (isCode c) with hi | hi
  · exact h2 c (List.mem_filter.mpr ⟨hc, hi⟩)
  · simpa [hi] using h
set_option maxRecDepth 65536 in
theorem w_c0 : (Jvm.Cond.code x code maxLocals ret).before args0 about1 = true := code_word (m := ⟨1, 2⟩) (meth := k1m2) (c := k1c2) (by decide +kernel) rfl rfl rfl (by decide +kernel)
set_option maxRecDepth 65536 in
theorem w_c1 : (Jvm.Cond.code ({ cls := "com/example/serialis/serialis/cli/World", name := "keeps", desc := "(II)Z" } : Jvm.MethodName) prog_24_method_8_code (2 : Nat) (Option.some Jvm.ClassFile.FieldType.boolean)).before args0 about1 = true := code_word (m := ⟨2, 1⟩) (meth := k2m1) (c := k2c1) (by decide +kernel) rfl rfl rfl (by decide +kernel)
set_option maxRecDepth 65536 in
theorem w_c2 : (Jvm.Cond.code ({ cls := "com/example/serialis/serialis/cli/WorldKeepsPinLaw", name := "expected", desc := "(II)Z" } : Jvm.MethodName) method_2_code (2 : Nat) (Option.some Jvm.ClassFile.FieldType.boolean)).before args0 about1 = true := code_word (m := ⟨1, 1⟩) (meth := k1m1) (c := k1c1) (by decide +kernel) rfl rfl rfl (by decide +kernel)
def codes1 : List Jvm.Cond := [Jvm.Cond.code x code maxLocals ret, Jvm.Cond.code ({ cls := "com/example/serialis/serialis/cli/World", name := "keeps", desc := "(II)Z" } : Jvm.MethodName) prog_24_method_8_code (2 : Nat) (Option.some Jvm.ClassFile.FieldType.boolean), Jvm.Cond.code ({ cls := "com/example/serialis/serialis/cli/WorldKeepsPinLaw", name := "expected", desc := "(II)Z" } : Jvm.MethodName) method_2_code (2 : Nat) (Option.some Jvm.ClassFile.FieldType.boolean)]
set_option maxRecDepth 65536 in
theorem codes_eq : words1.filter isCode = codes1 := rfl
theorem w_codes : ∀ c ∈ words1.filter isCode, c.before args0 about1 = true := by
  rw [codes_eq]
  intro c hc
  simp only [codes1, List.mem_cons, List.not_mem_nil, or_false] at hc
  rcases hc with rfl | rfl | rfl
  · exact w_c0
  · exact w_c1
  · exact w_c2
set_option maxRecDepth 65536 in
theorem w_t1 : words1.all (fun c => isCode c || c.before args0 about1) = true := by decide +kernel
theorem w_tables : (allAtoms (Jvm.Cond.code x code maxLocals ret :: tables_1)).before args0 about1 = true := by
  rw [allAtoms_all]
  show words1.all (fun c => c.before args0 about1) = true
  refine all_split ?_ w_codes
  rw [w_t1]
set_option maxRecDepth 65536 in
theorem w_case : (Jvm.Cond.and given_1 narrow_1).before args0 about1 = true := by decide +kernel
theorem w_applies : (headSpec (Jvm.Cond.code x code maxLocals ret :: tables_1) room_1).applies x e0.platform about1 = true :=
  (Spec.applies_iff w_frames).mpr ⟨w_running, w_runnable, w_alone, w_named, w_hears, w_ripe, w_room, w_tables⟩
theorem atStart : AtStart classFile x code maxLocals ret World_1 tables_1 room_1 Calls_1 rest_1 Pre_1 launch0 p0 e0 about1 theMethod args0 below0 :=
  ⟨lists_1, trivial, launch0.admits_env _ _ _, launch0.least_env, fairChoices_fair.cas, fairChoices_fair.clock, w_frames, w_args, w_heap, w_applies, trivial, trivial, w_case⟩
end start1
theorem witness_1 : WitnessClaimed_1 := ⟨start1.p0, start1.e0, start1.about1, start1.theMethod, start1.args0, start1.below0, start1.atStart⟩
end Jvm.Pilot.@@N@@
