import JvmDerived
import JvmDerived.Pilot.@@N@@Statement
import JvmDerived.Pilot.@@N@@Code
set_option linter.unusedVariables false
set_option linter.unusedSimpArgs false

namespace Jvm.Pilot.@@N@@
open Jvm Jvm.ClassFile Sem Op Lib Jvm.Free Jvm.Stand Jvm.LawKit Jvm.RoadKit Bundle Jvm.Pilot.@@N@@.Jvm.D
def QH (w : Value) (n0 : Nat) (v : Option Value) (h : Heap) (L : List Loc) : Prop := v = some w ∧ Fr n0 L
def own_at (l : List Int32) (j : Int32) : Int32 := l.getD j.toNatClampNeg 0
theorem own_getD (l : List Int32) (j : Int32) : (List.map Value.int l).getD j.toNatClampNeg (.int (0 : Int32)) = .int (own_at l j) := by
  simp only [own_at, List.getD_eq_getElem?_getD, List.getElem?_map]
  cases l[j.toNatClampNeg]? <;> rfl
def own_atJ (l : List Int64) (j : Int32) : Int64 := l.getD j.toNatClampNeg 0
theorem own_getDJ (l : List Int64) (j : Int32) : (List.map Value.long l).getD j.toNatClampNeg (.long (0 : Int64)) = .long (own_atJ l j) := by
  simp only [own_atJ, List.getD_eq_getElem?_getD, List.getElem?_map]
  cases l[j.toNatClampNeg]? <;> rfl
def QP (w : Value) (h0 : Heap) (v : Option Value) (h : Heap) (L : List Loc) : Prop := v = some w ∧ L = [] ∧ h = h0
def Runs (p : Program) (e : Env) (below : List Frame) (s : State) (Q : Option Value → Heap → List Loc → Prop) (k n : Nat) (A : State) : Prop :=
  ∃ s₂ o, Steps p.tables e below A s₂ ∧ s₂.status = .running ∧ Ended s₂ below o ∧ ∃ v L, o = .returned v ∧ Q v s₂.heap L ∧ FrameEnd s o s₂ L k n
section Ends
variable {p : Program} {l : Launch} {e : Env} {R : Room} {s : State} {m : MethodId} {args : Array Value} {below : List Frame} {meth : Method} {c : Code} {T A B : State} {locs : List Loc} {cells slots : Nat} {Q : Option Value → Heap → List Loc → Prop} {k n pc : Nat} {Ls : Array Slot} {rest : List Value}
theorem Runs.go (h : ∀ t, Steps p.tables e below B t → Steps p.tables e below A t) (q : Runs p e below s Q k n B) : Runs p e below s Q k n A := by
  obtain ⟨s₂, o, h1, h2⟩ := q; exact ⟨s₂, o, h _ h1, h2⟩
theorem Runs.endI (X : Stand p l e R s m args below meth c T locs cells slots) (hx : p.tables.exec = Jvm.exec) {z : Int32} (hret : meth.sig.returnType = some .int) (hl : meth.locks = false) (hd : decode c.code pc = .ok (.ireturn, 1)) (hQ : Q (some (.int z)) T.heap locs) (hk : cells ≤ k) (hn : slots ≤ n) : Runs p e below s Q k n (T.setTop (mkF m pc Ls (.int z :: rest))) := by
  obtain ⟨fs, hr, hrun, hended, hW, hsame⟩ := X.leave (v := some (.int z)) (fun h => by rw [hret] at h; cases h) hl
  exact ⟨_, _, retOut X hx hret rfl (Or.inl ⟨rfl, Or.inl rfl, _, rfl⟩) hd hr, hrun, hended, _, _, rfl, hQ, ⟨_, rfl⟩, hW, hsame.mono hk hn⟩
theorem Runs.endJ (X : Stand p l e R s m args below meth c T locs cells slots) (hx : p.tables.exec = Jvm.exec) {z : Int64} (hret : meth.sig.returnType = some .long) (hl : meth.locks = false) (hd : decode c.code pc = .ok (.lreturn, 1)) (hQ : Q (some (.long z)) T.heap locs) (hk : cells ≤ k) (hn : slots ≤ n) : Runs p e below s Q k n (T.setTop (mkF m pc Ls (.long z :: rest))) := by
  obtain ⟨fs, hr, hrun, hended, hW, hsame⟩ := X.leave (v := some (.long z)) (fun h => by rw [hret] at h; cases h) hl
  exact ⟨_, _, retOut X hx hret rfl (Or.inr (Or.inl ⟨rfl, rfl, _, rfl⟩)) hd hr, hrun, hended, _, _, rfl, hQ, ⟨_, rfl⟩, hW, hsame.mono hk hn⟩
theorem Runs.endN (X : Stand p l e R s m args below meth c T locs cells slots) (hx : p.tables.exec = Jvm.exec) {z : Int32} {t : FieldType} (hret : meth.sig.returnType = some t) (ht : t = .boolean ∨ t = .byte ∨ t = .char ∨ t = .short) (hl : meth.locks = false) (hd : decode c.code pc = .ok (.ireturn, 1)) (hQ : Q (some (.int (nar t z))) T.heap locs) (hk : cells ≤ k) (hn : slots ≤ n) : Runs p e below s Q k n (T.setTop (mkF m pc Ls (.int z :: rest))) := by
  obtain ⟨fs, hr, hrun, hended, hW, hsame⟩ := X.leave (v := some (.int (nar t z))) (fun h => by rw [hret] at h; cases h) hl
  exact ⟨_, _, retN X hx hret ht hd hr, hrun, hended, _, _, rfl, hQ, ⟨_, rfl⟩, hW, hsame.mono hk hn⟩
theorem Runs.endV (X : Stand p l e R s m args below meth c T locs cells slots) (hx : p.tables.exec = Jvm.exec) (hret : meth.sig.returnType = none) (hl : meth.locks = false) (hd : decode c.code pc = .ok (.return_, 1)) (hQ : Q none T.heap locs) (hk : cells ≤ k) (hn : slots ≤ n) : Runs p e below s Q k n (T.setTop (mkF m pc Ls [])) := by
  obtain ⟨fs, hr, hrun, hended, hW, hsame⟩ := X.leave (v := none) (fun _ => rfl) hl
  exact ⟨_, _, X.returnOut hx hret hd hr, hrun, hended, _, _, rfl, hQ, ⟨_, rfl⟩, hW, hsame.mono hk hn⟩
theorem Runs.endR (X : Stand p l e R s m args below meth c T locs cells slots) (hx : p.tables.exec = Jvm.exec) {z : Addr} {t : FieldType} (hret : meth.sig.returnType = some t) (ht : t.isReference = true) (hl : meth.locks = false) (hd : decode c.code pc = .ok (.areturn, 1)) (hQ : Q (some (.ref z)) T.heap locs) (hk : cells ≤ k) (hn : slots ≤ n) : Runs p e below s Q k n (T.setTop (mkF m pc Ls (.ref z :: rest))) := by
  obtain ⟨fs, hr, hrun, hended, hW, hsame⟩ := X.leave (v := some (.ref z)) (fun h => by rw [hret] at h; cases h) hl
  exact ⟨_, _, retOut X hx hret (by cases t <;> first | rfl | cases ht) (Or.inr (Or.inr (Or.inr (Or.inr ⟨rfl, ht, rfl⟩)))) hd hr, hrun, hended, _, _, rfl, hQ, ⟨_, rfl⟩, hW, hsame.mono hk hn⟩
end Ends

def f1_28  : Int32 := (0 : Int32)
def f1_24  : Int32 := (1 : Int32)
def f1_12 (v0 : Int32) : Int32 := (if v0 < (97 : Int32) then (f1_28) else (if (122 : Int32) < v0 then (f1_28) else (f1_24)))
def f1_0 (x0 : Int32) : Int32 := (if x0 < (65 : Int32) then (f1_12 x0) else (if (90 : Int32) < x0 then (f1_12 x0) else (f1_24)))
def F1 (x0 : Int32) : Int32 := f1_0 x0
def f0_25 (v1 : Int32) (t0 : Int32) : Int32 := (if (F1 v1) = t0 then (1 : Int32) else (0 : Int32))
def f0_24 (v1 : Int32) : Int32 := (f0_25 v1 (0 : Int32))
def f0_0 (x0 : Int32) : Int32 := (if ((x0.toUInt32.toUInt16.toUInt32.toInt32) ||| (32 : Int32)) < (97 : Int32) then (f0_24 (x0.toUInt32.toUInt16.toUInt32.toInt32)) else (if (122 : Int32) < ((x0.toUInt32.toUInt16.toUInt32.toInt32) ||| (32 : Int32)) then (f0_24 (x0.toUInt32.toUInt16.toUInt32.toInt32)) else (f0_25 (x0.toUInt32.toUInt16.toUInt32.toInt32) (1 : Int32))))
def F0 (x0 : Int32) : Int32 := f0_0 x0
theorem li32_0 : (0 : Int32).toInt = 0 := by decide
theorem li32_1 : (1 : Int32).toInt = 1 := by decide
theorem li32_32 : (32 : Int32).toInt = 32 := by decide
theorem li32_65 : (65 : Int32).toInt = 65 := by decide
theorem li32_90 : (90 : Int32).toInt = 90 := by decide
theorem li32_97 : (97 : Int32).toInt = 97 := by decide
theorem li32_122 : (122 : Int32).toInt = 122 := by decide
theorem own_or32n (n : Nat) : n ||| 32 = if n / 32 % 2 = 1 then n else n + 32 := by
  have h : ∀ r : Fin 64, r.val ||| 32 = if r.val / 32 % 2 = 1 then r.val else r.val + 32 := by decide
  have hr : n % 64 < 2 ^ 6 := by omega
  have h1 := h ⟨n % 64, by omega⟩
  have h2 : (n % 64) ||| 32 < 2 ^ 6 := Nat.or_lt_two_pow hr (by decide)
  have e : 2 ^ 6 * (n / 64) + n % 64 = n := by omega
  have e1 : n ||| 32 = 2 ^ 6 * (n / 64) + ((n % 64) ||| 32) := by
    rw [Nat.two_pow_add_eq_or_of_lt h2, ← Nat.or_assoc, ← Nat.two_pow_add_eq_or_of_lt hr, e]
  rw [e1]
  dsimp only at h1
  rw [h1]
  split <;> split <;> omega
theorem own_or32 (c : Int32) (h : 0 ≤ c.toInt) (h' : c.toInt < 65536) : (c ||| 32).toInt = if c.toInt / 32 % 2 = 1 then c.toInt else c.toInt + 32 := by
  have hl := c.toBitVec.isLt
  have e0 : c.toInt = c.toBitVec.toInt := rfl
  have e1 : (c ||| 32).toInt = (c.toBitVec ||| (32 : Int32).toBitVec).toInt := rfl
  have e2 : (c.toBitVec ||| (32 : Int32).toBitVec).toNat = c.toBitVec.toNat ||| 32 := by rw [BitVec.toNat_or]; rfl
  have e3 : c.toInt = (c.toBitVec.toNat : Int) := by
    rw [e0, BitVec.toInt_eq_toNat_cond] at h ⊢
    split at h <;> split <;> omega
  rw [e1, BitVec.toInt_eq_toNat_cond, e2, own_or32n, e3]
  rw [e3] at h h'
  generalize c.toBitVec.toNat = n at *
  split <;> split <;> split <;> omega
theorem own_F1 (c : Int32) : F1 c = if (65 ≤ c.toInt ∧ c.toInt ≤ 90) ∨ (97 ≤ c.toInt ∧ c.toInt ≤ 122) then 1 else 0 := by
  simp only [F1, f1_0, f1_12, f1_24, f1_28, Int32.lt_iff_toInt_lt, ← Int32.toInt_inj, li32_0, li32_1, li32_32, li32_65, li32_90, li32_97, li32_122]
  generalize c.toInt = z
  repeat' split
  all_goals first | rfl | omega
theorem law_true (x0 : Int32) : F0 x0 = 1 := by
  obtain ⟨-, h1, h2⟩ := c_i2c x0
  have h3 := own_or32 _ h1 h2
  simp only [F0, f0_0]
  generalize x0.toUInt32.toUInt16.toUInt32.toInt32 = c at *
  by_cases hP : (65 ≤ c.toInt ∧ c.toInt ≤ 90) ∨ (97 ≤ c.toInt ∧ c.toInt ≤ 122)
  · have hF : F1 c = 1 := by rw [own_F1, if_pos hP]
    have n1 : ¬ (c ||| (32 : Int32)) < (97 : Int32) := by rw [Int32.lt_iff_toInt_lt, h3, li32_97]; split <;> omega
    have n2 : ¬ (122 : Int32) < (c ||| (32 : Int32)) := by rw [Int32.lt_iff_toInt_lt, h3, li32_122]; split <;> omega
    rw [if_neg n1, if_neg n2]; simp [f0_25, hF]
  · have hF : F1 c = 0 := by rw [own_F1, if_neg hP]
    by_cases n1 : (c ||| (32 : Int32)) < (97 : Int32)
    · rw [if_pos n1]; simp [f0_24, f0_25, hF]
    · have n2 : (122 : Int32) < (c ||| (32 : Int32)) := by
        rw [Int32.lt_iff_toInt_lt, h3, li32_97] at n1
        rw [Int32.lt_iff_toInt_lt, h3, li32_122]; split at n1 <;> split <;> omega
      rw [if_neg n1, if_pos n2]; simp [f0_24, f0_25, hF]

theorem pd_0 : parseMethodDescriptor "(C)Z" = some ⟨[.char], some .boolean⟩ := by decide +kernel
theorem d1_0 : decode prog_1_method_2_code 0 = .ok (.iload_n 0, 1) := by decide +kernel
theorem d1_1 : decode prog_1_method_2_code 1 = .ok (.bipush 65, 2) := by decide +kernel
theorem d1_3 : decode prog_1_method_2_code 3 = .ok (.if_icmp .lt 9, 3) := by decide +kernel
theorem d1_6 : decode prog_1_method_2_code 6 = .ok (.iload_n 0, 1) := by decide +kernel
theorem d1_7 : decode prog_1_method_2_code 7 = .ok (.bipush 90, 2) := by decide +kernel
theorem d1_9 : decode prog_1_method_2_code 9 = .ok (.if_icmp .le 15, 3) := by decide +kernel
theorem d1_12 : decode prog_1_method_2_code 12 = .ok (.iload_n 0, 1) := by decide +kernel
theorem d1_13 : decode prog_1_method_2_code 13 = .ok (.bipush 97, 2) := by decide +kernel
theorem d1_15 : decode prog_1_method_2_code 15 = .ok (.if_icmp .lt 13, 3) := by decide +kernel
theorem d1_18 : decode prog_1_method_2_code 18 = .ok (.iload_n 0, 1) := by decide +kernel
theorem d1_19 : decode prog_1_method_2_code 19 = .ok (.bipush 122, 2) := by decide +kernel
theorem d1_21 : decode prog_1_method_2_code 21 = .ok (.if_icmp .gt 7, 3) := by decide +kernel
theorem d1_24 : decode prog_1_method_2_code 24 = .ok (.iconst 1, 1) := by decide +kernel
theorem d1_25 : decode prog_1_method_2_code 25 = .ok (.goto 4, 3) := by decide +kernel
theorem d1_28 : decode prog_1_method_2_code 28 = .ok (.iconst 0, 1) := by decide +kernel
theorem d1_29 : decode prog_1_method_2_code 29 = .ok (.ireturn, 1) := by decide +kernel
theorem pn_1 : plainName "com/example/octetline/octetline/Ascii" = true := by first | (simp [plainName, overriddenIn]; done) | decide +kernel
theorem ef_1 (m : MethodId) (x0 : Int32) : entryFrame m #[(.int x0)] 1 = mkF m 0 #[.val (.int x0)] [] := by first | (simp [entryFrame, mkF, argsToLocals, Value.category]; done) | rfl
set_option maxRecDepth 65536 in
set_option maxHeartbeats 40000000 in
theorem rm1 (l : Launch) (Z : State) (a0 : Array Value) (hw : ∀ d ∈ tables_1, d.before a0 Z = true) (ws : List Jvm.Cond) (x0 : Int32) (h0 : Heap) :
    MetFree l (⟨"com/example/octetline/octetline/Ascii", "isLetter", "(C)Z"⟩ : MethodName) (head1 (Jvm.Cond.code (⟨"com/example/octetline/octetline/Ascii", "isLetter", "(C)Z"⟩ : MethodName) prog_1_method_2_code 1 (some .boolean) :: ws) ({ frames := 0, cells := 0, slots := 0, locals := 0 } : Room)) (fun a U => a = #[(.int x0)] ∧ Z.Warmed39 U.vm ∧ U.heap = h0) (fun _ _ _ _ _ => True) (fun _ U o U' => ∃ v L, o = .returned v ∧ QP (.int (F1 x0)) h0 v U'.heap L ∧ FrameEnd U o U' L ({ frames := 0, cells := 0, slots := 0, locals := 0 } : Room).cells ({ frames := 0, cells := 0, slots := 0, locals := 0 } : Room).slots) := by
  refine MetFree.of_bodySF (plainFor_of_name pn_1) hisR ?_
  intro p e s m args below meth c s₁ Bd hml0 hP hK
  obtain ⟨rfl, hZ, hh⟩ := hP
  have hx := Bd.exec
  have hby := Bd.bytes
  have hml : c.maxLocals = 1 := hml0
  have hown : s.vm.findClass "com/example/octetline/octetline/Ascii" = some m.cls := findClass_of_methodNamed Bd.named
  have X0 : Stand p l e ({ frames := 0, cells := 0, slots := 0, locals := 0 } : Room) s m #[(.int x0)] below meth c s₁ [] 0 0 := Stand.of_body Bd
  have e0 : s₁.heap = h0 := by rw [← hh, Bd.state]; rfl
  show Runs p e below s (QP (.int (F1 x0)) h0) ({ frames := 0, cells := 0, slots := 0, locals := 0 } : Room).cells ({ frames := 0, cells := 0, slots := 0, locals := 0 } : Room).slots (s₁.setTop (entryFrame m #[(.int x0)] 1))
  rw [ef_1 m x0]
  obtain ⟨r, hF⟩ : ∃ r, F1 x0 = r := ⟨_, rfl⟩
  rw [hF]
  have k_28 : ∀ (T : State) (X : Stand p l e ({ frames := 0, cells := 0, slots := 0, locals := 0 } : Room) s m #[(.int x0)] below meth c T [] 0 0) (eT : T.heap = h0) (v0 : Int32), f1_28 = r → Runs p e below s (QP (.int r) h0) ({ frames := 0, cells := 0, slots := 0, locals := 0 } : Room).cells ({ frames := 0, cells := 0, slots := 0, locals := 0 } : Room).slots (T.setTop (mkF m 28 #[.val (.int v0)] [])) := by
    intro T X eT v0 hv
    unfold f1_28 at hv
    refine Runs.go (fun _ => XS.iconst X.here hx rfl (hb hby d1_28)) ?_
    show Runs p e below s _ _ _ (T.setTop (mkF m 29 #[.val (.int v0)] [(.int (0 : Int32))]))
    exact Runs.endN X hx (t := .boolean) Bd.returns (by simp) Bd.notSynchronized (hb hby d1_29) ⟨congrArg (fun z => some (Value.int z)) hv, rfl, eT⟩ (by decide) (by decide)
  have k_24 : ∀ (T : State) (X : Stand p l e ({ frames := 0, cells := 0, slots := 0, locals := 0 } : Room) s m #[(.int x0)] below meth c T [] 0 0) (eT : T.heap = h0) (v0 : Int32), f1_24 = r → Runs p e below s (QP (.int r) h0) ({ frames := 0, cells := 0, slots := 0, locals := 0 } : Room).cells ({ frames := 0, cells := 0, slots := 0, locals := 0 } : Room).slots (T.setTop (mkF m 24 #[.val (.int v0)] [])) := by
    intro T X eT v0 hv
    unfold f1_24 at hv
    refine Runs.go (fun _ => XS.iconst X.here hx rfl (hb hby d1_24)) ?_
    show Runs p e below s _ _ _ (T.setTop (mkF m 25 #[.val (.int v0)] [(.int (1 : Int32))]))
    refine Runs.go (fun _ => XS.goto X.here hx rfl (pc0 := 25) (pc' := 29) rfl (hb hby d1_25) (by decide) (by decide)) ?_
    show Runs p e below s _ _ _ (T.setTop (mkF m 29 #[.val (.int v0)] [(.int (1 : Int32))]))
    exact Runs.endN X hx (t := .boolean) Bd.returns (by simp) Bd.notSynchronized (hb hby d1_29) ⟨congrArg (fun z => some (Value.int z)) hv, rfl, eT⟩ (by decide) (by decide)
  have k_12 : ∀ (T : State) (X : Stand p l e ({ frames := 0, cells := 0, slots := 0, locals := 0 } : Room) s m #[(.int x0)] below meth c T [] 0 0) (eT : T.heap = h0) (v0 : Int32), f1_12 v0 = r → Runs p e below s (QP (.int r) h0) ({ frames := 0, cells := 0, slots := 0, locals := 0 } : Room).cells ({ frames := 0, cells := 0, slots := 0, locals := 0 } : Room).slots (T.setTop (mkF m 12 #[.val (.int v0)] [])) := by
    intro T X eT v0 hv
    unfold f1_12 at hv
    refine Runs.go (fun _ => XS.iloadN X.here hx rfl (hb hby d1_12) rfl) ?_
    show Runs p e below s _ _ _ (T.setTop (mkF m 13 #[.val (.int v0)] [(.int v0)]))
    refine Runs.go (fun _ => XS.bipush X.here hx rfl (hb hby d1_13)) ?_
    show Runs p e below s _ _ _ (T.setTop (mkF m 15 #[.val (.int v0)] [(.int (97 : Int32)), (.int v0)]))
    by_cases hc15 : v0 < (97 : Int32)
    · have hv := (if_pos hc15).symm.trans hv
      refine Runs.go (fun _ => XS.icmpYes X.here hx rfl (pc0 := 15) (pc' := 28) rfl (hb hby d1_15) rfl (tlt hc15).1 (by decide) (by decide)) ?_
      show Runs p e below s _ _ _ (T.setTop (mkF m 28 #[.val (.int v0)] []))
      exact k_28 _ X eT v0 hv
    · have hv := (if_neg hc15).symm.trans hv
      refine Runs.go (fun _ => XS.icmpNo X.here hx rfl (hb hby d1_15) rfl (flt hc15).1) ?_
      show Runs p e below s _ _ _ (T.setTop (mkF m 18 #[.val (.int v0)] []))
      refine Runs.go (fun _ => XS.iloadN X.here hx rfl (hb hby d1_18) rfl) ?_
      show Runs p e below s _ _ _ (T.setTop (mkF m 19 #[.val (.int v0)] [(.int v0)]))
      refine Runs.go (fun _ => XS.bipush X.here hx rfl (hb hby d1_19)) ?_
      show Runs p e below s _ _ _ (T.setTop (mkF m 21 #[.val (.int v0)] [(.int (122 : Int32)), (.int v0)]))
      by_cases hc21 : (122 : Int32) < v0
      · have hv := (if_pos hc21).symm.trans hv
        refine Runs.go (fun _ => XS.icmpYes X.here hx rfl (pc0 := 21) (pc' := 28) rfl (hb hby d1_21) rfl (tlt hc21).2.2.1 (by decide) (by decide)) ?_
        show Runs p e below s _ _ _ (T.setTop (mkF m 28 #[.val (.int v0)] []))
        exact k_28 _ X eT v0 hv
      · have hv := (if_neg hc21).symm.trans hv
        refine Runs.go (fun _ => XS.icmpNo X.here hx rfl (hb hby d1_21) rfl (flt hc21).2.2.1) ?_
        show Runs p e below s _ _ _ (T.setTop (mkF m 24 #[.val (.int v0)] []))
        exact k_24 _ X eT v0 hv
  have k_0 : ∀ (T : State) (X : Stand p l e ({ frames := 0, cells := 0, slots := 0, locals := 0 } : Room) s m #[(.int x0)] below meth c T [] 0 0) (eT : T.heap = h0), f1_0 x0 = r → Runs p e below s (QP (.int r) h0) ({ frames := 0, cells := 0, slots := 0, locals := 0 } : Room).cells ({ frames := 0, cells := 0, slots := 0, locals := 0 } : Room).slots (T.setTop (mkF m 0 #[.val (.int x0)] [])) := by
    intro T X eT  hv
    unfold f1_0 at hv
    refine Runs.go (fun _ => XS.iloadN X.here hx rfl (hb hby d1_0) rfl) ?_
    show Runs p e below s _ _ _ (T.setTop (mkF m 1 #[.val (.int x0)] [(.int x0)]))
    refine Runs.go (fun _ => XS.bipush X.here hx rfl (hb hby d1_1)) ?_
    show Runs p e below s _ _ _ (T.setTop (mkF m 3 #[.val (.int x0)] [(.int (65 : Int32)), (.int x0)]))
    by_cases hc3 : x0 < (65 : Int32)
    · have hv := (if_pos hc3).symm.trans hv
      refine Runs.go (fun _ => XS.icmpYes X.here hx rfl (pc0 := 3) (pc' := 12) rfl (hb hby d1_3) rfl (tlt hc3).1 (by decide) (by decide)) ?_
      show Runs p e below s _ _ _ (T.setTop (mkF m 12 #[.val (.int x0)] []))
      exact k_12 _ X eT x0 hv
    · have hv := (if_neg hc3).symm.trans hv
      refine Runs.go (fun _ => XS.icmpNo X.here hx rfl (hb hby d1_3) rfl (flt hc3).1) ?_
      show Runs p e below s _ _ _ (T.setTop (mkF m 6 #[.val (.int x0)] []))
      refine Runs.go (fun _ => XS.iloadN X.here hx rfl (hb hby d1_6) rfl) ?_
      show Runs p e below s _ _ _ (T.setTop (mkF m 7 #[.val (.int x0)] [(.int x0)]))
      refine Runs.go (fun _ => XS.bipush X.here hx rfl (hb hby d1_7)) ?_
      show Runs p e below s _ _ _ (T.setTop (mkF m 9 #[.val (.int x0)] [(.int (90 : Int32)), (.int x0)]))
      by_cases hc9 : (90 : Int32) < x0
      · have hv := (if_pos hc9).symm.trans hv
        refine Runs.go (fun _ => XS.icmpNo X.here hx rfl (hb hby d1_9) rfl (tlt hc9).2.2.2) ?_
        show Runs p e below s _ _ _ (T.setTop (mkF m 12 #[.val (.int x0)] []))
        exact k_12 _ X eT x0 hv
      · have hv := (if_neg hc9).symm.trans hv
        refine Runs.go (fun _ => XS.icmpYes X.here hx rfl (pc0 := 9) (pc' := 24) rfl (hb hby d1_9) rfl (flt hc9).2.2.2 (by decide) (by decide)) ?_
        show Runs p e below s _ _ _ (T.setTop (mkF m 24 #[.val (.int x0)] []))
        exact k_24 _ X eT x0 hv
  exact k_0 _ X0 e0 hF
theorem pn_0 : plainName "com/example/octetline/octetline/AsciiIsLetterPinLaw" = true := by first | (simp [plainName, overriddenIn]; done) | decide +kernel
theorem ef_0 (m : MethodId) (x0 : Int32) : entryFrame m #[(.int x0)] maxLocals = mkF m 0 #[.val (.int x0), .unset, .unset, .unset] [] := by first | (simp [entryFrame, mkF, argsToLocals, Value.category, maxLocals]; done) | rfl
set_option maxRecDepth 65536 in
set_option maxHeartbeats 40000000 in
theorem rm0 (l : Launch) (Z : State) (a0 : Array Value) (hw : ∀ d ∈ tables_1, d.before a0 Z = true) (ws : List Jvm.Cond) (x0 : Int32) (h0 : Heap) :
    MetFree l x (head1 (Jvm.Cond.code x code maxLocals ret :: ws) room_1) (fun a U => a = #[(.int x0)] ∧ Z.Warmed39 U.vm ∧ U.heap = h0) (fun _ _ _ _ _ => True) (fun _ U o U' => ∃ v L, o = .returned v ∧ QP (.int (F0 x0)) h0 v U'.heap L ∧ FrameEnd U o U' L 0 0) := by
  refine MetFree.of_bodySF (plainFor_of_name pn_0) hisR ?_
  intro p e s m args below meth c s₁ Bd hml0 hP hK
  obtain ⟨rfl, hZ, hh⟩ := hP
  have hx := Bd.exec
  have hby := Bd.bytes
  have hml : c.maxLocals = 4 := hml0
  have hown : s.vm.findClass "com/example/octetline/octetline/AsciiIsLetterPinLaw" = some m.cls := findClass_of_methodNamed Bd.named
  have X0 : Stand p l e room_1 s m #[(.int x0)] below meth c s₁ [] 0 0 := Stand.of_body Bd
  have e0 : s₁.heap = h0 := by rw [← hh, Bd.state]; rfl
  show Runs p e below s (QP (.int (F0 x0)) h0) 0 0 (s₁.setTop (entryFrame m #[(.int x0)] maxLocals))
  rw [ef_0 m x0]
  obtain ⟨r, hF⟩ : ∃ r, F0 x0 = r := ⟨_, rfl⟩
  rw [hF]
  have k_25 : ∀ (T : State) (X : Stand p l e room_1 s m #[(.int x0)] below meth c T [] 0 0) (eT : T.heap = h0) (v0 : Int32) (v1 : Int32) (v2 : Int32) (t0 : Int32), f0_25 v1 t0 = r → Runs p e below s (QP (.int r) h0) 0 0 (T.setTop (mkF m 25 #[.val (.int v0), .val (.int v1), .val (.int v2), .unset] [(.int t0)])) := by
    intro T X eT v0 v1 v2 t0 hv
    unfold f0_25 at hv
    refine Runs.go (fun _ => XS.istoreN X.here hx rfl (hb hby at_25) rfl (l' := #[.val (.int v0), .val (.int v1), .val (.int v2), .val (.int t0)]) rfl) ?_
    show Runs p e below s _ _ _ (T.setTop (mkF m 26 #[.val (.int v0), .val (.int v1), .val (.int v2), .val (.int t0)] []))
    refine Runs.go (fun _ => XS.iloadN X.here hx rfl (hb hby at_26) rfl) ?_
    show Runs p e below s _ _ _ (T.setTop (mkF m 27 #[.val (.int v0), .val (.int v1), .val (.int v2), .val (.int t0)] [(.int v1)]))
    obtain ⟨_, _, ⟨Tc27_1, Lc27_1, kc27_1, nc27_1⟩, -, Xc27_1, ⟨Lcc27_1, ⟨rfl, rfl, ec27_1⟩, lc27_1, yc27_1, zc27_1⟩, stc27_1⟩ := Jvm.LawKit.callS X hx (y := (⟨"com/example/octetline/octetline/Ascii", "isLetter", "(C)Z"⟩ : MethodName)) hown (mvT hZ (hw _ (List.mem_of_getElem? (i := 0) rfl))) (mvT hZ (hw _ (List.mem_of_getElem? (i := 1) rfl))) (mvT hZ (hw _ (List.mem_of_getElem? (i := 2) rfl))) (mvT hZ (hw _ (List.mem_of_getElem? (i := 3) rfl))) (by decide) (backOf (W := 0) (rm1 l Z a0 hw [] v1 h0) hZ (hw _ (List.mem_of_getElem? (i := 3) rfl)) (hw _ (List.mem_of_getElem? (i := 2) rfl)) (by decide) (by decide)) (g := (mkF m 27 #[.val (.int v0), .val (.int v1), .val (.int v2), .val (.int t0)] [(.int v1)])) rfl (by rw [hml]; rfl) (argsL := [(.int v1)]) (rest := []) (lenOf pd_0 rfl) rfl (by show 2 * 0 + _ ≤ _; exact Nat.le_of_eq rfl) (hb hby at_27) (fun _ _ => ⟨rfl, eT, (by decide : 0 + 0 ≤ _), (by decide : 0 + 0 ≤ _)⟩)
    dsimp only [Pt.U, Pt.locs, Pt.cells, Pt.slots] at Xc27_1 lc27_1 yc27_1 zc27_1 stc27_1 ec27_1
    subst lc27_1 yc27_1 zc27_1
    refine Runs.go stc27_1 ?_
    show Runs p e below s _ _ _ (Tc27_1.setTop (mkF m 30 #[.val (.int v0), .val (.int v1), .val (.int v2), .val (.int t0)] [(.int (F1 v1))]))
    refine Runs.go (fun _ => XS.iloadN Xc27_1.here hx rfl (hb hby at_30) rfl) ?_
    show Runs p e below s _ _ _ (Tc27_1.setTop (mkF m 31 #[.val (.int v0), .val (.int v1), .val (.int v2), .val (.int t0)] [(.int t0), (.int (F1 v1))]))
    by_cases hc31 : (F1 v1) = t0
    · have hv := (if_pos hc31).symm.trans hv
      refine Runs.go (fun _ => XS.icmpNo Xc27_1.here hx rfl (hb hby at_31) rfl (teq hc31).2) ?_
      show Runs p e below s _ _ _ (Tc27_1.setTop (mkF m 34 #[.val (.int v0), .val (.int v1), .val (.int v2), .val (.int t0)] []))
      refine Runs.go (fun _ => XS.iconst Xc27_1.here hx rfl (hb hby at_34)) ?_
      show Runs p e below s _ _ _ (Tc27_1.setTop (mkF m 35 #[.val (.int v0), .val (.int v1), .val (.int v2), .val (.int t0)] [(.int (1 : Int32))]))
      refine Runs.go (fun _ => XS.goto Xc27_1.here hx rfl (pc0 := 35) (pc' := 39) rfl (hb hby at_35) (by decide) (by decide)) ?_
      show Runs p e below s _ _ _ (Tc27_1.setTop (mkF m 39 #[.val (.int v0), .val (.int v1), .val (.int v2), .val (.int t0)] [(.int (1 : Int32))]))
      exact Runs.endN Xc27_1 hx (t := .boolean) Bd.returns (by simp) Bd.notSynchronized (hb hby at_39) ⟨congrArg (fun z => some (Value.int z)) hv, rfl, ec27_1⟩ (by decide) (by decide)
    · have hv := (if_neg hc31).symm.trans hv
      refine Runs.go (fun _ => XS.icmpYes Xc27_1.here hx rfl (pc0 := 31) (pc' := 38) rfl (hb hby at_31) rfl (feq hc31).2 (by decide) (by decide)) ?_
      show Runs p e below s _ _ _ (Tc27_1.setTop (mkF m 38 #[.val (.int v0), .val (.int v1), .val (.int v2), .val (.int t0)] []))
      refine Runs.go (fun _ => XS.iconst Xc27_1.here hx rfl (hb hby at_38)) ?_
      show Runs p e below s _ _ _ (Tc27_1.setTop (mkF m 39 #[.val (.int v0), .val (.int v1), .val (.int v2), .val (.int t0)] [(.int (0 : Int32))]))
      exact Runs.endN Xc27_1 hx (t := .boolean) Bd.returns (by simp) Bd.notSynchronized (hb hby at_39) ⟨congrArg (fun z => some (Value.int z)) hv, rfl, ec27_1⟩ (by decide) (by decide)
  have k_24 : ∀ (T : State) (X : Stand p l e room_1 s m #[(.int x0)] below meth c T [] 0 0) (eT : T.heap = h0) (v0 : Int32) (v1 : Int32) (v2 : Int32), f0_24 v1 = r → Runs p e below s (QP (.int r) h0) 0 0 (T.setTop (mkF m 24 #[.val (.int v0), .val (.int v1), .val (.int v2), .unset] [])) := by
    intro T X eT v0 v1 v2 hv
    unfold f0_24 at hv
    refine Runs.go (fun _ => XS.iconst X.here hx rfl (hb hby at_24)) ?_
    show Runs p e below s _ _ _ (T.setTop (mkF m 25 #[.val (.int v0), .val (.int v1), .val (.int v2), .unset] [(.int (0 : Int32))]))
    exact k_25 _ X eT v0 v1 v2 (0 : Int32) hv
  have k_0 : ∀ (T : State) (X : Stand p l e room_1 s m #[(.int x0)] below meth c T [] 0 0) (eT : T.heap = h0), f0_0 x0 = r → Runs p e below s (QP (.int r) h0) 0 0 (T.setTop (mkF m 0 #[.val (.int x0), .unset, .unset, .unset] [])) := by
    intro T X eT  hv
    unfold f0_0 at hv
    refine Runs.go (fun _ => XS.iloadN X.here hx rfl (hb hby at_0) rfl) ?_
    show Runs p e below s _ _ _ (T.setTop (mkF m 1 #[.val (.int x0), .unset, .unset, .unset] [(.int x0)]))
    refine Runs.go (fun _ => XS.i2c X.here hx rfl (hb hby at_1) rfl) ?_
    show Runs p e below s _ _ _ (T.setTop (mkF m 2 #[.val (.int x0), .unset, .unset, .unset] [(.int (x0.toUInt32.toUInt16.toUInt32.toInt32))]))
    refine Runs.go (fun _ => XS.istoreN X.here hx rfl (hb hby at_2) rfl (l' := #[.val (.int x0), .val (.int (x0.toUInt32.toUInt16.toUInt32.toInt32)), .unset, .unset]) rfl) ?_
    show Runs p e below s _ _ _ (T.setTop (mkF m 3 #[.val (.int x0), .val (.int (x0.toUInt32.toUInt16.toUInt32.toInt32)), .unset, .unset] []))
    refine Runs.go (fun _ => XS.iloadN X.here hx rfl (hb hby at_3) rfl) ?_
    show Runs p e below s _ _ _ (T.setTop (mkF m 4 #[.val (.int x0), .val (.int (x0.toUInt32.toUInt16.toUInt32.toInt32)), .unset, .unset] [(.int (x0.toUInt32.toUInt16.toUInt32.toInt32))]))
    refine Runs.go (fun _ => XS.bipush X.here hx rfl (hb hby at_4)) ?_
    show Runs p e below s _ _ _ (T.setTop (mkF m 6 #[.val (.int x0), .val (.int (x0.toUInt32.toUInt16.toUInt32.toInt32)), .unset, .unset] [(.int (32 : Int32)), (.int (x0.toUInt32.toUInt16.toUInt32.toInt32))]))
    refine Runs.go (fun _ => XS.ior X.here hx rfl (hb hby at_6) rfl) ?_
    show Runs p e below s _ _ _ (T.setTop (mkF m 7 #[.val (.int x0), .val (.int (x0.toUInt32.toUInt16.toUInt32.toInt32)), .unset, .unset] [(.int ((x0.toUInt32.toUInt16.toUInt32.toInt32) ||| (32 : Int32)))]))
    refine Runs.go (fun _ => XS.istoreN X.here hx rfl (hb hby at_7) rfl (l' := #[.val (.int x0), .val (.int (x0.toUInt32.toUInt16.toUInt32.toInt32)), .val (.int ((x0.toUInt32.toUInt16.toUInt32.toInt32) ||| (32 : Int32))), .unset]) rfl) ?_
    show Runs p e below s _ _ _ (T.setTop (mkF m 8 #[.val (.int x0), .val (.int (x0.toUInt32.toUInt16.toUInt32.toInt32)), .val (.int ((x0.toUInt32.toUInt16.toUInt32.toInt32) ||| (32 : Int32))), .unset] []))
    refine Runs.go (fun _ => XS.iloadN X.here hx rfl (hb hby at_8) rfl) ?_
    show Runs p e below s _ _ _ (T.setTop (mkF m 9 #[.val (.int x0), .val (.int (x0.toUInt32.toUInt16.toUInt32.toInt32)), .val (.int ((x0.toUInt32.toUInt16.toUInt32.toInt32) ||| (32 : Int32))), .unset] [(.int ((x0.toUInt32.toUInt16.toUInt32.toInt32) ||| (32 : Int32)))]))
    refine Runs.go (fun _ => XS.bipush X.here hx rfl (hb hby at_9)) ?_
    show Runs p e below s _ _ _ (T.setTop (mkF m 11 #[.val (.int x0), .val (.int (x0.toUInt32.toUInt16.toUInt32.toInt32)), .val (.int ((x0.toUInt32.toUInt16.toUInt32.toInt32) ||| (32 : Int32))), .unset] [(.int (97 : Int32)), (.int ((x0.toUInt32.toUInt16.toUInt32.toInt32) ||| (32 : Int32)))]))
    by_cases hc11 : ((x0.toUInt32.toUInt16.toUInt32.toInt32) ||| (32 : Int32)) < (97 : Int32)
    · have hv := (if_pos hc11).symm.trans hv
      refine Runs.go (fun _ => XS.icmpYes X.here hx rfl (pc0 := 11) (pc' := 24) rfl (hb hby at_11) rfl (tlt hc11).1 (by decide) (by decide)) ?_
      show Runs p e below s _ _ _ (T.setTop (mkF m 24 #[.val (.int x0), .val (.int (x0.toUInt32.toUInt16.toUInt32.toInt32)), .val (.int ((x0.toUInt32.toUInt16.toUInt32.toInt32) ||| (32 : Int32))), .unset] []))
      exact k_24 _ X eT x0 (x0.toUInt32.toUInt16.toUInt32.toInt32) ((x0.toUInt32.toUInt16.toUInt32.toInt32) ||| (32 : Int32)) hv
    · have hv := (if_neg hc11).symm.trans hv
      refine Runs.go (fun _ => XS.icmpNo X.here hx rfl (hb hby at_11) rfl (flt hc11).1) ?_
      show Runs p e below s _ _ _ (T.setTop (mkF m 14 #[.val (.int x0), .val (.int (x0.toUInt32.toUInt16.toUInt32.toInt32)), .val (.int ((x0.toUInt32.toUInt16.toUInt32.toInt32) ||| (32 : Int32))), .unset] []))
      refine Runs.go (fun _ => XS.iloadN X.here hx rfl (hb hby at_14) rfl) ?_
      show Runs p e below s _ _ _ (T.setTop (mkF m 15 #[.val (.int x0), .val (.int (x0.toUInt32.toUInt16.toUInt32.toInt32)), .val (.int ((x0.toUInt32.toUInt16.toUInt32.toInt32) ||| (32 : Int32))), .unset] [(.int ((x0.toUInt32.toUInt16.toUInt32.toInt32) ||| (32 : Int32)))]))
      refine Runs.go (fun _ => XS.bipush X.here hx rfl (hb hby at_15)) ?_
      show Runs p e below s _ _ _ (T.setTop (mkF m 17 #[.val (.int x0), .val (.int (x0.toUInt32.toUInt16.toUInt32.toInt32)), .val (.int ((x0.toUInt32.toUInt16.toUInt32.toInt32) ||| (32 : Int32))), .unset] [(.int (122 : Int32)), (.int ((x0.toUInt32.toUInt16.toUInt32.toInt32) ||| (32 : Int32)))]))
      by_cases hc17 : (122 : Int32) < ((x0.toUInt32.toUInt16.toUInt32.toInt32) ||| (32 : Int32))
      · have hv := (if_pos hc17).symm.trans hv
        refine Runs.go (fun _ => XS.icmpYes X.here hx rfl (pc0 := 17) (pc' := 24) rfl (hb hby at_17) rfl (tlt hc17).2.2.1 (by decide) (by decide)) ?_
        show Runs p e below s _ _ _ (T.setTop (mkF m 24 #[.val (.int x0), .val (.int (x0.toUInt32.toUInt16.toUInt32.toInt32)), .val (.int ((x0.toUInt32.toUInt16.toUInt32.toInt32) ||| (32 : Int32))), .unset] []))
        exact k_24 _ X eT x0 (x0.toUInt32.toUInt16.toUInt32.toInt32) ((x0.toUInt32.toUInt16.toUInt32.toInt32) ||| (32 : Int32)) hv
      · have hv := (if_neg hc17).symm.trans hv
        refine Runs.go (fun _ => XS.icmpNo X.here hx rfl (hb hby at_17) rfl (flt hc17).2.2.1) ?_
        show Runs p e below s _ _ _ (T.setTop (mkF m 20 #[.val (.int x0), .val (.int (x0.toUInt32.toUInt16.toUInt32.toInt32)), .val (.int ((x0.toUInt32.toUInt16.toUInt32.toInt32) ||| (32 : Int32))), .unset] []))
        refine Runs.go (fun _ => XS.iconst X.here hx rfl (hb hby at_20)) ?_
        show Runs p e below s _ _ _ (T.setTop (mkF m 21 #[.val (.int x0), .val (.int (x0.toUInt32.toUInt16.toUInt32.toInt32)), .val (.int ((x0.toUInt32.toUInt16.toUInt32.toInt32) ||| (32 : Int32))), .unset] [(.int (1 : Int32))]))
        refine Runs.go (fun _ => XS.goto X.here hx rfl (pc0 := 21) (pc' := 25) rfl (hb hby at_21) (by decide) (by decide)) ?_
        show Runs p e below s _ _ _ (T.setTop (mkF m 25 #[.val (.int x0), .val (.int (x0.toUInt32.toUInt16.toUInt32.toInt32)), .val (.int ((x0.toUInt32.toUInt16.toUInt32.toInt32) ||| (32 : Int32))), .unset] [(.int (1 : Int32))]))
        exact k_25 _ X eT x0 (x0.toUInt32.toUInt16.toUInt32.toInt32) ((x0.toUInt32.toUInt16.toUInt32.toInt32) ||| (32 : Int32)) (1 : Int32) hv
  exact k_0 _ X0 e0 hF
set_option maxRecDepth 65536 in
set_option maxHeartbeats 40000000 in
theorem comes_1 {Post : Tables → Env → Array Value → State → Outcome → State → Prop} (hpost : ∀ tb e args s v u, (limb_1_1.after args s (.returned v) u = true ∧ limb_1_2.after args s (.returned v) u = true ∧ True) → FrameEnd s (.returned v) u (Jvm.fieldLocs frame_1_writes args s ++ Jvm.arrayLocs frame_1_arrays args s ++ Jvm.staticLocs frame_1_statics s) 0 0 → Post tb e args s (.returned v) u) :
    ArmFor flags0 classFile x code maxLocals ret World_1 tables_1 room_1 Calls_1 rest_1 Pre_1 Post := by
  intro l hfl _ _ p e ha hc hk s m args below hf hA hF happ hP
  obtain ⟨hcalls, hrest, hpre⟩ := hP
  obtain ⟨-, -, -, hnamed, -, -, -, hat⟩ := (Spec.applies_iff hf).mp happ
  obtain ⟨hg, hn⟩ := and_e (Cond.before_iff.mp (show (Jvm.Cond.and given_1 narrow_1).before args s = true from hpre))
  obtain ⟨hcnt, hg⟩ := and_e hg
  obtain ⟨w0, rfl⟩ : ∃ w0 : Value, args = #[w0] := by
    have hs : args.size = 1 := by simpa [Cond.value, given_1] using hcnt
    obtain ⟨L⟩ := args
    match L, hs with
    | [w0], _ => exact ⟨w0, rfl⟩
  have ga0 := hg
  obtain ⟨i0, ei0⟩ := is_v ga0
  obtain rfl : w0 = (.int i0) := Option.some.inj ei0
  have hw := fun d (hd : d ∈ tables_1) => atoms_spec (ws := Jvm.Cond.code x code maxLocals ret :: tables_1) hat d (List.mem_cons_of_mem _ hd)
  obtain ⟨n, o, h1, h2, h3, _, L, rfl, ⟨rfl, rfl, hheap⟩, hq⟩ := rm0 l s _ hw tables_1 i0 s.heap p e ha hc hk s m _ below hf ((Spec.applies_iff_loose hf).mp happ).1 ⟨rfl, State.Warmed39.refl s, rfl⟩ trivial
  rw [law_true i0] at hq h3
  exact ⟨n, _, h1, h2, h3, hpost _ _ _ _ _ _ ⟨Cond.after_iff.mpr rfl, Cond.after_iff.mpr (eq_i res_at (Term.int_eval (1)) rfl), trivial⟩ ⟨hq.1, hq.2.1, (hq.2.2.sift fun y hy => nomatch hy).mono (by decide) (by decide)⟩⟩
theorem main_1_1 : Claimed_1_1 := comes_1 fun _ _ _ _ _ _ h hF => ⟨h.1, hF⟩
theorem main_1_2 : Claimed_1_2 := comes_1 fun _ _ _ _ _ _ h hF => ⟨h.2.1, hF⟩
end Jvm.Pilot.@@N@@
namespace Jvm.Pilot.@@N@@
open Jvm Jvm.ClassFile Sem Op Lib Jvm.Free Jvm.Stand Jvm.Pilot.@@N@@.Jvm.D
/-! MADE BY PROGRAM (witnessworld.py) out of the Statement's table words and the real class files: 9 classes; the members and pool entries that the words name. The judged class is class 1, her method 1. -/
namespace start1
open Jvm.ClassFile
def u (s : String) : CpInfo := .utf8 (stringToUtf16 s)
/-- a pool by its gaps: so many unusable entries, then the entry; so many at the end -/
def gap : Nat → List CpInfo → List CpInfo
  | 0, r => r
  | n + 1, r => .unusable :: gap n r
def poolList (es : List (Nat × CpInfo)) (last : Nat) : List CpInfo := es.foldr (fun e r => gap e.1 (e.2 :: r)) (gap last [])
def pool (es : List (Nat × CpInfo)) (last : Nat) : Array CpInfo := ⟨poolList es last⟩
def fileOf (pool : Array CpInfo) (this : Nat) (attrs : Array Attribute := #[]) (ms : Array MethodInfo := #[]) (fl : Nat := 33) (sup : Nat := 0) (ifs : Array Nat := #[]) (fds : Array FieldInfo := #[]) : ClassFile where
  minorVersion := 0
  majorVersion := 65
  constantPool := pool
  accessFlags := fl
  thisClass := this
  superClass := sup
  interfaces := ifs
  fields := fds
  methods := ms
  attributes := attrs
def plain (name : String) (sup : Option ClassId) : Class where
  name := name
  kind := .ordinary
  loader := none
  accessFlags := 33
  super := sup
  interfaces := #[]
  cf := none
  fields := #[]
  methods := #[]
  instanceTypes := #[]
  staticTypes := #[]
  resolved := #[]
  callSites := []
  init := .initialized
  statics := none
  mirror := none

def pool0 : Array CpInfo := pool [(5, u "<init>"), (0, u "()V"), (1, .class_ 10), (1, u "java/lang/Object")] 113

def k0m0 : Method := { name := "<init>", desc := "()V", sig := { parameters := [], returnType := none }, accessFlags := 1, code := none }
/-- java/lang/Object -/
def k0 : Class := { plain "java/lang/Object" none with
  accessFlags := 33
  interfaces := #[]
  cf := some (fileOf pool0 8 #[] #[{ accessFlags := 1, nameIndex := 5, descriptorIndex := 6, attributes := #[] }] 33 0 #[] #[])
  fields := #[]
  methods := #[k0m0]
  instanceTypes := #[]
  staticTypes := #[]
  resolved := Array.replicate 124 none
  statics := none }

def pool1 : Array CpInfo := pool [(2, .class_ 4), (1, u "java/lang/Object"), (0, u "<init>"), (0, u "()V"), (0, .methodref 8 9), (0, .class_ 10), (0, .nameAndType 11 12), (0, u "com/example/octetline/octetline/Ascii"), (0, u "isLetter"), (0, u "(C)Z"), (0, .class_ 14), (0, u "com/example/octetline/octetline/AsciiIsLetterPinLaw"), (2, u "law"), (0, u "(I)Z")] 3

def k1m0 : Method := { name := "<init>", desc := "()V", sig := { parameters := [], returnType := none }, accessFlags := 2, code := none }
def k1c1 : Code := { maxStack := 2, maxLocals := 4, code := code, exceptionTable := #[], attributes := #[] }
def k1m1 : Method := { name := "law", desc := "(I)Z", sig := { parameters := [.int], returnType := some .boolean }, accessFlags := 9, code := some k1c1 }
/-- com/example/octetline/octetline/AsciiIsLetterPinLaw -/
def k1 : Class := { plain "com/example/octetline/octetline/AsciiIsLetterPinLaw" (some 0) with
  accessFlags := 49
  interfaces := #[]
  cf := some (fileOf pool1 13 #[] #[{ accessFlags := 2, nameIndex := 5, descriptorIndex := 6, attributes := #[] }, { accessFlags := 9, nameIndex := 17, descriptorIndex := 18, attributes := #[] }] 49 2 #[] #[])
  fields := #[]
  methods := #[k1m0, k1m1]
  instanceTypes := #[]
  staticTypes := #[]
  resolved := Array.replicate 22 none
  statics := none }

def pool2 : Array CpInfo := pool [(2, .class_ 4), (1, u "java/lang/Object"), (0, u "<init>"), (0, u "()V"), (1, .class_ 10), (1, u "com/example/octetline/octetline/Ascii"), (1, u "(C)Z"), (12, u "isLetter")] 5

def k2m0 : Method := { name := "<init>", desc := "()V", sig := { parameters := [], returnType := none }, accessFlags := 2, code := none }
def k2c1 : Code := { maxStack := 2, maxLocals := 1, code := prog_1_method_2_code, exceptionTable := #[], attributes := #[] }
def k2m1 : Method := { name := "isLetter", desc := "(C)Z", sig := { parameters := [.char], returnType := some .boolean }, accessFlags := 8, code := some k2c1 }
/-- com/example/octetline/octetline/Ascii -/
def k2 : Class := { plain "com/example/octetline/octetline/Ascii" (some 0) with
  accessFlags := 48
  interfaces := #[]
  cf := some (fileOf pool2 8 #[] #[{ accessFlags := 2, nameIndex := 5, descriptorIndex := 6, attributes := #[] }, { accessFlags := 8, nameIndex := 25, descriptorIndex := 12, attributes := #[] }] 48 2 #[] #[])
  fields := #[]
  methods := #[k2m0, k2m1]
  instanceTypes := #[]
  staticTypes := #[]
  resolved := Array.replicate 31 none
  statics := none }

def pool3 : Array CpInfo := pool [(1, u "java/lang/Cloneable"), (0, .class_ 1), (0, u "java/lang/Object"), (0, .class_ 3)] 3

/-- java/lang/Cloneable -/
def k3 : Class := { plain "java/lang/Cloneable" (some 0) with
  accessFlags := 1537
  interfaces := #[]
  cf := some (fileOf pool3 2 #[] #[] 1537 4 #[] #[])
  fields := #[]
  methods := #[]
  instanceTypes := #[]
  staticTypes := #[]
  resolved := Array.replicate 8 none
  statics := none }

def pool4 : Array CpInfo := pool [(1, u "java/io/Serializable"), (0, .class_ 1), (0, u "java/lang/Object"), (0, .class_ 3)] 3

/-- java/io/Serializable -/
def k4 : Class := { plain "java/io/Serializable" (some 0) with
  accessFlags := 1537
  interfaces := #[]
  cf := some (fileOf pool4 2 #[] #[] 1537 4 #[] #[])
  fields := #[]
  methods := #[]
  instanceTypes := #[]
  staticTypes := #[]
  resolved := Array.replicate 8 none
  statics := none }

/-- the primitive byte -/
def k5 : Class := { plain "byte" none with kind := .primitive 'B', accessFlags := 0x411 }
/-- [B -/
def k6 : Class := { plain "[B" (some 0) with kind := .array 5 .byte, interfaces := #[3, 4], accessFlags := 1041 }

/-- the primitive int -/
def k7 : Class := { plain "int" none with kind := .primitive 'I', accessFlags := 0x411 }
/-- [I -/
def k8 : Class := { plain "[I" (some 0) with kind := .array 7 .int, interfaces := #[3, 4], accessFlags := 1041 }

def heap : Heap := #[]
def classes : Array Class := #[k0, k1, k2, k3, k4, k5, k6, k7, k8]
def interned : List (Array UInt16 × Addr) := []
def slotsUsed : Nat := 0
def theMethod : MethodId := ⟨1, 1⟩
def args0 : Array Value := #[.int 7]
def aboutOver (below : List Frame) : State where
  vm := { classes := classes, interned := interned.toArray }
  heap := heap
  slotsUsed := slotsUsed
  threads := #[{ frames := .invoking theMethod args0 :: below }]
def below0 : List Frame := [.native { method := ⟨0, 0⟩, args := #[] }]
def about1 : State := aboutOver below0
def p0 : Program := .bare "" "" ""
def e0 : Env := launch0.env 0 0 0
theorem w_frames : about1.frames = Frame.invoking theMethod args0 :: below0 := rfl
set_option maxRecDepth 65536 in
theorem w_args : argsFit about1.vm theMethod args0 = true := by decide +kernel
set_option maxRecDepth 65536 in
theorem w_heap : heapFits about1 = true := by decide +kernel
set_option maxRecDepth 65536 in
theorem w_runnable : about1.curStatus? = some .runnable := by decide +kernel
set_option maxRecDepth 65536 in
theorem w_alone : about1.alone = true := by decide +kernel
set_option maxRecDepth 65536 in
theorem w_named : about1.methodNamed? x = some theMethod := by decide +kernel
set_option maxRecDepth 65536 in
theorem w_hears : about1.hears theMethod below0 = true := by decide +kernel
set_option maxRecDepth 65536 in
theorem w_ripe : about1.ripe theMethod args0 below0 = true := by decide +kernel
theorem w_running : about1.status = .running := rfl
set_option maxRecDepth 65536 in
theorem w_room : about1.hasRoom e0.platform room_1 = true :=
  launch0.hasRoom_least _ room_1 (by decide +kernel) (by decide +kernel) (by decide +kernel) (by decide +kernel) (by decide +kernel) (by decide +kernel)
theorem allAtoms_all (ts : List Jvm.Cond) (a : Array Jvm.Value) (st : Jvm.State) : (allAtoms ts).before a st = ts.all (fun c => c.before a st) := by
  induction ts with
  | nil => rfl
  | cons c t ih =>
    show (Jvm.Cond.and c (allAtoms t)).before a st = _
    rw [Jvm.Cond.before_and, ih, List.all_cons]
def words1 : List Jvm.Cond := Jvm.Cond.code x code maxLocals ret :: tables_1
/-- a 'code' word, met by the world's own term for the bytes: nothing is compared byte by byte -/
theorem code_word {y : MethodName} {bytes : ByteArray} {mx : Nat} {rt : Option FieldType} {a : Array Value} {s : State} {m : MethodId} {meth : Method} {c : Code} (h1 : s.methodNamed? y = some m) (h2 : s.vm.method? m = some meth) (h3 : meth.code = some c) (h4 : c.code = bytes)
    (h5 : (c.maxLocals == mx && c.exceptionTable.isEmpty && decide (c.maxStack ≤ mostOperands) && decide (meth.sig.returnType = rt) && !meth.locks && decide (parseMethodDescriptor y.desc = some meth.sig)) = true) : (Jvm.Cond.code y bytes mx rt).before a s = true := by
  simp only [Bool.and_eq_true, beq_iff_eq, Bool.not_eq_true', decide_eq_true_eq] at h5
  obtain ⟨⟨⟨⟨⟨g1, g2⟩, g3⟩, g4⟩, g5⟩, g6⟩ := h5
  simp [Cond.before, Cond.holds, Cond.value, h1, h2, h3, h4, g1, g2, g3, g4, g5, g6]
def isCode : Jvm.Cond → Bool
  | .code _ _ _ _ => true
  | _ => false
theorem all_split {L : List Jvm.Cond} {P : Jvm.Cond → Bool} (h1 : L.all (fun c => isCode c || P c) = true) (h2 : ∀ c ∈ L.filter isCode, P c = true) : L.all P = true := by
  refine List.all_eq_true.mpr fun c hc => ?_
  have h := List.all_eq_true.mp h1 c hc
  rcases Bool.eq_false_or_eq_true (isCode c) with hi | hi
  · exact h2 c (List.mem_filter.mpr ⟨hc, hi⟩)
  · simpa [hi] using h
set_option maxRecDepth 65536 in
theorem w_c0 : (Jvm.Cond.code x code maxLocals ret).before args0 about1 = true := code_word (m := ⟨1, 1⟩) (meth := k1m1) (c := k1c1) (by decide +kernel) rfl rfl rfl (by decide +kernel)
set_option maxRecDepth 65536 in
theorem w_c1 : (Jvm.Cond.code ({ cls := "com/example/octetline/octetline/Ascii", name := "isLetter", desc := "(C)Z" } : Jvm.MethodName) prog_1_method_2_code (1 : Nat) (Option.some Jvm.ClassFile.FieldType.boolean)).before args0 about1 = true := code_word (m := ⟨2, 1⟩) (meth := k2m1) (c := k2c1) (by decide +kernel) rfl rfl rfl (by decide +kernel)
def codes1 : List Jvm.Cond := [Jvm.Cond.code x code maxLocals ret, Jvm.Cond.code ({ cls := "com/example/octetline/octetline/Ascii", name := "isLetter", desc := "(C)Z" } : Jvm.MethodName) prog_1_method_2_code (1 : Nat) (Option.some Jvm.ClassFile.FieldType.boolean)]
set_option maxRecDepth 65536 in
theorem codes_eq : words1.filter isCode = codes1 := rfl
theorem w_codes : ∀ c ∈ words1.filter isCode, c.before args0 about1 = true := by
  rw [codes_eq]
  intro c hc
  simp only [codes1, List.mem_cons, List.not_mem_nil, or_false] at hc
  rcases hc with rfl | rfl
  · exact w_c0
  · exact w_c1
set_option maxRecDepth 65536 in
theorem w_t1 : words1.all (fun c => isCode c || c.before args0 about1) = true := by decide +kernel
theorem w_tables : (allAtoms (Jvm.Cond.code x code maxLocals ret :: tables_1)).before args0 about1 = true := by
  rw [allAtoms_all]
  show words1.all (fun c => c.before args0 about1) = true
  refine all_split ?_ w_codes
  rw [w_t1]
set_option maxRecDepth 65536 in
theorem w_case : (Jvm.Cond.and given_1 narrow_1).before args0 about1 = true := by decide +kernel
theorem w_applies : (headSpec (Jvm.Cond.code x code maxLocals ret :: tables_1) room_1).applies x e0.platform about1 = true :=
  (Spec.applies_iff w_frames).mpr ⟨w_running, w_runnable, w_alone, w_named, w_hears, w_ripe, w_room, w_tables⟩
theorem atStart : AtStart classFile x code maxLocals ret World_1 tables_1 room_1 Calls_1 rest_1 Pre_1 launch0 p0 e0 about1 theMethod args0 below0 :=
  ⟨lists_1, trivial, launch0.admits_env _ _ _, launch0.least_env, fairChoices_fair.cas, fairChoices_fair.clock, w_frames, w_args, w_heap, w_applies, trivial, trivial, w_case⟩
end start1
theorem witness_1 : WitnessClaimed_1 := ⟨start1.p0, start1.e0, start1.about1, start1.theMethod, start1.args0, start1.below0, start1.atStart⟩
end Jvm.Pilot.@@N@@
