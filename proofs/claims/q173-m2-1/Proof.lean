import JvmDerived
import JvmDerived.Pilot.@@N@@Statement
import JvmDerived.Pilot.@@N@@Code
set_option linter.unusedVariables false
set_option linter.unusedSimpArgs false

namespace Jvm.Pilot.@@N@@
open Jvm Jvm.ClassFile Sem Op Lib Jvm.Free Jvm.Stand Jvm.LawKit Jvm.RoadKit Bundle Jvm.Pilot.@@N@@.Jvm.D
def QH (w : Value) (n0 : Nat) (v : Option Value) (h : Heap) (L : List Loc) : Prop := v = some w ∧ Fr n0 L
def own_at (l : List Int32) (j : Int32) : Int32 := l.getD j.toNatClampNeg 0
theorem own_getD (l : List Int32) (j : Int32) : (List.map Value.int l).getD j.toNatClampNeg (.int (0 : Int32)) = .int (own_at l j) := by
  simp only [own_at, List.getD_eq_getElem?_getD, List.getElem?_map]
  cases l[j.toNatClampNeg]? <;> rfl
def own_atJ (l : List Int64) (j : Int32) : Int64 := l.getD j.toNatClampNeg 0
theorem own_getDJ (l : List Int64) (j : Int32) : (List.map Value.long l).getD j.toNatClampNeg (.long (0 : Int64)) = .long (own_atJ l j) := by
  simp only [own_atJ, List.getD_eq_getElem?_getD, List.getElem?_map]
  cases l[j.toNatClampNeg]? <;> rfl
def QP (w : Value) (h0 : Heap) (v : Option Value) (h : Heap) (L : List Loc) : Prop := v = some w ∧ L = [] ∧ h = h0
def Runs (p : Program) (e : Env) (below : List Frame) (s : State) (Q : Option Value → Heap → List Loc → Prop) (k n : Nat) (A : State) : Prop :=
  ∃ s₂ o, Steps p.tables e below A s₂ ∧ s₂.status = .running ∧ Ended s₂ below o ∧ ∃ v L, o = .returned v ∧ Q v s₂.heap L ∧ FrameEnd s o s₂ L k n
section Ends
variable {p : Program} {l : Launch} {e : Env} {R : Room} {s : State} {m : MethodId} {args : Array Value} {below : List Frame} {meth : Method} {c : Code} {T A B : State} {locs : List Loc} {cells slots : Nat} {Q : Option Value → Heap → List Loc → Prop} {k n pc : Nat} {Ls : Array Slot} {rest : List Value}
theorem Runs.go (h : ∀ t, Steps p.tables e below B t → Steps p.tables e below A t) (q : Runs p e below s Q k n B) : Runs p e below s Q k n A := by
  obtain ⟨s₂, o, h1, h2⟩ := q; exact ⟨s₂, o, h _ h1, h2⟩
theorem Runs.endI (X : Stand p l e R s m args below meth c T locs cells slots) (hx : p.tables.exec = Jvm.exec) {z : Int32} (hret : meth.sig.returnType = some .int) (hl : meth.locks = false) (hd : decode c.code pc = .ok (.ireturn, 1)) (hQ : Q (some (.int z)) T.heap locs) (hk : cells ≤ k) (hn : slots ≤ n) : Runs p e below s Q k n (T.setTop (mkF m pc Ls (.int z :: rest))) := by
  obtain ⟨fs, hr, hrun, hended, hW, hsame⟩ := X.leave (v := some (.int z)) (fun h => by rw [hret] at h; cases h) hl
  exact ⟨_, _, retOut X hx hret rfl (Or.inl ⟨rfl, Or.inl rfl, _, rfl⟩) hd hr, hrun, hended, _, _, rfl, hQ, ⟨_, rfl⟩, hW, hsame.mono hk hn⟩
theorem Runs.endJ (X : Stand p l e R s m args below meth c T locs cells slots) (hx : p.tables.exec = Jvm.exec) {z : Int64} (hret : meth.sig.returnType = some .long) (hl : meth.locks = false) (hd : decode c.code pc = .ok (.lreturn, 1)) (hQ : Q (some (.long z)) T.heap locs) (hk : cells ≤ k) (hn : slots ≤ n) : Runs p e below s Q k n (T.setTop (mkF m pc Ls (.long z :: rest))) := by
  obtain ⟨fs, hr, hrun, hended, hW, hsame⟩ := X.leave (v := some (.long z)) (fun h => by rw [hret] at h; cases h) hl
  exact ⟨_, _, retOut X hx hret rfl (Or.inr (Or.inl ⟨rfl, rfl, _, rfl⟩)) hd hr, hrun, hended, _, _, rfl, hQ, ⟨_, rfl⟩, hW, hsame.mono hk hn⟩
theorem Runs.endN (X : Stand p l e R s m args below meth c T locs cells slots) (hx : p.tables.exec = Jvm.exec) {z : Int32} {t : FieldType} (hret : meth.sig.returnType = some t) (ht : t = .boolean ∨ t = .byte ∨ t = .char ∨ t = .short) (hl : meth.locks = false) (hd : decode c.code pc = .ok (.ireturn, 1)) (hQ : Q (some (.int (nar t z))) T.heap locs) (hk : cells ≤ k) (hn : slots ≤ n) : Runs p e below s Q k n (T.setTop (mkF m pc Ls (.int z :: rest))) := by
  obtain ⟨fs, hr, hrun, hended, hW, hsame⟩ := X.leave (v := some (.int (nar t z))) (fun h => by rw [hret] at h; cases h) hl
  exact ⟨_, _, retN X hx hret ht hd hr, hrun, hended, _, _, rfl, hQ, ⟨_, rfl⟩, hW, hsame.mono hk hn⟩
theorem Runs.endV (X : Stand p l e R s m args below meth c T locs cells slots) (hx : p.tables.exec = Jvm.exec) (hret : meth.sig.returnType = none) (hl : meth.locks = false) (hd : decode c.code pc = .ok (.return_, 1)) (hQ : Q none T.heap locs) (hk : cells ≤ k) (hn : slots ≤ n) : Runs p e below s Q k n (T.setTop (mkF m pc Ls [])) := by
  obtain ⟨fs, hr, hrun, hended, hW, hsame⟩ := X.leave (v := none) (fun _ => rfl) hl
  exact ⟨_, _, X.returnOut hx hret hd hr, hrun, hended, _, _, rfl, hQ, ⟨_, rfl⟩, hW, hsame.mono hk hn⟩
theorem Runs.endR (X : Stand p l e R s m args below meth c T locs cells slots) (hx : p.tables.exec = Jvm.exec) {z : Addr} {t : FieldType} (hret : meth.sig.returnType = some t) (ht : t.isReference = true) (hl : meth.locks = false) (hd : decode c.code pc = .ok (.areturn, 1)) (hQ : Q (some (.ref z)) T.heap locs) (hk : cells ≤ k) (hn : slots ≤ n) : Runs p e below s Q k n (T.setTop (mkF m pc Ls (.ref z :: rest))) := by
  obtain ⟨fs, hr, hrun, hended, hW, hsame⟩ := X.leave (v := some (.ref z)) (fun h => by rw [hret] at h; cases h) hl
  exact ⟨_, _, retOut X hx hret (by cases t <;> first | rfl | cases ht) (Or.inr (Or.inr (Or.inr (Or.inr ⟨rfl, ht, rfl⟩)))) hd hr, hrun, hended, _, _, rfl, hQ, ⟨_, rfl⟩, hW, hsame.mono hk hn⟩
end Ends
theorem nzP {s : Int32} (h : (0 : Int32) < s) : s.toInt64 ≠ 0 := fun q => by
  have := congrArg Int64.toInt q; rw [c_i2l] at this
  rw [Int32.lt_iff_toInt_lt] at h
  have e : (0 : Int32).toInt = 0 := by decide
  have e' : (0 : Int64).toInt = 0 := by decide
  omega
theorem nzN {s : Int32} (h : ¬ (0 : Int32) < s) (h' : ¬ s = (0 : Int32)) : (-s.toInt64) ≠ 0 := fun q => by
  have := congrArg Int64.toInt q
  have q1 := c_lneg s.toInt64; have q2 := rng64 (-s.toInt64); have q3 := rng32 s
  rw [c_i2l] at q1
  rw [Int32.lt_iff_toInt_lt] at h
  rw [← Int32.toInt_inj] at h'
  have e : (0 : Int32).toInt = 0 := by decide
  have e' : (0 : Int64).toInt = 0 := by decide
  omega

def f1_0 (x0 : Int64) (x1 : Int32) : Int32 := (if (lcmpW x0 ((20 : Int64) * (x1.toInt64))) < (0 : Int32) then (1 : Int32) else (0 : Int32))
def F1 (x0 : Int64) (x1 : Int32) : Int32 := f1_0 x0 x1
def f2_0 (x0 : Int64) (x1 : Int32) : Int32 := (if (0 : Int32) < x1 then (if (lcmpW (x0 / (x1.toInt64)) (20 : Int64)) < (0 : Int32) then (1 : Int32) else (0 : Int32)) else (if x1 = (0 : Int32) then (if (lcmpW x0 (0 : Int64)) < (0 : Int32) then (1 : Int32) else (0 : Int32)) else (if (lcmpW x0 (0 : Int64)) < (0 : Int32) then (if (lcmpW ((-(x0 + (1 : Int64))) / (-(x1.toInt64))) (20 : Int64)) < (0 : Int32) then (0 : Int32) else (1 : Int32)) else (0 : Int32))))
def F2 (x0 : Int64) (x1 : Int32) : Int32 := f2_0 x0 x1
def f0_76  : Int32 := (0 : Int32)
def f0_60 (v8 : Int32) (t0 : Int32) : Int32 := (if v8 = (0 : Int32) then (f0_76) else (if t0 = (0 : Int32) then (f0_76) else (1 : Int32)))
def f0_38 (v2 : Int32) (v6 : Int64) (t0 : Int32) : Int32 := (if (F1 v6 v2) = (F2 v6 v2) then (f0_60 t0 (1 : Int32)) else (f0_60 t0 (0 : Int32)))
def f0_0 (x0 : Int64) (x1 : Int32) (x2 : Int32) : Int32 := (if (F1 x0 x1) = (F2 x0 x1) then (f0_38 x1 (((20 : Int64) * (x1.toInt64)) + (((x2 &&& (7 : Int32)) - (4 : Int32)).toInt64)) (1 : Int32)) else (f0_38 x1 (((20 : Int64) * (x1.toInt64)) + (((x2 &&& (7 : Int32)) - (4 : Int32)).toInt64)) (0 : Int32)))
def F0 (x0 : Int64) (x1 : Int32) (x2 : Int32) : Int32 := f0_0 x0 x1 x2
theorem li32_0 : (0 : Int32).toInt = 0 := by decide
theorem li32_1 : (1 : Int32).toInt = 1 := by decide
theorem li32_4 : (4 : Int32).toInt = 4 := by decide
theorem li32_7 : (7 : Int32).toInt = 7 := by decide
theorem li64_m1 : (-1 : Int64).toInt = -1 := by decide
theorem li64_0 : (0 : Int64).toInt = 0 := by decide
theorem li64_1 : (1 : Int64).toInt = 1 := by decide
theorem li64_20 : (20 : Int64).toInt = 20 := by decide

theorem own_F1 (a : Int64) (s : Int32) : F1 a s = if a.toInt < 20 * s.toInt then 1 else 0 := by
  have q1 := c_lmul 20 s.toInt64; have q2 := rng64 (20 * s.toInt64); have q3 := rng32 s
  simp only [F1, f1_0, lw_lt, Int64.lt_iff_toInt_lt, c_i2l, li32_0, li32_1, li32_4, li32_7, li64_m1, li64_0, li64_1, li64_20] at *
  repeat' split
  all_goals first | rfl | omega
theorem own_pos (a s : Int) (hs : 0 < s) : a.tdiv s < 20 ↔ a < 20 * s := by
  by_cases h : 0 ≤ a
  · rw [(tq a s).1 h, Int.ediv_lt_iff_lt_mul hs]
  · have h1 : 0 ≤ (-a) / s := Int.ediv_nonneg (by omega) (by omega)
    rw [(tq a s).2 (by omega)]
    constructor <;> intro <;> omega
theorem own_F2 (a : Int64) (s : Int32) : F2 a s = if a.toInt < 20 * s.toInt then 1 else 0 := by
  have r0 := rng64 a; have r1 := rng32 s
  have z32 : (0 : Int32).toInt = 0 := by decide
  have z64 : (0 : Int64).toInt = 0 := by decide
  have t64 : (20 : Int64).toInt = 20 := by decide
  simp only [F2, f2_0, lw_lt]
  by_cases h1 : (0 : Int32) < s
  · rw [if_pos h1]
    rw [Int32.lt_iff_toInt_lt, z32] at h1
    have e : (a / s.toInt64).toInt = a.toInt.tdiv s.toInt := by
      rw [Int64.toInt_div_of_ne_right _ _ (fun q => by have := congrArg Int64.toInt q; rw [c_i2l] at this; have e1 : (-1 : Int64).toInt = -1 := by decide
                                                       omega), c_i2l]
    have := own_pos a.toInt s.toInt h1
    simp only [Int64.lt_iff_toInt_lt, e, t64]
    by_cases h2 : a.toInt < 20 * s.toInt
    · rw [if_pos (this.mpr h2), if_pos h2]
    · rw [if_neg (fun q => h2 (this.mp q)), if_neg h2]
  · rw [if_neg h1]
    rw [Int32.lt_iff_toInt_lt, z32] at h1
    by_cases h2 : s = (0 : Int32)
    · rw [if_pos h2]; subst h2
      simp only [Int64.lt_iff_toInt_lt, z64, z32]
      repeat' split
      all_goals first | rfl | omega
    · rw [if_neg h2]
      rw [← Int32.toInt_inj, z32] at h2
      by_cases h3 : a < (0 : Int64)
      · rw [if_pos h3]
        rw [Int64.lt_iff_toInt_lt, z64] at h3
        have o64 : (1 : Int64).toInt = 1 := by decide
        have p1 := c_ladd a 1; have p2 := rng64 (a + 1); have p3 := c_lneg (a + 1); have p4 := rng64 (-(a + 1))
        have p5 := c_lneg s.toInt64; have p6 := rng64 (-s.toInt64)
        rw [c_i2l] at p5
        rw [o64] at p1
        have g1 : (-(a + 1)).toInt = -a.toInt - 1 := by omega
        have g2 : (-s.toInt64).toInt = -s.toInt := by omega
        have e : (-(a + 1) / -s.toInt64).toInt = (-a.toInt - 1) / (-s.toInt) := by
          have : (-(a + 1) / -s.toInt64).toInt = (-(a + 1)).toInt.tdiv (-s.toInt64).toInt := by
            rw [Int64.toInt_div_of_ne_right _ _ (fun q => by have := congrArg Int64.toInt q; have e1 : (-1 : Int64).toInt = -1 := by decide
                                                             omega)]
          rw [this, g1, g2, (tq _ _).1 (by omega)]
        have := Int.ediv_lt_iff_lt_mul (a := -a.toInt - 1) (b := 20) (c := -s.toInt) (by omega)
        simp only [Int64.lt_iff_toInt_lt, e, t64]
        by_cases h4 : (-a.toInt - 1) / (-s.toInt) < 20
        · rw [if_pos h4, if_neg]
          have := this.mp h4; omega
        · rw [if_neg h4, if_pos]
          have := fun q => h4 (this.mpr q)
          omega
      · rw [if_neg h3, if_neg]
        rw [Int64.lt_iff_toInt_lt, z64] at h3
        omega
theorem law_true (x0 : Int64) (x1 x2 : Int32) : F0 x0 x1 x2 = 1 := by
  have h : ∀ a s, F1 a s = F2 a s := fun a s => by rw [own_F1, own_F2]
  simp only [F0, f0_0, f0_38, h, if_true]
  rfl

theorem pd_0 : parseMethodDescriptor "(JI)Z" = some ⟨[.long, .int], some .boolean⟩ := by decide +kernel
theorem d1_0 : decode prog_11_method_4_code 0 = .ok (.lload_n 0, 1) := by decide +kernel
theorem d1_1 : decode prog_11_method_4_code 1 = .ok (.ldc2_w 206, 3) := by decide +kernel
theorem d1_4 : decode prog_11_method_4_code 4 = .ok (.iload_n 2, 1) := by decide +kernel
theorem d1_5 : decode prog_11_method_4_code 5 = .ok (.i2l, 1) := by decide +kernel
theorem d1_6 : decode prog_11_method_4_code 6 = .ok (.lmul, 1) := by decide +kernel
theorem d1_7 : decode prog_11_method_4_code 7 = .ok (.lcmp, 1) := by decide +kernel
theorem d1_8 : decode prog_11_method_4_code 8 = .ok (.ifCond .ge 7, 3) := by decide +kernel
theorem d1_11 : decode prog_11_method_4_code 11 = .ok (.iconst 1, 1) := by decide +kernel
theorem d1_12 : decode prog_11_method_4_code 12 = .ok (.goto 4, 3) := by decide +kernel
theorem d1_15 : decode prog_11_method_4_code 15 = .ok (.iconst 0, 1) := by decide +kernel
theorem d1_16 : decode prog_11_method_4_code 16 = .ok (.ireturn, 1) := by decide +kernel
theorem pn_1 : plainName "evenhand/cli/Flood" = true := by first | (simp [plainName, overriddenIn]; done) | decide +kernel
theorem ef_1 (m : MethodId) (x0 : Int64) (x1 : Int32) : entryFrame m #[(.long x0), (.int x1)] 3 = mkF m 0 #[.val (.long x0), .second, .val (.int x1)] [] := by first | (simp [entryFrame, mkF, argsToLocals, Value.category]; done) | rfl
set_option maxRecDepth 65536 in
set_option maxHeartbeats 40000000 in
theorem rm1 (l : Launch) (Z : State) (a0 : Array Value) (hw : ∀ d ∈ tables_1, d.before a0 Z = true) (ws : List Jvm.Cond) (x0 : Int64) (x1 : Int32) (h0 : Heap) :
    MetFree l (⟨"evenhand/cli/Flood", "starved", "(JI)Z"⟩ : MethodName) (head1 (Jvm.Cond.code (⟨"evenhand/cli/Flood", "starved", "(JI)Z"⟩ : MethodName) prog_11_method_4_code 3 (some .boolean) :: ws) ({ frames := 0, cells := 0, slots := 0, locals := 0 } : Room)) (fun a U => a = #[(.long x0), (.int x1)] ∧ Z.Warmed39 U.vm ∧ U.heap = h0) (fun _ _ _ _ _ => True) (fun _ U o U' => ∃ v L, o = .returned v ∧ QP (.int (F1 x0 x1)) h0 v U'.heap L ∧ FrameEnd U o U' L ({ frames := 0, cells := 0, slots := 0, locals := 0 } : Room).cells ({ frames := 0, cells := 0, slots := 0, locals := 0 } : Room).slots) := by
  refine MetFree.of_bodySF (plainFor_of_name pn_1) hisR ?_
  intro p e s m args below meth c s₁ Bd hml0 hP hK
  obtain ⟨rfl, hZ, hh⟩ := hP
  have hx := Bd.exec
  have hby := Bd.bytes
  have hml : c.maxLocals = 3 := hml0
  have hown : s.vm.findClass "evenhand/cli/Flood" = some m.cls := findClass_of_methodNamed Bd.named
  have X0 : Stand p l e ({ frames := 0, cells := 0, slots := 0, locals := 0 } : Room) s m #[(.long x0), (.int x1)] below meth c s₁ [] 0 0 := Stand.of_body Bd
  have e0 : s₁.heap = h0 := by rw [← hh, Bd.state]; rfl
  show Runs p e below s (QP (.int (F1 x0 x1)) h0) ({ frames := 0, cells := 0, slots := 0, locals := 0 } : Room).cells ({ frames := 0, cells := 0, slots := 0, locals := 0 } : Room).slots (s₁.setTop (entryFrame m #[(.long x0), (.int x1)] 3))
  rw [ef_1 m x0 x1]
  obtain ⟨r, hF⟩ : ∃ r, F1 x0 x1 = r := ⟨_, rfl⟩
  rw [hF]
  have k_0 : ∀ (T : State) (X : Stand p l e ({ frames := 0, cells := 0, slots := 0, locals := 0 } : Room) s m #[(.long x0), (.int x1)] below meth c T [] 0 0) (eT : T.heap = h0), f1_0 x0 x1 = r → Runs p e below s (QP (.int r) h0) ({ frames := 0, cells := 0, slots := 0, locals := 0 } : Room).cells ({ frames := 0, cells := 0, slots := 0, locals := 0 } : Room).slots (T.setTop (mkF m 0 #[.val (.long x0), .second, .val (.int x1)] [])) := by
    intro T X eT  hv
    unfold f1_0 at hv
    refine Runs.go (fun _ => XS.lloadN X.here hx rfl (hb hby d1_0) rfl) ?_
    show Runs p e below s _ _ _ (T.setTop (mkF m 1 #[.val (.long x0), .second, .val (.int x1)] [(.long x0)]))
    refine Runs.go (X.ldc2Long hx hown (mvT hZ (hw _ (List.mem_of_getElem? (i := 5) rfl))) (g := (mkF m 1 #[.val (.long x0), .second, .val (.int x1)] [(.long x0)])) rfl (hb hby d1_1)) ?_
    show Runs p e below s _ _ _ (T.setTop (mkF m 4 #[.val (.long x0), .second, .val (.int x1)] [(.long (20 : Int64)), (.long x0)]))
    refine Runs.go (fun _ => XS.iloadN X.here hx rfl (hb hby d1_4) rfl) ?_
    show Runs p e below s _ _ _ (T.setTop (mkF m 5 #[.val (.long x0), .second, .val (.int x1)] [(.int x1), (.long (20 : Int64)), (.long x0)]))
    refine Runs.go (fun _ => XS.i2l X.here hx rfl (hb hby d1_5) rfl) ?_
    show Runs p e below s _ _ _ (T.setTop (mkF m 6 #[.val (.long x0), .second, .val (.int x1)] [(.long (x1.toInt64)), (.long (20 : Int64)), (.long x0)]))
    refine Runs.go (fun _ => XS.lmul X.here hx rfl (hb hby d1_6) rfl) ?_
    show Runs p e below s _ _ _ (T.setTop (mkF m 7 #[.val (.long x0), .second, .val (.int x1)] [(.long ((20 : Int64) * (x1.toInt64))), (.long x0)]))
    refine Runs.go (fun _ => XS.lcmp X.here hx rfl (hb hby d1_7) rfl) ?_
    show Runs p e below s _ _ _ (T.setTop (mkF m 8 #[.val (.long x0), .second, .val (.int x1)] [(.int (lcmpW x0 ((20 : Int64) * (x1.toInt64))))]))
    by_cases hc8 : (lcmpW x0 ((20 : Int64) * (x1.toInt64))) < (0 : Int32)
    · have hv := (if_pos hc8).symm.trans hv
      refine Runs.go (fun _ => XS.ifNo X.here hx rfl (hb hby d1_8) rfl ((if0 _ _).trans (tlt hc8).2.1)) ?_
      show Runs p e below s _ _ _ (T.setTop (mkF m 11 #[.val (.long x0), .second, .val (.int x1)] []))
      refine Runs.go (fun _ => XS.iconst X.here hx rfl (hb hby d1_11)) ?_
      show Runs p e below s _ _ _ (T.setTop (mkF m 12 #[.val (.long x0), .second, .val (.int x1)] [(.int (1 : Int32))]))
      refine Runs.go (fun _ => XS.goto X.here hx rfl (pc0 := 12) (pc' := 16) rfl (hb hby d1_12) (by decide) (by decide)) ?_
      show Runs p e below s _ _ _ (T.setTop (mkF m 16 #[.val (.long x0), .second, .val (.int x1)] [(.int (1 : Int32))]))
      exact Runs.endN X hx (t := .boolean) Bd.returns (by simp) Bd.notSynchronized (hb hby d1_16) ⟨congrArg (fun z => some (Value.int z)) hv, rfl, eT⟩ (by decide) (by decide)
    · have hv := (if_neg hc8).symm.trans hv
      refine Runs.go (fun _ => XS.ifYes X.here hx rfl (pc0 := 8) (pc' := 15) rfl (hb hby d1_8) rfl ((if0 _ _).trans (flt hc8).2.1) (by decide) (by decide)) ?_
      show Runs p e below s _ _ _ (T.setTop (mkF m 15 #[.val (.long x0), .second, .val (.int x1)] []))
      refine Runs.go (fun _ => XS.iconst X.here hx rfl (hb hby d1_15)) ?_
      show Runs p e below s _ _ _ (T.setTop (mkF m 16 #[.val (.long x0), .second, .val (.int x1)] [(.int (0 : Int32))]))
      exact Runs.endN X hx (t := .boolean) Bd.returns (by simp) Bd.notSynchronized (hb hby d1_16) ⟨congrArg (fun z => some (Value.int z)) hv, rfl, eT⟩ (by decide) (by decide)
  exact k_0 _ X0 e0 hF
theorem d2_0 : decode method_3_code 0 = .ok (.iload_n 2, 1) := by decide +kernel
theorem d2_1 : decode method_3_code 1 = .ok (.ifCond .le 20, 3) := by decide +kernel
theorem d2_4 : decode method_3_code 4 = .ok (.lload_n 0, 1) := by decide +kernel
theorem d2_5 : decode method_3_code 5 = .ok (.iload_n 2, 1) := by decide +kernel
theorem d2_6 : decode method_3_code 6 = .ok (.i2l, 1) := by decide +kernel
theorem d2_7 : decode method_3_code 7 = .ok (.ldiv, 1) := by decide +kernel
theorem d2_8 : decode method_3_code 8 = .ok (.ldc2_w 7, 3) := by decide +kernel
theorem d2_11 : decode method_3_code 11 = .ok (.lcmp, 1) := by decide +kernel
theorem d2_12 : decode method_3_code 12 = .ok (.ifCond .ge 7, 3) := by decide +kernel
theorem d2_15 : decode method_3_code 15 = .ok (.iconst 1, 1) := by decide +kernel
theorem d2_16 : decode method_3_code 16 = .ok (.goto 4, 3) := by decide +kernel
theorem d2_19 : decode method_3_code 19 = .ok (.iconst 0, 1) := by decide +kernel
theorem d2_20 : decode method_3_code 20 = .ok (.ireturn, 1) := by decide +kernel
theorem d2_21 : decode method_3_code 21 = .ok (.iload_n 2, 1) := by decide +kernel
theorem d2_22 : decode method_3_code 22 = .ok (.ifCond .ne 15, 3) := by decide +kernel
theorem d2_25 : decode method_3_code 25 = .ok (.lload_n 0, 1) := by decide +kernel
theorem d2_26 : decode method_3_code 26 = .ok (.lconst 0, 1) := by decide +kernel
theorem d2_27 : decode method_3_code 27 = .ok (.lcmp, 1) := by decide +kernel
theorem d2_28 : decode method_3_code 28 = .ok (.ifCond .ge 7, 3) := by decide +kernel
theorem d2_31 : decode method_3_code 31 = .ok (.iconst 1, 1) := by decide +kernel
theorem d2_32 : decode method_3_code 32 = .ok (.goto 4, 3) := by decide +kernel
theorem d2_35 : decode method_3_code 35 = .ok (.iconst 0, 1) := by decide +kernel
theorem d2_36 : decode method_3_code 36 = .ok (.ireturn, 1) := by decide +kernel
theorem d2_37 : decode method_3_code 37 = .ok (.lload_n 0, 1) := by decide +kernel
theorem d2_38 : decode method_3_code 38 = .ok (.lconst 0, 1) := by decide +kernel
theorem d2_39 : decode method_3_code 39 = .ok (.lcmp, 1) := by decide +kernel
theorem d2_40 : decode method_3_code 40 = .ok (.ifCond .lt 5, 3) := by decide +kernel
theorem d2_43 : decode method_3_code 43 = .ok (.iconst 0, 1) := by decide +kernel
theorem d2_44 : decode method_3_code 44 = .ok (.ireturn, 1) := by decide +kernel
theorem d2_45 : decode method_3_code 45 = .ok (.iload_n 2, 1) := by decide +kernel
theorem d2_46 : decode method_3_code 46 = .ok (.i2l, 1) := by decide +kernel
theorem d2_47 : decode method_3_code 47 = .ok (.lneg, 1) := by decide +kernel
theorem d2_48 : decode method_3_code 48 = .ok (.lstore_n 3, 1) := by decide +kernel
theorem d2_49 : decode method_3_code 49 = .ok (.lload_n 0, 1) := by decide +kernel
theorem d2_50 : decode method_3_code 50 = .ok (.lconst 1, 1) := by decide +kernel
theorem d2_51 : decode method_3_code 51 = .ok (.ladd, 1) := by decide +kernel
theorem d2_52 : decode method_3_code 52 = .ok (.lneg, 1) := by decide +kernel
theorem d2_53 : decode method_3_code 53 = .ok (.lstore 5, 2) := by decide +kernel
theorem d2_55 : decode method_3_code 55 = .ok (.lload 5, 2) := by decide +kernel
theorem d2_57 : decode method_3_code 57 = .ok (.lload_n 3, 1) := by decide +kernel
theorem d2_58 : decode method_3_code 58 = .ok (.ldiv, 1) := by decide +kernel
theorem d2_59 : decode method_3_code 59 = .ok (.ldc2_w 7, 3) := by decide +kernel
theorem d2_62 : decode method_3_code 62 = .ok (.lcmp, 1) := by decide +kernel
theorem d2_63 : decode method_3_code 63 = .ok (.ifCond .lt 7, 3) := by decide +kernel
theorem d2_66 : decode method_3_code 66 = .ok (.iconst 1, 1) := by decide +kernel
theorem d2_67 : decode method_3_code 67 = .ok (.goto 4, 3) := by decide +kernel
theorem d2_70 : decode method_3_code 70 = .ok (.iconst 0, 1) := by decide +kernel
theorem d2_71 : decode method_3_code 71 = .ok (.ireturn, 1) := by decide +kernel
theorem pn_2 : plainName "evenhand/cli/FloodStarvedPinLaw" = true := by first | (simp [plainName, overriddenIn]; done) | decide +kernel
theorem ef_2 (m : MethodId) (x0 : Int64) (x1 : Int32) : entryFrame m #[(.long x0), (.int x1)] 7 = mkF m 0 #[.val (.long x0), .second, .val (.int x1), .unset, .unset, .unset, .unset] [] := by first | (simp [entryFrame, mkF, argsToLocals, Value.category]; done) | rfl
set_option maxRecDepth 65536 in
set_option maxHeartbeats 40000000 in
theorem rm2 (l : Launch) (Z : State) (a0 : Array Value) (hw : ∀ d ∈ tables_1, d.before a0 Z = true) (ws : List Jvm.Cond) (x0 : Int64) (x1 : Int32) (h0 : Heap) :
    MetFree l (⟨"evenhand/cli/FloodStarvedPinLaw", "ref", "(JI)Z"⟩ : MethodName) (head1 (Jvm.Cond.code (⟨"evenhand/cli/FloodStarvedPinLaw", "ref", "(JI)Z"⟩ : MethodName) method_3_code 7 (some .boolean) :: ws) ({ frames := 0, cells := 0, slots := 0, locals := 0 } : Room)) (fun a U => a = #[(.long x0), (.int x1)] ∧ Z.Warmed39 U.vm ∧ U.heap = h0) (fun _ _ _ _ _ => True) (fun _ U o U' => ∃ v L, o = .returned v ∧ QP (.int (F2 x0 x1)) h0 v U'.heap L ∧ FrameEnd U o U' L ({ frames := 0, cells := 0, slots := 0, locals := 0 } : Room).cells ({ frames := 0, cells := 0, slots := 0, locals := 0 } : Room).slots) := by
  refine MetFree.of_bodySF (plainFor_of_name pn_2) hisR ?_
  intro p e s m args below meth c s₁ Bd hml0 hP hK
  obtain ⟨rfl, hZ, hh⟩ := hP
  have hx := Bd.exec
  have hby := Bd.bytes
  have hml : c.maxLocals = 7 := hml0
  have hown : s.vm.findClass "evenhand/cli/FloodStarvedPinLaw" = some m.cls := findClass_of_methodNamed Bd.named
  have X0 : Stand p l e ({ frames := 0, cells := 0, slots := 0, locals := 0 } : Room) s m #[(.long x0), (.int x1)] below meth c s₁ [] 0 0 := Stand.of_body Bd
  have e0 : s₁.heap = h0 := by rw [← hh, Bd.state]; rfl
  show Runs p e below s (QP (.int (F2 x0 x1)) h0) ({ frames := 0, cells := 0, slots := 0, locals := 0 } : Room).cells ({ frames := 0, cells := 0, slots := 0, locals := 0 } : Room).slots (s₁.setTop (entryFrame m #[(.long x0), (.int x1)] 7))
  rw [ef_2 m x0 x1]
  obtain ⟨r, hF⟩ : ∃ r, F2 x0 x1 = r := ⟨_, rfl⟩
  rw [hF]
  have k_0 : ∀ (T : State) (X : Stand p l e ({ frames := 0, cells := 0, slots := 0, locals := 0 } : Room) s m #[(.long x0), (.int x1)] below meth c T [] 0 0) (eT : T.heap = h0), f2_0 x0 x1 = r → Runs p e below s (QP (.int r) h0) ({ frames := 0, cells := 0, slots := 0, locals := 0 } : Room).cells ({ frames := 0, cells := 0, slots := 0, locals := 0 } : Room).slots (T.setTop (mkF m 0 #[.val (.long x0), .second, .val (.int x1), .unset, .unset, .unset, .unset] [])) := by
    intro T X eT  hv
    unfold f2_0 at hv
    refine Runs.go (fun _ => XS.iloadN X.here hx rfl (hb hby d2_0) rfl) ?_
    show Runs p e below s _ _ _ (T.setTop (mkF m 1 #[.val (.long x0), .second, .val (.int x1), .unset, .unset, .unset, .unset] [(.int x1)]))
    by_cases hc1 : (0 : Int32) < x1
    · have hv := (if_pos hc1).symm.trans hv
      refine Runs.go (fun _ => XS.ifNo X.here hx rfl (hb hby d2_1) rfl ((if0 _ _).trans (tlt hc1).2.2.2)) ?_
      show Runs p e below s _ _ _ (T.setTop (mkF m 4 #[.val (.long x0), .second, .val (.int x1), .unset, .unset, .unset, .unset] []))
      refine Runs.go (fun _ => XS.lloadN X.here hx rfl (hb hby d2_4) rfl) ?_
      show Runs p e below s _ _ _ (T.setTop (mkF m 5 #[.val (.long x0), .second, .val (.int x1), .unset, .unset, .unset, .unset] [(.long x0)]))
      refine Runs.go (fun _ => XS.iloadN X.here hx rfl (hb hby d2_5) rfl) ?_
      show Runs p e below s _ _ _ (T.setTop (mkF m 6 #[.val (.long x0), .second, .val (.int x1), .unset, .unset, .unset, .unset] [(.int x1), (.long x0)]))
      refine Runs.go (fun _ => XS.i2l X.here hx rfl (hb hby d2_6) rfl) ?_
      show Runs p e below s _ _ _ (T.setTop (mkF m 7 #[.val (.long x0), .second, .val (.int x1), .unset, .unset, .unset, .unset] [(.long (x1.toInt64)), (.long x0)]))
      refine Runs.go (fun _ => XS.ldiv X.here hx rfl (hb hby d2_7) rfl (nzP hc1)) ?_
      show Runs p e below s _ _ _ (T.setTop (mkF m 8 #[.val (.long x0), .second, .val (.int x1), .unset, .unset, .unset, .unset] [(.long (x0 / (x1.toInt64)))]))
      refine Runs.go (X.ldc2Long hx hown (mvT hZ (hw _ (List.mem_of_getElem? (i := 0) rfl))) (g := (mkF m 8 #[.val (.long x0), .second, .val (.int x1), .unset, .unset, .unset, .unset] [(.long (x0 / (x1.toInt64)))])) rfl (hb hby d2_8)) ?_
      show Runs p e below s _ _ _ (T.setTop (mkF m 11 #[.val (.long x0), .second, .val (.int x1), .unset, .unset, .unset, .unset] [(.long (20 : Int64)), (.long (x0 / (x1.toInt64)))]))
      refine Runs.go (fun _ => XS.lcmp X.here hx rfl (hb hby d2_11) rfl) ?_
      show Runs p e below s _ _ _ (T.setTop (mkF m 12 #[.val (.long x0), .second, .val (.int x1), .unset, .unset, .unset, .unset] [(.int (lcmpW (x0 / (x1.toInt64)) (20 : Int64)))]))
      by_cases hc12 : (lcmpW (x0 / (x1.toInt64)) (20 : Int64)) < (0 : Int32)
      · have hv := (if_pos hc12).symm.trans hv
        refine Runs.go (fun _ => XS.ifNo X.here hx rfl (hb hby d2_12) rfl ((if0 _ _).trans (tlt hc12).2.1)) ?_
        show Runs p e below s _ _ _ (T.setTop (mkF m 15 #[.val (.long x0), .second, .val (.int x1), .unset, .unset, .unset, .unset] []))
        refine Runs.go (fun _ => XS.iconst X.here hx rfl (hb hby d2_15)) ?_
        show Runs p e below s _ _ _ (T.setTop (mkF m 16 #[.val (.long x0), .second, .val (.int x1), .unset, .unset, .unset, .unset] [(.int (1 : Int32))]))
        refine Runs.go (fun _ => XS.goto X.here hx rfl (pc0 := 16) (pc' := 20) rfl (hb hby d2_16) (by decide) (by decide)) ?_
        show Runs p e below s _ _ _ (T.setTop (mkF m 20 #[.val (.long x0), .second, .val (.int x1), .unset, .unset, .unset, .unset] [(.int (1 : Int32))]))
        exact Runs.endN X hx (t := .boolean) Bd.returns (by simp) Bd.notSynchronized (hb hby d2_20) ⟨congrArg (fun z => some (Value.int z)) hv, rfl, eT⟩ (by decide) (by decide)
      · have hv := (if_neg hc12).symm.trans hv
        refine Runs.go (fun _ => XS.ifYes X.here hx rfl (pc0 := 12) (pc' := 19) rfl (hb hby d2_12) rfl ((if0 _ _).trans (flt hc12).2.1) (by decide) (by decide)) ?_
        show Runs p e below s _ _ _ (T.setTop (mkF m 19 #[.val (.long x0), .second, .val (.int x1), .unset, .unset, .unset, .unset] []))
        refine Runs.go (fun _ => XS.iconst X.here hx rfl (hb hby d2_19)) ?_
        show Runs p e below s _ _ _ (T.setTop (mkF m 20 #[.val (.long x0), .second, .val (.int x1), .unset, .unset, .unset, .unset] [(.int (0 : Int32))]))
        exact Runs.endN X hx (t := .boolean) Bd.returns (by simp) Bd.notSynchronized (hb hby d2_20) ⟨congrArg (fun z => some (Value.int z)) hv, rfl, eT⟩ (by decide) (by decide)
    · have hv := (if_neg hc1).symm.trans hv
      refine Runs.go (fun _ => XS.ifYes X.here hx rfl (pc0 := 1) (pc' := 21) rfl (hb hby d2_1) rfl ((if0 _ _).trans (flt hc1).2.2.2) (by decide) (by decide)) ?_
      show Runs p e below s _ _ _ (T.setTop (mkF m 21 #[.val (.long x0), .second, .val (.int x1), .unset, .unset, .unset, .unset] []))
      refine Runs.go (fun _ => XS.iloadN X.here hx rfl (hb hby d2_21) rfl) ?_
      show Runs p e below s _ _ _ (T.setTop (mkF m 22 #[.val (.long x0), .second, .val (.int x1), .unset, .unset, .unset, .unset] [(.int x1)]))
      by_cases hc22 : x1 = (0 : Int32)
      · have hv := (if_pos hc22).symm.trans hv
        refine Runs.go (fun _ => XS.ifNo X.here hx rfl (hb hby d2_22) rfl ((if0 _ _).trans (teq hc22).2)) ?_
        show Runs p e below s _ _ _ (T.setTop (mkF m 25 #[.val (.long x0), .second, .val (.int x1), .unset, .unset, .unset, .unset] []))
        refine Runs.go (fun _ => XS.lloadN X.here hx rfl (hb hby d2_25) rfl) ?_
        show Runs p e below s _ _ _ (T.setTop (mkF m 26 #[.val (.long x0), .second, .val (.int x1), .unset, .unset, .unset, .unset] [(.long x0)]))
        refine Runs.go (fun _ => XS.lconst X.here hx rfl (hb hby d2_26)) ?_
        show Runs p e below s _ _ _ (T.setTop (mkF m 27 #[.val (.long x0), .second, .val (.int x1), .unset, .unset, .unset, .unset] [(.long (0 : Int64)), (.long x0)]))
        refine Runs.go (fun _ => XS.lcmp X.here hx rfl (hb hby d2_27) rfl) ?_
        show Runs p e below s _ _ _ (T.setTop (mkF m 28 #[.val (.long x0), .second, .val (.int x1), .unset, .unset, .unset, .unset] [(.int (lcmpW x0 (0 : Int64)))]))
        by_cases hc28 : (lcmpW x0 (0 : Int64)) < (0 : Int32)
        · have hv := (if_pos hc28).symm.trans hv
          refine Runs.go (fun _ => XS.ifNo X.here hx rfl (hb hby d2_28) rfl ((if0 _ _).trans (tlt hc28).2.1)) ?_
          show Runs p e below s _ _ _ (T.setTop (mkF m 31 #[.val (.long x0), .second, .val (.int x1), .unset, .unset, .unset, .unset] []))
          refine Runs.go (fun _ => XS.iconst X.here hx rfl (hb hby d2_31)) ?_
          show Runs p e below s _ _ _ (T.setTop (mkF m 32 #[.val (.long x0), .second, .val (.int x1), .unset, .unset, .unset, .unset] [(.int (1 : Int32))]))
          refine Runs.go (fun _ => XS.goto X.here hx rfl (pc0 := 32) (pc' := 36) rfl (hb hby d2_32) (by decide) (by decide)) ?_
          show Runs p e below s _ _ _ (T.setTop (mkF m 36 #[.val (.long x0), .second, .val (.int x1), .unset, .unset, .unset, .unset] [(.int (1 : Int32))]))
          exact Runs.endN X hx (t := .boolean) Bd.returns (by simp) Bd.notSynchronized (hb hby d2_36) ⟨congrArg (fun z => some (Value.int z)) hv, rfl, eT⟩ (by decide) (by decide)
        · have hv := (if_neg hc28).symm.trans hv
          refine Runs.go (fun _ => XS.ifYes X.here hx rfl (pc0 := 28) (pc' := 35) rfl (hb hby d2_28) rfl ((if0 _ _).trans (flt hc28).2.1) (by decide) (by decide)) ?_
          show Runs p e below s _ _ _ (T.setTop (mkF m 35 #[.val (.long x0), .second, .val (.int x1), .unset, .unset, .unset, .unset] []))
          refine Runs.go (fun _ => XS.iconst X.here hx rfl (hb hby d2_35)) ?_
          show Runs p e below s _ _ _ (T.setTop (mkF m 36 #[.val (.long x0), .second, .val (.int x1), .unset, .unset, .unset, .unset] [(.int (0 : Int32))]))
          exact Runs.endN X hx (t := .boolean) Bd.returns (by simp) Bd.notSynchronized (hb hby d2_36) ⟨congrArg (fun z => some (Value.int z)) hv, rfl, eT⟩ (by decide) (by decide)
      · have hv := (if_neg hc22).symm.trans hv
        refine Runs.go (fun _ => XS.ifYes X.here hx rfl (pc0 := 22) (pc' := 37) rfl (hb hby d2_22) rfl ((if0 _ _).trans (feq hc22).2) (by decide) (by decide)) ?_
        show Runs p e below s _ _ _ (T.setTop (mkF m 37 #[.val (.long x0), .second, .val (.int x1), .unset, .unset, .unset, .unset] []))
        refine Runs.go (fun _ => XS.lloadN X.here hx rfl (hb hby d2_37) rfl) ?_
        show Runs p e below s _ _ _ (T.setTop (mkF m 38 #[.val (.long x0), .second, .val (.int x1), .unset, .unset, .unset, .unset] [(.long x0)]))
        refine Runs.go (fun _ => XS.lconst X.here hx rfl (hb hby d2_38)) ?_
        show Runs p e below s _ _ _ (T.setTop (mkF m 39 #[.val (.long x0), .second, .val (.int x1), .unset, .unset, .unset, .unset] [(.long (0 : Int64)), (.long x0)]))
        refine Runs.go (fun _ => XS.lcmp X.here hx rfl (hb hby d2_39) rfl) ?_
        show Runs p e below s _ _ _ (T.setTop (mkF m 40 #[.val (.long x0), .second, .val (.int x1), .unset, .unset, .unset, .unset] [(.int (lcmpW x0 (0 : Int64)))]))
        by_cases hc40 : (lcmpW x0 (0 : Int64)) < (0 : Int32)
        · have hv := (if_pos hc40).symm.trans hv
          refine Runs.go (fun _ => XS.ifYes X.here hx rfl (pc0 := 40) (pc' := 45) rfl (hb hby d2_40) rfl ((if0 _ _).trans (tlt hc40).1) (by decide) (by decide)) ?_
          show Runs p e below s _ _ _ (T.setTop (mkF m 45 #[.val (.long x0), .second, .val (.int x1), .unset, .unset, .unset, .unset] []))
          refine Runs.go (fun _ => XS.iloadN X.here hx rfl (hb hby d2_45) rfl) ?_
          show Runs p e below s _ _ _ (T.setTop (mkF m 46 #[.val (.long x0), .second, .val (.int x1), .unset, .unset, .unset, .unset] [(.int x1)]))
          refine Runs.go (fun _ => XS.i2l X.here hx rfl (hb hby d2_46) rfl) ?_
          show Runs p e below s _ _ _ (T.setTop (mkF m 47 #[.val (.long x0), .second, .val (.int x1), .unset, .unset, .unset, .unset] [(.long (x1.toInt64))]))
          refine Runs.go (fun _ => XS.lneg X.here hx rfl (hb hby d2_47) rfl) ?_
          show Runs p e below s _ _ _ (T.setTop (mkF m 48 #[.val (.long x0), .second, .val (.int x1), .unset, .unset, .unset, .unset] [(.long (-(x1.toInt64)))]))
          refine Runs.go (fun _ => XS.lstoreN X.here hx rfl (hb hby d2_48) rfl (l' := #[.val (.long x0), .second, .val (.int x1), .val (.long (-(x1.toInt64))), .second, .unset, .unset]) rfl) ?_
          show Runs p e below s _ _ _ (T.setTop (mkF m 49 #[.val (.long x0), .second, .val (.int x1), .val (.long (-(x1.toInt64))), .second, .unset, .unset] []))
          refine Runs.go (fun _ => XS.lloadN X.here hx rfl (hb hby d2_49) rfl) ?_
          show Runs p e below s _ _ _ (T.setTop (mkF m 50 #[.val (.long x0), .second, .val (.int x1), .val (.long (-(x1.toInt64))), .second, .unset, .unset] [(.long x0)]))
          refine Runs.go (fun _ => XS.lconst X.here hx rfl (hb hby d2_50)) ?_
          show Runs p e below s _ _ _ (T.setTop (mkF m 51 #[.val (.long x0), .second, .val (.int x1), .val (.long (-(x1.toInt64))), .second, .unset, .unset] [(.long (1 : Int64)), (.long x0)]))
          refine Runs.go (fun _ => XS.ladd X.here hx rfl (hb hby d2_51) rfl) ?_
          show Runs p e below s _ _ _ (T.setTop (mkF m 52 #[.val (.long x0), .second, .val (.int x1), .val (.long (-(x1.toInt64))), .second, .unset, .unset] [(.long (x0 + (1 : Int64)))]))
          refine Runs.go (fun _ => XS.lneg X.here hx rfl (hb hby d2_52) rfl) ?_
          show Runs p e below s _ _ _ (T.setTop (mkF m 53 #[.val (.long x0), .second, .val (.int x1), .val (.long (-(x1.toInt64))), .second, .unset, .unset] [(.long (-(x0 + (1 : Int64))))]))
          refine Runs.go (fun _ => XS.lstore X.here hx rfl (hb hby d2_53) rfl (l' := #[.val (.long x0), .second, .val (.int x1), .val (.long (-(x1.toInt64))), .second, .val (.long (-(x0 + (1 : Int64)))), .second]) rfl) ?_
          show Runs p e below s _ _ _ (T.setTop (mkF m 55 #[.val (.long x0), .second, .val (.int x1), .val (.long (-(x1.toInt64))), .second, .val (.long (-(x0 + (1 : Int64)))), .second] []))
          refine Runs.go (fun _ => XS.lload X.here hx rfl (hb hby d2_55) rfl) ?_
          show Runs p e below s _ _ _ (T.setTop (mkF m 57 #[.val (.long x0), .second, .val (.int x1), .val (.long (-(x1.toInt64))), .second, .val (.long (-(x0 + (1 : Int64)))), .second] [(.long (-(x0 + (1 : Int64))))]))
          refine Runs.go (fun _ => XS.lloadN X.here hx rfl (hb hby d2_57) rfl) ?_
          show Runs p e below s _ _ _ (T.setTop (mkF m 58 #[.val (.long x0), .second, .val (.int x1), .val (.long (-(x1.toInt64))), .second, .val (.long (-(x0 + (1 : Int64)))), .second] [(.long (-(x1.toInt64))), (.long (-(x0 + (1 : Int64))))]))
          refine Runs.go (fun _ => XS.ldiv X.here hx rfl (hb hby d2_58) rfl (nzN hc1 hc22)) ?_
          show Runs p e below s _ _ _ (T.setTop (mkF m 59 #[.val (.long x0), .second, .val (.int x1), .val (.long (-(x1.toInt64))), .second, .val (.long (-(x0 + (1 : Int64)))), .second] [(.long ((-(x0 + (1 : Int64))) / (-(x1.toInt64))))]))
          refine Runs.go (X.ldc2Long hx hown (mvT hZ (hw _ (List.mem_of_getElem? (i := 0) rfl))) (g := (mkF m 59 #[.val (.long x0), .second, .val (.int x1), .val (.long (-(x1.toInt64))), .second, .val (.long (-(x0 + (1 : Int64)))), .second] [(.long ((-(x0 + (1 : Int64))) / (-(x1.toInt64))))])) rfl (hb hby d2_59)) ?_
          show Runs p e below s _ _ _ (T.setTop (mkF m 62 #[.val (.long x0), .second, .val (.int x1), .val (.long (-(x1.toInt64))), .second, .val (.long (-(x0 + (1 : Int64)))), .second] [(.long (20 : Int64)), (.long ((-(x0 + (1 : Int64))) / (-(x1.toInt64))))]))
          refine Runs.go (fun _ => XS.lcmp X.here hx rfl (hb hby d2_62) rfl) ?_
          show Runs p e below s _ _ _ (T.setTop (mkF m 63 #[.val (.long x0), .second, .val (.int x1), .val (.long (-(x1.toInt64))), .second, .val (.long (-(x0 + (1 : Int64)))), .second] [(.int (lcmpW ((-(x0 + (1 : Int64))) / (-(x1.toInt64))) (20 : Int64)))]))
          by_cases hc63 : (lcmpW ((-(x0 + (1 : Int64))) / (-(x1.toInt64))) (20 : Int64)) < (0 : Int32)
          · have hv := (if_pos hc63).symm.trans hv
            refine Runs.go (fun _ => XS.ifYes X.here hx rfl (pc0 := 63) (pc' := 70) rfl (hb hby d2_63) rfl ((if0 _ _).trans (tlt hc63).1) (by decide) (by decide)) ?_
            show Runs p e below s _ _ _ (T.setTop (mkF m 70 #[.val (.long x0), .second, .val (.int x1), .val (.long (-(x1.toInt64))), .second, .val (.long (-(x0 + (1 : Int64)))), .second] []))
            refine Runs.go (fun _ => XS.iconst X.here hx rfl (hb hby d2_70)) ?_
            show Runs p e below s _ _ _ (T.setTop (mkF m 71 #[.val (.long x0), .second, .val (.int x1), .val (.long (-(x1.toInt64))), .second, .val (.long (-(x0 + (1 : Int64)))), .second] [(.int (0 : Int32))]))
            exact Runs.endN X hx (t := .boolean) Bd.returns (by simp) Bd.notSynchronized (hb hby d2_71) ⟨congrArg (fun z => some (Value.int z)) hv, rfl, eT⟩ (by decide) (by decide)
          · have hv := (if_neg hc63).symm.trans hv
            refine Runs.go (fun _ => XS.ifNo X.here hx rfl (hb hby d2_63) rfl ((if0 _ _).trans (flt hc63).1)) ?_
            show Runs p e below s _ _ _ (T.setTop (mkF m 66 #[.val (.long x0), .second, .val (.int x1), .val (.long (-(x1.toInt64))), .second, .val (.long (-(x0 + (1 : Int64)))), .second] []))
            refine Runs.go (fun _ => XS.iconst X.here hx rfl (hb hby d2_66)) ?_
            show Runs p e below s _ _ _ (T.setTop (mkF m 67 #[.val (.long x0), .second, .val (.int x1), .val (.long (-(x1.toInt64))), .second, .val (.long (-(x0 + (1 : Int64)))), .second] [(.int (1 : Int32))]))
            refine Runs.go (fun _ => XS.goto X.here hx rfl (pc0 := 67) (pc' := 71) rfl (hb hby d2_67) (by decide) (by decide)) ?_
            show Runs p e below s _ _ _ (T.setTop (mkF m 71 #[.val (.long x0), .second, .val (.int x1), .val (.long (-(x1.toInt64))), .second, .val (.long (-(x0 + (1 : Int64)))), .second] [(.int (1 : Int32))]))
            exact Runs.endN X hx (t := .boolean) Bd.returns (by simp) Bd.notSynchronized (hb hby d2_71) ⟨congrArg (fun z => some (Value.int z)) hv, rfl, eT⟩ (by decide) (by decide)
        · have hv := (if_neg hc40).symm.trans hv
          refine Runs.go (fun _ => XS.ifNo X.here hx rfl (hb hby d2_40) rfl ((if0 _ _).trans (flt hc40).1)) ?_
          show Runs p e below s _ _ _ (T.setTop (mkF m 43 #[.val (.long x0), .second, .val (.int x1), .unset, .unset, .unset, .unset] []))
          refine Runs.go (fun _ => XS.iconst X.here hx rfl (hb hby d2_43)) ?_
          show Runs p e below s _ _ _ (T.setTop (mkF m 44 #[.val (.long x0), .second, .val (.int x1), .unset, .unset, .unset, .unset] [(.int (0 : Int32))]))
          exact Runs.endN X hx (t := .boolean) Bd.returns (by simp) Bd.notSynchronized (hb hby d2_44) ⟨congrArg (fun z => some (Value.int z)) hv, rfl, eT⟩ (by decide) (by decide)
  exact k_0 _ X0 e0 hF
theorem pn_0 : plainName "evenhand/cli/FloodStarvedPinLaw" = true := by first | (simp [plainName, overriddenIn]; done) | decide +kernel
theorem ef_0 (m : MethodId) (x0 : Int64) (x1 : Int32) (x2 : Int32) : entryFrame m #[(.long x0), (.int x1), (.int x2)] maxLocals = mkF m 0 #[.val (.long x0), .second, .val (.int x1), .val (.int x2), .unset, .unset, .unset, .unset, .unset, .unset] [] := by first | (simp [entryFrame, mkF, argsToLocals, Value.category, maxLocals]; done) | rfl
set_option maxRecDepth 65536 in
set_option maxHeartbeats 40000000 in
theorem rm0 (l : Launch) (Z : State) (a0 : Array Value) (hw : ∀ d ∈ tables_1, d.before a0 Z = true) (ws : List Jvm.Cond) (x0 : Int64) (x1 : Int32) (x2 : Int32) (h0 : Heap) :
    MetFree l x (head1 (Jvm.Cond.code x code maxLocals ret :: ws) room_1) (fun a U => a = #[(.long x0), (.int x1), (.int x2)] ∧ Z.Warmed39 U.vm ∧ U.heap = h0) (fun _ _ _ _ _ => True) (fun _ U o U' => ∃ v L, o = .returned v ∧ QP (.int (F0 x0 x1 x2)) h0 v U'.heap L ∧ FrameEnd U o U' L 0 0) := by
  refine MetFree.of_bodySF (plainFor_of_name pn_0) hisR ?_
  intro p e s m args below meth c s₁ Bd hml0 hP hK
  obtain ⟨rfl, hZ, hh⟩ := hP
  have hx := Bd.exec
  have hby := Bd.bytes
  have hml : c.maxLocals = 10 := hml0
  have hown : s.vm.findClass "evenhand/cli/FloodStarvedPinLaw" = some m.cls := findClass_of_methodNamed Bd.named
  have X0 : Stand p l e room_1 s m #[(.long x0), (.int x1), (.int x2)] below meth c s₁ [] 0 0 := Stand.of_body Bd
  have e0 : s₁.heap = h0 := by rw [← hh, Bd.state]; rfl
  show Runs p e below s (QP (.int (F0 x0 x1 x2)) h0) 0 0 (s₁.setTop (entryFrame m #[(.long x0), (.int x1), (.int x2)] maxLocals))
  rw [ef_0 m x0 x1 x2]
  obtain ⟨r, hF⟩ : ∃ r, F0 x0 x1 x2 = r := ⟨_, rfl⟩
  rw [hF]
  have k_76 : ∀ (T : State) (X : Stand p l e room_1 s m #[(.long x0), (.int x1), (.int x2)] below meth c T [] 0 0) (eT : T.heap = h0) (v0 : Int64) (v2 : Int32) (v3 : Int32) (v4 : Int64) (v6 : Int64) (v8 : Int32) (v9 : Int32), f0_76 = r → Runs p e below s (QP (.int r) h0) 0 0 (T.setTop (mkF m 76 #[.val (.long v0), .second, .val (.int v2), .val (.int v3), .val (.long v4), .second, .val (.long v6), .second, .val (.int v8), .val (.int v9)] [])) := by
    intro T X eT v0 v2 v3 v4 v6 v8 v9 hv
    unfold f0_76 at hv
    refine Runs.go (fun _ => XS.iconst X.here hx rfl (hb hby at_76)) ?_
    show Runs p e below s _ _ _ (T.setTop (mkF m 77 #[.val (.long v0), .second, .val (.int v2), .val (.int v3), .val (.long v4), .second, .val (.long v6), .second, .val (.int v8), .val (.int v9)] [(.int (0 : Int32))]))
    exact Runs.endN X hx (t := .boolean) Bd.returns (by simp) Bd.notSynchronized (hb hby at_77) ⟨congrArg (fun z => some (Value.int z)) hv, rfl, eT⟩ (by decide) (by decide)
  have k_60 : ∀ (T : State) (X : Stand p l e room_1 s m #[(.long x0), (.int x1), (.int x2)] below meth c T [] 0 0) (eT : T.heap = h0) (v0 : Int64) (v2 : Int32) (v3 : Int32) (v4 : Int64) (v6 : Int64) (v8 : Int32) (t0 : Int32), f0_60 v8 t0 = r → Runs p e below s (QP (.int r) h0) 0 0 (T.setTop (mkF m 60 #[.val (.long v0), .second, .val (.int v2), .val (.int v3), .val (.long v4), .second, .val (.long v6), .second, .val (.int v8), .unset] [(.int t0)])) := by
    intro T X eT v0 v2 v3 v4 v6 v8 t0 hv
    unfold f0_60 at hv
    refine Runs.go (fun _ => XS.istore X.here hx rfl (hb hby at_60) rfl (l' := #[.val (.long v0), .second, .val (.int v2), .val (.int v3), .val (.long v4), .second, .val (.long v6), .second, .val (.int v8), .val (.int t0)]) rfl) ?_
    show Runs p e below s _ _ _ (T.setTop (mkF m 62 #[.val (.long v0), .second, .val (.int v2), .val (.int v3), .val (.long v4), .second, .val (.long v6), .second, .val (.int v8), .val (.int t0)] []))
    refine Runs.go (fun _ => XS.iload X.here hx rfl (hb hby at_62) rfl) ?_
    show Runs p e below s _ _ _ (T.setTop (mkF m 64 #[.val (.long v0), .second, .val (.int v2), .val (.int v3), .val (.long v4), .second, .val (.long v6), .second, .val (.int v8), .val (.int t0)] [(.int v8)]))
    by_cases hc64 : v8 = (0 : Int32)
    · have hv := (if_pos hc64).symm.trans hv
      refine Runs.go (fun _ => XS.ifYes X.here hx rfl (pc0 := 64) (pc' := 76) rfl (hb hby at_64) rfl ((if0 _ _).trans (teq hc64).1) (by decide) (by decide)) ?_
      show Runs p e below s _ _ _ (T.setTop (mkF m 76 #[.val (.long v0), .second, .val (.int v2), .val (.int v3), .val (.long v4), .second, .val (.long v6), .second, .val (.int v8), .val (.int t0)] []))
      exact k_76 _ X eT v0 v2 v3 v4 v6 v8 t0 hv
    · have hv := (if_neg hc64).symm.trans hv
      refine Runs.go (fun _ => XS.ifNo X.here hx rfl (hb hby at_64) rfl ((if0 _ _).trans (feq hc64).1)) ?_
      show Runs p e below s _ _ _ (T.setTop (mkF m 67 #[.val (.long v0), .second, .val (.int v2), .val (.int v3), .val (.long v4), .second, .val (.long v6), .second, .val (.int v8), .val (.int t0)] []))
      refine Runs.go (fun _ => XS.iload X.here hx rfl (hb hby at_67) rfl) ?_
      show Runs p e below s _ _ _ (T.setTop (mkF m 69 #[.val (.long v0), .second, .val (.int v2), .val (.int v3), .val (.long v4), .second, .val (.long v6), .second, .val (.int v8), .val (.int t0)] [(.int t0)]))
      by_cases hc69 : t0 = (0 : Int32)
      · have hv := (if_pos hc69).symm.trans hv
        refine Runs.go (fun _ => XS.ifYes X.here hx rfl (pc0 := 69) (pc' := 76) rfl (hb hby at_69) rfl ((if0 _ _).trans (teq hc69).1) (by decide) (by decide)) ?_
        show Runs p e below s _ _ _ (T.setTop (mkF m 76 #[.val (.long v0), .second, .val (.int v2), .val (.int v3), .val (.long v4), .second, .val (.long v6), .second, .val (.int v8), .val (.int t0)] []))
        exact k_76 _ X eT v0 v2 v3 v4 v6 v8 t0 hv
      · have hv := (if_neg hc69).symm.trans hv
        refine Runs.go (fun _ => XS.ifNo X.here hx rfl (hb hby at_69) rfl ((if0 _ _).trans (feq hc69).1)) ?_
        show Runs p e below s _ _ _ (T.setTop (mkF m 72 #[.val (.long v0), .second, .val (.int v2), .val (.int v3), .val (.long v4), .second, .val (.long v6), .second, .val (.int v8), .val (.int t0)] []))
        refine Runs.go (fun _ => XS.iconst X.here hx rfl (hb hby at_72)) ?_
        show Runs p e below s _ _ _ (T.setTop (mkF m 73 #[.val (.long v0), .second, .val (.int v2), .val (.int v3), .val (.long v4), .second, .val (.long v6), .second, .val (.int v8), .val (.int t0)] [(.int (1 : Int32))]))
        refine Runs.go (fun _ => XS.goto X.here hx rfl (pc0 := 73) (pc' := 77) rfl (hb hby at_73) (by decide) (by decide)) ?_
        show Runs p e below s _ _ _ (T.setTop (mkF m 77 #[.val (.long v0), .second, .val (.int v2), .val (.int v3), .val (.long v4), .second, .val (.long v6), .second, .val (.int v8), .val (.int t0)] [(.int (1 : Int32))]))
        exact Runs.endN X hx (t := .boolean) Bd.returns (by simp) Bd.notSynchronized (hb hby at_77) ⟨congrArg (fun z => some (Value.int z)) hv, rfl, eT⟩ (by decide) (by decide)
  have k_38 : ∀ (T : State) (X : Stand p l e room_1 s m #[(.long x0), (.int x1), (.int x2)] below meth c T [] 0 0) (eT : T.heap = h0) (v0 : Int64) (v2 : Int32) (v3 : Int32) (v4 : Int64) (v6 : Int64) (t0 : Int32), f0_38 v2 v6 t0 = r → Runs p e below s (QP (.int r) h0) 0 0 (T.setTop (mkF m 38 #[.val (.long v0), .second, .val (.int v2), .val (.int v3), .val (.long v4), .second, .val (.long v6), .second, .unset, .unset] [(.int t0)])) := by
    intro T X eT v0 v2 v3 v4 v6 t0 hv
    unfold f0_38 at hv
    refine Runs.go (fun _ => XS.istore X.here hx rfl (hb hby at_38) rfl (l' := #[.val (.long v0), .second, .val (.int v2), .val (.int v3), .val (.long v4), .second, .val (.long v6), .second, .val (.int t0), .unset]) rfl) ?_
    show Runs p e below s _ _ _ (T.setTop (mkF m 40 #[.val (.long v0), .second, .val (.int v2), .val (.int v3), .val (.long v4), .second, .val (.long v6), .second, .val (.int t0), .unset] []))
    refine Runs.go (fun _ => XS.lload X.here hx rfl (hb hby at_40) rfl) ?_
    show Runs p e below s _ _ _ (T.setTop (mkF m 42 #[.val (.long v0), .second, .val (.int v2), .val (.int v3), .val (.long v4), .second, .val (.long v6), .second, .val (.int t0), .unset] [(.long v6)]))
    refine Runs.go (fun _ => XS.iloadN X.here hx rfl (hb hby at_42) rfl) ?_
    show Runs p e below s _ _ _ (T.setTop (mkF m 43 #[.val (.long v0), .second, .val (.int v2), .val (.int v3), .val (.long v4), .second, .val (.long v6), .second, .val (.int t0), .unset] [(.int v2), (.long v6)]))
    obtain ⟨_, _, ⟨Tc43_3, Lc43_3, kc43_3, nc43_3⟩, -, Xc43_3, ⟨Lcc43_3, ⟨rfl, rfl, ec43_3⟩, lc43_3, yc43_3, zc43_3⟩, stc43_3⟩ := Jvm.LawKit.callS X hx (y := (⟨"evenhand/cli/Flood", "starved", "(JI)Z"⟩ : MethodName)) hown (mvT hZ (hw _ (List.mem_of_getElem? (i := 1) rfl))) (mvT hZ (hw _ (List.mem_of_getElem? (i := 2) rfl))) (mvT hZ (hw _ (List.mem_of_getElem? (i := 3) rfl))) (mvT hZ (hw _ (List.mem_of_getElem? (i := 4) rfl))) (by decide) (backOf (W := 0) (rm1 l Z a0 hw [] v6 v2 h0) hZ (hw _ (List.mem_of_getElem? (i := 4) rfl)) (hw _ (List.mem_of_getElem? (i := 3) rfl)) (by decide) (by decide)) (g := (mkF m 43 #[.val (.long v0), .second, .val (.int v2), .val (.int v3), .val (.long v4), .second, .val (.long v6), .second, .val (.int t0), .unset] [(.int v2), (.long v6)])) rfl (by rw [hml]; rfl) (argsL := [(.long v6), (.int v2)]) (rest := []) (lenOf pd_0 rfl) rfl (by show 2 * 0 + _ ≤ _; exact Nat.le_of_eq rfl) (hb hby at_43) (fun _ _ => ⟨rfl, eT, (by decide : 0 + 0 ≤ _), (by decide : 0 + 0 ≤ _)⟩)
    dsimp only [Pt.U, Pt.locs, Pt.cells, Pt.slots] at Xc43_3 lc43_3 yc43_3 zc43_3 stc43_3 ec43_3
    subst lc43_3 yc43_3 zc43_3
    refine Runs.go stc43_3 ?_
    show Runs p e below s _ _ _ (Tc43_3.setTop (mkF m 46 #[.val (.long v0), .second, .val (.int v2), .val (.int v3), .val (.long v4), .second, .val (.long v6), .second, .val (.int t0), .unset] [(.int (F1 v6 v2))]))
    refine Runs.go (fun _ => XS.lload Xc43_3.here hx rfl (hb hby at_46) rfl) ?_
    show Runs p e below s _ _ _ (Tc43_3.setTop (mkF m 48 #[.val (.long v0), .second, .val (.int v2), .val (.int v3), .val (.long v4), .second, .val (.long v6), .second, .val (.int t0), .unset] [(.long v6), (.int (F1 v6 v2))]))
    refine Runs.go (fun _ => XS.iloadN Xc43_3.here hx rfl (hb hby at_48) rfl) ?_
    show Runs p e below s _ _ _ (Tc43_3.setTop (mkF m 49 #[.val (.long v0), .second, .val (.int v2), .val (.int v3), .val (.long v4), .second, .val (.long v6), .second, .val (.int t0), .unset] [(.int v2), (.long v6), (.int (F1 v6 v2))]))
    obtain ⟨_, _, ⟨Tc49_4, Lc49_4, kc49_4, nc49_4⟩, -, Xc49_4, ⟨Lcc49_4, ⟨rfl, rfl, ec49_4⟩, lc49_4, yc49_4, zc49_4⟩, stc49_4⟩ := Jvm.LawKit.callS Xc43_3 hx (y := (⟨"evenhand/cli/FloodStarvedPinLaw", "ref", "(JI)Z"⟩ : MethodName)) hown (mvT hZ (hw _ (List.mem_of_getElem? (i := 6) rfl))) (mvT hZ (hw _ (List.mem_of_getElem? (i := 7) rfl))) (mvT hZ (hw _ (List.mem_of_getElem? (i := 8) rfl))) (mvT hZ (hw _ (List.mem_of_getElem? (i := 9) rfl))) (by decide) (backOf (W := 1) (rm2 l Z a0 hw [] v6 v2 h0) hZ (hw _ (List.mem_of_getElem? (i := 9) rfl)) (hw _ (List.mem_of_getElem? (i := 8) rfl)) (by decide) (by decide)) (g := (mkF m 49 #[.val (.long v0), .second, .val (.int v2), .val (.int v3), .val (.long v4), .second, .val (.long v6), .second, .val (.int t0), .unset] [(.int v2), (.long v6), (.int (F1 v6 v2))])) rfl (by rw [hml]; rfl) (argsL := [(.long v6), (.int v2)]) (rest := [(.int (F1 v6 v2))]) (lenOf pd_0 rfl) rfl (by show 2 * 0 + _ ≤ _; exact Nat.le_of_eq rfl) (hb hby at_49) (fun _ _ => ⟨rfl, ec43_3, (by decide : 0 + 0 ≤ _), (by decide : 0 + 0 ≤ _)⟩)
    dsimp only [Pt.U, Pt.locs, Pt.cells, Pt.slots] at Xc49_4 lc49_4 yc49_4 zc49_4 stc49_4 ec49_4
    subst lc49_4 yc49_4 zc49_4
    refine Runs.go stc49_4 ?_
    show Runs p e below s _ _ _ (Tc49_4.setTop (mkF m 52 #[.val (.long v0), .second, .val (.int v2), .val (.int v3), .val (.long v4), .second, .val (.long v6), .second, .val (.int t0), .unset] [(.int (F2 v6 v2)), (.int (F1 v6 v2))]))
    by_cases hc52 : (F1 v6 v2) = (F2 v6 v2)
    · have hv := (if_pos hc52).symm.trans hv
      refine Runs.go (fun _ => XS.icmpNo Xc49_4.here hx rfl (hb hby at_52) rfl (teq hc52).2) ?_
      show Runs p e below s _ _ _ (Tc49_4.setTop (mkF m 55 #[.val (.long v0), .second, .val (.int v2), .val (.int v3), .val (.long v4), .second, .val (.long v6), .second, .val (.int t0), .unset] []))
      refine Runs.go (fun _ => XS.iconst Xc49_4.here hx rfl (hb hby at_55)) ?_
      show Runs p e below s _ _ _ (Tc49_4.setTop (mkF m 56 #[.val (.long v0), .second, .val (.int v2), .val (.int v3), .val (.long v4), .second, .val (.long v6), .second, .val (.int t0), .unset] [(.int (1 : Int32))]))
      refine Runs.go (fun _ => XS.goto Xc49_4.here hx rfl (pc0 := 56) (pc' := 60) rfl (hb hby at_56) (by decide) (by decide)) ?_
      show Runs p e below s _ _ _ (Tc49_4.setTop (mkF m 60 #[.val (.long v0), .second, .val (.int v2), .val (.int v3), .val (.long v4), .second, .val (.long v6), .second, .val (.int t0), .unset] [(.int (1 : Int32))]))
      exact k_60 _ Xc49_4 ec49_4 v0 v2 v3 v4 v6 t0 (1 : Int32) hv
    · have hv := (if_neg hc52).symm.trans hv
      refine Runs.go (fun _ => XS.icmpYes Xc49_4.here hx rfl (pc0 := 52) (pc' := 59) rfl (hb hby at_52) rfl (feq hc52).2 (by decide) (by decide)) ?_
      show Runs p e below s _ _ _ (Tc49_4.setTop (mkF m 59 #[.val (.long v0), .second, .val (.int v2), .val (.int v3), .val (.long v4), .second, .val (.long v6), .second, .val (.int t0), .unset] []))
      refine Runs.go (fun _ => XS.iconst Xc49_4.here hx rfl (hb hby at_59)) ?_
      show Runs p e below s _ _ _ (Tc49_4.setTop (mkF m 60 #[.val (.long v0), .second, .val (.int v2), .val (.int v3), .val (.long v4), .second, .val (.long v6), .second, .val (.int t0), .unset] [(.int (0 : Int32))]))
      exact k_60 _ Xc49_4 ec49_4 v0 v2 v3 v4 v6 t0 (0 : Int32) hv
  have k_0 : ∀ (T : State) (X : Stand p l e room_1 s m #[(.long x0), (.int x1), (.int x2)] below meth c T [] 0 0) (eT : T.heap = h0), f0_0 x0 x1 x2 = r → Runs p e below s (QP (.int r) h0) 0 0 (T.setTop (mkF m 0 #[.val (.long x0), .second, .val (.int x1), .val (.int x2), .unset, .unset, .unset, .unset, .unset, .unset] [])) := by
    intro T X eT  hv
    unfold f0_0 at hv
    refine Runs.go (fun _ => XS.iloadN X.here hx rfl (hb hby at_0) rfl) ?_
    show Runs p e below s _ _ _ (T.setTop (mkF m 1 #[.val (.long x0), .second, .val (.int x1), .val (.int x2), .unset, .unset, .unset, .unset, .unset, .unset] [(.int x2)]))
    refine Runs.go (fun _ => XS.bipush X.here hx rfl (hb hby at_1)) ?_
    show Runs p e below s _ _ _ (T.setTop (mkF m 3 #[.val (.long x0), .second, .val (.int x1), .val (.int x2), .unset, .unset, .unset, .unset, .unset, .unset] [(.int (7 : Int32)), (.int x2)]))
    refine Runs.go (fun _ => XS.iand X.here hx rfl (hb hby at_3) rfl) ?_
    show Runs p e below s _ _ _ (T.setTop (mkF m 4 #[.val (.long x0), .second, .val (.int x1), .val (.int x2), .unset, .unset, .unset, .unset, .unset, .unset] [(.int (x2 &&& (7 : Int32)))]))
    refine Runs.go (fun _ => XS.iconst X.here hx rfl (hb hby at_4)) ?_
    show Runs p e below s _ _ _ (T.setTop (mkF m 5 #[.val (.long x0), .second, .val (.int x1), .val (.int x2), .unset, .unset, .unset, .unset, .unset, .unset] [(.int (4 : Int32)), (.int (x2 &&& (7 : Int32)))]))
    refine Runs.go (fun _ => XS.isub X.here hx rfl (hb hby at_5) rfl) ?_
    show Runs p e below s _ _ _ (T.setTop (mkF m 6 #[.val (.long x0), .second, .val (.int x1), .val (.int x2), .unset, .unset, .unset, .unset, .unset, .unset] [(.int ((x2 &&& (7 : Int32)) - (4 : Int32)))]))
    refine Runs.go (fun _ => XS.i2l X.here hx rfl (hb hby at_6) rfl) ?_
    show Runs p e below s _ _ _ (T.setTop (mkF m 7 #[.val (.long x0), .second, .val (.int x1), .val (.int x2), .unset, .unset, .unset, .unset, .unset, .unset] [(.long (((x2 &&& (7 : Int32)) - (4 : Int32)).toInt64))]))
    refine Runs.go (fun _ => XS.lstore X.here hx rfl (hb hby at_7) rfl (l' := #[.val (.long x0), .second, .val (.int x1), .val (.int x2), .val (.long (((x2 &&& (7 : Int32)) - (4 : Int32)).toInt64)), .second, .unset, .unset, .unset, .unset]) rfl) ?_
    show Runs p e below s _ _ _ (T.setTop (mkF m 9 #[.val (.long x0), .second, .val (.int x1), .val (.int x2), .val (.long (((x2 &&& (7 : Int32)) - (4 : Int32)).toInt64)), .second, .unset, .unset, .unset, .unset] []))
    refine Runs.go (X.ldc2Long hx hown (mvT hZ (hw _ (List.mem_of_getElem? (i := 0) rfl))) (g := (mkF m 9 #[.val (.long x0), .second, .val (.int x1), .val (.int x2), .val (.long (((x2 &&& (7 : Int32)) - (4 : Int32)).toInt64)), .second, .unset, .unset, .unset, .unset] [])) rfl (hb hby at_9)) ?_
    show Runs p e below s _ _ _ (T.setTop (mkF m 12 #[.val (.long x0), .second, .val (.int x1), .val (.int x2), .val (.long (((x2 &&& (7 : Int32)) - (4 : Int32)).toInt64)), .second, .unset, .unset, .unset, .unset] [(.long (20 : Int64))]))
    refine Runs.go (fun _ => XS.iloadN X.here hx rfl (hb hby at_12) rfl) ?_
    show Runs p e below s _ _ _ (T.setTop (mkF m 13 #[.val (.long x0), .second, .val (.int x1), .val (.int x2), .val (.long (((x2 &&& (7 : Int32)) - (4 : Int32)).toInt64)), .second, .unset, .unset, .unset, .unset] [(.int x1), (.long (20 : Int64))]))
    refine Runs.go (fun _ => XS.i2l X.here hx rfl (hb hby at_13) rfl) ?_
    show Runs p e below s _ _ _ (T.setTop (mkF m 14 #[.val (.long x0), .second, .val (.int x1), .val (.int x2), .val (.long (((x2 &&& (7 : Int32)) - (4 : Int32)).toInt64)), .second, .unset, .unset, .unset, .unset] [(.long (x1.toInt64)), (.long (20 : Int64))]))
    refine Runs.go (fun _ => XS.lmul X.here hx rfl (hb hby at_14) rfl) ?_
    show Runs p e below s _ _ _ (T.setTop (mkF m 15 #[.val (.long x0), .second, .val (.int x1), .val (.int x2), .val (.long (((x2 &&& (7 : Int32)) - (4 : Int32)).toInt64)), .second, .unset, .unset, .unset, .unset] [(.long ((20 : Int64) * (x1.toInt64)))]))
    refine Runs.go (fun _ => XS.lload X.here hx rfl (hb hby at_15) rfl) ?_
    show Runs p e below s _ _ _ (T.setTop (mkF m 17 #[.val (.long x0), .second, .val (.int x1), .val (.int x2), .val (.long (((x2 &&& (7 : Int32)) - (4 : Int32)).toInt64)), .second, .unset, .unset, .unset, .unset] [(.long (((x2 &&& (7 : Int32)) - (4 : Int32)).toInt64)), (.long ((20 : Int64) * (x1.toInt64)))]))
    refine Runs.go (fun _ => XS.ladd X.here hx rfl (hb hby at_17) rfl) ?_
    show Runs p e below s _ _ _ (T.setTop (mkF m 18 #[.val (.long x0), .second, .val (.int x1), .val (.int x2), .val (.long (((x2 &&& (7 : Int32)) - (4 : Int32)).toInt64)), .second, .unset, .unset, .unset, .unset] [(.long (((20 : Int64) * (x1.toInt64)) + (((x2 &&& (7 : Int32)) - (4 : Int32)).toInt64)))]))
    refine Runs.go (fun _ => XS.lstore X.here hx rfl (hb hby at_18) rfl (l' := #[.val (.long x0), .second, .val (.int x1), .val (.int x2), .val (.long (((x2 &&& (7 : Int32)) - (4 : Int32)).toInt64)), .second, .val (.long (((20 : Int64) * (x1.toInt64)) + (((x2 &&& (7 : Int32)) - (4 : Int32)).toInt64))), .second, .unset, .unset]) rfl) ?_
    show Runs p e below s _ _ _ (T.setTop (mkF m 20 #[.val (.long x0), .second, .val (.int x1), .val (.int x2), .val (.long (((x2 &&& (7 : Int32)) - (4 : Int32)).toInt64)), .second, .val (.long (((20 : Int64) * (x1.toInt64)) + (((x2 &&& (7 : Int32)) - (4 : Int32)).toInt64))), .second, .unset, .unset] []))
    refine Runs.go (fun _ => XS.lloadN X.here hx rfl (hb hby at_20) rfl) ?_
    show Runs p e below s _ _ _ (T.setTop (mkF m 21 #[.val (.long x0), .second, .val (.int x1), .val (.int x2), .val (.long (((x2 &&& (7 : Int32)) - (4 : Int32)).toInt64)), .second, .val (.long (((20 : Int64) * (x1.toInt64)) + (((x2 &&& (7 : Int32)) - (4 : Int32)).toInt64))), .second, .unset, .unset] [(.long x0)]))
    refine Runs.go (fun _ => XS.iloadN X.here hx rfl (hb hby at_21) rfl) ?_
    show Runs p e below s _ _ _ (T.setTop (mkF m 22 #[.val (.long x0), .second, .val (.int x1), .val (.int x2), .val (.long (((x2 &&& (7 : Int32)) - (4 : Int32)).toInt64)), .second, .val (.long (((20 : Int64) * (x1.toInt64)) + (((x2 &&& (7 : Int32)) - (4 : Int32)).toInt64))), .second, .unset, .unset] [(.int x1), (.long x0)]))
    obtain ⟨_, _, ⟨Tc22_1, Lc22_1, kc22_1, nc22_1⟩, -, Xc22_1, ⟨Lcc22_1, ⟨rfl, rfl, ec22_1⟩, lc22_1, yc22_1, zc22_1⟩, stc22_1⟩ := Jvm.LawKit.callS X hx (y := (⟨"evenhand/cli/Flood", "starved", "(JI)Z"⟩ : MethodName)) hown (mvT hZ (hw _ (List.mem_of_getElem? (i := 1) rfl))) (mvT hZ (hw _ (List.mem_of_getElem? (i := 2) rfl))) (mvT hZ (hw _ (List.mem_of_getElem? (i := 3) rfl))) (mvT hZ (hw _ (List.mem_of_getElem? (i := 4) rfl))) (by decide) (backOf (W := 0) (rm1 l Z a0 hw [] x0 x1 h0) hZ (hw _ (List.mem_of_getElem? (i := 4) rfl)) (hw _ (List.mem_of_getElem? (i := 3) rfl)) (by decide) (by decide)) (g := (mkF m 22 #[.val (.long x0), .second, .val (.int x1), .val (.int x2), .val (.long (((x2 &&& (7 : Int32)) - (4 : Int32)).toInt64)), .second, .val (.long (((20 : Int64) * (x1.toInt64)) + (((x2 &&& (7 : Int32)) - (4 : Int32)).toInt64))), .second, .unset, .unset] [(.int x1), (.long x0)])) rfl (by rw [hml]; rfl) (argsL := [(.long x0), (.int x1)]) (rest := []) (lenOf pd_0 rfl) rfl (by show 2 * 0 + _ ≤ _; exact Nat.le_of_eq rfl) (hb hby at_22) (fun _ _ => ⟨rfl, eT, (by decide : 0 + 0 ≤ _), (by decide : 0 + 0 ≤ _)⟩)
    dsimp only [Pt.U, Pt.locs, Pt.cells, Pt.slots] at Xc22_1 lc22_1 yc22_1 zc22_1 stc22_1 ec22_1
    subst lc22_1 yc22_1 zc22_1
    refine Runs.go stc22_1 ?_
    show Runs p e below s _ _ _ (Tc22_1.setTop (mkF m 25 #[.val (.long x0), .second, .val (.int x1), .val (.int x2), .val (.long (((x2 &&& (7 : Int32)) - (4 : Int32)).toInt64)), .second, .val (.long (((20 : Int64) * (x1.toInt64)) + (((x2 &&& (7 : Int32)) - (4 : Int32)).toInt64))), .second, .unset, .unset] [(.int (F1 x0 x1))]))
    refine Runs.go (fun _ => XS.lloadN Xc22_1.here hx rfl (hb hby at_25) rfl) ?_
    show Runs p e below s _ _ _ (Tc22_1.setTop (mkF m 26 #[.val (.long x0), .second, .val (.int x1), .val (.int x2), .val (.long (((x2 &&& (7 : Int32)) - (4 : Int32)).toInt64)), .second, .val (.long (((20 : Int64) * (x1.toInt64)) + (((x2 &&& (7 : Int32)) - (4 : Int32)).toInt64))), .second, .unset, .unset] [(.long x0), (.int (F1 x0 x1))]))
    refine Runs.go (fun _ => XS.iloadN Xc22_1.here hx rfl (hb hby at_26) rfl) ?_
    show Runs p e below s _ _ _ (Tc22_1.setTop (mkF m 27 #[.val (.long x0), .second, .val (.int x1), .val (.int x2), .val (.long (((x2 &&& (7 : Int32)) - (4 : Int32)).toInt64)), .second, .val (.long (((20 : Int64) * (x1.toInt64)) + (((x2 &&& (7 : Int32)) - (4 : Int32)).toInt64))), .second, .unset, .unset] [(.int x1), (.long x0), (.int (F1 x0 x1))]))
    obtain ⟨_, _, ⟨Tc27_2, Lc27_2, kc27_2, nc27_2⟩, -, Xc27_2, ⟨Lcc27_2, ⟨rfl, rfl, ec27_2⟩, lc27_2, yc27_2, zc27_2⟩, stc27_2⟩ := Jvm.LawKit.callS Xc22_1 hx (y := (⟨"evenhand/cli/FloodStarvedPinLaw", "ref", "(JI)Z"⟩ : MethodName)) hown (mvT hZ (hw _ (List.mem_of_getElem? (i := 6) rfl))) (mvT hZ (hw _ (List.mem_of_getElem? (i := 7) rfl))) (mvT hZ (hw _ (List.mem_of_getElem? (i := 8) rfl))) (mvT hZ (hw _ (List.mem_of_getElem? (i := 9) rfl))) (by decide) (backOf (W := 1) (rm2 l Z a0 hw [] x0 x1 h0) hZ (hw _ (List.mem_of_getElem? (i := 9) rfl)) (hw _ (List.mem_of_getElem? (i := 8) rfl)) (by decide) (by decide)) (g := (mkF m 27 #[.val (.long x0), .second, .val (.int x1), .val (.int x2), .val (.long (((x2 &&& (7 : Int32)) - (4 : Int32)).toInt64)), .second, .val (.long (((20 : Int64) * (x1.toInt64)) + (((x2 &&& (7 : Int32)) - (4 : Int32)).toInt64))), .second, .unset, .unset] [(.int x1), (.long x0), (.int (F1 x0 x1))])) rfl (by rw [hml]; rfl) (argsL := [(.long x0), (.int x1)]) (rest := [(.int (F1 x0 x1))]) (lenOf pd_0 rfl) rfl (by show 2 * 0 + _ ≤ _; exact Nat.le_of_eq rfl) (hb hby at_27) (fun _ _ => ⟨rfl, ec22_1, (by decide : 0 + 0 ≤ _), (by decide : 0 + 0 ≤ _)⟩)
    dsimp only [Pt.U, Pt.locs, Pt.cells, Pt.slots] at Xc27_2 lc27_2 yc27_2 zc27_2 stc27_2 ec27_2
    subst lc27_2 yc27_2 zc27_2
    refine Runs.go stc27_2 ?_
    show Runs p e below s _ _ _ (Tc27_2.setTop (mkF m 30 #[.val (.long x0), .second, .val (.int x1), .val (.int x2), .val (.long (((x2 &&& (7 : Int32)) - (4 : Int32)).toInt64)), .second, .val (.long (((20 : Int64) * (x1.toInt64)) + (((x2 &&& (7 : Int32)) - (4 : Int32)).toInt64))), .second, .unset, .unset] [(.int (F2 x0 x1)), (.int (F1 x0 x1))]))
    by_cases hc30 : (F1 x0 x1) = (F2 x0 x1)
    · have hv := (if_pos hc30).symm.trans hv
      refine Runs.go (fun _ => XS.icmpNo Xc27_2.here hx rfl (hb hby at_30) rfl (teq hc30).2) ?_
      show Runs p e below s _ _ _ (Tc27_2.setTop (mkF m 33 #[.val (.long x0), .second, .val (.int x1), .val (.int x2), .val (.long (((x2 &&& (7 : Int32)) - (4 : Int32)).toInt64)), .second, .val (.long (((20 : Int64) * (x1.toInt64)) + (((x2 &&& (7 : Int32)) - (4 : Int32)).toInt64))), .second, .unset, .unset] []))
      refine Runs.go (fun _ => XS.iconst Xc27_2.here hx rfl (hb hby at_33)) ?_
      show Runs p e below s _ _ _ (Tc27_2.setTop (mkF m 34 #[.val (.long x0), .second, .val (.int x1), .val (.int x2), .val (.long (((x2 &&& (7 : Int32)) - (4 : Int32)).toInt64)), .second, .val (.long (((20 : Int64) * (x1.toInt64)) + (((x2 &&& (7 : Int32)) - (4 : Int32)).toInt64))), .second, .unset, .unset] [(.int (1 : Int32))]))
      refine Runs.go (fun _ => XS.goto Xc27_2.here hx rfl (pc0 := 34) (pc' := 38) rfl (hb hby at_34) (by decide) (by decide)) ?_
      show Runs p e below s _ _ _ (Tc27_2.setTop (mkF m 38 #[.val (.long x0), .second, .val (.int x1), .val (.int x2), .val (.long (((x2 &&& (7 : Int32)) - (4 : Int32)).toInt64)), .second, .val (.long (((20 : Int64) * (x1.toInt64)) + (((x2 &&& (7 : Int32)) - (4 : Int32)).toInt64))), .second, .unset, .unset] [(.int (1 : Int32))]))
      exact k_38 _ Xc27_2 ec27_2 x0 x1 x2 (((x2 &&& (7 : Int32)) - (4 : Int32)).toInt64) (((20 : Int64) * (x1.toInt64)) + (((x2 &&& (7 : Int32)) - (4 : Int32)).toInt64)) (1 : Int32) hv
    · have hv := (if_neg hc30).symm.trans hv
      refine Runs.go (fun _ => XS.icmpYes Xc27_2.here hx rfl (pc0 := 30) (pc' := 37) rfl (hb hby at_30) rfl (feq hc30).2 (by decide) (by decide)) ?_
      show Runs p e below s _ _ _ (Tc27_2.setTop (mkF m 37 #[.val (.long x0), .second, .val (.int x1), .val (.int x2), .val (.long (((x2 &&& (7 : Int32)) - (4 : Int32)).toInt64)), .second, .val (.long (((20 : Int64) * (x1.toInt64)) + (((x2 &&& (7 : Int32)) - (4 : Int32)).toInt64))), .second, .unset, .unset] []))
      refine Runs.go (fun _ => XS.iconst Xc27_2.here hx rfl (hb hby at_37)) ?_
      show Runs p e below s _ _ _ (Tc27_2.setTop (mkF m 38 #[.val (.long x0), .second, .val (.int x1), .val (.int x2), .val (.long (((x2 &&& (7 : Int32)) - (4 : Int32)).toInt64)), .second, .val (.long (((20 : Int64) * (x1.toInt64)) + (((x2 &&& (7 : Int32)) - (4 : Int32)).toInt64))), .second, .unset, .unset] [(.int (0 : Int32))]))
      exact k_38 _ Xc27_2 ec27_2 x0 x1 x2 (((x2 &&& (7 : Int32)) - (4 : Int32)).toInt64) (((20 : Int64) * (x1.toInt64)) + (((x2 &&& (7 : Int32)) - (4 : Int32)).toInt64)) (0 : Int32) hv
  exact k_0 _ X0 e0 hF
set_option maxRecDepth 65536 in
set_option maxHeartbeats 40000000 in
theorem comes_1 {Post : Tables → Env → Array Value → State → Outcome → State → Prop} (hpost : ∀ tb e args s v u, (limb_1_1.after args s (.returned v) u = true ∧ limb_1_2.after args s (.returned v) u = true ∧ True) → FrameEnd s (.returned v) u (Jvm.fieldLocs frame_1_writes args s ++ Jvm.arrayLocs frame_1_arrays args s ++ Jvm.staticLocs frame_1_statics s) 0 0 → Post tb e args s (.returned v) u) :
    ArmFor flags0 classFile x code maxLocals ret World_1 tables_1 room_1 Calls_1 rest_1 Pre_1 Post := by
  intro l hfl _ _ p e ha hc hk s m args below hf hA hF happ hP
  obtain ⟨hcalls, hrest, hpre⟩ := hP
  obtain ⟨-, -, -, hnamed, -, -, -, hat⟩ := (Spec.applies_iff hf).mp happ
  obtain ⟨hg, hn⟩ := and_e (Cond.before_iff.mp (show (Jvm.Cond.and given_1 narrow_1).before args s = true from hpre))
  obtain ⟨hcnt, hg⟩ := and_e hg
  obtain ⟨w0, w1, w2, rfl⟩ : ∃ w0 w1 w2 : Value, args = #[w0, w1, w2] := by
    have hs : args.size = 3 := by simpa [Cond.value, given_1] using hcnt
    obtain ⟨L⟩ := args
    match L, hs with
    | [w0, w1, w2], _ => exact ⟨w0, w1, w2, rfl⟩
  obtain ⟨ga0, hg⟩ := and_e hg
  obtain ⟨i0, ei0⟩ := isL_v ga0
  obtain rfl : w0 = (.long i0) := Option.some.inj ei0
  obtain ⟨ga1, hg⟩ := and_e hg
  obtain ⟨i1, ei1⟩ := is_v ga1
  obtain rfl : w1 = (.int i1) := Option.some.inj ei1
  have ga2 := hg
  obtain ⟨i2, ei2⟩ := is_v ga2
  obtain rfl : w2 = (.int i2) := Option.some.inj ei2
  have hw := fun d (hd : d ∈ tables_1) => atoms_spec (ws := Jvm.Cond.code x code maxLocals ret :: tables_1) hat d (List.mem_cons_of_mem _ hd)
  obtain ⟨n, o, h1, h2, h3, _, L, rfl, ⟨rfl, rfl, hheap⟩, hq⟩ := rm0 l s _ hw tables_1 i0 i1 i2 s.heap p e ha hc hk s m _ below hf ((Spec.applies_iff_loose hf).mp happ).1 ⟨rfl, State.Warmed39.refl s, rfl⟩ trivial
  rw [law_true i0 i1 i2] at hq h3
  exact ⟨n, _, h1, h2, h3, hpost _ _ _ _ _ _ ⟨Cond.after_iff.mpr rfl, Cond.after_iff.mpr (eq_i res_at (Term.int_eval (1)) rfl), trivial⟩ ⟨hq.1, hq.2.1, (hq.2.2.sift fun y hy => nomatch hy).mono (by decide) (by decide)⟩⟩
theorem main_1_1 : Claimed_1_1 := comes_1 fun _ _ _ _ _ _ h hF => ⟨h.1, hF⟩
theorem main_1_2 : Claimed_1_2 := comes_1 fun _ _ _ _ _ _ h hF => ⟨h.2.1, hF⟩
end Jvm.Pilot.@@N@@
namespace Jvm.Pilot.@@N@@
open Jvm Jvm.ClassFile Sem Op Lib Jvm.Free Jvm.Stand Jvm.Pilot.@@N@@.Jvm.D
/-! MADE BY PROGRAM (witnessworld.py) out of the Statement's table words and the real class files: 9 classes; the members and pool entries that the words name. The judged class is class 1, her method 1. -/
namespace start1
open Jvm.ClassFile
def u (s : String) : CpInfo := .utf8 (stringToUtf16 s)
/-- a pool by its gaps: so many unusable entries, then the entry; so many at the end -/
def gap : Nat → List CpInfo → List CpInfo
  | 0, r => r
  | n + 1, r => .unusable :: gap n r
def poolList (es : List (Nat × CpInfo)) (last : Nat) : List CpInfo := es.foldr (fun e r => gap e.1 (e.2 :: r)) (gap last [])
def pool (es : List (Nat × CpInfo)) (last : Nat) : Array CpInfo := ⟨poolList es last⟩
def fileOf (pool : Array CpInfo) (this : Nat) (attrs : Array Attribute := #[]) (ms : Array MethodInfo := #[]) (fl : Nat := 33) (sup : Nat := 0) (ifs : Array Nat := #[]) (fds : Array FieldInfo := #[]) : ClassFile where
  minorVersion := 0
  majorVersion := 65
  constantPool := pool
  accessFlags := fl
  thisClass := this
  superClass := sup
  interfaces := ifs
  fields := fds
  methods := ms
  attributes := attrs
def plain (name : String) (sup : Option ClassId) : Class where
  name := name
  kind := .ordinary
  loader := none
  accessFlags := 33
  super := sup
  interfaces := #[]
  cf := none
  fields := #[]
  methods := #[]
  instanceTypes := #[]
  staticTypes := #[]
  resolved := #[]
  callSites := []
  init := .initialized
  statics := none
  mirror := none

def pool0 : Array CpInfo := pool [(5, u "<init>"), (0, u "()V"), (1, .class_ 10), (1, u "java/lang/Object")] 113

def k0m0 : Method := { name := "<init>", desc := "()V", sig := { parameters := [], returnType := none }, accessFlags := 1, code := none }
/-- java/lang/Object -/
def k0 : Class := { plain "java/lang/Object" none with
  accessFlags := 33
  interfaces := #[]
  cf := some (fileOf pool0 8 #[] #[{ accessFlags := 1, nameIndex := 5, descriptorIndex := 6, attributes := #[] }] 33 0 #[] #[])
  fields := #[]
  methods := #[k0m0]
  instanceTypes := #[]
  staticTypes := #[]
  resolved := Array.replicate 124 none
  statics := none }

def pool1 : Array CpInfo := pool [(2, .class_ 4), (1, u "java/lang/Object"), (0, u "<init>"), (0, u "()V"), (0, .long 20), (1, .methodref 10 11), (0, .class_ 12), (0, .nameAndType 13 14), (0, u "evenhand/cli/Flood"), (0, u "starved"), (0, u "(JI)Z"), (0, .methodref 16 17), (0, .class_ 18), (0, .nameAndType 19 14), (0, u "evenhand/cli/FloodStarvedPinLaw"), (0, u "ref"), (2, u "law"), (0, u "(JII)Z")] 3

def k1m0 : Method := { name := "<init>", desc := "()V", sig := { parameters := [], returnType := none }, accessFlags := 2, code := none }
def k1c1 : Code := { maxStack := 4, maxLocals := 10, code := code, exceptionTable := #[], attributes := #[] }
def k1m1 : Method := { name := "law", desc := "(JII)Z", sig := { parameters := [.long, .int, .int], returnType := some .boolean }, accessFlags := 9, code := some k1c1 }
def k1c2 : Code := { maxStack := 4, maxLocals := 7, code := method_3_code, exceptionTable := #[], attributes := #[] }
def k1m2 : Method := { name := "ref", desc := "(JI)Z", sig := { parameters := [.long, .int], returnType := some .boolean }, accessFlags := 10, code := some k1c2 }
/-- evenhand/cli/FloodStarvedPinLaw -/
def k1 : Class := { plain "evenhand/cli/FloodStarvedPinLaw" (some 0) with
  accessFlags := 49
  interfaces := #[]
  cf := some (fileOf pool1 16 #[] #[{ accessFlags := 2, nameIndex := 5, descriptorIndex := 6, attributes := #[] }, { accessFlags := 9, nameIndex := 22, descriptorIndex := 23, attributes := #[] }, { accessFlags := 10, nameIndex := 19, descriptorIndex := 14, attributes := #[] }] 49 2 #[] #[])
  fields := #[]
  methods := #[k1m0, k1m1, k1m2]
  instanceTypes := #[]
  staticTypes := #[]
  resolved := Array.replicate 27 none
  statics := none }

def pool2 : Array CpInfo := pool [(2, .class_ 4), (1, u "java/lang/Object"), (0, u "<init>"), (0, u "()V"), (4, .class_ 12), (0, u "evenhand/cli/Flood"), (131, .class_ 145), (0, u "evenhand/cli/Flood$Lone"), (32, u "J"), (20, u "starved"), (0, u "(JI)Z"), (5, .long 20), (19, u "HOLD_NANOS"), (23, u "PAUSE_NANOS"), (0, u "STARVED_BELOW"), (0, u "I"), (2, u "READERS"), (0, u "Ljava/lang/String;"), (0, u "WRITERS"), (0, u "USAGE")] 56

def k2m0 : Method := { name := "<init>", desc := "()V", sig := { parameters := [], returnType := none }, accessFlags := 2, code := none }
def k2c1 : Code := { maxStack := 6, maxLocals := 3, code := prog_11_method_4_code, exceptionTable := #[], attributes := #[] }
def k2m1 : Method := { name := "starved", desc := "(JI)Z", sig := { parameters := [.long, .int], returnType := some .boolean }, accessFlags := 8, code := some k2c1 }
/-- evenhand/cli/Flood -/
def k2 : Class := { plain "evenhand/cli/Flood" (some 0) with
  accessFlags := 48
  interfaces := #[]
  cf := some (fileOf pool2 11 #[.nestMembers #[144]] #[{ accessFlags := 2, nameIndex := 5, descriptorIndex := 6, attributes := #[] }, { accessFlags := 8, nameIndex := 199, descriptorIndex := 200, attributes := #[] }] 48 2 #[] #[{ accessFlags := 24, nameIndex := 226, descriptorIndex := 178, attributes := #[] }, { accessFlags := 24, nameIndex := 250, descriptorIndex := 178, attributes := #[] }, { accessFlags := 24, nameIndex := 251, descriptorIndex := 252, attributes := #[] }, { accessFlags := 26, nameIndex := 255, descriptorIndex := 256, attributes := #[] }, { accessFlags := 26, nameIndex := 257, descriptorIndex := 256, attributes := #[] }, { accessFlags := 26, nameIndex := 258, descriptorIndex := 256, attributes := #[] }])
  fields := #[{ name := "HOLD_NANOS", type := .long, accessFlags := 24, slot := 0, constantValue := 0 }, { name := "PAUSE_NANOS", type := .long, accessFlags := 24, slot := 1, constantValue := 0 }, { name := "STARVED_BELOW", type := .int, accessFlags := 24, slot := 2, constantValue := 0 }, { name := "READERS", type := (.object "java/lang/String"), accessFlags := 26, slot := 3, constantValue := 0 }, { name := "WRITERS", type := (.object "java/lang/String"), accessFlags := 26, slot := 4, constantValue := 0 }, { name := "USAGE", type := (.object "java/lang/String"), accessFlags := 26, slot := 5, constantValue := 0 }]
  methods := #[k2m0, k2m1]
  instanceTypes := #[]
  staticTypes := #[.long, .long, .int, (.object "java/lang/String"), (.object "java/lang/String"), (.object "java/lang/String")]
  resolved := Array.replicate 315 none
  statics := none }

def pool3 : Array CpInfo := pool [(1, u "java/lang/Cloneable"), (0, .class_ 1), (0, u "java/lang/Object"), (0, .class_ 3)] 3

/-- java/lang/Cloneable -/
def k3 : Class := { plain "java/lang/Cloneable" (some 0) with
  accessFlags := 1537
  interfaces := #[]
  cf := some (fileOf pool3 2 #[] #[] 1537 4 #[] #[])
  fields := #[]
  methods := #[]
  instanceTypes := #[]
  staticTypes := #[]
  resolved := Array.replicate 8 none
  statics := none }

def pool4 : Array CpInfo := pool [(1, u "java/io/Serializable"), (0, .class_ 1), (0, u "java/lang/Object"), (0, .class_ 3)] 3

/-- java/io/Serializable -/
def k4 : Class := { plain "java/io/Serializable" (some 0) with
  accessFlags := 1537
  interfaces := #[]
  cf := some (fileOf pool4 2 #[] #[] 1537 4 #[] #[])
  fields := #[]
  methods := #[]
  instanceTypes := #[]
  staticTypes := #[]
  resolved := Array.replicate 8 none
  statics := none }

/-- the primitive byte -/
def k5 : Class := { plain "byte" none with kind := .primitive 'B', accessFlags := 0x411 }
/-- [B -/
def k6 : Class := { plain "[B" (some 0) with kind := .array 5 .byte, interfaces := #[3, 4], accessFlags := 1041 }

/-- the primitive int -/
def k7 : Class := { plain "int" none with kind := .primitive 'I', accessFlags := 0x411 }
/-- [I -/
def k8 : Class := { plain "[I" (some 0) with kind := .array 7 .int, interfaces := #[3, 4], accessFlags := 1041 }

def heap : Heap := #[]
def classes : Array Class := #[k0, k1, k2, k3, k4, k5, k6, k7, k8]
def interned : List (Array UInt16 × Addr) := []
def slotsUsed : Nat := 0
def theMethod : MethodId := ⟨1, 1⟩
def args0 : Array Value := #[.long 7, .int 8, .int 9]
def aboutOver (below : List Frame) : State where
  vm := { classes := classes, interned := interned.toArray }
  heap := heap
  slotsUsed := slotsUsed
  threads := #[{ frames := .invoking theMethod args0 :: below }]
def below0 : List Frame := [.native { method := ⟨0, 0⟩, args := #[] }]
def about1 : State := aboutOver below0
def p0 : Program := .bare "" "" ""
def e0 : Env := launch0.env 0 0 0
theorem w_frames : about1.frames = Frame.invoking theMethod args0 :: below0 := rfl
set_option maxRecDepth 65536 in
theorem w_args : argsFit about1.vm theMethod args0 = true := by decide +kernel
set_option maxRecDepth 65536 in
theorem w_heap : heapFits about1 = true := by decide +kernel
set_option maxRecDepth 65536 in
theorem w_runnable : about1.curStatus? = some .runnable := by decide +kernel
set_option maxRecDepth 65536 in
theorem w_alone : about1.alone = true := by decide +kernel
set_option maxRecDepth 65536 in
theorem w_named : about1.methodNamed? x = some theMethod := by decide +kernel
set_option maxRecDepth 65536 in
theorem w_hears : about1.hears theMethod below0 = true := by decide +kernel
set_option maxRecDepth 65536 in
theorem w_ripe : about1.ripe theMethod args0 below0 = true := by decide +kernel
theorem w_running : about1.status = .running := rfl
set_option maxRecDepth 65536 in
theorem w_room : about1.hasRoom e0.platform room_1 = true :=
  launch0.hasRoom_least _ room_1 (by decide +kernel) (by decide +kernel) (by decide +kernel) (by decide +kernel) (by decide +kernel) (by decide +kernel)
theorem allAtoms_all (ts : List Jvm.Cond) (a : Array Jvm.Value) (st : Jvm.State) : (allAtoms ts).before a st = ts.all (fun c => c.before a st) := by
  induction ts with
  | nil => rfl
  | cons c t ih =>
    show (Jvm.Cond.and c (allAtoms t)).before a st = _
    rw [Jvm.Cond.before_and, ih, List.all_cons]
def words1 : List Jvm.Cond := Jvm.Cond.code x code maxLocals ret :: tables_1
/-- a 'code' word, met by the world's own term for the bytes: nothing is compared byte by byte -/
theorem code_word {y : MethodName} {bytes : ByteArray} {mx : Nat} {rt : Option FieldType} {a : Array Value} {s : State} {m : MethodId} {meth : Method} {c : Code} (h1 : s.methodNamed? y = some m) (h2 : s.vm.method? m = some meth) (h3 : meth.code = some c) (h4 : c.code = bytes)
    (h5 : (c.maxLocals == mx && c.exceptionTable.isEmpty && decide (c.maxStack ≤ mostOperands) && decide (meth.sig.returnType = rt) && !meth.locks && decide (parseMethodDescriptor y.desc = some meth.sig)) = true) : (Jvm.Cond.code y bytes mx rt).before a s = true := by
  simp only [Bool.and_eq_true, beq_iff_eq, Bool.not_eq_true', decide_eq_true_eq] at h5
  obtain ⟨⟨⟨⟨⟨g1, g2⟩, g3⟩, g4⟩, g5⟩, g6⟩ := h5
  simp [Cond.before, Cond.holds, Cond.value, h1, h2, h3, h4, g1, g2, g3, g4, g5, g6]
def isCode : Jvm.Cond → Bool
  | .code _ _ _ _ => true
  | _ => false
theorem all_split {L : List Jvm.Cond} {P : Jvm.Cond → Bool} (h1 : L.all (fun c => isCode c || P c) = true) (h2 : ∀ c ∈ L.filter isCode, P c = true) : L.all P = true := by
  refine List.all_eq_true.mpr fun c hc => ?_
  have h := List.all_eq_true.mp h1 c hc
  rcases Bool.eq_false_or_eq_true (isCode c) with hi | hi
  · exact h2 c (List.mem_filter.mpr ⟨hc, hi⟩)
  · simpa [hi] using h
set_option maxRecDepth 65536 in
theorem w_c0 : (Jvm.Cond.code x code maxLocals ret).before args0 about1 = true := code_word (m := ⟨1, 1⟩) (meth := k1m1) (c := k1c1) (by decide +kernel) rfl rfl rfl (by decide +kernel)
set_option maxRecDepth 65536 in
theorem w_c1 : (Jvm.Cond.code ({ cls := "evenhand/cli/Flood", name := "starved", desc := "(JI)Z" } : Jvm.MethodName) prog_11_method_4_code (3 : Nat) (Option.some Jvm.ClassFile.FieldType.boolean)).before args0 about1 = true := code_word (m := ⟨2, 1⟩) (meth := k2m1) (c := k2c1) (by decide +kernel) rfl rfl rfl (by decide +kernel)
set_option maxRecDepth 65536 in
theorem w_c2 : (Jvm.Cond.code ({ cls := "evenhand/cli/FloodStarvedPinLaw", name := "ref", desc := "(JI)Z" } : Jvm.MethodName) method_3_code (7 : Nat) (Option.some Jvm.ClassFile.FieldType.boolean)).before args0 about1 = true := code_word (m := ⟨1, 2⟩) (meth := k1m2) (c := k1c2) (by decide +kernel) rfl rfl rfl (by decide +kernel)
def codes1 : List Jvm.Cond := [Jvm.Cond.code x code maxLocals ret, Jvm.Cond.code ({ cls := "evenhand/cli/Flood", name := "starved", desc := "(JI)Z" } : Jvm.MethodName) prog_11_method_4_code (3 : Nat) (Option.some Jvm.ClassFile.FieldType.boolean), Jvm.Cond.code ({ cls := "evenhand/cli/FloodStarvedPinLaw", name := "ref", desc := "(JI)Z" } : Jvm.MethodName) method_3_code (7 : Nat) (Option.some Jvm.ClassFile.FieldType.boolean)]
set_option maxRecDepth 65536 in
theorem codes_eq : words1.filter isCode = codes1 := rfl
theorem w_codes : ∀ c ∈ words1.filter isCode, c.before args0 about1 = true := by
  rw [codes_eq]
  intro c hc
  simp only [codes1, List.mem_cons, List.not_mem_nil, or_false] at hc
  rcases hc with rfl | rfl | rfl
  · exact w_c0
  · exact w_c1
  · exact w_c2
set_option maxRecDepth 65536 in
theorem w_t1 : words1.all (fun c => isCode c || c.before args0 about1) = true := by decide +kernel
theorem w_tables : (allAtoms (Jvm.Cond.code x code maxLocals ret :: tables_1)).before args0 about1 = true := by
  rw [allAtoms_all]
  show words1.all (fun c => c.before args0 about1) = true
  refine all_split ?_ w_codes
  rw [w_t1]
set_option maxRecDepth 65536 in
theorem w_case : (Jvm.Cond.and given_1 narrow_1).before args0 about1 = true := by decide +kernel
theorem w_applies : (headSpec (Jvm.Cond.code x code maxLocals ret :: tables_1) room_1).applies x e0.platform about1 = true :=
  (Spec.applies_iff w_frames).mpr ⟨w_running, w_runnable, w_alone, w_named, w_hears, w_ripe, w_room, w_tables⟩
theorem atStart : AtStart classFile x code maxLocals ret World_1 tables_1 room_1 Calls_1 rest_1 Pre_1 launch0 p0 e0 about1 theMethod args0 below0 :=
  ⟨lists_1, trivial, launch0.admits_env _ _ _, launch0.least_env, fairChoices_fair.cas, fairChoices_fair.clock, w_frames, w_args, w_heap, w_applies, trivial, trivial, w_case⟩
end start1
theorem witness_1 : WitnessClaimed_1 := ⟨start1.p0, start1.e0, start1.about1, start1.theMethod, start1.args0, start1.below0, start1.atStart⟩
end Jvm.Pilot.@@N@@
