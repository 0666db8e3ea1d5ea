import JvmDerived
import JvmDerived.Pilot.@@N@@Statement
import JvmDerived.Pilot.@@N@@Code
set_option linter.unusedVariables false
set_option linter.unusedSimpArgs false

namespace Jvm.Pilot.@@N@@
open Jvm Jvm.ClassFile Sem Op Lib Jvm.Free Jvm.Stand Jvm.LawKit Jvm.RoadKit Bundle Jvm.Pilot.@@N@@.Jvm.D
def QH (w : Value) (n0 : Nat) (v : Option Value) (h : Heap) (L : List Loc) : Prop := v = some w ∧ Fr n0 L
def own_at (l : List Int32) (j : Int32) : Int32 := l.getD j.toNatClampNeg 0
theorem own_getD (l : List Int32) (j : Int32) : (List.map Value.int l).getD j.toNatClampNeg (.int (0 : Int32)) = .int (own_at l j) := by
  simp only [own_at, List.getD_eq_getElem?_getD, List.getElem?_map]
  cases l[j.toNatClampNeg]? <;> rfl
def own_atJ (l : List Int64) (j : Int32) : Int64 := l.getD j.toNatClampNeg 0
theorem own_getDJ (l : List Int64) (j : Int32) : (List.map Value.long l).getD j.toNatClampNeg (.long (0 : Int64)) = .long (own_atJ l j) := by
  simp only [own_atJ, List.getD_eq_getElem?_getD, List.getElem?_map]
  cases l[j.toNatClampNeg]? <;> rfl
def QP (w : Value) (h0 : Heap) (v : Option Value) (h : Heap) (L : List Loc) : Prop := v = some w ∧ L = [] ∧ h = h0
def Runs (p : Program) (e : Env) (below : List Frame) (s : State) (Q : Option Value → Heap → List Loc → Prop) (k n : Nat) (A : State) : Prop :=
  ∃ s₂ o, Steps p.tables e below A s₂ ∧ s₂.status = .running ∧ Ended s₂ below o ∧ ∃ v L, o = .returned v ∧ Q v s₂.heap L ∧ FrameEnd s o s₂ L k n
section Ends
variable {p : Program} {l : Launch} {e : Env} {R : Room} {s : State} {m : MethodId} {args : Array Value} {below : List Frame} {meth : Method} {c : Code} {T A B : State} {locs : List Loc} {cells slots : Nat} {Q : Option Value → Heap → List Loc → Prop} {k n pc : Nat} {Ls : Array Slot} {rest : List Value}
theorem Runs.go (h : ∀ t, Steps p.tables e below B t → Steps p.tables e below A t) (q : Runs p e below s Q k n B) : Runs p e below s Q k n A := by
  obtain ⟨s₂, o, h1, h2⟩ := q; exact ⟨s₂, o, h _ h1, h2⟩
theorem Runs.endI (X : Stand p l e R s m args below meth c T locs cells slots) (hx : p.tables.exec = Jvm.exec) {z : Int32} (hret : meth.sig.returnType = some .int) (hl : meth.locks = false) (hd : decode c.code pc = .ok (.ireturn, 1)) (hQ : Q (some (.int z)) T.heap locs) (hk : cells ≤ k) (hn : slots ≤ n) : Runs p e below s Q k n (T.setTop (mkF m pc Ls (.int z :: rest))) := by
  obtain ⟨fs, hr, hrun, hended, hW, hsame⟩ := X.leave (v := some (.int z)) (fun h => by rw [hret] at h; cases h) hl
  exact ⟨_, _, retOut X hx hret rfl (Or.inl ⟨rfl, Or.inl rfl, _, rfl⟩) hd hr, hrun, hended, _, _, rfl, hQ, ⟨_, rfl⟩, hW, hsame.mono hk hn⟩
theorem Runs.endJ (X : Stand p l e R s m args below meth c T locs cells slots) (hx : p.tables.exec = Jvm.exec) {z : Int64} (hret : meth.sig.returnType = some .long) (hl : meth.locks = false) (hd : decode c.code pc = .ok (.lreturn, 1)) (hQ : Q (some (.long z)) T.heap locs) (hk : cells ≤ k) (hn : slots ≤ n) : Runs p e below s Q k n (T.setTop (mkF m pc Ls (.long z :: rest))) := by
  obtain ⟨fs, hr, hrun, hended, hW, hsame⟩ := X.leave (v := some (.long z)) (fun h => by rw [hret] at h; cases h) hl
  exact ⟨_, _, retOut X hx hret rfl (Or.inr (Or.inl ⟨rfl, rfl, _, rfl⟩)) hd hr, hrun, hended, _, _, rfl, hQ, ⟨_, rfl⟩, hW, hsame.mono hk hn⟩
theorem Runs.endN (X : Stand p l e R s m args below meth c T locs cells slots) (hx : p.tables.exec = Jvm.exec) {z : Int32} {t : FieldType} (hret : meth.sig.returnType = some t) (ht : t = .boolean ∨ t = .byte ∨ t = .char ∨ t = .short) (hl : meth.locks = false) (hd : decode c.code pc = .ok (.ireturn, 1)) (hQ : Q (some (.int (nar t z))) T.heap locs) (hk : cells ≤ k) (hn : slots ≤ n) : Runs p e below s Q k n (T.setTop (mkF m pc Ls (.int z :: rest))) := by
  obtain ⟨fs, hr, hrun, hended, hW, hsame⟩ := X.leave (v := some (.int (nar t z))) (fun h => by rw [hret] at h; cases h) hl
  exact ⟨_, _, retN X hx hret ht hd hr, hrun, hended, _, _, rfl, hQ, ⟨_, rfl⟩, hW, hsame.mono hk hn⟩
theorem Runs.endV (X : Stand p l e R s m args below meth c T locs cells slots) (hx : p.tables.exec = Jvm.exec) (hret : meth.sig.returnType = none) (hl : meth.locks = false) (hd : decode c.code pc = .ok (.return_, 1)) (hQ : Q none T.heap locs) (hk : cells ≤ k) (hn : slots ≤ n) : Runs p e below s Q k n (T.setTop (mkF m pc Ls [])) := by
  obtain ⟨fs, hr, hrun, hended, hW, hsame⟩ := X.leave (v := none) (fun _ => rfl) hl
  exact ⟨_, _, X.returnOut hx hret hd hr, hrun, hended, _, _, rfl, hQ, ⟨_, rfl⟩, hW, hsame.mono hk hn⟩
theorem Runs.endR (X : Stand p l e R s m args below meth c T locs cells slots) (hx : p.tables.exec = Jvm.exec) {z : Addr} {t : FieldType} (hret : meth.sig.returnType = some t) (ht : t.isReference = true) (hl : meth.locks = false) (hd : decode c.code pc = .ok (.areturn, 1)) (hQ : Q (some (.ref z)) T.heap locs) (hk : cells ≤ k) (hn : slots ≤ n) : Runs p e below s Q k n (T.setTop (mkF m pc Ls (.ref z :: rest))) := by
  obtain ⟨fs, hr, hrun, hended, hW, hsame⟩ := X.leave (v := some (.ref z)) (fun h => by rw [hret] at h; cases h) hl
  exact ⟨_, _, retOut X hx hret (by cases t <;> first | rfl | cases ht) (Or.inr (Or.inr (Or.inr (Or.inr ⟨rfl, ht, rfl⟩)))) hd hr, hrun, hended, _, _, rfl, hQ, ⟨_, rfl⟩, hW, hsame.mono hk hn⟩
end Ends

def f2_0 (x0 : Int64) (x1 : Int64) : Int64 := (((8 : Int64) + ((x0 * (2 : Int64)) * (4 : Int64))) + x1)
def F2 (x0 : Int64) (x1 : Int64) : Int64 := f2_0 x0 x1
def f1_32  : Int32 := (0 : Int32)
def f1_0 (x0 : Int64) (x1 : Int64) : Int32 := (if (0 : Int32) < (lcmpW x0 (2147483583 : Int64)) then (f1_32) else (if (0 : Int32) < (lcmpW x1 (2147483583 : Int64)) then (f1_32) else (if (0 : Int32) < (lcmpW (F2 x0 x1) (2147483583 : Int64)) then (f1_32) else (1 : Int32))))
def F1 (x0 : Int64) (x1 : Int64) : Int32 := f1_0 x0 x1
def f0_63 (v4 : Int64) (v6 : Int64) (v10 : Int32) : Int32 := (if (F1 v4 v6) = v10 then (1 : Int32) else (0 : Int32))
def f0_61 (v4 : Int64) (v6 : Int64) (t0 : Int32) : Int32 := (f0_63 v4 v6 t0)
def f0_0 (x0 : Int64) (x1 : Int64) : Int32 := (if (0 : Int32) < (lcmpW (x1 &&& (9223372036854775807 : Int64)) ((2147483583 : Int64) - (8 : Int64))) then (f0_63 (x0 &&& (9223372036854775807 : Int64)) (x1 &&& (9223372036854775807 : Int64)) (0 : Int32)) else (if (0 : Int32) < (lcmpW (x0 &&& (9223372036854775807 : Int64)) ((((2147483583 : Int64) - (8 : Int64)) - (x1 &&& (9223372036854775807 : Int64))) / (8 : Int64))) then (f0_61 (x0 &&& (9223372036854775807 : Int64)) (x1 &&& (9223372036854775807 : Int64)) (0 : Int32)) else (f0_61 (x0 &&& (9223372036854775807 : Int64)) (x1 &&& (9223372036854775807 : Int64)) (1 : Int32))))
def F0 (x0 : Int64) (x1 : Int64) : Int32 := f0_0 x0 x1
theorem li32_0 : (0 : Int32).toInt = 0 := by decide
theorem li32_1 : (1 : Int32).toInt = 1 := by decide
theorem li64_2 : (2 : Int64).toInt = 2 := by decide
theorem li64_4 : (4 : Int64).toInt = 4 := by decide
theorem li64_8 : (8 : Int64).toInt = 8 := by decide
theorem li64_2147483575 : (2147483575 : Int64).toInt = 2147483575 := by decide
theorem li64_2147483583 : (2147483583 : Int64).toInt = 2147483583 := by decide
theorem li64_9223372036854775807 : (9223372036854775807 : Int64).toInt = 9223372036854775807 := by decide
theorem own_F1 (w b : Int64) (hw : 0 ≤ w.toInt) (hb : 0 ≤ b.toInt) : F1 w b = if 8 * w.toInt + b.toInt ≤ 2147483575 then 1 else 0 := by
  have a1 := c_lmul w 2; have a2 := c_lmul (w * 2) 4; have a3 := c_ladd 8 (w * 2 * 4); have a4 := c_ladd (8 + w * 2 * 4) b
  have r1 := rng64 (w * 2); have r2 := rng64 (w * 2 * 4); have r3 := rng64 (8 + w * 2 * 4); have r4 := rng64 (8 + w * 2 * 4 + b)
  simp only [F1, f1_0, f1_32, F2, f2_0, lw_gt, Int64.lt_iff_toInt_lt, li32_0, li32_1, li64_2, li64_4, li64_8, li64_2147483575, li64_2147483583, li64_9223372036854775807] at *
  repeat' split
  all_goals first | rfl | omega
theorem own_law (w b : Int64) (hw : 0 ≤ w.toInt) (hb : 0 ≤ b.toInt) :
    (if (0 : Int32) < (lcmpW b ((2147483583 : Int64) - (8 : Int64))) then (f0_63 w b (0 : Int32)) else (if (0 : Int32) < (lcmpW w ((((2147483583 : Int64) - (8 : Int64)) - b) / (8 : Int64))) then (f0_61 w b (0 : Int32)) else (f0_61 w b (1 : Int32)))) = 1 := by
  have e1 : ((2147483583 : Int64) - (8 : Int64)) = 2147483575 := by decide
  have e2 : (2147483575 : Int64).toInt = 2147483575 := by decide
  have d1 := c_lsub (2147483575 : Int64) b
  have d2 := rng64 ((2147483575 : Int64) - b)
  have d3 := (c_ldiv ((2147483575 : Int64) - b) 8 8 (by decide) (by decide))
  have hF := own_F1 w b hw hb
  simp only [f0_61, f0_63, lw_gt, Int64.lt_iff_toInt_lt, e1, e2] at *
  rw [hF]
  by_cases h1 : 2147483575 < b.toInt
  · have f : ¬ (8 * w.toInt + b.toInt ≤ 2147483575) := by omega
    rw [if_pos h1, if_neg f]; rfl
  · rw [if_neg h1]
    have d4 := d3.1 (by omega)
    by_cases h2 : (((2147483575 : Int64) - b) / 8).toInt < w.toInt
    · have f : ¬ (8 * w.toInt + b.toInt ≤ 2147483575) := by omega
      rw [if_pos h2, if_neg f]; rfl
    · have f : 8 * w.toInt + b.toInt ≤ 2147483575 := by omega
      rw [if_neg h2, if_pos f]; rfl
theorem law_true (x0 x1 : Int64) : F0 x0 x1 = 1 := by
  have m0 := c_maskL x0 9223372036854775807 63 (by decide) (by decide)
  have m1 := c_maskL x1 9223372036854775807 63 (by decide) (by decide)
  simp only [F0, f0_0]
  refine own_law _ _ ?_ ?_
  · rw [m0]; exact Int.emod_nonneg _ (by decide)
  · rw [m1]; exact Int.emod_nonneg _ (by decide)

theorem pd_0 : parseMethodDescriptor "(JJ)Z" = some ⟨[.long, .long], some .boolean⟩ := by decide +kernel
theorem pd_1 : parseMethodDescriptor "(JJ)J" = some ⟨[.long, .long], some .long⟩ := by decide +kernel
theorem d2_0 : decode prog_7_method_9_code 0 = .ok (.ldc2_w 189, 3) := by decide +kernel
theorem d2_3 : decode prog_7_method_9_code 3 = .ok (.lload_n 0, 1) := by decide +kernel
theorem d2_4 : decode prog_7_method_9_code 4 = .ok (.ldc2_w 191, 3) := by decide +kernel
theorem d2_7 : decode prog_7_method_9_code 7 = .ok (.lmul, 1) := by decide +kernel
theorem d2_8 : decode prog_7_method_9_code 8 = .ok (.ldc2_w 193, 3) := by decide +kernel
theorem d2_11 : decode prog_7_method_9_code 11 = .ok (.lmul, 1) := by decide +kernel
theorem d2_12 : decode prog_7_method_9_code 12 = .ok (.ladd, 1) := by decide +kernel
theorem d2_13 : decode prog_7_method_9_code 13 = .ok (.lload_n 2, 1) := by decide +kernel
theorem d2_14 : decode prog_7_method_9_code 14 = .ok (.ladd, 1) := by decide +kernel
theorem d2_15 : decode prog_7_method_9_code 15 = .ok (.lreturn, 1) := by decide +kernel
theorem pn_2 : plainName "com/example/serialis/serialis/RecordFile" = true := by first | (simp [plainName, overriddenIn]; done) | decide +kernel
theorem ef_2 (m : MethodId) (x0 : Int64) (x1 : Int64) : entryFrame m #[(.long x0), (.long x1)] 4 = mkF m 0 #[.val (.long x0), .second, .val (.long x1), .second] [] := by first | (simp [entryFrame, mkF, argsToLocals, Value.category]; done) | rfl
set_option maxRecDepth 65536 in
set_option maxHeartbeats 40000000 in
theorem rm2 (l : Launch) (Z : State) (a0 : Array Value) (hw : ∀ d ∈ tables_1, d.before a0 Z = true) (ws : List Jvm.Cond) (x0 : Int64) (x1 : Int64) (h0 : Heap) :
    MetFree l (⟨"com/example/serialis/serialis/RecordFile", "bodyLength", "(JJ)J"⟩ : MethodName) (head1 (Jvm.Cond.code (⟨"com/example/serialis/serialis/RecordFile", "bodyLength", "(JJ)J"⟩ : MethodName) prog_7_method_9_code 4 (some .long) :: ws) ({ frames := 0, cells := 0, slots := 0, locals := 0 } : Room)) (fun a U => a = #[(.long x0), (.long x1)] ∧ Z.Warmed39 U.vm ∧ U.heap = h0) (fun _ _ _ _ _ => True) (fun _ U o U' => ∃ v L, o = .returned v ∧ QP (.long (F2 x0 x1)) h0 v U'.heap L ∧ FrameEnd U o U' L ({ frames := 0, cells := 0, slots := 0, locals := 0 } : Room).cells ({ frames := 0, cells := 0, slots := 0, locals := 0 } : Room).slots) := by
  refine MetFree.of_bodySF (plainFor_of_name pn_2) hisR ?_
  intro p e s m args below meth c s₁ Bd hml0 hP hK
  obtain ⟨rfl, hZ, hh⟩ := hP
  have hx := Bd.exec
  have hby := Bd.bytes
  have hml : c.maxLocals = 4 := hml0
  have hown : s.vm.findClass "com/example/serialis/serialis/RecordFile" = some m.cls := findClass_of_methodNamed Bd.named
  have X0 : Stand p l e ({ frames := 0, cells := 0, slots := 0, locals := 0 } : Room) s m #[(.long x0), (.long x1)] below meth c s₁ [] 0 0 := Stand.of_body Bd
  have e0 : s₁.heap = h0 := by rw [← hh, Bd.state]; rfl
  show Runs p e below s (QP (.long (F2 x0 x1)) h0) ({ frames := 0, cells := 0, slots := 0, locals := 0 } : Room).cells ({ frames := 0, cells := 0, slots := 0, locals := 0 } : Room).slots (s₁.setTop (entryFrame m #[(.long x0), (.long x1)] 4))
  rw [ef_2 m x0 x1]
  obtain ⟨r, hF⟩ : ∃ r, F2 x0 x1 = r := ⟨_, rfl⟩
  rw [hF]
  have k_0 : ∀ (T : State) (X : Stand p l e ({ frames := 0, cells := 0, slots := 0, locals := 0 } : Room) s m #[(.long x0), (.long x1)] below meth c T [] 0 0) (eT : T.heap = h0), f2_0 x0 x1 = r → Runs p e below s (QP (.long r) h0) ({ frames := 0, cells := 0, slots := 0, locals := 0 } : Room).cells ({ frames := 0, cells := 0, slots := 0, locals := 0 } : Room).slots (T.setTop (mkF m 0 #[.val (.long x0), .second, .val (.long x1), .second] [])) := by
    intro T X eT  hv
    unfold f2_0 at hv
    refine Runs.go (X.ldc2Long hx hown (mvT hZ (hw _ (List.mem_of_getElem? (i := 11) rfl))) (g := (mkF m 0 #[.val (.long x0), .second, .val (.long x1), .second] [])) rfl (hb hby d2_0)) ?_
    show Runs p e below s _ _ _ (T.setTop (mkF m 3 #[.val (.long x0), .second, .val (.long x1), .second] [(.long (8 : Int64))]))
    refine Runs.go (fun _ => XS.lloadN X.here hx rfl (hb hby d2_3) rfl) ?_
    show Runs p e below s _ _ _ (T.setTop (mkF m 4 #[.val (.long x0), .second, .val (.long x1), .second] [(.long x0), (.long (8 : Int64))]))
    refine Runs.go (X.ldc2Long hx hown (mvT hZ (hw _ (List.mem_of_getElem? (i := 12) rfl))) (g := (mkF m 4 #[.val (.long x0), .second, .val (.long x1), .second] [(.long x0), (.long (8 : Int64))])) rfl (hb hby d2_4)) ?_
    show Runs p e below s _ _ _ (T.setTop (mkF m 7 #[.val (.long x0), .second, .val (.long x1), .second] [(.long (2 : Int64)), (.long x0), (.long (8 : Int64))]))
    refine Runs.go (fun _ => XS.lmul X.here hx rfl (hb hby d2_7) rfl) ?_
    show Runs p e below s _ _ _ (T.setTop (mkF m 8 #[.val (.long x0), .second, .val (.long x1), .second] [(.long (x0 * (2 : Int64))), (.long (8 : Int64))]))
    refine Runs.go (X.ldc2Long hx hown (mvT hZ (hw _ (List.mem_of_getElem? (i := 13) rfl))) (g := (mkF m 8 #[.val (.long x0), .second, .val (.long x1), .second] [(.long (x0 * (2 : Int64))), (.long (8 : Int64))])) rfl (hb hby d2_8)) ?_
    show Runs p e below s _ _ _ (T.setTop (mkF m 11 #[.val (.long x0), .second, .val (.long x1), .second] [(.long (4 : Int64)), (.long (x0 * (2 : Int64))), (.long (8 : Int64))]))
    refine Runs.go (fun _ => XS.lmul X.here hx rfl (hb hby d2_11) rfl) ?_
    show Runs p e below s _ _ _ (T.setTop (mkF m 12 #[.val (.long x0), .second, .val (.long x1), .second] [(.long ((x0 * (2 : Int64)) * (4 : Int64))), (.long (8 : Int64))]))
    refine Runs.go (fun _ => XS.ladd X.here hx rfl (hb hby d2_12) rfl) ?_
    show Runs p e below s _ _ _ (T.setTop (mkF m 13 #[.val (.long x0), .second, .val (.long x1), .second] [(.long ((8 : Int64) + ((x0 * (2 : Int64)) * (4 : Int64))))]))
    refine Runs.go (fun _ => XS.lloadN X.here hx rfl (hb hby d2_13) rfl) ?_
    show Runs p e below s _ _ _ (T.setTop (mkF m 14 #[.val (.long x0), .second, .val (.long x1), .second] [(.long x1), (.long ((8 : Int64) + ((x0 * (2 : Int64)) * (4 : Int64))))]))
    refine Runs.go (fun _ => XS.ladd X.here hx rfl (hb hby d2_14) rfl) ?_
    show Runs p e below s _ _ _ (T.setTop (mkF m 15 #[.val (.long x0), .second, .val (.long x1), .second] [(.long (((8 : Int64) + ((x0 * (2 : Int64)) * (4 : Int64))) + x1))]))
    exact Runs.endJ X hx Bd.returns Bd.notSynchronized (hb hby d2_15) ⟨congrArg (fun z => some (Value.long z)) hv, rfl, eT⟩ (by decide) (by decide)
  exact k_0 _ X0 e0 hF
theorem d1_0 : decode prog_7_method_8_code 0 = .ok (.lload_n 0, 1) := by decide +kernel
theorem d1_1 : decode prog_7_method_8_code 1 = .ok (.ldc2_w 175, 3) := by decide +kernel
theorem d1_4 : decode prog_7_method_8_code 4 = .ok (.lcmp, 1) := by decide +kernel
theorem d1_5 : decode prog_7_method_8_code 5 = .ok (.ifCond .gt 27, 3) := by decide +kernel
theorem d1_8 : decode prog_7_method_8_code 8 = .ok (.lload_n 2, 1) := by decide +kernel
theorem d1_9 : decode prog_7_method_8_code 9 = .ok (.ldc2_w 175, 3) := by decide +kernel
theorem d1_12 : decode prog_7_method_8_code 12 = .ok (.lcmp, 1) := by decide +kernel
theorem d1_13 : decode prog_7_method_8_code 13 = .ok (.ifCond .gt 19, 3) := by decide +kernel
theorem d1_16 : decode prog_7_method_8_code 16 = .ok (.lload_n 0, 1) := by decide +kernel
theorem d1_17 : decode prog_7_method_8_code 17 = .ok (.lload_n 2, 1) := by decide +kernel
theorem d1_18 : decode prog_7_method_8_code 18 = .ok (.invokestatic 171, 3) := by decide +kernel
theorem d1_21 : decode prog_7_method_8_code 21 = .ok (.ldc2_w 175, 3) := by decide +kernel
theorem d1_24 : decode prog_7_method_8_code 24 = .ok (.lcmp, 1) := by decide +kernel
theorem d1_25 : decode prog_7_method_8_code 25 = .ok (.ifCond .gt 7, 3) := by decide +kernel
theorem d1_28 : decode prog_7_method_8_code 28 = .ok (.iconst 1, 1) := by decide +kernel
theorem d1_29 : decode prog_7_method_8_code 29 = .ok (.goto 4, 3) := by decide +kernel
theorem d1_32 : decode prog_7_method_8_code 32 = .ok (.iconst 0, 1) := by decide +kernel
theorem d1_33 : decode prog_7_method_8_code 33 = .ok (.ireturn, 1) := by decide +kernel
theorem pn_1 : plainName "com/example/serialis/serialis/RecordFile" = true := by first | (simp [plainName, overriddenIn]; done) | decide +kernel
theorem ef_1 (m : MethodId) (x0 : Int64) (x1 : Int64) : entryFrame m #[(.long x0), (.long x1)] 4 = mkF m 0 #[.val (.long x0), .second, .val (.long x1), .second] [] := by first | (simp [entryFrame, mkF, argsToLocals, Value.category]; done) | rfl
set_option maxRecDepth 65536 in
set_option maxHeartbeats 40000000 in
theorem rm1 (l : Launch) (Z : State) (a0 : Array Value) (hw : ∀ d ∈ tables_1, d.before a0 Z = true) (ws : List Jvm.Cond) (x0 : Int64) (x1 : Int64) (h0 : Heap) :
    MetFree l (⟨"com/example/serialis/serialis/RecordFile", "fits", "(JJ)Z"⟩ : MethodName) (head1 (Jvm.Cond.code (⟨"com/example/serialis/serialis/RecordFile", "fits", "(JJ)Z"⟩ : MethodName) prog_7_method_8_code 4 (some .boolean) :: ws) ({ frames := 1, cells := 0, slots := 0, locals := 15 } : Room)) (fun a U => a = #[(.long x0), (.long x1)] ∧ Z.Warmed39 U.vm ∧ U.heap = h0) (fun _ _ _ _ _ => True) (fun _ U o U' => ∃ v L, o = .returned v ∧ QP (.int (F1 x0 x1)) h0 v U'.heap L ∧ FrameEnd U o U' L ({ frames := 1, cells := 0, slots := 0, locals := 15 } : Room).cells ({ frames := 1, cells := 0, slots := 0, locals := 15 } : Room).slots) := by
  refine MetFree.of_bodySF (plainFor_of_name pn_1) hisR ?_
  intro p e s m args below meth c s₁ Bd hml0 hP hK
  obtain ⟨rfl, hZ, hh⟩ := hP
  have hx := Bd.exec
  have hby := Bd.bytes
  have hml : c.maxLocals = 4 := hml0
  have hown : s.vm.findClass "com/example/serialis/serialis/RecordFile" = some m.cls := findClass_of_methodNamed Bd.named
  have X0 : Stand p l e ({ frames := 1, cells := 0, slots := 0, locals := 15 } : Room) s m #[(.long x0), (.long x1)] below meth c s₁ [] 0 0 := Stand.of_body Bd
  have e0 : s₁.heap = h0 := by rw [← hh, Bd.state]; rfl
  show Runs p e below s (QP (.int (F1 x0 x1)) h0) ({ frames := 1, cells := 0, slots := 0, locals := 15 } : Room).cells ({ frames := 1, cells := 0, slots := 0, locals := 15 } : Room).slots (s₁.setTop (entryFrame m #[(.long x0), (.long x1)] 4))
  rw [ef_1 m x0 x1]
  obtain ⟨r, hF⟩ : ∃ r, F1 x0 x1 = r := ⟨_, rfl⟩
  rw [hF]
  have k_32 : ∀ (T : State) (X : Stand p l e ({ frames := 1, cells := 0, slots := 0, locals := 15 } : Room) s m #[(.long x0), (.long x1)] below meth c T [] 0 0) (eT : T.heap = h0) (v0 : Int64) (v2 : Int64), f1_32 = r → Runs p e below s (QP (.int r) h0) ({ frames := 1, cells := 0, slots := 0, locals := 15 } : Room).cells ({ frames := 1, cells := 0, slots := 0, locals := 15 } : Room).slots (T.setTop (mkF m 32 #[.val (.long v0), .second, .val (.long v2), .second] [])) := by
    intro T X eT v0 v2 hv
    unfold f1_32 at hv
    refine Runs.go (fun _ => XS.iconst X.here hx rfl (hb hby d1_32)) ?_
    show Runs p e below s _ _ _ (T.setTop (mkF m 33 #[.val (.long v0), .second, .val (.long v2), .second] [(.int (0 : Int32))]))
    exact Runs.endN X hx (t := .boolean) Bd.returns (by simp) Bd.notSynchronized (hb hby d1_33) ⟨congrArg (fun z => some (Value.int z)) hv, rfl, eT⟩ (by decide) (by decide)
  have k_0 : ∀ (T : State) (X : Stand p l e ({ frames := 1, cells := 0, slots := 0, locals := 15 } : Room) s m #[(.long x0), (.long x1)] below meth c T [] 0 0) (eT : T.heap = h0), f1_0 x0 x1 = r → Runs p e below s (QP (.int r) h0) ({ frames := 1, cells := 0, slots := 0, locals := 15 } : Room).cells ({ frames := 1, cells := 0, slots := 0, locals := 15 } : Room).slots (T.setTop (mkF m 0 #[.val (.long x0), .second, .val (.long x1), .second] [])) := by
    intro T X eT  hv
    unfold f1_0 at hv
    refine Runs.go (fun _ => XS.lloadN X.here hx rfl (hb hby d1_0) rfl) ?_
    show Runs p e below s _ _ _ (T.setTop (mkF m 1 #[.val (.long x0), .second, .val (.long x1), .second] [(.long x0)]))
    refine Runs.go (X.ldc2Long hx hown (mvT hZ (hw _ (List.mem_of_getElem? (i := 7) rfl))) (g := (mkF m 1 #[.val (.long x0), .second, .val (.long x1), .second] [(.long x0)])) rfl (hb hby d1_1)) ?_
    show Runs p e below s _ _ _ (T.setTop (mkF m 4 #[.val (.long x0), .second, .val (.long x1), .second] [(.long (2147483583 : Int64)), (.long x0)]))
    refine Runs.go (fun _ => XS.lcmp X.here hx rfl (hb hby d1_4) rfl) ?_
    show Runs p e below s _ _ _ (T.setTop (mkF m 5 #[.val (.long x0), .second, .val (.long x1), .second] [(.int (lcmpW x0 (2147483583 : Int64)))]))
    by_cases hc5 : (0 : Int32) < (lcmpW x0 (2147483583 : Int64))
    · have hv := (if_pos hc5).symm.trans hv
      refine Runs.go (fun _ => XS.ifYes X.here hx rfl (pc0 := 5) (pc' := 32) rfl (hb hby d1_5) rfl ((if0 _ _).trans (tlt hc5).2.2.1) (by decide) (by decide)) ?_
      show Runs p e below s _ _ _ (T.setTop (mkF m 32 #[.val (.long x0), .second, .val (.long x1), .second] []))
      exact k_32 _ X eT x0 x1 hv
    · have hv := (if_neg hc5).symm.trans hv
      refine Runs.go (fun _ => XS.ifNo X.here hx rfl (hb hby d1_5) rfl ((if0 _ _).trans (flt hc5).2.2.1)) ?_
      show Runs p e below s _ _ _ (T.setTop (mkF m 8 #[.val (.long x0), .second, .val (.long x1), .second] []))
      refine Runs.go (fun _ => XS.lloadN X.here hx rfl (hb hby d1_8) rfl) ?_
      show Runs p e below s _ _ _ (T.setTop (mkF m 9 #[.val (.long x0), .second, .val (.long x1), .second] [(.long x1)]))
      refine Runs.go (X.ldc2Long hx hown (mvT hZ (hw _ (List.mem_of_getElem? (i := 7) rfl))) (g := (mkF m 9 #[.val (.long x0), .second, .val (.long x1), .second] [(.long x1)])) rfl (hb hby d1_9)) ?_
      show Runs p e below s _ _ _ (T.setTop (mkF m 12 #[.val (.long x0), .second, .val (.long x1), .second] [(.long (2147483583 : Int64)), (.long x1)]))
      refine Runs.go (fun _ => XS.lcmp X.here hx rfl (hb hby d1_12) rfl) ?_
      show Runs p e below s _ _ _ (T.setTop (mkF m 13 #[.val (.long x0), .second, .val (.long x1), .second] [(.int (lcmpW x1 (2147483583 : Int64)))]))
      by_cases hc13 : (0 : Int32) < (lcmpW x1 (2147483583 : Int64))
      · have hv := (if_pos hc13).symm.trans hv
        refine Runs.go (fun _ => XS.ifYes X.here hx rfl (pc0 := 13) (pc' := 32) rfl (hb hby d1_13) rfl ((if0 _ _).trans (tlt hc13).2.2.1) (by decide) (by decide)) ?_
        show Runs p e below s _ _ _ (T.setTop (mkF m 32 #[.val (.long x0), .second, .val (.long x1), .second] []))
        exact k_32 _ X eT x0 x1 hv
      · have hv := (if_neg hc13).symm.trans hv
        refine Runs.go (fun _ => XS.ifNo X.here hx rfl (hb hby d1_13) rfl ((if0 _ _).trans (flt hc13).2.2.1)) ?_
        show Runs p e below s _ _ _ (T.setTop (mkF m 16 #[.val (.long x0), .second, .val (.long x1), .second] []))
        refine Runs.go (fun _ => XS.lloadN X.here hx rfl (hb hby d1_16) rfl) ?_
        show Runs p e below s _ _ _ (T.setTop (mkF m 17 #[.val (.long x0), .second, .val (.long x1), .second] [(.long x0)]))
        refine Runs.go (fun _ => XS.lloadN X.here hx rfl (hb hby d1_17) rfl) ?_
        show Runs p e below s _ _ _ (T.setTop (mkF m 18 #[.val (.long x0), .second, .val (.long x1), .second] [(.long x1), (.long x0)]))
        obtain ⟨_, _, ⟨Tc18_1, Lc18_1, kc18_1, nc18_1⟩, -, Xc18_1, ⟨Lcc18_1, ⟨rfl, rfl, ec18_1⟩, lc18_1, yc18_1, zc18_1⟩, stc18_1⟩ := Jvm.LawKit.callS X hx (y := (⟨"com/example/serialis/serialis/RecordFile", "bodyLength", "(JJ)J"⟩ : MethodName)) hown (mvT hZ (hw _ (List.mem_of_getElem? (i := 8) rfl))) (mvT hZ (hw _ (List.mem_of_getElem? (i := 9) rfl))) (mvT hZ (hw _ (List.mem_of_getElem? (i := 5) rfl))) (mvT hZ (hw _ (List.mem_of_getElem? (i := 10) rfl))) (by decide) (backOf (W := 0) (rm2 l Z a0 hw [] x0 x1 h0) hZ (hw _ (List.mem_of_getElem? (i := 10) rfl)) (hw _ (List.mem_of_getElem? (i := 5) rfl)) (by decide) (by decide)) (g := (mkF m 18 #[.val (.long x0), .second, .val (.long x1), .second] [(.long x1), (.long x0)])) rfl (by rw [hml]; rfl) (argsL := [(.long x0), (.long x1)]) (rest := []) (lenOf pd_1 rfl) rfl (by show 2 * 0 + _ ≤ _; exact Nat.le_of_eq rfl) (hb hby d1_18) (fun _ _ => ⟨rfl, eT, (by decide : 0 + 0 ≤ _), (by decide : 0 + 0 ≤ _)⟩)
        dsimp only [Pt.U, Pt.locs, Pt.cells, Pt.slots] at Xc18_1 lc18_1 yc18_1 zc18_1 stc18_1 ec18_1
        subst lc18_1 yc18_1 zc18_1
        refine Runs.go stc18_1 ?_
        show Runs p e below s _ _ _ (Tc18_1.setTop (mkF m 21 #[.val (.long x0), .second, .val (.long x1), .second] [(.long (F2 x0 x1))]))
        refine Runs.go (Xc18_1.ldc2Long hx hown (mvT hZ (hw _ (List.mem_of_getElem? (i := 7) rfl))) (g := (mkF m 21 #[.val (.long x0), .second, .val (.long x1), .second] [(.long (F2 x0 x1))])) rfl (hb hby d1_21)) ?_
        show Runs p e below s _ _ _ (Tc18_1.setTop (mkF m 24 #[.val (.long x0), .second, .val (.long x1), .second] [(.long (2147483583 : Int64)), (.long (F2 x0 x1))]))
        refine Runs.go (fun _ => XS.lcmp Xc18_1.here hx rfl (hb hby d1_24) rfl) ?_
        show Runs p e below s _ _ _ (Tc18_1.setTop (mkF m 25 #[.val (.long x0), .second, .val (.long x1), .second] [(.int (lcmpW (F2 x0 x1) (2147483583 : Int64)))]))
        by_cases hc25 : (0 : Int32) < (lcmpW (F2 x0 x1) (2147483583 : Int64))
        · have hv := (if_pos hc25).symm.trans hv
          refine Runs.go (fun _ => XS.ifYes Xc18_1.here hx rfl (pc0 := 25) (pc' := 32) rfl (hb hby d1_25) rfl ((if0 _ _).trans (tlt hc25).2.2.1) (by decide) (by decide)) ?_
          show Runs p e below s _ _ _ (Tc18_1.setTop (mkF m 32 #[.val (.long x0), .second, .val (.long x1), .second] []))
          exact k_32 _ Xc18_1 ec18_1 x0 x1 hv
        · have hv := (if_neg hc25).symm.trans hv
          refine Runs.go (fun _ => XS.ifNo Xc18_1.here hx rfl (hb hby d1_25) rfl ((if0 _ _).trans (flt hc25).2.2.1)) ?_
          show Runs p e below s _ _ _ (Tc18_1.setTop (mkF m 28 #[.val (.long x0), .second, .val (.long x1), .second] []))
          refine Runs.go (fun _ => XS.iconst Xc18_1.here hx rfl (hb hby d1_28)) ?_
          show Runs p e below s _ _ _ (Tc18_1.setTop (mkF m 29 #[.val (.long x0), .second, .val (.long x1), .second] [(.int (1 : Int32))]))
          refine Runs.go (fun _ => XS.goto Xc18_1.here hx rfl (pc0 := 29) (pc' := 33) rfl (hb hby d1_29) (by decide) (by decide)) ?_
          show Runs p e below s _ _ _ (Tc18_1.setTop (mkF m 33 #[.val (.long x0), .second, .val (.long x1), .second] [(.int (1 : Int32))]))
          exact Runs.endN Xc18_1 hx (t := .boolean) Bd.returns (by simp) Bd.notSynchronized (hb hby d1_33) ⟨congrArg (fun z => some (Value.int z)) hv, rfl, ec18_1⟩ (by decide) (by decide)
  exact k_0 _ X0 e0 hF
theorem pn_0 : plainName "com/example/serialis/serialis/RecordFileFitsPinLaw" = true := by first | (simp [plainName, overriddenIn]; done) | decide +kernel
theorem ef_0 (m : MethodId) (x0 : Int64) (x1 : Int64) : entryFrame m #[(.long x0), (.long x1)] maxLocals = mkF m 0 #[.val (.long x0), .second, .val (.long x1), .second, .unset, .unset, .unset, .unset, .unset, .unset, .unset] [] := by first | (simp [entryFrame, mkF, argsToLocals, Value.category, maxLocals]; done) | rfl
set_option maxRecDepth 65536 in
set_option maxHeartbeats 40000000 in
theorem rm0 (l : Launch) (Z : State) (a0 : Array Value) (hw : ∀ d ∈ tables_1, d.before a0 Z = true) (ws : List Jvm.Cond) (x0 : Int64) (x1 : Int64) (h0 : Heap) :
    MetFree l x (head1 (Jvm.Cond.code x code maxLocals ret :: ws) room_1) (fun a U => a = #[(.long x0), (.long x1)] ∧ Z.Warmed39 U.vm ∧ U.heap = h0) (fun _ _ _ _ _ => True) (fun _ U o U' => ∃ v L, o = .returned v ∧ QP (.int (F0 x0 x1)) h0 v U'.heap L ∧ FrameEnd U o U' L 0 0) := by
  refine MetFree.of_bodySF (plainFor_of_name pn_0) hisR ?_
  intro p e s m args below meth c s₁ Bd hml0 hP hK
  obtain ⟨rfl, hZ, hh⟩ := hP
  have hx := Bd.exec
  have hby := Bd.bytes
  have hml : c.maxLocals = 11 := hml0
  have hown : s.vm.findClass "com/example/serialis/serialis/RecordFileFitsPinLaw" = some m.cls := findClass_of_methodNamed Bd.named
  have X0 : Stand p l e room_1 s m #[(.long x0), (.long x1)] below meth c s₁ [] 0 0 := Stand.of_body Bd
  have e0 : s₁.heap = h0 := by rw [← hh, Bd.state]; rfl
  show Runs p e below s (QP (.int (F0 x0 x1)) h0) 0 0 (s₁.setTop (entryFrame m #[(.long x0), (.long x1)] maxLocals))
  rw [ef_0 m x0 x1]
  obtain ⟨r, hF⟩ : ∃ r, F0 x0 x1 = r := ⟨_, rfl⟩
  rw [hF]
  have k_63 : ∀ (T : State) (X : Stand p l e room_1 s m #[(.long x0), (.long x1)] below meth c T [] 0 0) (eT : T.heap = h0) (v0 : Int64) (v2 : Int64) (v4 : Int64) (v6 : Int64) (v8 : Int64) (v10 : Int32), f0_63 v4 v6 v10 = r → Runs p e below s (QP (.int r) h0) 0 0 (T.setTop (mkF m 63 #[.val (.long v0), .second, .val (.long v2), .second, .val (.long v4), .second, .val (.long v6), .second, .val (.long v8), .second, .val (.int v10)] [])) := by
    intro T X eT v0 v2 v4 v6 v8 v10 hv
    unfold f0_63 at hv
    refine Runs.go (fun _ => XS.lload X.here hx rfl (hb hby at_63) rfl) ?_
    show Runs p e below s _ _ _ (T.setTop (mkF m 65 #[.val (.long v0), .second, .val (.long v2), .second, .val (.long v4), .second, .val (.long v6), .second, .val (.long v8), .second, .val (.int v10)] [(.long v4)]))
    refine Runs.go (fun _ => XS.lload X.here hx rfl (hb hby at_65) rfl) ?_
    show Runs p e below s _ _ _ (T.setTop (mkF m 67 #[.val (.long v0), .second, .val (.long v2), .second, .val (.long v4), .second, .val (.long v6), .second, .val (.long v8), .second, .val (.int v10)] [(.long v6), (.long v4)]))
    obtain ⟨_, _, ⟨Tc67_1, Lc67_1, kc67_1, nc67_1⟩, -, Xc67_1, ⟨Lcc67_1, ⟨rfl, rfl, ec67_1⟩, lc67_1, yc67_1, zc67_1⟩, stc67_1⟩ := Jvm.LawKit.callS X hx (y := (⟨"com/example/serialis/serialis/RecordFile", "fits", "(JJ)Z"⟩ : MethodName)) hown (mvT hZ (hw _ (List.mem_of_getElem? (i := 3) rfl))) (mvT hZ (hw _ (List.mem_of_getElem? (i := 4) rfl))) (mvT hZ (hw _ (List.mem_of_getElem? (i := 5) rfl))) (mvT hZ (hw _ (List.mem_of_getElem? (i := 6) rfl))) (by decide) (backOf (W := 0) (rm1 l Z a0 hw [] v4 v6 h0) hZ (hw _ (List.mem_of_getElem? (i := 6) rfl)) (hw _ (List.mem_of_getElem? (i := 5) rfl)) (by decide) (by decide)) (g := (mkF m 67 #[.val (.long v0), .second, .val (.long v2), .second, .val (.long v4), .second, .val (.long v6), .second, .val (.long v8), .second, .val (.int v10)] [(.long v6), (.long v4)])) rfl (by rw [hml]; rfl) (argsL := [(.long v4), (.long v6)]) (rest := []) (lenOf pd_0 rfl) rfl (by show 2 * 0 + _ ≤ _; exact Nat.le_of_eq rfl) (hb hby at_67) (fun _ _ => ⟨rfl, eT, (by decide : 0 + 0 ≤ _), (by decide : 0 + 0 ≤ _)⟩)
    dsimp only [Pt.U, Pt.locs, Pt.cells, Pt.slots] at Xc67_1 lc67_1 yc67_1 zc67_1 stc67_1 ec67_1
    subst lc67_1 yc67_1 zc67_1
    refine Runs.go stc67_1 ?_
    show Runs p e below s _ _ _ (Tc67_1.setTop (mkF m 70 #[.val (.long v0), .second, .val (.long v2), .second, .val (.long v4), .second, .val (.long v6), .second, .val (.long v8), .second, .val (.int v10)] [(.int (F1 v4 v6))]))
    refine Runs.go (fun _ => XS.iload Xc67_1.here hx rfl (hb hby at_70) rfl) ?_
    show Runs p e below s _ _ _ (Tc67_1.setTop (mkF m 72 #[.val (.long v0), .second, .val (.long v2), .second, .val (.long v4), .second, .val (.long v6), .second, .val (.long v8), .second, .val (.int v10)] [(.int v10), (.int (F1 v4 v6))]))
    by_cases hc72 : (F1 v4 v6) = v10
    · have hv := (if_pos hc72).symm.trans hv
      refine Runs.go (fun _ => XS.icmpNo Xc67_1.here hx rfl (hb hby at_72) rfl (teq hc72).2) ?_
      show Runs p e below s _ _ _ (Tc67_1.setTop (mkF m 75 #[.val (.long v0), .second, .val (.long v2), .second, .val (.long v4), .second, .val (.long v6), .second, .val (.long v8), .second, .val (.int v10)] []))
      refine Runs.go (fun _ => XS.iconst Xc67_1.here hx rfl (hb hby at_75)) ?_
      show Runs p e below s _ _ _ (Tc67_1.setTop (mkF m 76 #[.val (.long v0), .second, .val (.long v2), .second, .val (.long v4), .second, .val (.long v6), .second, .val (.long v8), .second, .val (.int v10)] [(.int (1 : Int32))]))
      refine Runs.go (fun _ => XS.goto Xc67_1.here hx rfl (pc0 := 76) (pc' := 80) rfl (hb hby at_76) (by decide) (by decide)) ?_
      show Runs p e below s _ _ _ (Tc67_1.setTop (mkF m 80 #[.val (.long v0), .second, .val (.long v2), .second, .val (.long v4), .second, .val (.long v6), .second, .val (.long v8), .second, .val (.int v10)] [(.int (1 : Int32))]))
      exact Runs.endN Xc67_1 hx (t := .boolean) Bd.returns (by simp) Bd.notSynchronized (hb hby at_80) ⟨congrArg (fun z => some (Value.int z)) hv, rfl, ec67_1⟩ (by decide) (by decide)
    · have hv := (if_neg hc72).symm.trans hv
      refine Runs.go (fun _ => XS.icmpYes Xc67_1.here hx rfl (pc0 := 72) (pc' := 79) rfl (hb hby at_72) rfl (feq hc72).2 (by decide) (by decide)) ?_
      show Runs p e below s _ _ _ (Tc67_1.setTop (mkF m 79 #[.val (.long v0), .second, .val (.long v2), .second, .val (.long v4), .second, .val (.long v6), .second, .val (.long v8), .second, .val (.int v10)] []))
      refine Runs.go (fun _ => XS.iconst Xc67_1.here hx rfl (hb hby at_79)) ?_
      show Runs p e below s _ _ _ (Tc67_1.setTop (mkF m 80 #[.val (.long v0), .second, .val (.long v2), .second, .val (.long v4), .second, .val (.long v6), .second, .val (.long v8), .second, .val (.int v10)] [(.int (0 : Int32))]))
      exact Runs.endN Xc67_1 hx (t := .boolean) Bd.returns (by simp) Bd.notSynchronized (hb hby at_80) ⟨congrArg (fun z => some (Value.int z)) hv, rfl, ec67_1⟩ (by decide) (by decide)
  have k_61 : ∀ (T : State) (X : Stand p l e room_1 s m #[(.long x0), (.long x1)] below meth c T [] 0 0) (eT : T.heap = h0) (v0 : Int64) (v2 : Int64) (v4 : Int64) (v6 : Int64) (v8 : Int64) (t0 : Int32), f0_61 v4 v6 t0 = r → Runs p e below s (QP (.int r) h0) 0 0 (T.setTop (mkF m 61 #[.val (.long v0), .second, .val (.long v2), .second, .val (.long v4), .second, .val (.long v6), .second, .val (.long v8), .second, .unset] [(.int t0)])) := by
    intro T X eT v0 v2 v4 v6 v8 t0 hv
    unfold f0_61 at hv
    refine Runs.go (fun _ => XS.istore X.here hx rfl (hb hby at_61) rfl (l' := #[.val (.long v0), .second, .val (.long v2), .second, .val (.long v4), .second, .val (.long v6), .second, .val (.long v8), .second, .val (.int t0)]) rfl) ?_
    show Runs p e below s _ _ _ (T.setTop (mkF m 63 #[.val (.long v0), .second, .val (.long v2), .second, .val (.long v4), .second, .val (.long v6), .second, .val (.long v8), .second, .val (.int t0)] []))
    exact k_63 _ X eT v0 v2 v4 v6 v8 t0 hv
  have k_0 : ∀ (T : State) (X : Stand p l e room_1 s m #[(.long x0), (.long x1)] below meth c T [] 0 0) (eT : T.heap = h0), f0_0 x0 x1 = r → Runs p e below s (QP (.int r) h0) 0 0 (T.setTop (mkF m 0 #[.val (.long x0), .second, .val (.long x1), .second, .unset, .unset, .unset, .unset, .unset, .unset, .unset] [])) := by
    intro T X eT  hv
    unfold f0_0 at hv
    refine Runs.go (fun _ => XS.lloadN X.here hx rfl (hb hby at_0) rfl) ?_
    show Runs p e below s _ _ _ (T.setTop (mkF m 1 #[.val (.long x0), .second, .val (.long x1), .second, .unset, .unset, .unset, .unset, .unset, .unset, .unset] [(.long x0)]))
    refine Runs.go (X.ldc2Long hx hown (mvT hZ (hw _ (List.mem_of_getElem? (i := 0) rfl))) (g := (mkF m 1 #[.val (.long x0), .second, .val (.long x1), .second, .unset, .unset, .unset, .unset, .unset, .unset, .unset] [(.long x0)])) rfl (hb hby at_1)) ?_
    show Runs p e below s _ _ _ (T.setTop (mkF m 4 #[.val (.long x0), .second, .val (.long x1), .second, .unset, .unset, .unset, .unset, .unset, .unset, .unset] [(.long (9223372036854775807 : Int64)), (.long x0)]))
    refine Runs.go (fun _ => XS.land X.here hx rfl (hb hby at_4) rfl) ?_
    show Runs p e below s _ _ _ (T.setTop (mkF m 5 #[.val (.long x0), .second, .val (.long x1), .second, .unset, .unset, .unset, .unset, .unset, .unset, .unset] [(.long (x0 &&& (9223372036854775807 : Int64)))]))
    refine Runs.go (fun _ => XS.lstore X.here hx rfl (hb hby at_5) rfl (l' := #[.val (.long x0), .second, .val (.long x1), .second, .val (.long (x0 &&& (9223372036854775807 : Int64))), .second, .unset, .unset, .unset, .unset, .unset]) rfl) ?_
    show Runs p e below s _ _ _ (T.setTop (mkF m 7 #[.val (.long x0), .second, .val (.long x1), .second, .val (.long (x0 &&& (9223372036854775807 : Int64))), .second, .unset, .unset, .unset, .unset, .unset] []))
    refine Runs.go (fun _ => XS.lloadN X.here hx rfl (hb hby at_7) rfl) ?_
    show Runs p e below s _ _ _ (T.setTop (mkF m 8 #[.val (.long x0), .second, .val (.long x1), .second, .val (.long (x0 &&& (9223372036854775807 : Int64))), .second, .unset, .unset, .unset, .unset, .unset] [(.long x1)]))
    refine Runs.go (X.ldc2Long hx hown (mvT hZ (hw _ (List.mem_of_getElem? (i := 0) rfl))) (g := (mkF m 8 #[.val (.long x0), .second, .val (.long x1), .second, .val (.long (x0 &&& (9223372036854775807 : Int64))), .second, .unset, .unset, .unset, .unset, .unset] [(.long x1)])) rfl (hb hby at_8)) ?_
    show Runs p e below s _ _ _ (T.setTop (mkF m 11 #[.val (.long x0), .second, .val (.long x1), .second, .val (.long (x0 &&& (9223372036854775807 : Int64))), .second, .unset, .unset, .unset, .unset, .unset] [(.long (9223372036854775807 : Int64)), (.long x1)]))
    refine Runs.go (fun _ => XS.land X.here hx rfl (hb hby at_11) rfl) ?_
    show Runs p e below s _ _ _ (T.setTop (mkF m 12 #[.val (.long x0), .second, .val (.long x1), .second, .val (.long (x0 &&& (9223372036854775807 : Int64))), .second, .unset, .unset, .unset, .unset, .unset] [(.long (x1 &&& (9223372036854775807 : Int64)))]))
    refine Runs.go (fun _ => XS.lstore X.here hx rfl (hb hby at_12) rfl (l' := #[.val (.long x0), .second, .val (.long x1), .second, .val (.long (x0 &&& (9223372036854775807 : Int64))), .second, .val (.long (x1 &&& (9223372036854775807 : Int64))), .second, .unset, .unset, .unset]) rfl) ?_
    show Runs p e below s _ _ _ (T.setTop (mkF m 14 #[.val (.long x0), .second, .val (.long x1), .second, .val (.long (x0 &&& (9223372036854775807 : Int64))), .second, .val (.long (x1 &&& (9223372036854775807 : Int64))), .second, .unset, .unset, .unset] []))
    refine Runs.go (X.ldc2Long hx hown (mvT hZ (hw _ (List.mem_of_getElem? (i := 1) rfl))) (g := (mkF m 14 #[.val (.long x0), .second, .val (.long x1), .second, .val (.long (x0 &&& (9223372036854775807 : Int64))), .second, .val (.long (x1 &&& (9223372036854775807 : Int64))), .second, .unset, .unset, .unset] [])) rfl (hb hby at_14)) ?_
    show Runs p e below s _ _ _ (T.setTop (mkF m 17 #[.val (.long x0), .second, .val (.long x1), .second, .val (.long (x0 &&& (9223372036854775807 : Int64))), .second, .val (.long (x1 &&& (9223372036854775807 : Int64))), .second, .unset, .unset, .unset] [(.long (2147483583 : Int64))]))
    refine Runs.go (fun _ => XS.lstore X.here hx rfl (hb hby at_17) rfl (l' := #[.val (.long x0), .second, .val (.long x1), .second, .val (.long (x0 &&& (9223372036854775807 : Int64))), .second, .val (.long (x1 &&& (9223372036854775807 : Int64))), .second, .val (.long (2147483583 : Int64)), .second, .unset]) rfl) ?_
    show Runs p e below s _ _ _ (T.setTop (mkF m 19 #[.val (.long x0), .second, .val (.long x1), .second, .val (.long (x0 &&& (9223372036854775807 : Int64))), .second, .val (.long (x1 &&& (9223372036854775807 : Int64))), .second, .val (.long (2147483583 : Int64)), .second, .unset] []))
    refine Runs.go (fun _ => XS.lload X.here hx rfl (hb hby at_19) rfl) ?_
    show Runs p e below s _ _ _ (T.setTop (mkF m 21 #[.val (.long x0), .second, .val (.long x1), .second, .val (.long (x0 &&& (9223372036854775807 : Int64))), .second, .val (.long (x1 &&& (9223372036854775807 : Int64))), .second, .val (.long (2147483583 : Int64)), .second, .unset] [(.long (x1 &&& (9223372036854775807 : Int64)))]))
    refine Runs.go (fun _ => XS.lload X.here hx rfl (hb hby at_21) rfl) ?_
    show Runs p e below s _ _ _ (T.setTop (mkF m 23 #[.val (.long x0), .second, .val (.long x1), .second, .val (.long (x0 &&& (9223372036854775807 : Int64))), .second, .val (.long (x1 &&& (9223372036854775807 : Int64))), .second, .val (.long (2147483583 : Int64)), .second, .unset] [(.long (2147483583 : Int64)), (.long (x1 &&& (9223372036854775807 : Int64)))]))
    refine Runs.go (X.ldc2Long hx hown (mvT hZ (hw _ (List.mem_of_getElem? (i := 2) rfl))) (g := (mkF m 23 #[.val (.long x0), .second, .val (.long x1), .second, .val (.long (x0 &&& (9223372036854775807 : Int64))), .second, .val (.long (x1 &&& (9223372036854775807 : Int64))), .second, .val (.long (2147483583 : Int64)), .second, .unset] [(.long (2147483583 : Int64)), (.long (x1 &&& (9223372036854775807 : Int64)))])) rfl (hb hby at_23)) ?_
    show Runs p e below s _ _ _ (T.setTop (mkF m 26 #[.val (.long x0), .second, .val (.long x1), .second, .val (.long (x0 &&& (9223372036854775807 : Int64))), .second, .val (.long (x1 &&& (9223372036854775807 : Int64))), .second, .val (.long (2147483583 : Int64)), .second, .unset] [(.long (8 : Int64)), (.long (2147483583 : Int64)), (.long (x1 &&& (9223372036854775807 : Int64)))]))
    refine Runs.go (fun _ => XS.lsub X.here hx rfl (hb hby at_26) rfl) ?_
    show Runs p e below s _ _ _ (T.setTop (mkF m 27 #[.val (.long x0), .second, .val (.long x1), .second, .val (.long (x0 &&& (9223372036854775807 : Int64))), .second, .val (.long (x1 &&& (9223372036854775807 : Int64))), .second, .val (.long (2147483583 : Int64)), .second, .unset] [(.long ((2147483583 : Int64) - (8 : Int64))), (.long (x1 &&& (9223372036854775807 : Int64)))]))
    refine Runs.go (fun _ => XS.lcmp X.here hx rfl (hb hby at_27) rfl) ?_
    show Runs p e below s _ _ _ (T.setTop (mkF m 28 #[.val (.long x0), .second, .val (.long x1), .second, .val (.long (x0 &&& (9223372036854775807 : Int64))), .second, .val (.long (x1 &&& (9223372036854775807 : Int64))), .second, .val (.long (2147483583 : Int64)), .second, .unset] [(.int (lcmpW (x1 &&& (9223372036854775807 : Int64)) ((2147483583 : Int64) - (8 : Int64))))]))
    by_cases hc28 : (0 : Int32) < (lcmpW (x1 &&& (9223372036854775807 : Int64)) ((2147483583 : Int64) - (8 : Int64)))
    · have hv := (if_pos hc28).symm.trans hv
      refine Runs.go (fun _ => XS.ifNo X.here hx rfl (hb hby at_28) rfl ((if0 _ _).trans (tlt hc28).2.2.2)) ?_
      show Runs p e below s _ _ _ (T.setTop (mkF m 31 #[.val (.long x0), .second, .val (.long x1), .second, .val (.long (x0 &&& (9223372036854775807 : Int64))), .second, .val (.long (x1 &&& (9223372036854775807 : Int64))), .second, .val (.long (2147483583 : Int64)), .second, .unset] []))
      refine Runs.go (fun _ => XS.iconst X.here hx rfl (hb hby at_31)) ?_
      show Runs p e below s _ _ _ (T.setTop (mkF m 32 #[.val (.long x0), .second, .val (.long x1), .second, .val (.long (x0 &&& (9223372036854775807 : Int64))), .second, .val (.long (x1 &&& (9223372036854775807 : Int64))), .second, .val (.long (2147483583 : Int64)), .second, .unset] [(.int (0 : Int32))]))
      refine Runs.go (fun _ => XS.istore X.here hx rfl (hb hby at_32) rfl (l' := #[.val (.long x0), .second, .val (.long x1), .second, .val (.long (x0 &&& (9223372036854775807 : Int64))), .second, .val (.long (x1 &&& (9223372036854775807 : Int64))), .second, .val (.long (2147483583 : Int64)), .second, .val (.int (0 : Int32))]) rfl) ?_
      show Runs p e below s _ _ _ (T.setTop (mkF m 34 #[.val (.long x0), .second, .val (.long x1), .second, .val (.long (x0 &&& (9223372036854775807 : Int64))), .second, .val (.long (x1 &&& (9223372036854775807 : Int64))), .second, .val (.long (2147483583 : Int64)), .second, .val (.int (0 : Int32))] []))
      refine Runs.go (fun _ => XS.goto X.here hx rfl (pc0 := 34) (pc' := 63) rfl (hb hby at_34) (by decide) (by decide)) ?_
      show Runs p e below s _ _ _ (T.setTop (mkF m 63 #[.val (.long x0), .second, .val (.long x1), .second, .val (.long (x0 &&& (9223372036854775807 : Int64))), .second, .val (.long (x1 &&& (9223372036854775807 : Int64))), .second, .val (.long (2147483583 : Int64)), .second, .val (.int (0 : Int32))] []))
      exact k_63 _ X eT x0 x1 (x0 &&& (9223372036854775807 : Int64)) (x1 &&& (9223372036854775807 : Int64)) (2147483583 : Int64) (0 : Int32) hv
    · have hv := (if_neg hc28).symm.trans hv
      refine Runs.go (fun _ => XS.ifYes X.here hx rfl (pc0 := 28) (pc' := 37) rfl (hb hby at_28) rfl ((if0 _ _).trans (flt hc28).2.2.2) (by decide) (by decide)) ?_
      show Runs p e below s _ _ _ (T.setTop (mkF m 37 #[.val (.long x0), .second, .val (.long x1), .second, .val (.long (x0 &&& (9223372036854775807 : Int64))), .second, .val (.long (x1 &&& (9223372036854775807 : Int64))), .second, .val (.long (2147483583 : Int64)), .second, .unset] []))
      refine Runs.go (fun _ => XS.lload X.here hx rfl (hb hby at_37) rfl) ?_
      show Runs p e below s _ _ _ (T.setTop (mkF m 39 #[.val (.long x0), .second, .val (.long x1), .second, .val (.long (x0 &&& (9223372036854775807 : Int64))), .second, .val (.long (x1 &&& (9223372036854775807 : Int64))), .second, .val (.long (2147483583 : Int64)), .second, .unset] [(.long (x0 &&& (9223372036854775807 : Int64)))]))
      refine Runs.go (fun _ => XS.lload X.here hx rfl (hb hby at_39) rfl) ?_
      show Runs p e below s _ _ _ (T.setTop (mkF m 41 #[.val (.long x0), .second, .val (.long x1), .second, .val (.long (x0 &&& (9223372036854775807 : Int64))), .second, .val (.long (x1 &&& (9223372036854775807 : Int64))), .second, .val (.long (2147483583 : Int64)), .second, .unset] [(.long (2147483583 : Int64)), (.long (x0 &&& (9223372036854775807 : Int64)))]))
      refine Runs.go (X.ldc2Long hx hown (mvT hZ (hw _ (List.mem_of_getElem? (i := 2) rfl))) (g := (mkF m 41 #[.val (.long x0), .second, .val (.long x1), .second, .val (.long (x0 &&& (9223372036854775807 : Int64))), .second, .val (.long (x1 &&& (9223372036854775807 : Int64))), .second, .val (.long (2147483583 : Int64)), .second, .unset] [(.long (2147483583 : Int64)), (.long (x0 &&& (9223372036854775807 : Int64)))])) rfl (hb hby at_41)) ?_
      show Runs p e below s _ _ _ (T.setTop (mkF m 44 #[.val (.long x0), .second, .val (.long x1), .second, .val (.long (x0 &&& (9223372036854775807 : Int64))), .second, .val (.long (x1 &&& (9223372036854775807 : Int64))), .second, .val (.long (2147483583 : Int64)), .second, .unset] [(.long (8 : Int64)), (.long (2147483583 : Int64)), (.long (x0 &&& (9223372036854775807 : Int64)))]))
      refine Runs.go (fun _ => XS.lsub X.here hx rfl (hb hby at_44) rfl) ?_
      show Runs p e below s _ _ _ (T.setTop (mkF m 45 #[.val (.long x0), .second, .val (.long x1), .second, .val (.long (x0 &&& (9223372036854775807 : Int64))), .second, .val (.long (x1 &&& (9223372036854775807 : Int64))), .second, .val (.long (2147483583 : Int64)), .second, .unset] [(.long ((2147483583 : Int64) - (8 : Int64))), (.long (x0 &&& (9223372036854775807 : Int64)))]))
      refine Runs.go (fun _ => XS.lload X.here hx rfl (hb hby at_45) rfl) ?_
      show Runs p e below s _ _ _ (T.setTop (mkF m 47 #[.val (.long x0), .second, .val (.long x1), .second, .val (.long (x0 &&& (9223372036854775807 : Int64))), .second, .val (.long (x1 &&& (9223372036854775807 : Int64))), .second, .val (.long (2147483583 : Int64)), .second, .unset] [(.long (x1 &&& (9223372036854775807 : Int64))), (.long ((2147483583 : Int64) - (8 : Int64))), (.long (x0 &&& (9223372036854775807 : Int64)))]))
      refine Runs.go (fun _ => XS.lsub X.here hx rfl (hb hby at_47) rfl) ?_
      show Runs p e below s _ _ _ (T.setTop (mkF m 48 #[.val (.long x0), .second, .val (.long x1), .second, .val (.long (x0 &&& (9223372036854775807 : Int64))), .second, .val (.long (x1 &&& (9223372036854775807 : Int64))), .second, .val (.long (2147483583 : Int64)), .second, .unset] [(.long (((2147483583 : Int64) - (8 : Int64)) - (x1 &&& (9223372036854775807 : Int64)))), (.long (x0 &&& (9223372036854775807 : Int64)))]))
      refine Runs.go (X.ldc2Long hx hown (mvT hZ (hw _ (List.mem_of_getElem? (i := 2) rfl))) (g := (mkF m 48 #[.val (.long x0), .second, .val (.long x1), .second, .val (.long (x0 &&& (9223372036854775807 : Int64))), .second, .val (.long (x1 &&& (9223372036854775807 : Int64))), .second, .val (.long (2147483583 : Int64)), .second, .unset] [(.long (((2147483583 : Int64) - (8 : Int64)) - (x1 &&& (9223372036854775807 : Int64)))), (.long (x0 &&& (9223372036854775807 : Int64)))])) rfl (hb hby at_48)) ?_
      show Runs p e below s _ _ _ (T.setTop (mkF m 51 #[.val (.long x0), .second, .val (.long x1), .second, .val (.long (x0 &&& (9223372036854775807 : Int64))), .second, .val (.long (x1 &&& (9223372036854775807 : Int64))), .second, .val (.long (2147483583 : Int64)), .second, .unset] [(.long (8 : Int64)), (.long (((2147483583 : Int64) - (8 : Int64)) - (x1 &&& (9223372036854775807 : Int64)))), (.long (x0 &&& (9223372036854775807 : Int64)))]))
      refine Runs.go (fun _ => XS.ldiv X.here hx rfl (hb hby at_51) rfl (by decide)) ?_
      show Runs p e below s _ _ _ (T.setTop (mkF m 52 #[.val (.long x0), .second, .val (.long x1), .second, .val (.long (x0 &&& (9223372036854775807 : Int64))), .second, .val (.long (x1 &&& (9223372036854775807 : Int64))), .second, .val (.long (2147483583 : Int64)), .second, .unset] [(.long ((((2147483583 : Int64) - (8 : Int64)) - (x1 &&& (9223372036854775807 : Int64))) / (8 : Int64))), (.long (x0 &&& (9223372036854775807 : Int64)))]))
      refine Runs.go (fun _ => XS.lcmp X.here hx rfl (hb hby at_52) rfl) ?_
      show Runs p e below s _ _ _ (T.setTop (mkF m 53 #[.val (.long x0), .second, .val (.long x1), .second, .val (.long (x0 &&& (9223372036854775807 : Int64))), .second, .val (.long (x1 &&& (9223372036854775807 : Int64))), .second, .val (.long (2147483583 : Int64)), .second, .unset] [(.int (lcmpW (x0 &&& (9223372036854775807 : Int64)) ((((2147483583 : Int64) - (8 : Int64)) - (x1 &&& (9223372036854775807 : Int64))) / (8 : Int64))))]))
      by_cases hc53 : (0 : Int32) < (lcmpW (x0 &&& (9223372036854775807 : Int64)) ((((2147483583 : Int64) - (8 : Int64)) - (x1 &&& (9223372036854775807 : Int64))) / (8 : Int64)))
      · have hv := (if_pos hc53).symm.trans hv
        refine Runs.go (fun _ => XS.ifYes X.here hx rfl (pc0 := 53) (pc' := 60) rfl (hb hby at_53) rfl ((if0 _ _).trans (tlt hc53).2.2.1) (by decide) (by decide)) ?_
        show Runs p e below s _ _ _ (T.setTop (mkF m 60 #[.val (.long x0), .second, .val (.long x1), .second, .val (.long (x0 &&& (9223372036854775807 : Int64))), .second, .val (.long (x1 &&& (9223372036854775807 : Int64))), .second, .val (.long (2147483583 : Int64)), .second, .unset] []))
        refine Runs.go (fun _ => XS.iconst X.here hx rfl (hb hby at_60)) ?_
        show Runs p e below s _ _ _ (T.setTop (mkF m 61 #[.val (.long x0), .second, .val (.long x1), .second, .val (.long (x0 &&& (9223372036854775807 : Int64))), .second, .val (.long (x1 &&& (9223372036854775807 : Int64))), .second, .val (.long (2147483583 : Int64)), .second, .unset] [(.int (0 : Int32))]))
        exact k_61 _ X eT x0 x1 (x0 &&& (9223372036854775807 : Int64)) (x1 &&& (9223372036854775807 : Int64)) (2147483583 : Int64) (0 : Int32) hv
      · have hv := (if_neg hc53).symm.trans hv
        refine Runs.go (fun _ => XS.ifNo X.here hx rfl (hb hby at_53) rfl ((if0 _ _).trans (flt hc53).2.2.1)) ?_
        show Runs p e below s _ _ _ (T.setTop (mkF m 56 #[.val (.long x0), .second, .val (.long x1), .second, .val (.long (x0 &&& (9223372036854775807 : Int64))), .second, .val (.long (x1 &&& (9223372036854775807 : Int64))), .second, .val (.long (2147483583 : Int64)), .second, .unset] []))
        refine Runs.go (fun _ => XS.iconst X.here hx rfl (hb hby at_56)) ?_
        show Runs p e below s _ _ _ (T.setTop (mkF m 57 #[.val (.long x0), .second, .val (.long x1), .second, .val (.long (x0 &&& (9223372036854775807 : Int64))), .second, .val (.long (x1 &&& (9223372036854775807 : Int64))), .second, .val (.long (2147483583 : Int64)), .second, .unset] [(.int (1 : Int32))]))
        refine Runs.go (fun _ => XS.goto X.here hx rfl (pc0 := 57) (pc' := 61) rfl (hb hby at_57) (by decide) (by decide)) ?_
        show Runs p e below s _ _ _ (T.setTop (mkF m 61 #[.val (.long x0), .second, .val (.long x1), .second, .val (.long (x0 &&& (9223372036854775807 : Int64))), .second, .val (.long (x1 &&& (9223372036854775807 : Int64))), .second, .val (.long (2147483583 : Int64)), .second, .unset] [(.int (1 : Int32))]))
        exact k_61 _ X eT x0 x1 (x0 &&& (9223372036854775807 : Int64)) (x1 &&& (9223372036854775807 : Int64)) (2147483583 : Int64) (1 : Int32) hv
  exact k_0 _ X0 e0 hF
set_option maxRecDepth 65536 in
set_option maxHeartbeats 40000000 in
theorem comes_1 {Post : Tables → Env → Array Value → State → Outcome → State → Prop} (hpost : ∀ tb e args s v u, (limb_1_1.after args s (.returned v) u = true ∧ limb_1_2.after args s (.returned v) u = true ∧ True) → FrameEnd s (.returned v) u (Jvm.fieldLocs frame_1_writes args s ++ Jvm.arrayLocs frame_1_arrays args s ++ Jvm.staticLocs frame_1_statics s) 0 0 → Post tb e args s (.returned v) u) :
    ArmFor flags0 classFile x code maxLocals ret World_1 tables_1 room_1 Calls_1 rest_1 Pre_1 Post := by
  intro l hfl _ _ p e ha hc hk s m args below hf hA hF happ hP
  obtain ⟨hcalls, hrest, hpre⟩ := hP
  obtain ⟨-, -, -, hnamed, -, -, -, hat⟩ := (Spec.applies_iff hf).mp happ
  obtain ⟨hg, hn⟩ := and_e (Cond.before_iff.mp (show (Jvm.Cond.and given_1 narrow_1).before args s = true from hpre))
  obtain ⟨hcnt, hg⟩ := and_e hg
  obtain ⟨w0, w1, rfl⟩ : ∃ w0 w1 : Value, args = #[w0, w1] := by
    have hs : args.size = 2 := by simpa [Cond.value, given_1] using hcnt
    obtain ⟨L⟩ := args
    match L, hs with
    | [w0, w1], _ => exact ⟨w0, w1, rfl⟩
  obtain ⟨ga0, hg⟩ := and_e hg
  obtain ⟨i0, ei0⟩ := isL_v ga0
  obtain rfl : w0 = (.long i0) := Option.some.inj ei0
  have ga1 := hg
  obtain ⟨i1, ei1⟩ := isL_v ga1
  obtain rfl : w1 = (.long i1) := Option.some.inj ei1
  have hw := fun d (hd : d ∈ tables_1) => atoms_spec (ws := Jvm.Cond.code x code maxLocals ret :: tables_1) hat d (List.mem_cons_of_mem _ hd)
  obtain ⟨n, o, h1, h2, h3, _, L, rfl, ⟨rfl, rfl, hheap⟩, hq⟩ := rm0 l s _ hw tables_1 i0 i1 s.heap p e ha hc hk s m _ below hf ((Spec.applies_iff_loose hf).mp happ).1 ⟨rfl, State.Warmed39.refl s, rfl⟩ trivial
  rw [law_true i0 i1] at hq h3
  exact ⟨n, _, h1, h2, h3, hpost _ _ _ _ _ _ ⟨Cond.after_iff.mpr rfl, Cond.after_iff.mpr (eq_i res_at (Term.int_eval (1)) rfl), trivial⟩ ⟨hq.1, hq.2.1, (hq.2.2.sift fun y hy => nomatch hy).mono (by decide) (by decide)⟩⟩
theorem main_1_1 : Claimed_1_1 := comes_1 fun _ _ _ _ _ _ h hF => ⟨h.1, hF⟩
theorem main_1_2 : Claimed_1_2 := comes_1 fun _ _ _ _ _ _ h hF => ⟨h.2.1, hF⟩
end Jvm.Pilot.@@N@@
namespace Jvm.Pilot.@@N@@
open Jvm Jvm.ClassFile Sem Op Lib Jvm.Free Jvm.Stand Jvm.Pilot.@@N@@.Jvm.D
/-! MADE BY PROGRAM (witnessworld.py) out of the Statement's table words and the real class files: 9 classes; the members and pool entries that the words name. The judged class is class 1, her method 1. -/
namespace start1
open Jvm.ClassFile
def u (s : String) : CpInfo := .utf8 (stringToUtf16 s)
/-- a pool by its gaps: so many unusable entries, then the entry; so many at the end -/
def gap : Nat → List CpInfo → List CpInfo
  | 0, r => r
  | n + 1, r => .unusable :: gap n r
def poolList (es : List (Nat × CpInfo)) (last : Nat) : List CpInfo := es.foldr (fun e r => gap e.1 (e.2 :: r)) (gap last [])
def pool (es : List (Nat × CpInfo)) (last : Nat) : Array CpInfo := ⟨poolList es last⟩
def fileOf (pool : Array CpInfo) (this : Nat) (attrs : Array Attribute := #[]) (ms : Array MethodInfo := #[]) (fl : Nat := 33) (sup : Nat := 0) (ifs : Array Nat := #[]) (fds : Array FieldInfo := #[]) : ClassFile where
  minorVersion := 0
  majorVersion := 65
  constantPool := pool
  accessFlags := fl
  thisClass := this
  superClass := sup
  interfaces := ifs
  fields := fds
  methods := ms
  attributes := attrs
def plain (name : String) (sup : Option ClassId) : Class where
  name := name
  kind := .ordinary
  loader := none
  accessFlags := 33
  super := sup
  interfaces := #[]
  cf := none
  fields := #[]
  methods := #[]
  instanceTypes := #[]
  staticTypes := #[]
  resolved := #[]
  callSites := []
  init := .initialized
  statics := none
  mirror := none

def pool0 : Array CpInfo := pool [(5, u "<init>"), (0, u "()V"), (1, .class_ 10), (1, u "java/lang/Object")] 113

def k0m0 : Method := { name := "<init>", desc := "()V", sig := { parameters := [], returnType := none }, accessFlags := 1, code := none }
/-- java/lang/Object -/
def k0 : Class := { plain "java/lang/Object" none with
  accessFlags := 33
  interfaces := #[]
  cf := some (fileOf pool0 8 #[] #[{ accessFlags := 1, nameIndex := 5, descriptorIndex := 6, attributes := #[] }] 33 0 #[] #[])
  fields := #[]
  methods := #[k0m0]
  instanceTypes := #[]
  staticTypes := #[]
  resolved := Array.replicate 124 none
  statics := none }

def pool1 : Array CpInfo := pool [(2, .class_ 4), (1, u "java/lang/Object"), (0, u "<init>"), (0, u "()V"), (2, .long 9223372036854775807), (3, .long 2147483583), (1, .long 8), (1, .methodref 18 19), (0, .class_ 20), (0, .nameAndType 21 22), (0, u "com/example/serialis/serialis/RecordFile"), (0, u "fits"), (0, u "(JJ)Z"), (0, .class_ 24), (0, u "com/example/serialis/serialis/RecordFileFitsPinLaw"), (2, u "law")] 3

def k1m0 : Method := { name := "<init>", desc := "()V", sig := { parameters := [], returnType := none }, accessFlags := 2, code := none }
def k1c1 : Code := { maxStack := 6, maxLocals := 11, code := code, exceptionTable := #[], attributes := #[] }
def k1m1 : Method := { name := "law", desc := "(JJ)Z", sig := { parameters := [.long, .long], returnType := some .boolean }, accessFlags := 9, code := some k1c1 }
/-- com/example/serialis/serialis/RecordFileFitsPinLaw -/
def k1 : Class := { plain "com/example/serialis/serialis/RecordFileFitsPinLaw" (some 0) with
  accessFlags := 49
  interfaces := #[]
  cf := some (fileOf pool1 23 #[] #[{ accessFlags := 2, nameIndex := 5, descriptorIndex := 6, attributes := #[] }, { accessFlags := 9, nameIndex := 27, descriptorIndex := 22, attributes := #[] }] 49 2 #[] #[])
  fields := #[]
  methods := #[k1m0, k1m1]
  instanceTypes := #[]
  staticTypes := #[]
  resolved := Array.replicate 31 none
  statics := none }

def pool2 : Array CpInfo := pool [(6, .class_ 8), (1, u "java/lang/Object"), (0, u "<init>"), (0, u "()V"), (0, .class_ 12), (0, u "com/example/serialis/serialis/RecordFile"), (158, .methodref 11 172), (0, .nameAndType 173 174), (0, u "bodyLength"), (0, u "(JJ)J"), (0, .long 2147483583), (13, .long 8), (1, .long 2), (1, .long 4), (105, .class_ 301), (1, u "com/example/serialis/serialis/RecordFile$Contents"), (60, u "FRAME"), (0, u "I"), (2, u "BODY_CHECKSUM"), (1, u "CHECKED_NUMBER"), (1, u "MAX_BODY"), (1, u "DELETED"), (1, u "REMOVED"), (11, u "fits"), (0, u "(JJ)Z"), (15, .class_ 404), (0, u "com/example/serialis/serialis/RecordFile$Reader")] 45

def k2m0 : Method := { name := "<init>", desc := "()V", sig := { parameters := [], returnType := none }, accessFlags := 2, code := none }
def k2c1 : Code := { maxStack := 4, maxLocals := 4, code := prog_7_method_8_code, exceptionTable := #[], attributes := #[] }
def k2m1 : Method := { name := "fits", desc := "(JJ)Z", sig := { parameters := [.long, .long], returnType := some .boolean }, accessFlags := 8, code := some k2c1 }
def k2c2 : Code := { maxStack := 6, maxLocals := 4, code := prog_7_method_9_code, exceptionTable := #[], attributes := #[] }
def k2m2 : Method := { name := "bodyLength", desc := "(JJ)J", sig := { parameters := [.long, .long], returnType := some .long }, accessFlags := 10, code := some k2c2 }
/-- com/example/serialis/serialis/RecordFile -/
def k2 : Class := { plain "com/example/serialis/serialis/RecordFile" (some 0) with
  accessFlags := 48
  interfaces := #[]
  cf := some (fileOf pool2 11 #[.nestMembers #[299, 403]] #[{ accessFlags := 2, nameIndex := 9, descriptorIndex := 10, attributes := #[] }, { accessFlags := 8, nameIndex := 386, descriptorIndex := 387, attributes := #[] }, { accessFlags := 10, nameIndex := 173, descriptorIndex := 174, attributes := #[] }] 48 6 #[] #[{ accessFlags := 26, nameIndex := 362, descriptorIndex := 363, attributes := #[] }, { accessFlags := 26, nameIndex := 366, descriptorIndex := 363, attributes := #[] }, { accessFlags := 24, nameIndex := 368, descriptorIndex := 363, attributes := #[] }, { accessFlags := 26, nameIndex := 370, descriptorIndex := 363, attributes := #[] }, { accessFlags := 26, nameIndex := 372, descriptorIndex := 363, attributes := #[] }, { accessFlags := 26, nameIndex := 374, descriptorIndex := 363, attributes := #[] }])
  fields := #[{ name := "FRAME", type := .int, accessFlags := 26, slot := 0, constantValue := 0 }, { name := "BODY_CHECKSUM", type := .int, accessFlags := 26, slot := 1, constantValue := 0 }, { name := "CHECKED_NUMBER", type := .int, accessFlags := 24, slot := 2, constantValue := 0 }, { name := "MAX_BODY", type := .int, accessFlags := 26, slot := 3, constantValue := 0 }, { name := "DELETED", type := .int, accessFlags := 26, slot := 4, constantValue := 0 }, { name := "REMOVED", type := .int, accessFlags := 26, slot := 5, constantValue := 0 }]
  methods := #[k2m0, k2m1, k2m2]
  instanceTypes := #[]
  staticTypes := #[.int, .int, .int, .int, .int, .int]
  resolved := Array.replicate 450 none
  statics := none }

def pool3 : Array CpInfo := pool [(1, u "java/lang/Cloneable"), (0, .class_ 1), (0, u "java/lang/Object"), (0, .class_ 3)] 3

/-- java/lang/Cloneable -/
def k3 : Class := { plain "java/lang/Cloneable" (some 0) with
  accessFlags := 1537
  interfaces := #[]
  cf := some (fileOf pool3 2 #[] #[] 1537 4 #[] #[])
  fields := #[]
  methods := #[]
  instanceTypes := #[]
  staticTypes := #[]
  resolved := Array.replicate 8 none
  statics := none }

def pool4 : Array CpInfo := pool [(1, u "java/io/Serializable"), (0, .class_ 1), (0, u "java/lang/Object"), (0, .class_ 3)] 3

/-- java/io/Serializable -/
def k4 : Class := { plain "java/io/Serializable" (some 0) with
  accessFlags := 1537
  interfaces := #[]
  cf := some (fileOf pool4 2 #[] #[] 1537 4 #[] #[])
  fields := #[]
  methods := #[]
  instanceTypes := #[]
  staticTypes := #[]
  resolved := Array.replicate 8 none
  statics := none }

/-- the primitive byte -/
def k5 : Class := { plain "byte" none with kind := .primitive 'B', accessFlags := 0x411 }
/-- [B -/
def k6 : Class := { plain "[B" (some 0) with kind := .array 5 .byte, interfaces := #[3, 4], accessFlags := 1041 }

/-- the primitive int -/
def k7 : Class := { plain "int" none with kind := .primitive 'I', accessFlags := 0x411 }
/-- [I -/
def k8 : Class := { plain "[I" (some 0) with kind := .array 7 .int, interfaces := #[3, 4], accessFlags := 1041 }

def heap : Heap := #[]
def classes : Array Class := #[k0, k1, k2, k3, k4, k5, k6, k7, k8]
def interned : List (Array UInt16 × Addr) := []
def slotsUsed : Nat := 0
def theMethod : MethodId := ⟨1, 1⟩
def args0 : Array Value := #[.long 7, .long 8]
def aboutOver (below : List Frame) : State where
  vm := { classes := classes, interned := interned.toArray }
  heap := heap
  slotsUsed := slotsUsed
  threads := #[{ frames := .invoking theMethod args0 :: below }]
def below0 : List Frame := [.native { method := ⟨0, 0⟩, args := #[] }]
def about1 : State := aboutOver below0
def p0 : Program := .bare "" "" ""
def e0 : Env := launch0.env 0 0 0
theorem w_frames : about1.frames = Frame.invoking theMethod args0 :: below0 := rfl
set_option maxRecDepth 65536 in
theorem w_args : argsFit about1.vm theMethod args0 = true := by decide +kernel
set_option maxRecDepth 65536 in
theorem w_heap : heapFits about1 = true := by decide +kernel
set_option maxRecDepth 65536 in
theorem w_runnable : about1.curStatus? = some .runnable := by decide +kernel
set_option maxRecDepth 65536 in
theorem w_alone : about1.alone = true := by decide +kernel
set_option maxRecDepth 65536 in
theorem w_named : about1.methodNamed? x = some theMethod := by decide +kernel
set_option maxRecDepth 65536 in
theorem w_hears : about1.hears theMethod below0 = true := by decide +kernel
set_option maxRecDepth 65536 in
theorem w_ripe : about1.ripe theMethod args0 below0 = true := by decide +kernel
theorem w_running : about1.status = .running := rfl
set_option maxRecDepth 65536 in
theorem w_room : about1.hasRoom e0.platform room_1 = true :=
  launch0.hasRoom_least _ room_1 (by decide +kernel) (by decide +kernel) (by decide +kernel) (by decide +kernel) (by decide +kernel) (by decide +kernel)
theorem allAtoms_all (ts : List Jvm.Cond) (a : Array Jvm.Value) (st : Jvm.State) : (allAtoms ts).before a st = ts.all (fun c => c.before a st) := by
  induction ts with
  | nil => rfl
  | cons c t ih =>
    show (Jvm.Cond.and c (allAtoms t)).before a st = _
    rw [Jvm.Cond.before_and, ih, List.all_cons]
def words1 : List Jvm.Cond := Jvm.Cond.code x code maxLocals ret :: tables_1
/-- a 'code' word, met by the world's own term for the bytes: nothing is compared byte by byte -/
theorem code_word {y : MethodName} {bytes : ByteArray} {mx : Nat} {rt : Option FieldType} {a : Array Value} {s : State} {m : MethodId} {meth : Method} {c : Code} (h1 : s.methodNamed? y = some m) (h2 : s.vm.method? m = some meth) (h3 : meth.code = some c) (h4 : c.code = bytes)
    (h5 : (c.maxLocals == mx && c.exceptionTable.isEmpty && decide (c.maxStack ≤ mostOperands) && decide (meth.sig.returnType = rt) && !meth.locks && decide (parseMethodDescriptor y.desc = some meth.sig)) = true) : (Jvm.Cond.code y bytes mx rt).before a s = true := by
  simp only [Bool.and_eq_true, beq_iff_eq, Bool.not_eq_true', decide_eq_true_eq] at h5
  obtain ⟨⟨⟨⟨⟨g1, g2⟩, g3⟩, g4⟩, g5⟩, g6⟩ := h5
  simp [Cond.before, Cond.holds, Cond.value, h1, h2, h3, h4, g1, g2, g3, g4, g5, g6]
def isCode : Jvm.Cond → Bool
  | .code _ _ _ _ => true
  | _ => false
theorem all_split {L : List Jvm.Cond} {P : Jvm.Cond → Bool} (h1 : L.all (fun c => isCode c || P c) = true) (h2 : ∀ c ∈ L.filter isCode, P c = true) : L.all P = true := by
  refine List.all_eq_true.mpr fun c hc => ?_
  have h := List.all_eq_true.mp h1 c hc
  rcases Bool.eq_false_or_eq_true (isCode c) with hi | hi
  · exact h2 c (List.mem_filter.mpr ⟨hc, hi⟩)
  · simpa [hi] using h
set_option maxRecDepth 65536 in
theorem w_c0 : (Jvm.Cond.code x code maxLocals ret).before args0 about1 = true := code_word (m := ⟨1, 1⟩) (meth := k1m1) (c := k1c1) (by decide +kernel) rfl rfl rfl (by decide +kernel)
set_option maxRecDepth 65536 in
theorem w_c1 : (Jvm.Cond.code ({ cls := "com/example/serialis/serialis/RecordFile", name := "fits", desc := "(JJ)Z" } : Jvm.MethodName) prog_7_method_8_code (4 : Nat) (Option.some Jvm.ClassFile.FieldType.boolean)).before args0 about1 = true := code_word (m := ⟨2, 1⟩) (meth := k2m1) (c := k2c1) (by decide +kernel) rfl rfl rfl (by decide +kernel)
set_option maxRecDepth 65536 in
theorem w_c2 : (Jvm.Cond.code ({ cls := "com/example/serialis/serialis/RecordFile", name := "bodyLength", desc := "(JJ)J" } : Jvm.MethodName) prog_7_method_9_code (4 : Nat) (Option.some Jvm.ClassFile.FieldType.long)).before args0 about1 = true := code_word (m := ⟨2, 2⟩) (meth := k2m2) (c := k2c2) (by decide +kernel) rfl rfl rfl (by decide +kernel)
def codes1 : List Jvm.Cond := [Jvm.Cond.code x code maxLocals ret, Jvm.Cond.code ({ cls := "com/example/serialis/serialis/RecordFile", name := "fits", desc := "(JJ)Z" } : Jvm.MethodName) prog_7_method_8_code (4 : Nat) (Option.some Jvm.ClassFile.FieldType.boolean), Jvm.Cond.code ({ cls := "com/example/serialis/serialis/RecordFile", name := "bodyLength", desc := "(JJ)J" } : Jvm.MethodName) prog_7_method_9_code (4 : Nat) (Option.some Jvm.ClassFile.FieldType.long)]
set_option maxRecDepth 65536 in
theorem codes_eq : words1.filter isCode = codes1 := rfl
theorem w_codes : ∀ c ∈ words1.filter isCode, c.before args0 about1 = true := by
  rw [codes_eq]
  intro c hc
  simp only [codes1, List.mem_cons, List.not_mem_nil, or_false] at hc
  rcases hc with rfl | rfl | rfl
  · exact w_c0
  · exact w_c1
  · exact w_c2
set_option maxRecDepth 65536 in
theorem w_t1 : words1.all (fun c => isCode c || c.before args0 about1) = true := by decide +kernel
theorem w_tables : (allAtoms (Jvm.Cond.code x code maxLocals ret :: tables_1)).before args0 about1 = true := by
  rw [allAtoms_all]
  show words1.all (fun c => c.before args0 about1) = true
  refine all_split ?_ w_codes
  rw [w_t1]
set_option maxRecDepth 65536 in
theorem w_case : (Jvm.Cond.and given_1 narrow_1).before args0 about1 = true := by decide +kernel
theorem w_applies : (headSpec (Jvm.Cond.code x code maxLocals ret :: tables_1) room_1).applies x e0.platform about1 = true :=
  (Spec.applies_iff w_frames).mpr ⟨w_running, w_runnable, w_alone, w_named, w_hears, w_ripe, w_room, w_tables⟩
theorem atStart : AtStart classFile x code maxLocals ret World_1 tables_1 room_1 Calls_1 rest_1 Pre_1 launch0 p0 e0 about1 theMethod args0 below0 :=
  ⟨lists_1, trivial, launch0.admits_env _ _ _, launch0.least_env, fairChoices_fair.cas, fairChoices_fair.clock, w_frames, w_args, w_heap, w_applies, trivial, trivial, w_case⟩
end start1
theorem witness_1 : WitnessClaimed_1 := ⟨start1.p0, start1.e0, start1.about1, start1.theMethod, start1.args0, start1.below0, start1.atStart⟩
end Jvm.Pilot.@@N@@
