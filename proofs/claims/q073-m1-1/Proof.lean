import JvmDerived
import JvmDerived.Pilot.@@N@@Statement
import JvmDerived.Pilot.@@N@@Code
set_option linter.unusedVariables false
set_option linter.unusedSimpArgs false

namespace Jvm.Pilot.@@N@@
open Jvm Jvm.ClassFile Sem Op Lib Jvm.Free Jvm.Stand Jvm.LawKit Jvm.RoadKit Bundle Jvm.Pilot.@@N@@.Jvm.D
def QH (w : Value) (n0 : Nat) (v : Option Value) (h : Heap) (L : List Loc) : Prop := v = some w ∧ Fr n0 L
def own_at (l : List Int32) (j : Int32) : Int32 := l.getD j.toNatClampNeg 0
theorem own_getD (l : List Int32) (j : Int32) : (List.map Value.int l).getD j.toNatClampNeg (.int (0 : Int32)) = .int (own_at l j) := by
  simp only [own_at, List.getD_eq_getElem?_getD, List.getElem?_map]
  cases l[j.toNatClampNeg]? <;> rfl
def own_atJ (l : List Int64) (j : Int32) : Int64 := l.getD j.toNatClampNeg 0
theorem own_getDJ (l : List Int64) (j : Int32) : (List.map Value.long l).getD j.toNatClampNeg (.long (0 : Int64)) = .long (own_atJ l j) := by
  simp only [own_atJ, List.getD_eq_getElem?_getD, List.getElem?_map]
  cases l[j.toNatClampNeg]? <;> rfl
def QP (w : Value) (h0 : Heap) (v : Option Value) (h : Heap) (L : List Loc) : Prop := v = some w ∧ L = [] ∧ h = h0
def Runs (p : Program) (e : Env) (below : List Frame) (s : State) (Q : Option Value → Heap → List Loc → Prop) (k n : Nat) (A : State) : Prop :=
  ∃ s₂ o, Steps p.tables e below A s₂ ∧ s₂.status = .running ∧ Ended s₂ below o ∧ ∃ v L, o = .returned v ∧ Q v s₂.heap L ∧ FrameEnd s o s₂ L k n
section Ends
variable {p : Program} {l : Launch} {e : Env} {R : Room} {s : State} {m : MethodId} {args : Array Value} {below : List Frame} {meth : Method} {c : Code} {T A B : State} {locs : List Loc} {cells slots : Nat} {Q : Option Value → Heap → List Loc → Prop} {k n pc : Nat} {Ls : Array Slot} {rest : List Value}
theorem Runs.go (h : ∀ t, Steps p.tables e below B t → Steps p.tables e below A t) (q : Runs p e below s Q k n B) : Runs p e below s Q k n A := by
  obtain ⟨s₂, o, h1, h2⟩ := q; exact ⟨s₂, o, h _ h1, h2⟩
theorem Runs.endI (X : Stand p l e R s m args below meth c T locs cells slots) (hx : p.tables.exec = Jvm.exec) {z : Int32} (hret : meth.sig.returnType = some .int) (hl : meth.locks = false) (hd : decode c.code pc = .ok (.ireturn, 1)) (hQ : Q (some (.int z)) T.heap locs) (hk : cells ≤ k) (hn : slots ≤ n) : Runs p e below s Q k n (T.setTop (mkF m pc Ls (.int z :: rest))) := by
  obtain ⟨fs, hr, hrun, hended, hW, hsame⟩ := X.leave (v := some (.int z)) (fun h => by rw [hret] at h; cases h) hl
  exact ⟨_, _, retOut X hx hret rfl (Or.inl ⟨rfl, Or.inl rfl, _, rfl⟩) hd hr, hrun, hended, _, _, rfl, hQ, ⟨_, rfl⟩, hW, hsame.mono hk hn⟩
theorem Runs.endJ (X : Stand p l e R s m args below meth c T locs cells slots) (hx : p.tables.exec = Jvm.exec) {z : Int64} (hret : meth.sig.returnType = some .long) (hl : meth.locks = false) (hd : decode c.code pc = .ok (.lreturn, 1)) (hQ : Q (some (.long z)) T.heap locs) (hk : cells ≤ k) (hn : slots ≤ n) : Runs p e below s Q k n (T.setTop (mkF m pc Ls (.long z :: rest))) := by
  obtain ⟨fs, hr, hrun, hended, hW, hsame⟩ := X.leave (v := some (.long z)) (fun h => by rw [hret] at h; cases h) hl
  exact ⟨_, _, retOut X hx hret rfl (Or.inr (Or.inl ⟨rfl, rfl, _, rfl⟩)) hd hr, hrun, hended, _, _, rfl, hQ, ⟨_, rfl⟩, hW, hsame.mono hk hn⟩
theorem Runs.endN (X : Stand p l e R s m args below meth c T locs cells slots) (hx : p.tables.exec = Jvm.exec) {z : Int32} {t : FieldType} (hret : meth.sig.returnType = some t) (ht : t = .boolean ∨ t = .byte ∨ t = .char ∨ t = .short) (hl : meth.locks = false) (hd : decode c.code pc = .ok (.ireturn, 1)) (hQ : Q (some (.int (nar t z))) T.heap locs) (hk : cells ≤ k) (hn : slots ≤ n) : Runs p e below s Q k n (T.setTop (mkF m pc Ls (.int z :: rest))) := by
  obtain ⟨fs, hr, hrun, hended, hW, hsame⟩ := X.leave (v := some (.int (nar t z))) (fun h => by rw [hret] at h; cases h) hl
  exact ⟨_, _, retN X hx hret ht hd hr, hrun, hended, _, _, rfl, hQ, ⟨_, rfl⟩, hW, hsame.mono hk hn⟩
theorem Runs.endV (X : Stand p l e R s m args below meth c T locs cells slots) (hx : p.tables.exec = Jvm.exec) (hret : meth.sig.returnType = none) (hl : meth.locks = false) (hd : decode c.code pc = .ok (.return_, 1)) (hQ : Q none T.heap locs) (hk : cells ≤ k) (hn : slots ≤ n) : Runs p e below s Q k n (T.setTop (mkF m pc Ls [])) := by
  obtain ⟨fs, hr, hrun, hended, hW, hsame⟩ := X.leave (v := none) (fun _ => rfl) hl
  exact ⟨_, _, X.returnOut hx hret hd hr, hrun, hended, _, _, rfl, hQ, ⟨_, rfl⟩, hW, hsame.mono hk hn⟩
theorem Runs.endR (X : Stand p l e R s m args below meth c T locs cells slots) (hx : p.tables.exec = Jvm.exec) {z : Addr} {t : FieldType} (hret : meth.sig.returnType = some t) (ht : t.isReference = true) (hl : meth.locks = false) (hd : decode c.code pc = .ok (.areturn, 1)) (hQ : Q (some (.ref z)) T.heap locs) (hk : cells ≤ k) (hn : slots ≤ n) : Runs p e below s Q k n (T.setTop (mkF m pc Ls (.ref z :: rest))) := by
  obtain ⟨fs, hr, hrun, hended, hW, hsame⟩ := X.leave (v := some (.ref z)) (fun h => by rw [hret] at h; cases h) hl
  exact ⟨_, _, retOut X hx hret (by cases t <;> first | rfl | cases ht) (Or.inr (Or.inr (Or.inr (Or.inr ⟨rfl, ht, rfl⟩)))) hd hr, hrun, hended, _, _, rfl, hQ, ⟨_, rfl⟩, hW, hsame.mono hk hn⟩
end Ends
def own_set (l : List Int32) (j p : Int32) : List Int32 := l.set j.toNatClampNeg p
def AG (Z : State) (h : Heap) (n0 : Nat) (a : Addr) (hd tl : Int32) (l : List Int32) : Prop :=
  Exa Z h a "com/example/ontology_reasoner/ontologyreasoner/engine/Agenda" ∧ n0 ≤ a ∧ Fld Z h a "com/example/ontology_reasoner/ontologyreasoner/engine/Agenda" "head" "I" (.int hd) ∧ Fld Z h a "com/example/ontology_reasoner/ontologyreasoner/engine/Agenda" "tail" "I" (.int tl) ∧
  ∃ (b1 b2 : Addr) (c1 : Cell) (k2 : ClassId), n0 ≤ b1 ∧ n0 ≤ b2 ∧ a ≠ b1 ∧ a ≠ b2 ∧ b2 ≠ b1 ∧ Fld Z h a "com/example/ontology_reasoner/ontologyreasoner/engine/Agenda" "nodes" "[Lcom/example/ontology_reasoner/ontologyreasoner/engine/Node;" (.ref b1) ∧ Fld Z h a "com/example/ontology_reasoner/ontologyreasoner/engine/Agenda" "positions" "[I" (.ref b2) ∧
    Arr Z h b1 c1 (.object "com/example/ontology_reasoner/ontologyreasoner/engine/Node") ∧ c1.slots.size = (64 : Int32).toNatClampNeg ∧ Arv Z h b2 k2 .int (64 : Int32) (List.map Value.int l) (.int (0 : Int32))
def QA (Z : State) (n0 : Nat) (a : Addr) (hd tl : Int32) (l : List Int32) (w v : Option Value) (h : Heap) (L : List Loc) : Prop := v = w ∧ Fr n0 L ∧ AG Z h n0 a hd tl l
def own_in (j : Int32) (l : List Int32) : Prop := (¬ j < 0 ∧ j < (64 : Int32)) ∧ j.toNatClampNeg < l.length
theorem own_in.ne {j : Int32} {l : List Int32} (h : own_in j l) : ¬ j = (64 : Int32) := fun q => by subst q; exact absurd h.1.2 (by decide)
def TB (k : Nat) (tl : Int32) (l : List Int32) : Prop := 0 ≤ tl.toInt ∧ tl.toInt ≤ k ∧ l.length = 3
theorem TB.zero : TB 0 (0 : Int32) [(0 : Int32), (0 : Int32), (0 : Int32)] := ⟨by decide, by decide, rfl⟩
theorem TB.mono {k k' : Nat} {tl : Int32} {l : List Int32} (h : TB k tl l) (q : k ≤ k') : TB k' tl l := ⟨h.1, by have := h.2.1; omega, h.2.2⟩
theorem TB.push {k : Nat} {tl : Int32} {l : List Int32} (h : TB k tl l) (q : k ≤ 60) (p : Int32) : TB (k + 1) (tl + (1 : Int32)) (own_set l tl p) := by
  have a := c_iadd tl 1; have r := rng32 (tl + 1); have e : (1 : Int32).toInt = 1 := by decide
  obtain ⟨h1, h2, h3⟩ := h
  exact ⟨by omega, by omega, by rw [own_set, List.length_set]; exact h3⟩
theorem TB.inr {k : Nat} {tl : Int32} {l : List Int32} (h : TB k tl l) (q : k ≤ 2) : own_in tl l := by
  obtain ⟨h1, h2, h3⟩ := h
  have e0 : (0 : Int32).toInt = 0 := by decide
  have e64 : (64 : Int32).toInt = 64 := by decide
  refine ⟨⟨?_, ?_⟩, ?_⟩
  · rw [Int32.lt_iff_toInt_lt]; omega
  · rw [Int32.lt_iff_toInt_lt]; omega
  · rw [h3, Int32.toNatClampNeg]; omega
def f3_0 (hd : Int32) (tl : Int32) : Int32 := (if hd = tl then (1 : Int32) else (0 : Int32))
def F3 (hd : Int32) (tl : Int32) : Int32 := f3_0 hd tl
def f0_169 (x0 : Int32) (x1 : Int32) (x2 : Int32) (x3 : Int32) : Int32 := (0 : Int32)
def f0_162 (x0 : Int32) (x1 : Int32) (x2 : Int32) (x3 : Int32) (t0 : Int32) : Int32 := (if (F3 x2 x3) = t0 then (1 : Int32) else (f0_169 x0 x1 x2 x3))
def f0_147 (x0 : Int32) (x1 : Int32) (x2 : Int32) (x3 : Int32) (t0 : Int32) (t1 : Int32) : Int32 := (if t1 = t0 then (if x2 = x3 then (f0_162 x0 x1 x2 x3 (1 : Int32)) else (f0_162 x0 x1 x2 x3 (0 : Int32))) else (f0_169 x0 x1 x2 x3))
def f0_107 (x0 : Int32) (x1 : Int32) (x2 : Int32) (x3 : Int32) (w_hd : Int32) (w_tl : Int32) (v7 : Int32) : Int32 := (if (F3 (0 : Int32) (0 : Int32)) = (0 : Int32) then (f0_169 x0 x1 x2 x3) else (if v7 = (x0 &&& (3 : Int32)) then (f0_147 x0 x1 x2 x3 (1 : Int32) (F3 w_hd w_tl)) else (f0_147 x0 x1 x2 x3 (0 : Int32) (F3 w_hd w_tl))))
def f0_96 (x0 : Int32) (x1 : Int32) (x2 : Int32) (x3 : Int32) (w_hd : Int32) (w_tl : Int32) (v7 : Int32) : Int32 := (if (2 : Int32) < v7 then (f0_107 x0 x1 x2 x3 (w_hd + (1 : Int32)) w_tl v7) else (f0_107 x0 x1 x2 x3 w_hd w_tl v7))
def f0_85 (x0 : Int32) (x1 : Int32) (x2 : Int32) (x3 : Int32) (w_hd : Int32) (w_tl : Int32) (v7 : Int32) : Int32 := (if (1 : Int32) < v7 then (f0_96 x0 x1 x2 x3 (w_hd + (1 : Int32)) w_tl v7) else (f0_96 x0 x1 x2 x3 w_hd w_tl v7))
def f0_75 (x0 : Int32) (x1 : Int32) (x2 : Int32) (x3 : Int32) (w_tl : Int32) (v7 : Int32) : Int32 := (if (0 : Int32) < v7 then (f0_85 x0 x1 x2 x3 ((0 : Int32) + (1 : Int32)) w_tl v7) else (f0_85 x0 x1 x2 x3 (0 : Int32) w_tl v7))
def f0_62 (x0 : Int32) (x1 : Int32) (x2 : Int32) (x3 : Int32) (w_tl : Int32) (v7 : Int32) : Int32 := (if (2 : Int32) < (x0 &&& (3 : Int32)) then (f0_75 x0 x1 x2 x3 (w_tl + (1 : Int32)) v7) else (f0_75 x0 x1 x2 x3 w_tl v7))
def f0_49 (x0 : Int32) (x1 : Int32) (x2 : Int32) (x3 : Int32) (w_tl : Int32) (v7 : Int32) : Int32 := (if (1 : Int32) < (x0 &&& (3 : Int32)) then (f0_62 x0 x1 x2 x3 (w_tl + (1 : Int32)) v7) else (f0_62 x0 x1 x2 x3 w_tl v7))
def f0_37 (x0 : Int32) (x1 : Int32) (x2 : Int32) (x3 : Int32) (v7 : Int32) : Int32 := (if (0 : Int32) < (x0 &&& (3 : Int32)) then (f0_49 x0 x1 x2 x3 ((0 : Int32) + (1 : Int32)) v7) else (f0_49 x0 x1 x2 x3 (0 : Int32) v7))
def f0_0 (x0 : Int32) (x1 : Int32) (x2 : Int32) (x3 : Int32) : Int32 := (if (x0 &&& (3 : Int32)) < (x1 &&& (3 : Int32)) then (f0_37 x0 x1 x2 x3 (x0 &&& (3 : Int32))) else (f0_37 x0 x1 x2 x3 (x1 &&& (3 : Int32))))
def F0 (x0 : Int32) (x1 : Int32) (x2 : Int32) (x3 : Int32) : Int32 := f0_0 x0 x1 x2 x3
theorem li32_0 : (0 : Int32).toInt = 0 := by decide
theorem li32_1 : (1 : Int32).toInt = 1 := by decide
theorem li32_2 : (2 : Int32).toInt = 2 := by decide
theorem li32_3 : (3 : Int32).toInt = 3 := by decide
theorem own_four (x : Int32) : (x &&& (3 : Int32)) = 0 ∨ (x &&& (3 : Int32)) = 1 ∨ (x &&& (3 : Int32)) = 2 ∨ (x &&& (3 : Int32)) = 3 := by
  have m0 : (x &&& (3 : Int32)).toInt = x.toInt % 4 := by have := c_mask x 3 2 (by decide) (by decide); simpa using this
  have e0 : (0 : Int32).toInt = 0 := by decide
  have e1 : (1 : Int32).toInt = 1 := by decide
  have e2 : (2 : Int32).toInt = 2 := by decide
  have e3 : (3 : Int32).toInt = 3 := by decide
  simp only [← Int32.toInt_inj, e0, e1, e2, e3]
  omega
theorem law_true (x0 x1 x2 x3 : Int32) : F0 x0 x1 x2 x3 = 1 := by
  rcases own_four x0 with hp | hp | hp | hp <;> rcases own_four x1 with hq | hq | hq | hq <;> by_cases hx : x2 = x3 <;>
    simp +decide [F0, f0_0, f0_37, f0_49, f0_62, f0_75, f0_85, f0_96, f0_107, f0_147, f0_162, f0_169, F3, f3_0, hp, hq, hx]

theorem pd_0 : parseMethodDescriptor "()V" = some ⟨[], none⟩ := by decide +kernel
theorem pd_1 : parseMethodDescriptor "()Z" = some ⟨[], some .boolean⟩ := by decide +kernel
theorem pd_2 : parseMethodDescriptor "(II)V" = some ⟨[.int, .int], none⟩ := by decide +kernel
theorem pd_3 : parseMethodDescriptor "(Lcom/example/ontology_reasoner/ontologyreasoner/engine/Node;I)V" = some ⟨[(.object "com/example/ontology_reasoner/ontologyreasoner/engine/Node"), .int], none⟩ := by decide +kernel
theorem d1_0 : decode prog_1_method_1_code 0 = .ok (.aload_n 0, 1) := by decide +kernel
theorem d1_1 : decode prog_1_method_1_code 1 = .ok (.invokespecial 1, 3) := by decide +kernel
theorem d1_4 : decode prog_1_method_1_code 4 = .ok (.aload_n 0, 1) := by decide +kernel
theorem d1_5 : decode prog_1_method_1_code 5 = .ok (.bipush 64, 2) := by decide +kernel
theorem d1_7 : decode prog_1_method_1_code 7 = .ok (.anewarray 7, 3) := by decide +kernel
theorem d1_10 : decode prog_1_method_1_code 10 = .ok (.putfield 9, 3) := by decide +kernel
theorem d1_13 : decode prog_1_method_1_code 13 = .ok (.aload_n 0, 1) := by decide +kernel
theorem d1_14 : decode prog_1_method_1_code 14 = .ok (.bipush 64, 2) := by decide +kernel
theorem d1_16 : decode prog_1_method_1_code 16 = .ok (.newarray .int, 2) := by decide +kernel
theorem d1_18 : decode prog_1_method_1_code 18 = .ok (.putfield 15, 3) := by decide +kernel
theorem d1_21 : decode prog_1_method_1_code 21 = .ok (.return_, 1) := by decide +kernel
theorem pn_1 : plainName "com/example/ontology_reasoner/ontologyreasoner/engine/Agenda" = true := by first | (simp [plainName, overriddenIn]; done) | decide +kernel
theorem ef_1 (m : MethodId) (x0 : Addr) : entryFrame m #[(.ref x0)] 1 = mkF m 0 #[.val (.ref x0)] [] := by first | (simp [entryFrame, mkF, argsToLocals, Value.category]; done) | rfl
set_option maxRecDepth 65536 in
set_option maxHeartbeats 40000000 in
theorem rm1 (l : Launch) (Z : State) (a0 : Array Value) (hw : ∀ d ∈ tables_1, d.before a0 Z = true) (ws : List Jvm.Cond) (x0 : Addr) (h0 : Heap) (n0 : Nat) (hn0 : n0 ≤ h0.size) (E0 : Exa Z h0 x0 "com/example/ontology_reasoner/ontologyreasoner/engine/Agenda") (ga : n0 ≤ x0) (Fh : Fld Z h0 x0 "com/example/ontology_reasoner/ontologyreasoner/engine/Agenda" "head" "I" (.int (0 : Int32))) (Ft : Fld Z h0 x0 "com/example/ontology_reasoner/ontologyreasoner/engine/Agenda" "tail" "I" (.int (0 : Int32))) (Fn : Fld Z h0 x0 "com/example/ontology_reasoner/ontologyreasoner/engine/Agenda" "nodes" "[Lcom/example/ontology_reasoner/ontologyreasoner/engine/Node;" .null) (Fp : Fld Z h0 x0 "com/example/ontology_reasoner/ontologyreasoner/engine/Agenda" "positions" "[I" .null) :
    MetFree l (⟨"com/example/ontology_reasoner/ontologyreasoner/engine/Agenda", "<init>", "()V"⟩ : MethodName) (head1 (Jvm.Cond.code (⟨"com/example/ontology_reasoner/ontologyreasoner/engine/Agenda", "<init>", "()V"⟩ : MethodName) prog_1_method_1_code 1 none :: ws) ({ frames := 1, cells := 2, slots := 128, locals := 12 } : Room)) (fun a U => a = #[(.ref x0)] ∧ Z.Warmed39 U.vm ∧ U.heap = h0) (fun _ _ _ _ _ => True) (fun _ U o U' => ∃ v L, o = .returned v ∧ QA Z n0 x0 (0 : Int32) (0 : Int32) [(0 : Int32), (0 : Int32), (0 : Int32)] none v U'.heap L ∧ FrameEnd U o U' L ({ frames := 1, cells := 2, slots := 128, locals := 12 } : Room).cells ({ frames := 1, cells := 2, slots := 128, locals := 12 } : Room).slots) := by
  refine MetFree.of_bodySF (plainFor_of_name pn_1) hisR ?_
  intro p e s m args below meth c s₁ Bd hml0 hP hK
  obtain ⟨rfl, hZ, hh⟩ := hP
  have hx := Bd.exec
  have hby := Bd.bytes
  have hml : c.maxLocals = 1 := hml0
  have hown : s.vm.findClass "com/example/ontology_reasoner/ontologyreasoner/engine/Agenda" = some m.cls := findClass_of_methodNamed Bd.named
  have hnm := (name_of_methodNamed Bd.named Bd.method).1
  have X0 : Stand p l e ({ frames := 1, cells := 2, slots := 128, locals := 12 } : Room) s m #[(.ref x0)] below meth c s₁ [] 0 0 := Stand.of_body Bd
  have e0 : s₁.heap = h0 := by rw [← hh, Bd.state]; rfl
  show Runs p e below s (QA Z n0 x0 (0 : Int32) (0 : Int32) [(0 : Int32), (0 : Int32), (0 : Int32)] none) ({ frames := 1, cells := 2, slots := 128, locals := 12 } : Room).cells ({ frames := 1, cells := 2, slots := 128, locals := 12 } : Room).slots (s₁.setTop (entryFrame m #[(.ref x0)] 1))
  rw [ef_1 m x0]
  have k_0 : ∀ (T : State) (X : Stand p l e ({ frames := 1, cells := 2, slots := 128, locals := 12 } : Room) s m #[(.ref x0)] below meth c T [] 0 0) (eT : T.heap = h0) (N : Fr n0 []), Runs p e below s (QA Z n0 x0 (0 : Int32) (0 : Int32) [(0 : Int32), (0 : Int32), (0 : Int32)] none) ({ frames := 1, cells := 2, slots := 128, locals := 12 } : Room).cells ({ frames := 1, cells := 2, slots := 128, locals := 12 } : Room).slots (T.setTop (mkF m 0 #[.val (.ref x0)] [])) := by
    intro T X eT N 
    refine Runs.go (fun _ => XS.aloadN X.here hx rfl (hb hby d1_0) rfl rfl) ?_
    show Runs p e below s _ _ _ (T.setTop (mkF m 1 #[.val (.ref x0)] [(.ref x0)]))
    obtain ⟨Ti1, Xi1, ei1, sti1⟩ := initO X hx hZ hown (hw _ (List.mem_of_getElem? (i := 6) rfl)) (hw _ (List.mem_of_getElem? (i := 7) rfl)) (hw _ (List.mem_of_getElem? (i := 8) rfl)) eT (g := (mkF m 1 #[.val (.ref x0)] [(.ref x0)])) rfl (by rw [hml]; rfl) rfl (hb hby d1_1) (by decide) (W := 0) (by show 2 * 0 + _ ≤ _; exact Nat.le_of_eq rfl) (by decide)
    refine Runs.go sti1 ?_
    show Runs p e below s _ _ _ (Ti1.setTop (mkF m 4 #[.val (.ref x0)] []))
    refine Runs.go (fun _ => XS.aloadN Xi1.here hx rfl (hb hby d1_4) rfl rfl) ?_
    show Runs p e below s _ _ _ (Ti1.setTop (mkF m 5 #[.val (.ref x0)] [(.ref x0)]))
    refine Runs.go (fun _ => XS.bipush Xi1.here hx rfl (hb hby d1_5)) ?_
    show Runs p e below s _ _ _ (Ti1.setTop (mkF m 7 #[.val (.ref x0)] [(.int (64 : Int32)), (.ref x0)]))
    obtain ⟨Ta7_1, ha7_1, ka7_1, Xa7_1, ea7_1, Ea7_1, Aa7_1, Oa7_1, sta7_1⟩ := newR Xi1 hx hZ hown (hw _ (List.mem_of_getElem? (i := 9) rfl)) (hw _ (List.mem_of_getElem? (i := 10) rfl)) ei1 (g := (mkF m 7 #[.val (.ref x0)] [(.int (64 : Int32)), (.ref x0)])) rfl (hb hby d1_7) rfl (by decide) (cap := 64) (by decide) (by decide) (by decide) (by decide)
    obtain ⟨ba7_1, ga7_1⟩ : ∃ z, z = h0.size := ⟨_, rfl⟩
    have ne_a7_1_x0 : x0 ≠ ba7_1 := Nat.ne_of_lt (Nat.lt_of_lt_of_le E0.lt (Nat.le_of_eq ga7_1.symm))
    have gb_ba7_1 : n0 ≤ ba7_1 := Nat.le_trans hn0 (Nat.le_of_eq ga7_1.symm)
    rw [← ga7_1] at Aa7_1 sta7_1
    refine Runs.go sta7_1 ?_
    have E0_a7_1 := E0.ext Ea7_1
    have Fh_a7_1 := Fh.ext Ea7_1
    have Ft_a7_1 := Ft.ext Ea7_1
    have Fn_a7_1 := Fn.ext Ea7_1
    have Fp_a7_1 := Fp.ext Ea7_1
    have hna7_1 : n0 ≤ ha7_1.size := Nat.le_trans hn0 Ea7_1.1
    have Va7_1 : Arv Z ha7_1 ba7_1 ka7_1 (.object "com/example/ontology_reasoner/ontologyreasoner/engine/Node") (64 : Int32) [.null] .null := (Arv.new Aa7_1 (by decide)).pad (pad_rep [] .null 1)
    show Runs p e below s _ _ _ (Ta7_1.setTop (mkF m 10 #[.val (.ref x0)] [(.ref ba7_1), (.ref x0)]))
    obtain ⟨Tp10_2, hp10_2, Xp10_2, ep10_2, Wp10_2, stp10_2⟩ := putF Xa7_1 hx hZ hown (host := "") (Or.inl (hw _ (List.mem_of_getElem? (i := 11) rfl))) Via.refl ea7_1 Fn_a7_1 E0_a7_1 (Or.inl (hw _ (List.mem_of_getElem? (i := 12) rfl))) (hw _ (List.mem_of_getElem? (i := 1) rfl)) (ty := (.array (.object "com/example/ontology_reasoner/ontologyreasoner/engine/Node"))) (by decide) rfl rfl (g := (mkF m 10 #[.val (.ref x0)] [(.ref ba7_1), (.ref x0)])) rfl rfl (hb hby d1_10)
    refine Runs.go stp10_2 ?_
    have Fwp10_2 := Fn_a7_1.same Wp10_2
    have hnp10_2 : n0 ≤ hp10_2.size := by rw [Wr.size Wp10_2]; exact hna7_1
    have E0_p10_2 := E0_a7_1.wr Wp10_2
    have Fh_p10_2 := Fh_a7_1.other Wp10_2 (Or.inr (slot_ne (Or.inl (hw _ (List.mem_of_getElem? (i := 22) rfl))) (Or.inl (hw _ (List.mem_of_getElem? (i := 12) rfl))) (by decide) (t := .int) (t' := (.array (.object "com/example/ontology_reasoner/ontologyreasoner/engine/Node"))) (by decide) (by decide)))
    have Ft_p10_2 := Ft_a7_1.other Wp10_2 (Or.inr (slot_ne (Or.inl (hw _ (List.mem_of_getElem? (i := 24) rfl))) (Or.inl (hw _ (List.mem_of_getElem? (i := 12) rfl))) (by decide) (t := .int) (t' := (.array (.object "com/example/ontology_reasoner/ontologyreasoner/engine/Node"))) (by decide) (by decide)))
    have Fp_p10_2 := Fp_a7_1.other Wp10_2 (Or.inr (slot_ne (Or.inl (hw _ (List.mem_of_getElem? (i := 15) rfl))) (Or.inl (hw _ (List.mem_of_getElem? (i := 12) rfl))) (by decide) (t := (.array .int)) (t' := (.array (.object "com/example/ontology_reasoner/ontologyreasoner/engine/Node"))) (by decide) (by decide)))
    have Vba7_1_p10_2 := Va7_1.other Wp10_2 (Ne.symm ne_a7_1_x0)
    have Np10_2 := Fr.snoc Xp10_2 N ga
    show Runs p e below s _ _ _ (Tp10_2.setTop (mkF m 13 #[.val (.ref x0)] []))
    refine Runs.go (fun _ => XS.aloadN Xp10_2.here hx rfl (hb hby d1_13) rfl rfl) ?_
    show Runs p e below s _ _ _ (Tp10_2.setTop (mkF m 14 #[.val (.ref x0)] [(.ref x0)]))
    refine Runs.go (fun _ => XS.bipush Xp10_2.here hx rfl (hb hby d1_14)) ?_
    show Runs p e below s _ _ _ (Tp10_2.setTop (mkF m 16 #[.val (.ref x0)] [(.int (64 : Int32)), (.ref x0)]))
    obtain ⟨Ta16_3, ha16_3, ka16_3, Xa16_3, ea16_3, Ea16_3, Aa16_3, sta16_3⟩ := newP Xp10_2 hx hZ (hw _ (List.mem_of_getElem? (i := 13) rfl)) ep10_2 (g := (mkF m 16 #[.val (.ref x0)] [(.int (64 : Int32)), (.ref x0)])) rfl (hb hby d1_16) rfl (by decide) (cap := 64) (by decide) (by decide) (by decide) (by decide)
    obtain ⟨ba16_3, ga16_3⟩ : ∃ z, z = hp10_2.size := ⟨_, rfl⟩
    have ne_a16_3_ba7_1 : ba7_1 ≠ ba16_3 := Nat.ne_of_lt (Nat.lt_of_lt_of_le Vba7_1_p10_2.lt (Nat.le_of_eq ga16_3.symm))
    have ne_a16_3_x0 : x0 ≠ ba16_3 := Nat.ne_of_lt (Nat.lt_of_lt_of_le E0_p10_2.lt (Nat.le_of_eq ga16_3.symm))
    have gb_ba16_3 : n0 ≤ ba16_3 := Nat.le_trans hnp10_2 (Nat.le_of_eq ga16_3.symm)
    rw [← ga16_3] at Aa16_3 sta16_3
    refine Runs.go sta16_3 ?_
    have E0_a16_3 := E0_p10_2.ext Ea16_3
    have Fh_a16_3 := Fh_p10_2.ext Ea16_3
    have Ft_a16_3 := Ft_p10_2.ext Ea16_3
    have Fn_a16_3 := Fwp10_2.ext Ea16_3
    have Fp_a16_3 := Fp_p10_2.ext Ea16_3
    have Vba7_1_a16_3 := Vba7_1_p10_2.ext Ea16_3
    have hna16_3 : n0 ≤ ha16_3.size := Nat.le_trans hnp10_2 Ea16_3.1
    have Va16_3 : Arv Z ha16_3 ba16_3 ka16_3 .int (64 : Int32) [(.int (0 : Int32)), (.int (0 : Int32)), (.int (0 : Int32))] (.int (0 : Int32)) := (Arv.new Aa16_3 (by decide)).pad (pad_rep [] (.int (0 : Int32)) 3)
    show Runs p e below s _ _ _ (Ta16_3.setTop (mkF m 18 #[.val (.ref x0)] [(.ref ba16_3), (.ref x0)]))
    obtain ⟨Tp18_4, hp18_4, Xp18_4, ep18_4, Wp18_4, stp18_4⟩ := putF Xa16_3 hx hZ hown (host := "") (Or.inl (hw _ (List.mem_of_getElem? (i := 14) rfl))) Via.refl ea16_3 Fp_a16_3 E0_a16_3 (Or.inl (hw _ (List.mem_of_getElem? (i := 15) rfl))) (hw _ (List.mem_of_getElem? (i := 1) rfl)) (ty := (.array .int)) (by decide) rfl rfl (g := (mkF m 18 #[.val (.ref x0)] [(.ref ba16_3), (.ref x0)])) rfl rfl (hb hby d1_18)
    refine Runs.go stp18_4 ?_
    have Fwp18_4 := Fp_a16_3.same Wp18_4
    have hnp18_4 : n0 ≤ hp18_4.size := by rw [Wr.size Wp18_4]; exact hna16_3
    have E0_p18_4 := E0_a16_3.wr Wp18_4
    have Fh_p18_4 := Fh_a16_3.other Wp18_4 (Or.inr (slot_ne (Or.inl (hw _ (List.mem_of_getElem? (i := 22) rfl))) (Or.inl (hw _ (List.mem_of_getElem? (i := 15) rfl))) (by decide) (t := .int) (t' := (.array .int)) (by decide) (by decide)))
    have Ft_p18_4 := Ft_a16_3.other Wp18_4 (Or.inr (slot_ne (Or.inl (hw _ (List.mem_of_getElem? (i := 24) rfl))) (Or.inl (hw _ (List.mem_of_getElem? (i := 15) rfl))) (by decide) (t := .int) (t' := (.array .int)) (by decide) (by decide)))
    have Fn_p18_4 := Fn_a16_3.other Wp18_4 (Or.inr (slot_ne (Or.inl (hw _ (List.mem_of_getElem? (i := 12) rfl))) (Or.inl (hw _ (List.mem_of_getElem? (i := 15) rfl))) (by decide) (t := (.array (.object "com/example/ontology_reasoner/ontologyreasoner/engine/Node"))) (t' := (.array .int)) (by decide) (by decide)))
    have Vba7_1_p18_4 := Vba7_1_a16_3.other Wp18_4 (Ne.symm ne_a7_1_x0)
    have Vba16_3_p18_4 := Va16_3.other Wp18_4 (Ne.symm ne_a16_3_x0)
    have Np18_4 := Fr.snoc Xp18_4 Np10_2 ga
    show Runs p e below s _ _ _ (Tp18_4.setTop (mkF m 21 #[.val (.ref x0)] []))
    exact Runs.endV Xp18_4 hx Bd.returns Bd.notSynchronized (hb hby d1_21) ⟨rfl, Np18_4, by rw [ep18_4]; obtain ⟨c1, Ar1, -, S1, -⟩ := Vba7_1_p18_4; exact ⟨E0_p18_4, ga, Fh_p18_4, Ft_p18_4, ba7_1, ba16_3, c1, _, gb_ba7_1, gb_ba16_3, ne_a7_1_x0, ne_a16_3_x0, (Ne.symm ne_a16_3_ba7_1), Fn_p18_4, Fwp18_4, Ar1, S1, Vba16_3_p18_4⟩⟩ (by decide) (by decide)
  exact k_0 _ X0 e0 (Fr.nil n0)
theorem d3_0 : decode prog_1_method_2_code 0 = .ok (.aload_n 0, 1) := by decide +kernel
theorem d3_1 : decode prog_1_method_2_code 1 = .ok (.getfield 19, 3) := by decide +kernel
theorem d3_4 : decode prog_1_method_2_code 4 = .ok (.aload_n 0, 1) := by decide +kernel
theorem d3_5 : decode prog_1_method_2_code 5 = .ok (.getfield 23, 3) := by decide +kernel
theorem d3_8 : decode prog_1_method_2_code 8 = .ok (.if_icmp .ne 7, 3) := by decide +kernel
theorem d3_11 : decode prog_1_method_2_code 11 = .ok (.iconst 1, 1) := by decide +kernel
theorem d3_12 : decode prog_1_method_2_code 12 = .ok (.goto 4, 3) := by decide +kernel
theorem d3_15 : decode prog_1_method_2_code 15 = .ok (.iconst 0, 1) := by decide +kernel
theorem d3_16 : decode prog_1_method_2_code 16 = .ok (.ireturn, 1) := by decide +kernel
theorem pn_3 : plainName "com/example/ontology_reasoner/ontologyreasoner/engine/Agenda" = true := by first | (simp [plainName, overriddenIn]; done) | decide +kernel
theorem ef_3 (m : MethodId) (x0 : Addr) : entryFrame m #[(.ref x0)] 1 = mkF m 0 #[.val (.ref x0)] [] := by first | (simp [entryFrame, mkF, argsToLocals, Value.category]; done) | rfl
set_option maxRecDepth 65536 in
set_option maxHeartbeats 40000000 in
theorem rm3 (l : Launch) (Z : State) (a0 : Array Value) (hw : ∀ d ∈ tables_1, d.before a0 Z = true) (ws : List Jvm.Cond) (x0 : Addr) (hd tl : Int32) (ls : List Int32) (h0 : Heap) (n0 : Nat) (hn0 : n0 ≤ h0.size) (G : AG Z h0 n0 x0 hd tl ls) :
    MetFree l (⟨"com/example/ontology_reasoner/ontologyreasoner/engine/Agenda", "isEmpty", "()Z"⟩ : MethodName) (head1 (Jvm.Cond.code (⟨"com/example/ontology_reasoner/ontologyreasoner/engine/Agenda", "isEmpty", "()Z"⟩ : MethodName) prog_1_method_2_code 1 (some .boolean) :: ws) ({ frames := 0, cells := 0, slots := 0, locals := 0 } : Room)) (fun a U => a = #[(.ref x0)] ∧ Z.Warmed39 U.vm ∧ U.heap = h0) (fun _ _ _ _ _ => True) (fun _ U o U' => ∃ v L, o = .returned v ∧ QA Z n0 x0 hd tl ls (some (.int (F3 hd tl))) v U'.heap L ∧ FrameEnd U o U' L ({ frames := 0, cells := 0, slots := 0, locals := 0 } : Room).cells ({ frames := 0, cells := 0, slots := 0, locals := 0 } : Room).slots) := by
  refine MetFree.of_bodySF (plainFor_of_name pn_3) hisR ?_
  intro p e s m args below meth c s₁ Bd hml0 hP hK
  obtain ⟨rfl, hZ, hh⟩ := hP
  have hx := Bd.exec
  have hby := Bd.bytes
  have hml : c.maxLocals = 1 := hml0
  have hown : s.vm.findClass "com/example/ontology_reasoner/ontologyreasoner/engine/Agenda" = some m.cls := findClass_of_methodNamed Bd.named
  have hnm := (name_of_methodNamed Bd.named Bd.method).1
  have X0 : Stand p l e ({ frames := 0, cells := 0, slots := 0, locals := 0 } : Room) s m #[(.ref x0)] below meth c s₁ [] 0 0 := Stand.of_body Bd
  have e0 : s₁.heap = h0 := by rw [← hh, Bd.state]; rfl
  obtain ⟨E0, ga, Fh, Ft, b1, b2, c1, k2, g1, g2, n1, n2, n3, Fn, Fp, Ar1, S1, V2⟩ := G
  show Runs p e below s (QA Z n0 x0 hd tl ls (some (.int (F3 hd tl)))) ({ frames := 0, cells := 0, slots := 0, locals := 0 } : Room).cells ({ frames := 0, cells := 0, slots := 0, locals := 0 } : Room).slots (s₁.setTop (entryFrame m #[(.ref x0)] 1))
  rw [ef_3 m x0]
  obtain ⟨r, hF⟩ : ∃ r, F3 hd tl = r := ⟨_, rfl⟩
  rw [hF]
  have k_0 : ∀ (T : State) (X : Stand p l e ({ frames := 0, cells := 0, slots := 0, locals := 0 } : Room) s m #[(.ref x0)] below meth c T [] 0 0) (eT : T.heap = h0) (N : Fr n0 []), f3_0 hd tl = r → Runs p e below s (QA Z n0 x0 hd tl ls (some (.int r))) ({ frames := 0, cells := 0, slots := 0, locals := 0 } : Room).cells ({ frames := 0, cells := 0, slots := 0, locals := 0 } : Room).slots (T.setTop (mkF m 0 #[.val (.ref x0)] [])) := by
    intro T X eT N  hv
    unfold f3_0 at hv
    refine Runs.go (fun _ => XS.aloadN X.here hx rfl (hb hby d3_0) rfl rfl) ?_
    show Runs p e below s _ _ _ (T.setTop (mkF m 1 #[.val (.ref x0)] [(.ref x0)]))
    obtain ⟨Tf1_1, Xf1_1, ef1_1, stf1_1⟩ := getF X hx hZ hown (host := "") (Or.inl (hw _ (List.mem_of_getElem? (i := 21) rfl))) Via.refl eT Fh (g := (mkF m 1 #[.val (.ref x0)] [(.ref x0)])) rfl rfl (hb hby d3_1)
    refine Runs.go stf1_1 ?_
    show Runs p e below s _ _ _ (Tf1_1.setTop (mkF m 4 #[.val (.ref x0)] [(.int hd)]))
    refine Runs.go (fun _ => XS.aloadN Xf1_1.here hx rfl (hb hby d3_4) rfl rfl) ?_
    show Runs p e below s _ _ _ (Tf1_1.setTop (mkF m 5 #[.val (.ref x0)] [(.ref x0), (.int hd)]))
    obtain ⟨Tf5_2, Xf5_2, ef5_2, stf5_2⟩ := getF Xf1_1 hx hZ hown (host := "") (Or.inl (hw _ (List.mem_of_getElem? (i := 23) rfl))) Via.refl ef1_1 Ft (g := (mkF m 5 #[.val (.ref x0)] [(.ref x0), (.int hd)])) rfl rfl (hb hby d3_5)
    refine Runs.go stf5_2 ?_
    show Runs p e below s _ _ _ (Tf5_2.setTop (mkF m 8 #[.val (.ref x0)] [(.int tl), (.int hd)]))
    by_cases hc8 : hd = tl
    · have hv := (if_pos hc8).symm.trans hv
      refine Runs.go (fun _ => XS.icmpNo Xf5_2.here hx rfl (hb hby d3_8) rfl (teq hc8).2) ?_
      show Runs p e below s _ _ _ (Tf5_2.setTop (mkF m 11 #[.val (.ref x0)] []))
      refine Runs.go (fun _ => XS.iconst Xf5_2.here hx rfl (hb hby d3_11)) ?_
      show Runs p e below s _ _ _ (Tf5_2.setTop (mkF m 12 #[.val (.ref x0)] [(.int (1 : Int32))]))
      refine Runs.go (fun _ => XS.goto Xf5_2.here hx rfl (pc0 := 12) (pc' := 16) rfl (hb hby d3_12) (by decide) (by decide)) ?_
      show Runs p e below s _ _ _ (Tf5_2.setTop (mkF m 16 #[.val (.ref x0)] [(.int (1 : Int32))]))
      exact Runs.endN Xf5_2 hx (t := .boolean) Bd.returns (by simp) Bd.notSynchronized (hb hby d3_16) ⟨congrArg (fun z => some (Value.int z)) hv, N, by rw [ef5_2]; exact ⟨E0, ga, Fh, Ft, b1, b2, _, k2, g1, g2, n1, n2, n3, Fn, Fp, Ar1, S1, V2⟩⟩ (by decide) (by decide)
    · have hv := (if_neg hc8).symm.trans hv
      refine Runs.go (fun _ => XS.icmpYes Xf5_2.here hx rfl (pc0 := 8) (pc' := 15) rfl (hb hby d3_8) rfl (feq hc8).2 (by decide) (by decide)) ?_
      show Runs p e below s _ _ _ (Tf5_2.setTop (mkF m 15 #[.val (.ref x0)] []))
      refine Runs.go (fun _ => XS.iconst Xf5_2.here hx rfl (hb hby d3_15)) ?_
      show Runs p e below s _ _ _ (Tf5_2.setTop (mkF m 16 #[.val (.ref x0)] [(.int (0 : Int32))]))
      exact Runs.endN Xf5_2 hx (t := .boolean) Bd.returns (by simp) Bd.notSynchronized (hb hby d3_16) ⟨congrArg (fun z => some (Value.int z)) hv, N, by rw [ef5_2]; exact ⟨E0, ga, Fh, Ft, b1, b2, _, k2, g1, g2, n1, n2, n3, Fn, Fp, Ar1, S1, V2⟩⟩ (by decide) (by decide)
  exact k_0 _ X0 e0 (Fr.nil n0) hF
theorem d4_0 : decode prog_1_method_9_code 0 = .ok (.aload_n 0, 1) := by decide +kernel
theorem d4_1 : decode prog_1_method_9_code 1 = .ok (.iload_n 1, 1) := by decide +kernel
theorem d4_2 : decode prog_1_method_9_code 2 = .ok (.putfield 19, 3) := by decide +kernel
theorem d4_5 : decode prog_1_method_9_code 5 = .ok (.aload_n 0, 1) := by decide +kernel
theorem d4_6 : decode prog_1_method_9_code 6 = .ok (.iload_n 2, 1) := by decide +kernel
theorem d4_7 : decode prog_1_method_9_code 7 = .ok (.putfield 23, 3) := by decide +kernel
theorem d4_10 : decode prog_1_method_9_code 10 = .ok (.return_, 1) := by decide +kernel
theorem pn_4 : plainName "com/example/ontology_reasoner/ontologyreasoner/engine/Agenda" = true := by first | (simp [plainName, overriddenIn]; done) | decide +kernel
theorem ef_4 (m : MethodId) (x0 : Addr) (x1 : Int32) (x2 : Int32) : entryFrame m #[(.ref x0), (.int x1), (.int x2)] 3 = mkF m 0 #[.val (.ref x0), .val (.int x1), .val (.int x2)] [] := by first | (simp [entryFrame, mkF, argsToLocals, Value.category]; done) | rfl
set_option maxRecDepth 65536 in
set_option maxHeartbeats 40000000 in
theorem rm4 (l : Launch) (Z : State) (a0 : Array Value) (hw : ∀ d ∈ tables_1, d.before a0 Z = true) (ws : List Jvm.Cond) (x0 : Addr) (x1 x2 : Int32) (hd tl : Int32) (ls : List Int32) (h0 : Heap) (n0 : Nat) (hn0 : n0 ≤ h0.size) (G : AG Z h0 n0 x0 hd tl ls) :
    MetFree l (⟨"com/example/ontology_reasoner/ontologyreasoner/engine/Agenda", "restore", "(II)V"⟩ : MethodName) (head1 (Jvm.Cond.code (⟨"com/example/ontology_reasoner/ontologyreasoner/engine/Agenda", "restore", "(II)V"⟩ : MethodName) prog_1_method_9_code 3 none :: ws) ({ frames := 0, cells := 0, slots := 0, locals := 0 } : Room)) (fun a U => a = #[(.ref x0), (.int x1), (.int x2)] ∧ Z.Warmed39 U.vm ∧ U.heap = h0) (fun _ _ _ _ _ => True) (fun _ U o U' => ∃ v L, o = .returned v ∧ QA Z n0 x0 x1 x2 ls none v U'.heap L ∧ FrameEnd U o U' L ({ frames := 0, cells := 0, slots := 0, locals := 0 } : Room).cells ({ frames := 0, cells := 0, slots := 0, locals := 0 } : Room).slots) := by
  refine MetFree.of_bodySF (plainFor_of_name pn_4) hisR ?_
  intro p e s m args below meth c s₁ Bd hml0 hP hK
  obtain ⟨rfl, hZ, hh⟩ := hP
  have hx := Bd.exec
  have hby := Bd.bytes
  have hml : c.maxLocals = 3 := hml0
  have hown : s.vm.findClass "com/example/ontology_reasoner/ontologyreasoner/engine/Agenda" = some m.cls := findClass_of_methodNamed Bd.named
  have hnm := (name_of_methodNamed Bd.named Bd.method).1
  have X0 : Stand p l e ({ frames := 0, cells := 0, slots := 0, locals := 0 } : Room) s m #[(.ref x0), (.int x1), (.int x2)] below meth c s₁ [] 0 0 := Stand.of_body Bd
  have e0 : s₁.heap = h0 := by rw [← hh, Bd.state]; rfl
  obtain ⟨E0, ga, Fh, Ft, b1, b2, c1, k2, g1, g2, n1, n2, n3, Fn, Fp, Ar1, S1, V2⟩ := G
  show Runs p e below s (QA Z n0 x0 x1 x2 ls none) ({ frames := 0, cells := 0, slots := 0, locals := 0 } : Room).cells ({ frames := 0, cells := 0, slots := 0, locals := 0 } : Room).slots (s₁.setTop (entryFrame m #[(.ref x0), (.int x1), (.int x2)] 3))
  rw [ef_4 m x0 x1 x2]
  have k_0 : ∀ (T : State) (X : Stand p l e ({ frames := 0, cells := 0, slots := 0, locals := 0 } : Room) s m #[(.ref x0), (.int x1), (.int x2)] below meth c T [] 0 0) (eT : T.heap = h0) (N : Fr n0 []), Runs p e below s (QA Z n0 x0 x1 x2 ls none) ({ frames := 0, cells := 0, slots := 0, locals := 0 } : Room).cells ({ frames := 0, cells := 0, slots := 0, locals := 0 } : Room).slots (T.setTop (mkF m 0 #[.val (.ref x0), .val (.int x1), .val (.int x2)] [])) := by
    intro T X eT N 
    refine Runs.go (fun _ => XS.aloadN X.here hx rfl (hb hby d4_0) rfl rfl) ?_
    show Runs p e below s _ _ _ (T.setTop (mkF m 1 #[.val (.ref x0), .val (.int x1), .val (.int x2)] [(.ref x0)]))
    refine Runs.go (fun _ => XS.iloadN X.here hx rfl (hb hby d4_1) rfl) ?_
    show Runs p e below s _ _ _ (T.setTop (mkF m 2 #[.val (.ref x0), .val (.int x1), .val (.int x2)] [(.int x1), (.ref x0)]))
    obtain ⟨Tp2_1, hp2_1, Xp2_1, ep2_1, Wp2_1, stp2_1⟩ := putF X hx hZ hown (host := "") (Or.inl (hw _ (List.mem_of_getElem? (i := 21) rfl))) Via.refl eT Fh E0 (Or.inl (hw _ (List.mem_of_getElem? (i := 22) rfl))) (hw _ (List.mem_of_getElem? (i := 1) rfl)) (ty := .int) (by decide) rfl rfl (g := (mkF m 2 #[.val (.ref x0), .val (.int x1), .val (.int x2)] [(.int x1), (.ref x0)])) rfl rfl (hb hby d4_2)
    refine Runs.go stp2_1 ?_
    have Fwp2_1 := Fh.same Wp2_1
    have hnp2_1 : n0 ≤ hp2_1.size := by rw [Wr.size Wp2_1]; exact hn0
    have E0_p2_1 := E0.wr Wp2_1
    have Ft_p2_1 := Ft.other Wp2_1 (Or.inr (slot_ne (Or.inl (hw _ (List.mem_of_getElem? (i := 24) rfl))) (Or.inl (hw _ (List.mem_of_getElem? (i := 22) rfl))) (by decide) (t := .int) (t' := .int) (by decide) (by decide)))
    have Fn_p2_1 := Fn.other Wp2_1 (Or.inr (slot_ne (Or.inl (hw _ (List.mem_of_getElem? (i := 12) rfl))) (Or.inl (hw _ (List.mem_of_getElem? (i := 22) rfl))) (by decide) (t := (.array (.object "com/example/ontology_reasoner/ontologyreasoner/engine/Node"))) (t' := .int) (by decide) (by decide)))
    have Fp_p2_1 := Fp.other Wp2_1 (Or.inr (slot_ne (Or.inl (hw _ (List.mem_of_getElem? (i := 15) rfl))) (Or.inl (hw _ (List.mem_of_getElem? (i := 22) rfl))) (by decide) (t := (.array .int)) (t' := .int) (by decide) (by decide)))
    have Ar1_p2_1 := Ar1.other Wp2_1 (Ne.symm n1)
    have V2_p2_1 := V2.other Wp2_1 (Ne.symm n2)
    have Np2_1 := Fr.snoc Xp2_1 N ga
    show Runs p e below s _ _ _ (Tp2_1.setTop (mkF m 5 #[.val (.ref x0), .val (.int x1), .val (.int x2)] []))
    refine Runs.go (fun _ => XS.aloadN Xp2_1.here hx rfl (hb hby d4_5) rfl rfl) ?_
    show Runs p e below s _ _ _ (Tp2_1.setTop (mkF m 6 #[.val (.ref x0), .val (.int x1), .val (.int x2)] [(.ref x0)]))
    refine Runs.go (fun _ => XS.iloadN Xp2_1.here hx rfl (hb hby d4_6) rfl) ?_
    show Runs p e below s _ _ _ (Tp2_1.setTop (mkF m 7 #[.val (.ref x0), .val (.int x1), .val (.int x2)] [(.int x2), (.ref x0)]))
    obtain ⟨Tp7_2, hp7_2, Xp7_2, ep7_2, Wp7_2, stp7_2⟩ := putF Xp2_1 hx hZ hown (host := "") (Or.inl (hw _ (List.mem_of_getElem? (i := 23) rfl))) Via.refl ep2_1 Ft_p2_1 E0_p2_1 (Or.inl (hw _ (List.mem_of_getElem? (i := 24) rfl))) (hw _ (List.mem_of_getElem? (i := 1) rfl)) (ty := .int) (by decide) rfl rfl (g := (mkF m 7 #[.val (.ref x0), .val (.int x1), .val (.int x2)] [(.int x2), (.ref x0)])) rfl rfl (hb hby d4_7)
    refine Runs.go stp7_2 ?_
    have Fwp7_2 := Ft_p2_1.same Wp7_2
    have hnp7_2 : n0 ≤ hp7_2.size := by rw [Wr.size Wp7_2]; exact hnp2_1
    have E0_p7_2 := E0_p2_1.wr Wp7_2
    have Fh_p7_2 := Fwp2_1.other Wp7_2 (Or.inr (slot_ne (Or.inl (hw _ (List.mem_of_getElem? (i := 22) rfl))) (Or.inl (hw _ (List.mem_of_getElem? (i := 24) rfl))) (by decide) (t := .int) (t' := .int) (by decide) (by decide)))
    have Fn_p7_2 := Fn_p2_1.other Wp7_2 (Or.inr (slot_ne (Or.inl (hw _ (List.mem_of_getElem? (i := 12) rfl))) (Or.inl (hw _ (List.mem_of_getElem? (i := 24) rfl))) (by decide) (t := (.array (.object "com/example/ontology_reasoner/ontologyreasoner/engine/Node"))) (t' := .int) (by decide) (by decide)))
    have Fp_p7_2 := Fp_p2_1.other Wp7_2 (Or.inr (slot_ne (Or.inl (hw _ (List.mem_of_getElem? (i := 15) rfl))) (Or.inl (hw _ (List.mem_of_getElem? (i := 24) rfl))) (by decide) (t := (.array .int)) (t' := .int) (by decide) (by decide)))
    have Ar1_p7_2 := Ar1_p2_1.other Wp7_2 (Ne.symm n1)
    have V2_p7_2 := V2_p2_1.other Wp7_2 (Ne.symm n2)
    have Np7_2 := Fr.snoc Xp7_2 Np2_1 ga
    show Runs p e below s _ _ _ (Tp7_2.setTop (mkF m 10 #[.val (.ref x0), .val (.int x1), .val (.int x2)] []))
    exact Runs.endV Xp7_2 hx Bd.returns Bd.notSynchronized (hb hby d4_10) ⟨rfl, Np7_2, by rw [ep7_2]; exact ⟨E0_p7_2, ga, Fh_p7_2, Fwp7_2, b1, b2, _, k2, g1, g2, n1, n2, n3, Fn_p7_2, Fp_p7_2, Ar1_p7_2, S1, V2_p7_2⟩⟩ (by decide) (by decide)
  exact k_0 _ X0 e0 (Fr.nil n0)
theorem d5_0 : decode prog_1_method_3_code 0 = .ok (.aload_n 0, 1) := by decide +kernel
theorem d5_1 : decode prog_1_method_3_code 1 = .ok (.getfield 23, 3) := by decide +kernel
theorem d5_4 : decode prog_1_method_3_code 4 = .ok (.aload_n 0, 1) := by decide +kernel
theorem d5_5 : decode prog_1_method_3_code 5 = .ok (.getfield 9, 3) := by decide +kernel
theorem d5_8 : decode prog_1_method_3_code 8 = .ok (.arraylength, 1) := by decide +kernel
theorem d5_9 : decode prog_1_method_3_code 9 = .ok (.if_icmp .ne 40, 3) := by decide +kernel
theorem d5_49 : decode prog_1_method_3_code 49 = .ok (.aload_n 0, 1) := by decide +kernel
theorem d5_50 : decode prog_1_method_3_code 50 = .ok (.getfield 9, 3) := by decide +kernel
theorem d5_53 : decode prog_1_method_3_code 53 = .ok (.aload_n 0, 1) := by decide +kernel
theorem d5_54 : decode prog_1_method_3_code 54 = .ok (.getfield 23, 3) := by decide +kernel
theorem d5_57 : decode prog_1_method_3_code 57 = .ok (.aload_n 1, 1) := by decide +kernel
theorem d5_58 : decode prog_1_method_3_code 58 = .ok (.aastore, 1) := by decide +kernel
theorem d5_59 : decode prog_1_method_3_code 59 = .ok (.aload_n 0, 1) := by decide +kernel
theorem d5_60 : decode prog_1_method_3_code 60 = .ok (.getfield 15, 3) := by decide +kernel
theorem d5_63 : decode prog_1_method_3_code 63 = .ok (.aload_n 0, 1) := by decide +kernel
theorem d5_64 : decode prog_1_method_3_code 64 = .ok (.getfield 23, 3) := by decide +kernel
theorem d5_67 : decode prog_1_method_3_code 67 = .ok (.iload_n 2, 1) := by decide +kernel
theorem d5_68 : decode prog_1_method_3_code 68 = .ok (.iastore, 1) := by decide +kernel
theorem d5_69 : decode prog_1_method_3_code 69 = .ok (.aload_n 0, 1) := by decide +kernel
theorem d5_70 : decode prog_1_method_3_code 70 = .ok (.dup, 1) := by decide +kernel
theorem d5_71 : decode prog_1_method_3_code 71 = .ok (.getfield 23, 3) := by decide +kernel
theorem d5_74 : decode prog_1_method_3_code 74 = .ok (.iconst 1, 1) := by decide +kernel
theorem d5_75 : decode prog_1_method_3_code 75 = .ok (.iadd, 1) := by decide +kernel
theorem d5_76 : decode prog_1_method_3_code 76 = .ok (.putfield 23, 3) := by decide +kernel
theorem d5_79 : decode prog_1_method_3_code 79 = .ok (.return_, 1) := by decide +kernel
theorem pn_5 : plainName "com/example/ontology_reasoner/ontologyreasoner/engine/Agenda" = true := by first | (simp [plainName, overriddenIn]; done) | decide +kernel
theorem ef_5 (m : MethodId) (x0 : Addr) (x2 : Int32) : entryFrame m #[(.ref x0), .null, (.int x2)] 3 = mkF m 0 #[.val (.ref x0), .val .null, .val (.int x2)] [] := by first | (simp [entryFrame, mkF, argsToLocals, Value.category]; done) | rfl
set_option maxRecDepth 65536 in
set_option maxHeartbeats 40000000 in
theorem rm5 (l : Launch) (Z : State) (a0 : Array Value) (hw : ∀ d ∈ tables_1, d.before a0 Z = true) (ws : List Jvm.Cond) (x0 : Addr) (x2 : Int32) (hd tl : Int32) (ls : List Int32) (h0 : Heap) (n0 : Nat) (hn0 : n0 ≤ h0.size) (G : AG Z h0 n0 x0 hd tl ls) (hT : own_in tl ls) :
    MetFree l (⟨"com/example/ontology_reasoner/ontologyreasoner/engine/Agenda", "push", "(Lcom/example/ontology_reasoner/ontologyreasoner/engine/Node;I)V"⟩ : MethodName) (head1 (Jvm.Cond.code (⟨"com/example/ontology_reasoner/ontologyreasoner/engine/Agenda", "push", "(Lcom/example/ontology_reasoner/ontologyreasoner/engine/Node;I)V"⟩ : MethodName) prog_1_method_3_code 3 none :: ws) ({ frames := 0, cells := 0, slots := 0, locals := 0 } : Room)) (fun a U => a = #[(.ref x0), .null, (.int x2)] ∧ Z.Warmed39 U.vm ∧ U.heap = h0) (fun _ _ _ _ _ => True) (fun _ U o U' => ∃ v L, o = .returned v ∧ QA Z n0 x0 hd (tl + (1 : Int32)) (own_set ls tl x2) none v U'.heap L ∧ FrameEnd U o U' L ({ frames := 0, cells := 0, slots := 0, locals := 0 } : Room).cells ({ frames := 0, cells := 0, slots := 0, locals := 0 } : Room).slots) := by
  refine MetFree.of_bodySF (plainFor_of_name pn_5) hisR ?_
  intro p e s m args below meth c s₁ Bd hml0 hP hK
  obtain ⟨rfl, hZ, hh⟩ := hP
  have hx := Bd.exec
  have hby := Bd.bytes
  have hml : c.maxLocals = 3 := hml0
  have hown : s.vm.findClass "com/example/ontology_reasoner/ontologyreasoner/engine/Agenda" = some m.cls := findClass_of_methodNamed Bd.named
  have hnm := (name_of_methodNamed Bd.named Bd.method).1
  have X0 : Stand p l e ({ frames := 0, cells := 0, slots := 0, locals := 0 } : Room) s m #[(.ref x0), .null, (.int x2)] below meth c s₁ [] 0 0 := Stand.of_body Bd
  have e0 : s₁.heap = h0 := by rw [← hh, Bd.state]; rfl
  obtain ⟨E0, ga, Fh, Ft, b1, b2, c1, k2, g1, g2, n1, n2, n3, Fn, Fp, Ar1, S1, V2⟩ := G
  show Runs p e below s (QA Z n0 x0 hd (tl + (1 : Int32)) (own_set ls tl x2) none) ({ frames := 0, cells := 0, slots := 0, locals := 0 } : Room).cells ({ frames := 0, cells := 0, slots := 0, locals := 0 } : Room).slots (s₁.setTop (entryFrame m #[(.ref x0), .null, (.int x2)] 3))
  rw [ef_5 m x0 x2]
  have k_0 : ∀ (T : State) (X : Stand p l e ({ frames := 0, cells := 0, slots := 0, locals := 0 } : Room) s m #[(.ref x0), .null, (.int x2)] below meth c T [] 0 0) (eT : T.heap = h0) (N : Fr n0 []), Runs p e below s (QA Z n0 x0 hd (tl + (1 : Int32)) (own_set ls tl x2) none) ({ frames := 0, cells := 0, slots := 0, locals := 0 } : Room).cells ({ frames := 0, cells := 0, slots := 0, locals := 0 } : Room).slots (T.setTop (mkF m 0 #[.val (.ref x0), .val .null, .val (.int x2)] [])) := by
    intro T X eT N 
    refine Runs.go (fun _ => XS.aloadN X.here hx rfl (hb hby d5_0) rfl rfl) ?_
    show Runs p e below s _ _ _ (T.setTop (mkF m 1 #[.val (.ref x0), .val .null, .val (.int x2)] [(.ref x0)]))
    obtain ⟨Tf1_1, Xf1_1, ef1_1, stf1_1⟩ := getF X hx hZ hown (host := "") (Or.inl (hw _ (List.mem_of_getElem? (i := 23) rfl))) Via.refl eT Ft (g := (mkF m 1 #[.val (.ref x0), .val .null, .val (.int x2)] [(.ref x0)])) rfl rfl (hb hby d5_1)
    refine Runs.go stf1_1 ?_
    show Runs p e below s _ _ _ (Tf1_1.setTop (mkF m 4 #[.val (.ref x0), .val .null, .val (.int x2)] [(.int tl)]))
    refine Runs.go (fun _ => XS.aloadN Xf1_1.here hx rfl (hb hby d5_4) rfl rfl) ?_
    show Runs p e below s _ _ _ (Tf1_1.setTop (mkF m 5 #[.val (.ref x0), .val .null, .val (.int x2)] [(.ref x0), (.int tl)]))
    obtain ⟨Tf5_2, Xf5_2, ef5_2, stf5_2⟩ := getF Xf1_1 hx hZ hown (host := "") (Or.inl (hw _ (List.mem_of_getElem? (i := 11) rfl))) Via.refl ef1_1 Fn (g := (mkF m 5 #[.val (.ref x0), .val .null, .val (.int x2)] [(.ref x0), (.int tl)])) rfl rfl (hb hby d5_5)
    refine Runs.go stf5_2 ?_
    show Runs p e below s _ _ _ (Tf5_2.setTop (mkF m 8 #[.val (.ref x0), .val .null, .val (.int x2)] [(.ref b1), (.int tl)]))
    refine Runs.go (Xf5_2.arraylength hx (by rw [ef5_2]; exact Ar1.1) (State.isArrayOf_alike hZ.alike Ar1.2.1) (g := (mkF m 8 #[.val (.ref x0), .val .null, .val (.int x2)] [(.ref b1), (.int tl)])) rfl rfl (hb hby d5_8)) ?_
    rw [len_of S1 (by decide)]
    show Runs p e below s _ _ _ (Tf5_2.setTop (mkF m 9 #[.val (.ref x0), .val .null, .val (.int x2)] [(.int (64 : Int32)), (.int tl)]))
    refine Runs.go (fun _ => XS.icmpYes Xf5_2.here hx rfl (pc0 := 9) (pc' := 49) rfl (hb hby d5_9) rfl (feq (hT.ne : ¬ (tl = (64 : Int32)))).2 (by decide) (by decide)) ?_
    show Runs p e below s _ _ _ (Tf5_2.setTop (mkF m 49 #[.val (.ref x0), .val .null, .val (.int x2)] []))
    refine Runs.go (fun _ => XS.aloadN Xf5_2.here hx rfl (hb hby d5_49) rfl rfl) ?_
    show Runs p e below s _ _ _ (Tf5_2.setTop (mkF m 50 #[.val (.ref x0), .val .null, .val (.int x2)] [(.ref x0)]))
    obtain ⟨Tf50_4, Xf50_4, ef50_4, stf50_4⟩ := getF Xf5_2 hx hZ hown (host := "") (Or.inl (hw _ (List.mem_of_getElem? (i := 11) rfl))) Via.refl ef5_2 Fn (g := (mkF m 50 #[.val (.ref x0), .val .null, .val (.int x2)] [(.ref x0)])) rfl rfl (hb hby d5_50)
    refine Runs.go stf50_4 ?_
    show Runs p e below s _ _ _ (Tf50_4.setTop (mkF m 53 #[.val (.ref x0), .val .null, .val (.int x2)] [(.ref b1)]))
    refine Runs.go (fun _ => XS.aloadN Xf50_4.here hx rfl (hb hby d5_53) rfl rfl) ?_
    show Runs p e below s _ _ _ (Tf50_4.setTop (mkF m 54 #[.val (.ref x0), .val .null, .val (.int x2)] [(.ref x0), (.ref b1)]))
    obtain ⟨Tf54_5, Xf54_5, ef54_5, stf54_5⟩ := getF Xf50_4 hx hZ hown (host := "") (Or.inl (hw _ (List.mem_of_getElem? (i := 23) rfl))) Via.refl ef50_4 Ft (g := (mkF m 54 #[.val (.ref x0), .val .null, .val (.int x2)] [(.ref x0), (.ref b1)])) rfl rfl (hb hby d5_54)
    refine Runs.go stf54_5 ?_
    show Runs p e below s _ _ _ (Tf54_5.setTop (mkF m 57 #[.val (.ref x0), .val .null, .val (.int x2)] [(.int tl), (.ref b1)]))
    refine Runs.go (fun _ => XS.aloadN Xf54_5.here hx rfl (hb hby d5_57) rfl rfl) ?_
    show Runs p e below s _ _ _ (Tf54_5.setTop (mkF m 58 #[.val (.ref x0), .val .null, .val (.int x2)] [.null, (.int tl), (.ref b1)]))
    have hinw58_6 : ¬ (tl < 0 ∨ c1.slots.size ≤ (tl).toNatClampNeg) := inb_of S1 hT.1
    obtain ⟨Tw58_6, hw58_6, Xw58_6, ew58_6, Ww58_6, stw58_6⟩ := stR Xf54_5 hx hZ ef54_5 Ar1 (j := tl) hinw58_6 rfl (Or.inl rfl) (g := (mkF m 58 #[.val (.ref x0), .val .null, .val (.int x2)] [.null, (.int tl), (.ref b1)])) rfl rfl (hb hby d5_58)
    refine Runs.go stw58_6 ?_
    have Arw58_6 := Ar1.same Ww58_6
    have Sw58_6 := (sz_set c1 (tl).toNatClampNeg .null).trans S1
    have hnw58_6 : n0 ≤ hw58_6.size := by rw [Wr.size Ww58_6]; exact hn0
    have E0_w58_6 := E0.wr Ww58_6
    have Fh_w58_6 := Fh.other Ww58_6 (Or.inl n1)
    have Ft_w58_6 := Ft.other Ww58_6 (Or.inl n1)
    have Fn_w58_6 := Fn.other Ww58_6 (Or.inl n1)
    have Fp_w58_6 := Fp.other Ww58_6 (Or.inl n1)
    have V2_w58_6 := V2.other Ww58_6 n3
    have Nw58_6 := Fr.snoc Xw58_6 N g1
    show Runs p e below s _ _ _ (Tw58_6.setTop (mkF m 59 #[.val (.ref x0), .val .null, .val (.int x2)] []))
    refine Runs.go (fun _ => XS.aloadN Xw58_6.here hx rfl (hb hby d5_59) rfl rfl) ?_
    show Runs p e below s _ _ _ (Tw58_6.setTop (mkF m 60 #[.val (.ref x0), .val .null, .val (.int x2)] [(.ref x0)]))
    obtain ⟨Tf60_7, Xf60_7, ef60_7, stf60_7⟩ := getF Xw58_6 hx hZ hown (host := "") (Or.inl (hw _ (List.mem_of_getElem? (i := 14) rfl))) Via.refl ew58_6 Fp_w58_6 (g := (mkF m 60 #[.val (.ref x0), .val .null, .val (.int x2)] [(.ref x0)])) rfl rfl (hb hby d5_60)
    refine Runs.go stf60_7 ?_
    show Runs p e below s _ _ _ (Tf60_7.setTop (mkF m 63 #[.val (.ref x0), .val .null, .val (.int x2)] [(.ref b2)]))
    refine Runs.go (fun _ => XS.aloadN Xf60_7.here hx rfl (hb hby d5_63) rfl rfl) ?_
    show Runs p e below s _ _ _ (Tf60_7.setTop (mkF m 64 #[.val (.ref x0), .val .null, .val (.int x2)] [(.ref x0), (.ref b2)]))
    obtain ⟨Tf64_8, Xf64_8, ef64_8, stf64_8⟩ := getF Xf60_7 hx hZ hown (host := "") (Or.inl (hw _ (List.mem_of_getElem? (i := 23) rfl))) Via.refl ef60_7 Ft_w58_6 (g := (mkF m 64 #[.val (.ref x0), .val .null, .val (.int x2)] [(.ref x0), (.ref b2)])) rfl rfl (hb hby d5_64)
    refine Runs.go stf64_8 ?_
    show Runs p e below s _ _ _ (Tf64_8.setTop (mkF m 67 #[.val (.ref x0), .val .null, .val (.int x2)] [(.int tl), (.ref b2)]))
    refine Runs.go (fun _ => XS.iloadN Xf64_8.here hx rfl (hb hby d5_67) rfl) ?_
    show Runs p e below s _ _ _ (Tf64_8.setTop (mkF m 68 #[.val (.ref x0), .val .null, .val (.int x2)] [(.int x2), (.int tl), (.ref b2)]))
    have VCw68_9 := V2_w58_6
    obtain ⟨clw68_9, Arw68_9, qw68_9, Sw68_9, Mw68_9, Hw68_9, Gw68_9⟩ := VCw68_9
    have hinw68_9 : ¬ (tl < 0 ∨ clw68_9.slots.size ≤ (tl).toNatClampNeg) := inb_of Sw68_9 hT.1
    obtain ⟨Tw68_9, hw68_9, Xw68_9, ew68_9, Ww68_9, stw68_9⟩ := stI Xf64_8 hx hZ ef64_8 Arw68_9 (j := tl) hinw68_9 (g := (mkF m 68 #[.val (.ref x0), .val .null, .val (.int x2)] [(.int x2), (.int tl), (.ref b2)])) rfl rfl (hb hby d5_68)
    refine Runs.go stw68_9 ?_
    have hnw68_9 : n0 ≤ hw68_9.size := by rw [Wr.size Ww68_9]; exact hnw58_6
    have E0_w68_9 := E0_w58_6.wr Ww68_9
    have Fh_w68_9 := Fh_w58_6.other Ww68_9 (Or.inl n2)
    have Ft_w68_9 := Ft_w58_6.other Ww68_9 (Or.inl n2)
    have Fn_w68_9 := Fn_w58_6.other Ww68_9 (Or.inl n2)
    have Fp_w68_9 := Fp_w58_6.other Ww68_9 (Or.inl n2)
    have Ar1_w68_9 := Arw58_6.other Ww68_9 (Ne.symm n3)
    have Vw68_9 : Arv Z hw68_9 b2 k2 .int (64 : Int32) (List.map Value.int (own_set ls tl x2)) (.int (0 : Int32)) := by
        rw [own_set, List.map_set]; exact Arv.set Arw68_9 qw68_9 Sw68_9 Mw68_9 Hw68_9 Gw68_9 rfl Ww68_9 _ rfl (by rw [List.length_map]; exact hT.2)
    have Nw68_9 := Fr.snoc Xw68_9 Nw58_6 g2
    show Runs p e below s _ _ _ (Tw68_9.setTop (mkF m 69 #[.val (.ref x0), .val .null, .val (.int x2)] []))
    refine Runs.go (fun _ => XS.aloadN Xw68_9.here hx rfl (hb hby d5_69) rfl rfl) ?_
    show Runs p e below s _ _ _ (Tw68_9.setTop (mkF m 70 #[.val (.ref x0), .val .null, .val (.int x2)] [(.ref x0)]))
    refine Runs.go (fun _ => XS.dup Xw68_9.here hx rfl (hb hby d5_70) rfl rfl) ?_
    show Runs p e below s _ _ _ (Tw68_9.setTop (mkF m 71 #[.val (.ref x0), .val .null, .val (.int x2)] [(.ref x0), (.ref x0)]))
    obtain ⟨Tf71_10, Xf71_10, ef71_10, stf71_10⟩ := getF Xw68_9 hx hZ hown (host := "") (Or.inl (hw _ (List.mem_of_getElem? (i := 23) rfl))) Via.refl ew68_9 Ft_w68_9 (g := (mkF m 71 #[.val (.ref x0), .val .null, .val (.int x2)] [(.ref x0), (.ref x0)])) rfl rfl (hb hby d5_71)
    refine Runs.go stf71_10 ?_
    show Runs p e below s _ _ _ (Tf71_10.setTop (mkF m 74 #[.val (.ref x0), .val .null, .val (.int x2)] [(.int tl), (.ref x0)]))
    refine Runs.go (fun _ => XS.iconst Xf71_10.here hx rfl (hb hby d5_74)) ?_
    show Runs p e below s _ _ _ (Tf71_10.setTop (mkF m 75 #[.val (.ref x0), .val .null, .val (.int x2)] [(.int (1 : Int32)), (.int tl), (.ref x0)]))
    refine Runs.go (fun _ => XS.iadd Xf71_10.here hx rfl (hb hby d5_75) rfl) ?_
    show Runs p e below s _ _ _ (Tf71_10.setTop (mkF m 76 #[.val (.ref x0), .val .null, .val (.int x2)] [(.int (tl + (1 : Int32))), (.ref x0)]))
    obtain ⟨Tp76_11, hp76_11, Xp76_11, ep76_11, Wp76_11, stp76_11⟩ := putF Xf71_10 hx hZ hown (host := "") (Or.inl (hw _ (List.mem_of_getElem? (i := 23) rfl))) Via.refl ef71_10 Ft_w68_9 E0_w68_9 (Or.inl (hw _ (List.mem_of_getElem? (i := 24) rfl))) (hw _ (List.mem_of_getElem? (i := 1) rfl)) (ty := .int) (by decide) rfl rfl (g := (mkF m 76 #[.val (.ref x0), .val .null, .val (.int x2)] [(.int (tl + (1 : Int32))), (.ref x0)])) rfl rfl (hb hby d5_76)
    refine Runs.go stp76_11 ?_
    have Fwp76_11 := Ft_w68_9.same Wp76_11
    have hnp76_11 : n0 ≤ hp76_11.size := by rw [Wr.size Wp76_11]; exact hnw68_9
    have E0_p76_11 := E0_w68_9.wr Wp76_11
    have Fh_p76_11 := Fh_w68_9.other Wp76_11 (Or.inr (slot_ne (Or.inl (hw _ (List.mem_of_getElem? (i := 22) rfl))) (Or.inl (hw _ (List.mem_of_getElem? (i := 24) rfl))) (by decide) (t := .int) (t' := .int) (by decide) (by decide)))
    have Fn_p76_11 := Fn_w68_9.other Wp76_11 (Or.inr (slot_ne (Or.inl (hw _ (List.mem_of_getElem? (i := 12) rfl))) (Or.inl (hw _ (List.mem_of_getElem? (i := 24) rfl))) (by decide) (t := (.array (.object "com/example/ontology_reasoner/ontologyreasoner/engine/Node"))) (t' := .int) (by decide) (by decide)))
    have Fp_p76_11 := Fp_w68_9.other Wp76_11 (Or.inr (slot_ne (Or.inl (hw _ (List.mem_of_getElem? (i := 15) rfl))) (Or.inl (hw _ (List.mem_of_getElem? (i := 24) rfl))) (by decide) (t := (.array .int)) (t' := .int) (by decide) (by decide)))
    have Ar1_p76_11 := Ar1_w68_9.other Wp76_11 (Ne.symm n1)
    have V2_p76_11 := Vw68_9.other Wp76_11 (Ne.symm n2)
    have Np76_11 := Fr.snoc Xp76_11 Nw68_9 ga
    show Runs p e below s _ _ _ (Tp76_11.setTop (mkF m 79 #[.val (.ref x0), .val .null, .val (.int x2)] []))
    exact Runs.endV Xp76_11 hx Bd.returns Bd.notSynchronized (hb hby d5_79) ⟨rfl, Np76_11, by rw [ep76_11]; exact ⟨E0_p76_11, ga, Fh_p76_11, Fwp76_11, b1, b2, _, k2, g1, g2, n1, n2, n3, Fn_p76_11, Fp_p76_11, Ar1_p76_11, Sw58_6, V2_p76_11⟩⟩ (by decide) (by decide)
  exact k_0 _ X0 e0 (Fr.nil n0)
theorem d6_0 : decode prog_1_method_4_code 0 = .ok (.aload_n 0, 1) := by decide +kernel
theorem d6_1 : decode prog_1_method_4_code 1 = .ok (.dup, 1) := by decide +kernel
theorem d6_2 : decode prog_1_method_4_code 2 = .ok (.getfield 19, 3) := by decide +kernel
theorem d6_5 : decode prog_1_method_4_code 5 = .ok (.iconst 1, 1) := by decide +kernel
theorem d6_6 : decode prog_1_method_4_code 6 = .ok (.iadd, 1) := by decide +kernel
theorem d6_7 : decode prog_1_method_4_code 7 = .ok (.putfield 19, 3) := by decide +kernel
theorem d6_10 : decode prog_1_method_4_code 10 = .ok (.return_, 1) := by decide +kernel
theorem pn_6 : plainName "com/example/ontology_reasoner/ontologyreasoner/engine/Agenda" = true := by first | (simp [plainName, overriddenIn]; done) | decide +kernel
theorem ef_6 (m : MethodId) (x0 : Addr) : entryFrame m #[(.ref x0)] 1 = mkF m 0 #[.val (.ref x0)] [] := by first | (simp [entryFrame, mkF, argsToLocals, Value.category]; done) | rfl
set_option maxRecDepth 65536 in
set_option maxHeartbeats 40000000 in
theorem rm6 (l : Launch) (Z : State) (a0 : Array Value) (hw : ∀ d ∈ tables_1, d.before a0 Z = true) (ws : List Jvm.Cond) (x0 : Addr) (hd tl : Int32) (ls : List Int32) (h0 : Heap) (n0 : Nat) (hn0 : n0 ≤ h0.size) (G : AG Z h0 n0 x0 hd tl ls) :
    MetFree l (⟨"com/example/ontology_reasoner/ontologyreasoner/engine/Agenda", "pop", "()V"⟩ : MethodName) (head1 (Jvm.Cond.code (⟨"com/example/ontology_reasoner/ontologyreasoner/engine/Agenda", "pop", "()V"⟩ : MethodName) prog_1_method_4_code 1 none :: ws) ({ frames := 0, cells := 0, slots := 0, locals := 0 } : Room)) (fun a U => a = #[(.ref x0)] ∧ Z.Warmed39 U.vm ∧ U.heap = h0) (fun _ _ _ _ _ => True) (fun _ U o U' => ∃ v L, o = .returned v ∧ QA Z n0 x0 (hd + (1 : Int32)) tl ls none v U'.heap L ∧ FrameEnd U o U' L ({ frames := 0, cells := 0, slots := 0, locals := 0 } : Room).cells ({ frames := 0, cells := 0, slots := 0, locals := 0 } : Room).slots) := by
  refine MetFree.of_bodySF (plainFor_of_name pn_6) hisR ?_
  intro p e s m args below meth c s₁ Bd hml0 hP hK
  obtain ⟨rfl, hZ, hh⟩ := hP
  have hx := Bd.exec
  have hby := Bd.bytes
  have hml : c.maxLocals = 1 := hml0
  have hown : s.vm.findClass "com/example/ontology_reasoner/ontologyreasoner/engine/Agenda" = some m.cls := findClass_of_methodNamed Bd.named
  have hnm := (name_of_methodNamed Bd.named Bd.method).1
  have X0 : Stand p l e ({ frames := 0, cells := 0, slots := 0, locals := 0 } : Room) s m #[(.ref x0)] below meth c s₁ [] 0 0 := Stand.of_body Bd
  have e0 : s₁.heap = h0 := by rw [← hh, Bd.state]; rfl
  obtain ⟨E0, ga, Fh, Ft, b1, b2, c1, k2, g1, g2, n1, n2, n3, Fn, Fp, Ar1, S1, V2⟩ := G
  show Runs p e below s (QA Z n0 x0 (hd + (1 : Int32)) tl ls none) ({ frames := 0, cells := 0, slots := 0, locals := 0 } : Room).cells ({ frames := 0, cells := 0, slots := 0, locals := 0 } : Room).slots (s₁.setTop (entryFrame m #[(.ref x0)] 1))
  rw [ef_6 m x0]
  have k_0 : ∀ (T : State) (X : Stand p l e ({ frames := 0, cells := 0, slots := 0, locals := 0 } : Room) s m #[(.ref x0)] below meth c T [] 0 0) (eT : T.heap = h0) (N : Fr n0 []), Runs p e below s (QA Z n0 x0 (hd + (1 : Int32)) tl ls none) ({ frames := 0, cells := 0, slots := 0, locals := 0 } : Room).cells ({ frames := 0, cells := 0, slots := 0, locals := 0 } : Room).slots (T.setTop (mkF m 0 #[.val (.ref x0)] [])) := by
    intro T X eT N 
    refine Runs.go (fun _ => XS.aloadN X.here hx rfl (hb hby d6_0) rfl rfl) ?_
    show Runs p e below s _ _ _ (T.setTop (mkF m 1 #[.val (.ref x0)] [(.ref x0)]))
    refine Runs.go (fun _ => XS.dup X.here hx rfl (hb hby d6_1) rfl rfl) ?_
    show Runs p e below s _ _ _ (T.setTop (mkF m 2 #[.val (.ref x0)] [(.ref x0), (.ref x0)]))
    obtain ⟨Tf2_1, Xf2_1, ef2_1, stf2_1⟩ := getF X hx hZ hown (host := "") (Or.inl (hw _ (List.mem_of_getElem? (i := 21) rfl))) Via.refl eT Fh (g := (mkF m 2 #[.val (.ref x0)] [(.ref x0), (.ref x0)])) rfl rfl (hb hby d6_2)
    refine Runs.go stf2_1 ?_
    show Runs p e below s _ _ _ (Tf2_1.setTop (mkF m 5 #[.val (.ref x0)] [(.int hd), (.ref x0)]))
    refine Runs.go (fun _ => XS.iconst Xf2_1.here hx rfl (hb hby d6_5)) ?_
    show Runs p e below s _ _ _ (Tf2_1.setTop (mkF m 6 #[.val (.ref x0)] [(.int (1 : Int32)), (.int hd), (.ref x0)]))
    refine Runs.go (fun _ => XS.iadd Xf2_1.here hx rfl (hb hby d6_6) rfl) ?_
    show Runs p e below s _ _ _ (Tf2_1.setTop (mkF m 7 #[.val (.ref x0)] [(.int (hd + (1 : Int32))), (.ref x0)]))
    obtain ⟨Tp7_2, hp7_2, Xp7_2, ep7_2, Wp7_2, stp7_2⟩ := putF Xf2_1 hx hZ hown (host := "") (Or.inl (hw _ (List.mem_of_getElem? (i := 21) rfl))) Via.refl ef2_1 Fh E0 (Or.inl (hw _ (List.mem_of_getElem? (i := 22) rfl))) (hw _ (List.mem_of_getElem? (i := 1) rfl)) (ty := .int) (by decide) rfl rfl (g := (mkF m 7 #[.val (.ref x0)] [(.int (hd + (1 : Int32))), (.ref x0)])) rfl rfl (hb hby d6_7)
    refine Runs.go stp7_2 ?_
    have Fwp7_2 := Fh.same Wp7_2
    have hnp7_2 : n0 ≤ hp7_2.size := by rw [Wr.size Wp7_2]; exact hn0
    have E0_p7_2 := E0.wr Wp7_2
    have Ft_p7_2 := Ft.other Wp7_2 (Or.inr (slot_ne (Or.inl (hw _ (List.mem_of_getElem? (i := 24) rfl))) (Or.inl (hw _ (List.mem_of_getElem? (i := 22) rfl))) (by decide) (t := .int) (t' := .int) (by decide) (by decide)))
    have Fn_p7_2 := Fn.other Wp7_2 (Or.inr (slot_ne (Or.inl (hw _ (List.mem_of_getElem? (i := 12) rfl))) (Or.inl (hw _ (List.mem_of_getElem? (i := 22) rfl))) (by decide) (t := (.array (.object "com/example/ontology_reasoner/ontologyreasoner/engine/Node"))) (t' := .int) (by decide) (by decide)))
    have Fp_p7_2 := Fp.other Wp7_2 (Or.inr (slot_ne (Or.inl (hw _ (List.mem_of_getElem? (i := 15) rfl))) (Or.inl (hw _ (List.mem_of_getElem? (i := 22) rfl))) (by decide) (t := (.array .int)) (t' := .int) (by decide) (by decide)))
    have Ar1_p7_2 := Ar1.other Wp7_2 (Ne.symm n1)
    have V2_p7_2 := V2.other Wp7_2 (Ne.symm n2)
    have Np7_2 := Fr.snoc Xp7_2 N ga
    show Runs p e below s _ _ _ (Tp7_2.setTop (mkF m 10 #[.val (.ref x0)] []))
    exact Runs.endV Xp7_2 hx Bd.returns Bd.notSynchronized (hb hby d6_10) ⟨rfl, Np7_2, by rw [ep7_2]; exact ⟨E0_p7_2, ga, Fwp7_2, Ft_p7_2, b1, b2, _, k2, g1, g2, n1, n2, n3, Fn_p7_2, Fp_p7_2, Ar1_p7_2, S1, V2_p7_2⟩⟩ (by decide) (by decide)
  exact k_0 _ X0 e0 (Fr.nil n0)
theorem pn_0 : plainName "com/example/ontology_reasoner/ontologyreasoner/engine/AgendaIsEmptyPinLaw" = true := by first | (simp [plainName, overriddenIn]; done) | decide +kernel
theorem ef_0 (m : MethodId) (x0 : Int32) (x1 : Int32) (x2 : Int32) (x3 : Int32) : entryFrame m #[(.int x0), (.int x1), (.int x2), (.int x3)] maxLocals = mkF m 0 #[.val (.int x0), .val (.int x1), .val (.int x2), .val (.int x3), .unset, .unset, .unset, .unset, .unset, .unset] [] := by first | (simp [entryFrame, mkF, argsToLocals, Value.category, maxLocals]; done) | rfl
set_option maxRecDepth 65536 in
set_option maxHeartbeats 40000000 in
theorem rm0 (l : Launch) (Z : State) (a0 : Array Value) (hw : ∀ d ∈ tables_1, d.before a0 Z = true) (ws : List Jvm.Cond) (x0 : Int32) (x1 : Int32) (x2 : Int32) (x3 : Int32) (h0 : Heap) (n0 : Nat) (hn0 : n0 ≤ h0.size) :
    MetFree l x (head1 (Jvm.Cond.code x code maxLocals ret :: ws) room_1) (fun a U => a = #[(.int x0), (.int x1), (.int x2), (.int x3)] ∧ Z.Warmed39 U.vm ∧ U.heap = h0) (fun _ _ _ _ _ => True) (fun _ U o U' => ∃ v L, o = .returned v ∧ QH (.int (F0 x0 x1 x2 x3)) n0 v U'.heap L ∧ FrameEnd U o U' L room_1.cells room_1.slots) := by
  refine MetFree.of_bodySF (plainFor_of_name pn_0) hisR ?_
  intro p e s m args below meth c s₁ Bd hml0 hP hK
  obtain ⟨rfl, hZ, hh⟩ := hP
  have hx := Bd.exec
  have hby := Bd.bytes
  have hml : c.maxLocals = 10 := hml0
  have hown : s.vm.findClass "com/example/ontology_reasoner/ontologyreasoner/engine/AgendaIsEmptyPinLaw" = some m.cls := findClass_of_methodNamed Bd.named
  have X0 : Stand p l e room_1 s m #[(.int x0), (.int x1), (.int x2), (.int x3)] below meth c s₁ [] 0 0 := Stand.of_body Bd
  have e0 : s₁.heap = h0 := by rw [← hh, Bd.state]; rfl
  show Runs p e below s (QH (.int (F0 x0 x1 x2 x3)) n0) room_1.cells room_1.slots (s₁.setTop (entryFrame m #[(.int x0), (.int x1), (.int x2), (.int x3)] maxLocals))
  rw [ef_0 m x0 x1 x2 x3]
  obtain ⟨r, hF⟩ : ∃ r, F0 x0 x1 x2 x3 = r := ⟨_, rfl⟩
  rw [hF]
  have k_169 : ∀ (T : State) (locs : List Loc) (h : Heap) (X : Stand p l e room_1 s m #[(.int x0), (.int x1), (.int x2), (.int x3)] below meth c T locs 3 132) (eT : T.heap = h) (N : Fr n0 locs) (w_a : Addr) (w_l : List Int32) (v0 : Int32) (v1 : Int32) (v2 : Int32) (v3 : Int32) (v5 : Int32) (v6 : Int32) (v7 : Int32) (v8 : Int32) (v9 : Int32) (G_AG : AG Z h n0 w_a x2 x3 w_l), f0_169 x0 x1 x2 x3 = r → Runs p e below s (QH (.int r) n0) room_1.cells room_1.slots (T.setTop (mkF m 169 #[.val (.int v0), .val (.int v1), .val (.int v2), .val (.int v3), .val (.ref w_a), .val (.int v5), .val (.int v6), .val (.int v7), .val (.int v8), .val (.int v9)] [])) := by
    intro T locs h X eT N w_a w_l v0 v1 v2 v3 v5 v6 v7 v8 v9 G_AG hv
    unfold f0_169 at hv
    refine Runs.go (fun _ => XS.iconst X.here hx rfl (hb hby at_169)) ?_
    show Runs p e below s _ _ _ (T.setTop (mkF m 170 #[.val (.int v0), .val (.int v1), .val (.int v2), .val (.int v3), .val (.ref w_a), .val (.int v5), .val (.int v6), .val (.int v7), .val (.int v8), .val (.int v9)] [(.int (0 : Int32))]))
    exact Runs.endN X hx (t := .boolean) Bd.returns (by simp) Bd.notSynchronized (hb hby at_170) ⟨congrArg (fun z => some (Value.int z)) hv, N⟩ (by decide) (by decide)
  have k_162 : ∀ (T : State) (locs : List Loc) (h : Heap) (X : Stand p l e room_1 s m #[(.int x0), (.int x1), (.int x2), (.int x3)] below meth c T locs 3 132) (eT : T.heap = h) (N : Fr n0 locs) (w_a : Addr) (w_l : List Int32) (v0 : Int32) (v1 : Int32) (v2 : Int32) (v3 : Int32) (v5 : Int32) (v6 : Int32) (v7 : Int32) (v8 : Int32) (v9 : Int32) (t0 : Int32) (G_AG : AG Z h n0 w_a x2 x3 w_l), f0_162 x0 x1 x2 x3 t0 = r → Runs p e below s (QH (.int r) n0) room_1.cells room_1.slots (T.setTop (mkF m 162 #[.val (.int v0), .val (.int v1), .val (.int v2), .val (.int v3), .val (.ref w_a), .val (.int v5), .val (.int v6), .val (.int v7), .val (.int v8), .val (.int v9)] [(.int t0), (.int (F3 x2 x3))])) := by
    intro T locs h X eT N w_a w_l v0 v1 v2 v3 v5 v6 v7 v8 v9 t0 G_AG hv
    unfold f0_162 at hv
    by_cases hc162 : (F3 x2 x3) = t0
    · have hv := (if_pos hc162).symm.trans hv
      refine Runs.go (fun _ => XS.icmpNo X.here hx rfl (hb hby at_162) rfl (teq hc162).2) ?_
      show Runs p e below s _ _ _ (T.setTop (mkF m 165 #[.val (.int v0), .val (.int v1), .val (.int v2), .val (.int v3), .val (.ref w_a), .val (.int v5), .val (.int v6), .val (.int v7), .val (.int v8), .val (.int v9)] []))
      refine Runs.go (fun _ => XS.iconst X.here hx rfl (hb hby at_165)) ?_
      show Runs p e below s _ _ _ (T.setTop (mkF m 166 #[.val (.int v0), .val (.int v1), .val (.int v2), .val (.int v3), .val (.ref w_a), .val (.int v5), .val (.int v6), .val (.int v7), .val (.int v8), .val (.int v9)] [(.int (1 : Int32))]))
      refine Runs.go (fun _ => XS.goto X.here hx rfl (pc0 := 166) (pc' := 170) rfl (hb hby at_166) (by decide) (by decide)) ?_
      show Runs p e below s _ _ _ (T.setTop (mkF m 170 #[.val (.int v0), .val (.int v1), .val (.int v2), .val (.int v3), .val (.ref w_a), .val (.int v5), .val (.int v6), .val (.int v7), .val (.int v8), .val (.int v9)] [(.int (1 : Int32))]))
      exact Runs.endN X hx (t := .boolean) Bd.returns (by simp) Bd.notSynchronized (hb hby at_170) ⟨congrArg (fun z => some (Value.int z)) hv, N⟩ (by decide) (by decide)
    · have hv := (if_neg hc162).symm.trans hv
      refine Runs.go (fun _ => XS.icmpYes X.here hx rfl (pc0 := 162) (pc' := 169) rfl (hb hby at_162) rfl (feq hc162).2 (by decide) (by decide)) ?_
      show Runs p e below s _ _ _ (T.setTop (mkF m 169 #[.val (.int v0), .val (.int v1), .val (.int v2), .val (.int v3), .val (.ref w_a), .val (.int v5), .val (.int v6), .val (.int v7), .val (.int v8), .val (.int v9)] []))
      exact k_169 _ _ _ X eT N w_a w_l v0 v1 v2 v3 v5 v6 v7 v8 v9 G_AG hv
  have k_147 : ∀ (T : State) (locs : List Loc) (h : Heap) (X : Stand p l e room_1 s m #[(.int x0), (.int x1), (.int x2), (.int x3)] below meth c T locs 3 132) (eT : T.heap = h) (N : Fr n0 locs) (w_a : Addr) (w_l : List Int32) (v0 : Int32) (v1 : Int32) (v5 : Int32) (v6 : Int32) (v7 : Int32) (v8 : Int32) (t0 : Int32) (t1 : Int32) (G_AG : AG Z h n0 w_a x2 x3 w_l), f0_147 x0 x1 x2 x3 t0 t1 = r → Runs p e below s (QH (.int r) n0) room_1.cells room_1.slots (T.setTop (mkF m 147 #[.val (.int v0), .val (.int v1), .val (.int x2), .val (.int x3), .val (.ref w_a), .val (.int v5), .val (.int v6), .val (.int v7), .val (.int v8), .val (.int (F3 x2 x3))] [(.int t0), (.int t1)])) := by
    intro T locs h X eT N w_a w_l v0 v1 v5 v6 v7 v8 t0 t1 G_AG hv
    unfold f0_147 at hv
    by_cases hc147 : t1 = t0
    · have hv := (if_pos hc147).symm.trans hv
      refine Runs.go (fun _ => XS.icmpNo X.here hx rfl (hb hby at_147) rfl (teq hc147).2) ?_
      show Runs p e below s _ _ _ (T.setTop (mkF m 150 #[.val (.int v0), .val (.int v1), .val (.int x2), .val (.int x3), .val (.ref w_a), .val (.int v5), .val (.int v6), .val (.int v7), .val (.int v8), .val (.int (F3 x2 x3))] []))
      refine Runs.go (fun _ => XS.iload X.here hx rfl (hb hby at_150) rfl) ?_
      show Runs p e below s _ _ _ (T.setTop (mkF m 152 #[.val (.int v0), .val (.int v1), .val (.int x2), .val (.int x3), .val (.ref w_a), .val (.int v5), .val (.int v6), .val (.int v7), .val (.int v8), .val (.int (F3 x2 x3))] [(.int (F3 x2 x3))]))
      refine Runs.go (fun _ => XS.iloadN X.here hx rfl (hb hby at_152) rfl) ?_
      show Runs p e below s _ _ _ (T.setTop (mkF m 153 #[.val (.int v0), .val (.int v1), .val (.int x2), .val (.int x3), .val (.ref w_a), .val (.int v5), .val (.int v6), .val (.int v7), .val (.int v8), .val (.int (F3 x2 x3))] [(.int x2), (.int (F3 x2 x3))]))
      refine Runs.go (fun _ => XS.iloadN X.here hx rfl (hb hby at_153) rfl) ?_
      show Runs p e below s _ _ _ (T.setTop (mkF m 154 #[.val (.int v0), .val (.int v1), .val (.int x2), .val (.int x3), .val (.ref w_a), .val (.int v5), .val (.int v6), .val (.int v7), .val (.int v8), .val (.int (F3 x2 x3))] [(.int x3), (.int x2), (.int (F3 x2 x3))]))
      by_cases hc154 : x2 = x3
      · have hv := (if_pos hc154).symm.trans hv
        refine Runs.go (fun _ => XS.icmpNo X.here hx rfl (hb hby at_154) rfl (teq hc154).2) ?_
        show Runs p e below s _ _ _ (T.setTop (mkF m 157 #[.val (.int v0), .val (.int v1), .val (.int x2), .val (.int x3), .val (.ref w_a), .val (.int v5), .val (.int v6), .val (.int v7), .val (.int v8), .val (.int (F3 x2 x3))] [(.int (F3 x2 x3))]))
        refine Runs.go (fun _ => XS.iconst X.here hx rfl (hb hby at_157)) ?_
        show Runs p e below s _ _ _ (T.setTop (mkF m 158 #[.val (.int v0), .val (.int v1), .val (.int x2), .val (.int x3), .val (.ref w_a), .val (.int v5), .val (.int v6), .val (.int v7), .val (.int v8), .val (.int (F3 x2 x3))] [(.int (1 : Int32)), (.int (F3 x2 x3))]))
        refine Runs.go (fun _ => XS.goto X.here hx rfl (pc0 := 158) (pc' := 162) rfl (hb hby at_158) (by decide) (by decide)) ?_
        show Runs p e below s _ _ _ (T.setTop (mkF m 162 #[.val (.int v0), .val (.int v1), .val (.int x2), .val (.int x3), .val (.ref w_a), .val (.int v5), .val (.int v6), .val (.int v7), .val (.int v8), .val (.int (F3 x2 x3))] [(.int (1 : Int32)), (.int (F3 x2 x3))]))
        exact k_162 _ _ _ X eT N w_a w_l v0 v1 x2 x3 v5 v6 v7 v8 (F3 x2 x3) (1 : Int32) G_AG hv
      · have hv := (if_neg hc154).symm.trans hv
        refine Runs.go (fun _ => XS.icmpYes X.here hx rfl (pc0 := 154) (pc' := 161) rfl (hb hby at_154) rfl (feq hc154).2 (by decide) (by decide)) ?_
        show Runs p e below s _ _ _ (T.setTop (mkF m 161 #[.val (.int v0), .val (.int v1), .val (.int x2), .val (.int x3), .val (.ref w_a), .val (.int v5), .val (.int v6), .val (.int v7), .val (.int v8), .val (.int (F3 x2 x3))] [(.int (F3 x2 x3))]))
        refine Runs.go (fun _ => XS.iconst X.here hx rfl (hb hby at_161)) ?_
        show Runs p e below s _ _ _ (T.setTop (mkF m 162 #[.val (.int v0), .val (.int v1), .val (.int x2), .val (.int x3), .val (.ref w_a), .val (.int v5), .val (.int v6), .val (.int v7), .val (.int v8), .val (.int (F3 x2 x3))] [(.int (0 : Int32)), (.int (F3 x2 x3))]))
        exact k_162 _ _ _ X eT N w_a w_l v0 v1 x2 x3 v5 v6 v7 v8 (F3 x2 x3) (0 : Int32) G_AG hv
    · have hv := (if_neg hc147).symm.trans hv
      refine Runs.go (fun _ => XS.icmpYes X.here hx rfl (pc0 := 147) (pc' := 169) rfl (hb hby at_147) rfl (feq hc147).2 (by decide) (by decide)) ?_
      show Runs p e below s _ _ _ (T.setTop (mkF m 169 #[.val (.int v0), .val (.int v1), .val (.int x2), .val (.int x3), .val (.ref w_a), .val (.int v5), .val (.int v6), .val (.int v7), .val (.int v8), .val (.int (F3 x2 x3))] []))
      exact k_169 _ _ _ X eT N w_a w_l v0 v1 x2 x3 v5 v6 v7 v8 (F3 x2 x3) G_AG hv
  have k_107 : ∀ (T : State) (locs : List Loc) (h : Heap) (X : Stand p l e room_1 s m #[(.int x0), (.int x1), (.int x2), (.int x3)] below meth c T locs 3 132) (eT : T.heap = h) (N : Fr n0 locs) (w_a : Addr) (w_hd : Int32) (w_tl : Int32) (w_l : List Int32) (v0 : Int32) (v1 : Int32) (v7 : Int32) (G_AG : AG Z h n0 w_a w_hd w_tl w_l), f0_107 x0 x1 x2 x3 w_hd w_tl v7 = r → Runs p e below s (QH (.int r) n0) room_1.cells room_1.slots (T.setTop (mkF m 107 #[.val (.int v0), .val (.int v1), .val (.int x2), .val (.int x3), .val (.ref w_a), .val (.int (F3 (0 : Int32) (0 : Int32))), .val (.int (x0 &&& (3 : Int32))), .val (.int v7), .unset, .unset] [])) := by
    intro T locs h X eT N w_a w_hd w_tl w_l v0 v1 v7 G_AG hv
    unfold f0_107 at hv
    refine Runs.go (fun _ => XS.aload X.here hx rfl (hb hby at_107) rfl rfl) ?_
    show Runs p e below s _ _ _ (T.setTop (mkF m 109 #[.val (.int v0), .val (.int v1), .val (.int x2), .val (.int x3), .val (.ref w_a), .val (.int (F3 (0 : Int32) (0 : Int32))), .val (.int (x0 &&& (3 : Int32))), .val (.int v7), .unset, .unset] [(.ref w_a)]))
    have hz109 : n0 ≤ h.size := Nat.le_trans G_AG.2.1 (Nat.le_of_lt G_AG.1.lt)
    obtain ⟨cqc109_10, kqc109_10, qc109_10a, qc109_10b, qc109_10c⟩ := isOf hZ eT G_AG.1
    obtain ⟨_, _, ⟨Tc109_10, Lc109_10, kc109_10, nc109_10⟩, -, Xc109_10, ⟨Lcc109_10, hQc109_10, lc109_10, yc109_10, zc109_10⟩, stc109_10⟩ := X.virtualBack hx (y := (⟨"com/example/ontology_reasoner/ontologyreasoner/engine/Agenda", "isEmpty", "()Z"⟩ : MethodName)) (z := (⟨"com/example/ontology_reasoner/ontologyreasoner/engine/Agenda", "isEmpty", "()Z"⟩ : MethodName)) hown (mvT hZ (hw _ (List.mem_of_getElem? (i := 16) rfl))) (mvT hZ (hw _ (List.mem_of_getElem? (i := 17) rfl))) (notFace_of_selects (args := #[]) (mvT hZ (hw _ (List.mem_of_getElem? (i := 19) rfl)))) (mvT hZ (hw _ (List.mem_of_getElem? (i := 19) rfl))) (mvT hZ (hw _ (List.mem_of_getElem? (i := 18) rfl))) (by decide) (backOf (W := 0) (rm3 l Z a0 hw [] w_a w_hd w_tl w_l h n0 hz109 G_AG ) hZ (hw _ (List.mem_of_getElem? (i := 20) rfl)) (hw _ (List.mem_of_getElem? (i := 2) rfl)) (by decide) (by decide)) qc109_10a qc109_10c (g := (mkF m 109 #[.val (.int v0), .val (.int v1), .val (.int x2), .val (.int x3), .val (.ref w_a), .val (.int (F3 (0 : Int32) (0 : Int32))), .val (.int (x0 &&& (3 : Int32))), .val (.int v7), .unset, .unset] [(.ref w_a)])) rfl (by rw [hml]; rfl) (Steps.refl _) (argsL := []) (rest := []) (lenOf pd_1 rfl) rfl (by show 2 * 0 + _ ≤ _; exact Nat.le_of_eq rfl) (hb hby at_109) (fun _ _ => ⟨rfl, eT, (by decide : 3 + 0 ≤ _), (by decide : 132 + 0 ≤ _)⟩)
    dsimp only [Pt.U, Pt.locs, Pt.cells, Pt.slots] at Xc109_10 lc109_10 yc109_10 zc109_10 stc109_10 hQc109_10
    subst lc109_10 yc109_10 zc109_10
    obtain ⟨rfl, Nc109_10q, Gc109_10⟩ := hQc109_10
    refine Runs.go (fun _ => stc109_10.trans) ?_
    have Nc109_10 := Fr.app N Nc109_10q
    show Runs p e below s _ _ _ (Tc109_10.setTop (mkF m 112 #[.val (.int v0), .val (.int v1), .val (.int x2), .val (.int x3), .val (.ref w_a), .val (.int (F3 (0 : Int32) (0 : Int32))), .val (.int (x0 &&& (3 : Int32))), .val (.int v7), .unset, .unset] [(.int (F3 w_hd w_tl))]))
    refine Runs.go (fun _ => XS.istore Xc109_10.here hx rfl (hb hby at_112) rfl (l' := #[.val (.int v0), .val (.int v1), .val (.int x2), .val (.int x3), .val (.ref w_a), .val (.int (F3 (0 : Int32) (0 : Int32))), .val (.int (x0 &&& (3 : Int32))), .val (.int v7), .val (.int (F3 w_hd w_tl)), .unset]) rfl) ?_
    show Runs p e below s _ _ _ (Tc109_10.setTop (mkF m 114 #[.val (.int v0), .val (.int v1), .val (.int x2), .val (.int x3), .val (.ref w_a), .val (.int (F3 (0 : Int32) (0 : Int32))), .val (.int (x0 &&& (3 : Int32))), .val (.int v7), .val (.int (F3 w_hd w_tl)), .unset] []))
    refine Runs.go (fun _ => XS.aload Xc109_10.here hx rfl (hb hby at_114) rfl rfl) ?_
    show Runs p e below s _ _ _ (Tc109_10.setTop (mkF m 116 #[.val (.int v0), .val (.int v1), .val (.int x2), .val (.int x3), .val (.ref w_a), .val (.int (F3 (0 : Int32) (0 : Int32))), .val (.int (x0 &&& (3 : Int32))), .val (.int v7), .val (.int (F3 w_hd w_tl)), .unset] [(.ref w_a)]))
    refine Runs.go (fun _ => XS.iloadN Xc109_10.here hx rfl (hb hby at_116) rfl) ?_
    show Runs p e below s _ _ _ (Tc109_10.setTop (mkF m 117 #[.val (.int v0), .val (.int v1), .val (.int x2), .val (.int x3), .val (.ref w_a), .val (.int (F3 (0 : Int32) (0 : Int32))), .val (.int (x0 &&& (3 : Int32))), .val (.int v7), .val (.int (F3 w_hd w_tl)), .unset] [(.int x2), (.ref w_a)]))
    refine Runs.go (fun _ => XS.iloadN Xc109_10.here hx rfl (hb hby at_117) rfl) ?_
    show Runs p e below s _ _ _ (Tc109_10.setTop (mkF m 118 #[.val (.int v0), .val (.int v1), .val (.int x2), .val (.int x3), .val (.ref w_a), .val (.int (F3 (0 : Int32) (0 : Int32))), .val (.int (x0 &&& (3 : Int32))), .val (.int v7), .val (.int (F3 w_hd w_tl)), .unset] [(.int x3), (.int x2), (.ref w_a)]))
    have hz118 : n0 ≤ Tc109_10.heap.size := Nat.le_trans Gc109_10.2.1 (Nat.le_of_lt Gc109_10.1.lt)
    obtain ⟨cqc118_11, kqc118_11, qc118_11a, qc118_11b, qc118_11c⟩ := isOf hZ rfl Gc109_10.1
    obtain ⟨_, _, ⟨Tc118_11, Lc118_11, kc118_11, nc118_11⟩, -, Xc118_11, ⟨Lcc118_11, hQc118_11, lc118_11, yc118_11, zc118_11⟩, stc118_11⟩ := Xc109_10.virtualBack hx (y := (⟨"com/example/ontology_reasoner/ontologyreasoner/engine/Agenda", "restore", "(II)V"⟩ : MethodName)) (z := (⟨"com/example/ontology_reasoner/ontologyreasoner/engine/Agenda", "restore", "(II)V"⟩ : MethodName)) hown (mvT hZ (hw _ (List.mem_of_getElem? (i := 25) rfl))) (mvT hZ (hw _ (List.mem_of_getElem? (i := 26) rfl))) (notFace_of_selects (args := #[]) (mvT hZ (hw _ (List.mem_of_getElem? (i := 28) rfl)))) (mvT hZ (hw _ (List.mem_of_getElem? (i := 28) rfl))) (mvT hZ (hw _ (List.mem_of_getElem? (i := 27) rfl))) (by decide) (backOf (W := 0) (rm4 l Z a0 hw [] w_a x2 x3 w_hd w_tl w_l Tc109_10.heap n0 hz118 Gc109_10 ) hZ (hw _ (List.mem_of_getElem? (i := 29) rfl)) (hw _ (List.mem_of_getElem? (i := 2) rfl)) (by decide) (by decide)) qc118_11a qc118_11c (g := (mkF m 118 #[.val (.int v0), .val (.int v1), .val (.int x2), .val (.int x3), .val (.ref w_a), .val (.int (F3 (0 : Int32) (0 : Int32))), .val (.int (x0 &&& (3 : Int32))), .val (.int v7), .val (.int (F3 w_hd w_tl)), .unset] [(.int x3), (.int x2), (.ref w_a)])) rfl (by rw [hml]; rfl) (Steps.refl _) (argsL := [(.int x2), (.int x3)]) (rest := []) (lenOf pd_2 rfl) rfl (by show 2 * 0 + _ ≤ _; exact Nat.le_of_eq rfl) (hb hby at_118) (fun _ _ => ⟨rfl, rfl, (by decide : 3 + 0 ≤ _), (by decide : 132 + 0 ≤ _)⟩)
    dsimp only [Pt.U, Pt.locs, Pt.cells, Pt.slots] at Xc118_11 lc118_11 yc118_11 zc118_11 stc118_11 hQc118_11
    subst lc118_11 yc118_11 zc118_11
    obtain ⟨rfl, Nc118_11q, Gc118_11⟩ := hQc118_11
    refine Runs.go (fun _ => stc118_11.trans) ?_
    have Nc118_11 := Fr.app Nc109_10 Nc118_11q
    show Runs p e below s _ _ _ (Tc118_11.setTop (mkF m 121 #[.val (.int v0), .val (.int v1), .val (.int x2), .val (.int x3), .val (.ref w_a), .val (.int (F3 (0 : Int32) (0 : Int32))), .val (.int (x0 &&& (3 : Int32))), .val (.int v7), .val (.int (F3 w_hd w_tl)), .unset] []))
    refine Runs.go (fun _ => XS.aload Xc118_11.here hx rfl (hb hby at_121) rfl rfl) ?_
    show Runs p e below s _ _ _ (Tc118_11.setTop (mkF m 123 #[.val (.int v0), .val (.int v1), .val (.int x2), .val (.int x3), .val (.ref w_a), .val (.int (F3 (0 : Int32) (0 : Int32))), .val (.int (x0 &&& (3 : Int32))), .val (.int v7), .val (.int (F3 w_hd w_tl)), .unset] [(.ref w_a)]))
    have hz123 : n0 ≤ Tc118_11.heap.size := Nat.le_trans Gc118_11.2.1 (Nat.le_of_lt Gc118_11.1.lt)
    obtain ⟨cqc123_12, kqc123_12, qc123_12a, qc123_12b, qc123_12c⟩ := isOf hZ rfl Gc118_11.1
    obtain ⟨_, _, ⟨Tc123_12, Lc123_12, kc123_12, nc123_12⟩, -, Xc123_12, ⟨Lcc123_12, hQc123_12, lc123_12, yc123_12, zc123_12⟩, stc123_12⟩ := Xc118_11.virtualBack hx (y := (⟨"com/example/ontology_reasoner/ontologyreasoner/engine/Agenda", "isEmpty", "()Z"⟩ : MethodName)) (z := (⟨"com/example/ontology_reasoner/ontologyreasoner/engine/Agenda", "isEmpty", "()Z"⟩ : MethodName)) hown (mvT hZ (hw _ (List.mem_of_getElem? (i := 16) rfl))) (mvT hZ (hw _ (List.mem_of_getElem? (i := 17) rfl))) (notFace_of_selects (args := #[]) (mvT hZ (hw _ (List.mem_of_getElem? (i := 19) rfl)))) (mvT hZ (hw _ (List.mem_of_getElem? (i := 19) rfl))) (mvT hZ (hw _ (List.mem_of_getElem? (i := 18) rfl))) (by decide) (backOf (W := 0) (rm3 l Z a0 hw [] w_a x2 x3 w_l Tc118_11.heap n0 hz123 Gc118_11 ) hZ (hw _ (List.mem_of_getElem? (i := 20) rfl)) (hw _ (List.mem_of_getElem? (i := 2) rfl)) (by decide) (by decide)) qc123_12a qc123_12c (g := (mkF m 123 #[.val (.int v0), .val (.int v1), .val (.int x2), .val (.int x3), .val (.ref w_a), .val (.int (F3 (0 : Int32) (0 : Int32))), .val (.int (x0 &&& (3 : Int32))), .val (.int v7), .val (.int (F3 w_hd w_tl)), .unset] [(.ref w_a)])) rfl (by rw [hml]; rfl) (Steps.refl _) (argsL := []) (rest := []) (lenOf pd_1 rfl) rfl (by show 2 * 0 + _ ≤ _; exact Nat.le_of_eq rfl) (hb hby at_123) (fun _ _ => ⟨rfl, rfl, (by decide : 3 + 0 ≤ _), (by decide : 132 + 0 ≤ _)⟩)
    dsimp only [Pt.U, Pt.locs, Pt.cells, Pt.slots] at Xc123_12 lc123_12 yc123_12 zc123_12 stc123_12 hQc123_12
    subst lc123_12 yc123_12 zc123_12
    obtain ⟨rfl, Nc123_12q, Gc123_12⟩ := hQc123_12
    refine Runs.go (fun _ => stc123_12.trans) ?_
    have Nc123_12 := Fr.app Nc118_11 Nc123_12q
    show Runs p e below s _ _ _ (Tc123_12.setTop (mkF m 126 #[.val (.int v0), .val (.int v1), .val (.int x2), .val (.int x3), .val (.ref w_a), .val (.int (F3 (0 : Int32) (0 : Int32))), .val (.int (x0 &&& (3 : Int32))), .val (.int v7), .val (.int (F3 w_hd w_tl)), .unset] [(.int (F3 x2 x3))]))
    refine Runs.go (fun _ => XS.istore Xc123_12.here hx rfl (hb hby at_126) rfl (l' := #[.val (.int v0), .val (.int v1), .val (.int x2), .val (.int x3), .val (.ref w_a), .val (.int (F3 (0 : Int32) (0 : Int32))), .val (.int (x0 &&& (3 : Int32))), .val (.int v7), .val (.int (F3 w_hd w_tl)), .val (.int (F3 x2 x3))]) rfl) ?_
    show Runs p e below s _ _ _ (Tc123_12.setTop (mkF m 128 #[.val (.int v0), .val (.int v1), .val (.int x2), .val (.int x3), .val (.ref w_a), .val (.int (F3 (0 : Int32) (0 : Int32))), .val (.int (x0 &&& (3 : Int32))), .val (.int v7), .val (.int (F3 w_hd w_tl)), .val (.int (F3 x2 x3))] []))
    refine Runs.go (fun _ => XS.iload Xc123_12.here hx rfl (hb hby at_128) rfl) ?_
    show Runs p e below s _ _ _ (Tc123_12.setTop (mkF m 130 #[.val (.int v0), .val (.int v1), .val (.int x2), .val (.int x3), .val (.ref w_a), .val (.int (F3 (0 : Int32) (0 : Int32))), .val (.int (x0 &&& (3 : Int32))), .val (.int v7), .val (.int (F3 w_hd w_tl)), .val (.int (F3 x2 x3))] [(.int (F3 (0 : Int32) (0 : Int32)))]))
    by_cases hc130 : (F3 (0 : Int32) (0 : Int32)) = (0 : Int32)
    · have hv := (if_pos hc130).symm.trans hv
      refine Runs.go (fun _ => XS.ifYes Xc123_12.here hx rfl (pc0 := 130) (pc' := 169) rfl (hb hby at_130) rfl ((if0 _ _).trans (teq hc130).1) (by decide) (by decide)) ?_
      show Runs p e below s _ _ _ (Tc123_12.setTop (mkF m 169 #[.val (.int v0), .val (.int v1), .val (.int x2), .val (.int x3), .val (.ref w_a), .val (.int (F3 (0 : Int32) (0 : Int32))), .val (.int (x0 &&& (3 : Int32))), .val (.int v7), .val (.int (F3 w_hd w_tl)), .val (.int (F3 x2 x3))] []))
      exact k_169 _ _ _ Xc123_12 rfl Nc123_12 w_a w_l v0 v1 x2 x3 (F3 (0 : Int32) (0 : Int32)) (x0 &&& (3 : Int32)) v7 (F3 w_hd w_tl) (F3 x2 x3) Gc123_12 hv
    · have hv := (if_neg hc130).symm.trans hv
      refine Runs.go (fun _ => XS.ifNo Xc123_12.here hx rfl (hb hby at_130) rfl ((if0 _ _).trans (feq hc130).1)) ?_
      show Runs p e below s _ _ _ (Tc123_12.setTop (mkF m 133 #[.val (.int v0), .val (.int v1), .val (.int x2), .val (.int x3), .val (.ref w_a), .val (.int (F3 (0 : Int32) (0 : Int32))), .val (.int (x0 &&& (3 : Int32))), .val (.int v7), .val (.int (F3 w_hd w_tl)), .val (.int (F3 x2 x3))] []))
      refine Runs.go (fun _ => XS.iload Xc123_12.here hx rfl (hb hby at_133) rfl) ?_
      show Runs p e below s _ _ _ (Tc123_12.setTop (mkF m 135 #[.val (.int v0), .val (.int v1), .val (.int x2), .val (.int x3), .val (.ref w_a), .val (.int (F3 (0 : Int32) (0 : Int32))), .val (.int (x0 &&& (3 : Int32))), .val (.int v7), .val (.int (F3 w_hd w_tl)), .val (.int (F3 x2 x3))] [(.int (F3 w_hd w_tl))]))
      refine Runs.go (fun _ => XS.iload Xc123_12.here hx rfl (hb hby at_135) rfl) ?_
      show Runs p e below s _ _ _ (Tc123_12.setTop (mkF m 137 #[.val (.int v0), .val (.int v1), .val (.int x2), .val (.int x3), .val (.ref w_a), .val (.int (F3 (0 : Int32) (0 : Int32))), .val (.int (x0 &&& (3 : Int32))), .val (.int v7), .val (.int (F3 w_hd w_tl)), .val (.int (F3 x2 x3))] [(.int v7), (.int (F3 w_hd w_tl))]))
      refine Runs.go (fun _ => XS.iload Xc123_12.here hx rfl (hb hby at_137) rfl) ?_
      show Runs p e below s _ _ _ (Tc123_12.setTop (mkF m 139 #[.val (.int v0), .val (.int v1), .val (.int x2), .val (.int x3), .val (.ref w_a), .val (.int (F3 (0 : Int32) (0 : Int32))), .val (.int (x0 &&& (3 : Int32))), .val (.int v7), .val (.int (F3 w_hd w_tl)), .val (.int (F3 x2 x3))] [(.int (x0 &&& (3 : Int32))), (.int v7), (.int (F3 w_hd w_tl))]))
      by_cases hc139 : v7 = (x0 &&& (3 : Int32))
      · have hv := (if_pos hc139).symm.trans hv
        refine Runs.go (fun _ => XS.icmpNo Xc123_12.here hx rfl (hb hby at_139) rfl (teq hc139).2) ?_
        show Runs p e below s _ _ _ (Tc123_12.setTop (mkF m 142 #[.val (.int v0), .val (.int v1), .val (.int x2), .val (.int x3), .val (.ref w_a), .val (.int (F3 (0 : Int32) (0 : Int32))), .val (.int (x0 &&& (3 : Int32))), .val (.int v7), .val (.int (F3 w_hd w_tl)), .val (.int (F3 x2 x3))] [(.int (F3 w_hd w_tl))]))
        refine Runs.go (fun _ => XS.iconst Xc123_12.here hx rfl (hb hby at_142)) ?_
        show Runs p e below s _ _ _ (Tc123_12.setTop (mkF m 143 #[.val (.int v0), .val (.int v1), .val (.int x2), .val (.int x3), .val (.ref w_a), .val (.int (F3 (0 : Int32) (0 : Int32))), .val (.int (x0 &&& (3 : Int32))), .val (.int v7), .val (.int (F3 w_hd w_tl)), .val (.int (F3 x2 x3))] [(.int (1 : Int32)), (.int (F3 w_hd w_tl))]))
        refine Runs.go (fun _ => XS.goto Xc123_12.here hx rfl (pc0 := 143) (pc' := 147) rfl (hb hby at_143) (by decide) (by decide)) ?_
        show Runs p e below s _ _ _ (Tc123_12.setTop (mkF m 147 #[.val (.int v0), .val (.int v1), .val (.int x2), .val (.int x3), .val (.ref w_a), .val (.int (F3 (0 : Int32) (0 : Int32))), .val (.int (x0 &&& (3 : Int32))), .val (.int v7), .val (.int (F3 w_hd w_tl)), .val (.int (F3 x2 x3))] [(.int (1 : Int32)), (.int (F3 w_hd w_tl))]))
        exact k_147 _ _ _ Xc123_12 rfl Nc123_12 w_a w_l v0 v1 (F3 (0 : Int32) (0 : Int32)) (x0 &&& (3 : Int32)) v7 (F3 w_hd w_tl) (1 : Int32) (F3 w_hd w_tl) Gc123_12 hv
      · have hv := (if_neg hc139).symm.trans hv
        refine Runs.go (fun _ => XS.icmpYes Xc123_12.here hx rfl (pc0 := 139) (pc' := 146) rfl (hb hby at_139) rfl (feq hc139).2 (by decide) (by decide)) ?_
        show Runs p e below s _ _ _ (Tc123_12.setTop (mkF m 146 #[.val (.int v0), .val (.int v1), .val (.int x2), .val (.int x3), .val (.ref w_a), .val (.int (F3 (0 : Int32) (0 : Int32))), .val (.int (x0 &&& (3 : Int32))), .val (.int v7), .val (.int (F3 w_hd w_tl)), .val (.int (F3 x2 x3))] [(.int (F3 w_hd w_tl))]))
        refine Runs.go (fun _ => XS.iconst Xc123_12.here hx rfl (hb hby at_146)) ?_
        show Runs p e below s _ _ _ (Tc123_12.setTop (mkF m 147 #[.val (.int v0), .val (.int v1), .val (.int x2), .val (.int x3), .val (.ref w_a), .val (.int (F3 (0 : Int32) (0 : Int32))), .val (.int (x0 &&& (3 : Int32))), .val (.int v7), .val (.int (F3 w_hd w_tl)), .val (.int (F3 x2 x3))] [(.int (0 : Int32)), (.int (F3 w_hd w_tl))]))
        exact k_147 _ _ _ Xc123_12 rfl Nc123_12 w_a w_l v0 v1 (F3 (0 : Int32) (0 : Int32)) (x0 &&& (3 : Int32)) v7 (F3 w_hd w_tl) (0 : Int32) (F3 w_hd w_tl) Gc123_12 hv
  have k_96 : ∀ (T : State) (locs : List Loc) (h : Heap) (X : Stand p l e room_1 s m #[(.int x0), (.int x1), (.int x2), (.int x3)] below meth c T locs 3 132) (eT : T.heap = h) (N : Fr n0 locs) (w_a : Addr) (w_hd : Int32) (w_tl : Int32) (w_l : List Int32) (v0 : Int32) (v1 : Int32) (v7 : Int32) (G_AG : AG Z h n0 w_a w_hd w_tl w_l), f0_96 x0 x1 x2 x3 w_hd w_tl v7 = r → Runs p e below s (QH (.int r) n0) room_1.cells room_1.slots (T.setTop (mkF m 96 #[.val (.int v0), .val (.int v1), .val (.int x2), .val (.int x3), .val (.ref w_a), .val (.int (F3 (0 : Int32) (0 : Int32))), .val (.int (x0 &&& (3 : Int32))), .val (.int v7), .unset, .unset] [])) := by
    intro T locs h X eT N w_a w_hd w_tl w_l v0 v1 v7 G_AG hv
    unfold f0_96 at hv
    refine Runs.go (fun _ => XS.iload X.here hx rfl (hb hby at_96) rfl) ?_
    show Runs p e below s _ _ _ (T.setTop (mkF m 98 #[.val (.int v0), .val (.int v1), .val (.int x2), .val (.int x3), .val (.ref w_a), .val (.int (F3 (0 : Int32) (0 : Int32))), .val (.int (x0 &&& (3 : Int32))), .val (.int v7), .unset, .unset] [(.int v7)]))
    refine Runs.go (fun _ => XS.iconst X.here hx rfl (hb hby at_98)) ?_
    show Runs p e below s _ _ _ (T.setTop (mkF m 99 #[.val (.int v0), .val (.int v1), .val (.int x2), .val (.int x3), .val (.ref w_a), .val (.int (F3 (0 : Int32) (0 : Int32))), .val (.int (x0 &&& (3 : Int32))), .val (.int v7), .unset, .unset] [(.int (2 : Int32)), (.int v7)]))
    by_cases hc99 : (2 : Int32) < v7
    · have hv := (if_pos hc99).symm.trans hv
      refine Runs.go (fun _ => XS.icmpNo X.here hx rfl (hb hby at_99) rfl (tlt hc99).2.2.2) ?_
      show Runs p e below s _ _ _ (T.setTop (mkF m 102 #[.val (.int v0), .val (.int v1), .val (.int x2), .val (.int x3), .val (.ref w_a), .val (.int (F3 (0 : Int32) (0 : Int32))), .val (.int (x0 &&& (3 : Int32))), .val (.int v7), .unset, .unset] []))
      refine Runs.go (fun _ => XS.aload X.here hx rfl (hb hby at_102) rfl rfl) ?_
      show Runs p e below s _ _ _ (T.setTop (mkF m 104 #[.val (.int v0), .val (.int v1), .val (.int x2), .val (.int x3), .val (.ref w_a), .val (.int (F3 (0 : Int32) (0 : Int32))), .val (.int (x0 &&& (3 : Int32))), .val (.int v7), .unset, .unset] [(.ref w_a)]))
      have hz104 : n0 ≤ h.size := Nat.le_trans G_AG.2.1 (Nat.le_of_lt G_AG.1.lt)
      obtain ⟨cqc104_9, kqc104_9, qc104_9a, qc104_9b, qc104_9c⟩ := isOf hZ eT G_AG.1
      obtain ⟨_, _, ⟨Tc104_9, Lc104_9, kc104_9, nc104_9⟩, -, Xc104_9, ⟨Lcc104_9, hQc104_9, lc104_9, yc104_9, zc104_9⟩, stc104_9⟩ := X.virtualBack hx (y := (⟨"com/example/ontology_reasoner/ontologyreasoner/engine/Agenda", "pop", "()V"⟩ : MethodName)) (z := (⟨"com/example/ontology_reasoner/ontologyreasoner/engine/Agenda", "pop", "()V"⟩ : MethodName)) hown (mvT hZ (hw _ (List.mem_of_getElem? (i := 35) rfl))) (mvT hZ (hw _ (List.mem_of_getElem? (i := 36) rfl))) (notFace_of_selects (args := #[]) (mvT hZ (hw _ (List.mem_of_getElem? (i := 38) rfl)))) (mvT hZ (hw _ (List.mem_of_getElem? (i := 38) rfl))) (mvT hZ (hw _ (List.mem_of_getElem? (i := 37) rfl))) (by decide) (backOf (W := 0) (rm6 l Z a0 hw [] w_a w_hd w_tl w_l h n0 hz104 G_AG ) hZ (hw _ (List.mem_of_getElem? (i := 39) rfl)) (hw _ (List.mem_of_getElem? (i := 2) rfl)) (by decide) (by decide)) qc104_9a qc104_9c (g := (mkF m 104 #[.val (.int v0), .val (.int v1), .val (.int x2), .val (.int x3), .val (.ref w_a), .val (.int (F3 (0 : Int32) (0 : Int32))), .val (.int (x0 &&& (3 : Int32))), .val (.int v7), .unset, .unset] [(.ref w_a)])) rfl (by rw [hml]; rfl) (Steps.refl _) (argsL := []) (rest := []) (lenOf pd_0 rfl) rfl (by show 2 * 0 + _ ≤ _; exact Nat.le_of_eq rfl) (hb hby at_104) (fun _ _ => ⟨rfl, eT, (by decide : 3 + 0 ≤ _), (by decide : 132 + 0 ≤ _)⟩)
      dsimp only [Pt.U, Pt.locs, Pt.cells, Pt.slots] at Xc104_9 lc104_9 yc104_9 zc104_9 stc104_9 hQc104_9
      subst lc104_9 yc104_9 zc104_9
      obtain ⟨rfl, Nc104_9q, Gc104_9⟩ := hQc104_9
      refine Runs.go (fun _ => stc104_9.trans) ?_
      have Nc104_9 := Fr.app N Nc104_9q
      show Runs p e below s _ _ _ (Tc104_9.setTop (mkF m 107 #[.val (.int v0), .val (.int v1), .val (.int x2), .val (.int x3), .val (.ref w_a), .val (.int (F3 (0 : Int32) (0 : Int32))), .val (.int (x0 &&& (3 : Int32))), .val (.int v7), .unset, .unset] []))
      exact k_107 _ _ _ Xc104_9 rfl Nc104_9 w_a (w_hd + (1 : Int32)) w_tl w_l v0 v1 v7 Gc104_9 hv
    · have hv := (if_neg hc99).symm.trans hv
      refine Runs.go (fun _ => XS.icmpYes X.here hx rfl (pc0 := 99) (pc' := 107) rfl (hb hby at_99) rfl (flt hc99).2.2.2 (by decide) (by decide)) ?_
      show Runs p e below s _ _ _ (T.setTop (mkF m 107 #[.val (.int v0), .val (.int v1), .val (.int x2), .val (.int x3), .val (.ref w_a), .val (.int (F3 (0 : Int32) (0 : Int32))), .val (.int (x0 &&& (3 : Int32))), .val (.int v7), .unset, .unset] []))
      exact k_107 _ _ _ X eT N w_a w_hd w_tl w_l v0 v1 v7 G_AG hv
  have k_85 : ∀ (T : State) (locs : List Loc) (h : Heap) (X : Stand p l e room_1 s m #[(.int x0), (.int x1), (.int x2), (.int x3)] below meth c T locs 3 132) (eT : T.heap = h) (N : Fr n0 locs) (w_a : Addr) (w_hd : Int32) (w_tl : Int32) (w_l : List Int32) (v0 : Int32) (v1 : Int32) (v7 : Int32) (G_AG : AG Z h n0 w_a w_hd w_tl w_l), f0_85 x0 x1 x2 x3 w_hd w_tl v7 = r → Runs p e below s (QH (.int r) n0) room_1.cells room_1.slots (T.setTop (mkF m 85 #[.val (.int v0), .val (.int v1), .val (.int x2), .val (.int x3), .val (.ref w_a), .val (.int (F3 (0 : Int32) (0 : Int32))), .val (.int (x0 &&& (3 : Int32))), .val (.int v7), .unset, .unset] [])) := by
    intro T locs h X eT N w_a w_hd w_tl w_l v0 v1 v7 G_AG hv
    unfold f0_85 at hv
    refine Runs.go (fun _ => XS.iload X.here hx rfl (hb hby at_85) rfl) ?_
    show Runs p e below s _ _ _ (T.setTop (mkF m 87 #[.val (.int v0), .val (.int v1), .val (.int x2), .val (.int x3), .val (.ref w_a), .val (.int (F3 (0 : Int32) (0 : Int32))), .val (.int (x0 &&& (3 : Int32))), .val (.int v7), .unset, .unset] [(.int v7)]))
    refine Runs.go (fun _ => XS.iconst X.here hx rfl (hb hby at_87)) ?_
    show Runs p e below s _ _ _ (T.setTop (mkF m 88 #[.val (.int v0), .val (.int v1), .val (.int x2), .val (.int x3), .val (.ref w_a), .val (.int (F3 (0 : Int32) (0 : Int32))), .val (.int (x0 &&& (3 : Int32))), .val (.int v7), .unset, .unset] [(.int (1 : Int32)), (.int v7)]))
    by_cases hc88 : (1 : Int32) < v7
    · have hv := (if_pos hc88).symm.trans hv
      refine Runs.go (fun _ => XS.icmpNo X.here hx rfl (hb hby at_88) rfl (tlt hc88).2.2.2) ?_
      show Runs p e below s _ _ _ (T.setTop (mkF m 91 #[.val (.int v0), .val (.int v1), .val (.int x2), .val (.int x3), .val (.ref w_a), .val (.int (F3 (0 : Int32) (0 : Int32))), .val (.int (x0 &&& (3 : Int32))), .val (.int v7), .unset, .unset] []))
      refine Runs.go (fun _ => XS.aload X.here hx rfl (hb hby at_91) rfl rfl) ?_
      show Runs p e below s _ _ _ (T.setTop (mkF m 93 #[.val (.int v0), .val (.int v1), .val (.int x2), .val (.int x3), .val (.ref w_a), .val (.int (F3 (0 : Int32) (0 : Int32))), .val (.int (x0 &&& (3 : Int32))), .val (.int v7), .unset, .unset] [(.ref w_a)]))
      have hz93 : n0 ≤ h.size := Nat.le_trans G_AG.2.1 (Nat.le_of_lt G_AG.1.lt)
      obtain ⟨cqc93_8, kqc93_8, qc93_8a, qc93_8b, qc93_8c⟩ := isOf hZ eT G_AG.1
      obtain ⟨_, _, ⟨Tc93_8, Lc93_8, kc93_8, nc93_8⟩, -, Xc93_8, ⟨Lcc93_8, hQc93_8, lc93_8, yc93_8, zc93_8⟩, stc93_8⟩ := X.virtualBack hx (y := (⟨"com/example/ontology_reasoner/ontologyreasoner/engine/Agenda", "pop", "()V"⟩ : MethodName)) (z := (⟨"com/example/ontology_reasoner/ontologyreasoner/engine/Agenda", "pop", "()V"⟩ : MethodName)) hown (mvT hZ (hw _ (List.mem_of_getElem? (i := 35) rfl))) (mvT hZ (hw _ (List.mem_of_getElem? (i := 36) rfl))) (notFace_of_selects (args := #[]) (mvT hZ (hw _ (List.mem_of_getElem? (i := 38) rfl)))) (mvT hZ (hw _ (List.mem_of_getElem? (i := 38) rfl))) (mvT hZ (hw _ (List.mem_of_getElem? (i := 37) rfl))) (by decide) (backOf (W := 0) (rm6 l Z a0 hw [] w_a w_hd w_tl w_l h n0 hz93 G_AG ) hZ (hw _ (List.mem_of_getElem? (i := 39) rfl)) (hw _ (List.mem_of_getElem? (i := 2) rfl)) (by decide) (by decide)) qc93_8a qc93_8c (g := (mkF m 93 #[.val (.int v0), .val (.int v1), .val (.int x2), .val (.int x3), .val (.ref w_a), .val (.int (F3 (0 : Int32) (0 : Int32))), .val (.int (x0 &&& (3 : Int32))), .val (.int v7), .unset, .unset] [(.ref w_a)])) rfl (by rw [hml]; rfl) (Steps.refl _) (argsL := []) (rest := []) (lenOf pd_0 rfl) rfl (by show 2 * 0 + _ ≤ _; exact Nat.le_of_eq rfl) (hb hby at_93) (fun _ _ => ⟨rfl, eT, (by decide : 3 + 0 ≤ _), (by decide : 132 + 0 ≤ _)⟩)
      dsimp only [Pt.U, Pt.locs, Pt.cells, Pt.slots] at Xc93_8 lc93_8 yc93_8 zc93_8 stc93_8 hQc93_8
      subst lc93_8 yc93_8 zc93_8
      obtain ⟨rfl, Nc93_8q, Gc93_8⟩ := hQc93_8
      refine Runs.go (fun _ => stc93_8.trans) ?_
      have Nc93_8 := Fr.app N Nc93_8q
      show Runs p e below s _ _ _ (Tc93_8.setTop (mkF m 96 #[.val (.int v0), .val (.int v1), .val (.int x2), .val (.int x3), .val (.ref w_a), .val (.int (F3 (0 : Int32) (0 : Int32))), .val (.int (x0 &&& (3 : Int32))), .val (.int v7), .unset, .unset] []))
      exact k_96 _ _ _ Xc93_8 rfl Nc93_8 w_a (w_hd + (1 : Int32)) w_tl w_l v0 v1 v7 Gc93_8 hv
    · have hv := (if_neg hc88).symm.trans hv
      refine Runs.go (fun _ => XS.icmpYes X.here hx rfl (pc0 := 88) (pc' := 96) rfl (hb hby at_88) rfl (flt hc88).2.2.2 (by decide) (by decide)) ?_
      show Runs p e below s _ _ _ (T.setTop (mkF m 96 #[.val (.int v0), .val (.int v1), .val (.int x2), .val (.int x3), .val (.ref w_a), .val (.int (F3 (0 : Int32) (0 : Int32))), .val (.int (x0 &&& (3 : Int32))), .val (.int v7), .unset, .unset] []))
      exact k_96 _ _ _ X eT N w_a w_hd w_tl w_l v0 v1 v7 G_AG hv
  have k_75 : ∀ (T : State) (locs : List Loc) (h : Heap) (X : Stand p l e room_1 s m #[(.int x0), (.int x1), (.int x2), (.int x3)] below meth c T locs 3 132) (eT : T.heap = h) (N : Fr n0 locs) (w_a : Addr) (w_tl : Int32) (w_l : List Int32) (v0 : Int32) (v1 : Int32) (v7 : Int32) (G_AG : AG Z h n0 w_a (0 : Int32) w_tl w_l) (hI : TB 3 w_tl w_l), f0_75 x0 x1 x2 x3 w_tl v7 = r → Runs p e below s (QH (.int r) n0) room_1.cells room_1.slots (T.setTop (mkF m 75 #[.val (.int v0), .val (.int v1), .val (.int x2), .val (.int x3), .val (.ref w_a), .val (.int (F3 (0 : Int32) (0 : Int32))), .val (.int (x0 &&& (3 : Int32))), .val (.int v7), .unset, .unset] [])) := by
    intro T locs h X eT N w_a w_tl w_l v0 v1 v7 G_AG hI hv
    unfold f0_75 at hv
    refine Runs.go (fun _ => XS.iload X.here hx rfl (hb hby at_75) rfl) ?_
    show Runs p e below s _ _ _ (T.setTop (mkF m 77 #[.val (.int v0), .val (.int v1), .val (.int x2), .val (.int x3), .val (.ref w_a), .val (.int (F3 (0 : Int32) (0 : Int32))), .val (.int (x0 &&& (3 : Int32))), .val (.int v7), .unset, .unset] [(.int v7)]))
    by_cases hc77 : (0 : Int32) < v7
    · have hv := (if_pos hc77).symm.trans hv
      refine Runs.go (fun _ => XS.ifNo X.here hx rfl (hb hby at_77) rfl ((if0 _ _).trans (tlt hc77).2.2.2)) ?_
      show Runs p e below s _ _ _ (T.setTop (mkF m 80 #[.val (.int v0), .val (.int v1), .val (.int x2), .val (.int x3), .val (.ref w_a), .val (.int (F3 (0 : Int32) (0 : Int32))), .val (.int (x0 &&& (3 : Int32))), .val (.int v7), .unset, .unset] []))
      refine Runs.go (fun _ => XS.aload X.here hx rfl (hb hby at_80) rfl rfl) ?_
      show Runs p e below s _ _ _ (T.setTop (mkF m 82 #[.val (.int v0), .val (.int v1), .val (.int x2), .val (.int x3), .val (.ref w_a), .val (.int (F3 (0 : Int32) (0 : Int32))), .val (.int (x0 &&& (3 : Int32))), .val (.int v7), .unset, .unset] [(.ref w_a)]))
      have hz82 : n0 ≤ h.size := Nat.le_trans G_AG.2.1 (Nat.le_of_lt G_AG.1.lt)
      obtain ⟨cqc82_7, kqc82_7, qc82_7a, qc82_7b, qc82_7c⟩ := isOf hZ eT G_AG.1
      obtain ⟨_, _, ⟨Tc82_7, Lc82_7, kc82_7, nc82_7⟩, -, Xc82_7, ⟨Lcc82_7, hQc82_7, lc82_7, yc82_7, zc82_7⟩, stc82_7⟩ := X.virtualBack hx (y := (⟨"com/example/ontology_reasoner/ontologyreasoner/engine/Agenda", "pop", "()V"⟩ : MethodName)) (z := (⟨"com/example/ontology_reasoner/ontologyreasoner/engine/Agenda", "pop", "()V"⟩ : MethodName)) hown (mvT hZ (hw _ (List.mem_of_getElem? (i := 35) rfl))) (mvT hZ (hw _ (List.mem_of_getElem? (i := 36) rfl))) (notFace_of_selects (args := #[]) (mvT hZ (hw _ (List.mem_of_getElem? (i := 38) rfl)))) (mvT hZ (hw _ (List.mem_of_getElem? (i := 38) rfl))) (mvT hZ (hw _ (List.mem_of_getElem? (i := 37) rfl))) (by decide) (backOf (W := 0) (rm6 l Z a0 hw [] w_a (0 : Int32) w_tl w_l h n0 hz82 G_AG ) hZ (hw _ (List.mem_of_getElem? (i := 39) rfl)) (hw _ (List.mem_of_getElem? (i := 2) rfl)) (by decide) (by decide)) qc82_7a qc82_7c (g := (mkF m 82 #[.val (.int v0), .val (.int v1), .val (.int x2), .val (.int x3), .val (.ref w_a), .val (.int (F3 (0 : Int32) (0 : Int32))), .val (.int (x0 &&& (3 : Int32))), .val (.int v7), .unset, .unset] [(.ref w_a)])) rfl (by rw [hml]; rfl) (Steps.refl _) (argsL := []) (rest := []) (lenOf pd_0 rfl) rfl (by show 2 * 0 + _ ≤ _; exact Nat.le_of_eq rfl) (hb hby at_82) (fun _ _ => ⟨rfl, eT, (by decide : 3 + 0 ≤ _), (by decide : 132 + 0 ≤ _)⟩)
      dsimp only [Pt.U, Pt.locs, Pt.cells, Pt.slots] at Xc82_7 lc82_7 yc82_7 zc82_7 stc82_7 hQc82_7
      subst lc82_7 yc82_7 zc82_7
      obtain ⟨rfl, Nc82_7q, Gc82_7⟩ := hQc82_7
      refine Runs.go (fun _ => stc82_7.trans) ?_
      have Nc82_7 := Fr.app N Nc82_7q
      show Runs p e below s _ _ _ (Tc82_7.setTop (mkF m 85 #[.val (.int v0), .val (.int v1), .val (.int x2), .val (.int x3), .val (.ref w_a), .val (.int (F3 (0 : Int32) (0 : Int32))), .val (.int (x0 &&& (3 : Int32))), .val (.int v7), .unset, .unset] []))
      exact k_85 _ _ _ Xc82_7 rfl Nc82_7 w_a ((0 : Int32) + (1 : Int32)) w_tl w_l v0 v1 v7 Gc82_7 hv
    · have hv := (if_neg hc77).symm.trans hv
      refine Runs.go (fun _ => XS.ifYes X.here hx rfl (pc0 := 77) (pc' := 85) rfl (hb hby at_77) rfl ((if0 _ _).trans (flt hc77).2.2.2) (by decide) (by decide)) ?_
      show Runs p e below s _ _ _ (T.setTop (mkF m 85 #[.val (.int v0), .val (.int v1), .val (.int x2), .val (.int x3), .val (.ref w_a), .val (.int (F3 (0 : Int32) (0 : Int32))), .val (.int (x0 &&& (3 : Int32))), .val (.int v7), .unset, .unset] []))
      exact k_85 _ _ _ X eT N w_a (0 : Int32) w_tl w_l v0 v1 v7 G_AG hv
  have k_62 : ∀ (T : State) (locs : List Loc) (h : Heap) (X : Stand p l e room_1 s m #[(.int x0), (.int x1), (.int x2), (.int x3)] below meth c T locs 3 132) (eT : T.heap = h) (N : Fr n0 locs) (w_a : Addr) (w_tl : Int32) (w_l : List Int32) (v0 : Int32) (v1 : Int32) (v7 : Int32) (G_AG : AG Z h n0 w_a (0 : Int32) w_tl w_l) (hI : TB 2 w_tl w_l), f0_62 x0 x1 x2 x3 w_tl v7 = r → Runs p e below s (QH (.int r) n0) room_1.cells room_1.slots (T.setTop (mkF m 62 #[.val (.int v0), .val (.int v1), .val (.int x2), .val (.int x3), .val (.ref w_a), .val (.int (F3 (0 : Int32) (0 : Int32))), .val (.int (x0 &&& (3 : Int32))), .val (.int v7), .unset, .unset] [])) := by
    intro T locs h X eT N w_a w_tl w_l v0 v1 v7 G_AG hI hv
    unfold f0_62 at hv
    refine Runs.go (fun _ => XS.iload X.here hx rfl (hb hby at_62) rfl) ?_
    show Runs p e below s _ _ _ (T.setTop (mkF m 64 #[.val (.int v0), .val (.int v1), .val (.int x2), .val (.int x3), .val (.ref w_a), .val (.int (F3 (0 : Int32) (0 : Int32))), .val (.int (x0 &&& (3 : Int32))), .val (.int v7), .unset, .unset] [(.int (x0 &&& (3 : Int32)))]))
    refine Runs.go (fun _ => XS.iconst X.here hx rfl (hb hby at_64)) ?_
    show Runs p e below s _ _ _ (T.setTop (mkF m 65 #[.val (.int v0), .val (.int v1), .val (.int x2), .val (.int x3), .val (.ref w_a), .val (.int (F3 (0 : Int32) (0 : Int32))), .val (.int (x0 &&& (3 : Int32))), .val (.int v7), .unset, .unset] [(.int (2 : Int32)), (.int (x0 &&& (3 : Int32)))]))
    by_cases hc65 : (2 : Int32) < (x0 &&& (3 : Int32))
    · have hv := (if_pos hc65).symm.trans hv
      refine Runs.go (fun _ => XS.icmpNo X.here hx rfl (hb hby at_65) rfl (tlt hc65).2.2.2) ?_
      show Runs p e below s _ _ _ (T.setTop (mkF m 68 #[.val (.int v0), .val (.int v1), .val (.int x2), .val (.int x3), .val (.ref w_a), .val (.int (F3 (0 : Int32) (0 : Int32))), .val (.int (x0 &&& (3 : Int32))), .val (.int v7), .unset, .unset] []))
      refine Runs.go (fun _ => XS.aload X.here hx rfl (hb hby at_68) rfl rfl) ?_
      show Runs p e below s _ _ _ (T.setTop (mkF m 70 #[.val (.int v0), .val (.int v1), .val (.int x2), .val (.int x3), .val (.ref w_a), .val (.int (F3 (0 : Int32) (0 : Int32))), .val (.int (x0 &&& (3 : Int32))), .val (.int v7), .unset, .unset] [(.ref w_a)]))
      refine Runs.go (fun _ => XS.aconstNull X.here hx rfl (hb hby at_70)) ?_
      show Runs p e below s _ _ _ (T.setTop (mkF m 71 #[.val (.int v0), .val (.int v1), .val (.int x2), .val (.int x3), .val (.ref w_a), .val (.int (F3 (0 : Int32) (0 : Int32))), .val (.int (x0 &&& (3 : Int32))), .val (.int v7), .unset, .unset] [.null, (.ref w_a)]))
      refine Runs.go (fun _ => XS.iloadN X.here hx rfl (hb hby at_71) rfl) ?_
      show Runs p e below s _ _ _ (T.setTop (mkF m 72 #[.val (.int v0), .val (.int v1), .val (.int x2), .val (.int x3), .val (.ref w_a), .val (.int (F3 (0 : Int32) (0 : Int32))), .val (.int (x0 &&& (3 : Int32))), .val (.int v7), .unset, .unset] [(.int x2), .null, (.ref w_a)]))
      have hz72 : n0 ≤ h.size := Nat.le_trans G_AG.2.1 (Nat.le_of_lt G_AG.1.lt)
      obtain ⟨cqc72_6, kqc72_6, qc72_6a, qc72_6b, qc72_6c⟩ := isOf hZ eT G_AG.1
      obtain ⟨_, _, ⟨Tc72_6, Lc72_6, kc72_6, nc72_6⟩, -, Xc72_6, ⟨Lcc72_6, hQc72_6, lc72_6, yc72_6, zc72_6⟩, stc72_6⟩ := X.virtualBack hx (y := (⟨"com/example/ontology_reasoner/ontologyreasoner/engine/Agenda", "push", "(Lcom/example/ontology_reasoner/ontologyreasoner/engine/Node;I)V"⟩ : MethodName)) (z := (⟨"com/example/ontology_reasoner/ontologyreasoner/engine/Agenda", "push", "(Lcom/example/ontology_reasoner/ontologyreasoner/engine/Node;I)V"⟩ : MethodName)) hown (mvT hZ (hw _ (List.mem_of_getElem? (i := 30) rfl))) (mvT hZ (hw _ (List.mem_of_getElem? (i := 31) rfl))) (notFace_of_selects (args := #[]) (mvT hZ (hw _ (List.mem_of_getElem? (i := 33) rfl)))) (mvT hZ (hw _ (List.mem_of_getElem? (i := 33) rfl))) (mvT hZ (hw _ (List.mem_of_getElem? (i := 32) rfl))) (by decide) (backOf (W := 0) (rm5 l Z a0 hw [] w_a x2 (0 : Int32) w_tl w_l h n0 hz72 G_AG (TB.inr hI (by decide))) hZ (hw _ (List.mem_of_getElem? (i := 34) rfl)) (hw _ (List.mem_of_getElem? (i := 2) rfl)) (by decide) (by decide)) qc72_6a qc72_6c (g := (mkF m 72 #[.val (.int v0), .val (.int v1), .val (.int x2), .val (.int x3), .val (.ref w_a), .val (.int (F3 (0 : Int32) (0 : Int32))), .val (.int (x0 &&& (3 : Int32))), .val (.int v7), .unset, .unset] [(.int x2), .null, (.ref w_a)])) rfl (by rw [hml]; rfl) (Steps.refl _) (argsL := [.null, (.int x2)]) (rest := []) (lenOf pd_3 rfl) rfl (by show 2 * 0 + _ ≤ _; exact Nat.le_of_eq rfl) (hb hby at_72) (fun _ _ => ⟨rfl, eT, (by decide : 3 + 0 ≤ _), (by decide : 132 + 0 ≤ _)⟩)
      dsimp only [Pt.U, Pt.locs, Pt.cells, Pt.slots] at Xc72_6 lc72_6 yc72_6 zc72_6 stc72_6 hQc72_6
      subst lc72_6 yc72_6 zc72_6
      obtain ⟨rfl, Nc72_6q, Gc72_6⟩ := hQc72_6
      refine Runs.go (fun _ => stc72_6.trans) ?_
      have Nc72_6 := Fr.app N Nc72_6q
      show Runs p e below s _ _ _ (Tc72_6.setTop (mkF m 75 #[.val (.int v0), .val (.int v1), .val (.int x2), .val (.int x3), .val (.ref w_a), .val (.int (F3 (0 : Int32) (0 : Int32))), .val (.int (x0 &&& (3 : Int32))), .val (.int v7), .unset, .unset] []))
      exact k_75 _ _ _ Xc72_6 rfl Nc72_6 w_a (w_tl + (1 : Int32)) (own_set w_l w_tl x2) v0 v1 v7 Gc72_6 (TB.mono (TB.push hI (by decide) x2) (by decide)) hv
    · have hv := (if_neg hc65).symm.trans hv
      refine Runs.go (fun _ => XS.icmpYes X.here hx rfl (pc0 := 65) (pc' := 75) rfl (hb hby at_65) rfl (flt hc65).2.2.2 (by decide) (by decide)) ?_
      show Runs p e below s _ _ _ (T.setTop (mkF m 75 #[.val (.int v0), .val (.int v1), .val (.int x2), .val (.int x3), .val (.ref w_a), .val (.int (F3 (0 : Int32) (0 : Int32))), .val (.int (x0 &&& (3 : Int32))), .val (.int v7), .unset, .unset] []))
      exact k_75 _ _ _ X eT N w_a w_tl w_l v0 v1 v7 G_AG (TB.mono hI (by decide)) hv
  have k_49 : ∀ (T : State) (locs : List Loc) (h : Heap) (X : Stand p l e room_1 s m #[(.int x0), (.int x1), (.int x2), (.int x3)] below meth c T locs 3 132) (eT : T.heap = h) (N : Fr n0 locs) (w_a : Addr) (w_tl : Int32) (w_l : List Int32) (v0 : Int32) (v7 : Int32) (G_AG : AG Z h n0 w_a (0 : Int32) w_tl w_l) (hI : TB 1 w_tl w_l), f0_49 x0 x1 x2 x3 w_tl v7 = r → Runs p e below s (QH (.int r) n0) room_1.cells room_1.slots (T.setTop (mkF m 49 #[.val (.int v0), .val (.int x1), .val (.int x2), .val (.int x3), .val (.ref w_a), .val (.int (F3 (0 : Int32) (0 : Int32))), .val (.int (x0 &&& (3 : Int32))), .val (.int v7), .unset, .unset] [])) := by
    intro T locs h X eT N w_a w_tl w_l v0 v7 G_AG hI hv
    unfold f0_49 at hv
    refine Runs.go (fun _ => XS.iload X.here hx rfl (hb hby at_49) rfl) ?_
    show Runs p e below s _ _ _ (T.setTop (mkF m 51 #[.val (.int v0), .val (.int x1), .val (.int x2), .val (.int x3), .val (.ref w_a), .val (.int (F3 (0 : Int32) (0 : Int32))), .val (.int (x0 &&& (3 : Int32))), .val (.int v7), .unset, .unset] [(.int (x0 &&& (3 : Int32)))]))
    refine Runs.go (fun _ => XS.iconst X.here hx rfl (hb hby at_51)) ?_
    show Runs p e below s _ _ _ (T.setTop (mkF m 52 #[.val (.int v0), .val (.int x1), .val (.int x2), .val (.int x3), .val (.ref w_a), .val (.int (F3 (0 : Int32) (0 : Int32))), .val (.int (x0 &&& (3 : Int32))), .val (.int v7), .unset, .unset] [(.int (1 : Int32)), (.int (x0 &&& (3 : Int32)))]))
    by_cases hc52 : (1 : Int32) < (x0 &&& (3 : Int32))
    · have hv := (if_pos hc52).symm.trans hv
      refine Runs.go (fun _ => XS.icmpNo X.here hx rfl (hb hby at_52) rfl (tlt hc52).2.2.2) ?_
      show Runs p e below s _ _ _ (T.setTop (mkF m 55 #[.val (.int v0), .val (.int x1), .val (.int x2), .val (.int x3), .val (.ref w_a), .val (.int (F3 (0 : Int32) (0 : Int32))), .val (.int (x0 &&& (3 : Int32))), .val (.int v7), .unset, .unset] []))
      refine Runs.go (fun _ => XS.aload X.here hx rfl (hb hby at_55) rfl rfl) ?_
      show Runs p e below s _ _ _ (T.setTop (mkF m 57 #[.val (.int v0), .val (.int x1), .val (.int x2), .val (.int x3), .val (.ref w_a), .val (.int (F3 (0 : Int32) (0 : Int32))), .val (.int (x0 &&& (3 : Int32))), .val (.int v7), .unset, .unset] [(.ref w_a)]))
      refine Runs.go (fun _ => XS.aconstNull X.here hx rfl (hb hby at_57)) ?_
      show Runs p e below s _ _ _ (T.setTop (mkF m 58 #[.val (.int v0), .val (.int x1), .val (.int x2), .val (.int x3), .val (.ref w_a), .val (.int (F3 (0 : Int32) (0 : Int32))), .val (.int (x0 &&& (3 : Int32))), .val (.int v7), .unset, .unset] [.null, (.ref w_a)]))
      refine Runs.go (fun _ => XS.iloadN X.here hx rfl (hb hby at_58) rfl) ?_
      show Runs p e below s _ _ _ (T.setTop (mkF m 59 #[.val (.int v0), .val (.int x1), .val (.int x2), .val (.int x3), .val (.ref w_a), .val (.int (F3 (0 : Int32) (0 : Int32))), .val (.int (x0 &&& (3 : Int32))), .val (.int v7), .unset, .unset] [(.int x1), .null, (.ref w_a)]))
      have hz59 : n0 ≤ h.size := Nat.le_trans G_AG.2.1 (Nat.le_of_lt G_AG.1.lt)
      obtain ⟨cqc59_5, kqc59_5, qc59_5a, qc59_5b, qc59_5c⟩ := isOf hZ eT G_AG.1
      obtain ⟨_, _, ⟨Tc59_5, Lc59_5, kc59_5, nc59_5⟩, -, Xc59_5, ⟨Lcc59_5, hQc59_5, lc59_5, yc59_5, zc59_5⟩, stc59_5⟩ := X.virtualBack hx (y := (⟨"com/example/ontology_reasoner/ontologyreasoner/engine/Agenda", "push", "(Lcom/example/ontology_reasoner/ontologyreasoner/engine/Node;I)V"⟩ : MethodName)) (z := (⟨"com/example/ontology_reasoner/ontologyreasoner/engine/Agenda", "push", "(Lcom/example/ontology_reasoner/ontologyreasoner/engine/Node;I)V"⟩ : MethodName)) hown (mvT hZ (hw _ (List.mem_of_getElem? (i := 30) rfl))) (mvT hZ (hw _ (List.mem_of_getElem? (i := 31) rfl))) (notFace_of_selects (args := #[]) (mvT hZ (hw _ (List.mem_of_getElem? (i := 33) rfl)))) (mvT hZ (hw _ (List.mem_of_getElem? (i := 33) rfl))) (mvT hZ (hw _ (List.mem_of_getElem? (i := 32) rfl))) (by decide) (backOf (W := 0) (rm5 l Z a0 hw [] w_a x1 (0 : Int32) w_tl w_l h n0 hz59 G_AG (TB.inr hI (by decide))) hZ (hw _ (List.mem_of_getElem? (i := 34) rfl)) (hw _ (List.mem_of_getElem? (i := 2) rfl)) (by decide) (by decide)) qc59_5a qc59_5c (g := (mkF m 59 #[.val (.int v0), .val (.int x1), .val (.int x2), .val (.int x3), .val (.ref w_a), .val (.int (F3 (0 : Int32) (0 : Int32))), .val (.int (x0 &&& (3 : Int32))), .val (.int v7), .unset, .unset] [(.int x1), .null, (.ref w_a)])) rfl (by rw [hml]; rfl) (Steps.refl _) (argsL := [.null, (.int x1)]) (rest := []) (lenOf pd_3 rfl) rfl (by show 2 * 0 + _ ≤ _; exact Nat.le_of_eq rfl) (hb hby at_59) (fun _ _ => ⟨rfl, eT, (by decide : 3 + 0 ≤ _), (by decide : 132 + 0 ≤ _)⟩)
      dsimp only [Pt.U, Pt.locs, Pt.cells, Pt.slots] at Xc59_5 lc59_5 yc59_5 zc59_5 stc59_5 hQc59_5
      subst lc59_5 yc59_5 zc59_5
      obtain ⟨rfl, Nc59_5q, Gc59_5⟩ := hQc59_5
      refine Runs.go (fun _ => stc59_5.trans) ?_
      have Nc59_5 := Fr.app N Nc59_5q
      show Runs p e below s _ _ _ (Tc59_5.setTop (mkF m 62 #[.val (.int v0), .val (.int x1), .val (.int x2), .val (.int x3), .val (.ref w_a), .val (.int (F3 (0 : Int32) (0 : Int32))), .val (.int (x0 &&& (3 : Int32))), .val (.int v7), .unset, .unset] []))
      exact k_62 _ _ _ Xc59_5 rfl Nc59_5 w_a (w_tl + (1 : Int32)) (own_set w_l w_tl x1) v0 x1 v7 Gc59_5 (TB.mono (TB.push hI (by decide) x1) (by decide)) hv
    · have hv := (if_neg hc52).symm.trans hv
      refine Runs.go (fun _ => XS.icmpYes X.here hx rfl (pc0 := 52) (pc' := 62) rfl (hb hby at_52) rfl (flt hc52).2.2.2 (by decide) (by decide)) ?_
      show Runs p e below s _ _ _ (T.setTop (mkF m 62 #[.val (.int v0), .val (.int x1), .val (.int x2), .val (.int x3), .val (.ref w_a), .val (.int (F3 (0 : Int32) (0 : Int32))), .val (.int (x0 &&& (3 : Int32))), .val (.int v7), .unset, .unset] []))
      exact k_62 _ _ _ X eT N w_a w_tl w_l v0 x1 v7 G_AG (TB.mono hI (by decide)) hv
  have k_37 : ∀ (T : State) (locs : List Loc) (h : Heap) (X : Stand p l e room_1 s m #[(.int x0), (.int x1), (.int x2), (.int x3)] below meth c T locs 3 132) (eT : T.heap = h) (N : Fr n0 locs) (w_a : Addr) (v7 : Int32) (G_AG : AG Z h n0 w_a (0 : Int32) (0 : Int32) [(0 : Int32), (0 : Int32), (0 : Int32)]), f0_37 x0 x1 x2 x3 v7 = r → Runs p e below s (QH (.int r) n0) room_1.cells room_1.slots (T.setTop (mkF m 37 #[.val (.int x0), .val (.int x1), .val (.int x2), .val (.int x3), .val (.ref w_a), .val (.int (F3 (0 : Int32) (0 : Int32))), .val (.int (x0 &&& (3 : Int32))), .val (.int v7), .unset, .unset] [])) := by
    intro T locs h X eT N w_a v7 G_AG hv
    unfold f0_37 at hv
    refine Runs.go (fun _ => XS.iload X.here hx rfl (hb hby at_37) rfl) ?_
    show Runs p e below s _ _ _ (T.setTop (mkF m 39 #[.val (.int x0), .val (.int x1), .val (.int x2), .val (.int x3), .val (.ref w_a), .val (.int (F3 (0 : Int32) (0 : Int32))), .val (.int (x0 &&& (3 : Int32))), .val (.int v7), .unset, .unset] [(.int (x0 &&& (3 : Int32)))]))
    by_cases hc39 : (0 : Int32) < (x0 &&& (3 : Int32))
    · have hv := (if_pos hc39).symm.trans hv
      refine Runs.go (fun _ => XS.ifNo X.here hx rfl (hb hby at_39) rfl ((if0 _ _).trans (tlt hc39).2.2.2)) ?_
      show Runs p e below s _ _ _ (T.setTop (mkF m 42 #[.val (.int x0), .val (.int x1), .val (.int x2), .val (.int x3), .val (.ref w_a), .val (.int (F3 (0 : Int32) (0 : Int32))), .val (.int (x0 &&& (3 : Int32))), .val (.int v7), .unset, .unset] []))
      refine Runs.go (fun _ => XS.aload X.here hx rfl (hb hby at_42) rfl rfl) ?_
      show Runs p e below s _ _ _ (T.setTop (mkF m 44 #[.val (.int x0), .val (.int x1), .val (.int x2), .val (.int x3), .val (.ref w_a), .val (.int (F3 (0 : Int32) (0 : Int32))), .val (.int (x0 &&& (3 : Int32))), .val (.int v7), .unset, .unset] [(.ref w_a)]))
      refine Runs.go (fun _ => XS.aconstNull X.here hx rfl (hb hby at_44)) ?_
      show Runs p e below s _ _ _ (T.setTop (mkF m 45 #[.val (.int x0), .val (.int x1), .val (.int x2), .val (.int x3), .val (.ref w_a), .val (.int (F3 (0 : Int32) (0 : Int32))), .val (.int (x0 &&& (3 : Int32))), .val (.int v7), .unset, .unset] [.null, (.ref w_a)]))
      refine Runs.go (fun _ => XS.iloadN X.here hx rfl (hb hby at_45) rfl) ?_
      show Runs p e below s _ _ _ (T.setTop (mkF m 46 #[.val (.int x0), .val (.int x1), .val (.int x2), .val (.int x3), .val (.ref w_a), .val (.int (F3 (0 : Int32) (0 : Int32))), .val (.int (x0 &&& (3 : Int32))), .val (.int v7), .unset, .unset] [(.int x0), .null, (.ref w_a)]))
      have hz46 : n0 ≤ h.size := Nat.le_trans G_AG.2.1 (Nat.le_of_lt G_AG.1.lt)
      obtain ⟨cqc46_4, kqc46_4, qc46_4a, qc46_4b, qc46_4c⟩ := isOf hZ eT G_AG.1
      obtain ⟨_, _, ⟨Tc46_4, Lc46_4, kc46_4, nc46_4⟩, -, Xc46_4, ⟨Lcc46_4, hQc46_4, lc46_4, yc46_4, zc46_4⟩, stc46_4⟩ := X.virtualBack hx (y := (⟨"com/example/ontology_reasoner/ontologyreasoner/engine/Agenda", "push", "(Lcom/example/ontology_reasoner/ontologyreasoner/engine/Node;I)V"⟩ : MethodName)) (z := (⟨"com/example/ontology_reasoner/ontologyreasoner/engine/Agenda", "push", "(Lcom/example/ontology_reasoner/ontologyreasoner/engine/Node;I)V"⟩ : MethodName)) hown (mvT hZ (hw _ (List.mem_of_getElem? (i := 30) rfl))) (mvT hZ (hw _ (List.mem_of_getElem? (i := 31) rfl))) (notFace_of_selects (args := #[]) (mvT hZ (hw _ (List.mem_of_getElem? (i := 33) rfl)))) (mvT hZ (hw _ (List.mem_of_getElem? (i := 33) rfl))) (mvT hZ (hw _ (List.mem_of_getElem? (i := 32) rfl))) (by decide) (backOf (W := 0) (rm5 l Z a0 hw [] w_a x0 (0 : Int32) (0 : Int32) [(0 : Int32), (0 : Int32), (0 : Int32)] h n0 hz46 G_AG (TB.inr TB.zero (by decide))) hZ (hw _ (List.mem_of_getElem? (i := 34) rfl)) (hw _ (List.mem_of_getElem? (i := 2) rfl)) (by decide) (by decide)) qc46_4a qc46_4c (g := (mkF m 46 #[.val (.int x0), .val (.int x1), .val (.int x2), .val (.int x3), .val (.ref w_a), .val (.int (F3 (0 : Int32) (0 : Int32))), .val (.int (x0 &&& (3 : Int32))), .val (.int v7), .unset, .unset] [(.int x0), .null, (.ref w_a)])) rfl (by rw [hml]; rfl) (Steps.refl _) (argsL := [.null, (.int x0)]) (rest := []) (lenOf pd_3 rfl) rfl (by show 2 * 0 + _ ≤ _; exact Nat.le_of_eq rfl) (hb hby at_46) (fun _ _ => ⟨rfl, eT, (by decide : 3 + 0 ≤ _), (by decide : 132 + 0 ≤ _)⟩)
      dsimp only [Pt.U, Pt.locs, Pt.cells, Pt.slots] at Xc46_4 lc46_4 yc46_4 zc46_4 stc46_4 hQc46_4
      subst lc46_4 yc46_4 zc46_4
      obtain ⟨rfl, Nc46_4q, Gc46_4⟩ := hQc46_4
      refine Runs.go (fun _ => stc46_4.trans) ?_
      have Nc46_4 := Fr.app N Nc46_4q
      show Runs p e below s _ _ _ (Tc46_4.setTop (mkF m 49 #[.val (.int x0), .val (.int x1), .val (.int x2), .val (.int x3), .val (.ref w_a), .val (.int (F3 (0 : Int32) (0 : Int32))), .val (.int (x0 &&& (3 : Int32))), .val (.int v7), .unset, .unset] []))
      exact k_49 _ _ _ Xc46_4 rfl Nc46_4 w_a ((0 : Int32) + (1 : Int32)) (own_set [(0 : Int32), (0 : Int32), (0 : Int32)] (0 : Int32) x0) x0 v7 Gc46_4 (TB.mono (TB.push TB.zero (by decide) x0) (by decide)) hv
    · have hv := (if_neg hc39).symm.trans hv
      refine Runs.go (fun _ => XS.ifYes X.here hx rfl (pc0 := 39) (pc' := 49) rfl (hb hby at_39) rfl ((if0 _ _).trans (flt hc39).2.2.2) (by decide) (by decide)) ?_
      show Runs p e below s _ _ _ (T.setTop (mkF m 49 #[.val (.int x0), .val (.int x1), .val (.int x2), .val (.int x3), .val (.ref w_a), .val (.int (F3 (0 : Int32) (0 : Int32))), .val (.int (x0 &&& (3 : Int32))), .val (.int v7), .unset, .unset] []))
      exact k_49 _ _ _ X eT N w_a (0 : Int32) [(0 : Int32), (0 : Int32), (0 : Int32)] x0 v7 G_AG (TB.mono TB.zero (by decide)) hv
  have k_0 : ∀ (T : State) (X : Stand p l e room_1 s m #[(.int x0), (.int x1), (.int x2), (.int x3)] below meth c T [] 0 0) (eT : T.heap = h0) (N : Fr n0 []), f0_0 x0 x1 x2 x3 = r → Runs p e below s (QH (.int r) n0) room_1.cells room_1.slots (T.setTop (mkF m 0 #[.val (.int x0), .val (.int x1), .val (.int x2), .val (.int x3), .unset, .unset, .unset, .unset, .unset, .unset] [])) := by
    intro T X eT N  hv
    unfold f0_0 at hv
    obtain ⟨To0_1, ho0_1, Xo0_1, eo0_1, Eo0_1, Ao0_1, Do0_1, -, sto0_1⟩ := newO X hx hZ hown (hw _ (List.mem_of_getElem? (i := 0) rfl)) (hw _ (List.mem_of_getElem? (i := 1) rfl)) (hw _ (List.mem_of_getElem? (i := 2) rfl)) eT (g := (mkF m 0 #[.val (.int x0), .val (.int x1), .val (.int x2), .val (.int x3), .unset, .unset, .unset, .unset, .unset, .unset] [])) rfl (hb hby at_0) (by decide) (by decide)
    obtain ⟨bo0_1, go0_1⟩ : ∃ z, z = h0.size := ⟨_, rfl⟩
    have gb_bo0_1 : n0 ≤ bo0_1 := Nat.le_trans hn0 (Nat.le_of_eq go0_1.symm)
    rw [← go0_1] at Ao0_1 Do0_1 sto0_1
    refine Runs.go sto0_1 ?_
    have hno0_1 : n0 ≤ ho0_1.size := Nat.le_trans hn0 Eo0_1.1
    have Fnodes_bo0_1 : Fld Z ho0_1 bo0_1 "com/example/ontology_reasoner/ontologyreasoner/engine/Agenda" "nodes" "[Lcom/example/ontology_reasoner/ontologyreasoner/engine/Node;" .null := Do0_1 (Or.inl (hw _ (List.mem_of_getElem? (i := 12) rfl))) (ty := (.array (.object "com/example/ontology_reasoner/ontologyreasoner/engine/Node"))) (by decide)
    have Fpositions_bo0_1 : Fld Z ho0_1 bo0_1 "com/example/ontology_reasoner/ontologyreasoner/engine/Agenda" "positions" "[I" .null := Do0_1 (Or.inl (hw _ (List.mem_of_getElem? (i := 15) rfl))) (ty := (.array .int)) (by decide)
    have Fhead_bo0_1 : Fld Z ho0_1 bo0_1 "com/example/ontology_reasoner/ontologyreasoner/engine/Agenda" "head" "I" (.int (0 : Int32)) := Do0_1 (Or.inl (hw _ (List.mem_of_getElem? (i := 22) rfl))) (ty := .int) (by decide)
    have Ftail_bo0_1 : Fld Z ho0_1 bo0_1 "com/example/ontology_reasoner/ontologyreasoner/engine/Agenda" "tail" "I" (.int (0 : Int32)) := Do0_1 (Or.inl (hw _ (List.mem_of_getElem? (i := 24) rfl))) (ty := .int) (by decide)
    show Runs p e below s _ _ _ (To0_1.setTop (mkF m 3 #[.val (.int x0), .val (.int x1), .val (.int x2), .val (.int x3), .unset, .unset, .unset, .unset, .unset, .unset] [(.ref bo0_1)]))
    refine Runs.go (fun _ => XS.dup Xo0_1.here hx rfl (hb hby at_3) rfl rfl) ?_
    show Runs p e below s _ _ _ (To0_1.setTop (mkF m 4 #[.val (.int x0), .val (.int x1), .val (.int x2), .val (.int x3), .unset, .unset, .unset, .unset, .unset, .unset] [(.ref bo0_1), (.ref bo0_1)]))
    obtain ⟨_, _, ⟨Tc4_2, Lc4_2, kc4_2, nc4_2⟩, -, Xc4_2, ⟨Lcc4_2, hQc4_2, lc4_2, yc4_2, zc4_2⟩, stc4_2⟩ := Xo0_1.specialBack hx (y := (⟨"com/example/ontology_reasoner/ontologyreasoner/engine/Agenda", "<init>", "()V"⟩ : MethodName)) rfl hown (mvT hZ (hw _ (List.mem_of_getElem? (i := 3) rfl))) (mvT hZ (hw _ (List.mem_of_getElem? (i := 4) rfl))) (mvT hZ (hw _ (List.mem_of_getElem? (i := 5) rfl))) (by decide) (backOf (W := 1) (rm1 l Z a0 hw [] bo0_1 ho0_1 n0 hno0_1 Ao0_1 gb_bo0_1 Fhead_bo0_1 Ftail_bo0_1 Fnodes_bo0_1 Fpositions_bo0_1) hZ (hw _ (List.mem_of_getElem? (i := 5) rfl)) (hw _ (List.mem_of_getElem? (i := 2) rfl)) (by decide) (by decide)) (g := (mkF m 4 #[.val (.int x0), .val (.int x1), .val (.int x2), .val (.int x3), .unset, .unset, .unset, .unset, .unset, .unset] [(.ref bo0_1), (.ref bo0_1)])) rfl (by rw [hml]; rfl) (Steps.refl _) (a := bo0_1) (argsL := []) (rest := [(.ref bo0_1)]) (lenOf pd_0 rfl) rfl (by show 2 * 0 + _ ≤ _; exact Nat.le_of_eq rfl) (hb hby at_4) (fun _ _ => ⟨rfl, eo0_1, (by decide : 1 + 2 ≤ _), (by decide : 4 + 128 ≤ _)⟩)
    dsimp only [Pt.U, Pt.locs, Pt.cells, Pt.slots] at Xc4_2 lc4_2 yc4_2 zc4_2 stc4_2 hQc4_2
    subst lc4_2 yc4_2 zc4_2
    obtain ⟨rfl, Nc4_2q, Gc4_2⟩ := hQc4_2
    refine Runs.go (fun _ => stc4_2.trans) ?_
    have Nc4_2 := Fr.app N Nc4_2q
    show Runs p e below s _ _ _ (Tc4_2.setTop (mkF m 7 #[.val (.int x0), .val (.int x1), .val (.int x2), .val (.int x3), .unset, .unset, .unset, .unset, .unset, .unset] [(.ref bo0_1)]))
    refine Runs.go (fun _ => XS.astore Xc4_2.here hx rfl (hb hby at_7) rfl rfl (l' := #[.val (.int x0), .val (.int x1), .val (.int x2), .val (.int x3), .val (.ref bo0_1), .unset, .unset, .unset, .unset, .unset]) rfl) ?_
    show Runs p e below s _ _ _ (Tc4_2.setTop (mkF m 9 #[.val (.int x0), .val (.int x1), .val (.int x2), .val (.int x3), .val (.ref bo0_1), .unset, .unset, .unset, .unset, .unset] []))
    refine Runs.go (fun _ => XS.aload Xc4_2.here hx rfl (hb hby at_9) rfl rfl) ?_
    show Runs p e below s _ _ _ (Tc4_2.setTop (mkF m 11 #[.val (.int x0), .val (.int x1), .val (.int x2), .val (.int x3), .val (.ref bo0_1), .unset, .unset, .unset, .unset, .unset] [(.ref bo0_1)]))
    have hz11 : n0 ≤ Tc4_2.heap.size := Nat.le_trans Gc4_2.2.1 (Nat.le_of_lt Gc4_2.1.lt)
    obtain ⟨cqc11_3, kqc11_3, qc11_3a, qc11_3b, qc11_3c⟩ := isOf hZ rfl Gc4_2.1
    obtain ⟨_, _, ⟨Tc11_3, Lc11_3, kc11_3, nc11_3⟩, -, Xc11_3, ⟨Lcc11_3, hQc11_3, lc11_3, yc11_3, zc11_3⟩, stc11_3⟩ := Xc4_2.virtualBack hx (y := (⟨"com/example/ontology_reasoner/ontologyreasoner/engine/Agenda", "isEmpty", "()Z"⟩ : MethodName)) (z := (⟨"com/example/ontology_reasoner/ontologyreasoner/engine/Agenda", "isEmpty", "()Z"⟩ : MethodName)) hown (mvT hZ (hw _ (List.mem_of_getElem? (i := 16) rfl))) (mvT hZ (hw _ (List.mem_of_getElem? (i := 17) rfl))) (notFace_of_selects (args := #[]) (mvT hZ (hw _ (List.mem_of_getElem? (i := 19) rfl)))) (mvT hZ (hw _ (List.mem_of_getElem? (i := 19) rfl))) (mvT hZ (hw _ (List.mem_of_getElem? (i := 18) rfl))) (by decide) (backOf (W := 0) (rm3 l Z a0 hw [] bo0_1 (0 : Int32) (0 : Int32) [(0 : Int32), (0 : Int32), (0 : Int32)] Tc4_2.heap n0 hz11 Gc4_2 ) hZ (hw _ (List.mem_of_getElem? (i := 20) rfl)) (hw _ (List.mem_of_getElem? (i := 2) rfl)) (by decide) (by decide)) qc11_3a qc11_3c (g := (mkF m 11 #[.val (.int x0), .val (.int x1), .val (.int x2), .val (.int x3), .val (.ref bo0_1), .unset, .unset, .unset, .unset, .unset] [(.ref bo0_1)])) rfl (by rw [hml]; rfl) (Steps.refl _) (argsL := []) (rest := []) (lenOf pd_1 rfl) rfl (by show 2 * 0 + _ ≤ _; exact Nat.le_of_eq rfl) (hb hby at_11) (fun _ _ => ⟨rfl, rfl, (by decide : 3 + 0 ≤ _), (by decide : 132 + 0 ≤ _)⟩)
    dsimp only [Pt.U, Pt.locs, Pt.cells, Pt.slots] at Xc11_3 lc11_3 yc11_3 zc11_3 stc11_3 hQc11_3
    subst lc11_3 yc11_3 zc11_3
    obtain ⟨rfl, Nc11_3q, Gc11_3⟩ := hQc11_3
    refine Runs.go (fun _ => stc11_3.trans) ?_
    have Nc11_3 := Fr.app Nc4_2 Nc11_3q
    show Runs p e below s _ _ _ (Tc11_3.setTop (mkF m 14 #[.val (.int x0), .val (.int x1), .val (.int x2), .val (.int x3), .val (.ref bo0_1), .unset, .unset, .unset, .unset, .unset] [(.int (F3 (0 : Int32) (0 : Int32)))]))
    refine Runs.go (fun _ => XS.istore Xc11_3.here hx rfl (hb hby at_14) rfl (l' := #[.val (.int x0), .val (.int x1), .val (.int x2), .val (.int x3), .val (.ref bo0_1), .val (.int (F3 (0 : Int32) (0 : Int32))), .unset, .unset, .unset, .unset]) rfl) ?_
    show Runs p e below s _ _ _ (Tc11_3.setTop (mkF m 16 #[.val (.int x0), .val (.int x1), .val (.int x2), .val (.int x3), .val (.ref bo0_1), .val (.int (F3 (0 : Int32) (0 : Int32))), .unset, .unset, .unset, .unset] []))
    refine Runs.go (fun _ => XS.iloadN Xc11_3.here hx rfl (hb hby at_16) rfl) ?_
    show Runs p e below s _ _ _ (Tc11_3.setTop (mkF m 17 #[.val (.int x0), .val (.int x1), .val (.int x2), .val (.int x3), .val (.ref bo0_1), .val (.int (F3 (0 : Int32) (0 : Int32))), .unset, .unset, .unset, .unset] [(.int x0)]))
    refine Runs.go (fun _ => XS.iconst Xc11_3.here hx rfl (hb hby at_17)) ?_
    show Runs p e below s _ _ _ (Tc11_3.setTop (mkF m 18 #[.val (.int x0), .val (.int x1), .val (.int x2), .val (.int x3), .val (.ref bo0_1), .val (.int (F3 (0 : Int32) (0 : Int32))), .unset, .unset, .unset, .unset] [(.int (3 : Int32)), (.int x0)]))
    refine Runs.go (fun _ => XS.iand Xc11_3.here hx rfl (hb hby at_18) rfl) ?_
    show Runs p e below s _ _ _ (Tc11_3.setTop (mkF m 19 #[.val (.int x0), .val (.int x1), .val (.int x2), .val (.int x3), .val (.ref bo0_1), .val (.int (F3 (0 : Int32) (0 : Int32))), .unset, .unset, .unset, .unset] [(.int (x0 &&& (3 : Int32)))]))
    refine Runs.go (fun _ => XS.istore Xc11_3.here hx rfl (hb hby at_19) rfl (l' := #[.val (.int x0), .val (.int x1), .val (.int x2), .val (.int x3), .val (.ref bo0_1), .val (.int (F3 (0 : Int32) (0 : Int32))), .val (.int (x0 &&& (3 : Int32))), .unset, .unset, .unset]) rfl) ?_
    show Runs p e below s _ _ _ (Tc11_3.setTop (mkF m 21 #[.val (.int x0), .val (.int x1), .val (.int x2), .val (.int x3), .val (.ref bo0_1), .val (.int (F3 (0 : Int32) (0 : Int32))), .val (.int (x0 &&& (3 : Int32))), .unset, .unset, .unset] []))
    refine Runs.go (fun _ => XS.iloadN Xc11_3.here hx rfl (hb hby at_21) rfl) ?_
    show Runs p e below s _ _ _ (Tc11_3.setTop (mkF m 22 #[.val (.int x0), .val (.int x1), .val (.int x2), .val (.int x3), .val (.ref bo0_1), .val (.int (F3 (0 : Int32) (0 : Int32))), .val (.int (x0 &&& (3 : Int32))), .unset, .unset, .unset] [(.int x1)]))
    refine Runs.go (fun _ => XS.iconst Xc11_3.here hx rfl (hb hby at_22)) ?_
    show Runs p e below s _ _ _ (Tc11_3.setTop (mkF m 23 #[.val (.int x0), .val (.int x1), .val (.int x2), .val (.int x3), .val (.ref bo0_1), .val (.int (F3 (0 : Int32) (0 : Int32))), .val (.int (x0 &&& (3 : Int32))), .unset, .unset, .unset] [(.int (3 : Int32)), (.int x1)]))
    refine Runs.go (fun _ => XS.iand Xc11_3.here hx rfl (hb hby at_23) rfl) ?_
    show Runs p e below s _ _ _ (Tc11_3.setTop (mkF m 24 #[.val (.int x0), .val (.int x1), .val (.int x2), .val (.int x3), .val (.ref bo0_1), .val (.int (F3 (0 : Int32) (0 : Int32))), .val (.int (x0 &&& (3 : Int32))), .unset, .unset, .unset] [(.int (x1 &&& (3 : Int32)))]))
    refine Runs.go (fun _ => XS.istore Xc11_3.here hx rfl (hb hby at_24) rfl (l' := #[.val (.int x0), .val (.int x1), .val (.int x2), .val (.int x3), .val (.ref bo0_1), .val (.int (F3 (0 : Int32) (0 : Int32))), .val (.int (x0 &&& (3 : Int32))), .val (.int (x1 &&& (3 : Int32))), .unset, .unset]) rfl) ?_
    show Runs p e below s _ _ _ (Tc11_3.setTop (mkF m 26 #[.val (.int x0), .val (.int x1), .val (.int x2), .val (.int x3), .val (.ref bo0_1), .val (.int (F3 (0 : Int32) (0 : Int32))), .val (.int (x0 &&& (3 : Int32))), .val (.int (x1 &&& (3 : Int32))), .unset, .unset] []))
    refine Runs.go (fun _ => XS.iload Xc11_3.here hx rfl (hb hby at_26) rfl) ?_
    show Runs p e below s _ _ _ (Tc11_3.setTop (mkF m 28 #[.val (.int x0), .val (.int x1), .val (.int x2), .val (.int x3), .val (.ref bo0_1), .val (.int (F3 (0 : Int32) (0 : Int32))), .val (.int (x0 &&& (3 : Int32))), .val (.int (x1 &&& (3 : Int32))), .unset, .unset] [(.int (x1 &&& (3 : Int32)))]))
    refine Runs.go (fun _ => XS.iload Xc11_3.here hx rfl (hb hby at_28) rfl) ?_
    show Runs p e below s _ _ _ (Tc11_3.setTop (mkF m 30 #[.val (.int x0), .val (.int x1), .val (.int x2), .val (.int x3), .val (.ref bo0_1), .val (.int (F3 (0 : Int32) (0 : Int32))), .val (.int (x0 &&& (3 : Int32))), .val (.int (x1 &&& (3 : Int32))), .unset, .unset] [(.int (x0 &&& (3 : Int32))), (.int (x1 &&& (3 : Int32)))]))
    by_cases hc30 : (x0 &&& (3 : Int32)) < (x1 &&& (3 : Int32))
    · have hv := (if_pos hc30).symm.trans hv
      refine Runs.go (fun _ => XS.icmpNo Xc11_3.here hx rfl (hb hby at_30) rfl (tlt hc30).2.2.2) ?_
      show Runs p e below s _ _ _ (Tc11_3.setTop (mkF m 33 #[.val (.int x0), .val (.int x1), .val (.int x2), .val (.int x3), .val (.ref bo0_1), .val (.int (F3 (0 : Int32) (0 : Int32))), .val (.int (x0 &&& (3 : Int32))), .val (.int (x1 &&& (3 : Int32))), .unset, .unset] []))
      refine Runs.go (fun _ => XS.iload Xc11_3.here hx rfl (hb hby at_33) rfl) ?_
      show Runs p e below s _ _ _ (Tc11_3.setTop (mkF m 35 #[.val (.int x0), .val (.int x1), .val (.int x2), .val (.int x3), .val (.ref bo0_1), .val (.int (F3 (0 : Int32) (0 : Int32))), .val (.int (x0 &&& (3 : Int32))), .val (.int (x1 &&& (3 : Int32))), .unset, .unset] [(.int (x0 &&& (3 : Int32)))]))
      refine Runs.go (fun _ => XS.istore Xc11_3.here hx rfl (hb hby at_35) rfl (l' := #[.val (.int x0), .val (.int x1), .val (.int x2), .val (.int x3), .val (.ref bo0_1), .val (.int (F3 (0 : Int32) (0 : Int32))), .val (.int (x0 &&& (3 : Int32))), .val (.int (x0 &&& (3 : Int32))), .unset, .unset]) rfl) ?_
      show Runs p e below s _ _ _ (Tc11_3.setTop (mkF m 37 #[.val (.int x0), .val (.int x1), .val (.int x2), .val (.int x3), .val (.ref bo0_1), .val (.int (F3 (0 : Int32) (0 : Int32))), .val (.int (x0 &&& (3 : Int32))), .val (.int (x0 &&& (3 : Int32))), .unset, .unset] []))
      exact k_37 _ _ _ Xc11_3 rfl Nc11_3 bo0_1 (x0 &&& (3 : Int32)) Gc11_3 hv
    · have hv := (if_neg hc30).symm.trans hv
      refine Runs.go (fun _ => XS.icmpYes Xc11_3.here hx rfl (pc0 := 30) (pc' := 37) rfl (hb hby at_30) rfl (flt hc30).2.2.2 (by decide) (by decide)) ?_
      show Runs p e below s _ _ _ (Tc11_3.setTop (mkF m 37 #[.val (.int x0), .val (.int x1), .val (.int x2), .val (.int x3), .val (.ref bo0_1), .val (.int (F3 (0 : Int32) (0 : Int32))), .val (.int (x0 &&& (3 : Int32))), .val (.int (x1 &&& (3 : Int32))), .unset, .unset] []))
      exact k_37 _ _ _ Xc11_3 rfl Nc11_3 bo0_1 (x1 &&& (3 : Int32)) Gc11_3 hv
  exact k_0 _ X0 e0 (Fr.nil n0) hF
set_option maxRecDepth 65536 in
set_option maxHeartbeats 40000000 in
theorem comes_1 {Post : Tables → Env → Array Value → State → Outcome → State → Prop} (hpost : ∀ tb e args s v u, (limb_1_1.after args s (.returned v) u = true ∧ limb_1_2.after args s (.returned v) u = true ∧ True) → FrameEnd s (.returned v) u (Jvm.fieldLocs frame_1_writes args s ++ Jvm.arrayLocs frame_1_arrays args s ++ Jvm.staticLocs frame_1_statics s) 16 384 → Post tb e args s (.returned v) u) :
    ArmFor flags0 classFile x code maxLocals ret World_1 tables_1 room_1 Calls_1 rest_1 Pre_1 Post := by
  intro l hfl _ _ p e ha hc hk s m args below hf hA hF happ hP
  obtain ⟨hcalls, hrest, hpre⟩ := hP
  obtain ⟨-, -, -, hnamed, -, -, -, hat⟩ := (Spec.applies_iff hf).mp happ
  obtain ⟨hg, hn⟩ := and_e (Cond.before_iff.mp (show (Jvm.Cond.and given_1 narrow_1).before args s = true from hpre))
  obtain ⟨hcnt, hg⟩ := and_e hg
  obtain ⟨w0, w1, w2, w3, rfl⟩ : ∃ w0 w1 w2 w3 : Value, args = #[w0, w1, w2, w3] := by
    have hs : args.size = 4 := by simpa [Cond.value, given_1] using hcnt
    obtain ⟨L⟩ := args
    match L, hs with
    | [w0, w1, w2, w3], _ => exact ⟨w0, w1, w2, w3, rfl⟩
  obtain ⟨ga0, hg⟩ := and_e hg
  obtain ⟨i0, ei0⟩ := is_v ga0
  obtain rfl : w0 = (.int i0) := Option.some.inj ei0
  obtain ⟨ga1, hg⟩ := and_e hg
  obtain ⟨i1, ei1⟩ := is_v ga1
  obtain rfl : w1 = (.int i1) := Option.some.inj ei1
  obtain ⟨ga2, hg⟩ := and_e hg
  obtain ⟨i2, ei2⟩ := is_v ga2
  obtain rfl : w2 = (.int i2) := Option.some.inj ei2
  have ga3 := hg
  obtain ⟨i3, ei3⟩ := is_v ga3
  obtain rfl : w3 = (.int i3) := Option.some.inj ei3
  have hw := fun d (hd : d ∈ tables_1) => atoms_spec (ws := Jvm.Cond.code x code maxLocals ret :: tables_1) hat d (List.mem_cons_of_mem _ hd)
  obtain ⟨n, o, h1, h2, h3, _, L, rfl, ⟨rfl, N⟩, hq⟩ := rm0 l s _ hw tables_1 i0 i1 i2 i3 s.heap s.heap.size (Nat.le_refl _) p e ha hc hk s m _ below hf ((Spec.applies_iff_loose hf).mp happ).1 ⟨rfl, State.Warmed39.refl s, rfl⟩ trivial
  rw [law_true i0 i1 i2 i3] at hq h3
  exact ⟨n, _, h1, h2, h3, hpost _ _ _ _ _ _ ⟨Cond.after_iff.mpr rfl, Cond.after_iff.mpr (eq_i res_at (Term.int_eval (1)) rfl), trivial⟩ ⟨hq.1, hq.2.1, (hq.2.2.sift fun y hy => Or.inr (N y hy)).mono (by decide) (by decide)⟩⟩
theorem main_1_1 : Claimed_1_1 := comes_1 fun _ _ _ _ _ _ h hF => ⟨h.1, hF⟩
theorem main_1_2 : Claimed_1_2 := comes_1 fun _ _ _ _ _ _ h hF => ⟨h.2.1, hF⟩
end Jvm.Pilot.@@N@@
namespace Jvm.Pilot.@@N@@
open Jvm Jvm.ClassFile Sem Op Lib Jvm.Free Jvm.Stand Jvm.Pilot.@@N@@.Jvm.D
/-! MADE BY PROGRAM (witnessworld.py) out of the Statement's table words and the real class files: 11 classes; the members and pool entries that the words name. The judged class is class 1, her method 1. -/
namespace start1
open Jvm.ClassFile
def u (s : String) : CpInfo := .utf8 (stringToUtf16 s)
/-- a pool by its gaps: so many unusable entries, then the entry; so many at the end -/
def gap : Nat → List CpInfo → List CpInfo
  | 0, r => r
  | n + 1, r => .unusable :: gap n r
def poolList (es : List (Nat × CpInfo)) (last : Nat) : List CpInfo := es.foldr (fun e r => gap e.1 (e.2 :: r)) (gap last [])
def pool (es : List (Nat × CpInfo)) (last : Nat) : Array CpInfo := ⟨poolList es last⟩
def fileOf (pool : Array CpInfo) (this : Nat) (attrs : Array Attribute := #[]) (ms : Array MethodInfo := #[]) (fl : Nat := 33) (sup : Nat := 0) (ifs : Array Nat := #[]) (fds : Array FieldInfo := #[]) : ClassFile where
  minorVersion := 0
  majorVersion := 65
  constantPool := pool
  accessFlags := fl
  thisClass := this
  superClass := sup
  interfaces := ifs
  fields := fds
  methods := ms
  attributes := attrs
def plain (name : String) (sup : Option ClassId) : Class where
  name := name
  kind := .ordinary
  loader := none
  accessFlags := 33
  super := sup
  interfaces := #[]
  cf := none
  fields := #[]
  methods := #[]
  instanceTypes := #[]
  staticTypes := #[]
  resolved := #[]
  callSites := []
  init := .initialized
  statics := none
  mirror := none

def pool0 : Array CpInfo := pool [(5, u "<init>"), (0, u "()V"), (1, .class_ 10), (1, u "java/lang/Object")] 113

def k0c0 : Code := { maxStack := 0, maxLocals := 1, code := object_method_1_code, exceptionTable := #[], attributes := #[] }
def k0m0 : Method := { name := "<init>", desc := "()V", sig := { parameters := [], returnType := none }, accessFlags := 1, code := some k0c0 }
/-- java/lang/Object -/
def k0 : Class := { plain "java/lang/Object" none with
  accessFlags := 33
  interfaces := #[]
  cf := some (fileOf pool0 8 #[] #[{ accessFlags := 1, nameIndex := 5, descriptorIndex := 6, attributes := #[] }] 33 0 #[] #[])
  fields := #[]
  methods := #[k0m0]
  instanceTypes := #[]
  staticTypes := #[]
  resolved := Array.replicate 124 none
  statics := none }

def pool1 : Array CpInfo := pool [(2, .class_ 4), (0, .nameAndType 5 6), (0, u "java/lang/Object"), (0, u "<init>"), (0, u "()V"), (0, .class_ 8), (0, u "com/example/ontology_reasoner/ontologyreasoner/engine/Agenda"), (0, .methodref 7 3), (0, .methodref 7 11), (0, .nameAndType 12 13), (0, u "isEmpty"), (0, u "()Z"), (0, .methodref 7 15), (0, .nameAndType 16 17), (0, u "push"), (0, u "(Lcom/example/ontology_reasoner/ontologyreasoner/engine/Node;I)V"), (0, .methodref 7 19), (0, .nameAndType 20 6), (0, u "pop"), (0, .methodref 7 22), (0, .nameAndType 23 24), (0, u "restore"), (0, u "(II)V"), (0, .class_ 26), (0, u "com/example/ontology_reasoner/ontologyreasoner/engine/AgendaIsEmptyPinLaw"), (2, u "law"), (0, u "(IIII)Z")] 3

def k1m0 : Method := { name := "<init>", desc := "()V", sig := { parameters := [], returnType := none }, accessFlags := 1, code := none }
def k1c1 : Code := { maxStack := 3, maxLocals := 10, code := code, exceptionTable := #[], attributes := #[] }
def k1m1 : Method := { name := "law", desc := "(IIII)Z", sig := { parameters := [.int, .int, .int, .int], returnType := some .boolean }, accessFlags := 9, code := some k1c1 }
/-- com/example/ontology_reasoner/ontologyreasoner/engine/AgendaIsEmptyPinLaw -/
def k1 : Class := { plain "com/example/ontology_reasoner/ontologyreasoner/engine/AgendaIsEmptyPinLaw" (some 0) with
  accessFlags := 49
  interfaces := #[]
  cf := some (fileOf pool1 25 #[] #[{ accessFlags := 1, nameIndex := 5, descriptorIndex := 6, attributes := #[] }, { accessFlags := 9, nameIndex := 29, descriptorIndex := 30, attributes := #[] }] 49 2 #[] #[])
  fields := #[]
  methods := #[k1m0, k1m1]
  instanceTypes := #[]
  staticTypes := #[]
  resolved := Array.replicate 34 none
  statics := none }

def pool2 : Array CpInfo := pool [(1, .methodref 2 3), (0, .class_ 4), (0, .nameAndType 5 6), (0, u "java/lang/Object"), (0, u "<init>"), (0, u "()V"), (0, .class_ 8), (0, u "com/example/ontology_reasoner/ontologyreasoner/engine/Node"), (0, .fieldref 10 11), (0, .class_ 12), (0, .nameAndType 13 14), (0, u "com/example/ontology_reasoner/ontologyreasoner/engine/Agenda"), (0, u "nodes"), (0, u "[Lcom/example/ontology_reasoner/ontologyreasoner/engine/Node;"), (0, .fieldref 10 16), (0, .nameAndType 17 18), (0, u "positions"), (0, u "[I"), (0, .fieldref 10 20), (0, .nameAndType 21 22), (0, u "head"), (0, u "I"), (0, .fieldref 10 24), (0, .nameAndType 25 22), (0, u "tail"), (12, u "isEmpty"), (0, u "()Z"), (1, u "push"), (0, u "(Lcom/example/ontology_reasoner/ontologyreasoner/engine/Node;I)V"), (0, u "pop"), (4, u "restore"), (0, u "(II)V")] 2

def k2c0 : Code := { maxStack := 2, maxLocals := 1, code := prog_1_method_1_code, exceptionTable := #[], attributes := #[] }
def k2m0 : Method := { name := "<init>", desc := "()V", sig := { parameters := [], returnType := none }, accessFlags := 0, code := some k2c0 }
def k2c1 : Code := { maxStack := 2, maxLocals := 1, code := prog_1_method_2_code, exceptionTable := #[], attributes := #[] }
def k2m1 : Method := { name := "isEmpty", desc := "()Z", sig := { parameters := [], returnType := some .boolean }, accessFlags := 0, code := some k2c1 }
def k2c2 : Code := { maxStack := 4, maxLocals := 3, code := prog_1_method_3_code, exceptionTable := #[], attributes := #[] }
def k2m2 : Method := { name := "push", desc := "(Lcom/example/ontology_reasoner/ontologyreasoner/engine/Node;I)V", sig := { parameters := [(.object "com/example/ontology_reasoner/ontologyreasoner/engine/Node"), .int], returnType := none }, accessFlags := 0, code := some k2c2 }
def k2c3 : Code := { maxStack := 3, maxLocals := 1, code := prog_1_method_4_code, exceptionTable := #[], attributes := #[] }
def k2m3 : Method := { name := "pop", desc := "()V", sig := { parameters := [], returnType := none }, accessFlags := 0, code := some k2c3 }
def k2c4 : Code := { maxStack := 2, maxLocals := 3, code := prog_1_method_9_code, exceptionTable := #[], attributes := #[] }
def k2m4 : Method := { name := "restore", desc := "(II)V", sig := { parameters := [.int, .int], returnType := none }, accessFlags := 0, code := some k2c4 }
/-- com/example/ontology_reasoner/ontologyreasoner/engine/Agenda -/
def k2 : Class := { plain "com/example/ontology_reasoner/ontologyreasoner/engine/Agenda" (some 0) with
  accessFlags := 32
  interfaces := #[]
  cf := some (fileOf pool2 10 #[] #[{ accessFlags := 0, nameIndex := 5, descriptorIndex := 6, attributes := #[] }, { accessFlags := 0, nameIndex := 38, descriptorIndex := 39, attributes := #[] }, { accessFlags := 0, nameIndex := 41, descriptorIndex := 42, attributes := #[] }, { accessFlags := 0, nameIndex := 43, descriptorIndex := 6, attributes := #[] }, { accessFlags := 0, nameIndex := 48, descriptorIndex := 49, attributes := #[] }] 32 2 #[] #[{ accessFlags := 2, nameIndex := 13, descriptorIndex := 14, attributes := #[] }, { accessFlags := 2, nameIndex := 17, descriptorIndex := 18, attributes := #[] }, { accessFlags := 2, nameIndex := 21, descriptorIndex := 22, attributes := #[] }, { accessFlags := 2, nameIndex := 25, descriptorIndex := 22, attributes := #[] }])
  fields := #[{ name := "nodes", type := (.array (.object "com/example/ontology_reasoner/ontologyreasoner/engine/Node")), accessFlags := 2, slot := 0, constantValue := 0 }, { name := "positions", type := (.array .int), accessFlags := 2, slot := 1, constantValue := 0 }, { name := "head", type := .int, accessFlags := 2, slot := 2, constantValue := 0 }, { name := "tail", type := .int, accessFlags := 2, slot := 3, constantValue := 0 }]
  methods := #[k2m0, k2m1, k2m2, k2m3, k2m4]
  instanceTypes := #[(.array (.object "com/example/ontology_reasoner/ontologyreasoner/engine/Node")), (.array .int), .int, .int]
  staticTypes := #[]
  resolved := Array.replicate 52 none
  statics := none }

def pool3 : Array CpInfo := pool [(2, .class_ 4), (1, u "java/lang/Object"), (6, .class_ 13), (1, u "com/example/ontology_reasoner/ontologyreasoner/engine/Node"), (0, u "concepts"), (0, u "Ljava/util/List;"), (2, u "deps"), (5, u "members"), (0, u "Ljava/util/BitSet;"), (2, u "edges"), (2, u "existentials"), (2, u "universals"), (2, u "atMosts"), (2, u "distinct"), (2, u "distinctDeps"), (2, u "parent"), (0, u "Lcom/example/ontology_reasoner/ontologyreasoner/engine/Node;"), (7, u "in"), (0, u "Lcom/example/ontology_reasoner/ontologyreasoner/engine/Edge;"), (54, u "pruned"), (0, u "Z"), (2, u "mergedInto"), (2, u "examined"), (2, u "blocked"), (5, .class_ 129), (1, u "com/example/ontology_reasoner/ontologyreasoner/engine/Node$1")] 76

/-- com/example/ontology_reasoner/ontologyreasoner/engine/Node -/
def k3 : Class := { plain "com/example/ontology_reasoner/ontologyreasoner/engine/Node" (some 0) with
  accessFlags := 32
  interfaces := #[]
  cf := some (fileOf pool3 11 #[.nestMembers #[127]] #[] 32 2 #[] #[{ accessFlags := 18, nameIndex := 46, descriptorIndex := 47, attributes := #[] }, { accessFlags := 18, nameIndex := 55, descriptorIndex := 56, attributes := #[] }, { accessFlags := 18, nameIndex := 14, descriptorIndex := 15, attributes := #[] }, { accessFlags := 18, nameIndex := 18, descriptorIndex := 15, attributes := #[] }, { accessFlags := 18, nameIndex := 24, descriptorIndex := 25, attributes := #[] }, { accessFlags := 18, nameIndex := 28, descriptorIndex := 15, attributes := #[] }, { accessFlags := 2, nameIndex := 118, descriptorIndex := 112, attributes := #[] }, { accessFlags := 2, nameIndex := 121, descriptorIndex := 112, attributes := #[] }, { accessFlags := 18, nameIndex := 31, descriptorIndex := 15, attributes := #[] }, { accessFlags := 18, nameIndex := 34, descriptorIndex := 15, attributes := #[] }, { accessFlags := 18, nameIndex := 37, descriptorIndex := 15, attributes := #[] }, { accessFlags := 18, nameIndex := 40, descriptorIndex := 15, attributes := #[] }, { accessFlags := 18, nameIndex := 43, descriptorIndex := 15, attributes := #[] }, { accessFlags := 2, nameIndex := 111, descriptorIndex := 112, attributes := #[] }, { accessFlags := 2, nameIndex := 115, descriptorIndex := 47, attributes := #[] }])
  fields := #[{ name := "parent", type := (.object "com/example/ontology_reasoner/ontologyreasoner/engine/Node"), accessFlags := 18, slot := 0, constantValue := 0 }, { name := "in", type := (.object "com/example/ontology_reasoner/ontologyreasoner/engine/Edge"), accessFlags := 18, slot := 1, constantValue := 0 }, { name := "concepts", type := (.object "java/util/List"), accessFlags := 18, slot := 2, constantValue := 0 }, { name := "deps", type := (.object "java/util/List"), accessFlags := 18, slot := 3, constantValue := 0 }, { name := "members", type := (.object "java/util/BitSet"), accessFlags := 18, slot := 4, constantValue := 0 }, { name := "edges", type := (.object "java/util/List"), accessFlags := 18, slot := 5, constantValue := 0 }, { name := "examined", type := .boolean, accessFlags := 2, slot := 6, constantValue := 0 }, { name := "blocked", type := .boolean, accessFlags := 2, slot := 7, constantValue := 0 }, { name := "existentials", type := (.object "java/util/List"), accessFlags := 18, slot := 8, constantValue := 0 }, { name := "universals", type := (.object "java/util/List"), accessFlags := 18, slot := 9, constantValue := 0 }, { name := "atMosts", type := (.object "java/util/List"), accessFlags := 18, slot := 10, constantValue := 0 }, { name := "distinct", type := (.object "java/util/List"), accessFlags := 18, slot := 11, constantValue := 0 }, { name := "distinctDeps", type := (.object "java/util/List"), accessFlags := 18, slot := 12, constantValue := 0 }, { name := "pruned", type := .boolean, accessFlags := 2, slot := 13, constantValue := 0 }, { name := "mergedInto", type := (.object "com/example/ontology_reasoner/ontologyreasoner/engine/Node"), accessFlags := 2, slot := 14, constantValue := 0 }]
  methods := #[]
  instanceTypes := #[(.object "com/example/ontology_reasoner/ontologyreasoner/engine/Node"), (.object "com/example/ontology_reasoner/ontologyreasoner/engine/Edge"), (.object "java/util/List"), (.object "java/util/List"), (.object "java/util/BitSet"), (.object "java/util/List"), .boolean, .boolean, (.object "java/util/List"), (.object "java/util/List"), (.object "java/util/List"), (.object "java/util/List"), (.object "java/util/List"), .boolean, (.object "com/example/ontology_reasoner/ontologyreasoner/engine/Node")]
  staticTypes := #[]
  resolved := Array.replicate 206 none
  statics := none }

def pool4 : Array CpInfo := pool [(1, u "java/lang/Cloneable"), (0, .class_ 1), (0, u "java/lang/Object"), (0, .class_ 3)] 3

/-- java/lang/Cloneable -/
def k4 : Class := { plain "java/lang/Cloneable" (some 0) with
  accessFlags := 1537
  interfaces := #[]
  cf := some (fileOf pool4 2 #[] #[] 1537 4 #[] #[])
  fields := #[]
  methods := #[]
  instanceTypes := #[]
  staticTypes := #[]
  resolved := Array.replicate 8 none
  statics := none }

def pool5 : Array CpInfo := pool [(1, u "java/io/Serializable"), (0, .class_ 1), (0, u "java/lang/Object"), (0, .class_ 3)] 3

/-- java/io/Serializable -/
def k5 : Class := { plain "java/io/Serializable" (some 0) with
  accessFlags := 1537
  interfaces := #[]
  cf := some (fileOf pool5 2 #[] #[] 1537 4 #[] #[])
  fields := #[]
  methods := #[]
  instanceTypes := #[]
  staticTypes := #[]
  resolved := Array.replicate 8 none
  statics := none }

/-- the primitive byte -/
def k6 : Class := { plain "byte" none with kind := .primitive 'B', accessFlags := 0x411 }
/-- [B -/
def k7 : Class := { plain "[B" (some 0) with kind := .array 6 .byte, interfaces := #[4, 5], accessFlags := 1041 }

/-- the primitive int -/
def k8 : Class := { plain "int" none with kind := .primitive 'I', accessFlags := 0x411 }
/-- [I -/
def k9 : Class := { plain "[I" (some 0) with kind := .array 8 .int, interfaces := #[4, 5], accessFlags := 1041 }

/-- [Lcom/example/ontology_reasoner/ontologyreasoner/engine/Node; -/
def k10 : Class := { plain "[Lcom/example/ontology_reasoner/ontologyreasoner/engine/Node;" (some 0) with kind := .array 3 (.object "com/example/ontology_reasoner/ontologyreasoner/engine/Node"), interfaces := #[4, 5], accessFlags := 1041 }

def heap : Heap := #[]
def classes : Array Class := #[k0, k1, k2, k3, k4, k5, k6, k7, k8, k9, k10]
def interned : List (Array UInt16 × Addr) := []
def slotsUsed : Nat := 0
def theMethod : MethodId := ⟨1, 1⟩
def args0 : Array Value := #[.int 7, .int 8, .int 9, .int 10]
def aboutOver (below : List Frame) : State where
  vm := { classes := classes, interned := interned.toArray }
  heap := heap
  slotsUsed := slotsUsed
  threads := #[{ frames := .invoking theMethod args0 :: below }]
def below0 : List Frame := [.native { method := ⟨0, 0⟩, args := #[] }]
def about1 : State := aboutOver below0
def p0 : Program := .bare "" "" ""
def e0 : Env := launch0.env 0 0 0
theorem w_frames : about1.frames = Frame.invoking theMethod args0 :: below0 := rfl
set_option maxRecDepth 65536 in
theorem w_args : argsFit about1.vm theMethod args0 = true := by decide +kernel
set_option maxRecDepth 65536 in
theorem w_heap : heapFits about1 = true := by decide +kernel
set_option maxRecDepth 65536 in
theorem w_runnable : about1.curStatus? = some .runnable := by decide +kernel
set_option maxRecDepth 65536 in
theorem w_alone : about1.alone = true := by decide +kernel
set_option maxRecDepth 65536 in
theorem w_named : about1.methodNamed? x = some theMethod := by decide +kernel
set_option maxRecDepth 65536 in
theorem w_hears : about1.hears theMethod below0 = true := by decide +kernel
set_option maxRecDepth 65536 in
theorem w_ripe : about1.ripe theMethod args0 below0 = true := by decide +kernel
theorem w_running : about1.status = .running := rfl
set_option maxRecDepth 65536 in
theorem w_room : about1.hasRoom e0.platform room_1 = true :=
  launch0.hasRoom_least _ room_1 (by decide +kernel) (by decide +kernel) (by decide +kernel) (by decide +kernel) (by decide +kernel) (by decide +kernel)
theorem allAtoms_all (ts : List Jvm.Cond) (a : Array Jvm.Value) (st : Jvm.State) : (allAtoms ts).before a st = ts.all (fun c => c.before a st) := by
  induction ts with
  | nil => rfl
  | cons c t ih =>
    show (Jvm.Cond.and c (allAtoms t)).before a st = _
    rw [Jvm.Cond.before_and, ih, List.all_cons]
def words1 : List Jvm.Cond := Jvm.Cond.code x code maxLocals ret :: tables_1
/-- a 'code' word, met by the world's own term for the bytes: nothing is compared byte by byte -/
theorem code_word {y : MethodName} {bytes : ByteArray} {mx : Nat} {rt : Option FieldType} {a : Array Value} {s : State} {m : MethodId} {meth : Method} {c : Code} (h1 : s.methodNamed? y = some m) (h2 : s.vm.method? m = some meth) (h3 : meth.code = some c) (h4 : c.code = bytes)
    (h5 : (c.maxLocals == mx && c.exceptionTable.isEmpty && decide (c.maxStack ≤ mostOperands) && decide (meth.sig.returnType = rt) && !meth.locks && decide (parseMethodDescriptor y.desc = some meth.sig)) = true) : (Jvm.Cond.code y bytes mx rt).before a s = true := by
  simp only [Bool.and_eq_true, beq_iff_eq, Bool.not_eq_true', decide_eq_true_eq] at h5
  obtain ⟨⟨⟨⟨⟨g1, g2⟩, g3⟩, g4⟩, g5⟩, g6⟩ := h5
  simp [Cond.before, Cond.holds, Cond.value, h1, h2, h3, h4, g1, g2, g3, g4, g5, g6]
def isCode : Jvm.Cond → Bool
  | .code _ _ _ _ => true
  | _ => false
theorem all_split {L : List Jvm.Cond} {P : Jvm.Cond → Bool} (h1 : L.all (fun c => isCode c || P c) = true) (h2 : ∀ c ∈ L.filter isCode, P c = true) : L.all P = true := by
  refine List.all_eq_true.mpr fun c hc => ?_
  have h := List.all_eq_true.mp h1 c hc
  rcases Bool.eq_false_or_eq_true (isCode c) with hi | hi
  · exact h2 c (List.mem_filter.mpr ⟨hc, hi⟩)
  · simpa [hi] using h
set_option maxRecDepth 65536 in
theorem w_c0 : (Jvm.Cond.code x code maxLocals ret).before args0 about1 = true := code_word (m := ⟨1, 1⟩) (meth := k1m1) (c := k1c1) (by decide +kernel) rfl rfl rfl (by decide +kernel)
set_option maxRecDepth 65536 in
theorem w_c1 : (Jvm.Cond.code ({ cls := "com/example/ontology_reasoner/ontologyreasoner/engine/Agenda", name := "<init>", desc := "()V" } : Jvm.MethodName) prog_1_method_1_code (1 : Nat) (Option.none : Option Jvm.ClassFile.FieldType)).before args0 about1 = true := code_word (m := ⟨2, 0⟩) (meth := k2m0) (c := k2c0) (by decide +kernel) rfl rfl rfl (by decide +kernel)
set_option maxRecDepth 65536 in
theorem w_c2 : (Jvm.Cond.code ({ cls := "java/lang/Object", name := "<init>", desc := "()V" } : Jvm.MethodName) object_method_1_code (1 : Nat) (Option.none : Option Jvm.ClassFile.FieldType)).before args0 about1 = true := code_word (m := ⟨0, 0⟩) (meth := k0m0) (c := k0c0) (by decide +kernel) rfl rfl rfl (by decide +kernel)
set_option maxRecDepth 65536 in
theorem w_c3 : (Jvm.Cond.code ({ cls := "com/example/ontology_reasoner/ontologyreasoner/engine/Agenda", name := "isEmpty", desc := "()Z" } : Jvm.MethodName) prog_1_method_2_code (1 : Nat) (Option.some Jvm.ClassFile.FieldType.boolean)).before args0 about1 = true := code_word (m := ⟨2, 1⟩) (meth := k2m1) (c := k2c1) (by decide +kernel) rfl rfl rfl (by decide +kernel)
set_option maxRecDepth 65536 in
theorem w_c4 : (Jvm.Cond.code ({ cls := "com/example/ontology_reasoner/ontologyreasoner/engine/Agenda", name := "restore", desc := "(II)V" } : Jvm.MethodName) prog_1_method_9_code (3 : Nat) (Option.none : Option Jvm.ClassFile.FieldType)).before args0 about1 = true := code_word (m := ⟨2, 4⟩) (meth := k2m4) (c := k2c4) (by decide +kernel) rfl rfl rfl (by decide +kernel)
set_option maxRecDepth 65536 in
theorem w_c5 : (Jvm.Cond.code ({ cls := "com/example/ontology_reasoner/ontologyreasoner/engine/Agenda", name := "push", desc := "(Lcom/example/ontology_reasoner/ontologyreasoner/engine/Node;I)V" } : Jvm.MethodName) prog_1_method_3_code (3 : Nat) (Option.none : Option Jvm.ClassFile.FieldType)).before args0 about1 = true := code_word (m := ⟨2, 2⟩) (meth := k2m2) (c := k2c2) (by decide +kernel) rfl rfl rfl (by decide +kernel)
set_option maxRecDepth 65536 in
theorem w_c6 : (Jvm.Cond.code ({ cls := "com/example/ontology_reasoner/ontologyreasoner/engine/Agenda", name := "pop", desc := "()V" } : Jvm.MethodName) prog_1_method_4_code (1 : Nat) (Option.none : Option Jvm.ClassFile.FieldType)).before args0 about1 = true := code_word (m := ⟨2, 3⟩) (meth := k2m3) (c := k2c3) (by decide +kernel) rfl rfl rfl (by decide +kernel)
def codes1 : List Jvm.Cond := [Jvm.Cond.code x code maxLocals ret, Jvm.Cond.code ({ cls := "com/example/ontology_reasoner/ontologyreasoner/engine/Agenda", name := "<init>", desc := "()V" } : Jvm.MethodName) prog_1_method_1_code (1 : Nat) (Option.none : Option Jvm.ClassFile.FieldType), Jvm.Cond.code ({ cls := "java/lang/Object", name := "<init>", desc := "()V" } : Jvm.MethodName) object_method_1_code (1 : Nat) (Option.none : Option Jvm.ClassFile.FieldType), Jvm.Cond.code ({ cls := "com/example/ontology_reasoner/ontologyreasoner/engine/Agenda", name := "isEmpty", desc := "()Z" } : Jvm.MethodName) prog_1_method_2_code (1 : Nat) (Option.some Jvm.ClassFile.FieldType.boolean), Jvm.Cond.code ({ cls := "com/example/ontology_reasoner/ontologyreasoner/engine/Agenda", name := "restore", desc := "(II)V" } : Jvm.MethodName) prog_1_method_9_code (3 : Nat) (Option.none : Option Jvm.ClassFile.FieldType), Jvm.Cond.code ({ cls := "com/example/ontology_reasoner/ontologyreasoner/engine/Agenda", name := "push", desc := "(Lcom/example/ontology_reasoner/ontologyreasoner/engine/Node;I)V" } : Jvm.MethodName) prog_1_method_3_code (3 : Nat) (Option.none : Option Jvm.ClassFile.FieldType), Jvm.Cond.code ({ cls := "com/example/ontology_reasoner/ontologyreasoner/engine/Agenda", name := "pop", desc := "()V" } : Jvm.MethodName) prog_1_method_4_code (1 : Nat) (Option.none : Option Jvm.ClassFile.FieldType)]
set_option maxRecDepth 65536 in
theorem codes_eq : words1.filter isCode = codes1 := rfl
theorem w_codes : ∀ c ∈ words1.filter isCode, c.before args0 about1 = true := by
  rw [codes_eq]
  intro c hc
  simp only [codes1, List.mem_cons, List.not_mem_nil, or_false] at hc
  rcases hc with rfl | rfl | rfl | rfl | rfl | rfl | rfl
  · exact w_c0
  · exact w_c1
  · exact w_c2
  · exact w_c3
  · exact w_c4
  · exact w_c5
  · exact w_c6
set_option maxRecDepth 65536 in
theorem w_t1 : (words1.take 24).all (fun c => isCode c || c.before args0 about1) = true := by decide +kernel
set_option maxRecDepth 65536 in
theorem w_t2 : (words1.drop 24).all (fun c => isCode c || c.before args0 about1) = true := by decide +kernel
theorem w_tables : (allAtoms (Jvm.Cond.code x code maxLocals ret :: tables_1)).before args0 about1 = true := by
  rw [allAtoms_all]
  show words1.all (fun c => c.before args0 about1) = true
  refine all_split ?_ w_codes
  rw [← List.take_append_drop 24 words1, List.all_append, w_t1, w_t2]
  rfl
set_option maxRecDepth 65536 in
theorem w_case : (Jvm.Cond.and given_1 narrow_1).before args0 about1 = true := by decide +kernel
theorem w_applies : (headSpec (Jvm.Cond.code x code maxLocals ret :: tables_1) room_1).applies x e0.platform about1 = true :=
  (Spec.applies_iff w_frames).mpr ⟨w_running, w_runnable, w_alone, w_named, w_hears, w_ripe, w_room, w_tables⟩
theorem atStart : AtStart classFile x code maxLocals ret World_1 tables_1 room_1 Calls_1 rest_1 Pre_1 launch0 p0 e0 about1 theMethod args0 below0 :=
  ⟨lists_1, trivial, launch0.admits_env _ _ _, launch0.least_env, fairChoices_fair.cas, fairChoices_fair.clock, w_frames, w_args, w_heap, w_applies, trivial, trivial, w_case⟩
end start1
theorem witness_1 : WitnessClaimed_1 := ⟨start1.p0, start1.e0, start1.about1, start1.theMethod, start1.args0, start1.below0, start1.atStart⟩
end Jvm.Pilot.@@N@@
