import JvmDerived
import JvmDerived.Pilot.@@N@@Statement
import JvmDerived.Pilot.@@N@@Code
set_option linter.unusedVariables false
set_option linter.unusedSimpArgs false

namespace Jvm.Pilot.@@N@@
open Jvm Jvm.ClassFile Sem Op Lib Jvm.Free Jvm.Stand Jvm.LawKit Jvm.RoadKit Bundle Jvm.Pilot.@@N@@.Jvm.D
def QH (w : Value) (n0 : Nat) (v : Option Value) (h : Heap) (L : List Loc) : Prop := v = some w ∧ Fr n0 L
def own_at (l : List Int32) (j : Int32) : Int32 := l.getD j.toNatClampNeg 0
theorem own_getD (l : List Int32) (j : Int32) : (List.map Value.int l).getD j.toNatClampNeg (.int (0 : Int32)) = .int (own_at l j) := by
  simp only [own_at, List.getD_eq_getElem?_getD, List.getElem?_map]
  cases l[j.toNatClampNeg]? <;> rfl
def own_atJ (l : List Int64) (j : Int32) : Int64 := l.getD j.toNatClampNeg 0
theorem own_getDJ (l : List Int64) (j : Int32) : (List.map Value.long l).getD j.toNatClampNeg (.long (0 : Int64)) = .long (own_atJ l j) := by
  simp only [own_atJ, List.getD_eq_getElem?_getD, List.getElem?_map]
  cases l[j.toNatClampNeg]? <;> rfl
def QP (w : Value) (h0 : Heap) (v : Option Value) (h : Heap) (L : List Loc) : Prop := v = some w ∧ L = [] ∧ h = h0
def Runs (p : Program) (e : Env) (below : List Frame) (s : State) (Q : Option Value → Heap → List Loc → Prop) (k n : Nat) (A : State) : Prop :=
  ∃ s₂ o, Steps p.tables e below A s₂ ∧ s₂.status = .running ∧ Ended s₂ below o ∧ ∃ v L, o = .returned v ∧ Q v s₂.heap L ∧ FrameEnd s o s₂ L k n
section Ends
variable {p : Program} {l : Launch} {e : Env} {R : Room} {s : State} {m : MethodId} {args : Array Value} {below : List Frame} {meth : Method} {c : Code} {T A B : State} {locs : List Loc} {cells slots : Nat} {Q : Option Value → Heap → List Loc → Prop} {k n pc : Nat} {Ls : Array Slot} {rest : List Value}
theorem Runs.go (h : ∀ t, Steps p.tables e below B t → Steps p.tables e below A t) (q : Runs p e below s Q k n B) : Runs p e below s Q k n A := by
  obtain ⟨s₂, o, h1, h2⟩ := q; exact ⟨s₂, o, h _ h1, h2⟩
theorem Runs.endI (X : Stand p l e R s m args below meth c T locs cells slots) (hx : p.tables.exec = Jvm.exec) {z : Int32} (hret : meth.sig.returnType = some .int) (hl : meth.locks = false) (hd : decode c.code pc = .ok (.ireturn, 1)) (hQ : Q (some (.int z)) T.heap locs) (hk : cells ≤ k) (hn : slots ≤ n) : Runs p e below s Q k n (T.setTop (mkF m pc Ls (.int z :: rest))) := by
  obtain ⟨fs, hr, hrun, hended, hW, hsame⟩ := X.leave (v := some (.int z)) (fun h => by rw [hret] at h; cases h) hl
  exact ⟨_, _, retOut X hx hret rfl (Or.inl ⟨rfl, Or.inl rfl, _, rfl⟩) hd hr, hrun, hended, _, _, rfl, hQ, ⟨_, rfl⟩, hW, hsame.mono hk hn⟩
theorem Runs.endJ (X : Stand p l e R s m args below meth c T locs cells slots) (hx : p.tables.exec = Jvm.exec) {z : Int64} (hret : meth.sig.returnType = some .long) (hl : meth.locks = false) (hd : decode c.code pc = .ok (.lreturn, 1)) (hQ : Q (some (.long z)) T.heap locs) (hk : cells ≤ k) (hn : slots ≤ n) : Runs p e below s Q k n (T.setTop (mkF m pc Ls (.long z :: rest))) := by
  obtain ⟨fs, hr, hrun, hended, hW, hsame⟩ := X.leave (v := some (.long z)) (fun h => by rw [hret] at h; cases h) hl
  exact ⟨_, _, retOut X hx hret rfl (Or.inr (Or.inl ⟨rfl, rfl, _, rfl⟩)) hd hr, hrun, hended, _, _, rfl, hQ, ⟨_, rfl⟩, hW, hsame.mono hk hn⟩
theorem Runs.endN (X : Stand p l e R s m args below meth c T locs cells slots) (hx : p.tables.exec = Jvm.exec) {z : Int32} {t : FieldType} (hret : meth.sig.returnType = some t) (ht : t = .boolean ∨ t = .byte ∨ t = .char ∨ t = .short) (hl : meth.locks = false) (hd : decode c.code pc = .ok (.ireturn, 1)) (hQ : Q (some (.int (nar t z))) T.heap locs) (hk : cells ≤ k) (hn : slots ≤ n) : Runs p e below s Q k n (T.setTop (mkF m pc Ls (.int z :: rest))) := by
  obtain ⟨fs, hr, hrun, hended, hW, hsame⟩ := X.leave (v := some (.int (nar t z))) (fun h => by rw [hret] at h; cases h) hl
  exact ⟨_, _, retN X hx hret ht hd hr, hrun, hended, _, _, rfl, hQ, ⟨_, rfl⟩, hW, hsame.mono hk hn⟩
theorem Runs.endV (X : Stand p l e R s m args below meth c T locs cells slots) (hx : p.tables.exec = Jvm.exec) (hret : meth.sig.returnType = none) (hl : meth.locks = false) (hd : decode c.code pc = .ok (.return_, 1)) (hQ : Q none T.heap locs) (hk : cells ≤ k) (hn : slots ≤ n) : Runs p e below s Q k n (T.setTop (mkF m pc Ls [])) := by
  obtain ⟨fs, hr, hrun, hended, hW, hsame⟩ := X.leave (v := none) (fun _ => rfl) hl
  exact ⟨_, _, X.returnOut hx hret hd hr, hrun, hended, _, _, rfl, hQ, ⟨_, rfl⟩, hW, hsame.mono hk hn⟩
theorem Runs.endR (X : Stand p l e R s m args below meth c T locs cells slots) (hx : p.tables.exec = Jvm.exec) {z : Addr} {t : FieldType} (hret : meth.sig.returnType = some t) (ht : t.isReference = true) (hl : meth.locks = false) (hd : decode c.code pc = .ok (.areturn, 1)) (hQ : Q (some (.ref z)) T.heap locs) (hk : cells ≤ k) (hn : slots ≤ n) : Runs p e below s Q k n (T.setTop (mkF m pc Ls (.ref z :: rest))) := by
  obtain ⟨fs, hr, hrun, hended, hW, hsame⟩ := X.leave (v := some (.ref z)) (fun h => by rw [hret] at h; cases h) hl
  exact ⟨_, _, retOut X hx hret (by cases t <;> first | rfl | cases ht) (Or.inr (Or.inr (Or.inr (Or.inr ⟨rfl, ht, rfl⟩)))) hd hr, hrun, hended, _, _, rfl, hQ, ⟨_, rfl⟩, hW, hsame.mono hk hn⟩
end Ends
def own_set (l : List Int32) (j p : Int32) : List Int32 := l.set j.toNatClampNeg p
def AG (Z : State) (h : Heap) (n0 : Nat) (a : Addr) (hd tl : Int32) (l : List Int32) : Prop :=
  Exa Z h a "com/example/ontology_reasoner/ontologyreasoner/engine/Agenda" ∧ n0 ≤ a ∧ Fld Z h a "com/example/ontology_reasoner/ontologyreasoner/engine/Agenda" "head" "I" (.int hd) ∧ Fld Z h a "com/example/ontology_reasoner/ontologyreasoner/engine/Agenda" "tail" "I" (.int tl) ∧
  ∃ (b1 b2 : Addr) (c1 : Cell) (k2 : ClassId), n0 ≤ b1 ∧ n0 ≤ b2 ∧ a ≠ b1 ∧ a ≠ b2 ∧ b2 ≠ b1 ∧ Fld Z h a "com/example/ontology_reasoner/ontologyreasoner/engine/Agenda" "nodes" "[Lcom/example/ontology_reasoner/ontologyreasoner/engine/Node;" (.ref b1) ∧ Fld Z h a "com/example/ontology_reasoner/ontologyreasoner/engine/Agenda" "positions" "[I" (.ref b2) ∧
    Arr Z h b1 c1 (.object "com/example/ontology_reasoner/ontologyreasoner/engine/Node") ∧ c1.slots.size = (64 : Int32).toNatClampNeg ∧ Arv Z h b2 k2 .int (64 : Int32) (List.map Value.int l) (.int (0 : Int32))
def QA (Z : State) (n0 : Nat) (a : Addr) (hd tl : Int32) (l : List Int32) (w v : Option Value) (h : Heap) (L : List Loc) : Prop := v = w ∧ Fr n0 L ∧ AG Z h n0 a hd tl l
def own_in (j : Int32) (l : List Int32) : Prop := (¬ j < 0 ∧ j < (64 : Int32)) ∧ j.toNatClampNeg < l.length
theorem own_in.ne {j : Int32} {l : List Int32} (h : own_in j l) : ¬ j = (64 : Int32) := fun q => by subst q; exact absurd h.1.2 (by decide)

def f5_0 (hd : Int32) (tl : Int32) (ls : List Int32) : Int32 := (own_at ls (hd - (1 : Int32)))
def F5 (hd : Int32) (tl : Int32) (ls : List Int32) : Int32 := f5_0 hd tl ls
def f0_166 (x0 : Int32) (x1 : Int32) (x2 : Int32) (x3 : Int32) (w_hd : Int32) (w_tl : Int32) : Int32 := (1 : Int32)
def f0_164 (x0 : Int32) (x1 : Int32) (x2 : Int32) (x3 : Int32) : Int32 := (f0_166 x0 x1 x2 x3 ((((0 : Int32) + (1 : Int32)) + (1 : Int32)) + (1 : Int32)) ((((0 : Int32) + (1 : Int32)) + (1 : Int32)) + (1 : Int32)))
def f0_135 (x0 : Int32) (x1 : Int32) (x2 : Int32) (x3 : Int32) : Int32 := (f0_166 x0 x1 x2 x3 ((1 : Int32) + (1 : Int32)) (3 : Int32))
def f0_96 (x0 : Int32) (x1 : Int32) (x2 : Int32) (x3 : Int32) : Int32 := (if (x3 &&& (1 : Int32)) = (0 : Int32) then (f0_164 x0 x1 x2 x3) else (f0_135 x0 x1 x2 x3))
def f0_70 (x0 : Int32) (x1 : Int32) (x2 : Int32) (x3 : Int32) : Int32 := (f0_96 x0 x1 x2 x3)
def f0_42 (x0 : Int32) (x1 : Int32) (x2 : Int32) (x3 : Int32) : Int32 := (f0_70 x0 x1 x2 x3)
def f0_0 (x0 : Int32) (x1 : Int32) (x2 : Int32) (x3 : Int32) : Int32 := (f0_42 x0 x1 x2 x3)
def F0 (x0 : Int32) (x1 : Int32) (x2 : Int32) (x3 : Int32) : Int32 := f0_0 x0 x1 x2 x3
theorem li32_0 : (0 : Int32).toInt = 0 := by decide
theorem li32_1 : (1 : Int32).toInt = 1 := by decide
theorem li32_3 : (3 : Int32).toInt = 3 := by decide
theorem law_true (x0 x1 x2 x3 : Int32) : F0 x0 x1 x2 x3 = 1 := by
  simp only [F0, f0_0, f0_42, f0_70, f0_96, f0_135, f0_164, f0_166]
  split <;> rfl

theorem pd_0 : parseMethodDescriptor "()V" = some ⟨[], none⟩ := by decide +kernel
theorem pd_1 : parseMethodDescriptor "(Lcom/example/ontology_reasoner/ontologyreasoner/engine/Node;I)V" = some ⟨[(.object "com/example/ontology_reasoner/ontologyreasoner/engine/Node"), .int], none⟩ := by decide +kernel
theorem pd_2 : parseMethodDescriptor "()I" = some ⟨[], some .int⟩ := by decide +kernel
theorem pd_3 : parseMethodDescriptor "(II)V" = some ⟨[.int, .int], none⟩ := by decide +kernel
theorem d1_0 : decode prog_1_method_1_code 0 = .ok (.aload_n 0, 1) := by decide +kernel
theorem d1_1 : decode prog_1_method_1_code 1 = .ok (.invokespecial 1, 3) := by decide +kernel
theorem d1_4 : decode prog_1_method_1_code 4 = .ok (.aload_n 0, 1) := by decide +kernel
theorem d1_5 : decode prog_1_method_1_code 5 = .ok (.bipush 64, 2) := by decide +kernel
theorem d1_7 : decode prog_1_method_1_code 7 = .ok (.anewarray 7, 3) := by decide +kernel
theorem d1_10 : decode prog_1_method_1_code 10 = .ok (.putfield 9, 3) := by decide +kernel
theorem d1_13 : decode prog_1_method_1_code 13 = .ok (.aload_n 0, 1) := by decide +kernel
theorem d1_14 : decode prog_1_method_1_code 14 = .ok (.bipush 64, 2) := by decide +kernel
theorem d1_16 : decode prog_1_method_1_code 16 = .ok (.newarray .int, 2) := by decide +kernel
theorem d1_18 : decode prog_1_method_1_code 18 = .ok (.putfield 15, 3) := by decide +kernel
theorem d1_21 : decode prog_1_method_1_code 21 = .ok (.return_, 1) := by decide +kernel
theorem pn_1 : plainName "com/example/ontology_reasoner/ontologyreasoner/engine/Agenda" = true := by first | (simp [plainName, overriddenIn]; done) | decide +kernel
theorem ef_1 (m : MethodId) (x0 : Addr) : entryFrame m #[(.ref x0)] 1 = mkF m 0 #[.val (.ref x0)] [] := by first | (simp [entryFrame, mkF, argsToLocals, Value.category]; done) | rfl
set_option maxRecDepth 65536 in
set_option maxHeartbeats 40000000 in
theorem rm1 (l : Launch) (Z : State) (a0 : Array Value) (hw : ∀ d ∈ tables_1, d.before a0 Z = true) (ws : List Jvm.Cond) (x0 : Addr) (h0 : Heap) (n0 : Nat) (hn0 : n0 ≤ h0.size) (E0 : Exa Z h0 x0 "com/example/ontology_reasoner/ontologyreasoner/engine/Agenda") (ga : n0 ≤ x0) (Fh : Fld Z h0 x0 "com/example/ontology_reasoner/ontologyreasoner/engine/Agenda" "head" "I" (.int (0 : Int32))) (Ft : Fld Z h0 x0 "com/example/ontology_reasoner/ontologyreasoner/engine/Agenda" "tail" "I" (.int (0 : Int32))) (Fn : Fld Z h0 x0 "com/example/ontology_reasoner/ontologyreasoner/engine/Agenda" "nodes" "[Lcom/example/ontology_reasoner/ontologyreasoner/engine/Node;" .null) (Fp : Fld Z h0 x0 "com/example/ontology_reasoner/ontologyreasoner/engine/Agenda" "positions" "[I" .null) :
    MetFree l (⟨"com/example/ontology_reasoner/ontologyreasoner/engine/Agenda", "<init>", "()V"⟩ : MethodName) (head1 (Jvm.Cond.code (⟨"com/example/ontology_reasoner/ontologyreasoner/engine/Agenda", "<init>", "()V"⟩ : MethodName) prog_1_method_1_code 1 none :: ws) ({ frames := 1, cells := 2, slots := 128, locals := 12 } : Room)) (fun a U => a = #[(.ref x0)] ∧ Z.Warmed39 U.vm ∧ U.heap = h0) (fun _ _ _ _ _ => True) (fun _ U o U' => ∃ v L, o = .returned v ∧ QA Z n0 x0 (0 : Int32) (0 : Int32) [(0 : Int32), (0 : Int32), (0 : Int32)] none v U'.heap L ∧ FrameEnd U o U' L ({ frames := 1, cells := 2, slots := 128, locals := 12 } : Room).cells ({ frames := 1, cells := 2, slots := 128, locals := 12 } : Room).slots) := by
  refine MetFree.of_bodySF (plainFor_of_name pn_1) hisR ?_
  intro p e s m args below meth c s₁ Bd hml0 hP hK
  obtain ⟨rfl, hZ, hh⟩ := hP
  have hx := Bd.exec
  have hby := Bd.bytes
  have hml : c.maxLocals = 1 := hml0
  have hown : s.vm.findClass "com/example/ontology_reasoner/ontologyreasoner/engine/Agenda" = some m.cls := findClass_of_methodNamed Bd.named
  have hnm := (name_of_methodNamed Bd.named Bd.method).1
  have X0 : Stand p l e ({ frames := 1, cells := 2, slots := 128, locals := 12 } : Room) s m #[(.ref x0)] below meth c s₁ [] 0 0 := Stand.of_body Bd
  have e0 : s₁.heap = h0 := by rw [← hh, Bd.state]; rfl
  show Runs p e below s (QA Z n0 x0 (0 : Int32) (0 : Int32) [(0 : Int32), (0 : Int32), (0 : Int32)] none) ({ frames := 1, cells := 2, slots := 128, locals := 12 } : Room).cells ({ frames := 1, cells := 2, slots := 128, locals := 12 } : Room).slots (s₁.setTop (entryFrame m #[(.ref x0)] 1))
  rw [ef_1 m x0]
  have k_0 : ∀ (T : State) (X : Stand p l e ({ frames := 1, cells := 2, slots := 128, locals := 12 } : Room) s m #[(.ref x0)] below meth c T [] 0 0) (eT : T.heap = h0) (N : Fr n0 []), Runs p e below s (QA Z n0 x0 (0 : Int32) (0 : Int32) [(0 : Int32), (0 : Int32), (0 : Int32)] none) ({ frames := 1, cells := 2, slots := 128, locals := 12 } : Room).cells ({ frames := 1, cells := 2, slots := 128, locals := 12 } : Room).slots (T.setTop (mkF m 0 #[.val (.ref x0)] [])) := by
    intro T X eT N 
    refine Runs.go (fun _ => XS.aloadN X.here hx rfl (hb hby d1_0) rfl rfl) ?_
    show Runs p e below s _ _ _ (T.setTop (mkF m 1 #[.val (.ref x0)] [(.ref x0)]))
    obtain ⟨Ti1, Xi1, ei1, sti1⟩ := initO X hx hZ hown (hw _ (List.mem_of_getElem? (i := 6) rfl)) (hw _ (List.mem_of_getElem? (i := 7) rfl)) (hw _ (List.mem_of_getElem? (i := 8) rfl)) eT (g := (mkF m 1 #[.val (.ref x0)] [(.ref x0)])) rfl (by rw [hml]; rfl) rfl (hb hby d1_1) (by decide) (W := 0) (by show 2 * 0 + _ ≤ _; exact Nat.le_of_eq rfl) (by decide)
    refine Runs.go sti1 ?_
    show Runs p e below s _ _ _ (Ti1.setTop (mkF m 4 #[.val (.ref x0)] []))
    refine Runs.go (fun _ => XS.aloadN Xi1.here hx rfl (hb hby d1_4) rfl rfl) ?_
    show Runs p e below s _ _ _ (Ti1.setTop (mkF m 5 #[.val (.ref x0)] [(.ref x0)]))
    refine Runs.go (fun _ => XS.bipush Xi1.here hx rfl (hb hby d1_5)) ?_
    show Runs p e below s _ _ _ (Ti1.setTop (mkF m 7 #[.val (.ref x0)] [(.int (64 : Int32)), (.ref x0)]))
    obtain ⟨Ta7_1, ha7_1, ka7_1, Xa7_1, ea7_1, Ea7_1, Aa7_1, Oa7_1, sta7_1⟩ := newR Xi1 hx hZ hown (hw _ (List.mem_of_getElem? (i := 9) rfl)) (hw _ (List.mem_of_getElem? (i := 10) rfl)) ei1 (g := (mkF m 7 #[.val (.ref x0)] [(.int (64 : Int32)), (.ref x0)])) rfl (hb hby d1_7) rfl (by decide) (cap := 64) (by decide) (by decide) (by decide) (by decide)
    obtain ⟨ba7_1, ga7_1⟩ : ∃ z, z = h0.size := ⟨_, rfl⟩
    have ne_a7_1_x0 : x0 ≠ ba7_1 := Nat.ne_of_lt (Nat.lt_of_lt_of_le E0.lt (Nat.le_of_eq ga7_1.symm))
    have gb_ba7_1 : n0 ≤ ba7_1 := Nat.le_trans hn0 (Nat.le_of_eq ga7_1.symm)
    rw [← ga7_1] at Aa7_1 sta7_1
    refine Runs.go sta7_1 ?_
    have E0_a7_1 := E0.ext Ea7_1
    have Fh_a7_1 := Fh.ext Ea7_1
    have Ft_a7_1 := Ft.ext Ea7_1
    have Fn_a7_1 := Fn.ext Ea7_1
    have Fp_a7_1 := Fp.ext Ea7_1
    have hna7_1 : n0 ≤ ha7_1.size := Nat.le_trans hn0 Ea7_1.1
    have Va7_1 : Arv Z ha7_1 ba7_1 ka7_1 (.object "com/example/ontology_reasoner/ontologyreasoner/engine/Node") (64 : Int32) [.null] .null := (Arv.new Aa7_1 (by decide)).pad (pad_rep [] .null 1)
    show Runs p e below s _ _ _ (Ta7_1.setTop (mkF m 10 #[.val (.ref x0)] [(.ref ba7_1), (.ref x0)]))
    obtain ⟨Tp10_2, hp10_2, Xp10_2, ep10_2, Wp10_2, stp10_2⟩ := putF Xa7_1 hx hZ hown (host := "") (Or.inl (hw _ (List.mem_of_getElem? (i := 11) rfl))) Via.refl ea7_1 Fn_a7_1 E0_a7_1 (Or.inl (hw _ (List.mem_of_getElem? (i := 12) rfl))) (hw _ (List.mem_of_getElem? (i := 1) rfl)) (ty := (.array (.object "com/example/ontology_reasoner/ontologyreasoner/engine/Node"))) (by decide) rfl rfl (g := (mkF m 10 #[.val (.ref x0)] [(.ref ba7_1), (.ref x0)])) rfl rfl (hb hby d1_10)
    refine Runs.go stp10_2 ?_
    have Fwp10_2 := Fn_a7_1.same Wp10_2
    have hnp10_2 : n0 ≤ hp10_2.size := by rw [Wr.size Wp10_2]; exact hna7_1
    have E0_p10_2 := E0_a7_1.wr Wp10_2
    have Fh_p10_2 := Fh_a7_1.other Wp10_2 (Or.inr (slot_ne (Or.inl (hw _ (List.mem_of_getElem? (i := 29) rfl))) (Or.inl (hw _ (List.mem_of_getElem? (i := 12) rfl))) (by decide) (t := .int) (t' := (.array (.object "com/example/ontology_reasoner/ontologyreasoner/engine/Node"))) (by decide) (by decide)))
    have Ft_p10_2 := Ft_a7_1.other Wp10_2 (Or.inr (slot_ne (Or.inl (hw _ (List.mem_of_getElem? (i := 22) rfl))) (Or.inl (hw _ (List.mem_of_getElem? (i := 12) rfl))) (by decide) (t := .int) (t' := (.array (.object "com/example/ontology_reasoner/ontologyreasoner/engine/Node"))) (by decide) (by decide)))
    have Fp_p10_2 := Fp_a7_1.other Wp10_2 (Or.inr (slot_ne (Or.inl (hw _ (List.mem_of_getElem? (i := 15) rfl))) (Or.inl (hw _ (List.mem_of_getElem? (i := 12) rfl))) (by decide) (t := (.array .int)) (t' := (.array (.object "com/example/ontology_reasoner/ontologyreasoner/engine/Node"))) (by decide) (by decide)))
    have Vba7_1_p10_2 := Va7_1.other Wp10_2 (Ne.symm ne_a7_1_x0)
    have Np10_2 := Fr.snoc Xp10_2 N ga
    show Runs p e below s _ _ _ (Tp10_2.setTop (mkF m 13 #[.val (.ref x0)] []))
    refine Runs.go (fun _ => XS.aloadN Xp10_2.here hx rfl (hb hby d1_13) rfl rfl) ?_
    show Runs p e below s _ _ _ (Tp10_2.setTop (mkF m 14 #[.val (.ref x0)] [(.ref x0)]))
    refine Runs.go (fun _ => XS.bipush Xp10_2.here hx rfl (hb hby d1_14)) ?_
    show Runs p e below s _ _ _ (Tp10_2.setTop (mkF m 16 #[.val (.ref x0)] [(.int (64 : Int32)), (.ref x0)]))
    obtain ⟨Ta16_3, ha16_3, ka16_3, Xa16_3, ea16_3, Ea16_3, Aa16_3, sta16_3⟩ := newP Xp10_2 hx hZ (hw _ (List.mem_of_getElem? (i := 13) rfl)) ep10_2 (g := (mkF m 16 #[.val (.ref x0)] [(.int (64 : Int32)), (.ref x0)])) rfl (hb hby d1_16) rfl (by decide) (cap := 64) (by decide) (by decide) (by decide) (by decide)
    obtain ⟨ba16_3, ga16_3⟩ : ∃ z, z = hp10_2.size := ⟨_, rfl⟩
    have ne_a16_3_ba7_1 : ba7_1 ≠ ba16_3 := Nat.ne_of_lt (Nat.lt_of_lt_of_le Vba7_1_p10_2.lt (Nat.le_of_eq ga16_3.symm))
    have ne_a16_3_x0 : x0 ≠ ba16_3 := Nat.ne_of_lt (Nat.lt_of_lt_of_le E0_p10_2.lt (Nat.le_of_eq ga16_3.symm))
    have gb_ba16_3 : n0 ≤ ba16_3 := Nat.le_trans hnp10_2 (Nat.le_of_eq ga16_3.symm)
    rw [← ga16_3] at Aa16_3 sta16_3
    refine Runs.go sta16_3 ?_
    have E0_a16_3 := E0_p10_2.ext Ea16_3
    have Fh_a16_3 := Fh_p10_2.ext Ea16_3
    have Ft_a16_3 := Ft_p10_2.ext Ea16_3
    have Fn_a16_3 := Fwp10_2.ext Ea16_3
    have Fp_a16_3 := Fp_p10_2.ext Ea16_3
    have Vba7_1_a16_3 := Vba7_1_p10_2.ext Ea16_3
    have hna16_3 : n0 ≤ ha16_3.size := Nat.le_trans hnp10_2 Ea16_3.1
    have Va16_3 : Arv Z ha16_3 ba16_3 ka16_3 .int (64 : Int32) [(.int (0 : Int32)), (.int (0 : Int32)), (.int (0 : Int32))] (.int (0 : Int32)) := (Arv.new Aa16_3 (by decide)).pad (pad_rep [] (.int (0 : Int32)) 3)
    show Runs p e below s _ _ _ (Ta16_3.setTop (mkF m 18 #[.val (.ref x0)] [(.ref ba16_3), (.ref x0)]))
    obtain ⟨Tp18_4, hp18_4, Xp18_4, ep18_4, Wp18_4, stp18_4⟩ := putF Xa16_3 hx hZ hown (host := "") (Or.inl (hw _ (List.mem_of_getElem? (i := 14) rfl))) Via.refl ea16_3 Fp_a16_3 E0_a16_3 (Or.inl (hw _ (List.mem_of_getElem? (i := 15) rfl))) (hw _ (List.mem_of_getElem? (i := 1) rfl)) (ty := (.array .int)) (by decide) rfl rfl (g := (mkF m 18 #[.val (.ref x0)] [(.ref ba16_3), (.ref x0)])) rfl rfl (hb hby d1_18)
    refine Runs.go stp18_4 ?_
    have Fwp18_4 := Fp_a16_3.same Wp18_4
    have hnp18_4 : n0 ≤ hp18_4.size := by rw [Wr.size Wp18_4]; exact hna16_3
    have E0_p18_4 := E0_a16_3.wr Wp18_4
    have Fh_p18_4 := Fh_a16_3.other Wp18_4 (Or.inr (slot_ne (Or.inl (hw _ (List.mem_of_getElem? (i := 29) rfl))) (Or.inl (hw _ (List.mem_of_getElem? (i := 15) rfl))) (by decide) (t := .int) (t' := (.array .int)) (by decide) (by decide)))
    have Ft_p18_4 := Ft_a16_3.other Wp18_4 (Or.inr (slot_ne (Or.inl (hw _ (List.mem_of_getElem? (i := 22) rfl))) (Or.inl (hw _ (List.mem_of_getElem? (i := 15) rfl))) (by decide) (t := .int) (t' := (.array .int)) (by decide) (by decide)))
    have Fn_p18_4 := Fn_a16_3.other Wp18_4 (Or.inr (slot_ne (Or.inl (hw _ (List.mem_of_getElem? (i := 12) rfl))) (Or.inl (hw _ (List.mem_of_getElem? (i := 15) rfl))) (by decide) (t := (.array (.object "com/example/ontology_reasoner/ontologyreasoner/engine/Node"))) (t' := (.array .int)) (by decide) (by decide)))
    have Vba7_1_p18_4 := Vba7_1_a16_3.other Wp18_4 (Ne.symm ne_a7_1_x0)
    have Vba16_3_p18_4 := Va16_3.other Wp18_4 (Ne.symm ne_a16_3_x0)
    have Np18_4 := Fr.snoc Xp18_4 Np10_2 ga
    show Runs p e below s _ _ _ (Tp18_4.setTop (mkF m 21 #[.val (.ref x0)] []))
    exact Runs.endV Xp18_4 hx Bd.returns Bd.notSynchronized (hb hby d1_21) ⟨rfl, Np18_4, by rw [ep18_4]; obtain ⟨c1, Ar1, -, S1, -⟩ := Vba7_1_p18_4; exact ⟨E0_p18_4, ga, Fh_p18_4, Ft_p18_4, ba7_1, ba16_3, c1, _, gb_ba7_1, gb_ba16_3, ne_a7_1_x0, ne_a16_3_x0, (Ne.symm ne_a16_3_ba7_1), Fn_p18_4, Fwp18_4, Ar1, S1, Vba16_3_p18_4⟩⟩ (by decide) (by decide)
  exact k_0 _ X0 e0 (Fr.nil n0)
theorem d3_0 : decode prog_1_method_3_code 0 = .ok (.aload_n 0, 1) := by decide +kernel
theorem d3_1 : decode prog_1_method_3_code 1 = .ok (.getfield 23, 3) := by decide +kernel
theorem d3_4 : decode prog_1_method_3_code 4 = .ok (.aload_n 0, 1) := by decide +kernel
theorem d3_5 : decode prog_1_method_3_code 5 = .ok (.getfield 9, 3) := by decide +kernel
theorem d3_8 : decode prog_1_method_3_code 8 = .ok (.arraylength, 1) := by decide +kernel
theorem d3_9 : decode prog_1_method_3_code 9 = .ok (.if_icmp .ne 40, 3) := by decide +kernel
theorem d3_49 : decode prog_1_method_3_code 49 = .ok (.aload_n 0, 1) := by decide +kernel
theorem d3_50 : decode prog_1_method_3_code 50 = .ok (.getfield 9, 3) := by decide +kernel
theorem d3_53 : decode prog_1_method_3_code 53 = .ok (.aload_n 0, 1) := by decide +kernel
theorem d3_54 : decode prog_1_method_3_code 54 = .ok (.getfield 23, 3) := by decide +kernel
theorem d3_57 : decode prog_1_method_3_code 57 = .ok (.aload_n 1, 1) := by decide +kernel
theorem d3_58 : decode prog_1_method_3_code 58 = .ok (.aastore, 1) := by decide +kernel
theorem d3_59 : decode prog_1_method_3_code 59 = .ok (.aload_n 0, 1) := by decide +kernel
theorem d3_60 : decode prog_1_method_3_code 60 = .ok (.getfield 15, 3) := by decide +kernel
theorem d3_63 : decode prog_1_method_3_code 63 = .ok (.aload_n 0, 1) := by decide +kernel
theorem d3_64 : decode prog_1_method_3_code 64 = .ok (.getfield 23, 3) := by decide +kernel
theorem d3_67 : decode prog_1_method_3_code 67 = .ok (.iload_n 2, 1) := by decide +kernel
theorem d3_68 : decode prog_1_method_3_code 68 = .ok (.iastore, 1) := by decide +kernel
theorem d3_69 : decode prog_1_method_3_code 69 = .ok (.aload_n 0, 1) := by decide +kernel
theorem d3_70 : decode prog_1_method_3_code 70 = .ok (.dup, 1) := by decide +kernel
theorem d3_71 : decode prog_1_method_3_code 71 = .ok (.getfield 23, 3) := by decide +kernel
theorem d3_74 : decode prog_1_method_3_code 74 = .ok (.iconst 1, 1) := by decide +kernel
theorem d3_75 : decode prog_1_method_3_code 75 = .ok (.iadd, 1) := by decide +kernel
theorem d3_76 : decode prog_1_method_3_code 76 = .ok (.putfield 23, 3) := by decide +kernel
theorem d3_79 : decode prog_1_method_3_code 79 = .ok (.return_, 1) := by decide +kernel
theorem pn_3 : plainName "com/example/ontology_reasoner/ontologyreasoner/engine/Agenda" = true := by first | (simp [plainName, overriddenIn]; done) | decide +kernel
theorem ef_3 (m : MethodId) (x0 : Addr) (x2 : Int32) : entryFrame m #[(.ref x0), .null, (.int x2)] 3 = mkF m 0 #[.val (.ref x0), .val .null, .val (.int x2)] [] := by first | (simp [entryFrame, mkF, argsToLocals, Value.category]; done) | rfl
set_option maxRecDepth 65536 in
set_option maxHeartbeats 40000000 in
theorem rm3 (l : Launch) (Z : State) (a0 : Array Value) (hw : ∀ d ∈ tables_1, d.before a0 Z = true) (ws : List Jvm.Cond) (x0 : Addr) (x2 : Int32) (hd tl : Int32) (ls : List Int32) (h0 : Heap) (n0 : Nat) (hn0 : n0 ≤ h0.size) (G : AG Z h0 n0 x0 hd tl ls) (hT : own_in tl ls) :
    MetFree l (⟨"com/example/ontology_reasoner/ontologyreasoner/engine/Agenda", "push", "(Lcom/example/ontology_reasoner/ontologyreasoner/engine/Node;I)V"⟩ : MethodName) (head1 (Jvm.Cond.code (⟨"com/example/ontology_reasoner/ontologyreasoner/engine/Agenda", "push", "(Lcom/example/ontology_reasoner/ontologyreasoner/engine/Node;I)V"⟩ : MethodName) prog_1_method_3_code 3 none :: ws) ({ frames := 0, cells := 0, slots := 0, locals := 0 } : Room)) (fun a U => a = #[(.ref x0), .null, (.int x2)] ∧ Z.Warmed39 U.vm ∧ U.heap = h0) (fun _ _ _ _ _ => True) (fun _ U o U' => ∃ v L, o = .returned v ∧ QA Z n0 x0 hd (tl + (1 : Int32)) (own_set ls tl x2) none v U'.heap L ∧ FrameEnd U o U' L ({ frames := 0, cells := 0, slots := 0, locals := 0 } : Room).cells ({ frames := 0, cells := 0, slots := 0, locals := 0 } : Room).slots) := by
  refine MetFree.of_bodySF (plainFor_of_name pn_3) hisR ?_
  intro p e s m args below meth c s₁ Bd hml0 hP hK
  obtain ⟨rfl, hZ, hh⟩ := hP
  have hx := Bd.exec
  have hby := Bd.bytes
  have hml : c.maxLocals = 3 := hml0
  have hown : s.vm.findClass "com/example/ontology_reasoner/ontologyreasoner/engine/Agenda" = some m.cls := findClass_of_methodNamed Bd.named
  have hnm := (name_of_methodNamed Bd.named Bd.method).1
  have X0 : Stand p l e ({ frames := 0, cells := 0, slots := 0, locals := 0 } : Room) s m #[(.ref x0), .null, (.int x2)] below meth c s₁ [] 0 0 := Stand.of_body Bd
  have e0 : s₁.heap = h0 := by rw [← hh, Bd.state]; rfl
  obtain ⟨E0, ga, Fh, Ft, b1, b2, c1, k2, g1, g2, n1, n2, n3, Fn, Fp, Ar1, S1, V2⟩ := G
  show Runs p e below s (QA Z n0 x0 hd (tl + (1 : Int32)) (own_set ls tl x2) none) ({ frames := 0, cells := 0, slots := 0, locals := 0 } : Room).cells ({ frames := 0, cells := 0, slots := 0, locals := 0 } : Room).slots (s₁.setTop (entryFrame m #[(.ref x0), .null, (.int x2)] 3))
  rw [ef_3 m x0 x2]
  have k_0 : ∀ (T : State) (X : Stand p l e ({ frames := 0, cells := 0, slots := 0, locals := 0 } : Room) s m #[(.ref x0), .null, (.int x2)] below meth c T [] 0 0) (eT : T.heap = h0) (N : Fr n0 []), Runs p e below s (QA Z n0 x0 hd (tl + (1 : Int32)) (own_set ls tl x2) none) ({ frames := 0, cells := 0, slots := 0, locals := 0 } : Room).cells ({ frames := 0, cells := 0, slots := 0, locals := 0 } : Room).slots (T.setTop (mkF m 0 #[.val (.ref x0), .val .null, .val (.int x2)] [])) := by
    intro T X eT N 
    refine Runs.go (fun _ => XS.aloadN X.here hx rfl (hb hby d3_0) rfl rfl) ?_
    show Runs p e below s _ _ _ (T.setTop (mkF m 1 #[.val (.ref x0), .val .null, .val (.int x2)] [(.ref x0)]))
    obtain ⟨Tf1_1, Xf1_1, ef1_1, stf1_1⟩ := getF X hx hZ hown (host := "") (Or.inl (hw _ (List.mem_of_getElem? (i := 21) rfl))) Via.refl eT Ft (g := (mkF m 1 #[.val (.ref x0), .val .null, .val (.int x2)] [(.ref x0)])) rfl rfl (hb hby d3_1)
    refine Runs.go stf1_1 ?_
    show Runs p e below s _ _ _ (Tf1_1.setTop (mkF m 4 #[.val (.ref x0), .val .null, .val (.int x2)] [(.int tl)]))
    refine Runs.go (fun _ => XS.aloadN Xf1_1.here hx rfl (hb hby d3_4) rfl rfl) ?_
    show Runs p e below s _ _ _ (Tf1_1.setTop (mkF m 5 #[.val (.ref x0), .val .null, .val (.int x2)] [(.ref x0), (.int tl)]))
    obtain ⟨Tf5_2, Xf5_2, ef5_2, stf5_2⟩ := getF Xf1_1 hx hZ hown (host := "") (Or.inl (hw _ (List.mem_of_getElem? (i := 11) rfl))) Via.refl ef1_1 Fn (g := (mkF m 5 #[.val (.ref x0), .val .null, .val (.int x2)] [(.ref x0), (.int tl)])) rfl rfl (hb hby d3_5)
    refine Runs.go stf5_2 ?_
    show Runs p e below s _ _ _ (Tf5_2.setTop (mkF m 8 #[.val (.ref x0), .val .null, .val (.int x2)] [(.ref b1), (.int tl)]))
    refine Runs.go (Xf5_2.arraylength hx (by rw [ef5_2]; exact Ar1.1) (State.isArrayOf_alike hZ.alike Ar1.2.1) (g := (mkF m 8 #[.val (.ref x0), .val .null, .val (.int x2)] [(.ref b1), (.int tl)])) rfl rfl (hb hby d3_8)) ?_
    rw [len_of S1 (by decide)]
    show Runs p e below s _ _ _ (Tf5_2.setTop (mkF m 9 #[.val (.ref x0), .val .null, .val (.int x2)] [(.int (64 : Int32)), (.int tl)]))
    refine Runs.go (fun _ => XS.icmpYes Xf5_2.here hx rfl (pc0 := 9) (pc' := 49) rfl (hb hby d3_9) rfl (feq (hT.ne : ¬ (tl = (64 : Int32)))).2 (by decide) (by decide)) ?_
    show Runs p e below s _ _ _ (Tf5_2.setTop (mkF m 49 #[.val (.ref x0), .val .null, .val (.int x2)] []))
    refine Runs.go (fun _ => XS.aloadN Xf5_2.here hx rfl (hb hby d3_49) rfl rfl) ?_
    show Runs p e below s _ _ _ (Tf5_2.setTop (mkF m 50 #[.val (.ref x0), .val .null, .val (.int x2)] [(.ref x0)]))
    obtain ⟨Tf50_4, Xf50_4, ef50_4, stf50_4⟩ := getF Xf5_2 hx hZ hown (host := "") (Or.inl (hw _ (List.mem_of_getElem? (i := 11) rfl))) Via.refl ef5_2 Fn (g := (mkF m 50 #[.val (.ref x0), .val .null, .val (.int x2)] [(.ref x0)])) rfl rfl (hb hby d3_50)
    refine Runs.go stf50_4 ?_
    show Runs p e below s _ _ _ (Tf50_4.setTop (mkF m 53 #[.val (.ref x0), .val .null, .val (.int x2)] [(.ref b1)]))
    refine Runs.go (fun _ => XS.aloadN Xf50_4.here hx rfl (hb hby d3_53) rfl rfl) ?_
    show Runs p e below s _ _ _ (Tf50_4.setTop (mkF m 54 #[.val (.ref x0), .val .null, .val (.int x2)] [(.ref x0), (.ref b1)]))
    obtain ⟨Tf54_5, Xf54_5, ef54_5, stf54_5⟩ := getF Xf50_4 hx hZ hown (host := "") (Or.inl (hw _ (List.mem_of_getElem? (i := 21) rfl))) Via.refl ef50_4 Ft (g := (mkF m 54 #[.val (.ref x0), .val .null, .val (.int x2)] [(.ref x0), (.ref b1)])) rfl rfl (hb hby d3_54)
    refine Runs.go stf54_5 ?_
    show Runs p e below s _ _ _ (Tf54_5.setTop (mkF m 57 #[.val (.ref x0), .val .null, .val (.int x2)] [(.int tl), (.ref b1)]))
    refine Runs.go (fun _ => XS.aloadN Xf54_5.here hx rfl (hb hby d3_57) rfl rfl) ?_
    show Runs p e below s _ _ _ (Tf54_5.setTop (mkF m 58 #[.val (.ref x0), .val .null, .val (.int x2)] [.null, (.int tl), (.ref b1)]))
    have hinw58_6 : ¬ (tl < 0 ∨ c1.slots.size ≤ (tl).toNatClampNeg) := inb_of S1 hT.1
    obtain ⟨Tw58_6, hw58_6, Xw58_6, ew58_6, Ww58_6, stw58_6⟩ := stR Xf54_5 hx hZ ef54_5 Ar1 (j := tl) hinw58_6 rfl (Or.inl rfl) (g := (mkF m 58 #[.val (.ref x0), .val .null, .val (.int x2)] [.null, (.int tl), (.ref b1)])) rfl rfl (hb hby d3_58)
    refine Runs.go stw58_6 ?_
    have Arw58_6 := Ar1.same Ww58_6
    have Sw58_6 := (sz_set c1 (tl).toNatClampNeg .null).trans S1
    have hnw58_6 : n0 ≤ hw58_6.size := by rw [Wr.size Ww58_6]; exact hn0
    have E0_w58_6 := E0.wr Ww58_6
    have Fh_w58_6 := Fh.other Ww58_6 (Or.inl n1)
    have Ft_w58_6 := Ft.other Ww58_6 (Or.inl n1)
    have Fn_w58_6 := Fn.other Ww58_6 (Or.inl n1)
    have Fp_w58_6 := Fp.other Ww58_6 (Or.inl n1)
    have V2_w58_6 := V2.other Ww58_6 n3
    have Nw58_6 := Fr.snoc Xw58_6 N g1
    show Runs p e below s _ _ _ (Tw58_6.setTop (mkF m 59 #[.val (.ref x0), .val .null, .val (.int x2)] []))
    refine Runs.go (fun _ => XS.aloadN Xw58_6.here hx rfl (hb hby d3_59) rfl rfl) ?_
    show Runs p e below s _ _ _ (Tw58_6.setTop (mkF m 60 #[.val (.ref x0), .val .null, .val (.int x2)] [(.ref x0)]))
    obtain ⟨Tf60_7, Xf60_7, ef60_7, stf60_7⟩ := getF Xw58_6 hx hZ hown (host := "") (Or.inl (hw _ (List.mem_of_getElem? (i := 14) rfl))) Via.refl ew58_6 Fp_w58_6 (g := (mkF m 60 #[.val (.ref x0), .val .null, .val (.int x2)] [(.ref x0)])) rfl rfl (hb hby d3_60)
    refine Runs.go stf60_7 ?_
    show Runs p e below s _ _ _ (Tf60_7.setTop (mkF m 63 #[.val (.ref x0), .val .null, .val (.int x2)] [(.ref b2)]))
    refine Runs.go (fun _ => XS.aloadN Xf60_7.here hx rfl (hb hby d3_63) rfl rfl) ?_
    show Runs p e below s _ _ _ (Tf60_7.setTop (mkF m 64 #[.val (.ref x0), .val .null, .val (.int x2)] [(.ref x0), (.ref b2)]))
    obtain ⟨Tf64_8, Xf64_8, ef64_8, stf64_8⟩ := getF Xf60_7 hx hZ hown (host := "") (Or.inl (hw _ (List.mem_of_getElem? (i := 21) rfl))) Via.refl ef60_7 Ft_w58_6 (g := (mkF m 64 #[.val (.ref x0), .val .null, .val (.int x2)] [(.ref x0), (.ref b2)])) rfl rfl (hb hby d3_64)
    refine Runs.go stf64_8 ?_
    show Runs p e below s _ _ _ (Tf64_8.setTop (mkF m 67 #[.val (.ref x0), .val .null, .val (.int x2)] [(.int tl), (.ref b2)]))
    refine Runs.go (fun _ => XS.iloadN Xf64_8.here hx rfl (hb hby d3_67) rfl) ?_
    show Runs p e below s _ _ _ (Tf64_8.setTop (mkF m 68 #[.val (.ref x0), .val .null, .val (.int x2)] [(.int x2), (.int tl), (.ref b2)]))
    have VCw68_9 := V2_w58_6
    obtain ⟨clw68_9, Arw68_9, qw68_9, Sw68_9, Mw68_9, Hw68_9, Gw68_9⟩ := VCw68_9
    have hinw68_9 : ¬ (tl < 0 ∨ clw68_9.slots.size ≤ (tl).toNatClampNeg) := inb_of Sw68_9 hT.1
    obtain ⟨Tw68_9, hw68_9, Xw68_9, ew68_9, Ww68_9, stw68_9⟩ := stI Xf64_8 hx hZ ef64_8 Arw68_9 (j := tl) hinw68_9 (g := (mkF m 68 #[.val (.ref x0), .val .null, .val (.int x2)] [(.int x2), (.int tl), (.ref b2)])) rfl rfl (hb hby d3_68)
    refine Runs.go stw68_9 ?_
    have hnw68_9 : n0 ≤ hw68_9.size := by rw [Wr.size Ww68_9]; exact hnw58_6
    have E0_w68_9 := E0_w58_6.wr Ww68_9
    have Fh_w68_9 := Fh_w58_6.other Ww68_9 (Or.inl n2)
    have Ft_w68_9 := Ft_w58_6.other Ww68_9 (Or.inl n2)
    have Fn_w68_9 := Fn_w58_6.other Ww68_9 (Or.inl n2)
    have Fp_w68_9 := Fp_w58_6.other Ww68_9 (Or.inl n2)
    have Ar1_w68_9 := Arw58_6.other Ww68_9 (Ne.symm n3)
    have Vw68_9 : Arv Z hw68_9 b2 k2 .int (64 : Int32) (List.map Value.int (own_set ls tl x2)) (.int (0 : Int32)) := by
        rw [own_set, List.map_set]; exact Arv.set Arw68_9 qw68_9 Sw68_9 Mw68_9 Hw68_9 Gw68_9 rfl Ww68_9 _ rfl (by rw [List.length_map]; exact hT.2)
    have Nw68_9 := Fr.snoc Xw68_9 Nw58_6 g2
    show Runs p e below s _ _ _ (Tw68_9.setTop (mkF m 69 #[.val (.ref x0), .val .null, .val (.int x2)] []))
    refine Runs.go (fun _ => XS.aloadN Xw68_9.here hx rfl (hb hby d3_69) rfl rfl) ?_
    show Runs p e below s _ _ _ (Tw68_9.setTop (mkF m 70 #[.val (.ref x0), .val .null, .val (.int x2)] [(.ref x0)]))
    refine Runs.go (fun _ => XS.dup Xw68_9.here hx rfl (hb hby d3_70) rfl rfl) ?_
    show Runs p e below s _ _ _ (Tw68_9.setTop (mkF m 71 #[.val (.ref x0), .val .null, .val (.int x2)] [(.ref x0), (.ref x0)]))
    obtain ⟨Tf71_10, Xf71_10, ef71_10, stf71_10⟩ := getF Xw68_9 hx hZ hown (host := "") (Or.inl (hw _ (List.mem_of_getElem? (i := 21) rfl))) Via.refl ew68_9 Ft_w68_9 (g := (mkF m 71 #[.val (.ref x0), .val .null, .val (.int x2)] [(.ref x0), (.ref x0)])) rfl rfl (hb hby d3_71)
    refine Runs.go stf71_10 ?_
    show Runs p e below s _ _ _ (Tf71_10.setTop (mkF m 74 #[.val (.ref x0), .val .null, .val (.int x2)] [(.int tl), (.ref x0)]))
    refine Runs.go (fun _ => XS.iconst Xf71_10.here hx rfl (hb hby d3_74)) ?_
    show Runs p e below s _ _ _ (Tf71_10.setTop (mkF m 75 #[.val (.ref x0), .val .null, .val (.int x2)] [(.int (1 : Int32)), (.int tl), (.ref x0)]))
    refine Runs.go (fun _ => XS.iadd Xf71_10.here hx rfl (hb hby d3_75) rfl) ?_
    show Runs p e below s _ _ _ (Tf71_10.setTop (mkF m 76 #[.val (.ref x0), .val .null, .val (.int x2)] [(.int (tl + (1 : Int32))), (.ref x0)]))
    obtain ⟨Tp76_11, hp76_11, Xp76_11, ep76_11, Wp76_11, stp76_11⟩ := putF Xf71_10 hx hZ hown (host := "") (Or.inl (hw _ (List.mem_of_getElem? (i := 21) rfl))) Via.refl ef71_10 Ft_w68_9 E0_w68_9 (Or.inl (hw _ (List.mem_of_getElem? (i := 22) rfl))) (hw _ (List.mem_of_getElem? (i := 1) rfl)) (ty := .int) (by decide) rfl rfl (g := (mkF m 76 #[.val (.ref x0), .val .null, .val (.int x2)] [(.int (tl + (1 : Int32))), (.ref x0)])) rfl rfl (hb hby d3_76)
    refine Runs.go stp76_11 ?_
    have Fwp76_11 := Ft_w68_9.same Wp76_11
    have hnp76_11 : n0 ≤ hp76_11.size := by rw [Wr.size Wp76_11]; exact hnw68_9
    have E0_p76_11 := E0_w68_9.wr Wp76_11
    have Fh_p76_11 := Fh_w68_9.other Wp76_11 (Or.inr (slot_ne (Or.inl (hw _ (List.mem_of_getElem? (i := 29) rfl))) (Or.inl (hw _ (List.mem_of_getElem? (i := 22) rfl))) (by decide) (t := .int) (t' := .int) (by decide) (by decide)))
    have Fn_p76_11 := Fn_w68_9.other Wp76_11 (Or.inr (slot_ne (Or.inl (hw _ (List.mem_of_getElem? (i := 12) rfl))) (Or.inl (hw _ (List.mem_of_getElem? (i := 22) rfl))) (by decide) (t := (.array (.object "com/example/ontology_reasoner/ontologyreasoner/engine/Node"))) (t' := .int) (by decide) (by decide)))
    have Fp_p76_11 := Fp_w68_9.other Wp76_11 (Or.inr (slot_ne (Or.inl (hw _ (List.mem_of_getElem? (i := 15) rfl))) (Or.inl (hw _ (List.mem_of_getElem? (i := 22) rfl))) (by decide) (t := (.array .int)) (t' := .int) (by decide) (by decide)))
    have Ar1_p76_11 := Ar1_w68_9.other Wp76_11 (Ne.symm n1)
    have V2_p76_11 := Vw68_9.other Wp76_11 (Ne.symm n2)
    have Np76_11 := Fr.snoc Xp76_11 Nw68_9 ga
    show Runs p e below s _ _ _ (Tp76_11.setTop (mkF m 79 #[.val (.ref x0), .val .null, .val (.int x2)] []))
    exact Runs.endV Xp76_11 hx Bd.returns Bd.notSynchronized (hb hby d3_79) ⟨rfl, Np76_11, by rw [ep76_11]; exact ⟨E0_p76_11, ga, Fh_p76_11, Fwp76_11, b1, b2, _, k2, g1, g2, n1, n2, n3, Fn_p76_11, Fp_p76_11, Ar1_p76_11, Sw58_6, V2_p76_11⟩⟩ (by decide) (by decide)
  exact k_0 _ X0 e0 (Fr.nil n0)
theorem d4_0 : decode prog_1_method_4_code 0 = .ok (.aload_n 0, 1) := by decide +kernel
theorem d4_1 : decode prog_1_method_4_code 1 = .ok (.dup, 1) := by decide +kernel
theorem d4_2 : decode prog_1_method_4_code 2 = .ok (.getfield 19, 3) := by decide +kernel
theorem d4_5 : decode prog_1_method_4_code 5 = .ok (.iconst 1, 1) := by decide +kernel
theorem d4_6 : decode prog_1_method_4_code 6 = .ok (.iadd, 1) := by decide +kernel
theorem d4_7 : decode prog_1_method_4_code 7 = .ok (.putfield 19, 3) := by decide +kernel
theorem d4_10 : decode prog_1_method_4_code 10 = .ok (.return_, 1) := by decide +kernel
theorem pn_4 : plainName "com/example/ontology_reasoner/ontologyreasoner/engine/Agenda" = true := by first | (simp [plainName, overriddenIn]; done) | decide +kernel
theorem ef_4 (m : MethodId) (x0 : Addr) : entryFrame m #[(.ref x0)] 1 = mkF m 0 #[.val (.ref x0)] [] := by first | (simp [entryFrame, mkF, argsToLocals, Value.category]; done) | rfl
set_option maxRecDepth 65536 in
set_option maxHeartbeats 40000000 in
theorem rm4 (l : Launch) (Z : State) (a0 : Array Value) (hw : ∀ d ∈ tables_1, d.before a0 Z = true) (ws : List Jvm.Cond) (x0 : Addr) (hd tl : Int32) (ls : List Int32) (h0 : Heap) (n0 : Nat) (hn0 : n0 ≤ h0.size) (G : AG Z h0 n0 x0 hd tl ls) :
    MetFree l (⟨"com/example/ontology_reasoner/ontologyreasoner/engine/Agenda", "pop", "()V"⟩ : MethodName) (head1 (Jvm.Cond.code (⟨"com/example/ontology_reasoner/ontologyreasoner/engine/Agenda", "pop", "()V"⟩ : MethodName) prog_1_method_4_code 1 none :: ws) ({ frames := 0, cells := 0, slots := 0, locals := 0 } : Room)) (fun a U => a = #[(.ref x0)] ∧ Z.Warmed39 U.vm ∧ U.heap = h0) (fun _ _ _ _ _ => True) (fun _ U o U' => ∃ v L, o = .returned v ∧ QA Z n0 x0 (hd + (1 : Int32)) tl ls none v U'.heap L ∧ FrameEnd U o U' L ({ frames := 0, cells := 0, slots := 0, locals := 0 } : Room).cells ({ frames := 0, cells := 0, slots := 0, locals := 0 } : Room).slots) := by
  refine MetFree.of_bodySF (plainFor_of_name pn_4) hisR ?_
  intro p e s m args below meth c s₁ Bd hml0 hP hK
  obtain ⟨rfl, hZ, hh⟩ := hP
  have hx := Bd.exec
  have hby := Bd.bytes
  have hml : c.maxLocals = 1 := hml0
  have hown : s.vm.findClass "com/example/ontology_reasoner/ontologyreasoner/engine/Agenda" = some m.cls := findClass_of_methodNamed Bd.named
  have hnm := (name_of_methodNamed Bd.named Bd.method).1
  have X0 : Stand p l e ({ frames := 0, cells := 0, slots := 0, locals := 0 } : Room) s m #[(.ref x0)] below meth c s₁ [] 0 0 := Stand.of_body Bd
  have e0 : s₁.heap = h0 := by rw [← hh, Bd.state]; rfl
  obtain ⟨E0, ga, Fh, Ft, b1, b2, c1, k2, g1, g2, n1, n2, n3, Fn, Fp, Ar1, S1, V2⟩ := G
  show Runs p e below s (QA Z n0 x0 (hd + (1 : Int32)) tl ls none) ({ frames := 0, cells := 0, slots := 0, locals := 0 } : Room).cells ({ frames := 0, cells := 0, slots := 0, locals := 0 } : Room).slots (s₁.setTop (entryFrame m #[(.ref x0)] 1))
  rw [ef_4 m x0]
  have k_0 : ∀ (T : State) (X : Stand p l e ({ frames := 0, cells := 0, slots := 0, locals := 0 } : Room) s m #[(.ref x0)] below meth c T [] 0 0) (eT : T.heap = h0) (N : Fr n0 []), Runs p e below s (QA Z n0 x0 (hd + (1 : Int32)) tl ls none) ({ frames := 0, cells := 0, slots := 0, locals := 0 } : Room).cells ({ frames := 0, cells := 0, slots := 0, locals := 0 } : Room).slots (T.setTop (mkF m 0 #[.val (.ref x0)] [])) := by
    intro T X eT N 
    refine Runs.go (fun _ => XS.aloadN X.here hx rfl (hb hby d4_0) rfl rfl) ?_
    show Runs p e below s _ _ _ (T.setTop (mkF m 1 #[.val (.ref x0)] [(.ref x0)]))
    refine Runs.go (fun _ => XS.dup X.here hx rfl (hb hby d4_1) rfl rfl) ?_
    show Runs p e below s _ _ _ (T.setTop (mkF m 2 #[.val (.ref x0)] [(.ref x0), (.ref x0)]))
    obtain ⟨Tf2_1, Xf2_1, ef2_1, stf2_1⟩ := getF X hx hZ hown (host := "") (Or.inl (hw _ (List.mem_of_getElem? (i := 28) rfl))) Via.refl eT Fh (g := (mkF m 2 #[.val (.ref x0)] [(.ref x0), (.ref x0)])) rfl rfl (hb hby d4_2)
    refine Runs.go stf2_1 ?_
    show Runs p e below s _ _ _ (Tf2_1.setTop (mkF m 5 #[.val (.ref x0)] [(.int hd), (.ref x0)]))
    refine Runs.go (fun _ => XS.iconst Xf2_1.here hx rfl (hb hby d4_5)) ?_
    show Runs p e below s _ _ _ (Tf2_1.setTop (mkF m 6 #[.val (.ref x0)] [(.int (1 : Int32)), (.int hd), (.ref x0)]))
    refine Runs.go (fun _ => XS.iadd Xf2_1.here hx rfl (hb hby d4_6) rfl) ?_
    show Runs p e below s _ _ _ (Tf2_1.setTop (mkF m 7 #[.val (.ref x0)] [(.int (hd + (1 : Int32))), (.ref x0)]))
    obtain ⟨Tp7_2, hp7_2, Xp7_2, ep7_2, Wp7_2, stp7_2⟩ := putF Xf2_1 hx hZ hown (host := "") (Or.inl (hw _ (List.mem_of_getElem? (i := 28) rfl))) Via.refl ef2_1 Fh E0 (Or.inl (hw _ (List.mem_of_getElem? (i := 29) rfl))) (hw _ (List.mem_of_getElem? (i := 1) rfl)) (ty := .int) (by decide) rfl rfl (g := (mkF m 7 #[.val (.ref x0)] [(.int (hd + (1 : Int32))), (.ref x0)])) rfl rfl (hb hby d4_7)
    refine Runs.go stp7_2 ?_
    have Fwp7_2 := Fh.same Wp7_2
    have hnp7_2 : n0 ≤ hp7_2.size := by rw [Wr.size Wp7_2]; exact hn0
    have E0_p7_2 := E0.wr Wp7_2
    have Ft_p7_2 := Ft.other Wp7_2 (Or.inr (slot_ne (Or.inl (hw _ (List.mem_of_getElem? (i := 22) rfl))) (Or.inl (hw _ (List.mem_of_getElem? (i := 29) rfl))) (by decide) (t := .int) (t' := .int) (by decide) (by decide)))
    have Fn_p7_2 := Fn.other Wp7_2 (Or.inr (slot_ne (Or.inl (hw _ (List.mem_of_getElem? (i := 12) rfl))) (Or.inl (hw _ (List.mem_of_getElem? (i := 29) rfl))) (by decide) (t := (.array (.object "com/example/ontology_reasoner/ontologyreasoner/engine/Node"))) (t' := .int) (by decide) (by decide)))
    have Fp_p7_2 := Fp.other Wp7_2 (Or.inr (slot_ne (Or.inl (hw _ (List.mem_of_getElem? (i := 15) rfl))) (Or.inl (hw _ (List.mem_of_getElem? (i := 29) rfl))) (by decide) (t := (.array .int)) (t' := .int) (by decide) (by decide)))
    have Ar1_p7_2 := Ar1.other Wp7_2 (Ne.symm n1)
    have V2_p7_2 := V2.other Wp7_2 (Ne.symm n2)
    have Np7_2 := Fr.snoc Xp7_2 N ga
    show Runs p e below s _ _ _ (Tp7_2.setTop (mkF m 10 #[.val (.ref x0)] []))
    exact Runs.endV Xp7_2 hx Bd.returns Bd.notSynchronized (hb hby d4_10) ⟨rfl, Np7_2, by rw [ep7_2]; exact ⟨E0_p7_2, ga, Fwp7_2, Ft_p7_2, b1, b2, _, k2, g1, g2, n1, n2, n3, Fn_p7_2, Fp_p7_2, Ar1_p7_2, S1, V2_p7_2⟩⟩ (by decide) (by decide)
  exact k_0 _ X0 e0 (Fr.nil n0)
theorem d5_0 : decode prog_1_method_6_code 0 = .ok (.aload_n 0, 1) := by decide +kernel
theorem d5_1 : decode prog_1_method_6_code 1 = .ok (.getfield 15, 3) := by decide +kernel
theorem d5_4 : decode prog_1_method_6_code 4 = .ok (.aload_n 0, 1) := by decide +kernel
theorem d5_5 : decode prog_1_method_6_code 5 = .ok (.getfield 19, 3) := by decide +kernel
theorem d5_8 : decode prog_1_method_6_code 8 = .ok (.iconst 1, 1) := by decide +kernel
theorem d5_9 : decode prog_1_method_6_code 9 = .ok (.isub, 1) := by decide +kernel
theorem d5_10 : decode prog_1_method_6_code 10 = .ok (.iaload, 1) := by decide +kernel
theorem d5_11 : decode prog_1_method_6_code 11 = .ok (.ireturn, 1) := by decide +kernel
theorem pn_5 : plainName "com/example/ontology_reasoner/ontologyreasoner/engine/Agenda" = true := by first | (simp [plainName, overriddenIn]; done) | decide +kernel
theorem ef_5 (m : MethodId) (x0 : Addr) : entryFrame m #[(.ref x0)] 1 = mkF m 0 #[.val (.ref x0)] [] := by first | (simp [entryFrame, mkF, argsToLocals, Value.category]; done) | rfl
set_option maxRecDepth 65536 in
set_option maxHeartbeats 40000000 in
theorem rm5 (l : Launch) (Z : State) (a0 : Array Value) (hw : ∀ d ∈ tables_1, d.before a0 Z = true) (ws : List Jvm.Cond) (x0 : Addr) (hd tl : Int32) (ls : List Int32) (h0 : Heap) (n0 : Nat) (hn0 : n0 ≤ h0.size) (G : AG Z h0 n0 x0 hd tl ls) (hT : ¬ (hd - (1 : Int32)) < 0 ∧ (hd - (1 : Int32)) < (64 : Int32)) :
    MetFree l (⟨"com/example/ontology_reasoner/ontologyreasoner/engine/Agenda", "position", "()I"⟩ : MethodName) (head1 (Jvm.Cond.code (⟨"com/example/ontology_reasoner/ontologyreasoner/engine/Agenda", "position", "()I"⟩ : MethodName) prog_1_method_6_code 1 (some .int) :: ws) ({ frames := 0, cells := 0, slots := 0, locals := 0 } : Room)) (fun a U => a = #[(.ref x0)] ∧ Z.Warmed39 U.vm ∧ U.heap = h0) (fun _ _ _ _ _ => True) (fun _ U o U' => ∃ v L, o = .returned v ∧ QA Z n0 x0 hd tl ls (some (.int (F5 hd tl ls))) v U'.heap L ∧ FrameEnd U o U' L ({ frames := 0, cells := 0, slots := 0, locals := 0 } : Room).cells ({ frames := 0, cells := 0, slots := 0, locals := 0 } : Room).slots) := by
  refine MetFree.of_bodySF (plainFor_of_name pn_5) hisR ?_
  intro p e s m args below meth c s₁ Bd hml0 hP hK
  obtain ⟨rfl, hZ, hh⟩ := hP
  have hx := Bd.exec
  have hby := Bd.bytes
  have hml : c.maxLocals = 1 := hml0
  have hown : s.vm.findClass "com/example/ontology_reasoner/ontologyreasoner/engine/Agenda" = some m.cls := findClass_of_methodNamed Bd.named
  have hnm := (name_of_methodNamed Bd.named Bd.method).1
  have X0 : Stand p l e ({ frames := 0, cells := 0, slots := 0, locals := 0 } : Room) s m #[(.ref x0)] below meth c s₁ [] 0 0 := Stand.of_body Bd
  have e0 : s₁.heap = h0 := by rw [← hh, Bd.state]; rfl
  obtain ⟨E0, ga, Fh, Ft, b1, b2, c1, k2, g1, g2, n1, n2, n3, Fn, Fp, Ar1, S1, V2⟩ := G
  show Runs p e below s (QA Z n0 x0 hd tl ls (some (.int (F5 hd tl ls)))) ({ frames := 0, cells := 0, slots := 0, locals := 0 } : Room).cells ({ frames := 0, cells := 0, slots := 0, locals := 0 } : Room).slots (s₁.setTop (entryFrame m #[(.ref x0)] 1))
  rw [ef_5 m x0]
  obtain ⟨r, hF⟩ : ∃ r, F5 hd tl ls = r := ⟨_, rfl⟩
  rw [hF]
  have k_0 : ∀ (T : State) (X : Stand p l e ({ frames := 0, cells := 0, slots := 0, locals := 0 } : Room) s m #[(.ref x0)] below meth c T [] 0 0) (eT : T.heap = h0) (N : Fr n0 []), f5_0 hd tl ls = r → Runs p e below s (QA Z n0 x0 hd tl ls (some (.int r))) ({ frames := 0, cells := 0, slots := 0, locals := 0 } : Room).cells ({ frames := 0, cells := 0, slots := 0, locals := 0 } : Room).slots (T.setTop (mkF m 0 #[.val (.ref x0)] [])) := by
    intro T X eT N  hv
    unfold f5_0 at hv
    refine Runs.go (fun _ => XS.aloadN X.here hx rfl (hb hby d5_0) rfl rfl) ?_
    show Runs p e below s _ _ _ (T.setTop (mkF m 1 #[.val (.ref x0)] [(.ref x0)]))
    obtain ⟨Tf1_1, Xf1_1, ef1_1, stf1_1⟩ := getF X hx hZ hown (host := "") (Or.inl (hw _ (List.mem_of_getElem? (i := 14) rfl))) Via.refl eT Fp (g := (mkF m 1 #[.val (.ref x0)] [(.ref x0)])) rfl rfl (hb hby d5_1)
    refine Runs.go stf1_1 ?_
    show Runs p e below s _ _ _ (Tf1_1.setTop (mkF m 4 #[.val (.ref x0)] [(.ref b2)]))
    refine Runs.go (fun _ => XS.aloadN Xf1_1.here hx rfl (hb hby d5_4) rfl rfl) ?_
    show Runs p e below s _ _ _ (Tf1_1.setTop (mkF m 5 #[.val (.ref x0)] [(.ref x0), (.ref b2)]))
    obtain ⟨Tf5_2, Xf5_2, ef5_2, stf5_2⟩ := getF Xf1_1 hx hZ hown (host := "") (Or.inl (hw _ (List.mem_of_getElem? (i := 28) rfl))) Via.refl ef1_1 Fh (g := (mkF m 5 #[.val (.ref x0)] [(.ref x0), (.ref b2)])) rfl rfl (hb hby d5_5)
    refine Runs.go stf5_2 ?_
    show Runs p e below s _ _ _ (Tf5_2.setTop (mkF m 8 #[.val (.ref x0)] [(.int hd), (.ref b2)]))
    refine Runs.go (fun _ => XS.iconst Xf5_2.here hx rfl (hb hby d5_8)) ?_
    show Runs p e below s _ _ _ (Tf5_2.setTop (mkF m 9 #[.val (.ref x0)] [(.int (1 : Int32)), (.int hd), (.ref b2)]))
    refine Runs.go (fun _ => XS.isub Xf5_2.here hx rfl (hb hby d5_9) rfl) ?_
    show Runs p e below s _ _ _ (Tf5_2.setTop (mkF m 10 #[.val (.ref x0)] [(.int (hd - (1 : Int32))), (.ref b2)]))
    have VCr10_3 := V2
    obtain ⟨clr10_3, Arr10_3, -, Sr10_3, Mr10_3, Hr10_3, -⟩ := VCr10_3
    have hinr10_3 : ¬ ((hd - (1 : Int32)) < 0 ∨ clr10_3.slots.size ≤ ((hd - (1 : Int32))).toNatClampNeg) := inb_of Sr10_3 hT
    have hatr10_3 : clr10_3.slots[((hd - (1 : Int32))).toNatClampNeg]? = some (.int (own_at ls (hd - (1 : Int32)))) := Has.at Hr10_3 hinr10_3 (own_getD _ _)
    refine Runs.go (Xf5_2.iaload hx (j := (hd - (1 : Int32))) (v := (.int (own_at ls (hd - (1 : Int32))))) (by rw [ef5_2]; exact Arr10_3.1) (State.isArrayOf_alike hZ.alike Arr10_3.2.1) Arr10_3.2.2 hinr10_3 hatr10_3 (g := (mkF m 10 #[.val (.ref x0)] [(.int (hd - (1 : Int32))), (.ref b2)])) rfl rfl (hb hby d5_10)) ?_
    show Runs p e below s _ _ _ (Tf5_2.setTop (mkF m 11 #[.val (.ref x0)] [(.int (own_at ls (hd - (1 : Int32))))]))
    exact Runs.endI Xf5_2 hx Bd.returns Bd.notSynchronized (hb hby d5_11) ⟨congrArg (fun z => some (Value.int z)) hv, N, by rw [ef5_2]; exact ⟨E0, ga, Fh, Ft, b1, b2, _, k2, g1, g2, n1, n2, n3, Fn, Fp, Ar1, S1, V2⟩⟩ (by decide) (by decide)
  exact k_0 _ X0 e0 (Fr.nil n0) hF
theorem d6_0 : decode prog_1_method_9_code 0 = .ok (.aload_n 0, 1) := by decide +kernel
theorem d6_1 : decode prog_1_method_9_code 1 = .ok (.iload_n 1, 1) := by decide +kernel
theorem d6_2 : decode prog_1_method_9_code 2 = .ok (.putfield 19, 3) := by decide +kernel
theorem d6_5 : decode prog_1_method_9_code 5 = .ok (.aload_n 0, 1) := by decide +kernel
theorem d6_6 : decode prog_1_method_9_code 6 = .ok (.iload_n 2, 1) := by decide +kernel
theorem d6_7 : decode prog_1_method_9_code 7 = .ok (.putfield 23, 3) := by decide +kernel
theorem d6_10 : decode prog_1_method_9_code 10 = .ok (.return_, 1) := by decide +kernel
theorem pn_6 : plainName "com/example/ontology_reasoner/ontologyreasoner/engine/Agenda" = true := by first | (simp [plainName, overriddenIn]; done) | decide +kernel
theorem ef_6 (m : MethodId) (x0 : Addr) (x1 : Int32) (x2 : Int32) : entryFrame m #[(.ref x0), (.int x1), (.int x2)] 3 = mkF m 0 #[.val (.ref x0), .val (.int x1), .val (.int x2)] [] := by first | (simp [entryFrame, mkF, argsToLocals, Value.category]; done) | rfl
set_option maxRecDepth 65536 in
set_option maxHeartbeats 40000000 in
theorem rm6 (l : Launch) (Z : State) (a0 : Array Value) (hw : ∀ d ∈ tables_1, d.before a0 Z = true) (ws : List Jvm.Cond) (x0 : Addr) (x1 x2 : Int32) (hd tl : Int32) (ls : List Int32) (h0 : Heap) (n0 : Nat) (hn0 : n0 ≤ h0.size) (G : AG Z h0 n0 x0 hd tl ls) :
    MetFree l (⟨"com/example/ontology_reasoner/ontologyreasoner/engine/Agenda", "restore", "(II)V"⟩ : MethodName) (head1 (Jvm.Cond.code (⟨"com/example/ontology_reasoner/ontologyreasoner/engine/Agenda", "restore", "(II)V"⟩ : MethodName) prog_1_method_9_code 3 none :: ws) ({ frames := 0, cells := 0, slots := 0, locals := 0 } : Room)) (fun a U => a = #[(.ref x0), (.int x1), (.int x2)] ∧ Z.Warmed39 U.vm ∧ U.heap = h0) (fun _ _ _ _ _ => True) (fun _ U o U' => ∃ v L, o = .returned v ∧ QA Z n0 x0 x1 x2 ls none v U'.heap L ∧ FrameEnd U o U' L ({ frames := 0, cells := 0, slots := 0, locals := 0 } : Room).cells ({ frames := 0, cells := 0, slots := 0, locals := 0 } : Room).slots) := by
  refine MetFree.of_bodySF (plainFor_of_name pn_6) hisR ?_
  intro p e s m args below meth c s₁ Bd hml0 hP hK
  obtain ⟨rfl, hZ, hh⟩ := hP
  have hx := Bd.exec
  have hby := Bd.bytes
  have hml : c.maxLocals = 3 := hml0
  have hown : s.vm.findClass "com/example/ontology_reasoner/ontologyreasoner/engine/Agenda" = some m.cls := findClass_of_methodNamed Bd.named
  have hnm := (name_of_methodNamed Bd.named Bd.method).1
  have X0 : Stand p l e ({ frames := 0, cells := 0, slots := 0, locals := 0 } : Room) s m #[(.ref x0), (.int x1), (.int x2)] below meth c s₁ [] 0 0 := Stand.of_body Bd
  have e0 : s₁.heap = h0 := by rw [← hh, Bd.state]; rfl
  obtain ⟨E0, ga, Fh, Ft, b1, b2, c1, k2, g1, g2, n1, n2, n3, Fn, Fp, Ar1, S1, V2⟩ := G
  show Runs p e below s (QA Z n0 x0 x1 x2 ls none) ({ frames := 0, cells := 0, slots := 0, locals := 0 } : Room).cells ({ frames := 0, cells := 0, slots := 0, locals := 0 } : Room).slots (s₁.setTop (entryFrame m #[(.ref x0), (.int x1), (.int x2)] 3))
  rw [ef_6 m x0 x1 x2]
  have k_0 : ∀ (T : State) (X : Stand p l e ({ frames := 0, cells := 0, slots := 0, locals := 0 } : Room) s m #[(.ref x0), (.int x1), (.int x2)] below meth c T [] 0 0) (eT : T.heap = h0) (N : Fr n0 []), Runs p e below s (QA Z n0 x0 x1 x2 ls none) ({ frames := 0, cells := 0, slots := 0, locals := 0 } : Room).cells ({ frames := 0, cells := 0, slots := 0, locals := 0 } : Room).slots (T.setTop (mkF m 0 #[.val (.ref x0), .val (.int x1), .val (.int x2)] [])) := by
    intro T X eT N 
    refine Runs.go (fun _ => XS.aloadN X.here hx rfl (hb hby d6_0) rfl rfl) ?_
    show Runs p e below s _ _ _ (T.setTop (mkF m 1 #[.val (.ref x0), .val (.int x1), .val (.int x2)] [(.ref x0)]))
    refine Runs.go (fun _ => XS.iloadN X.here hx rfl (hb hby d6_1) rfl) ?_
    show Runs p e below s _ _ _ (T.setTop (mkF m 2 #[.val (.ref x0), .val (.int x1), .val (.int x2)] [(.int x1), (.ref x0)]))
    obtain ⟨Tp2_1, hp2_1, Xp2_1, ep2_1, Wp2_1, stp2_1⟩ := putF X hx hZ hown (host := "") (Or.inl (hw _ (List.mem_of_getElem? (i := 28) rfl))) Via.refl eT Fh E0 (Or.inl (hw _ (List.mem_of_getElem? (i := 29) rfl))) (hw _ (List.mem_of_getElem? (i := 1) rfl)) (ty := .int) (by decide) rfl rfl (g := (mkF m 2 #[.val (.ref x0), .val (.int x1), .val (.int x2)] [(.int x1), (.ref x0)])) rfl rfl (hb hby d6_2)
    refine Runs.go stp2_1 ?_
    have Fwp2_1 := Fh.same Wp2_1
    have hnp2_1 : n0 ≤ hp2_1.size := by rw [Wr.size Wp2_1]; exact hn0
    have E0_p2_1 := E0.wr Wp2_1
    have Ft_p2_1 := Ft.other Wp2_1 (Or.inr (slot_ne (Or.inl (hw _ (List.mem_of_getElem? (i := 22) rfl))) (Or.inl (hw _ (List.mem_of_getElem? (i := 29) rfl))) (by decide) (t := .int) (t' := .int) (by decide) (by decide)))
    have Fn_p2_1 := Fn.other Wp2_1 (Or.inr (slot_ne (Or.inl (hw _ (List.mem_of_getElem? (i := 12) rfl))) (Or.inl (hw _ (List.mem_of_getElem? (i := 29) rfl))) (by decide) (t := (.array (.object "com/example/ontology_reasoner/ontologyreasoner/engine/Node"))) (t' := .int) (by decide) (by decide)))
    have Fp_p2_1 := Fp.other Wp2_1 (Or.inr (slot_ne (Or.inl (hw _ (List.mem_of_getElem? (i := 15) rfl))) (Or.inl (hw _ (List.mem_of_getElem? (i := 29) rfl))) (by decide) (t := (.array .int)) (t' := .int) (by decide) (by decide)))
    have Ar1_p2_1 := Ar1.other Wp2_1 (Ne.symm n1)
    have V2_p2_1 := V2.other Wp2_1 (Ne.symm n2)
    have Np2_1 := Fr.snoc Xp2_1 N ga
    show Runs p e below s _ _ _ (Tp2_1.setTop (mkF m 5 #[.val (.ref x0), .val (.int x1), .val (.int x2)] []))
    refine Runs.go (fun _ => XS.aloadN Xp2_1.here hx rfl (hb hby d6_5) rfl rfl) ?_
    show Runs p e below s _ _ _ (Tp2_1.setTop (mkF m 6 #[.val (.ref x0), .val (.int x1), .val (.int x2)] [(.ref x0)]))
    refine Runs.go (fun _ => XS.iloadN Xp2_1.here hx rfl (hb hby d6_6) rfl) ?_
    show Runs p e below s _ _ _ (Tp2_1.setTop (mkF m 7 #[.val (.ref x0), .val (.int x1), .val (.int x2)] [(.int x2), (.ref x0)]))
    obtain ⟨Tp7_2, hp7_2, Xp7_2, ep7_2, Wp7_2, stp7_2⟩ := putF Xp2_1 hx hZ hown (host := "") (Or.inl (hw _ (List.mem_of_getElem? (i := 21) rfl))) Via.refl ep2_1 Ft_p2_1 E0_p2_1 (Or.inl (hw _ (List.mem_of_getElem? (i := 22) rfl))) (hw _ (List.mem_of_getElem? (i := 1) rfl)) (ty := .int) (by decide) rfl rfl (g := (mkF m 7 #[.val (.ref x0), .val (.int x1), .val (.int x2)] [(.int x2), (.ref x0)])) rfl rfl (hb hby d6_7)
    refine Runs.go stp7_2 ?_
    have Fwp7_2 := Ft_p2_1.same Wp7_2
    have hnp7_2 : n0 ≤ hp7_2.size := by rw [Wr.size Wp7_2]; exact hnp2_1
    have E0_p7_2 := E0_p2_1.wr Wp7_2
    have Fh_p7_2 := Fwp2_1.other Wp7_2 (Or.inr (slot_ne (Or.inl (hw _ (List.mem_of_getElem? (i := 29) rfl))) (Or.inl (hw _ (List.mem_of_getElem? (i := 22) rfl))) (by decide) (t := .int) (t' := .int) (by decide) (by decide)))
    have Fn_p7_2 := Fn_p2_1.other Wp7_2 (Or.inr (slot_ne (Or.inl (hw _ (List.mem_of_getElem? (i := 12) rfl))) (Or.inl (hw _ (List.mem_of_getElem? (i := 22) rfl))) (by decide) (t := (.array (.object "com/example/ontology_reasoner/ontologyreasoner/engine/Node"))) (t' := .int) (by decide) (by decide)))
    have Fp_p7_2 := Fp_p2_1.other Wp7_2 (Or.inr (slot_ne (Or.inl (hw _ (List.mem_of_getElem? (i := 15) rfl))) (Or.inl (hw _ (List.mem_of_getElem? (i := 22) rfl))) (by decide) (t := (.array .int)) (t' := .int) (by decide) (by decide)))
    have Ar1_p7_2 := Ar1_p2_1.other Wp7_2 (Ne.symm n1)
    have V2_p7_2 := V2_p2_1.other Wp7_2 (Ne.symm n2)
    have Np7_2 := Fr.snoc Xp7_2 Np2_1 ga
    show Runs p e below s _ _ _ (Tp7_2.setTop (mkF m 10 #[.val (.ref x0), .val (.int x1), .val (.int x2)] []))
    exact Runs.endV Xp7_2 hx Bd.returns Bd.notSynchronized (hb hby d6_10) ⟨rfl, Np7_2, by rw [ep7_2]; exact ⟨E0_p7_2, ga, Fh_p7_2, Fwp7_2, b1, b2, _, k2, g1, g2, n1, n2, n3, Fn_p7_2, Fp_p7_2, Ar1_p7_2, S1, V2_p7_2⟩⟩ (by decide) (by decide)
  exact k_0 _ X0 e0 (Fr.nil n0)
theorem pn_0 : plainName "com/example/ontology_reasoner/ontologyreasoner/engine/AgendaPositionPinLaw" = true := by first | (simp [plainName, overriddenIn]; done) | decide +kernel
theorem ef_0 (m : MethodId) (x0 : Int32) (x1 : Int32) (x2 : Int32) (x3 : Int32) : entryFrame m #[(.int x0), (.int x1), (.int x2), (.int x3)] maxLocals = mkF m 0 #[.val (.int x0), .val (.int x1), .val (.int x2), .val (.int x3), .unset, .unset] [] := by first | (simp [entryFrame, mkF, argsToLocals, Value.category, maxLocals]; done) | rfl
set_option maxRecDepth 65536 in
set_option maxHeartbeats 40000000 in
theorem rm0 (l : Launch) (Z : State) (a0 : Array Value) (hw : ∀ d ∈ tables_1, d.before a0 Z = true) (ws : List Jvm.Cond) (x0 : Int32) (x1 : Int32) (x2 : Int32) (x3 : Int32) (h0 : Heap) (n0 : Nat) (hn0 : n0 ≤ h0.size) :
    MetFree l x (head1 (Jvm.Cond.code x code maxLocals ret :: ws) room_1) (fun a U => a = #[(.int x0), (.int x1), (.int x2), (.int x3)] ∧ Z.Warmed39 U.vm ∧ U.heap = h0) (fun _ _ _ _ _ => True) (fun _ U o U' => ∃ v L, o = .returned v ∧ QH (.int (F0 x0 x1 x2 x3)) n0 v U'.heap L ∧ FrameEnd U o U' L room_1.cells room_1.slots) := by
  refine MetFree.of_bodySF (plainFor_of_name pn_0) hisR ?_
  intro p e s m args below meth c s₁ Bd hml0 hP hK
  obtain ⟨rfl, hZ, hh⟩ := hP
  have hx := Bd.exec
  have hby := Bd.bytes
  have hml : c.maxLocals = 6 := hml0
  have hown : s.vm.findClass "com/example/ontology_reasoner/ontologyreasoner/engine/AgendaPositionPinLaw" = some m.cls := findClass_of_methodNamed Bd.named
  have X0 : Stand p l e room_1 s m #[(.int x0), (.int x1), (.int x2), (.int x3)] below meth c s₁ [] 0 0 := Stand.of_body Bd
  have e0 : s₁.heap = h0 := by rw [← hh, Bd.state]; rfl
  show Runs p e below s (QH (.int (F0 x0 x1 x2 x3)) n0) room_1.cells room_1.slots (s₁.setTop (entryFrame m #[(.int x0), (.int x1), (.int x2), (.int x3)] maxLocals))
  rw [ef_0 m x0 x1 x2 x3]
  obtain ⟨r, hF⟩ : ∃ r, F0 x0 x1 x2 x3 = r := ⟨_, rfl⟩
  rw [hF]
  have k_166 : ∀ (T : State) (locs : List Loc) (h : Heap) (X : Stand p l e room_1 s m #[(.int x0), (.int x1), (.int x2), (.int x3)] below meth c T locs 3 132) (eT : T.heap = h) (N : Fr n0 locs) (w_a : Addr) (w_hd : Int32) (w_tl : Int32) (v0 : Int32) (v1 : Int32) (v2 : Int32) (v3 : Int32) (G_AG : AG Z h n0 w_a w_hd w_tl (own_set (own_set (own_set [(0 : Int32), (0 : Int32), (0 : Int32)] (0 : Int32) x0) ((0 : Int32) + (1 : Int32)) x1) (((0 : Int32) + (1 : Int32)) + (1 : Int32)) x2)), f0_166 x0 x1 x2 x3 w_hd w_tl = r → Runs p e below s (QH (.int r) n0) room_1.cells room_1.slots (T.setTop (mkF m 166 #[.val (.int v0), .val (.int v1), .val (.int v2), .val (.int v3), .val (.ref w_a), .val (.int (1 : Int32))] [])) := by
    intro T locs h X eT N w_a w_hd w_tl v0 v1 v2 v3 G_AG hv
    unfold f0_166 at hv
    refine Runs.go (fun _ => XS.iload X.here hx rfl (hb hby at_166) rfl) ?_
    show Runs p e below s _ _ _ (T.setTop (mkF m 168 #[.val (.int v0), .val (.int v1), .val (.int v2), .val (.int v3), .val (.ref w_a), .val (.int (1 : Int32))] [(.int (1 : Int32))]))
    exact Runs.endN X hx (t := .boolean) Bd.returns (by simp) Bd.notSynchronized (hb hby at_168) ⟨congrArg (fun z => some (Value.int z)) hv, N⟩ (by decide) (by decide)
  have k_164 : ∀ (T : State) (locs : List Loc) (h : Heap) (X : Stand p l e room_1 s m #[(.int x0), (.int x1), (.int x2), (.int x3)] below meth c T locs 3 132) (eT : T.heap = h) (N : Fr n0 locs) (w_a : Addr) (v0 : Int32) (v1 : Int32) (v2 : Int32) (v3 : Int32) (v5 : Int32) (G_AG : AG Z h n0 w_a ((((0 : Int32) + (1 : Int32)) + (1 : Int32)) + (1 : Int32)) ((((0 : Int32) + (1 : Int32)) + (1 : Int32)) + (1 : Int32)) (own_set (own_set (own_set [(0 : Int32), (0 : Int32), (0 : Int32)] (0 : Int32) x0) ((0 : Int32) + (1 : Int32)) x1) (((0 : Int32) + (1 : Int32)) + (1 : Int32)) x2)), f0_164 x0 x1 x2 x3 = r → Runs p e below s (QH (.int r) n0) room_1.cells room_1.slots (T.setTop (mkF m 164 #[.val (.int v0), .val (.int v1), .val (.int v2), .val (.int v3), .val (.ref w_a), .val (.int v5)] [(.int (1 : Int32))])) := by
    intro T locs h X eT N w_a v0 v1 v2 v3 v5 G_AG hv
    unfold f0_164 at hv
    refine Runs.go (fun _ => XS.istore X.here hx rfl (hb hby at_164) rfl (l' := #[.val (.int v0), .val (.int v1), .val (.int v2), .val (.int v3), .val (.ref w_a), .val (.int (1 : Int32))]) rfl) ?_
    show Runs p e below s _ _ _ (T.setTop (mkF m 166 #[.val (.int v0), .val (.int v1), .val (.int v2), .val (.int v3), .val (.ref w_a), .val (.int (1 : Int32))] []))
    exact k_166 _ _ _ X eT N w_a ((((0 : Int32) + (1 : Int32)) + (1 : Int32)) + (1 : Int32)) ((((0 : Int32) + (1 : Int32)) + (1 : Int32)) + (1 : Int32)) v0 v1 v2 v3 G_AG hv
  have k_135 : ∀ (T : State) (locs : List Loc) (h : Heap) (X : Stand p l e room_1 s m #[(.int x0), (.int x1), (.int x2), (.int x3)] below meth c T locs 3 132) (eT : T.heap = h) (N : Fr n0 locs) (w_a : Addr) (v0 : Int32) (v1 : Int32) (v2 : Int32) (v3 : Int32) (v5 : Int32) (G_AG : AG Z h n0 w_a ((1 : Int32) + (1 : Int32)) (3 : Int32) (own_set (own_set (own_set [(0 : Int32), (0 : Int32), (0 : Int32)] (0 : Int32) x0) ((0 : Int32) + (1 : Int32)) x1) (((0 : Int32) + (1 : Int32)) + (1 : Int32)) x2)), f0_135 x0 x1 x2 x3 = r → Runs p e below s (QH (.int r) n0) room_1.cells room_1.slots (T.setTop (mkF m 135 #[.val (.int v0), .val (.int v1), .val (.int v2), .val (.int v3), .val (.ref w_a), .val (.int v5)] [(.int (1 : Int32))])) := by
    intro T locs h X eT N w_a v0 v1 v2 v3 v5 G_AG hv
    unfold f0_135 at hv
    refine Runs.go (fun _ => XS.istore X.here hx rfl (hb hby at_135) rfl (l' := #[.val (.int v0), .val (.int v1), .val (.int v2), .val (.int v3), .val (.ref w_a), .val (.int (1 : Int32))]) rfl) ?_
    show Runs p e below s _ _ _ (T.setTop (mkF m 137 #[.val (.int v0), .val (.int v1), .val (.int v2), .val (.int v3), .val (.ref w_a), .val (.int (1 : Int32))] []))
    refine Runs.go (fun _ => XS.goto X.here hx rfl (pc0 := 137) (pc' := 166) rfl (hb hby at_137) (by decide) (by decide)) ?_
    show Runs p e below s _ _ _ (T.setTop (mkF m 166 #[.val (.int v0), .val (.int v1), .val (.int v2), .val (.int v3), .val (.ref w_a), .val (.int (1 : Int32))] []))
    exact k_166 _ _ _ X eT N w_a ((1 : Int32) + (1 : Int32)) (3 : Int32) v0 v1 v2 v3 G_AG hv
  have k_96 : ∀ (T : State) (locs : List Loc) (h : Heap) (X : Stand p l e room_1 s m #[(.int x0), (.int x1), (.int x2), (.int x3)] below meth c T locs 3 132) (eT : T.heap = h) (N : Fr n0 locs) (w_a : Addr) (v0 : Int32) (v5 : Int32) (G_AG : AG Z h n0 w_a (((0 : Int32) + (1 : Int32)) + (1 : Int32)) ((((0 : Int32) + (1 : Int32)) + (1 : Int32)) + (1 : Int32)) (own_set (own_set (own_set [(0 : Int32), (0 : Int32), (0 : Int32)] (0 : Int32) x0) ((0 : Int32) + (1 : Int32)) x1) (((0 : Int32) + (1 : Int32)) + (1 : Int32)) x2)), f0_96 x0 x1 x2 x3 = r → Runs p e below s (QH (.int r) n0) room_1.cells room_1.slots (T.setTop (mkF m 96 #[.val (.int v0), .val (.int x1), .val (.int x2), .val (.int x3), .val (.ref w_a), .val (.int v5)] [(.int (1 : Int32))])) := by
    intro T locs h X eT N w_a v0 v5 G_AG hv
    unfold f0_96 at hv
    refine Runs.go (fun _ => XS.istore X.here hx rfl (hb hby at_96) rfl (l' := #[.val (.int v0), .val (.int x1), .val (.int x2), .val (.int x3), .val (.ref w_a), .val (.int (1 : Int32))]) rfl) ?_
    show Runs p e below s _ _ _ (T.setTop (mkF m 98 #[.val (.int v0), .val (.int x1), .val (.int x2), .val (.int x3), .val (.ref w_a), .val (.int (1 : Int32))] []))
    refine Runs.go (fun _ => XS.iloadN X.here hx rfl (hb hby at_98) rfl) ?_
    show Runs p e below s _ _ _ (T.setTop (mkF m 99 #[.val (.int v0), .val (.int x1), .val (.int x2), .val (.int x3), .val (.ref w_a), .val (.int (1 : Int32))] [(.int x3)]))
    refine Runs.go (fun _ => XS.iconst X.here hx rfl (hb hby at_99)) ?_
    show Runs p e below s _ _ _ (T.setTop (mkF m 100 #[.val (.int v0), .val (.int x1), .val (.int x2), .val (.int x3), .val (.ref w_a), .val (.int (1 : Int32))] [(.int (1 : Int32)), (.int x3)]))
    refine Runs.go (fun _ => XS.iand X.here hx rfl (hb hby at_100) rfl) ?_
    show Runs p e below s _ _ _ (T.setTop (mkF m 101 #[.val (.int v0), .val (.int x1), .val (.int x2), .val (.int x3), .val (.ref w_a), .val (.int (1 : Int32))] [(.int (x3 &&& (1 : Int32)))]))
    by_cases hc101 : (x3 &&& (1 : Int32)) = (0 : Int32)
    · have hv := (if_pos hc101).symm.trans hv
      refine Runs.go (fun _ => XS.ifYes X.here hx rfl (pc0 := 101) (pc' := 140) rfl (hb hby at_101) rfl ((if0 _ _).trans (teq hc101).1) (by decide) (by decide)) ?_
      show Runs p e below s _ _ _ (T.setTop (mkF m 140 #[.val (.int v0), .val (.int x1), .val (.int x2), .val (.int x3), .val (.ref w_a), .val (.int (1 : Int32))] []))
      refine Runs.go (fun _ => XS.aload X.here hx rfl (hb hby at_140) rfl rfl) ?_
      show Runs p e below s _ _ _ (T.setTop (mkF m 142 #[.val (.int v0), .val (.int x1), .val (.int x2), .val (.int x3), .val (.ref w_a), .val (.int (1 : Int32))] [(.ref w_a)]))
      have hz142 : n0 ≤ h.size := Nat.le_trans G_AG.2.1 (Nat.le_of_lt G_AG.1.lt)
      obtain ⟨cqc142_11, kqc142_11, qc142_11a, qc142_11b, qc142_11c⟩ := isOf hZ eT G_AG.1
      obtain ⟨_, _, ⟨Tc142_11, Lc142_11, kc142_11, nc142_11⟩, -, Xc142_11, ⟨Lcc142_11, hQc142_11, lc142_11, yc142_11, zc142_11⟩, stc142_11⟩ := X.virtualBack hx (y := (⟨"com/example/ontology_reasoner/ontologyreasoner/engine/Agenda", "pop", "()V"⟩ : MethodName)) (z := (⟨"com/example/ontology_reasoner/ontologyreasoner/engine/Agenda", "pop", "()V"⟩ : MethodName)) hown (mvT hZ (hw _ (List.mem_of_getElem? (i := 23) rfl))) (mvT hZ (hw _ (List.mem_of_getElem? (i := 24) rfl))) (notFace_of_selects (args := #[]) (mvT hZ (hw _ (List.mem_of_getElem? (i := 26) rfl)))) (mvT hZ (hw _ (List.mem_of_getElem? (i := 26) rfl))) (mvT hZ (hw _ (List.mem_of_getElem? (i := 25) rfl))) (by decide) (backOf (W := 0) (rm4 l Z a0 hw [] w_a (((0 : Int32) + (1 : Int32)) + (1 : Int32)) ((((0 : Int32) + (1 : Int32)) + (1 : Int32)) + (1 : Int32)) (own_set (own_set (own_set [(0 : Int32), (0 : Int32), (0 : Int32)] (0 : Int32) x0) ((0 : Int32) + (1 : Int32)) x1) (((0 : Int32) + (1 : Int32)) + (1 : Int32)) x2) h n0 hz142 G_AG ) hZ (hw _ (List.mem_of_getElem? (i := 27) rfl)) (hw _ (List.mem_of_getElem? (i := 2) rfl)) (by decide) (by decide)) qc142_11a qc142_11c (g := (mkF m 142 #[.val (.int v0), .val (.int x1), .val (.int x2), .val (.int x3), .val (.ref w_a), .val (.int (1 : Int32))] [(.ref w_a)])) rfl (by rw [hml]; rfl) (Steps.refl _) (argsL := []) (rest := []) (lenOf pd_0 rfl) rfl (by show 2 * 0 + _ ≤ _; exact Nat.le_of_eq rfl) (hb hby at_142) (fun _ _ => ⟨rfl, eT, (by decide : 3 + 0 ≤ _), (by decide : 132 + 0 ≤ _)⟩)
      dsimp only [Pt.U, Pt.locs, Pt.cells, Pt.slots] at Xc142_11 lc142_11 yc142_11 zc142_11 stc142_11 hQc142_11
      subst lc142_11 yc142_11 zc142_11
      obtain ⟨rfl, Nc142_11q, Gc142_11⟩ := hQc142_11
      refine Runs.go (fun _ => stc142_11.trans) ?_
      have Nc142_11 := Fr.app N Nc142_11q
      show Runs p e below s _ _ _ (Tc142_11.setTop (mkF m 145 #[.val (.int v0), .val (.int x1), .val (.int x2), .val (.int x3), .val (.ref w_a), .val (.int (1 : Int32))] []))
      refine Runs.go (fun _ => XS.iload Xc142_11.here hx rfl (hb hby at_145) rfl) ?_
      show Runs p e below s _ _ _ (Tc142_11.setTop (mkF m 147 #[.val (.int v0), .val (.int x1), .val (.int x2), .val (.int x3), .val (.ref w_a), .val (.int (1 : Int32))] [(.int (1 : Int32))]))
      refine Runs.go (fun _ => XS.ifNo Xc142_11.here hx rfl (hb hby at_147) rfl ((if0 _ _).trans (feq ((by decide) : ¬ ((1 : Int32) = (0 : Int32)))).1)) ?_
      show Runs p e below s _ _ _ (Tc142_11.setTop (mkF m 150 #[.val (.int v0), .val (.int x1), .val (.int x2), .val (.int x3), .val (.ref w_a), .val (.int (1 : Int32))] []))
      refine Runs.go (fun _ => XS.aload Xc142_11.here hx rfl (hb hby at_150) rfl rfl) ?_
      show Runs p e below s _ _ _ (Tc142_11.setTop (mkF m 152 #[.val (.int v0), .val (.int x1), .val (.int x2), .val (.int x3), .val (.ref w_a), .val (.int (1 : Int32))] [(.ref w_a)]))
      have hz152 : n0 ≤ Tc142_11.heap.size := Nat.le_trans Gc142_11.2.1 (Nat.le_of_lt Gc142_11.1.lt)
      obtain ⟨cqc152_12, kqc152_12, qc152_12a, qc152_12b, qc152_12c⟩ := isOf hZ rfl Gc142_11.1
      obtain ⟨_, _, ⟨Tc152_12, Lc152_12, kc152_12, nc152_12⟩, -, Xc152_12, ⟨Lcc152_12, hQc152_12, lc152_12, yc152_12, zc152_12⟩, stc152_12⟩ := Xc142_11.virtualBack hx (y := (⟨"com/example/ontology_reasoner/ontologyreasoner/engine/Agenda", "position", "()I"⟩ : MethodName)) (z := (⟨"com/example/ontology_reasoner/ontologyreasoner/engine/Agenda", "position", "()I"⟩ : MethodName)) hown (mvT hZ (hw _ (List.mem_of_getElem? (i := 30) rfl))) (mvT hZ (hw _ (List.mem_of_getElem? (i := 31) rfl))) (notFace_of_selects (args := #[]) (mvT hZ (hw _ (List.mem_of_getElem? (i := 33) rfl)))) (mvT hZ (hw _ (List.mem_of_getElem? (i := 33) rfl))) (mvT hZ (hw _ (List.mem_of_getElem? (i := 32) rfl))) (by decide) (backOf (W := 0) (rm5 l Z a0 hw [] w_a ((((0 : Int32) + (1 : Int32)) + (1 : Int32)) + (1 : Int32)) ((((0 : Int32) + (1 : Int32)) + (1 : Int32)) + (1 : Int32)) (own_set (own_set (own_set [(0 : Int32), (0 : Int32), (0 : Int32)] (0 : Int32) x0) ((0 : Int32) + (1 : Int32)) x1) (((0 : Int32) + (1 : Int32)) + (1 : Int32)) x2) Tc142_11.heap n0 hz152 Gc142_11 ⟨by decide, by decide⟩) hZ (hw _ (List.mem_of_getElem? (i := 34) rfl)) (hw _ (List.mem_of_getElem? (i := 2) rfl)) (by decide) (by decide)) qc152_12a qc152_12c (g := (mkF m 152 #[.val (.int v0), .val (.int x1), .val (.int x2), .val (.int x3), .val (.ref w_a), .val (.int (1 : Int32))] [(.ref w_a)])) rfl (by rw [hml]; rfl) (Steps.refl _) (argsL := []) (rest := []) (lenOf pd_2 rfl) rfl (by show 2 * 0 + _ ≤ _; exact Nat.le_of_eq rfl) (hb hby at_152) (fun _ _ => ⟨rfl, rfl, (by decide : 3 + 0 ≤ _), (by decide : 132 + 0 ≤ _)⟩)
      dsimp only [Pt.U, Pt.locs, Pt.cells, Pt.slots] at Xc152_12 lc152_12 yc152_12 zc152_12 stc152_12 hQc152_12
      subst lc152_12 yc152_12 zc152_12
      obtain ⟨rfl, Nc152_12q, Gc152_12⟩ := hQc152_12
      refine Runs.go (fun _ => stc152_12.trans) ?_
      have Nc152_12 := Fr.app Nc142_11 Nc152_12q
      show Runs p e below s _ _ _ (Tc152_12.setTop (mkF m 155 #[.val (.int v0), .val (.int x1), .val (.int x2), .val (.int x3), .val (.ref w_a), .val (.int (1 : Int32))] [(.int (F5 ((((0 : Int32) + (1 : Int32)) + (1 : Int32)) + (1 : Int32)) ((((0 : Int32) + (1 : Int32)) + (1 : Int32)) + (1 : Int32)) (own_set (own_set (own_set [(0 : Int32), (0 : Int32), (0 : Int32)] (0 : Int32) x0) ((0 : Int32) + (1 : Int32)) x1) (((0 : Int32) + (1 : Int32)) + (1 : Int32)) x2)))]))
      refine Runs.go (fun _ => XS.iloadN Xc152_12.here hx rfl (hb hby at_155) rfl) ?_
      show Runs p e below s _ _ _ (Tc152_12.setTop (mkF m 156 #[.val (.int v0), .val (.int x1), .val (.int x2), .val (.int x3), .val (.ref w_a), .val (.int (1 : Int32))] [(.int x2), (.int (F5 ((((0 : Int32) + (1 : Int32)) + (1 : Int32)) + (1 : Int32)) ((((0 : Int32) + (1 : Int32)) + (1 : Int32)) + (1 : Int32)) (own_set (own_set (own_set [(0 : Int32), (0 : Int32), (0 : Int32)] (0 : Int32) x0) ((0 : Int32) + (1 : Int32)) x1) (((0 : Int32) + (1 : Int32)) + (1 : Int32)) x2)))]))
      refine Runs.go (fun _ => XS.icmpNo Xc152_12.here hx rfl (hb hby at_156) rfl (teq ((by rfl) : (F5 ((((0 : Int32) + (1 : Int32)) + (1 : Int32)) + (1 : Int32)) ((((0 : Int32) + (1 : Int32)) + (1 : Int32)) + (1 : Int32)) (own_set (own_set (own_set [(0 : Int32), (0 : Int32), (0 : Int32)] (0 : Int32) x0) ((0 : Int32) + (1 : Int32)) x1) (((0 : Int32) + (1 : Int32)) + (1 : Int32)) x2)) = x2)).2) ?_
      show Runs p e below s _ _ _ (Tc152_12.setTop (mkF m 159 #[.val (.int v0), .val (.int x1), .val (.int x2), .val (.int x3), .val (.ref w_a), .val (.int (1 : Int32))] []))
      refine Runs.go (fun _ => XS.iconst Xc152_12.here hx rfl (hb hby at_159)) ?_
      show Runs p e below s _ _ _ (Tc152_12.setTop (mkF m 160 #[.val (.int v0), .val (.int x1), .val (.int x2), .val (.int x3), .val (.ref w_a), .val (.int (1 : Int32))] [(.int (1 : Int32))]))
      refine Runs.go (fun _ => XS.goto Xc152_12.here hx rfl (pc0 := 160) (pc' := 164) rfl (hb hby at_160) (by decide) (by decide)) ?_
      show Runs p e below s _ _ _ (Tc152_12.setTop (mkF m 164 #[.val (.int v0), .val (.int x1), .val (.int x2), .val (.int x3), .val (.ref w_a), .val (.int (1 : Int32))] [(.int (1 : Int32))]))
      exact k_164 _ _ _ Xc152_12 rfl Nc152_12 w_a v0 x1 x2 x3 (1 : Int32) Gc152_12 hv
    · have hv := (if_neg hc101).symm.trans hv
      refine Runs.go (fun _ => XS.ifNo X.here hx rfl (hb hby at_101) rfl ((if0 _ _).trans (feq hc101).1)) ?_
      show Runs p e below s _ _ _ (T.setTop (mkF m 104 #[.val (.int v0), .val (.int x1), .val (.int x2), .val (.int x3), .val (.ref w_a), .val (.int (1 : Int32))] []))
      refine Runs.go (fun _ => XS.aload X.here hx rfl (hb hby at_104) rfl rfl) ?_
      show Runs p e below s _ _ _ (T.setTop (mkF m 106 #[.val (.int v0), .val (.int x1), .val (.int x2), .val (.int x3), .val (.ref w_a), .val (.int (1 : Int32))] [(.ref w_a)]))
      refine Runs.go (fun _ => XS.iconst X.here hx rfl (hb hby at_106)) ?_
      show Runs p e below s _ _ _ (T.setTop (mkF m 107 #[.val (.int v0), .val (.int x1), .val (.int x2), .val (.int x3), .val (.ref w_a), .val (.int (1 : Int32))] [(.int (1 : Int32)), (.ref w_a)]))
      refine Runs.go (fun _ => XS.iconst X.here hx rfl (hb hby at_107)) ?_
      show Runs p e below s _ _ _ (T.setTop (mkF m 108 #[.val (.int v0), .val (.int x1), .val (.int x2), .val (.int x3), .val (.ref w_a), .val (.int (1 : Int32))] [(.int (3 : Int32)), (.int (1 : Int32)), (.ref w_a)]))
      have hz108 : n0 ≤ h.size := Nat.le_trans G_AG.2.1 (Nat.le_of_lt G_AG.1.lt)
      obtain ⟨cqc108_13, kqc108_13, qc108_13a, qc108_13b, qc108_13c⟩ := isOf hZ eT G_AG.1
      obtain ⟨_, _, ⟨Tc108_13, Lc108_13, kc108_13, nc108_13⟩, -, Xc108_13, ⟨Lcc108_13, hQc108_13, lc108_13, yc108_13, zc108_13⟩, stc108_13⟩ := X.virtualBack hx (y := (⟨"com/example/ontology_reasoner/ontologyreasoner/engine/Agenda", "restore", "(II)V"⟩ : MethodName)) (z := (⟨"com/example/ontology_reasoner/ontologyreasoner/engine/Agenda", "restore", "(II)V"⟩ : MethodName)) hown (mvT hZ (hw _ (List.mem_of_getElem? (i := 35) rfl))) (mvT hZ (hw _ (List.mem_of_getElem? (i := 36) rfl))) (notFace_of_selects (args := #[]) (mvT hZ (hw _ (List.mem_of_getElem? (i := 38) rfl)))) (mvT hZ (hw _ (List.mem_of_getElem? (i := 38) rfl))) (mvT hZ (hw _ (List.mem_of_getElem? (i := 37) rfl))) (by decide) (backOf (W := 0) (rm6 l Z a0 hw [] w_a (1 : Int32) (3 : Int32) (((0 : Int32) + (1 : Int32)) + (1 : Int32)) ((((0 : Int32) + (1 : Int32)) + (1 : Int32)) + (1 : Int32)) (own_set (own_set (own_set [(0 : Int32), (0 : Int32), (0 : Int32)] (0 : Int32) x0) ((0 : Int32) + (1 : Int32)) x1) (((0 : Int32) + (1 : Int32)) + (1 : Int32)) x2) h n0 hz108 G_AG ) hZ (hw _ (List.mem_of_getElem? (i := 39) rfl)) (hw _ (List.mem_of_getElem? (i := 2) rfl)) (by decide) (by decide)) qc108_13a qc108_13c (g := (mkF m 108 #[.val (.int v0), .val (.int x1), .val (.int x2), .val (.int x3), .val (.ref w_a), .val (.int (1 : Int32))] [(.int (3 : Int32)), (.int (1 : Int32)), (.ref w_a)])) rfl (by rw [hml]; rfl) (Steps.refl _) (argsL := [(.int (1 : Int32)), (.int (3 : Int32))]) (rest := []) (lenOf pd_3 rfl) rfl (by show 2 * 0 + _ ≤ _; exact Nat.le_of_eq rfl) (hb hby at_108) (fun _ _ => ⟨rfl, eT, (by decide : 3 + 0 ≤ _), (by decide : 132 + 0 ≤ _)⟩)
      dsimp only [Pt.U, Pt.locs, Pt.cells, Pt.slots] at Xc108_13 lc108_13 yc108_13 zc108_13 stc108_13 hQc108_13
      subst lc108_13 yc108_13 zc108_13
      obtain ⟨rfl, Nc108_13q, Gc108_13⟩ := hQc108_13
      refine Runs.go (fun _ => stc108_13.trans) ?_
      have Nc108_13 := Fr.app N Nc108_13q
      show Runs p e below s _ _ _ (Tc108_13.setTop (mkF m 111 #[.val (.int v0), .val (.int x1), .val (.int x2), .val (.int x3), .val (.ref w_a), .val (.int (1 : Int32))] []))
      refine Runs.go (fun _ => XS.aload Xc108_13.here hx rfl (hb hby at_111) rfl rfl) ?_
      show Runs p e below s _ _ _ (Tc108_13.setTop (mkF m 113 #[.val (.int v0), .val (.int x1), .val (.int x2), .val (.int x3), .val (.ref w_a), .val (.int (1 : Int32))] [(.ref w_a)]))
      have hz113 : n0 ≤ Tc108_13.heap.size := Nat.le_trans Gc108_13.2.1 (Nat.le_of_lt Gc108_13.1.lt)
      obtain ⟨cqc113_14, kqc113_14, qc113_14a, qc113_14b, qc113_14c⟩ := isOf hZ rfl Gc108_13.1
      obtain ⟨_, _, ⟨Tc113_14, Lc113_14, kc113_14, nc113_14⟩, -, Xc113_14, ⟨Lcc113_14, hQc113_14, lc113_14, yc113_14, zc113_14⟩, stc113_14⟩ := Xc108_13.virtualBack hx (y := (⟨"com/example/ontology_reasoner/ontologyreasoner/engine/Agenda", "pop", "()V"⟩ : MethodName)) (z := (⟨"com/example/ontology_reasoner/ontologyreasoner/engine/Agenda", "pop", "()V"⟩ : MethodName)) hown (mvT hZ (hw _ (List.mem_of_getElem? (i := 23) rfl))) (mvT hZ (hw _ (List.mem_of_getElem? (i := 24) rfl))) (notFace_of_selects (args := #[]) (mvT hZ (hw _ (List.mem_of_getElem? (i := 26) rfl)))) (mvT hZ (hw _ (List.mem_of_getElem? (i := 26) rfl))) (mvT hZ (hw _ (List.mem_of_getElem? (i := 25) rfl))) (by decide) (backOf (W := 0) (rm4 l Z a0 hw [] w_a (1 : Int32) (3 : Int32) (own_set (own_set (own_set [(0 : Int32), (0 : Int32), (0 : Int32)] (0 : Int32) x0) ((0 : Int32) + (1 : Int32)) x1) (((0 : Int32) + (1 : Int32)) + (1 : Int32)) x2) Tc108_13.heap n0 hz113 Gc108_13 ) hZ (hw _ (List.mem_of_getElem? (i := 27) rfl)) (hw _ (List.mem_of_getElem? (i := 2) rfl)) (by decide) (by decide)) qc113_14a qc113_14c (g := (mkF m 113 #[.val (.int v0), .val (.int x1), .val (.int x2), .val (.int x3), .val (.ref w_a), .val (.int (1 : Int32))] [(.ref w_a)])) rfl (by rw [hml]; rfl) (Steps.refl _) (argsL := []) (rest := []) (lenOf pd_0 rfl) rfl (by show 2 * 0 + _ ≤ _; exact Nat.le_of_eq rfl) (hb hby at_113) (fun _ _ => ⟨rfl, rfl, (by decide : 3 + 0 ≤ _), (by decide : 132 + 0 ≤ _)⟩)
      dsimp only [Pt.U, Pt.locs, Pt.cells, Pt.slots] at Xc113_14 lc113_14 yc113_14 zc113_14 stc113_14 hQc113_14
      subst lc113_14 yc113_14 zc113_14
      obtain ⟨rfl, Nc113_14q, Gc113_14⟩ := hQc113_14
      refine Runs.go (fun _ => stc113_14.trans) ?_
      have Nc113_14 := Fr.app Nc108_13 Nc113_14q
      show Runs p e below s _ _ _ (Tc113_14.setTop (mkF m 116 #[.val (.int v0), .val (.int x1), .val (.int x2), .val (.int x3), .val (.ref w_a), .val (.int (1 : Int32))] []))
      refine Runs.go (fun _ => XS.iload Xc113_14.here hx rfl (hb hby at_116) rfl) ?_
      show Runs p e below s _ _ _ (Tc113_14.setTop (mkF m 118 #[.val (.int v0), .val (.int x1), .val (.int x2), .val (.int x3), .val (.ref w_a), .val (.int (1 : Int32))] [(.int (1 : Int32))]))
      refine Runs.go (fun _ => XS.ifNo Xc113_14.here hx rfl (hb hby at_118) rfl ((if0 _ _).trans (feq ((by decide) : ¬ ((1 : Int32) = (0 : Int32)))).1)) ?_
      show Runs p e below s _ _ _ (Tc113_14.setTop (mkF m 121 #[.val (.int v0), .val (.int x1), .val (.int x2), .val (.int x3), .val (.ref w_a), .val (.int (1 : Int32))] []))
      refine Runs.go (fun _ => XS.aload Xc113_14.here hx rfl (hb hby at_121) rfl rfl) ?_
      show Runs p e below s _ _ _ (Tc113_14.setTop (mkF m 123 #[.val (.int v0), .val (.int x1), .val (.int x2), .val (.int x3), .val (.ref w_a), .val (.int (1 : Int32))] [(.ref w_a)]))
      have hz123 : n0 ≤ Tc113_14.heap.size := Nat.le_trans Gc113_14.2.1 (Nat.le_of_lt Gc113_14.1.lt)
      obtain ⟨cqc123_15, kqc123_15, qc123_15a, qc123_15b, qc123_15c⟩ := isOf hZ rfl Gc113_14.1
      obtain ⟨_, _, ⟨Tc123_15, Lc123_15, kc123_15, nc123_15⟩, -, Xc123_15, ⟨Lcc123_15, hQc123_15, lc123_15, yc123_15, zc123_15⟩, stc123_15⟩ := Xc113_14.virtualBack hx (y := (⟨"com/example/ontology_reasoner/ontologyreasoner/engine/Agenda", "position", "()I"⟩ : MethodName)) (z := (⟨"com/example/ontology_reasoner/ontologyreasoner/engine/Agenda", "position", "()I"⟩ : MethodName)) hown (mvT hZ (hw _ (List.mem_of_getElem? (i := 30) rfl))) (mvT hZ (hw _ (List.mem_of_getElem? (i := 31) rfl))) (notFace_of_selects (args := #[]) (mvT hZ (hw _ (List.mem_of_getElem? (i := 33) rfl)))) (mvT hZ (hw _ (List.mem_of_getElem? (i := 33) rfl))) (mvT hZ (hw _ (List.mem_of_getElem? (i := 32) rfl))) (by decide) (backOf (W := 0) (rm5 l Z a0 hw [] w_a ((1 : Int32) + (1 : Int32)) (3 : Int32) (own_set (own_set (own_set [(0 : Int32), (0 : Int32), (0 : Int32)] (0 : Int32) x0) ((0 : Int32) + (1 : Int32)) x1) (((0 : Int32) + (1 : Int32)) + (1 : Int32)) x2) Tc113_14.heap n0 hz123 Gc113_14 ⟨by decide, by decide⟩) hZ (hw _ (List.mem_of_getElem? (i := 34) rfl)) (hw _ (List.mem_of_getElem? (i := 2) rfl)) (by decide) (by decide)) qc123_15a qc123_15c (g := (mkF m 123 #[.val (.int v0), .val (.int x1), .val (.int x2), .val (.int x3), .val (.ref w_a), .val (.int (1 : Int32))] [(.ref w_a)])) rfl (by rw [hml]; rfl) (Steps.refl _) (argsL := []) (rest := []) (lenOf pd_2 rfl) rfl (by show 2 * 0 + _ ≤ _; exact Nat.le_of_eq rfl) (hb hby at_123) (fun _ _ => ⟨rfl, rfl, (by decide : 3 + 0 ≤ _), (by decide : 132 + 0 ≤ _)⟩)
      dsimp only [Pt.U, Pt.locs, Pt.cells, Pt.slots] at Xc123_15 lc123_15 yc123_15 zc123_15 stc123_15 hQc123_15
      subst lc123_15 yc123_15 zc123_15
      obtain ⟨rfl, Nc123_15q, Gc123_15⟩ := hQc123_15
      refine Runs.go (fun _ => stc123_15.trans) ?_
      have Nc123_15 := Fr.app Nc113_14 Nc123_15q
      show Runs p e below s _ _ _ (Tc123_15.setTop (mkF m 126 #[.val (.int v0), .val (.int x1), .val (.int x2), .val (.int x3), .val (.ref w_a), .val (.int (1 : Int32))] [(.int (F5 ((1 : Int32) + (1 : Int32)) (3 : Int32) (own_set (own_set (own_set [(0 : Int32), (0 : Int32), (0 : Int32)] (0 : Int32) x0) ((0 : Int32) + (1 : Int32)) x1) (((0 : Int32) + (1 : Int32)) + (1 : Int32)) x2)))]))
      refine Runs.go (fun _ => XS.iloadN Xc123_15.here hx rfl (hb hby at_126) rfl) ?_
      show Runs p e below s _ _ _ (Tc123_15.setTop (mkF m 127 #[.val (.int v0), .val (.int x1), .val (.int x2), .val (.int x3), .val (.ref w_a), .val (.int (1 : Int32))] [(.int x1), (.int (F5 ((1 : Int32) + (1 : Int32)) (3 : Int32) (own_set (own_set (own_set [(0 : Int32), (0 : Int32), (0 : Int32)] (0 : Int32) x0) ((0 : Int32) + (1 : Int32)) x1) (((0 : Int32) + (1 : Int32)) + (1 : Int32)) x2)))]))
      refine Runs.go (fun _ => XS.icmpNo Xc123_15.here hx rfl (hb hby at_127) rfl (teq ((by rfl) : (F5 ((1 : Int32) + (1 : Int32)) (3 : Int32) (own_set (own_set (own_set [(0 : Int32), (0 : Int32), (0 : Int32)] (0 : Int32) x0) ((0 : Int32) + (1 : Int32)) x1) (((0 : Int32) + (1 : Int32)) + (1 : Int32)) x2)) = x1)).2) ?_
      show Runs p e below s _ _ _ (Tc123_15.setTop (mkF m 130 #[.val (.int v0), .val (.int x1), .val (.int x2), .val (.int x3), .val (.ref w_a), .val (.int (1 : Int32))] []))
      refine Runs.go (fun _ => XS.iconst Xc123_15.here hx rfl (hb hby at_130)) ?_
      show Runs p e below s _ _ _ (Tc123_15.setTop (mkF m 131 #[.val (.int v0), .val (.int x1), .val (.int x2), .val (.int x3), .val (.ref w_a), .val (.int (1 : Int32))] [(.int (1 : Int32))]))
      refine Runs.go (fun _ => XS.goto Xc123_15.here hx rfl (pc0 := 131) (pc' := 135) rfl (hb hby at_131) (by decide) (by decide)) ?_
      show Runs p e below s _ _ _ (Tc123_15.setTop (mkF m 135 #[.val (.int v0), .val (.int x1), .val (.int x2), .val (.int x3), .val (.ref w_a), .val (.int (1 : Int32))] [(.int (1 : Int32))]))
      exact k_135 _ _ _ Xc123_15 rfl Nc123_15 w_a v0 x1 x2 x3 (1 : Int32) Gc123_15 hv
  have k_70 : ∀ (T : State) (locs : List Loc) (h : Heap) (X : Stand p l e room_1 s m #[(.int x0), (.int x1), (.int x2), (.int x3)] below meth c T locs 3 132) (eT : T.heap = h) (N : Fr n0 locs) (w_a : Addr) (v0 : Int32) (v5 : Int32) (G_AG : AG Z h n0 w_a ((0 : Int32) + (1 : Int32)) ((((0 : Int32) + (1 : Int32)) + (1 : Int32)) + (1 : Int32)) (own_set (own_set (own_set [(0 : Int32), (0 : Int32), (0 : Int32)] (0 : Int32) x0) ((0 : Int32) + (1 : Int32)) x1) (((0 : Int32) + (1 : Int32)) + (1 : Int32)) x2)), f0_70 x0 x1 x2 x3 = r → Runs p e below s (QH (.int r) n0) room_1.cells room_1.slots (T.setTop (mkF m 70 #[.val (.int v0), .val (.int x1), .val (.int x2), .val (.int x3), .val (.ref w_a), .val (.int v5)] [(.int (1 : Int32))])) := by
    intro T locs h X eT N w_a v0 v5 G_AG hv
    unfold f0_70 at hv
    refine Runs.go (fun _ => XS.istore X.here hx rfl (hb hby at_70) rfl (l' := #[.val (.int v0), .val (.int x1), .val (.int x2), .val (.int x3), .val (.ref w_a), .val (.int (1 : Int32))]) rfl) ?_
    show Runs p e below s _ _ _ (T.setTop (mkF m 72 #[.val (.int v0), .val (.int x1), .val (.int x2), .val (.int x3), .val (.ref w_a), .val (.int (1 : Int32))] []))
    refine Runs.go (fun _ => XS.aload X.here hx rfl (hb hby at_72) rfl rfl) ?_
    show Runs p e below s _ _ _ (T.setTop (mkF m 74 #[.val (.int v0), .val (.int x1), .val (.int x2), .val (.int x3), .val (.ref w_a), .val (.int (1 : Int32))] [(.ref w_a)]))
    have hz74 : n0 ≤ h.size := Nat.le_trans G_AG.2.1 (Nat.le_of_lt G_AG.1.lt)
    obtain ⟨cqc74_9, kqc74_9, qc74_9a, qc74_9b, qc74_9c⟩ := isOf hZ eT G_AG.1
    obtain ⟨_, _, ⟨Tc74_9, Lc74_9, kc74_9, nc74_9⟩, -, Xc74_9, ⟨Lcc74_9, hQc74_9, lc74_9, yc74_9, zc74_9⟩, stc74_9⟩ := X.virtualBack hx (y := (⟨"com/example/ontology_reasoner/ontologyreasoner/engine/Agenda", "pop", "()V"⟩ : MethodName)) (z := (⟨"com/example/ontology_reasoner/ontologyreasoner/engine/Agenda", "pop", "()V"⟩ : MethodName)) hown (mvT hZ (hw _ (List.mem_of_getElem? (i := 23) rfl))) (mvT hZ (hw _ (List.mem_of_getElem? (i := 24) rfl))) (notFace_of_selects (args := #[]) (mvT hZ (hw _ (List.mem_of_getElem? (i := 26) rfl)))) (mvT hZ (hw _ (List.mem_of_getElem? (i := 26) rfl))) (mvT hZ (hw _ (List.mem_of_getElem? (i := 25) rfl))) (by decide) (backOf (W := 0) (rm4 l Z a0 hw [] w_a ((0 : Int32) + (1 : Int32)) ((((0 : Int32) + (1 : Int32)) + (1 : Int32)) + (1 : Int32)) (own_set (own_set (own_set [(0 : Int32), (0 : Int32), (0 : Int32)] (0 : Int32) x0) ((0 : Int32) + (1 : Int32)) x1) (((0 : Int32) + (1 : Int32)) + (1 : Int32)) x2) h n0 hz74 G_AG ) hZ (hw _ (List.mem_of_getElem? (i := 27) rfl)) (hw _ (List.mem_of_getElem? (i := 2) rfl)) (by decide) (by decide)) qc74_9a qc74_9c (g := (mkF m 74 #[.val (.int v0), .val (.int x1), .val (.int x2), .val (.int x3), .val (.ref w_a), .val (.int (1 : Int32))] [(.ref w_a)])) rfl (by rw [hml]; rfl) (Steps.refl _) (argsL := []) (rest := []) (lenOf pd_0 rfl) rfl (by show 2 * 0 + _ ≤ _; exact Nat.le_of_eq rfl) (hb hby at_74) (fun _ _ => ⟨rfl, eT, (by decide : 3 + 0 ≤ _), (by decide : 132 + 0 ≤ _)⟩)
    dsimp only [Pt.U, Pt.locs, Pt.cells, Pt.slots] at Xc74_9 lc74_9 yc74_9 zc74_9 stc74_9 hQc74_9
    subst lc74_9 yc74_9 zc74_9
    obtain ⟨rfl, Nc74_9q, Gc74_9⟩ := hQc74_9
    refine Runs.go (fun _ => stc74_9.trans) ?_
    have Nc74_9 := Fr.app N Nc74_9q
    show Runs p e below s _ _ _ (Tc74_9.setTop (mkF m 77 #[.val (.int v0), .val (.int x1), .val (.int x2), .val (.int x3), .val (.ref w_a), .val (.int (1 : Int32))] []))
    refine Runs.go (fun _ => XS.iload Xc74_9.here hx rfl (hb hby at_77) rfl) ?_
    show Runs p e below s _ _ _ (Tc74_9.setTop (mkF m 79 #[.val (.int v0), .val (.int x1), .val (.int x2), .val (.int x3), .val (.ref w_a), .val (.int (1 : Int32))] [(.int (1 : Int32))]))
    refine Runs.go (fun _ => XS.ifNo Xc74_9.here hx rfl (hb hby at_79) rfl ((if0 _ _).trans (feq ((by decide) : ¬ ((1 : Int32) = (0 : Int32)))).1)) ?_
    show Runs p e below s _ _ _ (Tc74_9.setTop (mkF m 82 #[.val (.int v0), .val (.int x1), .val (.int x2), .val (.int x3), .val (.ref w_a), .val (.int (1 : Int32))] []))
    refine Runs.go (fun _ => XS.aload Xc74_9.here hx rfl (hb hby at_82) rfl rfl) ?_
    show Runs p e below s _ _ _ (Tc74_9.setTop (mkF m 84 #[.val (.int v0), .val (.int x1), .val (.int x2), .val (.int x3), .val (.ref w_a), .val (.int (1 : Int32))] [(.ref w_a)]))
    have hz84 : n0 ≤ Tc74_9.heap.size := Nat.le_trans Gc74_9.2.1 (Nat.le_of_lt Gc74_9.1.lt)
    obtain ⟨cqc84_10, kqc84_10, qc84_10a, qc84_10b, qc84_10c⟩ := isOf hZ rfl Gc74_9.1
    obtain ⟨_, _, ⟨Tc84_10, Lc84_10, kc84_10, nc84_10⟩, -, Xc84_10, ⟨Lcc84_10, hQc84_10, lc84_10, yc84_10, zc84_10⟩, stc84_10⟩ := Xc74_9.virtualBack hx (y := (⟨"com/example/ontology_reasoner/ontologyreasoner/engine/Agenda", "position", "()I"⟩ : MethodName)) (z := (⟨"com/example/ontology_reasoner/ontologyreasoner/engine/Agenda", "position", "()I"⟩ : MethodName)) hown (mvT hZ (hw _ (List.mem_of_getElem? (i := 30) rfl))) (mvT hZ (hw _ (List.mem_of_getElem? (i := 31) rfl))) (notFace_of_selects (args := #[]) (mvT hZ (hw _ (List.mem_of_getElem? (i := 33) rfl)))) (mvT hZ (hw _ (List.mem_of_getElem? (i := 33) rfl))) (mvT hZ (hw _ (List.mem_of_getElem? (i := 32) rfl))) (by decide) (backOf (W := 0) (rm5 l Z a0 hw [] w_a (((0 : Int32) + (1 : Int32)) + (1 : Int32)) ((((0 : Int32) + (1 : Int32)) + (1 : Int32)) + (1 : Int32)) (own_set (own_set (own_set [(0 : Int32), (0 : Int32), (0 : Int32)] (0 : Int32) x0) ((0 : Int32) + (1 : Int32)) x1) (((0 : Int32) + (1 : Int32)) + (1 : Int32)) x2) Tc74_9.heap n0 hz84 Gc74_9 ⟨by decide, by decide⟩) hZ (hw _ (List.mem_of_getElem? (i := 34) rfl)) (hw _ (List.mem_of_getElem? (i := 2) rfl)) (by decide) (by decide)) qc84_10a qc84_10c (g := (mkF m 84 #[.val (.int v0), .val (.int x1), .val (.int x2), .val (.int x3), .val (.ref w_a), .val (.int (1 : Int32))] [(.ref w_a)])) rfl (by rw [hml]; rfl) (Steps.refl _) (argsL := []) (rest := []) (lenOf pd_2 rfl) rfl (by show 2 * 0 + _ ≤ _; exact Nat.le_of_eq rfl) (hb hby at_84) (fun _ _ => ⟨rfl, rfl, (by decide : 3 + 0 ≤ _), (by decide : 132 + 0 ≤ _)⟩)
    dsimp only [Pt.U, Pt.locs, Pt.cells, Pt.slots] at Xc84_10 lc84_10 yc84_10 zc84_10 stc84_10 hQc84_10
    subst lc84_10 yc84_10 zc84_10
    obtain ⟨rfl, Nc84_10q, Gc84_10⟩ := hQc84_10
    refine Runs.go (fun _ => stc84_10.trans) ?_
    have Nc84_10 := Fr.app Nc74_9 Nc84_10q
    show Runs p e below s _ _ _ (Tc84_10.setTop (mkF m 87 #[.val (.int v0), .val (.int x1), .val (.int x2), .val (.int x3), .val (.ref w_a), .val (.int (1 : Int32))] [(.int (F5 (((0 : Int32) + (1 : Int32)) + (1 : Int32)) ((((0 : Int32) + (1 : Int32)) + (1 : Int32)) + (1 : Int32)) (own_set (own_set (own_set [(0 : Int32), (0 : Int32), (0 : Int32)] (0 : Int32) x0) ((0 : Int32) + (1 : Int32)) x1) (((0 : Int32) + (1 : Int32)) + (1 : Int32)) x2)))]))
    refine Runs.go (fun _ => XS.iloadN Xc84_10.here hx rfl (hb hby at_87) rfl) ?_
    show Runs p e below s _ _ _ (Tc84_10.setTop (mkF m 88 #[.val (.int v0), .val (.int x1), .val (.int x2), .val (.int x3), .val (.ref w_a), .val (.int (1 : Int32))] [(.int x1), (.int (F5 (((0 : Int32) + (1 : Int32)) + (1 : Int32)) ((((0 : Int32) + (1 : Int32)) + (1 : Int32)) + (1 : Int32)) (own_set (own_set (own_set [(0 : Int32), (0 : Int32), (0 : Int32)] (0 : Int32) x0) ((0 : Int32) + (1 : Int32)) x1) (((0 : Int32) + (1 : Int32)) + (1 : Int32)) x2)))]))
    refine Runs.go (fun _ => XS.icmpNo Xc84_10.here hx rfl (hb hby at_88) rfl (teq ((by rfl) : (F5 (((0 : Int32) + (1 : Int32)) + (1 : Int32)) ((((0 : Int32) + (1 : Int32)) + (1 : Int32)) + (1 : Int32)) (own_set (own_set (own_set [(0 : Int32), (0 : Int32), (0 : Int32)] (0 : Int32) x0) ((0 : Int32) + (1 : Int32)) x1) (((0 : Int32) + (1 : Int32)) + (1 : Int32)) x2)) = x1)).2) ?_
    show Runs p e below s _ _ _ (Tc84_10.setTop (mkF m 91 #[.val (.int v0), .val (.int x1), .val (.int x2), .val (.int x3), .val (.ref w_a), .val (.int (1 : Int32))] []))
    refine Runs.go (fun _ => XS.iconst Xc84_10.here hx rfl (hb hby at_91)) ?_
    show Runs p e below s _ _ _ (Tc84_10.setTop (mkF m 92 #[.val (.int v0), .val (.int x1), .val (.int x2), .val (.int x3), .val (.ref w_a), .val (.int (1 : Int32))] [(.int (1 : Int32))]))
    refine Runs.go (fun _ => XS.goto Xc84_10.here hx rfl (pc0 := 92) (pc' := 96) rfl (hb hby at_92) (by decide) (by decide)) ?_
    show Runs p e below s _ _ _ (Tc84_10.setTop (mkF m 96 #[.val (.int v0), .val (.int x1), .val (.int x2), .val (.int x3), .val (.ref w_a), .val (.int (1 : Int32))] [(.int (1 : Int32))]))
    exact k_96 _ _ _ Xc84_10 rfl Nc84_10 w_a v0 (1 : Int32) Gc84_10 hv
  have k_42 : ∀ (T : State) (locs : List Loc) (h : Heap) (X : Stand p l e room_1 s m #[(.int x0), (.int x1), (.int x2), (.int x3)] below meth c T locs 3 132) (eT : T.heap = h) (N : Fr n0 locs) (w_a : Addr) (G_AG : AG Z h n0 w_a ((0 : Int32) + (1 : Int32)) (((0 : Int32) + (1 : Int32)) + (1 : Int32)) (own_set (own_set [(0 : Int32), (0 : Int32), (0 : Int32)] (0 : Int32) x0) ((0 : Int32) + (1 : Int32)) x1)), f0_42 x0 x1 x2 x3 = r → Runs p e below s (QH (.int r) n0) room_1.cells room_1.slots (T.setTop (mkF m 42 #[.val (.int x0), .val (.int x1), .val (.int x2), .val (.int x3), .val (.ref w_a), .unset] [(.int (1 : Int32))])) := by
    intro T locs h X eT N w_a G_AG hv
    unfold f0_42 at hv
    refine Runs.go (fun _ => XS.istore X.here hx rfl (hb hby at_42) rfl (l' := #[.val (.int x0), .val (.int x1), .val (.int x2), .val (.int x3), .val (.ref w_a), .val (.int (1 : Int32))]) rfl) ?_
    show Runs p e below s _ _ _ (T.setTop (mkF m 44 #[.val (.int x0), .val (.int x1), .val (.int x2), .val (.int x3), .val (.ref w_a), .val (.int (1 : Int32))] []))
    refine Runs.go (fun _ => XS.aload X.here hx rfl (hb hby at_44) rfl rfl) ?_
    show Runs p e below s _ _ _ (T.setTop (mkF m 46 #[.val (.int x0), .val (.int x1), .val (.int x2), .val (.int x3), .val (.ref w_a), .val (.int (1 : Int32))] [(.ref w_a)]))
    refine Runs.go (fun _ => XS.aconstNull X.here hx rfl (hb hby at_46)) ?_
    show Runs p e below s _ _ _ (T.setTop (mkF m 47 #[.val (.int x0), .val (.int x1), .val (.int x2), .val (.int x3), .val (.ref w_a), .val (.int (1 : Int32))] [.null, (.ref w_a)]))
    refine Runs.go (fun _ => XS.iloadN X.here hx rfl (hb hby at_47) rfl) ?_
    show Runs p e below s _ _ _ (T.setTop (mkF m 48 #[.val (.int x0), .val (.int x1), .val (.int x2), .val (.int x3), .val (.ref w_a), .val (.int (1 : Int32))] [(.int x2), .null, (.ref w_a)]))
    have hz48 : n0 ≤ h.size := Nat.le_trans G_AG.2.1 (Nat.le_of_lt G_AG.1.lt)
    obtain ⟨cqc48_7, kqc48_7, qc48_7a, qc48_7b, qc48_7c⟩ := isOf hZ eT G_AG.1
    obtain ⟨_, _, ⟨Tc48_7, Lc48_7, kc48_7, nc48_7⟩, -, Xc48_7, ⟨Lcc48_7, hQc48_7, lc48_7, yc48_7, zc48_7⟩, stc48_7⟩ := X.virtualBack hx (y := (⟨"com/example/ontology_reasoner/ontologyreasoner/engine/Agenda", "push", "(Lcom/example/ontology_reasoner/ontologyreasoner/engine/Node;I)V"⟩ : MethodName)) (z := (⟨"com/example/ontology_reasoner/ontologyreasoner/engine/Agenda", "push", "(Lcom/example/ontology_reasoner/ontologyreasoner/engine/Node;I)V"⟩ : MethodName)) hown (mvT hZ (hw _ (List.mem_of_getElem? (i := 16) rfl))) (mvT hZ (hw _ (List.mem_of_getElem? (i := 17) rfl))) (notFace_of_selects (args := #[]) (mvT hZ (hw _ (List.mem_of_getElem? (i := 19) rfl)))) (mvT hZ (hw _ (List.mem_of_getElem? (i := 19) rfl))) (mvT hZ (hw _ (List.mem_of_getElem? (i := 18) rfl))) (by decide) (backOf (W := 0) (rm3 l Z a0 hw [] w_a x2 ((0 : Int32) + (1 : Int32)) (((0 : Int32) + (1 : Int32)) + (1 : Int32)) (own_set (own_set [(0 : Int32), (0 : Int32), (0 : Int32)] (0 : Int32) x0) ((0 : Int32) + (1 : Int32)) x1) h n0 hz48 G_AG ⟨⟨by decide, by decide⟩, (Nat.le_of_ble_eq_true rfl)⟩) hZ (hw _ (List.mem_of_getElem? (i := 20) rfl)) (hw _ (List.mem_of_getElem? (i := 2) rfl)) (by decide) (by decide)) qc48_7a qc48_7c (g := (mkF m 48 #[.val (.int x0), .val (.int x1), .val (.int x2), .val (.int x3), .val (.ref w_a), .val (.int (1 : Int32))] [(.int x2), .null, (.ref w_a)])) rfl (by rw [hml]; rfl) (Steps.refl _) (argsL := [.null, (.int x2)]) (rest := []) (lenOf pd_1 rfl) rfl (by show 2 * 0 + _ ≤ _; exact Nat.le_of_eq rfl) (hb hby at_48) (fun _ _ => ⟨rfl, eT, (by decide : 3 + 0 ≤ _), (by decide : 132 + 0 ≤ _)⟩)
    dsimp only [Pt.U, Pt.locs, Pt.cells, Pt.slots] at Xc48_7 lc48_7 yc48_7 zc48_7 stc48_7 hQc48_7
    subst lc48_7 yc48_7 zc48_7
    obtain ⟨rfl, Nc48_7q, Gc48_7⟩ := hQc48_7
    refine Runs.go (fun _ => stc48_7.trans) ?_
    have Nc48_7 := Fr.app N Nc48_7q
    show Runs p e below s _ _ _ (Tc48_7.setTop (mkF m 51 #[.val (.int x0), .val (.int x1), .val (.int x2), .val (.int x3), .val (.ref w_a), .val (.int (1 : Int32))] []))
    refine Runs.go (fun _ => XS.iload Xc48_7.here hx rfl (hb hby at_51) rfl) ?_
    show Runs p e below s _ _ _ (Tc48_7.setTop (mkF m 53 #[.val (.int x0), .val (.int x1), .val (.int x2), .val (.int x3), .val (.ref w_a), .val (.int (1 : Int32))] [(.int (1 : Int32))]))
    refine Runs.go (fun _ => XS.ifNo Xc48_7.here hx rfl (hb hby at_53) rfl ((if0 _ _).trans (feq ((by decide) : ¬ ((1 : Int32) = (0 : Int32)))).1)) ?_
    show Runs p e below s _ _ _ (Tc48_7.setTop (mkF m 56 #[.val (.int x0), .val (.int x1), .val (.int x2), .val (.int x3), .val (.ref w_a), .val (.int (1 : Int32))] []))
    refine Runs.go (fun _ => XS.aload Xc48_7.here hx rfl (hb hby at_56) rfl rfl) ?_
    show Runs p e below s _ _ _ (Tc48_7.setTop (mkF m 58 #[.val (.int x0), .val (.int x1), .val (.int x2), .val (.int x3), .val (.ref w_a), .val (.int (1 : Int32))] [(.ref w_a)]))
    have hz58 : n0 ≤ Tc48_7.heap.size := Nat.le_trans Gc48_7.2.1 (Nat.le_of_lt Gc48_7.1.lt)
    obtain ⟨cqc58_8, kqc58_8, qc58_8a, qc58_8b, qc58_8c⟩ := isOf hZ rfl Gc48_7.1
    obtain ⟨_, _, ⟨Tc58_8, Lc58_8, kc58_8, nc58_8⟩, -, Xc58_8, ⟨Lcc58_8, hQc58_8, lc58_8, yc58_8, zc58_8⟩, stc58_8⟩ := Xc48_7.virtualBack hx (y := (⟨"com/example/ontology_reasoner/ontologyreasoner/engine/Agenda", "position", "()I"⟩ : MethodName)) (z := (⟨"com/example/ontology_reasoner/ontologyreasoner/engine/Agenda", "position", "()I"⟩ : MethodName)) hown (mvT hZ (hw _ (List.mem_of_getElem? (i := 30) rfl))) (mvT hZ (hw _ (List.mem_of_getElem? (i := 31) rfl))) (notFace_of_selects (args := #[]) (mvT hZ (hw _ (List.mem_of_getElem? (i := 33) rfl)))) (mvT hZ (hw _ (List.mem_of_getElem? (i := 33) rfl))) (mvT hZ (hw _ (List.mem_of_getElem? (i := 32) rfl))) (by decide) (backOf (W := 0) (rm5 l Z a0 hw [] w_a ((0 : Int32) + (1 : Int32)) ((((0 : Int32) + (1 : Int32)) + (1 : Int32)) + (1 : Int32)) (own_set (own_set (own_set [(0 : Int32), (0 : Int32), (0 : Int32)] (0 : Int32) x0) ((0 : Int32) + (1 : Int32)) x1) (((0 : Int32) + (1 : Int32)) + (1 : Int32)) x2) Tc48_7.heap n0 hz58 Gc48_7 ⟨by decide, by decide⟩) hZ (hw _ (List.mem_of_getElem? (i := 34) rfl)) (hw _ (List.mem_of_getElem? (i := 2) rfl)) (by decide) (by decide)) qc58_8a qc58_8c (g := (mkF m 58 #[.val (.int x0), .val (.int x1), .val (.int x2), .val (.int x3), .val (.ref w_a), .val (.int (1 : Int32))] [(.ref w_a)])) rfl (by rw [hml]; rfl) (Steps.refl _) (argsL := []) (rest := []) (lenOf pd_2 rfl) rfl (by show 2 * 0 + _ ≤ _; exact Nat.le_of_eq rfl) (hb hby at_58) (fun _ _ => ⟨rfl, rfl, (by decide : 3 + 0 ≤ _), (by decide : 132 + 0 ≤ _)⟩)
    dsimp only [Pt.U, Pt.locs, Pt.cells, Pt.slots] at Xc58_8 lc58_8 yc58_8 zc58_8 stc58_8 hQc58_8
    subst lc58_8 yc58_8 zc58_8
    obtain ⟨rfl, Nc58_8q, Gc58_8⟩ := hQc58_8
    refine Runs.go (fun _ => stc58_8.trans) ?_
    have Nc58_8 := Fr.app Nc48_7 Nc58_8q
    show Runs p e below s _ _ _ (Tc58_8.setTop (mkF m 61 #[.val (.int x0), .val (.int x1), .val (.int x2), .val (.int x3), .val (.ref w_a), .val (.int (1 : Int32))] [(.int (F5 ((0 : Int32) + (1 : Int32)) ((((0 : Int32) + (1 : Int32)) + (1 : Int32)) + (1 : Int32)) (own_set (own_set (own_set [(0 : Int32), (0 : Int32), (0 : Int32)] (0 : Int32) x0) ((0 : Int32) + (1 : Int32)) x1) (((0 : Int32) + (1 : Int32)) + (1 : Int32)) x2)))]))
    refine Runs.go (fun _ => XS.iloadN Xc58_8.here hx rfl (hb hby at_61) rfl) ?_
    show Runs p e below s _ _ _ (Tc58_8.setTop (mkF m 62 #[.val (.int x0), .val (.int x1), .val (.int x2), .val (.int x3), .val (.ref w_a), .val (.int (1 : Int32))] [(.int x0), (.int (F5 ((0 : Int32) + (1 : Int32)) ((((0 : Int32) + (1 : Int32)) + (1 : Int32)) + (1 : Int32)) (own_set (own_set (own_set [(0 : Int32), (0 : Int32), (0 : Int32)] (0 : Int32) x0) ((0 : Int32) + (1 : Int32)) x1) (((0 : Int32) + (1 : Int32)) + (1 : Int32)) x2)))]))
    refine Runs.go (fun _ => XS.icmpNo Xc58_8.here hx rfl (hb hby at_62) rfl (teq ((by rfl) : (F5 ((0 : Int32) + (1 : Int32)) ((((0 : Int32) + (1 : Int32)) + (1 : Int32)) + (1 : Int32)) (own_set (own_set (own_set [(0 : Int32), (0 : Int32), (0 : Int32)] (0 : Int32) x0) ((0 : Int32) + (1 : Int32)) x1) (((0 : Int32) + (1 : Int32)) + (1 : Int32)) x2)) = x0)).2) ?_
    show Runs p e below s _ _ _ (Tc58_8.setTop (mkF m 65 #[.val (.int x0), .val (.int x1), .val (.int x2), .val (.int x3), .val (.ref w_a), .val (.int (1 : Int32))] []))
    refine Runs.go (fun _ => XS.iconst Xc58_8.here hx rfl (hb hby at_65)) ?_
    show Runs p e below s _ _ _ (Tc58_8.setTop (mkF m 66 #[.val (.int x0), .val (.int x1), .val (.int x2), .val (.int x3), .val (.ref w_a), .val (.int (1 : Int32))] [(.int (1 : Int32))]))
    refine Runs.go (fun _ => XS.goto Xc58_8.here hx rfl (pc0 := 66) (pc' := 70) rfl (hb hby at_66) (by decide) (by decide)) ?_
    show Runs p e below s _ _ _ (Tc58_8.setTop (mkF m 70 #[.val (.int x0), .val (.int x1), .val (.int x2), .val (.int x3), .val (.ref w_a), .val (.int (1 : Int32))] [(.int (1 : Int32))]))
    exact k_70 _ _ _ Xc58_8 rfl Nc58_8 w_a x0 (1 : Int32) Gc58_8 hv
  have k_0 : ∀ (T : State) (X : Stand p l e room_1 s m #[(.int x0), (.int x1), (.int x2), (.int x3)] below meth c T [] 0 0) (eT : T.heap = h0) (N : Fr n0 []), f0_0 x0 x1 x2 x3 = r → Runs p e below s (QH (.int r) n0) room_1.cells room_1.slots (T.setTop (mkF m 0 #[.val (.int x0), .val (.int x1), .val (.int x2), .val (.int x3), .unset, .unset] [])) := by
    intro T X eT N  hv
    unfold f0_0 at hv
    obtain ⟨To0_1, ho0_1, Xo0_1, eo0_1, Eo0_1, Ao0_1, Do0_1, -, sto0_1⟩ := newO X hx hZ hown (hw _ (List.mem_of_getElem? (i := 0) rfl)) (hw _ (List.mem_of_getElem? (i := 1) rfl)) (hw _ (List.mem_of_getElem? (i := 2) rfl)) eT (g := (mkF m 0 #[.val (.int x0), .val (.int x1), .val (.int x2), .val (.int x3), .unset, .unset] [])) rfl (hb hby at_0) (by decide) (by decide)
    obtain ⟨bo0_1, go0_1⟩ : ∃ z, z = h0.size := ⟨_, rfl⟩
    have gb_bo0_1 : n0 ≤ bo0_1 := Nat.le_trans hn0 (Nat.le_of_eq go0_1.symm)
    rw [← go0_1] at Ao0_1 Do0_1 sto0_1
    refine Runs.go sto0_1 ?_
    have hno0_1 : n0 ≤ ho0_1.size := Nat.le_trans hn0 Eo0_1.1
    have Fnodes_bo0_1 : Fld Z ho0_1 bo0_1 "com/example/ontology_reasoner/ontologyreasoner/engine/Agenda" "nodes" "[Lcom/example/ontology_reasoner/ontologyreasoner/engine/Node;" .null := Do0_1 (Or.inl (hw _ (List.mem_of_getElem? (i := 12) rfl))) (ty := (.array (.object "com/example/ontology_reasoner/ontologyreasoner/engine/Node"))) (by decide)
    have Fpositions_bo0_1 : Fld Z ho0_1 bo0_1 "com/example/ontology_reasoner/ontologyreasoner/engine/Agenda" "positions" "[I" .null := Do0_1 (Or.inl (hw _ (List.mem_of_getElem? (i := 15) rfl))) (ty := (.array .int)) (by decide)
    have Ftail_bo0_1 : Fld Z ho0_1 bo0_1 "com/example/ontology_reasoner/ontologyreasoner/engine/Agenda" "tail" "I" (.int (0 : Int32)) := Do0_1 (Or.inl (hw _ (List.mem_of_getElem? (i := 22) rfl))) (ty := .int) (by decide)
    have Fhead_bo0_1 : Fld Z ho0_1 bo0_1 "com/example/ontology_reasoner/ontologyreasoner/engine/Agenda" "head" "I" (.int (0 : Int32)) := Do0_1 (Or.inl (hw _ (List.mem_of_getElem? (i := 29) rfl))) (ty := .int) (by decide)
    show Runs p e below s _ _ _ (To0_1.setTop (mkF m 3 #[.val (.int x0), .val (.int x1), .val (.int x2), .val (.int x3), .unset, .unset] [(.ref bo0_1)]))
    refine Runs.go (fun _ => XS.dup Xo0_1.here hx rfl (hb hby at_3) rfl rfl) ?_
    show Runs p e below s _ _ _ (To0_1.setTop (mkF m 4 #[.val (.int x0), .val (.int x1), .val (.int x2), .val (.int x3), .unset, .unset] [(.ref bo0_1), (.ref bo0_1)]))
    obtain ⟨_, _, ⟨Tc4_2, Lc4_2, kc4_2, nc4_2⟩, -, Xc4_2, ⟨Lcc4_2, hQc4_2, lc4_2, yc4_2, zc4_2⟩, stc4_2⟩ := Xo0_1.specialBack hx (y := (⟨"com/example/ontology_reasoner/ontologyreasoner/engine/Agenda", "<init>", "()V"⟩ : MethodName)) rfl hown (mvT hZ (hw _ (List.mem_of_getElem? (i := 3) rfl))) (mvT hZ (hw _ (List.mem_of_getElem? (i := 4) rfl))) (mvT hZ (hw _ (List.mem_of_getElem? (i := 5) rfl))) (by decide) (backOf (W := 1) (rm1 l Z a0 hw [] bo0_1 ho0_1 n0 hno0_1 Ao0_1 gb_bo0_1 Fhead_bo0_1 Ftail_bo0_1 Fnodes_bo0_1 Fpositions_bo0_1) hZ (hw _ (List.mem_of_getElem? (i := 5) rfl)) (hw _ (List.mem_of_getElem? (i := 2) rfl)) (by decide) (by decide)) (g := (mkF m 4 #[.val (.int x0), .val (.int x1), .val (.int x2), .val (.int x3), .unset, .unset] [(.ref bo0_1), (.ref bo0_1)])) rfl (by rw [hml]; rfl) (Steps.refl _) (a := bo0_1) (argsL := []) (rest := [(.ref bo0_1)]) (lenOf pd_0 rfl) rfl (by show 2 * 0 + _ ≤ _; exact Nat.le_of_eq rfl) (hb hby at_4) (fun _ _ => ⟨rfl, eo0_1, (by decide : 1 + 2 ≤ _), (by decide : 4 + 128 ≤ _)⟩)
    dsimp only [Pt.U, Pt.locs, Pt.cells, Pt.slots] at Xc4_2 lc4_2 yc4_2 zc4_2 stc4_2 hQc4_2
    subst lc4_2 yc4_2 zc4_2
    obtain ⟨rfl, Nc4_2q, Gc4_2⟩ := hQc4_2
    refine Runs.go (fun _ => stc4_2.trans) ?_
    have Nc4_2 := Fr.app N Nc4_2q
    show Runs p e below s _ _ _ (Tc4_2.setTop (mkF m 7 #[.val (.int x0), .val (.int x1), .val (.int x2), .val (.int x3), .unset, .unset] [(.ref bo0_1)]))
    refine Runs.go (fun _ => XS.astore Xc4_2.here hx rfl (hb hby at_7) rfl rfl (l' := #[.val (.int x0), .val (.int x1), .val (.int x2), .val (.int x3), .val (.ref bo0_1), .unset]) rfl) ?_
    show Runs p e below s _ _ _ (Tc4_2.setTop (mkF m 9 #[.val (.int x0), .val (.int x1), .val (.int x2), .val (.int x3), .val (.ref bo0_1), .unset] []))
    refine Runs.go (fun _ => XS.aload Xc4_2.here hx rfl (hb hby at_9) rfl rfl) ?_
    show Runs p e below s _ _ _ (Tc4_2.setTop (mkF m 11 #[.val (.int x0), .val (.int x1), .val (.int x2), .val (.int x3), .val (.ref bo0_1), .unset] [(.ref bo0_1)]))
    refine Runs.go (fun _ => XS.aconstNull Xc4_2.here hx rfl (hb hby at_11)) ?_
    show Runs p e below s _ _ _ (Tc4_2.setTop (mkF m 12 #[.val (.int x0), .val (.int x1), .val (.int x2), .val (.int x3), .val (.ref bo0_1), .unset] [.null, (.ref bo0_1)]))
    refine Runs.go (fun _ => XS.iloadN Xc4_2.here hx rfl (hb hby at_12) rfl) ?_
    show Runs p e below s _ _ _ (Tc4_2.setTop (mkF m 13 #[.val (.int x0), .val (.int x1), .val (.int x2), .val (.int x3), .val (.ref bo0_1), .unset] [(.int x0), .null, (.ref bo0_1)]))
    have hz13 : n0 ≤ Tc4_2.heap.size := Nat.le_trans Gc4_2.2.1 (Nat.le_of_lt Gc4_2.1.lt)
    obtain ⟨cqc13_3, kqc13_3, qc13_3a, qc13_3b, qc13_3c⟩ := isOf hZ rfl Gc4_2.1
    obtain ⟨_, _, ⟨Tc13_3, Lc13_3, kc13_3, nc13_3⟩, -, Xc13_3, ⟨Lcc13_3, hQc13_3, lc13_3, yc13_3, zc13_3⟩, stc13_3⟩ := Xc4_2.virtualBack hx (y := (⟨"com/example/ontology_reasoner/ontologyreasoner/engine/Agenda", "push", "(Lcom/example/ontology_reasoner/ontologyreasoner/engine/Node;I)V"⟩ : MethodName)) (z := (⟨"com/example/ontology_reasoner/ontologyreasoner/engine/Agenda", "push", "(Lcom/example/ontology_reasoner/ontologyreasoner/engine/Node;I)V"⟩ : MethodName)) hown (mvT hZ (hw _ (List.mem_of_getElem? (i := 16) rfl))) (mvT hZ (hw _ (List.mem_of_getElem? (i := 17) rfl))) (notFace_of_selects (args := #[]) (mvT hZ (hw _ (List.mem_of_getElem? (i := 19) rfl)))) (mvT hZ (hw _ (List.mem_of_getElem? (i := 19) rfl))) (mvT hZ (hw _ (List.mem_of_getElem? (i := 18) rfl))) (by decide) (backOf (W := 0) (rm3 l Z a0 hw [] bo0_1 x0 (0 : Int32) (0 : Int32) [(0 : Int32), (0 : Int32), (0 : Int32)] Tc4_2.heap n0 hz13 Gc4_2 ⟨⟨by decide, by decide⟩, (Nat.le_of_ble_eq_true rfl)⟩) hZ (hw _ (List.mem_of_getElem? (i := 20) rfl)) (hw _ (List.mem_of_getElem? (i := 2) rfl)) (by decide) (by decide)) qc13_3a qc13_3c (g := (mkF m 13 #[.val (.int x0), .val (.int x1), .val (.int x2), .val (.int x3), .val (.ref bo0_1), .unset] [(.int x0), .null, (.ref bo0_1)])) rfl (by rw [hml]; rfl) (Steps.refl _) (argsL := [.null, (.int x0)]) (rest := []) (lenOf pd_1 rfl) rfl (by show 2 * 0 + _ ≤ _; exact Nat.le_of_eq rfl) (hb hby at_13) (fun _ _ => ⟨rfl, rfl, (by decide : 3 + 0 ≤ _), (by decide : 132 + 0 ≤ _)⟩)
    dsimp only [Pt.U, Pt.locs, Pt.cells, Pt.slots] at Xc13_3 lc13_3 yc13_3 zc13_3 stc13_3 hQc13_3
    subst lc13_3 yc13_3 zc13_3
    obtain ⟨rfl, Nc13_3q, Gc13_3⟩ := hQc13_3
    refine Runs.go (fun _ => stc13_3.trans) ?_
    have Nc13_3 := Fr.app Nc4_2 Nc13_3q
    show Runs p e below s _ _ _ (Tc13_3.setTop (mkF m 16 #[.val (.int x0), .val (.int x1), .val (.int x2), .val (.int x3), .val (.ref bo0_1), .unset] []))
    refine Runs.go (fun _ => XS.aload Xc13_3.here hx rfl (hb hby at_16) rfl rfl) ?_
    show Runs p e below s _ _ _ (Tc13_3.setTop (mkF m 18 #[.val (.int x0), .val (.int x1), .val (.int x2), .val (.int x3), .val (.ref bo0_1), .unset] [(.ref bo0_1)]))
    refine Runs.go (fun _ => XS.aconstNull Xc13_3.here hx rfl (hb hby at_18)) ?_
    show Runs p e below s _ _ _ (Tc13_3.setTop (mkF m 19 #[.val (.int x0), .val (.int x1), .val (.int x2), .val (.int x3), .val (.ref bo0_1), .unset] [.null, (.ref bo0_1)]))
    refine Runs.go (fun _ => XS.iloadN Xc13_3.here hx rfl (hb hby at_19) rfl) ?_
    show Runs p e below s _ _ _ (Tc13_3.setTop (mkF m 20 #[.val (.int x0), .val (.int x1), .val (.int x2), .val (.int x3), .val (.ref bo0_1), .unset] [(.int x1), .null, (.ref bo0_1)]))
    have hz20 : n0 ≤ Tc13_3.heap.size := Nat.le_trans Gc13_3.2.1 (Nat.le_of_lt Gc13_3.1.lt)
    obtain ⟨cqc20_4, kqc20_4, qc20_4a, qc20_4b, qc20_4c⟩ := isOf hZ rfl Gc13_3.1
    obtain ⟨_, _, ⟨Tc20_4, Lc20_4, kc20_4, nc20_4⟩, -, Xc20_4, ⟨Lcc20_4, hQc20_4, lc20_4, yc20_4, zc20_4⟩, stc20_4⟩ := Xc13_3.virtualBack hx (y := (⟨"com/example/ontology_reasoner/ontologyreasoner/engine/Agenda", "push", "(Lcom/example/ontology_reasoner/ontologyreasoner/engine/Node;I)V"⟩ : MethodName)) (z := (⟨"com/example/ontology_reasoner/ontologyreasoner/engine/Agenda", "push", "(Lcom/example/ontology_reasoner/ontologyreasoner/engine/Node;I)V"⟩ : MethodName)) hown (mvT hZ (hw _ (List.mem_of_getElem? (i := 16) rfl))) (mvT hZ (hw _ (List.mem_of_getElem? (i := 17) rfl))) (notFace_of_selects (args := #[]) (mvT hZ (hw _ (List.mem_of_getElem? (i := 19) rfl)))) (mvT hZ (hw _ (List.mem_of_getElem? (i := 19) rfl))) (mvT hZ (hw _ (List.mem_of_getElem? (i := 18) rfl))) (by decide) (backOf (W := 0) (rm3 l Z a0 hw [] bo0_1 x1 (0 : Int32) ((0 : Int32) + (1 : Int32)) (own_set [(0 : Int32), (0 : Int32), (0 : Int32)] (0 : Int32) x0) Tc13_3.heap n0 hz20 Gc13_3 ⟨⟨by decide, by decide⟩, (Nat.le_of_ble_eq_true rfl)⟩) hZ (hw _ (List.mem_of_getElem? (i := 20) rfl)) (hw _ (List.mem_of_getElem? (i := 2) rfl)) (by decide) (by decide)) qc20_4a qc20_4c (g := (mkF m 20 #[.val (.int x0), .val (.int x1), .val (.int x2), .val (.int x3), .val (.ref bo0_1), .unset] [(.int x1), .null, (.ref bo0_1)])) rfl (by rw [hml]; rfl) (Steps.refl _) (argsL := [.null, (.int x1)]) (rest := []) (lenOf pd_1 rfl) rfl (by show 2 * 0 + _ ≤ _; exact Nat.le_of_eq rfl) (hb hby at_20) (fun _ _ => ⟨rfl, rfl, (by decide : 3 + 0 ≤ _), (by decide : 132 + 0 ≤ _)⟩)
    dsimp only [Pt.U, Pt.locs, Pt.cells, Pt.slots] at Xc20_4 lc20_4 yc20_4 zc20_4 stc20_4 hQc20_4
    subst lc20_4 yc20_4 zc20_4
    obtain ⟨rfl, Nc20_4q, Gc20_4⟩ := hQc20_4
    refine Runs.go (fun _ => stc20_4.trans) ?_
    have Nc20_4 := Fr.app Nc13_3 Nc20_4q
    show Runs p e below s _ _ _ (Tc20_4.setTop (mkF m 23 #[.val (.int x0), .val (.int x1), .val (.int x2), .val (.int x3), .val (.ref bo0_1), .unset] []))
    refine Runs.go (fun _ => XS.aload Xc20_4.here hx rfl (hb hby at_23) rfl rfl) ?_
    show Runs p e below s _ _ _ (Tc20_4.setTop (mkF m 25 #[.val (.int x0), .val (.int x1), .val (.int x2), .val (.int x3), .val (.ref bo0_1), .unset] [(.ref bo0_1)]))
    have hz25 : n0 ≤ Tc20_4.heap.size := Nat.le_trans Gc20_4.2.1 (Nat.le_of_lt Gc20_4.1.lt)
    obtain ⟨cqc25_5, kqc25_5, qc25_5a, qc25_5b, qc25_5c⟩ := isOf hZ rfl Gc20_4.1
    obtain ⟨_, _, ⟨Tc25_5, Lc25_5, kc25_5, nc25_5⟩, -, Xc25_5, ⟨Lcc25_5, hQc25_5, lc25_5, yc25_5, zc25_5⟩, stc25_5⟩ := Xc20_4.virtualBack hx (y := (⟨"com/example/ontology_reasoner/ontologyreasoner/engine/Agenda", "pop", "()V"⟩ : MethodName)) (z := (⟨"com/example/ontology_reasoner/ontologyreasoner/engine/Agenda", "pop", "()V"⟩ : MethodName)) hown (mvT hZ (hw _ (List.mem_of_getElem? (i := 23) rfl))) (mvT hZ (hw _ (List.mem_of_getElem? (i := 24) rfl))) (notFace_of_selects (args := #[]) (mvT hZ (hw _ (List.mem_of_getElem? (i := 26) rfl)))) (mvT hZ (hw _ (List.mem_of_getElem? (i := 26) rfl))) (mvT hZ (hw _ (List.mem_of_getElem? (i := 25) rfl))) (by decide) (backOf (W := 0) (rm4 l Z a0 hw [] bo0_1 (0 : Int32) (((0 : Int32) + (1 : Int32)) + (1 : Int32)) (own_set (own_set [(0 : Int32), (0 : Int32), (0 : Int32)] (0 : Int32) x0) ((0 : Int32) + (1 : Int32)) x1) Tc20_4.heap n0 hz25 Gc20_4 ) hZ (hw _ (List.mem_of_getElem? (i := 27) rfl)) (hw _ (List.mem_of_getElem? (i := 2) rfl)) (by decide) (by decide)) qc25_5a qc25_5c (g := (mkF m 25 #[.val (.int x0), .val (.int x1), .val (.int x2), .val (.int x3), .val (.ref bo0_1), .unset] [(.ref bo0_1)])) rfl (by rw [hml]; rfl) (Steps.refl _) (argsL := []) (rest := []) (lenOf pd_0 rfl) rfl (by show 2 * 0 + _ ≤ _; exact Nat.le_of_eq rfl) (hb hby at_25) (fun _ _ => ⟨rfl, rfl, (by decide : 3 + 0 ≤ _), (by decide : 132 + 0 ≤ _)⟩)
    dsimp only [Pt.U, Pt.locs, Pt.cells, Pt.slots] at Xc25_5 lc25_5 yc25_5 zc25_5 stc25_5 hQc25_5
    subst lc25_5 yc25_5 zc25_5
    obtain ⟨rfl, Nc25_5q, Gc25_5⟩ := hQc25_5
    refine Runs.go (fun _ => stc25_5.trans) ?_
    have Nc25_5 := Fr.app Nc20_4 Nc25_5q
    show Runs p e below s _ _ _ (Tc25_5.setTop (mkF m 28 #[.val (.int x0), .val (.int x1), .val (.int x2), .val (.int x3), .val (.ref bo0_1), .unset] []))
    refine Runs.go (fun _ => XS.aload Xc25_5.here hx rfl (hb hby at_28) rfl rfl) ?_
    show Runs p e below s _ _ _ (Tc25_5.setTop (mkF m 30 #[.val (.int x0), .val (.int x1), .val (.int x2), .val (.int x3), .val (.ref bo0_1), .unset] [(.ref bo0_1)]))
    have hz30 : n0 ≤ Tc25_5.heap.size := Nat.le_trans Gc25_5.2.1 (Nat.le_of_lt Gc25_5.1.lt)
    obtain ⟨cqc30_6, kqc30_6, qc30_6a, qc30_6b, qc30_6c⟩ := isOf hZ rfl Gc25_5.1
    obtain ⟨_, _, ⟨Tc30_6, Lc30_6, kc30_6, nc30_6⟩, -, Xc30_6, ⟨Lcc30_6, hQc30_6, lc30_6, yc30_6, zc30_6⟩, stc30_6⟩ := Xc25_5.virtualBack hx (y := (⟨"com/example/ontology_reasoner/ontologyreasoner/engine/Agenda", "position", "()I"⟩ : MethodName)) (z := (⟨"com/example/ontology_reasoner/ontologyreasoner/engine/Agenda", "position", "()I"⟩ : MethodName)) hown (mvT hZ (hw _ (List.mem_of_getElem? (i := 30) rfl))) (mvT hZ (hw _ (List.mem_of_getElem? (i := 31) rfl))) (notFace_of_selects (args := #[]) (mvT hZ (hw _ (List.mem_of_getElem? (i := 33) rfl)))) (mvT hZ (hw _ (List.mem_of_getElem? (i := 33) rfl))) (mvT hZ (hw _ (List.mem_of_getElem? (i := 32) rfl))) (by decide) (backOf (W := 0) (rm5 l Z a0 hw [] bo0_1 ((0 : Int32) + (1 : Int32)) (((0 : Int32) + (1 : Int32)) + (1 : Int32)) (own_set (own_set [(0 : Int32), (0 : Int32), (0 : Int32)] (0 : Int32) x0) ((0 : Int32) + (1 : Int32)) x1) Tc25_5.heap n0 hz30 Gc25_5 ⟨by decide, by decide⟩) hZ (hw _ (List.mem_of_getElem? (i := 34) rfl)) (hw _ (List.mem_of_getElem? (i := 2) rfl)) (by decide) (by decide)) qc30_6a qc30_6c (g := (mkF m 30 #[.val (.int x0), .val (.int x1), .val (.int x2), .val (.int x3), .val (.ref bo0_1), .unset] [(.ref bo0_1)])) rfl (by rw [hml]; rfl) (Steps.refl _) (argsL := []) (rest := []) (lenOf pd_2 rfl) rfl (by show 2 * 0 + _ ≤ _; exact Nat.le_of_eq rfl) (hb hby at_30) (fun _ _ => ⟨rfl, rfl, (by decide : 3 + 0 ≤ _), (by decide : 132 + 0 ≤ _)⟩)
    dsimp only [Pt.U, Pt.locs, Pt.cells, Pt.slots] at Xc30_6 lc30_6 yc30_6 zc30_6 stc30_6 hQc30_6
    subst lc30_6 yc30_6 zc30_6
    obtain ⟨rfl, Nc30_6q, Gc30_6⟩ := hQc30_6
    refine Runs.go (fun _ => stc30_6.trans) ?_
    have Nc30_6 := Fr.app Nc25_5 Nc30_6q
    show Runs p e below s _ _ _ (Tc30_6.setTop (mkF m 33 #[.val (.int x0), .val (.int x1), .val (.int x2), .val (.int x3), .val (.ref bo0_1), .unset] [(.int (F5 ((0 : Int32) + (1 : Int32)) (((0 : Int32) + (1 : Int32)) + (1 : Int32)) (own_set (own_set [(0 : Int32), (0 : Int32), (0 : Int32)] (0 : Int32) x0) ((0 : Int32) + (1 : Int32)) x1)))]))
    refine Runs.go (fun _ => XS.iloadN Xc30_6.here hx rfl (hb hby at_33) rfl) ?_
    show Runs p e below s _ _ _ (Tc30_6.setTop (mkF m 34 #[.val (.int x0), .val (.int x1), .val (.int x2), .val (.int x3), .val (.ref bo0_1), .unset] [(.int x0), (.int (F5 ((0 : Int32) + (1 : Int32)) (((0 : Int32) + (1 : Int32)) + (1 : Int32)) (own_set (own_set [(0 : Int32), (0 : Int32), (0 : Int32)] (0 : Int32) x0) ((0 : Int32) + (1 : Int32)) x1)))]))
    refine Runs.go (fun _ => XS.icmpNo Xc30_6.here hx rfl (hb hby at_34) rfl (teq ((by rfl) : (F5 ((0 : Int32) + (1 : Int32)) (((0 : Int32) + (1 : Int32)) + (1 : Int32)) (own_set (own_set [(0 : Int32), (0 : Int32), (0 : Int32)] (0 : Int32) x0) ((0 : Int32) + (1 : Int32)) x1)) = x0)).2) ?_
    show Runs p e below s _ _ _ (Tc30_6.setTop (mkF m 37 #[.val (.int x0), .val (.int x1), .val (.int x2), .val (.int x3), .val (.ref bo0_1), .unset] []))
    refine Runs.go (fun _ => XS.iconst Xc30_6.here hx rfl (hb hby at_37)) ?_
    show Runs p e below s _ _ _ (Tc30_6.setTop (mkF m 38 #[.val (.int x0), .val (.int x1), .val (.int x2), .val (.int x3), .val (.ref bo0_1), .unset] [(.int (1 : Int32))]))
    refine Runs.go (fun _ => XS.goto Xc30_6.here hx rfl (pc0 := 38) (pc' := 42) rfl (hb hby at_38) (by decide) (by decide)) ?_
    show Runs p e below s _ _ _ (Tc30_6.setTop (mkF m 42 #[.val (.int x0), .val (.int x1), .val (.int x2), .val (.int x3), .val (.ref bo0_1), .unset] [(.int (1 : Int32))]))
    exact k_42 _ _ _ Xc30_6 rfl Nc30_6 bo0_1 Gc30_6 hv
  exact k_0 _ X0 e0 (Fr.nil n0) hF
set_option maxRecDepth 65536 in
set_option maxHeartbeats 40000000 in
theorem comes_1 {Post : Tables → Env → Array Value → State → Outcome → State → Prop} (hpost : ∀ tb e args s v u, (limb_1_1.after args s (.returned v) u = true ∧ limb_1_2.after args s (.returned v) u = true ∧ True) → FrameEnd s (.returned v) u (Jvm.fieldLocs frame_1_writes args s ++ Jvm.arrayLocs frame_1_arrays args s ++ Jvm.staticLocs frame_1_statics s) 16 384 → Post tb e args s (.returned v) u) :
    ArmFor flags0 classFile x code maxLocals ret World_1 tables_1 room_1 Calls_1 rest_1 Pre_1 Post := by
  intro l hfl _ _ p e ha hc hk s m args below hf hA hF happ hP
  obtain ⟨hcalls, hrest, hpre⟩ := hP
  obtain ⟨-, -, -, hnamed, -, -, -, hat⟩ := (Spec.applies_iff hf).mp happ
  obtain ⟨hg, hn⟩ := and_e (Cond.before_iff.mp (show (Jvm.Cond.and given_1 narrow_1).before args s = true from hpre))
  obtain ⟨hcnt, hg⟩ := and_e hg
  obtain ⟨w0, w1, w2, w3, rfl⟩ : ∃ w0 w1 w2 w3 : Value, args = #[w0, w1, w2, w3] := by
    have hs : args.size = 4 := by simpa [Cond.value, given_1] using hcnt
    obtain ⟨L⟩ := args
    match L, hs with
    | [w0, w1, w2, w3], _ => exact ⟨w0, w1, w2, w3, rfl⟩
  obtain ⟨ga0, hg⟩ := and_e hg
  obtain ⟨i0, ei0⟩ := is_v ga0
  obtain rfl : w0 = (.int i0) := Option.some.inj ei0
  obtain ⟨ga1, hg⟩ := and_e hg
  obtain ⟨i1, ei1⟩ := is_v ga1
  obtain rfl : w1 = (.int i1) := Option.some.inj ei1
  obtain ⟨ga2, hg⟩ := and_e hg
  obtain ⟨i2, ei2⟩ := is_v ga2
  obtain rfl : w2 = (.int i2) := Option.some.inj ei2
  have ga3 := hg
  obtain ⟨i3, ei3⟩ := is_v ga3
  obtain rfl : w3 = (.int i3) := Option.some.inj ei3
  have hw := fun d (hd : d ∈ tables_1) => atoms_spec (ws := Jvm.Cond.code x code maxLocals ret :: tables_1) hat d (List.mem_cons_of_mem _ hd)
  obtain ⟨n, o, h1, h2, h3, _, L, rfl, ⟨rfl, N⟩, hq⟩ := rm0 l s _ hw tables_1 i0 i1 i2 i3 s.heap s.heap.size (Nat.le_refl _) p e ha hc hk s m _ below hf ((Spec.applies_iff_loose hf).mp happ).1 ⟨rfl, State.Warmed39.refl s, rfl⟩ trivial
  rw [law_true i0 i1 i2 i3] at hq h3
  exact ⟨n, _, h1, h2, h3, hpost _ _ _ _ _ _ ⟨Cond.after_iff.mpr rfl, Cond.after_iff.mpr (eq_i res_at (Term.int_eval (1)) rfl), trivial⟩ ⟨hq.1, hq.2.1, (hq.2.2.sift fun y hy => Or.inr (N y hy)).mono (by decide) (by decide)⟩⟩
theorem main_1_1 : Claimed_1_1 := comes_1 fun _ _ _ _ _ _ h hF => ⟨h.1, hF⟩
theorem main_1_2 : Claimed_1_2 := comes_1 fun _ _ _ _ _ _ h hF => ⟨h.2.1, hF⟩
end Jvm.Pilot.@@N@@
namespace Jvm.Pilot.@@N@@
open Jvm Jvm.ClassFile Sem Op Lib Jvm.Free Jvm.Stand Jvm.Pilot.@@N@@.Jvm.D
/-! MADE BY PROGRAM (witnessworld.py) out of the Statement's table words and the real class files: 11 classes; the members and pool entries that the words name. The judged class is class 1, her method 1. -/
namespace start1
open Jvm.ClassFile
def u (s : String) : CpInfo := .utf8 (stringToUtf16 s)
/-- a pool by its gaps: so many unusable entries, then the entry; so many at the end -/
def gap : Nat → List CpInfo → List CpInfo
  | 0, r => r
  | n + 1, r => .unusable :: gap n r
def poolList (es : List (Nat × CpInfo)) (last : Nat) : List CpInfo := es.foldr (fun e r => gap e.1 (e.2 :: r)) (gap last [])
def pool (es : List (Nat × CpInfo)) (last : Nat) : Array CpInfo := ⟨poolList es last⟩
def fileOf (pool : Array CpInfo) (this : Nat) (attrs : Array Attribute := #[]) (ms : Array MethodInfo := #[]) (fl : Nat := 33) (sup : Nat := 0) (ifs : Array Nat := #[]) (fds : Array FieldInfo := #[]) : ClassFile where
  minorVersion := 0
  majorVersion := 65
  constantPool := pool
  accessFlags := fl
  thisClass := this
  superClass := sup
  interfaces := ifs
  fields := fds
  methods := ms
  attributes := attrs
def plain (name : String) (sup : Option ClassId) : Class where
  name := name
  kind := .ordinary
  loader := none
  accessFlags := 33
  super := sup
  interfaces := #[]
  cf := none
  fields := #[]
  methods := #[]
  instanceTypes := #[]
  staticTypes := #[]
  resolved := #[]
  callSites := []
  init := .initialized
  statics := none
  mirror := none

def pool0 : Array CpInfo := pool [(5, u "<init>"), (0, u "()V"), (1, .class_ 10), (1, u "java/lang/Object")] 113

def k0c0 : Code := { maxStack := 0, maxLocals := 1, code := object_method_1_code, exceptionTable := #[], attributes := #[] }
def k0m0 : Method := { name := "<init>", desc := "()V", sig := { parameters := [], returnType := none }, accessFlags := 1, code := some k0c0 }
/-- java/lang/Object -/
def k0 : Class := { plain "java/lang/Object" none with
  accessFlags := 33
  interfaces := #[]
  cf := some (fileOf pool0 8 #[] #[{ accessFlags := 1, nameIndex := 5, descriptorIndex := 6, attributes := #[] }] 33 0 #[] #[])
  fields := #[]
  methods := #[k0m0]
  instanceTypes := #[]
  staticTypes := #[]
  resolved := Array.replicate 124 none
  statics := none }

def pool1 : Array CpInfo := pool [(2, .class_ 4), (0, .nameAndType 5 6), (0, u "java/lang/Object"), (0, u "<init>"), (0, u "()V"), (0, .class_ 8), (0, u "com/example/ontology_reasoner/ontologyreasoner/engine/Agenda"), (0, .methodref 7 3), (0, .methodref 7 11), (0, .nameAndType 12 13), (0, u "push"), (0, u "(Lcom/example/ontology_reasoner/ontologyreasoner/engine/Node;I)V"), (0, .methodref 7 15), (0, .nameAndType 16 6), (0, u "pop"), (0, .methodref 7 18), (0, .nameAndType 19 20), (0, u "position"), (0, u "()I"), (0, .methodref 7 22), (0, .nameAndType 23 24), (0, u "restore"), (0, u "(II)V"), (0, .class_ 26), (0, u "com/example/ontology_reasoner/ontologyreasoner/engine/AgendaPositionPinLaw"), (2, u "law"), (0, u "(IIII)Z")] 3

def k1m0 : Method := { name := "<init>", desc := "()V", sig := { parameters := [], returnType := none }, accessFlags := 1, code := none }
def k1c1 : Code := { maxStack := 3, maxLocals := 6, code := code, exceptionTable := #[], attributes := #[] }
def k1m1 : Method := { name := "law", desc := "(IIII)Z", sig := { parameters := [.int, .int, .int, .int], returnType := some .boolean }, accessFlags := 9, code := some k1c1 }
/-- com/example/ontology_reasoner/ontologyreasoner/engine/AgendaPositionPinLaw -/
def k1 : Class := { plain "com/example/ontology_reasoner/ontologyreasoner/engine/AgendaPositionPinLaw" (some 0) with
  accessFlags := 49
  interfaces := #[]
  cf := some (fileOf pool1 25 #[] #[{ accessFlags := 1, nameIndex := 5, descriptorIndex := 6, attributes := #[] }, { accessFlags := 9, nameIndex := 29, descriptorIndex := 30, attributes := #[] }] 49 2 #[] #[])
  fields := #[]
  methods := #[k1m0, k1m1]
  instanceTypes := #[]
  staticTypes := #[]
  resolved := Array.replicate 34 none
  statics := none }

def pool2 : Array CpInfo := pool [(1, .methodref 2 3), (0, .class_ 4), (0, .nameAndType 5 6), (0, u "java/lang/Object"), (0, u "<init>"), (0, u "()V"), (0, .class_ 8), (0, u "com/example/ontology_reasoner/ontologyreasoner/engine/Node"), (0, .fieldref 10 11), (0, .class_ 12), (0, .nameAndType 13 14), (0, u "com/example/ontology_reasoner/ontologyreasoner/engine/Agenda"), (0, u "nodes"), (0, u "[Lcom/example/ontology_reasoner/ontologyreasoner/engine/Node;"), (0, .fieldref 10 16), (0, .nameAndType 17 18), (0, u "positions"), (0, u "[I"), (0, .fieldref 10 20), (0, .nameAndType 21 22), (0, u "head"), (0, u "I"), (0, .fieldref 10 24), (0, .nameAndType 25 22), (0, u "tail"), (15, u "push"), (0, u "(Lcom/example/ontology_reasoner/ontologyreasoner/engine/Node;I)V"), (0, u "pop"), (2, u "position"), (0, u "()I"), (0, u "restore"), (0, u "(II)V")] 2

def k2c0 : Code := { maxStack := 2, maxLocals := 1, code := prog_1_method_1_code, exceptionTable := #[], attributes := #[] }
def k2m0 : Method := { name := "<init>", desc := "()V", sig := { parameters := [], returnType := none }, accessFlags := 0, code := some k2c0 }
def k2c1 : Code := { maxStack := 4, maxLocals := 3, code := prog_1_method_3_code, exceptionTable := #[], attributes := #[] }
def k2m1 : Method := { name := "push", desc := "(Lcom/example/ontology_reasoner/ontologyreasoner/engine/Node;I)V", sig := { parameters := [(.object "com/example/ontology_reasoner/ontologyreasoner/engine/Node"), .int], returnType := none }, accessFlags := 0, code := some k2c1 }
def k2c2 : Code := { maxStack := 3, maxLocals := 1, code := prog_1_method_4_code, exceptionTable := #[], attributes := #[] }
def k2m2 : Method := { name := "pop", desc := "()V", sig := { parameters := [], returnType := none }, accessFlags := 0, code := some k2c2 }
def k2c3 : Code := { maxStack := 3, maxLocals := 1, code := prog_1_method_6_code, exceptionTable := #[], attributes := #[] }
def k2m3 : Method := { name := "position", desc := "()I", sig := { parameters := [], returnType := some .int }, accessFlags := 0, code := some k2c3 }
def k2c4 : Code := { maxStack := 2, maxLocals := 3, code := prog_1_method_9_code, exceptionTable := #[], attributes := #[] }
def k2m4 : Method := { name := "restore", desc := "(II)V", sig := { parameters := [.int, .int], returnType := none }, accessFlags := 0, code := some k2c4 }
/-- com/example/ontology_reasoner/ontologyreasoner/engine/Agenda -/
def k2 : Class := { plain "com/example/ontology_reasoner/ontologyreasoner/engine/Agenda" (some 0) with
  accessFlags := 32
  interfaces := #[]
  cf := some (fileOf pool2 10 #[] #[{ accessFlags := 0, nameIndex := 5, descriptorIndex := 6, attributes := #[] }, { accessFlags := 0, nameIndex := 41, descriptorIndex := 42, attributes := #[] }, { accessFlags := 0, nameIndex := 43, descriptorIndex := 6, attributes := #[] }, { accessFlags := 0, nameIndex := 46, descriptorIndex := 47, attributes := #[] }, { accessFlags := 0, nameIndex := 48, descriptorIndex := 49, attributes := #[] }] 32 2 #[] #[{ accessFlags := 2, nameIndex := 13, descriptorIndex := 14, attributes := #[] }, { accessFlags := 2, nameIndex := 17, descriptorIndex := 18, attributes := #[] }, { accessFlags := 2, nameIndex := 21, descriptorIndex := 22, attributes := #[] }, { accessFlags := 2, nameIndex := 25, descriptorIndex := 22, attributes := #[] }])
  fields := #[{ name := "nodes", type := (.array (.object "com/example/ontology_reasoner/ontologyreasoner/engine/Node")), accessFlags := 2, slot := 0, constantValue := 0 }, { name := "positions", type := (.array .int), accessFlags := 2, slot := 1, constantValue := 0 }, { name := "head", type := .int, accessFlags := 2, slot := 2, constantValue := 0 }, { name := "tail", type := .int, accessFlags := 2, slot := 3, constantValue := 0 }]
  methods := #[k2m0, k2m1, k2m2, k2m3, k2m4]
  instanceTypes := #[(.array (.object "com/example/ontology_reasoner/ontologyreasoner/engine/Node")), (.array .int), .int, .int]
  staticTypes := #[]
  resolved := Array.replicate 52 none
  statics := none }

def pool3 : Array CpInfo := pool [(2, .class_ 4), (1, u "java/lang/Object"), (6, .class_ 13), (1, u "com/example/ontology_reasoner/ontologyreasoner/engine/Node"), (0, u "concepts"), (0, u "Ljava/util/List;"), (2, u "deps"), (5, u "members"), (0, u "Ljava/util/BitSet;"), (2, u "edges"), (2, u "existentials"), (2, u "universals"), (2, u "atMosts"), (2, u "distinct"), (2, u "distinctDeps"), (2, u "parent"), (0, u "Lcom/example/ontology_reasoner/ontologyreasoner/engine/Node;"), (7, u "in"), (0, u "Lcom/example/ontology_reasoner/ontologyreasoner/engine/Edge;"), (54, u "pruned"), (0, u "Z"), (2, u "mergedInto"), (2, u "examined"), (2, u "blocked"), (5, .class_ 129), (1, u "com/example/ontology_reasoner/ontologyreasoner/engine/Node$1")] 76

/-- com/example/ontology_reasoner/ontologyreasoner/engine/Node -/
def k3 : Class := { plain "com/example/ontology_reasoner/ontologyreasoner/engine/Node" (some 0) with
  accessFlags := 32
  interfaces := #[]
  cf := some (fileOf pool3 11 #[.nestMembers #[127]] #[] 32 2 #[] #[{ accessFlags := 18, nameIndex := 46, descriptorIndex := 47, attributes := #[] }, { accessFlags := 18, nameIndex := 55, descriptorIndex := 56, attributes := #[] }, { accessFlags := 18, nameIndex := 14, descriptorIndex := 15, attributes := #[] }, { accessFlags := 18, nameIndex := 18, descriptorIndex := 15, attributes := #[] }, { accessFlags := 18, nameIndex := 24, descriptorIndex := 25, attributes := #[] }, { accessFlags := 18, nameIndex := 28, descriptorIndex := 15, attributes := #[] }, { accessFlags := 2, nameIndex := 118, descriptorIndex := 112, attributes := #[] }, { accessFlags := 2, nameIndex := 121, descriptorIndex := 112, attributes := #[] }, { accessFlags := 18, nameIndex := 31, descriptorIndex := 15, attributes := #[] }, { accessFlags := 18, nameIndex := 34, descriptorIndex := 15, attributes := #[] }, { accessFlags := 18, nameIndex := 37, descriptorIndex := 15, attributes := #[] }, { accessFlags := 18, nameIndex := 40, descriptorIndex := 15, attributes := #[] }, { accessFlags := 18, nameIndex := 43, descriptorIndex := 15, attributes := #[] }, { accessFlags := 2, nameIndex := 111, descriptorIndex := 112, attributes := #[] }, { accessFlags := 2, nameIndex := 115, descriptorIndex := 47, attributes := #[] }])
  fields := #[{ name := "parent", type := (.object "com/example/ontology_reasoner/ontologyreasoner/engine/Node"), accessFlags := 18, slot := 0, constantValue := 0 }, { name := "in", type := (.object "com/example/ontology_reasoner/ontologyreasoner/engine/Edge"), accessFlags := 18, slot := 1, constantValue := 0 }, { name := "concepts", type := (.object "java/util/List"), accessFlags := 18, slot := 2, constantValue := 0 }, { name := "deps", type := (.object "java/util/List"), accessFlags := 18, slot := 3, constantValue := 0 }, { name := "members", type := (.object "java/util/BitSet"), accessFlags := 18, slot := 4, constantValue := 0 }, { name := "edges", type := (.object "java/util/List"), accessFlags := 18, slot := 5, constantValue := 0 }, { name := "examined", type := .boolean, accessFlags := 2, slot := 6, constantValue := 0 }, { name := "blocked", type := .boolean, accessFlags := 2, slot := 7, constantValue := 0 }, { name := "existentials", type := (.object "java/util/List"), accessFlags := 18, slot := 8, constantValue := 0 }, { name := "universals", type := (.object "java/util/List"), accessFlags := 18, slot := 9, constantValue := 0 }, { name := "atMosts", type := (.object "java/util/List"), accessFlags := 18, slot := 10, constantValue := 0 }, { name := "distinct", type := (.object "java/util/List"), accessFlags := 18, slot := 11, constantValue := 0 }, { name := "distinctDeps", type := (.object "java/util/List"), accessFlags := 18, slot := 12, constantValue := 0 }, { name := "pruned", type := .boolean, accessFlags := 2, slot := 13, constantValue := 0 }, { name := "mergedInto", type := (.object "com/example/ontology_reasoner/ontologyreasoner/engine/Node"), accessFlags := 2, slot := 14, constantValue := 0 }]
  methods := #[]
  instanceTypes := #[(.object "com/example/ontology_reasoner/ontologyreasoner/engine/Node"), (.object "com/example/ontology_reasoner/ontologyreasoner/engine/Edge"), (.object "java/util/List"), (.object "java/util/List"), (.object "java/util/BitSet"), (.object "java/util/List"), .boolean, .boolean, (.object "java/util/List"), (.object "java/util/List"), (.object "java/util/List"), (.object "java/util/List"), (.object "java/util/List"), .boolean, (.object "com/example/ontology_reasoner/ontologyreasoner/engine/Node")]
  staticTypes := #[]
  resolved := Array.replicate 206 none
  statics := none }

def pool4 : Array CpInfo := pool [(1, u "java/lang/Cloneable"), (0, .class_ 1), (0, u "java/lang/Object"), (0, .class_ 3)] 3

/-- java/lang/Cloneable -/
def k4 : Class := { plain "java/lang/Cloneable" (some 0) with
  accessFlags := 1537
  interfaces := #[]
  cf := some (fileOf pool4 2 #[] #[] 1537 4 #[] #[])
  fields := #[]
  methods := #[]
  instanceTypes := #[]
  staticTypes := #[]
  resolved := Array.replicate 8 none
  statics := none }

def pool5 : Array CpInfo := pool [(1, u "java/io/Serializable"), (0, .class_ 1), (0, u "java/lang/Object"), (0, .class_ 3)] 3

/-- java/io/Serializable -/
def k5 : Class := { plain "java/io/Serializable" (some 0) with
  accessFlags := 1537
  interfaces := #[]
  cf := some (fileOf pool5 2 #[] #[] 1537 4 #[] #[])
  fields := #[]
  methods := #[]
  instanceTypes := #[]
  staticTypes := #[]
  resolved := Array.replicate 8 none
  statics := none }

/-- the primitive byte -/
def k6 : Class := { plain "byte" none with kind := .primitive 'B', accessFlags := 0x411 }
/-- [B -/
def k7 : Class := { plain "[B" (some 0) with kind := .array 6 .byte, interfaces := #[4, 5], accessFlags := 1041 }

/-- the primitive int -/
def k8 : Class := { plain "int" none with kind := .primitive 'I', accessFlags := 0x411 }
/-- [I -/
def k9 : Class := { plain "[I" (some 0) with kind := .array 8 .int, interfaces := #[4, 5], accessFlags := 1041 }

/-- [Lcom/example/ontology_reasoner/ontologyreasoner/engine/Node; -/
def k10 : Class := { plain "[Lcom/example/ontology_reasoner/ontologyreasoner/engine/Node;" (some 0) with kind := .array 3 (.object "com/example/ontology_reasoner/ontologyreasoner/engine/Node"), interfaces := #[4, 5], accessFlags := 1041 }

def heap : Heap := #[]
def classes : Array Class := #[k0, k1, k2, k3, k4, k5, k6, k7, k8, k9, k10]
def interned : List (Array UInt16 × Addr) := []
def slotsUsed : Nat := 0
def theMethod : MethodId := ⟨1, 1⟩
def args0 : Array Value := #[.int 7, .int 8, .int 9, .int 10]
def aboutOver (below : List Frame) : State where
  vm := { classes := classes, interned := interned.toArray }
  heap := heap
  slotsUsed := slotsUsed
  threads := #[{ frames := .invoking theMethod args0 :: below }]
def below0 : List Frame := [.native { method := ⟨0, 0⟩, args := #[] }]
def about1 : State := aboutOver below0
def p0 : Program := .bare "" "" ""
def e0 : Env := launch0.env 0 0 0
theorem w_frames : about1.frames = Frame.invoking theMethod args0 :: below0 := rfl
set_option maxRecDepth 65536 in
theorem w_args : argsFit about1.vm theMethod args0 = true := by decide +kernel
set_option maxRecDepth 65536 in
theorem w_heap : heapFits about1 = true := by decide +kernel
set_option maxRecDepth 65536 in
theorem w_runnable : about1.curStatus? = some .runnable := by decide +kernel
set_option maxRecDepth 65536 in
theorem w_alone : about1.alone = true := by decide +kernel
set_option maxRecDepth 65536 in
theorem w_named : about1.methodNamed? x = some theMethod := by decide +kernel
set_option maxRecDepth 65536 in
theorem w_hears : about1.hears theMethod below0 = true := by decide +kernel
set_option maxRecDepth 65536 in
theorem w_ripe : about1.ripe theMethod args0 below0 = true := by decide +kernel
theorem w_running : about1.status = .running := rfl
set_option maxRecDepth 65536 in
theorem w_room : about1.hasRoom e0.platform room_1 = true :=
  launch0.hasRoom_least _ room_1 (by decide +kernel) (by decide +kernel) (by decide +kernel) (by decide +kernel) (by decide +kernel) (by decide +kernel)
theorem allAtoms_all (ts : List Jvm.Cond) (a : Array Jvm.Value) (st : Jvm.State) : (allAtoms ts).before a st = ts.all (fun c => c.before a st) := by
  induction ts with
  | nil => rfl
  | cons c t ih =>
    show (Jvm.Cond.and c (allAtoms t)).before a st = _
    rw [Jvm.Cond.before_and, ih, List.all_cons]
def words1 : List Jvm.Cond := Jvm.Cond.code x code maxLocals ret :: tables_1
/-- a 'code' word, met by the world's own term for the bytes: nothing is compared byte by byte -/
theorem code_word {y : MethodName} {bytes : ByteArray} {mx : Nat} {rt : Option FieldType} {a : Array Value} {s : State} {m : MethodId} {meth : Method} {c : Code} (h1 : s.methodNamed? y = some m) (h2 : s.vm.method? m = some meth) (h3 : meth.code = some c) (h4 : c.code = bytes)
    (h5 : (c.maxLocals == mx && c.exceptionTable.isEmpty && decide (c.maxStack ≤ mostOperands) && decide (meth.sig.returnType = rt) && !meth.locks && decide (parseMethodDescriptor y.desc = some meth.sig)) = true) : (Jvm.Cond.code y bytes mx rt).before a s = true := by
  simp only [Bool.and_eq_true, beq_iff_eq, Bool.not_eq_true', decide_eq_true_eq] at h5
  obtain ⟨⟨⟨⟨⟨g1, g2⟩, g3⟩, g4⟩, g5⟩, g6⟩ := h5
  simp [Cond.before, Cond.holds, Cond.value, h1, h2, h3, h4, g1, g2, g3, g4, g5, g6]
def isCode : Jvm.Cond → Bool
  | .code _ _ _ _ => true
  | _ => false
theorem all_split {L : List Jvm.Cond} {P : Jvm.Cond → Bool} (h1 : L.all (fun c => isCode c || P c) = true) (h2 : ∀ c ∈ L.filter isCode, P c = true) : L.all P = true := by
  refine List.all_eq_true.mpr fun c hc => ?_
  have h := List.all_eq_true.mp h1 c hc
  rcases Bool.eq_false_or_eq_true (isCode c) with hi | hi
  · exact h2 c (List.mem_filter.mpr ⟨hc, hi⟩)
  · simpa [hi] using h
set_option maxRecDepth 65536 in
theorem w_c0 : (Jvm.Cond.code x code maxLocals ret).before args0 about1 = true := code_word (m := ⟨1, 1⟩) (meth := k1m1) (c := k1c1) (by decide +kernel) rfl rfl rfl (by decide +kernel)
set_option maxRecDepth 65536 in
theorem w_c1 : (Jvm.Cond.code ({ cls := "com/example/ontology_reasoner/ontologyreasoner/engine/Agenda", name := "<init>", desc := "()V" } : Jvm.MethodName) prog_1_method_1_code (1 : Nat) (Option.none : Option Jvm.ClassFile.FieldType)).before args0 about1 = true := code_word (m := ⟨2, 0⟩) (meth := k2m0) (c := k2c0) (by decide +kernel) rfl rfl rfl (by decide +kernel)
set_option maxRecDepth 65536 in
theorem w_c2 : (Jvm.Cond.code ({ cls := "java/lang/Object", name := "<init>", desc := "()V" } : Jvm.MethodName) object_method_1_code (1 : Nat) (Option.none : Option Jvm.ClassFile.FieldType)).before args0 about1 = true := code_word (m := ⟨0, 0⟩) (meth := k0m0) (c := k0c0) (by decide +kernel) rfl rfl rfl (by decide +kernel)
set_option maxRecDepth 65536 in
theorem w_c3 : (Jvm.Cond.code ({ cls := "com/example/ontology_reasoner/ontologyreasoner/engine/Agenda", name := "push", desc := "(Lcom/example/ontology_reasoner/ontologyreasoner/engine/Node;I)V" } : Jvm.MethodName) prog_1_method_3_code (3 : Nat) (Option.none : Option Jvm.ClassFile.FieldType)).before args0 about1 = true := code_word (m := ⟨2, 1⟩) (meth := k2m1) (c := k2c1) (by decide +kernel) rfl rfl rfl (by decide +kernel)
set_option maxRecDepth 65536 in
theorem w_c4 : (Jvm.Cond.code ({ cls := "com/example/ontology_reasoner/ontologyreasoner/engine/Agenda", name := "pop", desc := "()V" } : Jvm.MethodName) prog_1_method_4_code (1 : Nat) (Option.none : Option Jvm.ClassFile.FieldType)).before args0 about1 = true := code_word (m := ⟨2, 2⟩) (meth := k2m2) (c := k2c2) (by decide +kernel) rfl rfl rfl (by decide +kernel)
set_option maxRecDepth 65536 in
theorem w_c5 : (Jvm.Cond.code ({ cls := "com/example/ontology_reasoner/ontologyreasoner/engine/Agenda", name := "position", desc := "()I" } : Jvm.MethodName) prog_1_method_6_code (1 : Nat) (Option.some Jvm.ClassFile.FieldType.int)).before args0 about1 = true := code_word (m := ⟨2, 3⟩) (meth := k2m3) (c := k2c3) (by decide +kernel) rfl rfl rfl (by decide +kernel)
set_option maxRecDepth 65536 in
theorem w_c6 : (Jvm.Cond.code ({ cls := "com/example/ontology_reasoner/ontologyreasoner/engine/Agenda", name := "restore", desc := "(II)V" } : Jvm.MethodName) prog_1_method_9_code (3 : Nat) (Option.none : Option Jvm.ClassFile.FieldType)).before args0 about1 = true := code_word (m := ⟨2, 4⟩) (meth := k2m4) (c := k2c4) (by decide +kernel) rfl rfl rfl (by decide +kernel)
def codes1 : List Jvm.Cond := [Jvm.Cond.code x code maxLocals ret, Jvm.Cond.code ({ cls := "com/example/ontology_reasoner/ontologyreasoner/engine/Agenda", name := "<init>", desc := "()V" } : Jvm.MethodName) prog_1_method_1_code (1 : Nat) (Option.none : Option Jvm.ClassFile.FieldType), Jvm.Cond.code ({ cls := "java/lang/Object", name := "<init>", desc := "()V" } : Jvm.MethodName) object_method_1_code (1 : Nat) (Option.none : Option Jvm.ClassFile.FieldType), Jvm.Cond.code ({ cls := "com/example/ontology_reasoner/ontologyreasoner/engine/Agenda", name := "push", desc := "(Lcom/example/ontology_reasoner/ontologyreasoner/engine/Node;I)V" } : Jvm.MethodName) prog_1_method_3_code (3 : Nat) (Option.none : Option Jvm.ClassFile.FieldType), Jvm.Cond.code ({ cls := "com/example/ontology_reasoner/ontologyreasoner/engine/Agenda", name := "pop", desc := "()V" } : Jvm.MethodName) prog_1_method_4_code (1 : Nat) (Option.none : Option Jvm.ClassFile.FieldType), Jvm.Cond.code ({ cls := "com/example/ontology_reasoner/ontologyreasoner/engine/Agenda", name := "position", desc := "()I" } : Jvm.MethodName) prog_1_method_6_code (1 : Nat) (Option.some Jvm.ClassFile.FieldType.int), Jvm.Cond.code ({ cls := "com/example/ontology_reasoner/ontologyreasoner/engine/Agenda", name := "restore", desc := "(II)V" } : Jvm.MethodName) prog_1_method_9_code (3 : Nat) (Option.none : Option Jvm.ClassFile.FieldType)]
set_option maxRecDepth 65536 in
theorem codes_eq : words1.filter isCode = codes1 := rfl
theorem w_codes : ∀ c ∈ words1.filter isCode, c.before args0 about1 = true := by
  rw [codes_eq]
  intro c hc
  simp only [codes1, List.mem_cons, List.not_mem_nil, or_false] at hc
  rcases hc with rfl | rfl | rfl | rfl | rfl | rfl | rfl
  · exact w_c0
  · exact w_c1
  · exact w_c2
  · exact w_c3
  · exact w_c4
  · exact w_c5
  · exact w_c6
set_option maxRecDepth 65536 in
theorem w_t1 : (words1.take 24).all (fun c => isCode c || c.before args0 about1) = true := by decide +kernel
set_option maxRecDepth 65536 in
theorem w_t2 : (words1.drop 24).all (fun c => isCode c || c.before args0 about1) = true := by decide +kernel
theorem w_tables : (allAtoms (Jvm.Cond.code x code maxLocals ret :: tables_1)).before args0 about1 = true := by
  rw [allAtoms_all]
  show words1.all (fun c => c.before args0 about1) = true
  refine all_split ?_ w_codes
  rw [← List.take_append_drop 24 words1, List.all_append, w_t1, w_t2]
  rfl
set_option maxRecDepth 65536 in
theorem w_case : (Jvm.Cond.and given_1 narrow_1).before args0 about1 = true := by decide +kernel
theorem w_applies : (headSpec (Jvm.Cond.code x code maxLocals ret :: tables_1) room_1).applies x e0.platform about1 = true :=
  (Spec.applies_iff w_frames).mpr ⟨w_running, w_runnable, w_alone, w_named, w_hears, w_ripe, w_room, w_tables⟩
theorem atStart : AtStart classFile x code maxLocals ret World_1 tables_1 room_1 Calls_1 rest_1 Pre_1 launch0 p0 e0 about1 theMethod args0 below0 :=
  ⟨lists_1, trivial, launch0.admits_env _ _ _, launch0.least_env, fairChoices_fair.cas, fairChoices_fair.clock, w_frames, w_args, w_heap, w_applies, trivial, trivial, w_case⟩
end start1
theorem witness_1 : WitnessClaimed_1 := ⟨start1.p0, start1.e0, start1.about1, start1.theMethod, start1.args0, start1.below0, start1.atStart⟩
end Jvm.Pilot.@@N@@
