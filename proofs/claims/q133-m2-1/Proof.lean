import JvmDerived
import JvmDerived.Pilot.@@N@@Statement
import JvmDerived.Pilot.@@N@@Code
set_option linter.unusedVariables false
set_option linter.unusedSimpArgs false

namespace Jvm.Pilot.@@N@@
open Jvm Jvm.ClassFile Sem Op Lib Jvm.Free Jvm.Stand Jvm.LawKit Jvm.RoadKit Bundle Jvm.Pilot.@@N@@.Jvm.D
def QH (w : Value) (n0 : Nat) (v : Option Value) (h : Heap) (L : List Loc) : Prop := v = some w ∧ Fr n0 L
def own_at (l : List Int32) (j : Int32) : Int32 := l.getD j.toNatClampNeg 0
theorem own_getD (l : List Int32) (j : Int32) : (List.map Value.int l).getD j.toNatClampNeg (.int (0 : Int32)) = .int (own_at l j) := by
  simp only [own_at, List.getD_eq_getElem?_getD, List.getElem?_map]
  cases l[j.toNatClampNeg]? <;> rfl
def own_atJ (l : List Int64) (j : Int32) : Int64 := l.getD j.toNatClampNeg 0
theorem own_getDJ (l : List Int64) (j : Int32) : (List.map Value.long l).getD j.toNatClampNeg (.long (0 : Int64)) = .long (own_atJ l j) := by
  simp only [own_atJ, List.getD_eq_getElem?_getD, List.getElem?_map]
  cases l[j.toNatClampNeg]? <;> rfl
def QP (w : Value) (h0 : Heap) (v : Option Value) (h : Heap) (L : List Loc) : Prop := v = some w ∧ L = [] ∧ h = h0
def Runs (p : Program) (e : Env) (below : List Frame) (s : State) (Q : Option Value → Heap → List Loc → Prop) (k n : Nat) (A : State) : Prop :=
  ∃ s₂ o, Steps p.tables e below A s₂ ∧ s₂.status = .running ∧ Ended s₂ below o ∧ ∃ v L, o = .returned v ∧ Q v s₂.heap L ∧ FrameEnd s o s₂ L k n
section Ends
variable {p : Program} {l : Launch} {e : Env} {R : Room} {s : State} {m : MethodId} {args : Array Value} {below : List Frame} {meth : Method} {c : Code} {T A B : State} {locs : List Loc} {cells slots : Nat} {Q : Option Value → Heap → List Loc → Prop} {k n pc : Nat} {Ls : Array Slot} {rest : List Value}
theorem Runs.go (h : ∀ t, Steps p.tables e below B t → Steps p.tables e below A t) (q : Runs p e below s Q k n B) : Runs p e below s Q k n A := by
  obtain ⟨s₂, o, h1, h2⟩ := q; exact ⟨s₂, o, h _ h1, h2⟩
theorem Runs.endI (X : Stand p l e R s m args below meth c T locs cells slots) (hx : p.tables.exec = Jvm.exec) {z : Int32} (hret : meth.sig.returnType = some .int) (hl : meth.locks = false) (hd : decode c.code pc = .ok (.ireturn, 1)) (hQ : Q (some (.int z)) T.heap locs) (hk : cells ≤ k) (hn : slots ≤ n) : Runs p e below s Q k n (T.setTop (mkF m pc Ls (.int z :: rest))) := by
  obtain ⟨fs, hr, hrun, hended, hW, hsame⟩ := X.leave (v := some (.int z)) (fun h => by rw [hret] at h; cases h) hl
  exact ⟨_, _, retOut X hx hret rfl (Or.inl ⟨rfl, Or.inl rfl, _, rfl⟩) hd hr, hrun, hended, _, _, rfl, hQ, ⟨_, rfl⟩, hW, hsame.mono hk hn⟩
theorem Runs.endJ (X : Stand p l e R s m args below meth c T locs cells slots) (hx : p.tables.exec = Jvm.exec) {z : Int64} (hret : meth.sig.returnType = some .long) (hl : meth.locks = false) (hd : decode c.code pc = .ok (.lreturn, 1)) (hQ : Q (some (.long z)) T.heap locs) (hk : cells ≤ k) (hn : slots ≤ n) : Runs p e below s Q k n (T.setTop (mkF m pc Ls (.long z :: rest))) := by
  obtain ⟨fs, hr, hrun, hended, hW, hsame⟩ := X.leave (v := some (.long z)) (fun h => by rw [hret] at h; cases h) hl
  exact ⟨_, _, retOut X hx hret rfl (Or.inr (Or.inl ⟨rfl, rfl, _, rfl⟩)) hd hr, hrun, hended, _, _, rfl, hQ, ⟨_, rfl⟩, hW, hsame.mono hk hn⟩
theorem Runs.endN (X : Stand p l e R s m args below meth c T locs cells slots) (hx : p.tables.exec = Jvm.exec) {z : Int32} {t : FieldType} (hret : meth.sig.returnType = some t) (ht : t = .boolean ∨ t = .byte ∨ t = .char ∨ t = .short) (hl : meth.locks = false) (hd : decode c.code pc = .ok (.ireturn, 1)) (hQ : Q (some (.int (nar t z))) T.heap locs) (hk : cells ≤ k) (hn : slots ≤ n) : Runs p e below s Q k n (T.setTop (mkF m pc Ls (.int z :: rest))) := by
  obtain ⟨fs, hr, hrun, hended, hW, hsame⟩ := X.leave (v := some (.int (nar t z))) (fun h => by rw [hret] at h; cases h) hl
  exact ⟨_, _, retN X hx hret ht hd hr, hrun, hended, _, _, rfl, hQ, ⟨_, rfl⟩, hW, hsame.mono hk hn⟩
theorem Runs.endV (X : Stand p l e R s m args below meth c T locs cells slots) (hx : p.tables.exec = Jvm.exec) (hret : meth.sig.returnType = none) (hl : meth.locks = false) (hd : decode c.code pc = .ok (.return_, 1)) (hQ : Q none T.heap locs) (hk : cells ≤ k) (hn : slots ≤ n) : Runs p e below s Q k n (T.setTop (mkF m pc Ls [])) := by
  obtain ⟨fs, hr, hrun, hended, hW, hsame⟩ := X.leave (v := none) (fun _ => rfl) hl
  exact ⟨_, _, X.returnOut hx hret hd hr, hrun, hended, _, _, rfl, hQ, ⟨_, rfl⟩, hW, hsame.mono hk hn⟩
theorem Runs.endR (X : Stand p l e R s m args below meth c T locs cells slots) (hx : p.tables.exec = Jvm.exec) {z : Addr} {t : FieldType} (hret : meth.sig.returnType = some t) (ht : t.isReference = true) (hl : meth.locks = false) (hd : decode c.code pc = .ok (.areturn, 1)) (hQ : Q (some (.ref z)) T.heap locs) (hk : cells ≤ k) (hn : slots ≤ n) : Runs p e below s Q k n (T.setTop (mkF m pc Ls (.ref z :: rest))) := by
  obtain ⟨fs, hr, hrun, hended, hW, hsame⟩ := X.leave (v := some (.ref z)) (fun h => by rw [hret] at h; cases h) hl
  exact ⟨_, _, retOut X hx hret (by cases t <;> first | rfl | cases ht) (Or.inr (Or.inr (Or.inr (Or.inr ⟨rfl, ht, rfl⟩)))) hd hr, hrun, hended, _, _, rfl, hQ, ⟨_, rfl⟩, hW, hsame.mono hk hn⟩
end Ends
def QI (Z : State) (n0 : Nat) (a b : Addr) (i : Int32) (h0 : Heap) (w v : Option Value) (h : Heap) (L : List Loc) : Prop := v = w ∧ Fr n0 L ∧ Keep h0 h [a] ∧ Exa Z h a "com/example/quillon/quillon/core/Prioritization" ∧ Fld Z h a "com/example/quillon/quillon/core/Prioritization" "order" "[I" (.ref b) ∧ Fld Z h a "com/example/quillon/quillon/core/Prioritization" "iterations" "I" (.int i)
def QO (Z : State) (n0 : Nat) (k : ClassId) (z : Int32) (vs : List Value) (h0 : Heap) (v : Option Value) (h : Heap) (L : List Loc) : Prop := ∃ b : Addr, v = some (.ref b) ∧ Fr n0 L ∧ b = h0.size ∧ Ext h0 h ∧ Arv Z h b k .int z vs (.int (0 : Int32)) ∧ Exa Z h b "[I"
theorem own_four (x : Int32) : (x &&& (3 : Int32)) = 0 ∨ (x &&& (3 : Int32)) = 1 ∨ (x &&& (3 : Int32)) = 2 ∨ (x &&& (3 : Int32)) = 3 := by
  have m0 : (x &&& (3 : Int32)).toInt = x.toInt % 4 := by have := c_mask x 3 2 (by decide) (by decide); simpa using this
  have e0 : (0 : Int32).toInt = 0 := by decide
  have e1 : (1 : Int32).toInt = 1 := by decide
  have e2 : (2 : Int32).toInt = 2 := by decide
  have e3 : (3 : Int32).toInt = 3 := by decide
  simp only [← Int32.toInt_inj, e0, e1, e2, e3]
  omega
theorem pd_0 : parseMethodDescriptor "([II)V" = some ⟨[(.array .int), .int], none⟩ := by decide +kernel
theorem pd_1 : parseMethodDescriptor "()V" = some ⟨[], none⟩ := by decide +kernel
theorem pd_2 : parseMethodDescriptor "()[I" = some ⟨[], some (.array .int)⟩ := by decide +kernel
theorem pd_3 : parseMethodDescriptor "([II)[I" = some ⟨[(.array .int), .int], some (.array .int)⟩ := by decide +kernel
theorem pd_4 : parseMethodDescriptor "()Ljava/lang/Object;" = some ⟨[], some (.object "java/lang/Object")⟩ := by decide +kernel
theorem pd_5 : parseMethodDescriptor "([IIIII)Z" = some ⟨[(.array .int), .int, .int, .int, .int], some .boolean⟩ := by decide +kernel
theorem d1_0 : decode prog_14_method_1_code 0 = .ok (.aload_n 0, 1) := by decide +kernel
theorem d1_1 : decode prog_14_method_1_code 1 = .ok (.invokespecial 1, 3) := by decide +kernel
theorem d1_4 : decode prog_14_method_1_code 4 = .ok (.aload_n 0, 1) := by decide +kernel
theorem d1_5 : decode prog_14_method_1_code 5 = .ok (.aload_n 1, 1) := by decide +kernel
theorem d1_6 : decode prog_14_method_1_code 6 = .ok (.putfield 7, 3) := by decide +kernel
theorem d1_9 : decode prog_14_method_1_code 9 = .ok (.aload_n 0, 1) := by decide +kernel
theorem d1_10 : decode prog_14_method_1_code 10 = .ok (.iload_n 2, 1) := by decide +kernel
theorem d1_11 : decode prog_14_method_1_code 11 = .ok (.putfield 13, 3) := by decide +kernel
theorem d1_14 : decode prog_14_method_1_code 14 = .ok (.return_, 1) := by decide +kernel
theorem pn_1 : plainName "com/example/quillon/quillon/core/Prioritization" = true := by first | (simp [plainName, overriddenIn]; done) | decide +kernel
theorem ef_1 (m : MethodId) (x0 : Addr) (x1 : Addr) (x2 : Int32) : entryFrame m #[(.ref x0), (.ref x1), (.int x2)] 3 = mkF m 0 #[.val (.ref x0), .val (.ref x1), .val (.int x2)] [] := by first | (simp [entryFrame, mkF, argsToLocals, Value.category]; done) | rfl
set_option maxRecDepth 65536 in
set_option maxHeartbeats 40000000 in
theorem rm1 (l : Launch) (Z : State) (a0 : Array Value) (hw : ∀ d ∈ tables_1, d.before a0 Z = true) (ws : List Jvm.Cond) (x0 x1 : Addr) (x2 : Int32) (h0 : Heap) (n0 : Nat) (hn0 : n0 ≤ h0.size) (E0 : Exa Z h0 x0 "com/example/quillon/quillon/core/Prioritization") (ga : n0 ≤ x0) (Fo : Fld Z h0 x0 "com/example/quillon/quillon/core/Prioritization" "order" "[I" .null) (Fi : Fld Z h0 x0 "com/example/quillon/quillon/core/Prioritization" "iterations" "I" (.int (0 : Int32))) :
    MetFree l (⟨"com/example/quillon/quillon/core/Prioritization", "<init>", "([II)V"⟩ : MethodName) (head1 (Jvm.Cond.code (⟨"com/example/quillon/quillon/core/Prioritization", "<init>", "([II)V"⟩ : MethodName) prog_14_method_1_code 3 none :: ws) ({ frames := 1, cells := 0, slots := 0, locals := 12 } : Room)) (fun a U => a = #[(.ref x0), (.ref x1), (.int x2)] ∧ Z.Warmed39 U.vm ∧ U.heap = h0) (fun _ _ _ _ _ => True) (fun _ U o U' => ∃ v L, o = .returned v ∧ QI Z n0 x0 x1 x2 h0 none v U'.heap L ∧ FrameEnd U o U' L ({ frames := 1, cells := 0, slots := 0, locals := 12 } : Room).cells ({ frames := 1, cells := 0, slots := 0, locals := 12 } : Room).slots) := by
  refine MetFree.of_bodySF (plainFor_of_name pn_1) hisR ?_
  intro p e s m args below meth c s₁ Bd hml0 hP hK
  obtain ⟨rfl, hZ, hh⟩ := hP
  have hx := Bd.exec
  have hby := Bd.bytes
  have hml : c.maxLocals = 3 := hml0
  have hown : s.vm.findClass "com/example/quillon/quillon/core/Prioritization" = some m.cls := findClass_of_methodNamed Bd.named
  have hnm := (name_of_methodNamed Bd.named Bd.method).1
  have X0 : Stand p l e ({ frames := 1, cells := 0, slots := 0, locals := 12 } : Room) s m #[(.ref x0), (.ref x1), (.int x2)] below meth c s₁ [] 0 0 := Stand.of_body Bd
  have e0 : s₁.heap = h0 := by rw [← hh, Bd.state]; rfl
  show Runs p e below s (QI Z n0 x0 x1 x2 h0 none) ({ frames := 1, cells := 0, slots := 0, locals := 12 } : Room).cells ({ frames := 1, cells := 0, slots := 0, locals := 12 } : Room).slots (s₁.setTop (entryFrame m #[(.ref x0), (.ref x1), (.int x2)] 3))
  rw [ef_1 m x0 x1 x2]
  have k_0 : ∀ (T : State) (X : Stand p l e ({ frames := 1, cells := 0, slots := 0, locals := 12 } : Room) s m #[(.ref x0), (.ref x1), (.int x2)] below meth c T [] 0 0) (eT : T.heap = h0) (N : Fr n0 []), Runs p e below s (QI Z n0 x0 x1 x2 h0 none) ({ frames := 1, cells := 0, slots := 0, locals := 12 } : Room).cells ({ frames := 1, cells := 0, slots := 0, locals := 12 } : Room).slots (T.setTop (mkF m 0 #[.val (.ref x0), .val (.ref x1), .val (.int x2)] [])) := by
    intro T X eT N 
    refine Runs.go (fun _ => XS.aloadN X.here hx rfl (hb hby d1_0) rfl rfl) ?_
    show Runs p e below s _ _ _ (T.setTop (mkF m 1 #[.val (.ref x0), .val (.ref x1), .val (.int x2)] [(.ref x0)]))
    obtain ⟨Ti1, Xi1, ei1, sti1⟩ := initO X hx hZ hown (hw _ (List.mem_of_getElem? (i := 7) rfl)) (hw _ (List.mem_of_getElem? (i := 8) rfl)) (hw _ (List.mem_of_getElem? (i := 9) rfl)) eT (g := (mkF m 1 #[.val (.ref x0), .val (.ref x1), .val (.int x2)] [(.ref x0)])) rfl (by rw [hml]; rfl) rfl (hb hby d1_1) (by decide) (W := 0) (by show 2 * 0 + _ ≤ _; exact Nat.le_of_eq rfl) (by decide)
    refine Runs.go sti1 ?_
    show Runs p e below s _ _ _ (Ti1.setTop (mkF m 4 #[.val (.ref x0), .val (.ref x1), .val (.int x2)] []))
    refine Runs.go (fun _ => XS.aloadN Xi1.here hx rfl (hb hby d1_4) rfl rfl) ?_
    show Runs p e below s _ _ _ (Ti1.setTop (mkF m 5 #[.val (.ref x0), .val (.ref x1), .val (.int x2)] [(.ref x0)]))
    refine Runs.go (fun _ => XS.aloadN Xi1.here hx rfl (hb hby d1_5) rfl rfl) ?_
    show Runs p e below s _ _ _ (Ti1.setTop (mkF m 6 #[.val (.ref x0), .val (.ref x1), .val (.int x2)] [(.ref x1), (.ref x0)]))
    obtain ⟨Tp6_1, hp6_1, Xp6_1, ep6_1, Wp6_1, stp6_1⟩ := putF Xi1 hx hZ hown (host := "") (Or.inl (hw _ (List.mem_of_getElem? (i := 10) rfl))) Via.refl ei1 Fo E0 (Or.inr ⟨(hw _ (List.mem_of_getElem? (i := 11) rfl)), rfl, hnm⟩) (hw _ (List.mem_of_getElem? (i := 2) rfl)) (ty := (.array .int)) (by decide) rfl rfl (g := (mkF m 6 #[.val (.ref x0), .val (.ref x1), .val (.int x2)] [(.ref x1), (.ref x0)])) rfl rfl (hb hby d1_6)
    refine Runs.go stp6_1 ?_
    have Fwp6_1 := Fo.same Wp6_1
    have hnp6_1 : n0 ≤ hp6_1.size := by rw [Wr.size Wp6_1]; exact hn0
    have E0_p6_1 := E0.wr Wp6_1
    have Fi_p6_1 := Fi.other Wp6_1 (Or.inr (slot_ne (Or.inr (hw _ (List.mem_of_getElem? (i := 13) rfl))) (Or.inr (hw _ (List.mem_of_getElem? (i := 11) rfl))) (by decide) (t := .int) (t' := (.array .int)) (by decide) (by decide)))
    have Kp6_1 : Keep h0 hp6_1 [x0] := (Keep.refl h0 [x0]).wr Wp6_1 (Or.inl (List.mem_of_getElem? (i := 0) rfl))
    have Np6_1 := Fr.snoc Xp6_1 N ga
    show Runs p e below s _ _ _ (Tp6_1.setTop (mkF m 9 #[.val (.ref x0), .val (.ref x1), .val (.int x2)] []))
    refine Runs.go (fun _ => XS.aloadN Xp6_1.here hx rfl (hb hby d1_9) rfl rfl) ?_
    show Runs p e below s _ _ _ (Tp6_1.setTop (mkF m 10 #[.val (.ref x0), .val (.ref x1), .val (.int x2)] [(.ref x0)]))
    refine Runs.go (fun _ => XS.iloadN Xp6_1.here hx rfl (hb hby d1_10) rfl) ?_
    show Runs p e below s _ _ _ (Tp6_1.setTop (mkF m 11 #[.val (.ref x0), .val (.ref x1), .val (.int x2)] [(.int x2), (.ref x0)]))
    obtain ⟨Tp11_2, hp11_2, Xp11_2, ep11_2, Wp11_2, stp11_2⟩ := putF Xp6_1 hx hZ hown (host := "") (Or.inl (hw _ (List.mem_of_getElem? (i := 12) rfl))) Via.refl ep6_1 Fi_p6_1 E0_p6_1 (Or.inr ⟨(hw _ (List.mem_of_getElem? (i := 13) rfl)), rfl, hnm⟩) (hw _ (List.mem_of_getElem? (i := 2) rfl)) (ty := .int) (by decide) rfl rfl (g := (mkF m 11 #[.val (.ref x0), .val (.ref x1), .val (.int x2)] [(.int x2), (.ref x0)])) rfl rfl (hb hby d1_11)
    refine Runs.go stp11_2 ?_
    have Fwp11_2 := Fi_p6_1.same Wp11_2
    have hnp11_2 : n0 ≤ hp11_2.size := by rw [Wr.size Wp11_2]; exact hnp6_1
    have E0_p11_2 := E0_p6_1.wr Wp11_2
    have Fo_p11_2 := Fwp6_1.other Wp11_2 (Or.inr (slot_ne (Or.inr (hw _ (List.mem_of_getElem? (i := 11) rfl))) (Or.inr (hw _ (List.mem_of_getElem? (i := 13) rfl))) (by decide) (t := (.array .int)) (t' := .int) (by decide) (by decide)))
    have Kp11_2 : Keep h0 hp11_2 [x0] := Kp6_1.wr Wp11_2 (Or.inl (List.mem_of_getElem? (i := 0) rfl))
    have Np11_2 := Fr.snoc Xp11_2 Np6_1 ga
    show Runs p e below s _ _ _ (Tp11_2.setTop (mkF m 14 #[.val (.ref x0), .val (.ref x1), .val (.int x2)] []))
    exact Runs.endV Xp11_2 hx Bd.returns Bd.notSynchronized (hb hby d1_14) ⟨rfl, Np11_2, by rw [ep11_2]; exact ⟨Kp11_2, E0_p11_2, Fo_p11_2, Fwp11_2⟩⟩ (by decide) (by decide)
  exact k_0 _ X0 e0 (Fr.nil n0)
theorem d4_0 : decode jdk_65_method_123_code 0 = .ok (.iload_n 1, 1) := by decide +kernel
theorem d4_1 : decode jdk_65_method_123_code 1 = .ok (.aload_n 0, 1) := by decide +kernel
theorem d4_2 : decode jdk_65_method_123_code 2 = .ok (.arraylength, 1) := by decide +kernel
theorem d4_3 : decode jdk_65_method_123_code 3 = .ok (.if_icmp .ne 11, 3) := by decide +kernel
theorem d4_6 : decode jdk_65_method_123_code 6 = .ok (.aload_n 0, 1) := by decide +kernel
theorem d4_7 : decode jdk_65_method_123_code 7 = .ok (.invokevirtual 316, 3) := by decide +kernel
theorem d4_10 : decode jdk_65_method_123_code 10 = .ok (.checkcast 317, 3) := by decide +kernel
theorem d4_13 : decode jdk_65_method_123_code 13 = .ok (.areturn, 1) := by decide +kernel
theorem pn_4 : plainName "java/util/Arrays" = true := by first | (simp [plainName, overriddenIn]; done) | decide +kernel
theorem ef_4 (m : MethodId) (x0 : Addr) (x1 : Int32) : entryFrame m #[(.ref x0), (.int x1)] 3 = mkF m 0 #[.val (.ref x0), .val (.int x1), .unset] [] := by first | (simp [entryFrame, mkF, argsToLocals, Value.category]; done) | rfl
set_option maxRecDepth 65536 in
set_option maxHeartbeats 40000000 in
theorem rm4 (l : Launch) (Z : State) (a0 : Array Value) (hw : ∀ d ∈ tables_1, d.before a0 Z = true) (ws : List Jvm.Cond) (x0 : Addr) (x1 : Int32) (k : ClassId) (vs : List Value) (h0 : Heap) (n0 : Nat) (hn0 : n0 ≤ h0.size) (V0 : Arv Z h0 x0 k .int x1 vs (.int (0 : Int32))) (E0 : Exa Z h0 x0 "[I") (hcap : x1.toNatClampNeg ≤ 3) :
    MetFree l (⟨"java/util/Arrays", "copyOf", "([II)[I"⟩ : MethodName) (head1 (Jvm.Cond.code (⟨"java/util/Arrays", "copyOf", "([II)[I"⟩ : MethodName) jdk_65_method_123_code 3 (some (.array .int)) :: ws) ({ frames := 1, cells := 1, slots := 3, locals := 14 } : Room)) (fun a U => a = #[(.ref x0), (.int x1)] ∧ Z.Warmed39 U.vm ∧ U.heap = h0) (fun _ _ _ _ _ => True) (fun _ U o U' => ∃ v L, o = .returned v ∧ QO Z n0 k x1 vs h0 v U'.heap L ∧ FrameEnd U o U' L ({ frames := 1, cells := 1, slots := 3, locals := 14 } : Room).cells ({ frames := 1, cells := 1, slots := 3, locals := 14 } : Room).slots) := by
  refine MetFree.of_bodySF (plainFor_of_name pn_4) hisR ?_
  intro p e s m args below meth c s₁ Bd hml0 hP hK
  obtain ⟨rfl, hZ, hh⟩ := hP
  have hx := Bd.exec
  have hby := Bd.bytes
  have hml : c.maxLocals = 3 := hml0
  have hown : s.vm.findClass "java/util/Arrays" = some m.cls := findClass_of_methodNamed Bd.named
  have hnm := (name_of_methodNamed Bd.named Bd.method).1
  have X0 : Stand p l e ({ frames := 1, cells := 1, slots := 3, locals := 14 } : Room) s m #[(.ref x0), (.int x1)] below meth c s₁ [] 0 0 := Stand.of_body Bd
  have e0 : s₁.heap = h0 := by rw [← hh, Bd.state]; rfl
  show Runs p e below s (QO Z n0 k x1 vs h0) ({ frames := 1, cells := 1, slots := 3, locals := 14 } : Room).cells ({ frames := 1, cells := 1, slots := 3, locals := 14 } : Room).slots (s₁.setTop (entryFrame m #[(.ref x0), (.int x1)] 3))
  rw [ef_4 m x0 x1]
  have k_0 : ∀ (T : State) (X : Stand p l e ({ frames := 1, cells := 1, slots := 3, locals := 14 } : Room) s m #[(.ref x0), (.int x1)] below meth c T [] 0 0) (eT : T.heap = h0) (N : Fr n0 []), Runs p e below s (QO Z n0 k x1 vs h0) ({ frames := 1, cells := 1, slots := 3, locals := 14 } : Room).cells ({ frames := 1, cells := 1, slots := 3, locals := 14 } : Room).slots (T.setTop (mkF m 0 #[.val (.ref x0), .val (.int x1), .unset] [])) := by
    intro T X eT N 
    refine Runs.go (fun _ => XS.iloadN X.here hx rfl (hb hby d4_0) rfl) ?_
    show Runs p e below s _ _ _ (T.setTop (mkF m 1 #[.val (.ref x0), .val (.int x1), .unset] [(.int x1)]))
    refine Runs.go (fun _ => XS.aloadN X.here hx rfl (hb hby d4_1) rfl rfl) ?_
    show Runs p e below s _ _ _ (T.setTop (mkF m 2 #[.val (.ref x0), .val (.int x1), .unset] [(.ref x0), (.int x1)]))
    have VCl2_1 := V0
    obtain ⟨cll2_1, Arl2_1, -, Sl2_1, Ml2_1, -, -⟩ := VCl2_1
    refine Runs.go (X.arraylength hx (by rw [eT]; exact Arl2_1.1) (State.isArrayOf_alike hZ.alike Arl2_1.2.1) (g := (mkF m 2 #[.val (.ref x0), .val (.int x1), .unset] [(.ref x0), (.int x1)])) rfl rfl (hb hby d4_2)) ?_
    rw [len_of Sl2_1 Ml2_1]
    show Runs p e below s _ _ _ (T.setTop (mkF m 3 #[.val (.ref x0), .val (.int x1), .unset] [(.int x1), (.int x1)]))
    refine Runs.go (fun _ => XS.icmpNo X.here hx rfl (hb hby d4_3) rfl (teq (rfl : x1 = x1)).2) ?_
    show Runs p e below s _ _ _ (T.setTop (mkF m 6 #[.val (.ref x0), .val (.int x1), .unset] []))
    refine Runs.go (fun _ => XS.aloadN X.here hx rfl (hb hby d4_6) rfl rfl) ?_
    show Runs p e below s _ _ _ (T.setTop (mkF m 7 #[.val (.ref x0), .val (.int x1), .unset] [(.ref x0)]))
    obtain ⟨Tcl, hcl, Xcl, ecl, Ecl, Vcl, Eacl, stcl⟩ := cloneH X hx hZ hown (hw _ (List.mem_of_getElem? (i := 23) rfl)) (hw _ (List.mem_of_getElem? (i := 24) rfl)) (hw _ (List.mem_of_getElem? (i := 28) rfl)) (hw _ (List.mem_of_getElem? (i := 26) rfl)) (hw _ (List.mem_of_getElem? (i := 27) rfl)) (hw _ (List.mem_of_getElem? (i := 29) rfl)) eT (Arv.arh V0) E0 (g := (mkF m 7 #[.val (.ref x0), .val (.int x1), .unset] [(.ref x0)])) rfl (by rw [hml]; rfl) rfl (hb hby d4_7) (by decide) (W := 0) (cap := 3) (by show 2 * 0 + _ ≤ _; exact Nat.le_of_eq rfl) (by decide) hcap (by decide) (by decide)
    obtain ⟨bcl, gcl⟩ : ∃ z, z = h0.size := ⟨_, rfl⟩
    rw [← gcl] at Vcl Eacl stcl
    refine Runs.go stcl ?_
    show Runs p e below s _ _ _ (Tcl.setTop (mkF m 10 #[.val (.ref x0), .val (.int x1), .unset] [(.ref bcl)]))
    obtain ⟨Tcc, Xcc, ecc, stcc⟩ := castY Xcl hx hZ hown (hw _ (List.mem_of_getElem? (i := 30) rfl)) ecl (Ins.of_exa Eacl (hw _ (List.mem_of_getElem? (i := 31) rfl))) (g := (mkF m 10 #[.val (.ref x0), .val (.int x1), .unset] [(.ref bcl)])) rfl rfl (hb hby d4_10)
    refine Runs.go stcc ?_
    show Runs p e below s _ _ _ (Tcc.setTop (mkF m 13 #[.val (.ref x0), .val (.int x1), .unset] [(.ref bcl)]))
    exact Runs.endR Xcc hx Bd.returns rfl Bd.notSynchronized (hb hby d4_13) ⟨bcl, rfl, N, gcl, by rw [ecc]; exact Ecl, by rw [ecc]; exact Vcl, by rw [ecc]; exact Eacl⟩ (by decide) (by decide)
  exact k_0 _ X0 e0 (Fr.nil n0)
theorem d3_0 : decode prog_14_method_2_code 0 = .ok (.aload_n 0, 1) := by decide +kernel
theorem d3_1 : decode prog_14_method_2_code 1 = .ok (.getfield 7, 3) := by decide +kernel
theorem d3_4 : decode prog_14_method_2_code 4 = .ok (.aload_n 0, 1) := by decide +kernel
theorem d3_5 : decode prog_14_method_2_code 5 = .ok (.getfield 7, 3) := by decide +kernel
theorem d3_8 : decode prog_14_method_2_code 8 = .ok (.arraylength, 1) := by decide +kernel
theorem d3_9 : decode prog_14_method_2_code 9 = .ok (.invokestatic 17, 3) := by decide +kernel
theorem d3_12 : decode prog_14_method_2_code 12 = .ok (.areturn, 1) := by decide +kernel
theorem pn_3 : plainName "com/example/quillon/quillon/core/Prioritization" = true := by first | (simp [plainName, overriddenIn]; done) | decide +kernel
theorem ef_3 (m : MethodId) (x0 : Addr) : entryFrame m #[(.ref x0)] 1 = mkF m 0 #[.val (.ref x0)] [] := by first | (simp [entryFrame, mkF, argsToLocals, Value.category]; done) | rfl
set_option maxRecDepth 65536 in
set_option maxHeartbeats 40000000 in
theorem rm3 (l : Launch) (Z : State) (a0 : Array Value) (hw : ∀ d ∈ tables_1, d.before a0 Z = true) (ws : List Jvm.Cond) (x0 a : Addr) (k : ClassId) (z : Int32) (vs : List Value) (h0 : Heap) (n0 : Nat) (hn0 : n0 ≤ h0.size) (E0 : Exa Z h0 x0 "com/example/quillon/quillon/core/Prioritization") (Fo : Fld Z h0 x0 "com/example/quillon/quillon/core/Prioritization" "order" "[I" (.ref a)) (V0 : Arv Z h0 a k .int z vs (.int (0 : Int32))) (Ea : Exa Z h0 a "[I") (hcap : z.toNatClampNeg ≤ 3) :
    MetFree l (⟨"com/example/quillon/quillon/core/Prioritization", "order", "()[I"⟩ : MethodName) (head1 (Jvm.Cond.code (⟨"com/example/quillon/quillon/core/Prioritization", "order", "()[I"⟩ : MethodName) prog_14_method_2_code 1 (some (.array .int)) :: ws) ({ frames := 2, cells := 1, slots := 3, locals := 28 } : Room)) (fun a U => a = #[(.ref x0)] ∧ Z.Warmed39 U.vm ∧ U.heap = h0) (fun _ _ _ _ _ => True) (fun _ U o U' => ∃ v L, o = .returned v ∧ QO Z n0 k z vs h0 v U'.heap L ∧ FrameEnd U o U' L ({ frames := 2, cells := 1, slots := 3, locals := 28 } : Room).cells ({ frames := 2, cells := 1, slots := 3, locals := 28 } : Room).slots) := by
  refine MetFree.of_bodySF (plainFor_of_name pn_3) hisR ?_
  intro p e s m args below meth c s₁ Bd hml0 hP hK
  obtain ⟨rfl, hZ, hh⟩ := hP
  have hx := Bd.exec
  have hby := Bd.bytes
  have hml : c.maxLocals = 1 := hml0
  have hown : s.vm.findClass "com/example/quillon/quillon/core/Prioritization" = some m.cls := findClass_of_methodNamed Bd.named
  have hnm := (name_of_methodNamed Bd.named Bd.method).1
  have X0 : Stand p l e ({ frames := 2, cells := 1, slots := 3, locals := 28 } : Room) s m #[(.ref x0)] below meth c s₁ [] 0 0 := Stand.of_body Bd
  have e0 : s₁.heap = h0 := by rw [← hh, Bd.state]; rfl
  show Runs p e below s (QO Z n0 k z vs h0) ({ frames := 2, cells := 1, slots := 3, locals := 28 } : Room).cells ({ frames := 2, cells := 1, slots := 3, locals := 28 } : Room).slots (s₁.setTop (entryFrame m #[(.ref x0)] 1))
  rw [ef_3 m x0]
  have k_0 : ∀ (T : State) (X : Stand p l e ({ frames := 2, cells := 1, slots := 3, locals := 28 } : Room) s m #[(.ref x0)] below meth c T [] 0 0) (eT : T.heap = h0) (N : Fr n0 []), Runs p e below s (QO Z n0 k z vs h0) ({ frames := 2, cells := 1, slots := 3, locals := 28 } : Room).cells ({ frames := 2, cells := 1, slots := 3, locals := 28 } : Room).slots (T.setTop (mkF m 0 #[.val (.ref x0)] [])) := by
    intro T X eT N 
    refine Runs.go (fun _ => XS.aloadN X.here hx rfl (hb hby d3_0) rfl rfl) ?_
    show Runs p e below s _ _ _ (T.setTop (mkF m 1 #[.val (.ref x0)] [(.ref x0)]))
    obtain ⟨Tf1_1, Xf1_1, ef1_1, stf1_1⟩ := getF X hx hZ hown (host := "") (Or.inl (hw _ (List.mem_of_getElem? (i := 10) rfl))) Via.refl eT Fo (g := (mkF m 1 #[.val (.ref x0)] [(.ref x0)])) rfl rfl (hb hby d3_1)
    refine Runs.go stf1_1 ?_
    show Runs p e below s _ _ _ (Tf1_1.setTop (mkF m 4 #[.val (.ref x0)] [(.ref a)]))
    refine Runs.go (fun _ => XS.aloadN Xf1_1.here hx rfl (hb hby d3_4) rfl rfl) ?_
    show Runs p e below s _ _ _ (Tf1_1.setTop (mkF m 5 #[.val (.ref x0)] [(.ref x0), (.ref a)]))
    obtain ⟨Tf5_2, Xf5_2, ef5_2, stf5_2⟩ := getF Xf1_1 hx hZ hown (host := "") (Or.inl (hw _ (List.mem_of_getElem? (i := 10) rfl))) Via.refl ef1_1 Fo (g := (mkF m 5 #[.val (.ref x0)] [(.ref x0), (.ref a)])) rfl rfl (hb hby d3_5)
    refine Runs.go stf5_2 ?_
    show Runs p e below s _ _ _ (Tf5_2.setTop (mkF m 8 #[.val (.ref x0)] [(.ref a), (.ref a)]))
    have VCl8_3 := V0
    obtain ⟨cll8_3, Arl8_3, -, Sl8_3, Ml8_3, -, -⟩ := VCl8_3
    refine Runs.go (Xf5_2.arraylength hx (by rw [ef5_2]; exact Arl8_3.1) (State.isArrayOf_alike hZ.alike Arl8_3.2.1) (g := (mkF m 8 #[.val (.ref x0)] [(.ref a), (.ref a)])) rfl rfl (hb hby d3_8)) ?_
    rw [len_of Sl8_3 Ml8_3]
    show Runs p e below s _ _ _ (Tf5_2.setTop (mkF m 9 #[.val (.ref x0)] [(.int z), (.ref a)]))
    obtain ⟨_, _, ⟨Tc9_4, Lc9_4, kc9_4, nc9_4⟩, -, Xc9_4, ⟨Lcc9_4, hQc9_4, lc9_4, yc9_4, zc9_4⟩, stc9_4⟩ := Jvm.LawKit.callS Xf5_2 hx (y := (⟨"java/util/Arrays", "copyOf", "([II)[I"⟩ : MethodName)) hown (mvT hZ (hw _ (List.mem_of_getElem? (i := 19) rfl))) (mvT hZ (hw _ (List.mem_of_getElem? (i := 20) rfl))) (mvT hZ (hw _ (List.mem_of_getElem? (i := 21) rfl))) (mvT hZ (hw _ (List.mem_of_getElem? (i := 22) rfl))) (by decide) (backOf (W := 0) (rm4 l Z a0 hw [] a z k vs h0 n0 hn0 V0 Ea hcap) hZ (hw _ (List.mem_of_getElem? (i := 22) rfl)) (hw _ (List.mem_of_getElem? (i := 21) rfl)) (by decide) (by decide)) (g := (mkF m 9 #[.val (.ref x0)] [(.int z), (.ref a)])) rfl (by rw [hml]; rfl) (argsL := [(.ref a), (.int z)]) (rest := []) (lenOf pd_3 rfl) rfl (by show 2 * 0 + _ ≤ _; exact Nat.le_of_eq rfl) (hb hby d3_9) (fun _ _ => ⟨rfl, ef5_2, (by decide : 0 + 1 ≤ _), (by decide : 0 + 3 ≤ _)⟩)
    dsimp only [Pt.U, Pt.locs, Pt.cells, Pt.slots] at Xc9_4 lc9_4 yc9_4 zc9_4 stc9_4 hQc9_4
    subst lc9_4 yc9_4 zc9_4
    obtain ⟨br, rfl, Nc9_4q, gr, Er, Vr, Ear⟩ := hQc9_4
    refine Runs.go stc9_4 ?_
    have Nc9_4 := Fr.app N Nc9_4q
    show Runs p e below s _ _ _ (Tc9_4.setTop (mkF m 12 #[.val (.ref x0)] [(.ref br)]))
    exact Runs.endR Xc9_4 hx Bd.returns rfl Bd.notSynchronized (hb hby d3_12) ⟨br, rfl, Nc9_4, gr, Er, Vr, Ear⟩ (by decide) (by decide)
  exact k_0 _ X0 e0 (Fr.nil n0)
theorem d5_0 : decode method_2_code 0 = .ok (.aload_n 0, 1) := by decide +kernel
theorem d5_1 : decode method_2_code 1 = .ok (.arraylength, 1) := by decide +kernel
theorem d5_2 : decode method_2_code 2 = .ok (.iload_n 1, 1) := by decide +kernel
theorem d5_3 : decode method_2_code 3 = .ok (.if_icmp .ne 44, 3) := by decide +kernel
theorem d5_6 : decode method_2_code 6 = .ok (.iload_n 1, 1) := by decide +kernel
theorem d5_7 : decode method_2_code 7 = .ok (.iconst 1, 1) := by decide +kernel
theorem d5_8 : decode method_2_code 8 = .ok (.if_icmp .lt 10, 3) := by decide +kernel
theorem d5_18 : decode method_2_code 18 = .ok (.iload_n 1, 1) := by decide +kernel
theorem d5_19 : decode method_2_code 19 = .ok (.iconst 2, 1) := by decide +kernel
theorem d5_20 : decode method_2_code 20 = .ok (.if_icmp .lt 10, 3) := by decide +kernel
theorem d5_30 : decode method_2_code 30 = .ok (.iload_n 1, 1) := by decide +kernel
theorem d5_31 : decode method_2_code 31 = .ok (.iconst 3, 1) := by decide +kernel
theorem d5_32 : decode method_2_code 32 = .ok (.if_icmp .lt 11, 3) := by decide +kernel
theorem d5_43 : decode method_2_code 43 = .ok (.iconst 1, 1) := by decide +kernel
theorem d5_44 : decode method_2_code 44 = .ok (.goto 4, 3) := by decide +kernel
theorem d5_48 : decode method_2_code 48 = .ok (.ireturn, 1) := by decide +kernel
theorem pn_5 : plainName "com/example/quillon/quillon/core/PrioritizationOrderPinLaw" = true := by first | (simp [plainName, overriddenIn]; done) | decide +kernel
theorem ef_5a (m : MethodId) (x0 : Addr) (x2 : Int32) (x3 : Int32) (x4 : Int32) : entryFrame m #[(.ref x0), (.int (0 : Int32)), (.int x2), (.int x3), (.int x4)] 5 = mkF m 0 #[.val (.ref x0), .val (.int (0 : Int32)), .val (.int x2), .val (.int x3), .val (.int x4)] [] := by first | (simp [entryFrame, mkF, argsToLocals, Value.category]; done) | rfl
set_option maxRecDepth 65536 in
set_option maxHeartbeats 40000000 in
theorem rm5a (l : Launch) (Z : State) (a0 : Array Value) (hw : ∀ d ∈ tables_1, d.before a0 Z = true) (ws : List Jvm.Cond) (x0 : Addr) (x2 x3 x4 : Int32) (kk : ClassId) (h0 : Heap) (n0 : Nat) (hn0 : n0 ≤ h0.size) (V0 : Arv Z h0 x0 kk .int (0 : Int32) [] (.int (0 : Int32))) :
    MetFree l (⟨"com/example/quillon/quillon/core/PrioritizationOrderPinLaw", "same", "([IIIII)Z"⟩ : MethodName) (head1 (Jvm.Cond.code (⟨"com/example/quillon/quillon/core/PrioritizationOrderPinLaw", "same", "([IIIII)Z"⟩ : MethodName) method_2_code 5 (some .boolean) :: ws) ({ frames := 0, cells := 0, slots := 0, locals := 0 } : Room)) (fun a U => a = #[(.ref x0), (.int (0 : Int32)), (.int x2), (.int x3), (.int x4)] ∧ Z.Warmed39 U.vm ∧ U.heap = h0) (fun _ _ _ _ _ => True) (fun _ U o U' => ∃ v L, o = .returned v ∧ QP (.int (1 : Int32)) h0 v U'.heap L ∧ FrameEnd U o U' L ({ frames := 0, cells := 0, slots := 0, locals := 0 } : Room).cells ({ frames := 0, cells := 0, slots := 0, locals := 0 } : Room).slots) := by
  refine MetFree.of_bodySF (plainFor_of_name pn_5) hisR ?_
  intro p e s m args below meth c s₁ Bd hml0 hP hK
  obtain ⟨rfl, hZ, hh⟩ := hP
  have hx := Bd.exec
  have hby := Bd.bytes
  have hml : c.maxLocals = 5 := hml0
  have hown : s.vm.findClass "com/example/quillon/quillon/core/PrioritizationOrderPinLaw" = some m.cls := findClass_of_methodNamed Bd.named
  have hnm := (name_of_methodNamed Bd.named Bd.method).1
  have X0 : Stand p l e ({ frames := 0, cells := 0, slots := 0, locals := 0 } : Room) s m #[(.ref x0), (.int (0 : Int32)), (.int x2), (.int x3), (.int x4)] below meth c s₁ [] 0 0 := Stand.of_body Bd
  have e0 : s₁.heap = h0 := by rw [← hh, Bd.state]; rfl
  show Runs p e below s (QP (.int (1 : Int32)) h0) ({ frames := 0, cells := 0, slots := 0, locals := 0 } : Room).cells ({ frames := 0, cells := 0, slots := 0, locals := 0 } : Room).slots (s₁.setTop (entryFrame m #[(.ref x0), (.int (0 : Int32)), (.int x2), (.int x3), (.int x4)] 5))
  rw [ef_5a m x0 x2 x3 x4]
  have k_0 : ∀ (T : State) (X : Stand p l e ({ frames := 0, cells := 0, slots := 0, locals := 0 } : Room) s m #[(.ref x0), (.int (0 : Int32)), (.int x2), (.int x3), (.int x4)] below meth c T [] 0 0) (eT : T.heap = h0) (N : Fr n0 []), Runs p e below s (QP (.int (1 : Int32)) h0) ({ frames := 0, cells := 0, slots := 0, locals := 0 } : Room).cells ({ frames := 0, cells := 0, slots := 0, locals := 0 } : Room).slots (T.setTop (mkF m 0 #[.val (.ref x0), .val (.int (0 : Int32)), .val (.int x2), .val (.int x3), .val (.int x4)] [])) := by
    intro T X eT N 
    refine Runs.go (fun _ => XS.aloadN X.here hx rfl (hb hby d5_0) rfl rfl) ?_
    show Runs p e below s _ _ _ (T.setTop (mkF m 1 #[.val (.ref x0), .val (.int (0 : Int32)), .val (.int x2), .val (.int x3), .val (.int x4)] [(.ref x0)]))
    have VCl1_1 := V0
    obtain ⟨cll1_1, Arl1_1, -, Sl1_1, Ml1_1, -, -⟩ := VCl1_1
    refine Runs.go (X.arraylength hx (by rw [eT]; exact Arl1_1.1) (State.isArrayOf_alike hZ.alike Arl1_1.2.1) (g := (mkF m 1 #[.val (.ref x0), .val (.int (0 : Int32)), .val (.int x2), .val (.int x3), .val (.int x4)] [(.ref x0)])) rfl rfl (hb hby d5_1)) ?_
    rw [len_of Sl1_1 Ml1_1]
    show Runs p e below s _ _ _ (T.setTop (mkF m 2 #[.val (.ref x0), .val (.int (0 : Int32)), .val (.int x2), .val (.int x3), .val (.int x4)] [(.int (0 : Int32))]))
    refine Runs.go (fun _ => XS.iloadN X.here hx rfl (hb hby d5_2) rfl) ?_
    show Runs p e below s _ _ _ (T.setTop (mkF m 3 #[.val (.ref x0), .val (.int (0 : Int32)), .val (.int x2), .val (.int x3), .val (.int x4)] [(.int (0 : Int32)), (.int (0 : Int32))]))
    refine Runs.go (fun _ => XS.icmpNo X.here hx rfl (hb hby d5_3) rfl (teq (rfl : (0 : Int32) = (0 : Int32))).2) ?_
    show Runs p e below s _ _ _ (T.setTop (mkF m 6 #[.val (.ref x0), .val (.int (0 : Int32)), .val (.int x2), .val (.int x3), .val (.int x4)] []))
    refine Runs.go (fun _ => XS.iloadN X.here hx rfl (hb hby d5_6) rfl) ?_
    show Runs p e below s _ _ _ (T.setTop (mkF m 7 #[.val (.ref x0), .val (.int (0 : Int32)), .val (.int x2), .val (.int x3), .val (.int x4)] [(.int (0 : Int32))]))
    refine Runs.go (fun _ => XS.iconst X.here hx rfl (hb hby d5_7)) ?_
    show Runs p e below s _ _ _ (T.setTop (mkF m 8 #[.val (.ref x0), .val (.int (0 : Int32)), .val (.int x2), .val (.int x3), .val (.int x4)] [(.int (1 : Int32)), (.int (0 : Int32))]))
    refine Runs.go (fun _ => XS.icmpYes X.here hx rfl (pc0 := 8) (pc' := 18) rfl (hb hby d5_8) rfl (tlt ((by decide) : (0 : Int32) < (1 : Int32))).1 (by decide) (by decide)) ?_
    show Runs p e below s _ _ _ (T.setTop (mkF m 18 #[.val (.ref x0), .val (.int (0 : Int32)), .val (.int x2), .val (.int x3), .val (.int x4)] []))
    refine Runs.go (fun _ => XS.iloadN X.here hx rfl (hb hby d5_18) rfl) ?_
    show Runs p e below s _ _ _ (T.setTop (mkF m 19 #[.val (.ref x0), .val (.int (0 : Int32)), .val (.int x2), .val (.int x3), .val (.int x4)] [(.int (0 : Int32))]))
    refine Runs.go (fun _ => XS.iconst X.here hx rfl (hb hby d5_19)) ?_
    show Runs p e below s _ _ _ (T.setTop (mkF m 20 #[.val (.ref x0), .val (.int (0 : Int32)), .val (.int x2), .val (.int x3), .val (.int x4)] [(.int (2 : Int32)), (.int (0 : Int32))]))
    refine Runs.go (fun _ => XS.icmpYes X.here hx rfl (pc0 := 20) (pc' := 30) rfl (hb hby d5_20) rfl (tlt ((by decide) : (0 : Int32) < (2 : Int32))).1 (by decide) (by decide)) ?_
    show Runs p e below s _ _ _ (T.setTop (mkF m 30 #[.val (.ref x0), .val (.int (0 : Int32)), .val (.int x2), .val (.int x3), .val (.int x4)] []))
    refine Runs.go (fun _ => XS.iloadN X.here hx rfl (hb hby d5_30) rfl) ?_
    show Runs p e below s _ _ _ (T.setTop (mkF m 31 #[.val (.ref x0), .val (.int (0 : Int32)), .val (.int x2), .val (.int x3), .val (.int x4)] [(.int (0 : Int32))]))
    refine Runs.go (fun _ => XS.iconst X.here hx rfl (hb hby d5_31)) ?_
    show Runs p e below s _ _ _ (T.setTop (mkF m 32 #[.val (.ref x0), .val (.int (0 : Int32)), .val (.int x2), .val (.int x3), .val (.int x4)] [(.int (3 : Int32)), (.int (0 : Int32))]))
    refine Runs.go (fun _ => XS.icmpYes X.here hx rfl (pc0 := 32) (pc' := 43) rfl (hb hby d5_32) rfl (tlt ((by decide) : (0 : Int32) < (3 : Int32))).1 (by decide) (by decide)) ?_
    show Runs p e below s _ _ _ (T.setTop (mkF m 43 #[.val (.ref x0), .val (.int (0 : Int32)), .val (.int x2), .val (.int x3), .val (.int x4)] []))
    refine Runs.go (fun _ => XS.iconst X.here hx rfl (hb hby d5_43)) ?_
    show Runs p e below s _ _ _ (T.setTop (mkF m 44 #[.val (.ref x0), .val (.int (0 : Int32)), .val (.int x2), .val (.int x3), .val (.int x4)] [(.int (1 : Int32))]))
    refine Runs.go (fun _ => XS.goto X.here hx rfl (pc0 := 44) (pc' := 48) rfl (hb hby d5_44) (by decide) (by decide)) ?_
    show Runs p e below s _ _ _ (T.setTop (mkF m 48 #[.val (.ref x0), .val (.int (0 : Int32)), .val (.int x2), .val (.int x3), .val (.int x4)] [(.int (1 : Int32))]))
    exact Runs.endN X hx (t := .boolean) Bd.returns (by simp) Bd.notSynchronized (hb hby d5_48) ⟨rfl, rfl, eT⟩ (by decide) (by decide)
  exact k_0 _ X0 e0 (Fr.nil n0)
theorem d5_11 : decode method_2_code 11 = .ok (.aload_n 0, 1) := by decide +kernel
theorem d5_12 : decode method_2_code 12 = .ok (.iconst 0, 1) := by decide +kernel
theorem d5_13 : decode method_2_code 13 = .ok (.iaload, 1) := by decide +kernel
theorem d5_14 : decode method_2_code 14 = .ok (.iload_n 2, 1) := by decide +kernel
theorem d5_15 : decode method_2_code 15 = .ok (.if_icmp .ne 32, 3) := by decide +kernel
theorem ef_5b (m : MethodId) (x0 : Addr) (x2 : Int32) (x3 : Int32) (x4 : Int32) : entryFrame m #[(.ref x0), (.int (1 : Int32)), (.int x2), (.int x3), (.int x4)] 5 = mkF m 0 #[.val (.ref x0), .val (.int (1 : Int32)), .val (.int x2), .val (.int x3), .val (.int x4)] [] := by first | (simp [entryFrame, mkF, argsToLocals, Value.category]; done) | rfl
set_option maxRecDepth 65536 in
set_option maxHeartbeats 40000000 in
theorem rm5b (l : Launch) (Z : State) (a0 : Array Value) (hw : ∀ d ∈ tables_1, d.before a0 Z = true) (ws : List Jvm.Cond) (x0 : Addr) (x2 x3 x4 : Int32) (kk : ClassId) (h0 : Heap) (n0 : Nat) (hn0 : n0 ≤ h0.size) (V0 : Arv Z h0 x0 kk .int (1 : Int32) [(.int x2)] (.int (0 : Int32))) :
    MetFree l (⟨"com/example/quillon/quillon/core/PrioritizationOrderPinLaw", "same", "([IIIII)Z"⟩ : MethodName) (head1 (Jvm.Cond.code (⟨"com/example/quillon/quillon/core/PrioritizationOrderPinLaw", "same", "([IIIII)Z"⟩ : MethodName) method_2_code 5 (some .boolean) :: ws) ({ frames := 0, cells := 0, slots := 0, locals := 0 } : Room)) (fun a U => a = #[(.ref x0), (.int (1 : Int32)), (.int x2), (.int x3), (.int x4)] ∧ Z.Warmed39 U.vm ∧ U.heap = h0) (fun _ _ _ _ _ => True) (fun _ U o U' => ∃ v L, o = .returned v ∧ QP (.int (1 : Int32)) h0 v U'.heap L ∧ FrameEnd U o U' L ({ frames := 0, cells := 0, slots := 0, locals := 0 } : Room).cells ({ frames := 0, cells := 0, slots := 0, locals := 0 } : Room).slots) := by
  refine MetFree.of_bodySF (plainFor_of_name pn_5) hisR ?_
  intro p e s m args below meth c s₁ Bd hml0 hP hK
  obtain ⟨rfl, hZ, hh⟩ := hP
  have hx := Bd.exec
  have hby := Bd.bytes
  have hml : c.maxLocals = 5 := hml0
  have hown : s.vm.findClass "com/example/quillon/quillon/core/PrioritizationOrderPinLaw" = some m.cls := findClass_of_methodNamed Bd.named
  have hnm := (name_of_methodNamed Bd.named Bd.method).1
  have X0 : Stand p l e ({ frames := 0, cells := 0, slots := 0, locals := 0 } : Room) s m #[(.ref x0), (.int (1 : Int32)), (.int x2), (.int x3), (.int x4)] below meth c s₁ [] 0 0 := Stand.of_body Bd
  have e0 : s₁.heap = h0 := by rw [← hh, Bd.state]; rfl
  show Runs p e below s (QP (.int (1 : Int32)) h0) ({ frames := 0, cells := 0, slots := 0, locals := 0 } : Room).cells ({ frames := 0, cells := 0, slots := 0, locals := 0 } : Room).slots (s₁.setTop (entryFrame m #[(.ref x0), (.int (1 : Int32)), (.int x2), (.int x3), (.int x4)] 5))
  rw [ef_5b m x0 x2 x3 x4]
  have k_0 : ∀ (T : State) (X : Stand p l e ({ frames := 0, cells := 0, slots := 0, locals := 0 } : Room) s m #[(.ref x0), (.int (1 : Int32)), (.int x2), (.int x3), (.int x4)] below meth c T [] 0 0) (eT : T.heap = h0) (N : Fr n0 []), Runs p e below s (QP (.int (1 : Int32)) h0) ({ frames := 0, cells := 0, slots := 0, locals := 0 } : Room).cells ({ frames := 0, cells := 0, slots := 0, locals := 0 } : Room).slots (T.setTop (mkF m 0 #[.val (.ref x0), .val (.int (1 : Int32)), .val (.int x2), .val (.int x3), .val (.int x4)] [])) := by
    intro T X eT N 
    refine Runs.go (fun _ => XS.aloadN X.here hx rfl (hb hby d5_0) rfl rfl) ?_
    show Runs p e below s _ _ _ (T.setTop (mkF m 1 #[.val (.ref x0), .val (.int (1 : Int32)), .val (.int x2), .val (.int x3), .val (.int x4)] [(.ref x0)]))
    have VCl1_1 := V0
    obtain ⟨cll1_1, Arl1_1, -, Sl1_1, Ml1_1, -, -⟩ := VCl1_1
    refine Runs.go (X.arraylength hx (by rw [eT]; exact Arl1_1.1) (State.isArrayOf_alike hZ.alike Arl1_1.2.1) (g := (mkF m 1 #[.val (.ref x0), .val (.int (1 : Int32)), .val (.int x2), .val (.int x3), .val (.int x4)] [(.ref x0)])) rfl rfl (hb hby d5_1)) ?_
    rw [len_of Sl1_1 Ml1_1]
    show Runs p e below s _ _ _ (T.setTop (mkF m 2 #[.val (.ref x0), .val (.int (1 : Int32)), .val (.int x2), .val (.int x3), .val (.int x4)] [(.int (1 : Int32))]))
    refine Runs.go (fun _ => XS.iloadN X.here hx rfl (hb hby d5_2) rfl) ?_
    show Runs p e below s _ _ _ (T.setTop (mkF m 3 #[.val (.ref x0), .val (.int (1 : Int32)), .val (.int x2), .val (.int x3), .val (.int x4)] [(.int (1 : Int32)), (.int (1 : Int32))]))
    refine Runs.go (fun _ => XS.icmpNo X.here hx rfl (hb hby d5_3) rfl (teq (rfl : (1 : Int32) = (1 : Int32))).2) ?_
    show Runs p e below s _ _ _ (T.setTop (mkF m 6 #[.val (.ref x0), .val (.int (1 : Int32)), .val (.int x2), .val (.int x3), .val (.int x4)] []))
    refine Runs.go (fun _ => XS.iloadN X.here hx rfl (hb hby d5_6) rfl) ?_
    show Runs p e below s _ _ _ (T.setTop (mkF m 7 #[.val (.ref x0), .val (.int (1 : Int32)), .val (.int x2), .val (.int x3), .val (.int x4)] [(.int (1 : Int32))]))
    refine Runs.go (fun _ => XS.iconst X.here hx rfl (hb hby d5_7)) ?_
    show Runs p e below s _ _ _ (T.setTop (mkF m 8 #[.val (.ref x0), .val (.int (1 : Int32)), .val (.int x2), .val (.int x3), .val (.int x4)] [(.int (1 : Int32)), (.int (1 : Int32))]))
    refine Runs.go (fun _ => XS.icmpNo X.here hx rfl (hb hby d5_8) rfl (flt ((by decide) : ¬ ((1 : Int32) < (1 : Int32)))).1) ?_
    show Runs p e below s _ _ _ (T.setTop (mkF m 11 #[.val (.ref x0), .val (.int (1 : Int32)), .val (.int x2), .val (.int x3), .val (.int x4)] []))
    refine Runs.go (fun _ => XS.aloadN X.here hx rfl (hb hby d5_11) rfl rfl) ?_
    show Runs p e below s _ _ _ (T.setTop (mkF m 12 #[.val (.ref x0), .val (.int (1 : Int32)), .val (.int x2), .val (.int x3), .val (.int x4)] [(.ref x0)]))
    refine Runs.go (fun _ => XS.iconst X.here hx rfl (hb hby d5_12)) ?_
    show Runs p e below s _ _ _ (T.setTop (mkF m 13 #[.val (.ref x0), .val (.int (1 : Int32)), .val (.int x2), .val (.int x3), .val (.int x4)] [(.int (0 : Int32)), (.ref x0)]))
    have VCr13_2 := V0
    obtain ⟨clr13_2, Arr13_2, -, Sr13_2, Mr13_2, Hr13_2, -⟩ := VCr13_2
    have hinr13_2 : ¬ ((0 : Int32) < 0 ∨ clr13_2.slots.size ≤ ((0 : Int32)).toNatClampNeg) := inb_of Sr13_2 ⟨by decide, by decide⟩
    have hatr13_2 : clr13_2.slots[((0 : Int32)).toNatClampNeg]? = some (.int x2) := Has.at Hr13_2 hinr13_2 rfl
    refine Runs.go (X.iaload hx (j := (0 : Int32)) (v := (.int x2)) (by rw [eT]; exact Arr13_2.1) (State.isArrayOf_alike hZ.alike Arr13_2.2.1) Arr13_2.2.2 hinr13_2 hatr13_2 (g := (mkF m 13 #[.val (.ref x0), .val (.int (1 : Int32)), .val (.int x2), .val (.int x3), .val (.int x4)] [(.int (0 : Int32)), (.ref x0)])) rfl rfl (hb hby d5_13)) ?_
    show Runs p e below s _ _ _ (T.setTop (mkF m 14 #[.val (.ref x0), .val (.int (1 : Int32)), .val (.int x2), .val (.int x3), .val (.int x4)] [(.int x2)]))
    refine Runs.go (fun _ => XS.iloadN X.here hx rfl (hb hby d5_14) rfl) ?_
    show Runs p e below s _ _ _ (T.setTop (mkF m 15 #[.val (.ref x0), .val (.int (1 : Int32)), .val (.int x2), .val (.int x3), .val (.int x4)] [(.int x2), (.int x2)]))
    refine Runs.go (fun _ => XS.icmpNo X.here hx rfl (hb hby d5_15) rfl (teq (rfl : x2 = x2)).2) ?_
    show Runs p e below s _ _ _ (T.setTop (mkF m 18 #[.val (.ref x0), .val (.int (1 : Int32)), .val (.int x2), .val (.int x3), .val (.int x4)] []))
    refine Runs.go (fun _ => XS.iloadN X.here hx rfl (hb hby d5_18) rfl) ?_
    show Runs p e below s _ _ _ (T.setTop (mkF m 19 #[.val (.ref x0), .val (.int (1 : Int32)), .val (.int x2), .val (.int x3), .val (.int x4)] [(.int (1 : Int32))]))
    refine Runs.go (fun _ => XS.iconst X.here hx rfl (hb hby d5_19)) ?_
    show Runs p e below s _ _ _ (T.setTop (mkF m 20 #[.val (.ref x0), .val (.int (1 : Int32)), .val (.int x2), .val (.int x3), .val (.int x4)] [(.int (2 : Int32)), (.int (1 : Int32))]))
    refine Runs.go (fun _ => XS.icmpYes X.here hx rfl (pc0 := 20) (pc' := 30) rfl (hb hby d5_20) rfl (tlt ((by decide) : (1 : Int32) < (2 : Int32))).1 (by decide) (by decide)) ?_
    show Runs p e below s _ _ _ (T.setTop (mkF m 30 #[.val (.ref x0), .val (.int (1 : Int32)), .val (.int x2), .val (.int x3), .val (.int x4)] []))
    refine Runs.go (fun _ => XS.iloadN X.here hx rfl (hb hby d5_30) rfl) ?_
    show Runs p e below s _ _ _ (T.setTop (mkF m 31 #[.val (.ref x0), .val (.int (1 : Int32)), .val (.int x2), .val (.int x3), .val (.int x4)] [(.int (1 : Int32))]))
    refine Runs.go (fun _ => XS.iconst X.here hx rfl (hb hby d5_31)) ?_
    show Runs p e below s _ _ _ (T.setTop (mkF m 32 #[.val (.ref x0), .val (.int (1 : Int32)), .val (.int x2), .val (.int x3), .val (.int x4)] [(.int (3 : Int32)), (.int (1 : Int32))]))
    refine Runs.go (fun _ => XS.icmpYes X.here hx rfl (pc0 := 32) (pc' := 43) rfl (hb hby d5_32) rfl (tlt ((by decide) : (1 : Int32) < (3 : Int32))).1 (by decide) (by decide)) ?_
    show Runs p e below s _ _ _ (T.setTop (mkF m 43 #[.val (.ref x0), .val (.int (1 : Int32)), .val (.int x2), .val (.int x3), .val (.int x4)] []))
    refine Runs.go (fun _ => XS.iconst X.here hx rfl (hb hby d5_43)) ?_
    show Runs p e below s _ _ _ (T.setTop (mkF m 44 #[.val (.ref x0), .val (.int (1 : Int32)), .val (.int x2), .val (.int x3), .val (.int x4)] [(.int (1 : Int32))]))
    refine Runs.go (fun _ => XS.goto X.here hx rfl (pc0 := 44) (pc' := 48) rfl (hb hby d5_44) (by decide) (by decide)) ?_
    show Runs p e below s _ _ _ (T.setTop (mkF m 48 #[.val (.ref x0), .val (.int (1 : Int32)), .val (.int x2), .val (.int x3), .val (.int x4)] [(.int (1 : Int32))]))
    exact Runs.endN X hx (t := .boolean) Bd.returns (by simp) Bd.notSynchronized (hb hby d5_48) ⟨rfl, rfl, eT⟩ (by decide) (by decide)
  exact k_0 _ X0 e0 (Fr.nil n0)
theorem d5_23 : decode method_2_code 23 = .ok (.aload_n 0, 1) := by decide +kernel
theorem d5_24 : decode method_2_code 24 = .ok (.iconst 1, 1) := by decide +kernel
theorem d5_25 : decode method_2_code 25 = .ok (.iaload, 1) := by decide +kernel
theorem d5_26 : decode method_2_code 26 = .ok (.iload_n 3, 1) := by decide +kernel
theorem d5_27 : decode method_2_code 27 = .ok (.if_icmp .ne 20, 3) := by decide +kernel
theorem ef_5c (m : MethodId) (x0 : Addr) (x2 : Int32) (x3 : Int32) (x4 : Int32) : entryFrame m #[(.ref x0), (.int (2 : Int32)), (.int x2), (.int x3), (.int x4)] 5 = mkF m 0 #[.val (.ref x0), .val (.int (2 : Int32)), .val (.int x2), .val (.int x3), .val (.int x4)] [] := by first | (simp [entryFrame, mkF, argsToLocals, Value.category]; done) | rfl
set_option maxRecDepth 65536 in
set_option maxHeartbeats 40000000 in
theorem rm5c (l : Launch) (Z : State) (a0 : Array Value) (hw : ∀ d ∈ tables_1, d.before a0 Z = true) (ws : List Jvm.Cond) (x0 : Addr) (x2 x3 x4 : Int32) (kk : ClassId) (h0 : Heap) (n0 : Nat) (hn0 : n0 ≤ h0.size) (V0 : Arv Z h0 x0 kk .int (2 : Int32) [(.int x2), (.int x3)] (.int (0 : Int32))) :
    MetFree l (⟨"com/example/quillon/quillon/core/PrioritizationOrderPinLaw", "same", "([IIIII)Z"⟩ : MethodName) (head1 (Jvm.Cond.code (⟨"com/example/quillon/quillon/core/PrioritizationOrderPinLaw", "same", "([IIIII)Z"⟩ : MethodName) method_2_code 5 (some .boolean) :: ws) ({ frames := 0, cells := 0, slots := 0, locals := 0 } : Room)) (fun a U => a = #[(.ref x0), (.int (2 : Int32)), (.int x2), (.int x3), (.int x4)] ∧ Z.Warmed39 U.vm ∧ U.heap = h0) (fun _ _ _ _ _ => True) (fun _ U o U' => ∃ v L, o = .returned v ∧ QP (.int (1 : Int32)) h0 v U'.heap L ∧ FrameEnd U o U' L ({ frames := 0, cells := 0, slots := 0, locals := 0 } : Room).cells ({ frames := 0, cells := 0, slots := 0, locals := 0 } : Room).slots) := by
  refine MetFree.of_bodySF (plainFor_of_name pn_5) hisR ?_
  intro p e s m args below meth c s₁ Bd hml0 hP hK
  obtain ⟨rfl, hZ, hh⟩ := hP
  have hx := Bd.exec
  have hby := Bd.bytes
  have hml : c.maxLocals = 5 := hml0
  have hown : s.vm.findClass "com/example/quillon/quillon/core/PrioritizationOrderPinLaw" = some m.cls := findClass_of_methodNamed Bd.named
  have hnm := (name_of_methodNamed Bd.named Bd.method).1
  have X0 : Stand p l e ({ frames := 0, cells := 0, slots := 0, locals := 0 } : Room) s m #[(.ref x0), (.int (2 : Int32)), (.int x2), (.int x3), (.int x4)] below meth c s₁ [] 0 0 := Stand.of_body Bd
  have e0 : s₁.heap = h0 := by rw [← hh, Bd.state]; rfl
  show Runs p e below s (QP (.int (1 : Int32)) h0) ({ frames := 0, cells := 0, slots := 0, locals := 0 } : Room).cells ({ frames := 0, cells := 0, slots := 0, locals := 0 } : Room).slots (s₁.setTop (entryFrame m #[(.ref x0), (.int (2 : Int32)), (.int x2), (.int x3), (.int x4)] 5))
  rw [ef_5c m x0 x2 x3 x4]
  have k_0 : ∀ (T : State) (X : Stand p l e ({ frames := 0, cells := 0, slots := 0, locals := 0 } : Room) s m #[(.ref x0), (.int (2 : Int32)), (.int x2), (.int x3), (.int x4)] below meth c T [] 0 0) (eT : T.heap = h0) (N : Fr n0 []), Runs p e below s (QP (.int (1 : Int32)) h0) ({ frames := 0, cells := 0, slots := 0, locals := 0 } : Room).cells ({ frames := 0, cells := 0, slots := 0, locals := 0 } : Room).slots (T.setTop (mkF m 0 #[.val (.ref x0), .val (.int (2 : Int32)), .val (.int x2), .val (.int x3), .val (.int x4)] [])) := by
    intro T X eT N 
    refine Runs.go (fun _ => XS.aloadN X.here hx rfl (hb hby d5_0) rfl rfl) ?_
    show Runs p e below s _ _ _ (T.setTop (mkF m 1 #[.val (.ref x0), .val (.int (2 : Int32)), .val (.int x2), .val (.int x3), .val (.int x4)] [(.ref x0)]))
    have VCl1_1 := V0
    obtain ⟨cll1_1, Arl1_1, -, Sl1_1, Ml1_1, -, -⟩ := VCl1_1
    refine Runs.go (X.arraylength hx (by rw [eT]; exact Arl1_1.1) (State.isArrayOf_alike hZ.alike Arl1_1.2.1) (g := (mkF m 1 #[.val (.ref x0), .val (.int (2 : Int32)), .val (.int x2), .val (.int x3), .val (.int x4)] [(.ref x0)])) rfl rfl (hb hby d5_1)) ?_
    rw [len_of Sl1_1 Ml1_1]
    show Runs p e below s _ _ _ (T.setTop (mkF m 2 #[.val (.ref x0), .val (.int (2 : Int32)), .val (.int x2), .val (.int x3), .val (.int x4)] [(.int (2 : Int32))]))
    refine Runs.go (fun _ => XS.iloadN X.here hx rfl (hb hby d5_2) rfl) ?_
    show Runs p e below s _ _ _ (T.setTop (mkF m 3 #[.val (.ref x0), .val (.int (2 : Int32)), .val (.int x2), .val (.int x3), .val (.int x4)] [(.int (2 : Int32)), (.int (2 : Int32))]))
    refine Runs.go (fun _ => XS.icmpNo X.here hx rfl (hb hby d5_3) rfl (teq (rfl : (2 : Int32) = (2 : Int32))).2) ?_
    show Runs p e below s _ _ _ (T.setTop (mkF m 6 #[.val (.ref x0), .val (.int (2 : Int32)), .val (.int x2), .val (.int x3), .val (.int x4)] []))
    refine Runs.go (fun _ => XS.iloadN X.here hx rfl (hb hby d5_6) rfl) ?_
    show Runs p e below s _ _ _ (T.setTop (mkF m 7 #[.val (.ref x0), .val (.int (2 : Int32)), .val (.int x2), .val (.int x3), .val (.int x4)] [(.int (2 : Int32))]))
    refine Runs.go (fun _ => XS.iconst X.here hx rfl (hb hby d5_7)) ?_
    show Runs p e below s _ _ _ (T.setTop (mkF m 8 #[.val (.ref x0), .val (.int (2 : Int32)), .val (.int x2), .val (.int x3), .val (.int x4)] [(.int (1 : Int32)), (.int (2 : Int32))]))
    refine Runs.go (fun _ => XS.icmpNo X.here hx rfl (hb hby d5_8) rfl (flt ((by decide) : ¬ ((2 : Int32) < (1 : Int32)))).1) ?_
    show Runs p e below s _ _ _ (T.setTop (mkF m 11 #[.val (.ref x0), .val (.int (2 : Int32)), .val (.int x2), .val (.int x3), .val (.int x4)] []))
    refine Runs.go (fun _ => XS.aloadN X.here hx rfl (hb hby d5_11) rfl rfl) ?_
    show Runs p e below s _ _ _ (T.setTop (mkF m 12 #[.val (.ref x0), .val (.int (2 : Int32)), .val (.int x2), .val (.int x3), .val (.int x4)] [(.ref x0)]))
    refine Runs.go (fun _ => XS.iconst X.here hx rfl (hb hby d5_12)) ?_
    show Runs p e below s _ _ _ (T.setTop (mkF m 13 #[.val (.ref x0), .val (.int (2 : Int32)), .val (.int x2), .val (.int x3), .val (.int x4)] [(.int (0 : Int32)), (.ref x0)]))
    have VCr13_2 := V0
    obtain ⟨clr13_2, Arr13_2, -, Sr13_2, Mr13_2, Hr13_2, -⟩ := VCr13_2
    have hinr13_2 : ¬ ((0 : Int32) < 0 ∨ clr13_2.slots.size ≤ ((0 : Int32)).toNatClampNeg) := inb_of Sr13_2 ⟨by decide, by decide⟩
    have hatr13_2 : clr13_2.slots[((0 : Int32)).toNatClampNeg]? = some (.int x2) := Has.at Hr13_2 hinr13_2 rfl
    refine Runs.go (X.iaload hx (j := (0 : Int32)) (v := (.int x2)) (by rw [eT]; exact Arr13_2.1) (State.isArrayOf_alike hZ.alike Arr13_2.2.1) Arr13_2.2.2 hinr13_2 hatr13_2 (g := (mkF m 13 #[.val (.ref x0), .val (.int (2 : Int32)), .val (.int x2), .val (.int x3), .val (.int x4)] [(.int (0 : Int32)), (.ref x0)])) rfl rfl (hb hby d5_13)) ?_
    show Runs p e below s _ _ _ (T.setTop (mkF m 14 #[.val (.ref x0), .val (.int (2 : Int32)), .val (.int x2), .val (.int x3), .val (.int x4)] [(.int x2)]))
    refine Runs.go (fun _ => XS.iloadN X.here hx rfl (hb hby d5_14) rfl) ?_
    show Runs p e below s _ _ _ (T.setTop (mkF m 15 #[.val (.ref x0), .val (.int (2 : Int32)), .val (.int x2), .val (.int x3), .val (.int x4)] [(.int x2), (.int x2)]))
    refine Runs.go (fun _ => XS.icmpNo X.here hx rfl (hb hby d5_15) rfl (teq (rfl : x2 = x2)).2) ?_
    show Runs p e below s _ _ _ (T.setTop (mkF m 18 #[.val (.ref x0), .val (.int (2 : Int32)), .val (.int x2), .val (.int x3), .val (.int x4)] []))
    refine Runs.go (fun _ => XS.iloadN X.here hx rfl (hb hby d5_18) rfl) ?_
    show Runs p e below s _ _ _ (T.setTop (mkF m 19 #[.val (.ref x0), .val (.int (2 : Int32)), .val (.int x2), .val (.int x3), .val (.int x4)] [(.int (2 : Int32))]))
    refine Runs.go (fun _ => XS.iconst X.here hx rfl (hb hby d5_19)) ?_
    show Runs p e below s _ _ _ (T.setTop (mkF m 20 #[.val (.ref x0), .val (.int (2 : Int32)), .val (.int x2), .val (.int x3), .val (.int x4)] [(.int (2 : Int32)), (.int (2 : Int32))]))
    refine Runs.go (fun _ => XS.icmpNo X.here hx rfl (hb hby d5_20) rfl (flt ((by decide) : ¬ ((2 : Int32) < (2 : Int32)))).1) ?_
    show Runs p e below s _ _ _ (T.setTop (mkF m 23 #[.val (.ref x0), .val (.int (2 : Int32)), .val (.int x2), .val (.int x3), .val (.int x4)] []))
    refine Runs.go (fun _ => XS.aloadN X.here hx rfl (hb hby d5_23) rfl rfl) ?_
    show Runs p e below s _ _ _ (T.setTop (mkF m 24 #[.val (.ref x0), .val (.int (2 : Int32)), .val (.int x2), .val (.int x3), .val (.int x4)] [(.ref x0)]))
    refine Runs.go (fun _ => XS.iconst X.here hx rfl (hb hby d5_24)) ?_
    show Runs p e below s _ _ _ (T.setTop (mkF m 25 #[.val (.ref x0), .val (.int (2 : Int32)), .val (.int x2), .val (.int x3), .val (.int x4)] [(.int (1 : Int32)), (.ref x0)]))
    have VCr25_3 := V0
    obtain ⟨clr25_3, Arr25_3, -, Sr25_3, Mr25_3, Hr25_3, -⟩ := VCr25_3
    have hinr25_3 : ¬ ((1 : Int32) < 0 ∨ clr25_3.slots.size ≤ ((1 : Int32)).toNatClampNeg) := inb_of Sr25_3 ⟨by decide, by decide⟩
    have hatr25_3 : clr25_3.slots[((1 : Int32)).toNatClampNeg]? = some (.int x3) := Has.at Hr25_3 hinr25_3 rfl
    refine Runs.go (X.iaload hx (j := (1 : Int32)) (v := (.int x3)) (by rw [eT]; exact Arr25_3.1) (State.isArrayOf_alike hZ.alike Arr25_3.2.1) Arr25_3.2.2 hinr25_3 hatr25_3 (g := (mkF m 25 #[.val (.ref x0), .val (.int (2 : Int32)), .val (.int x2), .val (.int x3), .val (.int x4)] [(.int (1 : Int32)), (.ref x0)])) rfl rfl (hb hby d5_25)) ?_
    show Runs p e below s _ _ _ (T.setTop (mkF m 26 #[.val (.ref x0), .val (.int (2 : Int32)), .val (.int x2), .val (.int x3), .val (.int x4)] [(.int x3)]))
    refine Runs.go (fun _ => XS.iloadN X.here hx rfl (hb hby d5_26) rfl) ?_
    show Runs p e below s _ _ _ (T.setTop (mkF m 27 #[.val (.ref x0), .val (.int (2 : Int32)), .val (.int x2), .val (.int x3), .val (.int x4)] [(.int x3), (.int x3)]))
    refine Runs.go (fun _ => XS.icmpNo X.here hx rfl (hb hby d5_27) rfl (teq (rfl : x3 = x3)).2) ?_
    show Runs p e below s _ _ _ (T.setTop (mkF m 30 #[.val (.ref x0), .val (.int (2 : Int32)), .val (.int x2), .val (.int x3), .val (.int x4)] []))
    refine Runs.go (fun _ => XS.iloadN X.here hx rfl (hb hby d5_30) rfl) ?_
    show Runs p e below s _ _ _ (T.setTop (mkF m 31 #[.val (.ref x0), .val (.int (2 : Int32)), .val (.int x2), .val (.int x3), .val (.int x4)] [(.int (2 : Int32))]))
    refine Runs.go (fun _ => XS.iconst X.here hx rfl (hb hby d5_31)) ?_
    show Runs p e below s _ _ _ (T.setTop (mkF m 32 #[.val (.ref x0), .val (.int (2 : Int32)), .val (.int x2), .val (.int x3), .val (.int x4)] [(.int (3 : Int32)), (.int (2 : Int32))]))
    refine Runs.go (fun _ => XS.icmpYes X.here hx rfl (pc0 := 32) (pc' := 43) rfl (hb hby d5_32) rfl (tlt ((by decide) : (2 : Int32) < (3 : Int32))).1 (by decide) (by decide)) ?_
    show Runs p e below s _ _ _ (T.setTop (mkF m 43 #[.val (.ref x0), .val (.int (2 : Int32)), .val (.int x2), .val (.int x3), .val (.int x4)] []))
    refine Runs.go (fun _ => XS.iconst X.here hx rfl (hb hby d5_43)) ?_
    show Runs p e below s _ _ _ (T.setTop (mkF m 44 #[.val (.ref x0), .val (.int (2 : Int32)), .val (.int x2), .val (.int x3), .val (.int x4)] [(.int (1 : Int32))]))
    refine Runs.go (fun _ => XS.goto X.here hx rfl (pc0 := 44) (pc' := 48) rfl (hb hby d5_44) (by decide) (by decide)) ?_
    show Runs p e below s _ _ _ (T.setTop (mkF m 48 #[.val (.ref x0), .val (.int (2 : Int32)), .val (.int x2), .val (.int x3), .val (.int x4)] [(.int (1 : Int32))]))
    exact Runs.endN X hx (t := .boolean) Bd.returns (by simp) Bd.notSynchronized (hb hby d5_48) ⟨rfl, rfl, eT⟩ (by decide) (by decide)
  exact k_0 _ X0 e0 (Fr.nil n0)
theorem d5_35 : decode method_2_code 35 = .ok (.aload_n 0, 1) := by decide +kernel
theorem d5_36 : decode method_2_code 36 = .ok (.iconst 2, 1) := by decide +kernel
theorem d5_37 : decode method_2_code 37 = .ok (.iaload, 1) := by decide +kernel
theorem d5_38 : decode method_2_code 38 = .ok (.iload 4, 2) := by decide +kernel
theorem d5_40 : decode method_2_code 40 = .ok (.if_icmp .ne 7, 3) := by decide +kernel
theorem ef_5d (m : MethodId) (x0 : Addr) (x2 : Int32) (x3 : Int32) (x4 : Int32) : entryFrame m #[(.ref x0), (.int (3 : Int32)), (.int x2), (.int x3), (.int x4)] 5 = mkF m 0 #[.val (.ref x0), .val (.int (3 : Int32)), .val (.int x2), .val (.int x3), .val (.int x4)] [] := by first | (simp [entryFrame, mkF, argsToLocals, Value.category]; done) | rfl
set_option maxRecDepth 65536 in
set_option maxHeartbeats 40000000 in
theorem rm5d (l : Launch) (Z : State) (a0 : Array Value) (hw : ∀ d ∈ tables_1, d.before a0 Z = true) (ws : List Jvm.Cond) (x0 : Addr) (x2 x3 x4 : Int32) (kk : ClassId) (h0 : Heap) (n0 : Nat) (hn0 : n0 ≤ h0.size) (V0 : Arv Z h0 x0 kk .int (3 : Int32) [(.int x2), (.int x3), (.int x4)] (.int (0 : Int32))) :
    MetFree l (⟨"com/example/quillon/quillon/core/PrioritizationOrderPinLaw", "same", "([IIIII)Z"⟩ : MethodName) (head1 (Jvm.Cond.code (⟨"com/example/quillon/quillon/core/PrioritizationOrderPinLaw", "same", "([IIIII)Z"⟩ : MethodName) method_2_code 5 (some .boolean) :: ws) ({ frames := 0, cells := 0, slots := 0, locals := 0 } : Room)) (fun a U => a = #[(.ref x0), (.int (3 : Int32)), (.int x2), (.int x3), (.int x4)] ∧ Z.Warmed39 U.vm ∧ U.heap = h0) (fun _ _ _ _ _ => True) (fun _ U o U' => ∃ v L, o = .returned v ∧ QP (.int (1 : Int32)) h0 v U'.heap L ∧ FrameEnd U o U' L ({ frames := 0, cells := 0, slots := 0, locals := 0 } : Room).cells ({ frames := 0, cells := 0, slots := 0, locals := 0 } : Room).slots) := by
  refine MetFree.of_bodySF (plainFor_of_name pn_5) hisR ?_
  intro p e s m args below meth c s₁ Bd hml0 hP hK
  obtain ⟨rfl, hZ, hh⟩ := hP
  have hx := Bd.exec
  have hby := Bd.bytes
  have hml : c.maxLocals = 5 := hml0
  have hown : s.vm.findClass "com/example/quillon/quillon/core/PrioritizationOrderPinLaw" = some m.cls := findClass_of_methodNamed Bd.named
  have hnm := (name_of_methodNamed Bd.named Bd.method).1
  have X0 : Stand p l e ({ frames := 0, cells := 0, slots := 0, locals := 0 } : Room) s m #[(.ref x0), (.int (3 : Int32)), (.int x2), (.int x3), (.int x4)] below meth c s₁ [] 0 0 := Stand.of_body Bd
  have e0 : s₁.heap = h0 := by rw [← hh, Bd.state]; rfl
  show Runs p e below s (QP (.int (1 : Int32)) h0) ({ frames := 0, cells := 0, slots := 0, locals := 0 } : Room).cells ({ frames := 0, cells := 0, slots := 0, locals := 0 } : Room).slots (s₁.setTop (entryFrame m #[(.ref x0), (.int (3 : Int32)), (.int x2), (.int x3), (.int x4)] 5))
  rw [ef_5d m x0 x2 x3 x4]
  have k_0 : ∀ (T : State) (X : Stand p l e ({ frames := 0, cells := 0, slots := 0, locals := 0 } : Room) s m #[(.ref x0), (.int (3 : Int32)), (.int x2), (.int x3), (.int x4)] below meth c T [] 0 0) (eT : T.heap = h0) (N : Fr n0 []), Runs p e below s (QP (.int (1 : Int32)) h0) ({ frames := 0, cells := 0, slots := 0, locals := 0 } : Room).cells ({ frames := 0, cells := 0, slots := 0, locals := 0 } : Room).slots (T.setTop (mkF m 0 #[.val (.ref x0), .val (.int (3 : Int32)), .val (.int x2), .val (.int x3), .val (.int x4)] [])) := by
    intro T X eT N 
    refine Runs.go (fun _ => XS.aloadN X.here hx rfl (hb hby d5_0) rfl rfl) ?_
    show Runs p e below s _ _ _ (T.setTop (mkF m 1 #[.val (.ref x0), .val (.int (3 : Int32)), .val (.int x2), .val (.int x3), .val (.int x4)] [(.ref x0)]))
    have VCl1_1 := V0
    obtain ⟨cll1_1, Arl1_1, -, Sl1_1, Ml1_1, -, -⟩ := VCl1_1
    refine Runs.go (X.arraylength hx (by rw [eT]; exact Arl1_1.1) (State.isArrayOf_alike hZ.alike Arl1_1.2.1) (g := (mkF m 1 #[.val (.ref x0), .val (.int (3 : Int32)), .val (.int x2), .val (.int x3), .val (.int x4)] [(.ref x0)])) rfl rfl (hb hby d5_1)) ?_
    rw [len_of Sl1_1 Ml1_1]
    show Runs p e below s _ _ _ (T.setTop (mkF m 2 #[.val (.ref x0), .val (.int (3 : Int32)), .val (.int x2), .val (.int x3), .val (.int x4)] [(.int (3 : Int32))]))
    refine Runs.go (fun _ => XS.iloadN X.here hx rfl (hb hby d5_2) rfl) ?_
    show Runs p e below s _ _ _ (T.setTop (mkF m 3 #[.val (.ref x0), .val (.int (3 : Int32)), .val (.int x2), .val (.int x3), .val (.int x4)] [(.int (3 : Int32)), (.int (3 : Int32))]))
    refine Runs.go (fun _ => XS.icmpNo X.here hx rfl (hb hby d5_3) rfl (teq (rfl : (3 : Int32) = (3 : Int32))).2) ?_
    show Runs p e below s _ _ _ (T.setTop (mkF m 6 #[.val (.ref x0), .val (.int (3 : Int32)), .val (.int x2), .val (.int x3), .val (.int x4)] []))
    refine Runs.go (fun _ => XS.iloadN X.here hx rfl (hb hby d5_6) rfl) ?_
    show Runs p e below s _ _ _ (T.setTop (mkF m 7 #[.val (.ref x0), .val (.int (3 : Int32)), .val (.int x2), .val (.int x3), .val (.int x4)] [(.int (3 : Int32))]))
    refine Runs.go (fun _ => XS.iconst X.here hx rfl (hb hby d5_7)) ?_
    show Runs p e below s _ _ _ (T.setTop (mkF m 8 #[.val (.ref x0), .val (.int (3 : Int32)), .val (.int x2), .val (.int x3), .val (.int x4)] [(.int (1 : Int32)), (.int (3 : Int32))]))
    refine Runs.go (fun _ => XS.icmpNo X.here hx rfl (hb hby d5_8) rfl (flt ((by decide) : ¬ ((3 : Int32) < (1 : Int32)))).1) ?_
    show Runs p e below s _ _ _ (T.setTop (mkF m 11 #[.val (.ref x0), .val (.int (3 : Int32)), .val (.int x2), .val (.int x3), .val (.int x4)] []))
    refine Runs.go (fun _ => XS.aloadN X.here hx rfl (hb hby d5_11) rfl rfl) ?_
    show Runs p e below s _ _ _ (T.setTop (mkF m 12 #[.val (.ref x0), .val (.int (3 : Int32)), .val (.int x2), .val (.int x3), .val (.int x4)] [(.ref x0)]))
    refine Runs.go (fun _ => XS.iconst X.here hx rfl (hb hby d5_12)) ?_
    show Runs p e below s _ _ _ (T.setTop (mkF m 13 #[.val (.ref x0), .val (.int (3 : Int32)), .val (.int x2), .val (.int x3), .val (.int x4)] [(.int (0 : Int32)), (.ref x0)]))
    have VCr13_2 := V0
    obtain ⟨clr13_2, Arr13_2, -, Sr13_2, Mr13_2, Hr13_2, -⟩ := VCr13_2
    have hinr13_2 : ¬ ((0 : Int32) < 0 ∨ clr13_2.slots.size ≤ ((0 : Int32)).toNatClampNeg) := inb_of Sr13_2 ⟨by decide, by decide⟩
    have hatr13_2 : clr13_2.slots[((0 : Int32)).toNatClampNeg]? = some (.int x2) := Has.at Hr13_2 hinr13_2 rfl
    refine Runs.go (X.iaload hx (j := (0 : Int32)) (v := (.int x2)) (by rw [eT]; exact Arr13_2.1) (State.isArrayOf_alike hZ.alike Arr13_2.2.1) Arr13_2.2.2 hinr13_2 hatr13_2 (g := (mkF m 13 #[.val (.ref x0), .val (.int (3 : Int32)), .val (.int x2), .val (.int x3), .val (.int x4)] [(.int (0 : Int32)), (.ref x0)])) rfl rfl (hb hby d5_13)) ?_
    show Runs p e below s _ _ _ (T.setTop (mkF m 14 #[.val (.ref x0), .val (.int (3 : Int32)), .val (.int x2), .val (.int x3), .val (.int x4)] [(.int x2)]))
    refine Runs.go (fun _ => XS.iloadN X.here hx rfl (hb hby d5_14) rfl) ?_
    show Runs p e below s _ _ _ (T.setTop (mkF m 15 #[.val (.ref x0), .val (.int (3 : Int32)), .val (.int x2), .val (.int x3), .val (.int x4)] [(.int x2), (.int x2)]))
    refine Runs.go (fun _ => XS.icmpNo X.here hx rfl (hb hby d5_15) rfl (teq (rfl : x2 = x2)).2) ?_
    show Runs p e below s _ _ _ (T.setTop (mkF m 18 #[.val (.ref x0), .val (.int (3 : Int32)), .val (.int x2), .val (.int x3), .val (.int x4)] []))
    refine Runs.go (fun _ => XS.iloadN X.here hx rfl (hb hby d5_18) rfl) ?_
    show Runs p e below s _ _ _ (T.setTop (mkF m 19 #[.val (.ref x0), .val (.int (3 : Int32)), .val (.int x2), .val (.int x3), .val (.int x4)] [(.int (3 : Int32))]))
    refine Runs.go (fun _ => XS.iconst X.here hx rfl (hb hby d5_19)) ?_
    show Runs p e below s _ _ _ (T.setTop (mkF m 20 #[.val (.ref x0), .val (.int (3 : Int32)), .val (.int x2), .val (.int x3), .val (.int x4)] [(.int (2 : Int32)), (.int (3 : Int32))]))
    refine Runs.go (fun _ => XS.icmpNo X.here hx rfl (hb hby d5_20) rfl (flt ((by decide) : ¬ ((3 : Int32) < (2 : Int32)))).1) ?_
    show Runs p e below s _ _ _ (T.setTop (mkF m 23 #[.val (.ref x0), .val (.int (3 : Int32)), .val (.int x2), .val (.int x3), .val (.int x4)] []))
    refine Runs.go (fun _ => XS.aloadN X.here hx rfl (hb hby d5_23) rfl rfl) ?_
    show Runs p e below s _ _ _ (T.setTop (mkF m 24 #[.val (.ref x0), .val (.int (3 : Int32)), .val (.int x2), .val (.int x3), .val (.int x4)] [(.ref x0)]))
    refine Runs.go (fun _ => XS.iconst X.here hx rfl (hb hby d5_24)) ?_
    show Runs p e below s _ _ _ (T.setTop (mkF m 25 #[.val (.ref x0), .val (.int (3 : Int32)), .val (.int x2), .val (.int x3), .val (.int x4)] [(.int (1 : Int32)), (.ref x0)]))
    have VCr25_3 := V0
    obtain ⟨clr25_3, Arr25_3, -, Sr25_3, Mr25_3, Hr25_3, -⟩ := VCr25_3
    have hinr25_3 : ¬ ((1 : Int32) < 0 ∨ clr25_3.slots.size ≤ ((1 : Int32)).toNatClampNeg) := inb_of Sr25_3 ⟨by decide, by decide⟩
    have hatr25_3 : clr25_3.slots[((1 : Int32)).toNatClampNeg]? = some (.int x3) := Has.at Hr25_3 hinr25_3 rfl
    refine Runs.go (X.iaload hx (j := (1 : Int32)) (v := (.int x3)) (by rw [eT]; exact Arr25_3.1) (State.isArrayOf_alike hZ.alike Arr25_3.2.1) Arr25_3.2.2 hinr25_3 hatr25_3 (g := (mkF m 25 #[.val (.ref x0), .val (.int (3 : Int32)), .val (.int x2), .val (.int x3), .val (.int x4)] [(.int (1 : Int32)), (.ref x0)])) rfl rfl (hb hby d5_25)) ?_
    show Runs p e below s _ _ _ (T.setTop (mkF m 26 #[.val (.ref x0), .val (.int (3 : Int32)), .val (.int x2), .val (.int x3), .val (.int x4)] [(.int x3)]))
    refine Runs.go (fun _ => XS.iloadN X.here hx rfl (hb hby d5_26) rfl) ?_
    show Runs p e below s _ _ _ (T.setTop (mkF m 27 #[.val (.ref x0), .val (.int (3 : Int32)), .val (.int x2), .val (.int x3), .val (.int x4)] [(.int x3), (.int x3)]))
    refine Runs.go (fun _ => XS.icmpNo X.here hx rfl (hb hby d5_27) rfl (teq (rfl : x3 = x3)).2) ?_
    show Runs p e below s _ _ _ (T.setTop (mkF m 30 #[.val (.ref x0), .val (.int (3 : Int32)), .val (.int x2), .val (.int x3), .val (.int x4)] []))
    refine Runs.go (fun _ => XS.iloadN X.here hx rfl (hb hby d5_30) rfl) ?_
    show Runs p e below s _ _ _ (T.setTop (mkF m 31 #[.val (.ref x0), .val (.int (3 : Int32)), .val (.int x2), .val (.int x3), .val (.int x4)] [(.int (3 : Int32))]))
    refine Runs.go (fun _ => XS.iconst X.here hx rfl (hb hby d5_31)) ?_
    show Runs p e below s _ _ _ (T.setTop (mkF m 32 #[.val (.ref x0), .val (.int (3 : Int32)), .val (.int x2), .val (.int x3), .val (.int x4)] [(.int (3 : Int32)), (.int (3 : Int32))]))
    refine Runs.go (fun _ => XS.icmpNo X.here hx rfl (hb hby d5_32) rfl (flt ((by decide) : ¬ ((3 : Int32) < (3 : Int32)))).1) ?_
    show Runs p e below s _ _ _ (T.setTop (mkF m 35 #[.val (.ref x0), .val (.int (3 : Int32)), .val (.int x2), .val (.int x3), .val (.int x4)] []))
    refine Runs.go (fun _ => XS.aloadN X.here hx rfl (hb hby d5_35) rfl rfl) ?_
    show Runs p e below s _ _ _ (T.setTop (mkF m 36 #[.val (.ref x0), .val (.int (3 : Int32)), .val (.int x2), .val (.int x3), .val (.int x4)] [(.ref x0)]))
    refine Runs.go (fun _ => XS.iconst X.here hx rfl (hb hby d5_36)) ?_
    show Runs p e below s _ _ _ (T.setTop (mkF m 37 #[.val (.ref x0), .val (.int (3 : Int32)), .val (.int x2), .val (.int x3), .val (.int x4)] [(.int (2 : Int32)), (.ref x0)]))
    have VCr37_4 := V0
    obtain ⟨clr37_4, Arr37_4, -, Sr37_4, Mr37_4, Hr37_4, -⟩ := VCr37_4
    have hinr37_4 : ¬ ((2 : Int32) < 0 ∨ clr37_4.slots.size ≤ ((2 : Int32)).toNatClampNeg) := inb_of Sr37_4 ⟨by decide, by decide⟩
    have hatr37_4 : clr37_4.slots[((2 : Int32)).toNatClampNeg]? = some (.int x4) := Has.at Hr37_4 hinr37_4 rfl
    refine Runs.go (X.iaload hx (j := (2 : Int32)) (v := (.int x4)) (by rw [eT]; exact Arr37_4.1) (State.isArrayOf_alike hZ.alike Arr37_4.2.1) Arr37_4.2.2 hinr37_4 hatr37_4 (g := (mkF m 37 #[.val (.ref x0), .val (.int (3 : Int32)), .val (.int x2), .val (.int x3), .val (.int x4)] [(.int (2 : Int32)), (.ref x0)])) rfl rfl (hb hby d5_37)) ?_
    show Runs p e below s _ _ _ (T.setTop (mkF m 38 #[.val (.ref x0), .val (.int (3 : Int32)), .val (.int x2), .val (.int x3), .val (.int x4)] [(.int x4)]))
    refine Runs.go (fun _ => XS.iload X.here hx rfl (hb hby d5_38) rfl) ?_
    show Runs p e below s _ _ _ (T.setTop (mkF m 40 #[.val (.ref x0), .val (.int (3 : Int32)), .val (.int x2), .val (.int x3), .val (.int x4)] [(.int x4), (.int x4)]))
    refine Runs.go (fun _ => XS.icmpNo X.here hx rfl (hb hby d5_40) rfl (teq (rfl : x4 = x4)).2) ?_
    show Runs p e below s _ _ _ (T.setTop (mkF m 43 #[.val (.ref x0), .val (.int (3 : Int32)), .val (.int x2), .val (.int x3), .val (.int x4)] []))
    refine Runs.go (fun _ => XS.iconst X.here hx rfl (hb hby d5_43)) ?_
    show Runs p e below s _ _ _ (T.setTop (mkF m 44 #[.val (.ref x0), .val (.int (3 : Int32)), .val (.int x2), .val (.int x3), .val (.int x4)] [(.int (1 : Int32))]))
    refine Runs.go (fun _ => XS.goto X.here hx rfl (pc0 := 44) (pc' := 48) rfl (hb hby d5_44) (by decide) (by decide)) ?_
    show Runs p e below s _ _ _ (T.setTop (mkF m 48 #[.val (.ref x0), .val (.int (3 : Int32)), .val (.int x2), .val (.int x3), .val (.int x4)] [(.int (1 : Int32))]))
    exact Runs.endN X hx (t := .boolean) Bd.returns (by simp) Bd.notSynchronized (hb hby d5_48) ⟨rfl, rfl, eT⟩ (by decide) (by decide)
  exact k_0 _ X0 e0 (Fr.nil n0)
theorem pn_0 : plainName "com/example/quillon/quillon/core/PrioritizationOrderPinLaw" = true := by first | (simp [plainName, overriddenIn]; done) | decide +kernel
theorem ef_0 (m : MethodId) (x0 : Int32) (x1 : Int32) (x2 : Int32) (x3 : Int32) (x4 : Int32) : entryFrame m #[(.int x0), (.int x1), (.int x2), (.int x3), (.int x4)] maxLocals = mkF m 0 #[.val (.int x0), .val (.int x1), .val (.int x2), .val (.int x3), .val (.int x4), .unset, .unset, .unset, .unset, .unset] [] := by first | (simp [entryFrame, mkF, argsToLocals, Value.category, maxLocals]; done) | rfl
set_option maxRecDepth 65536 in
set_option maxHeartbeats 40000000 in
theorem rm0a (l : Launch) (Z : State) (a0 : Array Value) (hw : ∀ d ∈ tables_1, d.before a0 Z = true) (ws : List Jvm.Cond) (x0 : Int32) (x1 : Int32) (x2 : Int32) (x3 : Int32) (x4 : Int32) (h0 : Heap) (n0 : Nat) (hn0 : n0 ≤ h0.size) (hp : (x3 &&& (3 : Int32)) = (0 : Int32)) :
    MetFree l x (head1 (Jvm.Cond.code x code maxLocals ret :: ws) room_1) (fun a U => a = #[(.int x0), (.int x1), (.int x2), (.int x3), (.int x4)] ∧ Z.Warmed39 U.vm ∧ U.heap = h0) (fun _ _ _ _ _ => True) (fun _ U o U' => ∃ v L, o = .returned v ∧ QH (.int (1 : Int32)) n0 v U'.heap L ∧ FrameEnd U o U' L room_1.cells room_1.slots) := by
  refine MetFree.of_bodySF (plainFor_of_name pn_0) hisR ?_
  intro p e s m args below meth c s₁ Bd hml0 hP hK
  obtain ⟨rfl, hZ, hh⟩ := hP
  have hx := Bd.exec
  have hby := Bd.bytes
  have hml : c.maxLocals = 10 := hml0
  have hown : s.vm.findClass "com/example/quillon/quillon/core/PrioritizationOrderPinLaw" = some m.cls := findClass_of_methodNamed Bd.named
  have X : Stand p l e room_1 s m #[(.int x0), (.int x1), (.int x2), (.int x3), (.int x4)] below meth c s₁ [] 0 0 := Stand.of_body Bd
  have eT : s₁.heap = h0 := by rw [← hh, Bd.state]; rfl
  have N := Fr.nil n0
  show Runs p e below s (QH (.int (1 : Int32)) n0) room_1.cells room_1.slots (s₁.setTop (entryFrame m #[(.int x0), (.int x1), (.int x2), (.int x3), (.int x4)] maxLocals))
  rw [ef_0 m x0 x1 x2 x3 x4]
  refine Runs.go (fun _ => XS.iloadN X.here hx rfl (hb hby at_0) rfl) ?_
  show Runs p e below s _ _ _ (s₁.setTop (mkF m 1 #[.val (.int x0), .val (.int x1), .val (.int x2), .val (.int x3), .val (.int x4), .unset, .unset, .unset, .unset, .unset] [(.int x3)]))
  refine Runs.go (fun _ => XS.iconst X.here hx rfl (hb hby at_1)) ?_
  show Runs p e below s _ _ _ (s₁.setTop (mkF m 2 #[.val (.int x0), .val (.int x1), .val (.int x2), .val (.int x3), .val (.int x4), .unset, .unset, .unset, .unset, .unset] [(.int (3 : Int32)), (.int x3)]))
  refine Runs.go (fun _ => XS.iand X.here hx rfl (hb hby at_2) rfl) ?_
  show Runs p e below s _ _ _ (s₁.setTop (mkF m 3 #[.val (.int x0), .val (.int x1), .val (.int x2), .val (.int x3), .val (.int x4), .unset, .unset, .unset, .unset, .unset] [(.int (x3 &&& (3 : Int32)))]))
  rw [hp]
  show Runs p e below s _ _ _ (s₁.setTop (mkF m 3 #[.val (.int x0), .val (.int x1), .val (.int x2), .val (.int x3), .val (.int x4), .unset, .unset, .unset, .unset, .unset] [(.int (0 : Int32))]))
  refine Runs.go (fun _ => XS.istore X.here hx rfl (hb hby at_3) rfl (l' := #[.val (.int x0), .val (.int x1), .val (.int x2), .val (.int x3), .val (.int x4), .val (.int (0 : Int32)), .unset, .unset, .unset, .unset]) rfl) ?_
  show Runs p e below s _ _ _ (s₁.setTop (mkF m 5 #[.val (.int x0), .val (.int x1), .val (.int x2), .val (.int x3), .val (.int x4), .val (.int (0 : Int32)), .unset, .unset, .unset, .unset] []))
  refine Runs.go (fun _ => XS.iload X.here hx rfl (hb hby at_5) rfl) ?_
  show Runs p e below s _ _ _ (s₁.setTop (mkF m 7 #[.val (.int x0), .val (.int x1), .val (.int x2), .val (.int x3), .val (.int x4), .val (.int (0 : Int32)), .unset, .unset, .unset, .unset] [(.int (0 : Int32))]))
  refine Runs.go (fun _ => XS.ifNo X.here hx rfl (hb hby at_7) rfl ((if0 _ _).trans (teq (rfl : (0 : Int32) = (0 : Int32))).2)) ?_
  show Runs p e below s _ _ _ (s₁.setTop (mkF m 10 #[.val (.int x0), .val (.int x1), .val (.int x2), .val (.int x3), .val (.int x4), .val (.int (0 : Int32)), .unset, .unset, .unset, .unset] []))
  refine Runs.go (fun _ => XS.iconst X.here hx rfl (hb hby at_10)) ?_
  show Runs p e below s _ _ _ (s₁.setTop (mkF m 11 #[.val (.int x0), .val (.int x1), .val (.int x2), .val (.int x3), .val (.int x4), .val (.int (0 : Int32)), .unset, .unset, .unset, .unset] [(.int (0 : Int32))]))
  obtain ⟨Ta11_1, ha11_1, ka11_1, Xa11_1, ea11_1, Ea11_1, Aa11_1, Eaa11_1, sta11_1⟩ := newPE X hx hZ (hw _ (List.mem_of_getElem? (i := 0) rfl)) eT (g := (mkF m 11 #[.val (.int x0), .val (.int x1), .val (.int x2), .val (.int x3), .val (.int x4), .val (.int (0 : Int32)), .unset, .unset, .unset, .unset] [(.int (0 : Int32))])) rfl (hb hby at_11) rfl (by decide) (cap := 0) (by decide) (by decide) (by decide) (by decide) (ad := "[I") (by decide)
  obtain ⟨ba11_1, ga11_1⟩ : ∃ z, z = h0.size := ⟨_, rfl⟩
  have gb_ba11_1 : n0 ≤ ba11_1 := Nat.le_trans hn0 (Nat.le_of_eq ga11_1.symm)
  rw [← ga11_1] at Aa11_1 sta11_1 Eaa11_1
  refine Runs.go sta11_1 ?_
  have hna11_1 : n0 ≤ ha11_1.size := Nat.le_trans hn0 Ea11_1.1
  have Va11_1 : Arv Z ha11_1 ba11_1 ka11_1 .int (0 : Int32) [] (.int (0 : Int32)) := Arv.new Aa11_1 (by decide)
  show Runs p e below s _ _ _ (Ta11_1.setTop (mkF m 13 #[.val (.int x0), .val (.int x1), .val (.int x2), .val (.int x3), .val (.int x4), .val (.int (0 : Int32)), .unset, .unset, .unset, .unset] [(.ref ba11_1)]))
  refine Runs.go (fun _ => XS.astore Xa11_1.here hx rfl (hb hby at_13) rfl rfl (l' := #[.val (.int x0), .val (.int x1), .val (.int x2), .val (.int x3), .val (.int x4), .val (.int (0 : Int32)), .val (.ref ba11_1), .unset, .unset, .unset]) rfl) ?_
  show Runs p e below s _ _ _ (Ta11_1.setTop (mkF m 15 #[.val (.int x0), .val (.int x1), .val (.int x2), .val (.int x3), .val (.int x4), .val (.int (0 : Int32)), .val (.ref ba11_1), .unset, .unset, .unset] []))
  refine Runs.go (fun _ => XS.goto Xa11_1.here hx rfl (pc0 := 15) (pc' := 75) rfl (hb hby at_15) (by decide) (by decide)) ?_
  show Runs p e below s _ _ _ (Ta11_1.setTop (mkF m 75 #[.val (.int x0), .val (.int x1), .val (.int x2), .val (.int x3), .val (.int x4), .val (.int (0 : Int32)), .val (.ref ba11_1), .unset, .unset, .unset] []))
  obtain ⟨To75_2, ho75_2, Xo75_2, eo75_2, Eo75_2, Ao75_2, Do75_2, -, sto75_2⟩ := newO Xa11_1 hx hZ hown (hw _ (List.mem_of_getElem? (i := 1) rfl)) (hw _ (List.mem_of_getElem? (i := 2) rfl)) (hw _ (List.mem_of_getElem? (i := 3) rfl)) ea11_1 (g := (mkF m 75 #[.val (.int x0), .val (.int x1), .val (.int x2), .val (.int x3), .val (.int x4), .val (.int (0 : Int32)), .val (.ref ba11_1), .unset, .unset, .unset] [])) rfl (hb hby at_75) (by decide) (by decide)
  obtain ⟨bo75_2, go75_2⟩ : ∃ z, z = ha11_1.size := ⟨_, rfl⟩
  have ne_o75_2_ba11_1 : ba11_1 ≠ bo75_2 := Nat.ne_of_lt (Nat.lt_of_lt_of_le Eaa11_1.lt (Nat.le_of_eq go75_2.symm))
  have gb_bo75_2 : n0 ≤ bo75_2 := Nat.le_trans hna11_1 (Nat.le_of_eq go75_2.symm)
  rw [← go75_2] at Ao75_2 Do75_2 sto75_2
  refine Runs.go sto75_2 ?_
  have Eba11_1_o75_2 := Eaa11_1.ext Eo75_2
  have Vba11_1_o75_2 := Va11_1.ext Eo75_2
  have hno75_2 : n0 ≤ ho75_2.size := Nat.le_trans hna11_1 Eo75_2.1
  have Forder_bo75_2 : Fld Z ho75_2 bo75_2 "com/example/quillon/quillon/core/Prioritization" "order" "[I" .null := Do75_2 (Or.inr (hw _ (List.mem_of_getElem? (i := 11) rfl))) (ty := (.array .int)) (by decide)
  have Fiterations_bo75_2 : Fld Z ho75_2 bo75_2 "com/example/quillon/quillon/core/Prioritization" "iterations" "I" (.int (0 : Int32)) := Do75_2 (Or.inr (hw _ (List.mem_of_getElem? (i := 13) rfl))) (ty := .int) (by decide)
  show Runs p e below s _ _ _ (To75_2.setTop (mkF m 78 #[.val (.int x0), .val (.int x1), .val (.int x2), .val (.int x3), .val (.int x4), .val (.int (0 : Int32)), .val (.ref ba11_1), .unset, .unset, .unset] [(.ref bo75_2)]))
  refine Runs.go (fun _ => XS.dup Xo75_2.here hx rfl (hb hby at_78) rfl rfl) ?_
  show Runs p e below s _ _ _ (To75_2.setTop (mkF m 79 #[.val (.int x0), .val (.int x1), .val (.int x2), .val (.int x3), .val (.int x4), .val (.int (0 : Int32)), .val (.ref ba11_1), .unset, .unset, .unset] [(.ref bo75_2), (.ref bo75_2)]))
  refine Runs.go (fun _ => XS.aload Xo75_2.here hx rfl (hb hby at_79) rfl rfl) ?_
  show Runs p e below s _ _ _ (To75_2.setTop (mkF m 81 #[.val (.int x0), .val (.int x1), .val (.int x2), .val (.int x3), .val (.int x4), .val (.int (0 : Int32)), .val (.ref ba11_1), .unset, .unset, .unset] [(.ref ba11_1), (.ref bo75_2), (.ref bo75_2)]))
  refine Runs.go (fun _ => XS.iload Xo75_2.here hx rfl (hb hby at_81) rfl) ?_
  show Runs p e below s _ _ _ (To75_2.setTop (mkF m 83 #[.val (.int x0), .val (.int x1), .val (.int x2), .val (.int x3), .val (.int x4), .val (.int (0 : Int32)), .val (.ref ba11_1), .unset, .unset, .unset] [(.int x4), (.ref ba11_1), (.ref bo75_2), (.ref bo75_2)]))
  obtain ⟨_, _, ⟨Tc83_3, Lc83_3, kc83_3, nc83_3⟩, -, Xc83_3, ⟨Lcc83_3, hQc83_3, lc83_3, yc83_3, zc83_3⟩, stc83_3⟩ := Xo75_2.specialBack hx (y := (⟨"com/example/quillon/quillon/core/Prioritization", "<init>", "([II)V"⟩ : MethodName)) rfl hown (mvT hZ (hw _ (List.mem_of_getElem? (i := 4) rfl))) (mvT hZ (hw _ (List.mem_of_getElem? (i := 5) rfl))) (mvT hZ (hw _ (List.mem_of_getElem? (i := 6) rfl))) (by decide) (backOf (W := 1) (rm1 l Z a0 hw [] bo75_2 ba11_1 x4 ho75_2 n0 hno75_2 Ao75_2 gb_bo75_2 Forder_bo75_2 Fiterations_bo75_2) hZ (hw _ (List.mem_of_getElem? (i := 6) rfl)) (hw _ (List.mem_of_getElem? (i := 3) rfl)) (by decide) (by decide)) (g := (mkF m 83 #[.val (.int x0), .val (.int x1), .val (.int x2), .val (.int x3), .val (.int x4), .val (.int (0 : Int32)), .val (.ref ba11_1), .unset, .unset, .unset] [(.int x4), (.ref ba11_1), (.ref bo75_2), (.ref bo75_2)])) rfl (by rw [hml]; rfl) (Steps.refl _) (a := bo75_2) (argsL := [(.ref ba11_1), (.int x4)]) (rest := [(.ref bo75_2)]) (lenOf pd_0 rfl) rfl (by show 2 * 0 + _ ≤ _; exact Nat.le_of_eq rfl) (hb hby at_83) (fun _ _ => ⟨rfl, eo75_2, (by decide : 2 + 0 ≤ _), (by decide : 2 + 0 ≤ _)⟩)
  dsimp only [Pt.U, Pt.locs, Pt.cells, Pt.slots] at Xc83_3 lc83_3 yc83_3 zc83_3 stc83_3 hQc83_3
  subst lc83_3 yc83_3 zc83_3
  obtain ⟨rfl, Nc83_3q, Kc83_3, Eic83_3, Foc83_3, Fic83_3⟩ := hQc83_3
  refine Runs.go (fun _ => stc83_3.trans) ?_
  have Nc83_3 := Fr.app N Nc83_3q
  have Vba11_1_c83_3 := Vba11_1_o75_2.keep Kc83_3 (ninS ne_o75_2_ba11_1 nin0)
  have Eba11_1_c83_3 := Eba11_1_o75_2.keep Kc83_3
  have hzc83_3 : n0 ≤ Tc83_3.heap.size := Nat.le_trans hno75_2 Kc83_3.1
  show Runs p e below s _ _ _ (Tc83_3.setTop (mkF m 86 #[.val (.int x0), .val (.int x1), .val (.int x2), .val (.int x3), .val (.int x4), .val (.int (0 : Int32)), .val (.ref ba11_1), .unset, .unset, .unset] [(.ref bo75_2)]))
  refine Runs.go (fun _ => XS.astore Xc83_3.here hx rfl (hb hby at_86) rfl rfl (l' := #[.val (.int x0), .val (.int x1), .val (.int x2), .val (.int x3), .val (.int x4), .val (.int (0 : Int32)), .val (.ref ba11_1), .val (.ref bo75_2), .unset, .unset]) rfl) ?_
  show Runs p e below s _ _ _ (Tc83_3.setTop (mkF m 88 #[.val (.int x0), .val (.int x1), .val (.int x2), .val (.int x3), .val (.int x4), .val (.int (0 : Int32)), .val (.ref ba11_1), .val (.ref bo75_2), .unset, .unset] []))
  refine Runs.go (fun _ => XS.aload Xc83_3.here hx rfl (hb hby at_88) rfl rfl) ?_
  show Runs p e below s _ _ _ (Tc83_3.setTop (mkF m 90 #[.val (.int x0), .val (.int x1), .val (.int x2), .val (.int x3), .val (.int x4), .val (.int (0 : Int32)), .val (.ref ba11_1), .val (.ref bo75_2), .unset, .unset] [(.ref bo75_2)]))
  obtain ⟨cqc90_4, kqc90_4, qc90_4a, qc90_4b, qc90_4c⟩ := isOf hZ rfl Eic83_3
  obtain ⟨_, _, ⟨Tc90_4, Lc90_4, kc90_4, nc90_4⟩, -, Xc90_4, ⟨Lcc90_4, hQc90_4, lc90_4, yc90_4, zc90_4⟩, stc90_4⟩ := Xc83_3.virtualBack hx (y := (⟨"com/example/quillon/quillon/core/Prioritization", "order", "()[I"⟩ : MethodName)) (z := (⟨"com/example/quillon/quillon/core/Prioritization", "order", "()[I"⟩ : MethodName)) hown (mvT hZ (hw _ (List.mem_of_getElem? (i := 14) rfl))) (mvT hZ (hw _ (List.mem_of_getElem? (i := 15) rfl))) (notFace_of_selects (args := #[]) (mvT hZ (hw _ (List.mem_of_getElem? (i := 17) rfl)))) (mvT hZ (hw _ (List.mem_of_getElem? (i := 17) rfl))) (mvT hZ (hw _ (List.mem_of_getElem? (i := 16) rfl))) (by decide) (backOf (W := 0) (rm3 l Z a0 hw [] bo75_2 ba11_1 ka11_1 (0 : Int32) [] Tc83_3.heap n0 hzc83_3 Eic83_3 Foc83_3 Vba11_1_c83_3 Eba11_1_c83_3 (by decide)) hZ (hw _ (List.mem_of_getElem? (i := 18) rfl)) (hw _ (List.mem_of_getElem? (i := 3) rfl)) (by decide) (by decide)) qc90_4a qc90_4c (g := (mkF m 90 #[.val (.int x0), .val (.int x1), .val (.int x2), .val (.int x3), .val (.int x4), .val (.int (0 : Int32)), .val (.ref ba11_1), .val (.ref bo75_2), .unset, .unset] [(.ref bo75_2)])) rfl (by rw [hml]; rfl) (Steps.refl _) (argsL := []) (rest := []) (lenOf pd_2 rfl) rfl (by show 2 * 0 + _ ≤ _; exact Nat.le_of_eq rfl) (hb hby at_90) (fun _ _ => ⟨rfl, rfl, (by decide : 2 + 1 ≤ _), (by decide : 2 + 3 ≤ _)⟩)
  dsimp only [Pt.U, Pt.locs, Pt.cells, Pt.slots] at Xc90_4 lc90_4 yc90_4 zc90_4 stc90_4 hQc90_4
  subst lc90_4 yc90_4 zc90_4
  obtain ⟨bc90_4, rfl, Nc90_4q, gc90_4, Ec90_4, Vc90_4, Eac90_4⟩ := hQc90_4
  refine Runs.go (fun _ => stc90_4.trans) ?_
  have Nc90_4 := Fr.app Nc83_3 Nc90_4q
  have ne_c90_4_ba11_1 : ba11_1 ≠ bc90_4 := Nat.ne_of_lt (Nat.lt_of_lt_of_le Eba11_1_c83_3.lt (Nat.le_of_eq gc90_4.symm))
  have ne_c90_4_bo75_2 : bo75_2 ≠ bc90_4 := Nat.ne_of_lt (Nat.lt_of_lt_of_le Eic83_3.lt (Nat.le_of_eq gc90_4.symm))
  have gb_bc90_4 : n0 ≤ bc90_4 := Nat.le_trans hzc83_3 (Nat.le_of_eq gc90_4.symm)
  have Eba11_1_c90_4 := Eba11_1_c83_3.ext Ec90_4
  have Vba11_1_c90_4 := Vba11_1_c83_3.ext Ec90_4
  have Eo_c90_4 := Eic83_3.ext Ec90_4
  have Fo_c90_4 := Foc83_3.ext Ec90_4
  have Fi_c90_4 := Fic83_3.ext Ec90_4
  have hzc90_4 : n0 ≤ Tc90_4.heap.size := Nat.le_trans hzc83_3 Ec90_4.1
  show Runs p e below s _ _ _ (Tc90_4.setTop (mkF m 93 #[.val (.int x0), .val (.int x1), .val (.int x2), .val (.int x3), .val (.int x4), .val (.int (0 : Int32)), .val (.ref ba11_1), .val (.ref bo75_2), .unset, .unset] [(.ref bc90_4)]))
  refine Runs.go (fun _ => XS.astore Xc90_4.here hx rfl (hb hby at_93) rfl rfl (l' := #[.val (.int x0), .val (.int x1), .val (.int x2), .val (.int x3), .val (.int x4), .val (.int (0 : Int32)), .val (.ref ba11_1), .val (.ref bo75_2), .val (.ref bc90_4), .unset]) rfl) ?_
  show Runs p e below s _ _ _ (Tc90_4.setTop (mkF m 95 #[.val (.int x0), .val (.int x1), .val (.int x2), .val (.int x3), .val (.int x4), .val (.int (0 : Int32)), .val (.ref ba11_1), .val (.ref bo75_2), .val (.ref bc90_4), .unset] []))
  refine Runs.go (fun _ => XS.aload Xc90_4.here hx rfl (hb hby at_95) rfl rfl) ?_
  show Runs p e below s _ _ _ (Tc90_4.setTop (mkF m 97 #[.val (.int x0), .val (.int x1), .val (.int x2), .val (.int x3), .val (.int x4), .val (.int (0 : Int32)), .val (.ref ba11_1), .val (.ref bo75_2), .val (.ref bc90_4), .unset] [(.ref bc90_4)]))
  refine Runs.go (fun _ => XS.ifnullNo Xc90_4.here hx rfl (hb hby at_97) rfl) ?_
  show Runs p e below s _ _ _ (Tc90_4.setTop (mkF m 100 #[.val (.int x0), .val (.int x1), .val (.int x2), .val (.int x3), .val (.int x4), .val (.int (0 : Int32)), .val (.ref ba11_1), .val (.ref bo75_2), .val (.ref bc90_4), .unset] []))
  refine Runs.go (fun _ => XS.aload Xc90_4.here hx rfl (hb hby at_100) rfl rfl) ?_
  show Runs p e below s _ _ _ (Tc90_4.setTop (mkF m 102 #[.val (.int x0), .val (.int x1), .val (.int x2), .val (.int x3), .val (.int x4), .val (.int (0 : Int32)), .val (.ref ba11_1), .val (.ref bo75_2), .val (.ref bc90_4), .unset] [(.ref bc90_4)]))
  refine Runs.go (fun _ => XS.aload Xc90_4.here hx rfl (hb hby at_102) rfl rfl) ?_
  show Runs p e below s _ _ _ (Tc90_4.setTop (mkF m 104 #[.val (.int x0), .val (.int x1), .val (.int x2), .val (.int x3), .val (.int x4), .val (.int (0 : Int32)), .val (.ref ba11_1), .val (.ref bo75_2), .val (.ref bc90_4), .unset] [(.ref ba11_1), (.ref bc90_4)]))
  refine Runs.go (fun _ => Jvm.RoadKit.acmp (g := (mkF m 104 #[.val (.int x0), .val (.int x1), .val (.int x2), .val (.int x3), .val (.int x4), .val (.int (0 : Int32)), .val (.ref ba11_1), .val (.ref bo75_2), .val (.ref bc90_4), .unset] [(.ref ba11_1), (.ref bc90_4)])) Xc90_4 hx rfl rfl rfl (pc0 := 104) (pc' := 109) (same := false) rfl (hb hby at_104) rfl (decide_eq_false fun q => (Ne.symm ne_c90_4_ba11_1) (Value.ref.inj q)) (by decide) (by decide)) ?_
  show Runs p e below s _ _ _ (Tc90_4.setTop (mkF m 109 #[.val (.int x0), .val (.int x1), .val (.int x2), .val (.int x3), .val (.int x4), .val (.int (0 : Int32)), .val (.ref ba11_1), .val (.ref bo75_2), .val (.ref bc90_4), .unset] []))
  refine Runs.go (fun _ => XS.aload Xc90_4.here hx rfl (hb hby at_109) rfl rfl) ?_
  show Runs p e below s _ _ _ (Tc90_4.setTop (mkF m 111 #[.val (.int x0), .val (.int x1), .val (.int x2), .val (.int x3), .val (.int x4), .val (.int (0 : Int32)), .val (.ref ba11_1), .val (.ref bo75_2), .val (.ref bc90_4), .unset] [(.ref bc90_4)]))
  refine Runs.go (fun _ => XS.iload Xc90_4.here hx rfl (hb hby at_111) rfl) ?_
  show Runs p e below s _ _ _ (Tc90_4.setTop (mkF m 113 #[.val (.int x0), .val (.int x1), .val (.int x2), .val (.int x3), .val (.int x4), .val (.int (0 : Int32)), .val (.ref ba11_1), .val (.ref bo75_2), .val (.ref bc90_4), .unset] [(.int (0 : Int32)), (.ref bc90_4)]))
  refine Runs.go (fun _ => XS.iloadN Xc90_4.here hx rfl (hb hby at_113) rfl) ?_
  show Runs p e below s _ _ _ (Tc90_4.setTop (mkF m 114 #[.val (.int x0), .val (.int x1), .val (.int x2), .val (.int x3), .val (.int x4), .val (.int (0 : Int32)), .val (.ref ba11_1), .val (.ref bo75_2), .val (.ref bc90_4), .unset] [(.int x0), (.int (0 : Int32)), (.ref bc90_4)]))
  refine Runs.go (fun _ => XS.iloadN Xc90_4.here hx rfl (hb hby at_114) rfl) ?_
  show Runs p e below s _ _ _ (Tc90_4.setTop (mkF m 115 #[.val (.int x0), .val (.int x1), .val (.int x2), .val (.int x3), .val (.int x4), .val (.int (0 : Int32)), .val (.ref ba11_1), .val (.ref bo75_2), .val (.ref bc90_4), .unset] [(.int x1), (.int x0), (.int (0 : Int32)), (.ref bc90_4)]))
  refine Runs.go (fun _ => XS.iloadN Xc90_4.here hx rfl (hb hby at_115) rfl) ?_
  show Runs p e below s _ _ _ (Tc90_4.setTop (mkF m 116 #[.val (.int x0), .val (.int x1), .val (.int x2), .val (.int x3), .val (.int x4), .val (.int (0 : Int32)), .val (.ref ba11_1), .val (.ref bo75_2), .val (.ref bc90_4), .unset] [(.int x2), (.int x1), (.int x0), (.int (0 : Int32)), (.ref bc90_4)]))
  obtain ⟨_, _, ⟨Tc116_5, Lc116_5, kc116_5, nc116_5⟩, -, Xc116_5, ⟨Lcc116_5, hQc116_5, lc116_5, yc116_5, zc116_5⟩, stc116_5⟩ := Jvm.LawKit.callS Xc90_4 hx (y := (⟨"com/example/quillon/quillon/core/PrioritizationOrderPinLaw", "same", "([IIIII)Z"⟩ : MethodName)) hown (mvT hZ (hw _ (List.mem_of_getElem? (i := 32) rfl))) (mvT hZ (hw _ (List.mem_of_getElem? (i := 33) rfl))) (mvT hZ (hw _ (List.mem_of_getElem? (i := 34) rfl))) (mvT hZ (hw _ (List.mem_of_getElem? (i := 35) rfl))) (by decide) (backOf (W := 0) (rm5a l Z a0 hw [] bc90_4 x0 x1 x2 ka11_1 Tc90_4.heap n0 hzc90_4 Vc90_4) hZ (hw _ (List.mem_of_getElem? (i := 35) rfl)) (hw _ (List.mem_of_getElem? (i := 34) rfl)) (by decide) (by decide)) (g := (mkF m 116 #[.val (.int x0), .val (.int x1), .val (.int x2), .val (.int x3), .val (.int x4), .val (.int (0 : Int32)), .val (.ref ba11_1), .val (.ref bo75_2), .val (.ref bc90_4), .unset] [(.int x2), (.int x1), (.int x0), (.int (0 : Int32)), (.ref bc90_4)])) rfl (by rw [hml]; rfl) (argsL := [(.ref bc90_4), (.int (0 : Int32)), (.int x0), (.int x1), (.int x2)]) (rest := []) (lenOf pd_5 rfl) rfl (by show 2 * 0 + _ ≤ _; exact Nat.le_of_eq rfl) (hb hby at_116) (fun _ _ => ⟨rfl, rfl, (by decide : 3 + 0 ≤ _), (by decide : 5 + 0 ≤ _)⟩)
  dsimp only [Pt.U, Pt.locs, Pt.cells, Pt.slots] at Xc116_5 lc116_5 yc116_5 zc116_5 stc116_5 hQc116_5
  subst lc116_5 yc116_5 zc116_5
  obtain ⟨rfl, rfl, ec116_5⟩ := hQc116_5
  refine Runs.go stc116_5 ?_
  have Nc116_5 := Fr.app Nc90_4 (Fr.nil n0)
  show Runs p e below s _ _ _ (Tc116_5.setTop (mkF m 119 #[.val (.int x0), .val (.int x1), .val (.int x2), .val (.int x3), .val (.int x4), .val (.int (0 : Int32)), .val (.ref ba11_1), .val (.ref bo75_2), .val (.ref bc90_4), .unset] [(.int (1 : Int32))]))
  refine Runs.go (fun _ => XS.ifYes Xc116_5.here hx rfl (pc0 := 119) (pc' := 124) rfl (hb hby at_119) rfl ((if0 _ _).trans (feq ((by decide) : ¬ ((1 : Int32) = (0 : Int32)))).2) (by decide) (by decide)) ?_
  show Runs p e below s _ _ _ (Tc116_5.setTop (mkF m 124 #[.val (.int x0), .val (.int x1), .val (.int x2), .val (.int x3), .val (.int x4), .val (.int (0 : Int32)), .val (.ref ba11_1), .val (.ref bo75_2), .val (.ref bc90_4), .unset] []))
  refine Runs.go (fun _ => XS.iload Xc116_5.here hx rfl (hb hby at_124) rfl) ?_
  show Runs p e below s _ _ _ (Tc116_5.setTop (mkF m 126 #[.val (.int x0), .val (.int x1), .val (.int x2), .val (.int x3), .val (.int x4), .val (.int (0 : Int32)), .val (.ref ba11_1), .val (.ref bo75_2), .val (.ref bc90_4), .unset] [(.int (0 : Int32))]))
  refine Runs.go (fun _ => XS.ifYes Xc116_5.here hx rfl (pc0 := 126) (pc' := 155) rfl (hb hby at_126) rfl ((if0 _ _).trans (flt ((by decide) : ¬ ((0 : Int32) < (0 : Int32)))).2.2.2) (by decide) (by decide)) ?_
  show Runs p e below s _ _ _ (Tc116_5.setTop (mkF m 155 #[.val (.int x0), .val (.int x1), .val (.int x2), .val (.int x3), .val (.int x4), .val (.int (0 : Int32)), .val (.ref ba11_1), .val (.ref bo75_2), .val (.ref bc90_4), .unset] []))
  refine Runs.go (fun _ => XS.aload Xc116_5.here hx rfl (hb hby at_155) rfl rfl) ?_
  show Runs p e below s _ _ _ (Tc116_5.setTop (mkF m 157 #[.val (.int x0), .val (.int x1), .val (.int x2), .val (.int x3), .val (.int x4), .val (.int (0 : Int32)), .val (.ref ba11_1), .val (.ref bo75_2), .val (.ref bc90_4), .unset] [(.ref bo75_2)]))
  obtain ⟨cqc157_6, kqc157_6, qc157_6a, qc157_6b, qc157_6c⟩ := isOf hZ ec116_5 Eo_c90_4
  obtain ⟨_, _, ⟨Tc157_6, Lc157_6, kc157_6, nc157_6⟩, -, Xc157_6, ⟨Lcc157_6, hQc157_6, lc157_6, yc157_6, zc157_6⟩, stc157_6⟩ := Xc116_5.virtualBack hx (y := (⟨"com/example/quillon/quillon/core/Prioritization", "order", "()[I"⟩ : MethodName)) (z := (⟨"com/example/quillon/quillon/core/Prioritization", "order", "()[I"⟩ : MethodName)) hown (mvT hZ (hw _ (List.mem_of_getElem? (i := 14) rfl))) (mvT hZ (hw _ (List.mem_of_getElem? (i := 15) rfl))) (notFace_of_selects (args := #[]) (mvT hZ (hw _ (List.mem_of_getElem? (i := 17) rfl)))) (mvT hZ (hw _ (List.mem_of_getElem? (i := 17) rfl))) (mvT hZ (hw _ (List.mem_of_getElem? (i := 16) rfl))) (by decide) (backOf (W := 0) (rm3 l Z a0 hw [] bo75_2 ba11_1 ka11_1 (0 : Int32) [] Tc90_4.heap n0 hzc90_4 Eo_c90_4 Fo_c90_4 Vba11_1_c90_4 Eba11_1_c90_4 (by decide)) hZ (hw _ (List.mem_of_getElem? (i := 18) rfl)) (hw _ (List.mem_of_getElem? (i := 3) rfl)) (by decide) (by decide)) qc157_6a qc157_6c (g := (mkF m 157 #[.val (.int x0), .val (.int x1), .val (.int x2), .val (.int x3), .val (.int x4), .val (.int (0 : Int32)), .val (.ref ba11_1), .val (.ref bo75_2), .val (.ref bc90_4), .unset] [(.ref bo75_2)])) rfl (by rw [hml]; rfl) (Steps.refl _) (argsL := []) (rest := []) (lenOf pd_2 rfl) rfl (by show 2 * 0 + _ ≤ _; exact Nat.le_of_eq rfl) (hb hby at_157) (fun _ _ => ⟨rfl, ec116_5, (by decide : 3 + 1 ≤ _), (by decide : 5 + 3 ≤ _)⟩)
  dsimp only [Pt.U, Pt.locs, Pt.cells, Pt.slots] at Xc157_6 lc157_6 yc157_6 zc157_6 stc157_6 hQc157_6
  subst lc157_6 yc157_6 zc157_6
  obtain ⟨bc157_6, rfl, Nc157_6q, gc157_6, Ec157_6, Vc157_6, Eac157_6⟩ := hQc157_6
  refine Runs.go (fun _ => stc157_6.trans) ?_
  have Nc157_6 := Fr.app Nc116_5 Nc157_6q
  have ne_c157_6_ba11_1 : ba11_1 ≠ bc157_6 := Nat.ne_of_lt (Nat.lt_of_lt_of_le Eba11_1_c90_4.lt (Nat.le_of_eq gc157_6.symm))
  have ne_c157_6_bo75_2 : bo75_2 ≠ bc157_6 := Nat.ne_of_lt (Nat.lt_of_lt_of_le Eo_c90_4.lt (Nat.le_of_eq gc157_6.symm))
  have ne_c157_6_bc90_4 : bc90_4 ≠ bc157_6 := Nat.ne_of_lt (Nat.lt_of_lt_of_le Vc90_4.lt (Nat.le_of_eq gc157_6.symm))
  have gb_bc157_6 : n0 ≤ bc157_6 := Nat.le_trans hzc90_4 (Nat.le_of_eq gc157_6.symm)
  have Eba11_1_c157_6 := Eba11_1_c90_4.ext Ec157_6
  have Vba11_1_c157_6 := Vba11_1_c90_4.ext Ec157_6
  have Eo_c157_6 := Eo_c90_4.ext Ec157_6
  have Fo_c157_6 := Fo_c90_4.ext Ec157_6
  have Fi_c157_6 := Fi_c90_4.ext Ec157_6
  have Vbc90_4_c157_6 := Vc90_4.ext Ec157_6
  have Ebc90_4_c157_6 := Eac90_4.ext Ec157_6
  have hzc157_6 : n0 ≤ Tc157_6.heap.size := Nat.le_trans hzc90_4 Ec157_6.1
  show Runs p e below s _ _ _ (Tc157_6.setTop (mkF m 160 #[.val (.int x0), .val (.int x1), .val (.int x2), .val (.int x3), .val (.int x4), .val (.int (0 : Int32)), .val (.ref ba11_1), .val (.ref bo75_2), .val (.ref bc90_4), .unset] [(.ref bc157_6)]))
  refine Runs.go (fun _ => XS.astore Xc157_6.here hx rfl (hb hby at_160) rfl rfl (l' := #[.val (.int x0), .val (.int x1), .val (.int x2), .val (.int x3), .val (.int x4), .val (.int (0 : Int32)), .val (.ref ba11_1), .val (.ref bo75_2), .val (.ref bc90_4), .val (.ref bc157_6)]) rfl) ?_
  show Runs p e below s _ _ _ (Tc157_6.setTop (mkF m 162 #[.val (.int x0), .val (.int x1), .val (.int x2), .val (.int x3), .val (.int x4), .val (.int (0 : Int32)), .val (.ref ba11_1), .val (.ref bo75_2), .val (.ref bc90_4), .val (.ref bc157_6)] []))
  refine Runs.go (fun _ => XS.aload Xc157_6.here hx rfl (hb hby at_162) rfl rfl) ?_
  show Runs p e below s _ _ _ (Tc157_6.setTop (mkF m 164 #[.val (.int x0), .val (.int x1), .val (.int x2), .val (.int x3), .val (.int x4), .val (.int (0 : Int32)), .val (.ref ba11_1), .val (.ref bo75_2), .val (.ref bc90_4), .val (.ref bc157_6)] [(.ref bc157_6)]))
  refine Runs.go (fun _ => XS.ifnullNo Xc157_6.here hx rfl (hb hby at_164) rfl) ?_
  show Runs p e below s _ _ _ (Tc157_6.setTop (mkF m 167 #[.val (.int x0), .val (.int x1), .val (.int x2), .val (.int x3), .val (.int x4), .val (.int (0 : Int32)), .val (.ref ba11_1), .val (.ref bo75_2), .val (.ref bc90_4), .val (.ref bc157_6)] []))
  refine Runs.go (fun _ => XS.aload Xc157_6.here hx rfl (hb hby at_167) rfl rfl) ?_
  show Runs p e below s _ _ _ (Tc157_6.setTop (mkF m 169 #[.val (.int x0), .val (.int x1), .val (.int x2), .val (.int x3), .val (.int x4), .val (.int (0 : Int32)), .val (.ref ba11_1), .val (.ref bo75_2), .val (.ref bc90_4), .val (.ref bc157_6)] [(.ref bc157_6)]))
  refine Runs.go (fun _ => XS.aload Xc157_6.here hx rfl (hb hby at_169) rfl rfl) ?_
  show Runs p e below s _ _ _ (Tc157_6.setTop (mkF m 171 #[.val (.int x0), .val (.int x1), .val (.int x2), .val (.int x3), .val (.int x4), .val (.int (0 : Int32)), .val (.ref ba11_1), .val (.ref bo75_2), .val (.ref bc90_4), .val (.ref bc157_6)] [(.ref ba11_1), (.ref bc157_6)]))
  refine Runs.go (fun _ => Jvm.RoadKit.acmp (g := (mkF m 171 #[.val (.int x0), .val (.int x1), .val (.int x2), .val (.int x3), .val (.int x4), .val (.int (0 : Int32)), .val (.ref ba11_1), .val (.ref bo75_2), .val (.ref bc90_4), .val (.ref bc157_6)] [(.ref ba11_1), (.ref bc157_6)])) Xc157_6 hx rfl rfl rfl (pc0 := 171) (pc' := 174) (same := false) rfl (hb hby at_171) rfl (decide_eq_false fun q => (Ne.symm ne_c157_6_ba11_1) (Value.ref.inj q)) (by decide) (by decide)) ?_
  show Runs p e below s _ _ _ (Tc157_6.setTop (mkF m 174 #[.val (.int x0), .val (.int x1), .val (.int x2), .val (.int x3), .val (.int x4), .val (.int (0 : Int32)), .val (.ref ba11_1), .val (.ref bo75_2), .val (.ref bc90_4), .val (.ref bc157_6)] []))
  refine Runs.go (fun _ => XS.aload Xc157_6.here hx rfl (hb hby at_174) rfl rfl) ?_
  show Runs p e below s _ _ _ (Tc157_6.setTop (mkF m 176 #[.val (.int x0), .val (.int x1), .val (.int x2), .val (.int x3), .val (.int x4), .val (.int (0 : Int32)), .val (.ref ba11_1), .val (.ref bo75_2), .val (.ref bc90_4), .val (.ref bc157_6)] [(.ref bc157_6)]))
  refine Runs.go (fun _ => XS.aload Xc157_6.here hx rfl (hb hby at_176) rfl rfl) ?_
  show Runs p e below s _ _ _ (Tc157_6.setTop (mkF m 178 #[.val (.int x0), .val (.int x1), .val (.int x2), .val (.int x3), .val (.int x4), .val (.int (0 : Int32)), .val (.ref ba11_1), .val (.ref bo75_2), .val (.ref bc90_4), .val (.ref bc157_6)] [(.ref bc90_4), (.ref bc157_6)]))
  refine Runs.go (fun _ => Jvm.RoadKit.acmp (g := (mkF m 178 #[.val (.int x0), .val (.int x1), .val (.int x2), .val (.int x3), .val (.int x4), .val (.int (0 : Int32)), .val (.ref ba11_1), .val (.ref bo75_2), .val (.ref bc90_4), .val (.ref bc157_6)] [(.ref bc90_4), (.ref bc157_6)])) Xc157_6 hx rfl rfl rfl (pc0 := 178) (pc' := 183) (same := false) rfl (hb hby at_178) rfl (decide_eq_false fun q => (Ne.symm ne_c157_6_bc90_4) (Value.ref.inj q)) (by decide) (by decide)) ?_
  show Runs p e below s _ _ _ (Tc157_6.setTop (mkF m 183 #[.val (.int x0), .val (.int x1), .val (.int x2), .val (.int x3), .val (.int x4), .val (.int (0 : Int32)), .val (.ref ba11_1), .val (.ref bo75_2), .val (.ref bc90_4), .val (.ref bc157_6)] []))
  refine Runs.go (fun _ => XS.aload Xc157_6.here hx rfl (hb hby at_183) rfl rfl) ?_
  show Runs p e below s _ _ _ (Tc157_6.setTop (mkF m 185 #[.val (.int x0), .val (.int x1), .val (.int x2), .val (.int x3), .val (.int x4), .val (.int (0 : Int32)), .val (.ref ba11_1), .val (.ref bo75_2), .val (.ref bc90_4), .val (.ref bc157_6)] [(.ref bc157_6)]))
  refine Runs.go (fun _ => XS.iload Xc157_6.here hx rfl (hb hby at_185) rfl) ?_
  show Runs p e below s _ _ _ (Tc157_6.setTop (mkF m 187 #[.val (.int x0), .val (.int x1), .val (.int x2), .val (.int x3), .val (.int x4), .val (.int (0 : Int32)), .val (.ref ba11_1), .val (.ref bo75_2), .val (.ref bc90_4), .val (.ref bc157_6)] [(.int (0 : Int32)), (.ref bc157_6)]))
  refine Runs.go (fun _ => XS.iloadN Xc157_6.here hx rfl (hb hby at_187) rfl) ?_
  show Runs p e below s _ _ _ (Tc157_6.setTop (mkF m 188 #[.val (.int x0), .val (.int x1), .val (.int x2), .val (.int x3), .val (.int x4), .val (.int (0 : Int32)), .val (.ref ba11_1), .val (.ref bo75_2), .val (.ref bc90_4), .val (.ref bc157_6)] [(.int x0), (.int (0 : Int32)), (.ref bc157_6)]))
  refine Runs.go (fun _ => XS.iloadN Xc157_6.here hx rfl (hb hby at_188) rfl) ?_
  show Runs p e below s _ _ _ (Tc157_6.setTop (mkF m 189 #[.val (.int x0), .val (.int x1), .val (.int x2), .val (.int x3), .val (.int x4), .val (.int (0 : Int32)), .val (.ref ba11_1), .val (.ref bo75_2), .val (.ref bc90_4), .val (.ref bc157_6)] [(.int x1), (.int x0), (.int (0 : Int32)), (.ref bc157_6)]))
  refine Runs.go (fun _ => XS.iloadN Xc157_6.here hx rfl (hb hby at_189) rfl) ?_
  show Runs p e below s _ _ _ (Tc157_6.setTop (mkF m 190 #[.val (.int x0), .val (.int x1), .val (.int x2), .val (.int x3), .val (.int x4), .val (.int (0 : Int32)), .val (.ref ba11_1), .val (.ref bo75_2), .val (.ref bc90_4), .val (.ref bc157_6)] [(.int x2), (.int x1), (.int x0), (.int (0 : Int32)), (.ref bc157_6)]))
  obtain ⟨_, _, ⟨Tc190_7, Lc190_7, kc190_7, nc190_7⟩, -, Xc190_7, ⟨Lcc190_7, hQc190_7, lc190_7, yc190_7, zc190_7⟩, stc190_7⟩ := Jvm.LawKit.callS Xc157_6 hx (y := (⟨"com/example/quillon/quillon/core/PrioritizationOrderPinLaw", "same", "([IIIII)Z"⟩ : MethodName)) hown (mvT hZ (hw _ (List.mem_of_getElem? (i := 32) rfl))) (mvT hZ (hw _ (List.mem_of_getElem? (i := 33) rfl))) (mvT hZ (hw _ (List.mem_of_getElem? (i := 34) rfl))) (mvT hZ (hw _ (List.mem_of_getElem? (i := 35) rfl))) (by decide) (backOf (W := 0) (rm5a l Z a0 hw [] bc157_6 x0 x1 x2 ka11_1 Tc157_6.heap n0 hzc157_6 Vc157_6) hZ (hw _ (List.mem_of_getElem? (i := 35) rfl)) (hw _ (List.mem_of_getElem? (i := 34) rfl)) (by decide) (by decide)) (g := (mkF m 190 #[.val (.int x0), .val (.int x1), .val (.int x2), .val (.int x3), .val (.int x4), .val (.int (0 : Int32)), .val (.ref ba11_1), .val (.ref bo75_2), .val (.ref bc90_4), .val (.ref bc157_6)] [(.int x2), (.int x1), (.int x0), (.int (0 : Int32)), (.ref bc157_6)])) rfl (by rw [hml]; rfl) (argsL := [(.ref bc157_6), (.int (0 : Int32)), (.int x0), (.int x1), (.int x2)]) (rest := []) (lenOf pd_5 rfl) rfl (by show 2 * 0 + _ ≤ _; exact Nat.le_of_eq rfl) (hb hby at_190) (fun _ _ => ⟨rfl, rfl, (by decide : 4 + 0 ≤ _), (by decide : 8 + 0 ≤ _)⟩)
  dsimp only [Pt.U, Pt.locs, Pt.cells, Pt.slots] at Xc190_7 lc190_7 yc190_7 zc190_7 stc190_7 hQc190_7
  subst lc190_7 yc190_7 zc190_7
  obtain ⟨rfl, rfl, ec190_7⟩ := hQc190_7
  refine Runs.go stc190_7 ?_
  have Nc190_7 := Fr.app Nc157_6 (Fr.nil n0)
  show Runs p e below s _ _ _ (Tc190_7.setTop (mkF m 193 #[.val (.int x0), .val (.int x1), .val (.int x2), .val (.int x3), .val (.int x4), .val (.int (0 : Int32)), .val (.ref ba11_1), .val (.ref bo75_2), .val (.ref bc90_4), .val (.ref bc157_6)] [(.int (1 : Int32))]))
  refine Runs.go (fun _ => XS.ifNo Xc190_7.here hx rfl (hb hby at_193) rfl ((if0 _ _).trans (feq ((by decide) : ¬ ((1 : Int32) = (0 : Int32)))).1)) ?_
  show Runs p e below s _ _ _ (Tc190_7.setTop (mkF m 196 #[.val (.int x0), .val (.int x1), .val (.int x2), .val (.int x3), .val (.int x4), .val (.int (0 : Int32)), .val (.ref ba11_1), .val (.ref bo75_2), .val (.ref bc90_4), .val (.ref bc157_6)] []))
  refine Runs.go (fun _ => XS.aload Xc190_7.here hx rfl (hb hby at_196) rfl rfl) ?_
  show Runs p e below s _ _ _ (Tc190_7.setTop (mkF m 198 #[.val (.int x0), .val (.int x1), .val (.int x2), .val (.int x3), .val (.int x4), .val (.int (0 : Int32)), .val (.ref ba11_1), .val (.ref bo75_2), .val (.ref bc90_4), .val (.ref bc157_6)] [(.ref ba11_1)]))
  refine Runs.go (fun _ => XS.iload Xc190_7.here hx rfl (hb hby at_198) rfl) ?_
  show Runs p e below s _ _ _ (Tc190_7.setTop (mkF m 200 #[.val (.int x0), .val (.int x1), .val (.int x2), .val (.int x3), .val (.int x4), .val (.int (0 : Int32)), .val (.ref ba11_1), .val (.ref bo75_2), .val (.ref bc90_4), .val (.ref bc157_6)] [(.int (0 : Int32)), (.ref ba11_1)]))
  refine Runs.go (fun _ => XS.iloadN Xc190_7.here hx rfl (hb hby at_200) rfl) ?_
  show Runs p e below s _ _ _ (Tc190_7.setTop (mkF m 201 #[.val (.int x0), .val (.int x1), .val (.int x2), .val (.int x3), .val (.int x4), .val (.int (0 : Int32)), .val (.ref ba11_1), .val (.ref bo75_2), .val (.ref bc90_4), .val (.ref bc157_6)] [(.int x0), (.int (0 : Int32)), (.ref ba11_1)]))
  refine Runs.go (fun _ => XS.iloadN Xc190_7.here hx rfl (hb hby at_201) rfl) ?_
  show Runs p e below s _ _ _ (Tc190_7.setTop (mkF m 202 #[.val (.int x0), .val (.int x1), .val (.int x2), .val (.int x3), .val (.int x4), .val (.int (0 : Int32)), .val (.ref ba11_1), .val (.ref bo75_2), .val (.ref bc90_4), .val (.ref bc157_6)] [(.int x1), (.int x0), (.int (0 : Int32)), (.ref ba11_1)]))
  refine Runs.go (fun _ => XS.iloadN Xc190_7.here hx rfl (hb hby at_202) rfl) ?_
  show Runs p e below s _ _ _ (Tc190_7.setTop (mkF m 203 #[.val (.int x0), .val (.int x1), .val (.int x2), .val (.int x3), .val (.int x4), .val (.int (0 : Int32)), .val (.ref ba11_1), .val (.ref bo75_2), .val (.ref bc90_4), .val (.ref bc157_6)] [(.int x2), (.int x1), (.int x0), (.int (0 : Int32)), (.ref ba11_1)]))
  obtain ⟨_, _, ⟨Tc203_8, Lc203_8, kc203_8, nc203_8⟩, -, Xc203_8, ⟨Lcc203_8, hQc203_8, lc203_8, yc203_8, zc203_8⟩, stc203_8⟩ := Jvm.LawKit.callS Xc190_7 hx (y := (⟨"com/example/quillon/quillon/core/PrioritizationOrderPinLaw", "same", "([IIIII)Z"⟩ : MethodName)) hown (mvT hZ (hw _ (List.mem_of_getElem? (i := 32) rfl))) (mvT hZ (hw _ (List.mem_of_getElem? (i := 33) rfl))) (mvT hZ (hw _ (List.mem_of_getElem? (i := 34) rfl))) (mvT hZ (hw _ (List.mem_of_getElem? (i := 35) rfl))) (by decide) (backOf (W := 0) (rm5a l Z a0 hw [] ba11_1 x0 x1 x2 ka11_1 Tc157_6.heap n0 hzc157_6 Vba11_1_c157_6) hZ (hw _ (List.mem_of_getElem? (i := 35) rfl)) (hw _ (List.mem_of_getElem? (i := 34) rfl)) (by decide) (by decide)) (g := (mkF m 203 #[.val (.int x0), .val (.int x1), .val (.int x2), .val (.int x3), .val (.int x4), .val (.int (0 : Int32)), .val (.ref ba11_1), .val (.ref bo75_2), .val (.ref bc90_4), .val (.ref bc157_6)] [(.int x2), (.int x1), (.int x0), (.int (0 : Int32)), (.ref ba11_1)])) rfl (by rw [hml]; rfl) (argsL := [(.ref ba11_1), (.int (0 : Int32)), (.int x0), (.int x1), (.int x2)]) (rest := []) (lenOf pd_5 rfl) rfl (by show 2 * 0 + _ ≤ _; exact Nat.le_of_eq rfl) (hb hby at_203) (fun _ _ => ⟨rfl, ec190_7, (by decide : 4 + 0 ≤ _), (by decide : 8 + 0 ≤ _)⟩)
  dsimp only [Pt.U, Pt.locs, Pt.cells, Pt.slots] at Xc203_8 lc203_8 yc203_8 zc203_8 stc203_8 hQc203_8
  subst lc203_8 yc203_8 zc203_8
  obtain ⟨rfl, rfl, ec203_8⟩ := hQc203_8
  refine Runs.go stc203_8 ?_
  have Nc203_8 := Fr.app Nc190_7 (Fr.nil n0)
  show Runs p e below s _ _ _ (Tc203_8.setTop (mkF m 206 #[.val (.int x0), .val (.int x1), .val (.int x2), .val (.int x3), .val (.int x4), .val (.int (0 : Int32)), .val (.ref ba11_1), .val (.ref bo75_2), .val (.ref bc90_4), .val (.ref bc157_6)] [(.int (1 : Int32))]))
  refine Runs.go (fun _ => XS.ifNo Xc203_8.here hx rfl (hb hby at_206) rfl ((if0 _ _).trans (feq ((by decide) : ¬ ((1 : Int32) = (0 : Int32)))).1)) ?_
  show Runs p e below s _ _ _ (Tc203_8.setTop (mkF m 209 #[.val (.int x0), .val (.int x1), .val (.int x2), .val (.int x3), .val (.int x4), .val (.int (0 : Int32)), .val (.ref ba11_1), .val (.ref bo75_2), .val (.ref bc90_4), .val (.ref bc157_6)] []))
  refine Runs.go (fun _ => XS.iconst Xc203_8.here hx rfl (hb hby at_209)) ?_
  show Runs p e below s _ _ _ (Tc203_8.setTop (mkF m 210 #[.val (.int x0), .val (.int x1), .val (.int x2), .val (.int x3), .val (.int x4), .val (.int (0 : Int32)), .val (.ref ba11_1), .val (.ref bo75_2), .val (.ref bc90_4), .val (.ref bc157_6)] [(.int (1 : Int32))]))
  refine Runs.go (fun _ => XS.goto Xc203_8.here hx rfl (pc0 := 210) (pc' := 214) rfl (hb hby at_210) (by decide) (by decide)) ?_
  show Runs p e below s _ _ _ (Tc203_8.setTop (mkF m 214 #[.val (.int x0), .val (.int x1), .val (.int x2), .val (.int x3), .val (.int x4), .val (.int (0 : Int32)), .val (.ref ba11_1), .val (.ref bo75_2), .val (.ref bc90_4), .val (.ref bc157_6)] [(.int (1 : Int32))]))
  exact Runs.endN Xc203_8 hx (t := .boolean) Bd.returns (by simp) Bd.notSynchronized (hb hby at_214) ⟨rfl, Nc203_8⟩ (by decide) (by decide)
set_option maxRecDepth 65536 in
set_option maxHeartbeats 40000000 in
theorem rm0b (l : Launch) (Z : State) (a0 : Array Value) (hw : ∀ d ∈ tables_1, d.before a0 Z = true) (ws : List Jvm.Cond) (x0 : Int32) (x1 : Int32) (x2 : Int32) (x3 : Int32) (x4 : Int32) (h0 : Heap) (n0 : Nat) (hn0 : n0 ≤ h0.size) (hp : (x3 &&& (3 : Int32)) = (1 : Int32)) :
    MetFree l x (head1 (Jvm.Cond.code x code maxLocals ret :: ws) room_1) (fun a U => a = #[(.int x0), (.int x1), (.int x2), (.int x3), (.int x4)] ∧ Z.Warmed39 U.vm ∧ U.heap = h0) (fun _ _ _ _ _ => True) (fun _ U o U' => ∃ v L, o = .returned v ∧ QH (.int (1 : Int32)) n0 v U'.heap L ∧ FrameEnd U o U' L room_1.cells room_1.slots) := by
  refine MetFree.of_bodySF (plainFor_of_name pn_0) hisR ?_
  intro p e s m args below meth c s₁ Bd hml0 hP hK
  obtain ⟨rfl, hZ, hh⟩ := hP
  have hx := Bd.exec
  have hby := Bd.bytes
  have hml : c.maxLocals = 10 := hml0
  have hown : s.vm.findClass "com/example/quillon/quillon/core/PrioritizationOrderPinLaw" = some m.cls := findClass_of_methodNamed Bd.named
  have X : Stand p l e room_1 s m #[(.int x0), (.int x1), (.int x2), (.int x3), (.int x4)] below meth c s₁ [] 0 0 := Stand.of_body Bd
  have eT : s₁.heap = h0 := by rw [← hh, Bd.state]; rfl
  have N := Fr.nil n0
  show Runs p e below s (QH (.int (1 : Int32)) n0) room_1.cells room_1.slots (s₁.setTop (entryFrame m #[(.int x0), (.int x1), (.int x2), (.int x3), (.int x4)] maxLocals))
  rw [ef_0 m x0 x1 x2 x3 x4]
  refine Runs.go (fun _ => XS.iloadN X.here hx rfl (hb hby at_0) rfl) ?_
  show Runs p e below s _ _ _ (s₁.setTop (mkF m 1 #[.val (.int x0), .val (.int x1), .val (.int x2), .val (.int x3), .val (.int x4), .unset, .unset, .unset, .unset, .unset] [(.int x3)]))
  refine Runs.go (fun _ => XS.iconst X.here hx rfl (hb hby at_1)) ?_
  show Runs p e below s _ _ _ (s₁.setTop (mkF m 2 #[.val (.int x0), .val (.int x1), .val (.int x2), .val (.int x3), .val (.int x4), .unset, .unset, .unset, .unset, .unset] [(.int (3 : Int32)), (.int x3)]))
  refine Runs.go (fun _ => XS.iand X.here hx rfl (hb hby at_2) rfl) ?_
  show Runs p e below s _ _ _ (s₁.setTop (mkF m 3 #[.val (.int x0), .val (.int x1), .val (.int x2), .val (.int x3), .val (.int x4), .unset, .unset, .unset, .unset, .unset] [(.int (x3 &&& (3 : Int32)))]))
  rw [hp]
  show Runs p e below s _ _ _ (s₁.setTop (mkF m 3 #[.val (.int x0), .val (.int x1), .val (.int x2), .val (.int x3), .val (.int x4), .unset, .unset, .unset, .unset, .unset] [(.int (1 : Int32))]))
  refine Runs.go (fun _ => XS.istore X.here hx rfl (hb hby at_3) rfl (l' := #[.val (.int x0), .val (.int x1), .val (.int x2), .val (.int x3), .val (.int x4), .val (.int (1 : Int32)), .unset, .unset, .unset, .unset]) rfl) ?_
  show Runs p e below s _ _ _ (s₁.setTop (mkF m 5 #[.val (.int x0), .val (.int x1), .val (.int x2), .val (.int x3), .val (.int x4), .val (.int (1 : Int32)), .unset, .unset, .unset, .unset] []))
  refine Runs.go (fun _ => XS.iload X.here hx rfl (hb hby at_5) rfl) ?_
  show Runs p e below s _ _ _ (s₁.setTop (mkF m 7 #[.val (.int x0), .val (.int x1), .val (.int x2), .val (.int x3), .val (.int x4), .val (.int (1 : Int32)), .unset, .unset, .unset, .unset] [(.int (1 : Int32))]))
  refine Runs.go (fun _ => XS.ifYes X.here hx rfl (pc0 := 7) (pc' := 18) rfl (hb hby at_7) rfl ((if0 _ _).trans (feq ((by decide) : ¬ ((1 : Int32) = (0 : Int32)))).2) (by decide) (by decide)) ?_
  show Runs p e below s _ _ _ (s₁.setTop (mkF m 18 #[.val (.int x0), .val (.int x1), .val (.int x2), .val (.int x3), .val (.int x4), .val (.int (1 : Int32)), .unset, .unset, .unset, .unset] []))
  refine Runs.go (fun _ => XS.iload X.here hx rfl (hb hby at_18) rfl) ?_
  show Runs p e below s _ _ _ (s₁.setTop (mkF m 20 #[.val (.int x0), .val (.int x1), .val (.int x2), .val (.int x3), .val (.int x4), .val (.int (1 : Int32)), .unset, .unset, .unset, .unset] [(.int (1 : Int32))]))
  refine Runs.go (fun _ => XS.iconst X.here hx rfl (hb hby at_20)) ?_
  show Runs p e below s _ _ _ (s₁.setTop (mkF m 21 #[.val (.int x0), .val (.int x1), .val (.int x2), .val (.int x3), .val (.int x4), .val (.int (1 : Int32)), .unset, .unset, .unset, .unset] [(.int (1 : Int32)), (.int (1 : Int32))]))
  refine Runs.go (fun _ => XS.icmpNo X.here hx rfl (hb hby at_21) rfl (teq (rfl : (1 : Int32) = (1 : Int32))).2) ?_
  show Runs p e below s _ _ _ (s₁.setTop (mkF m 24 #[.val (.int x0), .val (.int x1), .val (.int x2), .val (.int x3), .val (.int x4), .val (.int (1 : Int32)), .unset, .unset, .unset, .unset] []))
  refine Runs.go (fun _ => XS.iconst X.here hx rfl (hb hby at_24)) ?_
  show Runs p e below s _ _ _ (s₁.setTop (mkF m 25 #[.val (.int x0), .val (.int x1), .val (.int x2), .val (.int x3), .val (.int x4), .val (.int (1 : Int32)), .unset, .unset, .unset, .unset] [(.int (1 : Int32))]))
  obtain ⟨Ta25_1, ha25_1, ka25_1, Xa25_1, ea25_1, Ea25_1, Aa25_1, Eaa25_1, sta25_1⟩ := newPE X hx hZ (hw _ (List.mem_of_getElem? (i := 0) rfl)) eT (g := (mkF m 25 #[.val (.int x0), .val (.int x1), .val (.int x2), .val (.int x3), .val (.int x4), .val (.int (1 : Int32)), .unset, .unset, .unset, .unset] [(.int (1 : Int32))])) rfl (hb hby at_25) rfl (by decide) (cap := 1) (by decide) (by decide) (by decide) (by decide) (ad := "[I") (by decide)
  obtain ⟨ba25_1, ga25_1⟩ : ∃ z, z = h0.size := ⟨_, rfl⟩
  have gb_ba25_1 : n0 ≤ ba25_1 := Nat.le_trans hn0 (Nat.le_of_eq ga25_1.symm)
  rw [← ga25_1] at Aa25_1 sta25_1 Eaa25_1
  refine Runs.go sta25_1 ?_
  have hna25_1 : n0 ≤ ha25_1.size := Nat.le_trans hn0 Ea25_1.1
  have Va25_1 : Arv Z ha25_1 ba25_1 ka25_1 .int (1 : Int32) [(.int (0 : Int32))] (.int (0 : Int32)) := (Arv.new Aa25_1 (by decide)).pad (pad_rep [] (.int (0 : Int32)) 1)
  show Runs p e below s _ _ _ (Ta25_1.setTop (mkF m 27 #[.val (.int x0), .val (.int x1), .val (.int x2), .val (.int x3), .val (.int x4), .val (.int (1 : Int32)), .unset, .unset, .unset, .unset] [(.ref ba25_1)]))
  refine Runs.go (fun _ => XS.dup Xa25_1.here hx rfl (hb hby at_27) rfl rfl) ?_
  show Runs p e below s _ _ _ (Ta25_1.setTop (mkF m 28 #[.val (.int x0), .val (.int x1), .val (.int x2), .val (.int x3), .val (.int x4), .val (.int (1 : Int32)), .unset, .unset, .unset, .unset] [(.ref ba25_1), (.ref ba25_1)]))
  refine Runs.go (fun _ => XS.iconst Xa25_1.here hx rfl (hb hby at_28)) ?_
  show Runs p e below s _ _ _ (Ta25_1.setTop (mkF m 29 #[.val (.int x0), .val (.int x1), .val (.int x2), .val (.int x3), .val (.int x4), .val (.int (1 : Int32)), .unset, .unset, .unset, .unset] [(.int (0 : Int32)), (.ref ba25_1), (.ref ba25_1)]))
  refine Runs.go (fun _ => XS.iloadN Xa25_1.here hx rfl (hb hby at_29) rfl) ?_
  show Runs p e below s _ _ _ (Ta25_1.setTop (mkF m 30 #[.val (.int x0), .val (.int x1), .val (.int x2), .val (.int x3), .val (.int x4), .val (.int (1 : Int32)), .unset, .unset, .unset, .unset] [(.int x0), (.int (0 : Int32)), (.ref ba25_1), (.ref ba25_1)]))
  have VCw30_2 := Va25_1
  obtain ⟨clw30_2, Arw30_2, qw30_2, Sw30_2, Mw30_2, Hw30_2, Gw30_2⟩ := VCw30_2
  have hinw30_2 : ¬ ((0 : Int32) < 0 ∨ clw30_2.slots.size ≤ ((0 : Int32)).toNatClampNeg) := inb_of Sw30_2 ⟨by decide, by decide⟩
  obtain ⟨Tw30_2, hw30_2, Xw30_2, ew30_2, Ww30_2, stw30_2⟩ := stI Xa25_1 hx hZ ea25_1 Arw30_2 (j := (0 : Int32)) hinw30_2 (g := (mkF m 30 #[.val (.int x0), .val (.int x1), .val (.int x2), .val (.int x3), .val (.int x4), .val (.int (1 : Int32)), .unset, .unset, .unset, .unset] [(.int x0), (.int (0 : Int32)), (.ref ba25_1), (.ref ba25_1)])) rfl rfl (hb hby at_30)
  refine Runs.go stw30_2 ?_
  have hnw30_2 : n0 ≤ hw30_2.size := by rw [Wr.size Ww30_2]; exact hna25_1
  have Eba25_1_w30_2 := Eaa25_1.wr Ww30_2
  have Vw30_2 : Arv Z hw30_2 ba25_1 ka25_1 .int (1 : Int32) [(.int x0)] (.int (0 : Int32)) := Arv.set Arw30_2 qw30_2 Sw30_2 Mw30_2 Hw30_2 Gw30_2 rfl Ww30_2 0 rfl (Nat.le_of_ble_eq_true rfl)
  have Nw30_2 := Fr.snoc Xw30_2 N gb_ba25_1
  show Runs p e below s _ _ _ (Tw30_2.setTop (mkF m 31 #[.val (.int x0), .val (.int x1), .val (.int x2), .val (.int x3), .val (.int x4), .val (.int (1 : Int32)), .unset, .unset, .unset, .unset] [(.ref ba25_1)]))
  refine Runs.go (fun _ => XS.astore Xw30_2.here hx rfl (hb hby at_31) rfl rfl (l' := #[.val (.int x0), .val (.int x1), .val (.int x2), .val (.int x3), .val (.int x4), .val (.int (1 : Int32)), .val (.ref ba25_1), .unset, .unset, .unset]) rfl) ?_
  show Runs p e below s _ _ _ (Tw30_2.setTop (mkF m 33 #[.val (.int x0), .val (.int x1), .val (.int x2), .val (.int x3), .val (.int x4), .val (.int (1 : Int32)), .val (.ref ba25_1), .unset, .unset, .unset] []))
  refine Runs.go (fun _ => XS.goto Xw30_2.here hx rfl (pc0 := 33) (pc' := 75) rfl (hb hby at_33) (by decide) (by decide)) ?_
  show Runs p e below s _ _ _ (Tw30_2.setTop (mkF m 75 #[.val (.int x0), .val (.int x1), .val (.int x2), .val (.int x3), .val (.int x4), .val (.int (1 : Int32)), .val (.ref ba25_1), .unset, .unset, .unset] []))
  obtain ⟨To75_3, ho75_3, Xo75_3, eo75_3, Eo75_3, Ao75_3, Do75_3, -, sto75_3⟩ := newO Xw30_2 hx hZ hown (hw _ (List.mem_of_getElem? (i := 1) rfl)) (hw _ (List.mem_of_getElem? (i := 2) rfl)) (hw _ (List.mem_of_getElem? (i := 3) rfl)) ew30_2 (g := (mkF m 75 #[.val (.int x0), .val (.int x1), .val (.int x2), .val (.int x3), .val (.int x4), .val (.int (1 : Int32)), .val (.ref ba25_1), .unset, .unset, .unset] [])) rfl (hb hby at_75) (by decide) (by decide)
  obtain ⟨bo75_3, go75_3⟩ : ∃ z, z = hw30_2.size := ⟨_, rfl⟩
  have ne_o75_3_ba25_1 : ba25_1 ≠ bo75_3 := Nat.ne_of_lt (Nat.lt_of_lt_of_le Eba25_1_w30_2.lt (Nat.le_of_eq go75_3.symm))
  have gb_bo75_3 : n0 ≤ bo75_3 := Nat.le_trans hnw30_2 (Nat.le_of_eq go75_3.symm)
  rw [← go75_3] at Ao75_3 Do75_3 sto75_3
  refine Runs.go sto75_3 ?_
  have Eba25_1_o75_3 := Eba25_1_w30_2.ext Eo75_3
  have Vba25_1_o75_3 := Vw30_2.ext Eo75_3
  have hno75_3 : n0 ≤ ho75_3.size := Nat.le_trans hnw30_2 Eo75_3.1
  have Forder_bo75_3 : Fld Z ho75_3 bo75_3 "com/example/quillon/quillon/core/Prioritization" "order" "[I" .null := Do75_3 (Or.inr (hw _ (List.mem_of_getElem? (i := 11) rfl))) (ty := (.array .int)) (by decide)
  have Fiterations_bo75_3 : Fld Z ho75_3 bo75_3 "com/example/quillon/quillon/core/Prioritization" "iterations" "I" (.int (0 : Int32)) := Do75_3 (Or.inr (hw _ (List.mem_of_getElem? (i := 13) rfl))) (ty := .int) (by decide)
  show Runs p e below s _ _ _ (To75_3.setTop (mkF m 78 #[.val (.int x0), .val (.int x1), .val (.int x2), .val (.int x3), .val (.int x4), .val (.int (1 : Int32)), .val (.ref ba25_1), .unset, .unset, .unset] [(.ref bo75_3)]))
  refine Runs.go (fun _ => XS.dup Xo75_3.here hx rfl (hb hby at_78) rfl rfl) ?_
  show Runs p e below s _ _ _ (To75_3.setTop (mkF m 79 #[.val (.int x0), .val (.int x1), .val (.int x2), .val (.int x3), .val (.int x4), .val (.int (1 : Int32)), .val (.ref ba25_1), .unset, .unset, .unset] [(.ref bo75_3), (.ref bo75_3)]))
  refine Runs.go (fun _ => XS.aload Xo75_3.here hx rfl (hb hby at_79) rfl rfl) ?_
  show Runs p e below s _ _ _ (To75_3.setTop (mkF m 81 #[.val (.int x0), .val (.int x1), .val (.int x2), .val (.int x3), .val (.int x4), .val (.int (1 : Int32)), .val (.ref ba25_1), .unset, .unset, .unset] [(.ref ba25_1), (.ref bo75_3), (.ref bo75_3)]))
  refine Runs.go (fun _ => XS.iload Xo75_3.here hx rfl (hb hby at_81) rfl) ?_
  show Runs p e below s _ _ _ (To75_3.setTop (mkF m 83 #[.val (.int x0), .val (.int x1), .val (.int x2), .val (.int x3), .val (.int x4), .val (.int (1 : Int32)), .val (.ref ba25_1), .unset, .unset, .unset] [(.int x4), (.ref ba25_1), (.ref bo75_3), (.ref bo75_3)]))
  obtain ⟨_, _, ⟨Tc83_4, Lc83_4, kc83_4, nc83_4⟩, -, Xc83_4, ⟨Lcc83_4, hQc83_4, lc83_4, yc83_4, zc83_4⟩, stc83_4⟩ := Xo75_3.specialBack hx (y := (⟨"com/example/quillon/quillon/core/Prioritization", "<init>", "([II)V"⟩ : MethodName)) rfl hown (mvT hZ (hw _ (List.mem_of_getElem? (i := 4) rfl))) (mvT hZ (hw _ (List.mem_of_getElem? (i := 5) rfl))) (mvT hZ (hw _ (List.mem_of_getElem? (i := 6) rfl))) (by decide) (backOf (W := 1) (rm1 l Z a0 hw [] bo75_3 ba25_1 x4 ho75_3 n0 hno75_3 Ao75_3 gb_bo75_3 Forder_bo75_3 Fiterations_bo75_3) hZ (hw _ (List.mem_of_getElem? (i := 6) rfl)) (hw _ (List.mem_of_getElem? (i := 3) rfl)) (by decide) (by decide)) (g := (mkF m 83 #[.val (.int x0), .val (.int x1), .val (.int x2), .val (.int x3), .val (.int x4), .val (.int (1 : Int32)), .val (.ref ba25_1), .unset, .unset, .unset] [(.int x4), (.ref ba25_1), (.ref bo75_3), (.ref bo75_3)])) rfl (by rw [hml]; rfl) (Steps.refl _) (a := bo75_3) (argsL := [(.ref ba25_1), (.int x4)]) (rest := [(.ref bo75_3)]) (lenOf pd_0 rfl) rfl (by show 2 * 0 + _ ≤ _; exact Nat.le_of_eq rfl) (hb hby at_83) (fun _ _ => ⟨rfl, eo75_3, (by decide : 2 + 0 ≤ _), (by decide : 3 + 0 ≤ _)⟩)
  dsimp only [Pt.U, Pt.locs, Pt.cells, Pt.slots] at Xc83_4 lc83_4 yc83_4 zc83_4 stc83_4 hQc83_4
  subst lc83_4 yc83_4 zc83_4
  obtain ⟨rfl, Nc83_4q, Kc83_4, Eic83_4, Foc83_4, Fic83_4⟩ := hQc83_4
  refine Runs.go (fun _ => stc83_4.trans) ?_
  have Nc83_4 := Fr.app Nw30_2 Nc83_4q
  have Vba25_1_c83_4 := Vba25_1_o75_3.keep Kc83_4 (ninS ne_o75_3_ba25_1 nin0)
  have Eba25_1_c83_4 := Eba25_1_o75_3.keep Kc83_4
  have hzc83_4 : n0 ≤ Tc83_4.heap.size := Nat.le_trans hno75_3 Kc83_4.1
  show Runs p e below s _ _ _ (Tc83_4.setTop (mkF m 86 #[.val (.int x0), .val (.int x1), .val (.int x2), .val (.int x3), .val (.int x4), .val (.int (1 : Int32)), .val (.ref ba25_1), .unset, .unset, .unset] [(.ref bo75_3)]))
  refine Runs.go (fun _ => XS.astore Xc83_4.here hx rfl (hb hby at_86) rfl rfl (l' := #[.val (.int x0), .val (.int x1), .val (.int x2), .val (.int x3), .val (.int x4), .val (.int (1 : Int32)), .val (.ref ba25_1), .val (.ref bo75_3), .unset, .unset]) rfl) ?_
  show Runs p e below s _ _ _ (Tc83_4.setTop (mkF m 88 #[.val (.int x0), .val (.int x1), .val (.int x2), .val (.int x3), .val (.int x4), .val (.int (1 : Int32)), .val (.ref ba25_1), .val (.ref bo75_3), .unset, .unset] []))
  refine Runs.go (fun _ => XS.aload Xc83_4.here hx rfl (hb hby at_88) rfl rfl) ?_
  show Runs p e below s _ _ _ (Tc83_4.setTop (mkF m 90 #[.val (.int x0), .val (.int x1), .val (.int x2), .val (.int x3), .val (.int x4), .val (.int (1 : Int32)), .val (.ref ba25_1), .val (.ref bo75_3), .unset, .unset] [(.ref bo75_3)]))
  obtain ⟨cqc90_5, kqc90_5, qc90_5a, qc90_5b, qc90_5c⟩ := isOf hZ rfl Eic83_4
  obtain ⟨_, _, ⟨Tc90_5, Lc90_5, kc90_5, nc90_5⟩, -, Xc90_5, ⟨Lcc90_5, hQc90_5, lc90_5, yc90_5, zc90_5⟩, stc90_5⟩ := Xc83_4.virtualBack hx (y := (⟨"com/example/quillon/quillon/core/Prioritization", "order", "()[I"⟩ : MethodName)) (z := (⟨"com/example/quillon/quillon/core/Prioritization", "order", "()[I"⟩ : MethodName)) hown (mvT hZ (hw _ (List.mem_of_getElem? (i := 14) rfl))) (mvT hZ (hw _ (List.mem_of_getElem? (i := 15) rfl))) (notFace_of_selects (args := #[]) (mvT hZ (hw _ (List.mem_of_getElem? (i := 17) rfl)))) (mvT hZ (hw _ (List.mem_of_getElem? (i := 17) rfl))) (mvT hZ (hw _ (List.mem_of_getElem? (i := 16) rfl))) (by decide) (backOf (W := 0) (rm3 l Z a0 hw [] bo75_3 ba25_1 ka25_1 (1 : Int32) [(.int x0)] Tc83_4.heap n0 hzc83_4 Eic83_4 Foc83_4 Vba25_1_c83_4 Eba25_1_c83_4 (by decide)) hZ (hw _ (List.mem_of_getElem? (i := 18) rfl)) (hw _ (List.mem_of_getElem? (i := 3) rfl)) (by decide) (by decide)) qc90_5a qc90_5c (g := (mkF m 90 #[.val (.int x0), .val (.int x1), .val (.int x2), .val (.int x3), .val (.int x4), .val (.int (1 : Int32)), .val (.ref ba25_1), .val (.ref bo75_3), .unset, .unset] [(.ref bo75_3)])) rfl (by rw [hml]; rfl) (Steps.refl _) (argsL := []) (rest := []) (lenOf pd_2 rfl) rfl (by show 2 * 0 + _ ≤ _; exact Nat.le_of_eq rfl) (hb hby at_90) (fun _ _ => ⟨rfl, rfl, (by decide : 2 + 1 ≤ _), (by decide : 3 + 3 ≤ _)⟩)
  dsimp only [Pt.U, Pt.locs, Pt.cells, Pt.slots] at Xc90_5 lc90_5 yc90_5 zc90_5 stc90_5 hQc90_5
  subst lc90_5 yc90_5 zc90_5
  obtain ⟨bc90_5, rfl, Nc90_5q, gc90_5, Ec90_5, Vc90_5, Eac90_5⟩ := hQc90_5
  refine Runs.go (fun _ => stc90_5.trans) ?_
  have Nc90_5 := Fr.app Nc83_4 Nc90_5q
  have ne_c90_5_ba25_1 : ba25_1 ≠ bc90_5 := Nat.ne_of_lt (Nat.lt_of_lt_of_le Eba25_1_c83_4.lt (Nat.le_of_eq gc90_5.symm))
  have ne_c90_5_bo75_3 : bo75_3 ≠ bc90_5 := Nat.ne_of_lt (Nat.lt_of_lt_of_le Eic83_4.lt (Nat.le_of_eq gc90_5.symm))
  have gb_bc90_5 : n0 ≤ bc90_5 := Nat.le_trans hzc83_4 (Nat.le_of_eq gc90_5.symm)
  have Eba25_1_c90_5 := Eba25_1_c83_4.ext Ec90_5
  have Vba25_1_c90_5 := Vba25_1_c83_4.ext Ec90_5
  have Eo_c90_5 := Eic83_4.ext Ec90_5
  have Fo_c90_5 := Foc83_4.ext Ec90_5
  have Fi_c90_5 := Fic83_4.ext Ec90_5
  have hzc90_5 : n0 ≤ Tc90_5.heap.size := Nat.le_trans hzc83_4 Ec90_5.1
  show Runs p e below s _ _ _ (Tc90_5.setTop (mkF m 93 #[.val (.int x0), .val (.int x1), .val (.int x2), .val (.int x3), .val (.int x4), .val (.int (1 : Int32)), .val (.ref ba25_1), .val (.ref bo75_3), .unset, .unset] [(.ref bc90_5)]))
  refine Runs.go (fun _ => XS.astore Xc90_5.here hx rfl (hb hby at_93) rfl rfl (l' := #[.val (.int x0), .val (.int x1), .val (.int x2), .val (.int x3), .val (.int x4), .val (.int (1 : Int32)), .val (.ref ba25_1), .val (.ref bo75_3), .val (.ref bc90_5), .unset]) rfl) ?_
  show Runs p e below s _ _ _ (Tc90_5.setTop (mkF m 95 #[.val (.int x0), .val (.int x1), .val (.int x2), .val (.int x3), .val (.int x4), .val (.int (1 : Int32)), .val (.ref ba25_1), .val (.ref bo75_3), .val (.ref bc90_5), .unset] []))
  refine Runs.go (fun _ => XS.aload Xc90_5.here hx rfl (hb hby at_95) rfl rfl) ?_
  show Runs p e below s _ _ _ (Tc90_5.setTop (mkF m 97 #[.val (.int x0), .val (.int x1), .val (.int x2), .val (.int x3), .val (.int x4), .val (.int (1 : Int32)), .val (.ref ba25_1), .val (.ref bo75_3), .val (.ref bc90_5), .unset] [(.ref bc90_5)]))
  refine Runs.go (fun _ => XS.ifnullNo Xc90_5.here hx rfl (hb hby at_97) rfl) ?_
  show Runs p e below s _ _ _ (Tc90_5.setTop (mkF m 100 #[.val (.int x0), .val (.int x1), .val (.int x2), .val (.int x3), .val (.int x4), .val (.int (1 : Int32)), .val (.ref ba25_1), .val (.ref bo75_3), .val (.ref bc90_5), .unset] []))
  refine Runs.go (fun _ => XS.aload Xc90_5.here hx rfl (hb hby at_100) rfl rfl) ?_
  show Runs p e below s _ _ _ (Tc90_5.setTop (mkF m 102 #[.val (.int x0), .val (.int x1), .val (.int x2), .val (.int x3), .val (.int x4), .val (.int (1 : Int32)), .val (.ref ba25_1), .val (.ref bo75_3), .val (.ref bc90_5), .unset] [(.ref bc90_5)]))
  refine Runs.go (fun _ => XS.aload Xc90_5.here hx rfl (hb hby at_102) rfl rfl) ?_
  show Runs p e below s _ _ _ (Tc90_5.setTop (mkF m 104 #[.val (.int x0), .val (.int x1), .val (.int x2), .val (.int x3), .val (.int x4), .val (.int (1 : Int32)), .val (.ref ba25_1), .val (.ref bo75_3), .val (.ref bc90_5), .unset] [(.ref ba25_1), (.ref bc90_5)]))
  refine Runs.go (fun _ => Jvm.RoadKit.acmp (g := (mkF m 104 #[.val (.int x0), .val (.int x1), .val (.int x2), .val (.int x3), .val (.int x4), .val (.int (1 : Int32)), .val (.ref ba25_1), .val (.ref bo75_3), .val (.ref bc90_5), .unset] [(.ref ba25_1), (.ref bc90_5)])) Xc90_5 hx rfl rfl rfl (pc0 := 104) (pc' := 109) (same := false) rfl (hb hby at_104) rfl (decide_eq_false fun q => (Ne.symm ne_c90_5_ba25_1) (Value.ref.inj q)) (by decide) (by decide)) ?_
  show Runs p e below s _ _ _ (Tc90_5.setTop (mkF m 109 #[.val (.int x0), .val (.int x1), .val (.int x2), .val (.int x3), .val (.int x4), .val (.int (1 : Int32)), .val (.ref ba25_1), .val (.ref bo75_3), .val (.ref bc90_5), .unset] []))
  refine Runs.go (fun _ => XS.aload Xc90_5.here hx rfl (hb hby at_109) rfl rfl) ?_
  show Runs p e below s _ _ _ (Tc90_5.setTop (mkF m 111 #[.val (.int x0), .val (.int x1), .val (.int x2), .val (.int x3), .val (.int x4), .val (.int (1 : Int32)), .val (.ref ba25_1), .val (.ref bo75_3), .val (.ref bc90_5), .unset] [(.ref bc90_5)]))
  refine Runs.go (fun _ => XS.iload Xc90_5.here hx rfl (hb hby at_111) rfl) ?_
  show Runs p e below s _ _ _ (Tc90_5.setTop (mkF m 113 #[.val (.int x0), .val (.int x1), .val (.int x2), .val (.int x3), .val (.int x4), .val (.int (1 : Int32)), .val (.ref ba25_1), .val (.ref bo75_3), .val (.ref bc90_5), .unset] [(.int (1 : Int32)), (.ref bc90_5)]))
  refine Runs.go (fun _ => XS.iloadN Xc90_5.here hx rfl (hb hby at_113) rfl) ?_
  show Runs p e below s _ _ _ (Tc90_5.setTop (mkF m 114 #[.val (.int x0), .val (.int x1), .val (.int x2), .val (.int x3), .val (.int x4), .val (.int (1 : Int32)), .val (.ref ba25_1), .val (.ref bo75_3), .val (.ref bc90_5), .unset] [(.int x0), (.int (1 : Int32)), (.ref bc90_5)]))
  refine Runs.go (fun _ => XS.iloadN Xc90_5.here hx rfl (hb hby at_114) rfl) ?_
  show Runs p e below s _ _ _ (Tc90_5.setTop (mkF m 115 #[.val (.int x0), .val (.int x1), .val (.int x2), .val (.int x3), .val (.int x4), .val (.int (1 : Int32)), .val (.ref ba25_1), .val (.ref bo75_3), .val (.ref bc90_5), .unset] [(.int x1), (.int x0), (.int (1 : Int32)), (.ref bc90_5)]))
  refine Runs.go (fun _ => XS.iloadN Xc90_5.here hx rfl (hb hby at_115) rfl) ?_
  show Runs p e below s _ _ _ (Tc90_5.setTop (mkF m 116 #[.val (.int x0), .val (.int x1), .val (.int x2), .val (.int x3), .val (.int x4), .val (.int (1 : Int32)), .val (.ref ba25_1), .val (.ref bo75_3), .val (.ref bc90_5), .unset] [(.int x2), (.int x1), (.int x0), (.int (1 : Int32)), (.ref bc90_5)]))
  obtain ⟨_, _, ⟨Tc116_6, Lc116_6, kc116_6, nc116_6⟩, -, Xc116_6, ⟨Lcc116_6, hQc116_6, lc116_6, yc116_6, zc116_6⟩, stc116_6⟩ := Jvm.LawKit.callS Xc90_5 hx (y := (⟨"com/example/quillon/quillon/core/PrioritizationOrderPinLaw", "same", "([IIIII)Z"⟩ : MethodName)) hown (mvT hZ (hw _ (List.mem_of_getElem? (i := 32) rfl))) (mvT hZ (hw _ (List.mem_of_getElem? (i := 33) rfl))) (mvT hZ (hw _ (List.mem_of_getElem? (i := 34) rfl))) (mvT hZ (hw _ (List.mem_of_getElem? (i := 35) rfl))) (by decide) (backOf (W := 0) (rm5b l Z a0 hw [] bc90_5 x0 x1 x2 ka25_1 Tc90_5.heap n0 hzc90_5 Vc90_5) hZ (hw _ (List.mem_of_getElem? (i := 35) rfl)) (hw _ (List.mem_of_getElem? (i := 34) rfl)) (by decide) (by decide)) (g := (mkF m 116 #[.val (.int x0), .val (.int x1), .val (.int x2), .val (.int x3), .val (.int x4), .val (.int (1 : Int32)), .val (.ref ba25_1), .val (.ref bo75_3), .val (.ref bc90_5), .unset] [(.int x2), (.int x1), (.int x0), (.int (1 : Int32)), (.ref bc90_5)])) rfl (by rw [hml]; rfl) (argsL := [(.ref bc90_5), (.int (1 : Int32)), (.int x0), (.int x1), (.int x2)]) (rest := []) (lenOf pd_5 rfl) rfl (by show 2 * 0 + _ ≤ _; exact Nat.le_of_eq rfl) (hb hby at_116) (fun _ _ => ⟨rfl, rfl, (by decide : 3 + 0 ≤ _), (by decide : 6 + 0 ≤ _)⟩)
  dsimp only [Pt.U, Pt.locs, Pt.cells, Pt.slots] at Xc116_6 lc116_6 yc116_6 zc116_6 stc116_6 hQc116_6
  subst lc116_6 yc116_6 zc116_6
  obtain ⟨rfl, rfl, ec116_6⟩ := hQc116_6
  refine Runs.go stc116_6 ?_
  have Nc116_6 := Fr.app Nc90_5 (Fr.nil n0)
  show Runs p e below s _ _ _ (Tc116_6.setTop (mkF m 119 #[.val (.int x0), .val (.int x1), .val (.int x2), .val (.int x3), .val (.int x4), .val (.int (1 : Int32)), .val (.ref ba25_1), .val (.ref bo75_3), .val (.ref bc90_5), .unset] [(.int (1 : Int32))]))
  refine Runs.go (fun _ => XS.ifYes Xc116_6.here hx rfl (pc0 := 119) (pc' := 124) rfl (hb hby at_119) rfl ((if0 _ _).trans (feq ((by decide) : ¬ ((1 : Int32) = (0 : Int32)))).2) (by decide) (by decide)) ?_
  show Runs p e below s _ _ _ (Tc116_6.setTop (mkF m 124 #[.val (.int x0), .val (.int x1), .val (.int x2), .val (.int x3), .val (.int x4), .val (.int (1 : Int32)), .val (.ref ba25_1), .val (.ref bo75_3), .val (.ref bc90_5), .unset] []))
  refine Runs.go (fun _ => XS.iload Xc116_6.here hx rfl (hb hby at_124) rfl) ?_
  show Runs p e below s _ _ _ (Tc116_6.setTop (mkF m 126 #[.val (.int x0), .val (.int x1), .val (.int x2), .val (.int x3), .val (.int x4), .val (.int (1 : Int32)), .val (.ref ba25_1), .val (.ref bo75_3), .val (.ref bc90_5), .unset] [(.int (1 : Int32))]))
  refine Runs.go (fun _ => XS.ifNo Xc116_6.here hx rfl (hb hby at_126) rfl ((if0 _ _).trans (tlt ((by decide) : (0 : Int32) < (1 : Int32))).2.2.2)) ?_
  show Runs p e below s _ _ _ (Tc116_6.setTop (mkF m 129 #[.val (.int x0), .val (.int x1), .val (.int x2), .val (.int x3), .val (.int x4), .val (.int (1 : Int32)), .val (.ref ba25_1), .val (.ref bo75_3), .val (.ref bc90_5), .unset] []))
  refine Runs.go (fun _ => XS.aload Xc116_6.here hx rfl (hb hby at_129) rfl rfl) ?_
  show Runs p e below s _ _ _ (Tc116_6.setTop (mkF m 131 #[.val (.int x0), .val (.int x1), .val (.int x2), .val (.int x3), .val (.int x4), .val (.int (1 : Int32)), .val (.ref ba25_1), .val (.ref bo75_3), .val (.ref bc90_5), .unset] [(.ref bc90_5)]))
  refine Runs.go (fun _ => XS.iconst Xc116_6.here hx rfl (hb hby at_131)) ?_
  show Runs p e below s _ _ _ (Tc116_6.setTop (mkF m 132 #[.val (.int x0), .val (.int x1), .val (.int x2), .val (.int x3), .val (.int x4), .val (.int (1 : Int32)), .val (.ref ba25_1), .val (.ref bo75_3), .val (.ref bc90_5), .unset] [(.int (0 : Int32)), (.ref bc90_5)]))
  refine Runs.go (fun _ => XS.aload Xc116_6.here hx rfl (hb hby at_132) rfl rfl) ?_
  show Runs p e below s _ _ _ (Tc116_6.setTop (mkF m 134 #[.val (.int x0), .val (.int x1), .val (.int x2), .val (.int x3), .val (.int x4), .val (.int (1 : Int32)), .val (.ref ba25_1), .val (.ref bo75_3), .val (.ref bc90_5), .unset] [(.ref bc90_5), (.int (0 : Int32)), (.ref bc90_5)]))
  refine Runs.go (fun _ => XS.iconst Xc116_6.here hx rfl (hb hby at_134)) ?_
  show Runs p e below s _ _ _ (Tc116_6.setTop (mkF m 135 #[.val (.int x0), .val (.int x1), .val (.int x2), .val (.int x3), .val (.int x4), .val (.int (1 : Int32)), .val (.ref ba25_1), .val (.ref bo75_3), .val (.ref bc90_5), .unset] [(.int (0 : Int32)), (.ref bc90_5), (.int (0 : Int32)), (.ref bc90_5)]))
  have VCr135_7 := Vc90_5
  obtain ⟨clr135_7, Arr135_7, -, Sr135_7, Mr135_7, Hr135_7, -⟩ := VCr135_7
  have hinr135_7 : ¬ ((0 : Int32) < 0 ∨ clr135_7.slots.size ≤ ((0 : Int32)).toNatClampNeg) := inb_of Sr135_7 ⟨by decide, by decide⟩
  have hatr135_7 : clr135_7.slots[((0 : Int32)).toNatClampNeg]? = some (.int x0) := Has.at Hr135_7 hinr135_7 rfl
  refine Runs.go (Xc116_6.iaload hx (j := (0 : Int32)) (v := (.int x0)) (by rw [ec116_6]; exact Arr135_7.1) (State.isArrayOf_alike hZ.alike Arr135_7.2.1) Arr135_7.2.2 hinr135_7 hatr135_7 (g := (mkF m 135 #[.val (.int x0), .val (.int x1), .val (.int x2), .val (.int x3), .val (.int x4), .val (.int (1 : Int32)), .val (.ref ba25_1), .val (.ref bo75_3), .val (.ref bc90_5), .unset] [(.int (0 : Int32)), (.ref bc90_5), (.int (0 : Int32)), (.ref bc90_5)])) rfl rfl (hb hby at_135)) ?_
  show Runs p e below s _ _ _ (Tc116_6.setTop (mkF m 136 #[.val (.int x0), .val (.int x1), .val (.int x2), .val (.int x3), .val (.int x4), .val (.int (1 : Int32)), .val (.ref ba25_1), .val (.ref bo75_3), .val (.ref bc90_5), .unset] [(.int x0), (.int (0 : Int32)), (.ref bc90_5)]))
  refine Runs.go (fun _ => XS.iconst Xc116_6.here hx rfl (hb hby at_136)) ?_
  show Runs p e below s _ _ _ (Tc116_6.setTop (mkF m 137 #[.val (.int x0), .val (.int x1), .val (.int x2), .val (.int x3), .val (.int x4), .val (.int (1 : Int32)), .val (.ref ba25_1), .val (.ref bo75_3), .val (.ref bc90_5), .unset] [(.int (1 : Int32)), (.int x0), (.int (0 : Int32)), (.ref bc90_5)]))
  refine Runs.go (fun _ => XS.ixor Xc116_6.here hx rfl (hb hby at_137) rfl) ?_
  show Runs p e below s _ _ _ (Tc116_6.setTop (mkF m 138 #[.val (.int x0), .val (.int x1), .val (.int x2), .val (.int x3), .val (.int x4), .val (.int (1 : Int32)), .val (.ref ba25_1), .val (.ref bo75_3), .val (.ref bc90_5), .unset] [(.int (x0 ^^^ (1 : Int32))), (.int (0 : Int32)), (.ref bc90_5)]))
  have VCw138_8 := Vc90_5
  obtain ⟨clw138_8, Arw138_8, qw138_8, Sw138_8, Mw138_8, Hw138_8, Gw138_8⟩ := VCw138_8
  have hinw138_8 : ¬ ((0 : Int32) < 0 ∨ clw138_8.slots.size ≤ ((0 : Int32)).toNatClampNeg) := inb_of Sw138_8 ⟨by decide, by decide⟩
  obtain ⟨Tw138_8, hw138_8, Xw138_8, ew138_8, Ww138_8, stw138_8⟩ := stI Xc116_6 hx hZ ec116_6 Arw138_8 (j := (0 : Int32)) hinw138_8 (g := (mkF m 138 #[.val (.int x0), .val (.int x1), .val (.int x2), .val (.int x3), .val (.int x4), .val (.int (1 : Int32)), .val (.ref ba25_1), .val (.ref bo75_3), .val (.ref bc90_5), .unset] [(.int (x0 ^^^ (1 : Int32))), (.int (0 : Int32)), (.ref bc90_5)])) rfl rfl (hb hby at_138)
  refine Runs.go stw138_8 ?_
  have hnw138_8 : n0 ≤ hw138_8.size := by rw [Wr.size Ww138_8]; exact hzc90_5
  have Eba25_1_w138_8 := Eba25_1_c90_5.wr Ww138_8
  have Vba25_1_w138_8 := Vba25_1_c90_5.other Ww138_8 ne_c90_5_ba25_1
  have Eo_w138_8 := Eo_c90_5.wr Ww138_8
  have Fo_w138_8 := Fo_c90_5.other Ww138_8 (Or.inl ne_c90_5_bo75_3)
  have Fi_w138_8 := Fi_c90_5.other Ww138_8 (Or.inl ne_c90_5_bo75_3)
  have Ebc90_5_w138_8 := Eac90_5.wr Ww138_8
  have Vw138_8 : Arv Z hw138_8 bc90_5 ka25_1 .int (1 : Int32) [(.int (x0 ^^^ (1 : Int32)))] (.int (0 : Int32)) := Arv.set Arw138_8 qw138_8 Sw138_8 Mw138_8 Hw138_8 Gw138_8 rfl Ww138_8 0 rfl (Nat.le_of_ble_eq_true rfl)
  have Nw138_8 := Fr.snoc Xw138_8 Nc116_6 gb_bc90_5
  show Runs p e below s _ _ _ (Tw138_8.setTop (mkF m 139 #[.val (.int x0), .val (.int x1), .val (.int x2), .val (.int x3), .val (.int x4), .val (.int (1 : Int32)), .val (.ref ba25_1), .val (.ref bo75_3), .val (.ref bc90_5), .unset] []))
  refine Runs.go (fun _ => XS.aload Xw138_8.here hx rfl (hb hby at_139) rfl rfl) ?_
  show Runs p e below s _ _ _ (Tw138_8.setTop (mkF m 141 #[.val (.int x0), .val (.int x1), .val (.int x2), .val (.int x3), .val (.int x4), .val (.int (1 : Int32)), .val (.ref ba25_1), .val (.ref bo75_3), .val (.ref bc90_5), .unset] [(.ref bc90_5)]))
  refine Runs.go (fun _ => XS.iload Xw138_8.here hx rfl (hb hby at_141) rfl) ?_
  show Runs p e below s _ _ _ (Tw138_8.setTop (mkF m 143 #[.val (.int x0), .val (.int x1), .val (.int x2), .val (.int x3), .val (.int x4), .val (.int (1 : Int32)), .val (.ref ba25_1), .val (.ref bo75_3), .val (.ref bc90_5), .unset] [(.int (1 : Int32)), (.ref bc90_5)]))
  refine Runs.go (fun _ => XS.iconst Xw138_8.here hx rfl (hb hby at_143)) ?_
  show Runs p e below s _ _ _ (Tw138_8.setTop (mkF m 144 #[.val (.int x0), .val (.int x1), .val (.int x2), .val (.int x3), .val (.int x4), .val (.int (1 : Int32)), .val (.ref ba25_1), .val (.ref bo75_3), .val (.ref bc90_5), .unset] [(.int (1 : Int32)), (.int (1 : Int32)), (.ref bc90_5)]))
  refine Runs.go (fun _ => XS.isub Xw138_8.here hx rfl (hb hby at_144) rfl) ?_
  show Runs p e below s _ _ _ (Tw138_8.setTop (mkF m 145 #[.val (.int x0), .val (.int x1), .val (.int x2), .val (.int x3), .val (.int x4), .val (.int (1 : Int32)), .val (.ref ba25_1), .val (.ref bo75_3), .val (.ref bc90_5), .unset] [(.int ((1 : Int32) - (1 : Int32))), (.ref bc90_5)]))
  refine Runs.go (fun _ => XS.aload Xw138_8.here hx rfl (hb hby at_145) rfl rfl) ?_
  show Runs p e below s _ _ _ (Tw138_8.setTop (mkF m 147 #[.val (.int x0), .val (.int x1), .val (.int x2), .val (.int x3), .val (.int x4), .val (.int (1 : Int32)), .val (.ref ba25_1), .val (.ref bo75_3), .val (.ref bc90_5), .unset] [(.ref bc90_5), (.int ((1 : Int32) - (1 : Int32))), (.ref bc90_5)]))
  refine Runs.go (fun _ => XS.iload Xw138_8.here hx rfl (hb hby at_147) rfl) ?_
  show Runs p e below s _ _ _ (Tw138_8.setTop (mkF m 149 #[.val (.int x0), .val (.int x1), .val (.int x2), .val (.int x3), .val (.int x4), .val (.int (1 : Int32)), .val (.ref ba25_1), .val (.ref bo75_3), .val (.ref bc90_5), .unset] [(.int (1 : Int32)), (.ref bc90_5), (.int ((1 : Int32) - (1 : Int32))), (.ref bc90_5)]))
  refine Runs.go (fun _ => XS.iconst Xw138_8.here hx rfl (hb hby at_149)) ?_
  show Runs p e below s _ _ _ (Tw138_8.setTop (mkF m 150 #[.val (.int x0), .val (.int x1), .val (.int x2), .val (.int x3), .val (.int x4), .val (.int (1 : Int32)), .val (.ref ba25_1), .val (.ref bo75_3), .val (.ref bc90_5), .unset] [(.int (1 : Int32)), (.int (1 : Int32)), (.ref bc90_5), (.int ((1 : Int32) - (1 : Int32))), (.ref bc90_5)]))
  refine Runs.go (fun _ => XS.isub Xw138_8.here hx rfl (hb hby at_150) rfl) ?_
  show Runs p e below s _ _ _ (Tw138_8.setTop (mkF m 151 #[.val (.int x0), .val (.int x1), .val (.int x2), .val (.int x3), .val (.int x4), .val (.int (1 : Int32)), .val (.ref ba25_1), .val (.ref bo75_3), .val (.ref bc90_5), .unset] [(.int ((1 : Int32) - (1 : Int32))), (.ref bc90_5), (.int ((1 : Int32) - (1 : Int32))), (.ref bc90_5)]))
  have VCr151_9 := Vw138_8
  obtain ⟨clr151_9, Arr151_9, -, Sr151_9, Mr151_9, Hr151_9, -⟩ := VCr151_9
  have hinr151_9 : ¬ (((1 : Int32) - (1 : Int32)) < 0 ∨ clr151_9.slots.size ≤ (((1 : Int32) - (1 : Int32))).toNatClampNeg) := inb_of Sr151_9 ⟨by decide, by decide⟩
  have hatr151_9 : clr151_9.slots[(((1 : Int32) - (1 : Int32))).toNatClampNeg]? = some (.int (x0 ^^^ (1 : Int32))) := Has.at Hr151_9 hinr151_9 rfl
  refine Runs.go (Xw138_8.iaload hx (j := ((1 : Int32) - (1 : Int32))) (v := (.int (x0 ^^^ (1 : Int32)))) (by rw [ew138_8]; exact Arr151_9.1) (State.isArrayOf_alike hZ.alike Arr151_9.2.1) Arr151_9.2.2 hinr151_9 hatr151_9 (g := (mkF m 151 #[.val (.int x0), .val (.int x1), .val (.int x2), .val (.int x3), .val (.int x4), .val (.int (1 : Int32)), .val (.ref ba25_1), .val (.ref bo75_3), .val (.ref bc90_5), .unset] [(.int ((1 : Int32) - (1 : Int32))), (.ref bc90_5), (.int ((1 : Int32) - (1 : Int32))), (.ref bc90_5)])) rfl rfl (hb hby at_151)) ?_
  show Runs p e below s _ _ _ (Tw138_8.setTop (mkF m 152 #[.val (.int x0), .val (.int x1), .val (.int x2), .val (.int x3), .val (.int x4), .val (.int (1 : Int32)), .val (.ref ba25_1), .val (.ref bo75_3), .val (.ref bc90_5), .unset] [(.int (x0 ^^^ (1 : Int32))), (.int ((1 : Int32) - (1 : Int32))), (.ref bc90_5)]))
  refine Runs.go (fun _ => XS.iconst Xw138_8.here hx rfl (hb hby at_152)) ?_
  show Runs p e below s _ _ _ (Tw138_8.setTop (mkF m 153 #[.val (.int x0), .val (.int x1), .val (.int x2), .val (.int x3), .val (.int x4), .val (.int (1 : Int32)), .val (.ref ba25_1), .val (.ref bo75_3), .val (.ref bc90_5), .unset] [(.int (2 : Int32)), (.int (x0 ^^^ (1 : Int32))), (.int ((1 : Int32) - (1 : Int32))), (.ref bc90_5)]))
  refine Runs.go (fun _ => XS.ixor Xw138_8.here hx rfl (hb hby at_153) rfl) ?_
  show Runs p e below s _ _ _ (Tw138_8.setTop (mkF m 154 #[.val (.int x0), .val (.int x1), .val (.int x2), .val (.int x3), .val (.int x4), .val (.int (1 : Int32)), .val (.ref ba25_1), .val (.ref bo75_3), .val (.ref bc90_5), .unset] [(.int ((x0 ^^^ (1 : Int32)) ^^^ (2 : Int32))), (.int ((1 : Int32) - (1 : Int32))), (.ref bc90_5)]))
  have VCw154_10 := Vw138_8
  obtain ⟨clw154_10, Arw154_10, qw154_10, Sw154_10, Mw154_10, Hw154_10, Gw154_10⟩ := VCw154_10
  have hinw154_10 : ¬ (((1 : Int32) - (1 : Int32)) < 0 ∨ clw154_10.slots.size ≤ (((1 : Int32) - (1 : Int32))).toNatClampNeg) := inb_of Sw154_10 ⟨by decide, by decide⟩
  obtain ⟨Tw154_10, hw154_10, Xw154_10, ew154_10, Ww154_10, stw154_10⟩ := stI Xw138_8 hx hZ ew138_8 Arw154_10 (j := ((1 : Int32) - (1 : Int32))) hinw154_10 (g := (mkF m 154 #[.val (.int x0), .val (.int x1), .val (.int x2), .val (.int x3), .val (.int x4), .val (.int (1 : Int32)), .val (.ref ba25_1), .val (.ref bo75_3), .val (.ref bc90_5), .unset] [(.int ((x0 ^^^ (1 : Int32)) ^^^ (2 : Int32))), (.int ((1 : Int32) - (1 : Int32))), (.ref bc90_5)])) rfl rfl (hb hby at_154)
  refine Runs.go stw154_10 ?_
  have hnw154_10 : n0 ≤ hw154_10.size := by rw [Wr.size Ww154_10]; exact hnw138_8
  have Eba25_1_w154_10 := Eba25_1_w138_8.wr Ww154_10
  have Vba25_1_w154_10 := Vba25_1_w138_8.other Ww154_10 ne_c90_5_ba25_1
  have Eo_w154_10 := Eo_w138_8.wr Ww154_10
  have Fo_w154_10 := Fo_w138_8.other Ww154_10 (Or.inl ne_c90_5_bo75_3)
  have Fi_w154_10 := Fi_w138_8.other Ww154_10 (Or.inl ne_c90_5_bo75_3)
  have Ebc90_5_w154_10 := Ebc90_5_w138_8.wr Ww154_10
  have Vw154_10 : Arv Z hw154_10 bc90_5 ka25_1 .int (1 : Int32) [(.int ((x0 ^^^ (1 : Int32)) ^^^ (2 : Int32)))] (.int (0 : Int32)) := Arv.set Arw154_10 qw154_10 Sw154_10 Mw154_10 Hw154_10 Gw154_10 rfl Ww154_10 0 rfl (Nat.le_of_ble_eq_true rfl)
  have Nw154_10 := Fr.snoc Xw154_10 Nw138_8 gb_bc90_5
  show Runs p e below s _ _ _ (Tw154_10.setTop (mkF m 155 #[.val (.int x0), .val (.int x1), .val (.int x2), .val (.int x3), .val (.int x4), .val (.int (1 : Int32)), .val (.ref ba25_1), .val (.ref bo75_3), .val (.ref bc90_5), .unset] []))
  refine Runs.go (fun _ => XS.aload Xw154_10.here hx rfl (hb hby at_155) rfl rfl) ?_
  show Runs p e below s _ _ _ (Tw154_10.setTop (mkF m 157 #[.val (.int x0), .val (.int x1), .val (.int x2), .val (.int x3), .val (.int x4), .val (.int (1 : Int32)), .val (.ref ba25_1), .val (.ref bo75_3), .val (.ref bc90_5), .unset] [(.ref bo75_3)]))
  obtain ⟨cqc157_11, kqc157_11, qc157_11a, qc157_11b, qc157_11c⟩ := isOf hZ ew154_10 Eo_w154_10
  obtain ⟨_, _, ⟨Tc157_11, Lc157_11, kc157_11, nc157_11⟩, -, Xc157_11, ⟨Lcc157_11, hQc157_11, lc157_11, yc157_11, zc157_11⟩, stc157_11⟩ := Xw154_10.virtualBack hx (y := (⟨"com/example/quillon/quillon/core/Prioritization", "order", "()[I"⟩ : MethodName)) (z := (⟨"com/example/quillon/quillon/core/Prioritization", "order", "()[I"⟩ : MethodName)) hown (mvT hZ (hw _ (List.mem_of_getElem? (i := 14) rfl))) (mvT hZ (hw _ (List.mem_of_getElem? (i := 15) rfl))) (notFace_of_selects (args := #[]) (mvT hZ (hw _ (List.mem_of_getElem? (i := 17) rfl)))) (mvT hZ (hw _ (List.mem_of_getElem? (i := 17) rfl))) (mvT hZ (hw _ (List.mem_of_getElem? (i := 16) rfl))) (by decide) (backOf (W := 0) (rm3 l Z a0 hw [] bo75_3 ba25_1 ka25_1 (1 : Int32) [(.int x0)] hw154_10 n0 hnw154_10 Eo_w154_10 Fo_w154_10 Vba25_1_w154_10 Eba25_1_w154_10 (by decide)) hZ (hw _ (List.mem_of_getElem? (i := 18) rfl)) (hw _ (List.mem_of_getElem? (i := 3) rfl)) (by decide) (by decide)) qc157_11a qc157_11c (g := (mkF m 157 #[.val (.int x0), .val (.int x1), .val (.int x2), .val (.int x3), .val (.int x4), .val (.int (1 : Int32)), .val (.ref ba25_1), .val (.ref bo75_3), .val (.ref bc90_5), .unset] [(.ref bo75_3)])) rfl (by rw [hml]; rfl) (Steps.refl _) (argsL := []) (rest := []) (lenOf pd_2 rfl) rfl (by show 2 * 0 + _ ≤ _; exact Nat.le_of_eq rfl) (hb hby at_157) (fun _ _ => ⟨rfl, ew154_10, (by decide : 3 + 1 ≤ _), (by decide : 6 + 3 ≤ _)⟩)
  dsimp only [Pt.U, Pt.locs, Pt.cells, Pt.slots] at Xc157_11 lc157_11 yc157_11 zc157_11 stc157_11 hQc157_11
  subst lc157_11 yc157_11 zc157_11
  obtain ⟨bc157_11, rfl, Nc157_11q, gc157_11, Ec157_11, Vc157_11, Eac157_11⟩ := hQc157_11
  refine Runs.go (fun _ => stc157_11.trans) ?_
  have Nc157_11 := Fr.app Nw154_10 Nc157_11q
  have ne_c157_11_ba25_1 : ba25_1 ≠ bc157_11 := Nat.ne_of_lt (Nat.lt_of_lt_of_le Eba25_1_w154_10.lt (Nat.le_of_eq gc157_11.symm))
  have ne_c157_11_bo75_3 : bo75_3 ≠ bc157_11 := Nat.ne_of_lt (Nat.lt_of_lt_of_le Eo_w154_10.lt (Nat.le_of_eq gc157_11.symm))
  have ne_c157_11_bc90_5 : bc90_5 ≠ bc157_11 := Nat.ne_of_lt (Nat.lt_of_lt_of_le Vw154_10.lt (Nat.le_of_eq gc157_11.symm))
  have gb_bc157_11 : n0 ≤ bc157_11 := Nat.le_trans hnw154_10 (Nat.le_of_eq gc157_11.symm)
  have Eba25_1_c157_11 := Eba25_1_w154_10.ext Ec157_11
  have Vba25_1_c157_11 := Vba25_1_w154_10.ext Ec157_11
  have Eo_c157_11 := Eo_w154_10.ext Ec157_11
  have Fo_c157_11 := Fo_w154_10.ext Ec157_11
  have Fi_c157_11 := Fi_w154_10.ext Ec157_11
  have Vbc90_5_c157_11 := Vw154_10.ext Ec157_11
  have Ebc90_5_c157_11 := Ebc90_5_w154_10.ext Ec157_11
  have hzc157_11 : n0 ≤ Tc157_11.heap.size := Nat.le_trans hnw154_10 Ec157_11.1
  show Runs p e below s _ _ _ (Tc157_11.setTop (mkF m 160 #[.val (.int x0), .val (.int x1), .val (.int x2), .val (.int x3), .val (.int x4), .val (.int (1 : Int32)), .val (.ref ba25_1), .val (.ref bo75_3), .val (.ref bc90_5), .unset] [(.ref bc157_11)]))
  refine Runs.go (fun _ => XS.astore Xc157_11.here hx rfl (hb hby at_160) rfl rfl (l' := #[.val (.int x0), .val (.int x1), .val (.int x2), .val (.int x3), .val (.int x4), .val (.int (1 : Int32)), .val (.ref ba25_1), .val (.ref bo75_3), .val (.ref bc90_5), .val (.ref bc157_11)]) rfl) ?_
  show Runs p e below s _ _ _ (Tc157_11.setTop (mkF m 162 #[.val (.int x0), .val (.int x1), .val (.int x2), .val (.int x3), .val (.int x4), .val (.int (1 : Int32)), .val (.ref ba25_1), .val (.ref bo75_3), .val (.ref bc90_5), .val (.ref bc157_11)] []))
  refine Runs.go (fun _ => XS.aload Xc157_11.here hx rfl (hb hby at_162) rfl rfl) ?_
  show Runs p e below s _ _ _ (Tc157_11.setTop (mkF m 164 #[.val (.int x0), .val (.int x1), .val (.int x2), .val (.int x3), .val (.int x4), .val (.int (1 : Int32)), .val (.ref ba25_1), .val (.ref bo75_3), .val (.ref bc90_5), .val (.ref bc157_11)] [(.ref bc157_11)]))
  refine Runs.go (fun _ => XS.ifnullNo Xc157_11.here hx rfl (hb hby at_164) rfl) ?_
  show Runs p e below s _ _ _ (Tc157_11.setTop (mkF m 167 #[.val (.int x0), .val (.int x1), .val (.int x2), .val (.int x3), .val (.int x4), .val (.int (1 : Int32)), .val (.ref ba25_1), .val (.ref bo75_3), .val (.ref bc90_5), .val (.ref bc157_11)] []))
  refine Runs.go (fun _ => XS.aload Xc157_11.here hx rfl (hb hby at_167) rfl rfl) ?_
  show Runs p e below s _ _ _ (Tc157_11.setTop (mkF m 169 #[.val (.int x0), .val (.int x1), .val (.int x2), .val (.int x3), .val (.int x4), .val (.int (1 : Int32)), .val (.ref ba25_1), .val (.ref bo75_3), .val (.ref bc90_5), .val (.ref bc157_11)] [(.ref bc157_11)]))
  refine Runs.go (fun _ => XS.aload Xc157_11.here hx rfl (hb hby at_169) rfl rfl) ?_
  show Runs p e below s _ _ _ (Tc157_11.setTop (mkF m 171 #[.val (.int x0), .val (.int x1), .val (.int x2), .val (.int x3), .val (.int x4), .val (.int (1 : Int32)), .val (.ref ba25_1), .val (.ref bo75_3), .val (.ref bc90_5), .val (.ref bc157_11)] [(.ref ba25_1), (.ref bc157_11)]))
  refine Runs.go (fun _ => Jvm.RoadKit.acmp (g := (mkF m 171 #[.val (.int x0), .val (.int x1), .val (.int x2), .val (.int x3), .val (.int x4), .val (.int (1 : Int32)), .val (.ref ba25_1), .val (.ref bo75_3), .val (.ref bc90_5), .val (.ref bc157_11)] [(.ref ba25_1), (.ref bc157_11)])) Xc157_11 hx rfl rfl rfl (pc0 := 171) (pc' := 174) (same := false) rfl (hb hby at_171) rfl (decide_eq_false fun q => (Ne.symm ne_c157_11_ba25_1) (Value.ref.inj q)) (by decide) (by decide)) ?_
  show Runs p e below s _ _ _ (Tc157_11.setTop (mkF m 174 #[.val (.int x0), .val (.int x1), .val (.int x2), .val (.int x3), .val (.int x4), .val (.int (1 : Int32)), .val (.ref ba25_1), .val (.ref bo75_3), .val (.ref bc90_5), .val (.ref bc157_11)] []))
  refine Runs.go (fun _ => XS.aload Xc157_11.here hx rfl (hb hby at_174) rfl rfl) ?_
  show Runs p e below s _ _ _ (Tc157_11.setTop (mkF m 176 #[.val (.int x0), .val (.int x1), .val (.int x2), .val (.int x3), .val (.int x4), .val (.int (1 : Int32)), .val (.ref ba25_1), .val (.ref bo75_3), .val (.ref bc90_5), .val (.ref bc157_11)] [(.ref bc157_11)]))
  refine Runs.go (fun _ => XS.aload Xc157_11.here hx rfl (hb hby at_176) rfl rfl) ?_
  show Runs p e below s _ _ _ (Tc157_11.setTop (mkF m 178 #[.val (.int x0), .val (.int x1), .val (.int x2), .val (.int x3), .val (.int x4), .val (.int (1 : Int32)), .val (.ref ba25_1), .val (.ref bo75_3), .val (.ref bc90_5), .val (.ref bc157_11)] [(.ref bc90_5), (.ref bc157_11)]))
  refine Runs.go (fun _ => Jvm.RoadKit.acmp (g := (mkF m 178 #[.val (.int x0), .val (.int x1), .val (.int x2), .val (.int x3), .val (.int x4), .val (.int (1 : Int32)), .val (.ref ba25_1), .val (.ref bo75_3), .val (.ref bc90_5), .val (.ref bc157_11)] [(.ref bc90_5), (.ref bc157_11)])) Xc157_11 hx rfl rfl rfl (pc0 := 178) (pc' := 183) (same := false) rfl (hb hby at_178) rfl (decide_eq_false fun q => (Ne.symm ne_c157_11_bc90_5) (Value.ref.inj q)) (by decide) (by decide)) ?_
  show Runs p e below s _ _ _ (Tc157_11.setTop (mkF m 183 #[.val (.int x0), .val (.int x1), .val (.int x2), .val (.int x3), .val (.int x4), .val (.int (1 : Int32)), .val (.ref ba25_1), .val (.ref bo75_3), .val (.ref bc90_5), .val (.ref bc157_11)] []))
  refine Runs.go (fun _ => XS.aload Xc157_11.here hx rfl (hb hby at_183) rfl rfl) ?_
  show Runs p e below s _ _ _ (Tc157_11.setTop (mkF m 185 #[.val (.int x0), .val (.int x1), .val (.int x2), .val (.int x3), .val (.int x4), .val (.int (1 : Int32)), .val (.ref ba25_1), .val (.ref bo75_3), .val (.ref bc90_5), .val (.ref bc157_11)] [(.ref bc157_11)]))
  refine Runs.go (fun _ => XS.iload Xc157_11.here hx rfl (hb hby at_185) rfl) ?_
  show Runs p e below s _ _ _ (Tc157_11.setTop (mkF m 187 #[.val (.int x0), .val (.int x1), .val (.int x2), .val (.int x3), .val (.int x4), .val (.int (1 : Int32)), .val (.ref ba25_1), .val (.ref bo75_3), .val (.ref bc90_5), .val (.ref bc157_11)] [(.int (1 : Int32)), (.ref bc157_11)]))
  refine Runs.go (fun _ => XS.iloadN Xc157_11.here hx rfl (hb hby at_187) rfl) ?_
  show Runs p e below s _ _ _ (Tc157_11.setTop (mkF m 188 #[.val (.int x0), .val (.int x1), .val (.int x2), .val (.int x3), .val (.int x4), .val (.int (1 : Int32)), .val (.ref ba25_1), .val (.ref bo75_3), .val (.ref bc90_5), .val (.ref bc157_11)] [(.int x0), (.int (1 : Int32)), (.ref bc157_11)]))
  refine Runs.go (fun _ => XS.iloadN Xc157_11.here hx rfl (hb hby at_188) rfl) ?_
  show Runs p e below s _ _ _ (Tc157_11.setTop (mkF m 189 #[.val (.int x0), .val (.int x1), .val (.int x2), .val (.int x3), .val (.int x4), .val (.int (1 : Int32)), .val (.ref ba25_1), .val (.ref bo75_3), .val (.ref bc90_5), .val (.ref bc157_11)] [(.int x1), (.int x0), (.int (1 : Int32)), (.ref bc157_11)]))
  refine Runs.go (fun _ => XS.iloadN Xc157_11.here hx rfl (hb hby at_189) rfl) ?_
  show Runs p e below s _ _ _ (Tc157_11.setTop (mkF m 190 #[.val (.int x0), .val (.int x1), .val (.int x2), .val (.int x3), .val (.int x4), .val (.int (1 : Int32)), .val (.ref ba25_1), .val (.ref bo75_3), .val (.ref bc90_5), .val (.ref bc157_11)] [(.int x2), (.int x1), (.int x0), (.int (1 : Int32)), (.ref bc157_11)]))
  obtain ⟨_, _, ⟨Tc190_12, Lc190_12, kc190_12, nc190_12⟩, -, Xc190_12, ⟨Lcc190_12, hQc190_12, lc190_12, yc190_12, zc190_12⟩, stc190_12⟩ := Jvm.LawKit.callS Xc157_11 hx (y := (⟨"com/example/quillon/quillon/core/PrioritizationOrderPinLaw", "same", "([IIIII)Z"⟩ : MethodName)) hown (mvT hZ (hw _ (List.mem_of_getElem? (i := 32) rfl))) (mvT hZ (hw _ (List.mem_of_getElem? (i := 33) rfl))) (mvT hZ (hw _ (List.mem_of_getElem? (i := 34) rfl))) (mvT hZ (hw _ (List.mem_of_getElem? (i := 35) rfl))) (by decide) (backOf (W := 0) (rm5b l Z a0 hw [] bc157_11 x0 x1 x2 ka25_1 Tc157_11.heap n0 hzc157_11 Vc157_11) hZ (hw _ (List.mem_of_getElem? (i := 35) rfl)) (hw _ (List.mem_of_getElem? (i := 34) rfl)) (by decide) (by decide)) (g := (mkF m 190 #[.val (.int x0), .val (.int x1), .val (.int x2), .val (.int x3), .val (.int x4), .val (.int (1 : Int32)), .val (.ref ba25_1), .val (.ref bo75_3), .val (.ref bc90_5), .val (.ref bc157_11)] [(.int x2), (.int x1), (.int x0), (.int (1 : Int32)), (.ref bc157_11)])) rfl (by rw [hml]; rfl) (argsL := [(.ref bc157_11), (.int (1 : Int32)), (.int x0), (.int x1), (.int x2)]) (rest := []) (lenOf pd_5 rfl) rfl (by show 2 * 0 + _ ≤ _; exact Nat.le_of_eq rfl) (hb hby at_190) (fun _ _ => ⟨rfl, rfl, (by decide : 4 + 0 ≤ _), (by decide : 9 + 0 ≤ _)⟩)
  dsimp only [Pt.U, Pt.locs, Pt.cells, Pt.slots] at Xc190_12 lc190_12 yc190_12 zc190_12 stc190_12 hQc190_12
  subst lc190_12 yc190_12 zc190_12
  obtain ⟨rfl, rfl, ec190_12⟩ := hQc190_12
  refine Runs.go stc190_12 ?_
  have Nc190_12 := Fr.app Nc157_11 (Fr.nil n0)
  show Runs p e below s _ _ _ (Tc190_12.setTop (mkF m 193 #[.val (.int x0), .val (.int x1), .val (.int x2), .val (.int x3), .val (.int x4), .val (.int (1 : Int32)), .val (.ref ba25_1), .val (.ref bo75_3), .val (.ref bc90_5), .val (.ref bc157_11)] [(.int (1 : Int32))]))
  refine Runs.go (fun _ => XS.ifNo Xc190_12.here hx rfl (hb hby at_193) rfl ((if0 _ _).trans (feq ((by decide) : ¬ ((1 : Int32) = (0 : Int32)))).1)) ?_
  show Runs p e below s _ _ _ (Tc190_12.setTop (mkF m 196 #[.val (.int x0), .val (.int x1), .val (.int x2), .val (.int x3), .val (.int x4), .val (.int (1 : Int32)), .val (.ref ba25_1), .val (.ref bo75_3), .val (.ref bc90_5), .val (.ref bc157_11)] []))
  refine Runs.go (fun _ => XS.aload Xc190_12.here hx rfl (hb hby at_196) rfl rfl) ?_
  show Runs p e below s _ _ _ (Tc190_12.setTop (mkF m 198 #[.val (.int x0), .val (.int x1), .val (.int x2), .val (.int x3), .val (.int x4), .val (.int (1 : Int32)), .val (.ref ba25_1), .val (.ref bo75_3), .val (.ref bc90_5), .val (.ref bc157_11)] [(.ref ba25_1)]))
  refine Runs.go (fun _ => XS.iload Xc190_12.here hx rfl (hb hby at_198) rfl) ?_
  show Runs p e below s _ _ _ (Tc190_12.setTop (mkF m 200 #[.val (.int x0), .val (.int x1), .val (.int x2), .val (.int x3), .val (.int x4), .val (.int (1 : Int32)), .val (.ref ba25_1), .val (.ref bo75_3), .val (.ref bc90_5), .val (.ref bc157_11)] [(.int (1 : Int32)), (.ref ba25_1)]))
  refine Runs.go (fun _ => XS.iloadN Xc190_12.here hx rfl (hb hby at_200) rfl) ?_
  show Runs p e below s _ _ _ (Tc190_12.setTop (mkF m 201 #[.val (.int x0), .val (.int x1), .val (.int x2), .val (.int x3), .val (.int x4), .val (.int (1 : Int32)), .val (.ref ba25_1), .val (.ref bo75_3), .val (.ref bc90_5), .val (.ref bc157_11)] [(.int x0), (.int (1 : Int32)), (.ref ba25_1)]))
  refine Runs.go (fun _ => XS.iloadN Xc190_12.here hx rfl (hb hby at_201) rfl) ?_
  show Runs p e below s _ _ _ (Tc190_12.setTop (mkF m 202 #[.val (.int x0), .val (.int x1), .val (.int x2), .val (.int x3), .val (.int x4), .val (.int (1 : Int32)), .val (.ref ba25_1), .val (.ref bo75_3), .val (.ref bc90_5), .val (.ref bc157_11)] [(.int x1), (.int x0), (.int (1 : Int32)), (.ref ba25_1)]))
  refine Runs.go (fun _ => XS.iloadN Xc190_12.here hx rfl (hb hby at_202) rfl) ?_
  show Runs p e below s _ _ _ (Tc190_12.setTop (mkF m 203 #[.val (.int x0), .val (.int x1), .val (.int x2), .val (.int x3), .val (.int x4), .val (.int (1 : Int32)), .val (.ref ba25_1), .val (.ref bo75_3), .val (.ref bc90_5), .val (.ref bc157_11)] [(.int x2), (.int x1), (.int x0), (.int (1 : Int32)), (.ref ba25_1)]))
  obtain ⟨_, _, ⟨Tc203_13, Lc203_13, kc203_13, nc203_13⟩, -, Xc203_13, ⟨Lcc203_13, hQc203_13, lc203_13, yc203_13, zc203_13⟩, stc203_13⟩ := Jvm.LawKit.callS Xc190_12 hx (y := (⟨"com/example/quillon/quillon/core/PrioritizationOrderPinLaw", "same", "([IIIII)Z"⟩ : MethodName)) hown (mvT hZ (hw _ (List.mem_of_getElem? (i := 32) rfl))) (mvT hZ (hw _ (List.mem_of_getElem? (i := 33) rfl))) (mvT hZ (hw _ (List.mem_of_getElem? (i := 34) rfl))) (mvT hZ (hw _ (List.mem_of_getElem? (i := 35) rfl))) (by decide) (backOf (W := 0) (rm5b l Z a0 hw [] ba25_1 x0 x1 x2 ka25_1 Tc157_11.heap n0 hzc157_11 Vba25_1_c157_11) hZ (hw _ (List.mem_of_getElem? (i := 35) rfl)) (hw _ (List.mem_of_getElem? (i := 34) rfl)) (by decide) (by decide)) (g := (mkF m 203 #[.val (.int x0), .val (.int x1), .val (.int x2), .val (.int x3), .val (.int x4), .val (.int (1 : Int32)), .val (.ref ba25_1), .val (.ref bo75_3), .val (.ref bc90_5), .val (.ref bc157_11)] [(.int x2), (.int x1), (.int x0), (.int (1 : Int32)), (.ref ba25_1)])) rfl (by rw [hml]; rfl) (argsL := [(.ref ba25_1), (.int (1 : Int32)), (.int x0), (.int x1), (.int x2)]) (rest := []) (lenOf pd_5 rfl) rfl (by show 2 * 0 + _ ≤ _; exact Nat.le_of_eq rfl) (hb hby at_203) (fun _ _ => ⟨rfl, ec190_12, (by decide : 4 + 0 ≤ _), (by decide : 9 + 0 ≤ _)⟩)
  dsimp only [Pt.U, Pt.locs, Pt.cells, Pt.slots] at Xc203_13 lc203_13 yc203_13 zc203_13 stc203_13 hQc203_13
  subst lc203_13 yc203_13 zc203_13
  obtain ⟨rfl, rfl, ec203_13⟩ := hQc203_13
  refine Runs.go stc203_13 ?_
  have Nc203_13 := Fr.app Nc190_12 (Fr.nil n0)
  show Runs p e below s _ _ _ (Tc203_13.setTop (mkF m 206 #[.val (.int x0), .val (.int x1), .val (.int x2), .val (.int x3), .val (.int x4), .val (.int (1 : Int32)), .val (.ref ba25_1), .val (.ref bo75_3), .val (.ref bc90_5), .val (.ref bc157_11)] [(.int (1 : Int32))]))
  refine Runs.go (fun _ => XS.ifNo Xc203_13.here hx rfl (hb hby at_206) rfl ((if0 _ _).trans (feq ((by decide) : ¬ ((1 : Int32) = (0 : Int32)))).1)) ?_
  show Runs p e below s _ _ _ (Tc203_13.setTop (mkF m 209 #[.val (.int x0), .val (.int x1), .val (.int x2), .val (.int x3), .val (.int x4), .val (.int (1 : Int32)), .val (.ref ba25_1), .val (.ref bo75_3), .val (.ref bc90_5), .val (.ref bc157_11)] []))
  refine Runs.go (fun _ => XS.iconst Xc203_13.here hx rfl (hb hby at_209)) ?_
  show Runs p e below s _ _ _ (Tc203_13.setTop (mkF m 210 #[.val (.int x0), .val (.int x1), .val (.int x2), .val (.int x3), .val (.int x4), .val (.int (1 : Int32)), .val (.ref ba25_1), .val (.ref bo75_3), .val (.ref bc90_5), .val (.ref bc157_11)] [(.int (1 : Int32))]))
  refine Runs.go (fun _ => XS.goto Xc203_13.here hx rfl (pc0 := 210) (pc' := 214) rfl (hb hby at_210) (by decide) (by decide)) ?_
  show Runs p e below s _ _ _ (Tc203_13.setTop (mkF m 214 #[.val (.int x0), .val (.int x1), .val (.int x2), .val (.int x3), .val (.int x4), .val (.int (1 : Int32)), .val (.ref ba25_1), .val (.ref bo75_3), .val (.ref bc90_5), .val (.ref bc157_11)] [(.int (1 : Int32))]))
  exact Runs.endN Xc203_13 hx (t := .boolean) Bd.returns (by simp) Bd.notSynchronized (hb hby at_214) ⟨rfl, Nc203_13⟩ (by decide) (by decide)
set_option maxRecDepth 65536 in
set_option maxHeartbeats 40000000 in
theorem rm0c (l : Launch) (Z : State) (a0 : Array Value) (hw : ∀ d ∈ tables_1, d.before a0 Z = true) (ws : List Jvm.Cond) (x0 : Int32) (x1 : Int32) (x2 : Int32) (x3 : Int32) (x4 : Int32) (h0 : Heap) (n0 : Nat) (hn0 : n0 ≤ h0.size) (hp : (x3 &&& (3 : Int32)) = (2 : Int32)) :
    MetFree l x (head1 (Jvm.Cond.code x code maxLocals ret :: ws) room_1) (fun a U => a = #[(.int x0), (.int x1), (.int x2), (.int x3), (.int x4)] ∧ Z.Warmed39 U.vm ∧ U.heap = h0) (fun _ _ _ _ _ => True) (fun _ U o U' => ∃ v L, o = .returned v ∧ QH (.int (1 : Int32)) n0 v U'.heap L ∧ FrameEnd U o U' L room_1.cells room_1.slots) := by
  refine MetFree.of_bodySF (plainFor_of_name pn_0) hisR ?_
  intro p e s m args below meth c s₁ Bd hml0 hP hK
  obtain ⟨rfl, hZ, hh⟩ := hP
  have hx := Bd.exec
  have hby := Bd.bytes
  have hml : c.maxLocals = 10 := hml0
  have hown : s.vm.findClass "com/example/quillon/quillon/core/PrioritizationOrderPinLaw" = some m.cls := findClass_of_methodNamed Bd.named
  have X : Stand p l e room_1 s m #[(.int x0), (.int x1), (.int x2), (.int x3), (.int x4)] below meth c s₁ [] 0 0 := Stand.of_body Bd
  have eT : s₁.heap = h0 := by rw [← hh, Bd.state]; rfl
  have N := Fr.nil n0
  show Runs p e below s (QH (.int (1 : Int32)) n0) room_1.cells room_1.slots (s₁.setTop (entryFrame m #[(.int x0), (.int x1), (.int x2), (.int x3), (.int x4)] maxLocals))
  rw [ef_0 m x0 x1 x2 x3 x4]
  refine Runs.go (fun _ => XS.iloadN X.here hx rfl (hb hby at_0) rfl) ?_
  show Runs p e below s _ _ _ (s₁.setTop (mkF m 1 #[.val (.int x0), .val (.int x1), .val (.int x2), .val (.int x3), .val (.int x4), .unset, .unset, .unset, .unset, .unset] [(.int x3)]))
  refine Runs.go (fun _ => XS.iconst X.here hx rfl (hb hby at_1)) ?_
  show Runs p e below s _ _ _ (s₁.setTop (mkF m 2 #[.val (.int x0), .val (.int x1), .val (.int x2), .val (.int x3), .val (.int x4), .unset, .unset, .unset, .unset, .unset] [(.int (3 : Int32)), (.int x3)]))
  refine Runs.go (fun _ => XS.iand X.here hx rfl (hb hby at_2) rfl) ?_
  show Runs p e below s _ _ _ (s₁.setTop (mkF m 3 #[.val (.int x0), .val (.int x1), .val (.int x2), .val (.int x3), .val (.int x4), .unset, .unset, .unset, .unset, .unset] [(.int (x3 &&& (3 : Int32)))]))
  rw [hp]
  show Runs p e below s _ _ _ (s₁.setTop (mkF m 3 #[.val (.int x0), .val (.int x1), .val (.int x2), .val (.int x3), .val (.int x4), .unset, .unset, .unset, .unset, .unset] [(.int (2 : Int32))]))
  refine Runs.go (fun _ => XS.istore X.here hx rfl (hb hby at_3) rfl (l' := #[.val (.int x0), .val (.int x1), .val (.int x2), .val (.int x3), .val (.int x4), .val (.int (2 : Int32)), .unset, .unset, .unset, .unset]) rfl) ?_
  show Runs p e below s _ _ _ (s₁.setTop (mkF m 5 #[.val (.int x0), .val (.int x1), .val (.int x2), .val (.int x3), .val (.int x4), .val (.int (2 : Int32)), .unset, .unset, .unset, .unset] []))
  refine Runs.go (fun _ => XS.iload X.here hx rfl (hb hby at_5) rfl) ?_
  show Runs p e below s _ _ _ (s₁.setTop (mkF m 7 #[.val (.int x0), .val (.int x1), .val (.int x2), .val (.int x3), .val (.int x4), .val (.int (2 : Int32)), .unset, .unset, .unset, .unset] [(.int (2 : Int32))]))
  refine Runs.go (fun _ => XS.ifYes X.here hx rfl (pc0 := 7) (pc' := 18) rfl (hb hby at_7) rfl ((if0 _ _).trans (feq ((by decide) : ¬ ((2 : Int32) = (0 : Int32)))).2) (by decide) (by decide)) ?_
  show Runs p e below s _ _ _ (s₁.setTop (mkF m 18 #[.val (.int x0), .val (.int x1), .val (.int x2), .val (.int x3), .val (.int x4), .val (.int (2 : Int32)), .unset, .unset, .unset, .unset] []))
  refine Runs.go (fun _ => XS.iload X.here hx rfl (hb hby at_18) rfl) ?_
  show Runs p e below s _ _ _ (s₁.setTop (mkF m 20 #[.val (.int x0), .val (.int x1), .val (.int x2), .val (.int x3), .val (.int x4), .val (.int (2 : Int32)), .unset, .unset, .unset, .unset] [(.int (2 : Int32))]))
  refine Runs.go (fun _ => XS.iconst X.here hx rfl (hb hby at_20)) ?_
  show Runs p e below s _ _ _ (s₁.setTop (mkF m 21 #[.val (.int x0), .val (.int x1), .val (.int x2), .val (.int x3), .val (.int x4), .val (.int (2 : Int32)), .unset, .unset, .unset, .unset] [(.int (1 : Int32)), (.int (2 : Int32))]))
  refine Runs.go (fun _ => XS.icmpYes X.here hx rfl (pc0 := 21) (pc' := 36) rfl (hb hby at_21) rfl (feq ((by decide) : ¬ ((2 : Int32) = (1 : Int32)))).2 (by decide) (by decide)) ?_
  show Runs p e below s _ _ _ (s₁.setTop (mkF m 36 #[.val (.int x0), .val (.int x1), .val (.int x2), .val (.int x3), .val (.int x4), .val (.int (2 : Int32)), .unset, .unset, .unset, .unset] []))
  refine Runs.go (fun _ => XS.iload X.here hx rfl (hb hby at_36) rfl) ?_
  show Runs p e below s _ _ _ (s₁.setTop (mkF m 38 #[.val (.int x0), .val (.int x1), .val (.int x2), .val (.int x3), .val (.int x4), .val (.int (2 : Int32)), .unset, .unset, .unset, .unset] [(.int (2 : Int32))]))
  refine Runs.go (fun _ => XS.iconst X.here hx rfl (hb hby at_38)) ?_
  show Runs p e below s _ _ _ (s₁.setTop (mkF m 39 #[.val (.int x0), .val (.int x1), .val (.int x2), .val (.int x3), .val (.int x4), .val (.int (2 : Int32)), .unset, .unset, .unset, .unset] [(.int (2 : Int32)), (.int (2 : Int32))]))
  refine Runs.go (fun _ => XS.icmpNo X.here hx rfl (hb hby at_39) rfl (teq (rfl : (2 : Int32) = (2 : Int32))).2) ?_
  show Runs p e below s _ _ _ (s₁.setTop (mkF m 42 #[.val (.int x0), .val (.int x1), .val (.int x2), .val (.int x3), .val (.int x4), .val (.int (2 : Int32)), .unset, .unset, .unset, .unset] []))
  refine Runs.go (fun _ => XS.iconst X.here hx rfl (hb hby at_42)) ?_
  show Runs p e below s _ _ _ (s₁.setTop (mkF m 43 #[.val (.int x0), .val (.int x1), .val (.int x2), .val (.int x3), .val (.int x4), .val (.int (2 : Int32)), .unset, .unset, .unset, .unset] [(.int (2 : Int32))]))
  obtain ⟨Ta43_1, ha43_1, ka43_1, Xa43_1, ea43_1, Ea43_1, Aa43_1, Eaa43_1, sta43_1⟩ := newPE X hx hZ (hw _ (List.mem_of_getElem? (i := 0) rfl)) eT (g := (mkF m 43 #[.val (.int x0), .val (.int x1), .val (.int x2), .val (.int x3), .val (.int x4), .val (.int (2 : Int32)), .unset, .unset, .unset, .unset] [(.int (2 : Int32))])) rfl (hb hby at_43) rfl (by decide) (cap := 2) (by decide) (by decide) (by decide) (by decide) (ad := "[I") (by decide)
  obtain ⟨ba43_1, ga43_1⟩ : ∃ z, z = h0.size := ⟨_, rfl⟩
  have gb_ba43_1 : n0 ≤ ba43_1 := Nat.le_trans hn0 (Nat.le_of_eq ga43_1.symm)
  rw [← ga43_1] at Aa43_1 sta43_1 Eaa43_1
  refine Runs.go sta43_1 ?_
  have hna43_1 : n0 ≤ ha43_1.size := Nat.le_trans hn0 Ea43_1.1
  have Va43_1 : Arv Z ha43_1 ba43_1 ka43_1 .int (2 : Int32) [(.int (0 : Int32)), (.int (0 : Int32))] (.int (0 : Int32)) := (Arv.new Aa43_1 (by decide)).pad (pad_rep [] (.int (0 : Int32)) 2)
  show Runs p e below s _ _ _ (Ta43_1.setTop (mkF m 45 #[.val (.int x0), .val (.int x1), .val (.int x2), .val (.int x3), .val (.int x4), .val (.int (2 : Int32)), .unset, .unset, .unset, .unset] [(.ref ba43_1)]))
  refine Runs.go (fun _ => XS.dup Xa43_1.here hx rfl (hb hby at_45) rfl rfl) ?_
  show Runs p e below s _ _ _ (Ta43_1.setTop (mkF m 46 #[.val (.int x0), .val (.int x1), .val (.int x2), .val (.int x3), .val (.int x4), .val (.int (2 : Int32)), .unset, .unset, .unset, .unset] [(.ref ba43_1), (.ref ba43_1)]))
  refine Runs.go (fun _ => XS.iconst Xa43_1.here hx rfl (hb hby at_46)) ?_
  show Runs p e below s _ _ _ (Ta43_1.setTop (mkF m 47 #[.val (.int x0), .val (.int x1), .val (.int x2), .val (.int x3), .val (.int x4), .val (.int (2 : Int32)), .unset, .unset, .unset, .unset] [(.int (0 : Int32)), (.ref ba43_1), (.ref ba43_1)]))
  refine Runs.go (fun _ => XS.iloadN Xa43_1.here hx rfl (hb hby at_47) rfl) ?_
  show Runs p e below s _ _ _ (Ta43_1.setTop (mkF m 48 #[.val (.int x0), .val (.int x1), .val (.int x2), .val (.int x3), .val (.int x4), .val (.int (2 : Int32)), .unset, .unset, .unset, .unset] [(.int x0), (.int (0 : Int32)), (.ref ba43_1), (.ref ba43_1)]))
  have VCw48_2 := Va43_1
  obtain ⟨clw48_2, Arw48_2, qw48_2, Sw48_2, Mw48_2, Hw48_2, Gw48_2⟩ := VCw48_2
  have hinw48_2 : ¬ ((0 : Int32) < 0 ∨ clw48_2.slots.size ≤ ((0 : Int32)).toNatClampNeg) := inb_of Sw48_2 ⟨by decide, by decide⟩
  obtain ⟨Tw48_2, hw48_2, Xw48_2, ew48_2, Ww48_2, stw48_2⟩ := stI Xa43_1 hx hZ ea43_1 Arw48_2 (j := (0 : Int32)) hinw48_2 (g := (mkF m 48 #[.val (.int x0), .val (.int x1), .val (.int x2), .val (.int x3), .val (.int x4), .val (.int (2 : Int32)), .unset, .unset, .unset, .unset] [(.int x0), (.int (0 : Int32)), (.ref ba43_1), (.ref ba43_1)])) rfl rfl (hb hby at_48)
  refine Runs.go stw48_2 ?_
  have hnw48_2 : n0 ≤ hw48_2.size := by rw [Wr.size Ww48_2]; exact hna43_1
  have Eba43_1_w48_2 := Eaa43_1.wr Ww48_2
  have Vw48_2 : Arv Z hw48_2 ba43_1 ka43_1 .int (2 : Int32) [(.int x0), (.int (0 : Int32))] (.int (0 : Int32)) := Arv.set Arw48_2 qw48_2 Sw48_2 Mw48_2 Hw48_2 Gw48_2 rfl Ww48_2 0 rfl (Nat.le_of_ble_eq_true rfl)
  have Nw48_2 := Fr.snoc Xw48_2 N gb_ba43_1
  show Runs p e below s _ _ _ (Tw48_2.setTop (mkF m 49 #[.val (.int x0), .val (.int x1), .val (.int x2), .val (.int x3), .val (.int x4), .val (.int (2 : Int32)), .unset, .unset, .unset, .unset] [(.ref ba43_1)]))
  refine Runs.go (fun _ => XS.dup Xw48_2.here hx rfl (hb hby at_49) rfl rfl) ?_
  show Runs p e below s _ _ _ (Tw48_2.setTop (mkF m 50 #[.val (.int x0), .val (.int x1), .val (.int x2), .val (.int x3), .val (.int x4), .val (.int (2 : Int32)), .unset, .unset, .unset, .unset] [(.ref ba43_1), (.ref ba43_1)]))
  refine Runs.go (fun _ => XS.iconst Xw48_2.here hx rfl (hb hby at_50)) ?_
  show Runs p e below s _ _ _ (Tw48_2.setTop (mkF m 51 #[.val (.int x0), .val (.int x1), .val (.int x2), .val (.int x3), .val (.int x4), .val (.int (2 : Int32)), .unset, .unset, .unset, .unset] [(.int (1 : Int32)), (.ref ba43_1), (.ref ba43_1)]))
  refine Runs.go (fun _ => XS.iloadN Xw48_2.here hx rfl (hb hby at_51) rfl) ?_
  show Runs p e below s _ _ _ (Tw48_2.setTop (mkF m 52 #[.val (.int x0), .val (.int x1), .val (.int x2), .val (.int x3), .val (.int x4), .val (.int (2 : Int32)), .unset, .unset, .unset, .unset] [(.int x1), (.int (1 : Int32)), (.ref ba43_1), (.ref ba43_1)]))
  have VCw52_3 := Vw48_2
  obtain ⟨clw52_3, Arw52_3, qw52_3, Sw52_3, Mw52_3, Hw52_3, Gw52_3⟩ := VCw52_3
  have hinw52_3 : ¬ ((1 : Int32) < 0 ∨ clw52_3.slots.size ≤ ((1 : Int32)).toNatClampNeg) := inb_of Sw52_3 ⟨by decide, by decide⟩
  obtain ⟨Tw52_3, hw52_3, Xw52_3, ew52_3, Ww52_3, stw52_3⟩ := stI Xw48_2 hx hZ ew48_2 Arw52_3 (j := (1 : Int32)) hinw52_3 (g := (mkF m 52 #[.val (.int x0), .val (.int x1), .val (.int x2), .val (.int x3), .val (.int x4), .val (.int (2 : Int32)), .unset, .unset, .unset, .unset] [(.int x1), (.int (1 : Int32)), (.ref ba43_1), (.ref ba43_1)])) rfl rfl (hb hby at_52)
  refine Runs.go stw52_3 ?_
  have hnw52_3 : n0 ≤ hw52_3.size := by rw [Wr.size Ww52_3]; exact hnw48_2
  have Eba43_1_w52_3 := Eba43_1_w48_2.wr Ww52_3
  have Vw52_3 : Arv Z hw52_3 ba43_1 ka43_1 .int (2 : Int32) [(.int x0), (.int x1)] (.int (0 : Int32)) := Arv.set Arw52_3 qw52_3 Sw52_3 Mw52_3 Hw52_3 Gw52_3 rfl Ww52_3 1 rfl (Nat.le_of_ble_eq_true rfl)
  have Nw52_3 := Fr.snoc Xw52_3 Nw48_2 gb_ba43_1
  show Runs p e below s _ _ _ (Tw52_3.setTop (mkF m 53 #[.val (.int x0), .val (.int x1), .val (.int x2), .val (.int x3), .val (.int x4), .val (.int (2 : Int32)), .unset, .unset, .unset, .unset] [(.ref ba43_1)]))
  refine Runs.go (fun _ => XS.astore Xw52_3.here hx rfl (hb hby at_53) rfl rfl (l' := #[.val (.int x0), .val (.int x1), .val (.int x2), .val (.int x3), .val (.int x4), .val (.int (2 : Int32)), .val (.ref ba43_1), .unset, .unset, .unset]) rfl) ?_
  show Runs p e below s _ _ _ (Tw52_3.setTop (mkF m 55 #[.val (.int x0), .val (.int x1), .val (.int x2), .val (.int x3), .val (.int x4), .val (.int (2 : Int32)), .val (.ref ba43_1), .unset, .unset, .unset] []))
  refine Runs.go (fun _ => XS.goto Xw52_3.here hx rfl (pc0 := 55) (pc' := 75) rfl (hb hby at_55) (by decide) (by decide)) ?_
  show Runs p e below s _ _ _ (Tw52_3.setTop (mkF m 75 #[.val (.int x0), .val (.int x1), .val (.int x2), .val (.int x3), .val (.int x4), .val (.int (2 : Int32)), .val (.ref ba43_1), .unset, .unset, .unset] []))
  obtain ⟨To75_4, ho75_4, Xo75_4, eo75_4, Eo75_4, Ao75_4, Do75_4, -, sto75_4⟩ := newO Xw52_3 hx hZ hown (hw _ (List.mem_of_getElem? (i := 1) rfl)) (hw _ (List.mem_of_getElem? (i := 2) rfl)) (hw _ (List.mem_of_getElem? (i := 3) rfl)) ew52_3 (g := (mkF m 75 #[.val (.int x0), .val (.int x1), .val (.int x2), .val (.int x3), .val (.int x4), .val (.int (2 : Int32)), .val (.ref ba43_1), .unset, .unset, .unset] [])) rfl (hb hby at_75) (by decide) (by decide)
  obtain ⟨bo75_4, go75_4⟩ : ∃ z, z = hw52_3.size := ⟨_, rfl⟩
  have ne_o75_4_ba43_1 : ba43_1 ≠ bo75_4 := Nat.ne_of_lt (Nat.lt_of_lt_of_le Eba43_1_w52_3.lt (Nat.le_of_eq go75_4.symm))
  have gb_bo75_4 : n0 ≤ bo75_4 := Nat.le_trans hnw52_3 (Nat.le_of_eq go75_4.symm)
  rw [← go75_4] at Ao75_4 Do75_4 sto75_4
  refine Runs.go sto75_4 ?_
  have Eba43_1_o75_4 := Eba43_1_w52_3.ext Eo75_4
  have Vba43_1_o75_4 := Vw52_3.ext Eo75_4
  have hno75_4 : n0 ≤ ho75_4.size := Nat.le_trans hnw52_3 Eo75_4.1
  have Forder_bo75_4 : Fld Z ho75_4 bo75_4 "com/example/quillon/quillon/core/Prioritization" "order" "[I" .null := Do75_4 (Or.inr (hw _ (List.mem_of_getElem? (i := 11) rfl))) (ty := (.array .int)) (by decide)
  have Fiterations_bo75_4 : Fld Z ho75_4 bo75_4 "com/example/quillon/quillon/core/Prioritization" "iterations" "I" (.int (0 : Int32)) := Do75_4 (Or.inr (hw _ (List.mem_of_getElem? (i := 13) rfl))) (ty := .int) (by decide)
  show Runs p e below s _ _ _ (To75_4.setTop (mkF m 78 #[.val (.int x0), .val (.int x1), .val (.int x2), .val (.int x3), .val (.int x4), .val (.int (2 : Int32)), .val (.ref ba43_1), .unset, .unset, .unset] [(.ref bo75_4)]))
  refine Runs.go (fun _ => XS.dup Xo75_4.here hx rfl (hb hby at_78) rfl rfl) ?_
  show Runs p e below s _ _ _ (To75_4.setTop (mkF m 79 #[.val (.int x0), .val (.int x1), .val (.int x2), .val (.int x3), .val (.int x4), .val (.int (2 : Int32)), .val (.ref ba43_1), .unset, .unset, .unset] [(.ref bo75_4), (.ref bo75_4)]))
  refine Runs.go (fun _ => XS.aload Xo75_4.here hx rfl (hb hby at_79) rfl rfl) ?_
  show Runs p e below s _ _ _ (To75_4.setTop (mkF m 81 #[.val (.int x0), .val (.int x1), .val (.int x2), .val (.int x3), .val (.int x4), .val (.int (2 : Int32)), .val (.ref ba43_1), .unset, .unset, .unset] [(.ref ba43_1), (.ref bo75_4), (.ref bo75_4)]))
  refine Runs.go (fun _ => XS.iload Xo75_4.here hx rfl (hb hby at_81) rfl) ?_
  show Runs p e below s _ _ _ (To75_4.setTop (mkF m 83 #[.val (.int x0), .val (.int x1), .val (.int x2), .val (.int x3), .val (.int x4), .val (.int (2 : Int32)), .val (.ref ba43_1), .unset, .unset, .unset] [(.int x4), (.ref ba43_1), (.ref bo75_4), (.ref bo75_4)]))
  obtain ⟨_, _, ⟨Tc83_5, Lc83_5, kc83_5, nc83_5⟩, -, Xc83_5, ⟨Lcc83_5, hQc83_5, lc83_5, yc83_5, zc83_5⟩, stc83_5⟩ := Xo75_4.specialBack hx (y := (⟨"com/example/quillon/quillon/core/Prioritization", "<init>", "([II)V"⟩ : MethodName)) rfl hown (mvT hZ (hw _ (List.mem_of_getElem? (i := 4) rfl))) (mvT hZ (hw _ (List.mem_of_getElem? (i := 5) rfl))) (mvT hZ (hw _ (List.mem_of_getElem? (i := 6) rfl))) (by decide) (backOf (W := 1) (rm1 l Z a0 hw [] bo75_4 ba43_1 x4 ho75_4 n0 hno75_4 Ao75_4 gb_bo75_4 Forder_bo75_4 Fiterations_bo75_4) hZ (hw _ (List.mem_of_getElem? (i := 6) rfl)) (hw _ (List.mem_of_getElem? (i := 3) rfl)) (by decide) (by decide)) (g := (mkF m 83 #[.val (.int x0), .val (.int x1), .val (.int x2), .val (.int x3), .val (.int x4), .val (.int (2 : Int32)), .val (.ref ba43_1), .unset, .unset, .unset] [(.int x4), (.ref ba43_1), (.ref bo75_4), (.ref bo75_4)])) rfl (by rw [hml]; rfl) (Steps.refl _) (a := bo75_4) (argsL := [(.ref ba43_1), (.int x4)]) (rest := [(.ref bo75_4)]) (lenOf pd_0 rfl) rfl (by show 2 * 0 + _ ≤ _; exact Nat.le_of_eq rfl) (hb hby at_83) (fun _ _ => ⟨rfl, eo75_4, (by decide : 2 + 0 ≤ _), (by decide : 4 + 0 ≤ _)⟩)
  dsimp only [Pt.U, Pt.locs, Pt.cells, Pt.slots] at Xc83_5 lc83_5 yc83_5 zc83_5 stc83_5 hQc83_5
  subst lc83_5 yc83_5 zc83_5
  obtain ⟨rfl, Nc83_5q, Kc83_5, Eic83_5, Foc83_5, Fic83_5⟩ := hQc83_5
  refine Runs.go (fun _ => stc83_5.trans) ?_
  have Nc83_5 := Fr.app Nw52_3 Nc83_5q
  have Vba43_1_c83_5 := Vba43_1_o75_4.keep Kc83_5 (ninS ne_o75_4_ba43_1 nin0)
  have Eba43_1_c83_5 := Eba43_1_o75_4.keep Kc83_5
  have hzc83_5 : n0 ≤ Tc83_5.heap.size := Nat.le_trans hno75_4 Kc83_5.1
  show Runs p e below s _ _ _ (Tc83_5.setTop (mkF m 86 #[.val (.int x0), .val (.int x1), .val (.int x2), .val (.int x3), .val (.int x4), .val (.int (2 : Int32)), .val (.ref ba43_1), .unset, .unset, .unset] [(.ref bo75_4)]))
  refine Runs.go (fun _ => XS.astore Xc83_5.here hx rfl (hb hby at_86) rfl rfl (l' := #[.val (.int x0), .val (.int x1), .val (.int x2), .val (.int x3), .val (.int x4), .val (.int (2 : Int32)), .val (.ref ba43_1), .val (.ref bo75_4), .unset, .unset]) rfl) ?_
  show Runs p e below s _ _ _ (Tc83_5.setTop (mkF m 88 #[.val (.int x0), .val (.int x1), .val (.int x2), .val (.int x3), .val (.int x4), .val (.int (2 : Int32)), .val (.ref ba43_1), .val (.ref bo75_4), .unset, .unset] []))
  refine Runs.go (fun _ => XS.aload Xc83_5.here hx rfl (hb hby at_88) rfl rfl) ?_
  show Runs p e below s _ _ _ (Tc83_5.setTop (mkF m 90 #[.val (.int x0), .val (.int x1), .val (.int x2), .val (.int x3), .val (.int x4), .val (.int (2 : Int32)), .val (.ref ba43_1), .val (.ref bo75_4), .unset, .unset] [(.ref bo75_4)]))
  obtain ⟨cqc90_6, kqc90_6, qc90_6a, qc90_6b, qc90_6c⟩ := isOf hZ rfl Eic83_5
  obtain ⟨_, _, ⟨Tc90_6, Lc90_6, kc90_6, nc90_6⟩, -, Xc90_6, ⟨Lcc90_6, hQc90_6, lc90_6, yc90_6, zc90_6⟩, stc90_6⟩ := Xc83_5.virtualBack hx (y := (⟨"com/example/quillon/quillon/core/Prioritization", "order", "()[I"⟩ : MethodName)) (z := (⟨"com/example/quillon/quillon/core/Prioritization", "order", "()[I"⟩ : MethodName)) hown (mvT hZ (hw _ (List.mem_of_getElem? (i := 14) rfl))) (mvT hZ (hw _ (List.mem_of_getElem? (i := 15) rfl))) (notFace_of_selects (args := #[]) (mvT hZ (hw _ (List.mem_of_getElem? (i := 17) rfl)))) (mvT hZ (hw _ (List.mem_of_getElem? (i := 17) rfl))) (mvT hZ (hw _ (List.mem_of_getElem? (i := 16) rfl))) (by decide) (backOf (W := 0) (rm3 l Z a0 hw [] bo75_4 ba43_1 ka43_1 (2 : Int32) [(.int x0), (.int x1)] Tc83_5.heap n0 hzc83_5 Eic83_5 Foc83_5 Vba43_1_c83_5 Eba43_1_c83_5 (by decide)) hZ (hw _ (List.mem_of_getElem? (i := 18) rfl)) (hw _ (List.mem_of_getElem? (i := 3) rfl)) (by decide) (by decide)) qc90_6a qc90_6c (g := (mkF m 90 #[.val (.int x0), .val (.int x1), .val (.int x2), .val (.int x3), .val (.int x4), .val (.int (2 : Int32)), .val (.ref ba43_1), .val (.ref bo75_4), .unset, .unset] [(.ref bo75_4)])) rfl (by rw [hml]; rfl) (Steps.refl _) (argsL := []) (rest := []) (lenOf pd_2 rfl) rfl (by show 2 * 0 + _ ≤ _; exact Nat.le_of_eq rfl) (hb hby at_90) (fun _ _ => ⟨rfl, rfl, (by decide : 2 + 1 ≤ _), (by decide : 4 + 3 ≤ _)⟩)
  dsimp only [Pt.U, Pt.locs, Pt.cells, Pt.slots] at Xc90_6 lc90_6 yc90_6 zc90_6 stc90_6 hQc90_6
  subst lc90_6 yc90_6 zc90_6
  obtain ⟨bc90_6, rfl, Nc90_6q, gc90_6, Ec90_6, Vc90_6, Eac90_6⟩ := hQc90_6
  refine Runs.go (fun _ => stc90_6.trans) ?_
  have Nc90_6 := Fr.app Nc83_5 Nc90_6q
  have ne_c90_6_bo75_4 : bo75_4 ≠ bc90_6 := Nat.ne_of_lt (Nat.lt_of_lt_of_le Eic83_5.lt (Nat.le_of_eq gc90_6.symm))
  have ne_c90_6_ba43_1 : ba43_1 ≠ bc90_6 := Nat.ne_of_lt (Nat.lt_of_lt_of_le Eba43_1_c83_5.lt (Nat.le_of_eq gc90_6.symm))
  have gb_bc90_6 : n0 ≤ bc90_6 := Nat.le_trans hzc83_5 (Nat.le_of_eq gc90_6.symm)
  have Eba43_1_c90_6 := Eba43_1_c83_5.ext Ec90_6
  have Vba43_1_c90_6 := Vba43_1_c83_5.ext Ec90_6
  have Eo_c90_6 := Eic83_5.ext Ec90_6
  have Fo_c90_6 := Foc83_5.ext Ec90_6
  have Fi_c90_6 := Fic83_5.ext Ec90_6
  have hzc90_6 : n0 ≤ Tc90_6.heap.size := Nat.le_trans hzc83_5 Ec90_6.1
  show Runs p e below s _ _ _ (Tc90_6.setTop (mkF m 93 #[.val (.int x0), .val (.int x1), .val (.int x2), .val (.int x3), .val (.int x4), .val (.int (2 : Int32)), .val (.ref ba43_1), .val (.ref bo75_4), .unset, .unset] [(.ref bc90_6)]))
  refine Runs.go (fun _ => XS.astore Xc90_6.here hx rfl (hb hby at_93) rfl rfl (l' := #[.val (.int x0), .val (.int x1), .val (.int x2), .val (.int x3), .val (.int x4), .val (.int (2 : Int32)), .val (.ref ba43_1), .val (.ref bo75_4), .val (.ref bc90_6), .unset]) rfl) ?_
  show Runs p e below s _ _ _ (Tc90_6.setTop (mkF m 95 #[.val (.int x0), .val (.int x1), .val (.int x2), .val (.int x3), .val (.int x4), .val (.int (2 : Int32)), .val (.ref ba43_1), .val (.ref bo75_4), .val (.ref bc90_6), .unset] []))
  refine Runs.go (fun _ => XS.aload Xc90_6.here hx rfl (hb hby at_95) rfl rfl) ?_
  show Runs p e below s _ _ _ (Tc90_6.setTop (mkF m 97 #[.val (.int x0), .val (.int x1), .val (.int x2), .val (.int x3), .val (.int x4), .val (.int (2 : Int32)), .val (.ref ba43_1), .val (.ref bo75_4), .val (.ref bc90_6), .unset] [(.ref bc90_6)]))
  refine Runs.go (fun _ => XS.ifnullNo Xc90_6.here hx rfl (hb hby at_97) rfl) ?_
  show Runs p e below s _ _ _ (Tc90_6.setTop (mkF m 100 #[.val (.int x0), .val (.int x1), .val (.int x2), .val (.int x3), .val (.int x4), .val (.int (2 : Int32)), .val (.ref ba43_1), .val (.ref bo75_4), .val (.ref bc90_6), .unset] []))
  refine Runs.go (fun _ => XS.aload Xc90_6.here hx rfl (hb hby at_100) rfl rfl) ?_
  show Runs p e below s _ _ _ (Tc90_6.setTop (mkF m 102 #[.val (.int x0), .val (.int x1), .val (.int x2), .val (.int x3), .val (.int x4), .val (.int (2 : Int32)), .val (.ref ba43_1), .val (.ref bo75_4), .val (.ref bc90_6), .unset] [(.ref bc90_6)]))
  refine Runs.go (fun _ => XS.aload Xc90_6.here hx rfl (hb hby at_102) rfl rfl) ?_
  show Runs p e below s _ _ _ (Tc90_6.setTop (mkF m 104 #[.val (.int x0), .val (.int x1), .val (.int x2), .val (.int x3), .val (.int x4), .val (.int (2 : Int32)), .val (.ref ba43_1), .val (.ref bo75_4), .val (.ref bc90_6), .unset] [(.ref ba43_1), (.ref bc90_6)]))
  refine Runs.go (fun _ => Jvm.RoadKit.acmp (g := (mkF m 104 #[.val (.int x0), .val (.int x1), .val (.int x2), .val (.int x3), .val (.int x4), .val (.int (2 : Int32)), .val (.ref ba43_1), .val (.ref bo75_4), .val (.ref bc90_6), .unset] [(.ref ba43_1), (.ref bc90_6)])) Xc90_6 hx rfl rfl rfl (pc0 := 104) (pc' := 109) (same := false) rfl (hb hby at_104) rfl (decide_eq_false fun q => (Ne.symm ne_c90_6_ba43_1) (Value.ref.inj q)) (by decide) (by decide)) ?_
  show Runs p e below s _ _ _ (Tc90_6.setTop (mkF m 109 #[.val (.int x0), .val (.int x1), .val (.int x2), .val (.int x3), .val (.int x4), .val (.int (2 : Int32)), .val (.ref ba43_1), .val (.ref bo75_4), .val (.ref bc90_6), .unset] []))
  refine Runs.go (fun _ => XS.aload Xc90_6.here hx rfl (hb hby at_109) rfl rfl) ?_
  show Runs p e below s _ _ _ (Tc90_6.setTop (mkF m 111 #[.val (.int x0), .val (.int x1), .val (.int x2), .val (.int x3), .val (.int x4), .val (.int (2 : Int32)), .val (.ref ba43_1), .val (.ref bo75_4), .val (.ref bc90_6), .unset] [(.ref bc90_6)]))
  refine Runs.go (fun _ => XS.iload Xc90_6.here hx rfl (hb hby at_111) rfl) ?_
  show Runs p e below s _ _ _ (Tc90_6.setTop (mkF m 113 #[.val (.int x0), .val (.int x1), .val (.int x2), .val (.int x3), .val (.int x4), .val (.int (2 : Int32)), .val (.ref ba43_1), .val (.ref bo75_4), .val (.ref bc90_6), .unset] [(.int (2 : Int32)), (.ref bc90_6)]))
  refine Runs.go (fun _ => XS.iloadN Xc90_6.here hx rfl (hb hby at_113) rfl) ?_
  show Runs p e below s _ _ _ (Tc90_6.setTop (mkF m 114 #[.val (.int x0), .val (.int x1), .val (.int x2), .val (.int x3), .val (.int x4), .val (.int (2 : Int32)), .val (.ref ba43_1), .val (.ref bo75_4), .val (.ref bc90_6), .unset] [(.int x0), (.int (2 : Int32)), (.ref bc90_6)]))
  refine Runs.go (fun _ => XS.iloadN Xc90_6.here hx rfl (hb hby at_114) rfl) ?_
  show Runs p e below s _ _ _ (Tc90_6.setTop (mkF m 115 #[.val (.int x0), .val (.int x1), .val (.int x2), .val (.int x3), .val (.int x4), .val (.int (2 : Int32)), .val (.ref ba43_1), .val (.ref bo75_4), .val (.ref bc90_6), .unset] [(.int x1), (.int x0), (.int (2 : Int32)), (.ref bc90_6)]))
  refine Runs.go (fun _ => XS.iloadN Xc90_6.here hx rfl (hb hby at_115) rfl) ?_
  show Runs p e below s _ _ _ (Tc90_6.setTop (mkF m 116 #[.val (.int x0), .val (.int x1), .val (.int x2), .val (.int x3), .val (.int x4), .val (.int (2 : Int32)), .val (.ref ba43_1), .val (.ref bo75_4), .val (.ref bc90_6), .unset] [(.int x2), (.int x1), (.int x0), (.int (2 : Int32)), (.ref bc90_6)]))
  obtain ⟨_, _, ⟨Tc116_7, Lc116_7, kc116_7, nc116_7⟩, -, Xc116_7, ⟨Lcc116_7, hQc116_7, lc116_7, yc116_7, zc116_7⟩, stc116_7⟩ := Jvm.LawKit.callS Xc90_6 hx (y := (⟨"com/example/quillon/quillon/core/PrioritizationOrderPinLaw", "same", "([IIIII)Z"⟩ : MethodName)) hown (mvT hZ (hw _ (List.mem_of_getElem? (i := 32) rfl))) (mvT hZ (hw _ (List.mem_of_getElem? (i := 33) rfl))) (mvT hZ (hw _ (List.mem_of_getElem? (i := 34) rfl))) (mvT hZ (hw _ (List.mem_of_getElem? (i := 35) rfl))) (by decide) (backOf (W := 0) (rm5c l Z a0 hw [] bc90_6 x0 x1 x2 ka43_1 Tc90_6.heap n0 hzc90_6 Vc90_6) hZ (hw _ (List.mem_of_getElem? (i := 35) rfl)) (hw _ (List.mem_of_getElem? (i := 34) rfl)) (by decide) (by decide)) (g := (mkF m 116 #[.val (.int x0), .val (.int x1), .val (.int x2), .val (.int x3), .val (.int x4), .val (.int (2 : Int32)), .val (.ref ba43_1), .val (.ref bo75_4), .val (.ref bc90_6), .unset] [(.int x2), (.int x1), (.int x0), (.int (2 : Int32)), (.ref bc90_6)])) rfl (by rw [hml]; rfl) (argsL := [(.ref bc90_6), (.int (2 : Int32)), (.int x0), (.int x1), (.int x2)]) (rest := []) (lenOf pd_5 rfl) rfl (by show 2 * 0 + _ ≤ _; exact Nat.le_of_eq rfl) (hb hby at_116) (fun _ _ => ⟨rfl, rfl, (by decide : 3 + 0 ≤ _), (by decide : 7 + 0 ≤ _)⟩)
  dsimp only [Pt.U, Pt.locs, Pt.cells, Pt.slots] at Xc116_7 lc116_7 yc116_7 zc116_7 stc116_7 hQc116_7
  subst lc116_7 yc116_7 zc116_7
  obtain ⟨rfl, rfl, ec116_7⟩ := hQc116_7
  refine Runs.go stc116_7 ?_
  have Nc116_7 := Fr.app Nc90_6 (Fr.nil n0)
  show Runs p e below s _ _ _ (Tc116_7.setTop (mkF m 119 #[.val (.int x0), .val (.int x1), .val (.int x2), .val (.int x3), .val (.int x4), .val (.int (2 : Int32)), .val (.ref ba43_1), .val (.ref bo75_4), .val (.ref bc90_6), .unset] [(.int (1 : Int32))]))
  refine Runs.go (fun _ => XS.ifYes Xc116_7.here hx rfl (pc0 := 119) (pc' := 124) rfl (hb hby at_119) rfl ((if0 _ _).trans (feq ((by decide) : ¬ ((1 : Int32) = (0 : Int32)))).2) (by decide) (by decide)) ?_
  show Runs p e below s _ _ _ (Tc116_7.setTop (mkF m 124 #[.val (.int x0), .val (.int x1), .val (.int x2), .val (.int x3), .val (.int x4), .val (.int (2 : Int32)), .val (.ref ba43_1), .val (.ref bo75_4), .val (.ref bc90_6), .unset] []))
  refine Runs.go (fun _ => XS.iload Xc116_7.here hx rfl (hb hby at_124) rfl) ?_
  show Runs p e below s _ _ _ (Tc116_7.setTop (mkF m 126 #[.val (.int x0), .val (.int x1), .val (.int x2), .val (.int x3), .val (.int x4), .val (.int (2 : Int32)), .val (.ref ba43_1), .val (.ref bo75_4), .val (.ref bc90_6), .unset] [(.int (2 : Int32))]))
  refine Runs.go (fun _ => XS.ifNo Xc116_7.here hx rfl (hb hby at_126) rfl ((if0 _ _).trans (tlt ((by decide) : (0 : Int32) < (2 : Int32))).2.2.2)) ?_
  show Runs p e below s _ _ _ (Tc116_7.setTop (mkF m 129 #[.val (.int x0), .val (.int x1), .val (.int x2), .val (.int x3), .val (.int x4), .val (.int (2 : Int32)), .val (.ref ba43_1), .val (.ref bo75_4), .val (.ref bc90_6), .unset] []))
  refine Runs.go (fun _ => XS.aload Xc116_7.here hx rfl (hb hby at_129) rfl rfl) ?_
  show Runs p e below s _ _ _ (Tc116_7.setTop (mkF m 131 #[.val (.int x0), .val (.int x1), .val (.int x2), .val (.int x3), .val (.int x4), .val (.int (2 : Int32)), .val (.ref ba43_1), .val (.ref bo75_4), .val (.ref bc90_6), .unset] [(.ref bc90_6)]))
  refine Runs.go (fun _ => XS.iconst Xc116_7.here hx rfl (hb hby at_131)) ?_
  show Runs p e below s _ _ _ (Tc116_7.setTop (mkF m 132 #[.val (.int x0), .val (.int x1), .val (.int x2), .val (.int x3), .val (.int x4), .val (.int (2 : Int32)), .val (.ref ba43_1), .val (.ref bo75_4), .val (.ref bc90_6), .unset] [(.int (0 : Int32)), (.ref bc90_6)]))
  refine Runs.go (fun _ => XS.aload Xc116_7.here hx rfl (hb hby at_132) rfl rfl) ?_
  show Runs p e below s _ _ _ (Tc116_7.setTop (mkF m 134 #[.val (.int x0), .val (.int x1), .val (.int x2), .val (.int x3), .val (.int x4), .val (.int (2 : Int32)), .val (.ref ba43_1), .val (.ref bo75_4), .val (.ref bc90_6), .unset] [(.ref bc90_6), (.int (0 : Int32)), (.ref bc90_6)]))
  refine Runs.go (fun _ => XS.iconst Xc116_7.here hx rfl (hb hby at_134)) ?_
  show Runs p e below s _ _ _ (Tc116_7.setTop (mkF m 135 #[.val (.int x0), .val (.int x1), .val (.int x2), .val (.int x3), .val (.int x4), .val (.int (2 : Int32)), .val (.ref ba43_1), .val (.ref bo75_4), .val (.ref bc90_6), .unset] [(.int (0 : Int32)), (.ref bc90_6), (.int (0 : Int32)), (.ref bc90_6)]))
  have VCr135_8 := Vc90_6
  obtain ⟨clr135_8, Arr135_8, -, Sr135_8, Mr135_8, Hr135_8, -⟩ := VCr135_8
  have hinr135_8 : ¬ ((0 : Int32) < 0 ∨ clr135_8.slots.size ≤ ((0 : Int32)).toNatClampNeg) := inb_of Sr135_8 ⟨by decide, by decide⟩
  have hatr135_8 : clr135_8.slots[((0 : Int32)).toNatClampNeg]? = some (.int x0) := Has.at Hr135_8 hinr135_8 rfl
  refine Runs.go (Xc116_7.iaload hx (j := (0 : Int32)) (v := (.int x0)) (by rw [ec116_7]; exact Arr135_8.1) (State.isArrayOf_alike hZ.alike Arr135_8.2.1) Arr135_8.2.2 hinr135_8 hatr135_8 (g := (mkF m 135 #[.val (.int x0), .val (.int x1), .val (.int x2), .val (.int x3), .val (.int x4), .val (.int (2 : Int32)), .val (.ref ba43_1), .val (.ref bo75_4), .val (.ref bc90_6), .unset] [(.int (0 : Int32)), (.ref bc90_6), (.int (0 : Int32)), (.ref bc90_6)])) rfl rfl (hb hby at_135)) ?_
  show Runs p e below s _ _ _ (Tc116_7.setTop (mkF m 136 #[.val (.int x0), .val (.int x1), .val (.int x2), .val (.int x3), .val (.int x4), .val (.int (2 : Int32)), .val (.ref ba43_1), .val (.ref bo75_4), .val (.ref bc90_6), .unset] [(.int x0), (.int (0 : Int32)), (.ref bc90_6)]))
  refine Runs.go (fun _ => XS.iconst Xc116_7.here hx rfl (hb hby at_136)) ?_
  show Runs p e below s _ _ _ (Tc116_7.setTop (mkF m 137 #[.val (.int x0), .val (.int x1), .val (.int x2), .val (.int x3), .val (.int x4), .val (.int (2 : Int32)), .val (.ref ba43_1), .val (.ref bo75_4), .val (.ref bc90_6), .unset] [(.int (1 : Int32)), (.int x0), (.int (0 : Int32)), (.ref bc90_6)]))
  refine Runs.go (fun _ => XS.ixor Xc116_7.here hx rfl (hb hby at_137) rfl) ?_
  show Runs p e below s _ _ _ (Tc116_7.setTop (mkF m 138 #[.val (.int x0), .val (.int x1), .val (.int x2), .val (.int x3), .val (.int x4), .val (.int (2 : Int32)), .val (.ref ba43_1), .val (.ref bo75_4), .val (.ref bc90_6), .unset] [(.int (x0 ^^^ (1 : Int32))), (.int (0 : Int32)), (.ref bc90_6)]))
  have VCw138_9 := Vc90_6
  obtain ⟨clw138_9, Arw138_9, qw138_9, Sw138_9, Mw138_9, Hw138_9, Gw138_9⟩ := VCw138_9
  have hinw138_9 : ¬ ((0 : Int32) < 0 ∨ clw138_9.slots.size ≤ ((0 : Int32)).toNatClampNeg) := inb_of Sw138_9 ⟨by decide, by decide⟩
  obtain ⟨Tw138_9, hw138_9, Xw138_9, ew138_9, Ww138_9, stw138_9⟩ := stI Xc116_7 hx hZ ec116_7 Arw138_9 (j := (0 : Int32)) hinw138_9 (g := (mkF m 138 #[.val (.int x0), .val (.int x1), .val (.int x2), .val (.int x3), .val (.int x4), .val (.int (2 : Int32)), .val (.ref ba43_1), .val (.ref bo75_4), .val (.ref bc90_6), .unset] [(.int (x0 ^^^ (1 : Int32))), (.int (0 : Int32)), (.ref bc90_6)])) rfl rfl (hb hby at_138)
  refine Runs.go stw138_9 ?_
  have hnw138_9 : n0 ≤ hw138_9.size := by rw [Wr.size Ww138_9]; exact hzc90_6
  have Eba43_1_w138_9 := Eba43_1_c90_6.wr Ww138_9
  have Vba43_1_w138_9 := Vba43_1_c90_6.other Ww138_9 ne_c90_6_ba43_1
  have Eo_w138_9 := Eo_c90_6.wr Ww138_9
  have Fo_w138_9 := Fo_c90_6.other Ww138_9 (Or.inl ne_c90_6_bo75_4)
  have Fi_w138_9 := Fi_c90_6.other Ww138_9 (Or.inl ne_c90_6_bo75_4)
  have Ebc90_6_w138_9 := Eac90_6.wr Ww138_9
  have Vw138_9 : Arv Z hw138_9 bc90_6 ka43_1 .int (2 : Int32) [(.int (x0 ^^^ (1 : Int32))), (.int x1)] (.int (0 : Int32)) := Arv.set Arw138_9 qw138_9 Sw138_9 Mw138_9 Hw138_9 Gw138_9 rfl Ww138_9 0 rfl (Nat.le_of_ble_eq_true rfl)
  have Nw138_9 := Fr.snoc Xw138_9 Nc116_7 gb_bc90_6
  show Runs p e below s _ _ _ (Tw138_9.setTop (mkF m 139 #[.val (.int x0), .val (.int x1), .val (.int x2), .val (.int x3), .val (.int x4), .val (.int (2 : Int32)), .val (.ref ba43_1), .val (.ref bo75_4), .val (.ref bc90_6), .unset] []))
  refine Runs.go (fun _ => XS.aload Xw138_9.here hx rfl (hb hby at_139) rfl rfl) ?_
  show Runs p e below s _ _ _ (Tw138_9.setTop (mkF m 141 #[.val (.int x0), .val (.int x1), .val (.int x2), .val (.int x3), .val (.int x4), .val (.int (2 : Int32)), .val (.ref ba43_1), .val (.ref bo75_4), .val (.ref bc90_6), .unset] [(.ref bc90_6)]))
  refine Runs.go (fun _ => XS.iload Xw138_9.here hx rfl (hb hby at_141) rfl) ?_
  show Runs p e below s _ _ _ (Tw138_9.setTop (mkF m 143 #[.val (.int x0), .val (.int x1), .val (.int x2), .val (.int x3), .val (.int x4), .val (.int (2 : Int32)), .val (.ref ba43_1), .val (.ref bo75_4), .val (.ref bc90_6), .unset] [(.int (2 : Int32)), (.ref bc90_6)]))
  refine Runs.go (fun _ => XS.iconst Xw138_9.here hx rfl (hb hby at_143)) ?_
  show Runs p e below s _ _ _ (Tw138_9.setTop (mkF m 144 #[.val (.int x0), .val (.int x1), .val (.int x2), .val (.int x3), .val (.int x4), .val (.int (2 : Int32)), .val (.ref ba43_1), .val (.ref bo75_4), .val (.ref bc90_6), .unset] [(.int (1 : Int32)), (.int (2 : Int32)), (.ref bc90_6)]))
  refine Runs.go (fun _ => XS.isub Xw138_9.here hx rfl (hb hby at_144) rfl) ?_
  show Runs p e below s _ _ _ (Tw138_9.setTop (mkF m 145 #[.val (.int x0), .val (.int x1), .val (.int x2), .val (.int x3), .val (.int x4), .val (.int (2 : Int32)), .val (.ref ba43_1), .val (.ref bo75_4), .val (.ref bc90_6), .unset] [(.int ((2 : Int32) - (1 : Int32))), (.ref bc90_6)]))
  refine Runs.go (fun _ => XS.aload Xw138_9.here hx rfl (hb hby at_145) rfl rfl) ?_
  show Runs p e below s _ _ _ (Tw138_9.setTop (mkF m 147 #[.val (.int x0), .val (.int x1), .val (.int x2), .val (.int x3), .val (.int x4), .val (.int (2 : Int32)), .val (.ref ba43_1), .val (.ref bo75_4), .val (.ref bc90_6), .unset] [(.ref bc90_6), (.int ((2 : Int32) - (1 : Int32))), (.ref bc90_6)]))
  refine Runs.go (fun _ => XS.iload Xw138_9.here hx rfl (hb hby at_147) rfl) ?_
  show Runs p e below s _ _ _ (Tw138_9.setTop (mkF m 149 #[.val (.int x0), .val (.int x1), .val (.int x2), .val (.int x3), .val (.int x4), .val (.int (2 : Int32)), .val (.ref ba43_1), .val (.ref bo75_4), .val (.ref bc90_6), .unset] [(.int (2 : Int32)), (.ref bc90_6), (.int ((2 : Int32) - (1 : Int32))), (.ref bc90_6)]))
  refine Runs.go (fun _ => XS.iconst Xw138_9.here hx rfl (hb hby at_149)) ?_
  show Runs p e below s _ _ _ (Tw138_9.setTop (mkF m 150 #[.val (.int x0), .val (.int x1), .val (.int x2), .val (.int x3), .val (.int x4), .val (.int (2 : Int32)), .val (.ref ba43_1), .val (.ref bo75_4), .val (.ref bc90_6), .unset] [(.int (1 : Int32)), (.int (2 : Int32)), (.ref bc90_6), (.int ((2 : Int32) - (1 : Int32))), (.ref bc90_6)]))
  refine Runs.go (fun _ => XS.isub Xw138_9.here hx rfl (hb hby at_150) rfl) ?_
  show Runs p e below s _ _ _ (Tw138_9.setTop (mkF m 151 #[.val (.int x0), .val (.int x1), .val (.int x2), .val (.int x3), .val (.int x4), .val (.int (2 : Int32)), .val (.ref ba43_1), .val (.ref bo75_4), .val (.ref bc90_6), .unset] [(.int ((2 : Int32) - (1 : Int32))), (.ref bc90_6), (.int ((2 : Int32) - (1 : Int32))), (.ref bc90_6)]))
  have VCr151_10 := Vw138_9
  obtain ⟨clr151_10, Arr151_10, -, Sr151_10, Mr151_10, Hr151_10, -⟩ := VCr151_10
  have hinr151_10 : ¬ (((2 : Int32) - (1 : Int32)) < 0 ∨ clr151_10.slots.size ≤ (((2 : Int32) - (1 : Int32))).toNatClampNeg) := inb_of Sr151_10 ⟨by decide, by decide⟩
  have hatr151_10 : clr151_10.slots[(((2 : Int32) - (1 : Int32))).toNatClampNeg]? = some (.int x1) := Has.at Hr151_10 hinr151_10 rfl
  refine Runs.go (Xw138_9.iaload hx (j := ((2 : Int32) - (1 : Int32))) (v := (.int x1)) (by rw [ew138_9]; exact Arr151_10.1) (State.isArrayOf_alike hZ.alike Arr151_10.2.1) Arr151_10.2.2 hinr151_10 hatr151_10 (g := (mkF m 151 #[.val (.int x0), .val (.int x1), .val (.int x2), .val (.int x3), .val (.int x4), .val (.int (2 : Int32)), .val (.ref ba43_1), .val (.ref bo75_4), .val (.ref bc90_6), .unset] [(.int ((2 : Int32) - (1 : Int32))), (.ref bc90_6), (.int ((2 : Int32) - (1 : Int32))), (.ref bc90_6)])) rfl rfl (hb hby at_151)) ?_
  show Runs p e below s _ _ _ (Tw138_9.setTop (mkF m 152 #[.val (.int x0), .val (.int x1), .val (.int x2), .val (.int x3), .val (.int x4), .val (.int (2 : Int32)), .val (.ref ba43_1), .val (.ref bo75_4), .val (.ref bc90_6), .unset] [(.int x1), (.int ((2 : Int32) - (1 : Int32))), (.ref bc90_6)]))
  refine Runs.go (fun _ => XS.iconst Xw138_9.here hx rfl (hb hby at_152)) ?_
  show Runs p e below s _ _ _ (Tw138_9.setTop (mkF m 153 #[.val (.int x0), .val (.int x1), .val (.int x2), .val (.int x3), .val (.int x4), .val (.int (2 : Int32)), .val (.ref ba43_1), .val (.ref bo75_4), .val (.ref bc90_6), .unset] [(.int (2 : Int32)), (.int x1), (.int ((2 : Int32) - (1 : Int32))), (.ref bc90_6)]))
  refine Runs.go (fun _ => XS.ixor Xw138_9.here hx rfl (hb hby at_153) rfl) ?_
  show Runs p e below s _ _ _ (Tw138_9.setTop (mkF m 154 #[.val (.int x0), .val (.int x1), .val (.int x2), .val (.int x3), .val (.int x4), .val (.int (2 : Int32)), .val (.ref ba43_1), .val (.ref bo75_4), .val (.ref bc90_6), .unset] [(.int (x1 ^^^ (2 : Int32))), (.int ((2 : Int32) - (1 : Int32))), (.ref bc90_6)]))
  have VCw154_11 := Vw138_9
  obtain ⟨clw154_11, Arw154_11, qw154_11, Sw154_11, Mw154_11, Hw154_11, Gw154_11⟩ := VCw154_11
  have hinw154_11 : ¬ (((2 : Int32) - (1 : Int32)) < 0 ∨ clw154_11.slots.size ≤ (((2 : Int32) - (1 : Int32))).toNatClampNeg) := inb_of Sw154_11 ⟨by decide, by decide⟩
  obtain ⟨Tw154_11, hw154_11, Xw154_11, ew154_11, Ww154_11, stw154_11⟩ := stI Xw138_9 hx hZ ew138_9 Arw154_11 (j := ((2 : Int32) - (1 : Int32))) hinw154_11 (g := (mkF m 154 #[.val (.int x0), .val (.int x1), .val (.int x2), .val (.int x3), .val (.int x4), .val (.int (2 : Int32)), .val (.ref ba43_1), .val (.ref bo75_4), .val (.ref bc90_6), .unset] [(.int (x1 ^^^ (2 : Int32))), (.int ((2 : Int32) - (1 : Int32))), (.ref bc90_6)])) rfl rfl (hb hby at_154)
  refine Runs.go stw154_11 ?_
  have hnw154_11 : n0 ≤ hw154_11.size := by rw [Wr.size Ww154_11]; exact hnw138_9
  have Eba43_1_w154_11 := Eba43_1_w138_9.wr Ww154_11
  have Vba43_1_w154_11 := Vba43_1_w138_9.other Ww154_11 ne_c90_6_ba43_1
  have Eo_w154_11 := Eo_w138_9.wr Ww154_11
  have Fo_w154_11 := Fo_w138_9.other Ww154_11 (Or.inl ne_c90_6_bo75_4)
  have Fi_w154_11 := Fi_w138_9.other Ww154_11 (Or.inl ne_c90_6_bo75_4)
  have Ebc90_6_w154_11 := Ebc90_6_w138_9.wr Ww154_11
  have Vw154_11 : Arv Z hw154_11 bc90_6 ka43_1 .int (2 : Int32) [(.int (x0 ^^^ (1 : Int32))), (.int (x1 ^^^ (2 : Int32)))] (.int (0 : Int32)) := Arv.set Arw154_11 qw154_11 Sw154_11 Mw154_11 Hw154_11 Gw154_11 rfl Ww154_11 1 rfl (Nat.le_of_ble_eq_true rfl)
  have Nw154_11 := Fr.snoc Xw154_11 Nw138_9 gb_bc90_6
  show Runs p e below s _ _ _ (Tw154_11.setTop (mkF m 155 #[.val (.int x0), .val (.int x1), .val (.int x2), .val (.int x3), .val (.int x4), .val (.int (2 : Int32)), .val (.ref ba43_1), .val (.ref bo75_4), .val (.ref bc90_6), .unset] []))
  refine Runs.go (fun _ => XS.aload Xw154_11.here hx rfl (hb hby at_155) rfl rfl) ?_
  show Runs p e below s _ _ _ (Tw154_11.setTop (mkF m 157 #[.val (.int x0), .val (.int x1), .val (.int x2), .val (.int x3), .val (.int x4), .val (.int (2 : Int32)), .val (.ref ba43_1), .val (.ref bo75_4), .val (.ref bc90_6), .unset] [(.ref bo75_4)]))
  obtain ⟨cqc157_12, kqc157_12, qc157_12a, qc157_12b, qc157_12c⟩ := isOf hZ ew154_11 Eo_w154_11
  obtain ⟨_, _, ⟨Tc157_12, Lc157_12, kc157_12, nc157_12⟩, -, Xc157_12, ⟨Lcc157_12, hQc157_12, lc157_12, yc157_12, zc157_12⟩, stc157_12⟩ := Xw154_11.virtualBack hx (y := (⟨"com/example/quillon/quillon/core/Prioritization", "order", "()[I"⟩ : MethodName)) (z := (⟨"com/example/quillon/quillon/core/Prioritization", "order", "()[I"⟩ : MethodName)) hown (mvT hZ (hw _ (List.mem_of_getElem? (i := 14) rfl))) (mvT hZ (hw _ (List.mem_of_getElem? (i := 15) rfl))) (notFace_of_selects (args := #[]) (mvT hZ (hw _ (List.mem_of_getElem? (i := 17) rfl)))) (mvT hZ (hw _ (List.mem_of_getElem? (i := 17) rfl))) (mvT hZ (hw _ (List.mem_of_getElem? (i := 16) rfl))) (by decide) (backOf (W := 0) (rm3 l Z a0 hw [] bo75_4 ba43_1 ka43_1 (2 : Int32) [(.int x0), (.int x1)] hw154_11 n0 hnw154_11 Eo_w154_11 Fo_w154_11 Vba43_1_w154_11 Eba43_1_w154_11 (by decide)) hZ (hw _ (List.mem_of_getElem? (i := 18) rfl)) (hw _ (List.mem_of_getElem? (i := 3) rfl)) (by decide) (by decide)) qc157_12a qc157_12c (g := (mkF m 157 #[.val (.int x0), .val (.int x1), .val (.int x2), .val (.int x3), .val (.int x4), .val (.int (2 : Int32)), .val (.ref ba43_1), .val (.ref bo75_4), .val (.ref bc90_6), .unset] [(.ref bo75_4)])) rfl (by rw [hml]; rfl) (Steps.refl _) (argsL := []) (rest := []) (lenOf pd_2 rfl) rfl (by show 2 * 0 + _ ≤ _; exact Nat.le_of_eq rfl) (hb hby at_157) (fun _ _ => ⟨rfl, ew154_11, (by decide : 3 + 1 ≤ _), (by decide : 7 + 3 ≤ _)⟩)
  dsimp only [Pt.U, Pt.locs, Pt.cells, Pt.slots] at Xc157_12 lc157_12 yc157_12 zc157_12 stc157_12 hQc157_12
  subst lc157_12 yc157_12 zc157_12
  obtain ⟨bc157_12, rfl, Nc157_12q, gc157_12, Ec157_12, Vc157_12, Eac157_12⟩ := hQc157_12
  refine Runs.go (fun _ => stc157_12.trans) ?_
  have Nc157_12 := Fr.app Nw154_11 Nc157_12q
  have ne_c157_12_bo75_4 : bo75_4 ≠ bc157_12 := Nat.ne_of_lt (Nat.lt_of_lt_of_le Eo_w154_11.lt (Nat.le_of_eq gc157_12.symm))
  have ne_c157_12_bc90_6 : bc90_6 ≠ bc157_12 := Nat.ne_of_lt (Nat.lt_of_lt_of_le Vw154_11.lt (Nat.le_of_eq gc157_12.symm))
  have ne_c157_12_ba43_1 : ba43_1 ≠ bc157_12 := Nat.ne_of_lt (Nat.lt_of_lt_of_le Eba43_1_w154_11.lt (Nat.le_of_eq gc157_12.symm))
  have gb_bc157_12 : n0 ≤ bc157_12 := Nat.le_trans hnw154_11 (Nat.le_of_eq gc157_12.symm)
  have Eba43_1_c157_12 := Eba43_1_w154_11.ext Ec157_12
  have Vba43_1_c157_12 := Vba43_1_w154_11.ext Ec157_12
  have Eo_c157_12 := Eo_w154_11.ext Ec157_12
  have Fo_c157_12 := Fo_w154_11.ext Ec157_12
  have Fi_c157_12 := Fi_w154_11.ext Ec157_12
  have Vbc90_6_c157_12 := Vw154_11.ext Ec157_12
  have Ebc90_6_c157_12 := Ebc90_6_w154_11.ext Ec157_12
  have hzc157_12 : n0 ≤ Tc157_12.heap.size := Nat.le_trans hnw154_11 Ec157_12.1
  show Runs p e below s _ _ _ (Tc157_12.setTop (mkF m 160 #[.val (.int x0), .val (.int x1), .val (.int x2), .val (.int x3), .val (.int x4), .val (.int (2 : Int32)), .val (.ref ba43_1), .val (.ref bo75_4), .val (.ref bc90_6), .unset] [(.ref bc157_12)]))
  refine Runs.go (fun _ => XS.astore Xc157_12.here hx rfl (hb hby at_160) rfl rfl (l' := #[.val (.int x0), .val (.int x1), .val (.int x2), .val (.int x3), .val (.int x4), .val (.int (2 : Int32)), .val (.ref ba43_1), .val (.ref bo75_4), .val (.ref bc90_6), .val (.ref bc157_12)]) rfl) ?_
  show Runs p e below s _ _ _ (Tc157_12.setTop (mkF m 162 #[.val (.int x0), .val (.int x1), .val (.int x2), .val (.int x3), .val (.int x4), .val (.int (2 : Int32)), .val (.ref ba43_1), .val (.ref bo75_4), .val (.ref bc90_6), .val (.ref bc157_12)] []))
  refine Runs.go (fun _ => XS.aload Xc157_12.here hx rfl (hb hby at_162) rfl rfl) ?_
  show Runs p e below s _ _ _ (Tc157_12.setTop (mkF m 164 #[.val (.int x0), .val (.int x1), .val (.int x2), .val (.int x3), .val (.int x4), .val (.int (2 : Int32)), .val (.ref ba43_1), .val (.ref bo75_4), .val (.ref bc90_6), .val (.ref bc157_12)] [(.ref bc157_12)]))
  refine Runs.go (fun _ => XS.ifnullNo Xc157_12.here hx rfl (hb hby at_164) rfl) ?_
  show Runs p e below s _ _ _ (Tc157_12.setTop (mkF m 167 #[.val (.int x0), .val (.int x1), .val (.int x2), .val (.int x3), .val (.int x4), .val (.int (2 : Int32)), .val (.ref ba43_1), .val (.ref bo75_4), .val (.ref bc90_6), .val (.ref bc157_12)] []))
  refine Runs.go (fun _ => XS.aload Xc157_12.here hx rfl (hb hby at_167) rfl rfl) ?_
  show Runs p e below s _ _ _ (Tc157_12.setTop (mkF m 169 #[.val (.int x0), .val (.int x1), .val (.int x2), .val (.int x3), .val (.int x4), .val (.int (2 : Int32)), .val (.ref ba43_1), .val (.ref bo75_4), .val (.ref bc90_6), .val (.ref bc157_12)] [(.ref bc157_12)]))
  refine Runs.go (fun _ => XS.aload Xc157_12.here hx rfl (hb hby at_169) rfl rfl) ?_
  show Runs p e below s _ _ _ (Tc157_12.setTop (mkF m 171 #[.val (.int x0), .val (.int x1), .val (.int x2), .val (.int x3), .val (.int x4), .val (.int (2 : Int32)), .val (.ref ba43_1), .val (.ref bo75_4), .val (.ref bc90_6), .val (.ref bc157_12)] [(.ref ba43_1), (.ref bc157_12)]))
  refine Runs.go (fun _ => Jvm.RoadKit.acmp (g := (mkF m 171 #[.val (.int x0), .val (.int x1), .val (.int x2), .val (.int x3), .val (.int x4), .val (.int (2 : Int32)), .val (.ref ba43_1), .val (.ref bo75_4), .val (.ref bc90_6), .val (.ref bc157_12)] [(.ref ba43_1), (.ref bc157_12)])) Xc157_12 hx rfl rfl rfl (pc0 := 171) (pc' := 174) (same := false) rfl (hb hby at_171) rfl (decide_eq_false fun q => (Ne.symm ne_c157_12_ba43_1) (Value.ref.inj q)) (by decide) (by decide)) ?_
  show Runs p e below s _ _ _ (Tc157_12.setTop (mkF m 174 #[.val (.int x0), .val (.int x1), .val (.int x2), .val (.int x3), .val (.int x4), .val (.int (2 : Int32)), .val (.ref ba43_1), .val (.ref bo75_4), .val (.ref bc90_6), .val (.ref bc157_12)] []))
  refine Runs.go (fun _ => XS.aload Xc157_12.here hx rfl (hb hby at_174) rfl rfl) ?_
  show Runs p e below s _ _ _ (Tc157_12.setTop (mkF m 176 #[.val (.int x0), .val (.int x1), .val (.int x2), .val (.int x3), .val (.int x4), .val (.int (2 : Int32)), .val (.ref ba43_1), .val (.ref bo75_4), .val (.ref bc90_6), .val (.ref bc157_12)] [(.ref bc157_12)]))
  refine Runs.go (fun _ => XS.aload Xc157_12.here hx rfl (hb hby at_176) rfl rfl) ?_
  show Runs p e below s _ _ _ (Tc157_12.setTop (mkF m 178 #[.val (.int x0), .val (.int x1), .val (.int x2), .val (.int x3), .val (.int x4), .val (.int (2 : Int32)), .val (.ref ba43_1), .val (.ref bo75_4), .val (.ref bc90_6), .val (.ref bc157_12)] [(.ref bc90_6), (.ref bc157_12)]))
  refine Runs.go (fun _ => Jvm.RoadKit.acmp (g := (mkF m 178 #[.val (.int x0), .val (.int x1), .val (.int x2), .val (.int x3), .val (.int x4), .val (.int (2 : Int32)), .val (.ref ba43_1), .val (.ref bo75_4), .val (.ref bc90_6), .val (.ref bc157_12)] [(.ref bc90_6), (.ref bc157_12)])) Xc157_12 hx rfl rfl rfl (pc0 := 178) (pc' := 183) (same := false) rfl (hb hby at_178) rfl (decide_eq_false fun q => (Ne.symm ne_c157_12_bc90_6) (Value.ref.inj q)) (by decide) (by decide)) ?_
  show Runs p e below s _ _ _ (Tc157_12.setTop (mkF m 183 #[.val (.int x0), .val (.int x1), .val (.int x2), .val (.int x3), .val (.int x4), .val (.int (2 : Int32)), .val (.ref ba43_1), .val (.ref bo75_4), .val (.ref bc90_6), .val (.ref bc157_12)] []))
  refine Runs.go (fun _ => XS.aload Xc157_12.here hx rfl (hb hby at_183) rfl rfl) ?_
  show Runs p e below s _ _ _ (Tc157_12.setTop (mkF m 185 #[.val (.int x0), .val (.int x1), .val (.int x2), .val (.int x3), .val (.int x4), .val (.int (2 : Int32)), .val (.ref ba43_1), .val (.ref bo75_4), .val (.ref bc90_6), .val (.ref bc157_12)] [(.ref bc157_12)]))
  refine Runs.go (fun _ => XS.iload Xc157_12.here hx rfl (hb hby at_185) rfl) ?_
  show Runs p e below s _ _ _ (Tc157_12.setTop (mkF m 187 #[.val (.int x0), .val (.int x1), .val (.int x2), .val (.int x3), .val (.int x4), .val (.int (2 : Int32)), .val (.ref ba43_1), .val (.ref bo75_4), .val (.ref bc90_6), .val (.ref bc157_12)] [(.int (2 : Int32)), (.ref bc157_12)]))
  refine Runs.go (fun _ => XS.iloadN Xc157_12.here hx rfl (hb hby at_187) rfl) ?_
  show Runs p e below s _ _ _ (Tc157_12.setTop (mkF m 188 #[.val (.int x0), .val (.int x1), .val (.int x2), .val (.int x3), .val (.int x4), .val (.int (2 : Int32)), .val (.ref ba43_1), .val (.ref bo75_4), .val (.ref bc90_6), .val (.ref bc157_12)] [(.int x0), (.int (2 : Int32)), (.ref bc157_12)]))
  refine Runs.go (fun _ => XS.iloadN Xc157_12.here hx rfl (hb hby at_188) rfl) ?_
  show Runs p e below s _ _ _ (Tc157_12.setTop (mkF m 189 #[.val (.int x0), .val (.int x1), .val (.int x2), .val (.int x3), .val (.int x4), .val (.int (2 : Int32)), .val (.ref ba43_1), .val (.ref bo75_4), .val (.ref bc90_6), .val (.ref bc157_12)] [(.int x1), (.int x0), (.int (2 : Int32)), (.ref bc157_12)]))
  refine Runs.go (fun _ => XS.iloadN Xc157_12.here hx rfl (hb hby at_189) rfl) ?_
  show Runs p e below s _ _ _ (Tc157_12.setTop (mkF m 190 #[.val (.int x0), .val (.int x1), .val (.int x2), .val (.int x3), .val (.int x4), .val (.int (2 : Int32)), .val (.ref ba43_1), .val (.ref bo75_4), .val (.ref bc90_6), .val (.ref bc157_12)] [(.int x2), (.int x1), (.int x0), (.int (2 : Int32)), (.ref bc157_12)]))
  obtain ⟨_, _, ⟨Tc190_13, Lc190_13, kc190_13, nc190_13⟩, -, Xc190_13, ⟨Lcc190_13, hQc190_13, lc190_13, yc190_13, zc190_13⟩, stc190_13⟩ := Jvm.LawKit.callS Xc157_12 hx (y := (⟨"com/example/quillon/quillon/core/PrioritizationOrderPinLaw", "same", "([IIIII)Z"⟩ : MethodName)) hown (mvT hZ (hw _ (List.mem_of_getElem? (i := 32) rfl))) (mvT hZ (hw _ (List.mem_of_getElem? (i := 33) rfl))) (mvT hZ (hw _ (List.mem_of_getElem? (i := 34) rfl))) (mvT hZ (hw _ (List.mem_of_getElem? (i := 35) rfl))) (by decide) (backOf (W := 0) (rm5c l Z a0 hw [] bc157_12 x0 x1 x2 ka43_1 Tc157_12.heap n0 hzc157_12 Vc157_12) hZ (hw _ (List.mem_of_getElem? (i := 35) rfl)) (hw _ (List.mem_of_getElem? (i := 34) rfl)) (by decide) (by decide)) (g := (mkF m 190 #[.val (.int x0), .val (.int x1), .val (.int x2), .val (.int x3), .val (.int x4), .val (.int (2 : Int32)), .val (.ref ba43_1), .val (.ref bo75_4), .val (.ref bc90_6), .val (.ref bc157_12)] [(.int x2), (.int x1), (.int x0), (.int (2 : Int32)), (.ref bc157_12)])) rfl (by rw [hml]; rfl) (argsL := [(.ref bc157_12), (.int (2 : Int32)), (.int x0), (.int x1), (.int x2)]) (rest := []) (lenOf pd_5 rfl) rfl (by show 2 * 0 + _ ≤ _; exact Nat.le_of_eq rfl) (hb hby at_190) (fun _ _ => ⟨rfl, rfl, (by decide : 4 + 0 ≤ _), (by decide : 10 + 0 ≤ _)⟩)
  dsimp only [Pt.U, Pt.locs, Pt.cells, Pt.slots] at Xc190_13 lc190_13 yc190_13 zc190_13 stc190_13 hQc190_13
  subst lc190_13 yc190_13 zc190_13
  obtain ⟨rfl, rfl, ec190_13⟩ := hQc190_13
  refine Runs.go stc190_13 ?_
  have Nc190_13 := Fr.app Nc157_12 (Fr.nil n0)
  show Runs p e below s _ _ _ (Tc190_13.setTop (mkF m 193 #[.val (.int x0), .val (.int x1), .val (.int x2), .val (.int x3), .val (.int x4), .val (.int (2 : Int32)), .val (.ref ba43_1), .val (.ref bo75_4), .val (.ref bc90_6), .val (.ref bc157_12)] [(.int (1 : Int32))]))
  refine Runs.go (fun _ => XS.ifNo Xc190_13.here hx rfl (hb hby at_193) rfl ((if0 _ _).trans (feq ((by decide) : ¬ ((1 : Int32) = (0 : Int32)))).1)) ?_
  show Runs p e below s _ _ _ (Tc190_13.setTop (mkF m 196 #[.val (.int x0), .val (.int x1), .val (.int x2), .val (.int x3), .val (.int x4), .val (.int (2 : Int32)), .val (.ref ba43_1), .val (.ref bo75_4), .val (.ref bc90_6), .val (.ref bc157_12)] []))
  refine Runs.go (fun _ => XS.aload Xc190_13.here hx rfl (hb hby at_196) rfl rfl) ?_
  show Runs p e below s _ _ _ (Tc190_13.setTop (mkF m 198 #[.val (.int x0), .val (.int x1), .val (.int x2), .val (.int x3), .val (.int x4), .val (.int (2 : Int32)), .val (.ref ba43_1), .val (.ref bo75_4), .val (.ref bc90_6), .val (.ref bc157_12)] [(.ref ba43_1)]))
  refine Runs.go (fun _ => XS.iload Xc190_13.here hx rfl (hb hby at_198) rfl) ?_
  show Runs p e below s _ _ _ (Tc190_13.setTop (mkF m 200 #[.val (.int x0), .val (.int x1), .val (.int x2), .val (.int x3), .val (.int x4), .val (.int (2 : Int32)), .val (.ref ba43_1), .val (.ref bo75_4), .val (.ref bc90_6), .val (.ref bc157_12)] [(.int (2 : Int32)), (.ref ba43_1)]))
  refine Runs.go (fun _ => XS.iloadN Xc190_13.here hx rfl (hb hby at_200) rfl) ?_
  show Runs p e below s _ _ _ (Tc190_13.setTop (mkF m 201 #[.val (.int x0), .val (.int x1), .val (.int x2), .val (.int x3), .val (.int x4), .val (.int (2 : Int32)), .val (.ref ba43_1), .val (.ref bo75_4), .val (.ref bc90_6), .val (.ref bc157_12)] [(.int x0), (.int (2 : Int32)), (.ref ba43_1)]))
  refine Runs.go (fun _ => XS.iloadN Xc190_13.here hx rfl (hb hby at_201) rfl) ?_
  show Runs p e below s _ _ _ (Tc190_13.setTop (mkF m 202 #[.val (.int x0), .val (.int x1), .val (.int x2), .val (.int x3), .val (.int x4), .val (.int (2 : Int32)), .val (.ref ba43_1), .val (.ref bo75_4), .val (.ref bc90_6), .val (.ref bc157_12)] [(.int x1), (.int x0), (.int (2 : Int32)), (.ref ba43_1)]))
  refine Runs.go (fun _ => XS.iloadN Xc190_13.here hx rfl (hb hby at_202) rfl) ?_
  show Runs p e below s _ _ _ (Tc190_13.setTop (mkF m 203 #[.val (.int x0), .val (.int x1), .val (.int x2), .val (.int x3), .val (.int x4), .val (.int (2 : Int32)), .val (.ref ba43_1), .val (.ref bo75_4), .val (.ref bc90_6), .val (.ref bc157_12)] [(.int x2), (.int x1), (.int x0), (.int (2 : Int32)), (.ref ba43_1)]))
  obtain ⟨_, _, ⟨Tc203_14, Lc203_14, kc203_14, nc203_14⟩, -, Xc203_14, ⟨Lcc203_14, hQc203_14, lc203_14, yc203_14, zc203_14⟩, stc203_14⟩ := Jvm.LawKit.callS Xc190_13 hx (y := (⟨"com/example/quillon/quillon/core/PrioritizationOrderPinLaw", "same", "([IIIII)Z"⟩ : MethodName)) hown (mvT hZ (hw _ (List.mem_of_getElem? (i := 32) rfl))) (mvT hZ (hw _ (List.mem_of_getElem? (i := 33) rfl))) (mvT hZ (hw _ (List.mem_of_getElem? (i := 34) rfl))) (mvT hZ (hw _ (List.mem_of_getElem? (i := 35) rfl))) (by decide) (backOf (W := 0) (rm5c l Z a0 hw [] ba43_1 x0 x1 x2 ka43_1 Tc157_12.heap n0 hzc157_12 Vba43_1_c157_12) hZ (hw _ (List.mem_of_getElem? (i := 35) rfl)) (hw _ (List.mem_of_getElem? (i := 34) rfl)) (by decide) (by decide)) (g := (mkF m 203 #[.val (.int x0), .val (.int x1), .val (.int x2), .val (.int x3), .val (.int x4), .val (.int (2 : Int32)), .val (.ref ba43_1), .val (.ref bo75_4), .val (.ref bc90_6), .val (.ref bc157_12)] [(.int x2), (.int x1), (.int x0), (.int (2 : Int32)), (.ref ba43_1)])) rfl (by rw [hml]; rfl) (argsL := [(.ref ba43_1), (.int (2 : Int32)), (.int x0), (.int x1), (.int x2)]) (rest := []) (lenOf pd_5 rfl) rfl (by show 2 * 0 + _ ≤ _; exact Nat.le_of_eq rfl) (hb hby at_203) (fun _ _ => ⟨rfl, ec190_13, (by decide : 4 + 0 ≤ _), (by decide : 10 + 0 ≤ _)⟩)
  dsimp only [Pt.U, Pt.locs, Pt.cells, Pt.slots] at Xc203_14 lc203_14 yc203_14 zc203_14 stc203_14 hQc203_14
  subst lc203_14 yc203_14 zc203_14
  obtain ⟨rfl, rfl, ec203_14⟩ := hQc203_14
  refine Runs.go stc203_14 ?_
  have Nc203_14 := Fr.app Nc190_13 (Fr.nil n0)
  show Runs p e below s _ _ _ (Tc203_14.setTop (mkF m 206 #[.val (.int x0), .val (.int x1), .val (.int x2), .val (.int x3), .val (.int x4), .val (.int (2 : Int32)), .val (.ref ba43_1), .val (.ref bo75_4), .val (.ref bc90_6), .val (.ref bc157_12)] [(.int (1 : Int32))]))
  refine Runs.go (fun _ => XS.ifNo Xc203_14.here hx rfl (hb hby at_206) rfl ((if0 _ _).trans (feq ((by decide) : ¬ ((1 : Int32) = (0 : Int32)))).1)) ?_
  show Runs p e below s _ _ _ (Tc203_14.setTop (mkF m 209 #[.val (.int x0), .val (.int x1), .val (.int x2), .val (.int x3), .val (.int x4), .val (.int (2 : Int32)), .val (.ref ba43_1), .val (.ref bo75_4), .val (.ref bc90_6), .val (.ref bc157_12)] []))
  refine Runs.go (fun _ => XS.iconst Xc203_14.here hx rfl (hb hby at_209)) ?_
  show Runs p e below s _ _ _ (Tc203_14.setTop (mkF m 210 #[.val (.int x0), .val (.int x1), .val (.int x2), .val (.int x3), .val (.int x4), .val (.int (2 : Int32)), .val (.ref ba43_1), .val (.ref bo75_4), .val (.ref bc90_6), .val (.ref bc157_12)] [(.int (1 : Int32))]))
  refine Runs.go (fun _ => XS.goto Xc203_14.here hx rfl (pc0 := 210) (pc' := 214) rfl (hb hby at_210) (by decide) (by decide)) ?_
  show Runs p e below s _ _ _ (Tc203_14.setTop (mkF m 214 #[.val (.int x0), .val (.int x1), .val (.int x2), .val (.int x3), .val (.int x4), .val (.int (2 : Int32)), .val (.ref ba43_1), .val (.ref bo75_4), .val (.ref bc90_6), .val (.ref bc157_12)] [(.int (1 : Int32))]))
  exact Runs.endN Xc203_14 hx (t := .boolean) Bd.returns (by simp) Bd.notSynchronized (hb hby at_214) ⟨rfl, Nc203_14⟩ (by decide) (by decide)
set_option maxRecDepth 65536 in
set_option maxHeartbeats 40000000 in
theorem rm0d (l : Launch) (Z : State) (a0 : Array Value) (hw : ∀ d ∈ tables_1, d.before a0 Z = true) (ws : List Jvm.Cond) (x0 : Int32) (x1 : Int32) (x2 : Int32) (x3 : Int32) (x4 : Int32) (h0 : Heap) (n0 : Nat) (hn0 : n0 ≤ h0.size) (hp : (x3 &&& (3 : Int32)) = (3 : Int32)) :
    MetFree l x (head1 (Jvm.Cond.code x code maxLocals ret :: ws) room_1) (fun a U => a = #[(.int x0), (.int x1), (.int x2), (.int x3), (.int x4)] ∧ Z.Warmed39 U.vm ∧ U.heap = h0) (fun _ _ _ _ _ => True) (fun _ U o U' => ∃ v L, o = .returned v ∧ QH (.int (1 : Int32)) n0 v U'.heap L ∧ FrameEnd U o U' L room_1.cells room_1.slots) := by
  refine MetFree.of_bodySF (plainFor_of_name pn_0) hisR ?_
  intro p e s m args below meth c s₁ Bd hml0 hP hK
  obtain ⟨rfl, hZ, hh⟩ := hP
  have hx := Bd.exec
  have hby := Bd.bytes
  have hml : c.maxLocals = 10 := hml0
  have hown : s.vm.findClass "com/example/quillon/quillon/core/PrioritizationOrderPinLaw" = some m.cls := findClass_of_methodNamed Bd.named
  have X : Stand p l e room_1 s m #[(.int x0), (.int x1), (.int x2), (.int x3), (.int x4)] below meth c s₁ [] 0 0 := Stand.of_body Bd
  have eT : s₁.heap = h0 := by rw [← hh, Bd.state]; rfl
  have N := Fr.nil n0
  show Runs p e below s (QH (.int (1 : Int32)) n0) room_1.cells room_1.slots (s₁.setTop (entryFrame m #[(.int x0), (.int x1), (.int x2), (.int x3), (.int x4)] maxLocals))
  rw [ef_0 m x0 x1 x2 x3 x4]
  refine Runs.go (fun _ => XS.iloadN X.here hx rfl (hb hby at_0) rfl) ?_
  show Runs p e below s _ _ _ (s₁.setTop (mkF m 1 #[.val (.int x0), .val (.int x1), .val (.int x2), .val (.int x3), .val (.int x4), .unset, .unset, .unset, .unset, .unset] [(.int x3)]))
  refine Runs.go (fun _ => XS.iconst X.here hx rfl (hb hby at_1)) ?_
  show Runs p e below s _ _ _ (s₁.setTop (mkF m 2 #[.val (.int x0), .val (.int x1), .val (.int x2), .val (.int x3), .val (.int x4), .unset, .unset, .unset, .unset, .unset] [(.int (3 : Int32)), (.int x3)]))
  refine Runs.go (fun _ => XS.iand X.here hx rfl (hb hby at_2) rfl) ?_
  show Runs p e below s _ _ _ (s₁.setTop (mkF m 3 #[.val (.int x0), .val (.int x1), .val (.int x2), .val (.int x3), .val (.int x4), .unset, .unset, .unset, .unset, .unset] [(.int (x3 &&& (3 : Int32)))]))
  rw [hp]
  show Runs p e below s _ _ _ (s₁.setTop (mkF m 3 #[.val (.int x0), .val (.int x1), .val (.int x2), .val (.int x3), .val (.int x4), .unset, .unset, .unset, .unset, .unset] [(.int (3 : Int32))]))
  refine Runs.go (fun _ => XS.istore X.here hx rfl (hb hby at_3) rfl (l' := #[.val (.int x0), .val (.int x1), .val (.int x2), .val (.int x3), .val (.int x4), .val (.int (3 : Int32)), .unset, .unset, .unset, .unset]) rfl) ?_
  show Runs p e below s _ _ _ (s₁.setTop (mkF m 5 #[.val (.int x0), .val (.int x1), .val (.int x2), .val (.int x3), .val (.int x4), .val (.int (3 : Int32)), .unset, .unset, .unset, .unset] []))
  refine Runs.go (fun _ => XS.iload X.here hx rfl (hb hby at_5) rfl) ?_
  show Runs p e below s _ _ _ (s₁.setTop (mkF m 7 #[.val (.int x0), .val (.int x1), .val (.int x2), .val (.int x3), .val (.int x4), .val (.int (3 : Int32)), .unset, .unset, .unset, .unset] [(.int (3 : Int32))]))
  refine Runs.go (fun _ => XS.ifYes X.here hx rfl (pc0 := 7) (pc' := 18) rfl (hb hby at_7) rfl ((if0 _ _).trans (feq ((by decide) : ¬ ((3 : Int32) = (0 : Int32)))).2) (by decide) (by decide)) ?_
  show Runs p e below s _ _ _ (s₁.setTop (mkF m 18 #[.val (.int x0), .val (.int x1), .val (.int x2), .val (.int x3), .val (.int x4), .val (.int (3 : Int32)), .unset, .unset, .unset, .unset] []))
  refine Runs.go (fun _ => XS.iload X.here hx rfl (hb hby at_18) rfl) ?_
  show Runs p e below s _ _ _ (s₁.setTop (mkF m 20 #[.val (.int x0), .val (.int x1), .val (.int x2), .val (.int x3), .val (.int x4), .val (.int (3 : Int32)), .unset, .unset, .unset, .unset] [(.int (3 : Int32))]))
  refine Runs.go (fun _ => XS.iconst X.here hx rfl (hb hby at_20)) ?_
  show Runs p e below s _ _ _ (s₁.setTop (mkF m 21 #[.val (.int x0), .val (.int x1), .val (.int x2), .val (.int x3), .val (.int x4), .val (.int (3 : Int32)), .unset, .unset, .unset, .unset] [(.int (1 : Int32)), (.int (3 : Int32))]))
  refine Runs.go (fun _ => XS.icmpYes X.here hx rfl (pc0 := 21) (pc' := 36) rfl (hb hby at_21) rfl (feq ((by decide) : ¬ ((3 : Int32) = (1 : Int32)))).2 (by decide) (by decide)) ?_
  show Runs p e below s _ _ _ (s₁.setTop (mkF m 36 #[.val (.int x0), .val (.int x1), .val (.int x2), .val (.int x3), .val (.int x4), .val (.int (3 : Int32)), .unset, .unset, .unset, .unset] []))
  refine Runs.go (fun _ => XS.iload X.here hx rfl (hb hby at_36) rfl) ?_
  show Runs p e below s _ _ _ (s₁.setTop (mkF m 38 #[.val (.int x0), .val (.int x1), .val (.int x2), .val (.int x3), .val (.int x4), .val (.int (3 : Int32)), .unset, .unset, .unset, .unset] [(.int (3 : Int32))]))
  refine Runs.go (fun _ => XS.iconst X.here hx rfl (hb hby at_38)) ?_
  show Runs p e below s _ _ _ (s₁.setTop (mkF m 39 #[.val (.int x0), .val (.int x1), .val (.int x2), .val (.int x3), .val (.int x4), .val (.int (3 : Int32)), .unset, .unset, .unset, .unset] [(.int (2 : Int32)), (.int (3 : Int32))]))
  refine Runs.go (fun _ => XS.icmpYes X.here hx rfl (pc0 := 39) (pc' := 58) rfl (hb hby at_39) rfl (feq ((by decide) : ¬ ((3 : Int32) = (2 : Int32)))).2 (by decide) (by decide)) ?_
  show Runs p e below s _ _ _ (s₁.setTop (mkF m 58 #[.val (.int x0), .val (.int x1), .val (.int x2), .val (.int x3), .val (.int x4), .val (.int (3 : Int32)), .unset, .unset, .unset, .unset] []))
  refine Runs.go (fun _ => XS.iconst X.here hx rfl (hb hby at_58)) ?_
  show Runs p e below s _ _ _ (s₁.setTop (mkF m 59 #[.val (.int x0), .val (.int x1), .val (.int x2), .val (.int x3), .val (.int x4), .val (.int (3 : Int32)), .unset, .unset, .unset, .unset] [(.int (3 : Int32))]))
  obtain ⟨Ta59_1, ha59_1, ka59_1, Xa59_1, ea59_1, Ea59_1, Aa59_1, Eaa59_1, sta59_1⟩ := newPE X hx hZ (hw _ (List.mem_of_getElem? (i := 0) rfl)) eT (g := (mkF m 59 #[.val (.int x0), .val (.int x1), .val (.int x2), .val (.int x3), .val (.int x4), .val (.int (3 : Int32)), .unset, .unset, .unset, .unset] [(.int (3 : Int32))])) rfl (hb hby at_59) rfl (by decide) (cap := 3) (by decide) (by decide) (by decide) (by decide) (ad := "[I") (by decide)
  obtain ⟨ba59_1, ga59_1⟩ : ∃ z, z = h0.size := ⟨_, rfl⟩
  have gb_ba59_1 : n0 ≤ ba59_1 := Nat.le_trans hn0 (Nat.le_of_eq ga59_1.symm)
  rw [← ga59_1] at Aa59_1 sta59_1 Eaa59_1
  refine Runs.go sta59_1 ?_
  have hna59_1 : n0 ≤ ha59_1.size := Nat.le_trans hn0 Ea59_1.1
  have Va59_1 : Arv Z ha59_1 ba59_1 ka59_1 .int (3 : Int32) [(.int (0 : Int32)), (.int (0 : Int32)), (.int (0 : Int32))] (.int (0 : Int32)) := (Arv.new Aa59_1 (by decide)).pad (pad_rep [] (.int (0 : Int32)) 3)
  show Runs p e below s _ _ _ (Ta59_1.setTop (mkF m 61 #[.val (.int x0), .val (.int x1), .val (.int x2), .val (.int x3), .val (.int x4), .val (.int (3 : Int32)), .unset, .unset, .unset, .unset] [(.ref ba59_1)]))
  refine Runs.go (fun _ => XS.dup Xa59_1.here hx rfl (hb hby at_61) rfl rfl) ?_
  show Runs p e below s _ _ _ (Ta59_1.setTop (mkF m 62 #[.val (.int x0), .val (.int x1), .val (.int x2), .val (.int x3), .val (.int x4), .val (.int (3 : Int32)), .unset, .unset, .unset, .unset] [(.ref ba59_1), (.ref ba59_1)]))
  refine Runs.go (fun _ => XS.iconst Xa59_1.here hx rfl (hb hby at_62)) ?_
  show Runs p e below s _ _ _ (Ta59_1.setTop (mkF m 63 #[.val (.int x0), .val (.int x1), .val (.int x2), .val (.int x3), .val (.int x4), .val (.int (3 : Int32)), .unset, .unset, .unset, .unset] [(.int (0 : Int32)), (.ref ba59_1), (.ref ba59_1)]))
  refine Runs.go (fun _ => XS.iloadN Xa59_1.here hx rfl (hb hby at_63) rfl) ?_
  show Runs p e below s _ _ _ (Ta59_1.setTop (mkF m 64 #[.val (.int x0), .val (.int x1), .val (.int x2), .val (.int x3), .val (.int x4), .val (.int (3 : Int32)), .unset, .unset, .unset, .unset] [(.int x0), (.int (0 : Int32)), (.ref ba59_1), (.ref ba59_1)]))
  have VCw64_2 := Va59_1
  obtain ⟨clw64_2, Arw64_2, qw64_2, Sw64_2, Mw64_2, Hw64_2, Gw64_2⟩ := VCw64_2
  have hinw64_2 : ¬ ((0 : Int32) < 0 ∨ clw64_2.slots.size ≤ ((0 : Int32)).toNatClampNeg) := inb_of Sw64_2 ⟨by decide, by decide⟩
  obtain ⟨Tw64_2, hw64_2, Xw64_2, ew64_2, Ww64_2, stw64_2⟩ := stI Xa59_1 hx hZ ea59_1 Arw64_2 (j := (0 : Int32)) hinw64_2 (g := (mkF m 64 #[.val (.int x0), .val (.int x1), .val (.int x2), .val (.int x3), .val (.int x4), .val (.int (3 : Int32)), .unset, .unset, .unset, .unset] [(.int x0), (.int (0 : Int32)), (.ref ba59_1), (.ref ba59_1)])) rfl rfl (hb hby at_64)
  refine Runs.go stw64_2 ?_
  have hnw64_2 : n0 ≤ hw64_2.size := by rw [Wr.size Ww64_2]; exact hna59_1
  have Eba59_1_w64_2 := Eaa59_1.wr Ww64_2
  have Vw64_2 : Arv Z hw64_2 ba59_1 ka59_1 .int (3 : Int32) [(.int x0), (.int (0 : Int32)), (.int (0 : Int32))] (.int (0 : Int32)) := Arv.set Arw64_2 qw64_2 Sw64_2 Mw64_2 Hw64_2 Gw64_2 rfl Ww64_2 0 rfl (Nat.le_of_ble_eq_true rfl)
  have Nw64_2 := Fr.snoc Xw64_2 N gb_ba59_1
  show Runs p e below s _ _ _ (Tw64_2.setTop (mkF m 65 #[.val (.int x0), .val (.int x1), .val (.int x2), .val (.int x3), .val (.int x4), .val (.int (3 : Int32)), .unset, .unset, .unset, .unset] [(.ref ba59_1)]))
  refine Runs.go (fun _ => XS.dup Xw64_2.here hx rfl (hb hby at_65) rfl rfl) ?_
  show Runs p e below s _ _ _ (Tw64_2.setTop (mkF m 66 #[.val (.int x0), .val (.int x1), .val (.int x2), .val (.int x3), .val (.int x4), .val (.int (3 : Int32)), .unset, .unset, .unset, .unset] [(.ref ba59_1), (.ref ba59_1)]))
  refine Runs.go (fun _ => XS.iconst Xw64_2.here hx rfl (hb hby at_66)) ?_
  show Runs p e below s _ _ _ (Tw64_2.setTop (mkF m 67 #[.val (.int x0), .val (.int x1), .val (.int x2), .val (.int x3), .val (.int x4), .val (.int (3 : Int32)), .unset, .unset, .unset, .unset] [(.int (1 : Int32)), (.ref ba59_1), (.ref ba59_1)]))
  refine Runs.go (fun _ => XS.iloadN Xw64_2.here hx rfl (hb hby at_67) rfl) ?_
  show Runs p e below s _ _ _ (Tw64_2.setTop (mkF m 68 #[.val (.int x0), .val (.int x1), .val (.int x2), .val (.int x3), .val (.int x4), .val (.int (3 : Int32)), .unset, .unset, .unset, .unset] [(.int x1), (.int (1 : Int32)), (.ref ba59_1), (.ref ba59_1)]))
  have VCw68_3 := Vw64_2
  obtain ⟨clw68_3, Arw68_3, qw68_3, Sw68_3, Mw68_3, Hw68_3, Gw68_3⟩ := VCw68_3
  have hinw68_3 : ¬ ((1 : Int32) < 0 ∨ clw68_3.slots.size ≤ ((1 : Int32)).toNatClampNeg) := inb_of Sw68_3 ⟨by decide, by decide⟩
  obtain ⟨Tw68_3, hw68_3, Xw68_3, ew68_3, Ww68_3, stw68_3⟩ := stI Xw64_2 hx hZ ew64_2 Arw68_3 (j := (1 : Int32)) hinw68_3 (g := (mkF m 68 #[.val (.int x0), .val (.int x1), .val (.int x2), .val (.int x3), .val (.int x4), .val (.int (3 : Int32)), .unset, .unset, .unset, .unset] [(.int x1), (.int (1 : Int32)), (.ref ba59_1), (.ref ba59_1)])) rfl rfl (hb hby at_68)
  refine Runs.go stw68_3 ?_
  have hnw68_3 : n0 ≤ hw68_3.size := by rw [Wr.size Ww68_3]; exact hnw64_2
  have Eba59_1_w68_3 := Eba59_1_w64_2.wr Ww68_3
  have Vw68_3 : Arv Z hw68_3 ba59_1 ka59_1 .int (3 : Int32) [(.int x0), (.int x1), (.int (0 : Int32))] (.int (0 : Int32)) := Arv.set Arw68_3 qw68_3 Sw68_3 Mw68_3 Hw68_3 Gw68_3 rfl Ww68_3 1 rfl (Nat.le_of_ble_eq_true rfl)
  have Nw68_3 := Fr.snoc Xw68_3 Nw64_2 gb_ba59_1
  show Runs p e below s _ _ _ (Tw68_3.setTop (mkF m 69 #[.val (.int x0), .val (.int x1), .val (.int x2), .val (.int x3), .val (.int x4), .val (.int (3 : Int32)), .unset, .unset, .unset, .unset] [(.ref ba59_1)]))
  refine Runs.go (fun _ => XS.dup Xw68_3.here hx rfl (hb hby at_69) rfl rfl) ?_
  show Runs p e below s _ _ _ (Tw68_3.setTop (mkF m 70 #[.val (.int x0), .val (.int x1), .val (.int x2), .val (.int x3), .val (.int x4), .val (.int (3 : Int32)), .unset, .unset, .unset, .unset] [(.ref ba59_1), (.ref ba59_1)]))
  refine Runs.go (fun _ => XS.iconst Xw68_3.here hx rfl (hb hby at_70)) ?_
  show Runs p e below s _ _ _ (Tw68_3.setTop (mkF m 71 #[.val (.int x0), .val (.int x1), .val (.int x2), .val (.int x3), .val (.int x4), .val (.int (3 : Int32)), .unset, .unset, .unset, .unset] [(.int (2 : Int32)), (.ref ba59_1), (.ref ba59_1)]))
  refine Runs.go (fun _ => XS.iloadN Xw68_3.here hx rfl (hb hby at_71) rfl) ?_
  show Runs p e below s _ _ _ (Tw68_3.setTop (mkF m 72 #[.val (.int x0), .val (.int x1), .val (.int x2), .val (.int x3), .val (.int x4), .val (.int (3 : Int32)), .unset, .unset, .unset, .unset] [(.int x2), (.int (2 : Int32)), (.ref ba59_1), (.ref ba59_1)]))
  have VCw72_4 := Vw68_3
  obtain ⟨clw72_4, Arw72_4, qw72_4, Sw72_4, Mw72_4, Hw72_4, Gw72_4⟩ := VCw72_4
  have hinw72_4 : ¬ ((2 : Int32) < 0 ∨ clw72_4.slots.size ≤ ((2 : Int32)).toNatClampNeg) := inb_of Sw72_4 ⟨by decide, by decide⟩
  obtain ⟨Tw72_4, hw72_4, Xw72_4, ew72_4, Ww72_4, stw72_4⟩ := stI Xw68_3 hx hZ ew68_3 Arw72_4 (j := (2 : Int32)) hinw72_4 (g := (mkF m 72 #[.val (.int x0), .val (.int x1), .val (.int x2), .val (.int x3), .val (.int x4), .val (.int (3 : Int32)), .unset, .unset, .unset, .unset] [(.int x2), (.int (2 : Int32)), (.ref ba59_1), (.ref ba59_1)])) rfl rfl (hb hby at_72)
  refine Runs.go stw72_4 ?_
  have hnw72_4 : n0 ≤ hw72_4.size := by rw [Wr.size Ww72_4]; exact hnw68_3
  have Eba59_1_w72_4 := Eba59_1_w68_3.wr Ww72_4
  have Vw72_4 : Arv Z hw72_4 ba59_1 ka59_1 .int (3 : Int32) [(.int x0), (.int x1), (.int x2)] (.int (0 : Int32)) := Arv.set Arw72_4 qw72_4 Sw72_4 Mw72_4 Hw72_4 Gw72_4 rfl Ww72_4 2 rfl (Nat.le_of_ble_eq_true rfl)
  have Nw72_4 := Fr.snoc Xw72_4 Nw68_3 gb_ba59_1
  show Runs p e below s _ _ _ (Tw72_4.setTop (mkF m 73 #[.val (.int x0), .val (.int x1), .val (.int x2), .val (.int x3), .val (.int x4), .val (.int (3 : Int32)), .unset, .unset, .unset, .unset] [(.ref ba59_1)]))
  refine Runs.go (fun _ => XS.astore Xw72_4.here hx rfl (hb hby at_73) rfl rfl (l' := #[.val (.int x0), .val (.int x1), .val (.int x2), .val (.int x3), .val (.int x4), .val (.int (3 : Int32)), .val (.ref ba59_1), .unset, .unset, .unset]) rfl) ?_
  show Runs p e below s _ _ _ (Tw72_4.setTop (mkF m 75 #[.val (.int x0), .val (.int x1), .val (.int x2), .val (.int x3), .val (.int x4), .val (.int (3 : Int32)), .val (.ref ba59_1), .unset, .unset, .unset] []))
  obtain ⟨To75_5, ho75_5, Xo75_5, eo75_5, Eo75_5, Ao75_5, Do75_5, -, sto75_5⟩ := newO Xw72_4 hx hZ hown (hw _ (List.mem_of_getElem? (i := 1) rfl)) (hw _ (List.mem_of_getElem? (i := 2) rfl)) (hw _ (List.mem_of_getElem? (i := 3) rfl)) ew72_4 (g := (mkF m 75 #[.val (.int x0), .val (.int x1), .val (.int x2), .val (.int x3), .val (.int x4), .val (.int (3 : Int32)), .val (.ref ba59_1), .unset, .unset, .unset] [])) rfl (hb hby at_75) (by decide) (by decide)
  obtain ⟨bo75_5, go75_5⟩ : ∃ z, z = hw72_4.size := ⟨_, rfl⟩
  have ne_o75_5_ba59_1 : ba59_1 ≠ bo75_5 := Nat.ne_of_lt (Nat.lt_of_lt_of_le Eba59_1_w72_4.lt (Nat.le_of_eq go75_5.symm))
  have gb_bo75_5 : n0 ≤ bo75_5 := Nat.le_trans hnw72_4 (Nat.le_of_eq go75_5.symm)
  rw [← go75_5] at Ao75_5 Do75_5 sto75_5
  refine Runs.go sto75_5 ?_
  have Eba59_1_o75_5 := Eba59_1_w72_4.ext Eo75_5
  have Vba59_1_o75_5 := Vw72_4.ext Eo75_5
  have hno75_5 : n0 ≤ ho75_5.size := Nat.le_trans hnw72_4 Eo75_5.1
  have Forder_bo75_5 : Fld Z ho75_5 bo75_5 "com/example/quillon/quillon/core/Prioritization" "order" "[I" .null := Do75_5 (Or.inr (hw _ (List.mem_of_getElem? (i := 11) rfl))) (ty := (.array .int)) (by decide)
  have Fiterations_bo75_5 : Fld Z ho75_5 bo75_5 "com/example/quillon/quillon/core/Prioritization" "iterations" "I" (.int (0 : Int32)) := Do75_5 (Or.inr (hw _ (List.mem_of_getElem? (i := 13) rfl))) (ty := .int) (by decide)
  show Runs p e below s _ _ _ (To75_5.setTop (mkF m 78 #[.val (.int x0), .val (.int x1), .val (.int x2), .val (.int x3), .val (.int x4), .val (.int (3 : Int32)), .val (.ref ba59_1), .unset, .unset, .unset] [(.ref bo75_5)]))
  refine Runs.go (fun _ => XS.dup Xo75_5.here hx rfl (hb hby at_78) rfl rfl) ?_
  show Runs p e below s _ _ _ (To75_5.setTop (mkF m 79 #[.val (.int x0), .val (.int x1), .val (.int x2), .val (.int x3), .val (.int x4), .val (.int (3 : Int32)), .val (.ref ba59_1), .unset, .unset, .unset] [(.ref bo75_5), (.ref bo75_5)]))
  refine Runs.go (fun _ => XS.aload Xo75_5.here hx rfl (hb hby at_79) rfl rfl) ?_
  show Runs p e below s _ _ _ (To75_5.setTop (mkF m 81 #[.val (.int x0), .val (.int x1), .val (.int x2), .val (.int x3), .val (.int x4), .val (.int (3 : Int32)), .val (.ref ba59_1), .unset, .unset, .unset] [(.ref ba59_1), (.ref bo75_5), (.ref bo75_5)]))
  refine Runs.go (fun _ => XS.iload Xo75_5.here hx rfl (hb hby at_81) rfl) ?_
  show Runs p e below s _ _ _ (To75_5.setTop (mkF m 83 #[.val (.int x0), .val (.int x1), .val (.int x2), .val (.int x3), .val (.int x4), .val (.int (3 : Int32)), .val (.ref ba59_1), .unset, .unset, .unset] [(.int x4), (.ref ba59_1), (.ref bo75_5), (.ref bo75_5)]))
  obtain ⟨_, _, ⟨Tc83_6, Lc83_6, kc83_6, nc83_6⟩, -, Xc83_6, ⟨Lcc83_6, hQc83_6, lc83_6, yc83_6, zc83_6⟩, stc83_6⟩ := Xo75_5.specialBack hx (y := (⟨"com/example/quillon/quillon/core/Prioritization", "<init>", "([II)V"⟩ : MethodName)) rfl hown (mvT hZ (hw _ (List.mem_of_getElem? (i := 4) rfl))) (mvT hZ (hw _ (List.mem_of_getElem? (i := 5) rfl))) (mvT hZ (hw _ (List.mem_of_getElem? (i := 6) rfl))) (by decide) (backOf (W := 1) (rm1 l Z a0 hw [] bo75_5 ba59_1 x4 ho75_5 n0 hno75_5 Ao75_5 gb_bo75_5 Forder_bo75_5 Fiterations_bo75_5) hZ (hw _ (List.mem_of_getElem? (i := 6) rfl)) (hw _ (List.mem_of_getElem? (i := 3) rfl)) (by decide) (by decide)) (g := (mkF m 83 #[.val (.int x0), .val (.int x1), .val (.int x2), .val (.int x3), .val (.int x4), .val (.int (3 : Int32)), .val (.ref ba59_1), .unset, .unset, .unset] [(.int x4), (.ref ba59_1), (.ref bo75_5), (.ref bo75_5)])) rfl (by rw [hml]; rfl) (Steps.refl _) (a := bo75_5) (argsL := [(.ref ba59_1), (.int x4)]) (rest := [(.ref bo75_5)]) (lenOf pd_0 rfl) rfl (by show 2 * 0 + _ ≤ _; exact Nat.le_of_eq rfl) (hb hby at_83) (fun _ _ => ⟨rfl, eo75_5, (by decide : 2 + 0 ≤ _), (by decide : 5 + 0 ≤ _)⟩)
  dsimp only [Pt.U, Pt.locs, Pt.cells, Pt.slots] at Xc83_6 lc83_6 yc83_6 zc83_6 stc83_6 hQc83_6
  subst lc83_6 yc83_6 zc83_6
  obtain ⟨rfl, Nc83_6q, Kc83_6, Eic83_6, Foc83_6, Fic83_6⟩ := hQc83_6
  refine Runs.go (fun _ => stc83_6.trans) ?_
  have Nc83_6 := Fr.app Nw72_4 Nc83_6q
  have Vba59_1_c83_6 := Vba59_1_o75_5.keep Kc83_6 (ninS ne_o75_5_ba59_1 nin0)
  have Eba59_1_c83_6 := Eba59_1_o75_5.keep Kc83_6
  have hzc83_6 : n0 ≤ Tc83_6.heap.size := Nat.le_trans hno75_5 Kc83_6.1
  show Runs p e below s _ _ _ (Tc83_6.setTop (mkF m 86 #[.val (.int x0), .val (.int x1), .val (.int x2), .val (.int x3), .val (.int x4), .val (.int (3 : Int32)), .val (.ref ba59_1), .unset, .unset, .unset] [(.ref bo75_5)]))
  refine Runs.go (fun _ => XS.astore Xc83_6.here hx rfl (hb hby at_86) rfl rfl (l' := #[.val (.int x0), .val (.int x1), .val (.int x2), .val (.int x3), .val (.int x4), .val (.int (3 : Int32)), .val (.ref ba59_1), .val (.ref bo75_5), .unset, .unset]) rfl) ?_
  show Runs p e below s _ _ _ (Tc83_6.setTop (mkF m 88 #[.val (.int x0), .val (.int x1), .val (.int x2), .val (.int x3), .val (.int x4), .val (.int (3 : Int32)), .val (.ref ba59_1), .val (.ref bo75_5), .unset, .unset] []))
  refine Runs.go (fun _ => XS.aload Xc83_6.here hx rfl (hb hby at_88) rfl rfl) ?_
  show Runs p e below s _ _ _ (Tc83_6.setTop (mkF m 90 #[.val (.int x0), .val (.int x1), .val (.int x2), .val (.int x3), .val (.int x4), .val (.int (3 : Int32)), .val (.ref ba59_1), .val (.ref bo75_5), .unset, .unset] [(.ref bo75_5)]))
  obtain ⟨cqc90_7, kqc90_7, qc90_7a, qc90_7b, qc90_7c⟩ := isOf hZ rfl Eic83_6
  obtain ⟨_, _, ⟨Tc90_7, Lc90_7, kc90_7, nc90_7⟩, -, Xc90_7, ⟨Lcc90_7, hQc90_7, lc90_7, yc90_7, zc90_7⟩, stc90_7⟩ := Xc83_6.virtualBack hx (y := (⟨"com/example/quillon/quillon/core/Prioritization", "order", "()[I"⟩ : MethodName)) (z := (⟨"com/example/quillon/quillon/core/Prioritization", "order", "()[I"⟩ : MethodName)) hown (mvT hZ (hw _ (List.mem_of_getElem? (i := 14) rfl))) (mvT hZ (hw _ (List.mem_of_getElem? (i := 15) rfl))) (notFace_of_selects (args := #[]) (mvT hZ (hw _ (List.mem_of_getElem? (i := 17) rfl)))) (mvT hZ (hw _ (List.mem_of_getElem? (i := 17) rfl))) (mvT hZ (hw _ (List.mem_of_getElem? (i := 16) rfl))) (by decide) (backOf (W := 0) (rm3 l Z a0 hw [] bo75_5 ba59_1 ka59_1 (3 : Int32) [(.int x0), (.int x1), (.int x2)] Tc83_6.heap n0 hzc83_6 Eic83_6 Foc83_6 Vba59_1_c83_6 Eba59_1_c83_6 (by decide)) hZ (hw _ (List.mem_of_getElem? (i := 18) rfl)) (hw _ (List.mem_of_getElem? (i := 3) rfl)) (by decide) (by decide)) qc90_7a qc90_7c (g := (mkF m 90 #[.val (.int x0), .val (.int x1), .val (.int x2), .val (.int x3), .val (.int x4), .val (.int (3 : Int32)), .val (.ref ba59_1), .val (.ref bo75_5), .unset, .unset] [(.ref bo75_5)])) rfl (by rw [hml]; rfl) (Steps.refl _) (argsL := []) (rest := []) (lenOf pd_2 rfl) rfl (by show 2 * 0 + _ ≤ _; exact Nat.le_of_eq rfl) (hb hby at_90) (fun _ _ => ⟨rfl, rfl, (by decide : 2 + 1 ≤ _), (by decide : 5 + 3 ≤ _)⟩)
  dsimp only [Pt.U, Pt.locs, Pt.cells, Pt.slots] at Xc90_7 lc90_7 yc90_7 zc90_7 stc90_7 hQc90_7
  subst lc90_7 yc90_7 zc90_7
  obtain ⟨bc90_7, rfl, Nc90_7q, gc90_7, Ec90_7, Vc90_7, Eac90_7⟩ := hQc90_7
  refine Runs.go (fun _ => stc90_7.trans) ?_
  have Nc90_7 := Fr.app Nc83_6 Nc90_7q
  have ne_c90_7_bo75_5 : bo75_5 ≠ bc90_7 := Nat.ne_of_lt (Nat.lt_of_lt_of_le Eic83_6.lt (Nat.le_of_eq gc90_7.symm))
  have ne_c90_7_ba59_1 : ba59_1 ≠ bc90_7 := Nat.ne_of_lt (Nat.lt_of_lt_of_le Eba59_1_c83_6.lt (Nat.le_of_eq gc90_7.symm))
  have gb_bc90_7 : n0 ≤ bc90_7 := Nat.le_trans hzc83_6 (Nat.le_of_eq gc90_7.symm)
  have Eba59_1_c90_7 := Eba59_1_c83_6.ext Ec90_7
  have Vba59_1_c90_7 := Vba59_1_c83_6.ext Ec90_7
  have Eo_c90_7 := Eic83_6.ext Ec90_7
  have Fo_c90_7 := Foc83_6.ext Ec90_7
  have Fi_c90_7 := Fic83_6.ext Ec90_7
  have hzc90_7 : n0 ≤ Tc90_7.heap.size := Nat.le_trans hzc83_6 Ec90_7.1
  show Runs p e below s _ _ _ (Tc90_7.setTop (mkF m 93 #[.val (.int x0), .val (.int x1), .val (.int x2), .val (.int x3), .val (.int x4), .val (.int (3 : Int32)), .val (.ref ba59_1), .val (.ref bo75_5), .unset, .unset] [(.ref bc90_7)]))
  refine Runs.go (fun _ => XS.astore Xc90_7.here hx rfl (hb hby at_93) rfl rfl (l' := #[.val (.int x0), .val (.int x1), .val (.int x2), .val (.int x3), .val (.int x4), .val (.int (3 : Int32)), .val (.ref ba59_1), .val (.ref bo75_5), .val (.ref bc90_7), .unset]) rfl) ?_
  show Runs p e below s _ _ _ (Tc90_7.setTop (mkF m 95 #[.val (.int x0), .val (.int x1), .val (.int x2), .val (.int x3), .val (.int x4), .val (.int (3 : Int32)), .val (.ref ba59_1), .val (.ref bo75_5), .val (.ref bc90_7), .unset] []))
  refine Runs.go (fun _ => XS.aload Xc90_7.here hx rfl (hb hby at_95) rfl rfl) ?_
  show Runs p e below s _ _ _ (Tc90_7.setTop (mkF m 97 #[.val (.int x0), .val (.int x1), .val (.int x2), .val (.int x3), .val (.int x4), .val (.int (3 : Int32)), .val (.ref ba59_1), .val (.ref bo75_5), .val (.ref bc90_7), .unset] [(.ref bc90_7)]))
  refine Runs.go (fun _ => XS.ifnullNo Xc90_7.here hx rfl (hb hby at_97) rfl) ?_
  show Runs p e below s _ _ _ (Tc90_7.setTop (mkF m 100 #[.val (.int x0), .val (.int x1), .val (.int x2), .val (.int x3), .val (.int x4), .val (.int (3 : Int32)), .val (.ref ba59_1), .val (.ref bo75_5), .val (.ref bc90_7), .unset] []))
  refine Runs.go (fun _ => XS.aload Xc90_7.here hx rfl (hb hby at_100) rfl rfl) ?_
  show Runs p e below s _ _ _ (Tc90_7.setTop (mkF m 102 #[.val (.int x0), .val (.int x1), .val (.int x2), .val (.int x3), .val (.int x4), .val (.int (3 : Int32)), .val (.ref ba59_1), .val (.ref bo75_5), .val (.ref bc90_7), .unset] [(.ref bc90_7)]))
  refine Runs.go (fun _ => XS.aload Xc90_7.here hx rfl (hb hby at_102) rfl rfl) ?_
  show Runs p e below s _ _ _ (Tc90_7.setTop (mkF m 104 #[.val (.int x0), .val (.int x1), .val (.int x2), .val (.int x3), .val (.int x4), .val (.int (3 : Int32)), .val (.ref ba59_1), .val (.ref bo75_5), .val (.ref bc90_7), .unset] [(.ref ba59_1), (.ref bc90_7)]))
  refine Runs.go (fun _ => Jvm.RoadKit.acmp (g := (mkF m 104 #[.val (.int x0), .val (.int x1), .val (.int x2), .val (.int x3), .val (.int x4), .val (.int (3 : Int32)), .val (.ref ba59_1), .val (.ref bo75_5), .val (.ref bc90_7), .unset] [(.ref ba59_1), (.ref bc90_7)])) Xc90_7 hx rfl rfl rfl (pc0 := 104) (pc' := 109) (same := false) rfl (hb hby at_104) rfl (decide_eq_false fun q => (Ne.symm ne_c90_7_ba59_1) (Value.ref.inj q)) (by decide) (by decide)) ?_
  show Runs p e below s _ _ _ (Tc90_7.setTop (mkF m 109 #[.val (.int x0), .val (.int x1), .val (.int x2), .val (.int x3), .val (.int x4), .val (.int (3 : Int32)), .val (.ref ba59_1), .val (.ref bo75_5), .val (.ref bc90_7), .unset] []))
  refine Runs.go (fun _ => XS.aload Xc90_7.here hx rfl (hb hby at_109) rfl rfl) ?_
  show Runs p e below s _ _ _ (Tc90_7.setTop (mkF m 111 #[.val (.int x0), .val (.int x1), .val (.int x2), .val (.int x3), .val (.int x4), .val (.int (3 : Int32)), .val (.ref ba59_1), .val (.ref bo75_5), .val (.ref bc90_7), .unset] [(.ref bc90_7)]))
  refine Runs.go (fun _ => XS.iload Xc90_7.here hx rfl (hb hby at_111) rfl) ?_
  show Runs p e below s _ _ _ (Tc90_7.setTop (mkF m 113 #[.val (.int x0), .val (.int x1), .val (.int x2), .val (.int x3), .val (.int x4), .val (.int (3 : Int32)), .val (.ref ba59_1), .val (.ref bo75_5), .val (.ref bc90_7), .unset] [(.int (3 : Int32)), (.ref bc90_7)]))
  refine Runs.go (fun _ => XS.iloadN Xc90_7.here hx rfl (hb hby at_113) rfl) ?_
  show Runs p e below s _ _ _ (Tc90_7.setTop (mkF m 114 #[.val (.int x0), .val (.int x1), .val (.int x2), .val (.int x3), .val (.int x4), .val (.int (3 : Int32)), .val (.ref ba59_1), .val (.ref bo75_5), .val (.ref bc90_7), .unset] [(.int x0), (.int (3 : Int32)), (.ref bc90_7)]))
  refine Runs.go (fun _ => XS.iloadN Xc90_7.here hx rfl (hb hby at_114) rfl) ?_
  show Runs p e below s _ _ _ (Tc90_7.setTop (mkF m 115 #[.val (.int x0), .val (.int x1), .val (.int x2), .val (.int x3), .val (.int x4), .val (.int (3 : Int32)), .val (.ref ba59_1), .val (.ref bo75_5), .val (.ref bc90_7), .unset] [(.int x1), (.int x0), (.int (3 : Int32)), (.ref bc90_7)]))
  refine Runs.go (fun _ => XS.iloadN Xc90_7.here hx rfl (hb hby at_115) rfl) ?_
  show Runs p e below s _ _ _ (Tc90_7.setTop (mkF m 116 #[.val (.int x0), .val (.int x1), .val (.int x2), .val (.int x3), .val (.int x4), .val (.int (3 : Int32)), .val (.ref ba59_1), .val (.ref bo75_5), .val (.ref bc90_7), .unset] [(.int x2), (.int x1), (.int x0), (.int (3 : Int32)), (.ref bc90_7)]))
  obtain ⟨_, _, ⟨Tc116_8, Lc116_8, kc116_8, nc116_8⟩, -, Xc116_8, ⟨Lcc116_8, hQc116_8, lc116_8, yc116_8, zc116_8⟩, stc116_8⟩ := Jvm.LawKit.callS Xc90_7 hx (y := (⟨"com/example/quillon/quillon/core/PrioritizationOrderPinLaw", "same", "([IIIII)Z"⟩ : MethodName)) hown (mvT hZ (hw _ (List.mem_of_getElem? (i := 32) rfl))) (mvT hZ (hw _ (List.mem_of_getElem? (i := 33) rfl))) (mvT hZ (hw _ (List.mem_of_getElem? (i := 34) rfl))) (mvT hZ (hw _ (List.mem_of_getElem? (i := 35) rfl))) (by decide) (backOf (W := 0) (rm5d l Z a0 hw [] bc90_7 x0 x1 x2 ka59_1 Tc90_7.heap n0 hzc90_7 Vc90_7) hZ (hw _ (List.mem_of_getElem? (i := 35) rfl)) (hw _ (List.mem_of_getElem? (i := 34) rfl)) (by decide) (by decide)) (g := (mkF m 116 #[.val (.int x0), .val (.int x1), .val (.int x2), .val (.int x3), .val (.int x4), .val (.int (3 : Int32)), .val (.ref ba59_1), .val (.ref bo75_5), .val (.ref bc90_7), .unset] [(.int x2), (.int x1), (.int x0), (.int (3 : Int32)), (.ref bc90_7)])) rfl (by rw [hml]; rfl) (argsL := [(.ref bc90_7), (.int (3 : Int32)), (.int x0), (.int x1), (.int x2)]) (rest := []) (lenOf pd_5 rfl) rfl (by show 2 * 0 + _ ≤ _; exact Nat.le_of_eq rfl) (hb hby at_116) (fun _ _ => ⟨rfl, rfl, (by decide : 3 + 0 ≤ _), (by decide : 8 + 0 ≤ _)⟩)
  dsimp only [Pt.U, Pt.locs, Pt.cells, Pt.slots] at Xc116_8 lc116_8 yc116_8 zc116_8 stc116_8 hQc116_8
  subst lc116_8 yc116_8 zc116_8
  obtain ⟨rfl, rfl, ec116_8⟩ := hQc116_8
  refine Runs.go stc116_8 ?_
  have Nc116_8 := Fr.app Nc90_7 (Fr.nil n0)
  show Runs p e below s _ _ _ (Tc116_8.setTop (mkF m 119 #[.val (.int x0), .val (.int x1), .val (.int x2), .val (.int x3), .val (.int x4), .val (.int (3 : Int32)), .val (.ref ba59_1), .val (.ref bo75_5), .val (.ref bc90_7), .unset] [(.int (1 : Int32))]))
  refine Runs.go (fun _ => XS.ifYes Xc116_8.here hx rfl (pc0 := 119) (pc' := 124) rfl (hb hby at_119) rfl ((if0 _ _).trans (feq ((by decide) : ¬ ((1 : Int32) = (0 : Int32)))).2) (by decide) (by decide)) ?_
  show Runs p e below s _ _ _ (Tc116_8.setTop (mkF m 124 #[.val (.int x0), .val (.int x1), .val (.int x2), .val (.int x3), .val (.int x4), .val (.int (3 : Int32)), .val (.ref ba59_1), .val (.ref bo75_5), .val (.ref bc90_7), .unset] []))
  refine Runs.go (fun _ => XS.iload Xc116_8.here hx rfl (hb hby at_124) rfl) ?_
  show Runs p e below s _ _ _ (Tc116_8.setTop (mkF m 126 #[.val (.int x0), .val (.int x1), .val (.int x2), .val (.int x3), .val (.int x4), .val (.int (3 : Int32)), .val (.ref ba59_1), .val (.ref bo75_5), .val (.ref bc90_7), .unset] [(.int (3 : Int32))]))
  refine Runs.go (fun _ => XS.ifNo Xc116_8.here hx rfl (hb hby at_126) rfl ((if0 _ _).trans (tlt ((by decide) : (0 : Int32) < (3 : Int32))).2.2.2)) ?_
  show Runs p e below s _ _ _ (Tc116_8.setTop (mkF m 129 #[.val (.int x0), .val (.int x1), .val (.int x2), .val (.int x3), .val (.int x4), .val (.int (3 : Int32)), .val (.ref ba59_1), .val (.ref bo75_5), .val (.ref bc90_7), .unset] []))
  refine Runs.go (fun _ => XS.aload Xc116_8.here hx rfl (hb hby at_129) rfl rfl) ?_
  show Runs p e below s _ _ _ (Tc116_8.setTop (mkF m 131 #[.val (.int x0), .val (.int x1), .val (.int x2), .val (.int x3), .val (.int x4), .val (.int (3 : Int32)), .val (.ref ba59_1), .val (.ref bo75_5), .val (.ref bc90_7), .unset] [(.ref bc90_7)]))
  refine Runs.go (fun _ => XS.iconst Xc116_8.here hx rfl (hb hby at_131)) ?_
  show Runs p e below s _ _ _ (Tc116_8.setTop (mkF m 132 #[.val (.int x0), .val (.int x1), .val (.int x2), .val (.int x3), .val (.int x4), .val (.int (3 : Int32)), .val (.ref ba59_1), .val (.ref bo75_5), .val (.ref bc90_7), .unset] [(.int (0 : Int32)), (.ref bc90_7)]))
  refine Runs.go (fun _ => XS.aload Xc116_8.here hx rfl (hb hby at_132) rfl rfl) ?_
  show Runs p e below s _ _ _ (Tc116_8.setTop (mkF m 134 #[.val (.int x0), .val (.int x1), .val (.int x2), .val (.int x3), .val (.int x4), .val (.int (3 : Int32)), .val (.ref ba59_1), .val (.ref bo75_5), .val (.ref bc90_7), .unset] [(.ref bc90_7), (.int (0 : Int32)), (.ref bc90_7)]))
  refine Runs.go (fun _ => XS.iconst Xc116_8.here hx rfl (hb hby at_134)) ?_
  show Runs p e below s _ _ _ (Tc116_8.setTop (mkF m 135 #[.val (.int x0), .val (.int x1), .val (.int x2), .val (.int x3), .val (.int x4), .val (.int (3 : Int32)), .val (.ref ba59_1), .val (.ref bo75_5), .val (.ref bc90_7), .unset] [(.int (0 : Int32)), (.ref bc90_7), (.int (0 : Int32)), (.ref bc90_7)]))
  have VCr135_9 := Vc90_7
  obtain ⟨clr135_9, Arr135_9, -, Sr135_9, Mr135_9, Hr135_9, -⟩ := VCr135_9
  have hinr135_9 : ¬ ((0 : Int32) < 0 ∨ clr135_9.slots.size ≤ ((0 : Int32)).toNatClampNeg) := inb_of Sr135_9 ⟨by decide, by decide⟩
  have hatr135_9 : clr135_9.slots[((0 : Int32)).toNatClampNeg]? = some (.int x0) := Has.at Hr135_9 hinr135_9 rfl
  refine Runs.go (Xc116_8.iaload hx (j := (0 : Int32)) (v := (.int x0)) (by rw [ec116_8]; exact Arr135_9.1) (State.isArrayOf_alike hZ.alike Arr135_9.2.1) Arr135_9.2.2 hinr135_9 hatr135_9 (g := (mkF m 135 #[.val (.int x0), .val (.int x1), .val (.int x2), .val (.int x3), .val (.int x4), .val (.int (3 : Int32)), .val (.ref ba59_1), .val (.ref bo75_5), .val (.ref bc90_7), .unset] [(.int (0 : Int32)), (.ref bc90_7), (.int (0 : Int32)), (.ref bc90_7)])) rfl rfl (hb hby at_135)) ?_
  show Runs p e below s _ _ _ (Tc116_8.setTop (mkF m 136 #[.val (.int x0), .val (.int x1), .val (.int x2), .val (.int x3), .val (.int x4), .val (.int (3 : Int32)), .val (.ref ba59_1), .val (.ref bo75_5), .val (.ref bc90_7), .unset] [(.int x0), (.int (0 : Int32)), (.ref bc90_7)]))
  refine Runs.go (fun _ => XS.iconst Xc116_8.here hx rfl (hb hby at_136)) ?_
  show Runs p e below s _ _ _ (Tc116_8.setTop (mkF m 137 #[.val (.int x0), .val (.int x1), .val (.int x2), .val (.int x3), .val (.int x4), .val (.int (3 : Int32)), .val (.ref ba59_1), .val (.ref bo75_5), .val (.ref bc90_7), .unset] [(.int (1 : Int32)), (.int x0), (.int (0 : Int32)), (.ref bc90_7)]))
  refine Runs.go (fun _ => XS.ixor Xc116_8.here hx rfl (hb hby at_137) rfl) ?_
  show Runs p e below s _ _ _ (Tc116_8.setTop (mkF m 138 #[.val (.int x0), .val (.int x1), .val (.int x2), .val (.int x3), .val (.int x4), .val (.int (3 : Int32)), .val (.ref ba59_1), .val (.ref bo75_5), .val (.ref bc90_7), .unset] [(.int (x0 ^^^ (1 : Int32))), (.int (0 : Int32)), (.ref bc90_7)]))
  have VCw138_10 := Vc90_7
  obtain ⟨clw138_10, Arw138_10, qw138_10, Sw138_10, Mw138_10, Hw138_10, Gw138_10⟩ := VCw138_10
  have hinw138_10 : ¬ ((0 : Int32) < 0 ∨ clw138_10.slots.size ≤ ((0 : Int32)).toNatClampNeg) := inb_of Sw138_10 ⟨by decide, by decide⟩
  obtain ⟨Tw138_10, hw138_10, Xw138_10, ew138_10, Ww138_10, stw138_10⟩ := stI Xc116_8 hx hZ ec116_8 Arw138_10 (j := (0 : Int32)) hinw138_10 (g := (mkF m 138 #[.val (.int x0), .val (.int x1), .val (.int x2), .val (.int x3), .val (.int x4), .val (.int (3 : Int32)), .val (.ref ba59_1), .val (.ref bo75_5), .val (.ref bc90_7), .unset] [(.int (x0 ^^^ (1 : Int32))), (.int (0 : Int32)), (.ref bc90_7)])) rfl rfl (hb hby at_138)
  refine Runs.go stw138_10 ?_
  have hnw138_10 : n0 ≤ hw138_10.size := by rw [Wr.size Ww138_10]; exact hzc90_7
  have Eba59_1_w138_10 := Eba59_1_c90_7.wr Ww138_10
  have Vba59_1_w138_10 := Vba59_1_c90_7.other Ww138_10 ne_c90_7_ba59_1
  have Eo_w138_10 := Eo_c90_7.wr Ww138_10
  have Fo_w138_10 := Fo_c90_7.other Ww138_10 (Or.inl ne_c90_7_bo75_5)
  have Fi_w138_10 := Fi_c90_7.other Ww138_10 (Or.inl ne_c90_7_bo75_5)
  have Ebc90_7_w138_10 := Eac90_7.wr Ww138_10
  have Vw138_10 : Arv Z hw138_10 bc90_7 ka59_1 .int (3 : Int32) [(.int (x0 ^^^ (1 : Int32))), (.int x1), (.int x2)] (.int (0 : Int32)) := Arv.set Arw138_10 qw138_10 Sw138_10 Mw138_10 Hw138_10 Gw138_10 rfl Ww138_10 0 rfl (Nat.le_of_ble_eq_true rfl)
  have Nw138_10 := Fr.snoc Xw138_10 Nc116_8 gb_bc90_7
  show Runs p e below s _ _ _ (Tw138_10.setTop (mkF m 139 #[.val (.int x0), .val (.int x1), .val (.int x2), .val (.int x3), .val (.int x4), .val (.int (3 : Int32)), .val (.ref ba59_1), .val (.ref bo75_5), .val (.ref bc90_7), .unset] []))
  refine Runs.go (fun _ => XS.aload Xw138_10.here hx rfl (hb hby at_139) rfl rfl) ?_
  show Runs p e below s _ _ _ (Tw138_10.setTop (mkF m 141 #[.val (.int x0), .val (.int x1), .val (.int x2), .val (.int x3), .val (.int x4), .val (.int (3 : Int32)), .val (.ref ba59_1), .val (.ref bo75_5), .val (.ref bc90_7), .unset] [(.ref bc90_7)]))
  refine Runs.go (fun _ => XS.iload Xw138_10.here hx rfl (hb hby at_141) rfl) ?_
  show Runs p e below s _ _ _ (Tw138_10.setTop (mkF m 143 #[.val (.int x0), .val (.int x1), .val (.int x2), .val (.int x3), .val (.int x4), .val (.int (3 : Int32)), .val (.ref ba59_1), .val (.ref bo75_5), .val (.ref bc90_7), .unset] [(.int (3 : Int32)), (.ref bc90_7)]))
  refine Runs.go (fun _ => XS.iconst Xw138_10.here hx rfl (hb hby at_143)) ?_
  show Runs p e below s _ _ _ (Tw138_10.setTop (mkF m 144 #[.val (.int x0), .val (.int x1), .val (.int x2), .val (.int x3), .val (.int x4), .val (.int (3 : Int32)), .val (.ref ba59_1), .val (.ref bo75_5), .val (.ref bc90_7), .unset] [(.int (1 : Int32)), (.int (3 : Int32)), (.ref bc90_7)]))
  refine Runs.go (fun _ => XS.isub Xw138_10.here hx rfl (hb hby at_144) rfl) ?_
  show Runs p e below s _ _ _ (Tw138_10.setTop (mkF m 145 #[.val (.int x0), .val (.int x1), .val (.int x2), .val (.int x3), .val (.int x4), .val (.int (3 : Int32)), .val (.ref ba59_1), .val (.ref bo75_5), .val (.ref bc90_7), .unset] [(.int ((3 : Int32) - (1 : Int32))), (.ref bc90_7)]))
  refine Runs.go (fun _ => XS.aload Xw138_10.here hx rfl (hb hby at_145) rfl rfl) ?_
  show Runs p e below s _ _ _ (Tw138_10.setTop (mkF m 147 #[.val (.int x0), .val (.int x1), .val (.int x2), .val (.int x3), .val (.int x4), .val (.int (3 : Int32)), .val (.ref ba59_1), .val (.ref bo75_5), .val (.ref bc90_7), .unset] [(.ref bc90_7), (.int ((3 : Int32) - (1 : Int32))), (.ref bc90_7)]))
  refine Runs.go (fun _ => XS.iload Xw138_10.here hx rfl (hb hby at_147) rfl) ?_
  show Runs p e below s _ _ _ (Tw138_10.setTop (mkF m 149 #[.val (.int x0), .val (.int x1), .val (.int x2), .val (.int x3), .val (.int x4), .val (.int (3 : Int32)), .val (.ref ba59_1), .val (.ref bo75_5), .val (.ref bc90_7), .unset] [(.int (3 : Int32)), (.ref bc90_7), (.int ((3 : Int32) - (1 : Int32))), (.ref bc90_7)]))
  refine Runs.go (fun _ => XS.iconst Xw138_10.here hx rfl (hb hby at_149)) ?_
  show Runs p e below s _ _ _ (Tw138_10.setTop (mkF m 150 #[.val (.int x0), .val (.int x1), .val (.int x2), .val (.int x3), .val (.int x4), .val (.int (3 : Int32)), .val (.ref ba59_1), .val (.ref bo75_5), .val (.ref bc90_7), .unset] [(.int (1 : Int32)), (.int (3 : Int32)), (.ref bc90_7), (.int ((3 : Int32) - (1 : Int32))), (.ref bc90_7)]))
  refine Runs.go (fun _ => XS.isub Xw138_10.here hx rfl (hb hby at_150) rfl) ?_
  show Runs p e below s _ _ _ (Tw138_10.setTop (mkF m 151 #[.val (.int x0), .val (.int x1), .val (.int x2), .val (.int x3), .val (.int x4), .val (.int (3 : Int32)), .val (.ref ba59_1), .val (.ref bo75_5), .val (.ref bc90_7), .unset] [(.int ((3 : Int32) - (1 : Int32))), (.ref bc90_7), (.int ((3 : Int32) - (1 : Int32))), (.ref bc90_7)]))
  have VCr151_11 := Vw138_10
  obtain ⟨clr151_11, Arr151_11, -, Sr151_11, Mr151_11, Hr151_11, -⟩ := VCr151_11
  have hinr151_11 : ¬ (((3 : Int32) - (1 : Int32)) < 0 ∨ clr151_11.slots.size ≤ (((3 : Int32) - (1 : Int32))).toNatClampNeg) := inb_of Sr151_11 ⟨by decide, by decide⟩
  have hatr151_11 : clr151_11.slots[(((3 : Int32) - (1 : Int32))).toNatClampNeg]? = some (.int x2) := Has.at Hr151_11 hinr151_11 rfl
  refine Runs.go (Xw138_10.iaload hx (j := ((3 : Int32) - (1 : Int32))) (v := (.int x2)) (by rw [ew138_10]; exact Arr151_11.1) (State.isArrayOf_alike hZ.alike Arr151_11.2.1) Arr151_11.2.2 hinr151_11 hatr151_11 (g := (mkF m 151 #[.val (.int x0), .val (.int x1), .val (.int x2), .val (.int x3), .val (.int x4), .val (.int (3 : Int32)), .val (.ref ba59_1), .val (.ref bo75_5), .val (.ref bc90_7), .unset] [(.int ((3 : Int32) - (1 : Int32))), (.ref bc90_7), (.int ((3 : Int32) - (1 : Int32))), (.ref bc90_7)])) rfl rfl (hb hby at_151)) ?_
  show Runs p e below s _ _ _ (Tw138_10.setTop (mkF m 152 #[.val (.int x0), .val (.int x1), .val (.int x2), .val (.int x3), .val (.int x4), .val (.int (3 : Int32)), .val (.ref ba59_1), .val (.ref bo75_5), .val (.ref bc90_7), .unset] [(.int x2), (.int ((3 : Int32) - (1 : Int32))), (.ref bc90_7)]))
  refine Runs.go (fun _ => XS.iconst Xw138_10.here hx rfl (hb hby at_152)) ?_
  show Runs p e below s _ _ _ (Tw138_10.setTop (mkF m 153 #[.val (.int x0), .val (.int x1), .val (.int x2), .val (.int x3), .val (.int x4), .val (.int (3 : Int32)), .val (.ref ba59_1), .val (.ref bo75_5), .val (.ref bc90_7), .unset] [(.int (2 : Int32)), (.int x2), (.int ((3 : Int32) - (1 : Int32))), (.ref bc90_7)]))
  refine Runs.go (fun _ => XS.ixor Xw138_10.here hx rfl (hb hby at_153) rfl) ?_
  show Runs p e below s _ _ _ (Tw138_10.setTop (mkF m 154 #[.val (.int x0), .val (.int x1), .val (.int x2), .val (.int x3), .val (.int x4), .val (.int (3 : Int32)), .val (.ref ba59_1), .val (.ref bo75_5), .val (.ref bc90_7), .unset] [(.int (x2 ^^^ (2 : Int32))), (.int ((3 : Int32) - (1 : Int32))), (.ref bc90_7)]))
  have VCw154_12 := Vw138_10
  obtain ⟨clw154_12, Arw154_12, qw154_12, Sw154_12, Mw154_12, Hw154_12, Gw154_12⟩ := VCw154_12
  have hinw154_12 : ¬ (((3 : Int32) - (1 : Int32)) < 0 ∨ clw154_12.slots.size ≤ (((3 : Int32) - (1 : Int32))).toNatClampNeg) := inb_of Sw154_12 ⟨by decide, by decide⟩
  obtain ⟨Tw154_12, hw154_12, Xw154_12, ew154_12, Ww154_12, stw154_12⟩ := stI Xw138_10 hx hZ ew138_10 Arw154_12 (j := ((3 : Int32) - (1 : Int32))) hinw154_12 (g := (mkF m 154 #[.val (.int x0), .val (.int x1), .val (.int x2), .val (.int x3), .val (.int x4), .val (.int (3 : Int32)), .val (.ref ba59_1), .val (.ref bo75_5), .val (.ref bc90_7), .unset] [(.int (x2 ^^^ (2 : Int32))), (.int ((3 : Int32) - (1 : Int32))), (.ref bc90_7)])) rfl rfl (hb hby at_154)
  refine Runs.go stw154_12 ?_
  have hnw154_12 : n0 ≤ hw154_12.size := by rw [Wr.size Ww154_12]; exact hnw138_10
  have Eba59_1_w154_12 := Eba59_1_w138_10.wr Ww154_12
  have Vba59_1_w154_12 := Vba59_1_w138_10.other Ww154_12 ne_c90_7_ba59_1
  have Eo_w154_12 := Eo_w138_10.wr Ww154_12
  have Fo_w154_12 := Fo_w138_10.other Ww154_12 (Or.inl ne_c90_7_bo75_5)
  have Fi_w154_12 := Fi_w138_10.other Ww154_12 (Or.inl ne_c90_7_bo75_5)
  have Ebc90_7_w154_12 := Ebc90_7_w138_10.wr Ww154_12
  have Vw154_12 : Arv Z hw154_12 bc90_7 ka59_1 .int (3 : Int32) [(.int (x0 ^^^ (1 : Int32))), (.int x1), (.int (x2 ^^^ (2 : Int32)))] (.int (0 : Int32)) := Arv.set Arw154_12 qw154_12 Sw154_12 Mw154_12 Hw154_12 Gw154_12 rfl Ww154_12 2 rfl (Nat.le_of_ble_eq_true rfl)
  have Nw154_12 := Fr.snoc Xw154_12 Nw138_10 gb_bc90_7
  show Runs p e below s _ _ _ (Tw154_12.setTop (mkF m 155 #[.val (.int x0), .val (.int x1), .val (.int x2), .val (.int x3), .val (.int x4), .val (.int (3 : Int32)), .val (.ref ba59_1), .val (.ref bo75_5), .val (.ref bc90_7), .unset] []))
  refine Runs.go (fun _ => XS.aload Xw154_12.here hx rfl (hb hby at_155) rfl rfl) ?_
  show Runs p e below s _ _ _ (Tw154_12.setTop (mkF m 157 #[.val (.int x0), .val (.int x1), .val (.int x2), .val (.int x3), .val (.int x4), .val (.int (3 : Int32)), .val (.ref ba59_1), .val (.ref bo75_5), .val (.ref bc90_7), .unset] [(.ref bo75_5)]))
  obtain ⟨cqc157_13, kqc157_13, qc157_13a, qc157_13b, qc157_13c⟩ := isOf hZ ew154_12 Eo_w154_12
  obtain ⟨_, _, ⟨Tc157_13, Lc157_13, kc157_13, nc157_13⟩, -, Xc157_13, ⟨Lcc157_13, hQc157_13, lc157_13, yc157_13, zc157_13⟩, stc157_13⟩ := Xw154_12.virtualBack hx (y := (⟨"com/example/quillon/quillon/core/Prioritization", "order", "()[I"⟩ : MethodName)) (z := (⟨"com/example/quillon/quillon/core/Prioritization", "order", "()[I"⟩ : MethodName)) hown (mvT hZ (hw _ (List.mem_of_getElem? (i := 14) rfl))) (mvT hZ (hw _ (List.mem_of_getElem? (i := 15) rfl))) (notFace_of_selects (args := #[]) (mvT hZ (hw _ (List.mem_of_getElem? (i := 17) rfl)))) (mvT hZ (hw _ (List.mem_of_getElem? (i := 17) rfl))) (mvT hZ (hw _ (List.mem_of_getElem? (i := 16) rfl))) (by decide) (backOf (W := 0) (rm3 l Z a0 hw [] bo75_5 ba59_1 ka59_1 (3 : Int32) [(.int x0), (.int x1), (.int x2)] hw154_12 n0 hnw154_12 Eo_w154_12 Fo_w154_12 Vba59_1_w154_12 Eba59_1_w154_12 (by decide)) hZ (hw _ (List.mem_of_getElem? (i := 18) rfl)) (hw _ (List.mem_of_getElem? (i := 3) rfl)) (by decide) (by decide)) qc157_13a qc157_13c (g := (mkF m 157 #[.val (.int x0), .val (.int x1), .val (.int x2), .val (.int x3), .val (.int x4), .val (.int (3 : Int32)), .val (.ref ba59_1), .val (.ref bo75_5), .val (.ref bc90_7), .unset] [(.ref bo75_5)])) rfl (by rw [hml]; rfl) (Steps.refl _) (argsL := []) (rest := []) (lenOf pd_2 rfl) rfl (by show 2 * 0 + _ ≤ _; exact Nat.le_of_eq rfl) (hb hby at_157) (fun _ _ => ⟨rfl, ew154_12, (by decide : 3 + 1 ≤ _), (by decide : 8 + 3 ≤ _)⟩)
  dsimp only [Pt.U, Pt.locs, Pt.cells, Pt.slots] at Xc157_13 lc157_13 yc157_13 zc157_13 stc157_13 hQc157_13
  subst lc157_13 yc157_13 zc157_13
  obtain ⟨bc157_13, rfl, Nc157_13q, gc157_13, Ec157_13, Vc157_13, Eac157_13⟩ := hQc157_13
  refine Runs.go (fun _ => stc157_13.trans) ?_
  have Nc157_13 := Fr.app Nw154_12 Nc157_13q
  have ne_c157_13_bo75_5 : bo75_5 ≠ bc157_13 := Nat.ne_of_lt (Nat.lt_of_lt_of_le Eo_w154_12.lt (Nat.le_of_eq gc157_13.symm))
  have ne_c157_13_bc90_7 : bc90_7 ≠ bc157_13 := Nat.ne_of_lt (Nat.lt_of_lt_of_le Vw154_12.lt (Nat.le_of_eq gc157_13.symm))
  have ne_c157_13_ba59_1 : ba59_1 ≠ bc157_13 := Nat.ne_of_lt (Nat.lt_of_lt_of_le Eba59_1_w154_12.lt (Nat.le_of_eq gc157_13.symm))
  have gb_bc157_13 : n0 ≤ bc157_13 := Nat.le_trans hnw154_12 (Nat.le_of_eq gc157_13.symm)
  have Eba59_1_c157_13 := Eba59_1_w154_12.ext Ec157_13
  have Vba59_1_c157_13 := Vba59_1_w154_12.ext Ec157_13
  have Eo_c157_13 := Eo_w154_12.ext Ec157_13
  have Fo_c157_13 := Fo_w154_12.ext Ec157_13
  have Fi_c157_13 := Fi_w154_12.ext Ec157_13
  have Vbc90_7_c157_13 := Vw154_12.ext Ec157_13
  have Ebc90_7_c157_13 := Ebc90_7_w154_12.ext Ec157_13
  have hzc157_13 : n0 ≤ Tc157_13.heap.size := Nat.le_trans hnw154_12 Ec157_13.1
  show Runs p e below s _ _ _ (Tc157_13.setTop (mkF m 160 #[.val (.int x0), .val (.int x1), .val (.int x2), .val (.int x3), .val (.int x4), .val (.int (3 : Int32)), .val (.ref ba59_1), .val (.ref bo75_5), .val (.ref bc90_7), .unset] [(.ref bc157_13)]))
  refine Runs.go (fun _ => XS.astore Xc157_13.here hx rfl (hb hby at_160) rfl rfl (l' := #[.val (.int x0), .val (.int x1), .val (.int x2), .val (.int x3), .val (.int x4), .val (.int (3 : Int32)), .val (.ref ba59_1), .val (.ref bo75_5), .val (.ref bc90_7), .val (.ref bc157_13)]) rfl) ?_
  show Runs p e below s _ _ _ (Tc157_13.setTop (mkF m 162 #[.val (.int x0), .val (.int x1), .val (.int x2), .val (.int x3), .val (.int x4), .val (.int (3 : Int32)), .val (.ref ba59_1), .val (.ref bo75_5), .val (.ref bc90_7), .val (.ref bc157_13)] []))
  refine Runs.go (fun _ => XS.aload Xc157_13.here hx rfl (hb hby at_162) rfl rfl) ?_
  show Runs p e below s _ _ _ (Tc157_13.setTop (mkF m 164 #[.val (.int x0), .val (.int x1), .val (.int x2), .val (.int x3), .val (.int x4), .val (.int (3 : Int32)), .val (.ref ba59_1), .val (.ref bo75_5), .val (.ref bc90_7), .val (.ref bc157_13)] [(.ref bc157_13)]))
  refine Runs.go (fun _ => XS.ifnullNo Xc157_13.here hx rfl (hb hby at_164) rfl) ?_
  show Runs p e below s _ _ _ (Tc157_13.setTop (mkF m 167 #[.val (.int x0), .val (.int x1), .val (.int x2), .val (.int x3), .val (.int x4), .val (.int (3 : Int32)), .val (.ref ba59_1), .val (.ref bo75_5), .val (.ref bc90_7), .val (.ref bc157_13)] []))
  refine Runs.go (fun _ => XS.aload Xc157_13.here hx rfl (hb hby at_167) rfl rfl) ?_
  show Runs p e below s _ _ _ (Tc157_13.setTop (mkF m 169 #[.val (.int x0), .val (.int x1), .val (.int x2), .val (.int x3), .val (.int x4), .val (.int (3 : Int32)), .val (.ref ba59_1), .val (.ref bo75_5), .val (.ref bc90_7), .val (.ref bc157_13)] [(.ref bc157_13)]))
  refine Runs.go (fun _ => XS.aload Xc157_13.here hx rfl (hb hby at_169) rfl rfl) ?_
  show Runs p e below s _ _ _ (Tc157_13.setTop (mkF m 171 #[.val (.int x0), .val (.int x1), .val (.int x2), .val (.int x3), .val (.int x4), .val (.int (3 : Int32)), .val (.ref ba59_1), .val (.ref bo75_5), .val (.ref bc90_7), .val (.ref bc157_13)] [(.ref ba59_1), (.ref bc157_13)]))
  refine Runs.go (fun _ => Jvm.RoadKit.acmp (g := (mkF m 171 #[.val (.int x0), .val (.int x1), .val (.int x2), .val (.int x3), .val (.int x4), .val (.int (3 : Int32)), .val (.ref ba59_1), .val (.ref bo75_5), .val (.ref bc90_7), .val (.ref bc157_13)] [(.ref ba59_1), (.ref bc157_13)])) Xc157_13 hx rfl rfl rfl (pc0 := 171) (pc' := 174) (same := false) rfl (hb hby at_171) rfl (decide_eq_false fun q => (Ne.symm ne_c157_13_ba59_1) (Value.ref.inj q)) (by decide) (by decide)) ?_
  show Runs p e below s _ _ _ (Tc157_13.setTop (mkF m 174 #[.val (.int x0), .val (.int x1), .val (.int x2), .val (.int x3), .val (.int x4), .val (.int (3 : Int32)), .val (.ref ba59_1), .val (.ref bo75_5), .val (.ref bc90_7), .val (.ref bc157_13)] []))
  refine Runs.go (fun _ => XS.aload Xc157_13.here hx rfl (hb hby at_174) rfl rfl) ?_
  show Runs p e below s _ _ _ (Tc157_13.setTop (mkF m 176 #[.val (.int x0), .val (.int x1), .val (.int x2), .val (.int x3), .val (.int x4), .val (.int (3 : Int32)), .val (.ref ba59_1), .val (.ref bo75_5), .val (.ref bc90_7), .val (.ref bc157_13)] [(.ref bc157_13)]))
  refine Runs.go (fun _ => XS.aload Xc157_13.here hx rfl (hb hby at_176) rfl rfl) ?_
  show Runs p e below s _ _ _ (Tc157_13.setTop (mkF m 178 #[.val (.int x0), .val (.int x1), .val (.int x2), .val (.int x3), .val (.int x4), .val (.int (3 : Int32)), .val (.ref ba59_1), .val (.ref bo75_5), .val (.ref bc90_7), .val (.ref bc157_13)] [(.ref bc90_7), (.ref bc157_13)]))
  refine Runs.go (fun _ => Jvm.RoadKit.acmp (g := (mkF m 178 #[.val (.int x0), .val (.int x1), .val (.int x2), .val (.int x3), .val (.int x4), .val (.int (3 : Int32)), .val (.ref ba59_1), .val (.ref bo75_5), .val (.ref bc90_7), .val (.ref bc157_13)] [(.ref bc90_7), (.ref bc157_13)])) Xc157_13 hx rfl rfl rfl (pc0 := 178) (pc' := 183) (same := false) rfl (hb hby at_178) rfl (decide_eq_false fun q => (Ne.symm ne_c157_13_bc90_7) (Value.ref.inj q)) (by decide) (by decide)) ?_
  show Runs p e below s _ _ _ (Tc157_13.setTop (mkF m 183 #[.val (.int x0), .val (.int x1), .val (.int x2), .val (.int x3), .val (.int x4), .val (.int (3 : Int32)), .val (.ref ba59_1), .val (.ref bo75_5), .val (.ref bc90_7), .val (.ref bc157_13)] []))
  refine Runs.go (fun _ => XS.aload Xc157_13.here hx rfl (hb hby at_183) rfl rfl) ?_
  show Runs p e below s _ _ _ (Tc157_13.setTop (mkF m 185 #[.val (.int x0), .val (.int x1), .val (.int x2), .val (.int x3), .val (.int x4), .val (.int (3 : Int32)), .val (.ref ba59_1), .val (.ref bo75_5), .val (.ref bc90_7), .val (.ref bc157_13)] [(.ref bc157_13)]))
  refine Runs.go (fun _ => XS.iload Xc157_13.here hx rfl (hb hby at_185) rfl) ?_
  show Runs p e below s _ _ _ (Tc157_13.setTop (mkF m 187 #[.val (.int x0), .val (.int x1), .val (.int x2), .val (.int x3), .val (.int x4), .val (.int (3 : Int32)), .val (.ref ba59_1), .val (.ref bo75_5), .val (.ref bc90_7), .val (.ref bc157_13)] [(.int (3 : Int32)), (.ref bc157_13)]))
  refine Runs.go (fun _ => XS.iloadN Xc157_13.here hx rfl (hb hby at_187) rfl) ?_
  show Runs p e below s _ _ _ (Tc157_13.setTop (mkF m 188 #[.val (.int x0), .val (.int x1), .val (.int x2), .val (.int x3), .val (.int x4), .val (.int (3 : Int32)), .val (.ref ba59_1), .val (.ref bo75_5), .val (.ref bc90_7), .val (.ref bc157_13)] [(.int x0), (.int (3 : Int32)), (.ref bc157_13)]))
  refine Runs.go (fun _ => XS.iloadN Xc157_13.here hx rfl (hb hby at_188) rfl) ?_
  show Runs p e below s _ _ _ (Tc157_13.setTop (mkF m 189 #[.val (.int x0), .val (.int x1), .val (.int x2), .val (.int x3), .val (.int x4), .val (.int (3 : Int32)), .val (.ref ba59_1), .val (.ref bo75_5), .val (.ref bc90_7), .val (.ref bc157_13)] [(.int x1), (.int x0), (.int (3 : Int32)), (.ref bc157_13)]))
  refine Runs.go (fun _ => XS.iloadN Xc157_13.here hx rfl (hb hby at_189) rfl) ?_
  show Runs p e below s _ _ _ (Tc157_13.setTop (mkF m 190 #[.val (.int x0), .val (.int x1), .val (.int x2), .val (.int x3), .val (.int x4), .val (.int (3 : Int32)), .val (.ref ba59_1), .val (.ref bo75_5), .val (.ref bc90_7), .val (.ref bc157_13)] [(.int x2), (.int x1), (.int x0), (.int (3 : Int32)), (.ref bc157_13)]))
  obtain ⟨_, _, ⟨Tc190_14, Lc190_14, kc190_14, nc190_14⟩, -, Xc190_14, ⟨Lcc190_14, hQc190_14, lc190_14, yc190_14, zc190_14⟩, stc190_14⟩ := Jvm.LawKit.callS Xc157_13 hx (y := (⟨"com/example/quillon/quillon/core/PrioritizationOrderPinLaw", "same", "([IIIII)Z"⟩ : MethodName)) hown (mvT hZ (hw _ (List.mem_of_getElem? (i := 32) rfl))) (mvT hZ (hw _ (List.mem_of_getElem? (i := 33) rfl))) (mvT hZ (hw _ (List.mem_of_getElem? (i := 34) rfl))) (mvT hZ (hw _ (List.mem_of_getElem? (i := 35) rfl))) (by decide) (backOf (W := 0) (rm5d l Z a0 hw [] bc157_13 x0 x1 x2 ka59_1 Tc157_13.heap n0 hzc157_13 Vc157_13) hZ (hw _ (List.mem_of_getElem? (i := 35) rfl)) (hw _ (List.mem_of_getElem? (i := 34) rfl)) (by decide) (by decide)) (g := (mkF m 190 #[.val (.int x0), .val (.int x1), .val (.int x2), .val (.int x3), .val (.int x4), .val (.int (3 : Int32)), .val (.ref ba59_1), .val (.ref bo75_5), .val (.ref bc90_7), .val (.ref bc157_13)] [(.int x2), (.int x1), (.int x0), (.int (3 : Int32)), (.ref bc157_13)])) rfl (by rw [hml]; rfl) (argsL := [(.ref bc157_13), (.int (3 : Int32)), (.int x0), (.int x1), (.int x2)]) (rest := []) (lenOf pd_5 rfl) rfl (by show 2 * 0 + _ ≤ _; exact Nat.le_of_eq rfl) (hb hby at_190) (fun _ _ => ⟨rfl, rfl, (by decide : 4 + 0 ≤ _), (by decide : 11 + 0 ≤ _)⟩)
  dsimp only [Pt.U, Pt.locs, Pt.cells, Pt.slots] at Xc190_14 lc190_14 yc190_14 zc190_14 stc190_14 hQc190_14
  subst lc190_14 yc190_14 zc190_14
  obtain ⟨rfl, rfl, ec190_14⟩ := hQc190_14
  refine Runs.go stc190_14 ?_
  have Nc190_14 := Fr.app Nc157_13 (Fr.nil n0)
  show Runs p e below s _ _ _ (Tc190_14.setTop (mkF m 193 #[.val (.int x0), .val (.int x1), .val (.int x2), .val (.int x3), .val (.int x4), .val (.int (3 : Int32)), .val (.ref ba59_1), .val (.ref bo75_5), .val (.ref bc90_7), .val (.ref bc157_13)] [(.int (1 : Int32))]))
  refine Runs.go (fun _ => XS.ifNo Xc190_14.here hx rfl (hb hby at_193) rfl ((if0 _ _).trans (feq ((by decide) : ¬ ((1 : Int32) = (0 : Int32)))).1)) ?_
  show Runs p e below s _ _ _ (Tc190_14.setTop (mkF m 196 #[.val (.int x0), .val (.int x1), .val (.int x2), .val (.int x3), .val (.int x4), .val (.int (3 : Int32)), .val (.ref ba59_1), .val (.ref bo75_5), .val (.ref bc90_7), .val (.ref bc157_13)] []))
  refine Runs.go (fun _ => XS.aload Xc190_14.here hx rfl (hb hby at_196) rfl rfl) ?_
  show Runs p e below s _ _ _ (Tc190_14.setTop (mkF m 198 #[.val (.int x0), .val (.int x1), .val (.int x2), .val (.int x3), .val (.int x4), .val (.int (3 : Int32)), .val (.ref ba59_1), .val (.ref bo75_5), .val (.ref bc90_7), .val (.ref bc157_13)] [(.ref ba59_1)]))
  refine Runs.go (fun _ => XS.iload Xc190_14.here hx rfl (hb hby at_198) rfl) ?_
  show Runs p e below s _ _ _ (Tc190_14.setTop (mkF m 200 #[.val (.int x0), .val (.int x1), .val (.int x2), .val (.int x3), .val (.int x4), .val (.int (3 : Int32)), .val (.ref ba59_1), .val (.ref bo75_5), .val (.ref bc90_7), .val (.ref bc157_13)] [(.int (3 : Int32)), (.ref ba59_1)]))
  refine Runs.go (fun _ => XS.iloadN Xc190_14.here hx rfl (hb hby at_200) rfl) ?_
  show Runs p e below s _ _ _ (Tc190_14.setTop (mkF m 201 #[.val (.int x0), .val (.int x1), .val (.int x2), .val (.int x3), .val (.int x4), .val (.int (3 : Int32)), .val (.ref ba59_1), .val (.ref bo75_5), .val (.ref bc90_7), .val (.ref bc157_13)] [(.int x0), (.int (3 : Int32)), (.ref ba59_1)]))
  refine Runs.go (fun _ => XS.iloadN Xc190_14.here hx rfl (hb hby at_201) rfl) ?_
  show Runs p e below s _ _ _ (Tc190_14.setTop (mkF m 202 #[.val (.int x0), .val (.int x1), .val (.int x2), .val (.int x3), .val (.int x4), .val (.int (3 : Int32)), .val (.ref ba59_1), .val (.ref bo75_5), .val (.ref bc90_7), .val (.ref bc157_13)] [(.int x1), (.int x0), (.int (3 : Int32)), (.ref ba59_1)]))
  refine Runs.go (fun _ => XS.iloadN Xc190_14.here hx rfl (hb hby at_202) rfl) ?_
  show Runs p e below s _ _ _ (Tc190_14.setTop (mkF m 203 #[.val (.int x0), .val (.int x1), .val (.int x2), .val (.int x3), .val (.int x4), .val (.int (3 : Int32)), .val (.ref ba59_1), .val (.ref bo75_5), .val (.ref bc90_7), .val (.ref bc157_13)] [(.int x2), (.int x1), (.int x0), (.int (3 : Int32)), (.ref ba59_1)]))
  obtain ⟨_, _, ⟨Tc203_15, Lc203_15, kc203_15, nc203_15⟩, -, Xc203_15, ⟨Lcc203_15, hQc203_15, lc203_15, yc203_15, zc203_15⟩, stc203_15⟩ := Jvm.LawKit.callS Xc190_14 hx (y := (⟨"com/example/quillon/quillon/core/PrioritizationOrderPinLaw", "same", "([IIIII)Z"⟩ : MethodName)) hown (mvT hZ (hw _ (List.mem_of_getElem? (i := 32) rfl))) (mvT hZ (hw _ (List.mem_of_getElem? (i := 33) rfl))) (mvT hZ (hw _ (List.mem_of_getElem? (i := 34) rfl))) (mvT hZ (hw _ (List.mem_of_getElem? (i := 35) rfl))) (by decide) (backOf (W := 0) (rm5d l Z a0 hw [] ba59_1 x0 x1 x2 ka59_1 Tc157_13.heap n0 hzc157_13 Vba59_1_c157_13) hZ (hw _ (List.mem_of_getElem? (i := 35) rfl)) (hw _ (List.mem_of_getElem? (i := 34) rfl)) (by decide) (by decide)) (g := (mkF m 203 #[.val (.int x0), .val (.int x1), .val (.int x2), .val (.int x3), .val (.int x4), .val (.int (3 : Int32)), .val (.ref ba59_1), .val (.ref bo75_5), .val (.ref bc90_7), .val (.ref bc157_13)] [(.int x2), (.int x1), (.int x0), (.int (3 : Int32)), (.ref ba59_1)])) rfl (by rw [hml]; rfl) (argsL := [(.ref ba59_1), (.int (3 : Int32)), (.int x0), (.int x1), (.int x2)]) (rest := []) (lenOf pd_5 rfl) rfl (by show 2 * 0 + _ ≤ _; exact Nat.le_of_eq rfl) (hb hby at_203) (fun _ _ => ⟨rfl, ec190_14, (by decide : 4 + 0 ≤ _), (by decide : 11 + 0 ≤ _)⟩)
  dsimp only [Pt.U, Pt.locs, Pt.cells, Pt.slots] at Xc203_15 lc203_15 yc203_15 zc203_15 stc203_15 hQc203_15
  subst lc203_15 yc203_15 zc203_15
  obtain ⟨rfl, rfl, ec203_15⟩ := hQc203_15
  refine Runs.go stc203_15 ?_
  have Nc203_15 := Fr.app Nc190_14 (Fr.nil n0)
  show Runs p e below s _ _ _ (Tc203_15.setTop (mkF m 206 #[.val (.int x0), .val (.int x1), .val (.int x2), .val (.int x3), .val (.int x4), .val (.int (3 : Int32)), .val (.ref ba59_1), .val (.ref bo75_5), .val (.ref bc90_7), .val (.ref bc157_13)] [(.int (1 : Int32))]))
  refine Runs.go (fun _ => XS.ifNo Xc203_15.here hx rfl (hb hby at_206) rfl ((if0 _ _).trans (feq ((by decide) : ¬ ((1 : Int32) = (0 : Int32)))).1)) ?_
  show Runs p e below s _ _ _ (Tc203_15.setTop (mkF m 209 #[.val (.int x0), .val (.int x1), .val (.int x2), .val (.int x3), .val (.int x4), .val (.int (3 : Int32)), .val (.ref ba59_1), .val (.ref bo75_5), .val (.ref bc90_7), .val (.ref bc157_13)] []))
  refine Runs.go (fun _ => XS.iconst Xc203_15.here hx rfl (hb hby at_209)) ?_
  show Runs p e below s _ _ _ (Tc203_15.setTop (mkF m 210 #[.val (.int x0), .val (.int x1), .val (.int x2), .val (.int x3), .val (.int x4), .val (.int (3 : Int32)), .val (.ref ba59_1), .val (.ref bo75_5), .val (.ref bc90_7), .val (.ref bc157_13)] [(.int (1 : Int32))]))
  refine Runs.go (fun _ => XS.goto Xc203_15.here hx rfl (pc0 := 210) (pc' := 214) rfl (hb hby at_210) (by decide) (by decide)) ?_
  show Runs p e below s _ _ _ (Tc203_15.setTop (mkF m 214 #[.val (.int x0), .val (.int x1), .val (.int x2), .val (.int x3), .val (.int x4), .val (.int (3 : Int32)), .val (.ref ba59_1), .val (.ref bo75_5), .val (.ref bc90_7), .val (.ref bc157_13)] [(.int (1 : Int32))]))
  exact Runs.endN Xc203_15 hx (t := .boolean) Bd.returns (by simp) Bd.notSynchronized (hb hby at_214) ⟨rfl, Nc203_15⟩ (by decide) (by decide)
theorem rm0 (l : Launch) (Z : State) (a0 : Array Value) (hw : ∀ d ∈ tables_1, d.before a0 Z = true) (ws : List Jvm.Cond) (x0 x1 x2 x3 x4 : Int32) (h0 : Heap) (n0 : Nat) (hn0 : n0 ≤ h0.size) :
    MetFree l x (head1 (Jvm.Cond.code x code maxLocals ret :: ws) room_1) (fun a U => a = #[(.int x0), (.int x1), (.int x2), (.int x3), (.int x4)] ∧ Z.Warmed39 U.vm ∧ U.heap = h0) (fun _ _ _ _ _ => True) (fun _ U o U' => ∃ v L, o = .returned v ∧ QH (.int (1 : Int32)) n0 v U'.heap L ∧ FrameEnd U o U' L room_1.cells room_1.slots) := by
  rcases own_four x3 with hp | hp | hp | hp
  · exact rm0a l Z a0 hw ws x0 x1 x2 x3 x4 h0 n0 hn0 hp
  · exact rm0b l Z a0 hw ws x0 x1 x2 x3 x4 h0 n0 hn0 hp
  · exact rm0c l Z a0 hw ws x0 x1 x2 x3 x4 h0 n0 hn0 hp
  · exact rm0d l Z a0 hw ws x0 x1 x2 x3 x4 h0 n0 hn0 hp
set_option maxRecDepth 65536 in
set_option maxHeartbeats 40000000 in
theorem comes_1 {Post : Tables → Env → Array Value → State → Outcome → State → Prop} (hpost : ∀ tb e args s v u, (limb_1_1.after args s (.returned v) u = true ∧ limb_1_2.after args s (.returned v) u = true ∧ True) → FrameEnd s (.returned v) u (Jvm.fieldLocs frame_1_writes args s ++ Jvm.arrayLocs frame_1_arrays args s ++ Jvm.staticLocs frame_1_statics s) 16 128 → Post tb e args s (.returned v) u) :
    ArmFor flags0 classFile x code maxLocals ret World_1 tables_1 room_1 Calls_1 rest_1 Pre_1 Post := by
  intro l hfl _ _ p e ha hc hk s m args below hf hA hF happ hP
  obtain ⟨hcalls, hrest, hpre⟩ := hP
  obtain ⟨-, -, -, hnamed, -, -, -, hat⟩ := (Spec.applies_iff hf).mp happ
  obtain ⟨hg, hn⟩ := and_e (Cond.before_iff.mp (show (Jvm.Cond.and given_1 narrow_1).before args s = true from hpre))
  obtain ⟨hcnt, hg⟩ := and_e hg
  obtain ⟨w0, w1, w2, w3, w4, rfl⟩ : ∃ w0 w1 w2 w3 w4 : Value, args = #[w0, w1, w2, w3, w4] := by
    have hs : args.size = 5 := by simpa [Cond.value, given_1] using hcnt
    obtain ⟨L⟩ := args
    match L, hs with
    | [w0, w1, w2, w3, w4], _ => exact ⟨w0, w1, w2, w3, w4, rfl⟩
  obtain ⟨ga0, hg⟩ := and_e hg
  obtain ⟨i0, ei0⟩ := is_v ga0
  obtain rfl : w0 = (.int i0) := Option.some.inj ei0
  obtain ⟨ga1, hg⟩ := and_e hg
  obtain ⟨i1, ei1⟩ := is_v ga1
  obtain rfl : w1 = (.int i1) := Option.some.inj ei1
  obtain ⟨ga2, hg⟩ := and_e hg
  obtain ⟨i2, ei2⟩ := is_v ga2
  obtain rfl : w2 = (.int i2) := Option.some.inj ei2
  obtain ⟨ga3, hg⟩ := and_e hg
  obtain ⟨i3, ei3⟩ := is_v ga3
  obtain rfl : w3 = (.int i3) := Option.some.inj ei3
  have ga4 := hg
  obtain ⟨i4, ei4⟩ := is_v ga4
  obtain rfl : w4 = (.int i4) := Option.some.inj ei4
  have hw := fun d (hd : d ∈ tables_1) => atoms_spec (ws := Jvm.Cond.code x code maxLocals ret :: tables_1) hat d (List.mem_cons_of_mem _ hd)
  obtain ⟨n, o, h1, h2, h3, _, L, rfl, ⟨rfl, N⟩, hq⟩ := rm0 l s _ hw tables_1 i0 i1 i2 i3 i4 s.heap s.heap.size (Nat.le_refl _) p e ha hc hk s m _ below hf ((Spec.applies_iff_loose hf).mp happ).1 ⟨rfl, State.Warmed39.refl s, rfl⟩ trivial
  exact ⟨n, _, h1, h2, h3, hpost _ _ _ _ _ _ ⟨Cond.after_iff.mpr rfl, Cond.after_iff.mpr (eq_i res_at (Term.int_eval (1)) rfl), trivial⟩ ⟨hq.1, hq.2.1, (hq.2.2.sift fun y hy => Or.inr (N y hy)).mono (by decide) (by decide)⟩⟩
theorem main_1_1 : Claimed_1_1 := comes_1 fun _ _ _ _ _ _ h hF => ⟨h.1, hF⟩
theorem main_1_2 : Claimed_1_2 := comes_1 fun _ _ _ _ _ _ h hF => ⟨h.2.1, hF⟩
end Jvm.Pilot.@@N@@
namespace Jvm.Pilot.@@N@@
open Jvm Jvm.ClassFile Sem Op Lib Jvm.Free Jvm.Stand Jvm.Pilot.@@N@@.Jvm.D
/-! MADE BY PROGRAM (witnessworld.py) out of the Statement's table words and the real class files: 10 classes; the members and pool entries that the words name. The judged class is class 1, her method 2. -/
namespace start1
open Jvm.ClassFile
def u (s : String) : CpInfo := .utf8 (stringToUtf16 s)
/-- a pool by its gaps: so many unusable entries, then the entry; so many at the end -/
def gap : Nat → List CpInfo → List CpInfo
  | 0, r => r
  | n + 1, r => .unusable :: gap n r
def poolList (es : List (Nat × CpInfo)) (last : Nat) : List CpInfo := es.foldr (fun e r => gap e.1 (e.2 :: r)) (gap last [])
def pool (es : List (Nat × CpInfo)) (last : Nat) : Array CpInfo := ⟨poolList es last⟩
def fileOf (pool : Array CpInfo) (this : Nat) (attrs : Array Attribute := #[]) (ms : Array MethodInfo := #[]) (fl : Nat := 33) (sup : Nat := 0) (ifs : Array Nat := #[]) (fds : Array FieldInfo := #[]) : ClassFile where
  minorVersion := 0
  majorVersion := 65
  constantPool := pool
  accessFlags := fl
  thisClass := this
  superClass := sup
  interfaces := ifs
  fields := fds
  methods := ms
  attributes := attrs
def plain (name : String) (sup : Option ClassId) : Class where
  name := name
  kind := .ordinary
  loader := none
  accessFlags := 33
  super := sup
  interfaces := #[]
  cf := none
  fields := #[]
  methods := #[]
  instanceTypes := #[]
  staticTypes := #[]
  resolved := #[]
  callSites := []
  init := .initialized
  statics := none
  mirror := none

def pool0 : Array CpInfo := pool [(5, u "<init>"), (0, u "()V"), (1, .class_ 10), (1, u "java/lang/Object"), (85, u "clone"), (0, u "()Ljava/lang/Object;")] 26

def k0c0 : Code := { maxStack := 0, maxLocals := 1, code := object_method_1_code, exceptionTable := #[], attributes := #[] }
def k0m0 : Method := { name := "<init>", desc := "()V", sig := { parameters := [], returnType := none }, accessFlags := 1, code := some k0c0 }
def k0m1 : Method := { name := "clone", desc := "()Ljava/lang/Object;", sig := { parameters := [], returnType := some (.object "java/lang/Object") }, accessFlags := 260, code := none }
/-- java/lang/Object -/
def k0 : Class := { plain "java/lang/Object" none with
  accessFlags := 33
  interfaces := #[]
  cf := some (fileOf pool0 8 #[] #[{ accessFlags := 1, nameIndex := 5, descriptorIndex := 6, attributes := #[] }, { accessFlags := 260, nameIndex := 96, descriptorIndex := 97, attributes := #[] }] 33 0 #[] #[])
  fields := #[]
  methods := #[k0m0, k0m1]
  instanceTypes := #[]
  staticTypes := #[]
  resolved := Array.replicate 124 none
  statics := none }

def pool1 : Array CpInfo := pool [(2, .class_ 4), (1, u "java/lang/Object"), (0, u "<init>"), (0, u "()V"), (0, .class_ 8), (0, u "com/example/quillon/quillon/core/Prioritization"), (0, .methodref 7 10), (0, .nameAndType 5 11), (0, u "([II)V"), (0, .methodref 7 13), (0, .nameAndType 14 15), (0, u "order"), (0, u "()[I"), (0, .methodref 17 18), (0, .class_ 19), (0, .nameAndType 20 21), (0, u "com/example/quillon/quillon/core/PrioritizationOrderPinLaw"), (0, u "same"), (0, u "([IIIII)Z"), (3, u "law"), (0, u "(IIIII)Z")] 4

def k1m0 : Method := { name := "<init>", desc := "()V", sig := { parameters := [], returnType := none }, accessFlags := 1, code := none }
def k1c1 : Code := { maxStack := 2, maxLocals := 5, code := method_2_code, exceptionTable := #[], attributes := #[] }
def k1m1 : Method := { name := "same", desc := "([IIIII)Z", sig := { parameters := [(.array .int), .int, .int, .int, .int], returnType := some .boolean }, accessFlags := 10, code := some k1c1 }
def k1c2 : Code := { maxStack := 5, maxLocals := 10, code := code, exceptionTable := #[], attributes := #[] }
def k1m2 : Method := { name := "law", desc := "(IIIII)Z", sig := { parameters := [.int, .int, .int, .int, .int], returnType := some .boolean }, accessFlags := 9, code := some k1c2 }
/-- com/example/quillon/quillon/core/PrioritizationOrderPinLaw -/
def k1 : Class := { plain "com/example/quillon/quillon/core/PrioritizationOrderPinLaw" (some 0) with
  accessFlags := 49
  interfaces := #[]
  cf := some (fileOf pool1 17 #[] #[{ accessFlags := 1, nameIndex := 5, descriptorIndex := 6, attributes := #[] }, { accessFlags := 10, nameIndex := 20, descriptorIndex := 21, attributes := #[] }, { accessFlags := 9, nameIndex := 25, descriptorIndex := 26, attributes := #[] }] 49 2 #[] #[])
  fields := #[]
  methods := #[k1m0, k1m1, k1m2]
  instanceTypes := #[]
  staticTypes := #[]
  resolved := Array.replicate 31 none
  statics := none }

def pool2 : Array CpInfo := pool [(1, .methodref 2 3), (0, .class_ 4), (0, .nameAndType 5 6), (0, u "java/lang/Object"), (0, u "<init>"), (0, u "()V"), (0, .fieldref 8 9), (0, .class_ 10), (0, .nameAndType 11 12), (0, u "com/example/quillon/quillon/core/Prioritization"), (0, u "order"), (0, u "[I"), (0, .fieldref 8 14), (0, .nameAndType 15 16), (0, u "iterations"), (0, u "I"), (0, .methodref 18 19), (0, .class_ 20), (0, .nameAndType 21 22), (0, u "java/util/Arrays"), (0, u "copyOf"), (0, u "([II)[I"), (0, u "([II)V"), (2, u "()[I")] 3

def k2c0 : Code := { maxStack := 2, maxLocals := 3, code := prog_14_method_1_code, exceptionTable := #[], attributes := #[] }
def k2m0 : Method := { name := "<init>", desc := "([II)V", sig := { parameters := [(.array .int), .int], returnType := none }, accessFlags := 0, code := some k2c0 }
def k2c1 : Code := { maxStack := 2, maxLocals := 1, code := prog_14_method_2_code, exceptionTable := #[], attributes := #[] }
def k2m1 : Method := { name := "order", desc := "()[I", sig := { parameters := [], returnType := some (.array .int) }, accessFlags := 1, code := some k2c1 }
/-- com/example/quillon/quillon/core/Prioritization -/
def k2 : Class := { plain "com/example/quillon/quillon/core/Prioritization" (some 0) with
  accessFlags := 49
  interfaces := #[]
  cf := some (fileOf pool2 8 #[] #[{ accessFlags := 0, nameIndex := 5, descriptorIndex := 23, attributes := #[] }, { accessFlags := 1, nameIndex := 11, descriptorIndex := 26, attributes := #[] }] 49 2 #[] #[{ accessFlags := 18, nameIndex := 11, descriptorIndex := 12, attributes := #[] }, { accessFlags := 18, nameIndex := 15, descriptorIndex := 16, attributes := #[] }])
  fields := #[{ name := "order", type := (.array .int), accessFlags := 18, slot := 0, constantValue := 0 }, { name := "iterations", type := .int, accessFlags := 18, slot := 1, constantValue := 0 }]
  methods := #[k2m0, k2m1]
  instanceTypes := #[(.array .int), .int]
  staticTypes := #[]
  resolved := Array.replicate 30 none
  statics := none }

def pool3 : Array CpInfo := pool [(2, .class_ 4), (1, u "java/lang/Object"), (0, u "<init>"), (0, u "()V"), (7, .class_ 16), (1, u "java/util/Arrays"), (57, .class_ 76), (1, u "java/util/Arrays$NaturalOrder"), (32, u "()Ljava/lang/Object;"), (3, .class_ 115), (1, u "java/util/Arrays$LegacyMergeSort"), (1, u "Z"), (10, .nameAndType 129 109), (0, u "clone"), (172, u "copyOf"), (13, .methodref 317 128), (0, .class_ 318), (0, u "[I"), (56, .class_ 376), (0, u "java/util/Arrays$ArrayList"), (68, u "$assertionsDisabled"), (269, u "MIN_ARRAY_SORT_GRAN"), (0, u "I"), (2, u "INSERTIONSORT_THRESHOLD"), (151, u "([II)[I"), (103, .class_ 976), (0, u "java/util/Arrays$ArrayItr")] 52

def k3m0 : Method := { name := "<init>", desc := "()V", sig := { parameters := [], returnType := none }, accessFlags := 2, code := none }
def k3c1 : Code := { maxStack := 6, maxLocals := 3, code := jdk_65_method_123_code, exceptionTable := #[], attributes := #[] }
def k3m1 : Method := { name := "copyOf", desc := "([II)[I", sig := { parameters := [(.array .int), .int], returnType := some (.array .int) }, accessFlags := 9, code := some k3c1 }
/-- java/util/Arrays -/
def k3 : Class := { plain "java/util/Arrays" (some 0) with
  accessFlags := 49
  interfaces := #[]
  cf := some (fileOf pool3 14 #[.nestMembers #[975, 375, 113, 74]] #[{ accessFlags := 2, nameIndex := 5, descriptorIndex := 6, attributes := #[] }, { accessFlags := 9, nameIndex := 302, descriptorIndex := 871, attributes := #[] }] 49 2 #[] #[{ accessFlags := 26, nameIndex := 715, descriptorIndex := 716, attributes := #[] }, { accessFlags := 26, nameIndex := 719, descriptorIndex := 716, attributes := #[] }, { accessFlags := 4120, nameIndex := 445, descriptorIndex := 117, attributes := #[] }])
  fields := #[{ name := "MIN_ARRAY_SORT_GRAN", type := .int, accessFlags := 26, slot := 0, constantValue := 0 }, { name := "INSERTIONSORT_THRESHOLD", type := .int, accessFlags := 26, slot := 1, constantValue := 0 }, { name := "$assertionsDisabled", type := .boolean, accessFlags := 4120, slot := 2, constantValue := 0 }]
  methods := #[k3m0, k3m1]
  instanceTypes := #[]
  staticTypes := #[.int, .int, .boolean]
  resolved := Array.replicate 1029 none
  statics := none }

def pool4 : Array CpInfo := pool [(1, .class_ 2), (0, u "java/lang/Cloneable"), (0, .class_ 4), (0, u "java/lang/Object")] 2

/-- java/lang/Cloneable -/
def k4 : Class := { plain "java/lang/Cloneable" (some 0) with
  accessFlags := 1537
  interfaces := #[]
  cf := some (fileOf pool4 1 #[] #[] 1537 3 #[] #[])
  fields := #[]
  methods := #[]
  instanceTypes := #[]
  staticTypes := #[]
  resolved := Array.replicate 7 none
  statics := none }

def pool5 : Array CpInfo := pool [(1, u "java/io/Serializable"), (0, .class_ 1), (0, u "java/lang/Object"), (0, .class_ 3)] 3

/-- java/io/Serializable -/
def k5 : Class := { plain "java/io/Serializable" (some 0) with
  accessFlags := 1537
  interfaces := #[]
  cf := some (fileOf pool5 2 #[] #[] 1537 4 #[] #[])
  fields := #[]
  methods := #[]
  instanceTypes := #[]
  staticTypes := #[]
  resolved := Array.replicate 8 none
  statics := none }

/-- the primitive byte -/
def k6 : Class := { plain "byte" none with kind := .primitive 'B', accessFlags := 0x411 }
/-- [B -/
def k7 : Class := { plain "[B" (some 0) with kind := .array 6 .byte, interfaces := #[4, 5], accessFlags := 1041 }

/-- the primitive int -/
def k8 : Class := { plain "int" none with kind := .primitive 'I', accessFlags := 0x411 }
/-- [I -/
def k9 : Class := { plain "[I" (some 0) with kind := .array 8 .int, interfaces := #[4, 5], accessFlags := 1041 }

def heap : Heap := #[]
def classes : Array Class := #[k0, k1, k2, k3, k4, k5, k6, k7, k8, k9]
def interned : List (Array UInt16 × Addr) := []
def slotsUsed : Nat := 0
def theMethod : MethodId := ⟨1, 2⟩
def args0 : Array Value := #[.int 7, .int 8, .int 9, .int 10, .int 11]
def aboutOver (below : List Frame) : State where
  vm := { classes := classes, interned := interned.toArray }
  heap := heap
  slotsUsed := slotsUsed
  threads := #[{ frames := .invoking theMethod args0 :: below }]
def below0 : List Frame := [.native { method := ⟨0, 0⟩, args := #[] }]
def about1 : State := aboutOver below0
def p0 : Program := .bare "" "" ""
def e0 : Env := launch0.env 0 0 0
theorem w_frames : about1.frames = Frame.invoking theMethod args0 :: below0 := rfl
set_option maxRecDepth 65536 in
theorem w_args : argsFit about1.vm theMethod args0 = true := by decide +kernel
set_option maxRecDepth 65536 in
theorem w_heap : heapFits about1 = true := by decide +kernel
set_option maxRecDepth 65536 in
theorem w_runnable : about1.curStatus? = some .runnable := by decide +kernel
set_option maxRecDepth 65536 in
theorem w_alone : about1.alone = true := by decide +kernel
set_option maxRecDepth 65536 in
theorem w_named : about1.methodNamed? x = some theMethod := by decide +kernel
set_option maxRecDepth 65536 in
theorem w_hears : about1.hears theMethod below0 = true := by decide +kernel
set_option maxRecDepth 65536 in
theorem w_ripe : about1.ripe theMethod args0 below0 = true := by decide +kernel
theorem w_running : about1.status = .running := rfl
set_option maxRecDepth 65536 in
theorem w_room : about1.hasRoom e0.platform room_1 = true :=
  launch0.hasRoom_least _ room_1 (by decide +kernel) (by decide +kernel) (by decide +kernel) (by decide +kernel) (by decide +kernel) (by decide +kernel)
theorem allAtoms_all (ts : List Jvm.Cond) (a : Array Jvm.Value) (st : Jvm.State) : (allAtoms ts).before a st = ts.all (fun c => c.before a st) := by
  induction ts with
  | nil => rfl
  | cons c t ih =>
    show (Jvm.Cond.and c (allAtoms t)).before a st = _
    rw [Jvm.Cond.before_and, ih, List.all_cons]
def words1 : List Jvm.Cond := Jvm.Cond.code x code maxLocals ret :: tables_1
/-- a 'code' word, met by the world's own term for the bytes: nothing is compared byte by byte -/
theorem code_word {y : MethodName} {bytes : ByteArray} {mx : Nat} {rt : Option FieldType} {a : Array Value} {s : State} {m : MethodId} {meth : Method} {c : Code} (h1 : s.methodNamed? y = some m) (h2 : s.vm.method? m = some meth) (h3 : meth.code = some c) (h4 : c.code = bytes)
    (h5 : (c.maxLocals == mx && c.exceptionTable.isEmpty && decide (c.maxStack ≤ mostOperands) && decide (meth.sig.returnType = rt) && !meth.locks && decide (parseMethodDescriptor y.desc = some meth.sig)) = true) : (Jvm.Cond.code y bytes mx rt).before a s = true := by
  simp only [Bool.and_eq_true, beq_iff_eq, Bool.not_eq_true', decide_eq_true_eq] at h5
  obtain ⟨⟨⟨⟨⟨g1, g2⟩, g3⟩, g4⟩, g5⟩, g6⟩ := h5
  simp [Cond.before, Cond.holds, Cond.value, h1, h2, h3, h4, g1, g2, g3, g4, g5, g6]
def isCode : Jvm.Cond → Bool
  | .code _ _ _ _ => true
  | _ => false
theorem all_split {L : List Jvm.Cond} {P : Jvm.Cond → Bool} (h1 : L.all (fun c => isCode c || P c) = true) (h2 : ∀ c ∈ L.filter isCode, P c = true) : L.all P = true := by
  refine List.all_eq_true.mpr fun c hc => ?_
  have h := List.all_eq_true.mp h1 c hc
  rcases Bool.eq_false_or_eq_true (isCode c) with hi | hi
  · exact h2 c (List.mem_filter.mpr ⟨hc, hi⟩)
  · simpa [hi] using h
set_option maxRecDepth 65536 in
theorem w_c0 : (Jvm.Cond.code x code maxLocals ret).before args0 about1 = true := code_word (m := ⟨1, 2⟩) (meth := k1m2) (c := k1c2) (by decide +kernel) rfl rfl rfl (by decide +kernel)
set_option maxRecDepth 65536 in
theorem w_c1 : (Jvm.Cond.code ({ cls := "com/example/quillon/quillon/core/Prioritization", name := "<init>", desc := "([II)V" } : Jvm.MethodName) prog_14_method_1_code (3 : Nat) (Option.none : Option Jvm.ClassFile.FieldType)).before args0 about1 = true := code_word (m := ⟨2, 0⟩) (meth := k2m0) (c := k2c0) (by decide +kernel) rfl rfl rfl (by decide +kernel)
set_option maxRecDepth 65536 in
theorem w_c2 : (Jvm.Cond.code ({ cls := "java/lang/Object", name := "<init>", desc := "()V" } : Jvm.MethodName) object_method_1_code (1 : Nat) (Option.none : Option Jvm.ClassFile.FieldType)).before args0 about1 = true := code_word (m := ⟨0, 0⟩) (meth := k0m0) (c := k0c0) (by decide +kernel) rfl rfl rfl (by decide +kernel)
set_option maxRecDepth 65536 in
theorem w_c3 : (Jvm.Cond.code ({ cls := "com/example/quillon/quillon/core/Prioritization", name := "order", desc := "()[I" } : Jvm.MethodName) prog_14_method_2_code (1 : Nat) (Option.some (Jvm.ClassFile.FieldType.array Jvm.ClassFile.FieldType.int))).before args0 about1 = true := code_word (m := ⟨2, 1⟩) (meth := k2m1) (c := k2c1) (by decide +kernel) rfl rfl rfl (by decide +kernel)
set_option maxRecDepth 65536 in
theorem w_c4 : (Jvm.Cond.code ({ cls := "java/util/Arrays", name := "copyOf", desc := "([II)[I" } : Jvm.MethodName) jdk_65_method_123_code (3 : Nat) (Option.some (Jvm.ClassFile.FieldType.array Jvm.ClassFile.FieldType.int))).before args0 about1 = true := code_word (m := ⟨3, 1⟩) (meth := k3m1) (c := k3c1) (by decide +kernel) rfl rfl rfl (by decide +kernel)
set_option maxRecDepth 65536 in
theorem w_c5 : (Jvm.Cond.code ({ cls := "com/example/quillon/quillon/core/PrioritizationOrderPinLaw", name := "same", desc := "([IIIII)Z" } : Jvm.MethodName) method_2_code (5 : Nat) (Option.some Jvm.ClassFile.FieldType.boolean)).before args0 about1 = true := code_word (m := ⟨1, 1⟩) (meth := k1m1) (c := k1c1) (by decide +kernel) rfl rfl rfl (by decide +kernel)
def codes1 : List Jvm.Cond := [Jvm.Cond.code x code maxLocals ret, Jvm.Cond.code ({ cls := "com/example/quillon/quillon/core/Prioritization", name := "<init>", desc := "([II)V" } : Jvm.MethodName) prog_14_method_1_code (3 : Nat) (Option.none : Option Jvm.ClassFile.FieldType), Jvm.Cond.code ({ cls := "java/lang/Object", name := "<init>", desc := "()V" } : Jvm.MethodName) object_method_1_code (1 : Nat) (Option.none : Option Jvm.ClassFile.FieldType), Jvm.Cond.code ({ cls := "com/example/quillon/quillon/core/Prioritization", name := "order", desc := "()[I" } : Jvm.MethodName) prog_14_method_2_code (1 : Nat) (Option.some (Jvm.ClassFile.FieldType.array Jvm.ClassFile.FieldType.int)), Jvm.Cond.code ({ cls := "java/util/Arrays", name := "copyOf", desc := "([II)[I" } : Jvm.MethodName) jdk_65_method_123_code (3 : Nat) (Option.some (Jvm.ClassFile.FieldType.array Jvm.ClassFile.FieldType.int)), Jvm.Cond.code ({ cls := "com/example/quillon/quillon/core/PrioritizationOrderPinLaw", name := "same", desc := "([IIIII)Z" } : Jvm.MethodName) method_2_code (5 : Nat) (Option.some Jvm.ClassFile.FieldType.boolean)]
set_option maxRecDepth 65536 in
theorem codes_eq : words1.filter isCode = codes1 := rfl
theorem w_codes : ∀ c ∈ words1.filter isCode, c.before args0 about1 = true := by
  rw [codes_eq]
  intro c hc
  simp only [codes1, List.mem_cons, List.not_mem_nil, or_false] at hc
  rcases hc with rfl | rfl | rfl | rfl | rfl | rfl
  · exact w_c0
  · exact w_c1
  · exact w_c2
  · exact w_c3
  · exact w_c4
  · exact w_c5
set_option maxRecDepth 65536 in
theorem w_t1 : (words1.take 24).all (fun c => isCode c || c.before args0 about1) = true := by decide +kernel
set_option maxRecDepth 65536 in
theorem w_t2 : (words1.drop 24).all (fun c => isCode c || c.before args0 about1) = true := by decide +kernel
theorem w_tables : (allAtoms (Jvm.Cond.code x code maxLocals ret :: tables_1)).before args0 about1 = true := by
  rw [allAtoms_all]
  show words1.all (fun c => c.before args0 about1) = true
  refine all_split ?_ w_codes
  rw [← List.take_append_drop 24 words1, List.all_append, w_t1, w_t2]
  rfl
set_option maxRecDepth 65536 in
theorem w_case : (Jvm.Cond.and given_1 narrow_1).before args0 about1 = true := by decide +kernel
theorem w_applies : (headSpec (Jvm.Cond.code x code maxLocals ret :: tables_1) room_1).applies x e0.platform about1 = true :=
  (Spec.applies_iff w_frames).mpr ⟨w_running, w_runnable, w_alone, w_named, w_hears, w_ripe, w_room, w_tables⟩
theorem atStart : AtStart classFile x code maxLocals ret World_1 tables_1 room_1 Calls_1 rest_1 Pre_1 launch0 p0 e0 about1 theMethod args0 below0 :=
  ⟨lists_1, trivial, launch0.admits_env _ _ _, launch0.least_env, fairChoices_fair.cas, fairChoices_fair.clock, w_frames, w_args, w_heap, w_applies, trivial, trivial, w_case⟩
end start1
theorem witness_1 : WitnessClaimed_1 := ⟨start1.p0, start1.e0, start1.about1, start1.theMethod, start1.args0, start1.below0, start1.atStart⟩
end Jvm.Pilot.@@N@@
