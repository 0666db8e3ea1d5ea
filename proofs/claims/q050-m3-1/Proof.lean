import JvmDerived
import JvmDerived.Pilot.@@N@@Statement
import JvmDerived.Pilot.@@N@@Code
set_option linter.unusedVariables false
set_option linter.unusedSimpArgs false

namespace Jvm.Pilot.@@N@@
open Jvm Jvm.ClassFile Sem Op Lib Jvm.Free Jvm.Stand Jvm.LawKit Jvm.RoadKit Bundle Jvm.Pilot.@@N@@.Jvm.D
def QH (w : Value) (n0 : Nat) (v : Option Value) (h : Heap) (L : List Loc) : Prop := v = some w ∧ Fr n0 L
def own_at (l : List Int32) (j : Int32) : Int32 := l.getD j.toNatClampNeg 0
theorem own_getD (l : List Int32) (j : Int32) : (List.map Value.int l).getD j.toNatClampNeg (.int (0 : Int32)) = .int (own_at l j) := by
  simp only [own_at, List.getD_eq_getElem?_getD, List.getElem?_map]
  cases l[j.toNatClampNeg]? <;> rfl
def own_atJ (l : List Int64) (j : Int32) : Int64 := l.getD j.toNatClampNeg 0
theorem own_getDJ (l : List Int64) (j : Int32) : (List.map Value.long l).getD j.toNatClampNeg (.long (0 : Int64)) = .long (own_atJ l j) := by
  simp only [own_atJ, List.getD_eq_getElem?_getD, List.getElem?_map]
  cases l[j.toNatClampNeg]? <;> rfl
def QP (w : Value) (h0 : Heap) (v : Option Value) (h : Heap) (L : List Loc) : Prop := v = some w ∧ L = [] ∧ h = h0
def Runs (p : Program) (e : Env) (below : List Frame) (s : State) (Q : Option Value → Heap → List Loc → Prop) (k n : Nat) (A : State) : Prop :=
  ∃ s₂ o, Steps p.tables e below A s₂ ∧ s₂.status = .running ∧ Ended s₂ below o ∧ ∃ v L, o = .returned v ∧ Q v s₂.heap L ∧ FrameEnd s o s₂ L k n
section Ends
variable {p : Program} {l : Launch} {e : Env} {R : Room} {s : State} {m : MethodId} {args : Array Value} {below : List Frame} {meth : Method} {c : Code} {T A B : State} {locs : List Loc} {cells slots : Nat} {Q : Option Value → Heap → List Loc → Prop} {k n pc : Nat} {Ls : Array Slot} {rest : List Value}
theorem Runs.go (h : ∀ t, Steps p.tables e below B t → Steps p.tables e below A t) (q : Runs p e below s Q k n B) : Runs p e below s Q k n A := by
  obtain ⟨s₂, o, h1, h2⟩ := q; exact ⟨s₂, o, h _ h1, h2⟩
theorem Runs.endI (X : Stand p l e R s m args below meth c T locs cells slots) (hx : p.tables.exec = Jvm.exec) {z : Int32} (hret : meth.sig.returnType = some .int) (hl : meth.locks = false) (hd : decode c.code pc = .ok (.ireturn, 1)) (hQ : Q (some (.int z)) T.heap locs) (hk : cells ≤ k) (hn : slots ≤ n) : Runs p e below s Q k n (T.setTop (mkF m pc Ls (.int z :: rest))) := by
  obtain ⟨fs, hr, hrun, hended, hW, hsame⟩ := X.leave (v := some (.int z)) (fun h => by rw [hret] at h; cases h) hl
  exact ⟨_, _, retOut X hx hret rfl (Or.inl ⟨rfl, Or.inl rfl, _, rfl⟩) hd hr, hrun, hended, _, _, rfl, hQ, ⟨_, rfl⟩, hW, hsame.mono hk hn⟩
theorem Runs.endJ (X : Stand p l e R s m args below meth c T locs cells slots) (hx : p.tables.exec = Jvm.exec) {z : Int64} (hret : meth.sig.returnType = some .long) (hl : meth.locks = false) (hd : decode c.code pc = .ok (.lreturn, 1)) (hQ : Q (some (.long z)) T.heap locs) (hk : cells ≤ k) (hn : slots ≤ n) : Runs p e below s Q k n (T.setTop (mkF m pc Ls (.long z :: rest))) := by
  obtain ⟨fs, hr, hrun, hended, hW, hsame⟩ := X.leave (v := some (.long z)) (fun h => by rw [hret] at h; cases h) hl
  exact ⟨_, _, retOut X hx hret rfl (Or.inr (Or.inl ⟨rfl, rfl, _, rfl⟩)) hd hr, hrun, hended, _, _, rfl, hQ, ⟨_, rfl⟩, hW, hsame.mono hk hn⟩
theorem Runs.endN (X : Stand p l e R s m args below meth c T locs cells slots) (hx : p.tables.exec = Jvm.exec) {z : Int32} {t : FieldType} (hret : meth.sig.returnType = some t) (ht : t = .boolean ∨ t = .byte ∨ t = .char ∨ t = .short) (hl : meth.locks = false) (hd : decode c.code pc = .ok (.ireturn, 1)) (hQ : Q (some (.int (nar t z))) T.heap locs) (hk : cells ≤ k) (hn : slots ≤ n) : Runs p e below s Q k n (T.setTop (mkF m pc Ls (.int z :: rest))) := by
  obtain ⟨fs, hr, hrun, hended, hW, hsame⟩ := X.leave (v := some (.int (nar t z))) (fun h => by rw [hret] at h; cases h) hl
  exact ⟨_, _, retN X hx hret ht hd hr, hrun, hended, _, _, rfl, hQ, ⟨_, rfl⟩, hW, hsame.mono hk hn⟩
theorem Runs.endV (X : Stand p l e R s m args below meth c T locs cells slots) (hx : p.tables.exec = Jvm.exec) (hret : meth.sig.returnType = none) (hl : meth.locks = false) (hd : decode c.code pc = .ok (.return_, 1)) (hQ : Q none T.heap locs) (hk : cells ≤ k) (hn : slots ≤ n) : Runs p e below s Q k n (T.setTop (mkF m pc Ls [])) := by
  obtain ⟨fs, hr, hrun, hended, hW, hsame⟩ := X.leave (v := none) (fun _ => rfl) hl
  exact ⟨_, _, X.returnOut hx hret hd hr, hrun, hended, _, _, rfl, hQ, ⟨_, rfl⟩, hW, hsame.mono hk hn⟩
theorem Runs.endR (X : Stand p l e R s m args below meth c T locs cells slots) (hx : p.tables.exec = Jvm.exec) {z : Addr} {t : FieldType} (hret : meth.sig.returnType = some t) (ht : t.isReference = true) (hl : meth.locks = false) (hd : decode c.code pc = .ok (.areturn, 1)) (hQ : Q (some (.ref z)) T.heap locs) (hk : cells ≤ k) (hn : slots ≤ n) : Runs p e below s Q k n (T.setTop (mkF m pc Ls (.ref z :: rest))) := by
  obtain ⟨fs, hr, hrun, hended, hW, hsame⟩ := X.leave (v := some (.ref z)) (fun h => by rw [hret] at h; cases h) hl
  exact ⟨_, _, retOut X hx hret (by cases t <;> first | rfl | cases ht) (Or.inr (Or.inr (Or.inr (Or.inr ⟨rfl, ht, rfl⟩)))) hd hr, hrun, hended, _, _, rfl, hQ, ⟨_, rfl⟩, hW, hsame.mono hk hn⟩
end Ends
theorem own_idx (x : Int32) : ¬ (((x.toUInt32 >>> ((1 : Int32) &&& 31).toUInt32).toInt32) &&& (15 : Int32)) < 0 ∧ (((x.toUInt32 >>> ((1 : Int32) &&& 31).toUInt32).toInt32) &&& (15 : Int32)) < (16 : Int32) := by
  have h := c_and ((x.toUInt32 >>> ((1 : Int32) &&& 31).toUInt32).toInt32) 15 (by decide)
  have e0 : (0 : Int32).toInt = 0 := by decide
  have e15 : (15 : Int32).toInt = 15 := by decide
  have e16 : (16 : Int32).toInt = 16 := by decide
  rw [Int32.lt_iff_toInt_lt, Int32.lt_iff_toInt_lt]
  generalize (((x.toUInt32 >>> ((1 : Int32) &&& 31).toUInt32).toInt32) &&& (15 : Int32)) = y at *
  omega

def f1_58  : Int32 := (0 : Int32)
def f1_54  : Int32 := (1 : Int32)
def f1_42 (v0 : Int32) : Int32 := (if v0 < (65536 : Int32) then (f1_58) else (if (1114111 : Int32) < v0 then (f1_58) else (f1_54)))
def f1_30 (v0 : Int32) : Int32 := (if v0 < (57344 : Int32) then (f1_42 v0) else (if (65533 : Int32) < v0 then (f1_42 v0) else (f1_54)))
def f1_0 (x0 : Int32) : Int32 := (if x0 = (9 : Int32) then (f1_54) else (if x0 = (10 : Int32) then (f1_54) else (if x0 = (13 : Int32) then (f1_54) else (if x0 < (32 : Int32) then (f1_30 x0) else (if (55295 : Int32) < x0 then (f1_30 x0) else (f1_54))))))
def F1 (x0 : Int32) : Int32 := f1_0 x0
def f2_62  : Int32 := (1 : Int32)
def f2_50 (v0 : Int32) : Int32 := (if v0 = (65534 : Int32) then (f2_62) else (if v0 = (65535 : Int32) then (f2_62) else (if (1114111 : Int32) < v0 then (1 : Int32) else (0 : Int32))))
def f2_34  : Int32 := (0 : Int32)
def f2_0 (x0 : Int32) : Int32 := (if x0 < (0 : Int32) then (1 : Int32) else (if x0 < (32 : Int32) then (if x0 = (9 : Int32) then (f2_34) else (if x0 = (10 : Int32) then (f2_34) else (if x0 = (13 : Int32) then (f2_34) else (1 : Int32)))) else (if x0 < (55296 : Int32) then (f2_50 x0) else (if (57343 : Int32) < x0 then (f2_50 x0) else (1 : Int32)))))
def F2 (x0 : Int32) : Int32 := f2_0 x0
def f0_141 (t0 : Int32) (t1 : Int32) : Int32 := (if t1 = t0 then (1 : Int32) else (0 : Int32))
def f0_123 (v4 : Int32) : Int32 := (if (F2 v4) = (0 : Int32) then (f0_141 (1 : Int32) (F1 v4)) else (f0_141 (0 : Int32) (F1 v4)))
def f0_0 (x0 : Int32) (x1 : Int32) (x2 : Int32) : Int32 := (if (x1 &&& (1 : Int32)) = (0 : Int32) then (f0_123 x0) else (f0_123 ((own_at [(0 : Int32), (9 : Int32), (10 : Int32), (13 : Int32), (32 : Int32), (55295 : Int32), (55296 : Int32), (57343 : Int32), (57344 : Int32), (65533 : Int32), (65535 : Int32), (65536 : Int32), (1114111 : Int32), (1114112 : Int32), (-2147483648 : Int32), (2147483647 : Int32)] (((x1.toUInt32 >>> ((1 : Int32) &&& 31).toUInt32).toInt32) &&& (15 : Int32))) + ((x2 &&& (7 : Int32)) - (4 : Int32)))))
def F0 (x0 : Int32) (x1 : Int32) (x2 : Int32) : Int32 := f0_0 x0 x1 x2
theorem li32_m2147483648 : (-2147483648 : Int32).toInt = -2147483648 := by decide
theorem li32_0 : (0 : Int32).toInt = 0 := by decide
theorem li32_1 : (1 : Int32).toInt = 1 := by decide
theorem li32_4 : (4 : Int32).toInt = 4 := by decide
theorem li32_7 : (7 : Int32).toInt = 7 := by decide
theorem li32_9 : (9 : Int32).toInt = 9 := by decide
theorem li32_10 : (10 : Int32).toInt = 10 := by decide
theorem li32_13 : (13 : Int32).toInt = 13 := by decide
theorem li32_15 : (15 : Int32).toInt = 15 := by decide
theorem li32_16 : (16 : Int32).toInt = 16 := by decide
theorem li32_32 : (32 : Int32).toInt = 32 := by decide
theorem li32_55295 : (55295 : Int32).toInt = 55295 := by decide
theorem li32_55296 : (55296 : Int32).toInt = 55296 := by decide
theorem li32_57343 : (57343 : Int32).toInt = 57343 := by decide
theorem li32_57344 : (57344 : Int32).toInt = 57344 := by decide
theorem li32_65533 : (65533 : Int32).toInt = 65533 := by decide
theorem li32_65534 : (65534 : Int32).toInt = 65534 := by decide
theorem li32_65535 : (65535 : Int32).toInt = 65535 := by decide
theorem li32_65536 : (65536 : Int32).toInt = 65536 := by decide
theorem li32_1114111 : (1114111 : Int32).toInt = 1114111 := by decide
theorem li32_1114112 : (1114112 : Int32).toInt = 1114112 := by decide
theorem li32_2147483647 : (2147483647 : Int32).toInt = 2147483647 := by decide

def own_P (z : Int) : Prop := z = 9 ∨ z = 10 ∨ z = 13 ∨ (32 ≤ z ∧ z ≤ 55295) ∨ (57344 ≤ z ∧ z ≤ 65533) ∨ (65536 ≤ z ∧ z ≤ 1114111)
theorem own_F1p (c : Int32) (h : own_P c.toInt) : F1 c = 1 := by
  simp only [own_P] at h
  simp only [F1, f1_0, f1_30, f1_42, f1_54, f1_58, Int32.lt_iff_toInt_lt, ← Int32.toInt_inj, li32_m2147483648, li32_0, li32_1, li32_4, li32_7, li32_9, li32_10, li32_13, li32_15, li32_16, li32_32, li32_55295, li32_55296, li32_57343, li32_57344, li32_65533, li32_65534, li32_65535, li32_65536, li32_1114111, li32_1114112, li32_2147483647]
  generalize c.toInt = z at *
  repeat' split
  all_goals first | rfl | omega
theorem own_F1n (c : Int32) (h : ¬ own_P c.toInt) : F1 c = 0 := by
  simp only [own_P] at h
  simp only [F1, f1_0, f1_30, f1_42, f1_54, f1_58, Int32.lt_iff_toInt_lt, ← Int32.toInt_inj, li32_m2147483648, li32_0, li32_1, li32_4, li32_7, li32_9, li32_10, li32_13, li32_15, li32_16, li32_32, li32_55295, li32_55296, li32_57343, li32_57344, li32_65533, li32_65534, li32_65535, li32_65536, li32_1114111, li32_1114112, li32_2147483647]
  generalize c.toInt = z at *
  repeat' split
  all_goals first | rfl | omega
theorem own_F2p (c : Int32) (h : own_P c.toInt) : F2 c = 0 := by
  simp only [own_P] at h
  simp only [F2, f2_0, f2_34, f2_50, f2_62, Int32.lt_iff_toInt_lt, ← Int32.toInt_inj, li32_m2147483648, li32_0, li32_1, li32_4, li32_7, li32_9, li32_10, li32_13, li32_15, li32_16, li32_32, li32_55295, li32_55296, li32_57343, li32_57344, li32_65533, li32_65534, li32_65535, li32_65536, li32_1114111, li32_1114112, li32_2147483647]
  generalize c.toInt = z at *
  repeat' split
  all_goals first | rfl | omega
theorem own_F2n (c : Int32) (h : ¬ own_P c.toInt) : F2 c = 1 := by
  simp only [own_P] at h
  simp only [F2, f2_0, f2_34, f2_50, f2_62, Int32.lt_iff_toInt_lt, ← Int32.toInt_inj, li32_m2147483648, li32_0, li32_1, li32_4, li32_7, li32_9, li32_10, li32_13, li32_15, li32_16, li32_32, li32_55295, li32_55296, li32_57343, li32_57344, li32_65533, li32_65534, li32_65535, li32_65536, li32_1114111, li32_1114112, li32_2147483647]
  generalize c.toInt = z at *
  repeat' split
  all_goals first | rfl | omega
theorem own_law (c : Int32) : f0_123 c = 1 := by
  by_cases h : own_P c.toInt
  · simp only [f0_123, f0_141, own_F1p c h, own_F2p c h]; rfl
  · simp only [f0_123, f0_141, own_F1n c h, own_F2n c h]; rfl
theorem law_true (x0 x1 x2 : Int32) : F0 x0 x1 x2 = 1 := by
  simp only [F0, f0_0, own_law]
  split <;> rfl

theorem pd_0 : parseMethodDescriptor "(I)Z" = some ⟨[.int], some .boolean⟩ := by decide +kernel
theorem d1_0 : decode prog_332_method_2_code 0 = .ok (.iload_n 0, 1) := by decide +kernel
theorem d1_1 : decode prog_332_method_2_code 1 = .ok (.bipush 9, 2) := by decide +kernel
theorem d1_3 : decode prog_332_method_2_code 3 = .ok (.if_icmp .eq 51, 3) := by decide +kernel
theorem d1_6 : decode prog_332_method_2_code 6 = .ok (.iload_n 0, 1) := by decide +kernel
theorem d1_7 : decode prog_332_method_2_code 7 = .ok (.bipush 10, 2) := by decide +kernel
theorem d1_9 : decode prog_332_method_2_code 9 = .ok (.if_icmp .eq 45, 3) := by decide +kernel
theorem d1_12 : decode prog_332_method_2_code 12 = .ok (.iload_n 0, 1) := by decide +kernel
theorem d1_13 : decode prog_332_method_2_code 13 = .ok (.bipush 13, 2) := by decide +kernel
theorem d1_15 : decode prog_332_method_2_code 15 = .ok (.if_icmp .eq 39, 3) := by decide +kernel
theorem d1_18 : decode prog_332_method_2_code 18 = .ok (.iload_n 0, 1) := by decide +kernel
theorem d1_19 : decode prog_332_method_2_code 19 = .ok (.bipush 32, 2) := by decide +kernel
theorem d1_21 : decode prog_332_method_2_code 21 = .ok (.if_icmp .lt 9, 3) := by decide +kernel
theorem d1_24 : decode prog_332_method_2_code 24 = .ok (.iload_n 0, 1) := by decide +kernel
theorem d1_25 : decode prog_332_method_2_code 25 = .ok (.ldc 7, 2) := by decide +kernel
theorem d1_27 : decode prog_332_method_2_code 27 = .ok (.if_icmp .le 27, 3) := by decide +kernel
theorem d1_30 : decode prog_332_method_2_code 30 = .ok (.iload_n 0, 1) := by decide +kernel
theorem d1_31 : decode prog_332_method_2_code 31 = .ok (.ldc 8, 2) := by decide +kernel
theorem d1_33 : decode prog_332_method_2_code 33 = .ok (.if_icmp .lt 9, 3) := by decide +kernel
theorem d1_36 : decode prog_332_method_2_code 36 = .ok (.iload_n 0, 1) := by decide +kernel
theorem d1_37 : decode prog_332_method_2_code 37 = .ok (.ldc 9, 2) := by decide +kernel
theorem d1_39 : decode prog_332_method_2_code 39 = .ok (.if_icmp .le 15, 3) := by decide +kernel
theorem d1_42 : decode prog_332_method_2_code 42 = .ok (.iload_n 0, 1) := by decide +kernel
theorem d1_43 : decode prog_332_method_2_code 43 = .ok (.ldc 10, 2) := by decide +kernel
theorem d1_45 : decode prog_332_method_2_code 45 = .ok (.if_icmp .lt 13, 3) := by decide +kernel
theorem d1_48 : decode prog_332_method_2_code 48 = .ok (.iload_n 0, 1) := by decide +kernel
theorem d1_49 : decode prog_332_method_2_code 49 = .ok (.ldc 11, 2) := by decide +kernel
theorem d1_51 : decode prog_332_method_2_code 51 = .ok (.if_icmp .gt 7, 3) := by decide +kernel
theorem d1_54 : decode prog_332_method_2_code 54 = .ok (.iconst 1, 1) := by decide +kernel
theorem d1_55 : decode prog_332_method_2_code 55 = .ok (.goto 4, 3) := by decide +kernel
theorem d1_58 : decode prog_332_method_2_code 58 = .ok (.iconst 0, 1) := by decide +kernel
theorem d1_59 : decode prog_332_method_2_code 59 = .ok (.ireturn, 1) := by decide +kernel
theorem pn_1 : plainName "com/example/interlinear/interlinear/xml/XmlText" = true := by first | (simp [plainName, overriddenIn]; done) | decide +kernel
theorem ef_1 (m : MethodId) (x0 : Int32) : entryFrame m #[(.int x0)] 1 = mkF m 0 #[.val (.int x0)] [] := by first | (simp [entryFrame, mkF, argsToLocals, Value.category]; done) | rfl
set_option maxRecDepth 65536 in
set_option maxHeartbeats 40000000 in
theorem rm1 (l : Launch) (Z : State) (a0 : Array Value) (hw : ∀ d ∈ tables_1, d.before a0 Z = true) (ws : List Jvm.Cond) (x0 : Int32) (h0 : Heap) :
    MetFree l (⟨"com/example/interlinear/interlinear/xml/XmlText", "isCharacter", "(I)Z"⟩ : MethodName) (head1 (Jvm.Cond.code (⟨"com/example/interlinear/interlinear/xml/XmlText", "isCharacter", "(I)Z"⟩ : MethodName) prog_332_method_2_code 1 (some .boolean) :: ws) ({ frames := 0, cells := 0, slots := 0, locals := 0 } : Room)) (fun a U => a = #[(.int x0)] ∧ Z.Warmed39 U.vm ∧ U.heap = h0) (fun _ _ _ _ _ => True) (fun _ U o U' => ∃ v L, o = .returned v ∧ QP (.int (F1 x0)) h0 v U'.heap L ∧ FrameEnd U o U' L ({ frames := 0, cells := 0, slots := 0, locals := 0 } : Room).cells ({ frames := 0, cells := 0, slots := 0, locals := 0 } : Room).slots) := by
  refine MetFree.of_bodySF (plainFor_of_name pn_1) hisR ?_
  intro p e s m args below meth c s₁ Bd hml0 hP hK
  obtain ⟨rfl, hZ, hh⟩ := hP
  have hx := Bd.exec
  have hby := Bd.bytes
  have hml : c.maxLocals = 1 := hml0
  have hown : s.vm.findClass "com/example/interlinear/interlinear/xml/XmlText" = some m.cls := findClass_of_methodNamed Bd.named
  have X0 : Stand p l e ({ frames := 0, cells := 0, slots := 0, locals := 0 } : Room) s m #[(.int x0)] below meth c s₁ [] 0 0 := Stand.of_body Bd
  have e0 : s₁.heap = h0 := by rw [← hh, Bd.state]; rfl
  show Runs p e below s (QP (.int (F1 x0)) h0) ({ frames := 0, cells := 0, slots := 0, locals := 0 } : Room).cells ({ frames := 0, cells := 0, slots := 0, locals := 0 } : Room).slots (s₁.setTop (entryFrame m #[(.int x0)] 1))
  rw [ef_1 m x0]
  obtain ⟨r, hF⟩ : ∃ r, F1 x0 = r := ⟨_, rfl⟩
  rw [hF]
  have k_58 : ∀ (T : State) (X : Stand p l e ({ frames := 0, cells := 0, slots := 0, locals := 0 } : Room) s m #[(.int x0)] below meth c T [] 0 0) (eT : T.heap = h0) (v0 : Int32), f1_58 = r → Runs p e below s (QP (.int r) h0) ({ frames := 0, cells := 0, slots := 0, locals := 0 } : Room).cells ({ frames := 0, cells := 0, slots := 0, locals := 0 } : Room).slots (T.setTop (mkF m 58 #[.val (.int v0)] [])) := by
    intro T X eT v0 hv
    unfold f1_58 at hv
    refine Runs.go (fun _ => XS.iconst X.here hx rfl (hb hby d1_58)) ?_
    show Runs p e below s _ _ _ (T.setTop (mkF m 59 #[.val (.int v0)] [(.int (0 : Int32))]))
    exact Runs.endN X hx (t := .boolean) Bd.returns (by simp) Bd.notSynchronized (hb hby d1_59) ⟨congrArg (fun z => some (Value.int z)) hv, rfl, eT⟩ (by decide) (by decide)
  have k_54 : ∀ (T : State) (X : Stand p l e ({ frames := 0, cells := 0, slots := 0, locals := 0 } : Room) s m #[(.int x0)] below meth c T [] 0 0) (eT : T.heap = h0) (v0 : Int32), f1_54 = r → Runs p e below s (QP (.int r) h0) ({ frames := 0, cells := 0, slots := 0, locals := 0 } : Room).cells ({ frames := 0, cells := 0, slots := 0, locals := 0 } : Room).slots (T.setTop (mkF m 54 #[.val (.int v0)] [])) := by
    intro T X eT v0 hv
    unfold f1_54 at hv
    refine Runs.go (fun _ => XS.iconst X.here hx rfl (hb hby d1_54)) ?_
    show Runs p e below s _ _ _ (T.setTop (mkF m 55 #[.val (.int v0)] [(.int (1 : Int32))]))
    refine Runs.go (fun _ => XS.goto X.here hx rfl (pc0 := 55) (pc' := 59) rfl (hb hby d1_55) (by decide) (by decide)) ?_
    show Runs p e below s _ _ _ (T.setTop (mkF m 59 #[.val (.int v0)] [(.int (1 : Int32))]))
    exact Runs.endN X hx (t := .boolean) Bd.returns (by simp) Bd.notSynchronized (hb hby d1_59) ⟨congrArg (fun z => some (Value.int z)) hv, rfl, eT⟩ (by decide) (by decide)
  have k_42 : ∀ (T : State) (X : Stand p l e ({ frames := 0, cells := 0, slots := 0, locals := 0 } : Room) s m #[(.int x0)] below meth c T [] 0 0) (eT : T.heap = h0) (v0 : Int32), f1_42 v0 = r → Runs p e below s (QP (.int r) h0) ({ frames := 0, cells := 0, slots := 0, locals := 0 } : Room).cells ({ frames := 0, cells := 0, slots := 0, locals := 0 } : Room).slots (T.setTop (mkF m 42 #[.val (.int v0)] [])) := by
    intro T X eT v0 hv
    unfold f1_42 at hv
    refine Runs.go (fun _ => XS.iloadN X.here hx rfl (hb hby d1_42) rfl) ?_
    show Runs p e below s _ _ _ (T.setTop (mkF m 43 #[.val (.int v0)] [(.int v0)]))
    refine Runs.go (X.ldcInt hx hown (mvT hZ (hw _ (List.mem_of_getElem? (i := 17) rfl))) (g := (mkF m 43 #[.val (.int v0)] [(.int v0)])) rfl (hb hby d1_43)) ?_
    show Runs p e below s _ _ _ (T.setTop (mkF m 45 #[.val (.int v0)] [(.int (65536 : Int32)), (.int v0)]))
    by_cases hc45 : v0 < (65536 : Int32)
    · have hv := (if_pos hc45).symm.trans hv
      refine Runs.go (fun _ => XS.icmpYes X.here hx rfl (pc0 := 45) (pc' := 58) rfl (hb hby d1_45) rfl (tlt hc45).1 (by decide) (by decide)) ?_
      show Runs p e below s _ _ _ (T.setTop (mkF m 58 #[.val (.int v0)] []))
      exact k_58 _ X eT v0 hv
    · have hv := (if_neg hc45).symm.trans hv
      refine Runs.go (fun _ => XS.icmpNo X.here hx rfl (hb hby d1_45) rfl (flt hc45).1) ?_
      show Runs p e below s _ _ _ (T.setTop (mkF m 48 #[.val (.int v0)] []))
      refine Runs.go (fun _ => XS.iloadN X.here hx rfl (hb hby d1_48) rfl) ?_
      show Runs p e below s _ _ _ (T.setTop (mkF m 49 #[.val (.int v0)] [(.int v0)]))
      refine Runs.go (X.ldcInt hx hown (mvT hZ (hw _ (List.mem_of_getElem? (i := 25) rfl))) (g := (mkF m 49 #[.val (.int v0)] [(.int v0)])) rfl (hb hby d1_49)) ?_
      show Runs p e below s _ _ _ (T.setTop (mkF m 51 #[.val (.int v0)] [(.int (1114111 : Int32)), (.int v0)]))
      by_cases hc51 : (1114111 : Int32) < v0
      · have hv := (if_pos hc51).symm.trans hv
        refine Runs.go (fun _ => XS.icmpYes X.here hx rfl (pc0 := 51) (pc' := 58) rfl (hb hby d1_51) rfl (tlt hc51).2.2.1 (by decide) (by decide)) ?_
        show Runs p e below s _ _ _ (T.setTop (mkF m 58 #[.val (.int v0)] []))
        exact k_58 _ X eT v0 hv
      · have hv := (if_neg hc51).symm.trans hv
        refine Runs.go (fun _ => XS.icmpNo X.here hx rfl (hb hby d1_51) rfl (flt hc51).2.2.1) ?_
        show Runs p e below s _ _ _ (T.setTop (mkF m 54 #[.val (.int v0)] []))
        exact k_54 _ X eT v0 hv
  have k_30 : ∀ (T : State) (X : Stand p l e ({ frames := 0, cells := 0, slots := 0, locals := 0 } : Room) s m #[(.int x0)] below meth c T [] 0 0) (eT : T.heap = h0) (v0 : Int32), f1_30 v0 = r → Runs p e below s (QP (.int r) h0) ({ frames := 0, cells := 0, slots := 0, locals := 0 } : Room).cells ({ frames := 0, cells := 0, slots := 0, locals := 0 } : Room).slots (T.setTop (mkF m 30 #[.val (.int v0)] [])) := by
    intro T X eT v0 hv
    unfold f1_30 at hv
    refine Runs.go (fun _ => XS.iloadN X.here hx rfl (hb hby d1_30) rfl) ?_
    show Runs p e below s _ _ _ (T.setTop (mkF m 31 #[.val (.int v0)] [(.int v0)]))
    refine Runs.go (X.ldcInt hx hown (mvT hZ (hw _ (List.mem_of_getElem? (i := 16) rfl))) (g := (mkF m 31 #[.val (.int v0)] [(.int v0)])) rfl (hb hby d1_31)) ?_
    show Runs p e below s _ _ _ (T.setTop (mkF m 33 #[.val (.int v0)] [(.int (57344 : Int32)), (.int v0)]))
    by_cases hc33 : v0 < (57344 : Int32)
    · have hv := (if_pos hc33).symm.trans hv
      refine Runs.go (fun _ => XS.icmpYes X.here hx rfl (pc0 := 33) (pc' := 42) rfl (hb hby d1_33) rfl (tlt hc33).1 (by decide) (by decide)) ?_
      show Runs p e below s _ _ _ (T.setTop (mkF m 42 #[.val (.int v0)] []))
      exact k_42 _ X eT v0 hv
    · have hv := (if_neg hc33).symm.trans hv
      refine Runs.go (fun _ => XS.icmpNo X.here hx rfl (hb hby d1_33) rfl (flt hc33).1) ?_
      show Runs p e below s _ _ _ (T.setTop (mkF m 36 #[.val (.int v0)] []))
      refine Runs.go (fun _ => XS.iloadN X.here hx rfl (hb hby d1_36) rfl) ?_
      show Runs p e below s _ _ _ (T.setTop (mkF m 37 #[.val (.int v0)] [(.int v0)]))
      refine Runs.go (X.ldcInt hx hown (mvT hZ (hw _ (List.mem_of_getElem? (i := 24) rfl))) (g := (mkF m 37 #[.val (.int v0)] [(.int v0)])) rfl (hb hby d1_37)) ?_
      show Runs p e below s _ _ _ (T.setTop (mkF m 39 #[.val (.int v0)] [(.int (65533 : Int32)), (.int v0)]))
      by_cases hc39 : (65533 : Int32) < v0
      · have hv := (if_pos hc39).symm.trans hv
        refine Runs.go (fun _ => XS.icmpNo X.here hx rfl (hb hby d1_39) rfl (tlt hc39).2.2.2) ?_
        show Runs p e below s _ _ _ (T.setTop (mkF m 42 #[.val (.int v0)] []))
        exact k_42 _ X eT v0 hv
      · have hv := (if_neg hc39).symm.trans hv
        refine Runs.go (fun _ => XS.icmpYes X.here hx rfl (pc0 := 39) (pc' := 54) rfl (hb hby d1_39) rfl (flt hc39).2.2.2 (by decide) (by decide)) ?_
        show Runs p e below s _ _ _ (T.setTop (mkF m 54 #[.val (.int v0)] []))
        exact k_54 _ X eT v0 hv
  have k_0 : ∀ (T : State) (X : Stand p l e ({ frames := 0, cells := 0, slots := 0, locals := 0 } : Room) s m #[(.int x0)] below meth c T [] 0 0) (eT : T.heap = h0), f1_0 x0 = r → Runs p e below s (QP (.int r) h0) ({ frames := 0, cells := 0, slots := 0, locals := 0 } : Room).cells ({ frames := 0, cells := 0, slots := 0, locals := 0 } : Room).slots (T.setTop (mkF m 0 #[.val (.int x0)] [])) := by
    intro T X eT  hv
    unfold f1_0 at hv
    refine Runs.go (fun _ => XS.iloadN X.here hx rfl (hb hby d1_0) rfl) ?_
    show Runs p e below s _ _ _ (T.setTop (mkF m 1 #[.val (.int x0)] [(.int x0)]))
    refine Runs.go (fun _ => XS.bipush X.here hx rfl (hb hby d1_1)) ?_
    show Runs p e below s _ _ _ (T.setTop (mkF m 3 #[.val (.int x0)] [(.int (9 : Int32)), (.int x0)]))
    by_cases hc3 : x0 = (9 : Int32)
    · have hv := (if_pos hc3).symm.trans hv
      refine Runs.go (fun _ => XS.icmpYes X.here hx rfl (pc0 := 3) (pc' := 54) rfl (hb hby d1_3) rfl (teq hc3).1 (by decide) (by decide)) ?_
      show Runs p e below s _ _ _ (T.setTop (mkF m 54 #[.val (.int x0)] []))
      exact k_54 _ X eT x0 hv
    · have hv := (if_neg hc3).symm.trans hv
      refine Runs.go (fun _ => XS.icmpNo X.here hx rfl (hb hby d1_3) rfl (feq hc3).1) ?_
      show Runs p e below s _ _ _ (T.setTop (mkF m 6 #[.val (.int x0)] []))
      refine Runs.go (fun _ => XS.iloadN X.here hx rfl (hb hby d1_6) rfl) ?_
      show Runs p e below s _ _ _ (T.setTop (mkF m 7 #[.val (.int x0)] [(.int x0)]))
      refine Runs.go (fun _ => XS.bipush X.here hx rfl (hb hby d1_7)) ?_
      show Runs p e below s _ _ _ (T.setTop (mkF m 9 #[.val (.int x0)] [(.int (10 : Int32)), (.int x0)]))
      by_cases hc9 : x0 = (10 : Int32)
      · have hv := (if_pos hc9).symm.trans hv
        refine Runs.go (fun _ => XS.icmpYes X.here hx rfl (pc0 := 9) (pc' := 54) rfl (hb hby d1_9) rfl (teq hc9).1 (by decide) (by decide)) ?_
        show Runs p e below s _ _ _ (T.setTop (mkF m 54 #[.val (.int x0)] []))
        exact k_54 _ X eT x0 hv
      · have hv := (if_neg hc9).symm.trans hv
        refine Runs.go (fun _ => XS.icmpNo X.here hx rfl (hb hby d1_9) rfl (feq hc9).1) ?_
        show Runs p e below s _ _ _ (T.setTop (mkF m 12 #[.val (.int x0)] []))
        refine Runs.go (fun _ => XS.iloadN X.here hx rfl (hb hby d1_12) rfl) ?_
        show Runs p e below s _ _ _ (T.setTop (mkF m 13 #[.val (.int x0)] [(.int x0)]))
        refine Runs.go (fun _ => XS.bipush X.here hx rfl (hb hby d1_13)) ?_
        show Runs p e below s _ _ _ (T.setTop (mkF m 15 #[.val (.int x0)] [(.int (13 : Int32)), (.int x0)]))
        by_cases hc15 : x0 = (13 : Int32)
        · have hv := (if_pos hc15).symm.trans hv
          refine Runs.go (fun _ => XS.icmpYes X.here hx rfl (pc0 := 15) (pc' := 54) rfl (hb hby d1_15) rfl (teq hc15).1 (by decide) (by decide)) ?_
          show Runs p e below s _ _ _ (T.setTop (mkF m 54 #[.val (.int x0)] []))
          exact k_54 _ X eT x0 hv
        · have hv := (if_neg hc15).symm.trans hv
          refine Runs.go (fun _ => XS.icmpNo X.here hx rfl (hb hby d1_15) rfl (feq hc15).1) ?_
          show Runs p e below s _ _ _ (T.setTop (mkF m 18 #[.val (.int x0)] []))
          refine Runs.go (fun _ => XS.iloadN X.here hx rfl (hb hby d1_18) rfl) ?_
          show Runs p e below s _ _ _ (T.setTop (mkF m 19 #[.val (.int x0)] [(.int x0)]))
          refine Runs.go (fun _ => XS.bipush X.here hx rfl (hb hby d1_19)) ?_
          show Runs p e below s _ _ _ (T.setTop (mkF m 21 #[.val (.int x0)] [(.int (32 : Int32)), (.int x0)]))
          by_cases hc21 : x0 < (32 : Int32)
          · have hv := (if_pos hc21).symm.trans hv
            refine Runs.go (fun _ => XS.icmpYes X.here hx rfl (pc0 := 21) (pc' := 30) rfl (hb hby d1_21) rfl (tlt hc21).1 (by decide) (by decide)) ?_
            show Runs p e below s _ _ _ (T.setTop (mkF m 30 #[.val (.int x0)] []))
            exact k_30 _ X eT x0 hv
          · have hv := (if_neg hc21).symm.trans hv
            refine Runs.go (fun _ => XS.icmpNo X.here hx rfl (hb hby d1_21) rfl (flt hc21).1) ?_
            show Runs p e below s _ _ _ (T.setTop (mkF m 24 #[.val (.int x0)] []))
            refine Runs.go (fun _ => XS.iloadN X.here hx rfl (hb hby d1_24) rfl) ?_
            show Runs p e below s _ _ _ (T.setTop (mkF m 25 #[.val (.int x0)] [(.int x0)]))
            refine Runs.go (X.ldcInt hx hown (mvT hZ (hw _ (List.mem_of_getElem? (i := 22) rfl))) (g := (mkF m 25 #[.val (.int x0)] [(.int x0)])) rfl (hb hby d1_25)) ?_
            show Runs p e below s _ _ _ (T.setTop (mkF m 27 #[.val (.int x0)] [(.int (55295 : Int32)), (.int x0)]))
            by_cases hc27 : (55295 : Int32) < x0
            · have hv := (if_pos hc27).symm.trans hv
              refine Runs.go (fun _ => XS.icmpNo X.here hx rfl (hb hby d1_27) rfl (tlt hc27).2.2.2) ?_
              show Runs p e below s _ _ _ (T.setTop (mkF m 30 #[.val (.int x0)] []))
              exact k_30 _ X eT x0 hv
            · have hv := (if_neg hc27).symm.trans hv
              refine Runs.go (fun _ => XS.icmpYes X.here hx rfl (pc0 := 27) (pc' := 54) rfl (hb hby d1_27) rfl (flt hc27).2.2.2 (by decide) (by decide)) ?_
              show Runs p e below s _ _ _ (T.setTop (mkF m 54 #[.val (.int x0)] []))
              exact k_54 _ X eT x0 hv
  exact k_0 _ X0 e0 hF
theorem d2_0 : decode method_2_code 0 = .ok (.iload_n 0, 1) := by decide +kernel
theorem d2_1 : decode method_2_code 1 = .ok (.ifCond .ge 5, 3) := by decide +kernel
theorem d2_4 : decode method_2_code 4 = .ok (.iconst 1, 1) := by decide +kernel
theorem d2_5 : decode method_2_code 5 = .ok (.ireturn, 1) := by decide +kernel
theorem d2_6 : decode method_2_code 6 = .ok (.iload_n 0, 1) := by decide +kernel
theorem d2_7 : decode method_2_code 7 = .ok (.bipush 32, 2) := by decide +kernel
theorem d2_9 : decode method_2_code 9 = .ok (.if_icmp .ge 27, 3) := by decide +kernel
theorem d2_12 : decode method_2_code 12 = .ok (.iload_n 0, 1) := by decide +kernel
theorem d2_13 : decode method_2_code 13 = .ok (.bipush 9, 2) := by decide +kernel
theorem d2_15 : decode method_2_code 15 = .ok (.if_icmp .eq 19, 3) := by decide +kernel
theorem d2_18 : decode method_2_code 18 = .ok (.iload_n 0, 1) := by decide +kernel
theorem d2_19 : decode method_2_code 19 = .ok (.bipush 10, 2) := by decide +kernel
theorem d2_21 : decode method_2_code 21 = .ok (.if_icmp .eq 13, 3) := by decide +kernel
theorem d2_24 : decode method_2_code 24 = .ok (.iload_n 0, 1) := by decide +kernel
theorem d2_25 : decode method_2_code 25 = .ok (.bipush 13, 2) := by decide +kernel
theorem d2_27 : decode method_2_code 27 = .ok (.if_icmp .eq 7, 3) := by decide +kernel
theorem d2_30 : decode method_2_code 30 = .ok (.iconst 1, 1) := by decide +kernel
theorem d2_31 : decode method_2_code 31 = .ok (.goto 4, 3) := by decide +kernel
theorem d2_34 : decode method_2_code 34 = .ok (.iconst 0, 1) := by decide +kernel
theorem d2_35 : decode method_2_code 35 = .ok (.ireturn, 1) := by decide +kernel
theorem d2_36 : decode method_2_code 36 = .ok (.iload_n 0, 1) := by decide +kernel
theorem d2_37 : decode method_2_code 37 = .ok (.ldc 7, 2) := by decide +kernel
theorem d2_39 : decode method_2_code 39 = .ok (.if_icmp .lt 11, 3) := by decide +kernel
theorem d2_42 : decode method_2_code 42 = .ok (.iload_n 0, 1) := by decide +kernel
theorem d2_43 : decode method_2_code 43 = .ok (.ldc 8, 2) := by decide +kernel
theorem d2_45 : decode method_2_code 45 = .ok (.if_icmp .gt 5, 3) := by decide +kernel
theorem d2_48 : decode method_2_code 48 = .ok (.iconst 1, 1) := by decide +kernel
theorem d2_49 : decode method_2_code 49 = .ok (.ireturn, 1) := by decide +kernel
theorem d2_50 : decode method_2_code 50 = .ok (.iload_n 0, 1) := by decide +kernel
theorem d2_51 : decode method_2_code 51 = .ok (.ldc 9, 2) := by decide +kernel
theorem d2_53 : decode method_2_code 53 = .ok (.if_icmp .eq 9, 3) := by decide +kernel
theorem d2_56 : decode method_2_code 56 = .ok (.iload_n 0, 1) := by decide +kernel
theorem d2_57 : decode method_2_code 57 = .ok (.ldc 10, 2) := by decide +kernel
theorem d2_59 : decode method_2_code 59 = .ok (.if_icmp .ne 5, 3) := by decide +kernel
theorem d2_62 : decode method_2_code 62 = .ok (.iconst 1, 1) := by decide +kernel
theorem d2_63 : decode method_2_code 63 = .ok (.ireturn, 1) := by decide +kernel
theorem d2_64 : decode method_2_code 64 = .ok (.iload_n 0, 1) := by decide +kernel
theorem d2_65 : decode method_2_code 65 = .ok (.ldc 11, 2) := by decide +kernel
theorem d2_67 : decode method_2_code 67 = .ok (.if_icmp .le 7, 3) := by decide +kernel
theorem d2_70 : decode method_2_code 70 = .ok (.iconst 1, 1) := by decide +kernel
theorem d2_71 : decode method_2_code 71 = .ok (.goto 4, 3) := by decide +kernel
theorem d2_74 : decode method_2_code 74 = .ok (.iconst 0, 1) := by decide +kernel
theorem d2_75 : decode method_2_code 75 = .ok (.ireturn, 1) := by decide +kernel
theorem pn_2 : plainName "com/example/interlinear/interlinear/xml/XmlTextIsCharacterPinLaw" = true := by first | (simp [plainName, overriddenIn]; done) | decide +kernel
theorem ef_2 (m : MethodId) (x0 : Int32) : entryFrame m #[(.int x0)] 1 = mkF m 0 #[.val (.int x0)] [] := by first | (simp [entryFrame, mkF, argsToLocals, Value.category]; done) | rfl
set_option maxRecDepth 65536 in
set_option maxHeartbeats 40000000 in
theorem rm2 (l : Launch) (Z : State) (a0 : Array Value) (hw : ∀ d ∈ tables_1, d.before a0 Z = true) (ws : List Jvm.Cond) (x0 : Int32) (h0 : Heap) :
    MetFree l (⟨"com/example/interlinear/interlinear/xml/XmlTextIsCharacterPinLaw", "excluded", "(I)Z"⟩ : MethodName) (head1 (Jvm.Cond.code (⟨"com/example/interlinear/interlinear/xml/XmlTextIsCharacterPinLaw", "excluded", "(I)Z"⟩ : MethodName) method_2_code 1 (some .boolean) :: ws) ({ frames := 0, cells := 0, slots := 0, locals := 0 } : Room)) (fun a U => a = #[(.int x0)] ∧ Z.Warmed39 U.vm ∧ U.heap = h0) (fun _ _ _ _ _ => True) (fun _ U o U' => ∃ v L, o = .returned v ∧ QP (.int (F2 x0)) h0 v U'.heap L ∧ FrameEnd U o U' L ({ frames := 0, cells := 0, slots := 0, locals := 0 } : Room).cells ({ frames := 0, cells := 0, slots := 0, locals := 0 } : Room).slots) := by
  refine MetFree.of_bodySF (plainFor_of_name pn_2) hisR ?_
  intro p e s m args below meth c s₁ Bd hml0 hP hK
  obtain ⟨rfl, hZ, hh⟩ := hP
  have hx := Bd.exec
  have hby := Bd.bytes
  have hml : c.maxLocals = 1 := hml0
  have hown : s.vm.findClass "com/example/interlinear/interlinear/xml/XmlTextIsCharacterPinLaw" = some m.cls := findClass_of_methodNamed Bd.named
  have X0 : Stand p l e ({ frames := 0, cells := 0, slots := 0, locals := 0 } : Room) s m #[(.int x0)] below meth c s₁ [] 0 0 := Stand.of_body Bd
  have e0 : s₁.heap = h0 := by rw [← hh, Bd.state]; rfl
  show Runs p e below s (QP (.int (F2 x0)) h0) ({ frames := 0, cells := 0, slots := 0, locals := 0 } : Room).cells ({ frames := 0, cells := 0, slots := 0, locals := 0 } : Room).slots (s₁.setTop (entryFrame m #[(.int x0)] 1))
  rw [ef_2 m x0]
  obtain ⟨r, hF⟩ : ∃ r, F2 x0 = r := ⟨_, rfl⟩
  rw [hF]
  have k_62 : ∀ (T : State) (X : Stand p l e ({ frames := 0, cells := 0, slots := 0, locals := 0 } : Room) s m #[(.int x0)] below meth c T [] 0 0) (eT : T.heap = h0) (v0 : Int32), f2_62 = r → Runs p e below s (QP (.int r) h0) ({ frames := 0, cells := 0, slots := 0, locals := 0 } : Room).cells ({ frames := 0, cells := 0, slots := 0, locals := 0 } : Room).slots (T.setTop (mkF m 62 #[.val (.int v0)] [])) := by
    intro T X eT v0 hv
    unfold f2_62 at hv
    refine Runs.go (fun _ => XS.iconst X.here hx rfl (hb hby d2_62)) ?_
    show Runs p e below s _ _ _ (T.setTop (mkF m 63 #[.val (.int v0)] [(.int (1 : Int32))]))
    exact Runs.endN X hx (t := .boolean) Bd.returns (by simp) Bd.notSynchronized (hb hby d2_63) ⟨congrArg (fun z => some (Value.int z)) hv, rfl, eT⟩ (by decide) (by decide)
  have k_50 : ∀ (T : State) (X : Stand p l e ({ frames := 0, cells := 0, slots := 0, locals := 0 } : Room) s m #[(.int x0)] below meth c T [] 0 0) (eT : T.heap = h0) (v0 : Int32), f2_50 v0 = r → Runs p e below s (QP (.int r) h0) ({ frames := 0, cells := 0, slots := 0, locals := 0 } : Room).cells ({ frames := 0, cells := 0, slots := 0, locals := 0 } : Room).slots (T.setTop (mkF m 50 #[.val (.int v0)] [])) := by
    intro T X eT v0 hv
    unfold f2_50 at hv
    refine Runs.go (fun _ => XS.iloadN X.here hx rfl (hb hby d2_50) rfl) ?_
    show Runs p e below s _ _ _ (T.setTop (mkF m 51 #[.val (.int v0)] [(.int v0)]))
    refine Runs.go (X.ldcInt hx hown (mvT hZ (hw _ (List.mem_of_getElem? (i := 23) rfl))) (g := (mkF m 51 #[.val (.int v0)] [(.int v0)])) rfl (hb hby d2_51)) ?_
    show Runs p e below s _ _ _ (T.setTop (mkF m 53 #[.val (.int v0)] [(.int (65534 : Int32)), (.int v0)]))
    by_cases hc53 : v0 = (65534 : Int32)
    · have hv := (if_pos hc53).symm.trans hv
      refine Runs.go (fun _ => XS.icmpYes X.here hx rfl (pc0 := 53) (pc' := 62) rfl (hb hby d2_53) rfl (teq hc53).1 (by decide) (by decide)) ?_
      show Runs p e below s _ _ _ (T.setTop (mkF m 62 #[.val (.int v0)] []))
      exact k_62 _ X eT v0 hv
    · have hv := (if_neg hc53).symm.trans hv
      refine Runs.go (fun _ => XS.icmpNo X.here hx rfl (hb hby d2_53) rfl (feq hc53).1) ?_
      show Runs p e below s _ _ _ (T.setTop (mkF m 56 #[.val (.int v0)] []))
      refine Runs.go (fun _ => XS.iloadN X.here hx rfl (hb hby d2_56) rfl) ?_
      show Runs p e below s _ _ _ (T.setTop (mkF m 57 #[.val (.int v0)] [(.int v0)]))
      refine Runs.go (X.ldcInt hx hown (mvT hZ (hw _ (List.mem_of_getElem? (i := 6) rfl))) (g := (mkF m 57 #[.val (.int v0)] [(.int v0)])) rfl (hb hby d2_57)) ?_
      show Runs p e below s _ _ _ (T.setTop (mkF m 59 #[.val (.int v0)] [(.int (65535 : Int32)), (.int v0)]))
      by_cases hc59 : v0 = (65535 : Int32)
      · have hv := (if_pos hc59).symm.trans hv
        refine Runs.go (fun _ => XS.icmpNo X.here hx rfl (hb hby d2_59) rfl (teq hc59).2) ?_
        show Runs p e below s _ _ _ (T.setTop (mkF m 62 #[.val (.int v0)] []))
        exact k_62 _ X eT v0 hv
      · have hv := (if_neg hc59).symm.trans hv
        refine Runs.go (fun _ => XS.icmpYes X.here hx rfl (pc0 := 59) (pc' := 64) rfl (hb hby d2_59) rfl (feq hc59).2 (by decide) (by decide)) ?_
        show Runs p e below s _ _ _ (T.setTop (mkF m 64 #[.val (.int v0)] []))
        refine Runs.go (fun _ => XS.iloadN X.here hx rfl (hb hby d2_64) rfl) ?_
        show Runs p e below s _ _ _ (T.setTop (mkF m 65 #[.val (.int v0)] [(.int v0)]))
        refine Runs.go (X.ldcInt hx hown (mvT hZ (hw _ (List.mem_of_getElem? (i := 8) rfl))) (g := (mkF m 65 #[.val (.int v0)] [(.int v0)])) rfl (hb hby d2_65)) ?_
        show Runs p e below s _ _ _ (T.setTop (mkF m 67 #[.val (.int v0)] [(.int (1114111 : Int32)), (.int v0)]))
        by_cases hc67 : (1114111 : Int32) < v0
        · have hv := (if_pos hc67).symm.trans hv
          refine Runs.go (fun _ => XS.icmpNo X.here hx rfl (hb hby d2_67) rfl (tlt hc67).2.2.2) ?_
          show Runs p e below s _ _ _ (T.setTop (mkF m 70 #[.val (.int v0)] []))
          refine Runs.go (fun _ => XS.iconst X.here hx rfl (hb hby d2_70)) ?_
          show Runs p e below s _ _ _ (T.setTop (mkF m 71 #[.val (.int v0)] [(.int (1 : Int32))]))
          refine Runs.go (fun _ => XS.goto X.here hx rfl (pc0 := 71) (pc' := 75) rfl (hb hby d2_71) (by decide) (by decide)) ?_
          show Runs p e below s _ _ _ (T.setTop (mkF m 75 #[.val (.int v0)] [(.int (1 : Int32))]))
          exact Runs.endN X hx (t := .boolean) Bd.returns (by simp) Bd.notSynchronized (hb hby d2_75) ⟨congrArg (fun z => some (Value.int z)) hv, rfl, eT⟩ (by decide) (by decide)
        · have hv := (if_neg hc67).symm.trans hv
          refine Runs.go (fun _ => XS.icmpYes X.here hx rfl (pc0 := 67) (pc' := 74) rfl (hb hby d2_67) rfl (flt hc67).2.2.2 (by decide) (by decide)) ?_
          show Runs p e below s _ _ _ (T.setTop (mkF m 74 #[.val (.int v0)] []))
          refine Runs.go (fun _ => XS.iconst X.here hx rfl (hb hby d2_74)) ?_
          show Runs p e below s _ _ _ (T.setTop (mkF m 75 #[.val (.int v0)] [(.int (0 : Int32))]))
          exact Runs.endN X hx (t := .boolean) Bd.returns (by simp) Bd.notSynchronized (hb hby d2_75) ⟨congrArg (fun z => some (Value.int z)) hv, rfl, eT⟩ (by decide) (by decide)
  have k_34 : ∀ (T : State) (X : Stand p l e ({ frames := 0, cells := 0, slots := 0, locals := 0 } : Room) s m #[(.int x0)] below meth c T [] 0 0) (eT : T.heap = h0) (v0 : Int32), f2_34 = r → Runs p e below s (QP (.int r) h0) ({ frames := 0, cells := 0, slots := 0, locals := 0 } : Room).cells ({ frames := 0, cells := 0, slots := 0, locals := 0 } : Room).slots (T.setTop (mkF m 34 #[.val (.int v0)] [])) := by
    intro T X eT v0 hv
    unfold f2_34 at hv
    refine Runs.go (fun _ => XS.iconst X.here hx rfl (hb hby d2_34)) ?_
    show Runs p e below s _ _ _ (T.setTop (mkF m 35 #[.val (.int v0)] [(.int (0 : Int32))]))
    exact Runs.endN X hx (t := .boolean) Bd.returns (by simp) Bd.notSynchronized (hb hby d2_35) ⟨congrArg (fun z => some (Value.int z)) hv, rfl, eT⟩ (by decide) (by decide)
  have k_0 : ∀ (T : State) (X : Stand p l e ({ frames := 0, cells := 0, slots := 0, locals := 0 } : Room) s m #[(.int x0)] below meth c T [] 0 0) (eT : T.heap = h0), f2_0 x0 = r → Runs p e below s (QP (.int r) h0) ({ frames := 0, cells := 0, slots := 0, locals := 0 } : Room).cells ({ frames := 0, cells := 0, slots := 0, locals := 0 } : Room).slots (T.setTop (mkF m 0 #[.val (.int x0)] [])) := by
    intro T X eT  hv
    unfold f2_0 at hv
    refine Runs.go (fun _ => XS.iloadN X.here hx rfl (hb hby d2_0) rfl) ?_
    show Runs p e below s _ _ _ (T.setTop (mkF m 1 #[.val (.int x0)] [(.int x0)]))
    by_cases hc1 : x0 < (0 : Int32)
    · have hv := (if_pos hc1).symm.trans hv
      refine Runs.go (fun _ => XS.ifNo X.here hx rfl (hb hby d2_1) rfl ((if0 _ _).trans (tlt hc1).2.1)) ?_
      show Runs p e below s _ _ _ (T.setTop (mkF m 4 #[.val (.int x0)] []))
      refine Runs.go (fun _ => XS.iconst X.here hx rfl (hb hby d2_4)) ?_
      show Runs p e below s _ _ _ (T.setTop (mkF m 5 #[.val (.int x0)] [(.int (1 : Int32))]))
      exact Runs.endN X hx (t := .boolean) Bd.returns (by simp) Bd.notSynchronized (hb hby d2_5) ⟨congrArg (fun z => some (Value.int z)) hv, rfl, eT⟩ (by decide) (by decide)
    · have hv := (if_neg hc1).symm.trans hv
      refine Runs.go (fun _ => XS.ifYes X.here hx rfl (pc0 := 1) (pc' := 6) rfl (hb hby d2_1) rfl ((if0 _ _).trans (flt hc1).2.1) (by decide) (by decide)) ?_
      show Runs p e below s _ _ _ (T.setTop (mkF m 6 #[.val (.int x0)] []))
      refine Runs.go (fun _ => XS.iloadN X.here hx rfl (hb hby d2_6) rfl) ?_
      show Runs p e below s _ _ _ (T.setTop (mkF m 7 #[.val (.int x0)] [(.int x0)]))
      refine Runs.go (fun _ => XS.bipush X.here hx rfl (hb hby d2_7)) ?_
      show Runs p e below s _ _ _ (T.setTop (mkF m 9 #[.val (.int x0)] [(.int (32 : Int32)), (.int x0)]))
      by_cases hc9 : x0 < (32 : Int32)
      · have hv := (if_pos hc9).symm.trans hv
        refine Runs.go (fun _ => XS.icmpNo X.here hx rfl (hb hby d2_9) rfl (tlt hc9).2.1) ?_
        show Runs p e below s _ _ _ (T.setTop (mkF m 12 #[.val (.int x0)] []))
        refine Runs.go (fun _ => XS.iloadN X.here hx rfl (hb hby d2_12) rfl) ?_
        show Runs p e below s _ _ _ (T.setTop (mkF m 13 #[.val (.int x0)] [(.int x0)]))
        refine Runs.go (fun _ => XS.bipush X.here hx rfl (hb hby d2_13)) ?_
        show Runs p e below s _ _ _ (T.setTop (mkF m 15 #[.val (.int x0)] [(.int (9 : Int32)), (.int x0)]))
        by_cases hc15 : x0 = (9 : Int32)
        · have hv := (if_pos hc15).symm.trans hv
          refine Runs.go (fun _ => XS.icmpYes X.here hx rfl (pc0 := 15) (pc' := 34) rfl (hb hby d2_15) rfl (teq hc15).1 (by decide) (by decide)) ?_
          show Runs p e below s _ _ _ (T.setTop (mkF m 34 #[.val (.int x0)] []))
          exact k_34 _ X eT x0 hv
        · have hv := (if_neg hc15).symm.trans hv
          refine Runs.go (fun _ => XS.icmpNo X.here hx rfl (hb hby d2_15) rfl (feq hc15).1) ?_
          show Runs p e below s _ _ _ (T.setTop (mkF m 18 #[.val (.int x0)] []))
          refine Runs.go (fun _ => XS.iloadN X.here hx rfl (hb hby d2_18) rfl) ?_
          show Runs p e below s _ _ _ (T.setTop (mkF m 19 #[.val (.int x0)] [(.int x0)]))
          refine Runs.go (fun _ => XS.bipush X.here hx rfl (hb hby d2_19)) ?_
          show Runs p e below s _ _ _ (T.setTop (mkF m 21 #[.val (.int x0)] [(.int (10 : Int32)), (.int x0)]))
          by_cases hc21 : x0 = (10 : Int32)
          · have hv := (if_pos hc21).symm.trans hv
            refine Runs.go (fun _ => XS.icmpYes X.here hx rfl (pc0 := 21) (pc' := 34) rfl (hb hby d2_21) rfl (teq hc21).1 (by decide) (by decide)) ?_
            show Runs p e below s _ _ _ (T.setTop (mkF m 34 #[.val (.int x0)] []))
            exact k_34 _ X eT x0 hv
          · have hv := (if_neg hc21).symm.trans hv
            refine Runs.go (fun _ => XS.icmpNo X.here hx rfl (hb hby d2_21) rfl (feq hc21).1) ?_
            show Runs p e below s _ _ _ (T.setTop (mkF m 24 #[.val (.int x0)] []))
            refine Runs.go (fun _ => XS.iloadN X.here hx rfl (hb hby d2_24) rfl) ?_
            show Runs p e below s _ _ _ (T.setTop (mkF m 25 #[.val (.int x0)] [(.int x0)]))
            refine Runs.go (fun _ => XS.bipush X.here hx rfl (hb hby d2_25)) ?_
            show Runs p e below s _ _ _ (T.setTop (mkF m 27 #[.val (.int x0)] [(.int (13 : Int32)), (.int x0)]))
            by_cases hc27 : x0 = (13 : Int32)
            · have hv := (if_pos hc27).symm.trans hv
              refine Runs.go (fun _ => XS.icmpYes X.here hx rfl (pc0 := 27) (pc' := 34) rfl (hb hby d2_27) rfl (teq hc27).1 (by decide) (by decide)) ?_
              show Runs p e below s _ _ _ (T.setTop (mkF m 34 #[.val (.int x0)] []))
              exact k_34 _ X eT x0 hv
            · have hv := (if_neg hc27).symm.trans hv
              refine Runs.go (fun _ => XS.icmpNo X.here hx rfl (hb hby d2_27) rfl (feq hc27).1) ?_
              show Runs p e below s _ _ _ (T.setTop (mkF m 30 #[.val (.int x0)] []))
              refine Runs.go (fun _ => XS.iconst X.here hx rfl (hb hby d2_30)) ?_
              show Runs p e below s _ _ _ (T.setTop (mkF m 31 #[.val (.int x0)] [(.int (1 : Int32))]))
              refine Runs.go (fun _ => XS.goto X.here hx rfl (pc0 := 31) (pc' := 35) rfl (hb hby d2_31) (by decide) (by decide)) ?_
              show Runs p e below s _ _ _ (T.setTop (mkF m 35 #[.val (.int x0)] [(.int (1 : Int32))]))
              exact Runs.endN X hx (t := .boolean) Bd.returns (by simp) Bd.notSynchronized (hb hby d2_35) ⟨congrArg (fun z => some (Value.int z)) hv, rfl, eT⟩ (by decide) (by decide)
      · have hv := (if_neg hc9).symm.trans hv
        refine Runs.go (fun _ => XS.icmpYes X.here hx rfl (pc0 := 9) (pc' := 36) rfl (hb hby d2_9) rfl (flt hc9).2.1 (by decide) (by decide)) ?_
        show Runs p e below s _ _ _ (T.setTop (mkF m 36 #[.val (.int x0)] []))
        refine Runs.go (fun _ => XS.iloadN X.here hx rfl (hb hby d2_36) rfl) ?_
        show Runs p e below s _ _ _ (T.setTop (mkF m 37 #[.val (.int x0)] [(.int x0)]))
        refine Runs.go (X.ldcInt hx hown (mvT hZ (hw _ (List.mem_of_getElem? (i := 2) rfl))) (g := (mkF m 37 #[.val (.int x0)] [(.int x0)])) rfl (hb hby d2_37)) ?_
        show Runs p e below s _ _ _ (T.setTop (mkF m 39 #[.val (.int x0)] [(.int (55296 : Int32)), (.int x0)]))
        by_cases hc39 : x0 < (55296 : Int32)
        · have hv := (if_pos hc39).symm.trans hv
          refine Runs.go (fun _ => XS.icmpYes X.here hx rfl (pc0 := 39) (pc' := 50) rfl (hb hby d2_39) rfl (tlt hc39).1 (by decide) (by decide)) ?_
          show Runs p e below s _ _ _ (T.setTop (mkF m 50 #[.val (.int x0)] []))
          exact k_50 _ X eT x0 hv
        · have hv := (if_neg hc39).symm.trans hv
          refine Runs.go (fun _ => XS.icmpNo X.here hx rfl (hb hby d2_39) rfl (flt hc39).1) ?_
          show Runs p e below s _ _ _ (T.setTop (mkF m 42 #[.val (.int x0)] []))
          refine Runs.go (fun _ => XS.iloadN X.here hx rfl (hb hby d2_42) rfl) ?_
          show Runs p e below s _ _ _ (T.setTop (mkF m 43 #[.val (.int x0)] [(.int x0)]))
          refine Runs.go (X.ldcInt hx hown (mvT hZ (hw _ (List.mem_of_getElem? (i := 3) rfl))) (g := (mkF m 43 #[.val (.int x0)] [(.int x0)])) rfl (hb hby d2_43)) ?_
          show Runs p e below s _ _ _ (T.setTop (mkF m 45 #[.val (.int x0)] [(.int (57343 : Int32)), (.int x0)]))
          by_cases hc45 : (57343 : Int32) < x0
          · have hv := (if_pos hc45).symm.trans hv
            refine Runs.go (fun _ => XS.icmpYes X.here hx rfl (pc0 := 45) (pc' := 50) rfl (hb hby d2_45) rfl (tlt hc45).2.2.1 (by decide) (by decide)) ?_
            show Runs p e below s _ _ _ (T.setTop (mkF m 50 #[.val (.int x0)] []))
            exact k_50 _ X eT x0 hv
          · have hv := (if_neg hc45).symm.trans hv
            refine Runs.go (fun _ => XS.icmpNo X.here hx rfl (hb hby d2_45) rfl (flt hc45).2.2.1) ?_
            show Runs p e below s _ _ _ (T.setTop (mkF m 48 #[.val (.int x0)] []))
            refine Runs.go (fun _ => XS.iconst X.here hx rfl (hb hby d2_48)) ?_
            show Runs p e below s _ _ _ (T.setTop (mkF m 49 #[.val (.int x0)] [(.int (1 : Int32))]))
            exact Runs.endN X hx (t := .boolean) Bd.returns (by simp) Bd.notSynchronized (hb hby d2_49) ⟨congrArg (fun z => some (Value.int z)) hv, rfl, eT⟩ (by decide) (by decide)
  exact k_0 _ X0 e0 hF
theorem pn_0 : plainName "com/example/interlinear/interlinear/xml/XmlTextIsCharacterPinLaw" = true := by first | (simp [plainName, overriddenIn]; done) | decide +kernel
theorem ef_0 (m : MethodId) (x0 : Int32) (x1 : Int32) (x2 : Int32) : entryFrame m #[(.int x0), (.int x1), (.int x2)] maxLocals = mkF m 0 #[.val (.int x0), .val (.int x1), .val (.int x2), .unset, .unset] [] := by first | (simp [entryFrame, mkF, argsToLocals, Value.category, maxLocals]; done) | rfl
set_option maxRecDepth 65536 in
set_option maxHeartbeats 40000000 in
theorem rm0 (l : Launch) (Z : State) (a0 : Array Value) (hw : ∀ d ∈ tables_1, d.before a0 Z = true) (ws : List Jvm.Cond) (x0 : Int32) (x1 : Int32) (x2 : Int32) (h0 : Heap) (n0 : Nat) (hn0 : n0 ≤ h0.size) :
    MetFree l x (head1 (Jvm.Cond.code x code maxLocals ret :: ws) room_1) (fun a U => a = #[(.int x0), (.int x1), (.int x2)] ∧ Z.Warmed39 U.vm ∧ U.heap = h0) (fun _ _ _ _ _ => True) (fun _ U o U' => ∃ v L, o = .returned v ∧ QH (.int (F0 x0 x1 x2)) n0 v U'.heap L ∧ FrameEnd U o U' L room_1.cells room_1.slots) := by
  refine MetFree.of_bodySF (plainFor_of_name pn_0) hisR ?_
  intro p e s m args below meth c s₁ Bd hml0 hP hK
  obtain ⟨rfl, hZ, hh⟩ := hP
  have hx := Bd.exec
  have hby := Bd.bytes
  have hml : c.maxLocals = 5 := hml0
  have hown : s.vm.findClass "com/example/interlinear/interlinear/xml/XmlTextIsCharacterPinLaw" = some m.cls := findClass_of_methodNamed Bd.named
  have X0 : Stand p l e room_1 s m #[(.int x0), (.int x1), (.int x2)] below meth c s₁ [] 0 0 := Stand.of_body Bd
  have e0 : s₁.heap = h0 := by rw [← hh, Bd.state]; rfl
  show Runs p e below s (QH (.int (F0 x0 x1 x2)) n0) room_1.cells room_1.slots (s₁.setTop (entryFrame m #[(.int x0), (.int x1), (.int x2)] maxLocals))
  rw [ef_0 m x0 x1 x2]
  obtain ⟨r, hF⟩ : ∃ r, F0 x0 x1 x2 = r := ⟨_, rfl⟩
  rw [hF]
  have k_141 : ∀ (T : State) (locs : List Loc) (h : Heap) (X : Stand p l e room_1 s m #[(.int x0), (.int x1), (.int x2)] below meth c T locs 1 16) (eT : T.heap = h) (N : Fr n0 locs) (v0 : Int32) (v1 : Int32) (v2 : Int32) (v3 : Addr) (v4 : Int32) (t0 : Int32) (t1 : Int32), f0_141 t0 t1 = r → Runs p e below s (QH (.int r) n0) room_1.cells room_1.slots (T.setTop (mkF m 141 #[.val (.int v0), .val (.int v1), .val (.int v2), .val (.ref v3), .val (.int v4)] [(.int t0), (.int t1)])) := by
    intro T locs h X eT N v0 v1 v2 v3 v4 t0 t1 hv
    unfold f0_141 at hv
    by_cases hc141 : t1 = t0
    · have hv := (if_pos hc141).symm.trans hv
      refine Runs.go (fun _ => XS.icmpNo X.here hx rfl (hb hby at_141) rfl (teq hc141).2) ?_
      show Runs p e below s _ _ _ (T.setTop (mkF m 144 #[.val (.int v0), .val (.int v1), .val (.int v2), .val (.ref v3), .val (.int v4)] []))
      refine Runs.go (fun _ => XS.iconst X.here hx rfl (hb hby at_144)) ?_
      show Runs p e below s _ _ _ (T.setTop (mkF m 145 #[.val (.int v0), .val (.int v1), .val (.int v2), .val (.ref v3), .val (.int v4)] [(.int (1 : Int32))]))
      refine Runs.go (fun _ => XS.goto X.here hx rfl (pc0 := 145) (pc' := 149) rfl (hb hby at_145) (by decide) (by decide)) ?_
      show Runs p e below s _ _ _ (T.setTop (mkF m 149 #[.val (.int v0), .val (.int v1), .val (.int v2), .val (.ref v3), .val (.int v4)] [(.int (1 : Int32))]))
      exact Runs.endN X hx (t := .boolean) Bd.returns (by simp) Bd.notSynchronized (hb hby at_149) ⟨congrArg (fun z => some (Value.int z)) hv, N⟩ (by decide) (by decide)
    · have hv := (if_neg hc141).symm.trans hv
      refine Runs.go (fun _ => XS.icmpYes X.here hx rfl (pc0 := 141) (pc' := 148) rfl (hb hby at_141) rfl (feq hc141).2 (by decide) (by decide)) ?_
      show Runs p e below s _ _ _ (T.setTop (mkF m 148 #[.val (.int v0), .val (.int v1), .val (.int v2), .val (.ref v3), .val (.int v4)] []))
      refine Runs.go (fun _ => XS.iconst X.here hx rfl (hb hby at_148)) ?_
      show Runs p e below s _ _ _ (T.setTop (mkF m 149 #[.val (.int v0), .val (.int v1), .val (.int v2), .val (.ref v3), .val (.int v4)] [(.int (0 : Int32))]))
      exact Runs.endN X hx (t := .boolean) Bd.returns (by simp) Bd.notSynchronized (hb hby at_149) ⟨congrArg (fun z => some (Value.int z)) hv, N⟩ (by decide) (by decide)
  have k_123 : ∀ (T : State) (locs : List Loc) (h : Heap) (X : Stand p l e room_1 s m #[(.int x0), (.int x1), (.int x2)] below meth c T locs 1 16) (eT : T.heap = h) (N : Fr n0 locs) (v0 : Int32) (v1 : Int32) (v2 : Int32) (v3 : Addr) (v4 : Int32), f0_123 v4 = r → Runs p e below s (QH (.int r) n0) room_1.cells room_1.slots (T.setTop (mkF m 123 #[.val (.int v0), .val (.int v1), .val (.int v2), .val (.ref v3), .val (.int v4)] [])) := by
    intro T locs h X eT N v0 v1 v2 v3 v4 hv
    unfold f0_123 at hv
    refine Runs.go (fun _ => XS.iload X.here hx rfl (hb hby at_123) rfl) ?_
    show Runs p e below s _ _ _ (T.setTop (mkF m 125 #[.val (.int v0), .val (.int v1), .val (.int v2), .val (.ref v3), .val (.int v4)] [(.int v4)]))
    obtain ⟨_, _, ⟨Tc125_2, Lc125_2, kc125_2, nc125_2⟩, -, Xc125_2, ⟨Lcc125_2, ⟨rfl, rfl, ec125_2⟩, lc125_2, yc125_2, zc125_2⟩, stc125_2⟩ := Jvm.LawKit.callS X hx (y := (⟨"com/example/interlinear/interlinear/xml/XmlText", "isCharacter", "(I)Z"⟩ : MethodName)) hown (mvT hZ (hw _ (List.mem_of_getElem? (i := 12) rfl))) (mvT hZ (hw _ (List.mem_of_getElem? (i := 13) rfl))) (mvT hZ (hw _ (List.mem_of_getElem? (i := 14) rfl))) (mvT hZ (hw _ (List.mem_of_getElem? (i := 15) rfl))) (by decide) (backOf (W := 0) (rm1 l Z a0 hw [] v4 h) hZ (hw _ (List.mem_of_getElem? (i := 15) rfl)) (hw _ (List.mem_of_getElem? (i := 14) rfl)) (by decide) (by decide)) (g := (mkF m 125 #[.val (.int v0), .val (.int v1), .val (.int v2), .val (.ref v3), .val (.int v4)] [(.int v4)])) rfl (by rw [hml]; rfl) (argsL := [(.int v4)]) (rest := []) (lenOf pd_0 rfl) rfl (by show 2 * 0 + _ ≤ _; exact Nat.le_of_eq rfl) (hb hby at_125) (fun _ _ => ⟨rfl, eT, (by decide : 1 + 0 ≤ _), (by decide : 16 + 0 ≤ _)⟩)
    dsimp only [Pt.U, Pt.locs, Pt.cells, Pt.slots] at Xc125_2 lc125_2 yc125_2 zc125_2 stc125_2 ec125_2
    subst lc125_2 yc125_2 zc125_2
    refine Runs.go stc125_2 ?_
    have Nc125_2 := Fr.app N (Fr.nil n0)
    show Runs p e below s _ _ _ (Tc125_2.setTop (mkF m 128 #[.val (.int v0), .val (.int v1), .val (.int v2), .val (.ref v3), .val (.int v4)] [(.int (F1 v4))]))
    refine Runs.go (fun _ => XS.iload Xc125_2.here hx rfl (hb hby at_128) rfl) ?_
    show Runs p e below s _ _ _ (Tc125_2.setTop (mkF m 130 #[.val (.int v0), .val (.int v1), .val (.int v2), .val (.ref v3), .val (.int v4)] [(.int v4), (.int (F1 v4))]))
    obtain ⟨_, _, ⟨Tc130_3, Lc130_3, kc130_3, nc130_3⟩, -, Xc130_3, ⟨Lcc130_3, ⟨rfl, rfl, ec130_3⟩, lc130_3, yc130_3, zc130_3⟩, stc130_3⟩ := Jvm.LawKit.callS Xc125_2 hx (y := (⟨"com/example/interlinear/interlinear/xml/XmlTextIsCharacterPinLaw", "excluded", "(I)Z"⟩ : MethodName)) hown (mvT hZ (hw _ (List.mem_of_getElem? (i := 18) rfl))) (mvT hZ (hw _ (List.mem_of_getElem? (i := 19) rfl))) (mvT hZ (hw _ (List.mem_of_getElem? (i := 20) rfl))) (mvT hZ (hw _ (List.mem_of_getElem? (i := 21) rfl))) (by decide) (backOf (W := 1) (rm2 l Z a0 hw [] v4 h) hZ (hw _ (List.mem_of_getElem? (i := 21) rfl)) (hw _ (List.mem_of_getElem? (i := 20) rfl)) (by decide) (by decide)) (g := (mkF m 130 #[.val (.int v0), .val (.int v1), .val (.int v2), .val (.ref v3), .val (.int v4)] [(.int v4), (.int (F1 v4))])) rfl (by rw [hml]; rfl) (argsL := [(.int v4)]) (rest := [(.int (F1 v4))]) (lenOf pd_0 rfl) rfl (by show 2 * 0 + _ ≤ _; exact Nat.le_of_eq rfl) (hb hby at_130) (fun _ _ => ⟨rfl, ec125_2, (by decide : 1 + 0 ≤ _), (by decide : 16 + 0 ≤ _)⟩)
    dsimp only [Pt.U, Pt.locs, Pt.cells, Pt.slots] at Xc130_3 lc130_3 yc130_3 zc130_3 stc130_3 ec130_3
    subst lc130_3 yc130_3 zc130_3
    refine Runs.go stc130_3 ?_
    have Nc130_3 := Fr.app Nc125_2 (Fr.nil n0)
    show Runs p e below s _ _ _ (Tc130_3.setTop (mkF m 133 #[.val (.int v0), .val (.int v1), .val (.int v2), .val (.ref v3), .val (.int v4)] [(.int (F2 v4)), (.int (F1 v4))]))
    by_cases hc133 : (F2 v4) = (0 : Int32)
    · have hv := (if_pos hc133).symm.trans hv
      refine Runs.go (fun _ => XS.ifNo Xc130_3.here hx rfl (hb hby at_133) rfl ((if0 _ _).trans (teq hc133).2)) ?_
      show Runs p e below s _ _ _ (Tc130_3.setTop (mkF m 136 #[.val (.int v0), .val (.int v1), .val (.int v2), .val (.ref v3), .val (.int v4)] [(.int (F1 v4))]))
      refine Runs.go (fun _ => XS.iconst Xc130_3.here hx rfl (hb hby at_136)) ?_
      show Runs p e below s _ _ _ (Tc130_3.setTop (mkF m 137 #[.val (.int v0), .val (.int v1), .val (.int v2), .val (.ref v3), .val (.int v4)] [(.int (1 : Int32)), (.int (F1 v4))]))
      refine Runs.go (fun _ => XS.goto Xc130_3.here hx rfl (pc0 := 137) (pc' := 141) rfl (hb hby at_137) (by decide) (by decide)) ?_
      show Runs p e below s _ _ _ (Tc130_3.setTop (mkF m 141 #[.val (.int v0), .val (.int v1), .val (.int v2), .val (.ref v3), .val (.int v4)] [(.int (1 : Int32)), (.int (F1 v4))]))
      exact k_141 _ _ _ Xc130_3 ec130_3 Nc130_3 v0 v1 v2 v3 v4 (1 : Int32) (F1 v4) hv
    · have hv := (if_neg hc133).symm.trans hv
      refine Runs.go (fun _ => XS.ifYes Xc130_3.here hx rfl (pc0 := 133) (pc' := 140) rfl (hb hby at_133) rfl ((if0 _ _).trans (feq hc133).2) (by decide) (by decide)) ?_
      show Runs p e below s _ _ _ (Tc130_3.setTop (mkF m 140 #[.val (.int v0), .val (.int v1), .val (.int v2), .val (.ref v3), .val (.int v4)] [(.int (F1 v4))]))
      refine Runs.go (fun _ => XS.iconst Xc130_3.here hx rfl (hb hby at_140)) ?_
      show Runs p e below s _ _ _ (Tc130_3.setTop (mkF m 141 #[.val (.int v0), .val (.int v1), .val (.int v2), .val (.ref v3), .val (.int v4)] [(.int (0 : Int32)), (.int (F1 v4))]))
      exact k_141 _ _ _ Xc130_3 ec130_3 Nc130_3 v0 v1 v2 v3 v4 (0 : Int32) (F1 v4) hv
  have k_0 : ∀ (T : State) (X : Stand p l e room_1 s m #[(.int x0), (.int x1), (.int x2)] below meth c T [] 0 0) (eT : T.heap = h0) (N : Fr n0 []), f0_0 x0 x1 x2 = r → Runs p e below s (QH (.int r) n0) room_1.cells room_1.slots (T.setTop (mkF m 0 #[.val (.int x0), .val (.int x1), .val (.int x2), .unset, .unset] [])) := by
    intro T X eT N  hv
    unfold f0_0 at hv
    refine Runs.go (fun _ => XS.bipush X.here hx rfl (hb hby at_0)) ?_
    show Runs p e below s _ _ _ (T.setTop (mkF m 2 #[.val (.int x0), .val (.int x1), .val (.int x2), .unset, .unset] [(.int (16 : Int32))]))
    obtain ⟨Ta2, ha2, ka2, Xa2, ea2, Ea2, Aa2, sta2⟩ := newP X hx hZ (hw _ (List.mem_of_getElem? (i := 0) rfl)) eT (g := (mkF m 2 #[.val (.int x0), .val (.int x1), .val (.int x2), .unset, .unset] [(.int (16 : Int32))])) rfl (hb hby at_2) rfl (by decide) (cap := 16) (by decide) (by decide) (by decide) (by decide)
    obtain ⟨b2, ga2⟩ : ∃ z, z = h0.size := ⟨_, rfl⟩
    rw [← ga2] at Aa2 sta2
    refine Runs.go sta2 ?_
    have Va2 : Arv Z ha2 b2 ka2 .int (16 : Int32) [(.int (0 : Int32)), (.int (0 : Int32)), (.int (0 : Int32)), (.int (0 : Int32)), (.int (0 : Int32)), (.int (0 : Int32)), (.int (0 : Int32)), (.int (0 : Int32)), (.int (0 : Int32)), (.int (0 : Int32)), (.int (0 : Int32)), (.int (0 : Int32)), (.int (0 : Int32)), (.int (0 : Int32)), (.int (0 : Int32)), (.int (0 : Int32))] (.int (0 : Int32)) := (Arv.new Aa2 (by decide)).pad (pad_rep [] (.int (0 : Int32)) 16)
    have gbb2 : n0 ≤ b2 := Nat.le_trans hn0 (Nat.le_of_eq ga2.symm)
    show Runs p e below s _ _ _ (Ta2.setTop (mkF m 4 #[.val (.int x0), .val (.int x1), .val (.int x2), .unset, .unset] [(.ref b2)]))
    refine Runs.go (fun _ => XS.dup Xa2.here hx rfl (hb hby at_4) rfl rfl) ?_
    show Runs p e below s _ _ _ (Ta2.setTop (mkF m 5 #[.val (.int x0), .val (.int x1), .val (.int x2), .unset, .unset] [(.ref b2), (.ref b2)]))
    refine Runs.go (fun _ => XS.iconst Xa2.here hx rfl (hb hby at_5)) ?_
    show Runs p e below s _ _ _ (Ta2.setTop (mkF m 6 #[.val (.int x0), .val (.int x1), .val (.int x2), .unset, .unset] [(.int (0 : Int32)), (.ref b2), (.ref b2)]))
    refine Runs.go (fun _ => XS.iconst Xa2.here hx rfl (hb hby at_6)) ?_
    show Runs p e below s _ _ _ (Ta2.setTop (mkF m 7 #[.val (.int x0), .val (.int x1), .val (.int x2), .unset, .unset] [(.int (0 : Int32)), (.int (0 : Int32)), (.ref b2), (.ref b2)]))
    obtain ⟨clw7, Arw7, qw7, Sw7, Mw7, Hw7, Gw7⟩ := Va2
    have hinw7 : ¬ ((0 : Int32) < 0 ∨ clw7.slots.size ≤ ((0 : Int32)).toNatClampNeg) := inb_of Sw7 ⟨by decide, by decide⟩
    obtain ⟨Tw7, hw7, Xw7, ew7, Ww7, stw7⟩ := stI Xa2 hx hZ ea2 Arw7 (j := (0 : Int32)) hinw7 (g := (mkF m 7 #[.val (.int x0), .val (.int x1), .val (.int x2), .unset, .unset] [(.int (0 : Int32)), (.int (0 : Int32)), (.ref b2), (.ref b2)])) rfl rfl (hb hby at_7)
    have Vw7 : Arv Z hw7 b2 ka2 .int (16 : Int32) [(.int (0 : Int32)), (.int (0 : Int32)), (.int (0 : Int32)), (.int (0 : Int32)), (.int (0 : Int32)), (.int (0 : Int32)), (.int (0 : Int32)), (.int (0 : Int32)), (.int (0 : Int32)), (.int (0 : Int32)), (.int (0 : Int32)), (.int (0 : Int32)), (.int (0 : Int32)), (.int (0 : Int32)), (.int (0 : Int32)), (.int (0 : Int32))] (.int (0 : Int32)) := Arv.set Arw7 qw7 Sw7 Mw7 Hw7 Gw7 rfl Ww7 0 rfl (Nat.le_of_ble_eq_true rfl)
    have Nw7 := Fr.snoc Xw7 N gbb2
    refine Runs.go stw7 ?_
    show Runs p e below s _ _ _ (Tw7.setTop (mkF m 8 #[.val (.int x0), .val (.int x1), .val (.int x2), .unset, .unset] [(.ref b2)]))
    refine Runs.go (fun _ => XS.dup Xw7.here hx rfl (hb hby at_8) rfl rfl) ?_
    show Runs p e below s _ _ _ (Tw7.setTop (mkF m 9 #[.val (.int x0), .val (.int x1), .val (.int x2), .unset, .unset] [(.ref b2), (.ref b2)]))
    refine Runs.go (fun _ => XS.iconst Xw7.here hx rfl (hb hby at_9)) ?_
    show Runs p e below s _ _ _ (Tw7.setTop (mkF m 10 #[.val (.int x0), .val (.int x1), .val (.int x2), .unset, .unset] [(.int (1 : Int32)), (.ref b2), (.ref b2)]))
    refine Runs.go (fun _ => XS.bipush Xw7.here hx rfl (hb hby at_10)) ?_
    show Runs p e below s _ _ _ (Tw7.setTop (mkF m 12 #[.val (.int x0), .val (.int x1), .val (.int x2), .unset, .unset] [(.int (9 : Int32)), (.int (1 : Int32)), (.ref b2), (.ref b2)]))
    obtain ⟨clw12, Arw12, qw12, Sw12, Mw12, Hw12, Gw12⟩ := Vw7
    have hinw12 : ¬ ((1 : Int32) < 0 ∨ clw12.slots.size ≤ ((1 : Int32)).toNatClampNeg) := inb_of Sw12 ⟨by decide, by decide⟩
    obtain ⟨Tw12, hw12, Xw12, ew12, Ww12, stw12⟩ := stI Xw7 hx hZ ew7 Arw12 (j := (1 : Int32)) hinw12 (g := (mkF m 12 #[.val (.int x0), .val (.int x1), .val (.int x2), .unset, .unset] [(.int (9 : Int32)), (.int (1 : Int32)), (.ref b2), (.ref b2)])) rfl rfl (hb hby at_12)
    have Vw12 : Arv Z hw12 b2 ka2 .int (16 : Int32) [(.int (0 : Int32)), (.int (9 : Int32)), (.int (0 : Int32)), (.int (0 : Int32)), (.int (0 : Int32)), (.int (0 : Int32)), (.int (0 : Int32)), (.int (0 : Int32)), (.int (0 : Int32)), (.int (0 : Int32)), (.int (0 : Int32)), (.int (0 : Int32)), (.int (0 : Int32)), (.int (0 : Int32)), (.int (0 : Int32)), (.int (0 : Int32))] (.int (0 : Int32)) := Arv.set Arw12 qw12 Sw12 Mw12 Hw12 Gw12 rfl Ww12 1 rfl (Nat.le_of_ble_eq_true rfl)
    have Nw12 := Fr.snoc Xw12 Nw7 gbb2
    refine Runs.go stw12 ?_
    show Runs p e below s _ _ _ (Tw12.setTop (mkF m 13 #[.val (.int x0), .val (.int x1), .val (.int x2), .unset, .unset] [(.ref b2)]))
    refine Runs.go (fun _ => XS.dup Xw12.here hx rfl (hb hby at_13) rfl rfl) ?_
    show Runs p e below s _ _ _ (Tw12.setTop (mkF m 14 #[.val (.int x0), .val (.int x1), .val (.int x2), .unset, .unset] [(.ref b2), (.ref b2)]))
    refine Runs.go (fun _ => XS.iconst Xw12.here hx rfl (hb hby at_14)) ?_
    show Runs p e below s _ _ _ (Tw12.setTop (mkF m 15 #[.val (.int x0), .val (.int x1), .val (.int x2), .unset, .unset] [(.int (2 : Int32)), (.ref b2), (.ref b2)]))
    refine Runs.go (fun _ => XS.bipush Xw12.here hx rfl (hb hby at_15)) ?_
    show Runs p e below s _ _ _ (Tw12.setTop (mkF m 17 #[.val (.int x0), .val (.int x1), .val (.int x2), .unset, .unset] [(.int (10 : Int32)), (.int (2 : Int32)), (.ref b2), (.ref b2)]))
    obtain ⟨clw17, Arw17, qw17, Sw17, Mw17, Hw17, Gw17⟩ := Vw12
    have hinw17 : ¬ ((2 : Int32) < 0 ∨ clw17.slots.size ≤ ((2 : Int32)).toNatClampNeg) := inb_of Sw17 ⟨by decide, by decide⟩
    obtain ⟨Tw17, hw17, Xw17, ew17, Ww17, stw17⟩ := stI Xw12 hx hZ ew12 Arw17 (j := (2 : Int32)) hinw17 (g := (mkF m 17 #[.val (.int x0), .val (.int x1), .val (.int x2), .unset, .unset] [(.int (10 : Int32)), (.int (2 : Int32)), (.ref b2), (.ref b2)])) rfl rfl (hb hby at_17)
    have Vw17 : Arv Z hw17 b2 ka2 .int (16 : Int32) [(.int (0 : Int32)), (.int (9 : Int32)), (.int (10 : Int32)), (.int (0 : Int32)), (.int (0 : Int32)), (.int (0 : Int32)), (.int (0 : Int32)), (.int (0 : Int32)), (.int (0 : Int32)), (.int (0 : Int32)), (.int (0 : Int32)), (.int (0 : Int32)), (.int (0 : Int32)), (.int (0 : Int32)), (.int (0 : Int32)), (.int (0 : Int32))] (.int (0 : Int32)) := Arv.set Arw17 qw17 Sw17 Mw17 Hw17 Gw17 rfl Ww17 2 rfl (Nat.le_of_ble_eq_true rfl)
    have Nw17 := Fr.snoc Xw17 Nw12 gbb2
    refine Runs.go stw17 ?_
    show Runs p e below s _ _ _ (Tw17.setTop (mkF m 18 #[.val (.int x0), .val (.int x1), .val (.int x2), .unset, .unset] [(.ref b2)]))
    refine Runs.go (fun _ => XS.dup Xw17.here hx rfl (hb hby at_18) rfl rfl) ?_
    show Runs p e below s _ _ _ (Tw17.setTop (mkF m 19 #[.val (.int x0), .val (.int x1), .val (.int x2), .unset, .unset] [(.ref b2), (.ref b2)]))
    refine Runs.go (fun _ => XS.iconst Xw17.here hx rfl (hb hby at_19)) ?_
    show Runs p e below s _ _ _ (Tw17.setTop (mkF m 20 #[.val (.int x0), .val (.int x1), .val (.int x2), .unset, .unset] [(.int (3 : Int32)), (.ref b2), (.ref b2)]))
    refine Runs.go (fun _ => XS.bipush Xw17.here hx rfl (hb hby at_20)) ?_
    show Runs p e below s _ _ _ (Tw17.setTop (mkF m 22 #[.val (.int x0), .val (.int x1), .val (.int x2), .unset, .unset] [(.int (13 : Int32)), (.int (3 : Int32)), (.ref b2), (.ref b2)]))
    obtain ⟨clw22, Arw22, qw22, Sw22, Mw22, Hw22, Gw22⟩ := Vw17
    have hinw22 : ¬ ((3 : Int32) < 0 ∨ clw22.slots.size ≤ ((3 : Int32)).toNatClampNeg) := inb_of Sw22 ⟨by decide, by decide⟩
    obtain ⟨Tw22, hw22, Xw22, ew22, Ww22, stw22⟩ := stI Xw17 hx hZ ew17 Arw22 (j := (3 : Int32)) hinw22 (g := (mkF m 22 #[.val (.int x0), .val (.int x1), .val (.int x2), .unset, .unset] [(.int (13 : Int32)), (.int (3 : Int32)), (.ref b2), (.ref b2)])) rfl rfl (hb hby at_22)
    have Vw22 : Arv Z hw22 b2 ka2 .int (16 : Int32) [(.int (0 : Int32)), (.int (9 : Int32)), (.int (10 : Int32)), (.int (13 : Int32)), (.int (0 : Int32)), (.int (0 : Int32)), (.int (0 : Int32)), (.int (0 : Int32)), (.int (0 : Int32)), (.int (0 : Int32)), (.int (0 : Int32)), (.int (0 : Int32)), (.int (0 : Int32)), (.int (0 : Int32)), (.int (0 : Int32)), (.int (0 : Int32))] (.int (0 : Int32)) := Arv.set Arw22 qw22 Sw22 Mw22 Hw22 Gw22 rfl Ww22 3 rfl (Nat.le_of_ble_eq_true rfl)
    have Nw22 := Fr.snoc Xw22 Nw17 gbb2
    refine Runs.go stw22 ?_
    show Runs p e below s _ _ _ (Tw22.setTop (mkF m 23 #[.val (.int x0), .val (.int x1), .val (.int x2), .unset, .unset] [(.ref b2)]))
    refine Runs.go (fun _ => XS.dup Xw22.here hx rfl (hb hby at_23) rfl rfl) ?_
    show Runs p e below s _ _ _ (Tw22.setTop (mkF m 24 #[.val (.int x0), .val (.int x1), .val (.int x2), .unset, .unset] [(.ref b2), (.ref b2)]))
    refine Runs.go (fun _ => XS.iconst Xw22.here hx rfl (hb hby at_24)) ?_
    show Runs p e below s _ _ _ (Tw22.setTop (mkF m 25 #[.val (.int x0), .val (.int x1), .val (.int x2), .unset, .unset] [(.int (4 : Int32)), (.ref b2), (.ref b2)]))
    refine Runs.go (fun _ => XS.bipush Xw22.here hx rfl (hb hby at_25)) ?_
    show Runs p e below s _ _ _ (Tw22.setTop (mkF m 27 #[.val (.int x0), .val (.int x1), .val (.int x2), .unset, .unset] [(.int (32 : Int32)), (.int (4 : Int32)), (.ref b2), (.ref b2)]))
    obtain ⟨clw27, Arw27, qw27, Sw27, Mw27, Hw27, Gw27⟩ := Vw22
    have hinw27 : ¬ ((4 : Int32) < 0 ∨ clw27.slots.size ≤ ((4 : Int32)).toNatClampNeg) := inb_of Sw27 ⟨by decide, by decide⟩
    obtain ⟨Tw27, hw27, Xw27, ew27, Ww27, stw27⟩ := stI Xw22 hx hZ ew22 Arw27 (j := (4 : Int32)) hinw27 (g := (mkF m 27 #[.val (.int x0), .val (.int x1), .val (.int x2), .unset, .unset] [(.int (32 : Int32)), (.int (4 : Int32)), (.ref b2), (.ref b2)])) rfl rfl (hb hby at_27)
    have Vw27 : Arv Z hw27 b2 ka2 .int (16 : Int32) [(.int (0 : Int32)), (.int (9 : Int32)), (.int (10 : Int32)), (.int (13 : Int32)), (.int (32 : Int32)), (.int (0 : Int32)), (.int (0 : Int32)), (.int (0 : Int32)), (.int (0 : Int32)), (.int (0 : Int32)), (.int (0 : Int32)), (.int (0 : Int32)), (.int (0 : Int32)), (.int (0 : Int32)), (.int (0 : Int32)), (.int (0 : Int32))] (.int (0 : Int32)) := Arv.set Arw27 qw27 Sw27 Mw27 Hw27 Gw27 rfl Ww27 4 rfl (Nat.le_of_ble_eq_true rfl)
    have Nw27 := Fr.snoc Xw27 Nw22 gbb2
    refine Runs.go stw27 ?_
    show Runs p e below s _ _ _ (Tw27.setTop (mkF m 28 #[.val (.int x0), .val (.int x1), .val (.int x2), .unset, .unset] [(.ref b2)]))
    refine Runs.go (fun _ => XS.dup Xw27.here hx rfl (hb hby at_28) rfl rfl) ?_
    show Runs p e below s _ _ _ (Tw27.setTop (mkF m 29 #[.val (.int x0), .val (.int x1), .val (.int x2), .unset, .unset] [(.ref b2), (.ref b2)]))
    refine Runs.go (fun _ => XS.iconst Xw27.here hx rfl (hb hby at_29)) ?_
    show Runs p e below s _ _ _ (Tw27.setTop (mkF m 30 #[.val (.int x0), .val (.int x1), .val (.int x2), .unset, .unset] [(.int (5 : Int32)), (.ref b2), (.ref b2)]))
    refine Runs.go (Xw27.ldcInt hx hown (mvT hZ (hw _ (List.mem_of_getElem? (i := 1) rfl))) (g := (mkF m 30 #[.val (.int x0), .val (.int x1), .val (.int x2), .unset, .unset] [(.int (5 : Int32)), (.ref b2), (.ref b2)])) rfl (hb hby at_30)) ?_
    show Runs p e below s _ _ _ (Tw27.setTop (mkF m 32 #[.val (.int x0), .val (.int x1), .val (.int x2), .unset, .unset] [(.int (55295 : Int32)), (.int (5 : Int32)), (.ref b2), (.ref b2)]))
    obtain ⟨clw32, Arw32, qw32, Sw32, Mw32, Hw32, Gw32⟩ := Vw27
    have hinw32 : ¬ ((5 : Int32) < 0 ∨ clw32.slots.size ≤ ((5 : Int32)).toNatClampNeg) := inb_of Sw32 ⟨by decide, by decide⟩
    obtain ⟨Tw32, hw32, Xw32, ew32, Ww32, stw32⟩ := stI Xw27 hx hZ ew27 Arw32 (j := (5 : Int32)) hinw32 (g := (mkF m 32 #[.val (.int x0), .val (.int x1), .val (.int x2), .unset, .unset] [(.int (55295 : Int32)), (.int (5 : Int32)), (.ref b2), (.ref b2)])) rfl rfl (hb hby at_32)
    have Vw32 : Arv Z hw32 b2 ka2 .int (16 : Int32) [(.int (0 : Int32)), (.int (9 : Int32)), (.int (10 : Int32)), (.int (13 : Int32)), (.int (32 : Int32)), (.int (55295 : Int32)), (.int (0 : Int32)), (.int (0 : Int32)), (.int (0 : Int32)), (.int (0 : Int32)), (.int (0 : Int32)), (.int (0 : Int32)), (.int (0 : Int32)), (.int (0 : Int32)), (.int (0 : Int32)), (.int (0 : Int32))] (.int (0 : Int32)) := Arv.set Arw32 qw32 Sw32 Mw32 Hw32 Gw32 rfl Ww32 5 rfl (Nat.le_of_ble_eq_true rfl)
    have Nw32 := Fr.snoc Xw32 Nw27 gbb2
    refine Runs.go stw32 ?_
    show Runs p e below s _ _ _ (Tw32.setTop (mkF m 33 #[.val (.int x0), .val (.int x1), .val (.int x2), .unset, .unset] [(.ref b2)]))
    refine Runs.go (fun _ => XS.dup Xw32.here hx rfl (hb hby at_33) rfl rfl) ?_
    show Runs p e below s _ _ _ (Tw32.setTop (mkF m 34 #[.val (.int x0), .val (.int x1), .val (.int x2), .unset, .unset] [(.ref b2), (.ref b2)]))
    refine Runs.go (fun _ => XS.bipush Xw32.here hx rfl (hb hby at_34)) ?_
    show Runs p e below s _ _ _ (Tw32.setTop (mkF m 36 #[.val (.int x0), .val (.int x1), .val (.int x2), .unset, .unset] [(.int (6 : Int32)), (.ref b2), (.ref b2)]))
    refine Runs.go (Xw32.ldcInt hx hown (mvT hZ (hw _ (List.mem_of_getElem? (i := 2) rfl))) (g := (mkF m 36 #[.val (.int x0), .val (.int x1), .val (.int x2), .unset, .unset] [(.int (6 : Int32)), (.ref b2), (.ref b2)])) rfl (hb hby at_36)) ?_
    show Runs p e below s _ _ _ (Tw32.setTop (mkF m 38 #[.val (.int x0), .val (.int x1), .val (.int x2), .unset, .unset] [(.int (55296 : Int32)), (.int (6 : Int32)), (.ref b2), (.ref b2)]))
    obtain ⟨clw38, Arw38, qw38, Sw38, Mw38, Hw38, Gw38⟩ := Vw32
    have hinw38 : ¬ ((6 : Int32) < 0 ∨ clw38.slots.size ≤ ((6 : Int32)).toNatClampNeg) := inb_of Sw38 ⟨by decide, by decide⟩
    obtain ⟨Tw38, hw38, Xw38, ew38, Ww38, stw38⟩ := stI Xw32 hx hZ ew32 Arw38 (j := (6 : Int32)) hinw38 (g := (mkF m 38 #[.val (.int x0), .val (.int x1), .val (.int x2), .unset, .unset] [(.int (55296 : Int32)), (.int (6 : Int32)), (.ref b2), (.ref b2)])) rfl rfl (hb hby at_38)
    have Vw38 : Arv Z hw38 b2 ka2 .int (16 : Int32) [(.int (0 : Int32)), (.int (9 : Int32)), (.int (10 : Int32)), (.int (13 : Int32)), (.int (32 : Int32)), (.int (55295 : Int32)), (.int (55296 : Int32)), (.int (0 : Int32)), (.int (0 : Int32)), (.int (0 : Int32)), (.int (0 : Int32)), (.int (0 : Int32)), (.int (0 : Int32)), (.int (0 : Int32)), (.int (0 : Int32)), (.int (0 : Int32))] (.int (0 : Int32)) := Arv.set Arw38 qw38 Sw38 Mw38 Hw38 Gw38 rfl Ww38 6 rfl (Nat.le_of_ble_eq_true rfl)
    have Nw38 := Fr.snoc Xw38 Nw32 gbb2
    refine Runs.go stw38 ?_
    show Runs p e below s _ _ _ (Tw38.setTop (mkF m 39 #[.val (.int x0), .val (.int x1), .val (.int x2), .unset, .unset] [(.ref b2)]))
    refine Runs.go (fun _ => XS.dup Xw38.here hx rfl (hb hby at_39) rfl rfl) ?_
    show Runs p e below s _ _ _ (Tw38.setTop (mkF m 40 #[.val (.int x0), .val (.int x1), .val (.int x2), .unset, .unset] [(.ref b2), (.ref b2)]))
    refine Runs.go (fun _ => XS.bipush Xw38.here hx rfl (hb hby at_40)) ?_
    show Runs p e below s _ _ _ (Tw38.setTop (mkF m 42 #[.val (.int x0), .val (.int x1), .val (.int x2), .unset, .unset] [(.int (7 : Int32)), (.ref b2), (.ref b2)]))
    refine Runs.go (Xw38.ldcInt hx hown (mvT hZ (hw _ (List.mem_of_getElem? (i := 3) rfl))) (g := (mkF m 42 #[.val (.int x0), .val (.int x1), .val (.int x2), .unset, .unset] [(.int (7 : Int32)), (.ref b2), (.ref b2)])) rfl (hb hby at_42)) ?_
    show Runs p e below s _ _ _ (Tw38.setTop (mkF m 44 #[.val (.int x0), .val (.int x1), .val (.int x2), .unset, .unset] [(.int (57343 : Int32)), (.int (7 : Int32)), (.ref b2), (.ref b2)]))
    obtain ⟨clw44, Arw44, qw44, Sw44, Mw44, Hw44, Gw44⟩ := Vw38
    have hinw44 : ¬ ((7 : Int32) < 0 ∨ clw44.slots.size ≤ ((7 : Int32)).toNatClampNeg) := inb_of Sw44 ⟨by decide, by decide⟩
    obtain ⟨Tw44, hw44, Xw44, ew44, Ww44, stw44⟩ := stI Xw38 hx hZ ew38 Arw44 (j := (7 : Int32)) hinw44 (g := (mkF m 44 #[.val (.int x0), .val (.int x1), .val (.int x2), .unset, .unset] [(.int (57343 : Int32)), (.int (7 : Int32)), (.ref b2), (.ref b2)])) rfl rfl (hb hby at_44)
    have Vw44 : Arv Z hw44 b2 ka2 .int (16 : Int32) [(.int (0 : Int32)), (.int (9 : Int32)), (.int (10 : Int32)), (.int (13 : Int32)), (.int (32 : Int32)), (.int (55295 : Int32)), (.int (55296 : Int32)), (.int (57343 : Int32)), (.int (0 : Int32)), (.int (0 : Int32)), (.int (0 : Int32)), (.int (0 : Int32)), (.int (0 : Int32)), (.int (0 : Int32)), (.int (0 : Int32)), (.int (0 : Int32))] (.int (0 : Int32)) := Arv.set Arw44 qw44 Sw44 Mw44 Hw44 Gw44 rfl Ww44 7 rfl (Nat.le_of_ble_eq_true rfl)
    have Nw44 := Fr.snoc Xw44 Nw38 gbb2
    refine Runs.go stw44 ?_
    show Runs p e below s _ _ _ (Tw44.setTop (mkF m 45 #[.val (.int x0), .val (.int x1), .val (.int x2), .unset, .unset] [(.ref b2)]))
    refine Runs.go (fun _ => XS.dup Xw44.here hx rfl (hb hby at_45) rfl rfl) ?_
    show Runs p e below s _ _ _ (Tw44.setTop (mkF m 46 #[.val (.int x0), .val (.int x1), .val (.int x2), .unset, .unset] [(.ref b2), (.ref b2)]))
    refine Runs.go (fun _ => XS.bipush Xw44.here hx rfl (hb hby at_46)) ?_
    show Runs p e below s _ _ _ (Tw44.setTop (mkF m 48 #[.val (.int x0), .val (.int x1), .val (.int x2), .unset, .unset] [(.int (8 : Int32)), (.ref b2), (.ref b2)]))
    refine Runs.go (Xw44.ldcInt hx hown (mvT hZ (hw _ (List.mem_of_getElem? (i := 4) rfl))) (g := (mkF m 48 #[.val (.int x0), .val (.int x1), .val (.int x2), .unset, .unset] [(.int (8 : Int32)), (.ref b2), (.ref b2)])) rfl (hb hby at_48)) ?_
    show Runs p e below s _ _ _ (Tw44.setTop (mkF m 50 #[.val (.int x0), .val (.int x1), .val (.int x2), .unset, .unset] [(.int (57344 : Int32)), (.int (8 : Int32)), (.ref b2), (.ref b2)]))
    obtain ⟨clw50, Arw50, qw50, Sw50, Mw50, Hw50, Gw50⟩ := Vw44
    have hinw50 : ¬ ((8 : Int32) < 0 ∨ clw50.slots.size ≤ ((8 : Int32)).toNatClampNeg) := inb_of Sw50 ⟨by decide, by decide⟩
    obtain ⟨Tw50, hw50, Xw50, ew50, Ww50, stw50⟩ := stI Xw44 hx hZ ew44 Arw50 (j := (8 : Int32)) hinw50 (g := (mkF m 50 #[.val (.int x0), .val (.int x1), .val (.int x2), .unset, .unset] [(.int (57344 : Int32)), (.int (8 : Int32)), (.ref b2), (.ref b2)])) rfl rfl (hb hby at_50)
    have Vw50 : Arv Z hw50 b2 ka2 .int (16 : Int32) [(.int (0 : Int32)), (.int (9 : Int32)), (.int (10 : Int32)), (.int (13 : Int32)), (.int (32 : Int32)), (.int (55295 : Int32)), (.int (55296 : Int32)), (.int (57343 : Int32)), (.int (57344 : Int32)), (.int (0 : Int32)), (.int (0 : Int32)), (.int (0 : Int32)), (.int (0 : Int32)), (.int (0 : Int32)), (.int (0 : Int32)), (.int (0 : Int32))] (.int (0 : Int32)) := Arv.set Arw50 qw50 Sw50 Mw50 Hw50 Gw50 rfl Ww50 8 rfl (Nat.le_of_ble_eq_true rfl)
    have Nw50 := Fr.snoc Xw50 Nw44 gbb2
    refine Runs.go stw50 ?_
    show Runs p e below s _ _ _ (Tw50.setTop (mkF m 51 #[.val (.int x0), .val (.int x1), .val (.int x2), .unset, .unset] [(.ref b2)]))
    refine Runs.go (fun _ => XS.dup Xw50.here hx rfl (hb hby at_51) rfl rfl) ?_
    show Runs p e below s _ _ _ (Tw50.setTop (mkF m 52 #[.val (.int x0), .val (.int x1), .val (.int x2), .unset, .unset] [(.ref b2), (.ref b2)]))
    refine Runs.go (fun _ => XS.bipush Xw50.here hx rfl (hb hby at_52)) ?_
    show Runs p e below s _ _ _ (Tw50.setTop (mkF m 54 #[.val (.int x0), .val (.int x1), .val (.int x2), .unset, .unset] [(.int (9 : Int32)), (.ref b2), (.ref b2)]))
    refine Runs.go (Xw50.ldcInt hx hown (mvT hZ (hw _ (List.mem_of_getElem? (i := 5) rfl))) (g := (mkF m 54 #[.val (.int x0), .val (.int x1), .val (.int x2), .unset, .unset] [(.int (9 : Int32)), (.ref b2), (.ref b2)])) rfl (hb hby at_54)) ?_
    show Runs p e below s _ _ _ (Tw50.setTop (mkF m 56 #[.val (.int x0), .val (.int x1), .val (.int x2), .unset, .unset] [(.int (65533 : Int32)), (.int (9 : Int32)), (.ref b2), (.ref b2)]))
    obtain ⟨clw56, Arw56, qw56, Sw56, Mw56, Hw56, Gw56⟩ := Vw50
    have hinw56 : ¬ ((9 : Int32) < 0 ∨ clw56.slots.size ≤ ((9 : Int32)).toNatClampNeg) := inb_of Sw56 ⟨by decide, by decide⟩
    obtain ⟨Tw56, hw56, Xw56, ew56, Ww56, stw56⟩ := stI Xw50 hx hZ ew50 Arw56 (j := (9 : Int32)) hinw56 (g := (mkF m 56 #[.val (.int x0), .val (.int x1), .val (.int x2), .unset, .unset] [(.int (65533 : Int32)), (.int (9 : Int32)), (.ref b2), (.ref b2)])) rfl rfl (hb hby at_56)
    have Vw56 : Arv Z hw56 b2 ka2 .int (16 : Int32) [(.int (0 : Int32)), (.int (9 : Int32)), (.int (10 : Int32)), (.int (13 : Int32)), (.int (32 : Int32)), (.int (55295 : Int32)), (.int (55296 : Int32)), (.int (57343 : Int32)), (.int (57344 : Int32)), (.int (65533 : Int32)), (.int (0 : Int32)), (.int (0 : Int32)), (.int (0 : Int32)), (.int (0 : Int32)), (.int (0 : Int32)), (.int (0 : Int32))] (.int (0 : Int32)) := Arv.set Arw56 qw56 Sw56 Mw56 Hw56 Gw56 rfl Ww56 9 rfl (Nat.le_of_ble_eq_true rfl)
    have Nw56 := Fr.snoc Xw56 Nw50 gbb2
    refine Runs.go stw56 ?_
    show Runs p e below s _ _ _ (Tw56.setTop (mkF m 57 #[.val (.int x0), .val (.int x1), .val (.int x2), .unset, .unset] [(.ref b2)]))
    refine Runs.go (fun _ => XS.dup Xw56.here hx rfl (hb hby at_57) rfl rfl) ?_
    show Runs p e below s _ _ _ (Tw56.setTop (mkF m 58 #[.val (.int x0), .val (.int x1), .val (.int x2), .unset, .unset] [(.ref b2), (.ref b2)]))
    refine Runs.go (fun _ => XS.bipush Xw56.here hx rfl (hb hby at_58)) ?_
    show Runs p e below s _ _ _ (Tw56.setTop (mkF m 60 #[.val (.int x0), .val (.int x1), .val (.int x2), .unset, .unset] [(.int (10 : Int32)), (.ref b2), (.ref b2)]))
    refine Runs.go (Xw56.ldcInt hx hown (mvT hZ (hw _ (List.mem_of_getElem? (i := 6) rfl))) (g := (mkF m 60 #[.val (.int x0), .val (.int x1), .val (.int x2), .unset, .unset] [(.int (10 : Int32)), (.ref b2), (.ref b2)])) rfl (hb hby at_60)) ?_
    show Runs p e below s _ _ _ (Tw56.setTop (mkF m 62 #[.val (.int x0), .val (.int x1), .val (.int x2), .unset, .unset] [(.int (65535 : Int32)), (.int (10 : Int32)), (.ref b2), (.ref b2)]))
    obtain ⟨clw62, Arw62, qw62, Sw62, Mw62, Hw62, Gw62⟩ := Vw56
    have hinw62 : ¬ ((10 : Int32) < 0 ∨ clw62.slots.size ≤ ((10 : Int32)).toNatClampNeg) := inb_of Sw62 ⟨by decide, by decide⟩
    obtain ⟨Tw62, hw62, Xw62, ew62, Ww62, stw62⟩ := stI Xw56 hx hZ ew56 Arw62 (j := (10 : Int32)) hinw62 (g := (mkF m 62 #[.val (.int x0), .val (.int x1), .val (.int x2), .unset, .unset] [(.int (65535 : Int32)), (.int (10 : Int32)), (.ref b2), (.ref b2)])) rfl rfl (hb hby at_62)
    have Vw62 : Arv Z hw62 b2 ka2 .int (16 : Int32) [(.int (0 : Int32)), (.int (9 : Int32)), (.int (10 : Int32)), (.int (13 : Int32)), (.int (32 : Int32)), (.int (55295 : Int32)), (.int (55296 : Int32)), (.int (57343 : Int32)), (.int (57344 : Int32)), (.int (65533 : Int32)), (.int (65535 : Int32)), (.int (0 : Int32)), (.int (0 : Int32)), (.int (0 : Int32)), (.int (0 : Int32)), (.int (0 : Int32))] (.int (0 : Int32)) := Arv.set Arw62 qw62 Sw62 Mw62 Hw62 Gw62 rfl Ww62 10 rfl (Nat.le_of_ble_eq_true rfl)
    have Nw62 := Fr.snoc Xw62 Nw56 gbb2
    refine Runs.go stw62 ?_
    show Runs p e below s _ _ _ (Tw62.setTop (mkF m 63 #[.val (.int x0), .val (.int x1), .val (.int x2), .unset, .unset] [(.ref b2)]))
    refine Runs.go (fun _ => XS.dup Xw62.here hx rfl (hb hby at_63) rfl rfl) ?_
    show Runs p e below s _ _ _ (Tw62.setTop (mkF m 64 #[.val (.int x0), .val (.int x1), .val (.int x2), .unset, .unset] [(.ref b2), (.ref b2)]))
    refine Runs.go (fun _ => XS.bipush Xw62.here hx rfl (hb hby at_64)) ?_
    show Runs p e below s _ _ _ (Tw62.setTop (mkF m 66 #[.val (.int x0), .val (.int x1), .val (.int x2), .unset, .unset] [(.int (11 : Int32)), (.ref b2), (.ref b2)]))
    refine Runs.go (Xw62.ldcInt hx hown (mvT hZ (hw _ (List.mem_of_getElem? (i := 7) rfl))) (g := (mkF m 66 #[.val (.int x0), .val (.int x1), .val (.int x2), .unset, .unset] [(.int (11 : Int32)), (.ref b2), (.ref b2)])) rfl (hb hby at_66)) ?_
    show Runs p e below s _ _ _ (Tw62.setTop (mkF m 68 #[.val (.int x0), .val (.int x1), .val (.int x2), .unset, .unset] [(.int (65536 : Int32)), (.int (11 : Int32)), (.ref b2), (.ref b2)]))
    obtain ⟨clw68, Arw68, qw68, Sw68, Mw68, Hw68, Gw68⟩ := Vw62
    have hinw68 : ¬ ((11 : Int32) < 0 ∨ clw68.slots.size ≤ ((11 : Int32)).toNatClampNeg) := inb_of Sw68 ⟨by decide, by decide⟩
    obtain ⟨Tw68, hw68, Xw68, ew68, Ww68, stw68⟩ := stI Xw62 hx hZ ew62 Arw68 (j := (11 : Int32)) hinw68 (g := (mkF m 68 #[.val (.int x0), .val (.int x1), .val (.int x2), .unset, .unset] [(.int (65536 : Int32)), (.int (11 : Int32)), (.ref b2), (.ref b2)])) rfl rfl (hb hby at_68)
    have Vw68 : Arv Z hw68 b2 ka2 .int (16 : Int32) [(.int (0 : Int32)), (.int (9 : Int32)), (.int (10 : Int32)), (.int (13 : Int32)), (.int (32 : Int32)), (.int (55295 : Int32)), (.int (55296 : Int32)), (.int (57343 : Int32)), (.int (57344 : Int32)), (.int (65533 : Int32)), (.int (65535 : Int32)), (.int (65536 : Int32)), (.int (0 : Int32)), (.int (0 : Int32)), (.int (0 : Int32)), (.int (0 : Int32))] (.int (0 : Int32)) := Arv.set Arw68 qw68 Sw68 Mw68 Hw68 Gw68 rfl Ww68 11 rfl (Nat.le_of_ble_eq_true rfl)
    have Nw68 := Fr.snoc Xw68 Nw62 gbb2
    refine Runs.go stw68 ?_
    show Runs p e below s _ _ _ (Tw68.setTop (mkF m 69 #[.val (.int x0), .val (.int x1), .val (.int x2), .unset, .unset] [(.ref b2)]))
    refine Runs.go (fun _ => XS.dup Xw68.here hx rfl (hb hby at_69) rfl rfl) ?_
    show Runs p e below s _ _ _ (Tw68.setTop (mkF m 70 #[.val (.int x0), .val (.int x1), .val (.int x2), .unset, .unset] [(.ref b2), (.ref b2)]))
    refine Runs.go (fun _ => XS.bipush Xw68.here hx rfl (hb hby at_70)) ?_
    show Runs p e below s _ _ _ (Tw68.setTop (mkF m 72 #[.val (.int x0), .val (.int x1), .val (.int x2), .unset, .unset] [(.int (12 : Int32)), (.ref b2), (.ref b2)]))
    refine Runs.go (Xw68.ldcInt hx hown (mvT hZ (hw _ (List.mem_of_getElem? (i := 8) rfl))) (g := (mkF m 72 #[.val (.int x0), .val (.int x1), .val (.int x2), .unset, .unset] [(.int (12 : Int32)), (.ref b2), (.ref b2)])) rfl (hb hby at_72)) ?_
    show Runs p e below s _ _ _ (Tw68.setTop (mkF m 74 #[.val (.int x0), .val (.int x1), .val (.int x2), .unset, .unset] [(.int (1114111 : Int32)), (.int (12 : Int32)), (.ref b2), (.ref b2)]))
    obtain ⟨clw74, Arw74, qw74, Sw74, Mw74, Hw74, Gw74⟩ := Vw68
    have hinw74 : ¬ ((12 : Int32) < 0 ∨ clw74.slots.size ≤ ((12 : Int32)).toNatClampNeg) := inb_of Sw74 ⟨by decide, by decide⟩
    obtain ⟨Tw74, hw74, Xw74, ew74, Ww74, stw74⟩ := stI Xw68 hx hZ ew68 Arw74 (j := (12 : Int32)) hinw74 (g := (mkF m 74 #[.val (.int x0), .val (.int x1), .val (.int x2), .unset, .unset] [(.int (1114111 : Int32)), (.int (12 : Int32)), (.ref b2), (.ref b2)])) rfl rfl (hb hby at_74)
    have Vw74 : Arv Z hw74 b2 ka2 .int (16 : Int32) [(.int (0 : Int32)), (.int (9 : Int32)), (.int (10 : Int32)), (.int (13 : Int32)), (.int (32 : Int32)), (.int (55295 : Int32)), (.int (55296 : Int32)), (.int (57343 : Int32)), (.int (57344 : Int32)), (.int (65533 : Int32)), (.int (65535 : Int32)), (.int (65536 : Int32)), (.int (1114111 : Int32)), (.int (0 : Int32)), (.int (0 : Int32)), (.int (0 : Int32))] (.int (0 : Int32)) := Arv.set Arw74 qw74 Sw74 Mw74 Hw74 Gw74 rfl Ww74 12 rfl (Nat.le_of_ble_eq_true rfl)
    have Nw74 := Fr.snoc Xw74 Nw68 gbb2
    refine Runs.go stw74 ?_
    show Runs p e below s _ _ _ (Tw74.setTop (mkF m 75 #[.val (.int x0), .val (.int x1), .val (.int x2), .unset, .unset] [(.ref b2)]))
    refine Runs.go (fun _ => XS.dup Xw74.here hx rfl (hb hby at_75) rfl rfl) ?_
    show Runs p e below s _ _ _ (Tw74.setTop (mkF m 76 #[.val (.int x0), .val (.int x1), .val (.int x2), .unset, .unset] [(.ref b2), (.ref b2)]))
    refine Runs.go (fun _ => XS.bipush Xw74.here hx rfl (hb hby at_76)) ?_
    show Runs p e below s _ _ _ (Tw74.setTop (mkF m 78 #[.val (.int x0), .val (.int x1), .val (.int x2), .unset, .unset] [(.int (13 : Int32)), (.ref b2), (.ref b2)]))
    refine Runs.go (Xw74.ldcInt hx hown (mvT hZ (hw _ (List.mem_of_getElem? (i := 9) rfl))) (g := (mkF m 78 #[.val (.int x0), .val (.int x1), .val (.int x2), .unset, .unset] [(.int (13 : Int32)), (.ref b2), (.ref b2)])) rfl (hb hby at_78)) ?_
    show Runs p e below s _ _ _ (Tw74.setTop (mkF m 80 #[.val (.int x0), .val (.int x1), .val (.int x2), .unset, .unset] [(.int (1114112 : Int32)), (.int (13 : Int32)), (.ref b2), (.ref b2)]))
    obtain ⟨clw80, Arw80, qw80, Sw80, Mw80, Hw80, Gw80⟩ := Vw74
    have hinw80 : ¬ ((13 : Int32) < 0 ∨ clw80.slots.size ≤ ((13 : Int32)).toNatClampNeg) := inb_of Sw80 ⟨by decide, by decide⟩
    obtain ⟨Tw80, hw80, Xw80, ew80, Ww80, stw80⟩ := stI Xw74 hx hZ ew74 Arw80 (j := (13 : Int32)) hinw80 (g := (mkF m 80 #[.val (.int x0), .val (.int x1), .val (.int x2), .unset, .unset] [(.int (1114112 : Int32)), (.int (13 : Int32)), (.ref b2), (.ref b2)])) rfl rfl (hb hby at_80)
    have Vw80 : Arv Z hw80 b2 ka2 .int (16 : Int32) [(.int (0 : Int32)), (.int (9 : Int32)), (.int (10 : Int32)), (.int (13 : Int32)), (.int (32 : Int32)), (.int (55295 : Int32)), (.int (55296 : Int32)), (.int (57343 : Int32)), (.int (57344 : Int32)), (.int (65533 : Int32)), (.int (65535 : Int32)), (.int (65536 : Int32)), (.int (1114111 : Int32)), (.int (1114112 : Int32)), (.int (0 : Int32)), (.int (0 : Int32))] (.int (0 : Int32)) := Arv.set Arw80 qw80 Sw80 Mw80 Hw80 Gw80 rfl Ww80 13 rfl (Nat.le_of_ble_eq_true rfl)
    have Nw80 := Fr.snoc Xw80 Nw74 gbb2
    refine Runs.go stw80 ?_
    show Runs p e below s _ _ _ (Tw80.setTop (mkF m 81 #[.val (.int x0), .val (.int x1), .val (.int x2), .unset, .unset] [(.ref b2)]))
    refine Runs.go (fun _ => XS.dup Xw80.here hx rfl (hb hby at_81) rfl rfl) ?_
    show Runs p e below s _ _ _ (Tw80.setTop (mkF m 82 #[.val (.int x0), .val (.int x1), .val (.int x2), .unset, .unset] [(.ref b2), (.ref b2)]))
    refine Runs.go (fun _ => XS.bipush Xw80.here hx rfl (hb hby at_82)) ?_
    show Runs p e below s _ _ _ (Tw80.setTop (mkF m 84 #[.val (.int x0), .val (.int x1), .val (.int x2), .unset, .unset] [(.int (14 : Int32)), (.ref b2), (.ref b2)]))
    refine Runs.go (Xw80.ldcInt hx hown (mvT hZ (hw _ (List.mem_of_getElem? (i := 10) rfl))) (g := (mkF m 84 #[.val (.int x0), .val (.int x1), .val (.int x2), .unset, .unset] [(.int (14 : Int32)), (.ref b2), (.ref b2)])) rfl (hb hby at_84)) ?_
    show Runs p e below s _ _ _ (Tw80.setTop (mkF m 86 #[.val (.int x0), .val (.int x1), .val (.int x2), .unset, .unset] [(.int (-2147483648 : Int32)), (.int (14 : Int32)), (.ref b2), (.ref b2)]))
    obtain ⟨clw86, Arw86, qw86, Sw86, Mw86, Hw86, Gw86⟩ := Vw80
    have hinw86 : ¬ ((14 : Int32) < 0 ∨ clw86.slots.size ≤ ((14 : Int32)).toNatClampNeg) := inb_of Sw86 ⟨by decide, by decide⟩
    obtain ⟨Tw86, hw86, Xw86, ew86, Ww86, stw86⟩ := stI Xw80 hx hZ ew80 Arw86 (j := (14 : Int32)) hinw86 (g := (mkF m 86 #[.val (.int x0), .val (.int x1), .val (.int x2), .unset, .unset] [(.int (-2147483648 : Int32)), (.int (14 : Int32)), (.ref b2), (.ref b2)])) rfl rfl (hb hby at_86)
    have Vw86 : Arv Z hw86 b2 ka2 .int (16 : Int32) [(.int (0 : Int32)), (.int (9 : Int32)), (.int (10 : Int32)), (.int (13 : Int32)), (.int (32 : Int32)), (.int (55295 : Int32)), (.int (55296 : Int32)), (.int (57343 : Int32)), (.int (57344 : Int32)), (.int (65533 : Int32)), (.int (65535 : Int32)), (.int (65536 : Int32)), (.int (1114111 : Int32)), (.int (1114112 : Int32)), (.int (-2147483648 : Int32)), (.int (0 : Int32))] (.int (0 : Int32)) := Arv.set Arw86 qw86 Sw86 Mw86 Hw86 Gw86 rfl Ww86 14 rfl (Nat.le_of_ble_eq_true rfl)
    have Nw86 := Fr.snoc Xw86 Nw80 gbb2
    refine Runs.go stw86 ?_
    show Runs p e below s _ _ _ (Tw86.setTop (mkF m 87 #[.val (.int x0), .val (.int x1), .val (.int x2), .unset, .unset] [(.ref b2)]))
    refine Runs.go (fun _ => XS.dup Xw86.here hx rfl (hb hby at_87) rfl rfl) ?_
    show Runs p e below s _ _ _ (Tw86.setTop (mkF m 88 #[.val (.int x0), .val (.int x1), .val (.int x2), .unset, .unset] [(.ref b2), (.ref b2)]))
    refine Runs.go (fun _ => XS.bipush Xw86.here hx rfl (hb hby at_88)) ?_
    show Runs p e below s _ _ _ (Tw86.setTop (mkF m 90 #[.val (.int x0), .val (.int x1), .val (.int x2), .unset, .unset] [(.int (15 : Int32)), (.ref b2), (.ref b2)]))
    refine Runs.go (Xw86.ldcInt hx hown (mvT hZ (hw _ (List.mem_of_getElem? (i := 11) rfl))) (g := (mkF m 90 #[.val (.int x0), .val (.int x1), .val (.int x2), .unset, .unset] [(.int (15 : Int32)), (.ref b2), (.ref b2)])) rfl (hb hby at_90)) ?_
    show Runs p e below s _ _ _ (Tw86.setTop (mkF m 92 #[.val (.int x0), .val (.int x1), .val (.int x2), .unset, .unset] [(.int (2147483647 : Int32)), (.int (15 : Int32)), (.ref b2), (.ref b2)]))
    obtain ⟨clw92, Arw92, qw92, Sw92, Mw92, Hw92, Gw92⟩ := Vw86
    have hinw92 : ¬ ((15 : Int32) < 0 ∨ clw92.slots.size ≤ ((15 : Int32)).toNatClampNeg) := inb_of Sw92 ⟨by decide, by decide⟩
    obtain ⟨Tw92, hw92, Xw92, ew92, Ww92, stw92⟩ := stI Xw86 hx hZ ew86 Arw92 (j := (15 : Int32)) hinw92 (g := (mkF m 92 #[.val (.int x0), .val (.int x1), .val (.int x2), .unset, .unset] [(.int (2147483647 : Int32)), (.int (15 : Int32)), (.ref b2), (.ref b2)])) rfl rfl (hb hby at_92)
    have Vw92 : Arv Z hw92 b2 ka2 .int (16 : Int32) [(.int (0 : Int32)), (.int (9 : Int32)), (.int (10 : Int32)), (.int (13 : Int32)), (.int (32 : Int32)), (.int (55295 : Int32)), (.int (55296 : Int32)), (.int (57343 : Int32)), (.int (57344 : Int32)), (.int (65533 : Int32)), (.int (65535 : Int32)), (.int (65536 : Int32)), (.int (1114111 : Int32)), (.int (1114112 : Int32)), (.int (-2147483648 : Int32)), (.int (2147483647 : Int32))] (.int (0 : Int32)) := Arv.set Arw92 qw92 Sw92 Mw92 Hw92 Gw92 rfl Ww92 15 rfl (Nat.le_of_ble_eq_true rfl)
    have Nw92 := Fr.snoc Xw92 Nw86 gbb2
    refine Runs.go stw92 ?_
    show Runs p e below s _ _ _ (Tw92.setTop (mkF m 93 #[.val (.int x0), .val (.int x1), .val (.int x2), .unset, .unset] [(.ref b2)]))
    refine Runs.go (fun _ => XS.astoreN Xw92.here hx rfl (hb hby at_93) rfl rfl (l' := #[.val (.int x0), .val (.int x1), .val (.int x2), .val (.ref b2), .unset]) rfl) ?_
    show Runs p e below s _ _ _ (Tw92.setTop (mkF m 94 #[.val (.int x0), .val (.int x1), .val (.int x2), .val (.ref b2), .unset] []))
    refine Runs.go (fun _ => XS.iloadN Xw92.here hx rfl (hb hby at_94) rfl) ?_
    show Runs p e below s _ _ _ (Tw92.setTop (mkF m 95 #[.val (.int x0), .val (.int x1), .val (.int x2), .val (.ref b2), .unset] [(.int x1)]))
    refine Runs.go (fun _ => XS.iconst Xw92.here hx rfl (hb hby at_95)) ?_
    show Runs p e below s _ _ _ (Tw92.setTop (mkF m 96 #[.val (.int x0), .val (.int x1), .val (.int x2), .val (.ref b2), .unset] [(.int (1 : Int32)), (.int x1)]))
    refine Runs.go (fun _ => XS.iand Xw92.here hx rfl (hb hby at_96) rfl) ?_
    show Runs p e below s _ _ _ (Tw92.setTop (mkF m 97 #[.val (.int x0), .val (.int x1), .val (.int x2), .val (.ref b2), .unset] [(.int (x1 &&& (1 : Int32)))]))
    by_cases hc97 : (x1 &&& (1 : Int32)) = (0 : Int32)
    · have hv := (if_pos hc97).symm.trans hv
      refine Runs.go (fun _ => XS.ifNo Xw92.here hx rfl (hb hby at_97) rfl ((if0 _ _).trans (teq hc97).2)) ?_
      show Runs p e below s _ _ _ (Tw92.setTop (mkF m 100 #[.val (.int x0), .val (.int x1), .val (.int x2), .val (.ref b2), .unset] []))
      refine Runs.go (fun _ => XS.iloadN Xw92.here hx rfl (hb hby at_100) rfl) ?_
      show Runs p e below s _ _ _ (Tw92.setTop (mkF m 101 #[.val (.int x0), .val (.int x1), .val (.int x2), .val (.ref b2), .unset] [(.int x0)]))
      refine Runs.go (fun _ => XS.istore Xw92.here hx rfl (hb hby at_101) rfl (l' := #[.val (.int x0), .val (.int x1), .val (.int x2), .val (.ref b2), .val (.int x0)]) rfl) ?_
      show Runs p e below s _ _ _ (Tw92.setTop (mkF m 103 #[.val (.int x0), .val (.int x1), .val (.int x2), .val (.ref b2), .val (.int x0)] []))
      refine Runs.go (fun _ => XS.goto Xw92.here hx rfl (pc0 := 103) (pc' := 123) rfl (hb hby at_103) (by decide) (by decide)) ?_
      show Runs p e below s _ _ _ (Tw92.setTop (mkF m 123 #[.val (.int x0), .val (.int x1), .val (.int x2), .val (.ref b2), .val (.int x0)] []))
      exact k_123 _ _ _ Xw92 ew92 Nw92 x0 x1 x2 b2 x0 hv
    · have hv := (if_neg hc97).symm.trans hv
      refine Runs.go (fun _ => XS.ifYes Xw92.here hx rfl (pc0 := 97) (pc' := 106) rfl (hb hby at_97) rfl ((if0 _ _).trans (feq hc97).2) (by decide) (by decide)) ?_
      show Runs p e below s _ _ _ (Tw92.setTop (mkF m 106 #[.val (.int x0), .val (.int x1), .val (.int x2), .val (.ref b2), .unset] []))
      refine Runs.go (fun _ => XS.aloadN Xw92.here hx rfl (hb hby at_106) rfl rfl) ?_
      show Runs p e below s _ _ _ (Tw92.setTop (mkF m 107 #[.val (.int x0), .val (.int x1), .val (.int x2), .val (.ref b2), .unset] [(.ref b2)]))
      refine Runs.go (fun _ => XS.iloadN Xw92.here hx rfl (hb hby at_107) rfl) ?_
      show Runs p e below s _ _ _ (Tw92.setTop (mkF m 108 #[.val (.int x0), .val (.int x1), .val (.int x2), .val (.ref b2), .unset] [(.int x1), (.ref b2)]))
      refine Runs.go (fun _ => XS.iconst Xw92.here hx rfl (hb hby at_108)) ?_
      show Runs p e below s _ _ _ (Tw92.setTop (mkF m 109 #[.val (.int x0), .val (.int x1), .val (.int x2), .val (.ref b2), .unset] [(.int (1 : Int32)), (.int x1), (.ref b2)]))
      refine Runs.go (fun _ => XS.iushr Xw92.here hx rfl (hb hby at_109) rfl) ?_
      show Runs p e below s _ _ _ (Tw92.setTop (mkF m 110 #[.val (.int x0), .val (.int x1), .val (.int x2), .val (.ref b2), .unset] [(.int ((x1.toUInt32 >>> ((1 : Int32) &&& 31).toUInt32).toInt32)), (.ref b2)]))
      refine Runs.go (fun _ => XS.bipush Xw92.here hx rfl (hb hby at_110)) ?_
      show Runs p e below s _ _ _ (Tw92.setTop (mkF m 112 #[.val (.int x0), .val (.int x1), .val (.int x2), .val (.ref b2), .unset] [(.int (15 : Int32)), (.int ((x1.toUInt32 >>> ((1 : Int32) &&& 31).toUInt32).toInt32)), (.ref b2)]))
      refine Runs.go (fun _ => XS.iand Xw92.here hx rfl (hb hby at_112) rfl) ?_
      show Runs p e below s _ _ _ (Tw92.setTop (mkF m 113 #[.val (.int x0), .val (.int x1), .val (.int x2), .val (.ref b2), .unset] [(.int (((x1.toUInt32 >>> ((1 : Int32) &&& 31).toUInt32).toInt32) &&& (15 : Int32))), (.ref b2)]))
      have VVr113 : Arv Z hw92 b2 ka2 .int (16 : Int32) (List.map Value.int [(0 : Int32), (9 : Int32), (10 : Int32), (13 : Int32), (32 : Int32), (55295 : Int32), (55296 : Int32), (57343 : Int32), (57344 : Int32), (65533 : Int32), (65535 : Int32), (65536 : Int32), (1114111 : Int32), (1114112 : Int32), (-2147483648 : Int32), (2147483647 : Int32)]) (.int (0 : Int32)) := Vw92
      obtain ⟨clr113, Arr113, -, Sr113, Mr113, Hr113, -⟩ := VVr113
      have hinr113 : ¬ ((((x1.toUInt32 >>> ((1 : Int32) &&& 31).toUInt32).toInt32) &&& (15 : Int32)) < 0 ∨ clr113.slots.size ≤ ((((x1.toUInt32 >>> ((1 : Int32) &&& 31).toUInt32).toInt32) &&& (15 : Int32))).toNatClampNeg) := inb_of Sr113 (own_idx x1)
      have hatr113 : clr113.slots[((((x1.toUInt32 >>> ((1 : Int32) &&& 31).toUInt32).toInt32) &&& (15 : Int32))).toNatClampNeg]? = some (.int (own_at [(0 : Int32), (9 : Int32), (10 : Int32), (13 : Int32), (32 : Int32), (55295 : Int32), (55296 : Int32), (57343 : Int32), (57344 : Int32), (65533 : Int32), (65535 : Int32), (65536 : Int32), (1114111 : Int32), (1114112 : Int32), (-2147483648 : Int32), (2147483647 : Int32)] (((x1.toUInt32 >>> ((1 : Int32) &&& 31).toUInt32).toInt32) &&& (15 : Int32)))) := Has.at Hr113 hinr113 (own_getD _ _)
      refine Runs.go (Xw92.iaload hx (j := (((x1.toUInt32 >>> ((1 : Int32) &&& 31).toUInt32).toInt32) &&& (15 : Int32))) (v := (.int (own_at [(0 : Int32), (9 : Int32), (10 : Int32), (13 : Int32), (32 : Int32), (55295 : Int32), (55296 : Int32), (57343 : Int32), (57344 : Int32), (65533 : Int32), (65535 : Int32), (65536 : Int32), (1114111 : Int32), (1114112 : Int32), (-2147483648 : Int32), (2147483647 : Int32)] (((x1.toUInt32 >>> ((1 : Int32) &&& 31).toUInt32).toInt32) &&& (15 : Int32))))) (by rw [ew92]; exact Arr113.1) (State.isArrayOf_alike hZ.alike Arr113.2.1) Arr113.2.2 hinr113 hatr113 (g := (mkF m 113 #[.val (.int x0), .val (.int x1), .val (.int x2), .val (.ref b2), .unset] [(.int (((x1.toUInt32 >>> ((1 : Int32) &&& 31).toUInt32).toInt32) &&& (15 : Int32))), (.ref b2)])) rfl rfl (hb hby at_113)) ?_
      show Runs p e below s _ _ _ (Tw92.setTop (mkF m 114 #[.val (.int x0), .val (.int x1), .val (.int x2), .val (.ref b2), .unset] [(.int (own_at [(0 : Int32), (9 : Int32), (10 : Int32), (13 : Int32), (32 : Int32), (55295 : Int32), (55296 : Int32), (57343 : Int32), (57344 : Int32), (65533 : Int32), (65535 : Int32), (65536 : Int32), (1114111 : Int32), (1114112 : Int32), (-2147483648 : Int32), (2147483647 : Int32)] (((x1.toUInt32 >>> ((1 : Int32) &&& 31).toUInt32).toInt32) &&& (15 : Int32))))]))
      refine Runs.go (fun _ => XS.iloadN Xw92.here hx rfl (hb hby at_114) rfl) ?_
      show Runs p e below s _ _ _ (Tw92.setTop (mkF m 115 #[.val (.int x0), .val (.int x1), .val (.int x2), .val (.ref b2), .unset] [(.int x2), (.int (own_at [(0 : Int32), (9 : Int32), (10 : Int32), (13 : Int32), (32 : Int32), (55295 : Int32), (55296 : Int32), (57343 : Int32), (57344 : Int32), (65533 : Int32), (65535 : Int32), (65536 : Int32), (1114111 : Int32), (1114112 : Int32), (-2147483648 : Int32), (2147483647 : Int32)] (((x1.toUInt32 >>> ((1 : Int32) &&& 31).toUInt32).toInt32) &&& (15 : Int32))))]))
      refine Runs.go (fun _ => XS.bipush Xw92.here hx rfl (hb hby at_115)) ?_
      show Runs p e below s _ _ _ (Tw92.setTop (mkF m 117 #[.val (.int x0), .val (.int x1), .val (.int x2), .val (.ref b2), .unset] [(.int (7 : Int32)), (.int x2), (.int (own_at [(0 : Int32), (9 : Int32), (10 : Int32), (13 : Int32), (32 : Int32), (55295 : Int32), (55296 : Int32), (57343 : Int32), (57344 : Int32), (65533 : Int32), (65535 : Int32), (65536 : Int32), (1114111 : Int32), (1114112 : Int32), (-2147483648 : Int32), (2147483647 : Int32)] (((x1.toUInt32 >>> ((1 : Int32) &&& 31).toUInt32).toInt32) &&& (15 : Int32))))]))
      refine Runs.go (fun _ => XS.iand Xw92.here hx rfl (hb hby at_117) rfl) ?_
      show Runs p e below s _ _ _ (Tw92.setTop (mkF m 118 #[.val (.int x0), .val (.int x1), .val (.int x2), .val (.ref b2), .unset] [(.int (x2 &&& (7 : Int32))), (.int (own_at [(0 : Int32), (9 : Int32), (10 : Int32), (13 : Int32), (32 : Int32), (55295 : Int32), (55296 : Int32), (57343 : Int32), (57344 : Int32), (65533 : Int32), (65535 : Int32), (65536 : Int32), (1114111 : Int32), (1114112 : Int32), (-2147483648 : Int32), (2147483647 : Int32)] (((x1.toUInt32 >>> ((1 : Int32) &&& 31).toUInt32).toInt32) &&& (15 : Int32))))]))
      refine Runs.go (fun _ => XS.iconst Xw92.here hx rfl (hb hby at_118)) ?_
      show Runs p e below s _ _ _ (Tw92.setTop (mkF m 119 #[.val (.int x0), .val (.int x1), .val (.int x2), .val (.ref b2), .unset] [(.int (4 : Int32)), (.int (x2 &&& (7 : Int32))), (.int (own_at [(0 : Int32), (9 : Int32), (10 : Int32), (13 : Int32), (32 : Int32), (55295 : Int32), (55296 : Int32), (57343 : Int32), (57344 : Int32), (65533 : Int32), (65535 : Int32), (65536 : Int32), (1114111 : Int32), (1114112 : Int32), (-2147483648 : Int32), (2147483647 : Int32)] (((x1.toUInt32 >>> ((1 : Int32) &&& 31).toUInt32).toInt32) &&& (15 : Int32))))]))
      refine Runs.go (fun _ => XS.isub Xw92.here hx rfl (hb hby at_119) rfl) ?_
      show Runs p e below s _ _ _ (Tw92.setTop (mkF m 120 #[.val (.int x0), .val (.int x1), .val (.int x2), .val (.ref b2), .unset] [(.int ((x2 &&& (7 : Int32)) - (4 : Int32))), (.int (own_at [(0 : Int32), (9 : Int32), (10 : Int32), (13 : Int32), (32 : Int32), (55295 : Int32), (55296 : Int32), (57343 : Int32), (57344 : Int32), (65533 : Int32), (65535 : Int32), (65536 : Int32), (1114111 : Int32), (1114112 : Int32), (-2147483648 : Int32), (2147483647 : Int32)] (((x1.toUInt32 >>> ((1 : Int32) &&& 31).toUInt32).toInt32) &&& (15 : Int32))))]))
      refine Runs.go (fun _ => XS.iadd Xw92.here hx rfl (hb hby at_120) rfl) ?_
      show Runs p e below s _ _ _ (Tw92.setTop (mkF m 121 #[.val (.int x0), .val (.int x1), .val (.int x2), .val (.ref b2), .unset] [(.int ((own_at [(0 : Int32), (9 : Int32), (10 : Int32), (13 : Int32), (32 : Int32), (55295 : Int32), (55296 : Int32), (57343 : Int32), (57344 : Int32), (65533 : Int32), (65535 : Int32), (65536 : Int32), (1114111 : Int32), (1114112 : Int32), (-2147483648 : Int32), (2147483647 : Int32)] (((x1.toUInt32 >>> ((1 : Int32) &&& 31).toUInt32).toInt32) &&& (15 : Int32))) + ((x2 &&& (7 : Int32)) - (4 : Int32))))]))
      refine Runs.go (fun _ => XS.istore Xw92.here hx rfl (hb hby at_121) rfl (l' := #[.val (.int x0), .val (.int x1), .val (.int x2), .val (.ref b2), .val (.int ((own_at [(0 : Int32), (9 : Int32), (10 : Int32), (13 : Int32), (32 : Int32), (55295 : Int32), (55296 : Int32), (57343 : Int32), (57344 : Int32), (65533 : Int32), (65535 : Int32), (65536 : Int32), (1114111 : Int32), (1114112 : Int32), (-2147483648 : Int32), (2147483647 : Int32)] (((x1.toUInt32 >>> ((1 : Int32) &&& 31).toUInt32).toInt32) &&& (15 : Int32))) + ((x2 &&& (7 : Int32)) - (4 : Int32))))]) rfl) ?_
      show Runs p e below s _ _ _ (Tw92.setTop (mkF m 123 #[.val (.int x0), .val (.int x1), .val (.int x2), .val (.ref b2), .val (.int ((own_at [(0 : Int32), (9 : Int32), (10 : Int32), (13 : Int32), (32 : Int32), (55295 : Int32), (55296 : Int32), (57343 : Int32), (57344 : Int32), (65533 : Int32), (65535 : Int32), (65536 : Int32), (1114111 : Int32), (1114112 : Int32), (-2147483648 : Int32), (2147483647 : Int32)] (((x1.toUInt32 >>> ((1 : Int32) &&& 31).toUInt32).toInt32) &&& (15 : Int32))) + ((x2 &&& (7 : Int32)) - (4 : Int32))))] []))
      exact k_123 _ _ _ Xw92 ew92 Nw92 x0 x1 x2 b2 ((own_at [(0 : Int32), (9 : Int32), (10 : Int32), (13 : Int32), (32 : Int32), (55295 : Int32), (55296 : Int32), (57343 : Int32), (57344 : Int32), (65533 : Int32), (65535 : Int32), (65536 : Int32), (1114111 : Int32), (1114112 : Int32), (-2147483648 : Int32), (2147483647 : Int32)] (((x1.toUInt32 >>> ((1 : Int32) &&& 31).toUInt32).toInt32) &&& (15 : Int32))) + ((x2 &&& (7 : Int32)) - (4 : Int32))) hv
  exact k_0 _ X0 e0 (Fr.nil n0) hF
set_option maxRecDepth 65536 in
set_option maxHeartbeats 40000000 in
theorem comes_1 {Post : Tables → Env → Array Value → State → Outcome → State → Prop} (hpost : ∀ tb e args s v u, (limb_1_1.after args s (.returned v) u = true ∧ limb_1_2.after args s (.returned v) u = true ∧ True) → FrameEnd s (.returned v) u (Jvm.fieldLocs frame_1_writes args s ++ Jvm.arrayLocs frame_1_arrays args s ++ Jvm.staticLocs frame_1_statics s) 16 128 → Post tb e args s (.returned v) u) :
    ArmFor flags0 classFile x code maxLocals ret World_1 tables_1 room_1 Calls_1 rest_1 Pre_1 Post := by
  intro l hfl _ _ p e ha hc hk s m args below hf hA hF happ hP
  obtain ⟨hcalls, hrest, hpre⟩ := hP
  obtain ⟨-, -, -, hnamed, -, -, -, hat⟩ := (Spec.applies_iff hf).mp happ
  obtain ⟨hg, hn⟩ := and_e (Cond.before_iff.mp (show (Jvm.Cond.and given_1 narrow_1).before args s = true from hpre))
  obtain ⟨hcnt, hg⟩ := and_e hg
  obtain ⟨w0, w1, w2, rfl⟩ : ∃ w0 w1 w2 : Value, args = #[w0, w1, w2] := by
    have hs : args.size = 3 := by simpa [Cond.value, given_1] using hcnt
    obtain ⟨L⟩ := args
    match L, hs with
    | [w0, w1, w2], _ => exact ⟨w0, w1, w2, rfl⟩
  obtain ⟨ga0, hg⟩ := and_e hg
  obtain ⟨i0, ei0⟩ := is_v ga0
  obtain rfl : w0 = (.int i0) := Option.some.inj ei0
  obtain ⟨ga1, hg⟩ := and_e hg
  obtain ⟨i1, ei1⟩ := is_v ga1
  obtain rfl : w1 = (.int i1) := Option.some.inj ei1
  have ga2 := hg
  obtain ⟨i2, ei2⟩ := is_v ga2
  obtain rfl : w2 = (.int i2) := Option.some.inj ei2
  have hw := fun d (hd : d ∈ tables_1) => atoms_spec (ws := Jvm.Cond.code x code maxLocals ret :: tables_1) hat d (List.mem_cons_of_mem _ hd)
  obtain ⟨n, o, h1, h2, h3, _, L, rfl, ⟨rfl, N⟩, hq⟩ := rm0 l s _ hw tables_1 i0 i1 i2 s.heap s.heap.size (Nat.le_refl _) p e ha hc hk s m _ below hf ((Spec.applies_iff_loose hf).mp happ).1 ⟨rfl, State.Warmed39.refl s, rfl⟩ trivial
  rw [law_true i0 i1 i2] at hq h3
  exact ⟨n, _, h1, h2, h3, hpost _ _ _ _ _ _ ⟨Cond.after_iff.mpr rfl, Cond.after_iff.mpr (eq_i res_at (Term.int_eval (1)) rfl), trivial⟩ ⟨hq.1, hq.2.1, (hq.2.2.sift fun y hy => Or.inr (N y hy)).mono (by decide) (by decide)⟩⟩
theorem main_1_1 : Claimed_1_1 := comes_1 fun _ _ _ _ _ _ h hF => ⟨h.1, hF⟩
theorem main_1_2 : Claimed_1_2 := comes_1 fun _ _ _ _ _ _ h hF => ⟨h.2.1, hF⟩
end Jvm.Pilot.@@N@@
namespace Jvm.Pilot.@@N@@
open Jvm Jvm.ClassFile Sem Op Lib Jvm.Free Jvm.Stand Jvm.Pilot.@@N@@.Jvm.D
/-! MADE BY PROGRAM (witnessworld.py) out of the Statement's table words and the real class files: 9 classes; the members and pool entries that the words name. The judged class is class 1, her method 2. -/
namespace start1
open Jvm.ClassFile
def u (s : String) : CpInfo := .utf8 (stringToUtf16 s)
/-- a pool by its gaps: so many unusable entries, then the entry; so many at the end -/
def gap : Nat → List CpInfo → List CpInfo
  | 0, r => r
  | n + 1, r => .unusable :: gap n r
def poolList (es : List (Nat × CpInfo)) (last : Nat) : List CpInfo := es.foldr (fun e r => gap e.1 (e.2 :: r)) (gap last [])
def pool (es : List (Nat × CpInfo)) (last : Nat) : Array CpInfo := ⟨poolList es last⟩
def fileOf (pool : Array CpInfo) (this : Nat) (attrs : Array Attribute := #[]) (ms : Array MethodInfo := #[]) (fl : Nat := 33) (sup : Nat := 0) (ifs : Array Nat := #[]) (fds : Array FieldInfo := #[]) : ClassFile where
  minorVersion := 0
  majorVersion := 65
  constantPool := pool
  accessFlags := fl
  thisClass := this
  superClass := sup
  interfaces := ifs
  fields := fds
  methods := ms
  attributes := attrs
def plain (name : String) (sup : Option ClassId) : Class where
  name := name
  kind := .ordinary
  loader := none
  accessFlags := 33
  super := sup
  interfaces := #[]
  cf := none
  fields := #[]
  methods := #[]
  instanceTypes := #[]
  staticTypes := #[]
  resolved := #[]
  callSites := []
  init := .initialized
  statics := none
  mirror := none

def pool0 : Array CpInfo := pool [(5, u "<init>"), (0, u "()V"), (1, .class_ 10), (1, u "java/lang/Object")] 113

def k0m0 : Method := { name := "<init>", desc := "()V", sig := { parameters := [], returnType := none }, accessFlags := 1, code := none }
/-- java/lang/Object -/
def k0 : Class := { plain "java/lang/Object" none with
  accessFlags := 33
  interfaces := #[]
  cf := some (fileOf pool0 8 #[] #[{ accessFlags := 1, nameIndex := 5, descriptorIndex := 6, attributes := #[] }] 33 0 #[] #[])
  fields := #[]
  methods := #[k0m0]
  instanceTypes := #[]
  staticTypes := #[]
  resolved := Array.replicate 124 none
  statics := none }

def pool1 : Array CpInfo := pool [(2, .class_ 4), (1, u "java/lang/Object"), (0, u "<init>"), (0, u "()V"), (0, .integer 55296), (0, .integer 57343), (0, .integer 65534), (0, .integer 65535), (0, .integer 1114111), (0, .integer 55295), (0, .integer 57344), (0, .integer 65533), (0, .integer 65536), (0, .integer 1114112), (2, .integer 2147483648), (0, .integer 2147483647), (0, .methodref 22 23), (0, .class_ 24), (0, .nameAndType 25 26), (0, u "com/example/interlinear/interlinear/xml/XmlText"), (0, u "isCharacter"), (0, u "(I)Z"), (0, .methodref 28 29), (0, .class_ 30), (0, .nameAndType 31 26), (0, u "com/example/interlinear/interlinear/xml/XmlTextIsCharacterPinLaw"), (0, u "excluded"), (3, u "law"), (0, u "(III)Z")] 4

def k1m0 : Method := { name := "<init>", desc := "()V", sig := { parameters := [], returnType := none }, accessFlags := 2, code := none }
def k1c1 : Code := { maxStack := 2, maxLocals := 1, code := method_2_code, exceptionTable := #[], attributes := #[] }
def k1m1 : Method := { name := "excluded", desc := "(I)Z", sig := { parameters := [.int], returnType := some .boolean }, accessFlags := 10, code := some k1c1 }
def k1c2 : Code := { maxStack := 4, maxLocals := 5, code := code, exceptionTable := #[], attributes := #[] }
def k1m2 : Method := { name := "law", desc := "(III)Z", sig := { parameters := [.int, .int, .int], returnType := some .boolean }, accessFlags := 9, code := some k1c2 }
/-- com/example/interlinear/interlinear/xml/XmlTextIsCharacterPinLaw -/
def k1 : Class := { plain "com/example/interlinear/interlinear/xml/XmlTextIsCharacterPinLaw" (some 0) with
  accessFlags := 49
  interfaces := #[]
  cf := some (fileOf pool1 28 #[] #[{ accessFlags := 2, nameIndex := 5, descriptorIndex := 6, attributes := #[] }, { accessFlags := 10, nameIndex := 31, descriptorIndex := 26, attributes := #[] }, { accessFlags := 9, nameIndex := 35, descriptorIndex := 36, attributes := #[] }] 49 2 #[] #[])
  fields := #[]
  methods := #[k1m0, k1m1, k1m2]
  instanceTypes := #[]
  staticTypes := #[]
  resolved := Array.replicate 41 none
  statics := none }

def pool2 : Array CpInfo := pool [(2, .class_ 4), (1, u "java/lang/Object"), (0, u "<init>"), (0, u "()V"), (0, .integer 55295), (0, .integer 57344), (0, .integer 65533), (0, .integer 65536), (0, .integer 1114111), (11, .class_ 25), (1, u "com/example/interlinear/interlinear/xml/XmlText"), (1, u "(I)Z"), (23, u "isCharacter")] 80

def k2m0 : Method := { name := "<init>", desc := "()V", sig := { parameters := [], returnType := none }, accessFlags := 2, code := none }
def k2c1 : Code := { maxStack := 2, maxLocals := 1, code := prog_332_method_2_code, exceptionTable := #[], attributes := #[] }
def k2m1 : Method := { name := "isCharacter", desc := "(I)Z", sig := { parameters := [.int], returnType := some .boolean }, accessFlags := 9, code := some k2c1 }
/-- com/example/interlinear/interlinear/xml/XmlText -/
def k2 : Class := { plain "com/example/interlinear/interlinear/xml/XmlText" (some 0) with
  accessFlags := 49
  interfaces := #[]
  cf := some (fileOf pool2 23 #[] #[{ accessFlags := 2, nameIndex := 5, descriptorIndex := 6, attributes := #[] }, { accessFlags := 9, nameIndex := 51, descriptorIndex := 27, attributes := #[] }] 49 2 #[] #[])
  fields := #[]
  methods := #[k2m0, k2m1]
  instanceTypes := #[]
  staticTypes := #[]
  resolved := Array.replicate 132 none
  statics := none }

def pool3 : Array CpInfo := pool [(1, u "java/lang/Cloneable"), (0, .class_ 1), (0, u "java/lang/Object"), (0, .class_ 3)] 3

/-- java/lang/Cloneable -/
def k3 : Class := { plain "java/lang/Cloneable" (some 0) with
  accessFlags := 1537
  interfaces := #[]
  cf := some (fileOf pool3 2 #[] #[] 1537 4 #[] #[])
  fields := #[]
  methods := #[]
  instanceTypes := #[]
  staticTypes := #[]
  resolved := Array.replicate 8 none
  statics := none }

def pool4 : Array CpInfo := pool [(1, u "java/io/Serializable"), (0, .class_ 1), (0, u "java/lang/Object"), (0, .class_ 3)] 3

/-- java/io/Serializable -/
def k4 : Class := { plain "java/io/Serializable" (some 0) with
  accessFlags := 1537
  interfaces := #[]
  cf := some (fileOf pool4 2 #[] #[] 1537 4 #[] #[])
  fields := #[]
  methods := #[]
  instanceTypes := #[]
  staticTypes := #[]
  resolved := Array.replicate 8 none
  statics := none }

/-- the primitive byte -/
def k5 : Class := { plain "byte" none with kind := .primitive 'B', accessFlags := 0x411 }
/-- [B -/
def k6 : Class := { plain "[B" (some 0) with kind := .array 5 .byte, interfaces := #[3, 4], accessFlags := 1041 }

/-- the primitive int -/
def k7 : Class := { plain "int" none with kind := .primitive 'I', accessFlags := 0x411 }
/-- [I -/
def k8 : Class := { plain "[I" (some 0) with kind := .array 7 .int, interfaces := #[3, 4], accessFlags := 1041 }

def heap : Heap := #[]
def classes : Array Class := #[k0, k1, k2, k3, k4, k5, k6, k7, k8]
def interned : List (Array UInt16 × Addr) := []
def slotsUsed : Nat := 0
def theMethod : MethodId := ⟨1, 2⟩
def args0 : Array Value := #[.int 7, .int 8, .int 9]
def aboutOver (below : List Frame) : State where
  vm := { classes := classes, interned := interned.toArray }
  heap := heap
  slotsUsed := slotsUsed
  threads := #[{ frames := .invoking theMethod args0 :: below }]
def below0 : List Frame := [.native { method := ⟨0, 0⟩, args := #[] }]
def about1 : State := aboutOver below0
def p0 : Program := .bare "" "" ""
def e0 : Env := launch0.env 0 0 0
theorem w_frames : about1.frames = Frame.invoking theMethod args0 :: below0 := rfl
set_option maxRecDepth 65536 in
theorem w_args : argsFit about1.vm theMethod args0 = true := by decide +kernel
set_option maxRecDepth 65536 in
theorem w_heap : heapFits about1 = true := by decide +kernel
set_option maxRecDepth 65536 in
theorem w_runnable : about1.curStatus? = some .runnable := by decide +kernel
set_option maxRecDepth 65536 in
theorem w_alone : about1.alone = true := by decide +kernel
set_option maxRecDepth 65536 in
theorem w_named : about1.methodNamed? x = some theMethod := by decide +kernel
set_option maxRecDepth 65536 in
theorem w_hears : about1.hears theMethod below0 = true := by decide +kernel
set_option maxRecDepth 65536 in
theorem w_ripe : about1.ripe theMethod args0 below0 = true := by decide +kernel
theorem w_running : about1.status = .running := rfl
set_option maxRecDepth 65536 in
theorem w_room : about1.hasRoom e0.platform room_1 = true :=
  launch0.hasRoom_least _ room_1 (by decide +kernel) (by decide +kernel) (by decide +kernel) (by decide +kernel) (by decide +kernel) (by decide +kernel)
theorem allAtoms_all (ts : List Jvm.Cond) (a : Array Jvm.Value) (st : Jvm.State) : (allAtoms ts).before a st = ts.all (fun c => c.before a st) := by
  induction ts with
  | nil => rfl
  | cons c t ih =>
    show (Jvm.Cond.and c (allAtoms t)).before a st = _
    rw [Jvm.Cond.before_and, ih, List.all_cons]
def words1 : List Jvm.Cond := Jvm.Cond.code x code maxLocals ret :: tables_1
/-- a 'code' word, met by the world's own term for the bytes: nothing is compared byte by byte -/
theorem code_word {y : MethodName} {bytes : ByteArray} {mx : Nat} {rt : Option FieldType} {a : Array Value} {s : State} {m : MethodId} {meth : Method} {c : Code} (h1 : s.methodNamed? y = some m) (h2 : s.vm.method? m = some meth) (h3 : meth.code = some c) (h4 : c.code = bytes)
    (h5 : (c.maxLocals == mx && c.exceptionTable.isEmpty && decide (c.maxStack ≤ mostOperands) && decide (meth.sig.returnType = rt) && !meth.locks && decide (parseMethodDescriptor y.desc = some meth.sig)) = true) : (Jvm.Cond.code y bytes mx rt).before a s = true := by
  simp only [Bool.and_eq_true, beq_iff_eq, Bool.not_eq_true', decide_eq_true_eq] at h5
  obtain ⟨⟨⟨⟨⟨g1, g2⟩, g3⟩, g4⟩, g5⟩, g6⟩ := h5
  simp [Cond.before, Cond.holds, Cond.value, h1, h2, h3, h4, g1, g2, g3, g4, g5, g6]
def isCode : Jvm.Cond → Bool
  | .code _ _ _ _ => true
  | _ => false
theorem all_split {L : List Jvm.Cond} {P : Jvm.Cond → Bool} (h1 : L.all (fun c => isCode c || P c) = true) (h2 : ∀ c ∈ L.filter isCode, P c = true) : L.all P = true := by
  refine List.all_eq_true.mpr fun c hc => ?_
  have h := List.all_eq_true.mp h1 c hc
  rcases Bool.eq_false_or_eq_true (isCode c) with hi | hi
  · exact h2 c (List.mem_filter.mpr ⟨hc, hi⟩)
  · simpa [hi] using h
set_option maxRecDepth 65536 in
theorem w_c0 : (Jvm.Cond.code x code maxLocals ret).before args0 about1 = true := code_word (m := ⟨1, 2⟩) (meth := k1m2) (c := k1c2) (by decide +kernel) rfl rfl rfl (by decide +kernel)
set_option maxRecDepth 65536 in
theorem w_c1 : (Jvm.Cond.code ({ cls := "com/example/interlinear/interlinear/xml/XmlText", name := "isCharacter", desc := "(I)Z" } : Jvm.MethodName) prog_332_method_2_code (1 : Nat) (Option.some Jvm.ClassFile.FieldType.boolean)).before args0 about1 = true := code_word (m := ⟨2, 1⟩) (meth := k2m1) (c := k2c1) (by decide +kernel) rfl rfl rfl (by decide +kernel)
set_option maxRecDepth 65536 in
theorem w_c2 : (Jvm.Cond.code ({ cls := "com/example/interlinear/interlinear/xml/XmlTextIsCharacterPinLaw", name := "excluded", desc := "(I)Z" } : Jvm.MethodName) method_2_code (1 : Nat) (Option.some Jvm.ClassFile.FieldType.boolean)).before args0 about1 = true := code_word (m := ⟨1, 1⟩) (meth := k1m1) (c := k1c1) (by decide +kernel) rfl rfl rfl (by decide +kernel)
def codes1 : List Jvm.Cond := [Jvm.Cond.code x code maxLocals ret, Jvm.Cond.code ({ cls := "com/example/interlinear/interlinear/xml/XmlText", name := "isCharacter", desc := "(I)Z" } : Jvm.MethodName) prog_332_method_2_code (1 : Nat) (Option.some Jvm.ClassFile.FieldType.boolean), Jvm.Cond.code ({ cls := "com/example/interlinear/interlinear/xml/XmlTextIsCharacterPinLaw", name := "excluded", desc := "(I)Z" } : Jvm.MethodName) method_2_code (1 : Nat) (Option.some Jvm.ClassFile.FieldType.boolean)]
set_option maxRecDepth 65536 in
theorem codes_eq : words1.filter isCode = codes1 := rfl
theorem w_codes : ∀ c ∈ words1.filter isCode, c.before args0 about1 = true := by
  rw [codes_eq]
  intro c hc
  simp only [codes1, List.mem_cons, List.not_mem_nil, or_false] at hc
  rcases hc with rfl | rfl | rfl
  · exact w_c0
  · exact w_c1
  · exact w_c2
set_option maxRecDepth 65536 in
theorem w_t1 : (words1.take 24).all (fun c => isCode c || c.before args0 about1) = true := by decide +kernel
set_option maxRecDepth 65536 in
theorem w_t2 : (words1.drop 24).all (fun c => isCode c || c.before args0 about1) = true := by decide +kernel
theorem w_tables : (allAtoms (Jvm.Cond.code x code maxLocals ret :: tables_1)).before args0 about1 = true := by
  rw [allAtoms_all]
  show words1.all (fun c => c.before args0 about1) = true
  refine all_split ?_ w_codes
  rw [← List.take_append_drop 24 words1, List.all_append, w_t1, w_t2]
  rfl
set_option maxRecDepth 65536 in
theorem w_case : (Jvm.Cond.and given_1 narrow_1).before args0 about1 = true := by decide +kernel
theorem w_applies : (headSpec (Jvm.Cond.code x code maxLocals ret :: tables_1) room_1).applies x e0.platform about1 = true :=
  (Spec.applies_iff w_frames).mpr ⟨w_running, w_runnable, w_alone, w_named, w_hears, w_ripe, w_room, w_tables⟩
theorem atStart : AtStart classFile x code maxLocals ret World_1 tables_1 room_1 Calls_1 rest_1 Pre_1 launch0 p0 e0 about1 theMethod args0 below0 :=
  ⟨lists_1, trivial, launch0.admits_env _ _ _, launch0.least_env, fairChoices_fair.cas, fairChoices_fair.clock, w_frames, w_args, w_heap, w_applies, trivial, trivial, w_case⟩
end start1
theorem witness_1 : WitnessClaimed_1 := ⟨start1.p0, start1.e0, start1.about1, start1.theMethod, start1.args0, start1.below0, start1.atStart⟩
end Jvm.Pilot.@@N@@
