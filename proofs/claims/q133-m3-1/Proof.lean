import JvmDerived
import JvmDerived.Pilot.@@N@@Statement
import JvmDerived.Pilot.@@N@@Code
set_option linter.unusedVariables false
set_option linter.unusedSimpArgs false

namespace Jvm.Pilot.@@N@@
open Jvm Jvm.ClassFile Sem Op Lib Jvm.Free Jvm.Stand Jvm.LawKit Jvm.RoadKit Bundle Jvm.Pilot.@@N@@.Jvm.D
def QH (w : Value) (n0 : Nat) (v : Option Value) (h : Heap) (L : List Loc) : Prop := v = some w ∧ Fr n0 L
def own_at (l : List Int32) (j : Int32) : Int32 := l.getD j.toNatClampNeg 0
theorem own_getD (l : List Int32) (j : Int32) : (List.map Value.int l).getD j.toNatClampNeg (.int (0 : Int32)) = .int (own_at l j) := by
  simp only [own_at, List.getD_eq_getElem?_getD, List.getElem?_map]
  cases l[j.toNatClampNeg]? <;> rfl
def own_atJ (l : List Int64) (j : Int32) : Int64 := l.getD j.toNatClampNeg 0
theorem own_getDJ (l : List Int64) (j : Int32) : (List.map Value.long l).getD j.toNatClampNeg (.long (0 : Int64)) = .long (own_atJ l j) := by
  simp only [own_atJ, List.getD_eq_getElem?_getD, List.getElem?_map]
  cases l[j.toNatClampNeg]? <;> rfl
def QP (w : Value) (h0 : Heap) (v : Option Value) (h : Heap) (L : List Loc) : Prop := v = some w ∧ L = [] ∧ h = h0
def Runs (p : Program) (e : Env) (below : List Frame) (s : State) (Q : Option Value → Heap → List Loc → Prop) (k n : Nat) (A : State) : Prop :=
  ∃ s₂ o, Steps p.tables e below A s₂ ∧ s₂.status = .running ∧ Ended s₂ below o ∧ ∃ v L, o = .returned v ∧ Q v s₂.heap L ∧ FrameEnd s o s₂ L k n
section Ends
variable {p : Program} {l : Launch} {e : Env} {R : Room} {s : State} {m : MethodId} {args : Array Value} {below : List Frame} {meth : Method} {c : Code} {T A B : State} {locs : List Loc} {cells slots : Nat} {Q : Option Value → Heap → List Loc → Prop} {k n pc : Nat} {Ls : Array Slot} {rest : List Value}
theorem Runs.go (h : ∀ t, Steps p.tables e below B t → Steps p.tables e below A t) (q : Runs p e below s Q k n B) : Runs p e below s Q k n A := by
  obtain ⟨s₂, o, h1, h2⟩ := q; exact ⟨s₂, o, h _ h1, h2⟩
theorem Runs.endI (X : Stand p l e R s m args below meth c T locs cells slots) (hx : p.tables.exec = Jvm.exec) {z : Int32} (hret : meth.sig.returnType = some .int) (hl : meth.locks = false) (hd : decode c.code pc = .ok (.ireturn, 1)) (hQ : Q (some (.int z)) T.heap locs) (hk : cells ≤ k) (hn : slots ≤ n) : Runs p e below s Q k n (T.setTop (mkF m pc Ls (.int z :: rest))) := by
  obtain ⟨fs, hr, hrun, hended, hW, hsame⟩ := X.leave (v := some (.int z)) (fun h => by rw [hret] at h; cases h) hl
  exact ⟨_, _, retOut X hx hret rfl (Or.inl ⟨rfl, Or.inl rfl, _, rfl⟩) hd hr, hrun, hended, _, _, rfl, hQ, ⟨_, rfl⟩, hW, hsame.mono hk hn⟩
theorem Runs.endJ (X : Stand p l e R s m args below meth c T locs cells slots) (hx : p.tables.exec = Jvm.exec) {z : Int64} (hret : meth.sig.returnType = some .long) (hl : meth.locks = false) (hd : decode c.code pc = .ok (.lreturn, 1)) (hQ : Q (some (.long z)) T.heap locs) (hk : cells ≤ k) (hn : slots ≤ n) : Runs p e below s Q k n (T.setTop (mkF m pc Ls (.long z :: rest))) := by
  obtain ⟨fs, hr, hrun, hended, hW, hsame⟩ := X.leave (v := some (.long z)) (fun h => by rw [hret] at h; cases h) hl
  exact ⟨_, _, retOut X hx hret rfl (Or.inr (Or.inl ⟨rfl, rfl, _, rfl⟩)) hd hr, hrun, hended, _, _, rfl, hQ, ⟨_, rfl⟩, hW, hsame.mono hk hn⟩
theorem Runs.endN (X : Stand p l e R s m args below meth c T locs cells slots) (hx : p.tables.exec = Jvm.exec) {z : Int32} {t : FieldType} (hret : meth.sig.returnType = some t) (ht : t = .boolean ∨ t = .byte ∨ t = .char ∨ t = .short) (hl : meth.locks = false) (hd : decode c.code pc = .ok (.ireturn, 1)) (hQ : Q (some (.int (nar t z))) T.heap locs) (hk : cells ≤ k) (hn : slots ≤ n) : Runs p e below s Q k n (T.setTop (mkF m pc Ls (.int z :: rest))) := by
  obtain ⟨fs, hr, hrun, hended, hW, hsame⟩ := X.leave (v := some (.int (nar t z))) (fun h => by rw [hret] at h; cases h) hl
  exact ⟨_, _, retN X hx hret ht hd hr, hrun, hended, _, _, rfl, hQ, ⟨_, rfl⟩, hW, hsame.mono hk hn⟩
theorem Runs.endV (X : Stand p l e R s m args below meth c T locs cells slots) (hx : p.tables.exec = Jvm.exec) (hret : meth.sig.returnType = none) (hl : meth.locks = false) (hd : decode c.code pc = .ok (.return_, 1)) (hQ : Q none T.heap locs) (hk : cells ≤ k) (hn : slots ≤ n) : Runs p e below s Q k n (T.setTop (mkF m pc Ls [])) := by
  obtain ⟨fs, hr, hrun, hended, hW, hsame⟩ := X.leave (v := none) (fun _ => rfl) hl
  exact ⟨_, _, X.returnOut hx hret hd hr, hrun, hended, _, _, rfl, hQ, ⟨_, rfl⟩, hW, hsame.mono hk hn⟩
theorem Runs.endR (X : Stand p l e R s m args below meth c T locs cells slots) (hx : p.tables.exec = Jvm.exec) {z : Addr} {t : FieldType} (hret : meth.sig.returnType = some t) (ht : t.isReference = true) (hl : meth.locks = false) (hd : decode c.code pc = .ok (.areturn, 1)) (hQ : Q (some (.ref z)) T.heap locs) (hk : cells ≤ k) (hn : slots ≤ n) : Runs p e below s Q k n (T.setTop (mkF m pc Ls (.ref z :: rest))) := by
  obtain ⟨fs, hr, hrun, hended, hW, hsame⟩ := X.leave (v := some (.ref z)) (fun h => by rw [hret] at h; cases h) hl
  exact ⟨_, _, retOut X hx hret (by cases t <;> first | rfl | cases ht) (Or.inr (Or.inr (Or.inr (Or.inr ⟨rfl, ht, rfl⟩)))) hd hr, hrun, hended, _, _, rfl, hQ, ⟨_, rfl⟩, hW, hsame.mono hk hn⟩
end Ends
def own_I0 : List Int64 := [(0 : Int64), (0 : Int64), (0 : Int64), (0 : Int64), (0 : Int64), (0 : Int64), (0 : Int64), (0 : Int64)]
def own_S0 : List Int32 := [(-1 : Int32), (-1 : Int32), (-1 : Int32), (-1 : Int32), (-1 : Int32), (-1 : Int32), (-1 : Int32), (-1 : Int32), (-1 : Int32), (-1 : Int32), (-1 : Int32), (-1 : Int32), (-1 : Int32), (-1 : Int32), (-1 : Int32), (-1 : Int32)]
def own_set (l : List Int32) (j p : Int32) : List Int32 := l.set j.toNatClampNeg p
def own_setJ (l : List Int64) (j : Int32) (p : Int64) : List Int64 := l.set j.toNatClampNeg p
def own_cp (I : List Int64) (n : Int32) : List Int64 := (List.range n.toNatClampNeg).map (fun i => I.getD i 0) ++ List.drop n.toNatClampNeg [(0 : Int64), (0 : Int64), (0 : Int64)]
theorem own_sel {Z : State} {a0 : Array Value} {y : MethodName} {n : Nat} (hins : (Cond.instantiable y.cls n).before a0 Z = true) (hpriv : (Cond.privateMethod y).before a0 Z = true) (hinst : (Cond.instanceMethod y).before a0 Z = true) (hy : y.cls ≠ "java/lang/invoke/MethodHandle" ∧ y.cls ≠ "java/lang/invoke/VarHandle") : (Cond.selects y.cls y y).before a0 Z = true := by
  obtain ⟨c, k, hc, hk, -, hniab, -, -⟩ := Cond.instantiable_spec hins
  exact selects_self_of_private hc hk (Bool.or_eq_false_iff.mp hniab).1 (Cond.privateMethod_at hpriv) hinst hy
def EI (Z : State) (h : Heap) (n0 : Nat) (a b1 b2 : Addr) (sz : Int32) (sp : Int64) (I : List Int64) (S : List Int32) : Prop :=
  Exa Z h a "com/example/quillon/quillon/core/ElementIds" ∧ n0 ≤ a ∧ Fld Z h a "com/example/quillon/quillon/core/ElementIds" "size" "I" (.int sz) ∧ Fld Z h a "com/example/quillon/quillon/core/ElementIds" "spareProbes" "J" (.long sp) ∧ Fld Z h a "com/example/quillon/quillon/core/ElementIds" "shift" "I" (.int (60 : Int32)) ∧ Fld Z h a "com/example/quillon/quillon/core/ElementIds" "key" "[J" .null ∧
  ∃ (k1 k2 : ClassId), n0 ≤ b1 ∧ n0 ≤ b2 ∧ a ≠ b1 ∧ a ≠ b2 ∧ b1 ≠ b2 ∧ Fld Z h a "com/example/quillon/quillon/core/ElementIds" "ids" "[J" (.ref b1) ∧ Fld Z h a "com/example/quillon/quillon/core/ElementIds" "slots" "[I" (.ref b2) ∧
    Arv Z h b1 k1 .long (8 : Int32) (List.map Value.long I) (.long (0 : Int64)) ∧ Arv Z h b2 k2 .int (16 : Int32) (List.map Value.int S) (.int (0 : Int32))
theorem EI.ext {Z : State} {h h' : Heap} {n0 : Nat} {a b1 b2 : Addr} {sz : Int32} {sp : Int64} {I : List Int64} {S : List Int32} (G : EI Z h n0 a b1 b2 sz sp I S) (E : Ext h h') : EI Z h' n0 a b1 b2 sz sp I S := by
  obtain ⟨E0, ga, F1, F2, F3, F4, k1, k2, g1, g2, n1, n2, n3, F5, F6, V1, V2⟩ := G
  exact ⟨E0.ext E, ga, F1.ext E, F2.ext E, F3.ext E, F4.ext E, k1, k2, g1, g2, n1, n2, n3, F5.ext E, F6.ext E, V1.ext E, V2.ext E⟩
theorem EI.other {Z : State} {h h' : Heap} {n0 : Nat} {a b1 b2 x : Addr} {sl : Nat} {v : Value} {sz : Int32} {sp : Int64} {I : List Int64} {S : List Int32} (G : EI Z h n0 a b1 b2 sz sp I S) (W : Wr h h' x sl v) (q : a ≠ x) (q1 : b1 ≠ x) (q2 : b2 ≠ x) : EI Z h' n0 a b1 b2 sz sp I S := by
  obtain ⟨E0, ga, F1, F2, F3, F4, k1, k2, g1, g2, n1, n2, n3, F5, F6, V1, V2⟩ := G
  exact ⟨E0.wr W, ga, F1.other W (Or.inl q), F2.other W (Or.inl q), F3.other W (Or.inl q), F4.other W (Or.inl q), k1, k2, g1, g2, n1, n2, n3, F5.other W (Or.inl q), F6.other W (Or.inl q), V1.other W q1, V2.other W q2⟩
theorem EI.lts {Z : State} {h : Heap} {n0 : Nat} {a b1 b2 : Addr} {sz : Int32} {sp : Int64} {I : List Int64} {S : List Int32} (G : EI Z h n0 a b1 b2 sz sp I S) : a < h.size ∧ b1 < h.size ∧ b2 < h.size := by
  obtain ⟨E0, ga, F1, F2, F3, F4, k1, k2, g1, g2, n1, n2, n3, F5, F6, V1, V2⟩ := G
  exact ⟨E0.lt, V1.lt, V2.lt⟩
def EA (Z : State) (h : Heap) (n0 : Nat) (be a b1 b2 : Addr) (el : List Int64) : Prop := n0 ≤ be ∧ a ≠ be ∧ b1 ≠ be ∧ b2 ≠ be ∧ ∃ ke : ClassId, Arv Z h be ke .long (3 : Int32) (List.map Value.long el) (.long (0 : Int64))
def QF (Z : State) (n0 : Nat) (a : Addr) (kk : ClassId) (h0 : Heap) (r : List Int32) (v : Option Value) (h : Heap) (L : List Loc) : Prop := v = none ∧ Fr n0 L ∧ Keep h0 h [a] ∧ Arv Z h a kk .int (16 : Int32) (List.map Value.int r) (.int (0 : Int32))
def QL (Z : State) (n0 : Nat) (a b1 : Addr) (I : List Int64) (v : Option Value) (h : Heap) (L : List Loc) : Prop := v = none ∧ Fr n0 L ∧ ∃ b2 : Addr, EI Z h n0 a b1 b2 (0 : Int32) (0 : Int64) I own_S0
def QN (Z : State) (n0 : Nat) (a : Addr) (v : Option Value) (h : Heap) (L : List Loc) : Prop := v = none ∧ Fr n0 L ∧ ∃ b1 b2 : Addr, EI Z h n0 a b1 b2 (0 : Int32) (0 : Int64) own_I0 own_S0
def QS (Z : State) (n0 : Nat) (a b1 b2 : Addr) (sz : Int32) (I : List Int64) (S : List Int32) (h0 : Heap) (r : Int32 × Int64) (v : Option Value) (h : Heap) (L : List Loc) : Prop := v = some (.int r.1) ∧ Fr n0 L ∧ Keep h0 h [a] ∧ EI Z h n0 a b1 b2 sz r.2 I S
def QX (Z : State) (n0 : Nat) (a b1 b2 : Addr) (h0 : Heap) (r : Int32 × Int64 × List Int64 × List Int32) (v : Option Value) (h : Heap) (L : List Loc) : Prop := (∃ z : Int32, v = some (.int z)) ∧ Fr n0 L ∧ Keep h0 h [a, b1, b2] ∧ EI Z h n0 a b1 b2 r.1 r.2.1 r.2.2.1 r.2.2.2
def QT (Z : State) (n0 : Nat) (z : Int32) (r : List Int64) (h0 : Heap) (v : Option Value) (h : Heap) (L : List Loc) : Prop := ∃ (b : Addr) (k : ClassId), v = some (.ref b) ∧ Fr n0 L ∧ b = h0.size ∧ Ext h0 h ∧ Arv Z h b k .long z (List.map Value.long r) (.long (0 : Int64))
theorem own_map (I : List Int64) (n : Nat) : (List.range n).map (fun i => (List.map Value.long I).getD (0 + i) (.long (0 : Int64))) = List.map Value.long ((List.range n).map (fun i => I.getD i 0)) := by
  rw [List.map_map]; refine List.map_congr_left fun i _ => ?_
  simp only [Function.comp, Nat.zero_add, List.getD_eq_getElem?_getD, List.getElem?_map]
  cases I[i]? <;> rfl
/-! numbers -/
theorem own_e0 : (0 : Int32).toInt = 0 := by decide
theorem own_e1 : (1 : Int32).toInt = 1 := by decide
theorem own_e8 : (8 : Int32).toInt = 8 := by decide
theorem own_e16 : (16 : Int32).toInt = 16 := by decide
theorem own_em : (-1 : Int32).toInt = -1 := by decide
def own_n (z : Int32) : Prop := 0 ≤ z.toInt ∧ z.toInt ≤ 3
theorem own_n0 : own_n (0 : Int32) := ⟨by decide, by decide⟩
theorem own_c8 {z : Int32} (h : own_n z) : ¬ z = (8 : Int32) := fun q => by obtain ⟨h1, h2⟩ := h; rw [q, own_e8] at h2; omega
theorem own_cneg {z : Int32} (h : own_n z) : ¬ z < 0 := by rw [Int32.lt_iff_toInt_lt, own_e0]; obtain ⟨h1, h2⟩ := h; omega
theorem own_ccap {z : Int32} (h : own_n z) : z.toNatClampNeg ≤ 3 := by rw [Int32.toNatClampNeg]; obtain ⟨h1, h2⟩ := h; omega
theorem own_cc1 {z : Int32} (h : own_n z) : (0 : Int32).toNatClampNeg + z.toNatClampNeg ≤ (8 : Int32).toNatClampNeg := by
  have := own_ccap h; have e : (0 : Int32).toNatClampNeg = 0 := by decide
  have e' : (8 : Int32).toNatClampNeg = 8 := by decide
  omega
theorem own_cc2 {z : Int32} (h : own_n z) : (0 : Int32).toNatClampNeg + z.toNatClampNeg ≤ z.toNatClampNeg := by
  have e : (0 : Int32).toNatClampNeg = 0 := by decide
  omega
theorem own_cc3 {z : Int32} (h : own_n z) : (0 : Int32).toNatClampNeg + z.toNatClampNeg ≤ [(.long (0 : Int64) : Value), .long (0 : Int64), .long (0 : Int64)].length := by
  have := own_ccap h; have e : (0 : Int32).toNatClampNeg = 0 := by decide
  show _ ≤ 3
  omega
theorem own_extk {h0 h h' : Heap} {b : Addr} (E : Ext h0 h) (K : Keep h h' [b]) (q : h0.size ≤ b) : Ext h0 h' :=
  ⟨Nat.le_trans E.1 K.1, fun a c r => K.2.1 a c (E.2 a c r) fun z => by
    have e := List.mem_singleton.mp z
    have lt := (Array.getElem?_eq_some_iff.mp r).1
    exact absurd (e ▸ lt) (Nat.not_lt.mpr q)⟩
theorem own_cpl {Z : State} {h : Heap} {b : Addr} {k : ClassId} {z : Int32} {I : List Int64}
    (V : Arv Z h b k .long z ([(.long (0 : Int64) : Value), .long (0 : Int64), .long (0 : Int64)].take (0 : Int32).toNatClampNeg ++ (List.range z.toNatClampNeg).map (fun i => (List.map Value.long I).getD ((0 : Int32).toNatClampNeg + i) (.long (0 : Int64))) ++ [(.long (0 : Int64) : Value), .long (0 : Int64), .long (0 : Int64)].drop ((0 : Int32).toNatClampNeg + z.toNatClampNeg)) (.long (0 : Int64))) :
    Arv Z h b k .long z (List.map Value.long (own_cp I z)) (.long (0 : Int64)) := by
  have e : (0 : Int32).toNatClampNeg = 0 := by decide
  rw [e, own_map] at V
  have e2 : List.map Value.long (own_cp I z) = [(.long (0 : Int64) : Value), .long (0 : Int64), .long (0 : Int64)].take 0 ++ List.map Value.long ((List.range z.toNatClampNeg).map (fun i => I.getD i 0)) ++ [(.long (0 : Int64) : Value), .long (0 : Int64), .long (0 : Int64)].drop (0 + z.toNatClampNeg) := by
    rw [own_cp, List.map_append, List.map_drop, Nat.zero_add]; rfl
  rw [e2]; exact V
theorem own_23 {z : Int32} (h : z < (2 : Int32)) : z < (3 : Int32) := by
  rw [Int32.lt_iff_toInt_lt] at *
  have e2 : (2 : Int32).toInt = 2 := by decide
  have e3 : (3 : Int32).toInt = 3 := by decide
  omega
/-! Arrays.fill -/
def FInv (k : Nat) (i : Int32) (l : List Int32) : Prop := i.toInt + k = 17 ∧ (0 ≤ i.toInt ∧ i.toInt ≤ 16) ∧ l.length = 16
theorem FInv.zero {i : Int32} {l : List Int32} : ¬ FInv 0 i l := fun h => by obtain ⟨h1, h2, h3⟩ := h; omega
theorem FInv.start {l : List Int32} (h : l.length = 16) : FInv 17 (0 : Int32) l := ⟨by decide, ⟨by decide, by decide⟩, h⟩
theorem FInv.nn {k : Nat} {i : Int32} {l : List Int32} (h : FInv k i l) : ¬ i < 0 := by rw [Int32.lt_iff_toInt_lt, own_e0]; obtain ⟨h1, h2, h3⟩ := h; omega
theorem FInv.len {k : Nat} {i : Int32} {l : List Int32} (h : FInv k i l) (q : i < (16 : Int32)) : i.toNatClampNeg < l.length := by
  rw [Int32.lt_iff_toInt_lt, own_e16] at q; obtain ⟨h1, h2, h3⟩ := h; rw [h3, Int32.toNatClampNeg]; omega
theorem FInv.step {k : Nat} {i : Int32} {l : List Int32} (h : FInv (k + 1) i l) (q : i < (16 : Int32)) (x : Int32) : FInv k (i + (1 : Int32)) (own_set l i x) := by
  rw [Int32.lt_iff_toInt_lt, own_e16] at q; obtain ⟨h1, h2, h3⟩ := h
  have a := c_iadd i 1; have r := rng32 (i + 1); rw [own_e1] at a
  exact ⟨by omega, ⟨by omega, by omega⟩, by rw [own_set, List.length_set]; exact h3⟩
/-! the table of slots -/
def own_nth (l : List Int32) (i : Nat) : Int32 := l.getD i 0
def own_nthJ (l : List Int64) (i : Nat) : Int64 := l.getD i 0
theorem own_nth_set (l : List Int32) (p b : Int32) (i : Nat) (h : i < l.length) : own_nth (own_set l p b) i = if p.toNatClampNeg = i then b else own_nth l i := by
  simp only [own_nth, own_set, List.getD_eq_getElem?_getD, List.getElem?_set]
  split
  · rename_i q; rw [if_pos (by omega : p.toNatClampNeg < l.length)]; rfl
  · rfl
theorem own_nthJ_set (l : List Int64) (p : Int32) (b : Int64) (i : Nat) (h : i < l.length) : own_nthJ (own_setJ l p b) i = if p.toNatClampNeg = i then b else own_nthJ l i := by
  simp only [own_nthJ, own_setJ, List.getD_eq_getElem?_getD, List.getElem?_set]
  split
  · rename_i q; rw [if_pos (by omega : p.toNatClampNeg < l.length)]; rfl
  · rfl
def SVal (S : List Int32) : Prop := S.length = 16 ∧ ∀ j, j < 16 → own_nth S j = -1 ∨ (0 ≤ (own_nth S j).toInt ∧ (own_nth S j).toInt < 8)
def SInv (k : Nat) (slot : Int32) (S : List Int32) : Prop := (0 ≤ slot.toInt ∧ slot.toInt < 16) ∧ ∃ d, d < k ∧ own_nth S ((slot.toNatClampNeg + d) % 16) = -1
theorem SInv.zero {s : Int32} {S : List Int32} : ¬ SInv 0 s S := fun h => by obtain ⟨_, d, q, _⟩ := h; omega
theorem SInv.inb {k : Nat} {s : Int32} {S : List Int32} (h : SInv k s S) : ¬ s < 0 ∧ s < (16 : Int32) := by
  rw [Int32.lt_iff_toInt_lt, Int32.lt_iff_toInt_lt, own_e0, own_e16]; obtain ⟨h1, _⟩ := h; omega
theorem own_next {s : Int32} (h : 0 ≤ s.toInt ∧ s.toInt < 16) : (0 ≤ ((s + (1 : Int32)) &&& ((16 : Int32) - (1 : Int32))).toInt ∧ ((s + (1 : Int32)) &&& ((16 : Int32) - (1 : Int32))).toInt < 16) ∧ ((s + (1 : Int32)) &&& ((16 : Int32) - (1 : Int32))).toNatClampNeg = (s.toNatClampNeg + 1) % 16 := by
  have m : ((s + (1 : Int32)) &&& ((16 : Int32) - (1 : Int32))).toInt = (s + (1 : Int32)).toInt % 16 := by
    have := c_mask (s + (1 : Int32)) ((16 : Int32) - (1 : Int32)) 4 (by decide) (by decide); simpa using this
  have a := c_iadd s 1; have r := rng32 (s + 1); rw [own_e1] at a
  refine ⟨by omega, ?_⟩
  rw [Int32.toNatClampNeg, Int32.toNatClampNeg, m]; omega
theorem SInv.step {k : Nat} {s : Int32} {S : List Int32} (h : SInv (k + 1) s S) (hc : ¬ own_at S s = (-1 : Int32)) : SInv k ((s + (1 : Int32)) &&& ((16 : Int32) - (1 : Int32))) S := by
  obtain ⟨h1, d, h2, h3⟩ := h
  obtain ⟨n1, n2⟩ := own_next h1
  refine ⟨n1, d - 1, ?_, ?_⟩
  · cases d with
    | zero => exact absurd (by rw [Nat.add_zero, Nat.mod_eq_of_lt (by rw [Int32.toNatClampNeg]; omega)] at h3; exact h3) hc
    | succ d => omega
  · cases d with
    | zero => exact absurd (by rw [Nat.add_zero, Nat.mod_eq_of_lt (by rw [Int32.toNatClampNeg]; omega)] at h3; exact h3) hc
    | succ d =>
      rw [n2]
      have : ((s.toNatClampNeg + 1) % 16 + (d + 1 - 1)) % 16 = (s.toNatClampNeg + (d + 1)) % 16 := by omega
      rw [this]; exact h3
theorem SVal.idx {k : Nat} {s : Int32} {S : List Int32} (hV : SVal S) (h : SInv k s S) (hc : ¬ own_at S s = (-1 : Int32)) : ¬ own_at S s < 0 ∧ own_at S s < (8 : Int32) := by
  obtain ⟨h1, _⟩ := h
  rcases hV.2 s.toNatClampNeg (by rw [Int32.toNatClampNeg]; omega) with q | q
  · exact absurd q hc
  · rw [Int32.lt_iff_toInt_lt, Int32.lt_iff_toInt_lt, own_e0, own_e8]
    have : own_at S s = own_nth S s.toNatClampNeg := rfl
    rw [this]; omega
def own_home (x : Int64) : Int32 := ((((x * (-7046029254386353131 : Int64)).toUInt64 >>> ((60 : Int32) &&& 0x3f).toInt64.toUInt64).toInt64).toInt32)
theorem own_home_in (x : Int64) : 0 ≤ (own_home x).toInt ∧ (own_home x).toInt < 16 := by
  have h := c_lushr (x * (-7046029254386353131 : Int64)) 60 60 (by decide) (by decide)
  have a := c_l2i ((((x * (-7046029254386353131 : Int64)).toUInt64 >>> ((60 : Int32) &&& 0x3f).toInt64.toUInt64).toInt64))
  have r := rng32 (own_home x)
  have e : ((2 ^ 60 : Nat) : Int) = 1152921504606846976 := by decide
  rw [e] at h
  have : (own_home x) = ((((x * (-7046029254386353131 : Int64)).toUInt64 >>> ((60 : Int32) &&& 0x3f).toInt64.toUInt64).toInt64).toInt32) := rfl
  rw [← this] at a
  generalize (((x * (-7046029254386353131 : Int64)).toUInt64 >>> ((60 : Int32) &&& 0x3f).toInt64.toUInt64).toInt64).toInt = y at *
  omega
/-! what the law's own array holds -/
def ER1 (a b : Int64) (n : Int32) (el : List Int64) : Prop := el.length = 3 ∧ ((b = a ∧ n.toInt = 1 ∧ own_nthJ el 0 = a) ∨ (b ≠ a ∧ n.toInt = 2 ∧ own_nthJ el 0 = a ∧ own_nthJ el 1 = b))
theorem ER1.same {a b : Int64} (h : b = a) : ER1 a b ((0 : Int32) + (1 : Int32)) (own_setJ [(0 : Int64), (0 : Int64), (0 : Int64)] (0 : Int32) a) := ⟨rfl, Or.inl ⟨h, by decide, rfl⟩⟩
theorem ER1.new {a b : Int64} (h : ¬ b = a) : ER1 a b (((0 : Int32) + (1 : Int32)) + (1 : Int32)) (own_setJ (own_setJ [(0 : Int64), (0 : Int64), (0 : Int64)] (0 : Int32) a) ((0 : Int32) + (1 : Int32)) b) := ⟨rfl, Or.inr ⟨h, by decide, rfl, rfl⟩⟩
theorem ER1.inb {a b : Int64} {n : Int32} {el : List Int64} (h : ER1 a b n el) : ¬ n < 0 ∧ n < (3 : Int32) := by
  have e3 : (3 : Int32).toInt = 3 := by decide
  rw [Int32.lt_iff_toInt_lt, Int32.lt_iff_toInt_lt, own_e0, e3]; obtain ⟨h1, h | h⟩ := h <;> omega
theorem ER1.len {a b : Int64} {n : Int32} {el : List Int64} (h : ER1 a b n el) : n.toNatClampNeg < el.length := by
  rw [h.1, Int32.toNatClampNeg]; obtain ⟨h1, h | h⟩ := h <;> omega

def f5_74 (v0 : Int32) (v1 : Int32) : Int32 := (v1 + ((v0.toUInt32 >>> ((1 : Int32) &&& 31).toUInt32).toInt32))
def f5_62 (v0 : Int32) (v1 : Int32) : Int32 := (if (4 : Int32) < v0 then (f5_74 ((v0.toUInt32 >>> ((2 : Int32) &&& 31).toUInt32).toInt32) (v1 + (2 : Int32))) else (f5_74 v0 v1))
def f5_49 (v0 : Int32) (v1 : Int32) : Int32 := (if (16 : Int32) < v0 then (f5_62 ((v0.toUInt32 >>> ((4 : Int32) &&& 31).toUInt32).toInt32) (v1 + (4 : Int32))) else (f5_62 v0 v1))
def f5_34 (v0 : Int32) (v1 : Int32) : Int32 := (if (256 : Int32) < v0 then (f5_49 ((v0.toUInt32 >>> ((8 : Int32) &&& 31).toUInt32).toInt32) (v1 + (8 : Int32))) else (f5_49 v0 v1))
def f5_0 (x0 : Int32) : Int32 := (if (0 : Int32) < ((x0 ^^^ (-1 : Int32)) &&& (x0 - (1 : Int32))) then (if (65536 : Int32) < ((x0 ^^^ (-1 : Int32)) &&& (x0 - (1 : Int32))) then (f5_34 ((((x0 ^^^ (-1 : Int32)) &&& (x0 - (1 : Int32))).toUInt32 >>> ((16 : Int32) &&& 31).toUInt32).toInt32) ((1 : Int32) + (16 : Int32))) else (f5_34 ((x0 ^^^ (-1 : Int32)) &&& (x0 - (1 : Int32))) (1 : Int32))) else (((x0 ^^^ (-1 : Int32)) &&& (x0 - (1 : Int32))) &&& (32 : Int32)))
def F5 (x0 : Int32) : Int32 := f5_0 x0
def f8_0 (x0 : Int32) (x1 : Int32) : Int32 := (if x1 < x0 then x1 else x0)
def F8 (x0 : Int32) (x1 : Int32) : Int32 := f8_0 x0 x1
def f4_5 : Nat → Int32 → List Int32 → List Int32 → Int32 → List Int32
  | 0, _, _, _, _ => []
  | k + 1, x1, ls, w_ls, v2 => (if v2 < (16 : Int32) then (f4_5 k x1 ls (own_set w_ls v2 x1) (v2 + (1 : Int32))) else w_ls)
def f4_0 (x1 : Int32) (ls : List Int32) : List Int32 := (f4_5 17 x1 ls ls (0 : Int32))
def F4 (x1 : Int32) (ls : List Int32) : List Int32 := f4_0 x1 ls
def f10_82 (x1 : Int64) (sz : Int32) (sp : Int64) (I : List Int64) (S : List Int32) (w_sp : Int64) (v4 : Int32) : Int32 × Int64 := (v4, w_sp)
def f10_33 : Nat → Int64 → Int32 → Int64 → List Int64 → List Int32 → Int64 → Int32 → Int32 × Int64
  | 0, _, _, _, _, _, _, _ => ((0 : Int32), (0 : Int64))
  | k + 1, x1, sz, sp, I, S, w_sp, v4 => (if (own_at S v4) = (-1 : Int32) then (f10_82 x1 sz sp I S w_sp v4) else (if (lcmpW (own_atJ I (own_at S v4)) x1) = (0 : Int32) then (f10_82 x1 sz sp I S w_sp v4) else (f10_33 k x1 sz sp I S (w_sp - (1 : Int64)) ((v4 + (1 : Int32)) &&& ((16 : Int32) - (1 : Int32))))))
def f10_0 (x1 : Int64) (sz : Int32) (sp : Int64) (I : List Int64) (S : List Int32) : Int32 × Int64 := (f10_33 16 x1 sz sp I S (sp + (4 : Int64)) ((((x1 * (-7046029254386353131 : Int64)).toUInt64 >>> ((60 : Int32) &&& 0x3f).toInt64.toUInt64).toInt64).toInt32))
def F10 (x1 : Int64) (sz : Int32) (sp : Int64) (I : List Int64) (S : List Int32) : Int32 × Int64 := f10_0 x1 sz sp I S
def f9_0 (x1 : Int64) (sz : Int32) (sp : Int64) (I : List Int64) (S : List Int32) : Int32 × Int64 × List Int64 × List Int32 := (if (own_at S (F10 x1 sz sp I S).1) = (-1 : Int32) then ((sz + (1 : Int32)), (F10 x1 sz sp I S).2, (own_setJ I sz x1), (own_set S (F10 x1 sz sp I S).1 sz)) else (sz, (F10 x1 sz sp I S).2, I, S))
def F9 (x1 : Int64) (sz : Int32) (sp : Int64) (I : List Int64) (S : List Int32) : Int32 × Int64 × List Int64 × List Int32 := f9_0 x1 sz sp I S
def f0_136 (x0 : Int64) (x1 : Int64) (x2 : Int64) (x3 : Int32) (w_el : List Int64) (v11 : Int64) (v14 : Int64) (v17 : Int32) : Int32 := (if v17 < (2 : Int32) then (1 : Int32) else (if v17 < (3 : Int32) then (1 : Int32) else (1 : Int32)))
def f0_110 (x0 : Int64) (x1 : Int64) (x2 : Int64) (x3 : Int32) (w_el : List Int64) (v11 : Int64) (v14 : Int64) (v17 : Int32) : Int32 := (if (lcmpW v14 x0) = (0 : Int32) then (f0_136 x0 x1 x2 x3 w_el v11 v14 v17) else (if (lcmpW v14 v11) = (0 : Int32) then (f0_136 x0 x1 x2 x3 w_el v11 v14 v17) else (f0_136 x0 x1 x2 x3 (own_setJ w_el v17 v14) v11 v14 (v17 + (1 : Int32)))))
def f0_72 (x0 : Int64) (x1 : Int64) (x2 : Int64) (x3 : Int32) (v11 : Int64) (t0 : Int64) : Int32 := (if (lcmpW v11 x0) = (0 : Int32) then (f0_110 x0 x1 x2 x3 (own_setJ [(0 : Int64), (0 : Int64), (0 : Int64)] (0 : Int32) x0) v11 t0 ((0 : Int32) + (1 : Int32))) else (f0_110 x0 x1 x2 x3 (own_setJ (own_setJ [(0 : Int64), (0 : Int64), (0 : Int64)] (0 : Int32) x0) ((0 : Int32) + (1 : Int32)) v11) v11 t0 (((0 : Int32) + (1 : Int32)) + (1 : Int32))))
def f0_39 (x0 : Int64) (x1 : Int64) (x2 : Int64) (x3 : Int32) (t0 : Int64) : Int32 := (if (((x3.toUInt32 >>> ((1 : Int32) &&& 31).toUInt32).toInt32) &&& (3 : Int32)) = (0 : Int32) then (f0_72 x0 x1 x2 x3 t0 x2) else (if (((x3.toUInt32 >>> ((1 : Int32) &&& 31).toUInt32).toInt32) &&& (3 : Int32)) = (1 : Int32) then (f0_72 x0 x1 x2 x3 t0 x0) else (f0_72 x0 x1 x2 x3 t0 t0)))
def f0_0 (x0 : Int64) (x1 : Int64) (x2 : Int64) (x3 : Int32) : Int32 := (if (x3 &&& (1 : Int32)) = (0 : Int32) then (f0_39 x0 x1 x2 x3 x1) else (f0_39 x0 x1 x2 x3 x0))
def F0 (x0 : Int64) (x1 : Int64) (x2 : Int64) (x3 : Int32) : Int32 := f0_0 x0 x1 x2 x3
theorem li32_m1 : (-1 : Int32).toInt = -1 := by decide
theorem li32_0 : (0 : Int32).toInt = 0 := by decide
theorem li32_1 : (1 : Int32).toInt = 1 := by decide
theorem li32_2 : (2 : Int32).toInt = 2 := by decide
theorem li32_3 : (3 : Int32).toInt = 3 := by decide
theorem li32_4 : (4 : Int32).toInt = 4 := by decide
theorem li32_8 : (8 : Int32).toInt = 8 := by decide
theorem li32_16 : (16 : Int32).toInt = 16 := by decide
theorem li32_32 : (32 : Int32).toInt = 32 := by decide
theorem li32_60 : (60 : Int32).toInt = 60 := by decide
theorem li32_256 : (256 : Int32).toInt = 256 := by decide
theorem li32_65536 : (65536 : Int32).toInt = 65536 := by decide
theorem li64_m7046029254386353131 : (-7046029254386353131 : Int64).toInt = -7046029254386353131 := by decide
theorem li64_0 : (0 : Int64).toInt = 0 := by decide
theorem li64_1 : (1 : Int64).toInt = 1 := by decide
theorem li64_4 : (4 : Int64).toInt = 4 := by decide

theorem own_fill16 : F4 (-1 : Int32) [(0 : Int32), (0 : Int32), (0 : Int32), (0 : Int32), (0 : Int32), (0 : Int32), (0 : Int32), (0 : Int32), (0 : Int32), (0 : Int32), (0 : Int32), (0 : Int32), (0 : Int32), (0 : Int32), (0 : Int32), (0 : Int32)] = own_S0 := by decide +kernel
theorem own_ntz : F5 (16 : Int32) = (4 : Int32) := by decide +kernel
theorem own_cmin {z : Int32} (h : own_n z) : F8 (8 : Int32) z = z := by
  simp only [F8, f8_0]; rw [if_pos]; rw [Int32.lt_iff_toInt_lt, own_e8]; obtain ⟨h1, h2⟩ := h; omega
/-- what one look along the table finds -/
theorem own_look (x : Int64) (sz : Int32) (sp : Int64) (I : List Int64) (S : List Int32) : ∀ (k : Nat) (s : Int32) (q : Int64), SInv k s S → -1000 ≤ q.toInt - k → q.toInt ≤ 1000 →
    ∃ m : Nat, m < k ∧ (f10_33 k x sz sp I S q s).1.toNatClampNeg = (s.toNatClampNeg + m) % 16 ∧ (0 ≤ (f10_33 k x sz sp I S q s).1.toInt ∧ (f10_33 k x sz sp I S q s).1.toInt < 16) ∧ (f10_33 k x sz sp I S q s).2.toInt = q.toInt - m ∧
      (∀ m', m' < m → own_nth S ((s.toNatClampNeg + m') % 16) ≠ -1 ∧ own_nthJ I (own_nth S ((s.toNatClampNeg + m') % 16)).toNatClampNeg ≠ x) ∧
      (own_nth S ((s.toNatClampNeg + m) % 16) = -1 ∨ own_nthJ I (own_nth S ((s.toNatClampNeg + m) % 16)).toNatClampNeg = x) := by
  intro k
  induction k with
  | zero => intro s q h; exact absurd h SInv.zero
  | succ k ih =>
    intro s q h hq hq'
    have hs := h.1
    have sm : s.toNatClampNeg % 16 = s.toNatClampNeg := Nat.mod_eq_of_lt (by rw [Int32.toNatClampNeg]; omega)
    simp only [f10_33, f10_82, lw_eq]
    by_cases c1 : own_at S s = (-1 : Int32)
    · rw [if_pos c1]
      exact ⟨0, by omega, by rw [Nat.add_zero, sm], hs, by simp, fun m' hm => by omega, Or.inl (by rw [Nat.add_zero, sm]; exact c1)⟩
    · rw [if_neg c1]
      by_cases c2 : own_atJ I (own_at S s) = x
      · rw [if_pos c2]
        exact ⟨0, by omega, by rw [Nat.add_zero, sm], hs, by simp, fun m' hm => by omega, Or.inr (by rw [Nat.add_zero, sm]; exact c2)⟩
      · rw [if_neg c2]
        have a := c_lsub q 1; have r := rng64 (q - 1); have e1 : (1 : Int64).toInt = 1 := by decide
        obtain ⟨m, i1, i2, i3, i4, i5, i6⟩ := ih _ (q - 1) (h.step c1) (by omega) (by omega)
        obtain ⟨n1, n2⟩ := own_next hs
        rw [n2] at i2 i5 i6
        have md : ∀ j, ((s.toNatClampNeg + 1) % 16 + j) % 16 = (s.toNatClampNeg + (j + 1)) % 16 := fun j => by omega
        simp only [md] at i2 i5 i6
        refine ⟨m + 1, by omega, i2, i3, by omega, fun m' hm => ?_, i6⟩
        cases m' with
        | zero => rw [Nat.add_zero, sm]; exact ⟨c1, c2⟩
        | succ m' => exact i5 m' (by omega)
/-- the table after c or fewer ids -/
def ST (c : Nat) (sz : Int32) (sp : Int64) (I : List Int64) (S : List Int32) : Prop :=
  (0 ≤ sz.toInt ∧ sz.toInt ≤ c) ∧ (0 ≤ sp.toInt ∧ sp.toInt ≤ 4 * c) ∧ I.length = 8 ∧ S.length = 16 ∧
  (∀ j, j < 16 → own_nth S j = -1 ∨ (0 ≤ (own_nth S j).toInt ∧ (own_nth S j).toInt < sz.toInt)) ∧
  (∃ p q : Nat, ∀ j, j < 16 → own_nth S j ≠ -1 → (1 ≤ c ∧ j = p) ∨ (2 ≤ c ∧ j = q)) ∧
  ∀ t : Nat, (t : Int) < sz.toInt → ∃ m : Nat, (own_nth S (((own_home (own_nthJ I t)).toNatClampNeg + m) % 16)).toInt = t ∧ ∀ m', m' < m → own_nth S (((own_home (own_nthJ I t)).toNatClampNeg + m') % 16) ≠ -1
theorem ST.sinv {c : Nat} {sz : Int32} {sp : Int64} {I : List Int64} {S : List Int32} (h : ST c sz sp I S) (x : Int64) : SInv 16 (own_home x) S := by
  obtain ⟨-, -, -, -, -, ⟨p, q, h6⟩, -⟩ := h
  have hh := own_home_in x
  refine ⟨hh, ?_⟩
  generalize (own_home x).toNatClampNeg = H
  by_cases a0 : own_nth S ((H + 0) % 16) = -1
  · exact ⟨0, by omega, a0⟩
  · by_cases a1 : own_nth S ((H + 1) % 16) = -1
    · exact ⟨1, by omega, a1⟩
    · refine ⟨2, by omega, Classical.byContradiction fun a2 => ?_⟩
      have b0 := h6 _ (Nat.mod_lt _ (by decide)) a0
      have b1 := h6 _ (Nat.mod_lt _ (by decide)) a1
      have b2 := h6 _ (Nat.mod_lt _ (by decide)) a2
      omega
theorem ST.few {c : Nat} {sz : Int32} {sp : Int64} {I : List Int64} {S : List Int32} (h : ST c sz sp I S) (H m : Nat) (hm : ∀ m', m' < m → own_nth S ((H + m') % 16) ≠ -1) : m ≤ 2 := by
  obtain ⟨-, -, -, -, -, ⟨p, q, h6⟩, -⟩ := h
  refine Classical.byContradiction fun n => ?_
  have b0 := h6 _ (Nat.mod_lt _ (by decide)) (hm 0 (by omega))
  have b1 := h6 _ (Nat.mod_lt _ (by decide)) (hm 1 (by omega))
  have b2 := h6 _ (Nat.mod_lt _ (by decide)) (hm 2 (by omega))
  omega
/-- one look in such a table -/
theorem ST.look {c : Nat} {sz : Int32} {sp : Int64} {I : List Int64} {S : List Int32} (h : ST c sz sp I S) (hc : c ≤ 2) (x : Int64) :
    ∃ m : Nat, m ≤ 2 ∧ (F10 x sz sp I S).1.toNatClampNeg = ((own_home x).toNatClampNeg + m) % 16 ∧ (0 ≤ (F10 x sz sp I S).1.toInt ∧ (F10 x sz sp I S).1.toInt < 16) ∧ (F10 x sz sp I S).2.toInt = sp.toInt + 4 - m ∧
      (∀ m', m' < m → own_nth S (((own_home x).toNatClampNeg + m') % 16) ≠ -1 ∧ own_nthJ I (own_nth S (((own_home x).toNatClampNeg + m') % 16)).toNatClampNeg ≠ x) ∧
      (own_nth S (((own_home x).toNatClampNeg + m) % 16) = -1 ∨ own_nthJ I (own_nth S (((own_home x).toNatClampNeg + m) % 16)).toNatClampNeg = x) := by
  have hsp := h.2.1
  have a := c_ladd sp 4; have r := rng64 (sp + 4); have e4 : (4 : Int64).toInt = 4 := by decide
  obtain ⟨m, i1, i2, i3, i4, i5, i6⟩ := own_look x sz sp I S 16 (own_home x) (sp + 4) (h.sinv x) (by omega) (by omega)
  refine ⟨m, h.few _ m fun m' hm => (i5 m' hm).1, i2, i3, ?_, i5, i6⟩
  show (f10_33 16 x sz sp I S (sp + 4) (own_home x)).2.toInt = _
  rw [i4]; omega
/-- what indexOf asks -/
def TI (sz : Int32) (sp : Int64) (I : List Int64) (S : List Int32) (x : Int64) : Prop :=
  (0 ≤ sz.toInt ∧ sz.toInt ≤ 2) ∧ 0 ≤ sp.toInt ∧ I.length = 8 ∧ SVal S ∧ SInv 16 (own_home x) S ∧ (0 ≤ (F10 x sz sp I S).1.toInt ∧ (F10 x sz sp I S).1.toInt < 16)
theorem ST.ti {c : Nat} {sz : Int32} {sp : Int64} {I : List Int64} {S : List Int32} (h : ST c sz sp I S) (hc : c ≤ 2) (x : Int64) : TI sz sp I S x := by
  obtain ⟨m, -, -, i3, -⟩ := h.look hc x
  refine ⟨⟨h.1.1, by have := h.1.2; omega⟩, h.2.1.1, h.2.2.1, ⟨h.2.2.2.1, fun j hj => ?_⟩, h.sinv x, i3⟩
  rcases h.2.2.2.2.1 j hj with q | q
  · exact Or.inl q
  · exact Or.inr ⟨q.1, by have := h.1.2; omega⟩
section Asks
variable {sz : Int32} {sp : Int64} {I : List Int64} {S : List Int32} {x : Int64} (h : TI sz sp I S x)
theorem TI.nonneg (h : TI sz sp I S x) : ¬ (lcmpW sp (0 : Int64)) < (0 : Int32) := by
  rw [lw_lt, Int64.lt_iff_toInt_lt]; have e : (0 : Int64).toInt = 0 := by decide
  have := h.2.1; omega
theorem TI.not8 (h : TI sz sp I S x) : ¬ sz = (8 : Int32) := fun q => by have := h.1; rw [q, own_e8] at this; omega
theorem TI.valid (h : TI sz sp I S x) : SVal S := h.2.2.2.1
theorem TI.sinv (h : TI sz sp I S x) : SInv 16 (own_home x) S := h.2.2.2.2.1
theorem TI.slot (h : TI sz sp I S x) : ¬ (F10 x sz sp I S).1 < 0 ∧ (F10 x sz sp I S).1 < (16 : Int32) := by
  rw [Int32.lt_iff_toInt_lt, Int32.lt_iff_toInt_lt, own_e0, own_e16]; have := h.2.2.2.2.2; omega
theorem TI.slotlen (h : TI sz sp I S x) : (F10 x sz sp I S).1.toNatClampNeg < S.length := by
  have := h.2.2.2.2.2; rw [h.2.2.2.1.1, Int32.toNatClampNeg]; omega
theorem TI.szin (h : TI sz sp I S x) : ¬ sz < 0 ∧ sz < (8 : Int32) := by
  rw [Int32.lt_iff_toInt_lt, Int32.lt_iff_toInt_lt, own_e0, own_e8]; have := h.1; omega
theorem TI.szlen (h : TI sz sp I S x) : sz.toNatClampNeg < I.length := by
  have := h.1; rw [h.2.2.1, Int32.toNatClampNeg]; omega
end Asks
/-- an id that is there -/
theorem ST.there {c : Nat} {sz : Int32} {sp : Int64} {I : List Int64} {S : List Int32} (h : ST c sz sp I S) (c' : Nat) (ec : c' = c + 1) (hc : c ≤ 2) (x : Int64) (hx : ∃ t : Nat, (t : Int) < sz.toInt ∧ own_nthJ I t = x) :
    (F9 x sz sp I S).1 = sz ∧ (F9 x sz sp I S).2.2.1 = I ∧ ST c' (F9 x sz sp I S).1 (F9 x sz sp I S).2.1 (F9 x sz sp I S).2.2.1 (F9 x sz sp I S).2.2.2 := by
  obtain ⟨m, i1, i2, i3, i4, i5, i6⟩ := h.look hc x
  have ne : ¬ own_at S (F10 x sz sp I S).1 = (-1 : Int32) := by
    show ¬ own_nth S (F10 x sz sp I S).1.toNatClampNeg = -1
    rw [i2]
    intro em
    obtain ⟨t, ht, rfl⟩ := hx
    obtain ⟨mt, q1, q2⟩ := h.2.2.2.2.2.2 t ht
    by_cases c1 : m < mt
    · exact q2 m c1 em
    · by_cases c2 : m = mt
      · subst c2; rw [em, own_em] at q1; omega
      · have := (i5 mt (by omega)).2
        apply this
        have : (own_nth S (((own_home (own_nthJ I t)).toNatClampNeg + mt) % 16)).toNatClampNeg = t := by rw [Int32.toNatClampNeg]; omega
        rw [this]
  have e : F9 x sz sp I S = (sz, (F10 x sz sp I S).2, I, S) := by simp only [F9, f9_0]; rw [if_neg ne]
  rw [e]
  refine ⟨rfl, rfl, ?_⟩
  subst ec
  show ST (c + 1) sz (F10 x sz sp I S).2 I S
  obtain ⟨a1, a2, a3, a4, a5, ⟨p, q, a6⟩, a7⟩ := h
  refine ⟨⟨a1.1, by omega⟩, ⟨by rw [i4]; omega, by rw [i4]; omega⟩, a3, a4, a5, ⟨p, q, fun j hj hn => by have := a6 j hj hn; omega⟩, a7⟩
/-- an id that isn't -/
theorem ST.new {c : Nat} {sz : Int32} {sp : Int64} {I : List Int64} {S : List Int32} (h : ST c sz sp I S) (c' : Nat) (ec : c' = c + 1) (hc : c ≤ 2) (x : Int64) (hx : ∀ t : Nat, (t : Int) < sz.toInt → own_nthJ I t ≠ x) :
    (F9 x sz sp I S).1 = sz + (1 : Int32) ∧ (F9 x sz sp I S).2.2.1 = own_setJ I sz x ∧ (c ≤ 1 → ST c' (F9 x sz sp I S).1 (F9 x sz sp I S).2.1 (F9 x sz sp I S).2.2.1 (F9 x sz sp I S).2.2.2) := by
  obtain ⟨m, i1, i2, i3, i4, i5, i6⟩ := h.look hc x
  have hz := h.1
  have em : own_nth S (((own_home x).toNatClampNeg + m) % 16) = -1 := by
    rcases i6 with q | q
    · exact q
    · rcases h.2.2.2.2.1 (((own_home x).toNatClampNeg + m) % 16) (Nat.mod_lt _ (by decide)) with r | r
      · exact r
      · exact absurd q (hx _ (by rw [Int32.toNatClampNeg]; omega))
  have yes : own_at S (F10 x sz sp I S).1 = (-1 : Int32) := by
    show own_nth S (F10 x sz sp I S).1.toNatClampNeg = -1
    rw [i2]; exact em
  have e : F9 x sz sp I S = ((sz + (1 : Int32)), (F10 x sz sp I S).2, (own_setJ I sz x), (own_set S (F10 x sz sp I S).1 sz)) := by simp only [F9, f9_0]; rw [if_pos yes]
  rw [e]
  refine ⟨rfl, rfl, fun hc1 => ?_⟩
  subst ec
  show ST (c + 1) (sz + (1 : Int32)) (F10 x sz sp I S).2 (own_setJ I sz x) (own_set S (F10 x sz sp I S).1 sz)
  obtain ⟨a1, a2, a3, a4, a5, ⟨p, q, a6⟩, a7⟩ := h
  have b := c_iadd sz 1; have r := rng32 (sz + 1); rw [own_e1] at b
  have szn : sz.toNatClampNeg = sz.toInt.toNat := by rw [Int32.toNatClampNeg]
  have nthS : ∀ j, j < 16 → own_nth (own_set S (F10 x sz sp I S).1 sz) j = if ((own_home x).toNatClampNeg + m) % 16 = j then sz else own_nth S j := fun j hj => by
    rw [own_nth_set _ _ _ _ (by omega), i2]
  have nthI : ∀ t : Nat, (t : Int) < sz.toInt → own_nthJ (own_setJ I sz x) t = own_nthJ I t := fun t ht => by
    rw [own_nthJ_set _ _ _ _ (by omega), if_neg (by omega)]
  have nthX : own_nthJ (own_setJ I sz x) sz.toNatClampNeg = x := by rw [own_nthJ_set _ _ _ _ (by omega), if_pos rfl]
  have lt16 : ∀ H m : Nat, (H + m) % 16 < 16 := fun H m => Nat.mod_lt _ (by decide)
  have nem : ∀ z : Int32, 0 ≤ z.toInt → z ≠ -1 := fun z hz q => by rw [q, own_em] at hz; omega
  refine ⟨⟨by omega, by omega⟩, ⟨by rw [i4]; omega, by rw [i4]; omega⟩, by rw [own_setJ, List.length_set]; exact a3, by rw [own_set, List.length_set]; exact a4, fun j hj => ?_, ?_, fun t ht => ?_⟩
  · rw [nthS j hj]
    split
    · exact Or.inr ⟨hz.1, by omega⟩
    · rcases a5 j hj with q | q
      · exact Or.inl q
      · exact Or.inr ⟨q.1, by omega⟩
  · by_cases c0 : c = 0
    · refine ⟨((own_home x).toNatClampNeg + m) % 16, 0, fun j hj hn => Or.inl ⟨by omega, ?_⟩⟩
      rw [nthS j hj] at hn
      by_cases qq : ((own_home x).toNatClampNeg + m) % 16 = j
      · exact qq.symm
      · rw [if_neg qq] at hn; have := a6 j hj hn; omega
    · refine ⟨p, ((own_home x).toNatClampNeg + m) % 16, fun j hj hn => ?_⟩
      rw [nthS j hj] at hn
      by_cases qq : ((own_home x).toNatClampNeg + m) % 16 = j
      · exact Or.inr ⟨by omega, qq.symm⟩
      · rw [if_neg qq] at hn; have := a6 j hj hn; exact Or.inl ⟨by omega, by omega⟩
  · by_cases c0 : (t : Int) < sz.toInt
    · obtain ⟨mt, q1, q2⟩ := a7 t c0
      rw [nthI t c0]
      refine ⟨mt, ?_, fun m' hm => ?_⟩
      · rw [nthS _ (lt16 _ _), if_neg]
        · exact q1
        · intro z; rw [← z, em, own_em] at q1; omega
      · rw [nthS _ (lt16 _ _)]
        split
        · exact nem _ hz.1
        · exact q2 m' hm
    · have tz : t = sz.toNatClampNeg := by omega
      rw [tz, nthX]
      refine ⟨m, ?_, fun m' hm => ?_⟩
      · rw [nthS _ (lt16 _ _), if_pos rfl]; omega
      · rw [nthS _ (lt16 _ _)]
        split
        · exact nem _ hz.1
        · exact (i5 m' hm).1
/-! the three ids of the law -/
theorem own_st0 : ST 0 (0 : Int32) (0 : Int64) own_I0 own_S0 := by
  refine ⟨⟨by decide, by decide⟩, ⟨by decide, by decide⟩, rfl, rfl, fun j hj => Or.inl ?_, ⟨0, 0, fun j hj hn => absurd ?_ hn⟩, fun t ht => ?_⟩
  · have : ∀ j : Fin 16, own_nth own_S0 j.val = -1 := by decide
    exact this ⟨j, hj⟩
  · have : ∀ j : Fin 16, own_nth own_S0 j.val = -1 := by decide
    exact this ⟨j, hj⟩
  · rw [own_e0] at ht; omega
theorem own_T1 {x : Int64} : TI (0 : Int32) (0 : Int64) own_I0 own_S0 x := own_st0.ti (by decide) x
abbrev T4 : Type := Int32 × Int64 × List Int64 × List Int32
theorem own_a1 (x0 : Int64) : (F9 x0 (0 : Int32) (0 : Int64) own_I0 own_S0).1 = (0 : Int32) + (1 : Int32) ∧ (F9 x0 (0 : Int32) (0 : Int64) own_I0 own_S0).2.2.1 = own_setJ own_I0 (0 : Int32) x0 ∧ ((0 : Nat) ≤ 1 → ST 1 (F9 x0 (0 : Int32) (0 : Int64) own_I0 own_S0).1 (F9 x0 (0 : Int32) (0 : Int64) own_I0 own_S0).2.1 (F9 x0 (0 : Int32) (0 : Int64) own_I0 own_S0).2.2.1 (F9 x0 (0 : Int32) (0 : Int64) own_I0 own_S0).2.2.2) :=
  ST.new own_st0 1 (by decide) (Nat.zero_le 2) x0 (fun t ht => absurd ht (by rw [own_e0]; omega))
theorem own_a {x0 : Int64} {r : T4} (hr : F9 x0 (0 : Int32) (0 : Int64) own_I0 own_S0 = r) : r.1.toInt = 1 ∧ own_nthJ r.2.2.1 0 = x0 ∧ r.2.2.1.length = 8 ∧ ST 1 r.1 r.2.1 r.2.2.1 r.2.2.2 := by
  have h := own_a1 x0
  rw [hr] at h
  clear hr
  have hl : own_I0.length = 8 := by decide
  have e : (0 : Int32).toNatClampNeg = 0 := by decide
  obtain ⟨h1, h2, h3⟩ := h
  refine ⟨?_, ?_, ?_, h3 (Nat.zero_le 1)⟩
  · rw [h1]; decide
  · rw [h2, own_nthJ_set _ _ _ _ (by rw [hl]; decide), if_pos e]
  · rw [h2, own_setJ, List.length_set]; exact hl
theorem own_T2 {x0 : Int64} {r : T4} (hr : F9 x0 (0 : Int32) (0 : Int64) own_I0 own_S0 = r) {x : Int64} : TI r.1 r.2.1 r.2.2.1 r.2.2.2 x := (own_a hr).2.2.2.ti (by decide) x
theorem own_b {x0 x1 : Int64} {r r2 : T4} (hr : F9 x0 (0 : Int32) (0 : Int64) own_I0 own_S0 = r) (hr2 : F9 x1 r.1 r.2.1 r.2.2.1 r.2.2.2 = r2) : ST 2 r2.1 r2.2.1 r2.2.2.1 r2.2.2.2 ∧ own_nthJ r2.2.2.1 0 = x0 ∧
    ((x1 = x0 ∧ r2.1.toInt = 1) ∨ (x1 ≠ x0 ∧ r2.1.toInt = 2 ∧ own_nthJ r2.2.2.1 1 = x1)) := by
  obtain ⟨a1, a2, a3, a4⟩ := own_a hr
  by_cases q : x1 = x0
  · have t := a4.there 2 (by decide) (by decide) x1 ⟨0, by omega, by rw [a2, q]⟩
    rw [hr2] at t
    obtain ⟨h1, h2, h3⟩ := t
    exact ⟨h3, by rw [h2]; exact a2, Or.inl ⟨q, by rw [h1]; exact a1⟩⟩
  · have t := a4.new 2 (by decide) (by decide) x1 (fun t ht => by
      have : t = 0 := by omega
      subst this; rw [a2]; exact fun z => q z.symm)
    rw [hr2] at t
    obtain ⟨h1, h2, h3⟩ := t
    have b := c_iadd r.1 1; have rg := rng32 (r.1 + 1); rw [own_e1] at b
    have n1 : r.1.toNatClampNeg = 1 := by rw [Int32.toNatClampNeg]; omega
    refine ⟨h3 (by decide), by rw [h2, own_nthJ_set _ _ _ _ (by omega), if_neg (by omega)]; exact a2, Or.inr ⟨q, by rw [h1]; omega, by rw [h2, own_nthJ_set _ _ _ _ (by omega), if_pos n1]⟩⟩
theorem own_T3 {x0 x1 : Int64} {r r2 : T4} (hr : F9 x0 (0 : Int32) (0 : Int64) own_I0 own_S0 = r) (hr2 : F9 x1 r.1 r.2.1 r.2.2.1 r.2.2.2 = r2) {x : Int64} : TI r2.1 r2.2.1 r2.2.2.1 r2.2.2.2 x := (own_b hr hr2).1.ti (by decide) x
/-- the law's array and the table's ids: the same count, the same ids -/
def ER3 (n : Int32) (el : List Int64) (r : T4) : Prop :=
  (1 ≤ n.toInt ∧ n.toInt ≤ 3) ∧ r.1 = n ∧ ∀ i : Nat, (i : Int) < n.toInt → own_nthJ r.2.2.1 i = own_nthJ el i
def ER2 (a b c : Int64) (n : Int32) (el : List Int64) : Prop :=
  ∀ r1 r2 r3 : T4, F9 a (0 : Int32) (0 : Int64) own_I0 own_S0 = r1 → F9 b r1.1 r1.2.1 r1.2.2.1 r1.2.2.2 = r2 → F9 c r2.1 r2.2.1 r2.2.2.1 r2.2.2.2 = r3 → ER3 n el r3
theorem own_idx {i : Nat} {k : Int} (h : (i : Int) < k) (hk : k = 1 ∨ k = 2 ∨ k = 3) : i = 0 ∨ (i = 1 ∧ 2 ≤ k) ∨ (i = 2 ∧ 3 ≤ k) := by omega
theorem ER2.s0 {a b c : Int64} {n : Int32} {el : List Int64} (h : ER1 a b n el) (q : c = a) : ER2 a b c n el := by
  intro r1 r2 r3 g1 g2 g3
  obtain ⟨h1, h2, h3⟩ := own_b g1 g2
  have t := h1.there 3 (by decide) (by decide) c ⟨0, by omega, by rw [h2, q]⟩
  rw [g3] at t
  obtain ⟨i1, i2, -⟩ := t
  obtain ⟨e0, e1⟩ := h
  refine ⟨by omega, ?_, fun i hi => ?_⟩
  · rw [i1]; apply Int32.toInt_inj.mp; rcases h3 with h3 | h3 <;> rcases e1 with e1 | e1 <;> first | omega | (exact absurd h3.1 e1.1) | (exact absurd e1.1 h3.1)
  · rw [i2]
    rcases own_idx hi (by omega) with rfl | ⟨rfl, r⟩ | ⟨rfl, r⟩
    · rw [h2]; rcases e1 with e1 | e1 <;> simp [e1]
    · rcases h3 with h3 | h3 <;> rcases e1 with e1 | e1 <;> first | omega | (rw [h3.2.2, e1.2.2.2]) | (exact absurd h3.1 e1.1) | (exact absurd e1.1 h3.1)
    · omega
theorem ER2.s1 {a b c : Int64} {n : Int32} {el : List Int64} (h : ER1 a b n el) (q : ¬ c = a) (q' : c = b) : ER2 a b c n el := by
  intro r1 r2 r3 g1 g2 g3
  obtain ⟨h1, h2, h3⟩ := own_b g1 g2
  have ba : b ≠ a := fun z => q (q'.trans z)
  obtain ⟨-, h4, h5⟩ : b ≠ a ∧ r2.1.toInt = 2 ∧ own_nthJ r2.2.2.1 1 = b := by
    rcases h3 with h3 | h3
    · exact absurd h3.1 ba
    · exact h3
  have t := h1.there 3 (by decide) (by decide) c ⟨1, by omega, by rw [h5, q']⟩
  rw [g3] at t
  obtain ⟨i1, i2, -⟩ := t
  obtain ⟨e0, e1⟩ := h
  obtain ⟨-, e2, e3, e4⟩ : b ≠ a ∧ n.toInt = 2 ∧ own_nthJ el 0 = a ∧ own_nthJ el 1 = b := by
    rcases e1 with e1 | e1
    · exact absurd e1.1 ba
    · exact e1
  refine ⟨by omega, ?_, fun i hi => ?_⟩
  · rw [i1]; apply Int32.toInt_inj.mp; omega
  · rw [i2]
    rcases own_idx hi (by omega) with rfl | ⟨rfl, r⟩ | ⟨rfl, r⟩
    · rw [h2, e3]
    · rw [h5, e4]
    · omega
theorem ER2.new {a b c : Int64} {n : Int32} {el : List Int64} (h : ER1 a b n el) (q : ¬ c = a) (q' : ¬ c = b) : ER2 a b c (n + (1 : Int32)) (own_setJ el n c) := by
  intro r1 r2 r3 g1 g2 g3
  obtain ⟨h1, h2, h3⟩ := own_b g1 g2
  have bz : r2.1 = n := by
    apply Int32.toInt_inj.mp
    obtain ⟨e0, e1⟩ := h
    rcases h3 with h3 | h3 <;> rcases e1 with e1 | e1 <;> first | omega | (exact absurd h3.1 e1.1) | (exact absurd e1.1 h3.1)
  have t := h1.new 3 (by decide) (by decide) c (fun t ht => by
    rcases h3 with h3 | h3
    · have : t = 0 := by omega
      subst this; rw [h2]; exact fun z => q z.symm
    · have : t = 0 ∨ t = 1 := by omega
      rcases this with rfl | rfl
      · rw [h2]; exact fun z => q z.symm
      · rw [h3.2.2]; exact fun z => q' z.symm)
  rw [g3] at t
  obtain ⟨i1, i2, -⟩ := t
  have hl := h1.2.2.1
  obtain ⟨e0, e1⟩ := h
  have hn : n.toInt = 1 ∨ n.toInt = 2 := by omega
  have s := c_iadd n 1; have r := rng32 (n + 1); rw [own_e1] at s
  have nn : n.toNatClampNeg = n.toInt.toNat := by rw [Int32.toNatClampNeg]
  refine ⟨by omega, ?_, fun i hi => ?_⟩
  · rw [i1, bz]
  · rw [i2, bz, own_nthJ_set _ _ _ _ (by omega), own_nthJ_set _ _ _ _ (by omega)]
    by_cases z : n.toNatClampNeg = i
    · rw [if_pos z, if_pos z]
    · rw [if_neg z, if_neg z]
      rcases own_idx hi (by omega) with rfl | ⟨rfl, r1⟩ | ⟨rfl, r1⟩
      · rw [h2]; rcases e1 with e1 | e1 <;> simp [e1]
      · rcases h3 with h3 | h3 <;> rcases e1 with e1 | e1 <;> first | omega | (rw [h3.2.2, e1.2.2.2]) | (exact absurd h3.1 e1.1) | (exact absurd e1.1 h3.1)
      · omega
theorem own_cp_at (I : List Int64) (n : Int32) (i : Nat) (h : i < n.toNatClampNeg) : own_nthJ (own_cp I n) i = own_nthJ I i := by
  simp only [own_nthJ, own_cp, List.getD_eq_getElem?_getD]
  rw [List.getElem?_append_left (by simpa using h)]
  simp [List.getElem?_map, List.getElem?_range h]
theorem own_cp_len (I : List Int64) (n : Int32) (h : n.toNatClampNeg ≤ 3) : (own_cp I n).length = 3 := by
  simp only [own_cp, List.length_append, List.length_map, List.length_range, List.length_drop]
  show _ + (3 - _) = 3
  omega
section Reads
variable {r : T4} {n : Int32} {el : List Int64}
theorem ER3.len (h : ER3 n el r) : r.1 = n := h.2.1
theorem ER3.nn (h : ER3 n el r) : own_n r.1 := by rw [h.2.1]; exact ⟨by have := h.1; omega, by have := h.1; omega⟩
theorem own_inI {k : Int} {z j : Int32} (hj : j.toInt = k) (h0 : 0 ≤ k) (h : k < z.toInt) : ¬ j < 0 ∧ j < z := by
  rw [Int32.lt_iff_toInt_lt, Int32.lt_iff_toInt_lt, own_e0]; omega
theorem ER3.r0 (h : ER3 n el r) : ¬ (0 : Int32) < 0 ∧ (0 : Int32) < r.1 := by
  rw [h.2.1]; exact own_inI (k := 0) (by decide) (by omega) (by have := h.1; omega)
theorem ER3.r1 (h : ER3 n el r) (q : ¬ n < (2 : Int32)) : ¬ (1 : Int32) < 0 ∧ (1 : Int32) < r.1 := by
  have e2 : (2 : Int32).toInt = 2 := by decide
  rw [Int32.lt_iff_toInt_lt] at q
  rw [h.2.1]; exact own_inI (k := 1) (by decide) (by omega) (by omega)
theorem ER3.r2 (h : ER3 n el r) (q : ¬ n < (3 : Int32)) : ¬ (2 : Int32) < 0 ∧ (2 : Int32) < r.1 := by
  have e3 : (3 : Int32).toInt = 3 := by decide
  rw [Int32.lt_iff_toInt_lt] at q
  rw [h.2.1]; exact own_inI (k := 2) (by decide) (by omega) (by omega)
theorem ER3.at (h : ER3 n el r) (j : Int32) (i : Nat) (hj : j.toNatClampNeg = i) (q : (i : Int) < n.toInt) : own_atJ (own_cp r.2.2.1 r.1) j = own_atJ el j := by
  show own_nthJ _ j.toNatClampNeg = own_nthJ _ j.toNatClampNeg
  rw [hj, own_cp_at _ _ _ (by rw [h.2.1, Int32.toNatClampNeg]; omega), h.2.2 i q]
theorem ER3.e0 (h : ER3 n el r) : own_atJ (own_cp r.2.2.1 r.1) (0 : Int32) = own_atJ el (0 : Int32) := h.at 0 0 (by decide) (by have := h.1; omega)
theorem ER3.e1 (h : ER3 n el r) (q : ¬ n < (2 : Int32)) : own_atJ (own_cp r.2.2.1 r.1) (1 : Int32) = own_atJ el (1 : Int32) := by
  have e2 : (2 : Int32).toInt = 2 := by decide
  rw [Int32.lt_iff_toInt_lt] at q
  exact h.at 1 1 (by decide) (by omega)
theorem ER3.e2 (h : ER3 n el r) (q : ¬ n < (3 : Int32)) : own_atJ (own_cp r.2.2.1 r.1) (2 : Int32) = own_atJ el (2 : Int32) := by
  have e3 : (3 : Int32).toInt = 3 := by decide
  rw [Int32.lt_iff_toInt_lt] at q
  exact h.at 2 2 (by decide) (by omega)
theorem ER3.rl (h : ER3 n el r) : (0 : Int32).toNatClampNeg < (own_cp r.2.2.1 r.1).length := by
  rw [own_cp_len _ _ (own_ccap h.nn)]; decide
end Reads
theorem law_true (x0 x1 x2 : Int64) (x3 : Int32) : F0 x0 x1 x2 x3 = 1 := by
  have h : ∀ a b c d e f g i, f0_136 a b c d e f g i = 1 := fun a b c d e f g i => by
    simp only [f0_136]; repeat' split
    all_goals rfl
  simp only [F0, f0_0, f0_39, f0_72, f0_110, h]
  repeat' split
  all_goals rfl

theorem pd_0 : parseMethodDescriptor "()V" = some ⟨[], none⟩ := by decide +kernel
theorem pd_1 : parseMethodDescriptor "(I)V" = some ⟨[.int], none⟩ := by decide +kernel
theorem pd_2 : parseMethodDescriptor "([II)V" = some ⟨[(.array .int), .int], none⟩ := by decide +kernel
theorem pd_3 : parseMethodDescriptor "(I)I" = some ⟨[.int], some .int⟩ := by decide +kernel
theorem pd_4 : parseMethodDescriptor "()[J" = some ⟨[], some (.array .long)⟩ := by decide +kernel
theorem pd_5 : parseMethodDescriptor "([JI)[J" = some ⟨[(.array .long), .int], some (.array .long)⟩ := by decide +kernel
theorem pd_6 : parseMethodDescriptor "(II)I" = some ⟨[.int, .int], some .int⟩ := by decide +kernel
theorem pd_7 : parseMethodDescriptor "(Ljava/lang/Object;ILjava/lang/Object;II)V" = some ⟨[(.object "java/lang/Object"), .int, (.object "java/lang/Object"), .int, .int], none⟩ := by decide +kernel
theorem pd_8 : parseMethodDescriptor "(J)I" = some ⟨[.long], some .int⟩ := by decide +kernel
theorem pd_9 : parseMethodDescriptor "(J)J" = some ⟨[.long], some .long⟩ := by decide +kernel
theorem d5_0 : decode jdk_33_method_48_code 0 = .ok (.iload_n 0, 1) := by decide +kernel
theorem d5_1 : decode jdk_33_method_48_code 1 = .ok (.iconst (-1), 1) := by decide +kernel
theorem d5_2 : decode jdk_33_method_48_code 2 = .ok (.ixor, 1) := by decide +kernel
theorem d5_3 : decode jdk_33_method_48_code 3 = .ok (.iload_n 0, 1) := by decide +kernel
theorem d5_4 : decode jdk_33_method_48_code 4 = .ok (.iconst 1, 1) := by decide +kernel
theorem d5_5 : decode jdk_33_method_48_code 5 = .ok (.isub, 1) := by decide +kernel
theorem d5_6 : decode jdk_33_method_48_code 6 = .ok (.iand, 1) := by decide +kernel
theorem d5_7 : decode jdk_33_method_48_code 7 = .ok (.istore_n 0, 1) := by decide +kernel
theorem d5_8 : decode jdk_33_method_48_code 8 = .ok (.iload_n 0, 1) := by decide +kernel
theorem d5_9 : decode jdk_33_method_48_code 9 = .ok (.ifCond .gt 8, 3) := by decide +kernel
theorem d5_12 : decode jdk_33_method_48_code 12 = .ok (.iload_n 0, 1) := by decide +kernel
theorem d5_13 : decode jdk_33_method_48_code 13 = .ok (.bipush 32, 2) := by decide +kernel
theorem d5_15 : decode jdk_33_method_48_code 15 = .ok (.iand, 1) := by decide +kernel
theorem d5_16 : decode jdk_33_method_48_code 16 = .ok (.ireturn, 1) := by decide +kernel
theorem d5_17 : decode jdk_33_method_48_code 17 = .ok (.iconst 1, 1) := by decide +kernel
theorem d5_18 : decode jdk_33_method_48_code 18 = .ok (.istore_n 1, 1) := by decide +kernel
theorem d5_19 : decode jdk_33_method_48_code 19 = .ok (.iload_n 0, 1) := by decide +kernel
theorem d5_20 : decode jdk_33_method_48_code 20 = .ok (.ldc_w 264, 3) := by decide +kernel
theorem d5_23 : decode jdk_33_method_48_code 23 = .ok (.if_icmp .le 11, 3) := by decide +kernel
theorem d5_26 : decode jdk_33_method_48_code 26 = .ok (.iinc 1 16, 3) := by decide +kernel
theorem d5_29 : decode jdk_33_method_48_code 29 = .ok (.iload_n 0, 1) := by decide +kernel
theorem d5_30 : decode jdk_33_method_48_code 30 = .ok (.bipush 16, 2) := by decide +kernel
theorem d5_32 : decode jdk_33_method_48_code 32 = .ok (.iushr, 1) := by decide +kernel
theorem d5_33 : decode jdk_33_method_48_code 33 = .ok (.istore_n 0, 1) := by decide +kernel
theorem d5_34 : decode jdk_33_method_48_code 34 = .ok (.iload_n 0, 1) := by decide +kernel
theorem d5_35 : decode jdk_33_method_48_code 35 = .ok (.sipush 256, 3) := by decide +kernel
theorem d5_38 : decode jdk_33_method_48_code 38 = .ok (.if_icmp .le 11, 3) := by decide +kernel
theorem d5_41 : decode jdk_33_method_48_code 41 = .ok (.iinc 1 8, 3) := by decide +kernel
theorem d5_44 : decode jdk_33_method_48_code 44 = .ok (.iload_n 0, 1) := by decide +kernel
theorem d5_45 : decode jdk_33_method_48_code 45 = .ok (.bipush 8, 2) := by decide +kernel
theorem d5_47 : decode jdk_33_method_48_code 47 = .ok (.iushr, 1) := by decide +kernel
theorem d5_48 : decode jdk_33_method_48_code 48 = .ok (.istore_n 0, 1) := by decide +kernel
theorem d5_49 : decode jdk_33_method_48_code 49 = .ok (.iload_n 0, 1) := by decide +kernel
theorem d5_50 : decode jdk_33_method_48_code 50 = .ok (.bipush 16, 2) := by decide +kernel
theorem d5_52 : decode jdk_33_method_48_code 52 = .ok (.if_icmp .le 10, 3) := by decide +kernel
theorem d5_55 : decode jdk_33_method_48_code 55 = .ok (.iinc 1 4, 3) := by decide +kernel
theorem d5_58 : decode jdk_33_method_48_code 58 = .ok (.iload_n 0, 1) := by decide +kernel
theorem d5_59 : decode jdk_33_method_48_code 59 = .ok (.iconst 4, 1) := by decide +kernel
theorem d5_60 : decode jdk_33_method_48_code 60 = .ok (.iushr, 1) := by decide +kernel
theorem d5_61 : decode jdk_33_method_48_code 61 = .ok (.istore_n 0, 1) := by decide +kernel
theorem d5_62 : decode jdk_33_method_48_code 62 = .ok (.iload_n 0, 1) := by decide +kernel
theorem d5_63 : decode jdk_33_method_48_code 63 = .ok (.iconst 4, 1) := by decide +kernel
theorem d5_64 : decode jdk_33_method_48_code 64 = .ok (.if_icmp .le 10, 3) := by decide +kernel
theorem d5_67 : decode jdk_33_method_48_code 67 = .ok (.iinc 1 2, 3) := by decide +kernel
theorem d5_70 : decode jdk_33_method_48_code 70 = .ok (.iload_n 0, 1) := by decide +kernel
theorem d5_71 : decode jdk_33_method_48_code 71 = .ok (.iconst 2, 1) := by decide +kernel
theorem d5_72 : decode jdk_33_method_48_code 72 = .ok (.iushr, 1) := by decide +kernel
theorem d5_73 : decode jdk_33_method_48_code 73 = .ok (.istore_n 0, 1) := by decide +kernel
theorem d5_74 : decode jdk_33_method_48_code 74 = .ok (.iload_n 1, 1) := by decide +kernel
theorem d5_75 : decode jdk_33_method_48_code 75 = .ok (.iload_n 0, 1) := by decide +kernel
theorem d5_76 : decode jdk_33_method_48_code 76 = .ok (.iconst 1, 1) := by decide +kernel
theorem d5_77 : decode jdk_33_method_48_code 77 = .ok (.iushr, 1) := by decide +kernel
theorem d5_78 : decode jdk_33_method_48_code 78 = .ok (.iadd, 1) := by decide +kernel
theorem d5_79 : decode jdk_33_method_48_code 79 = .ok (.ireturn, 1) := by decide +kernel
theorem pn_5 : plainName "java/lang/Integer" = true := by first | (simp [plainName, overriddenIn]; done) | decide +kernel
theorem ef_5 (m : MethodId) (x0 : Int32) : entryFrame m #[(.int x0)] 2 = mkF m 0 #[.val (.int x0), .unset] [] := by first | (simp [entryFrame, mkF, argsToLocals, Value.category]; done) | rfl
set_option maxRecDepth 65536 in
set_option maxHeartbeats 40000000 in
theorem rm5 (l : Launch) (Z : State) (a0 : Array Value) (hw : ∀ d ∈ tables_1, d.before a0 Z = true) (ws : List Jvm.Cond) (x0 : Int32) (h0 : Heap) :
    MetFree l (⟨"java/lang/Integer", "numberOfTrailingZeros", "(I)I"⟩ : MethodName) (head1 (Jvm.Cond.code (⟨"java/lang/Integer", "numberOfTrailingZeros", "(I)I"⟩ : MethodName) jdk_33_method_48_code 2 (some .int) :: ws) ({ frames := 0, cells := 0, slots := 0, locals := 0 } : Room)) (fun a U => a = #[(.int x0)] ∧ Z.Warmed39 U.vm ∧ U.heap = h0) (fun _ _ _ _ _ => True) (fun _ U o U' => ∃ v L, o = .returned v ∧ QP (.int (F5 x0)) h0 v U'.heap L ∧ FrameEnd U o U' L ({ frames := 0, cells := 0, slots := 0, locals := 0 } : Room).cells ({ frames := 0, cells := 0, slots := 0, locals := 0 } : Room).slots) := by
  refine MetFree.of_bodySF (plainFor_of_name pn_5) hisR ?_
  intro p e s m args below meth c s₁ Bd hml0 hP hK
  obtain ⟨rfl, hZ, hh⟩ := hP
  have hx := Bd.exec
  have hby := Bd.bytes
  have hml : c.maxLocals = 2 := hml0
  have hown : s.vm.findClass "java/lang/Integer" = some m.cls := findClass_of_methodNamed Bd.named
  have X0 : Stand p l e ({ frames := 0, cells := 0, slots := 0, locals := 0 } : Room) s m #[(.int x0)] below meth c s₁ [] 0 0 := Stand.of_body Bd
  have e0 : s₁.heap = h0 := by rw [← hh, Bd.state]; rfl
  show Runs p e below s (QP (.int (F5 x0)) h0) ({ frames := 0, cells := 0, slots := 0, locals := 0 } : Room).cells ({ frames := 0, cells := 0, slots := 0, locals := 0 } : Room).slots (s₁.setTop (entryFrame m #[(.int x0)] 2))
  rw [ef_5 m x0]
  obtain ⟨r, hF⟩ : ∃ r, F5 x0 = r := ⟨_, rfl⟩
  rw [hF]
  have k_74 : ∀ (T : State) (X : Stand p l e ({ frames := 0, cells := 0, slots := 0, locals := 0 } : Room) s m #[(.int x0)] below meth c T [] 0 0) (eT : T.heap = h0) (v0 : Int32) (v1 : Int32), f5_74 v0 v1 = r → Runs p e below s (QP (.int r) h0) ({ frames := 0, cells := 0, slots := 0, locals := 0 } : Room).cells ({ frames := 0, cells := 0, slots := 0, locals := 0 } : Room).slots (T.setTop (mkF m 74 #[.val (.int v0), .val (.int v1)] [])) := by
    intro T X eT v0 v1 hv
    unfold f5_74 at hv
    refine Runs.go (fun _ => XS.iloadN X.here hx rfl (hb hby d5_74) rfl) ?_
    show Runs p e below s _ _ _ (T.setTop (mkF m 75 #[.val (.int v0), .val (.int v1)] [(.int v1)]))
    refine Runs.go (fun _ => XS.iloadN X.here hx rfl (hb hby d5_75) rfl) ?_
    show Runs p e below s _ _ _ (T.setTop (mkF m 76 #[.val (.int v0), .val (.int v1)] [(.int v0), (.int v1)]))
    refine Runs.go (fun _ => XS.iconst X.here hx rfl (hb hby d5_76)) ?_
    show Runs p e below s _ _ _ (T.setTop (mkF m 77 #[.val (.int v0), .val (.int v1)] [(.int (1 : Int32)), (.int v0), (.int v1)]))
    refine Runs.go (fun _ => XS.iushr X.here hx rfl (hb hby d5_77) rfl) ?_
    show Runs p e below s _ _ _ (T.setTop (mkF m 78 #[.val (.int v0), .val (.int v1)] [(.int ((v0.toUInt32 >>> ((1 : Int32) &&& 31).toUInt32).toInt32)), (.int v1)]))
    refine Runs.go (fun _ => XS.iadd X.here hx rfl (hb hby d5_78) rfl) ?_
    show Runs p e below s _ _ _ (T.setTop (mkF m 79 #[.val (.int v0), .val (.int v1)] [(.int (v1 + ((v0.toUInt32 >>> ((1 : Int32) &&& 31).toUInt32).toInt32)))]))
    exact Runs.endI X hx Bd.returns Bd.notSynchronized (hb hby d5_79) ⟨congrArg (fun z => some (Value.int z)) hv, rfl, eT⟩ (by decide) (by decide)
  have k_62 : ∀ (T : State) (X : Stand p l e ({ frames := 0, cells := 0, slots := 0, locals := 0 } : Room) s m #[(.int x0)] below meth c T [] 0 0) (eT : T.heap = h0) (v0 : Int32) (v1 : Int32), f5_62 v0 v1 = r → Runs p e below s (QP (.int r) h0) ({ frames := 0, cells := 0, slots := 0, locals := 0 } : Room).cells ({ frames := 0, cells := 0, slots := 0, locals := 0 } : Room).slots (T.setTop (mkF m 62 #[.val (.int v0), .val (.int v1)] [])) := by
    intro T X eT v0 v1 hv
    unfold f5_62 at hv
    refine Runs.go (fun _ => XS.iloadN X.here hx rfl (hb hby d5_62) rfl) ?_
    show Runs p e below s _ _ _ (T.setTop (mkF m 63 #[.val (.int v0), .val (.int v1)] [(.int v0)]))
    refine Runs.go (fun _ => XS.iconst X.here hx rfl (hb hby d5_63)) ?_
    show Runs p e below s _ _ _ (T.setTop (mkF m 64 #[.val (.int v0), .val (.int v1)] [(.int (4 : Int32)), (.int v0)]))
    by_cases hc64 : (4 : Int32) < v0
    · have hv := (if_pos hc64).symm.trans hv
      refine Runs.go (fun _ => XS.icmpNo X.here hx rfl (hb hby d5_64) rfl (tlt hc64).2.2.2) ?_
      show Runs p e below s _ _ _ (T.setTop (mkF m 67 #[.val (.int v0), .val (.int v1)] []))
      refine Runs.go (fun _ => XS.iinc X.here hx rfl (hb hby d5_67) rfl (l' := #[.val (.int v0), .val (.int (v1 + (2 : Int32)))]) rfl) ?_
      show Runs p e below s _ _ _ (T.setTop (mkF m 70 #[.val (.int v0), .val (.int (v1 + (2 : Int32)))] []))
      refine Runs.go (fun _ => XS.iloadN X.here hx rfl (hb hby d5_70) rfl) ?_
      show Runs p e below s _ _ _ (T.setTop (mkF m 71 #[.val (.int v0), .val (.int (v1 + (2 : Int32)))] [(.int v0)]))
      refine Runs.go (fun _ => XS.iconst X.here hx rfl (hb hby d5_71)) ?_
      show Runs p e below s _ _ _ (T.setTop (mkF m 72 #[.val (.int v0), .val (.int (v1 + (2 : Int32)))] [(.int (2 : Int32)), (.int v0)]))
      refine Runs.go (fun _ => XS.iushr X.here hx rfl (hb hby d5_72) rfl) ?_
      show Runs p e below s _ _ _ (T.setTop (mkF m 73 #[.val (.int v0), .val (.int (v1 + (2 : Int32)))] [(.int ((v0.toUInt32 >>> ((2 : Int32) &&& 31).toUInt32).toInt32))]))
      refine Runs.go (fun _ => XS.istoreN X.here hx rfl (hb hby d5_73) rfl (l' := #[.val (.int ((v0.toUInt32 >>> ((2 : Int32) &&& 31).toUInt32).toInt32)), .val (.int (v1 + (2 : Int32)))]) rfl) ?_
      show Runs p e below s _ _ _ (T.setTop (mkF m 74 #[.val (.int ((v0.toUInt32 >>> ((2 : Int32) &&& 31).toUInt32).toInt32)), .val (.int (v1 + (2 : Int32)))] []))
      exact k_74 _ X eT ((v0.toUInt32 >>> ((2 : Int32) &&& 31).toUInt32).toInt32) (v1 + (2 : Int32)) hv
    · have hv := (if_neg hc64).symm.trans hv
      refine Runs.go (fun _ => XS.icmpYes X.here hx rfl (pc0 := 64) (pc' := 74) rfl (hb hby d5_64) rfl (flt hc64).2.2.2 (by decide) (by decide)) ?_
      show Runs p e below s _ _ _ (T.setTop (mkF m 74 #[.val (.int v0), .val (.int v1)] []))
      exact k_74 _ X eT v0 v1 hv
  have k_49 : ∀ (T : State) (X : Stand p l e ({ frames := 0, cells := 0, slots := 0, locals := 0 } : Room) s m #[(.int x0)] below meth c T [] 0 0) (eT : T.heap = h0) (v0 : Int32) (v1 : Int32), f5_49 v0 v1 = r → Runs p e below s (QP (.int r) h0) ({ frames := 0, cells := 0, slots := 0, locals := 0 } : Room).cells ({ frames := 0, cells := 0, slots := 0, locals := 0 } : Room).slots (T.setTop (mkF m 49 #[.val (.int v0), .val (.int v1)] [])) := by
    intro T X eT v0 v1 hv
    unfold f5_49 at hv
    refine Runs.go (fun _ => XS.iloadN X.here hx rfl (hb hby d5_49) rfl) ?_
    show Runs p e below s _ _ _ (T.setTop (mkF m 50 #[.val (.int v0), .val (.int v1)] [(.int v0)]))
    refine Runs.go (fun _ => XS.bipush X.here hx rfl (hb hby d5_50)) ?_
    show Runs p e below s _ _ _ (T.setTop (mkF m 52 #[.val (.int v0), .val (.int v1)] [(.int (16 : Int32)), (.int v0)]))
    by_cases hc52 : (16 : Int32) < v0
    · have hv := (if_pos hc52).symm.trans hv
      refine Runs.go (fun _ => XS.icmpNo X.here hx rfl (hb hby d5_52) rfl (tlt hc52).2.2.2) ?_
      show Runs p e below s _ _ _ (T.setTop (mkF m 55 #[.val (.int v0), .val (.int v1)] []))
      refine Runs.go (fun _ => XS.iinc X.here hx rfl (hb hby d5_55) rfl (l' := #[.val (.int v0), .val (.int (v1 + (4 : Int32)))]) rfl) ?_
      show Runs p e below s _ _ _ (T.setTop (mkF m 58 #[.val (.int v0), .val (.int (v1 + (4 : Int32)))] []))
      refine Runs.go (fun _ => XS.iloadN X.here hx rfl (hb hby d5_58) rfl) ?_
      show Runs p e below s _ _ _ (T.setTop (mkF m 59 #[.val (.int v0), .val (.int (v1 + (4 : Int32)))] [(.int v0)]))
      refine Runs.go (fun _ => XS.iconst X.here hx rfl (hb hby d5_59)) ?_
      show Runs p e below s _ _ _ (T.setTop (mkF m 60 #[.val (.int v0), .val (.int (v1 + (4 : Int32)))] [(.int (4 : Int32)), (.int v0)]))
      refine Runs.go (fun _ => XS.iushr X.here hx rfl (hb hby d5_60) rfl) ?_
      show Runs p e below s _ _ _ (T.setTop (mkF m 61 #[.val (.int v0), .val (.int (v1 + (4 : Int32)))] [(.int ((v0.toUInt32 >>> ((4 : Int32) &&& 31).toUInt32).toInt32))]))
      refine Runs.go (fun _ => XS.istoreN X.here hx rfl (hb hby d5_61) rfl (l' := #[.val (.int ((v0.toUInt32 >>> ((4 : Int32) &&& 31).toUInt32).toInt32)), .val (.int (v1 + (4 : Int32)))]) rfl) ?_
      show Runs p e below s _ _ _ (T.setTop (mkF m 62 #[.val (.int ((v0.toUInt32 >>> ((4 : Int32) &&& 31).toUInt32).toInt32)), .val (.int (v1 + (4 : Int32)))] []))
      exact k_62 _ X eT ((v0.toUInt32 >>> ((4 : Int32) &&& 31).toUInt32).toInt32) (v1 + (4 : Int32)) hv
    · have hv := (if_neg hc52).symm.trans hv
      refine Runs.go (fun _ => XS.icmpYes X.here hx rfl (pc0 := 52) (pc' := 62) rfl (hb hby d5_52) rfl (flt hc52).2.2.2 (by decide) (by decide)) ?_
      show Runs p e below s _ _ _ (T.setTop (mkF m 62 #[.val (.int v0), .val (.int v1)] []))
      exact k_62 _ X eT v0 v1 hv
  have k_34 : ∀ (T : State) (X : Stand p l e ({ frames := 0, cells := 0, slots := 0, locals := 0 } : Room) s m #[(.int x0)] below meth c T [] 0 0) (eT : T.heap = h0) (v0 : Int32) (v1 : Int32), f5_34 v0 v1 = r → Runs p e below s (QP (.int r) h0) ({ frames := 0, cells := 0, slots := 0, locals := 0 } : Room).cells ({ frames := 0, cells := 0, slots := 0, locals := 0 } : Room).slots (T.setTop (mkF m 34 #[.val (.int v0), .val (.int v1)] [])) := by
    intro T X eT v0 v1 hv
    unfold f5_34 at hv
    refine Runs.go (fun _ => XS.iloadN X.here hx rfl (hb hby d5_34) rfl) ?_
    show Runs p e below s _ _ _ (T.setTop (mkF m 35 #[.val (.int v0), .val (.int v1)] [(.int v0)]))
    refine Runs.go (fun _ => XS.sipush X.here hx rfl (hb hby d5_35)) ?_
    show Runs p e below s _ _ _ (T.setTop (mkF m 38 #[.val (.int v0), .val (.int v1)] [(.int (256 : Int32)), (.int v0)]))
    by_cases hc38 : (256 : Int32) < v0
    · have hv := (if_pos hc38).symm.trans hv
      refine Runs.go (fun _ => XS.icmpNo X.here hx rfl (hb hby d5_38) rfl (tlt hc38).2.2.2) ?_
      show Runs p e below s _ _ _ (T.setTop (mkF m 41 #[.val (.int v0), .val (.int v1)] []))
      refine Runs.go (fun _ => XS.iinc X.here hx rfl (hb hby d5_41) rfl (l' := #[.val (.int v0), .val (.int (v1 + (8 : Int32)))]) rfl) ?_
      show Runs p e below s _ _ _ (T.setTop (mkF m 44 #[.val (.int v0), .val (.int (v1 + (8 : Int32)))] []))
      refine Runs.go (fun _ => XS.iloadN X.here hx rfl (hb hby d5_44) rfl) ?_
      show Runs p e below s _ _ _ (T.setTop (mkF m 45 #[.val (.int v0), .val (.int (v1 + (8 : Int32)))] [(.int v0)]))
      refine Runs.go (fun _ => XS.bipush X.here hx rfl (hb hby d5_45)) ?_
      show Runs p e below s _ _ _ (T.setTop (mkF m 47 #[.val (.int v0), .val (.int (v1 + (8 : Int32)))] [(.int (8 : Int32)), (.int v0)]))
      refine Runs.go (fun _ => XS.iushr X.here hx rfl (hb hby d5_47) rfl) ?_
      show Runs p e below s _ _ _ (T.setTop (mkF m 48 #[.val (.int v0), .val (.int (v1 + (8 : Int32)))] [(.int ((v0.toUInt32 >>> ((8 : Int32) &&& 31).toUInt32).toInt32))]))
      refine Runs.go (fun _ => XS.istoreN X.here hx rfl (hb hby d5_48) rfl (l' := #[.val (.int ((v0.toUInt32 >>> ((8 : Int32) &&& 31).toUInt32).toInt32)), .val (.int (v1 + (8 : Int32)))]) rfl) ?_
      show Runs p e below s _ _ _ (T.setTop (mkF m 49 #[.val (.int ((v0.toUInt32 >>> ((8 : Int32) &&& 31).toUInt32).toInt32)), .val (.int (v1 + (8 : Int32)))] []))
      exact k_49 _ X eT ((v0.toUInt32 >>> ((8 : Int32) &&& 31).toUInt32).toInt32) (v1 + (8 : Int32)) hv
    · have hv := (if_neg hc38).symm.trans hv
      refine Runs.go (fun _ => XS.icmpYes X.here hx rfl (pc0 := 38) (pc' := 49) rfl (hb hby d5_38) rfl (flt hc38).2.2.2 (by decide) (by decide)) ?_
      show Runs p e below s _ _ _ (T.setTop (mkF m 49 #[.val (.int v0), .val (.int v1)] []))
      exact k_49 _ X eT v0 v1 hv
  have k_0 : ∀ (T : State) (X : Stand p l e ({ frames := 0, cells := 0, slots := 0, locals := 0 } : Room) s m #[(.int x0)] below meth c T [] 0 0) (eT : T.heap = h0), f5_0 x0 = r → Runs p e below s (QP (.int r) h0) ({ frames := 0, cells := 0, slots := 0, locals := 0 } : Room).cells ({ frames := 0, cells := 0, slots := 0, locals := 0 } : Room).slots (T.setTop (mkF m 0 #[.val (.int x0), .unset] [])) := by
    intro T X eT  hv
    unfold f5_0 at hv
    refine Runs.go (fun _ => XS.iloadN X.here hx rfl (hb hby d5_0) rfl) ?_
    show Runs p e below s _ _ _ (T.setTop (mkF m 1 #[.val (.int x0), .unset] [(.int x0)]))
    refine Runs.go (fun _ => XS.iconst X.here hx rfl (hb hby d5_1)) ?_
    show Runs p e below s _ _ _ (T.setTop (mkF m 2 #[.val (.int x0), .unset] [(.int (-1 : Int32)), (.int x0)]))
    refine Runs.go (fun _ => XS.ixor X.here hx rfl (hb hby d5_2) rfl) ?_
    show Runs p e below s _ _ _ (T.setTop (mkF m 3 #[.val (.int x0), .unset] [(.int (x0 ^^^ (-1 : Int32)))]))
    refine Runs.go (fun _ => XS.iloadN X.here hx rfl (hb hby d5_3) rfl) ?_
    show Runs p e below s _ _ _ (T.setTop (mkF m 4 #[.val (.int x0), .unset] [(.int x0), (.int (x0 ^^^ (-1 : Int32)))]))
    refine Runs.go (fun _ => XS.iconst X.here hx rfl (hb hby d5_4)) ?_
    show Runs p e below s _ _ _ (T.setTop (mkF m 5 #[.val (.int x0), .unset] [(.int (1 : Int32)), (.int x0), (.int (x0 ^^^ (-1 : Int32)))]))
    refine Runs.go (fun _ => XS.isub X.here hx rfl (hb hby d5_5) rfl) ?_
    show Runs p e below s _ _ _ (T.setTop (mkF m 6 #[.val (.int x0), .unset] [(.int (x0 - (1 : Int32))), (.int (x0 ^^^ (-1 : Int32)))]))
    refine Runs.go (fun _ => XS.iand X.here hx rfl (hb hby d5_6) rfl) ?_
    show Runs p e below s _ _ _ (T.setTop (mkF m 7 #[.val (.int x0), .unset] [(.int ((x0 ^^^ (-1 : Int32)) &&& (x0 - (1 : Int32))))]))
    refine Runs.go (fun _ => XS.istoreN X.here hx rfl (hb hby d5_7) rfl (l' := #[.val (.int ((x0 ^^^ (-1 : Int32)) &&& (x0 - (1 : Int32)))), .unset]) rfl) ?_
    show Runs p e below s _ _ _ (T.setTop (mkF m 8 #[.val (.int ((x0 ^^^ (-1 : Int32)) &&& (x0 - (1 : Int32)))), .unset] []))
    refine Runs.go (fun _ => XS.iloadN X.here hx rfl (hb hby d5_8) rfl) ?_
    show Runs p e below s _ _ _ (T.setTop (mkF m 9 #[.val (.int ((x0 ^^^ (-1 : Int32)) &&& (x0 - (1 : Int32)))), .unset] [(.int ((x0 ^^^ (-1 : Int32)) &&& (x0 - (1 : Int32))))]))
    by_cases hc9 : (0 : Int32) < ((x0 ^^^ (-1 : Int32)) &&& (x0 - (1 : Int32)))
    · have hv := (if_pos hc9).symm.trans hv
      refine Runs.go (fun _ => XS.ifYes X.here hx rfl (pc0 := 9) (pc' := 17) rfl (hb hby d5_9) rfl ((if0 _ _).trans (tlt hc9).2.2.1) (by decide) (by decide)) ?_
      show Runs p e below s _ _ _ (T.setTop (mkF m 17 #[.val (.int ((x0 ^^^ (-1 : Int32)) &&& (x0 - (1 : Int32)))), .unset] []))
      refine Runs.go (fun _ => XS.iconst X.here hx rfl (hb hby d5_17)) ?_
      show Runs p e below s _ _ _ (T.setTop (mkF m 18 #[.val (.int ((x0 ^^^ (-1 : Int32)) &&& (x0 - (1 : Int32)))), .unset] [(.int (1 : Int32))]))
      refine Runs.go (fun _ => XS.istoreN X.here hx rfl (hb hby d5_18) rfl (l' := #[.val (.int ((x0 ^^^ (-1 : Int32)) &&& (x0 - (1 : Int32)))), .val (.int (1 : Int32))]) rfl) ?_
      show Runs p e below s _ _ _ (T.setTop (mkF m 19 #[.val (.int ((x0 ^^^ (-1 : Int32)) &&& (x0 - (1 : Int32)))), .val (.int (1 : Int32))] []))
      refine Runs.go (fun _ => XS.iloadN X.here hx rfl (hb hby d5_19) rfl) ?_
      show Runs p e below s _ _ _ (T.setTop (mkF m 20 #[.val (.int ((x0 ^^^ (-1 : Int32)) &&& (x0 - (1 : Int32)))), .val (.int (1 : Int32))] [(.int ((x0 ^^^ (-1 : Int32)) &&& (x0 - (1 : Int32))))]))
      refine Runs.go (X.ldcwInt hx hown (mvT hZ (hw _ (List.mem_of_getElem? (i := 27) rfl))) (g := (mkF m 20 #[.val (.int ((x0 ^^^ (-1 : Int32)) &&& (x0 - (1 : Int32)))), .val (.int (1 : Int32))] [(.int ((x0 ^^^ (-1 : Int32)) &&& (x0 - (1 : Int32))))])) rfl (hb hby d5_20)) ?_
      show Runs p e below s _ _ _ (T.setTop (mkF m 23 #[.val (.int ((x0 ^^^ (-1 : Int32)) &&& (x0 - (1 : Int32)))), .val (.int (1 : Int32))] [(.int (65536 : Int32)), (.int ((x0 ^^^ (-1 : Int32)) &&& (x0 - (1 : Int32))))]))
      by_cases hc23 : (65536 : Int32) < ((x0 ^^^ (-1 : Int32)) &&& (x0 - (1 : Int32)))
      · have hv := (if_pos hc23).symm.trans hv
        refine Runs.go (fun _ => XS.icmpNo X.here hx rfl (hb hby d5_23) rfl (tlt hc23).2.2.2) ?_
        show Runs p e below s _ _ _ (T.setTop (mkF m 26 #[.val (.int ((x0 ^^^ (-1 : Int32)) &&& (x0 - (1 : Int32)))), .val (.int (1 : Int32))] []))
        refine Runs.go (fun _ => XS.iinc X.here hx rfl (hb hby d5_26) rfl (l' := #[.val (.int ((x0 ^^^ (-1 : Int32)) &&& (x0 - (1 : Int32)))), .val (.int ((1 : Int32) + (16 : Int32)))]) rfl) ?_
        show Runs p e below s _ _ _ (T.setTop (mkF m 29 #[.val (.int ((x0 ^^^ (-1 : Int32)) &&& (x0 - (1 : Int32)))), .val (.int ((1 : Int32) + (16 : Int32)))] []))
        refine Runs.go (fun _ => XS.iloadN X.here hx rfl (hb hby d5_29) rfl) ?_
        show Runs p e below s _ _ _ (T.setTop (mkF m 30 #[.val (.int ((x0 ^^^ (-1 : Int32)) &&& (x0 - (1 : Int32)))), .val (.int ((1 : Int32) + (16 : Int32)))] [(.int ((x0 ^^^ (-1 : Int32)) &&& (x0 - (1 : Int32))))]))
        refine Runs.go (fun _ => XS.bipush X.here hx rfl (hb hby d5_30)) ?_
        show Runs p e below s _ _ _ (T.setTop (mkF m 32 #[.val (.int ((x0 ^^^ (-1 : Int32)) &&& (x0 - (1 : Int32)))), .val (.int ((1 : Int32) + (16 : Int32)))] [(.int (16 : Int32)), (.int ((x0 ^^^ (-1 : Int32)) &&& (x0 - (1 : Int32))))]))
        refine Runs.go (fun _ => XS.iushr X.here hx rfl (hb hby d5_32) rfl) ?_
        show Runs p e below s _ _ _ (T.setTop (mkF m 33 #[.val (.int ((x0 ^^^ (-1 : Int32)) &&& (x0 - (1 : Int32)))), .val (.int ((1 : Int32) + (16 : Int32)))] [(.int ((((x0 ^^^ (-1 : Int32)) &&& (x0 - (1 : Int32))).toUInt32 >>> ((16 : Int32) &&& 31).toUInt32).toInt32))]))
        refine Runs.go (fun _ => XS.istoreN X.here hx rfl (hb hby d5_33) rfl (l' := #[.val (.int ((((x0 ^^^ (-1 : Int32)) &&& (x0 - (1 : Int32))).toUInt32 >>> ((16 : Int32) &&& 31).toUInt32).toInt32)), .val (.int ((1 : Int32) + (16 : Int32)))]) rfl) ?_
        show Runs p e below s _ _ _ (T.setTop (mkF m 34 #[.val (.int ((((x0 ^^^ (-1 : Int32)) &&& (x0 - (1 : Int32))).toUInt32 >>> ((16 : Int32) &&& 31).toUInt32).toInt32)), .val (.int ((1 : Int32) + (16 : Int32)))] []))
        exact k_34 _ X eT ((((x0 ^^^ (-1 : Int32)) &&& (x0 - (1 : Int32))).toUInt32 >>> ((16 : Int32) &&& 31).toUInt32).toInt32) ((1 : Int32) + (16 : Int32)) hv
      · have hv := (if_neg hc23).symm.trans hv
        refine Runs.go (fun _ => XS.icmpYes X.here hx rfl (pc0 := 23) (pc' := 34) rfl (hb hby d5_23) rfl (flt hc23).2.2.2 (by decide) (by decide)) ?_
        show Runs p e below s _ _ _ (T.setTop (mkF m 34 #[.val (.int ((x0 ^^^ (-1 : Int32)) &&& (x0 - (1 : Int32)))), .val (.int (1 : Int32))] []))
        exact k_34 _ X eT ((x0 ^^^ (-1 : Int32)) &&& (x0 - (1 : Int32))) (1 : Int32) hv
    · have hv := (if_neg hc9).symm.trans hv
      refine Runs.go (fun _ => XS.ifNo X.here hx rfl (hb hby d5_9) rfl ((if0 _ _).trans (flt hc9).2.2.1)) ?_
      show Runs p e below s _ _ _ (T.setTop (mkF m 12 #[.val (.int ((x0 ^^^ (-1 : Int32)) &&& (x0 - (1 : Int32)))), .unset] []))
      refine Runs.go (fun _ => XS.iloadN X.here hx rfl (hb hby d5_12) rfl) ?_
      show Runs p e below s _ _ _ (T.setTop (mkF m 13 #[.val (.int ((x0 ^^^ (-1 : Int32)) &&& (x0 - (1 : Int32)))), .unset] [(.int ((x0 ^^^ (-1 : Int32)) &&& (x0 - (1 : Int32))))]))
      refine Runs.go (fun _ => XS.bipush X.here hx rfl (hb hby d5_13)) ?_
      show Runs p e below s _ _ _ (T.setTop (mkF m 15 #[.val (.int ((x0 ^^^ (-1 : Int32)) &&& (x0 - (1 : Int32)))), .unset] [(.int (32 : Int32)), (.int ((x0 ^^^ (-1 : Int32)) &&& (x0 - (1 : Int32))))]))
      refine Runs.go (fun _ => XS.iand X.here hx rfl (hb hby d5_15) rfl) ?_
      show Runs p e below s _ _ _ (T.setTop (mkF m 16 #[.val (.int ((x0 ^^^ (-1 : Int32)) &&& (x0 - (1 : Int32)))), .unset] [(.int (((x0 ^^^ (-1 : Int32)) &&& (x0 - (1 : Int32))) &&& (32 : Int32)))]))
      exact Runs.endI X hx Bd.returns Bd.notSynchronized (hb hby d5_16) ⟨congrArg (fun z => some (Value.int z)) hv, rfl, eT⟩ (by decide) (by decide)
  exact k_0 _ X0 e0 hF
theorem d8_0 : decode jdk_29_method_69_code 0 = .ok (.iload_n 0, 1) := by decide +kernel
theorem d8_1 : decode jdk_29_method_69_code 1 = .ok (.iload_n 1, 1) := by decide +kernel
theorem d8_2 : decode jdk_29_method_69_code 2 = .ok (.if_icmp .gt 7, 3) := by decide +kernel
theorem d8_5 : decode jdk_29_method_69_code 5 = .ok (.iload_n 0, 1) := by decide +kernel
theorem d8_6 : decode jdk_29_method_69_code 6 = .ok (.goto 4, 3) := by decide +kernel
theorem d8_9 : decode jdk_29_method_69_code 9 = .ok (.iload_n 1, 1) := by decide +kernel
theorem d8_10 : decode jdk_29_method_69_code 10 = .ok (.ireturn, 1) := by decide +kernel
theorem ef_8 (m : MethodId) (x0 : Int32) (x1 : Int32) : entryFrame m #[(.int x0), (.int x1)] 2 = mkF m 0 #[.val (.int x0), .val (.int x1)] [] := by first | (simp [entryFrame, mkF, argsToLocals, Value.category]; done) | rfl
set_option maxRecDepth 65536 in
set_option maxHeartbeats 40000000 in
theorem rm8 (l : Launch) (Z : State) (a0 : Array Value) (hw : ∀ d ∈ tables_1, d.before a0 Z = true) (ws : List Jvm.Cond) (x0 : Int32) (x1 : Int32) (h0 : Heap) :
    MetFree l (⟨"java/lang/Math", "min", "(II)I"⟩ : MethodName) (head1 (Jvm.Cond.code (⟨"java/lang/Math", "min", "(II)I"⟩ : MethodName) jdk_29_method_69_code 2 (some .int) :: ws) ({ frames := 0, cells := 0, slots := 0, locals := 0 } : Room)) (fun a U => a = #[(.int x0), (.int x1)] ∧ Z.Warmed39 U.vm ∧ U.heap = h0) (fun _ _ _ _ _ => True) (fun _ U o U' => ∃ v L, o = .returned v ∧ QP (.int (F8 x0 x1)) h0 v U'.heap L ∧ FrameEnd U o U' L ({ frames := 0, cells := 0, slots := 0, locals := 0 } : Room).cells ({ frames := 0, cells := 0, slots := 0, locals := 0 } : Room).slots) := by
  refine MetFree.of_bodySF (Jvm.Free.JP.mathPlain rfl (by decide +kernel)) hisR ?_
  intro p e s m args below meth c s₁ Bd hml0 hP hK
  obtain ⟨rfl, hZ, hh⟩ := hP
  have hx := Bd.exec
  have hby := Bd.bytes
  have hml : c.maxLocals = 2 := hml0
  have hown : s.vm.findClass "java/lang/Math" = some m.cls := findClass_of_methodNamed Bd.named
  have X0 : Stand p l e ({ frames := 0, cells := 0, slots := 0, locals := 0 } : Room) s m #[(.int x0), (.int x1)] below meth c s₁ [] 0 0 := Stand.of_body Bd
  have e0 : s₁.heap = h0 := by rw [← hh, Bd.state]; rfl
  show Runs p e below s (QP (.int (F8 x0 x1)) h0) ({ frames := 0, cells := 0, slots := 0, locals := 0 } : Room).cells ({ frames := 0, cells := 0, slots := 0, locals := 0 } : Room).slots (s₁.setTop (entryFrame m #[(.int x0), (.int x1)] 2))
  rw [ef_8 m x0 x1]
  obtain ⟨r, hF⟩ : ∃ r, F8 x0 x1 = r := ⟨_, rfl⟩
  rw [hF]
  have k_0 : ∀ (T : State) (X : Stand p l e ({ frames := 0, cells := 0, slots := 0, locals := 0 } : Room) s m #[(.int x0), (.int x1)] below meth c T [] 0 0) (eT : T.heap = h0), f8_0 x0 x1 = r → Runs p e below s (QP (.int r) h0) ({ frames := 0, cells := 0, slots := 0, locals := 0 } : Room).cells ({ frames := 0, cells := 0, slots := 0, locals := 0 } : Room).slots (T.setTop (mkF m 0 #[.val (.int x0), .val (.int x1)] [])) := by
    intro T X eT  hv
    unfold f8_0 at hv
    refine Runs.go (fun _ => XS.iloadN X.here hx rfl (hb hby d8_0) rfl) ?_
    show Runs p e below s _ _ _ (T.setTop (mkF m 1 #[.val (.int x0), .val (.int x1)] [(.int x0)]))
    refine Runs.go (fun _ => XS.iloadN X.here hx rfl (hb hby d8_1) rfl) ?_
    show Runs p e below s _ _ _ (T.setTop (mkF m 2 #[.val (.int x0), .val (.int x1)] [(.int x1), (.int x0)]))
    by_cases hc2 : x1 < x0
    · have hv := (if_pos hc2).symm.trans hv
      refine Runs.go (fun _ => XS.icmpYes X.here hx rfl (pc0 := 2) (pc' := 9) rfl (hb hby d8_2) rfl (tlt hc2).2.2.1 (by decide) (by decide)) ?_
      show Runs p e below s _ _ _ (T.setTop (mkF m 9 #[.val (.int x0), .val (.int x1)] []))
      refine Runs.go (fun _ => XS.iloadN X.here hx rfl (hb hby d8_9) rfl) ?_
      show Runs p e below s _ _ _ (T.setTop (mkF m 10 #[.val (.int x0), .val (.int x1)] [(.int x1)]))
      exact Runs.endI X hx Bd.returns Bd.notSynchronized (hb hby d8_10) ⟨congrArg (fun z => some (Value.int z)) hv, rfl, eT⟩ (by decide) (by decide)
    · have hv := (if_neg hc2).symm.trans hv
      refine Runs.go (fun _ => XS.icmpNo X.here hx rfl (hb hby d8_2) rfl (flt hc2).2.2.1) ?_
      show Runs p e below s _ _ _ (T.setTop (mkF m 5 #[.val (.int x0), .val (.int x1)] []))
      refine Runs.go (fun _ => XS.iloadN X.here hx rfl (hb hby d8_5) rfl) ?_
      show Runs p e below s _ _ _ (T.setTop (mkF m 6 #[.val (.int x0), .val (.int x1)] [(.int x0)]))
      refine Runs.go (fun _ => XS.goto X.here hx rfl (pc0 := 6) (pc' := 10) rfl (hb hby d8_6) (by decide) (by decide)) ?_
      show Runs p e below s _ _ _ (T.setTop (mkF m 10 #[.val (.int x0), .val (.int x1)] [(.int x0)]))
      exact Runs.endI X hx Bd.returns Bd.notSynchronized (hb hby d8_10) ⟨congrArg (fun z => some (Value.int z)) hv, rfl, eT⟩ (by decide) (by decide)
  exact k_0 _ X0 e0 hF
theorem d4_0 : decode jdk_65_method_103_code 0 = .ok (.iconst 0, 1) := by decide +kernel
theorem d4_1 : decode jdk_65_method_103_code 1 = .ok (.istore_n 2, 1) := by decide +kernel
theorem d4_2 : decode jdk_65_method_103_code 2 = .ok (.aload_n 0, 1) := by decide +kernel
theorem d4_3 : decode jdk_65_method_103_code 3 = .ok (.arraylength, 1) := by decide +kernel
theorem d4_4 : decode jdk_65_method_103_code 4 = .ok (.istore_n 3, 1) := by decide +kernel
theorem d4_5 : decode jdk_65_method_103_code 5 = .ok (.iload_n 2, 1) := by decide +kernel
theorem d4_6 : decode jdk_65_method_103_code 6 = .ok (.iload_n 3, 1) := by decide +kernel
theorem d4_7 : decode jdk_65_method_103_code 7 = .ok (.if_icmp .ge 13, 3) := by decide +kernel
theorem d4_10 : decode jdk_65_method_103_code 10 = .ok (.aload_n 0, 1) := by decide +kernel
theorem d4_11 : decode jdk_65_method_103_code 11 = .ok (.iload_n 2, 1) := by decide +kernel
theorem d4_12 : decode jdk_65_method_103_code 12 = .ok (.iload_n 1, 1) := by decide +kernel
theorem d4_13 : decode jdk_65_method_103_code 13 = .ok (.iastore, 1) := by decide +kernel
theorem d4_14 : decode jdk_65_method_103_code 14 = .ok (.iinc 2 1, 3) := by decide +kernel
theorem d4_17 : decode jdk_65_method_103_code 17 = .ok (.goto (-12), 3) := by decide +kernel
theorem d4_20 : decode jdk_65_method_103_code 20 = .ok (.return_, 1) := by decide +kernel
theorem pn_4 : plainName "java/util/Arrays" = true := by first | (simp [plainName, overriddenIn]; done) | decide +kernel
theorem ef_4 (m : MethodId) (x0 : Addr) (x1 : Int32) : entryFrame m #[(.ref x0), (.int x1)] 4 = mkF m 0 #[.val (.ref x0), .val (.int x1), .unset, .unset] [] := by first | (simp [entryFrame, mkF, argsToLocals, Value.category]; done) | rfl
set_option maxRecDepth 65536 in
set_option maxHeartbeats 40000000 in
theorem rm4 (l : Launch) (Z : State) (a0 : Array Value) (hw : ∀ d ∈ tables_1, d.before a0 Z = true) (ws : List Jvm.Cond) (x0 : Addr) (x1 : Int32) (ls : List Int32) (kk : ClassId) (h0 : Heap) (n0 : Nat) (hn0 : n0 ≤ h0.size) (V0 : Arv Z h0 x0 kk .int (16 : Int32) (List.map Value.int ls) (.int (0 : Int32))) (ga : n0 ≤ x0) (hl : ls.length = 16) :
    MetFree l (⟨"java/util/Arrays", "fill", "([II)V"⟩ : MethodName) (head1 (Jvm.Cond.code (⟨"java/util/Arrays", "fill", "([II)V"⟩ : MethodName) jdk_65_method_103_code 4 none :: ws) ({ frames := 0, cells := 0, slots := 0, locals := 0 } : Room)) (fun a U => a = #[(.ref x0), (.int x1)] ∧ Z.Warmed39 U.vm ∧ U.heap = h0) (fun _ _ _ _ _ => True) (fun _ U o U' => ∃ v L, o = .returned v ∧ QF Z n0 x0 kk h0 (F4 x1 ls) v U'.heap L ∧ FrameEnd U o U' L ({ frames := 0, cells := 0, slots := 0, locals := 0 } : Room).cells ({ frames := 0, cells := 0, slots := 0, locals := 0 } : Room).slots) := by
  refine MetFree.of_bodySF (plainFor_of_name pn_4) hisR ?_
  intro p e s m args below meth c s₁ Bd hml0 hP hK
  obtain ⟨rfl, hZ, hh⟩ := hP
  have hx := Bd.exec
  have hby := Bd.bytes
  have hml : c.maxLocals = 4 := hml0
  have hown : s.vm.findClass "java/util/Arrays" = some m.cls := findClass_of_methodNamed Bd.named
  have hnm := (name_of_methodNamed Bd.named Bd.method).1
  have X0 : Stand p l e ({ frames := 0, cells := 0, slots := 0, locals := 0 } : Room) s m #[(.ref x0), (.int x1)] below meth c s₁ [] 0 0 := Stand.of_body Bd
  have e0 : s₁.heap = h0 := by rw [← hh, Bd.state]; rfl
  show Runs p e below s (QF Z n0 x0 kk h0 (F4 x1 ls)) ({ frames := 0, cells := 0, slots := 0, locals := 0 } : Room).cells ({ frames := 0, cells := 0, slots := 0, locals := 0 } : Room).slots (s₁.setTop (entryFrame m #[(.ref x0), (.int x1)] 4))
  rw [ef_4 m x0 x1]
  obtain ⟨r, hF⟩ : ∃ r, F4 x1 ls = r := ⟨_, rfl⟩
  rw [hF]
  have k_5 : ∀ (k : Nat) (T : State) (locs : List Loc) (h : Heap) (X : Stand p l e ({ frames := 0, cells := 0, slots := 0, locals := 0 } : Room) s m #[(.ref x0), (.int x1)] below meth c T locs 0 0) (eT : T.heap = h) (N : Fr n0 locs) (w_ls : List Int32) (v2 : Int32) (G_K : Keep h0 h [x0]) (G_V : Arv Z h x0 kk .int (16 : Int32) (List.map Value.int w_ls) (.int (0 : Int32))) (hI : FInv k v2 w_ls), f4_5 k x1 ls w_ls v2 = r → Runs p e below s (QF Z n0 x0 kk h0 r) ({ frames := 0, cells := 0, slots := 0, locals := 0 } : Room).cells ({ frames := 0, cells := 0, slots := 0, locals := 0 } : Room).slots (T.setTop (mkF m 5 #[.val (.ref x0), .val (.int x1), .val (.int v2), .val (.int (16 : Int32))] [])) := by
    intro k; induction k with
    | zero => intro T locs h X eT N w_ls v2 G_K G_V hI hv; exact absurd hI FInv.zero
    | succ k ih =>
      intro T locs h X eT N w_ls v2 G_K G_V hI hv
      unfold f4_5 at hv
      refine Runs.go (fun _ => XS.iloadN X.here hx rfl (hb hby d4_5) rfl) ?_
      show Runs p e below s _ _ _ (T.setTop (mkF m 6 #[.val (.ref x0), .val (.int x1), .val (.int v2), .val (.int (16 : Int32))] [(.int v2)]))
      refine Runs.go (fun _ => XS.iloadN X.here hx rfl (hb hby d4_6) rfl) ?_
      show Runs p e below s _ _ _ (T.setTop (mkF m 7 #[.val (.ref x0), .val (.int x1), .val (.int v2), .val (.int (16 : Int32))] [(.int (16 : Int32)), (.int v2)]))
      by_cases hc7 : v2 < (16 : Int32)
      · have hv := (if_pos hc7).symm.trans hv
        refine Runs.go (fun _ => XS.icmpNo X.here hx rfl (hb hby d4_7) rfl (tlt hc7).2.1) ?_
        show Runs p e below s _ _ _ (T.setTop (mkF m 10 #[.val (.ref x0), .val (.int x1), .val (.int v2), .val (.int (16 : Int32))] []))
        refine Runs.go (fun _ => XS.aloadN X.here hx rfl (hb hby d4_10) rfl rfl) ?_
        show Runs p e below s _ _ _ (T.setTop (mkF m 11 #[.val (.ref x0), .val (.int x1), .val (.int v2), .val (.int (16 : Int32))] [(.ref x0)]))
        refine Runs.go (fun _ => XS.iloadN X.here hx rfl (hb hby d4_11) rfl) ?_
        show Runs p e below s _ _ _ (T.setTop (mkF m 12 #[.val (.ref x0), .val (.int x1), .val (.int v2), .val (.int (16 : Int32))] [(.int v2), (.ref x0)]))
        refine Runs.go (fun _ => XS.iloadN X.here hx rfl (hb hby d4_12) rfl) ?_
        show Runs p e below s _ _ _ (T.setTop (mkF m 13 #[.val (.ref x0), .val (.int x1), .val (.int v2), .val (.int (16 : Int32))] [(.int x1), (.int v2), (.ref x0)]))
        have VCw13_2 := G_V
        obtain ⟨clw13_2, Arw13_2, qw13_2, Sw13_2, Mw13_2, Hw13_2, Gw13_2⟩ := VCw13_2
        have hinw13_2 : ¬ (v2 < 0 ∨ clw13_2.slots.size ≤ (v2).toNatClampNeg) := inb_of Sw13_2 ⟨hI.nn, hc7⟩
        obtain ⟨Tw13_2, hw13_2, Xw13_2, ew13_2, Ww13_2, stw13_2⟩ := stI X hx hZ eT Arw13_2 (j := v2) hinw13_2 (g := (mkF m 13 #[.val (.ref x0), .val (.int x1), .val (.int v2), .val (.int (16 : Int32))] [(.int x1), (.int v2), (.ref x0)])) rfl rfl (hb hby d4_13)
        refine Runs.go stw13_2 ?_
        have hnw13_2 : n0 ≤ hw13_2.size := by rw [Wr.size Ww13_2]; exact (Nat.le_trans ga (Nat.le_of_lt G_V.lt))
        have Kw13_2 : Keep h0 hw13_2 [x0] := G_K.wr Ww13_2 (Or.inl (List.mem_of_getElem? (i := 0) rfl))
        have Vw13_2 : Arv Z hw13_2 x0 kk .int (16 : Int32) (List.map Value.int (own_set w_ls v2 x1)) (.int (0 : Int32)) := by
          rw [own_set, List.map_set]; exact Arv.set Arw13_2 qw13_2 Sw13_2 Mw13_2 Hw13_2 Gw13_2 rfl Ww13_2 _ rfl (by rw [List.length_map]; exact (hI.len hc7))
        have Nw13_2 := Fr.snoc Xw13_2 N ga
        show Runs p e below s _ _ _ (Tw13_2.setTop (mkF m 14 #[.val (.ref x0), .val (.int x1), .val (.int v2), .val (.int (16 : Int32))] []))
        refine Runs.go (fun _ => XS.iinc Xw13_2.here hx rfl (hb hby d4_14) rfl (l' := #[.val (.ref x0), .val (.int x1), .val (.int (v2 + (1 : Int32))), .val (.int (16 : Int32))]) rfl) ?_
        show Runs p e below s _ _ _ (Tw13_2.setTop (mkF m 17 #[.val (.ref x0), .val (.int x1), .val (.int (v2 + (1 : Int32))), .val (.int (16 : Int32))] []))
        refine Runs.go (fun _ => XS.goto Xw13_2.here hx rfl (pc0 := 17) (pc' := 5) rfl (hb hby d4_17) (by decide) (by decide)) ?_
        show Runs p e below s _ _ _ (Tw13_2.setTop (mkF m 5 #[.val (.ref x0), .val (.int x1), .val (.int (v2 + (1 : Int32))), .val (.int (16 : Int32))] []))
        exact ih _ _ _ Xw13_2 ew13_2 Nw13_2 (own_set w_ls v2 x1) (v2 + (1 : Int32)) Kw13_2 Vw13_2 (FInv.step hI hc7 _) hv
      · have hv := (if_neg hc7).symm.trans hv
        refine Runs.go (fun _ => XS.icmpYes X.here hx rfl (pc0 := 7) (pc' := 20) rfl (hb hby d4_7) rfl (flt hc7).2.1 (by decide) (by decide)) ?_
        show Runs p e below s _ _ _ (T.setTop (mkF m 20 #[.val (.ref x0), .val (.int x1), .val (.int v2), .val (.int (16 : Int32))] []))
        subst hv
        exact Runs.endV X hx Bd.returns Bd.notSynchronized (hb hby d4_20) ⟨rfl, N, by rw [eT]; exact G_K, by rw [eT]; exact G_V⟩ (by decide) (by decide)
  have k_0 : ∀ (T : State) (X : Stand p l e ({ frames := 0, cells := 0, slots := 0, locals := 0 } : Room) s m #[(.ref x0), (.int x1)] below meth c T [] 0 0) (eT : T.heap = h0) (N : Fr n0 []), f4_0 x1 ls = r → Runs p e below s (QF Z n0 x0 kk h0 r) ({ frames := 0, cells := 0, slots := 0, locals := 0 } : Room).cells ({ frames := 0, cells := 0, slots := 0, locals := 0 } : Room).slots (T.setTop (mkF m 0 #[.val (.ref x0), .val (.int x1), .unset, .unset] [])) := by
    intro T X eT N  hv
    unfold f4_0 at hv
    refine Runs.go (fun _ => XS.iconst X.here hx rfl (hb hby d4_0)) ?_
    show Runs p e below s _ _ _ (T.setTop (mkF m 1 #[.val (.ref x0), .val (.int x1), .unset, .unset] [(.int (0 : Int32))]))
    refine Runs.go (fun _ => XS.istoreN X.here hx rfl (hb hby d4_1) rfl (l' := #[.val (.ref x0), .val (.int x1), .val (.int (0 : Int32)), .unset]) rfl) ?_
    show Runs p e below s _ _ _ (T.setTop (mkF m 2 #[.val (.ref x0), .val (.int x1), .val (.int (0 : Int32)), .unset] []))
    refine Runs.go (fun _ => XS.aloadN X.here hx rfl (hb hby d4_2) rfl rfl) ?_
    show Runs p e below s _ _ _ (T.setTop (mkF m 3 #[.val (.ref x0), .val (.int x1), .val (.int (0 : Int32)), .unset] [(.ref x0)]))
    have VCl3_1 := V0
    obtain ⟨cll3_1, Arl3_1, -, Sl3_1, Ml3_1, -, -⟩ := VCl3_1
    refine Runs.go (X.arraylength hx (by rw [eT]; exact Arl3_1.1) (State.isArrayOf_alike hZ.alike Arl3_1.2.1) (g := (mkF m 3 #[.val (.ref x0), .val (.int x1), .val (.int (0 : Int32)), .unset] [(.ref x0)])) rfl rfl (hb hby d4_3)) ?_
    rw [len_of Sl3_1 Ml3_1]
    show Runs p e below s _ _ _ (T.setTop (mkF m 4 #[.val (.ref x0), .val (.int x1), .val (.int (0 : Int32)), .unset] [(.int (16 : Int32))]))
    refine Runs.go (fun _ => XS.istoreN X.here hx rfl (hb hby d4_4) rfl (l' := #[.val (.ref x0), .val (.int x1), .val (.int (0 : Int32)), .val (.int (16 : Int32))]) rfl) ?_
    show Runs p e below s _ _ _ (T.setTop (mkF m 5 #[.val (.ref x0), .val (.int x1), .val (.int (0 : Int32)), .val (.int (16 : Int32))] []))
    exact k_5 17 _ _ _ X eT N ls (0 : Int32) (Keep.refl h0 [x0]) V0 (FInv.start hl) hv
  exact k_0 _ X0 e0 (Fr.nil n0) hF
theorem d3_0 : decode prog_8_method_8_code 0 = .ok (.aload_n 0, 1) := by decide +kernel
theorem d3_1 : decode prog_8_method_8_code 1 = .ok (.iload_n 1, 1) := by decide +kernel
theorem d3_2 : decode prog_8_method_8_code 2 = .ok (.newarray .int, 2) := by decide +kernel
theorem d3_4 : decode prog_8_method_8_code 4 = .ok (.putfield 43, 3) := by decide +kernel
theorem d3_7 : decode prog_8_method_8_code 7 = .ok (.aload_n 0, 1) := by decide +kernel
theorem d3_8 : decode prog_8_method_8_code 8 = .ok (.getfield 43, 3) := by decide +kernel
theorem d3_11 : decode prog_8_method_8_code 11 = .ok (.iconst (-1), 1) := by decide +kernel
theorem d3_12 : decode prog_8_method_8_code 12 = .ok (.invokestatic 85, 3) := by decide +kernel
theorem d3_15 : decode prog_8_method_8_code 15 = .ok (.aload_n 0, 1) := by decide +kernel
theorem d3_16 : decode prog_8_method_8_code 16 = .ok (.bipush 64, 2) := by decide +kernel
theorem d3_18 : decode prog_8_method_8_code 18 = .ok (.iload_n 1, 1) := by decide +kernel
theorem d3_19 : decode prog_8_method_8_code 19 = .ok (.invokestatic 89, 3) := by decide +kernel
theorem d3_22 : decode prog_8_method_8_code 22 = .ok (.isub, 1) := by decide +kernel
theorem d3_23 : decode prog_8_method_8_code 23 = .ok (.putfield 68, 3) := by decide +kernel
theorem d3_26 : decode prog_8_method_8_code 26 = .ok (.iconst 0, 1) := by decide +kernel
theorem d3_27 : decode prog_8_method_8_code 27 = .ok (.istore_n 2, 1) := by decide +kernel
theorem d3_28 : decode prog_8_method_8_code 28 = .ok (.iload_n 2, 1) := by decide +kernel
theorem d3_29 : decode prog_8_method_8_code 29 = .ok (.aload_n 0, 1) := by decide +kernel
theorem d3_30 : decode prog_8_method_8_code 30 = .ok (.getfield 51, 3) := by decide +kernel
theorem d3_33 : decode prog_8_method_8_code 33 = .ok (.if_icmp .ge 25, 3) := by decide +kernel
theorem d3_58 : decode prog_8_method_8_code 58 = .ok (.return_, 1) := by decide +kernel
theorem pn_3 : plainName "com/example/quillon/quillon/core/ElementIds" = true := by first | (simp [plainName, overriddenIn]; done) | decide +kernel
theorem ef_3 (m : MethodId) (x0 : Addr) : entryFrame m #[(.ref x0), (.int (16 : Int32))] 3 = mkF m 0 #[.val (.ref x0), .val (.int (16 : Int32)), .unset] [] := by first | (simp [entryFrame, mkF, argsToLocals, Value.category]; done) | rfl
set_option maxRecDepth 65536 in
set_option maxHeartbeats 40000000 in
theorem rm3 (l : Launch) (Z : State) (a0 : Array Value) (hw : ∀ d ∈ tables_1, d.before a0 Z = true) (ws : List Jvm.Cond) (x0 b1 : Addr) (k1 : ClassId) (I : List Int64) (h0 : Heap) (n0 : Nat) (hn0 : n0 ≤ h0.size) (E0 : Exa Z h0 x0 "com/example/quillon/quillon/core/ElementIds") (ga : n0 ≤ x0) (Fsz : Fld Z h0 x0 "com/example/quillon/quillon/core/ElementIds" "size" "I" (.int (0 : Int32))) (Fsp : Fld Z h0 x0 "com/example/quillon/quillon/core/ElementIds" "spareProbes" "J" (.long (0 : Int64))) (Fsh : Fld Z h0 x0 "com/example/quillon/quillon/core/ElementIds" "shift" "I" (.int (0 : Int32))) (Fk : Fld Z h0 x0 "com/example/quillon/quillon/core/ElementIds" "key" "[J" .null) (Fi : Fld Z h0 x0 "com/example/quillon/quillon/core/ElementIds" "ids" "[J" (.ref b1)) (Fs : Fld Z h0 x0 "com/example/quillon/quillon/core/ElementIds" "slots" "[I" .null) (V1 : Arv Z h0 b1 k1 .long (8 : Int32) (List.map Value.long I) (.long (0 : Int64))) (g1 : n0 ≤ b1) (n1 : x0 ≠ b1) :
    MetFree l (⟨"com/example/quillon/quillon/core/ElementIds", "place", "(I)V"⟩ : MethodName) (head1 (Jvm.Cond.code (⟨"com/example/quillon/quillon/core/ElementIds", "place", "(I)V"⟩ : MethodName) prog_8_method_8_code 3 none :: ws) ({ frames := 1, cells := 1, slots := 16, locals := 15 } : Room)) (fun a U => a = #[(.ref x0), (.int (16 : Int32))] ∧ Z.Warmed39 U.vm ∧ U.heap = h0) (fun _ _ _ _ _ => True) (fun _ U o U' => ∃ v L, o = .returned v ∧ QL Z n0 x0 b1 I v U'.heap L ∧ FrameEnd U o U' L ({ frames := 1, cells := 1, slots := 16, locals := 15 } : Room).cells ({ frames := 1, cells := 1, slots := 16, locals := 15 } : Room).slots) := by
  refine MetFree.of_bodySF (plainFor_of_name pn_3) hisR ?_
  intro p e s m args below meth c s₁ Bd hml0 hP hK
  obtain ⟨rfl, hZ, hh⟩ := hP
  have hx := Bd.exec
  have hby := Bd.bytes
  have hml : c.maxLocals = 3 := hml0
  have hown : s.vm.findClass "com/example/quillon/quillon/core/ElementIds" = some m.cls := findClass_of_methodNamed Bd.named
  have hnm := (name_of_methodNamed Bd.named Bd.method).1
  have X0 : Stand p l e ({ frames := 1, cells := 1, slots := 16, locals := 15 } : Room) s m #[(.ref x0), (.int (16 : Int32))] below meth c s₁ [] 0 0 := Stand.of_body Bd
  have e0 : s₁.heap = h0 := by rw [← hh, Bd.state]; rfl
  show Runs p e below s (QL Z n0 x0 b1 I) ({ frames := 1, cells := 1, slots := 16, locals := 15 } : Room).cells ({ frames := 1, cells := 1, slots := 16, locals := 15 } : Room).slots (s₁.setTop (entryFrame m #[(.ref x0), (.int (16 : Int32))] 3))
  rw [ef_3 m x0]
  have k_0 : ∀ (T : State) (X : Stand p l e ({ frames := 1, cells := 1, slots := 16, locals := 15 } : Room) s m #[(.ref x0), (.int (16 : Int32))] below meth c T [] 0 0) (eT : T.heap = h0) (N : Fr n0 []), Runs p e below s (QL Z n0 x0 b1 I) ({ frames := 1, cells := 1, slots := 16, locals := 15 } : Room).cells ({ frames := 1, cells := 1, slots := 16, locals := 15 } : Room).slots (T.setTop (mkF m 0 #[.val (.ref x0), .val (.int (16 : Int32)), .unset] [])) := by
    intro T X eT N 
    refine Runs.go (fun _ => XS.aloadN X.here hx rfl (hb hby d3_0) rfl rfl) ?_
    show Runs p e below s _ _ _ (T.setTop (mkF m 1 #[.val (.ref x0), .val (.int (16 : Int32)), .unset] [(.ref x0)]))
    refine Runs.go (fun _ => XS.iloadN X.here hx rfl (hb hby d3_1) rfl) ?_
    show Runs p e below s _ _ _ (T.setTop (mkF m 2 #[.val (.ref x0), .val (.int (16 : Int32)), .unset] [(.int (16 : Int32)), (.ref x0)]))
    obtain ⟨Ta2_1, ha2_1, ka2_1, Xa2_1, ea2_1, Ea2_1, Aa2_1, sta2_1⟩ := newP X hx hZ (hw _ (List.mem_of_getElem? (i := 16) rfl)) eT (g := (mkF m 2 #[.val (.ref x0), .val (.int (16 : Int32)), .unset] [(.int (16 : Int32)), (.ref x0)])) rfl (hb hby d3_2) rfl (by decide) (cap := 16) (by decide) (by decide) (by decide) (by decide)
    obtain ⟨ba2_1, ga2_1⟩ : ∃ z, z = h0.size := ⟨_, rfl⟩
    have ne_a2_1_x0 : x0 ≠ ba2_1 := Nat.ne_of_lt (Nat.lt_of_lt_of_le E0.lt (Nat.le_of_eq ga2_1.symm))
    have ne_a2_1_b1 : b1 ≠ ba2_1 := Nat.ne_of_lt (Nat.lt_of_lt_of_le V1.lt (Nat.le_of_eq ga2_1.symm))
    have gb_ba2_1 : n0 ≤ ba2_1 := Nat.le_trans hn0 (Nat.le_of_eq ga2_1.symm)
    rw [← ga2_1] at Aa2_1 sta2_1
    refine Runs.go sta2_1 ?_
    have E0_a2_1 := E0.ext Ea2_1
    have Fsz_a2_1 := Fsz.ext Ea2_1
    have Fsp_a2_1 := Fsp.ext Ea2_1
    have Fsh_a2_1 := Fsh.ext Ea2_1
    have Fk_a2_1 := Fk.ext Ea2_1
    have Fi_a2_1 := Fi.ext Ea2_1
    have Fs_a2_1 := Fs.ext Ea2_1
    have V1_a2_1 := V1.ext Ea2_1
    have hna2_1 : n0 ≤ ha2_1.size := Nat.le_trans hn0 Ea2_1.1
    have Va2_1 : Arv Z ha2_1 ba2_1 ka2_1 .int (16 : Int32) [(.int (0 : Int32)), (.int (0 : Int32)), (.int (0 : Int32)), (.int (0 : Int32)), (.int (0 : Int32)), (.int (0 : Int32)), (.int (0 : Int32)), (.int (0 : Int32)), (.int (0 : Int32)), (.int (0 : Int32)), (.int (0 : Int32)), (.int (0 : Int32)), (.int (0 : Int32)), (.int (0 : Int32)), (.int (0 : Int32)), (.int (0 : Int32))] (.int (0 : Int32)) := (Arv.new Aa2_1 (by decide)).pad (pad_rep [] (.int (0 : Int32)) 16)
    show Runs p e below s _ _ _ (Ta2_1.setTop (mkF m 4 #[.val (.ref x0), .val (.int (16 : Int32)), .unset] [(.ref ba2_1), (.ref x0)]))
    obtain ⟨Tp4_2, hp4_2, Xp4_2, ep4_2, Wp4_2, stp4_2⟩ := putF Xa2_1 hx hZ hown (host := "") (Or.inl (hw _ (List.mem_of_getElem? (i := 17) rfl))) Via.refl ea2_1 Fs_a2_1 E0_a2_1 (Or.inl (hw _ (List.mem_of_getElem? (i := 18) rfl))) (hw _ (List.mem_of_getElem? (i := 1) rfl)) (ty := (.array .int)) (by decide) rfl rfl (g := (mkF m 4 #[.val (.ref x0), .val (.int (16 : Int32)), .unset] [(.ref ba2_1), (.ref x0)])) rfl rfl (hb hby d3_4)
    refine Runs.go stp4_2 ?_
    have Fwp4_2 := Fs_a2_1.same Wp4_2
    have hnp4_2 : n0 ≤ hp4_2.size := by rw [Wr.size Wp4_2]; exact hna2_1
    have E0_p4_2 := E0_a2_1.wr Wp4_2
    have Fsz_p4_2 := Fsz_a2_1.other Wp4_2 (Or.inr (slot_ne (Or.inl (hw _ (List.mem_of_getElem? (i := 31) rfl))) (Or.inl (hw _ (List.mem_of_getElem? (i := 18) rfl))) (by decide) (t := .int) (t' := (.array .int)) (by decide) (by decide)))
    have Fsp_p4_2 := Fsp_a2_1.other Wp4_2 (Or.inr (slot_ne (Or.inl (hw _ (List.mem_of_getElem? (i := 56) rfl))) (Or.inl (hw _ (List.mem_of_getElem? (i := 18) rfl))) (by decide) (t := .long) (t' := (.array .int)) (by decide) (by decide)))
    have Fsh_p4_2 := Fsh_a2_1.other Wp4_2 (Or.inr (slot_ne (Or.inl (hw _ (List.mem_of_getElem? (i := 29) rfl))) (Or.inl (hw _ (List.mem_of_getElem? (i := 18) rfl))) (by decide) (t := .int) (t' := (.array .int)) (by decide) (by decide)))
    have Fk_p4_2 := Fk_a2_1.other Wp4_2 (Or.inr (slot_ne (Or.inl (hw _ (List.mem_of_getElem? (i := 54) rfl))) (Or.inl (hw _ (List.mem_of_getElem? (i := 18) rfl))) (by decide) (t := (.array .long)) (t' := (.array .int)) (by decide) (by decide)))
    have Fi_p4_2 := Fi_a2_1.other Wp4_2 (Or.inr (slot_ne (Or.inl (hw _ (List.mem_of_getElem? (i := 11) rfl))) (Or.inl (hw _ (List.mem_of_getElem? (i := 18) rfl))) (by decide) (t := (.array .long)) (t' := (.array .int)) (by decide) (by decide)))
    have V1_p4_2 := V1_a2_1.other Wp4_2 (Ne.symm n1)
    have Vba2_1_p4_2 := Va2_1.other Wp4_2 (Ne.symm ne_a2_1_x0)
    have Np4_2 := Fr.snoc Xp4_2 N ga
    show Runs p e below s _ _ _ (Tp4_2.setTop (mkF m 7 #[.val (.ref x0), .val (.int (16 : Int32)), .unset] []))
    refine Runs.go (fun _ => XS.aloadN Xp4_2.here hx rfl (hb hby d3_7) rfl rfl) ?_
    show Runs p e below s _ _ _ (Tp4_2.setTop (mkF m 8 #[.val (.ref x0), .val (.int (16 : Int32)), .unset] [(.ref x0)]))
    obtain ⟨Tf8_3, Xf8_3, ef8_3, stf8_3⟩ := getF Xp4_2 hx hZ hown (host := "") (Or.inl (hw _ (List.mem_of_getElem? (i := 17) rfl))) Via.refl ep4_2 Fwp4_2 (g := (mkF m 8 #[.val (.ref x0), .val (.int (16 : Int32)), .unset] [(.ref x0)])) rfl rfl (hb hby d3_8)
    refine Runs.go stf8_3 ?_
    show Runs p e below s _ _ _ (Tf8_3.setTop (mkF m 11 #[.val (.ref x0), .val (.int (16 : Int32)), .unset] [(.ref ba2_1)]))
    refine Runs.go (fun _ => XS.iconst Xf8_3.here hx rfl (hb hby d3_11)) ?_
    show Runs p e below s _ _ _ (Tf8_3.setTop (mkF m 12 #[.val (.ref x0), .val (.int (16 : Int32)), .unset] [(.int (-1 : Int32)), (.ref ba2_1)]))
    obtain ⟨_, _, ⟨Tc12_4, Lc12_4, kc12_4, nc12_4⟩, -, Xc12_4, ⟨Lcc12_4, hQc12_4, lc12_4, yc12_4, zc12_4⟩, stc12_4⟩ := Jvm.LawKit.callS Xf8_3 hx (y := (⟨"java/util/Arrays", "fill", "([II)V"⟩ : MethodName)) hown (mvT hZ (hw _ (List.mem_of_getElem? (i := 19) rfl))) (mvT hZ (hw _ (List.mem_of_getElem? (i := 20) rfl))) (mvT hZ (hw _ (List.mem_of_getElem? (i := 21) rfl))) (mvT hZ (hw _ (List.mem_of_getElem? (i := 22) rfl))) (by decide) (backOf (W := 0) (rm4 l Z a0 hw [] ba2_1 (-1 : Int32) [(0 : Int32), (0 : Int32), (0 : Int32), (0 : Int32), (0 : Int32), (0 : Int32), (0 : Int32), (0 : Int32), (0 : Int32), (0 : Int32), (0 : Int32), (0 : Int32), (0 : Int32), (0 : Int32), (0 : Int32), (0 : Int32)] ka2_1 hp4_2 n0 hnp4_2 Vba2_1_p4_2 gb_ba2_1 rfl) hZ (hw _ (List.mem_of_getElem? (i := 22) rfl)) (hw _ (List.mem_of_getElem? (i := 21) rfl)) (by decide) (by decide)) (g := (mkF m 12 #[.val (.ref x0), .val (.int (16 : Int32)), .unset] [(.int (-1 : Int32)), (.ref ba2_1)])) rfl (by rw [hml]; rfl) (argsL := [(.ref ba2_1), (.int (-1 : Int32))]) (rest := []) (lenOf pd_2 rfl) rfl (by show 2 * 0 + _ ≤ _; exact Nat.le_of_eq rfl) (hb hby d3_12) (fun _ _ => ⟨rfl, ef8_3, (by decide : 1 + 0 ≤ _), (by decide : 16 + 0 ≤ _)⟩)
    dsimp only [Pt.U, Pt.locs, Pt.cells, Pt.slots] at Xc12_4 lc12_4 yc12_4 zc12_4 stc12_4 hQc12_4
    subst lc12_4 yc12_4 zc12_4
    obtain ⟨rfl, Nc12_4q, Kc12_4, Vc12_4⟩ := hQc12_4
    refine Runs.go stc12_4 ?_
    have Nc12_4 := Fr.app Np4_2 Nc12_4q
    have hzc12_4 : n0 ≤ Tc12_4.heap.size := Nat.le_trans hnp4_2 Kc12_4.1
    have E0_c12_4 := E0_p4_2.keep Kc12_4
    have Fsz_c12_4 := Fsz_p4_2.keep Kc12_4 (ninS ne_a2_1_x0 nin0)
    have Fsp_c12_4 := Fsp_p4_2.keep Kc12_4 (ninS ne_a2_1_x0 nin0)
    have Fsh_c12_4 := Fsh_p4_2.keep Kc12_4 (ninS ne_a2_1_x0 nin0)
    have Fk_c12_4 := Fk_p4_2.keep Kc12_4 (ninS ne_a2_1_x0 nin0)
    have Fi_c12_4 := Fi_p4_2.keep Kc12_4 (ninS ne_a2_1_x0 nin0)
    have Fs_c12_4 := Fwp4_2.keep Kc12_4 (ninS ne_a2_1_x0 nin0)
    have V1_c12_4 := V1_p4_2.keep Kc12_4 (ninS ne_a2_1_b1 nin0)
    rw [own_fill16] at Vc12_4
    show Runs p e below s _ _ _ (Tc12_4.setTop (mkF m 15 #[.val (.ref x0), .val (.int (16 : Int32)), .unset] []))
    refine Runs.go (fun _ => XS.aloadN Xc12_4.here hx rfl (hb hby d3_15) rfl rfl) ?_
    show Runs p e below s _ _ _ (Tc12_4.setTop (mkF m 16 #[.val (.ref x0), .val (.int (16 : Int32)), .unset] [(.ref x0)]))
    refine Runs.go (fun _ => XS.bipush Xc12_4.here hx rfl (hb hby d3_16)) ?_
    show Runs p e below s _ _ _ (Tc12_4.setTop (mkF m 18 #[.val (.ref x0), .val (.int (16 : Int32)), .unset] [(.int (64 : Int32)), (.ref x0)]))
    refine Runs.go (fun _ => XS.iloadN Xc12_4.here hx rfl (hb hby d3_18) rfl) ?_
    show Runs p e below s _ _ _ (Tc12_4.setTop (mkF m 19 #[.val (.ref x0), .val (.int (16 : Int32)), .unset] [(.int (16 : Int32)), (.int (64 : Int32)), (.ref x0)]))
    obtain ⟨_, _, ⟨Tc19_5, Lc19_5, kc19_5, nc19_5⟩, -, Xc19_5, ⟨Lcc19_5, hQc19_5, lc19_5, yc19_5, zc19_5⟩, stc19_5⟩ := Jvm.LawKit.callS Xc12_4 hx (y := (⟨"java/lang/Integer", "numberOfTrailingZeros", "(I)I"⟩ : MethodName)) hown (mvT hZ (hw _ (List.mem_of_getElem? (i := 23) rfl))) (mvT hZ (hw _ (List.mem_of_getElem? (i := 24) rfl))) (mvT hZ (hw _ (List.mem_of_getElem? (i := 25) rfl))) (mvT hZ (hw _ (List.mem_of_getElem? (i := 26) rfl))) (by decide) (backOf (W := 2) (rm5 l Z a0 hw [] (16 : Int32) Tc12_4.heap) hZ (hw _ (List.mem_of_getElem? (i := 26) rfl)) (hw _ (List.mem_of_getElem? (i := 25) rfl)) (by decide) (by decide)) (g := (mkF m 19 #[.val (.ref x0), .val (.int (16 : Int32)), .unset] [(.int (16 : Int32)), (.int (64 : Int32)), (.ref x0)])) rfl (by rw [hml]; rfl) (argsL := [(.int (16 : Int32))]) (rest := [(.int (64 : Int32)), (.ref x0)]) (lenOf pd_3 rfl) rfl (by show 2 * 0 + _ ≤ _; exact Nat.le_of_eq rfl) (hb hby d3_19) (fun _ _ => ⟨rfl, rfl, (by decide : 1 + 0 ≤ _), (by decide : 16 + 0 ≤ _)⟩)
    dsimp only [Pt.U, Pt.locs, Pt.cells, Pt.slots] at Xc19_5 lc19_5 yc19_5 zc19_5 stc19_5 hQc19_5
    subst lc19_5 yc19_5 zc19_5
    obtain ⟨rfl, rfl, ec19_5⟩ := hQc19_5
    refine Runs.go stc19_5 ?_
    have Nc19_5 := Fr.app Nc12_4 (Fr.nil n0)
    show Runs p e below s _ _ _ (Tc19_5.setTop (mkF m 22 #[.val (.ref x0), .val (.int (16 : Int32)), .unset] [(.int (F5 (16 : Int32))), (.int (64 : Int32)), (.ref x0)]))
    rw [own_ntz]
    show Runs p e below s _ _ _ (Tc19_5.setTop (mkF m 22 #[.val (.ref x0), .val (.int (16 : Int32)), .unset] [(.int (4 : Int32)), (.int (64 : Int32)), (.ref x0)]))
    refine Runs.go (fun _ => XS.isub Xc19_5.here hx rfl (hb hby d3_22) rfl) ?_
    show Runs p e below s _ _ _ (Tc19_5.setTop (mkF m 23 #[.val (.ref x0), .val (.int (16 : Int32)), .unset] [(.int (60 : Int32)), (.ref x0)]))
    obtain ⟨Tp23_6, hp23_6, Xp23_6, ep23_6, Wp23_6, stp23_6⟩ := putF Xc19_5 hx hZ hown (host := "") (Or.inl (hw _ (List.mem_of_getElem? (i := 28) rfl))) Via.refl ec19_5 Fsh_c12_4 E0_c12_4 (Or.inl (hw _ (List.mem_of_getElem? (i := 29) rfl))) (hw _ (List.mem_of_getElem? (i := 1) rfl)) (ty := .int) (by decide) rfl rfl (g := (mkF m 23 #[.val (.ref x0), .val (.int (16 : Int32)), .unset] [(.int (60 : Int32)), (.ref x0)])) rfl rfl (hb hby d3_23)
    refine Runs.go stp23_6 ?_
    have Fwp23_6 := Fsh_c12_4.same Wp23_6
    have hnp23_6 : n0 ≤ hp23_6.size := by rw [Wr.size Wp23_6]; exact hzc12_4
    have E0_p23_6 := E0_c12_4.wr Wp23_6
    have Fsz_p23_6 := Fsz_c12_4.other Wp23_6 (Or.inr (slot_ne (Or.inl (hw _ (List.mem_of_getElem? (i := 31) rfl))) (Or.inl (hw _ (List.mem_of_getElem? (i := 29) rfl))) (by decide) (t := .int) (t' := .int) (by decide) (by decide)))
    have Fsp_p23_6 := Fsp_c12_4.other Wp23_6 (Or.inr (slot_ne (Or.inl (hw _ (List.mem_of_getElem? (i := 56) rfl))) (Or.inl (hw _ (List.mem_of_getElem? (i := 29) rfl))) (by decide) (t := .long) (t' := .int) (by decide) (by decide)))
    have Fk_p23_6 := Fk_c12_4.other Wp23_6 (Or.inr (slot_ne (Or.inl (hw _ (List.mem_of_getElem? (i := 54) rfl))) (Or.inl (hw _ (List.mem_of_getElem? (i := 29) rfl))) (by decide) (t := (.array .long)) (t' := .int) (by decide) (by decide)))
    have Fi_p23_6 := Fi_c12_4.other Wp23_6 (Or.inr (slot_ne (Or.inl (hw _ (List.mem_of_getElem? (i := 11) rfl))) (Or.inl (hw _ (List.mem_of_getElem? (i := 29) rfl))) (by decide) (t := (.array .long)) (t' := .int) (by decide) (by decide)))
    have Fs_p23_6 := Fs_c12_4.other Wp23_6 (Or.inr (slot_ne (Or.inl (hw _ (List.mem_of_getElem? (i := 18) rfl))) (Or.inl (hw _ (List.mem_of_getElem? (i := 29) rfl))) (by decide) (t := (.array .int)) (t' := .int) (by decide) (by decide)))
    have V1_p23_6 := V1_c12_4.other Wp23_6 (Ne.symm n1)
    have Vba2_1_p23_6 := Vc12_4.other Wp23_6 (Ne.symm ne_a2_1_x0)
    have Np23_6 := Fr.snoc Xp23_6 Nc19_5 ga
    show Runs p e below s _ _ _ (Tp23_6.setTop (mkF m 26 #[.val (.ref x0), .val (.int (16 : Int32)), .unset] []))
    refine Runs.go (fun _ => XS.iconst Xp23_6.here hx rfl (hb hby d3_26)) ?_
    show Runs p e below s _ _ _ (Tp23_6.setTop (mkF m 27 #[.val (.ref x0), .val (.int (16 : Int32)), .unset] [(.int (0 : Int32))]))
    refine Runs.go (fun _ => XS.istoreN Xp23_6.here hx rfl (hb hby d3_27) rfl (l' := #[.val (.ref x0), .val (.int (16 : Int32)), .val (.int (0 : Int32))]) rfl) ?_
    show Runs p e below s _ _ _ (Tp23_6.setTop (mkF m 28 #[.val (.ref x0), .val (.int (16 : Int32)), .val (.int (0 : Int32))] []))
    refine Runs.go (fun _ => XS.iloadN Xp23_6.here hx rfl (hb hby d3_28) rfl) ?_
    show Runs p e below s _ _ _ (Tp23_6.setTop (mkF m 29 #[.val (.ref x0), .val (.int (16 : Int32)), .val (.int (0 : Int32))] [(.int (0 : Int32))]))
    refine Runs.go (fun _ => XS.aloadN Xp23_6.here hx rfl (hb hby d3_29) rfl rfl) ?_
    show Runs p e below s _ _ _ (Tp23_6.setTop (mkF m 30 #[.val (.ref x0), .val (.int (16 : Int32)), .val (.int (0 : Int32))] [(.ref x0), (.int (0 : Int32))]))
    obtain ⟨Tf30_7, Xf30_7, ef30_7, stf30_7⟩ := getF Xp23_6 hx hZ hown (host := "") (Or.inl (hw _ (List.mem_of_getElem? (i := 30) rfl))) Via.refl ep23_6 Fsz_p23_6 (g := (mkF m 30 #[.val (.ref x0), .val (.int (16 : Int32)), .val (.int (0 : Int32))] [(.ref x0), (.int (0 : Int32))])) rfl rfl (hb hby d3_30)
    refine Runs.go stf30_7 ?_
    show Runs p e below s _ _ _ (Tf30_7.setTop (mkF m 33 #[.val (.ref x0), .val (.int (16 : Int32)), .val (.int (0 : Int32))] [(.int (0 : Int32)), (.int (0 : Int32))]))
    refine Runs.go (fun _ => XS.icmpYes Xf30_7.here hx rfl (pc0 := 33) (pc' := 58) rfl (hb hby d3_33) rfl (flt ((by decide) : ¬ ((0 : Int32) < (0 : Int32)))).2.1 (by decide) (by decide)) ?_
    show Runs p e below s _ _ _ (Tf30_7.setTop (mkF m 58 #[.val (.ref x0), .val (.int (16 : Int32)), .val (.int (0 : Int32))] []))
    exact Runs.endV Xf30_7 hx Bd.returns Bd.notSynchronized (hb hby d3_58) ⟨rfl, Np23_6, ba2_1, by rw [ef30_7]; exact ⟨E0_p23_6, ga, Fsz_p23_6, Fsp_p23_6, Fwp23_6, Fk_p23_6, _, _, g1, gb_ba2_1, n1, ne_a2_1_x0, ne_a2_1_b1, Fi_p23_6, Fs_p23_6, V1_p23_6, Vba2_1_p23_6⟩⟩ (by decide) (by decide)
  exact k_0 _ X0 e0 (Fr.nil n0)
theorem d1_0 : decode prog_8_method_1_code 0 = .ok (.aload_n 0, 1) := by decide +kernel
theorem d1_1 : decode prog_8_method_1_code 1 = .ok (.invokespecial 5, 3) := by decide +kernel
theorem d1_4 : decode prog_8_method_1_code 4 = .ok (.aload_n 0, 1) := by decide +kernel
theorem d1_5 : decode prog_8_method_1_code 5 = .ok (.bipush 8, 2) := by decide +kernel
theorem d1_7 : decode prog_8_method_1_code 7 = .ok (.newarray .long, 2) := by decide +kernel
theorem d1_9 : decode prog_8_method_1_code 9 = .ok (.putfield 13, 3) := by decide +kernel
theorem d1_12 : decode prog_8_method_1_code 12 = .ok (.aload_n 0, 1) := by decide +kernel
theorem d1_13 : decode prog_8_method_1_code 13 = .ok (.bipush 16, 2) := by decide +kernel
theorem d1_15 : decode prog_8_method_1_code 15 = .ok (.invokevirtual 17, 3) := by decide +kernel
theorem d1_18 : decode prog_8_method_1_code 18 = .ok (.return_, 1) := by decide +kernel
theorem pn_1 : plainName "com/example/quillon/quillon/core/ElementIds" = true := by first | (simp [plainName, overriddenIn]; done) | decide +kernel
theorem ef_1 (m : MethodId) (x0 : Addr) : entryFrame m #[(.ref x0)] 1 = mkF m 0 #[.val (.ref x0)] [] := by first | (simp [entryFrame, mkF, argsToLocals, Value.category]; done) | rfl
set_option maxRecDepth 65536 in
set_option maxHeartbeats 40000000 in
theorem rm1 (l : Launch) (Z : State) (a0 : Array Value) (hw : ∀ d ∈ tables_1, d.before a0 Z = true) (ws : List Jvm.Cond) (x0 : Addr) (h0 : Heap) (n0 : Nat) (hn0 : n0 ≤ h0.size) (E0 : Exa Z h0 x0 "com/example/quillon/quillon/core/ElementIds") (ga : n0 ≤ x0) (Fsz : Fld Z h0 x0 "com/example/quillon/quillon/core/ElementIds" "size" "I" (.int (0 : Int32))) (Fsp : Fld Z h0 x0 "com/example/quillon/quillon/core/ElementIds" "spareProbes" "J" (.long (0 : Int64))) (Fsh : Fld Z h0 x0 "com/example/quillon/quillon/core/ElementIds" "shift" "I" (.int (0 : Int32))) (Fk : Fld Z h0 x0 "com/example/quillon/quillon/core/ElementIds" "key" "[J" .null) (Fi : Fld Z h0 x0 "com/example/quillon/quillon/core/ElementIds" "ids" "[J" .null) (Fs : Fld Z h0 x0 "com/example/quillon/quillon/core/ElementIds" "slots" "[I" .null) :
    MetFree l (⟨"com/example/quillon/quillon/core/ElementIds", "<init>", "()V"⟩ : MethodName) (head1 (Jvm.Cond.code (⟨"com/example/quillon/quillon/core/ElementIds", "<init>", "()V"⟩ : MethodName) prog_8_method_1_code 1 none :: ws) ({ frames := 2, cells := 2, slots := 24, locals := 29 } : Room)) (fun a U => a = #[(.ref x0)] ∧ Z.Warmed39 U.vm ∧ U.heap = h0) (fun _ _ _ _ _ => True) (fun _ U o U' => ∃ v L, o = .returned v ∧ QN Z n0 x0 v U'.heap L ∧ FrameEnd U o U' L ({ frames := 2, cells := 2, slots := 24, locals := 29 } : Room).cells ({ frames := 2, cells := 2, slots := 24, locals := 29 } : Room).slots) := by
  refine MetFree.of_bodySF (plainFor_of_name pn_1) hisR ?_
  intro p e s m args below meth c s₁ Bd hml0 hP hK
  obtain ⟨rfl, hZ, hh⟩ := hP
  have hx := Bd.exec
  have hby := Bd.bytes
  have hml : c.maxLocals = 1 := hml0
  have hown : s.vm.findClass "com/example/quillon/quillon/core/ElementIds" = some m.cls := findClass_of_methodNamed Bd.named
  have hnm := (name_of_methodNamed Bd.named Bd.method).1
  have X0 : Stand p l e ({ frames := 2, cells := 2, slots := 24, locals := 29 } : Room) s m #[(.ref x0)] below meth c s₁ [] 0 0 := Stand.of_body Bd
  have e0 : s₁.heap = h0 := by rw [← hh, Bd.state]; rfl
  show Runs p e below s (QN Z n0 x0) ({ frames := 2, cells := 2, slots := 24, locals := 29 } : Room).cells ({ frames := 2, cells := 2, slots := 24, locals := 29 } : Room).slots (s₁.setTop (entryFrame m #[(.ref x0)] 1))
  rw [ef_1 m x0]
  have k_0 : ∀ (T : State) (X : Stand p l e ({ frames := 2, cells := 2, slots := 24, locals := 29 } : Room) s m #[(.ref x0)] below meth c T [] 0 0) (eT : T.heap = h0) (N : Fr n0 []), Runs p e below s (QN Z n0 x0) ({ frames := 2, cells := 2, slots := 24, locals := 29 } : Room).cells ({ frames := 2, cells := 2, slots := 24, locals := 29 } : Room).slots (T.setTop (mkF m 0 #[.val (.ref x0)] [])) := by
    intro T X eT N 
    refine Runs.go (fun _ => XS.aloadN X.here hx rfl (hb hby d1_0) rfl rfl) ?_
    show Runs p e below s _ _ _ (T.setTop (mkF m 1 #[.val (.ref x0)] [(.ref x0)]))
    obtain ⟨Ti1, Xi1, ei1, sti1⟩ := initO X hx hZ hown (hw _ (List.mem_of_getElem? (i := 6) rfl)) (hw _ (List.mem_of_getElem? (i := 7) rfl)) (hw _ (List.mem_of_getElem? (i := 8) rfl)) eT (g := (mkF m 1 #[.val (.ref x0)] [(.ref x0)])) rfl (by rw [hml]; rfl) rfl (hb hby d1_1) (by decide) (W := 0) (by show 2 * 0 + _ ≤ _; exact Nat.le_of_eq rfl) (by decide)
    refine Runs.go sti1 ?_
    show Runs p e below s _ _ _ (Ti1.setTop (mkF m 4 #[.val (.ref x0)] []))
    refine Runs.go (fun _ => XS.aloadN Xi1.here hx rfl (hb hby d1_4) rfl rfl) ?_
    show Runs p e below s _ _ _ (Ti1.setTop (mkF m 5 #[.val (.ref x0)] [(.ref x0)]))
    refine Runs.go (fun _ => XS.bipush Xi1.here hx rfl (hb hby d1_5)) ?_
    show Runs p e below s _ _ _ (Ti1.setTop (mkF m 7 #[.val (.ref x0)] [(.int (8 : Int32)), (.ref x0)]))
    obtain ⟨Ta7_1, ha7_1, ka7_1, Xa7_1, ea7_1, Ea7_1, Aa7_1, sta7_1⟩ := newP Xi1 hx hZ (hw _ (List.mem_of_getElem? (i := 9) rfl)) ei1 (g := (mkF m 7 #[.val (.ref x0)] [(.int (8 : Int32)), (.ref x0)])) rfl (hb hby d1_7) rfl (by decide) (cap := 8) (by decide) (by decide) (by decide) (by decide)
    obtain ⟨ba7_1, ga7_1⟩ : ∃ z, z = h0.size := ⟨_, rfl⟩
    have ne_a7_1_x0 : x0 ≠ ba7_1 := Nat.ne_of_lt (Nat.lt_of_lt_of_le E0.lt (Nat.le_of_eq ga7_1.symm))
    have gb_ba7_1 : n0 ≤ ba7_1 := Nat.le_trans hn0 (Nat.le_of_eq ga7_1.symm)
    rw [← ga7_1] at Aa7_1 sta7_1
    refine Runs.go sta7_1 ?_
    have E0_a7_1 := E0.ext Ea7_1
    have Fsz_a7_1 := Fsz.ext Ea7_1
    have Fsp_a7_1 := Fsp.ext Ea7_1
    have Fsh_a7_1 := Fsh.ext Ea7_1
    have Fk_a7_1 := Fk.ext Ea7_1
    have Fi_a7_1 := Fi.ext Ea7_1
    have Fs_a7_1 := Fs.ext Ea7_1
    have hna7_1 : n0 ≤ ha7_1.size := Nat.le_trans hn0 Ea7_1.1
    have Va7_1 : Arv Z ha7_1 ba7_1 ka7_1 .long (8 : Int32) [(.long (0 : Int64)), (.long (0 : Int64)), (.long (0 : Int64)), (.long (0 : Int64)), (.long (0 : Int64)), (.long (0 : Int64)), (.long (0 : Int64)), (.long (0 : Int64))] (.long (0 : Int64)) := (Arv.new Aa7_1 (by decide)).pad (pad_rep [] (.long (0 : Int64)) 8)
    show Runs p e below s _ _ _ (Ta7_1.setTop (mkF m 9 #[.val (.ref x0)] [(.ref ba7_1), (.ref x0)]))
    obtain ⟨Tp9_2, hp9_2, Xp9_2, ep9_2, Wp9_2, stp9_2⟩ := putF Xa7_1 hx hZ hown (host := "") (Or.inl (hw _ (List.mem_of_getElem? (i := 10) rfl))) Via.refl ea7_1 Fi_a7_1 E0_a7_1 (Or.inl (hw _ (List.mem_of_getElem? (i := 11) rfl))) (hw _ (List.mem_of_getElem? (i := 1) rfl)) (ty := (.array .long)) (by decide) rfl rfl (g := (mkF m 9 #[.val (.ref x0)] [(.ref ba7_1), (.ref x0)])) rfl rfl (hb hby d1_9)
    refine Runs.go stp9_2 ?_
    have Fwp9_2 := Fi_a7_1.same Wp9_2
    have hnp9_2 : n0 ≤ hp9_2.size := by rw [Wr.size Wp9_2]; exact hna7_1
    have E0_p9_2 := E0_a7_1.wr Wp9_2
    have Fsz_p9_2 := Fsz_a7_1.other Wp9_2 (Or.inr (slot_ne (Or.inl (hw _ (List.mem_of_getElem? (i := 31) rfl))) (Or.inl (hw _ (List.mem_of_getElem? (i := 11) rfl))) (by decide) (t := .int) (t' := (.array .long)) (by decide) (by decide)))
    have Fsp_p9_2 := Fsp_a7_1.other Wp9_2 (Or.inr (slot_ne (Or.inl (hw _ (List.mem_of_getElem? (i := 56) rfl))) (Or.inl (hw _ (List.mem_of_getElem? (i := 11) rfl))) (by decide) (t := .long) (t' := (.array .long)) (by decide) (by decide)))
    have Fsh_p9_2 := Fsh_a7_1.other Wp9_2 (Or.inr (slot_ne (Or.inl (hw _ (List.mem_of_getElem? (i := 29) rfl))) (Or.inl (hw _ (List.mem_of_getElem? (i := 11) rfl))) (by decide) (t := .int) (t' := (.array .long)) (by decide) (by decide)))
    have Fk_p9_2 := Fk_a7_1.other Wp9_2 (Or.inr (slot_ne (Or.inl (hw _ (List.mem_of_getElem? (i := 54) rfl))) (Or.inl (hw _ (List.mem_of_getElem? (i := 11) rfl))) (by decide) (t := (.array .long)) (t' := (.array .long)) (by decide) (by decide)))
    have Fs_p9_2 := Fs_a7_1.other Wp9_2 (Or.inr (slot_ne (Or.inl (hw _ (List.mem_of_getElem? (i := 18) rfl))) (Or.inl (hw _ (List.mem_of_getElem? (i := 11) rfl))) (by decide) (t := (.array .int)) (t' := (.array .long)) (by decide) (by decide)))
    have Vba7_1_p9_2 := Va7_1.other Wp9_2 (Ne.symm ne_a7_1_x0)
    have Np9_2 := Fr.snoc Xp9_2 N ga
    show Runs p e below s _ _ _ (Tp9_2.setTop (mkF m 12 #[.val (.ref x0)] []))
    refine Runs.go (fun _ => XS.aloadN Xp9_2.here hx rfl (hb hby d1_12) rfl rfl) ?_
    show Runs p e below s _ _ _ (Tp9_2.setTop (mkF m 13 #[.val (.ref x0)] [(.ref x0)]))
    refine Runs.go (fun _ => XS.bipush Xp9_2.here hx rfl (hb hby d1_13)) ?_
    show Runs p e below s _ _ _ (Tp9_2.setTop (mkF m 15 #[.val (.ref x0)] [(.int (16 : Int32)), (.ref x0)]))
    obtain ⟨cqc15_3, qc15_3, qc15_3'⟩ := E0_p9_2.cell
    obtain ⟨_, _, ⟨Tc15_3, Lc15_3, kc15_3, nc15_3⟩, -, Xc15_3, ⟨Lcc15_3, hQc15_3, lc15_3, yc15_3, zc15_3⟩, stc15_3⟩ := Xp9_2.privateBack hx (y := (⟨"com/example/quillon/quillon/core/ElementIds", "place", "(I)V"⟩ : MethodName)) hown (mvT hZ (hw _ (List.mem_of_getElem? (i := 12) rfl))) (mvT hZ (hw _ (List.mem_of_getElem? (i := 13) rfl))) (mvT hZ (own_sel (hw _ (List.mem_of_getElem? (i := 1) rfl)) (hw _ (List.mem_of_getElem? (i := 14) rfl)) (hw _ (List.mem_of_getElem? (i := 13) rfl)) (by decide))) (Cond.privateMethod_at (mvP hZ (hw _ (List.mem_of_getElem? (i := 14) rfl)) (args := #[]))) (mvT hZ (hw _ (List.mem_of_getElem? (i := 15) rfl))) (by decide) (backOf (W := 0) (rm3 l Z a0 hw [] x0 ba7_1 ka7_1 own_I0 hp9_2 n0 hnp9_2 E0_p9_2 ga Fsz_p9_2 Fsp_p9_2 Fsh_p9_2 Fk_p9_2 Fwp9_2 Fs_p9_2 Vba7_1_p9_2 gb_ba7_1 ne_a7_1_x0) hZ (hw _ (List.mem_of_getElem? (i := 15) rfl)) (hw _ (List.mem_of_getElem? (i := 2) rfl)) (by decide) (by decide)) (g := (mkF m 15 #[.val (.ref x0)] [(.int (16 : Int32)), (.ref x0)])) rfl (by rw [hml]; rfl) (Steps.refl _) (a := x0) (by rw [ep9_2]; exact qc15_3) qc15_3' (argsL := [(.int (16 : Int32))]) (rest := []) (lenOf pd_1 rfl) rfl (by show 2 * 0 + _ ≤ _; exact Nat.le_of_eq rfl) (hb hby d1_15) (fun _ _ => ⟨rfl, ep9_2, (by decide : 1 + 1 ≤ _), (by decide : 8 + 16 ≤ _)⟩)
    dsimp only [Pt.U, Pt.locs, Pt.cells, Pt.slots] at Xc15_3 lc15_3 yc15_3 zc15_3 stc15_3 hQc15_3
    subst lc15_3 yc15_3 zc15_3
    obtain ⟨rfl, Nc15_3q, b2, Gf⟩ := hQc15_3
    refine Runs.go (fun _ => stc15_3.trans) ?_
    have Nc15_3 := Fr.app Np9_2 Nc15_3q
    show Runs p e below s _ _ _ (Tc15_3.setTop (mkF m 18 #[.val (.ref x0)] []))
    exact Runs.endV Xc15_3 hx Bd.returns Bd.notSynchronized (hb hby d1_18) ⟨rfl, Nc15_3, ba7_1, b2, Gf⟩ (by decide) (by decide)
  exact k_0 _ X0 e0 (Fr.nil n0)
theorem d11_0 : decode prog_8_method_6_code 0 = .ok (.lconst 0, 1) := by decide +kernel
theorem d11_1 : decode prog_8_method_6_code 1 = .ok (.lstore_n 3, 1) := by decide +kernel
theorem d11_2 : decode prog_8_method_6_code 2 = .ok (.aload_n 0, 1) := by decide +kernel
theorem d11_3 : decode prog_8_method_6_code 3 = .ok (.getfield 21, 3) := by decide +kernel
theorem d11_6 : decode prog_8_method_6_code 6 = .ok (.ifnonnull 12, 3) := by decide +kernel
theorem d11_9 : decode prog_8_method_6_code 9 = .ok (.lload_n 1, 1) := by decide +kernel
theorem d11_10 : decode prog_8_method_6_code 10 = .ok (.ldc2_w 73, 3) := by decide +kernel
theorem d11_13 : decode prog_8_method_6_code 13 = .ok (.lmul, 1) := by decide +kernel
theorem d11_14 : decode prog_8_method_6_code 14 = .ok (.lstore_n 3, 1) := by decide +kernel
theorem d11_15 : decode prog_8_method_6_code 15 = .ok (.goto 45, 3) := by decide +kernel
theorem d11_60 : decode prog_8_method_6_code 60 = .ok (.lload_n 3, 1) := by decide +kernel
theorem d11_61 : decode prog_8_method_6_code 61 = .ok (.lreturn, 1) := by decide +kernel
theorem pn_11 : plainName "com/example/quillon/quillon/core/ElementIds" = true := by first | (simp [plainName, overriddenIn]; done) | decide +kernel
theorem ef_11 (m : MethodId) (x0 : Addr) (x1 : Int64) : entryFrame m #[(.ref x0), (.long x1)] 6 = mkF m 0 #[.val (.ref x0), .val (.long x1), .second, .unset, .unset, .unset] [] := by first | (simp [entryFrame, mkF, argsToLocals, Value.category]; done) | rfl
set_option maxRecDepth 65536 in
set_option maxHeartbeats 40000000 in
theorem rm11 (l : Launch) (Z : State) (a0 : Array Value) (hw : ∀ d ∈ tables_1, d.before a0 Z = true) (ws : List Jvm.Cond) (x0 : Addr) (x1 : Int64) (h0 : Heap) (n0 : Nat) (hn0 : n0 ≤ h0.size) (Fk : Fld Z h0 x0 "com/example/quillon/quillon/core/ElementIds" "key" "[J" .null) :
    MetFree l (⟨"com/example/quillon/quillon/core/ElementIds", "hash", "(J)J"⟩ : MethodName) (head1 (Jvm.Cond.code (⟨"com/example/quillon/quillon/core/ElementIds", "hash", "(J)J"⟩ : MethodName) prog_8_method_6_code 6 (some .long) :: ws) ({ frames := 0, cells := 0, slots := 0, locals := 0 } : Room)) (fun a U => a = #[(.ref x0), (.long x1)] ∧ Z.Warmed39 U.vm ∧ U.heap = h0) (fun _ _ _ _ _ => True) (fun _ U o U' => ∃ v L, o = .returned v ∧ QP (.long (x1 * (-7046029254386353131 : Int64))) h0 v U'.heap L ∧ FrameEnd U o U' L ({ frames := 0, cells := 0, slots := 0, locals := 0 } : Room).cells ({ frames := 0, cells := 0, slots := 0, locals := 0 } : Room).slots) := by
  refine MetFree.of_bodySF (plainFor_of_name pn_11) hisR ?_
  intro p e s m args below meth c s₁ Bd hml0 hP hK
  obtain ⟨rfl, hZ, hh⟩ := hP
  have hx := Bd.exec
  have hby := Bd.bytes
  have hml : c.maxLocals = 6 := hml0
  have hown : s.vm.findClass "com/example/quillon/quillon/core/ElementIds" = some m.cls := findClass_of_methodNamed Bd.named
  have hnm := (name_of_methodNamed Bd.named Bd.method).1
  have X0 : Stand p l e ({ frames := 0, cells := 0, slots := 0, locals := 0 } : Room) s m #[(.ref x0), (.long x1)] below meth c s₁ [] 0 0 := Stand.of_body Bd
  have e0 : s₁.heap = h0 := by rw [← hh, Bd.state]; rfl
  show Runs p e below s (QP (.long (x1 * (-7046029254386353131 : Int64))) h0) ({ frames := 0, cells := 0, slots := 0, locals := 0 } : Room).cells ({ frames := 0, cells := 0, slots := 0, locals := 0 } : Room).slots (s₁.setTop (entryFrame m #[(.ref x0), (.long x1)] 6))
  rw [ef_11 m x0 x1]
  have k_0 : ∀ (T : State) (X : Stand p l e ({ frames := 0, cells := 0, slots := 0, locals := 0 } : Room) s m #[(.ref x0), (.long x1)] below meth c T [] 0 0) (eT : T.heap = h0) (N : Fr n0 []), Runs p e below s (QP (.long (x1 * (-7046029254386353131 : Int64))) h0) ({ frames := 0, cells := 0, slots := 0, locals := 0 } : Room).cells ({ frames := 0, cells := 0, slots := 0, locals := 0 } : Room).slots (T.setTop (mkF m 0 #[.val (.ref x0), .val (.long x1), .second, .unset, .unset, .unset] [])) := by
    intro T X eT N 
    refine Runs.go (fun _ => XS.lconst X.here hx rfl (hb hby d11_0)) ?_
    show Runs p e below s _ _ _ (T.setTop (mkF m 1 #[.val (.ref x0), .val (.long x1), .second, .unset, .unset, .unset] [(.long (0 : Int64))]))
    refine Runs.go (fun _ => XS.lstoreN X.here hx rfl (hb hby d11_1) rfl (l' := #[.val (.ref x0), .val (.long x1), .second, .val (.long (0 : Int64)), .second, .unset]) rfl) ?_
    show Runs p e below s _ _ _ (T.setTop (mkF m 2 #[.val (.ref x0), .val (.long x1), .second, .val (.long (0 : Int64)), .second, .unset] []))
    refine Runs.go (fun _ => XS.aloadN X.here hx rfl (hb hby d11_2) rfl rfl) ?_
    show Runs p e below s _ _ _ (T.setTop (mkF m 3 #[.val (.ref x0), .val (.long x1), .second, .val (.long (0 : Int64)), .second, .unset] [(.ref x0)]))
    obtain ⟨Tf3_1, Xf3_1, ef3_1, stf3_1⟩ := getF X hx hZ hown (host := "") (Or.inl (hw _ (List.mem_of_getElem? (i := 53) rfl))) Via.refl eT Fk (g := (mkF m 3 #[.val (.ref x0), .val (.long x1), .second, .val (.long (0 : Int64)), .second, .unset] [(.ref x0)])) rfl rfl (hb hby d11_3)
    refine Runs.go stf3_1 ?_
    show Runs p e below s _ _ _ (Tf3_1.setTop (mkF m 6 #[.val (.ref x0), .val (.long x1), .second, .val (.long (0 : Int64)), .second, .unset] [.null]))
    refine Runs.go (fun _ => XS.ifnonnullNo Xf3_1.here hx rfl (hb hby d11_6) rfl) ?_
    show Runs p e below s _ _ _ (Tf3_1.setTop (mkF m 9 #[.val (.ref x0), .val (.long x1), .second, .val (.long (0 : Int64)), .second, .unset] []))
    refine Runs.go (fun _ => XS.lloadN Xf3_1.here hx rfl (hb hby d11_9) rfl) ?_
    show Runs p e below s _ _ _ (Tf3_1.setTop (mkF m 10 #[.val (.ref x0), .val (.long x1), .second, .val (.long (0 : Int64)), .second, .unset] [(.long x1)]))
    refine Runs.go (Xf3_1.ldc2Long hx hown (mvT hZ (hw _ (List.mem_of_getElem? (i := 65) rfl))) (g := (mkF m 10 #[.val (.ref x0), .val (.long x1), .second, .val (.long (0 : Int64)), .second, .unset] [(.long x1)])) rfl (hb hby d11_10)) ?_
    show Runs p e below s _ _ _ (Tf3_1.setTop (mkF m 13 #[.val (.ref x0), .val (.long x1), .second, .val (.long (0 : Int64)), .second, .unset] [(.long (-7046029254386353131 : Int64)), (.long x1)]))
    refine Runs.go (fun _ => XS.lmul Xf3_1.here hx rfl (hb hby d11_13) rfl) ?_
    show Runs p e below s _ _ _ (Tf3_1.setTop (mkF m 14 #[.val (.ref x0), .val (.long x1), .second, .val (.long (0 : Int64)), .second, .unset] [(.long (x1 * (-7046029254386353131 : Int64)))]))
    refine Runs.go (fun _ => XS.lstoreN Xf3_1.here hx rfl (hb hby d11_14) rfl (l' := #[.val (.ref x0), .val (.long x1), .second, .val (.long (x1 * (-7046029254386353131 : Int64))), .second, .unset]) rfl) ?_
    show Runs p e below s _ _ _ (Tf3_1.setTop (mkF m 15 #[.val (.ref x0), .val (.long x1), .second, .val (.long (x1 * (-7046029254386353131 : Int64))), .second, .unset] []))
    refine Runs.go (fun _ => XS.goto Xf3_1.here hx rfl (pc0 := 15) (pc' := 60) rfl (hb hby d11_15) (by decide) (by decide)) ?_
    show Runs p e below s _ _ _ (Tf3_1.setTop (mkF m 60 #[.val (.ref x0), .val (.long x1), .second, .val (.long (x1 * (-7046029254386353131 : Int64))), .second, .unset] []))
    refine Runs.go (fun _ => XS.lloadN Xf3_1.here hx rfl (hb hby d11_60) rfl) ?_
    show Runs p e below s _ _ _ (Tf3_1.setTop (mkF m 61 #[.val (.ref x0), .val (.long x1), .second, .val (.long (x1 * (-7046029254386353131 : Int64))), .second, .unset] [(.long (x1 * (-7046029254386353131 : Int64)))]))
    exact Runs.endJ Xf3_1 hx Bd.returns Bd.notSynchronized (hb hby d11_61) ⟨rfl, rfl, ef3_1⟩ (by decide) (by decide)
  exact k_0 _ X0 e0 (Fr.nil n0)
theorem d10_0 : decode prog_8_method_5_code 0 = .ok (.aload_n 0, 1) := by decide +kernel
theorem d10_1 : decode prog_8_method_5_code 1 = .ok (.getfield 43, 3) := by decide +kernel
theorem d10_4 : decode prog_8_method_5_code 4 = .ok (.arraylength, 1) := by decide +kernel
theorem d10_5 : decode prog_8_method_5_code 5 = .ok (.iconst 1, 1) := by decide +kernel
theorem d10_6 : decode prog_8_method_5_code 6 = .ok (.isub, 1) := by decide +kernel
theorem d10_7 : decode prog_8_method_5_code 7 = .ok (.istore_n 3, 1) := by decide +kernel
theorem d10_8 : decode prog_8_method_5_code 8 = .ok (.aload_n 0, 1) := by decide +kernel
theorem d10_9 : decode prog_8_method_5_code 9 = .ok (.lload_n 1, 1) := by decide +kernel
theorem d10_10 : decode prog_8_method_5_code 10 = .ok (.invokevirtual 64, 3) := by decide +kernel
theorem d10_13 : decode prog_8_method_5_code 13 = .ok (.aload_n 0, 1) := by decide +kernel
theorem d10_14 : decode prog_8_method_5_code 14 = .ok (.getfield 68, 3) := by decide +kernel
theorem d10_17 : decode prog_8_method_5_code 17 = .ok (.lushr, 1) := by decide +kernel
theorem d10_18 : decode prog_8_method_5_code 18 = .ok (.l2i, 1) := by decide +kernel
theorem d10_19 : decode prog_8_method_5_code 19 = .ok (.istore 4, 2) := by decide +kernel
theorem d10_21 : decode prog_8_method_5_code 21 = .ok (.aload_n 0, 1) := by decide +kernel
theorem d10_22 : decode prog_8_method_5_code 22 = .ok (.dup, 1) := by decide +kernel
theorem d10_23 : decode prog_8_method_5_code 23 = .ok (.getfield 24, 3) := by decide +kernel
theorem d10_26 : decode prog_8_method_5_code 26 = .ok (.ldc2_w 71, 3) := by decide +kernel
theorem d10_29 : decode prog_8_method_5_code 29 = .ok (.ladd, 1) := by decide +kernel
theorem d10_30 : decode prog_8_method_5_code 30 = .ok (.putfield 24, 3) := by decide +kernel
theorem d10_33 : decode prog_8_method_5_code 33 = .ok (.aload_n 0, 1) := by decide +kernel
theorem d10_34 : decode prog_8_method_5_code 34 = .ok (.getfield 43, 3) := by decide +kernel
theorem d10_37 : decode prog_8_method_5_code 37 = .ok (.iload 4, 2) := by decide +kernel
theorem d10_39 : decode prog_8_method_5_code 39 = .ok (.iaload, 1) := by decide +kernel
theorem d10_40 : decode prog_8_method_5_code 40 = .ok (.iconst (-1), 1) := by decide +kernel
theorem d10_41 : decode prog_8_method_5_code 41 = .ok (.if_icmp .eq 41, 3) := by decide +kernel
theorem d10_44 : decode prog_8_method_5_code 44 = .ok (.aload_n 0, 1) := by decide +kernel
theorem d10_45 : decode prog_8_method_5_code 45 = .ok (.getfield 13, 3) := by decide +kernel
theorem d10_48 : decode prog_8_method_5_code 48 = .ok (.aload_n 0, 1) := by decide +kernel
theorem d10_49 : decode prog_8_method_5_code 49 = .ok (.getfield 43, 3) := by decide +kernel
theorem d10_52 : decode prog_8_method_5_code 52 = .ok (.iload 4, 2) := by decide +kernel
theorem d10_54 : decode prog_8_method_5_code 54 = .ok (.iaload, 1) := by decide +kernel
theorem d10_55 : decode prog_8_method_5_code 55 = .ok (.laload, 1) := by decide +kernel
theorem d10_56 : decode prog_8_method_5_code 56 = .ok (.lload_n 1, 1) := by decide +kernel
theorem d10_57 : decode prog_8_method_5_code 57 = .ok (.lcmp, 1) := by decide +kernel
theorem d10_58 : decode prog_8_method_5_code 58 = .ok (.ifCond .eq 24, 3) := by decide +kernel
theorem d10_61 : decode prog_8_method_5_code 61 = .ok (.iload 4, 2) := by decide +kernel
theorem d10_63 : decode prog_8_method_5_code 63 = .ok (.iconst 1, 1) := by decide +kernel
theorem d10_64 : decode prog_8_method_5_code 64 = .ok (.iadd, 1) := by decide +kernel
theorem d10_65 : decode prog_8_method_5_code 65 = .ok (.iload_n 3, 1) := by decide +kernel
theorem d10_66 : decode prog_8_method_5_code 66 = .ok (.iand, 1) := by decide +kernel
theorem d10_67 : decode prog_8_method_5_code 67 = .ok (.istore 4, 2) := by decide +kernel
theorem d10_69 : decode prog_8_method_5_code 69 = .ok (.aload_n 0, 1) := by decide +kernel
theorem d10_70 : decode prog_8_method_5_code 70 = .ok (.dup, 1) := by decide +kernel
theorem d10_71 : decode prog_8_method_5_code 71 = .ok (.getfield 24, 3) := by decide +kernel
theorem d10_74 : decode prog_8_method_5_code 74 = .ok (.lconst 1, 1) := by decide +kernel
theorem d10_75 : decode prog_8_method_5_code 75 = .ok (.lsub, 1) := by decide +kernel
theorem d10_76 : decode prog_8_method_5_code 76 = .ok (.putfield 24, 3) := by decide +kernel
theorem d10_79 : decode prog_8_method_5_code 79 = .ok (.goto (-46), 3) := by decide +kernel
theorem d10_82 : decode prog_8_method_5_code 82 = .ok (.iload 4, 2) := by decide +kernel
theorem d10_84 : decode prog_8_method_5_code 84 = .ok (.ireturn, 1) := by decide +kernel
theorem pn_10 : plainName "com/example/quillon/quillon/core/ElementIds" = true := by first | (simp [plainName, overriddenIn]; done) | decide +kernel
theorem ef_10 (m : MethodId) (x0 : Addr) (x1 : Int64) : entryFrame m #[(.ref x0), (.long x1)] 5 = mkF m 0 #[.val (.ref x0), .val (.long x1), .second, .unset, .unset] [] := by first | (simp [entryFrame, mkF, argsToLocals, Value.category]; done) | rfl
set_option maxRecDepth 65536 in
set_option maxHeartbeats 40000000 in
theorem rm10 (l : Launch) (Z : State) (a0 : Array Value) (hw : ∀ d ∈ tables_1, d.before a0 Z = true) (ws : List Jvm.Cond) (x0 b1 b2 : Addr) (x1 : Int64) (sz : Int32) (sp : Int64) (I : List Int64) (S : List Int32) (h0 : Heap) (n0 : Nat) (hn0 : n0 ≤ h0.size) (G : EI Z h0 n0 x0 b1 b2 sz sp I S) (hV : SVal S) (hI0 : SInv 16 (own_home x1) S) :
    MetFree l (⟨"com/example/quillon/quillon/core/ElementIds", "slotOf", "(J)I"⟩ : MethodName) (head1 (Jvm.Cond.code (⟨"com/example/quillon/quillon/core/ElementIds", "slotOf", "(J)I"⟩ : MethodName) prog_8_method_5_code 5 (some .int) :: ws) ({ frames := 1, cells := 0, slots := 0, locals := 17 } : Room)) (fun a U => a = #[(.ref x0), (.long x1)] ∧ Z.Warmed39 U.vm ∧ U.heap = h0) (fun _ _ _ _ _ => True) (fun _ U o U' => ∃ v L, o = .returned v ∧ QS Z n0 x0 b1 b2 sz I S h0 (F10 x1 sz sp I S) v U'.heap L ∧ FrameEnd U o U' L ({ frames := 1, cells := 0, slots := 0, locals := 17 } : Room).cells ({ frames := 1, cells := 0, slots := 0, locals := 17 } : Room).slots) := by
  refine MetFree.of_bodySF (plainFor_of_name pn_10) hisR ?_
  intro p e s m args below meth c s₁ Bd hml0 hP hK
  obtain ⟨rfl, hZ, hh⟩ := hP
  have hx := Bd.exec
  have hby := Bd.bytes
  have hml : c.maxLocals = 5 := hml0
  have hown : s.vm.findClass "com/example/quillon/quillon/core/ElementIds" = some m.cls := findClass_of_methodNamed Bd.named
  have hnm := (name_of_methodNamed Bd.named Bd.method).1
  have X0 : Stand p l e ({ frames := 1, cells := 0, slots := 0, locals := 17 } : Room) s m #[(.ref x0), (.long x1)] below meth c s₁ [] 0 0 := Stand.of_body Bd
  have e0 : s₁.heap = h0 := by rw [← hh, Bd.state]; rfl
  obtain ⟨E0, ga, Fsz, Fsp, Fsh, Fk, k1, k2, g1, g2, n1, n2, n3, Fi, Fs, V1, V2⟩ := G
  show Runs p e below s (QS Z n0 x0 b1 b2 sz I S h0 (F10 x1 sz sp I S)) ({ frames := 1, cells := 0, slots := 0, locals := 17 } : Room).cells ({ frames := 1, cells := 0, slots := 0, locals := 17 } : Room).slots (s₁.setTop (entryFrame m #[(.ref x0), (.long x1)] 5))
  rw [ef_10 m x0 x1]
  obtain ⟨r, hF⟩ : ∃ r, F10 x1 sz sp I S = r := ⟨_, rfl⟩
  rw [hF]
  have k_82 : ∀ (T : State) (locs : List Loc) (h : Heap) (X : Stand p l e ({ frames := 1, cells := 0, slots := 0, locals := 17 } : Room) s m #[(.ref x0), (.long x1)] below meth c T locs 0 0) (eT : T.heap = h) (N : Fr n0 locs) (w_sp : Int64) (v1 : Int64) (v3 : Int32) (v4 : Int32) (G_EI : EI Z h n0 x0 b1 b2 sz w_sp I S) (G_K : Keep h0 h [x0]), f10_82 x1 sz sp I S w_sp v4 = r → Runs p e below s (QS Z n0 x0 b1 b2 sz I S h0 r) ({ frames := 1, cells := 0, slots := 0, locals := 17 } : Room).cells ({ frames := 1, cells := 0, slots := 0, locals := 17 } : Room).slots (T.setTop (mkF m 82 #[.val (.ref x0), .val (.long v1), .second, .val (.int v3), .val (.int v4)] [])) := by
    intro T locs h X eT N w_sp v1 v3 v4 G_EI G_K hv
    unfold f10_82 at hv
    obtain ⟨E0q, gaq, Fszq, Fspq, Fshq, Fkq, k1q, k2q, g1q, g2q, n1q, n2q, n3q, Fiq, Fsq, V1q, V2q⟩ := G_EI
    refine Runs.go (fun _ => XS.iload X.here hx rfl (hb hby d10_82) rfl) ?_
    show Runs p e below s _ _ _ (T.setTop (mkF m 84 #[.val (.ref x0), .val (.long v1), .second, .val (.int v3), .val (.int v4)] [(.int v4)]))
    subst hv
    exact Runs.endI X hx Bd.returns Bd.notSynchronized (hb hby d10_84) ⟨rfl, N, by rw [eT]; exact G_K, by rw [eT]; exact ⟨E0q, gaq, Fszq, Fspq, Fshq, Fkq, _, _, g1q, g2q, n1q, n2q, n3q, Fiq, Fsq, V1q, V2q⟩⟩ (by decide) (by decide)
  have k_33 : ∀ (k : Nat) (T : State) (locs : List Loc) (h : Heap) (X : Stand p l e ({ frames := 1, cells := 0, slots := 0, locals := 17 } : Room) s m #[(.ref x0), (.long x1)] below meth c T locs 0 0) (eT : T.heap = h) (N : Fr n0 locs) (w_sp : Int64) (v4 : Int32) (G_EI : EI Z h n0 x0 b1 b2 sz w_sp I S) (G_K : Keep h0 h [x0]) (hI : SInv k v4 S), f10_33 k x1 sz sp I S w_sp v4 = r → Runs p e below s (QS Z n0 x0 b1 b2 sz I S h0 r) ({ frames := 1, cells := 0, slots := 0, locals := 17 } : Room).cells ({ frames := 1, cells := 0, slots := 0, locals := 17 } : Room).slots (T.setTop (mkF m 33 #[.val (.ref x0), .val (.long x1), .second, .val (.int ((16 : Int32) - (1 : Int32))), .val (.int v4)] [])) := by
    intro k; induction k with
    | zero => intro T locs h X eT N w_sp v4 G_EI G_K hI hv; exact absurd hI SInv.zero
    | succ k ih =>
      intro T locs h X eT N w_sp v4 G_EI G_K hI hv
      unfold f10_33 at hv
      obtain ⟨E0q, gaq, Fszq, Fspq, Fshq, Fkq, k1q, k2q, g1q, g2q, n1q, n2q, n3q, Fiq, Fsq, V1q, V2q⟩ := G_EI
      refine Runs.go (fun _ => XS.aloadN X.here hx rfl (hb hby d10_33) rfl rfl) ?_
      show Runs p e below s _ _ _ (T.setTop (mkF m 34 #[.val (.ref x0), .val (.long x1), .second, .val (.int ((16 : Int32) - (1 : Int32))), .val (.int v4)] [(.ref x0)]))
      obtain ⟨Tf34_8, Xf34_8, ef34_8, stf34_8⟩ := getF X hx hZ hown (host := "") (Or.inl (hw _ (List.mem_of_getElem? (i := 17) rfl))) Via.refl eT Fsq (g := (mkF m 34 #[.val (.ref x0), .val (.long x1), .second, .val (.int ((16 : Int32) - (1 : Int32))), .val (.int v4)] [(.ref x0)])) rfl rfl (hb hby d10_34)
      refine Runs.go stf34_8 ?_
      show Runs p e below s _ _ _ (Tf34_8.setTop (mkF m 37 #[.val (.ref x0), .val (.long x1), .second, .val (.int ((16 : Int32) - (1 : Int32))), .val (.int v4)] [(.ref b2)]))
      refine Runs.go (fun _ => XS.iload Xf34_8.here hx rfl (hb hby d10_37) rfl) ?_
      show Runs p e below s _ _ _ (Tf34_8.setTop (mkF m 39 #[.val (.ref x0), .val (.long x1), .second, .val (.int ((16 : Int32) - (1 : Int32))), .val (.int v4)] [(.int v4), (.ref b2)]))
      have VCr39_9 := V2q
      obtain ⟨clr39_9, Arr39_9, -, Sr39_9, Mr39_9, Hr39_9, -⟩ := VCr39_9
      have hinr39_9 : ¬ (v4 < 0 ∨ clr39_9.slots.size ≤ (v4).toNatClampNeg) := inb_of Sr39_9 hI.inb
      have hatr39_9 : clr39_9.slots[(v4).toNatClampNeg]? = some (.int (own_at S v4)) := Has.at Hr39_9 hinr39_9 (own_getD _ _)
      refine Runs.go (Xf34_8.iaload hx (j := v4) (v := (.int (own_at S v4))) (by rw [ef34_8]; exact Arr39_9.1) (State.isArrayOf_alike hZ.alike Arr39_9.2.1) Arr39_9.2.2 hinr39_9 hatr39_9 (g := (mkF m 39 #[.val (.ref x0), .val (.long x1), .second, .val (.int ((16 : Int32) - (1 : Int32))), .val (.int v4)] [(.int v4), (.ref b2)])) rfl rfl (hb hby d10_39)) ?_
      show Runs p e below s _ _ _ (Tf34_8.setTop (mkF m 40 #[.val (.ref x0), .val (.long x1), .second, .val (.int ((16 : Int32) - (1 : Int32))), .val (.int v4)] [(.int (own_at S v4))]))
      refine Runs.go (fun _ => XS.iconst Xf34_8.here hx rfl (hb hby d10_40)) ?_
      show Runs p e below s _ _ _ (Tf34_8.setTop (mkF m 41 #[.val (.ref x0), .val (.long x1), .second, .val (.int ((16 : Int32) - (1 : Int32))), .val (.int v4)] [(.int (-1 : Int32)), (.int (own_at S v4))]))
      by_cases hc41 : (own_at S v4) = (-1 : Int32)
      · have hv := (if_pos hc41).symm.trans hv
        refine Runs.go (fun _ => XS.icmpYes Xf34_8.here hx rfl (pc0 := 41) (pc' := 82) rfl (hb hby d10_41) rfl (teq hc41).1 (by decide) (by decide)) ?_
        show Runs p e below s _ _ _ (Tf34_8.setTop (mkF m 82 #[.val (.ref x0), .val (.long x1), .second, .val (.int ((16 : Int32) - (1 : Int32))), .val (.int v4)] []))
        have EI_10 : EI Z h n0 x0 b1 b2 sz w_sp I S := ⟨E0q, gaq, Fszq, Fspq, Fshq, Fkq, _, _, g1q, g2q, n1q, n2q, n3q, Fiq, Fsq, V1q, V2q⟩
        exact k_82 _ _ _ Xf34_8 ef34_8 N w_sp x1 ((16 : Int32) - (1 : Int32)) v4 EI_10 G_K hv
      · have hv := (if_neg hc41).symm.trans hv
        refine Runs.go (fun _ => XS.icmpNo Xf34_8.here hx rfl (hb hby d10_41) rfl (feq hc41).1) ?_
        show Runs p e below s _ _ _ (Tf34_8.setTop (mkF m 44 #[.val (.ref x0), .val (.long x1), .second, .val (.int ((16 : Int32) - (1 : Int32))), .val (.int v4)] []))
        refine Runs.go (fun _ => XS.aloadN Xf34_8.here hx rfl (hb hby d10_44) rfl rfl) ?_
        show Runs p e below s _ _ _ (Tf34_8.setTop (mkF m 45 #[.val (.ref x0), .val (.long x1), .second, .val (.int ((16 : Int32) - (1 : Int32))), .val (.int v4)] [(.ref x0)]))
        obtain ⟨Tf45_11, Xf45_11, ef45_11, stf45_11⟩ := getF Xf34_8 hx hZ hown (host := "") (Or.inl (hw _ (List.mem_of_getElem? (i := 10) rfl))) Via.refl ef34_8 Fiq (g := (mkF m 45 #[.val (.ref x0), .val (.long x1), .second, .val (.int ((16 : Int32) - (1 : Int32))), .val (.int v4)] [(.ref x0)])) rfl rfl (hb hby d10_45)
        refine Runs.go stf45_11 ?_
        show Runs p e below s _ _ _ (Tf45_11.setTop (mkF m 48 #[.val (.ref x0), .val (.long x1), .second, .val (.int ((16 : Int32) - (1 : Int32))), .val (.int v4)] [(.ref b1)]))
        refine Runs.go (fun _ => XS.aloadN Xf45_11.here hx rfl (hb hby d10_48) rfl rfl) ?_
        show Runs p e below s _ _ _ (Tf45_11.setTop (mkF m 49 #[.val (.ref x0), .val (.long x1), .second, .val (.int ((16 : Int32) - (1 : Int32))), .val (.int v4)] [(.ref x0), (.ref b1)]))
        obtain ⟨Tf49_12, Xf49_12, ef49_12, stf49_12⟩ := getF Xf45_11 hx hZ hown (host := "") (Or.inl (hw _ (List.mem_of_getElem? (i := 17) rfl))) Via.refl ef45_11 Fsq (g := (mkF m 49 #[.val (.ref x0), .val (.long x1), .second, .val (.int ((16 : Int32) - (1 : Int32))), .val (.int v4)] [(.ref x0), (.ref b1)])) rfl rfl (hb hby d10_49)
        refine Runs.go stf49_12 ?_
        show Runs p e below s _ _ _ (Tf49_12.setTop (mkF m 52 #[.val (.ref x0), .val (.long x1), .second, .val (.int ((16 : Int32) - (1 : Int32))), .val (.int v4)] [(.ref b2), (.ref b1)]))
        refine Runs.go (fun _ => XS.iload Xf49_12.here hx rfl (hb hby d10_52) rfl) ?_
        show Runs p e below s _ _ _ (Tf49_12.setTop (mkF m 54 #[.val (.ref x0), .val (.long x1), .second, .val (.int ((16 : Int32) - (1 : Int32))), .val (.int v4)] [(.int v4), (.ref b2), (.ref b1)]))
        have VCr54_13 := V2q
        obtain ⟨clr54_13, Arr54_13, -, Sr54_13, Mr54_13, Hr54_13, -⟩ := VCr54_13
        have hinr54_13 : ¬ (v4 < 0 ∨ clr54_13.slots.size ≤ (v4).toNatClampNeg) := inb_of Sr54_13 hI.inb
        have hatr54_13 : clr54_13.slots[(v4).toNatClampNeg]? = some (.int (own_at S v4)) := Has.at Hr54_13 hinr54_13 (own_getD _ _)
        refine Runs.go (Xf49_12.iaload hx (j := v4) (v := (.int (own_at S v4))) (by rw [ef49_12]; exact Arr54_13.1) (State.isArrayOf_alike hZ.alike Arr54_13.2.1) Arr54_13.2.2 hinr54_13 hatr54_13 (g := (mkF m 54 #[.val (.ref x0), .val (.long x1), .second, .val (.int ((16 : Int32) - (1 : Int32))), .val (.int v4)] [(.int v4), (.ref b2), (.ref b1)])) rfl rfl (hb hby d10_54)) ?_
        show Runs p e below s _ _ _ (Tf49_12.setTop (mkF m 55 #[.val (.ref x0), .val (.long x1), .second, .val (.int ((16 : Int32) - (1 : Int32))), .val (.int v4)] [(.int (own_at S v4)), (.ref b1)]))
        have VCr55_14 := V1q
        obtain ⟨clr55_14, Arr55_14, -, Sr55_14, Mr55_14, Hr55_14, -⟩ := VCr55_14
        have hinr55_14 : ¬ ((own_at S v4) < 0 ∨ clr55_14.slots.size ≤ ((own_at S v4)).toNatClampNeg) := inb_of Sr55_14 (hV.idx hI hc41)
        have hatr55_14 : clr55_14.slots[((own_at S v4)).toNatClampNeg]? = some (.long (own_atJ I (own_at S v4))) := Has.at Hr55_14 hinr55_14 (own_getDJ _ _)
        refine Runs.go (Xf49_12.laload hx (j := (own_at S v4)) (v := (.long (own_atJ I (own_at S v4)))) (by rw [ef49_12]; exact Arr55_14.1) (State.isArrayOf_alike hZ.alike Arr55_14.2.1) Arr55_14.2.2 hinr55_14 hatr55_14 (g := (mkF m 55 #[.val (.ref x0), .val (.long x1), .second, .val (.int ((16 : Int32) - (1 : Int32))), .val (.int v4)] [(.int (own_at S v4)), (.ref b1)])) rfl rfl (hb hby d10_55)) ?_
        show Runs p e below s _ _ _ (Tf49_12.setTop (mkF m 56 #[.val (.ref x0), .val (.long x1), .second, .val (.int ((16 : Int32) - (1 : Int32))), .val (.int v4)] [(.long (own_atJ I (own_at S v4)))]))
        refine Runs.go (fun _ => XS.lloadN Xf49_12.here hx rfl (hb hby d10_56) rfl) ?_
        show Runs p e below s _ _ _ (Tf49_12.setTop (mkF m 57 #[.val (.ref x0), .val (.long x1), .second, .val (.int ((16 : Int32) - (1 : Int32))), .val (.int v4)] [(.long x1), (.long (own_atJ I (own_at S v4)))]))
        refine Runs.go (fun _ => XS.lcmp Xf49_12.here hx rfl (hb hby d10_57) rfl) ?_
        show Runs p e below s _ _ _ (Tf49_12.setTop (mkF m 58 #[.val (.ref x0), .val (.long x1), .second, .val (.int ((16 : Int32) - (1 : Int32))), .val (.int v4)] [(.int (lcmpW (own_atJ I (own_at S v4)) x1))]))
        by_cases hc58 : (lcmpW (own_atJ I (own_at S v4)) x1) = (0 : Int32)
        · have hv := (if_pos hc58).symm.trans hv
          refine Runs.go (fun _ => XS.ifYes Xf49_12.here hx rfl (pc0 := 58) (pc' := 82) rfl (hb hby d10_58) rfl ((if0 _ _).trans (teq hc58).1) (by decide) (by decide)) ?_
          show Runs p e below s _ _ _ (Tf49_12.setTop (mkF m 82 #[.val (.ref x0), .val (.long x1), .second, .val (.int ((16 : Int32) - (1 : Int32))), .val (.int v4)] []))
          have EI_15 : EI Z h n0 x0 b1 b2 sz w_sp I S := ⟨E0q, gaq, Fszq, Fspq, Fshq, Fkq, _, _, g1q, g2q, n1q, n2q, n3q, Fiq, Fsq, V1q, V2q⟩
          exact k_82 _ _ _ Xf49_12 ef49_12 N w_sp x1 ((16 : Int32) - (1 : Int32)) v4 EI_15 G_K hv
        · have hv := (if_neg hc58).symm.trans hv
          refine Runs.go (fun _ => XS.ifNo Xf49_12.here hx rfl (hb hby d10_58) rfl ((if0 _ _).trans (feq hc58).1)) ?_
          show Runs p e below s _ _ _ (Tf49_12.setTop (mkF m 61 #[.val (.ref x0), .val (.long x1), .second, .val (.int ((16 : Int32) - (1 : Int32))), .val (.int v4)] []))
          refine Runs.go (fun _ => XS.iload Xf49_12.here hx rfl (hb hby d10_61) rfl) ?_
          show Runs p e below s _ _ _ (Tf49_12.setTop (mkF m 63 #[.val (.ref x0), .val (.long x1), .second, .val (.int ((16 : Int32) - (1 : Int32))), .val (.int v4)] [(.int v4)]))
          refine Runs.go (fun _ => XS.iconst Xf49_12.here hx rfl (hb hby d10_63)) ?_
          show Runs p e below s _ _ _ (Tf49_12.setTop (mkF m 64 #[.val (.ref x0), .val (.long x1), .second, .val (.int ((16 : Int32) - (1 : Int32))), .val (.int v4)] [(.int (1 : Int32)), (.int v4)]))
          refine Runs.go (fun _ => XS.iadd Xf49_12.here hx rfl (hb hby d10_64) rfl) ?_
          show Runs p e below s _ _ _ (Tf49_12.setTop (mkF m 65 #[.val (.ref x0), .val (.long x1), .second, .val (.int ((16 : Int32) - (1 : Int32))), .val (.int v4)] [(.int (v4 + (1 : Int32)))]))
          refine Runs.go (fun _ => XS.iloadN Xf49_12.here hx rfl (hb hby d10_65) rfl) ?_
          show Runs p e below s _ _ _ (Tf49_12.setTop (mkF m 66 #[.val (.ref x0), .val (.long x1), .second, .val (.int ((16 : Int32) - (1 : Int32))), .val (.int v4)] [(.int ((16 : Int32) - (1 : Int32))), (.int (v4 + (1 : Int32)))]))
          refine Runs.go (fun _ => XS.iand Xf49_12.here hx rfl (hb hby d10_66) rfl) ?_
          show Runs p e below s _ _ _ (Tf49_12.setTop (mkF m 67 #[.val (.ref x0), .val (.long x1), .second, .val (.int ((16 : Int32) - (1 : Int32))), .val (.int v4)] [(.int ((v4 + (1 : Int32)) &&& ((16 : Int32) - (1 : Int32))))]))
          refine Runs.go (fun _ => XS.istore Xf49_12.here hx rfl (hb hby d10_67) rfl (l' := #[.val (.ref x0), .val (.long x1), .second, .val (.int ((16 : Int32) - (1 : Int32))), .val (.int ((v4 + (1 : Int32)) &&& ((16 : Int32) - (1 : Int32))))]) rfl) ?_
          show Runs p e below s _ _ _ (Tf49_12.setTop (mkF m 69 #[.val (.ref x0), .val (.long x1), .second, .val (.int ((16 : Int32) - (1 : Int32))), .val (.int ((v4 + (1 : Int32)) &&& ((16 : Int32) - (1 : Int32))))] []))
          refine Runs.go (fun _ => XS.aloadN Xf49_12.here hx rfl (hb hby d10_69) rfl rfl) ?_
          show Runs p e below s _ _ _ (Tf49_12.setTop (mkF m 70 #[.val (.ref x0), .val (.long x1), .second, .val (.int ((16 : Int32) - (1 : Int32))), .val (.int ((v4 + (1 : Int32)) &&& ((16 : Int32) - (1 : Int32))))] [(.ref x0)]))
          refine Runs.go (fun _ => XS.dup Xf49_12.here hx rfl (hb hby d10_70) rfl rfl) ?_
          show Runs p e below s _ _ _ (Tf49_12.setTop (mkF m 71 #[.val (.ref x0), .val (.long x1), .second, .val (.int ((16 : Int32) - (1 : Int32))), .val (.int ((v4 + (1 : Int32)) &&& ((16 : Int32) - (1 : Int32))))] [(.ref x0), (.ref x0)]))
          obtain ⟨Tf71_16, Xf71_16, ef71_16, stf71_16⟩ := getF Xf49_12 hx hZ hown (host := "") (Or.inl (hw _ (List.mem_of_getElem? (i := 55) rfl))) Via.refl ef49_12 Fspq (g := (mkF m 71 #[.val (.ref x0), .val (.long x1), .second, .val (.int ((16 : Int32) - (1 : Int32))), .val (.int ((v4 + (1 : Int32)) &&& ((16 : Int32) - (1 : Int32))))] [(.ref x0), (.ref x0)])) rfl rfl (hb hby d10_71)
          refine Runs.go stf71_16 ?_
          show Runs p e below s _ _ _ (Tf71_16.setTop (mkF m 74 #[.val (.ref x0), .val (.long x1), .second, .val (.int ((16 : Int32) - (1 : Int32))), .val (.int ((v4 + (1 : Int32)) &&& ((16 : Int32) - (1 : Int32))))] [(.long w_sp), (.ref x0)]))
          refine Runs.go (fun _ => XS.lconst Xf71_16.here hx rfl (hb hby d10_74)) ?_
          show Runs p e below s _ _ _ (Tf71_16.setTop (mkF m 75 #[.val (.ref x0), .val (.long x1), .second, .val (.int ((16 : Int32) - (1 : Int32))), .val (.int ((v4 + (1 : Int32)) &&& ((16 : Int32) - (1 : Int32))))] [(.long (1 : Int64)), (.long w_sp), (.ref x0)]))
          refine Runs.go (fun _ => XS.lsub Xf71_16.here hx rfl (hb hby d10_75) rfl) ?_
          show Runs p e below s _ _ _ (Tf71_16.setTop (mkF m 76 #[.val (.ref x0), .val (.long x1), .second, .val (.int ((16 : Int32) - (1 : Int32))), .val (.int ((v4 + (1 : Int32)) &&& ((16 : Int32) - (1 : Int32))))] [(.long (w_sp - (1 : Int64))), (.ref x0)]))
          obtain ⟨Tp76_17, hp76_17, Xp76_17, ep76_17, Wp76_17, stp76_17⟩ := putF Xf71_16 hx hZ hown (host := "") (Or.inl (hw _ (List.mem_of_getElem? (i := 55) rfl))) Via.refl ef71_16 Fspq E0q (Or.inl (hw _ (List.mem_of_getElem? (i := 56) rfl))) (hw _ (List.mem_of_getElem? (i := 1) rfl)) (ty := .long) (by decide) rfl rfl (g := (mkF m 76 #[.val (.ref x0), .val (.long x1), .second, .val (.int ((16 : Int32) - (1 : Int32))), .val (.int ((v4 + (1 : Int32)) &&& ((16 : Int32) - (1 : Int32))))] [(.long (w_sp - (1 : Int64))), (.ref x0)])) rfl rfl (hb hby d10_76)
          refine Runs.go stp76_17 ?_
          have Fwp76_17 := Fspq.same Wp76_17
          have hnp76_17 : n0 ≤ hp76_17.size := by rw [Wr.size Wp76_17]; exact (Nat.le_trans gaq (Nat.le_of_lt E0q.lt))
          have E0_p76_17 := E0q.wr Wp76_17
          have Fsz_p76_17 := Fszq.other Wp76_17 (Or.inr (slot_ne (Or.inl (hw _ (List.mem_of_getElem? (i := 31) rfl))) (Or.inl (hw _ (List.mem_of_getElem? (i := 56) rfl))) (by decide) (t := .int) (t' := .long) (by decide) (by decide)))
          have Fsh_p76_17 := Fshq.other Wp76_17 (Or.inr (slot_ne (Or.inl (hw _ (List.mem_of_getElem? (i := 29) rfl))) (Or.inl (hw _ (List.mem_of_getElem? (i := 56) rfl))) (by decide) (t := .int) (t' := .long) (by decide) (by decide)))
          have Fk_p76_17 := Fkq.other Wp76_17 (Or.inr (slot_ne (Or.inl (hw _ (List.mem_of_getElem? (i := 54) rfl))) (Or.inl (hw _ (List.mem_of_getElem? (i := 56) rfl))) (by decide) (t := (.array .long)) (t' := .long) (by decide) (by decide)))
          have Fi_p76_17 := Fiq.other Wp76_17 (Or.inr (slot_ne (Or.inl (hw _ (List.mem_of_getElem? (i := 11) rfl))) (Or.inl (hw _ (List.mem_of_getElem? (i := 56) rfl))) (by decide) (t := (.array .long)) (t' := .long) (by decide) (by decide)))
          have Fs_p76_17 := Fsq.other Wp76_17 (Or.inr (slot_ne (Or.inl (hw _ (List.mem_of_getElem? (i := 18) rfl))) (Or.inl (hw _ (List.mem_of_getElem? (i := 56) rfl))) (by decide) (t := (.array .int)) (t' := .long) (by decide) (by decide)))
          have V1_p76_17 := V1q.other Wp76_17 (Ne.symm n1q)
          have V2_p76_17 := V2q.other Wp76_17 (Ne.symm n2q)
          have Kp76_17 : Keep h0 hp76_17 [x0] := G_K.wr Wp76_17 (Or.inl (List.mem_of_getElem? (i := 0) rfl))
          have Np76_17 := Fr.snoc Xp76_17 N gaq
          show Runs p e below s _ _ _ (Tp76_17.setTop (mkF m 79 #[.val (.ref x0), .val (.long x1), .second, .val (.int ((16 : Int32) - (1 : Int32))), .val (.int ((v4 + (1 : Int32)) &&& ((16 : Int32) - (1 : Int32))))] []))
          refine Runs.go (fun _ => XS.goto Xp76_17.here hx rfl (pc0 := 79) (pc' := 33) rfl (hb hby d10_79) (by decide) (by decide)) ?_
          show Runs p e below s _ _ _ (Tp76_17.setTop (mkF m 33 #[.val (.ref x0), .val (.long x1), .second, .val (.int ((16 : Int32) - (1 : Int32))), .val (.int ((v4 + (1 : Int32)) &&& ((16 : Int32) - (1 : Int32))))] []))
          have EI_18 : EI Z hp76_17 n0 x0 b1 b2 sz (w_sp - (1 : Int64)) I S := ⟨E0_p76_17, gaq, Fsz_p76_17, Fwp76_17, Fsh_p76_17, Fk_p76_17, _, _, g1q, g2q, n1q, n2q, n3q, Fi_p76_17, Fs_p76_17, V1_p76_17, V2_p76_17⟩
          exact ih _ _ _ Xp76_17 ep76_17 Np76_17 (w_sp - (1 : Int64)) ((v4 + (1 : Int32)) &&& ((16 : Int32) - (1 : Int32))) EI_18 Kp76_17 (SInv.step hI hc41) hv
  have k_0 : ∀ (T : State) (X : Stand p l e ({ frames := 1, cells := 0, slots := 0, locals := 17 } : Room) s m #[(.ref x0), (.long x1)] below meth c T [] 0 0) (eT : T.heap = h0) (N : Fr n0 []), f10_0 x1 sz sp I S = r → Runs p e below s (QS Z n0 x0 b1 b2 sz I S h0 r) ({ frames := 1, cells := 0, slots := 0, locals := 17 } : Room).cells ({ frames := 1, cells := 0, slots := 0, locals := 17 } : Room).slots (T.setTop (mkF m 0 #[.val (.ref x0), .val (.long x1), .second, .unset, .unset] [])) := by
    intro T X eT N  hv
    unfold f10_0 at hv
    refine Runs.go (fun _ => XS.aloadN X.here hx rfl (hb hby d10_0) rfl rfl) ?_
    show Runs p e below s _ _ _ (T.setTop (mkF m 1 #[.val (.ref x0), .val (.long x1), .second, .unset, .unset] [(.ref x0)]))
    obtain ⟨Tf1_1, Xf1_1, ef1_1, stf1_1⟩ := getF X hx hZ hown (host := "") (Or.inl (hw _ (List.mem_of_getElem? (i := 17) rfl))) Via.refl eT Fs (g := (mkF m 1 #[.val (.ref x0), .val (.long x1), .second, .unset, .unset] [(.ref x0)])) rfl rfl (hb hby d10_1)
    refine Runs.go stf1_1 ?_
    show Runs p e below s _ _ _ (Tf1_1.setTop (mkF m 4 #[.val (.ref x0), .val (.long x1), .second, .unset, .unset] [(.ref b2)]))
    have VCl4_2 := V2
    obtain ⟨cll4_2, Arl4_2, -, Sl4_2, Ml4_2, -, -⟩ := VCl4_2
    refine Runs.go (Xf1_1.arraylength hx (by rw [ef1_1]; exact Arl4_2.1) (State.isArrayOf_alike hZ.alike Arl4_2.2.1) (g := (mkF m 4 #[.val (.ref x0), .val (.long x1), .second, .unset, .unset] [(.ref b2)])) rfl rfl (hb hby d10_4)) ?_
    rw [len_of Sl4_2 Ml4_2]
    show Runs p e below s _ _ _ (Tf1_1.setTop (mkF m 5 #[.val (.ref x0), .val (.long x1), .second, .unset, .unset] [(.int (16 : Int32))]))
    refine Runs.go (fun _ => XS.iconst Xf1_1.here hx rfl (hb hby d10_5)) ?_
    show Runs p e below s _ _ _ (Tf1_1.setTop (mkF m 6 #[.val (.ref x0), .val (.long x1), .second, .unset, .unset] [(.int (1 : Int32)), (.int (16 : Int32))]))
    refine Runs.go (fun _ => XS.isub Xf1_1.here hx rfl (hb hby d10_6) rfl) ?_
    show Runs p e below s _ _ _ (Tf1_1.setTop (mkF m 7 #[.val (.ref x0), .val (.long x1), .second, .unset, .unset] [(.int ((16 : Int32) - (1 : Int32)))]))
    refine Runs.go (fun _ => XS.istoreN Xf1_1.here hx rfl (hb hby d10_7) rfl (l' := #[.val (.ref x0), .val (.long x1), .second, .val (.int ((16 : Int32) - (1 : Int32))), .unset]) rfl) ?_
    show Runs p e below s _ _ _ (Tf1_1.setTop (mkF m 8 #[.val (.ref x0), .val (.long x1), .second, .val (.int ((16 : Int32) - (1 : Int32))), .unset] []))
    refine Runs.go (fun _ => XS.aloadN Xf1_1.here hx rfl (hb hby d10_8) rfl rfl) ?_
    show Runs p e below s _ _ _ (Tf1_1.setTop (mkF m 9 #[.val (.ref x0), .val (.long x1), .second, .val (.int ((16 : Int32) - (1 : Int32))), .unset] [(.ref x0)]))
    refine Runs.go (fun _ => XS.lloadN Xf1_1.here hx rfl (hb hby d10_9) rfl) ?_
    show Runs p e below s _ _ _ (Tf1_1.setTop (mkF m 10 #[.val (.ref x0), .val (.long x1), .second, .val (.int ((16 : Int32) - (1 : Int32))), .unset] [(.long x1), (.ref x0)]))
    obtain ⟨cqc10_3, qc10_3, qc10_3'⟩ := E0.cell
    obtain ⟨_, _, ⟨Tc10_3, Lc10_3, kc10_3, nc10_3⟩, -, Xc10_3, ⟨Lcc10_3, hQc10_3, lc10_3, yc10_3, zc10_3⟩, stc10_3⟩ := Xf1_1.privateBack hx (y := (⟨"com/example/quillon/quillon/core/ElementIds", "hash", "(J)J"⟩ : MethodName)) hown (mvT hZ (hw _ (List.mem_of_getElem? (i := 61) rfl))) (mvT hZ (hw _ (List.mem_of_getElem? (i := 62) rfl))) (mvT hZ (own_sel (hw _ (List.mem_of_getElem? (i := 1) rfl)) (hw _ (List.mem_of_getElem? (i := 63) rfl)) (hw _ (List.mem_of_getElem? (i := 62) rfl)) (by decide))) (Cond.privateMethod_at (mvP hZ (hw _ (List.mem_of_getElem? (i := 63) rfl)) (args := #[]))) (mvT hZ (hw _ (List.mem_of_getElem? (i := 64) rfl))) (by decide) (backOf (W := 0) (rm11 l Z a0 hw [] x0 x1 h0 n0 hn0 Fk) hZ (hw _ (List.mem_of_getElem? (i := 64) rfl)) (hw _ (List.mem_of_getElem? (i := 2) rfl)) (by decide) (by decide)) (g := (mkF m 10 #[.val (.ref x0), .val (.long x1), .second, .val (.int ((16 : Int32) - (1 : Int32))), .unset] [(.long x1), (.ref x0)])) rfl (by rw [hml]; rfl) (Steps.refl _) (a := x0) (by rw [ef1_1]; exact qc10_3) qc10_3' (argsL := [(.long x1)]) (rest := []) (lenOf pd_9 rfl) rfl (by show 2 * 0 + _ ≤ _; exact Nat.le_of_eq rfl) (hb hby d10_10) (fun _ _ => ⟨rfl, ef1_1, (by decide : 0 + 0 ≤ _), (by decide : 0 + 0 ≤ _)⟩)
    dsimp only [Pt.U, Pt.locs, Pt.cells, Pt.slots] at Xc10_3 lc10_3 yc10_3 zc10_3 stc10_3 hQc10_3
    subst lc10_3 yc10_3 zc10_3
    obtain ⟨rfl, rfl, ec10_3⟩ := hQc10_3
    refine Runs.go (fun _ => stc10_3.trans) ?_
    have Nc10_3 := Fr.app N (Fr.nil n0)
    show Runs p e below s _ _ _ (Tc10_3.setTop (mkF m 13 #[.val (.ref x0), .val (.long x1), .second, .val (.int ((16 : Int32) - (1 : Int32))), .unset] [(.long (x1 * (-7046029254386353131 : Int64)))]))
    refine Runs.go (fun _ => XS.aloadN Xc10_3.here hx rfl (hb hby d10_13) rfl rfl) ?_
    show Runs p e below s _ _ _ (Tc10_3.setTop (mkF m 14 #[.val (.ref x0), .val (.long x1), .second, .val (.int ((16 : Int32) - (1 : Int32))), .unset] [(.ref x0), (.long (x1 * (-7046029254386353131 : Int64)))]))
    obtain ⟨Tf14_4, Xf14_4, ef14_4, stf14_4⟩ := getF Xc10_3 hx hZ hown (host := "") (Or.inl (hw _ (List.mem_of_getElem? (i := 28) rfl))) Via.refl ec10_3 Fsh (g := (mkF m 14 #[.val (.ref x0), .val (.long x1), .second, .val (.int ((16 : Int32) - (1 : Int32))), .unset] [(.ref x0), (.long (x1 * (-7046029254386353131 : Int64)))])) rfl rfl (hb hby d10_14)
    refine Runs.go stf14_4 ?_
    show Runs p e below s _ _ _ (Tf14_4.setTop (mkF m 17 #[.val (.ref x0), .val (.long x1), .second, .val (.int ((16 : Int32) - (1 : Int32))), .unset] [(.int (60 : Int32)), (.long (x1 * (-7046029254386353131 : Int64)))]))
    refine Runs.go (fun _ => XS.lushr Xf14_4.here hx rfl (hb hby d10_17) rfl) ?_
    show Runs p e below s _ _ _ (Tf14_4.setTop (mkF m 18 #[.val (.ref x0), .val (.long x1), .second, .val (.int ((16 : Int32) - (1 : Int32))), .unset] [(.long (((x1 * (-7046029254386353131 : Int64)).toUInt64 >>> ((60 : Int32) &&& 0x3f).toInt64.toUInt64).toInt64))]))
    refine Runs.go (fun _ => XS.l2i Xf14_4.here hx rfl (hb hby d10_18) rfl) ?_
    show Runs p e below s _ _ _ (Tf14_4.setTop (mkF m 19 #[.val (.ref x0), .val (.long x1), .second, .val (.int ((16 : Int32) - (1 : Int32))), .unset] [(.int ((((x1 * (-7046029254386353131 : Int64)).toUInt64 >>> ((60 : Int32) &&& 0x3f).toInt64.toUInt64).toInt64).toInt32))]))
    refine Runs.go (fun _ => XS.istore Xf14_4.here hx rfl (hb hby d10_19) rfl (l' := #[.val (.ref x0), .val (.long x1), .second, .val (.int ((16 : Int32) - (1 : Int32))), .val (.int ((((x1 * (-7046029254386353131 : Int64)).toUInt64 >>> ((60 : Int32) &&& 0x3f).toInt64.toUInt64).toInt64).toInt32))]) rfl) ?_
    show Runs p e below s _ _ _ (Tf14_4.setTop (mkF m 21 #[.val (.ref x0), .val (.long x1), .second, .val (.int ((16 : Int32) - (1 : Int32))), .val (.int ((((x1 * (-7046029254386353131 : Int64)).toUInt64 >>> ((60 : Int32) &&& 0x3f).toInt64.toUInt64).toInt64).toInt32))] []))
    refine Runs.go (fun _ => XS.aloadN Xf14_4.here hx rfl (hb hby d10_21) rfl rfl) ?_
    show Runs p e below s _ _ _ (Tf14_4.setTop (mkF m 22 #[.val (.ref x0), .val (.long x1), .second, .val (.int ((16 : Int32) - (1 : Int32))), .val (.int ((((x1 * (-7046029254386353131 : Int64)).toUInt64 >>> ((60 : Int32) &&& 0x3f).toInt64.toUInt64).toInt64).toInt32))] [(.ref x0)]))
    refine Runs.go (fun _ => XS.dup Xf14_4.here hx rfl (hb hby d10_22) rfl rfl) ?_
    show Runs p e below s _ _ _ (Tf14_4.setTop (mkF m 23 #[.val (.ref x0), .val (.long x1), .second, .val (.int ((16 : Int32) - (1 : Int32))), .val (.int ((((x1 * (-7046029254386353131 : Int64)).toUInt64 >>> ((60 : Int32) &&& 0x3f).toInt64.toUInt64).toInt64).toInt32))] [(.ref x0), (.ref x0)]))
    obtain ⟨Tf23_5, Xf23_5, ef23_5, stf23_5⟩ := getF Xf14_4 hx hZ hown (host := "") (Or.inl (hw _ (List.mem_of_getElem? (i := 55) rfl))) Via.refl ef14_4 Fsp (g := (mkF m 23 #[.val (.ref x0), .val (.long x1), .second, .val (.int ((16 : Int32) - (1 : Int32))), .val (.int ((((x1 * (-7046029254386353131 : Int64)).toUInt64 >>> ((60 : Int32) &&& 0x3f).toInt64.toUInt64).toInt64).toInt32))] [(.ref x0), (.ref x0)])) rfl rfl (hb hby d10_23)
    refine Runs.go stf23_5 ?_
    show Runs p e below s _ _ _ (Tf23_5.setTop (mkF m 26 #[.val (.ref x0), .val (.long x1), .second, .val (.int ((16 : Int32) - (1 : Int32))), .val (.int ((((x1 * (-7046029254386353131 : Int64)).toUInt64 >>> ((60 : Int32) &&& 0x3f).toInt64.toUInt64).toInt64).toInt32))] [(.long sp), (.ref x0)]))
    refine Runs.go (Xf23_5.ldc2Long hx hown (mvT hZ (hw _ (List.mem_of_getElem? (i := 66) rfl))) (g := (mkF m 26 #[.val (.ref x0), .val (.long x1), .second, .val (.int ((16 : Int32) - (1 : Int32))), .val (.int ((((x1 * (-7046029254386353131 : Int64)).toUInt64 >>> ((60 : Int32) &&& 0x3f).toInt64.toUInt64).toInt64).toInt32))] [(.long sp), (.ref x0)])) rfl (hb hby d10_26)) ?_
    show Runs p e below s _ _ _ (Tf23_5.setTop (mkF m 29 #[.val (.ref x0), .val (.long x1), .second, .val (.int ((16 : Int32) - (1 : Int32))), .val (.int ((((x1 * (-7046029254386353131 : Int64)).toUInt64 >>> ((60 : Int32) &&& 0x3f).toInt64.toUInt64).toInt64).toInt32))] [(.long (4 : Int64)), (.long sp), (.ref x0)]))
    refine Runs.go (fun _ => XS.ladd Xf23_5.here hx rfl (hb hby d10_29) rfl) ?_
    show Runs p e below s _ _ _ (Tf23_5.setTop (mkF m 30 #[.val (.ref x0), .val (.long x1), .second, .val (.int ((16 : Int32) - (1 : Int32))), .val (.int ((((x1 * (-7046029254386353131 : Int64)).toUInt64 >>> ((60 : Int32) &&& 0x3f).toInt64.toUInt64).toInt64).toInt32))] [(.long (sp + (4 : Int64))), (.ref x0)]))
    obtain ⟨Tp30_6, hp30_6, Xp30_6, ep30_6, Wp30_6, stp30_6⟩ := putF Xf23_5 hx hZ hown (host := "") (Or.inl (hw _ (List.mem_of_getElem? (i := 55) rfl))) Via.refl ef23_5 Fsp E0 (Or.inl (hw _ (List.mem_of_getElem? (i := 56) rfl))) (hw _ (List.mem_of_getElem? (i := 1) rfl)) (ty := .long) (by decide) rfl rfl (g := (mkF m 30 #[.val (.ref x0), .val (.long x1), .second, .val (.int ((16 : Int32) - (1 : Int32))), .val (.int ((((x1 * (-7046029254386353131 : Int64)).toUInt64 >>> ((60 : Int32) &&& 0x3f).toInt64.toUInt64).toInt64).toInt32))] [(.long (sp + (4 : Int64))), (.ref x0)])) rfl rfl (hb hby d10_30)
    refine Runs.go stp30_6 ?_
    have Fwp30_6 := Fsp.same Wp30_6
    have hnp30_6 : n0 ≤ hp30_6.size := by rw [Wr.size Wp30_6]; exact hn0
    have E0_p30_6 := E0.wr Wp30_6
    have Fsz_p30_6 := Fsz.other Wp30_6 (Or.inr (slot_ne (Or.inl (hw _ (List.mem_of_getElem? (i := 31) rfl))) (Or.inl (hw _ (List.mem_of_getElem? (i := 56) rfl))) (by decide) (t := .int) (t' := .long) (by decide) (by decide)))
    have Fsh_p30_6 := Fsh.other Wp30_6 (Or.inr (slot_ne (Or.inl (hw _ (List.mem_of_getElem? (i := 29) rfl))) (Or.inl (hw _ (List.mem_of_getElem? (i := 56) rfl))) (by decide) (t := .int) (t' := .long) (by decide) (by decide)))
    have Fk_p30_6 := Fk.other Wp30_6 (Or.inr (slot_ne (Or.inl (hw _ (List.mem_of_getElem? (i := 54) rfl))) (Or.inl (hw _ (List.mem_of_getElem? (i := 56) rfl))) (by decide) (t := (.array .long)) (t' := .long) (by decide) (by decide)))
    have Fi_p30_6 := Fi.other Wp30_6 (Or.inr (slot_ne (Or.inl (hw _ (List.mem_of_getElem? (i := 11) rfl))) (Or.inl (hw _ (List.mem_of_getElem? (i := 56) rfl))) (by decide) (t := (.array .long)) (t' := .long) (by decide) (by decide)))
    have Fs_p30_6 := Fs.other Wp30_6 (Or.inr (slot_ne (Or.inl (hw _ (List.mem_of_getElem? (i := 18) rfl))) (Or.inl (hw _ (List.mem_of_getElem? (i := 56) rfl))) (by decide) (t := (.array .int)) (t' := .long) (by decide) (by decide)))
    have V1_p30_6 := V1.other Wp30_6 (Ne.symm n1)
    have V2_p30_6 := V2.other Wp30_6 (Ne.symm n2)
    have Kp30_6 : Keep h0 hp30_6 [x0] := (Keep.refl h0 [x0]).wr Wp30_6 (Or.inl (List.mem_of_getElem? (i := 0) rfl))
    have Np30_6 := Fr.snoc Xp30_6 Nc10_3 ga
    show Runs p e below s _ _ _ (Tp30_6.setTop (mkF m 33 #[.val (.ref x0), .val (.long x1), .second, .val (.int ((16 : Int32) - (1 : Int32))), .val (.int ((((x1 * (-7046029254386353131 : Int64)).toUInt64 >>> ((60 : Int32) &&& 0x3f).toInt64.toUInt64).toInt64).toInt32))] []))
    have EI_7 : EI Z hp30_6 n0 x0 b1 b2 sz (sp + (4 : Int64)) I S := ⟨E0_p30_6, ga, Fsz_p30_6, Fwp30_6, Fsh_p30_6, Fk_p30_6, _, _, g1, g2, n1, n2, n3, Fi_p30_6, Fs_p30_6, V1_p30_6, V2_p30_6⟩
    exact k_33 16 _ _ _ Xp30_6 ep30_6 Np30_6 (sp + (4 : Int64)) ((((x1 * (-7046029254386353131 : Int64)).toUInt64 >>> ((60 : Int32) &&& 0x3f).toInt64.toUInt64).toInt64).toInt32) EI_7 Kp30_6 hI0 hv
  exact k_0 _ X0 e0 (Fr.nil n0) hF
theorem d9_0 : decode prog_8_method_2_code 0 = .ok (.aload_n 0, 1) := by decide +kernel
theorem d9_1 : decode prog_8_method_2_code 1 = .ok (.getfield 21, 3) := by decide +kernel
theorem d9_4 : decode prog_8_method_2_code 4 = .ok (.ifnonnull 43, 3) := by decide +kernel
theorem d9_7 : decode prog_8_method_2_code 7 = .ok (.aload_n 0, 1) := by decide +kernel
theorem d9_8 : decode prog_8_method_2_code 8 = .ok (.getfield 24, 3) := by decide +kernel
theorem d9_11 : decode prog_8_method_2_code 11 = .ok (.lconst 0, 1) := by decide +kernel
theorem d9_12 : decode prog_8_method_2_code 12 = .ok (.lcmp, 1) := by decide +kernel
theorem d9_13 : decode prog_8_method_2_code 13 = .ok (.ifCond .ge 34, 3) := by decide +kernel
theorem d9_47 : decode prog_8_method_2_code 47 = .ok (.aload_n 0, 1) := by decide +kernel
theorem d9_48 : decode prog_8_method_2_code 48 = .ok (.lload_n 1, 1) := by decide +kernel
theorem d9_49 : decode prog_8_method_2_code 49 = .ok (.invokevirtual 47, 3) := by decide +kernel
theorem d9_52 : decode prog_8_method_2_code 52 = .ok (.istore_n 3, 1) := by decide +kernel
theorem d9_53 : decode prog_8_method_2_code 53 = .ok (.aload_n 0, 1) := by decide +kernel
theorem d9_54 : decode prog_8_method_2_code 54 = .ok (.getfield 43, 3) := by decide +kernel
theorem d9_57 : decode prog_8_method_2_code 57 = .ok (.iload_n 3, 1) := by decide +kernel
theorem d9_58 : decode prog_8_method_2_code 58 = .ok (.iaload, 1) := by decide +kernel
theorem d9_59 : decode prog_8_method_2_code 59 = .ok (.iconst (-1), 1) := by decide +kernel
theorem d9_60 : decode prog_8_method_2_code 60 = .ok (.if_icmp .eq 10, 3) := by decide +kernel
theorem d9_63 : decode prog_8_method_2_code 63 = .ok (.aload_n 0, 1) := by decide +kernel
theorem d9_64 : decode prog_8_method_2_code 64 = .ok (.getfield 43, 3) := by decide +kernel
theorem d9_67 : decode prog_8_method_2_code 67 = .ok (.iload_n 3, 1) := by decide +kernel
theorem d9_68 : decode prog_8_method_2_code 68 = .ok (.iaload, 1) := by decide +kernel
theorem d9_69 : decode prog_8_method_2_code 69 = .ok (.ireturn, 1) := by decide +kernel
theorem d9_70 : decode prog_8_method_2_code 70 = .ok (.aload_n 0, 1) := by decide +kernel
theorem d9_71 : decode prog_8_method_2_code 71 = .ok (.getfield 51, 3) := by decide +kernel
theorem d9_74 : decode prog_8_method_2_code 74 = .ok (.aload_n 0, 1) := by decide +kernel
theorem d9_75 : decode prog_8_method_2_code 75 = .ok (.getfield 13, 3) := by decide +kernel
theorem d9_78 : decode prog_8_method_2_code 78 = .ok (.arraylength, 1) := by decide +kernel
theorem d9_79 : decode prog_8_method_2_code 79 = .ok (.if_icmp .ne 13, 3) := by decide +kernel
theorem d9_92 : decode prog_8_method_2_code 92 = .ok (.aload_n 0, 1) := by decide +kernel
theorem d9_93 : decode prog_8_method_2_code 93 = .ok (.getfield 13, 3) := by decide +kernel
theorem d9_96 : decode prog_8_method_2_code 96 = .ok (.aload_n 0, 1) := by decide +kernel
theorem d9_97 : decode prog_8_method_2_code 97 = .ok (.getfield 51, 3) := by decide +kernel
theorem d9_100 : decode prog_8_method_2_code 100 = .ok (.lload_n 1, 1) := by decide +kernel
theorem d9_101 : decode prog_8_method_2_code 101 = .ok (.lastore, 1) := by decide +kernel
theorem d9_102 : decode prog_8_method_2_code 102 = .ok (.aload_n 0, 1) := by decide +kernel
theorem d9_103 : decode prog_8_method_2_code 103 = .ok (.getfield 43, 3) := by decide +kernel
theorem d9_106 : decode prog_8_method_2_code 106 = .ok (.iload_n 3, 1) := by decide +kernel
theorem d9_107 : decode prog_8_method_2_code 107 = .ok (.aload_n 0, 1) := by decide +kernel
theorem d9_108 : decode prog_8_method_2_code 108 = .ok (.getfield 51, 3) := by decide +kernel
theorem d9_111 : decode prog_8_method_2_code 111 = .ok (.iastore, 1) := by decide +kernel
theorem d9_112 : decode prog_8_method_2_code 112 = .ok (.aload_n 0, 1) := by decide +kernel
theorem d9_113 : decode prog_8_method_2_code 113 = .ok (.dup, 1) := by decide +kernel
theorem d9_114 : decode prog_8_method_2_code 114 = .ok (.getfield 51, 3) := by decide +kernel
theorem d9_117 : decode prog_8_method_2_code 117 = .ok (.dup_x1, 1) := by decide +kernel
theorem d9_118 : decode prog_8_method_2_code 118 = .ok (.iconst 1, 1) := by decide +kernel
theorem d9_119 : decode prog_8_method_2_code 119 = .ok (.iadd, 1) := by decide +kernel
theorem d9_120 : decode prog_8_method_2_code 120 = .ok (.putfield 51, 3) := by decide +kernel
theorem d9_123 : decode prog_8_method_2_code 123 = .ok (.ireturn, 1) := by decide +kernel
theorem pn_9 : plainName "com/example/quillon/quillon/core/ElementIds" = true := by first | (simp [plainName, overriddenIn]; done) | decide +kernel
theorem ef_9 (m : MethodId) (x0 : Addr) (x1 : Int64) : entryFrame m #[(.ref x0), (.long x1)] 4 = mkF m 0 #[.val (.ref x0), .val (.long x1), .second, .unset] [] := by first | (simp [entryFrame, mkF, argsToLocals, Value.category]; done) | rfl
set_option maxRecDepth 65536 in
set_option maxHeartbeats 40000000 in
theorem rm9 (l : Launch) (Z : State) (a0 : Array Value) (hw : ∀ d ∈ tables_1, d.before a0 Z = true) (ws : List Jvm.Cond) (x0 b1 b2 : Addr) (x1 : Int64) (sz : Int32) (sp : Int64) (I : List Int64) (S : List Int32) (h0 : Heap) (n0 : Nat) (hn0 : n0 ≤ h0.size) (G0 : EI Z h0 n0 x0 b1 b2 sz sp I S) (hT : TI sz sp I S x1) :
    MetFree l (⟨"com/example/quillon/quillon/core/ElementIds", "indexOf", "(J)I"⟩ : MethodName) (head1 (Jvm.Cond.code (⟨"com/example/quillon/quillon/core/ElementIds", "indexOf", "(J)I"⟩ : MethodName) prog_8_method_2_code 4 (some .int) :: ws) ({ frames := 2, cells := 0, slots := 0, locals := 33 } : Room)) (fun a U => a = #[(.ref x0), (.long x1)] ∧ Z.Warmed39 U.vm ∧ U.heap = h0) (fun _ _ _ _ _ => True) (fun _ U o U' => ∃ v L, o = .returned v ∧ QX Z n0 x0 b1 b2 h0 (F9 x1 sz sp I S) v U'.heap L ∧ FrameEnd U o U' L ({ frames := 2, cells := 0, slots := 0, locals := 33 } : Room).cells ({ frames := 2, cells := 0, slots := 0, locals := 33 } : Room).slots) := by
  refine MetFree.of_bodySF (plainFor_of_name pn_9) hisR ?_
  intro p e s m args below meth c s₁ Bd hml0 hP hK
  obtain ⟨rfl, hZ, hh⟩ := hP
  have hx := Bd.exec
  have hby := Bd.bytes
  have hml : c.maxLocals = 4 := hml0
  have hown : s.vm.findClass "com/example/quillon/quillon/core/ElementIds" = some m.cls := findClass_of_methodNamed Bd.named
  have hnm := (name_of_methodNamed Bd.named Bd.method).1
  have X0 : Stand p l e ({ frames := 2, cells := 0, slots := 0, locals := 33 } : Room) s m #[(.ref x0), (.long x1)] below meth c s₁ [] 0 0 := Stand.of_body Bd
  have e0 : s₁.heap = h0 := by rw [← hh, Bd.state]; rfl
  have G := G0
  obtain ⟨E0, ga, Fsz, Fsp, Fsh, Fk, k1, k2, g1, g2, n1, n2, n3, Fi, Fs, V1, V2⟩ := G
  show Runs p e below s (QX Z n0 x0 b1 b2 h0 (F9 x1 sz sp I S)) ({ frames := 2, cells := 0, slots := 0, locals := 33 } : Room).cells ({ frames := 2, cells := 0, slots := 0, locals := 33 } : Room).slots (s₁.setTop (entryFrame m #[(.ref x0), (.long x1)] 4))
  rw [ef_9 m x0 x1]
  obtain ⟨r, hF⟩ : ∃ r, F9 x1 sz sp I S = r := ⟨_, rfl⟩
  rw [hF]
  have k_0 : ∀ (T : State) (X : Stand p l e ({ frames := 2, cells := 0, slots := 0, locals := 33 } : Room) s m #[(.ref x0), (.long x1)] below meth c T [] 0 0) (eT : T.heap = h0) (N : Fr n0 []), f9_0 x1 sz sp I S = r → Runs p e below s (QX Z n0 x0 b1 b2 h0 r) ({ frames := 2, cells := 0, slots := 0, locals := 33 } : Room).cells ({ frames := 2, cells := 0, slots := 0, locals := 33 } : Room).slots (T.setTop (mkF m 0 #[.val (.ref x0), .val (.long x1), .second, .unset] [])) := by
    intro T X eT N  hv
    unfold f9_0 at hv
    refine Runs.go (fun _ => XS.aloadN X.here hx rfl (hb hby d9_0) rfl rfl) ?_
    show Runs p e below s _ _ _ (T.setTop (mkF m 1 #[.val (.ref x0), .val (.long x1), .second, .unset] [(.ref x0)]))
    obtain ⟨Tf1_1, Xf1_1, ef1_1, stf1_1⟩ := getF X hx hZ hown (host := "") (Or.inl (hw _ (List.mem_of_getElem? (i := 53) rfl))) Via.refl eT Fk (g := (mkF m 1 #[.val (.ref x0), .val (.long x1), .second, .unset] [(.ref x0)])) rfl rfl (hb hby d9_1)
    refine Runs.go stf1_1 ?_
    show Runs p e below s _ _ _ (Tf1_1.setTop (mkF m 4 #[.val (.ref x0), .val (.long x1), .second, .unset] [.null]))
    refine Runs.go (fun _ => XS.ifnonnullNo Xf1_1.here hx rfl (hb hby d9_4) rfl) ?_
    show Runs p e below s _ _ _ (Tf1_1.setTop (mkF m 7 #[.val (.ref x0), .val (.long x1), .second, .unset] []))
    refine Runs.go (fun _ => XS.aloadN Xf1_1.here hx rfl (hb hby d9_7) rfl rfl) ?_
    show Runs p e below s _ _ _ (Tf1_1.setTop (mkF m 8 #[.val (.ref x0), .val (.long x1), .second, .unset] [(.ref x0)]))
    obtain ⟨Tf8_2, Xf8_2, ef8_2, stf8_2⟩ := getF Xf1_1 hx hZ hown (host := "") (Or.inl (hw _ (List.mem_of_getElem? (i := 55) rfl))) Via.refl ef1_1 Fsp (g := (mkF m 8 #[.val (.ref x0), .val (.long x1), .second, .unset] [(.ref x0)])) rfl rfl (hb hby d9_8)
    refine Runs.go stf8_2 ?_
    show Runs p e below s _ _ _ (Tf8_2.setTop (mkF m 11 #[.val (.ref x0), .val (.long x1), .second, .unset] [(.long sp)]))
    refine Runs.go (fun _ => XS.lconst Xf8_2.here hx rfl (hb hby d9_11)) ?_
    show Runs p e below s _ _ _ (Tf8_2.setTop (mkF m 12 #[.val (.ref x0), .val (.long x1), .second, .unset] [(.long (0 : Int64)), (.long sp)]))
    refine Runs.go (fun _ => XS.lcmp Xf8_2.here hx rfl (hb hby d9_12) rfl) ?_
    show Runs p e below s _ _ _ (Tf8_2.setTop (mkF m 13 #[.val (.ref x0), .val (.long x1), .second, .unset] [(.int (lcmpW sp (0 : Int64)))]))
    refine Runs.go (fun _ => XS.ifYes Xf8_2.here hx rfl (pc0 := 13) (pc' := 47) rfl (hb hby d9_13) rfl ((if0 _ _).trans (flt ((hT.nonneg) : ¬ ((lcmpW sp (0 : Int64)) < (0 : Int32)))).2.1) (by decide) (by decide)) ?_
    show Runs p e below s _ _ _ (Tf8_2.setTop (mkF m 47 #[.val (.ref x0), .val (.long x1), .second, .unset] []))
    refine Runs.go (fun _ => XS.aloadN Xf8_2.here hx rfl (hb hby d9_47) rfl rfl) ?_
    show Runs p e below s _ _ _ (Tf8_2.setTop (mkF m 48 #[.val (.ref x0), .val (.long x1), .second, .unset] [(.ref x0)]))
    refine Runs.go (fun _ => XS.lloadN Xf8_2.here hx rfl (hb hby d9_48) rfl) ?_
    show Runs p e below s _ _ _ (Tf8_2.setTop (mkF m 49 #[.val (.ref x0), .val (.long x1), .second, .unset] [(.long x1), (.ref x0)]))
    obtain ⟨cqc49_3, qc49_3, qc49_3'⟩ := E0.cell
    obtain ⟨_, _, ⟨Tc49_3, Lc49_3, kc49_3, nc49_3⟩, -, Xc49_3, ⟨Lcc49_3, hQc49_3, lc49_3, yc49_3, zc49_3⟩, stc49_3⟩ := Xf8_2.privateBack hx (y := (⟨"com/example/quillon/quillon/core/ElementIds", "slotOf", "(J)I"⟩ : MethodName)) hown (mvT hZ (hw _ (List.mem_of_getElem? (i := 57) rfl))) (mvT hZ (hw _ (List.mem_of_getElem? (i := 58) rfl))) (mvT hZ (own_sel (hw _ (List.mem_of_getElem? (i := 1) rfl)) (hw _ (List.mem_of_getElem? (i := 59) rfl)) (hw _ (List.mem_of_getElem? (i := 58) rfl)) (by decide))) (Cond.privateMethod_at (mvP hZ (hw _ (List.mem_of_getElem? (i := 59) rfl)) (args := #[]))) (mvT hZ (hw _ (List.mem_of_getElem? (i := 60) rfl))) (by decide) (backOf (W := 0) (rm10 l Z a0 hw [] x0 b1 b2 x1 sz sp I S h0 n0 hn0 G0 hT.valid hT.sinv) hZ (hw _ (List.mem_of_getElem? (i := 60) rfl)) (hw _ (List.mem_of_getElem? (i := 2) rfl)) (by decide) (by decide)) (g := (mkF m 49 #[.val (.ref x0), .val (.long x1), .second, .unset] [(.long x1), (.ref x0)])) rfl (by rw [hml]; rfl) (Steps.refl _) (a := x0) (by rw [ef8_2]; exact qc49_3) qc49_3' (argsL := [(.long x1)]) (rest := []) (lenOf pd_8 rfl) rfl (by show 2 * 0 + _ ≤ _; exact Nat.le_of_eq rfl) (hb hby d9_49) (fun _ _ => ⟨rfl, ef8_2, (by decide : 0 + 0 ≤ _), (by decide : 0 + 0 ≤ _)⟩)
    dsimp only [Pt.U, Pt.locs, Pt.cells, Pt.slots] at Xc49_3 lc49_3 yc49_3 zc49_3 stc49_3 hQc49_3
    subst lc49_3 yc49_3 zc49_3
    obtain ⟨rfl, Nc49_3q, Kc49_3, Gc49_3⟩ := hQc49_3
    refine Runs.go (fun _ => stc49_3.trans) ?_
    have Nc49_3 := Fr.app N Nc49_3q
    have KK : Keep h0 Tc49_3.heap [x0, b1, b2] := (Keep.refl h0 [x0, b1, b2]).trans Kc49_3 (fun x hx => Or.inl (List.mem_cons.mpr (Or.inl (List.mem_singleton.mp hx))))
    obtain ⟨E0q, gaq, Fszq, Fspq, Fshq, Fkq, k1q, k2q, g1q, g2q, n1q, n2q, n3q, Fiq, Fsq, V1q, V2q⟩ := Gc49_3
    show Runs p e below s _ _ _ (Tc49_3.setTop (mkF m 52 #[.val (.ref x0), .val (.long x1), .second, .unset] [(.int (F10 x1 sz sp I S).1)]))
    refine Runs.go (fun _ => XS.istoreN Xc49_3.here hx rfl (hb hby d9_52) rfl (l' := #[.val (.ref x0), .val (.long x1), .second, .val (.int (F10 x1 sz sp I S).1)]) rfl) ?_
    show Runs p e below s _ _ _ (Tc49_3.setTop (mkF m 53 #[.val (.ref x0), .val (.long x1), .second, .val (.int (F10 x1 sz sp I S).1)] []))
    refine Runs.go (fun _ => XS.aloadN Xc49_3.here hx rfl (hb hby d9_53) rfl rfl) ?_
    show Runs p e below s _ _ _ (Tc49_3.setTop (mkF m 54 #[.val (.ref x0), .val (.long x1), .second, .val (.int (F10 x1 sz sp I S).1)] [(.ref x0)]))
    obtain ⟨Tf54_4, Xf54_4, ef54_4, stf54_4⟩ := getF Xc49_3 hx hZ hown (host := "") (Or.inl (hw _ (List.mem_of_getElem? (i := 17) rfl))) Via.refl rfl Fsq (g := (mkF m 54 #[.val (.ref x0), .val (.long x1), .second, .val (.int (F10 x1 sz sp I S).1)] [(.ref x0)])) rfl rfl (hb hby d9_54)
    refine Runs.go stf54_4 ?_
    show Runs p e below s _ _ _ (Tf54_4.setTop (mkF m 57 #[.val (.ref x0), .val (.long x1), .second, .val (.int (F10 x1 sz sp I S).1)] [(.ref b2)]))
    refine Runs.go (fun _ => XS.iloadN Xf54_4.here hx rfl (hb hby d9_57) rfl) ?_
    show Runs p e below s _ _ _ (Tf54_4.setTop (mkF m 58 #[.val (.ref x0), .val (.long x1), .second, .val (.int (F10 x1 sz sp I S).1)] [(.int (F10 x1 sz sp I S).1), (.ref b2)]))
    have VCr58_5 := V2q
    obtain ⟨clr58_5, Arr58_5, -, Sr58_5, Mr58_5, Hr58_5, -⟩ := VCr58_5
    have hinr58_5 : ¬ ((F10 x1 sz sp I S).1 < 0 ∨ clr58_5.slots.size ≤ ((F10 x1 sz sp I S).1).toNatClampNeg) := inb_of Sr58_5 hT.slot
    have hatr58_5 : clr58_5.slots[((F10 x1 sz sp I S).1).toNatClampNeg]? = some (.int (own_at S (F10 x1 sz sp I S).1)) := Has.at Hr58_5 hinr58_5 (own_getD _ _)
    refine Runs.go (Xf54_4.iaload hx (j := (F10 x1 sz sp I S).1) (v := (.int (own_at S (F10 x1 sz sp I S).1))) (by rw [ef54_4]; exact Arr58_5.1) (State.isArrayOf_alike hZ.alike Arr58_5.2.1) Arr58_5.2.2 hinr58_5 hatr58_5 (g := (mkF m 58 #[.val (.ref x0), .val (.long x1), .second, .val (.int (F10 x1 sz sp I S).1)] [(.int (F10 x1 sz sp I S).1), (.ref b2)])) rfl rfl (hb hby d9_58)) ?_
    show Runs p e below s _ _ _ (Tf54_4.setTop (mkF m 59 #[.val (.ref x0), .val (.long x1), .second, .val (.int (F10 x1 sz sp I S).1)] [(.int (own_at S (F10 x1 sz sp I S).1))]))
    refine Runs.go (fun _ => XS.iconst Xf54_4.here hx rfl (hb hby d9_59)) ?_
    show Runs p e below s _ _ _ (Tf54_4.setTop (mkF m 60 #[.val (.ref x0), .val (.long x1), .second, .val (.int (F10 x1 sz sp I S).1)] [(.int (-1 : Int32)), (.int (own_at S (F10 x1 sz sp I S).1))]))
    by_cases hc60 : (own_at S (F10 x1 sz sp I S).1) = (-1 : Int32)
    · have hv := (if_pos hc60).symm.trans hv
      refine Runs.go (fun _ => XS.icmpYes Xf54_4.here hx rfl (pc0 := 60) (pc' := 70) rfl (hb hby d9_60) rfl (teq hc60).1 (by decide) (by decide)) ?_
      show Runs p e below s _ _ _ (Tf54_4.setTop (mkF m 70 #[.val (.ref x0), .val (.long x1), .second, .val (.int (F10 x1 sz sp I S).1)] []))
      refine Runs.go (fun _ => XS.aloadN Xf54_4.here hx rfl (hb hby d9_70) rfl rfl) ?_
      show Runs p e below s _ _ _ (Tf54_4.setTop (mkF m 71 #[.val (.ref x0), .val (.long x1), .second, .val (.int (F10 x1 sz sp I S).1)] [(.ref x0)]))
      obtain ⟨Tf71_6, Xf71_6, ef71_6, stf71_6⟩ := getF Xf54_4 hx hZ hown (host := "") (Or.inl (hw _ (List.mem_of_getElem? (i := 30) rfl))) Via.refl ef54_4 Fszq (g := (mkF m 71 #[.val (.ref x0), .val (.long x1), .second, .val (.int (F10 x1 sz sp I S).1)] [(.ref x0)])) rfl rfl (hb hby d9_71)
      refine Runs.go stf71_6 ?_
      show Runs p e below s _ _ _ (Tf71_6.setTop (mkF m 74 #[.val (.ref x0), .val (.long x1), .second, .val (.int (F10 x1 sz sp I S).1)] [(.int sz)]))
      refine Runs.go (fun _ => XS.aloadN Xf71_6.here hx rfl (hb hby d9_74) rfl rfl) ?_
      show Runs p e below s _ _ _ (Tf71_6.setTop (mkF m 75 #[.val (.ref x0), .val (.long x1), .second, .val (.int (F10 x1 sz sp I S).1)] [(.ref x0), (.int sz)]))
      obtain ⟨Tf75_7, Xf75_7, ef75_7, stf75_7⟩ := getF Xf71_6 hx hZ hown (host := "") (Or.inl (hw _ (List.mem_of_getElem? (i := 10) rfl))) Via.refl ef71_6 Fiq (g := (mkF m 75 #[.val (.ref x0), .val (.long x1), .second, .val (.int (F10 x1 sz sp I S).1)] [(.ref x0), (.int sz)])) rfl rfl (hb hby d9_75)
      refine Runs.go stf75_7 ?_
      show Runs p e below s _ _ _ (Tf75_7.setTop (mkF m 78 #[.val (.ref x0), .val (.long x1), .second, .val (.int (F10 x1 sz sp I S).1)] [(.ref b1), (.int sz)]))
      have VCl78_8 := V1q
      obtain ⟨cll78_8, Arl78_8, -, Sl78_8, Ml78_8, -, -⟩ := VCl78_8
      refine Runs.go (Xf75_7.arraylength hx (by rw [ef75_7]; exact Arl78_8.1) (State.isArrayOf_alike hZ.alike Arl78_8.2.1) (g := (mkF m 78 #[.val (.ref x0), .val (.long x1), .second, .val (.int (F10 x1 sz sp I S).1)] [(.ref b1), (.int sz)])) rfl rfl (hb hby d9_78)) ?_
      rw [len_of Sl78_8 Ml78_8]
      show Runs p e below s _ _ _ (Tf75_7.setTop (mkF m 79 #[.val (.ref x0), .val (.long x1), .second, .val (.int (F10 x1 sz sp I S).1)] [(.int (8 : Int32)), (.int sz)]))
      refine Runs.go (fun _ => XS.icmpYes Xf75_7.here hx rfl (pc0 := 79) (pc' := 92) rfl (hb hby d9_79) rfl (feq ((hT.not8) : ¬ (sz = (8 : Int32)))).2 (by decide) (by decide)) ?_
      show Runs p e below s _ _ _ (Tf75_7.setTop (mkF m 92 #[.val (.ref x0), .val (.long x1), .second, .val (.int (F10 x1 sz sp I S).1)] []))
      refine Runs.go (fun _ => XS.aloadN Xf75_7.here hx rfl (hb hby d9_92) rfl rfl) ?_
      show Runs p e below s _ _ _ (Tf75_7.setTop (mkF m 93 #[.val (.ref x0), .val (.long x1), .second, .val (.int (F10 x1 sz sp I S).1)] [(.ref x0)]))
      obtain ⟨Tf93_9, Xf93_9, ef93_9, stf93_9⟩ := getF Xf75_7 hx hZ hown (host := "") (Or.inl (hw _ (List.mem_of_getElem? (i := 10) rfl))) Via.refl ef75_7 Fiq (g := (mkF m 93 #[.val (.ref x0), .val (.long x1), .second, .val (.int (F10 x1 sz sp I S).1)] [(.ref x0)])) rfl rfl (hb hby d9_93)
      refine Runs.go stf93_9 ?_
      show Runs p e below s _ _ _ (Tf93_9.setTop (mkF m 96 #[.val (.ref x0), .val (.long x1), .second, .val (.int (F10 x1 sz sp I S).1)] [(.ref b1)]))
      refine Runs.go (fun _ => XS.aloadN Xf93_9.here hx rfl (hb hby d9_96) rfl rfl) ?_
      show Runs p e below s _ _ _ (Tf93_9.setTop (mkF m 97 #[.val (.ref x0), .val (.long x1), .second, .val (.int (F10 x1 sz sp I S).1)] [(.ref x0), (.ref b1)]))
      obtain ⟨Tf97_10, Xf97_10, ef97_10, stf97_10⟩ := getF Xf93_9 hx hZ hown (host := "") (Or.inl (hw _ (List.mem_of_getElem? (i := 30) rfl))) Via.refl ef93_9 Fszq (g := (mkF m 97 #[.val (.ref x0), .val (.long x1), .second, .val (.int (F10 x1 sz sp I S).1)] [(.ref x0), (.ref b1)])) rfl rfl (hb hby d9_97)
      refine Runs.go stf97_10 ?_
      show Runs p e below s _ _ _ (Tf97_10.setTop (mkF m 100 #[.val (.ref x0), .val (.long x1), .second, .val (.int (F10 x1 sz sp I S).1)] [(.int sz), (.ref b1)]))
      refine Runs.go (fun _ => XS.lloadN Xf97_10.here hx rfl (hb hby d9_100) rfl) ?_
      show Runs p e below s _ _ _ (Tf97_10.setTop (mkF m 101 #[.val (.ref x0), .val (.long x1), .second, .val (.int (F10 x1 sz sp I S).1)] [(.long x1), (.int sz), (.ref b1)]))
      have VCw101_11 := V1q
      obtain ⟨clw101_11, Arw101_11, qw101_11, Sw101_11, Mw101_11, Hw101_11, Gw101_11⟩ := VCw101_11
      have hinw101_11 : ¬ (sz < 0 ∨ clw101_11.slots.size ≤ (sz).toNatClampNeg) := inb_of Sw101_11 hT.szin
      obtain ⟨Tw101_11, hw101_11, Xw101_11, ew101_11, Ww101_11, stw101_11⟩ := stJ Xf97_10 hx hZ ef97_10 Arw101_11 (j := sz) hinw101_11 (g := (mkF m 101 #[.val (.ref x0), .val (.long x1), .second, .val (.int (F10 x1 sz sp I S).1)] [(.long x1), (.int sz), (.ref b1)])) rfl rfl (hb hby d9_101)
      refine Runs.go stw101_11 ?_
      have hnw101_11 : n0 ≤ hw101_11.size := by rw [Wr.size Ww101_11]; exact (Nat.le_trans hn0 KK.1)
      have E0_w101_11 := E0q.wr Ww101_11
      have Fsz_w101_11 := Fszq.other Ww101_11 (Or.inl n1q)
      have Fsp_w101_11 := Fspq.other Ww101_11 (Or.inl n1q)
      have Fsh_w101_11 := Fshq.other Ww101_11 (Or.inl n1q)
      have Fk_w101_11 := Fkq.other Ww101_11 (Or.inl n1q)
      have Fi_w101_11 := Fiq.other Ww101_11 (Or.inl n1q)
      have Fs_w101_11 := Fsq.other Ww101_11 (Or.inl n1q)
      have V2_w101_11 := V2q.other Ww101_11 (Ne.symm n3q)
      have Kw101_11 : Keep h0 hw101_11 [x0, b1, b2] := KK.wr Ww101_11 (Or.inl (List.mem_of_getElem? (i := 1) rfl))
      have Vw101_11 : Arv Z hw101_11 b1 k1q .long (8 : Int32) (List.map Value.long (own_setJ I sz x1)) (.long (0 : Int64)) := by
        rw [own_setJ, List.map_set]; exact Arv.set Arw101_11 qw101_11 Sw101_11 Mw101_11 Hw101_11 Gw101_11 rfl Ww101_11 _ rfl (by rw [List.length_map]; exact hT.szlen)
      have Nw101_11 := Fr.snoc Xw101_11 Nc49_3 g1q
      show Runs p e below s _ _ _ (Tw101_11.setTop (mkF m 102 #[.val (.ref x0), .val (.long x1), .second, .val (.int (F10 x1 sz sp I S).1)] []))
      refine Runs.go (fun _ => XS.aloadN Xw101_11.here hx rfl (hb hby d9_102) rfl rfl) ?_
      show Runs p e below s _ _ _ (Tw101_11.setTop (mkF m 103 #[.val (.ref x0), .val (.long x1), .second, .val (.int (F10 x1 sz sp I S).1)] [(.ref x0)]))
      obtain ⟨Tf103_12, Xf103_12, ef103_12, stf103_12⟩ := getF Xw101_11 hx hZ hown (host := "") (Or.inl (hw _ (List.mem_of_getElem? (i := 17) rfl))) Via.refl ew101_11 Fs_w101_11 (g := (mkF m 103 #[.val (.ref x0), .val (.long x1), .second, .val (.int (F10 x1 sz sp I S).1)] [(.ref x0)])) rfl rfl (hb hby d9_103)
      refine Runs.go stf103_12 ?_
      show Runs p e below s _ _ _ (Tf103_12.setTop (mkF m 106 #[.val (.ref x0), .val (.long x1), .second, .val (.int (F10 x1 sz sp I S).1)] [(.ref b2)]))
      refine Runs.go (fun _ => XS.iloadN Xf103_12.here hx rfl (hb hby d9_106) rfl) ?_
      show Runs p e below s _ _ _ (Tf103_12.setTop (mkF m 107 #[.val (.ref x0), .val (.long x1), .second, .val (.int (F10 x1 sz sp I S).1)] [(.int (F10 x1 sz sp I S).1), (.ref b2)]))
      refine Runs.go (fun _ => XS.aloadN Xf103_12.here hx rfl (hb hby d9_107) rfl rfl) ?_
      show Runs p e below s _ _ _ (Tf103_12.setTop (mkF m 108 #[.val (.ref x0), .val (.long x1), .second, .val (.int (F10 x1 sz sp I S).1)] [(.ref x0), (.int (F10 x1 sz sp I S).1), (.ref b2)]))
      obtain ⟨Tf108_13, Xf108_13, ef108_13, stf108_13⟩ := getF Xf103_12 hx hZ hown (host := "") (Or.inl (hw _ (List.mem_of_getElem? (i := 30) rfl))) Via.refl ef103_12 Fsz_w101_11 (g := (mkF m 108 #[.val (.ref x0), .val (.long x1), .second, .val (.int (F10 x1 sz sp I S).1)] [(.ref x0), (.int (F10 x1 sz sp I S).1), (.ref b2)])) rfl rfl (hb hby d9_108)
      refine Runs.go stf108_13 ?_
      show Runs p e below s _ _ _ (Tf108_13.setTop (mkF m 111 #[.val (.ref x0), .val (.long x1), .second, .val (.int (F10 x1 sz sp I S).1)] [(.int sz), (.int (F10 x1 sz sp I S).1), (.ref b2)]))
      have VCw111_14 := V2_w101_11
      obtain ⟨clw111_14, Arw111_14, qw111_14, Sw111_14, Mw111_14, Hw111_14, Gw111_14⟩ := VCw111_14
      have hinw111_14 : ¬ ((F10 x1 sz sp I S).1 < 0 ∨ clw111_14.slots.size ≤ ((F10 x1 sz sp I S).1).toNatClampNeg) := inb_of Sw111_14 hT.slot
      obtain ⟨Tw111_14, hw111_14, Xw111_14, ew111_14, Ww111_14, stw111_14⟩ := stI Xf108_13 hx hZ ef108_13 Arw111_14 (j := (F10 x1 sz sp I S).1) hinw111_14 (g := (mkF m 111 #[.val (.ref x0), .val (.long x1), .second, .val (.int (F10 x1 sz sp I S).1)] [(.int sz), (.int (F10 x1 sz sp I S).1), (.ref b2)])) rfl rfl (hb hby d9_111)
      refine Runs.go stw111_14 ?_
      have hnw111_14 : n0 ≤ hw111_14.size := by rw [Wr.size Ww111_14]; exact hnw101_11
      have E0_w111_14 := E0_w101_11.wr Ww111_14
      have Fsz_w111_14 := Fsz_w101_11.other Ww111_14 (Or.inl n2q)
      have Fsp_w111_14 := Fsp_w101_11.other Ww111_14 (Or.inl n2q)
      have Fsh_w111_14 := Fsh_w101_11.other Ww111_14 (Or.inl n2q)
      have Fk_w111_14 := Fk_w101_11.other Ww111_14 (Or.inl n2q)
      have Fi_w111_14 := Fi_w101_11.other Ww111_14 (Or.inl n2q)
      have Fs_w111_14 := Fs_w101_11.other Ww111_14 (Or.inl n2q)
      have V1_w111_14 := Vw101_11.other Ww111_14 n3q
      have Kw111_14 : Keep h0 hw111_14 [x0, b1, b2] := Kw101_11.wr Ww111_14 (Or.inl (List.mem_of_getElem? (i := 2) rfl))
      have Vw111_14 : Arv Z hw111_14 b2 k2q .int (16 : Int32) (List.map Value.int (own_set S (F10 x1 sz sp I S).1 sz)) (.int (0 : Int32)) := by
        rw [own_set, List.map_set]; exact Arv.set Arw111_14 qw111_14 Sw111_14 Mw111_14 Hw111_14 Gw111_14 rfl Ww111_14 _ rfl (by rw [List.length_map]; exact hT.slotlen)
      have Nw111_14 := Fr.snoc Xw111_14 Nw101_11 g2q
      show Runs p e below s _ _ _ (Tw111_14.setTop (mkF m 112 #[.val (.ref x0), .val (.long x1), .second, .val (.int (F10 x1 sz sp I S).1)] []))
      refine Runs.go (fun _ => XS.aloadN Xw111_14.here hx rfl (hb hby d9_112) rfl rfl) ?_
      show Runs p e below s _ _ _ (Tw111_14.setTop (mkF m 113 #[.val (.ref x0), .val (.long x1), .second, .val (.int (F10 x1 sz sp I S).1)] [(.ref x0)]))
      refine Runs.go (fun _ => XS.dup Xw111_14.here hx rfl (hb hby d9_113) rfl rfl) ?_
      show Runs p e below s _ _ _ (Tw111_14.setTop (mkF m 114 #[.val (.ref x0), .val (.long x1), .second, .val (.int (F10 x1 sz sp I S).1)] [(.ref x0), (.ref x0)]))
      obtain ⟨Tf114_15, Xf114_15, ef114_15, stf114_15⟩ := getF Xw111_14 hx hZ hown (host := "") (Or.inl (hw _ (List.mem_of_getElem? (i := 30) rfl))) Via.refl ew111_14 Fsz_w111_14 (g := (mkF m 114 #[.val (.ref x0), .val (.long x1), .second, .val (.int (F10 x1 sz sp I S).1)] [(.ref x0), (.ref x0)])) rfl rfl (hb hby d9_114)
      refine Runs.go stf114_15 ?_
      show Runs p e below s _ _ _ (Tf114_15.setTop (mkF m 117 #[.val (.ref x0), .val (.long x1), .second, .val (.int (F10 x1 sz sp I S).1)] [(.int sz), (.ref x0)]))
      refine Runs.go (fun _ => XS.dupX1 Xf114_15.here hx rfl (hb hby d9_117) rfl rfl rfl) ?_
      show Runs p e below s _ _ _ (Tf114_15.setTop (mkF m 118 #[.val (.ref x0), .val (.long x1), .second, .val (.int (F10 x1 sz sp I S).1)] [(.int sz), (.ref x0), (.int sz)]))
      refine Runs.go (fun _ => XS.iconst Xf114_15.here hx rfl (hb hby d9_118)) ?_
      show Runs p e below s _ _ _ (Tf114_15.setTop (mkF m 119 #[.val (.ref x0), .val (.long x1), .second, .val (.int (F10 x1 sz sp I S).1)] [(.int (1 : Int32)), (.int sz), (.ref x0), (.int sz)]))
      refine Runs.go (fun _ => XS.iadd Xf114_15.here hx rfl (hb hby d9_119) rfl) ?_
      show Runs p e below s _ _ _ (Tf114_15.setTop (mkF m 120 #[.val (.ref x0), .val (.long x1), .second, .val (.int (F10 x1 sz sp I S).1)] [(.int (sz + (1 : Int32))), (.ref x0), (.int sz)]))
      obtain ⟨Tp120_16, hp120_16, Xp120_16, ep120_16, Wp120_16, stp120_16⟩ := putF Xf114_15 hx hZ hown (host := "") (Or.inl (hw _ (List.mem_of_getElem? (i := 30) rfl))) Via.refl ef114_15 Fsz_w111_14 E0_w111_14 (Or.inl (hw _ (List.mem_of_getElem? (i := 31) rfl))) (hw _ (List.mem_of_getElem? (i := 1) rfl)) (ty := .int) (by decide) rfl rfl (g := (mkF m 120 #[.val (.ref x0), .val (.long x1), .second, .val (.int (F10 x1 sz sp I S).1)] [(.int (sz + (1 : Int32))), (.ref x0), (.int sz)])) rfl rfl (hb hby d9_120)
      refine Runs.go stp120_16 ?_
      have Fwp120_16 := Fsz_w111_14.same Wp120_16
      have hnp120_16 : n0 ≤ hp120_16.size := by rw [Wr.size Wp120_16]; exact hnw111_14
      have E0_p120_16 := E0_w111_14.wr Wp120_16
      have Fsp_p120_16 := Fsp_w111_14.other Wp120_16 (Or.inr (slot_ne (Or.inl (hw _ (List.mem_of_getElem? (i := 56) rfl))) (Or.inl (hw _ (List.mem_of_getElem? (i := 31) rfl))) (by decide) (t := .long) (t' := .int) (by decide) (by decide)))
      have Fsh_p120_16 := Fsh_w111_14.other Wp120_16 (Or.inr (slot_ne (Or.inl (hw _ (List.mem_of_getElem? (i := 29) rfl))) (Or.inl (hw _ (List.mem_of_getElem? (i := 31) rfl))) (by decide) (t := .int) (t' := .int) (by decide) (by decide)))
      have Fk_p120_16 := Fk_w111_14.other Wp120_16 (Or.inr (slot_ne (Or.inl (hw _ (List.mem_of_getElem? (i := 54) rfl))) (Or.inl (hw _ (List.mem_of_getElem? (i := 31) rfl))) (by decide) (t := (.array .long)) (t' := .int) (by decide) (by decide)))
      have Fi_p120_16 := Fi_w111_14.other Wp120_16 (Or.inr (slot_ne (Or.inl (hw _ (List.mem_of_getElem? (i := 11) rfl))) (Or.inl (hw _ (List.mem_of_getElem? (i := 31) rfl))) (by decide) (t := (.array .long)) (t' := .int) (by decide) (by decide)))
      have Fs_p120_16 := Fs_w111_14.other Wp120_16 (Or.inr (slot_ne (Or.inl (hw _ (List.mem_of_getElem? (i := 18) rfl))) (Or.inl (hw _ (List.mem_of_getElem? (i := 31) rfl))) (by decide) (t := (.array .int)) (t' := .int) (by decide) (by decide)))
      have V1_p120_16 := V1_w111_14.other Wp120_16 (Ne.symm n1q)
      have V2_p120_16 := Vw111_14.other Wp120_16 (Ne.symm n2q)
      have Kp120_16 : Keep h0 hp120_16 [x0, b1, b2] := Kw111_14.wr Wp120_16 (Or.inl (List.mem_of_getElem? (i := 0) rfl))
      have Np120_16 := Fr.snoc Xp120_16 Nw111_14 gaq
      show Runs p e below s _ _ _ (Tp120_16.setTop (mkF m 123 #[.val (.ref x0), .val (.long x1), .second, .val (.int (F10 x1 sz sp I S).1)] [(.int sz)]))
      subst hv
      exact Runs.endI Xp120_16 hx Bd.returns Bd.notSynchronized (hb hby d9_123) ⟨⟨_, rfl⟩, Np120_16, by rw [ep120_16]; exact Kp120_16, by rw [ep120_16]; exact ⟨E0_p120_16, gaq, Fwp120_16, Fsp_p120_16, Fsh_p120_16, Fk_p120_16, _, _, g1q, g2q, n1q, n2q, n3q, Fi_p120_16, Fs_p120_16, V1_p120_16, V2_p120_16⟩⟩ (by decide) (by decide)
    · have hv := (if_neg hc60).symm.trans hv
      refine Runs.go (fun _ => XS.icmpNo Xf54_4.here hx rfl (hb hby d9_60) rfl (feq hc60).1) ?_
      show Runs p e below s _ _ _ (Tf54_4.setTop (mkF m 63 #[.val (.ref x0), .val (.long x1), .second, .val (.int (F10 x1 sz sp I S).1)] []))
      refine Runs.go (fun _ => XS.aloadN Xf54_4.here hx rfl (hb hby d9_63) rfl rfl) ?_
      show Runs p e below s _ _ _ (Tf54_4.setTop (mkF m 64 #[.val (.ref x0), .val (.long x1), .second, .val (.int (F10 x1 sz sp I S).1)] [(.ref x0)]))
      obtain ⟨Tf64_17, Xf64_17, ef64_17, stf64_17⟩ := getF Xf54_4 hx hZ hown (host := "") (Or.inl (hw _ (List.mem_of_getElem? (i := 17) rfl))) Via.refl ef54_4 Fsq (g := (mkF m 64 #[.val (.ref x0), .val (.long x1), .second, .val (.int (F10 x1 sz sp I S).1)] [(.ref x0)])) rfl rfl (hb hby d9_64)
      refine Runs.go stf64_17 ?_
      show Runs p e below s _ _ _ (Tf64_17.setTop (mkF m 67 #[.val (.ref x0), .val (.long x1), .second, .val (.int (F10 x1 sz sp I S).1)] [(.ref b2)]))
      refine Runs.go (fun _ => XS.iloadN Xf64_17.here hx rfl (hb hby d9_67) rfl) ?_
      show Runs p e below s _ _ _ (Tf64_17.setTop (mkF m 68 #[.val (.ref x0), .val (.long x1), .second, .val (.int (F10 x1 sz sp I S).1)] [(.int (F10 x1 sz sp I S).1), (.ref b2)]))
      have VCr68_18 := V2q
      obtain ⟨clr68_18, Arr68_18, -, Sr68_18, Mr68_18, Hr68_18, -⟩ := VCr68_18
      have hinr68_18 : ¬ ((F10 x1 sz sp I S).1 < 0 ∨ clr68_18.slots.size ≤ ((F10 x1 sz sp I S).1).toNatClampNeg) := inb_of Sr68_18 hT.slot
      have hatr68_18 : clr68_18.slots[((F10 x1 sz sp I S).1).toNatClampNeg]? = some (.int (own_at S (F10 x1 sz sp I S).1)) := Has.at Hr68_18 hinr68_18 (own_getD _ _)
      refine Runs.go (Xf64_17.iaload hx (j := (F10 x1 sz sp I S).1) (v := (.int (own_at S (F10 x1 sz sp I S).1))) (by rw [ef64_17]; exact Arr68_18.1) (State.isArrayOf_alike hZ.alike Arr68_18.2.1) Arr68_18.2.2 hinr68_18 hatr68_18 (g := (mkF m 68 #[.val (.ref x0), .val (.long x1), .second, .val (.int (F10 x1 sz sp I S).1)] [(.int (F10 x1 sz sp I S).1), (.ref b2)])) rfl rfl (hb hby d9_68)) ?_
      show Runs p e below s _ _ _ (Tf64_17.setTop (mkF m 69 #[.val (.ref x0), .val (.long x1), .second, .val (.int (F10 x1 sz sp I S).1)] [(.int (own_at S (F10 x1 sz sp I S).1))]))
      subst hv
      exact Runs.endI Xf64_17 hx Bd.returns Bd.notSynchronized (hb hby d9_69) ⟨⟨_, rfl⟩, Nc49_3, by rw [ef64_17]; exact KK, by rw [ef64_17]; exact ⟨E0q, gaq, Fszq, Fspq, Fshq, Fkq, _, _, g1q, g2q, n1q, n2q, n3q, Fiq, Fsq, V1q, V2q⟩⟩ (by decide) (by decide)
  exact k_0 _ X0 e0 (Fr.nil n0) hF
theorem d7_0 : decode jdk_65_method_124_code 0 = .ok (.iload_n 1, 1) := by decide +kernel
theorem d7_1 : decode jdk_65_method_124_code 1 = .ok (.aload_n 0, 1) := by decide +kernel
theorem d7_2 : decode jdk_65_method_124_code 2 = .ok (.arraylength, 1) := by decide +kernel
theorem d7_3 : decode jdk_65_method_124_code 3 = .ok (.if_icmp .ne 11, 3) := by decide +kernel
theorem d7_14 : decode jdk_65_method_124_code 14 = .ok (.iload_n 1, 1) := by decide +kernel
theorem d7_15 : decode jdk_65_method_124_code 15 = .ok (.newarray .long, 2) := by decide +kernel
theorem d7_17 : decode jdk_65_method_124_code 17 = .ok (.astore_n 2, 1) := by decide +kernel
theorem d7_18 : decode jdk_65_method_124_code 18 = .ok (.aload_n 0, 1) := by decide +kernel
theorem d7_19 : decode jdk_65_method_124_code 19 = .ok (.iconst 0, 1) := by decide +kernel
theorem d7_20 : decode jdk_65_method_124_code 20 = .ok (.aload_n 2, 1) := by decide +kernel
theorem d7_21 : decode jdk_65_method_124_code 21 = .ok (.iconst 0, 1) := by decide +kernel
theorem d7_22 : decode jdk_65_method_124_code 22 = .ok (.aload_n 0, 1) := by decide +kernel
theorem d7_23 : decode jdk_65_method_124_code 23 = .ok (.arraylength, 1) := by decide +kernel
theorem d7_24 : decode jdk_65_method_124_code 24 = .ok (.iload_n 1, 1) := by decide +kernel
theorem d7_25 : decode jdk_65_method_124_code 25 = .ok (.invokestatic 304, 3) := by decide +kernel
theorem d7_28 : decode jdk_65_method_124_code 28 = .ok (.invokestatic 150, 3) := by decide +kernel
theorem d7_31 : decode jdk_65_method_124_code 31 = .ok (.aload_n 2, 1) := by decide +kernel
theorem d7_32 : decode jdk_65_method_124_code 32 = .ok (.areturn, 1) := by decide +kernel
theorem pn_7 : plainName "java/util/Arrays" = true := by first | (simp [plainName, overriddenIn]; done) | decide +kernel
theorem ef_7 (m : MethodId) (x0 : Addr) (x1 : Int32) : entryFrame m #[(.ref x0), (.int x1)] 3 = mkF m 0 #[.val (.ref x0), .val (.int x1), .unset] [] := by first | (simp [entryFrame, mkF, argsToLocals, Value.category]; done) | rfl
set_option maxRecDepth 65536 in
set_option maxHeartbeats 40000000 in
theorem rm7 (l : Launch) (Z : State) (a0 : Array Value) (hw : ∀ d ∈ tables_1, d.before a0 Z = true) (ws : List Jvm.Cond) (x0 : Addr) (x1 : Int32) (I : List Int64) (k0 : ClassId) (h0 : Heap) (n0 : Nat) (hn0 : n0 ≤ h0.size) (V0 : Arv Z h0 x0 k0 .long (8 : Int32) (List.map Value.long I) (.long (0 : Int64))) (hn : own_n x1) :
    MetFree l (⟨"java/util/Arrays", "copyOf", "([JI)[J"⟩ : MethodName) (head1 (Jvm.Cond.code (⟨"java/util/Arrays", "copyOf", "([JI)[J"⟩ : MethodName) jdk_65_method_124_code 3 (some (.array .long)) :: ws) ({ frames := 1, cells := 1, slots := 3, locals := 40 } : Room)) (fun a U => a = #[(.ref x0), (.int x1)] ∧ Z.Warmed39 U.vm ∧ U.heap = h0) (fun _ _ _ _ _ => True) (fun _ U o U' => ∃ v L, o = .returned v ∧ QT Z n0 x1 (own_cp I x1) h0 v U'.heap L ∧ FrameEnd U o U' L ({ frames := 1, cells := 1, slots := 3, locals := 40 } : Room).cells ({ frames := 1, cells := 1, slots := 3, locals := 40 } : Room).slots) := by
  refine MetFree.of_bodySF (plainFor_of_name pn_7) hisR ?_
  intro p e s m args below meth c s₁ Bd hml0 hP hK
  obtain ⟨rfl, hZ, hh⟩ := hP
  have hx := Bd.exec
  have hby := Bd.bytes
  have hml : c.maxLocals = 3 := hml0
  have hown : s.vm.findClass "java/util/Arrays" = some m.cls := findClass_of_methodNamed Bd.named
  have hnm := (name_of_methodNamed Bd.named Bd.method).1
  have X0 : Stand p l e ({ frames := 1, cells := 1, slots := 3, locals := 40 } : Room) s m #[(.ref x0), (.int x1)] below meth c s₁ [] 0 0 := Stand.of_body Bd
  have e0 : s₁.heap = h0 := by rw [← hh, Bd.state]; rfl
  show Runs p e below s (QT Z n0 x1 (own_cp I x1) h0) ({ frames := 1, cells := 1, slots := 3, locals := 40 } : Room).cells ({ frames := 1, cells := 1, slots := 3, locals := 40 } : Room).slots (s₁.setTop (entryFrame m #[(.ref x0), (.int x1)] 3))
  rw [ef_7 m x0 x1]
  have k_0 : ∀ (T : State) (X : Stand p l e ({ frames := 1, cells := 1, slots := 3, locals := 40 } : Room) s m #[(.ref x0), (.int x1)] below meth c T [] 0 0) (eT : T.heap = h0) (N : Fr n0 []), Runs p e below s (QT Z n0 x1 (own_cp I x1) h0) ({ frames := 1, cells := 1, slots := 3, locals := 40 } : Room).cells ({ frames := 1, cells := 1, slots := 3, locals := 40 } : Room).slots (T.setTop (mkF m 0 #[.val (.ref x0), .val (.int x1), .unset] [])) := by
    intro T X eT N 
    refine Runs.go (fun _ => XS.iloadN X.here hx rfl (hb hby d7_0) rfl) ?_
    show Runs p e below s _ _ _ (T.setTop (mkF m 1 #[.val (.ref x0), .val (.int x1), .unset] [(.int x1)]))
    refine Runs.go (fun _ => XS.aloadN X.here hx rfl (hb hby d7_1) rfl rfl) ?_
    show Runs p e below s _ _ _ (T.setTop (mkF m 2 #[.val (.ref x0), .val (.int x1), .unset] [(.ref x0), (.int x1)]))
    have VCl2_1 := V0
    obtain ⟨cll2_1, Arl2_1, -, Sl2_1, Ml2_1, -, -⟩ := VCl2_1
    refine Runs.go (X.arraylength hx (by rw [eT]; exact Arl2_1.1) (State.isArrayOf_alike hZ.alike Arl2_1.2.1) (g := (mkF m 2 #[.val (.ref x0), .val (.int x1), .unset] [(.ref x0), (.int x1)])) rfl rfl (hb hby d7_2)) ?_
    rw [len_of Sl2_1 Ml2_1]
    show Runs p e below s _ _ _ (T.setTop (mkF m 3 #[.val (.ref x0), .val (.int x1), .unset] [(.int (8 : Int32)), (.int x1)]))
    refine Runs.go (fun _ => XS.icmpYes X.here hx rfl (pc0 := 3) (pc' := 14) rfl (hb hby d7_3) rfl (feq ((own_c8 hn) : ¬ (x1 = (8 : Int32)))).2 (by decide) (by decide)) ?_
    show Runs p e below s _ _ _ (T.setTop (mkF m 14 #[.val (.ref x0), .val (.int x1), .unset] []))
    refine Runs.go (fun _ => XS.iloadN X.here hx rfl (hb hby d7_14) rfl) ?_
    show Runs p e below s _ _ _ (T.setTop (mkF m 15 #[.val (.ref x0), .val (.int x1), .unset] [(.int x1)]))
    obtain ⟨Ta15_2, ha15_2, ka15_2, Xa15_2, ea15_2, Ea15_2, Aa15_2, sta15_2⟩ := newP X hx hZ (hw _ (List.mem_of_getElem? (i := 9) rfl)) eT (g := (mkF m 15 #[.val (.ref x0), .val (.int x1), .unset] [(.int x1)])) rfl (hb hby d7_15) rfl (own_cneg hn) (cap := 3) (own_ccap hn) (by decide) (by decide) (by decide)
    obtain ⟨ba15_2, ga15_2⟩ : ∃ z, z = h0.size := ⟨_, rfl⟩
    have ne_a15_2_x0 : x0 ≠ ba15_2 := Nat.ne_of_lt (Nat.lt_of_lt_of_le V0.lt (Nat.le_of_eq ga15_2.symm))
    have gb_ba15_2 : n0 ≤ ba15_2 := Nat.le_trans hn0 (Nat.le_of_eq ga15_2.symm)
    rw [← ga15_2] at Aa15_2 sta15_2
    refine Runs.go sta15_2 ?_
    have V0_a15_2 := V0.ext Ea15_2
    have hna15_2 : n0 ≤ ha15_2.size := Nat.le_trans hn0 Ea15_2.1
    have Va15_2 : Arv Z ha15_2 ba15_2 ka15_2 .long x1 [(.long (0 : Int64)), (.long (0 : Int64)), (.long (0 : Int64))] (.long (0 : Int64)) := (Arv.new Aa15_2 (own_cneg hn)).pad (pad_rep [] (.long (0 : Int64)) 3)
    show Runs p e below s _ _ _ (Ta15_2.setTop (mkF m 17 #[.val (.ref x0), .val (.int x1), .unset] [(.ref ba15_2)]))
    refine Runs.go (fun _ => XS.astoreN Xa15_2.here hx rfl (hb hby d7_17) rfl rfl (l' := #[.val (.ref x0), .val (.int x1), .val (.ref ba15_2)]) rfl) ?_
    show Runs p e below s _ _ _ (Ta15_2.setTop (mkF m 18 #[.val (.ref x0), .val (.int x1), .val (.ref ba15_2)] []))
    refine Runs.go (fun _ => XS.aloadN Xa15_2.here hx rfl (hb hby d7_18) rfl rfl) ?_
    show Runs p e below s _ _ _ (Ta15_2.setTop (mkF m 19 #[.val (.ref x0), .val (.int x1), .val (.ref ba15_2)] [(.ref x0)]))
    refine Runs.go (fun _ => XS.iconst Xa15_2.here hx rfl (hb hby d7_19)) ?_
    show Runs p e below s _ _ _ (Ta15_2.setTop (mkF m 20 #[.val (.ref x0), .val (.int x1), .val (.ref ba15_2)] [(.int (0 : Int32)), (.ref x0)]))
    refine Runs.go (fun _ => XS.aloadN Xa15_2.here hx rfl (hb hby d7_20) rfl rfl) ?_
    show Runs p e below s _ _ _ (Ta15_2.setTop (mkF m 21 #[.val (.ref x0), .val (.int x1), .val (.ref ba15_2)] [(.ref ba15_2), (.int (0 : Int32)), (.ref x0)]))
    refine Runs.go (fun _ => XS.iconst Xa15_2.here hx rfl (hb hby d7_21)) ?_
    show Runs p e below s _ _ _ (Ta15_2.setTop (mkF m 22 #[.val (.ref x0), .val (.int x1), .val (.ref ba15_2)] [(.int (0 : Int32)), (.ref ba15_2), (.int (0 : Int32)), (.ref x0)]))
    refine Runs.go (fun _ => XS.aloadN Xa15_2.here hx rfl (hb hby d7_22) rfl rfl) ?_
    show Runs p e below s _ _ _ (Ta15_2.setTop (mkF m 23 #[.val (.ref x0), .val (.int x1), .val (.ref ba15_2)] [(.ref x0), (.int (0 : Int32)), (.ref ba15_2), (.int (0 : Int32)), (.ref x0)]))
    have VCl23_3 := V0_a15_2
    obtain ⟨cll23_3, Arl23_3, -, Sl23_3, Ml23_3, -, -⟩ := VCl23_3
    refine Runs.go (Xa15_2.arraylength hx (by rw [ea15_2]; exact Arl23_3.1) (State.isArrayOf_alike hZ.alike Arl23_3.2.1) (g := (mkF m 23 #[.val (.ref x0), .val (.int x1), .val (.ref ba15_2)] [(.ref x0), (.int (0 : Int32)), (.ref ba15_2), (.int (0 : Int32)), (.ref x0)])) rfl rfl (hb hby d7_23)) ?_
    rw [len_of Sl23_3 Ml23_3]
    show Runs p e below s _ _ _ (Ta15_2.setTop (mkF m 24 #[.val (.ref x0), .val (.int x1), .val (.ref ba15_2)] [(.int (8 : Int32)), (.int (0 : Int32)), (.ref ba15_2), (.int (0 : Int32)), (.ref x0)]))
    refine Runs.go (fun _ => XS.iloadN Xa15_2.here hx rfl (hb hby d7_24) rfl) ?_
    show Runs p e below s _ _ _ (Ta15_2.setTop (mkF m 25 #[.val (.ref x0), .val (.int x1), .val (.ref ba15_2)] [(.int x1), (.int (8 : Int32)), (.int (0 : Int32)), (.ref ba15_2), (.int (0 : Int32)), (.ref x0)]))
    obtain ⟨_, _, ⟨Tc25_4, Lc25_4, kc25_4, nc25_4⟩, -, Xc25_4, ⟨Lcc25_4, hQc25_4, lc25_4, yc25_4, zc25_4⟩, stc25_4⟩ := Jvm.LawKit.callS Xa15_2 hx (y := (⟨"java/lang/Math", "min", "(II)I"⟩ : MethodName)) hown (mvT hZ (hw _ (List.mem_of_getElem? (i := 40) rfl))) (mvT hZ (hw _ (List.mem_of_getElem? (i := 41) rfl))) (mvT hZ (hw _ (List.mem_of_getElem? (i := 42) rfl))) (mvT hZ (hw _ (List.mem_of_getElem? (i := 43) rfl))) (by decide) (backOf (W := 4) (rm8 l Z a0 hw [] (8 : Int32) x1 ha15_2) hZ (hw _ (List.mem_of_getElem? (i := 43) rfl)) (hw _ (List.mem_of_getElem? (i := 42) rfl)) (by decide) (by decide)) (g := (mkF m 25 #[.val (.ref x0), .val (.int x1), .val (.ref ba15_2)] [(.int x1), (.int (8 : Int32)), (.int (0 : Int32)), (.ref ba15_2), (.int (0 : Int32)), (.ref x0)])) rfl (by rw [hml]; rfl) (argsL := [(.int (8 : Int32)), (.int x1)]) (rest := [(.int (0 : Int32)), (.ref ba15_2), (.int (0 : Int32)), (.ref x0)]) (lenOf pd_6 rfl) rfl (by show 2 * 0 + _ ≤ _; exact Nat.le_of_eq rfl) (hb hby d7_25) (fun _ _ => ⟨rfl, ea15_2, (by decide : 1 + 0 ≤ _), (by decide : 3 + 0 ≤ _)⟩)
    dsimp only [Pt.U, Pt.locs, Pt.cells, Pt.slots] at Xc25_4 lc25_4 yc25_4 zc25_4 stc25_4 hQc25_4
    subst lc25_4 yc25_4 zc25_4
    obtain ⟨rfl, rfl, ec25_4⟩ := hQc25_4
    refine Runs.go stc25_4 ?_
    have Nc25_4 := Fr.app N (Fr.nil n0)
    show Runs p e below s _ _ _ (Tc25_4.setTop (mkF m 28 #[.val (.ref x0), .val (.int x1), .val (.ref ba15_2)] [(.int (F8 (8 : Int32) x1)), (.int (0 : Int32)), (.ref ba15_2), (.int (0 : Int32)), (.ref x0)]))
    rw [own_cmin hn]
    show Runs p e below s _ _ _ (Tc25_4.setTop (mkF m 28 #[.val (.ref x0), .val (.int x1), .val (.ref ba15_2)] [(.int x1), (.int (0 : Int32)), (.ref ba15_2), (.int (0 : Int32)), (.ref x0)]))
    obtain ⟨Tcp, hcp, Lcp, Xcp, ecp, Ncp, Kcp, Vcp, stcp⟩ := cpA Xc25_4 hx hZ hown (hw _ (List.mem_of_getElem? (i := 44) rfl)) (hw _ (List.mem_of_getElem? (i := 47) rfl)) (hw _ (List.mem_of_getElem? (i := 45) rfl)) (hw _ (List.mem_of_getElem? (i := 46) rfl)) ec25_4 V0_a15_2 Va15_2 (Or.inl ⟨rfl, rfl⟩) (by decide) (by decide) (own_cneg hn) (own_cc1 hn) (own_cc2 hn) rfl (own_cc3 hn) Nc25_4 gb_ba15_2 (g := (mkF m 28 #[.val (.ref x0), .val (.int x1), .val (.ref ba15_2)] [(.int x1), (.int (0 : Int32)), (.ref ba15_2), (.int (0 : Int32)), (.ref x0)])) rfl (by rw [hml]; rfl) rfl (hb hby d7_28) (by decide) (W := 0) (by show 2 * 0 + _ ≤ _; exact Nat.le_of_eq rfl) (by decide)
    refine Runs.go stcp ?_
    show Runs p e below s _ _ _ (Tcp.setTop (mkF m 31 #[.val (.ref x0), .val (.int x1), .val (.ref ba15_2)] []))
    refine Runs.go (fun _ => XS.aloadN Xcp.here hx rfl (hb hby d7_31) rfl rfl) ?_
    show Runs p e below s _ _ _ (Tcp.setTop (mkF m 32 #[.val (.ref x0), .val (.int x1), .val (.ref ba15_2)] [(.ref ba15_2)]))
    exact Runs.endR Xcp hx Bd.returns rfl Bd.notSynchronized (hb hby d7_32) ⟨ba15_2, _, rfl, Ncp, ga15_2, by rw [ecp]; exact own_extk Ea15_2 Kcp (Nat.le_of_eq ga15_2.symm), by rw [ecp]; exact own_cpl Vcp⟩ (by decide) (by decide)
  exact k_0 _ X0 e0 (Fr.nil n0)
theorem d6_0 : decode prog_8_method_4_code 0 = .ok (.aload_n 0, 1) := by decide +kernel
theorem d6_1 : decode prog_8_method_4_code 1 = .ok (.getfield 13, 3) := by decide +kernel
theorem d6_4 : decode prog_8_method_4_code 4 = .ok (.aload_n 0, 1) := by decide +kernel
theorem d6_5 : decode prog_8_method_4_code 5 = .ok (.getfield 51, 3) := by decide +kernel
theorem d6_8 : decode prog_8_method_4_code 8 = .ok (.invokestatic 58, 3) := by decide +kernel
theorem d6_11 : decode prog_8_method_4_code 11 = .ok (.areturn, 1) := by decide +kernel
theorem pn_6 : plainName "com/example/quillon/quillon/core/ElementIds" = true := by first | (simp [plainName, overriddenIn]; done) | decide +kernel
theorem ef_6 (m : MethodId) (x0 : Addr) : entryFrame m #[(.ref x0)] 1 = mkF m 0 #[.val (.ref x0)] [] := by first | (simp [entryFrame, mkF, argsToLocals, Value.category]; done) | rfl
set_option maxRecDepth 65536 in
set_option maxHeartbeats 40000000 in
theorem rm6 (l : Launch) (Z : State) (a0 : Array Value) (hw : ∀ d ∈ tables_1, d.before a0 Z = true) (ws : List Jvm.Cond) (x0 b1 b2 : Addr) (sz : Int32) (sp : Int64) (I : List Int64) (S : List Int32) (h0 : Heap) (n0 : Nat) (hn0 : n0 ≤ h0.size) (G : EI Z h0 n0 x0 b1 b2 sz sp I S) (hn : own_n sz) :
    MetFree l (⟨"com/example/quillon/quillon/core/ElementIds", "toArray", "()[J"⟩ : MethodName) (head1 (Jvm.Cond.code (⟨"com/example/quillon/quillon/core/ElementIds", "toArray", "()[J"⟩ : MethodName) prog_8_method_4_code 1 (some (.array .long)) :: ws) ({ frames := 2, cells := 1, slots := 3, locals := 54 } : Room)) (fun a U => a = #[(.ref x0)] ∧ Z.Warmed39 U.vm ∧ U.heap = h0) (fun _ _ _ _ _ => True) (fun _ U o U' => ∃ v L, o = .returned v ∧ QT Z n0 sz (own_cp I sz) h0 v U'.heap L ∧ FrameEnd U o U' L ({ frames := 2, cells := 1, slots := 3, locals := 54 } : Room).cells ({ frames := 2, cells := 1, slots := 3, locals := 54 } : Room).slots) := by
  refine MetFree.of_bodySF (plainFor_of_name pn_6) hisR ?_
  intro p e s m args below meth c s₁ Bd hml0 hP hK
  obtain ⟨rfl, hZ, hh⟩ := hP
  have hx := Bd.exec
  have hby := Bd.bytes
  have hml : c.maxLocals = 1 := hml0
  have hown : s.vm.findClass "com/example/quillon/quillon/core/ElementIds" = some m.cls := findClass_of_methodNamed Bd.named
  have hnm := (name_of_methodNamed Bd.named Bd.method).1
  have X0 : Stand p l e ({ frames := 2, cells := 1, slots := 3, locals := 54 } : Room) s m #[(.ref x0)] below meth c s₁ [] 0 0 := Stand.of_body Bd
  have e0 : s₁.heap = h0 := by rw [← hh, Bd.state]; rfl
  obtain ⟨E0, ga, Fsz, Fsp, Fsh, Fk, k1, k2, g1, g2, n1, n2, n3, Fi, Fs, V1, V2⟩ := G
  show Runs p e below s (QT Z n0 sz (own_cp I sz) h0) ({ frames := 2, cells := 1, slots := 3, locals := 54 } : Room).cells ({ frames := 2, cells := 1, slots := 3, locals := 54 } : Room).slots (s₁.setTop (entryFrame m #[(.ref x0)] 1))
  rw [ef_6 m x0]
  have k_0 : ∀ (T : State) (X : Stand p l e ({ frames := 2, cells := 1, slots := 3, locals := 54 } : Room) s m #[(.ref x0)] below meth c T [] 0 0) (eT : T.heap = h0) (N : Fr n0 []), Runs p e below s (QT Z n0 sz (own_cp I sz) h0) ({ frames := 2, cells := 1, slots := 3, locals := 54 } : Room).cells ({ frames := 2, cells := 1, slots := 3, locals := 54 } : Room).slots (T.setTop (mkF m 0 #[.val (.ref x0)] [])) := by
    intro T X eT N 
    refine Runs.go (fun _ => XS.aloadN X.here hx rfl (hb hby d6_0) rfl rfl) ?_
    show Runs p e below s _ _ _ (T.setTop (mkF m 1 #[.val (.ref x0)] [(.ref x0)]))
    obtain ⟨Tf1_1, Xf1_1, ef1_1, stf1_1⟩ := getF X hx hZ hown (host := "") (Or.inl (hw _ (List.mem_of_getElem? (i := 10) rfl))) Via.refl eT Fi (g := (mkF m 1 #[.val (.ref x0)] [(.ref x0)])) rfl rfl (hb hby d6_1)
    refine Runs.go stf1_1 ?_
    show Runs p e below s _ _ _ (Tf1_1.setTop (mkF m 4 #[.val (.ref x0)] [(.ref b1)]))
    refine Runs.go (fun _ => XS.aloadN Xf1_1.here hx rfl (hb hby d6_4) rfl rfl) ?_
    show Runs p e below s _ _ _ (Tf1_1.setTop (mkF m 5 #[.val (.ref x0)] [(.ref x0), (.ref b1)]))
    obtain ⟨Tf5_2, Xf5_2, ef5_2, stf5_2⟩ := getF Xf1_1 hx hZ hown (host := "") (Or.inl (hw _ (List.mem_of_getElem? (i := 30) rfl))) Via.refl ef1_1 Fsz (g := (mkF m 5 #[.val (.ref x0)] [(.ref x0), (.ref b1)])) rfl rfl (hb hby d6_5)
    refine Runs.go stf5_2 ?_
    show Runs p e below s _ _ _ (Tf5_2.setTop (mkF m 8 #[.val (.ref x0)] [(.int sz), (.ref b1)]))
    obtain ⟨_, _, ⟨Tc8_3, Lc8_3, kc8_3, nc8_3⟩, -, Xc8_3, ⟨Lcc8_3, hQc8_3, lc8_3, yc8_3, zc8_3⟩, stc8_3⟩ := Jvm.LawKit.callS Xf5_2 hx (y := (⟨"java/util/Arrays", "copyOf", "([JI)[J"⟩ : MethodName)) hown (mvT hZ (hw _ (List.mem_of_getElem? (i := 37) rfl))) (mvT hZ (hw _ (List.mem_of_getElem? (i := 38) rfl))) (mvT hZ (hw _ (List.mem_of_getElem? (i := 21) rfl))) (mvT hZ (hw _ (List.mem_of_getElem? (i := 39) rfl))) (by decide) (backOf (W := 0) (rm7 l Z a0 hw [] b1 sz I k1 h0 n0 hn0 V1 hn) hZ (hw _ (List.mem_of_getElem? (i := 39) rfl)) (hw _ (List.mem_of_getElem? (i := 21) rfl)) (by decide) (by decide)) (g := (mkF m 8 #[.val (.ref x0)] [(.int sz), (.ref b1)])) rfl (by rw [hml]; rfl) (argsL := [(.ref b1), (.int sz)]) (rest := []) (lenOf pd_5 rfl) rfl (by show 2 * 0 + _ ≤ _; exact Nat.le_of_eq rfl) (hb hby d6_8) (fun _ _ => ⟨rfl, ef5_2, (by decide : 0 + 1 ≤ _), (by decide : 0 + 3 ≤ _)⟩)
    dsimp only [Pt.U, Pt.locs, Pt.cells, Pt.slots] at Xc8_3 lc8_3 yc8_3 zc8_3 stc8_3 hQc8_3
    subst lc8_3 yc8_3 zc8_3
    obtain ⟨br, kr, rfl, Nc8_3q, gr, Er, Vr⟩ := hQc8_3
    refine Runs.go stc8_3 ?_
    have Nc8_3 := Fr.app N Nc8_3q
    show Runs p e below s _ _ _ (Tc8_3.setTop (mkF m 11 #[.val (.ref x0)] [(.ref br)]))
    exact Runs.endR Xc8_3 hx Bd.returns rfl Bd.notSynchronized (hb hby d6_11) ⟨br, kr, rfl, Nc8_3, gr, Er, Vr⟩ (by decide) (by decide)
  exact k_0 _ X0 e0 (Fr.nil n0)
theorem pn_0 : plainName "com/example/quillon/quillon/core/ElementIdsToArrayPinLaw" = true := by first | (simp [plainName, overriddenIn]; done) | decide +kernel
theorem ef_0 (m : MethodId) (x0 : Int64) (x1 : Int64) (x2 : Int64) (x3 : Int32) : entryFrame m #[(.long x0), (.long x1), (.long x2), (.int x3)] maxLocals = mkF m 0 #[.val (.long x0), .second, .val (.long x1), .second, .val (.long x2), .second, .val (.int x3), .unset, .unset, .unset, .unset, .unset, .unset, .unset, .unset, .unset, .unset, .unset, .unset, .unset, .unset] [] := by first | (simp [entryFrame, mkF, argsToLocals, Value.category, maxLocals]; done) | rfl
set_option maxRecDepth 65536 in
set_option maxHeartbeats 40000000 in
theorem rm0 (l : Launch) (Z : State) (a0 : Array Value) (hw : ∀ d ∈ tables_1, d.before a0 Z = true) (ws : List Jvm.Cond) (x0 : Int64) (x1 : Int64) (x2 : Int64) (x3 : Int32) (h0 : Heap) (n0 : Nat) (hn0 : n0 ≤ h0.size) :
    MetFree l x (head1 (Jvm.Cond.code x code maxLocals ret :: ws) room_1) (fun a U => a = #[(.long x0), (.long x1), (.long x2), (.int x3)] ∧ Z.Warmed39 U.vm ∧ U.heap = h0) (fun _ _ _ _ _ => True) (fun _ U o U' => ∃ v L, o = .returned v ∧ QH (.int (F0 x0 x1 x2 x3)) n0 v U'.heap L ∧ FrameEnd U o U' L room_1.cells room_1.slots) := by
  refine MetFree.of_bodySF (plainFor_of_name pn_0) hisR ?_
  intro p e s m args below meth c s₁ Bd hml0 hP hK
  obtain ⟨rfl, hZ, hh⟩ := hP
  have hx := Bd.exec
  have hby := Bd.bytes
  have hml : c.maxLocals = 21 := hml0
  have hown : s.vm.findClass "com/example/quillon/quillon/core/ElementIdsToArrayPinLaw" = some m.cls := findClass_of_methodNamed Bd.named
  have X0 : Stand p l e room_1 s m #[(.long x0), (.long x1), (.long x2), (.int x3)] below meth c s₁ [] 0 0 := Stand.of_body Bd
  have e0 : s₁.heap = h0 := by rw [← hh, Bd.state]; rfl
  show Runs p e below s (QH (.int (F0 x0 x1 x2 x3)) n0) room_1.cells room_1.slots (s₁.setTop (entryFrame m #[(.long x0), (.long x1), (.long x2), (.int x3)] maxLocals))
  rw [ef_0 m x0 x1 x2 x3]
  obtain ⟨r, hF⟩ : ∃ r, F0 x0 x1 x2 x3 = r := ⟨_, rfl⟩
  rw [hF]
  have k_136 : ∀ (T : State) (locs : List Loc) (h : Heap) (X : Stand p l e room_1 s m #[(.long x0), (.long x1), (.long x2), (.int x3)] below meth c T locs 5 36) (eT : T.heap = h) (N : Fr n0 locs) (w_a : Addr) (w_b1 : Addr) (w_b2 : Addr) (w_be : Addr) (w_el : List Int64) (v0 : Int64) (v2 : Int64) (v4 : Int64) (v6 : Int32) (v8 : Addr) (v11 : Int64) (v13 : Int32) (v14 : Int64) (v17 : Int32) (G_EA : EA Z h n0 w_be w_a w_b1 w_b2 w_el) (G_EI : EI Z h n0 w_a w_b1 w_b2 (0 : Int32) (0 : Int64) own_I0 own_S0) (hR : ER2 x0 v11 v14 v17 w_el), f0_136 x0 x1 x2 x3 w_el v11 v14 v17 = r → Runs p e below s (QH (.int r) n0) room_1.cells room_1.slots (T.setTop (mkF m 136 #[.val (.long v0), .second, .val (.long v2), .second, .val (.long v4), .second, .val (.int v6), .val (.ref w_a), .val (.ref v8), .val (.long x0), .second, .val (.long v11), .second, .val (.int v13), .val (.long v14), .second, .val (.ref w_be), .val (.int v17), .unset, .unset, .unset] [])) := by
    intro T locs h X eT N w_a w_b1 w_b2 w_be w_el v0 v2 v4 v6 v8 v11 v13 v14 v17 G_EA G_EI hR hv
    unfold f0_136 at hv
    obtain ⟨gbe, nea, neb1, neb2, ke, Ve⟩ := G_EA
    refine Runs.go (fun _ => XS.aload X.here hx rfl (hb hby at_136) rfl rfl) ?_
    show Runs p e below s _ _ _ (T.setTop (mkF m 138 #[.val (.long v0), .second, .val (.long v2), .second, .val (.long v4), .second, .val (.int v6), .val (.ref w_a), .val (.ref v8), .val (.long x0), .second, .val (.long v11), .second, .val (.int v13), .val (.long v14), .second, .val (.ref w_be), .val (.int v17), .unset, .unset, .unset] [(.ref w_a)]))
    refine Runs.go (fun _ => XS.lload X.here hx rfl (hb hby at_138) rfl) ?_
    show Runs p e below s _ _ _ (T.setTop (mkF m 140 #[.val (.long v0), .second, .val (.long v2), .second, .val (.long v4), .second, .val (.int v6), .val (.ref w_a), .val (.ref v8), .val (.long x0), .second, .val (.long v11), .second, .val (.int v13), .val (.long v14), .second, .val (.ref w_be), .val (.int v17), .unset, .unset, .unset] [(.long x0), (.ref w_a)]))
    have hz140 : n0 ≤ h.size := Nat.le_trans G_EI.2.1 (Nat.le_of_lt G_EI.lts.1)
    obtain ⟨cqc140_14, kqc140_14, qc140_14a, qc140_14b, qc140_14c⟩ := isOf hZ eT G_EI.1
    obtain ⟨_, _, ⟨Tc140_14, Lc140_14, kc140_14, nc140_14⟩, -, Xc140_14, ⟨Lcc140_14, hQc140_14, lc140_14, yc140_14, zc140_14⟩, stc140_14⟩ := X.virtualBack hx (y := (⟨"com/example/quillon/quillon/core/ElementIds", "indexOf", "(J)I"⟩ : MethodName)) (z := (⟨"com/example/quillon/quillon/core/ElementIds", "indexOf", "(J)I"⟩ : MethodName)) hown (mvT hZ (hw _ (List.mem_of_getElem? (i := 48) rfl))) (mvT hZ (hw _ (List.mem_of_getElem? (i := 49) rfl))) (notFace_of_selects (args := #[]) (mvT hZ (hw _ (List.mem_of_getElem? (i := 51) rfl)))) (mvT hZ (hw _ (List.mem_of_getElem? (i := 51) rfl))) (mvT hZ (hw _ (List.mem_of_getElem? (i := 50) rfl))) (by decide) (backOf (W := 0) (rm9 l Z a0 hw [] w_a w_b1 w_b2 x0 (0 : Int32) (0 : Int64) own_I0 own_S0 h n0 hz140 G_EI own_T1) hZ (hw _ (List.mem_of_getElem? (i := 52) rfl)) (hw _ (List.mem_of_getElem? (i := 2) rfl)) (by decide) (by decide)) qc140_14a qc140_14c (g := (mkF m 140 #[.val (.long v0), .second, .val (.long v2), .second, .val (.long v4), .second, .val (.int v6), .val (.ref w_a), .val (.ref v8), .val (.long x0), .second, .val (.long v11), .second, .val (.int v13), .val (.long v14), .second, .val (.ref w_be), .val (.int v17), .unset, .unset, .unset] [(.long x0), (.ref w_a)])) rfl (by rw [hml]; rfl) (Steps.refl _) (argsL := [(.long x0)]) (rest := []) (lenOf pd_8 rfl) rfl (by show 2 * 0 + _ ≤ _; exact Nat.le_of_eq rfl) (hb hby at_140) (fun _ _ => ⟨rfl, eT, (by decide : 5 + 0 ≤ _), (by decide : 36 + 0 ≤ _)⟩)
    dsimp only [Pt.U, Pt.locs, Pt.cells, Pt.slots] at Xc140_14 lc140_14 yc140_14 zc140_14 stc140_14 hQc140_14
    subst lc140_14 yc140_14 zc140_14
    obtain ⟨⟨zc140_14, rfl⟩, Nc140_14q, Kc140_14, Gc140_14⟩ := hQc140_14
    refine Runs.go (fun _ => stc140_14.trans) ?_
    have Nc140_14 := Fr.app N Nc140_14q
    have Ve_c140_14 := Ve.keep Kc140_14 (ninS (Ne.symm nea) (ninS (Ne.symm neb1) (ninS (Ne.symm neb2) nin0)))
    obtain ⟨r140, hr140⟩ : ∃ r : T4, F9 x0 (0 : Int32) (0 : Int64) own_I0 own_S0 = r := ⟨_, rfl⟩
    rw [hr140] at Gc140_14
    show Runs p e below s _ _ _ (Tc140_14.setTop (mkF m 143 #[.val (.long v0), .second, .val (.long v2), .second, .val (.long v4), .second, .val (.int v6), .val (.ref w_a), .val (.ref v8), .val (.long x0), .second, .val (.long v11), .second, .val (.int v13), .val (.long v14), .second, .val (.ref w_be), .val (.int v17), .unset, .unset, .unset] [(.int zc140_14)]))
    refine Runs.go (fun _ => XS.pop Xc140_14.here hx rfl (hb hby at_143) rfl rfl) ?_
    show Runs p e below s _ _ _ (Tc140_14.setTop (mkF m 144 #[.val (.long v0), .second, .val (.long v2), .second, .val (.long v4), .second, .val (.int v6), .val (.ref w_a), .val (.ref v8), .val (.long x0), .second, .val (.long v11), .second, .val (.int v13), .val (.long v14), .second, .val (.ref w_be), .val (.int v17), .unset, .unset, .unset] []))
    refine Runs.go (fun _ => XS.aload Xc140_14.here hx rfl (hb hby at_144) rfl rfl) ?_
    show Runs p e below s _ _ _ (Tc140_14.setTop (mkF m 146 #[.val (.long v0), .second, .val (.long v2), .second, .val (.long v4), .second, .val (.int v6), .val (.ref w_a), .val (.ref v8), .val (.long x0), .second, .val (.long v11), .second, .val (.int v13), .val (.long v14), .second, .val (.ref w_be), .val (.int v17), .unset, .unset, .unset] [(.ref w_a)]))
    refine Runs.go (fun _ => XS.lload Xc140_14.here hx rfl (hb hby at_146) rfl) ?_
    show Runs p e below s _ _ _ (Tc140_14.setTop (mkF m 148 #[.val (.long v0), .second, .val (.long v2), .second, .val (.long v4), .second, .val (.int v6), .val (.ref w_a), .val (.ref v8), .val (.long x0), .second, .val (.long v11), .second, .val (.int v13), .val (.long v14), .second, .val (.ref w_be), .val (.int v17), .unset, .unset, .unset] [(.long v11), (.ref w_a)]))
    have hz148 : n0 ≤ Tc140_14.heap.size := Nat.le_trans Gc140_14.2.1 (Nat.le_of_lt Gc140_14.lts.1)
    obtain ⟨cqc148_15, kqc148_15, qc148_15a, qc148_15b, qc148_15c⟩ := isOf hZ rfl Gc140_14.1
    obtain ⟨_, _, ⟨Tc148_15, Lc148_15, kc148_15, nc148_15⟩, -, Xc148_15, ⟨Lcc148_15, hQc148_15, lc148_15, yc148_15, zc148_15⟩, stc148_15⟩ := Xc140_14.virtualBack hx (y := (⟨"com/example/quillon/quillon/core/ElementIds", "indexOf", "(J)I"⟩ : MethodName)) (z := (⟨"com/example/quillon/quillon/core/ElementIds", "indexOf", "(J)I"⟩ : MethodName)) hown (mvT hZ (hw _ (List.mem_of_getElem? (i := 48) rfl))) (mvT hZ (hw _ (List.mem_of_getElem? (i := 49) rfl))) (notFace_of_selects (args := #[]) (mvT hZ (hw _ (List.mem_of_getElem? (i := 51) rfl)))) (mvT hZ (hw _ (List.mem_of_getElem? (i := 51) rfl))) (mvT hZ (hw _ (List.mem_of_getElem? (i := 50) rfl))) (by decide) (backOf (W := 0) (rm9 l Z a0 hw [] w_a w_b1 w_b2 v11 r140.1 r140.2.1 r140.2.2.1 r140.2.2.2 Tc140_14.heap n0 hz148 Gc140_14 (own_T2 hr140)) hZ (hw _ (List.mem_of_getElem? (i := 52) rfl)) (hw _ (List.mem_of_getElem? (i := 2) rfl)) (by decide) (by decide)) qc148_15a qc148_15c (g := (mkF m 148 #[.val (.long v0), .second, .val (.long v2), .second, .val (.long v4), .second, .val (.int v6), .val (.ref w_a), .val (.ref v8), .val (.long x0), .second, .val (.long v11), .second, .val (.int v13), .val (.long v14), .second, .val (.ref w_be), .val (.int v17), .unset, .unset, .unset] [(.long v11), (.ref w_a)])) rfl (by rw [hml]; rfl) (Steps.refl _) (argsL := [(.long v11)]) (rest := []) (lenOf pd_8 rfl) rfl (by show 2 * 0 + _ ≤ _; exact Nat.le_of_eq rfl) (hb hby at_148) (fun _ _ => ⟨rfl, rfl, (by decide : 5 + 0 ≤ _), (by decide : 36 + 0 ≤ _)⟩)
    dsimp only [Pt.U, Pt.locs, Pt.cells, Pt.slots] at Xc148_15 lc148_15 yc148_15 zc148_15 stc148_15 hQc148_15
    subst lc148_15 yc148_15 zc148_15
    obtain ⟨⟨zc148_15, rfl⟩, Nc148_15q, Kc148_15, Gc148_15⟩ := hQc148_15
    refine Runs.go (fun _ => stc148_15.trans) ?_
    have Nc148_15 := Fr.app Nc140_14 Nc148_15q
    have Ve_c148_15 := Ve_c140_14.keep Kc148_15 (ninS (Ne.symm nea) (ninS (Ne.symm neb1) (ninS (Ne.symm neb2) nin0)))
    obtain ⟨r148, hr148⟩ : ∃ r : T4, F9 v11 r140.1 r140.2.1 r140.2.2.1 r140.2.2.2 = r := ⟨_, rfl⟩
    rw [hr148] at Gc148_15
    show Runs p e below s _ _ _ (Tc148_15.setTop (mkF m 151 #[.val (.long v0), .second, .val (.long v2), .second, .val (.long v4), .second, .val (.int v6), .val (.ref w_a), .val (.ref v8), .val (.long x0), .second, .val (.long v11), .second, .val (.int v13), .val (.long v14), .second, .val (.ref w_be), .val (.int v17), .unset, .unset, .unset] [(.int zc148_15)]))
    refine Runs.go (fun _ => XS.pop Xc148_15.here hx rfl (hb hby at_151) rfl rfl) ?_
    show Runs p e below s _ _ _ (Tc148_15.setTop (mkF m 152 #[.val (.long v0), .second, .val (.long v2), .second, .val (.long v4), .second, .val (.int v6), .val (.ref w_a), .val (.ref v8), .val (.long x0), .second, .val (.long v11), .second, .val (.int v13), .val (.long v14), .second, .val (.ref w_be), .val (.int v17), .unset, .unset, .unset] []))
    refine Runs.go (fun _ => XS.aload Xc148_15.here hx rfl (hb hby at_152) rfl rfl) ?_
    show Runs p e below s _ _ _ (Tc148_15.setTop (mkF m 154 #[.val (.long v0), .second, .val (.long v2), .second, .val (.long v4), .second, .val (.int v6), .val (.ref w_a), .val (.ref v8), .val (.long x0), .second, .val (.long v11), .second, .val (.int v13), .val (.long v14), .second, .val (.ref w_be), .val (.int v17), .unset, .unset, .unset] [(.ref w_a)]))
    refine Runs.go (fun _ => XS.lload Xc148_15.here hx rfl (hb hby at_154) rfl) ?_
    show Runs p e below s _ _ _ (Tc148_15.setTop (mkF m 156 #[.val (.long v0), .second, .val (.long v2), .second, .val (.long v4), .second, .val (.int v6), .val (.ref w_a), .val (.ref v8), .val (.long x0), .second, .val (.long v11), .second, .val (.int v13), .val (.long v14), .second, .val (.ref w_be), .val (.int v17), .unset, .unset, .unset] [(.long v14), (.ref w_a)]))
    have hz156 : n0 ≤ Tc148_15.heap.size := Nat.le_trans Gc148_15.2.1 (Nat.le_of_lt Gc148_15.lts.1)
    obtain ⟨cqc156_16, kqc156_16, qc156_16a, qc156_16b, qc156_16c⟩ := isOf hZ rfl Gc148_15.1
    obtain ⟨_, _, ⟨Tc156_16, Lc156_16, kc156_16, nc156_16⟩, -, Xc156_16, ⟨Lcc156_16, hQc156_16, lc156_16, yc156_16, zc156_16⟩, stc156_16⟩ := Xc148_15.virtualBack hx (y := (⟨"com/example/quillon/quillon/core/ElementIds", "indexOf", "(J)I"⟩ : MethodName)) (z := (⟨"com/example/quillon/quillon/core/ElementIds", "indexOf", "(J)I"⟩ : MethodName)) hown (mvT hZ (hw _ (List.mem_of_getElem? (i := 48) rfl))) (mvT hZ (hw _ (List.mem_of_getElem? (i := 49) rfl))) (notFace_of_selects (args := #[]) (mvT hZ (hw _ (List.mem_of_getElem? (i := 51) rfl)))) (mvT hZ (hw _ (List.mem_of_getElem? (i := 51) rfl))) (mvT hZ (hw _ (List.mem_of_getElem? (i := 50) rfl))) (by decide) (backOf (W := 0) (rm9 l Z a0 hw [] w_a w_b1 w_b2 v14 r148.1 r148.2.1 r148.2.2.1 r148.2.2.2 Tc148_15.heap n0 hz156 Gc148_15 (own_T3 hr140 hr148)) hZ (hw _ (List.mem_of_getElem? (i := 52) rfl)) (hw _ (List.mem_of_getElem? (i := 2) rfl)) (by decide) (by decide)) qc156_16a qc156_16c (g := (mkF m 156 #[.val (.long v0), .second, .val (.long v2), .second, .val (.long v4), .second, .val (.int v6), .val (.ref w_a), .val (.ref v8), .val (.long x0), .second, .val (.long v11), .second, .val (.int v13), .val (.long v14), .second, .val (.ref w_be), .val (.int v17), .unset, .unset, .unset] [(.long v14), (.ref w_a)])) rfl (by rw [hml]; rfl) (Steps.refl _) (argsL := [(.long v14)]) (rest := []) (lenOf pd_8 rfl) rfl (by show 2 * 0 + _ ≤ _; exact Nat.le_of_eq rfl) (hb hby at_156) (fun _ _ => ⟨rfl, rfl, (by decide : 5 + 0 ≤ _), (by decide : 36 + 0 ≤ _)⟩)
    dsimp only [Pt.U, Pt.locs, Pt.cells, Pt.slots] at Xc156_16 lc156_16 yc156_16 zc156_16 stc156_16 hQc156_16
    subst lc156_16 yc156_16 zc156_16
    obtain ⟨⟨zc156_16, rfl⟩, Nc156_16q, Kc156_16, Gc156_16⟩ := hQc156_16
    refine Runs.go (fun _ => stc156_16.trans) ?_
    have Nc156_16 := Fr.app Nc148_15 Nc156_16q
    have Ve_c156_16 := Ve_c148_15.keep Kc156_16 (ninS (Ne.symm nea) (ninS (Ne.symm neb1) (ninS (Ne.symm neb2) nin0)))
    obtain ⟨r156, hr156⟩ : ∃ r : T4, F9 v14 r148.1 r148.2.1 r148.2.2.1 r148.2.2.2 = r := ⟨_, rfl⟩
    rw [hr156] at Gc156_16
    have hQ := hR _ _ _ hr140 hr148 hr156
    show Runs p e below s _ _ _ (Tc156_16.setTop (mkF m 159 #[.val (.long v0), .second, .val (.long v2), .second, .val (.long v4), .second, .val (.int v6), .val (.ref w_a), .val (.ref v8), .val (.long x0), .second, .val (.long v11), .second, .val (.int v13), .val (.long v14), .second, .val (.ref w_be), .val (.int v17), .unset, .unset, .unset] [(.int zc156_16)]))
    refine Runs.go (fun _ => XS.pop Xc156_16.here hx rfl (hb hby at_159) rfl rfl) ?_
    show Runs p e below s _ _ _ (Tc156_16.setTop (mkF m 160 #[.val (.long v0), .second, .val (.long v2), .second, .val (.long v4), .second, .val (.int v6), .val (.ref w_a), .val (.ref v8), .val (.long x0), .second, .val (.long v11), .second, .val (.int v13), .val (.long v14), .second, .val (.ref w_be), .val (.int v17), .unset, .unset, .unset] []))
    refine Runs.go (fun _ => XS.aload Xc156_16.here hx rfl (hb hby at_160) rfl rfl) ?_
    show Runs p e below s _ _ _ (Tc156_16.setTop (mkF m 162 #[.val (.long v0), .second, .val (.long v2), .second, .val (.long v4), .second, .val (.int v6), .val (.ref w_a), .val (.ref v8), .val (.long x0), .second, .val (.long v11), .second, .val (.int v13), .val (.long v14), .second, .val (.ref w_be), .val (.int v17), .unset, .unset, .unset] [(.ref w_a)]))
    have hz162 : n0 ≤ Tc156_16.heap.size := Nat.le_trans Gc156_16.2.1 (Nat.le_of_lt Gc156_16.lts.1)
    obtain ⟨cqc162_17, kqc162_17, qc162_17a, qc162_17b, qc162_17c⟩ := isOf hZ rfl Gc156_16.1
    obtain ⟨_, _, ⟨Tc162_17, Lc162_17, kc162_17, nc162_17⟩, -, Xc162_17, ⟨Lcc162_17, hQc162_17, lc162_17, yc162_17, zc162_17⟩, stc162_17⟩ := Xc156_16.virtualBack hx (y := (⟨"com/example/quillon/quillon/core/ElementIds", "toArray", "()[J"⟩ : MethodName)) (z := (⟨"com/example/quillon/quillon/core/ElementIds", "toArray", "()[J"⟩ : MethodName)) hown (mvT hZ (hw _ (List.mem_of_getElem? (i := 32) rfl))) (mvT hZ (hw _ (List.mem_of_getElem? (i := 33) rfl))) (notFace_of_selects (args := #[]) (mvT hZ (hw _ (List.mem_of_getElem? (i := 35) rfl)))) (mvT hZ (hw _ (List.mem_of_getElem? (i := 35) rfl))) (mvT hZ (hw _ (List.mem_of_getElem? (i := 34) rfl))) (by decide) (backOf (W := 0) (rm6 l Z a0 hw [] w_a w_b1 w_b2 r156.1 r156.2.1 r156.2.2.1 r156.2.2.2 Tc156_16.heap n0 hz162 Gc156_16 hQ.nn) hZ (hw _ (List.mem_of_getElem? (i := 36) rfl)) (hw _ (List.mem_of_getElem? (i := 2) rfl)) (by decide) (by decide)) qc162_17a qc162_17c (g := (mkF m 162 #[.val (.long v0), .second, .val (.long v2), .second, .val (.long v4), .second, .val (.int v6), .val (.ref w_a), .val (.ref v8), .val (.long x0), .second, .val (.long v11), .second, .val (.int v13), .val (.long v14), .second, .val (.ref w_be), .val (.int v17), .unset, .unset, .unset] [(.ref w_a)])) rfl (by rw [hml]; rfl) (Steps.refl _) (argsL := []) (rest := []) (lenOf pd_4 rfl) rfl (by show 2 * 0 + _ ≤ _; exact Nat.le_of_eq rfl) (hb hby at_162) (fun _ _ => ⟨rfl, rfl, (by decide : 5 + 1 ≤ _), (by decide : 36 + 3 ≤ _)⟩)
    dsimp only [Pt.U, Pt.locs, Pt.cells, Pt.slots] at Xc162_17 lc162_17 yc162_17 zc162_17 stc162_17 hQc162_17
    subst lc162_17 yc162_17 zc162_17
    obtain ⟨bc162_17, kc162_17, rfl, Nc162_17q, gc162_17, Ec162_17, Vc162_17⟩ := hQc162_17
    refine Runs.go (fun _ => stc162_17.trans) ?_
    have Nc162_17 := Fr.app Nc156_16 Nc162_17q
    have ne_c162_17_w_be : w_be ≠ bc162_17 := Nat.ne_of_lt (Nat.lt_of_lt_of_le Ve_c156_16.lt (Nat.le_of_eq gc162_17.symm))
    have nea_c162_17 : w_a ≠ bc162_17 := Nat.ne_of_lt (Nat.lt_of_lt_of_le Gc156_16.lts.1 (Nat.le_of_eq gc162_17.symm))
    have neb1_c162_17 : w_b1 ≠ bc162_17 := Nat.ne_of_lt (Nat.lt_of_lt_of_le Gc156_16.lts.2.1 (Nat.le_of_eq gc162_17.symm))
    have neb2_c162_17 : w_b2 ≠ bc162_17 := Nat.ne_of_lt (Nat.lt_of_lt_of_le Gc156_16.lts.2.2 (Nat.le_of_eq gc162_17.symm))
    have gb_bc162_17 : n0 ≤ bc162_17 := Nat.le_trans hz162 (Nat.le_of_eq gc162_17.symm)
    have Ve_c162_17 := Ve_c156_16.ext Ec162_17
    have EI_c162_17 := Gc156_16.ext Ec162_17
    have hzt162 : n0 ≤ Tc162_17.heap.size := Nat.le_trans hz162 Ec162_17.1
    show Runs p e below s _ _ _ (Tc162_17.setTop (mkF m 165 #[.val (.long v0), .second, .val (.long v2), .second, .val (.long v4), .second, .val (.int v6), .val (.ref w_a), .val (.ref v8), .val (.long x0), .second, .val (.long v11), .second, .val (.int v13), .val (.long v14), .second, .val (.ref w_be), .val (.int v17), .unset, .unset, .unset] [(.ref bc162_17)]))
    refine Runs.go (fun _ => XS.astore Xc162_17.here hx rfl (hb hby at_165) rfl rfl (l' := #[.val (.long v0), .second, .val (.long v2), .second, .val (.long v4), .second, .val (.int v6), .val (.ref w_a), .val (.ref v8), .val (.long x0), .second, .val (.long v11), .second, .val (.int v13), .val (.long v14), .second, .val (.ref w_be), .val (.int v17), .val (.ref bc162_17), .unset, .unset]) rfl) ?_
    show Runs p e below s _ _ _ (Tc162_17.setTop (mkF m 167 #[.val (.long v0), .second, .val (.long v2), .second, .val (.long v4), .second, .val (.int v6), .val (.ref w_a), .val (.ref v8), .val (.long x0), .second, .val (.long v11), .second, .val (.int v13), .val (.long v14), .second, .val (.ref w_be), .val (.int v17), .val (.ref bc162_17), .unset, .unset] []))
    refine Runs.go (fun _ => XS.aload Xc162_17.here hx rfl (hb hby at_167) rfl rfl) ?_
    show Runs p e below s _ _ _ (Tc162_17.setTop (mkF m 169 #[.val (.long v0), .second, .val (.long v2), .second, .val (.long v4), .second, .val (.int v6), .val (.ref w_a), .val (.ref v8), .val (.long x0), .second, .val (.long v11), .second, .val (.int v13), .val (.long v14), .second, .val (.ref w_be), .val (.int v17), .val (.ref bc162_17), .unset, .unset] [(.ref bc162_17)]))
    have VCl169_18 := Vc162_17
    obtain ⟨cll169_18, Arl169_18, -, Sl169_18, Ml169_18, -, -⟩ := VCl169_18
    refine Runs.go (Xc162_17.arraylength hx (by exact Arl169_18.1) (State.isArrayOf_alike hZ.alike Arl169_18.2.1) (g := (mkF m 169 #[.val (.long v0), .second, .val (.long v2), .second, .val (.long v4), .second, .val (.int v6), .val (.ref w_a), .val (.ref v8), .val (.long x0), .second, .val (.long v11), .second, .val (.int v13), .val (.long v14), .second, .val (.ref w_be), .val (.int v17), .val (.ref bc162_17), .unset, .unset] [(.ref bc162_17)])) rfl rfl (hb hby at_169)) ?_
    rw [len_of Sl169_18 Ml169_18]
    show Runs p e below s _ _ _ (Tc162_17.setTop (mkF m 170 #[.val (.long v0), .second, .val (.long v2), .second, .val (.long v4), .second, .val (.int v6), .val (.ref w_a), .val (.ref v8), .val (.long x0), .second, .val (.long v11), .second, .val (.int v13), .val (.long v14), .second, .val (.ref w_be), .val (.int v17), .val (.ref bc162_17), .unset, .unset] [(.int r156.1)]))
    refine Runs.go (fun _ => XS.iload Xc162_17.here hx rfl (hb hby at_170) rfl) ?_
    show Runs p e below s _ _ _ (Tc162_17.setTop (mkF m 172 #[.val (.long v0), .second, .val (.long v2), .second, .val (.long v4), .second, .val (.int v6), .val (.ref w_a), .val (.ref v8), .val (.long x0), .second, .val (.long v11), .second, .val (.int v13), .val (.long v14), .second, .val (.ref w_be), .val (.int v17), .val (.ref bc162_17), .unset, .unset] [(.int v17), (.int r156.1)]))
    refine Runs.go (fun _ => XS.icmpYes Xc162_17.here hx rfl (pc0 := 172) (pc' := 177) rfl (hb hby at_172) rfl (teq (hQ.len : r156.1 = v17)).1 (by decide) (by decide)) ?_
    show Runs p e below s _ _ _ (Tc162_17.setTop (mkF m 177 #[.val (.long v0), .second, .val (.long v2), .second, .val (.long v4), .second, .val (.int v6), .val (.ref w_a), .val (.ref v8), .val (.long x0), .second, .val (.long v11), .second, .val (.int v13), .val (.long v14), .second, .val (.ref w_be), .val (.int v17), .val (.ref bc162_17), .unset, .unset] []))
    refine Runs.go (fun _ => XS.aload Xc162_17.here hx rfl (hb hby at_177) rfl rfl) ?_
    show Runs p e below s _ _ _ (Tc162_17.setTop (mkF m 179 #[.val (.long v0), .second, .val (.long v2), .second, .val (.long v4), .second, .val (.int v6), .val (.ref w_a), .val (.ref v8), .val (.long x0), .second, .val (.long v11), .second, .val (.int v13), .val (.long v14), .second, .val (.ref w_be), .val (.int v17), .val (.ref bc162_17), .unset, .unset] [(.ref bc162_17)]))
    refine Runs.go (fun _ => XS.iconst Xc162_17.here hx rfl (hb hby at_179)) ?_
    show Runs p e below s _ _ _ (Tc162_17.setTop (mkF m 180 #[.val (.long v0), .second, .val (.long v2), .second, .val (.long v4), .second, .val (.int v6), .val (.ref w_a), .val (.ref v8), .val (.long x0), .second, .val (.long v11), .second, .val (.int v13), .val (.long v14), .second, .val (.ref w_be), .val (.int v17), .val (.ref bc162_17), .unset, .unset] [(.int (0 : Int32)), (.ref bc162_17)]))
    have VCr180_19 := Vc162_17
    obtain ⟨clr180_19, Arr180_19, -, Sr180_19, Mr180_19, Hr180_19, -⟩ := VCr180_19
    have hinr180_19 : ¬ ((0 : Int32) < 0 ∨ clr180_19.slots.size ≤ ((0 : Int32)).toNatClampNeg) := inb_of Sr180_19 hQ.r0
    have hatr180_19 : clr180_19.slots[((0 : Int32)).toNatClampNeg]? = some (.long (own_atJ (own_cp r156.2.2.1 r156.1) (0 : Int32))) := Has.at Hr180_19 hinr180_19 (own_getDJ _ _)
    refine Runs.go (Xc162_17.laload hx (j := (0 : Int32)) (v := (.long (own_atJ (own_cp r156.2.2.1 r156.1) (0 : Int32)))) (by exact Arr180_19.1) (State.isArrayOf_alike hZ.alike Arr180_19.2.1) Arr180_19.2.2 hinr180_19 hatr180_19 (g := (mkF m 180 #[.val (.long v0), .second, .val (.long v2), .second, .val (.long v4), .second, .val (.int v6), .val (.ref w_a), .val (.ref v8), .val (.long x0), .second, .val (.long v11), .second, .val (.int v13), .val (.long v14), .second, .val (.ref w_be), .val (.int v17), .val (.ref bc162_17), .unset, .unset] [(.int (0 : Int32)), (.ref bc162_17)])) rfl rfl (hb hby at_180)) ?_
    show Runs p e below s _ _ _ (Tc162_17.setTop (mkF m 181 #[.val (.long v0), .second, .val (.long v2), .second, .val (.long v4), .second, .val (.int v6), .val (.ref w_a), .val (.ref v8), .val (.long x0), .second, .val (.long v11), .second, .val (.int v13), .val (.long v14), .second, .val (.ref w_be), .val (.int v17), .val (.ref bc162_17), .unset, .unset] [(.long (own_atJ (own_cp r156.2.2.1 r156.1) (0 : Int32)))]))
    refine Runs.go (fun _ => XS.aload Xc162_17.here hx rfl (hb hby at_181) rfl rfl) ?_
    show Runs p e below s _ _ _ (Tc162_17.setTop (mkF m 183 #[.val (.long v0), .second, .val (.long v2), .second, .val (.long v4), .second, .val (.int v6), .val (.ref w_a), .val (.ref v8), .val (.long x0), .second, .val (.long v11), .second, .val (.int v13), .val (.long v14), .second, .val (.ref w_be), .val (.int v17), .val (.ref bc162_17), .unset, .unset] [(.ref w_be), (.long (own_atJ (own_cp r156.2.2.1 r156.1) (0 : Int32)))]))
    refine Runs.go (fun _ => XS.iconst Xc162_17.here hx rfl (hb hby at_183)) ?_
    show Runs p e below s _ _ _ (Tc162_17.setTop (mkF m 184 #[.val (.long v0), .second, .val (.long v2), .second, .val (.long v4), .second, .val (.int v6), .val (.ref w_a), .val (.ref v8), .val (.long x0), .second, .val (.long v11), .second, .val (.int v13), .val (.long v14), .second, .val (.ref w_be), .val (.int v17), .val (.ref bc162_17), .unset, .unset] [(.int (0 : Int32)), (.ref w_be), (.long (own_atJ (own_cp r156.2.2.1 r156.1) (0 : Int32)))]))
    have VCr184_20 := Ve_c162_17
    obtain ⟨clr184_20, Arr184_20, -, Sr184_20, Mr184_20, Hr184_20, -⟩ := VCr184_20
    have hinr184_20 : ¬ ((0 : Int32) < 0 ∨ clr184_20.slots.size ≤ ((0 : Int32)).toNatClampNeg) := inb_of Sr184_20 ⟨by decide, by decide⟩
    have hatr184_20 : clr184_20.slots[((0 : Int32)).toNatClampNeg]? = some (.long (own_atJ w_el (0 : Int32))) := Has.at Hr184_20 hinr184_20 (own_getDJ _ _)
    refine Runs.go (Xc162_17.laload hx (j := (0 : Int32)) (v := (.long (own_atJ w_el (0 : Int32)))) (by exact Arr184_20.1) (State.isArrayOf_alike hZ.alike Arr184_20.2.1) Arr184_20.2.2 hinr184_20 hatr184_20 (g := (mkF m 184 #[.val (.long v0), .second, .val (.long v2), .second, .val (.long v4), .second, .val (.int v6), .val (.ref w_a), .val (.ref v8), .val (.long x0), .second, .val (.long v11), .second, .val (.int v13), .val (.long v14), .second, .val (.ref w_be), .val (.int v17), .val (.ref bc162_17), .unset, .unset] [(.int (0 : Int32)), (.ref w_be), (.long (own_atJ (own_cp r156.2.2.1 r156.1) (0 : Int32)))])) rfl rfl (hb hby at_184)) ?_
    show Runs p e below s _ _ _ (Tc162_17.setTop (mkF m 185 #[.val (.long v0), .second, .val (.long v2), .second, .val (.long v4), .second, .val (.int v6), .val (.ref w_a), .val (.ref v8), .val (.long x0), .second, .val (.long v11), .second, .val (.int v13), .val (.long v14), .second, .val (.ref w_be), .val (.int v17), .val (.ref bc162_17), .unset, .unset] [(.long (own_atJ w_el (0 : Int32))), (.long (own_atJ (own_cp r156.2.2.1 r156.1) (0 : Int32)))]))
    refine Runs.go (fun _ => XS.lcmp Xc162_17.here hx rfl (hb hby at_185) rfl) ?_
    show Runs p e below s _ _ _ (Tc162_17.setTop (mkF m 186 #[.val (.long v0), .second, .val (.long v2), .second, .val (.long v4), .second, .val (.int v6), .val (.ref w_a), .val (.ref v8), .val (.long x0), .second, .val (.long v11), .second, .val (.int v13), .val (.long v14), .second, .val (.ref w_be), .val (.int v17), .val (.ref bc162_17), .unset, .unset] [(.int (lcmpW (own_atJ (own_cp r156.2.2.1 r156.1) (0 : Int32)) (own_atJ w_el (0 : Int32))))]))
    refine Runs.go (fun _ => XS.ifNo Xc162_17.here hx rfl (hb hby at_186) rfl ((if0 _ _).trans (teq (((lw_eq _ _).mpr hQ.e0) : (lcmpW (own_atJ (own_cp r156.2.2.1 r156.1) (0 : Int32)) (own_atJ w_el (0 : Int32))) = (0 : Int32))).2)) ?_
    show Runs p e below s _ _ _ (Tc162_17.setTop (mkF m 189 #[.val (.long v0), .second, .val (.long v2), .second, .val (.long v4), .second, .val (.int v6), .val (.ref w_a), .val (.ref v8), .val (.long x0), .second, .val (.long v11), .second, .val (.int v13), .val (.long v14), .second, .val (.ref w_be), .val (.int v17), .val (.ref bc162_17), .unset, .unset] []))
    refine Runs.go (fun _ => XS.iload Xc162_17.here hx rfl (hb hby at_189) rfl) ?_
    show Runs p e below s _ _ _ (Tc162_17.setTop (mkF m 191 #[.val (.long v0), .second, .val (.long v2), .second, .val (.long v4), .second, .val (.int v6), .val (.ref w_a), .val (.ref v8), .val (.long x0), .second, .val (.long v11), .second, .val (.int v13), .val (.long v14), .second, .val (.ref w_be), .val (.int v17), .val (.ref bc162_17), .unset, .unset] [(.int v17)]))
    refine Runs.go (fun _ => XS.iconst Xc162_17.here hx rfl (hb hby at_191)) ?_
    show Runs p e below s _ _ _ (Tc162_17.setTop (mkF m 192 #[.val (.long v0), .second, .val (.long v2), .second, .val (.long v4), .second, .val (.int v6), .val (.ref w_a), .val (.ref v8), .val (.long x0), .second, .val (.long v11), .second, .val (.int v13), .val (.long v14), .second, .val (.ref w_be), .val (.int v17), .val (.ref bc162_17), .unset, .unset] [(.int (2 : Int32)), (.int v17)]))
    by_cases hc192 : v17 < (2 : Int32)
    · have hv := (if_pos hc192).symm.trans hv
      refine Runs.go (fun _ => XS.icmpYes Xc162_17.here hx rfl (pc0 := 192) (pc' := 207) rfl (hb hby at_192) rfl (tlt hc192).1 (by decide) (by decide)) ?_
      show Runs p e below s _ _ _ (Tc162_17.setTop (mkF m 207 #[.val (.long v0), .second, .val (.long v2), .second, .val (.long v4), .second, .val (.int v6), .val (.ref w_a), .val (.ref v8), .val (.long x0), .second, .val (.long v11), .second, .val (.int v13), .val (.long v14), .second, .val (.ref w_be), .val (.int v17), .val (.ref bc162_17), .unset, .unset] []))
      refine Runs.go (fun _ => XS.iload Xc162_17.here hx rfl (hb hby at_207) rfl) ?_
      show Runs p e below s _ _ _ (Tc162_17.setTop (mkF m 209 #[.val (.long v0), .second, .val (.long v2), .second, .val (.long v4), .second, .val (.int v6), .val (.ref w_a), .val (.ref v8), .val (.long x0), .second, .val (.long v11), .second, .val (.int v13), .val (.long v14), .second, .val (.ref w_be), .val (.int v17), .val (.ref bc162_17), .unset, .unset] [(.int v17)]))
      refine Runs.go (fun _ => XS.iconst Xc162_17.here hx rfl (hb hby at_209)) ?_
      show Runs p e below s _ _ _ (Tc162_17.setTop (mkF m 210 #[.val (.long v0), .second, .val (.long v2), .second, .val (.long v4), .second, .val (.int v6), .val (.ref w_a), .val (.ref v8), .val (.long x0), .second, .val (.long v11), .second, .val (.int v13), .val (.long v14), .second, .val (.ref w_be), .val (.int v17), .val (.ref bc162_17), .unset, .unset] [(.int (3 : Int32)), (.int v17)]))
      refine Runs.go (fun _ => XS.icmpYes Xc162_17.here hx rfl (pc0 := 210) (pc' := 225) rfl (hb hby at_210) rfl (tlt ((own_23 hc192) : v17 < (3 : Int32))).1 (by decide) (by decide)) ?_
      show Runs p e below s _ _ _ (Tc162_17.setTop (mkF m 225 #[.val (.long v0), .second, .val (.long v2), .second, .val (.long v4), .second, .val (.int v6), .val (.ref w_a), .val (.ref v8), .val (.long x0), .second, .val (.long v11), .second, .val (.int v13), .val (.long v14), .second, .val (.ref w_be), .val (.int v17), .val (.ref bc162_17), .unset, .unset] []))
      refine Runs.go (fun _ => XS.iconst Xc162_17.here hx rfl (hb hby at_225)) ?_
      show Runs p e below s _ _ _ (Tc162_17.setTop (mkF m 226 #[.val (.long v0), .second, .val (.long v2), .second, .val (.long v4), .second, .val (.int v6), .val (.ref w_a), .val (.ref v8), .val (.long x0), .second, .val (.long v11), .second, .val (.int v13), .val (.long v14), .second, .val (.ref w_be), .val (.int v17), .val (.ref bc162_17), .unset, .unset] [(.int (1 : Int32))]))
      refine Runs.go (fun _ => XS.goto Xc162_17.here hx rfl (pc0 := 226) (pc' := 230) rfl (hb hby at_226) (by decide) (by decide)) ?_
      show Runs p e below s _ _ _ (Tc162_17.setTop (mkF m 230 #[.val (.long v0), .second, .val (.long v2), .second, .val (.long v4), .second, .val (.int v6), .val (.ref w_a), .val (.ref v8), .val (.long x0), .second, .val (.long v11), .second, .val (.int v13), .val (.long v14), .second, .val (.ref w_be), .val (.int v17), .val (.ref bc162_17), .unset, .unset] [(.int (1 : Int32))]))
      refine Runs.go (fun _ => XS.istore Xc162_17.here hx rfl (hb hby at_230) rfl (l' := #[.val (.long v0), .second, .val (.long v2), .second, .val (.long v4), .second, .val (.int v6), .val (.ref w_a), .val (.ref v8), .val (.long x0), .second, .val (.long v11), .second, .val (.int v13), .val (.long v14), .second, .val (.ref w_be), .val (.int v17), .val (.ref bc162_17), .val (.int (1 : Int32)), .unset]) rfl) ?_
      show Runs p e below s _ _ _ (Tc162_17.setTop (mkF m 232 #[.val (.long v0), .second, .val (.long v2), .second, .val (.long v4), .second, .val (.int v6), .val (.ref w_a), .val (.ref v8), .val (.long x0), .second, .val (.long v11), .second, .val (.int v13), .val (.long v14), .second, .val (.ref w_be), .val (.int v17), .val (.ref bc162_17), .val (.int (1 : Int32)), .unset] []))
      refine Runs.go (fun _ => XS.aload Xc162_17.here hx rfl (hb hby at_232) rfl rfl) ?_
      show Runs p e below s _ _ _ (Tc162_17.setTop (mkF m 234 #[.val (.long v0), .second, .val (.long v2), .second, .val (.long v4), .second, .val (.int v6), .val (.ref w_a), .val (.ref v8), .val (.long x0), .second, .val (.long v11), .second, .val (.int v13), .val (.long v14), .second, .val (.ref w_be), .val (.int v17), .val (.ref bc162_17), .val (.int (1 : Int32)), .unset] [(.ref bc162_17)]))
      refine Runs.go (fun _ => XS.iconst Xc162_17.here hx rfl (hb hby at_234)) ?_
      show Runs p e below s _ _ _ (Tc162_17.setTop (mkF m 235 #[.val (.long v0), .second, .val (.long v2), .second, .val (.long v4), .second, .val (.int v6), .val (.ref w_a), .val (.ref v8), .val (.long x0), .second, .val (.long v11), .second, .val (.int v13), .val (.long v14), .second, .val (.ref w_be), .val (.int v17), .val (.ref bc162_17), .val (.int (1 : Int32)), .unset] [(.int (0 : Int32)), (.ref bc162_17)]))
      refine Runs.go (fun _ => XS.aload Xc162_17.here hx rfl (hb hby at_235) rfl rfl) ?_
      show Runs p e below s _ _ _ (Tc162_17.setTop (mkF m 237 #[.val (.long v0), .second, .val (.long v2), .second, .val (.long v4), .second, .val (.int v6), .val (.ref w_a), .val (.ref v8), .val (.long x0), .second, .val (.long v11), .second, .val (.int v13), .val (.long v14), .second, .val (.ref w_be), .val (.int v17), .val (.ref bc162_17), .val (.int (1 : Int32)), .unset] [(.ref bc162_17), (.int (0 : Int32)), (.ref bc162_17)]))
      refine Runs.go (fun _ => XS.iconst Xc162_17.here hx rfl (hb hby at_237)) ?_
      show Runs p e below s _ _ _ (Tc162_17.setTop (mkF m 238 #[.val (.long v0), .second, .val (.long v2), .second, .val (.long v4), .second, .val (.int v6), .val (.ref w_a), .val (.ref v8), .val (.long x0), .second, .val (.long v11), .second, .val (.int v13), .val (.long v14), .second, .val (.ref w_be), .val (.int v17), .val (.ref bc162_17), .val (.int (1 : Int32)), .unset] [(.int (0 : Int32)), (.ref bc162_17), (.int (0 : Int32)), (.ref bc162_17)]))
      have VCr238_21 := Vc162_17
      obtain ⟨clr238_21, Arr238_21, -, Sr238_21, Mr238_21, Hr238_21, -⟩ := VCr238_21
      have hinr238_21 : ¬ ((0 : Int32) < 0 ∨ clr238_21.slots.size ≤ ((0 : Int32)).toNatClampNeg) := inb_of Sr238_21 hQ.r0
      have hatr238_21 : clr238_21.slots[((0 : Int32)).toNatClampNeg]? = some (.long (own_atJ (own_cp r156.2.2.1 r156.1) (0 : Int32))) := Has.at Hr238_21 hinr238_21 (own_getDJ _ _)
      refine Runs.go (Xc162_17.laload hx (j := (0 : Int32)) (v := (.long (own_atJ (own_cp r156.2.2.1 r156.1) (0 : Int32)))) (by exact Arr238_21.1) (State.isArrayOf_alike hZ.alike Arr238_21.2.1) Arr238_21.2.2 hinr238_21 hatr238_21 (g := (mkF m 238 #[.val (.long v0), .second, .val (.long v2), .second, .val (.long v4), .second, .val (.int v6), .val (.ref w_a), .val (.ref v8), .val (.long x0), .second, .val (.long v11), .second, .val (.int v13), .val (.long v14), .second, .val (.ref w_be), .val (.int v17), .val (.ref bc162_17), .val (.int (1 : Int32)), .unset] [(.int (0 : Int32)), (.ref bc162_17), (.int (0 : Int32)), (.ref bc162_17)])) rfl rfl (hb hby at_238)) ?_
      show Runs p e below s _ _ _ (Tc162_17.setTop (mkF m 239 #[.val (.long v0), .second, .val (.long v2), .second, .val (.long v4), .second, .val (.int v6), .val (.ref w_a), .val (.ref v8), .val (.long x0), .second, .val (.long v11), .second, .val (.int v13), .val (.long v14), .second, .val (.ref w_be), .val (.int v17), .val (.ref bc162_17), .val (.int (1 : Int32)), .unset] [(.long (own_atJ (own_cp r156.2.2.1 r156.1) (0 : Int32))), (.int (0 : Int32)), (.ref bc162_17)]))
      refine Runs.go (Xc162_17.ldc2Long hx hown (mvT hZ (hw _ (List.mem_of_getElem? (i := 67) rfl))) (g := (mkF m 239 #[.val (.long v0), .second, .val (.long v2), .second, .val (.long v4), .second, .val (.int v6), .val (.ref w_a), .val (.ref v8), .val (.long x0), .second, .val (.long v11), .second, .val (.int v13), .val (.long v14), .second, .val (.ref w_be), .val (.int v17), .val (.ref bc162_17), .val (.int (1 : Int32)), .unset] [(.long (own_atJ (own_cp r156.2.2.1 r156.1) (0 : Int32))), (.int (0 : Int32)), (.ref bc162_17)])) rfl (hb hby at_239)) ?_
      show Runs p e below s _ _ _ (Tc162_17.setTop (mkF m 242 #[.val (.long v0), .second, .val (.long v2), .second, .val (.long v4), .second, .val (.int v6), .val (.ref w_a), .val (.ref v8), .val (.long x0), .second, .val (.long v11), .second, .val (.int v13), .val (.long v14), .second, .val (.ref w_be), .val (.int v17), .val (.ref bc162_17), .val (.int (1 : Int32)), .unset] [(.long (-1 : Int64)), (.long (own_atJ (own_cp r156.2.2.1 r156.1) (0 : Int32))), (.int (0 : Int32)), (.ref bc162_17)]))
      refine Runs.go (fun _ => XS.lxor Xc162_17.here hx rfl (hb hby at_242) rfl) ?_
      show Runs p e below s _ _ _ (Tc162_17.setTop (mkF m 243 #[.val (.long v0), .second, .val (.long v2), .second, .val (.long v4), .second, .val (.int v6), .val (.ref w_a), .val (.ref v8), .val (.long x0), .second, .val (.long v11), .second, .val (.int v13), .val (.long v14), .second, .val (.ref w_be), .val (.int v17), .val (.ref bc162_17), .val (.int (1 : Int32)), .unset] [(.long ((own_atJ (own_cp r156.2.2.1 r156.1) (0 : Int32)) ^^^ (-1 : Int64))), (.int (0 : Int32)), (.ref bc162_17)]))
      have VCw243_22 := Vc162_17
      obtain ⟨clw243_22, Arw243_22, qw243_22, Sw243_22, Mw243_22, Hw243_22, Gw243_22⟩ := VCw243_22
      have hinw243_22 : ¬ ((0 : Int32) < 0 ∨ clw243_22.slots.size ≤ ((0 : Int32)).toNatClampNeg) := inb_of Sw243_22 hQ.r0
      obtain ⟨Tw243_22, hw243_22, Xw243_22, ew243_22, Ww243_22, stw243_22⟩ := stJ Xc162_17 hx hZ rfl Arw243_22 (j := (0 : Int32)) hinw243_22 (g := (mkF m 243 #[.val (.long v0), .second, .val (.long v2), .second, .val (.long v4), .second, .val (.int v6), .val (.ref w_a), .val (.ref v8), .val (.long x0), .second, .val (.long v11), .second, .val (.int v13), .val (.long v14), .second, .val (.ref w_be), .val (.int v17), .val (.ref bc162_17), .val (.int (1 : Int32)), .unset] [(.long ((own_atJ (own_cp r156.2.2.1 r156.1) (0 : Int32)) ^^^ (-1 : Int64))), (.int (0 : Int32)), (.ref bc162_17)])) rfl rfl (hb hby at_243)
      refine Runs.go stw243_22 ?_
      have hnw243_22 : n0 ≤ hw243_22.size := by rw [Wr.size Ww243_22]; exact hzt162
      have Ve_w243_22 := Ve_c162_17.other Ww243_22 ne_c162_17_w_be
      have EI_w243_22 := EI_c162_17.other Ww243_22 nea_c162_17 neb1_c162_17 neb2_c162_17
      have Vw243_22 : Arv Z hw243_22 bc162_17 kc162_17 .long r156.1 (List.map Value.long (own_setJ (own_cp r156.2.2.1 r156.1) (0 : Int32) ((own_atJ (own_cp r156.2.2.1 r156.1) (0 : Int32)) ^^^ (-1 : Int64)))) (.long (0 : Int64)) := by
        rw [own_setJ, List.map_set]; exact Arv.set Arw243_22 qw243_22 Sw243_22 Mw243_22 Hw243_22 Gw243_22 rfl Ww243_22 _ rfl (by rw [List.length_map]; exact hQ.rl)
      have Nw243_22 := Fr.snoc Xw243_22 Nc162_17 gb_bc162_17
      show Runs p e below s _ _ _ (Tw243_22.setTop (mkF m 244 #[.val (.long v0), .second, .val (.long v2), .second, .val (.long v4), .second, .val (.int v6), .val (.ref w_a), .val (.ref v8), .val (.long x0), .second, .val (.long v11), .second, .val (.int v13), .val (.long v14), .second, .val (.ref w_be), .val (.int v17), .val (.ref bc162_17), .val (.int (1 : Int32)), .unset] []))
      refine Runs.go (fun _ => XS.aload Xw243_22.here hx rfl (hb hby at_244) rfl rfl) ?_
      show Runs p e below s _ _ _ (Tw243_22.setTop (mkF m 246 #[.val (.long v0), .second, .val (.long v2), .second, .val (.long v4), .second, .val (.int v6), .val (.ref w_a), .val (.ref v8), .val (.long x0), .second, .val (.long v11), .second, .val (.int v13), .val (.long v14), .second, .val (.ref w_be), .val (.int v17), .val (.ref bc162_17), .val (.int (1 : Int32)), .unset] [(.ref w_a)]))
      have hz246 : n0 ≤ hw243_22.size := Nat.le_trans EI_w243_22.2.1 (Nat.le_of_lt EI_w243_22.lts.1)
      obtain ⟨cqc246_23, kqc246_23, qc246_23a, qc246_23b, qc246_23c⟩ := isOf hZ ew243_22 EI_w243_22.1
      obtain ⟨_, _, ⟨Tc246_23, Lc246_23, kc246_23, nc246_23⟩, -, Xc246_23, ⟨Lcc246_23, hQc246_23, lc246_23, yc246_23, zc246_23⟩, stc246_23⟩ := Xw243_22.virtualBack hx (y := (⟨"com/example/quillon/quillon/core/ElementIds", "toArray", "()[J"⟩ : MethodName)) (z := (⟨"com/example/quillon/quillon/core/ElementIds", "toArray", "()[J"⟩ : MethodName)) hown (mvT hZ (hw _ (List.mem_of_getElem? (i := 32) rfl))) (mvT hZ (hw _ (List.mem_of_getElem? (i := 33) rfl))) (notFace_of_selects (args := #[]) (mvT hZ (hw _ (List.mem_of_getElem? (i := 35) rfl)))) (mvT hZ (hw _ (List.mem_of_getElem? (i := 35) rfl))) (mvT hZ (hw _ (List.mem_of_getElem? (i := 34) rfl))) (by decide) (backOf (W := 0) (rm6 l Z a0 hw [] w_a w_b1 w_b2 r156.1 r156.2.1 r156.2.2.1 r156.2.2.2 hw243_22 n0 hz246 EI_w243_22 hQ.nn) hZ (hw _ (List.mem_of_getElem? (i := 36) rfl)) (hw _ (List.mem_of_getElem? (i := 2) rfl)) (by decide) (by decide)) qc246_23a qc246_23c (g := (mkF m 246 #[.val (.long v0), .second, .val (.long v2), .second, .val (.long v4), .second, .val (.int v6), .val (.ref w_a), .val (.ref v8), .val (.long x0), .second, .val (.long v11), .second, .val (.int v13), .val (.long v14), .second, .val (.ref w_be), .val (.int v17), .val (.ref bc162_17), .val (.int (1 : Int32)), .unset] [(.ref w_a)])) rfl (by rw [hml]; rfl) (Steps.refl _) (argsL := []) (rest := []) (lenOf pd_4 rfl) rfl (by show 2 * 0 + _ ≤ _; exact Nat.le_of_eq rfl) (hb hby at_246) (fun _ _ => ⟨rfl, ew243_22, (by decide : 6 + 1 ≤ _), (by decide : 39 + 3 ≤ _)⟩)
      dsimp only [Pt.U, Pt.locs, Pt.cells, Pt.slots] at Xc246_23 lc246_23 yc246_23 zc246_23 stc246_23 hQc246_23
      subst lc246_23 yc246_23 zc246_23
      obtain ⟨bc246_23, kc246_23, rfl, Nc246_23q, gc246_23, Ec246_23, Vc246_23⟩ := hQc246_23
      refine Runs.go (fun _ => stc246_23.trans) ?_
      have Nc246_23 := Fr.app Nw243_22 Nc246_23q
      have ne_c246_23_w_be : w_be ≠ bc246_23 := Nat.ne_of_lt (Nat.lt_of_lt_of_le Ve_w243_22.lt (Nat.le_of_eq gc246_23.symm))
      have ne_c246_23_bc162_17 : bc162_17 ≠ bc246_23 := Nat.ne_of_lt (Nat.lt_of_lt_of_le Vw243_22.lt (Nat.le_of_eq gc246_23.symm))
      have nea_c246_23 : w_a ≠ bc246_23 := Nat.ne_of_lt (Nat.lt_of_lt_of_le EI_w243_22.lts.1 (Nat.le_of_eq gc246_23.symm))
      have neb1_c246_23 : w_b1 ≠ bc246_23 := Nat.ne_of_lt (Nat.lt_of_lt_of_le EI_w243_22.lts.2.1 (Nat.le_of_eq gc246_23.symm))
      have neb2_c246_23 : w_b2 ≠ bc246_23 := Nat.ne_of_lt (Nat.lt_of_lt_of_le EI_w243_22.lts.2.2 (Nat.le_of_eq gc246_23.symm))
      have gb_bc246_23 : n0 ≤ bc246_23 := Nat.le_trans hz246 (Nat.le_of_eq gc246_23.symm)
      have Ve_c246_23 := Ve_w243_22.ext Ec246_23
      have Vbc162_17_c246_23 := Vw243_22.ext Ec246_23
      have EI_c246_23 := EI_w243_22.ext Ec246_23
      have hzt246 : n0 ≤ Tc246_23.heap.size := Nat.le_trans hz246 Ec246_23.1
      show Runs p e below s _ _ _ (Tc246_23.setTop (mkF m 249 #[.val (.long v0), .second, .val (.long v2), .second, .val (.long v4), .second, .val (.int v6), .val (.ref w_a), .val (.ref v8), .val (.long x0), .second, .val (.long v11), .second, .val (.int v13), .val (.long v14), .second, .val (.ref w_be), .val (.int v17), .val (.ref bc162_17), .val (.int (1 : Int32)), .unset] [(.ref bc246_23)]))
      refine Runs.go (fun _ => XS.astore Xc246_23.here hx rfl (hb hby at_249) rfl rfl (l' := #[.val (.long v0), .second, .val (.long v2), .second, .val (.long v4), .second, .val (.int v6), .val (.ref w_a), .val (.ref v8), .val (.long x0), .second, .val (.long v11), .second, .val (.int v13), .val (.long v14), .second, .val (.ref w_be), .val (.int v17), .val (.ref bc162_17), .val (.int (1 : Int32)), .val (.ref bc246_23)]) rfl) ?_
      show Runs p e below s _ _ _ (Tc246_23.setTop (mkF m 251 #[.val (.long v0), .second, .val (.long v2), .second, .val (.long v4), .second, .val (.int v6), .val (.ref w_a), .val (.ref v8), .val (.long x0), .second, .val (.long v11), .second, .val (.int v13), .val (.long v14), .second, .val (.ref w_be), .val (.int v17), .val (.ref bc162_17), .val (.int (1 : Int32)), .val (.ref bc246_23)] []))
      refine Runs.go (fun _ => XS.iload Xc246_23.here hx rfl (hb hby at_251) rfl) ?_
      show Runs p e below s _ _ _ (Tc246_23.setTop (mkF m 253 #[.val (.long v0), .second, .val (.long v2), .second, .val (.long v4), .second, .val (.int v6), .val (.ref w_a), .val (.ref v8), .val (.long x0), .second, .val (.long v11), .second, .val (.int v13), .val (.long v14), .second, .val (.ref w_be), .val (.int v17), .val (.ref bc162_17), .val (.int (1 : Int32)), .val (.ref bc246_23)] [(.int (1 : Int32))]))
      refine Runs.go (fun _ => XS.ifNo Xc246_23.here hx rfl (hb hby at_253) rfl ((if0 _ _).trans (feq ((by decide) : ¬ ((1 : Int32) = (0 : Int32)))).1)) ?_
      show Runs p e below s _ _ _ (Tc246_23.setTop (mkF m 256 #[.val (.long v0), .second, .val (.long v2), .second, .val (.long v4), .second, .val (.int v6), .val (.ref w_a), .val (.ref v8), .val (.long x0), .second, .val (.long v11), .second, .val (.int v13), .val (.long v14), .second, .val (.ref w_be), .val (.int v17), .val (.ref bc162_17), .val (.int (1 : Int32)), .val (.ref bc246_23)] []))
      refine Runs.go (fun _ => XS.aload Xc246_23.here hx rfl (hb hby at_256) rfl rfl) ?_
      show Runs p e below s _ _ _ (Tc246_23.setTop (mkF m 258 #[.val (.long v0), .second, .val (.long v2), .second, .val (.long v4), .second, .val (.int v6), .val (.ref w_a), .val (.ref v8), .val (.long x0), .second, .val (.long v11), .second, .val (.int v13), .val (.long v14), .second, .val (.ref w_be), .val (.int v17), .val (.ref bc162_17), .val (.int (1 : Int32)), .val (.ref bc246_23)] [(.ref bc246_23)]))
      have VCl258_24 := Vc246_23
      obtain ⟨cll258_24, Arl258_24, -, Sl258_24, Ml258_24, -, -⟩ := VCl258_24
      refine Runs.go (Xc246_23.arraylength hx (by exact Arl258_24.1) (State.isArrayOf_alike hZ.alike Arl258_24.2.1) (g := (mkF m 258 #[.val (.long v0), .second, .val (.long v2), .second, .val (.long v4), .second, .val (.int v6), .val (.ref w_a), .val (.ref v8), .val (.long x0), .second, .val (.long v11), .second, .val (.int v13), .val (.long v14), .second, .val (.ref w_be), .val (.int v17), .val (.ref bc162_17), .val (.int (1 : Int32)), .val (.ref bc246_23)] [(.ref bc246_23)])) rfl rfl (hb hby at_258)) ?_
      rw [len_of Sl258_24 Ml258_24]
      show Runs p e below s _ _ _ (Tc246_23.setTop (mkF m 259 #[.val (.long v0), .second, .val (.long v2), .second, .val (.long v4), .second, .val (.int v6), .val (.ref w_a), .val (.ref v8), .val (.long x0), .second, .val (.long v11), .second, .val (.int v13), .val (.long v14), .second, .val (.ref w_be), .val (.int v17), .val (.ref bc162_17), .val (.int (1 : Int32)), .val (.ref bc246_23)] [(.int r156.1)]))
      refine Runs.go (fun _ => XS.iload Xc246_23.here hx rfl (hb hby at_259) rfl) ?_
      show Runs p e below s _ _ _ (Tc246_23.setTop (mkF m 261 #[.val (.long v0), .second, .val (.long v2), .second, .val (.long v4), .second, .val (.int v6), .val (.ref w_a), .val (.ref v8), .val (.long x0), .second, .val (.long v11), .second, .val (.int v13), .val (.long v14), .second, .val (.ref w_be), .val (.int v17), .val (.ref bc162_17), .val (.int (1 : Int32)), .val (.ref bc246_23)] [(.int v17), (.int r156.1)]))
      refine Runs.go (fun _ => XS.icmpNo Xc246_23.here hx rfl (hb hby at_261) rfl (teq (hQ.len : r156.1 = v17)).2) ?_
      show Runs p e below s _ _ _ (Tc246_23.setTop (mkF m 264 #[.val (.long v0), .second, .val (.long v2), .second, .val (.long v4), .second, .val (.int v6), .val (.ref w_a), .val (.ref v8), .val (.long x0), .second, .val (.long v11), .second, .val (.int v13), .val (.long v14), .second, .val (.ref w_be), .val (.int v17), .val (.ref bc162_17), .val (.int (1 : Int32)), .val (.ref bc246_23)] []))
      refine Runs.go (fun _ => XS.aload Xc246_23.here hx rfl (hb hby at_264) rfl rfl) ?_
      show Runs p e below s _ _ _ (Tc246_23.setTop (mkF m 266 #[.val (.long v0), .second, .val (.long v2), .second, .val (.long v4), .second, .val (.int v6), .val (.ref w_a), .val (.ref v8), .val (.long x0), .second, .val (.long v11), .second, .val (.int v13), .val (.long v14), .second, .val (.ref w_be), .val (.int v17), .val (.ref bc162_17), .val (.int (1 : Int32)), .val (.ref bc246_23)] [(.ref bc246_23)]))
      refine Runs.go (fun _ => XS.iconst Xc246_23.here hx rfl (hb hby at_266)) ?_
      show Runs p e below s _ _ _ (Tc246_23.setTop (mkF m 267 #[.val (.long v0), .second, .val (.long v2), .second, .val (.long v4), .second, .val (.int v6), .val (.ref w_a), .val (.ref v8), .val (.long x0), .second, .val (.long v11), .second, .val (.int v13), .val (.long v14), .second, .val (.ref w_be), .val (.int v17), .val (.ref bc162_17), .val (.int (1 : Int32)), .val (.ref bc246_23)] [(.int (0 : Int32)), (.ref bc246_23)]))
      have VCr267_25 := Vc246_23
      obtain ⟨clr267_25, Arr267_25, -, Sr267_25, Mr267_25, Hr267_25, -⟩ := VCr267_25
      have hinr267_25 : ¬ ((0 : Int32) < 0 ∨ clr267_25.slots.size ≤ ((0 : Int32)).toNatClampNeg) := inb_of Sr267_25 hQ.r0
      have hatr267_25 : clr267_25.slots[((0 : Int32)).toNatClampNeg]? = some (.long (own_atJ (own_cp r156.2.2.1 r156.1) (0 : Int32))) := Has.at Hr267_25 hinr267_25 (own_getDJ _ _)
      refine Runs.go (Xc246_23.laload hx (j := (0 : Int32)) (v := (.long (own_atJ (own_cp r156.2.2.1 r156.1) (0 : Int32)))) (by exact Arr267_25.1) (State.isArrayOf_alike hZ.alike Arr267_25.2.1) Arr267_25.2.2 hinr267_25 hatr267_25 (g := (mkF m 267 #[.val (.long v0), .second, .val (.long v2), .second, .val (.long v4), .second, .val (.int v6), .val (.ref w_a), .val (.ref v8), .val (.long x0), .second, .val (.long v11), .second, .val (.int v13), .val (.long v14), .second, .val (.ref w_be), .val (.int v17), .val (.ref bc162_17), .val (.int (1 : Int32)), .val (.ref bc246_23)] [(.int (0 : Int32)), (.ref bc246_23)])) rfl rfl (hb hby at_267)) ?_
      show Runs p e below s _ _ _ (Tc246_23.setTop (mkF m 268 #[.val (.long v0), .second, .val (.long v2), .second, .val (.long v4), .second, .val (.int v6), .val (.ref w_a), .val (.ref v8), .val (.long x0), .second, .val (.long v11), .second, .val (.int v13), .val (.long v14), .second, .val (.ref w_be), .val (.int v17), .val (.ref bc162_17), .val (.int (1 : Int32)), .val (.ref bc246_23)] [(.long (own_atJ (own_cp r156.2.2.1 r156.1) (0 : Int32)))]))
      refine Runs.go (fun _ => XS.aload Xc246_23.here hx rfl (hb hby at_268) rfl rfl) ?_
      show Runs p e below s _ _ _ (Tc246_23.setTop (mkF m 270 #[.val (.long v0), .second, .val (.long v2), .second, .val (.long v4), .second, .val (.int v6), .val (.ref w_a), .val (.ref v8), .val (.long x0), .second, .val (.long v11), .second, .val (.int v13), .val (.long v14), .second, .val (.ref w_be), .val (.int v17), .val (.ref bc162_17), .val (.int (1 : Int32)), .val (.ref bc246_23)] [(.ref w_be), (.long (own_atJ (own_cp r156.2.2.1 r156.1) (0 : Int32)))]))
      refine Runs.go (fun _ => XS.iconst Xc246_23.here hx rfl (hb hby at_270)) ?_
      show Runs p e below s _ _ _ (Tc246_23.setTop (mkF m 271 #[.val (.long v0), .second, .val (.long v2), .second, .val (.long v4), .second, .val (.int v6), .val (.ref w_a), .val (.ref v8), .val (.long x0), .second, .val (.long v11), .second, .val (.int v13), .val (.long v14), .second, .val (.ref w_be), .val (.int v17), .val (.ref bc162_17), .val (.int (1 : Int32)), .val (.ref bc246_23)] [(.int (0 : Int32)), (.ref w_be), (.long (own_atJ (own_cp r156.2.2.1 r156.1) (0 : Int32)))]))
      have VCr271_26 := Ve_c246_23
      obtain ⟨clr271_26, Arr271_26, -, Sr271_26, Mr271_26, Hr271_26, -⟩ := VCr271_26
      have hinr271_26 : ¬ ((0 : Int32) < 0 ∨ clr271_26.slots.size ≤ ((0 : Int32)).toNatClampNeg) := inb_of Sr271_26 ⟨by decide, by decide⟩
      have hatr271_26 : clr271_26.slots[((0 : Int32)).toNatClampNeg]? = some (.long (own_atJ w_el (0 : Int32))) := Has.at Hr271_26 hinr271_26 (own_getDJ _ _)
      refine Runs.go (Xc246_23.laload hx (j := (0 : Int32)) (v := (.long (own_atJ w_el (0 : Int32)))) (by exact Arr271_26.1) (State.isArrayOf_alike hZ.alike Arr271_26.2.1) Arr271_26.2.2 hinr271_26 hatr271_26 (g := (mkF m 271 #[.val (.long v0), .second, .val (.long v2), .second, .val (.long v4), .second, .val (.int v6), .val (.ref w_a), .val (.ref v8), .val (.long x0), .second, .val (.long v11), .second, .val (.int v13), .val (.long v14), .second, .val (.ref w_be), .val (.int v17), .val (.ref bc162_17), .val (.int (1 : Int32)), .val (.ref bc246_23)] [(.int (0 : Int32)), (.ref w_be), (.long (own_atJ (own_cp r156.2.2.1 r156.1) (0 : Int32)))])) rfl rfl (hb hby at_271)) ?_
      show Runs p e below s _ _ _ (Tc246_23.setTop (mkF m 272 #[.val (.long v0), .second, .val (.long v2), .second, .val (.long v4), .second, .val (.int v6), .val (.ref w_a), .val (.ref v8), .val (.long x0), .second, .val (.long v11), .second, .val (.int v13), .val (.long v14), .second, .val (.ref w_be), .val (.int v17), .val (.ref bc162_17), .val (.int (1 : Int32)), .val (.ref bc246_23)] [(.long (own_atJ w_el (0 : Int32))), (.long (own_atJ (own_cp r156.2.2.1 r156.1) (0 : Int32)))]))
      refine Runs.go (fun _ => XS.lcmp Xc246_23.here hx rfl (hb hby at_272) rfl) ?_
      show Runs p e below s _ _ _ (Tc246_23.setTop (mkF m 273 #[.val (.long v0), .second, .val (.long v2), .second, .val (.long v4), .second, .val (.int v6), .val (.ref w_a), .val (.ref v8), .val (.long x0), .second, .val (.long v11), .second, .val (.int v13), .val (.long v14), .second, .val (.ref w_be), .val (.int v17), .val (.ref bc162_17), .val (.int (1 : Int32)), .val (.ref bc246_23)] [(.int (lcmpW (own_atJ (own_cp r156.2.2.1 r156.1) (0 : Int32)) (own_atJ w_el (0 : Int32))))]))
      refine Runs.go (fun _ => XS.ifNo Xc246_23.here hx rfl (hb hby at_273) rfl ((if0 _ _).trans (teq (((lw_eq _ _).mpr hQ.e0) : (lcmpW (own_atJ (own_cp r156.2.2.1 r156.1) (0 : Int32)) (own_atJ w_el (0 : Int32))) = (0 : Int32))).2)) ?_
      show Runs p e below s _ _ _ (Tc246_23.setTop (mkF m 276 #[.val (.long v0), .second, .val (.long v2), .second, .val (.long v4), .second, .val (.int v6), .val (.ref w_a), .val (.ref v8), .val (.long x0), .second, .val (.long v11), .second, .val (.int v13), .val (.long v14), .second, .val (.ref w_be), .val (.int v17), .val (.ref bc162_17), .val (.int (1 : Int32)), .val (.ref bc246_23)] []))
      refine Runs.go (fun _ => XS.iconst Xc246_23.here hx rfl (hb hby at_276)) ?_
      show Runs p e below s _ _ _ (Tc246_23.setTop (mkF m 277 #[.val (.long v0), .second, .val (.long v2), .second, .val (.long v4), .second, .val (.int v6), .val (.ref w_a), .val (.ref v8), .val (.long x0), .second, .val (.long v11), .second, .val (.int v13), .val (.long v14), .second, .val (.ref w_be), .val (.int v17), .val (.ref bc162_17), .val (.int (1 : Int32)), .val (.ref bc246_23)] [(.int (1 : Int32))]))
      refine Runs.go (fun _ => XS.goto Xc246_23.here hx rfl (pc0 := 277) (pc' := 281) rfl (hb hby at_277) (by decide) (by decide)) ?_
      show Runs p e below s _ _ _ (Tc246_23.setTop (mkF m 281 #[.val (.long v0), .second, .val (.long v2), .second, .val (.long v4), .second, .val (.int v6), .val (.ref w_a), .val (.ref v8), .val (.long x0), .second, .val (.long v11), .second, .val (.int v13), .val (.long v14), .second, .val (.ref w_be), .val (.int v17), .val (.ref bc162_17), .val (.int (1 : Int32)), .val (.ref bc246_23)] [(.int (1 : Int32))]))
      refine Runs.go (fun _ => XS.istore Xc246_23.here hx rfl (hb hby at_281) rfl (l' := #[.val (.long v0), .second, .val (.long v2), .second, .val (.long v4), .second, .val (.int v6), .val (.ref w_a), .val (.ref v8), .val (.long x0), .second, .val (.long v11), .second, .val (.int v13), .val (.long v14), .second, .val (.ref w_be), .val (.int v17), .val (.ref bc162_17), .val (.int (1 : Int32)), .val (.ref bc246_23)]) rfl) ?_
      show Runs p e below s _ _ _ (Tc246_23.setTop (mkF m 283 #[.val (.long v0), .second, .val (.long v2), .second, .val (.long v4), .second, .val (.int v6), .val (.ref w_a), .val (.ref v8), .val (.long x0), .second, .val (.long v11), .second, .val (.int v13), .val (.long v14), .second, .val (.ref w_be), .val (.int v17), .val (.ref bc162_17), .val (.int (1 : Int32)), .val (.ref bc246_23)] []))
      refine Runs.go (fun _ => XS.iload Xc246_23.here hx rfl (hb hby at_283) rfl) ?_
      show Runs p e below s _ _ _ (Tc246_23.setTop (mkF m 285 #[.val (.long v0), .second, .val (.long v2), .second, .val (.long v4), .second, .val (.int v6), .val (.ref w_a), .val (.ref v8), .val (.long x0), .second, .val (.long v11), .second, .val (.int v13), .val (.long v14), .second, .val (.ref w_be), .val (.int v17), .val (.ref bc162_17), .val (.int (1 : Int32)), .val (.ref bc246_23)] [(.int (1 : Int32))]))
      exact Runs.endN Xc246_23 hx (t := .boolean) Bd.returns (by simp) Bd.notSynchronized (hb hby at_285) ⟨congrArg (fun z => some (Value.int z)) hv, Nc246_23⟩ (by decide) (by decide)
    · have hv := (if_neg hc192).symm.trans hv
      refine Runs.go (fun _ => XS.icmpNo Xc162_17.here hx rfl (hb hby at_192) rfl (flt hc192).1) ?_
      show Runs p e below s _ _ _ (Tc162_17.setTop (mkF m 195 #[.val (.long v0), .second, .val (.long v2), .second, .val (.long v4), .second, .val (.int v6), .val (.ref w_a), .val (.ref v8), .val (.long x0), .second, .val (.long v11), .second, .val (.int v13), .val (.long v14), .second, .val (.ref w_be), .val (.int v17), .val (.ref bc162_17), .unset, .unset] []))
      refine Runs.go (fun _ => XS.aload Xc162_17.here hx rfl (hb hby at_195) rfl rfl) ?_
      show Runs p e below s _ _ _ (Tc162_17.setTop (mkF m 197 #[.val (.long v0), .second, .val (.long v2), .second, .val (.long v4), .second, .val (.int v6), .val (.ref w_a), .val (.ref v8), .val (.long x0), .second, .val (.long v11), .second, .val (.int v13), .val (.long v14), .second, .val (.ref w_be), .val (.int v17), .val (.ref bc162_17), .unset, .unset] [(.ref bc162_17)]))
      refine Runs.go (fun _ => XS.iconst Xc162_17.here hx rfl (hb hby at_197)) ?_
      show Runs p e below s _ _ _ (Tc162_17.setTop (mkF m 198 #[.val (.long v0), .second, .val (.long v2), .second, .val (.long v4), .second, .val (.int v6), .val (.ref w_a), .val (.ref v8), .val (.long x0), .second, .val (.long v11), .second, .val (.int v13), .val (.long v14), .second, .val (.ref w_be), .val (.int v17), .val (.ref bc162_17), .unset, .unset] [(.int (1 : Int32)), (.ref bc162_17)]))
      have VCr198_27 := Vc162_17
      obtain ⟨clr198_27, Arr198_27, -, Sr198_27, Mr198_27, Hr198_27, -⟩ := VCr198_27
      have hinr198_27 : ¬ ((1 : Int32) < 0 ∨ clr198_27.slots.size ≤ ((1 : Int32)).toNatClampNeg) := inb_of Sr198_27 (hQ.r1 hc192)
      have hatr198_27 : clr198_27.slots[((1 : Int32)).toNatClampNeg]? = some (.long (own_atJ (own_cp r156.2.2.1 r156.1) (1 : Int32))) := Has.at Hr198_27 hinr198_27 (own_getDJ _ _)
      refine Runs.go (Xc162_17.laload hx (j := (1 : Int32)) (v := (.long (own_atJ (own_cp r156.2.2.1 r156.1) (1 : Int32)))) (by exact Arr198_27.1) (State.isArrayOf_alike hZ.alike Arr198_27.2.1) Arr198_27.2.2 hinr198_27 hatr198_27 (g := (mkF m 198 #[.val (.long v0), .second, .val (.long v2), .second, .val (.long v4), .second, .val (.int v6), .val (.ref w_a), .val (.ref v8), .val (.long x0), .second, .val (.long v11), .second, .val (.int v13), .val (.long v14), .second, .val (.ref w_be), .val (.int v17), .val (.ref bc162_17), .unset, .unset] [(.int (1 : Int32)), (.ref bc162_17)])) rfl rfl (hb hby at_198)) ?_
      show Runs p e below s _ _ _ (Tc162_17.setTop (mkF m 199 #[.val (.long v0), .second, .val (.long v2), .second, .val (.long v4), .second, .val (.int v6), .val (.ref w_a), .val (.ref v8), .val (.long x0), .second, .val (.long v11), .second, .val (.int v13), .val (.long v14), .second, .val (.ref w_be), .val (.int v17), .val (.ref bc162_17), .unset, .unset] [(.long (own_atJ (own_cp r156.2.2.1 r156.1) (1 : Int32)))]))
      refine Runs.go (fun _ => XS.aload Xc162_17.here hx rfl (hb hby at_199) rfl rfl) ?_
      show Runs p e below s _ _ _ (Tc162_17.setTop (mkF m 201 #[.val (.long v0), .second, .val (.long v2), .second, .val (.long v4), .second, .val (.int v6), .val (.ref w_a), .val (.ref v8), .val (.long x0), .second, .val (.long v11), .second, .val (.int v13), .val (.long v14), .second, .val (.ref w_be), .val (.int v17), .val (.ref bc162_17), .unset, .unset] [(.ref w_be), (.long (own_atJ (own_cp r156.2.2.1 r156.1) (1 : Int32)))]))
      refine Runs.go (fun _ => XS.iconst Xc162_17.here hx rfl (hb hby at_201)) ?_
      show Runs p e below s _ _ _ (Tc162_17.setTop (mkF m 202 #[.val (.long v0), .second, .val (.long v2), .second, .val (.long v4), .second, .val (.int v6), .val (.ref w_a), .val (.ref v8), .val (.long x0), .second, .val (.long v11), .second, .val (.int v13), .val (.long v14), .second, .val (.ref w_be), .val (.int v17), .val (.ref bc162_17), .unset, .unset] [(.int (1 : Int32)), (.ref w_be), (.long (own_atJ (own_cp r156.2.2.1 r156.1) (1 : Int32)))]))
      have VCr202_28 := Ve_c162_17
      obtain ⟨clr202_28, Arr202_28, -, Sr202_28, Mr202_28, Hr202_28, -⟩ := VCr202_28
      have hinr202_28 : ¬ ((1 : Int32) < 0 ∨ clr202_28.slots.size ≤ ((1 : Int32)).toNatClampNeg) := inb_of Sr202_28 ⟨by decide, by decide⟩
      have hatr202_28 : clr202_28.slots[((1 : Int32)).toNatClampNeg]? = some (.long (own_atJ w_el (1 : Int32))) := Has.at Hr202_28 hinr202_28 (own_getDJ _ _)
      refine Runs.go (Xc162_17.laload hx (j := (1 : Int32)) (v := (.long (own_atJ w_el (1 : Int32)))) (by exact Arr202_28.1) (State.isArrayOf_alike hZ.alike Arr202_28.2.1) Arr202_28.2.2 hinr202_28 hatr202_28 (g := (mkF m 202 #[.val (.long v0), .second, .val (.long v2), .second, .val (.long v4), .second, .val (.int v6), .val (.ref w_a), .val (.ref v8), .val (.long x0), .second, .val (.long v11), .second, .val (.int v13), .val (.long v14), .second, .val (.ref w_be), .val (.int v17), .val (.ref bc162_17), .unset, .unset] [(.int (1 : Int32)), (.ref w_be), (.long (own_atJ (own_cp r156.2.2.1 r156.1) (1 : Int32)))])) rfl rfl (hb hby at_202)) ?_
      show Runs p e below s _ _ _ (Tc162_17.setTop (mkF m 203 #[.val (.long v0), .second, .val (.long v2), .second, .val (.long v4), .second, .val (.int v6), .val (.ref w_a), .val (.ref v8), .val (.long x0), .second, .val (.long v11), .second, .val (.int v13), .val (.long v14), .second, .val (.ref w_be), .val (.int v17), .val (.ref bc162_17), .unset, .unset] [(.long (own_atJ w_el (1 : Int32))), (.long (own_atJ (own_cp r156.2.2.1 r156.1) (1 : Int32)))]))
      refine Runs.go (fun _ => XS.lcmp Xc162_17.here hx rfl (hb hby at_203) rfl) ?_
      show Runs p e below s _ _ _ (Tc162_17.setTop (mkF m 204 #[.val (.long v0), .second, .val (.long v2), .second, .val (.long v4), .second, .val (.int v6), .val (.ref w_a), .val (.ref v8), .val (.long x0), .second, .val (.long v11), .second, .val (.int v13), .val (.long v14), .second, .val (.ref w_be), .val (.int v17), .val (.ref bc162_17), .unset, .unset] [(.int (lcmpW (own_atJ (own_cp r156.2.2.1 r156.1) (1 : Int32)) (own_atJ w_el (1 : Int32))))]))
      refine Runs.go (fun _ => XS.ifNo Xc162_17.here hx rfl (hb hby at_204) rfl ((if0 _ _).trans (teq (((lw_eq _ _).mpr (hQ.e1 hc192)) : (lcmpW (own_atJ (own_cp r156.2.2.1 r156.1) (1 : Int32)) (own_atJ w_el (1 : Int32))) = (0 : Int32))).2)) ?_
      show Runs p e below s _ _ _ (Tc162_17.setTop (mkF m 207 #[.val (.long v0), .second, .val (.long v2), .second, .val (.long v4), .second, .val (.int v6), .val (.ref w_a), .val (.ref v8), .val (.long x0), .second, .val (.long v11), .second, .val (.int v13), .val (.long v14), .second, .val (.ref w_be), .val (.int v17), .val (.ref bc162_17), .unset, .unset] []))
      refine Runs.go (fun _ => XS.iload Xc162_17.here hx rfl (hb hby at_207) rfl) ?_
      show Runs p e below s _ _ _ (Tc162_17.setTop (mkF m 209 #[.val (.long v0), .second, .val (.long v2), .second, .val (.long v4), .second, .val (.int v6), .val (.ref w_a), .val (.ref v8), .val (.long x0), .second, .val (.long v11), .second, .val (.int v13), .val (.long v14), .second, .val (.ref w_be), .val (.int v17), .val (.ref bc162_17), .unset, .unset] [(.int v17)]))
      refine Runs.go (fun _ => XS.iconst Xc162_17.here hx rfl (hb hby at_209)) ?_
      show Runs p e below s _ _ _ (Tc162_17.setTop (mkF m 210 #[.val (.long v0), .second, .val (.long v2), .second, .val (.long v4), .second, .val (.int v6), .val (.ref w_a), .val (.ref v8), .val (.long x0), .second, .val (.long v11), .second, .val (.int v13), .val (.long v14), .second, .val (.ref w_be), .val (.int v17), .val (.ref bc162_17), .unset, .unset] [(.int (3 : Int32)), (.int v17)]))
      by_cases hc210 : v17 < (3 : Int32)
      · have hv := (if_pos hc210).symm.trans hv
        refine Runs.go (fun _ => XS.icmpYes Xc162_17.here hx rfl (pc0 := 210) (pc' := 225) rfl (hb hby at_210) rfl (tlt hc210).1 (by decide) (by decide)) ?_
        show Runs p e below s _ _ _ (Tc162_17.setTop (mkF m 225 #[.val (.long v0), .second, .val (.long v2), .second, .val (.long v4), .second, .val (.int v6), .val (.ref w_a), .val (.ref v8), .val (.long x0), .second, .val (.long v11), .second, .val (.int v13), .val (.long v14), .second, .val (.ref w_be), .val (.int v17), .val (.ref bc162_17), .unset, .unset] []))
        refine Runs.go (fun _ => XS.iconst Xc162_17.here hx rfl (hb hby at_225)) ?_
        show Runs p e below s _ _ _ (Tc162_17.setTop (mkF m 226 #[.val (.long v0), .second, .val (.long v2), .second, .val (.long v4), .second, .val (.int v6), .val (.ref w_a), .val (.ref v8), .val (.long x0), .second, .val (.long v11), .second, .val (.int v13), .val (.long v14), .second, .val (.ref w_be), .val (.int v17), .val (.ref bc162_17), .unset, .unset] [(.int (1 : Int32))]))
        refine Runs.go (fun _ => XS.goto Xc162_17.here hx rfl (pc0 := 226) (pc' := 230) rfl (hb hby at_226) (by decide) (by decide)) ?_
        show Runs p e below s _ _ _ (Tc162_17.setTop (mkF m 230 #[.val (.long v0), .second, .val (.long v2), .second, .val (.long v4), .second, .val (.int v6), .val (.ref w_a), .val (.ref v8), .val (.long x0), .second, .val (.long v11), .second, .val (.int v13), .val (.long v14), .second, .val (.ref w_be), .val (.int v17), .val (.ref bc162_17), .unset, .unset] [(.int (1 : Int32))]))
        refine Runs.go (fun _ => XS.istore Xc162_17.here hx rfl (hb hby at_230) rfl (l' := #[.val (.long v0), .second, .val (.long v2), .second, .val (.long v4), .second, .val (.int v6), .val (.ref w_a), .val (.ref v8), .val (.long x0), .second, .val (.long v11), .second, .val (.int v13), .val (.long v14), .second, .val (.ref w_be), .val (.int v17), .val (.ref bc162_17), .val (.int (1 : Int32)), .unset]) rfl) ?_
        show Runs p e below s _ _ _ (Tc162_17.setTop (mkF m 232 #[.val (.long v0), .second, .val (.long v2), .second, .val (.long v4), .second, .val (.int v6), .val (.ref w_a), .val (.ref v8), .val (.long x0), .second, .val (.long v11), .second, .val (.int v13), .val (.long v14), .second, .val (.ref w_be), .val (.int v17), .val (.ref bc162_17), .val (.int (1 : Int32)), .unset] []))
        refine Runs.go (fun _ => XS.aload Xc162_17.here hx rfl (hb hby at_232) rfl rfl) ?_
        show Runs p e below s _ _ _ (Tc162_17.setTop (mkF m 234 #[.val (.long v0), .second, .val (.long v2), .second, .val (.long v4), .second, .val (.int v6), .val (.ref w_a), .val (.ref v8), .val (.long x0), .second, .val (.long v11), .second, .val (.int v13), .val (.long v14), .second, .val (.ref w_be), .val (.int v17), .val (.ref bc162_17), .val (.int (1 : Int32)), .unset] [(.ref bc162_17)]))
        refine Runs.go (fun _ => XS.iconst Xc162_17.here hx rfl (hb hby at_234)) ?_
        show Runs p e below s _ _ _ (Tc162_17.setTop (mkF m 235 #[.val (.long v0), .second, .val (.long v2), .second, .val (.long v4), .second, .val (.int v6), .val (.ref w_a), .val (.ref v8), .val (.long x0), .second, .val (.long v11), .second, .val (.int v13), .val (.long v14), .second, .val (.ref w_be), .val (.int v17), .val (.ref bc162_17), .val (.int (1 : Int32)), .unset] [(.int (0 : Int32)), (.ref bc162_17)]))
        refine Runs.go (fun _ => XS.aload Xc162_17.here hx rfl (hb hby at_235) rfl rfl) ?_
        show Runs p e below s _ _ _ (Tc162_17.setTop (mkF m 237 #[.val (.long v0), .second, .val (.long v2), .second, .val (.long v4), .second, .val (.int v6), .val (.ref w_a), .val (.ref v8), .val (.long x0), .second, .val (.long v11), .second, .val (.int v13), .val (.long v14), .second, .val (.ref w_be), .val (.int v17), .val (.ref bc162_17), .val (.int (1 : Int32)), .unset] [(.ref bc162_17), (.int (0 : Int32)), (.ref bc162_17)]))
        refine Runs.go (fun _ => XS.iconst Xc162_17.here hx rfl (hb hby at_237)) ?_
        show Runs p e below s _ _ _ (Tc162_17.setTop (mkF m 238 #[.val (.long v0), .second, .val (.long v2), .second, .val (.long v4), .second, .val (.int v6), .val (.ref w_a), .val (.ref v8), .val (.long x0), .second, .val (.long v11), .second, .val (.int v13), .val (.long v14), .second, .val (.ref w_be), .val (.int v17), .val (.ref bc162_17), .val (.int (1 : Int32)), .unset] [(.int (0 : Int32)), (.ref bc162_17), (.int (0 : Int32)), (.ref bc162_17)]))
        have VCr238_29 := Vc162_17
        obtain ⟨clr238_29, Arr238_29, -, Sr238_29, Mr238_29, Hr238_29, -⟩ := VCr238_29
        have hinr238_29 : ¬ ((0 : Int32) < 0 ∨ clr238_29.slots.size ≤ ((0 : Int32)).toNatClampNeg) := inb_of Sr238_29 hQ.r0
        have hatr238_29 : clr238_29.slots[((0 : Int32)).toNatClampNeg]? = some (.long (own_atJ (own_cp r156.2.2.1 r156.1) (0 : Int32))) := Has.at Hr238_29 hinr238_29 (own_getDJ _ _)
        refine Runs.go (Xc162_17.laload hx (j := (0 : Int32)) (v := (.long (own_atJ (own_cp r156.2.2.1 r156.1) (0 : Int32)))) (by exact Arr238_29.1) (State.isArrayOf_alike hZ.alike Arr238_29.2.1) Arr238_29.2.2 hinr238_29 hatr238_29 (g := (mkF m 238 #[.val (.long v0), .second, .val (.long v2), .second, .val (.long v4), .second, .val (.int v6), .val (.ref w_a), .val (.ref v8), .val (.long x0), .second, .val (.long v11), .second, .val (.int v13), .val (.long v14), .second, .val (.ref w_be), .val (.int v17), .val (.ref bc162_17), .val (.int (1 : Int32)), .unset] [(.int (0 : Int32)), (.ref bc162_17), (.int (0 : Int32)), (.ref bc162_17)])) rfl rfl (hb hby at_238)) ?_
        show Runs p e below s _ _ _ (Tc162_17.setTop (mkF m 239 #[.val (.long v0), .second, .val (.long v2), .second, .val (.long v4), .second, .val (.int v6), .val (.ref w_a), .val (.ref v8), .val (.long x0), .second, .val (.long v11), .second, .val (.int v13), .val (.long v14), .second, .val (.ref w_be), .val (.int v17), .val (.ref bc162_17), .val (.int (1 : Int32)), .unset] [(.long (own_atJ (own_cp r156.2.2.1 r156.1) (0 : Int32))), (.int (0 : Int32)), (.ref bc162_17)]))
        refine Runs.go (Xc162_17.ldc2Long hx hown (mvT hZ (hw _ (List.mem_of_getElem? (i := 67) rfl))) (g := (mkF m 239 #[.val (.long v0), .second, .val (.long v2), .second, .val (.long v4), .second, .val (.int v6), .val (.ref w_a), .val (.ref v8), .val (.long x0), .second, .val (.long v11), .second, .val (.int v13), .val (.long v14), .second, .val (.ref w_be), .val (.int v17), .val (.ref bc162_17), .val (.int (1 : Int32)), .unset] [(.long (own_atJ (own_cp r156.2.2.1 r156.1) (0 : Int32))), (.int (0 : Int32)), (.ref bc162_17)])) rfl (hb hby at_239)) ?_
        show Runs p e below s _ _ _ (Tc162_17.setTop (mkF m 242 #[.val (.long v0), .second, .val (.long v2), .second, .val (.long v4), .second, .val (.int v6), .val (.ref w_a), .val (.ref v8), .val (.long x0), .second, .val (.long v11), .second, .val (.int v13), .val (.long v14), .second, .val (.ref w_be), .val (.int v17), .val (.ref bc162_17), .val (.int (1 : Int32)), .unset] [(.long (-1 : Int64)), (.long (own_atJ (own_cp r156.2.2.1 r156.1) (0 : Int32))), (.int (0 : Int32)), (.ref bc162_17)]))
        refine Runs.go (fun _ => XS.lxor Xc162_17.here hx rfl (hb hby at_242) rfl) ?_
        show Runs p e below s _ _ _ (Tc162_17.setTop (mkF m 243 #[.val (.long v0), .second, .val (.long v2), .second, .val (.long v4), .second, .val (.int v6), .val (.ref w_a), .val (.ref v8), .val (.long x0), .second, .val (.long v11), .second, .val (.int v13), .val (.long v14), .second, .val (.ref w_be), .val (.int v17), .val (.ref bc162_17), .val (.int (1 : Int32)), .unset] [(.long ((own_atJ (own_cp r156.2.2.1 r156.1) (0 : Int32)) ^^^ (-1 : Int64))), (.int (0 : Int32)), (.ref bc162_17)]))
        have VCw243_30 := Vc162_17
        obtain ⟨clw243_30, Arw243_30, qw243_30, Sw243_30, Mw243_30, Hw243_30, Gw243_30⟩ := VCw243_30
        have hinw243_30 : ¬ ((0 : Int32) < 0 ∨ clw243_30.slots.size ≤ ((0 : Int32)).toNatClampNeg) := inb_of Sw243_30 hQ.r0
        obtain ⟨Tw243_30, hw243_30, Xw243_30, ew243_30, Ww243_30, stw243_30⟩ := stJ Xc162_17 hx hZ rfl Arw243_30 (j := (0 : Int32)) hinw243_30 (g := (mkF m 243 #[.val (.long v0), .second, .val (.long v2), .second, .val (.long v4), .second, .val (.int v6), .val (.ref w_a), .val (.ref v8), .val (.long x0), .second, .val (.long v11), .second, .val (.int v13), .val (.long v14), .second, .val (.ref w_be), .val (.int v17), .val (.ref bc162_17), .val (.int (1 : Int32)), .unset] [(.long ((own_atJ (own_cp r156.2.2.1 r156.1) (0 : Int32)) ^^^ (-1 : Int64))), (.int (0 : Int32)), (.ref bc162_17)])) rfl rfl (hb hby at_243)
        refine Runs.go stw243_30 ?_
        have hnw243_30 : n0 ≤ hw243_30.size := by rw [Wr.size Ww243_30]; exact hzt162
        have Ve_w243_30 := Ve_c162_17.other Ww243_30 ne_c162_17_w_be
        have EI_w243_30 := EI_c162_17.other Ww243_30 nea_c162_17 neb1_c162_17 neb2_c162_17
        have Vw243_30 : Arv Z hw243_30 bc162_17 kc162_17 .long r156.1 (List.map Value.long (own_setJ (own_cp r156.2.2.1 r156.1) (0 : Int32) ((own_atJ (own_cp r156.2.2.1 r156.1) (0 : Int32)) ^^^ (-1 : Int64)))) (.long (0 : Int64)) := by
          rw [own_setJ, List.map_set]; exact Arv.set Arw243_30 qw243_30 Sw243_30 Mw243_30 Hw243_30 Gw243_30 rfl Ww243_30 _ rfl (by rw [List.length_map]; exact hQ.rl)
        have Nw243_30 := Fr.snoc Xw243_30 Nc162_17 gb_bc162_17
        show Runs p e below s _ _ _ (Tw243_30.setTop (mkF m 244 #[.val (.long v0), .second, .val (.long v2), .second, .val (.long v4), .second, .val (.int v6), .val (.ref w_a), .val (.ref v8), .val (.long x0), .second, .val (.long v11), .second, .val (.int v13), .val (.long v14), .second, .val (.ref w_be), .val (.int v17), .val (.ref bc162_17), .val (.int (1 : Int32)), .unset] []))
        refine Runs.go (fun _ => XS.aload Xw243_30.here hx rfl (hb hby at_244) rfl rfl) ?_
        show Runs p e below s _ _ _ (Tw243_30.setTop (mkF m 246 #[.val (.long v0), .second, .val (.long v2), .second, .val (.long v4), .second, .val (.int v6), .val (.ref w_a), .val (.ref v8), .val (.long x0), .second, .val (.long v11), .second, .val (.int v13), .val (.long v14), .second, .val (.ref w_be), .val (.int v17), .val (.ref bc162_17), .val (.int (1 : Int32)), .unset] [(.ref w_a)]))
        have hz246 : n0 ≤ hw243_30.size := Nat.le_trans EI_w243_30.2.1 (Nat.le_of_lt EI_w243_30.lts.1)
        obtain ⟨cqc246_31, kqc246_31, qc246_31a, qc246_31b, qc246_31c⟩ := isOf hZ ew243_30 EI_w243_30.1
        obtain ⟨_, _, ⟨Tc246_31, Lc246_31, kc246_31, nc246_31⟩, -, Xc246_31, ⟨Lcc246_31, hQc246_31, lc246_31, yc246_31, zc246_31⟩, stc246_31⟩ := Xw243_30.virtualBack hx (y := (⟨"com/example/quillon/quillon/core/ElementIds", "toArray", "()[J"⟩ : MethodName)) (z := (⟨"com/example/quillon/quillon/core/ElementIds", "toArray", "()[J"⟩ : MethodName)) hown (mvT hZ (hw _ (List.mem_of_getElem? (i := 32) rfl))) (mvT hZ (hw _ (List.mem_of_getElem? (i := 33) rfl))) (notFace_of_selects (args := #[]) (mvT hZ (hw _ (List.mem_of_getElem? (i := 35) rfl)))) (mvT hZ (hw _ (List.mem_of_getElem? (i := 35) rfl))) (mvT hZ (hw _ (List.mem_of_getElem? (i := 34) rfl))) (by decide) (backOf (W := 0) (rm6 l Z a0 hw [] w_a w_b1 w_b2 r156.1 r156.2.1 r156.2.2.1 r156.2.2.2 hw243_30 n0 hz246 EI_w243_30 hQ.nn) hZ (hw _ (List.mem_of_getElem? (i := 36) rfl)) (hw _ (List.mem_of_getElem? (i := 2) rfl)) (by decide) (by decide)) qc246_31a qc246_31c (g := (mkF m 246 #[.val (.long v0), .second, .val (.long v2), .second, .val (.long v4), .second, .val (.int v6), .val (.ref w_a), .val (.ref v8), .val (.long x0), .second, .val (.long v11), .second, .val (.int v13), .val (.long v14), .second, .val (.ref w_be), .val (.int v17), .val (.ref bc162_17), .val (.int (1 : Int32)), .unset] [(.ref w_a)])) rfl (by rw [hml]; rfl) (Steps.refl _) (argsL := []) (rest := []) (lenOf pd_4 rfl) rfl (by show 2 * 0 + _ ≤ _; exact Nat.le_of_eq rfl) (hb hby at_246) (fun _ _ => ⟨rfl, ew243_30, (by decide : 6 + 1 ≤ _), (by decide : 39 + 3 ≤ _)⟩)
        dsimp only [Pt.U, Pt.locs, Pt.cells, Pt.slots] at Xc246_31 lc246_31 yc246_31 zc246_31 stc246_31 hQc246_31
        subst lc246_31 yc246_31 zc246_31
        obtain ⟨bc246_31, kc246_31, rfl, Nc246_31q, gc246_31, Ec246_31, Vc246_31⟩ := hQc246_31
        refine Runs.go (fun _ => stc246_31.trans) ?_
        have Nc246_31 := Fr.app Nw243_30 Nc246_31q
        have ne_c246_31_w_be : w_be ≠ bc246_31 := Nat.ne_of_lt (Nat.lt_of_lt_of_le Ve_w243_30.lt (Nat.le_of_eq gc246_31.symm))
        have ne_c246_31_bc162_17 : bc162_17 ≠ bc246_31 := Nat.ne_of_lt (Nat.lt_of_lt_of_le Vw243_30.lt (Nat.le_of_eq gc246_31.symm))
        have nea_c246_31 : w_a ≠ bc246_31 := Nat.ne_of_lt (Nat.lt_of_lt_of_le EI_w243_30.lts.1 (Nat.le_of_eq gc246_31.symm))
        have neb1_c246_31 : w_b1 ≠ bc246_31 := Nat.ne_of_lt (Nat.lt_of_lt_of_le EI_w243_30.lts.2.1 (Nat.le_of_eq gc246_31.symm))
        have neb2_c246_31 : w_b2 ≠ bc246_31 := Nat.ne_of_lt (Nat.lt_of_lt_of_le EI_w243_30.lts.2.2 (Nat.le_of_eq gc246_31.symm))
        have gb_bc246_31 : n0 ≤ bc246_31 := Nat.le_trans hz246 (Nat.le_of_eq gc246_31.symm)
        have Ve_c246_31 := Ve_w243_30.ext Ec246_31
        have Vbc162_17_c246_31 := Vw243_30.ext Ec246_31
        have EI_c246_31 := EI_w243_30.ext Ec246_31
        have hzt246 : n0 ≤ Tc246_31.heap.size := Nat.le_trans hz246 Ec246_31.1
        show Runs p e below s _ _ _ (Tc246_31.setTop (mkF m 249 #[.val (.long v0), .second, .val (.long v2), .second, .val (.long v4), .second, .val (.int v6), .val (.ref w_a), .val (.ref v8), .val (.long x0), .second, .val (.long v11), .second, .val (.int v13), .val (.long v14), .second, .val (.ref w_be), .val (.int v17), .val (.ref bc162_17), .val (.int (1 : Int32)), .unset] [(.ref bc246_31)]))
        refine Runs.go (fun _ => XS.astore Xc246_31.here hx rfl (hb hby at_249) rfl rfl (l' := #[.val (.long v0), .second, .val (.long v2), .second, .val (.long v4), .second, .val (.int v6), .val (.ref w_a), .val (.ref v8), .val (.long x0), .second, .val (.long v11), .second, .val (.int v13), .val (.long v14), .second, .val (.ref w_be), .val (.int v17), .val (.ref bc162_17), .val (.int (1 : Int32)), .val (.ref bc246_31)]) rfl) ?_
        show Runs p e below s _ _ _ (Tc246_31.setTop (mkF m 251 #[.val (.long v0), .second, .val (.long v2), .second, .val (.long v4), .second, .val (.int v6), .val (.ref w_a), .val (.ref v8), .val (.long x0), .second, .val (.long v11), .second, .val (.int v13), .val (.long v14), .second, .val (.ref w_be), .val (.int v17), .val (.ref bc162_17), .val (.int (1 : Int32)), .val (.ref bc246_31)] []))
        refine Runs.go (fun _ => XS.iload Xc246_31.here hx rfl (hb hby at_251) rfl) ?_
        show Runs p e below s _ _ _ (Tc246_31.setTop (mkF m 253 #[.val (.long v0), .second, .val (.long v2), .second, .val (.long v4), .second, .val (.int v6), .val (.ref w_a), .val (.ref v8), .val (.long x0), .second, .val (.long v11), .second, .val (.int v13), .val (.long v14), .second, .val (.ref w_be), .val (.int v17), .val (.ref bc162_17), .val (.int (1 : Int32)), .val (.ref bc246_31)] [(.int (1 : Int32))]))
        refine Runs.go (fun _ => XS.ifNo Xc246_31.here hx rfl (hb hby at_253) rfl ((if0 _ _).trans (feq ((by decide) : ¬ ((1 : Int32) = (0 : Int32)))).1)) ?_
        show Runs p e below s _ _ _ (Tc246_31.setTop (mkF m 256 #[.val (.long v0), .second, .val (.long v2), .second, .val (.long v4), .second, .val (.int v6), .val (.ref w_a), .val (.ref v8), .val (.long x0), .second, .val (.long v11), .second, .val (.int v13), .val (.long v14), .second, .val (.ref w_be), .val (.int v17), .val (.ref bc162_17), .val (.int (1 : Int32)), .val (.ref bc246_31)] []))
        refine Runs.go (fun _ => XS.aload Xc246_31.here hx rfl (hb hby at_256) rfl rfl) ?_
        show Runs p e below s _ _ _ (Tc246_31.setTop (mkF m 258 #[.val (.long v0), .second, .val (.long v2), .second, .val (.long v4), .second, .val (.int v6), .val (.ref w_a), .val (.ref v8), .val (.long x0), .second, .val (.long v11), .second, .val (.int v13), .val (.long v14), .second, .val (.ref w_be), .val (.int v17), .val (.ref bc162_17), .val (.int (1 : Int32)), .val (.ref bc246_31)] [(.ref bc246_31)]))
        have VCl258_32 := Vc246_31
        obtain ⟨cll258_32, Arl258_32, -, Sl258_32, Ml258_32, -, -⟩ := VCl258_32
        refine Runs.go (Xc246_31.arraylength hx (by exact Arl258_32.1) (State.isArrayOf_alike hZ.alike Arl258_32.2.1) (g := (mkF m 258 #[.val (.long v0), .second, .val (.long v2), .second, .val (.long v4), .second, .val (.int v6), .val (.ref w_a), .val (.ref v8), .val (.long x0), .second, .val (.long v11), .second, .val (.int v13), .val (.long v14), .second, .val (.ref w_be), .val (.int v17), .val (.ref bc162_17), .val (.int (1 : Int32)), .val (.ref bc246_31)] [(.ref bc246_31)])) rfl rfl (hb hby at_258)) ?_
        rw [len_of Sl258_32 Ml258_32]
        show Runs p e below s _ _ _ (Tc246_31.setTop (mkF m 259 #[.val (.long v0), .second, .val (.long v2), .second, .val (.long v4), .second, .val (.int v6), .val (.ref w_a), .val (.ref v8), .val (.long x0), .second, .val (.long v11), .second, .val (.int v13), .val (.long v14), .second, .val (.ref w_be), .val (.int v17), .val (.ref bc162_17), .val (.int (1 : Int32)), .val (.ref bc246_31)] [(.int r156.1)]))
        refine Runs.go (fun _ => XS.iload Xc246_31.here hx rfl (hb hby at_259) rfl) ?_
        show Runs p e below s _ _ _ (Tc246_31.setTop (mkF m 261 #[.val (.long v0), .second, .val (.long v2), .second, .val (.long v4), .second, .val (.int v6), .val (.ref w_a), .val (.ref v8), .val (.long x0), .second, .val (.long v11), .second, .val (.int v13), .val (.long v14), .second, .val (.ref w_be), .val (.int v17), .val (.ref bc162_17), .val (.int (1 : Int32)), .val (.ref bc246_31)] [(.int v17), (.int r156.1)]))
        refine Runs.go (fun _ => XS.icmpNo Xc246_31.here hx rfl (hb hby at_261) rfl (teq (hQ.len : r156.1 = v17)).2) ?_
        show Runs p e below s _ _ _ (Tc246_31.setTop (mkF m 264 #[.val (.long v0), .second, .val (.long v2), .second, .val (.long v4), .second, .val (.int v6), .val (.ref w_a), .val (.ref v8), .val (.long x0), .second, .val (.long v11), .second, .val (.int v13), .val (.long v14), .second, .val (.ref w_be), .val (.int v17), .val (.ref bc162_17), .val (.int (1 : Int32)), .val (.ref bc246_31)] []))
        refine Runs.go (fun _ => XS.aload Xc246_31.here hx rfl (hb hby at_264) rfl rfl) ?_
        show Runs p e below s _ _ _ (Tc246_31.setTop (mkF m 266 #[.val (.long v0), .second, .val (.long v2), .second, .val (.long v4), .second, .val (.int v6), .val (.ref w_a), .val (.ref v8), .val (.long x0), .second, .val (.long v11), .second, .val (.int v13), .val (.long v14), .second, .val (.ref w_be), .val (.int v17), .val (.ref bc162_17), .val (.int (1 : Int32)), .val (.ref bc246_31)] [(.ref bc246_31)]))
        refine Runs.go (fun _ => XS.iconst Xc246_31.here hx rfl (hb hby at_266)) ?_
        show Runs p e below s _ _ _ (Tc246_31.setTop (mkF m 267 #[.val (.long v0), .second, .val (.long v2), .second, .val (.long v4), .second, .val (.int v6), .val (.ref w_a), .val (.ref v8), .val (.long x0), .second, .val (.long v11), .second, .val (.int v13), .val (.long v14), .second, .val (.ref w_be), .val (.int v17), .val (.ref bc162_17), .val (.int (1 : Int32)), .val (.ref bc246_31)] [(.int (0 : Int32)), (.ref bc246_31)]))
        have VCr267_33 := Vc246_31
        obtain ⟨clr267_33, Arr267_33, -, Sr267_33, Mr267_33, Hr267_33, -⟩ := VCr267_33
        have hinr267_33 : ¬ ((0 : Int32) < 0 ∨ clr267_33.slots.size ≤ ((0 : Int32)).toNatClampNeg) := inb_of Sr267_33 hQ.r0
        have hatr267_33 : clr267_33.slots[((0 : Int32)).toNatClampNeg]? = some (.long (own_atJ (own_cp r156.2.2.1 r156.1) (0 : Int32))) := Has.at Hr267_33 hinr267_33 (own_getDJ _ _)
        refine Runs.go (Xc246_31.laload hx (j := (0 : Int32)) (v := (.long (own_atJ (own_cp r156.2.2.1 r156.1) (0 : Int32)))) (by exact Arr267_33.1) (State.isArrayOf_alike hZ.alike Arr267_33.2.1) Arr267_33.2.2 hinr267_33 hatr267_33 (g := (mkF m 267 #[.val (.long v0), .second, .val (.long v2), .second, .val (.long v4), .second, .val (.int v6), .val (.ref w_a), .val (.ref v8), .val (.long x0), .second, .val (.long v11), .second, .val (.int v13), .val (.long v14), .second, .val (.ref w_be), .val (.int v17), .val (.ref bc162_17), .val (.int (1 : Int32)), .val (.ref bc246_31)] [(.int (0 : Int32)), (.ref bc246_31)])) rfl rfl (hb hby at_267)) ?_
        show Runs p e below s _ _ _ (Tc246_31.setTop (mkF m 268 #[.val (.long v0), .second, .val (.long v2), .second, .val (.long v4), .second, .val (.int v6), .val (.ref w_a), .val (.ref v8), .val (.long x0), .second, .val (.long v11), .second, .val (.int v13), .val (.long v14), .second, .val (.ref w_be), .val (.int v17), .val (.ref bc162_17), .val (.int (1 : Int32)), .val (.ref bc246_31)] [(.long (own_atJ (own_cp r156.2.2.1 r156.1) (0 : Int32)))]))
        refine Runs.go (fun _ => XS.aload Xc246_31.here hx rfl (hb hby at_268) rfl rfl) ?_
        show Runs p e below s _ _ _ (Tc246_31.setTop (mkF m 270 #[.val (.long v0), .second, .val (.long v2), .second, .val (.long v4), .second, .val (.int v6), .val (.ref w_a), .val (.ref v8), .val (.long x0), .second, .val (.long v11), .second, .val (.int v13), .val (.long v14), .second, .val (.ref w_be), .val (.int v17), .val (.ref bc162_17), .val (.int (1 : Int32)), .val (.ref bc246_31)] [(.ref w_be), (.long (own_atJ (own_cp r156.2.2.1 r156.1) (0 : Int32)))]))
        refine Runs.go (fun _ => XS.iconst Xc246_31.here hx rfl (hb hby at_270)) ?_
        show Runs p e below s _ _ _ (Tc246_31.setTop (mkF m 271 #[.val (.long v0), .second, .val (.long v2), .second, .val (.long v4), .second, .val (.int v6), .val (.ref w_a), .val (.ref v8), .val (.long x0), .second, .val (.long v11), .second, .val (.int v13), .val (.long v14), .second, .val (.ref w_be), .val (.int v17), .val (.ref bc162_17), .val (.int (1 : Int32)), .val (.ref bc246_31)] [(.int (0 : Int32)), (.ref w_be), (.long (own_atJ (own_cp r156.2.2.1 r156.1) (0 : Int32)))]))
        have VCr271_34 := Ve_c246_31
        obtain ⟨clr271_34, Arr271_34, -, Sr271_34, Mr271_34, Hr271_34, -⟩ := VCr271_34
        have hinr271_34 : ¬ ((0 : Int32) < 0 ∨ clr271_34.slots.size ≤ ((0 : Int32)).toNatClampNeg) := inb_of Sr271_34 ⟨by decide, by decide⟩
        have hatr271_34 : clr271_34.slots[((0 : Int32)).toNatClampNeg]? = some (.long (own_atJ w_el (0 : Int32))) := Has.at Hr271_34 hinr271_34 (own_getDJ _ _)
        refine Runs.go (Xc246_31.laload hx (j := (0 : Int32)) (v := (.long (own_atJ w_el (0 : Int32)))) (by exact Arr271_34.1) (State.isArrayOf_alike hZ.alike Arr271_34.2.1) Arr271_34.2.2 hinr271_34 hatr271_34 (g := (mkF m 271 #[.val (.long v0), .second, .val (.long v2), .second, .val (.long v4), .second, .val (.int v6), .val (.ref w_a), .val (.ref v8), .val (.long x0), .second, .val (.long v11), .second, .val (.int v13), .val (.long v14), .second, .val (.ref w_be), .val (.int v17), .val (.ref bc162_17), .val (.int (1 : Int32)), .val (.ref bc246_31)] [(.int (0 : Int32)), (.ref w_be), (.long (own_atJ (own_cp r156.2.2.1 r156.1) (0 : Int32)))])) rfl rfl (hb hby at_271)) ?_
        show Runs p e below s _ _ _ (Tc246_31.setTop (mkF m 272 #[.val (.long v0), .second, .val (.long v2), .second, .val (.long v4), .second, .val (.int v6), .val (.ref w_a), .val (.ref v8), .val (.long x0), .second, .val (.long v11), .second, .val (.int v13), .val (.long v14), .second, .val (.ref w_be), .val (.int v17), .val (.ref bc162_17), .val (.int (1 : Int32)), .val (.ref bc246_31)] [(.long (own_atJ w_el (0 : Int32))), (.long (own_atJ (own_cp r156.2.2.1 r156.1) (0 : Int32)))]))
        refine Runs.go (fun _ => XS.lcmp Xc246_31.here hx rfl (hb hby at_272) rfl) ?_
        show Runs p e below s _ _ _ (Tc246_31.setTop (mkF m 273 #[.val (.long v0), .second, .val (.long v2), .second, .val (.long v4), .second, .val (.int v6), .val (.ref w_a), .val (.ref v8), .val (.long x0), .second, .val (.long v11), .second, .val (.int v13), .val (.long v14), .second, .val (.ref w_be), .val (.int v17), .val (.ref bc162_17), .val (.int (1 : Int32)), .val (.ref bc246_31)] [(.int (lcmpW (own_atJ (own_cp r156.2.2.1 r156.1) (0 : Int32)) (own_atJ w_el (0 : Int32))))]))
        refine Runs.go (fun _ => XS.ifNo Xc246_31.here hx rfl (hb hby at_273) rfl ((if0 _ _).trans (teq (((lw_eq _ _).mpr hQ.e0) : (lcmpW (own_atJ (own_cp r156.2.2.1 r156.1) (0 : Int32)) (own_atJ w_el (0 : Int32))) = (0 : Int32))).2)) ?_
        show Runs p e below s _ _ _ (Tc246_31.setTop (mkF m 276 #[.val (.long v0), .second, .val (.long v2), .second, .val (.long v4), .second, .val (.int v6), .val (.ref w_a), .val (.ref v8), .val (.long x0), .second, .val (.long v11), .second, .val (.int v13), .val (.long v14), .second, .val (.ref w_be), .val (.int v17), .val (.ref bc162_17), .val (.int (1 : Int32)), .val (.ref bc246_31)] []))
        refine Runs.go (fun _ => XS.iconst Xc246_31.here hx rfl (hb hby at_276)) ?_
        show Runs p e below s _ _ _ (Tc246_31.setTop (mkF m 277 #[.val (.long v0), .second, .val (.long v2), .second, .val (.long v4), .second, .val (.int v6), .val (.ref w_a), .val (.ref v8), .val (.long x0), .second, .val (.long v11), .second, .val (.int v13), .val (.long v14), .second, .val (.ref w_be), .val (.int v17), .val (.ref bc162_17), .val (.int (1 : Int32)), .val (.ref bc246_31)] [(.int (1 : Int32))]))
        refine Runs.go (fun _ => XS.goto Xc246_31.here hx rfl (pc0 := 277) (pc' := 281) rfl (hb hby at_277) (by decide) (by decide)) ?_
        show Runs p e below s _ _ _ (Tc246_31.setTop (mkF m 281 #[.val (.long v0), .second, .val (.long v2), .second, .val (.long v4), .second, .val (.int v6), .val (.ref w_a), .val (.ref v8), .val (.long x0), .second, .val (.long v11), .second, .val (.int v13), .val (.long v14), .second, .val (.ref w_be), .val (.int v17), .val (.ref bc162_17), .val (.int (1 : Int32)), .val (.ref bc246_31)] [(.int (1 : Int32))]))
        refine Runs.go (fun _ => XS.istore Xc246_31.here hx rfl (hb hby at_281) rfl (l' := #[.val (.long v0), .second, .val (.long v2), .second, .val (.long v4), .second, .val (.int v6), .val (.ref w_a), .val (.ref v8), .val (.long x0), .second, .val (.long v11), .second, .val (.int v13), .val (.long v14), .second, .val (.ref w_be), .val (.int v17), .val (.ref bc162_17), .val (.int (1 : Int32)), .val (.ref bc246_31)]) rfl) ?_
        show Runs p e below s _ _ _ (Tc246_31.setTop (mkF m 283 #[.val (.long v0), .second, .val (.long v2), .second, .val (.long v4), .second, .val (.int v6), .val (.ref w_a), .val (.ref v8), .val (.long x0), .second, .val (.long v11), .second, .val (.int v13), .val (.long v14), .second, .val (.ref w_be), .val (.int v17), .val (.ref bc162_17), .val (.int (1 : Int32)), .val (.ref bc246_31)] []))
        refine Runs.go (fun _ => XS.iload Xc246_31.here hx rfl (hb hby at_283) rfl) ?_
        show Runs p e below s _ _ _ (Tc246_31.setTop (mkF m 285 #[.val (.long v0), .second, .val (.long v2), .second, .val (.long v4), .second, .val (.int v6), .val (.ref w_a), .val (.ref v8), .val (.long x0), .second, .val (.long v11), .second, .val (.int v13), .val (.long v14), .second, .val (.ref w_be), .val (.int v17), .val (.ref bc162_17), .val (.int (1 : Int32)), .val (.ref bc246_31)] [(.int (1 : Int32))]))
        exact Runs.endN Xc246_31 hx (t := .boolean) Bd.returns (by simp) Bd.notSynchronized (hb hby at_285) ⟨congrArg (fun z => some (Value.int z)) hv, Nc246_31⟩ (by decide) (by decide)
      · have hv := (if_neg hc210).symm.trans hv
        refine Runs.go (fun _ => XS.icmpNo Xc162_17.here hx rfl (hb hby at_210) rfl (flt hc210).1) ?_
        show Runs p e below s _ _ _ (Tc162_17.setTop (mkF m 213 #[.val (.long v0), .second, .val (.long v2), .second, .val (.long v4), .second, .val (.int v6), .val (.ref w_a), .val (.ref v8), .val (.long x0), .second, .val (.long v11), .second, .val (.int v13), .val (.long v14), .second, .val (.ref w_be), .val (.int v17), .val (.ref bc162_17), .unset, .unset] []))
        refine Runs.go (fun _ => XS.aload Xc162_17.here hx rfl (hb hby at_213) rfl rfl) ?_
        show Runs p e below s _ _ _ (Tc162_17.setTop (mkF m 215 #[.val (.long v0), .second, .val (.long v2), .second, .val (.long v4), .second, .val (.int v6), .val (.ref w_a), .val (.ref v8), .val (.long x0), .second, .val (.long v11), .second, .val (.int v13), .val (.long v14), .second, .val (.ref w_be), .val (.int v17), .val (.ref bc162_17), .unset, .unset] [(.ref bc162_17)]))
        refine Runs.go (fun _ => XS.iconst Xc162_17.here hx rfl (hb hby at_215)) ?_
        show Runs p e below s _ _ _ (Tc162_17.setTop (mkF m 216 #[.val (.long v0), .second, .val (.long v2), .second, .val (.long v4), .second, .val (.int v6), .val (.ref w_a), .val (.ref v8), .val (.long x0), .second, .val (.long v11), .second, .val (.int v13), .val (.long v14), .second, .val (.ref w_be), .val (.int v17), .val (.ref bc162_17), .unset, .unset] [(.int (2 : Int32)), (.ref bc162_17)]))
        have VCr216_35 := Vc162_17
        obtain ⟨clr216_35, Arr216_35, -, Sr216_35, Mr216_35, Hr216_35, -⟩ := VCr216_35
        have hinr216_35 : ¬ ((2 : Int32) < 0 ∨ clr216_35.slots.size ≤ ((2 : Int32)).toNatClampNeg) := inb_of Sr216_35 (hQ.r2 hc210)
        have hatr216_35 : clr216_35.slots[((2 : Int32)).toNatClampNeg]? = some (.long (own_atJ (own_cp r156.2.2.1 r156.1) (2 : Int32))) := Has.at Hr216_35 hinr216_35 (own_getDJ _ _)
        refine Runs.go (Xc162_17.laload hx (j := (2 : Int32)) (v := (.long (own_atJ (own_cp r156.2.2.1 r156.1) (2 : Int32)))) (by exact Arr216_35.1) (State.isArrayOf_alike hZ.alike Arr216_35.2.1) Arr216_35.2.2 hinr216_35 hatr216_35 (g := (mkF m 216 #[.val (.long v0), .second, .val (.long v2), .second, .val (.long v4), .second, .val (.int v6), .val (.ref w_a), .val (.ref v8), .val (.long x0), .second, .val (.long v11), .second, .val (.int v13), .val (.long v14), .second, .val (.ref w_be), .val (.int v17), .val (.ref bc162_17), .unset, .unset] [(.int (2 : Int32)), (.ref bc162_17)])) rfl rfl (hb hby at_216)) ?_
        show Runs p e below s _ _ _ (Tc162_17.setTop (mkF m 217 #[.val (.long v0), .second, .val (.long v2), .second, .val (.long v4), .second, .val (.int v6), .val (.ref w_a), .val (.ref v8), .val (.long x0), .second, .val (.long v11), .second, .val (.int v13), .val (.long v14), .second, .val (.ref w_be), .val (.int v17), .val (.ref bc162_17), .unset, .unset] [(.long (own_atJ (own_cp r156.2.2.1 r156.1) (2 : Int32)))]))
        refine Runs.go (fun _ => XS.aload Xc162_17.here hx rfl (hb hby at_217) rfl rfl) ?_
        show Runs p e below s _ _ _ (Tc162_17.setTop (mkF m 219 #[.val (.long v0), .second, .val (.long v2), .second, .val (.long v4), .second, .val (.int v6), .val (.ref w_a), .val (.ref v8), .val (.long x0), .second, .val (.long v11), .second, .val (.int v13), .val (.long v14), .second, .val (.ref w_be), .val (.int v17), .val (.ref bc162_17), .unset, .unset] [(.ref w_be), (.long (own_atJ (own_cp r156.2.2.1 r156.1) (2 : Int32)))]))
        refine Runs.go (fun _ => XS.iconst Xc162_17.here hx rfl (hb hby at_219)) ?_
        show Runs p e below s _ _ _ (Tc162_17.setTop (mkF m 220 #[.val (.long v0), .second, .val (.long v2), .second, .val (.long v4), .second, .val (.int v6), .val (.ref w_a), .val (.ref v8), .val (.long x0), .second, .val (.long v11), .second, .val (.int v13), .val (.long v14), .second, .val (.ref w_be), .val (.int v17), .val (.ref bc162_17), .unset, .unset] [(.int (2 : Int32)), (.ref w_be), (.long (own_atJ (own_cp r156.2.2.1 r156.1) (2 : Int32)))]))
        have VCr220_36 := Ve_c162_17
        obtain ⟨clr220_36, Arr220_36, -, Sr220_36, Mr220_36, Hr220_36, -⟩ := VCr220_36
        have hinr220_36 : ¬ ((2 : Int32) < 0 ∨ clr220_36.slots.size ≤ ((2 : Int32)).toNatClampNeg) := inb_of Sr220_36 ⟨by decide, by decide⟩
        have hatr220_36 : clr220_36.slots[((2 : Int32)).toNatClampNeg]? = some (.long (own_atJ w_el (2 : Int32))) := Has.at Hr220_36 hinr220_36 (own_getDJ _ _)
        refine Runs.go (Xc162_17.laload hx (j := (2 : Int32)) (v := (.long (own_atJ w_el (2 : Int32)))) (by exact Arr220_36.1) (State.isArrayOf_alike hZ.alike Arr220_36.2.1) Arr220_36.2.2 hinr220_36 hatr220_36 (g := (mkF m 220 #[.val (.long v0), .second, .val (.long v2), .second, .val (.long v4), .second, .val (.int v6), .val (.ref w_a), .val (.ref v8), .val (.long x0), .second, .val (.long v11), .second, .val (.int v13), .val (.long v14), .second, .val (.ref w_be), .val (.int v17), .val (.ref bc162_17), .unset, .unset] [(.int (2 : Int32)), (.ref w_be), (.long (own_atJ (own_cp r156.2.2.1 r156.1) (2 : Int32)))])) rfl rfl (hb hby at_220)) ?_
        show Runs p e below s _ _ _ (Tc162_17.setTop (mkF m 221 #[.val (.long v0), .second, .val (.long v2), .second, .val (.long v4), .second, .val (.int v6), .val (.ref w_a), .val (.ref v8), .val (.long x0), .second, .val (.long v11), .second, .val (.int v13), .val (.long v14), .second, .val (.ref w_be), .val (.int v17), .val (.ref bc162_17), .unset, .unset] [(.long (own_atJ w_el (2 : Int32))), (.long (own_atJ (own_cp r156.2.2.1 r156.1) (2 : Int32)))]))
        refine Runs.go (fun _ => XS.lcmp Xc162_17.here hx rfl (hb hby at_221) rfl) ?_
        show Runs p e below s _ _ _ (Tc162_17.setTop (mkF m 222 #[.val (.long v0), .second, .val (.long v2), .second, .val (.long v4), .second, .val (.int v6), .val (.ref w_a), .val (.ref v8), .val (.long x0), .second, .val (.long v11), .second, .val (.int v13), .val (.long v14), .second, .val (.ref w_be), .val (.int v17), .val (.ref bc162_17), .unset, .unset] [(.int (lcmpW (own_atJ (own_cp r156.2.2.1 r156.1) (2 : Int32)) (own_atJ w_el (2 : Int32))))]))
        refine Runs.go (fun _ => XS.ifNo Xc162_17.here hx rfl (hb hby at_222) rfl ((if0 _ _).trans (teq (((lw_eq _ _).mpr (hQ.e2 hc210)) : (lcmpW (own_atJ (own_cp r156.2.2.1 r156.1) (2 : Int32)) (own_atJ w_el (2 : Int32))) = (0 : Int32))).2)) ?_
        show Runs p e below s _ _ _ (Tc162_17.setTop (mkF m 225 #[.val (.long v0), .second, .val (.long v2), .second, .val (.long v4), .second, .val (.int v6), .val (.ref w_a), .val (.ref v8), .val (.long x0), .second, .val (.long v11), .second, .val (.int v13), .val (.long v14), .second, .val (.ref w_be), .val (.int v17), .val (.ref bc162_17), .unset, .unset] []))
        refine Runs.go (fun _ => XS.iconst Xc162_17.here hx rfl (hb hby at_225)) ?_
        show Runs p e below s _ _ _ (Tc162_17.setTop (mkF m 226 #[.val (.long v0), .second, .val (.long v2), .second, .val (.long v4), .second, .val (.int v6), .val (.ref w_a), .val (.ref v8), .val (.long x0), .second, .val (.long v11), .second, .val (.int v13), .val (.long v14), .second, .val (.ref w_be), .val (.int v17), .val (.ref bc162_17), .unset, .unset] [(.int (1 : Int32))]))
        refine Runs.go (fun _ => XS.goto Xc162_17.here hx rfl (pc0 := 226) (pc' := 230) rfl (hb hby at_226) (by decide) (by decide)) ?_
        show Runs p e below s _ _ _ (Tc162_17.setTop (mkF m 230 #[.val (.long v0), .second, .val (.long v2), .second, .val (.long v4), .second, .val (.int v6), .val (.ref w_a), .val (.ref v8), .val (.long x0), .second, .val (.long v11), .second, .val (.int v13), .val (.long v14), .second, .val (.ref w_be), .val (.int v17), .val (.ref bc162_17), .unset, .unset] [(.int (1 : Int32))]))
        refine Runs.go (fun _ => XS.istore Xc162_17.here hx rfl (hb hby at_230) rfl (l' := #[.val (.long v0), .second, .val (.long v2), .second, .val (.long v4), .second, .val (.int v6), .val (.ref w_a), .val (.ref v8), .val (.long x0), .second, .val (.long v11), .second, .val (.int v13), .val (.long v14), .second, .val (.ref w_be), .val (.int v17), .val (.ref bc162_17), .val (.int (1 : Int32)), .unset]) rfl) ?_
        show Runs p e below s _ _ _ (Tc162_17.setTop (mkF m 232 #[.val (.long v0), .second, .val (.long v2), .second, .val (.long v4), .second, .val (.int v6), .val (.ref w_a), .val (.ref v8), .val (.long x0), .second, .val (.long v11), .second, .val (.int v13), .val (.long v14), .second, .val (.ref w_be), .val (.int v17), .val (.ref bc162_17), .val (.int (1 : Int32)), .unset] []))
        refine Runs.go (fun _ => XS.aload Xc162_17.here hx rfl (hb hby at_232) rfl rfl) ?_
        show Runs p e below s _ _ _ (Tc162_17.setTop (mkF m 234 #[.val (.long v0), .second, .val (.long v2), .second, .val (.long v4), .second, .val (.int v6), .val (.ref w_a), .val (.ref v8), .val (.long x0), .second, .val (.long v11), .second, .val (.int v13), .val (.long v14), .second, .val (.ref w_be), .val (.int v17), .val (.ref bc162_17), .val (.int (1 : Int32)), .unset] [(.ref bc162_17)]))
        refine Runs.go (fun _ => XS.iconst Xc162_17.here hx rfl (hb hby at_234)) ?_
        show Runs p e below s _ _ _ (Tc162_17.setTop (mkF m 235 #[.val (.long v0), .second, .val (.long v2), .second, .val (.long v4), .second, .val (.int v6), .val (.ref w_a), .val (.ref v8), .val (.long x0), .second, .val (.long v11), .second, .val (.int v13), .val (.long v14), .second, .val (.ref w_be), .val (.int v17), .val (.ref bc162_17), .val (.int (1 : Int32)), .unset] [(.int (0 : Int32)), (.ref bc162_17)]))
        refine Runs.go (fun _ => XS.aload Xc162_17.here hx rfl (hb hby at_235) rfl rfl) ?_
        show Runs p e below s _ _ _ (Tc162_17.setTop (mkF m 237 #[.val (.long v0), .second, .val (.long v2), .second, .val (.long v4), .second, .val (.int v6), .val (.ref w_a), .val (.ref v8), .val (.long x0), .second, .val (.long v11), .second, .val (.int v13), .val (.long v14), .second, .val (.ref w_be), .val (.int v17), .val (.ref bc162_17), .val (.int (1 : Int32)), .unset] [(.ref bc162_17), (.int (0 : Int32)), (.ref bc162_17)]))
        refine Runs.go (fun _ => XS.iconst Xc162_17.here hx rfl (hb hby at_237)) ?_
        show Runs p e below s _ _ _ (Tc162_17.setTop (mkF m 238 #[.val (.long v0), .second, .val (.long v2), .second, .val (.long v4), .second, .val (.int v6), .val (.ref w_a), .val (.ref v8), .val (.long x0), .second, .val (.long v11), .second, .val (.int v13), .val (.long v14), .second, .val (.ref w_be), .val (.int v17), .val (.ref bc162_17), .val (.int (1 : Int32)), .unset] [(.int (0 : Int32)), (.ref bc162_17), (.int (0 : Int32)), (.ref bc162_17)]))
        have VCr238_37 := Vc162_17
        obtain ⟨clr238_37, Arr238_37, -, Sr238_37, Mr238_37, Hr238_37, -⟩ := VCr238_37
        have hinr238_37 : ¬ ((0 : Int32) < 0 ∨ clr238_37.slots.size ≤ ((0 : Int32)).toNatClampNeg) := inb_of Sr238_37 hQ.r0
        have hatr238_37 : clr238_37.slots[((0 : Int32)).toNatClampNeg]? = some (.long (own_atJ (own_cp r156.2.2.1 r156.1) (0 : Int32))) := Has.at Hr238_37 hinr238_37 (own_getDJ _ _)
        refine Runs.go (Xc162_17.laload hx (j := (0 : Int32)) (v := (.long (own_atJ (own_cp r156.2.2.1 r156.1) (0 : Int32)))) (by exact Arr238_37.1) (State.isArrayOf_alike hZ.alike Arr238_37.2.1) Arr238_37.2.2 hinr238_37 hatr238_37 (g := (mkF m 238 #[.val (.long v0), .second, .val (.long v2), .second, .val (.long v4), .second, .val (.int v6), .val (.ref w_a), .val (.ref v8), .val (.long x0), .second, .val (.long v11), .second, .val (.int v13), .val (.long v14), .second, .val (.ref w_be), .val (.int v17), .val (.ref bc162_17), .val (.int (1 : Int32)), .unset] [(.int (0 : Int32)), (.ref bc162_17), (.int (0 : Int32)), (.ref bc162_17)])) rfl rfl (hb hby at_238)) ?_
        show Runs p e below s _ _ _ (Tc162_17.setTop (mkF m 239 #[.val (.long v0), .second, .val (.long v2), .second, .val (.long v4), .second, .val (.int v6), .val (.ref w_a), .val (.ref v8), .val (.long x0), .second, .val (.long v11), .second, .val (.int v13), .val (.long v14), .second, .val (.ref w_be), .val (.int v17), .val (.ref bc162_17), .val (.int (1 : Int32)), .unset] [(.long (own_atJ (own_cp r156.2.2.1 r156.1) (0 : Int32))), (.int (0 : Int32)), (.ref bc162_17)]))
        refine Runs.go (Xc162_17.ldc2Long hx hown (mvT hZ (hw _ (List.mem_of_getElem? (i := 67) rfl))) (g := (mkF m 239 #[.val (.long v0), .second, .val (.long v2), .second, .val (.long v4), .second, .val (.int v6), .val (.ref w_a), .val (.ref v8), .val (.long x0), .second, .val (.long v11), .second, .val (.int v13), .val (.long v14), .second, .val (.ref w_be), .val (.int v17), .val (.ref bc162_17), .val (.int (1 : Int32)), .unset] [(.long (own_atJ (own_cp r156.2.2.1 r156.1) (0 : Int32))), (.int (0 : Int32)), (.ref bc162_17)])) rfl (hb hby at_239)) ?_
        show Runs p e below s _ _ _ (Tc162_17.setTop (mkF m 242 #[.val (.long v0), .second, .val (.long v2), .second, .val (.long v4), .second, .val (.int v6), .val (.ref w_a), .val (.ref v8), .val (.long x0), .second, .val (.long v11), .second, .val (.int v13), .val (.long v14), .second, .val (.ref w_be), .val (.int v17), .val (.ref bc162_17), .val (.int (1 : Int32)), .unset] [(.long (-1 : Int64)), (.long (own_atJ (own_cp r156.2.2.1 r156.1) (0 : Int32))), (.int (0 : Int32)), (.ref bc162_17)]))
        refine Runs.go (fun _ => XS.lxor Xc162_17.here hx rfl (hb hby at_242) rfl) ?_
        show Runs p e below s _ _ _ (Tc162_17.setTop (mkF m 243 #[.val (.long v0), .second, .val (.long v2), .second, .val (.long v4), .second, .val (.int v6), .val (.ref w_a), .val (.ref v8), .val (.long x0), .second, .val (.long v11), .second, .val (.int v13), .val (.long v14), .second, .val (.ref w_be), .val (.int v17), .val (.ref bc162_17), .val (.int (1 : Int32)), .unset] [(.long ((own_atJ (own_cp r156.2.2.1 r156.1) (0 : Int32)) ^^^ (-1 : Int64))), (.int (0 : Int32)), (.ref bc162_17)]))
        have VCw243_38 := Vc162_17
        obtain ⟨clw243_38, Arw243_38, qw243_38, Sw243_38, Mw243_38, Hw243_38, Gw243_38⟩ := VCw243_38
        have hinw243_38 : ¬ ((0 : Int32) < 0 ∨ clw243_38.slots.size ≤ ((0 : Int32)).toNatClampNeg) := inb_of Sw243_38 hQ.r0
        obtain ⟨Tw243_38, hw243_38, Xw243_38, ew243_38, Ww243_38, stw243_38⟩ := stJ Xc162_17 hx hZ rfl Arw243_38 (j := (0 : Int32)) hinw243_38 (g := (mkF m 243 #[.val (.long v0), .second, .val (.long v2), .second, .val (.long v4), .second, .val (.int v6), .val (.ref w_a), .val (.ref v8), .val (.long x0), .second, .val (.long v11), .second, .val (.int v13), .val (.long v14), .second, .val (.ref w_be), .val (.int v17), .val (.ref bc162_17), .val (.int (1 : Int32)), .unset] [(.long ((own_atJ (own_cp r156.2.2.1 r156.1) (0 : Int32)) ^^^ (-1 : Int64))), (.int (0 : Int32)), (.ref bc162_17)])) rfl rfl (hb hby at_243)
        refine Runs.go stw243_38 ?_
        have hnw243_38 : n0 ≤ hw243_38.size := by rw [Wr.size Ww243_38]; exact hzt162
        have Ve_w243_38 := Ve_c162_17.other Ww243_38 ne_c162_17_w_be
        have EI_w243_38 := EI_c162_17.other Ww243_38 nea_c162_17 neb1_c162_17 neb2_c162_17
        have Vw243_38 : Arv Z hw243_38 bc162_17 kc162_17 .long r156.1 (List.map Value.long (own_setJ (own_cp r156.2.2.1 r156.1) (0 : Int32) ((own_atJ (own_cp r156.2.2.1 r156.1) (0 : Int32)) ^^^ (-1 : Int64)))) (.long (0 : Int64)) := by
          rw [own_setJ, List.map_set]; exact Arv.set Arw243_38 qw243_38 Sw243_38 Mw243_38 Hw243_38 Gw243_38 rfl Ww243_38 _ rfl (by rw [List.length_map]; exact hQ.rl)
        have Nw243_38 := Fr.snoc Xw243_38 Nc162_17 gb_bc162_17
        show Runs p e below s _ _ _ (Tw243_38.setTop (mkF m 244 #[.val (.long v0), .second, .val (.long v2), .second, .val (.long v4), .second, .val (.int v6), .val (.ref w_a), .val (.ref v8), .val (.long x0), .second, .val (.long v11), .second, .val (.int v13), .val (.long v14), .second, .val (.ref w_be), .val (.int v17), .val (.ref bc162_17), .val (.int (1 : Int32)), .unset] []))
        refine Runs.go (fun _ => XS.aload Xw243_38.here hx rfl (hb hby at_244) rfl rfl) ?_
        show Runs p e below s _ _ _ (Tw243_38.setTop (mkF m 246 #[.val (.long v0), .second, .val (.long v2), .second, .val (.long v4), .second, .val (.int v6), .val (.ref w_a), .val (.ref v8), .val (.long x0), .second, .val (.long v11), .second, .val (.int v13), .val (.long v14), .second, .val (.ref w_be), .val (.int v17), .val (.ref bc162_17), .val (.int (1 : Int32)), .unset] [(.ref w_a)]))
        have hz246 : n0 ≤ hw243_38.size := Nat.le_trans EI_w243_38.2.1 (Nat.le_of_lt EI_w243_38.lts.1)
        obtain ⟨cqc246_39, kqc246_39, qc246_39a, qc246_39b, qc246_39c⟩ := isOf hZ ew243_38 EI_w243_38.1
        obtain ⟨_, _, ⟨Tc246_39, Lc246_39, kc246_39, nc246_39⟩, -, Xc246_39, ⟨Lcc246_39, hQc246_39, lc246_39, yc246_39, zc246_39⟩, stc246_39⟩ := Xw243_38.virtualBack hx (y := (⟨"com/example/quillon/quillon/core/ElementIds", "toArray", "()[J"⟩ : MethodName)) (z := (⟨"com/example/quillon/quillon/core/ElementIds", "toArray", "()[J"⟩ : MethodName)) hown (mvT hZ (hw _ (List.mem_of_getElem? (i := 32) rfl))) (mvT hZ (hw _ (List.mem_of_getElem? (i := 33) rfl))) (notFace_of_selects (args := #[]) (mvT hZ (hw _ (List.mem_of_getElem? (i := 35) rfl)))) (mvT hZ (hw _ (List.mem_of_getElem? (i := 35) rfl))) (mvT hZ (hw _ (List.mem_of_getElem? (i := 34) rfl))) (by decide) (backOf (W := 0) (rm6 l Z a0 hw [] w_a w_b1 w_b2 r156.1 r156.2.1 r156.2.2.1 r156.2.2.2 hw243_38 n0 hz246 EI_w243_38 hQ.nn) hZ (hw _ (List.mem_of_getElem? (i := 36) rfl)) (hw _ (List.mem_of_getElem? (i := 2) rfl)) (by decide) (by decide)) qc246_39a qc246_39c (g := (mkF m 246 #[.val (.long v0), .second, .val (.long v2), .second, .val (.long v4), .second, .val (.int v6), .val (.ref w_a), .val (.ref v8), .val (.long x0), .second, .val (.long v11), .second, .val (.int v13), .val (.long v14), .second, .val (.ref w_be), .val (.int v17), .val (.ref bc162_17), .val (.int (1 : Int32)), .unset] [(.ref w_a)])) rfl (by rw [hml]; rfl) (Steps.refl _) (argsL := []) (rest := []) (lenOf pd_4 rfl) rfl (by show 2 * 0 + _ ≤ _; exact Nat.le_of_eq rfl) (hb hby at_246) (fun _ _ => ⟨rfl, ew243_38, (by decide : 6 + 1 ≤ _), (by decide : 39 + 3 ≤ _)⟩)
        dsimp only [Pt.U, Pt.locs, Pt.cells, Pt.slots] at Xc246_39 lc246_39 yc246_39 zc246_39 stc246_39 hQc246_39
        subst lc246_39 yc246_39 zc246_39
        obtain ⟨bc246_39, kc246_39, rfl, Nc246_39q, gc246_39, Ec246_39, Vc246_39⟩ := hQc246_39
        refine Runs.go (fun _ => stc246_39.trans) ?_
        have Nc246_39 := Fr.app Nw243_38 Nc246_39q
        have ne_c246_39_w_be : w_be ≠ bc246_39 := Nat.ne_of_lt (Nat.lt_of_lt_of_le Ve_w243_38.lt (Nat.le_of_eq gc246_39.symm))
        have ne_c246_39_bc162_17 : bc162_17 ≠ bc246_39 := Nat.ne_of_lt (Nat.lt_of_lt_of_le Vw243_38.lt (Nat.le_of_eq gc246_39.symm))
        have nea_c246_39 : w_a ≠ bc246_39 := Nat.ne_of_lt (Nat.lt_of_lt_of_le EI_w243_38.lts.1 (Nat.le_of_eq gc246_39.symm))
        have neb1_c246_39 : w_b1 ≠ bc246_39 := Nat.ne_of_lt (Nat.lt_of_lt_of_le EI_w243_38.lts.2.1 (Nat.le_of_eq gc246_39.symm))
        have neb2_c246_39 : w_b2 ≠ bc246_39 := Nat.ne_of_lt (Nat.lt_of_lt_of_le EI_w243_38.lts.2.2 (Nat.le_of_eq gc246_39.symm))
        have gb_bc246_39 : n0 ≤ bc246_39 := Nat.le_trans hz246 (Nat.le_of_eq gc246_39.symm)
        have Ve_c246_39 := Ve_w243_38.ext Ec246_39
        have Vbc162_17_c246_39 := Vw243_38.ext Ec246_39
        have EI_c246_39 := EI_w243_38.ext Ec246_39
        have hzt246 : n0 ≤ Tc246_39.heap.size := Nat.le_trans hz246 Ec246_39.1
        show Runs p e below s _ _ _ (Tc246_39.setTop (mkF m 249 #[.val (.long v0), .second, .val (.long v2), .second, .val (.long v4), .second, .val (.int v6), .val (.ref w_a), .val (.ref v8), .val (.long x0), .second, .val (.long v11), .second, .val (.int v13), .val (.long v14), .second, .val (.ref w_be), .val (.int v17), .val (.ref bc162_17), .val (.int (1 : Int32)), .unset] [(.ref bc246_39)]))
        refine Runs.go (fun _ => XS.astore Xc246_39.here hx rfl (hb hby at_249) rfl rfl (l' := #[.val (.long v0), .second, .val (.long v2), .second, .val (.long v4), .second, .val (.int v6), .val (.ref w_a), .val (.ref v8), .val (.long x0), .second, .val (.long v11), .second, .val (.int v13), .val (.long v14), .second, .val (.ref w_be), .val (.int v17), .val (.ref bc162_17), .val (.int (1 : Int32)), .val (.ref bc246_39)]) rfl) ?_
        show Runs p e below s _ _ _ (Tc246_39.setTop (mkF m 251 #[.val (.long v0), .second, .val (.long v2), .second, .val (.long v4), .second, .val (.int v6), .val (.ref w_a), .val (.ref v8), .val (.long x0), .second, .val (.long v11), .second, .val (.int v13), .val (.long v14), .second, .val (.ref w_be), .val (.int v17), .val (.ref bc162_17), .val (.int (1 : Int32)), .val (.ref bc246_39)] []))
        refine Runs.go (fun _ => XS.iload Xc246_39.here hx rfl (hb hby at_251) rfl) ?_
        show Runs p e below s _ _ _ (Tc246_39.setTop (mkF m 253 #[.val (.long v0), .second, .val (.long v2), .second, .val (.long v4), .second, .val (.int v6), .val (.ref w_a), .val (.ref v8), .val (.long x0), .second, .val (.long v11), .second, .val (.int v13), .val (.long v14), .second, .val (.ref w_be), .val (.int v17), .val (.ref bc162_17), .val (.int (1 : Int32)), .val (.ref bc246_39)] [(.int (1 : Int32))]))
        refine Runs.go (fun _ => XS.ifNo Xc246_39.here hx rfl (hb hby at_253) rfl ((if0 _ _).trans (feq ((by decide) : ¬ ((1 : Int32) = (0 : Int32)))).1)) ?_
        show Runs p e below s _ _ _ (Tc246_39.setTop (mkF m 256 #[.val (.long v0), .second, .val (.long v2), .second, .val (.long v4), .second, .val (.int v6), .val (.ref w_a), .val (.ref v8), .val (.long x0), .second, .val (.long v11), .second, .val (.int v13), .val (.long v14), .second, .val (.ref w_be), .val (.int v17), .val (.ref bc162_17), .val (.int (1 : Int32)), .val (.ref bc246_39)] []))
        refine Runs.go (fun _ => XS.aload Xc246_39.here hx rfl (hb hby at_256) rfl rfl) ?_
        show Runs p e below s _ _ _ (Tc246_39.setTop (mkF m 258 #[.val (.long v0), .second, .val (.long v2), .second, .val (.long v4), .second, .val (.int v6), .val (.ref w_a), .val (.ref v8), .val (.long x0), .second, .val (.long v11), .second, .val (.int v13), .val (.long v14), .second, .val (.ref w_be), .val (.int v17), .val (.ref bc162_17), .val (.int (1 : Int32)), .val (.ref bc246_39)] [(.ref bc246_39)]))
        have VCl258_40 := Vc246_39
        obtain ⟨cll258_40, Arl258_40, -, Sl258_40, Ml258_40, -, -⟩ := VCl258_40
        refine Runs.go (Xc246_39.arraylength hx (by exact Arl258_40.1) (State.isArrayOf_alike hZ.alike Arl258_40.2.1) (g := (mkF m 258 #[.val (.long v0), .second, .val (.long v2), .second, .val (.long v4), .second, .val (.int v6), .val (.ref w_a), .val (.ref v8), .val (.long x0), .second, .val (.long v11), .second, .val (.int v13), .val (.long v14), .second, .val (.ref w_be), .val (.int v17), .val (.ref bc162_17), .val (.int (1 : Int32)), .val (.ref bc246_39)] [(.ref bc246_39)])) rfl rfl (hb hby at_258)) ?_
        rw [len_of Sl258_40 Ml258_40]
        show Runs p e below s _ _ _ (Tc246_39.setTop (mkF m 259 #[.val (.long v0), .second, .val (.long v2), .second, .val (.long v4), .second, .val (.int v6), .val (.ref w_a), .val (.ref v8), .val (.long x0), .second, .val (.long v11), .second, .val (.int v13), .val (.long v14), .second, .val (.ref w_be), .val (.int v17), .val (.ref bc162_17), .val (.int (1 : Int32)), .val (.ref bc246_39)] [(.int r156.1)]))
        refine Runs.go (fun _ => XS.iload Xc246_39.here hx rfl (hb hby at_259) rfl) ?_
        show Runs p e below s _ _ _ (Tc246_39.setTop (mkF m 261 #[.val (.long v0), .second, .val (.long v2), .second, .val (.long v4), .second, .val (.int v6), .val (.ref w_a), .val (.ref v8), .val (.long x0), .second, .val (.long v11), .second, .val (.int v13), .val (.long v14), .second, .val (.ref w_be), .val (.int v17), .val (.ref bc162_17), .val (.int (1 : Int32)), .val (.ref bc246_39)] [(.int v17), (.int r156.1)]))
        refine Runs.go (fun _ => XS.icmpNo Xc246_39.here hx rfl (hb hby at_261) rfl (teq (hQ.len : r156.1 = v17)).2) ?_
        show Runs p e below s _ _ _ (Tc246_39.setTop (mkF m 264 #[.val (.long v0), .second, .val (.long v2), .second, .val (.long v4), .second, .val (.int v6), .val (.ref w_a), .val (.ref v8), .val (.long x0), .second, .val (.long v11), .second, .val (.int v13), .val (.long v14), .second, .val (.ref w_be), .val (.int v17), .val (.ref bc162_17), .val (.int (1 : Int32)), .val (.ref bc246_39)] []))
        refine Runs.go (fun _ => XS.aload Xc246_39.here hx rfl (hb hby at_264) rfl rfl) ?_
        show Runs p e below s _ _ _ (Tc246_39.setTop (mkF m 266 #[.val (.long v0), .second, .val (.long v2), .second, .val (.long v4), .second, .val (.int v6), .val (.ref w_a), .val (.ref v8), .val (.long x0), .second, .val (.long v11), .second, .val (.int v13), .val (.long v14), .second, .val (.ref w_be), .val (.int v17), .val (.ref bc162_17), .val (.int (1 : Int32)), .val (.ref bc246_39)] [(.ref bc246_39)]))
        refine Runs.go (fun _ => XS.iconst Xc246_39.here hx rfl (hb hby at_266)) ?_
        show Runs p e below s _ _ _ (Tc246_39.setTop (mkF m 267 #[.val (.long v0), .second, .val (.long v2), .second, .val (.long v4), .second, .val (.int v6), .val (.ref w_a), .val (.ref v8), .val (.long x0), .second, .val (.long v11), .second, .val (.int v13), .val (.long v14), .second, .val (.ref w_be), .val (.int v17), .val (.ref bc162_17), .val (.int (1 : Int32)), .val (.ref bc246_39)] [(.int (0 : Int32)), (.ref bc246_39)]))
        have VCr267_41 := Vc246_39
        obtain ⟨clr267_41, Arr267_41, -, Sr267_41, Mr267_41, Hr267_41, -⟩ := VCr267_41
        have hinr267_41 : ¬ ((0 : Int32) < 0 ∨ clr267_41.slots.size ≤ ((0 : Int32)).toNatClampNeg) := inb_of Sr267_41 hQ.r0
        have hatr267_41 : clr267_41.slots[((0 : Int32)).toNatClampNeg]? = some (.long (own_atJ (own_cp r156.2.2.1 r156.1) (0 : Int32))) := Has.at Hr267_41 hinr267_41 (own_getDJ _ _)
        refine Runs.go (Xc246_39.laload hx (j := (0 : Int32)) (v := (.long (own_atJ (own_cp r156.2.2.1 r156.1) (0 : Int32)))) (by exact Arr267_41.1) (State.isArrayOf_alike hZ.alike Arr267_41.2.1) Arr267_41.2.2 hinr267_41 hatr267_41 (g := (mkF m 267 #[.val (.long v0), .second, .val (.long v2), .second, .val (.long v4), .second, .val (.int v6), .val (.ref w_a), .val (.ref v8), .val (.long x0), .second, .val (.long v11), .second, .val (.int v13), .val (.long v14), .second, .val (.ref w_be), .val (.int v17), .val (.ref bc162_17), .val (.int (1 : Int32)), .val (.ref bc246_39)] [(.int (0 : Int32)), (.ref bc246_39)])) rfl rfl (hb hby at_267)) ?_
        show Runs p e below s _ _ _ (Tc246_39.setTop (mkF m 268 #[.val (.long v0), .second, .val (.long v2), .second, .val (.long v4), .second, .val (.int v6), .val (.ref w_a), .val (.ref v8), .val (.long x0), .second, .val (.long v11), .second, .val (.int v13), .val (.long v14), .second, .val (.ref w_be), .val (.int v17), .val (.ref bc162_17), .val (.int (1 : Int32)), .val (.ref bc246_39)] [(.long (own_atJ (own_cp r156.2.2.1 r156.1) (0 : Int32)))]))
        refine Runs.go (fun _ => XS.aload Xc246_39.here hx rfl (hb hby at_268) rfl rfl) ?_
        show Runs p e below s _ _ _ (Tc246_39.setTop (mkF m 270 #[.val (.long v0), .second, .val (.long v2), .second, .val (.long v4), .second, .val (.int v6), .val (.ref w_a), .val (.ref v8), .val (.long x0), .second, .val (.long v11), .second, .val (.int v13), .val (.long v14), .second, .val (.ref w_be), .val (.int v17), .val (.ref bc162_17), .val (.int (1 : Int32)), .val (.ref bc246_39)] [(.ref w_be), (.long (own_atJ (own_cp r156.2.2.1 r156.1) (0 : Int32)))]))
        refine Runs.go (fun _ => XS.iconst Xc246_39.here hx rfl (hb hby at_270)) ?_
        show Runs p e below s _ _ _ (Tc246_39.setTop (mkF m 271 #[.val (.long v0), .second, .val (.long v2), .second, .val (.long v4), .second, .val (.int v6), .val (.ref w_a), .val (.ref v8), .val (.long x0), .second, .val (.long v11), .second, .val (.int v13), .val (.long v14), .second, .val (.ref w_be), .val (.int v17), .val (.ref bc162_17), .val (.int (1 : Int32)), .val (.ref bc246_39)] [(.int (0 : Int32)), (.ref w_be), (.long (own_atJ (own_cp r156.2.2.1 r156.1) (0 : Int32)))]))
        have VCr271_42 := Ve_c246_39
        obtain ⟨clr271_42, Arr271_42, -, Sr271_42, Mr271_42, Hr271_42, -⟩ := VCr271_42
        have hinr271_42 : ¬ ((0 : Int32) < 0 ∨ clr271_42.slots.size ≤ ((0 : Int32)).toNatClampNeg) := inb_of Sr271_42 ⟨by decide, by decide⟩
        have hatr271_42 : clr271_42.slots[((0 : Int32)).toNatClampNeg]? = some (.long (own_atJ w_el (0 : Int32))) := Has.at Hr271_42 hinr271_42 (own_getDJ _ _)
        refine Runs.go (Xc246_39.laload hx (j := (0 : Int32)) (v := (.long (own_atJ w_el (0 : Int32)))) (by exact Arr271_42.1) (State.isArrayOf_alike hZ.alike Arr271_42.2.1) Arr271_42.2.2 hinr271_42 hatr271_42 (g := (mkF m 271 #[.val (.long v0), .second, .val (.long v2), .second, .val (.long v4), .second, .val (.int v6), .val (.ref w_a), .val (.ref v8), .val (.long x0), .second, .val (.long v11), .second, .val (.int v13), .val (.long v14), .second, .val (.ref w_be), .val (.int v17), .val (.ref bc162_17), .val (.int (1 : Int32)), .val (.ref bc246_39)] [(.int (0 : Int32)), (.ref w_be), (.long (own_atJ (own_cp r156.2.2.1 r156.1) (0 : Int32)))])) rfl rfl (hb hby at_271)) ?_
        show Runs p e below s _ _ _ (Tc246_39.setTop (mkF m 272 #[.val (.long v0), .second, .val (.long v2), .second, .val (.long v4), .second, .val (.int v6), .val (.ref w_a), .val (.ref v8), .val (.long x0), .second, .val (.long v11), .second, .val (.int v13), .val (.long v14), .second, .val (.ref w_be), .val (.int v17), .val (.ref bc162_17), .val (.int (1 : Int32)), .val (.ref bc246_39)] [(.long (own_atJ w_el (0 : Int32))), (.long (own_atJ (own_cp r156.2.2.1 r156.1) (0 : Int32)))]))
        refine Runs.go (fun _ => XS.lcmp Xc246_39.here hx rfl (hb hby at_272) rfl) ?_
        show Runs p e below s _ _ _ (Tc246_39.setTop (mkF m 273 #[.val (.long v0), .second, .val (.long v2), .second, .val (.long v4), .second, .val (.int v6), .val (.ref w_a), .val (.ref v8), .val (.long x0), .second, .val (.long v11), .second, .val (.int v13), .val (.long v14), .second, .val (.ref w_be), .val (.int v17), .val (.ref bc162_17), .val (.int (1 : Int32)), .val (.ref bc246_39)] [(.int (lcmpW (own_atJ (own_cp r156.2.2.1 r156.1) (0 : Int32)) (own_atJ w_el (0 : Int32))))]))
        refine Runs.go (fun _ => XS.ifNo Xc246_39.here hx rfl (hb hby at_273) rfl ((if0 _ _).trans (teq (((lw_eq _ _).mpr hQ.e0) : (lcmpW (own_atJ (own_cp r156.2.2.1 r156.1) (0 : Int32)) (own_atJ w_el (0 : Int32))) = (0 : Int32))).2)) ?_
        show Runs p e below s _ _ _ (Tc246_39.setTop (mkF m 276 #[.val (.long v0), .second, .val (.long v2), .second, .val (.long v4), .second, .val (.int v6), .val (.ref w_a), .val (.ref v8), .val (.long x0), .second, .val (.long v11), .second, .val (.int v13), .val (.long v14), .second, .val (.ref w_be), .val (.int v17), .val (.ref bc162_17), .val (.int (1 : Int32)), .val (.ref bc246_39)] []))
        refine Runs.go (fun _ => XS.iconst Xc246_39.here hx rfl (hb hby at_276)) ?_
        show Runs p e below s _ _ _ (Tc246_39.setTop (mkF m 277 #[.val (.long v0), .second, .val (.long v2), .second, .val (.long v4), .second, .val (.int v6), .val (.ref w_a), .val (.ref v8), .val (.long x0), .second, .val (.long v11), .second, .val (.int v13), .val (.long v14), .second, .val (.ref w_be), .val (.int v17), .val (.ref bc162_17), .val (.int (1 : Int32)), .val (.ref bc246_39)] [(.int (1 : Int32))]))
        refine Runs.go (fun _ => XS.goto Xc246_39.here hx rfl (pc0 := 277) (pc' := 281) rfl (hb hby at_277) (by decide) (by decide)) ?_
        show Runs p e below s _ _ _ (Tc246_39.setTop (mkF m 281 #[.val (.long v0), .second, .val (.long v2), .second, .val (.long v4), .second, .val (.int v6), .val (.ref w_a), .val (.ref v8), .val (.long x0), .second, .val (.long v11), .second, .val (.int v13), .val (.long v14), .second, .val (.ref w_be), .val (.int v17), .val (.ref bc162_17), .val (.int (1 : Int32)), .val (.ref bc246_39)] [(.int (1 : Int32))]))
        refine Runs.go (fun _ => XS.istore Xc246_39.here hx rfl (hb hby at_281) rfl (l' := #[.val (.long v0), .second, .val (.long v2), .second, .val (.long v4), .second, .val (.int v6), .val (.ref w_a), .val (.ref v8), .val (.long x0), .second, .val (.long v11), .second, .val (.int v13), .val (.long v14), .second, .val (.ref w_be), .val (.int v17), .val (.ref bc162_17), .val (.int (1 : Int32)), .val (.ref bc246_39)]) rfl) ?_
        show Runs p e below s _ _ _ (Tc246_39.setTop (mkF m 283 #[.val (.long v0), .second, .val (.long v2), .second, .val (.long v4), .second, .val (.int v6), .val (.ref w_a), .val (.ref v8), .val (.long x0), .second, .val (.long v11), .second, .val (.int v13), .val (.long v14), .second, .val (.ref w_be), .val (.int v17), .val (.ref bc162_17), .val (.int (1 : Int32)), .val (.ref bc246_39)] []))
        refine Runs.go (fun _ => XS.iload Xc246_39.here hx rfl (hb hby at_283) rfl) ?_
        show Runs p e below s _ _ _ (Tc246_39.setTop (mkF m 285 #[.val (.long v0), .second, .val (.long v2), .second, .val (.long v4), .second, .val (.int v6), .val (.ref w_a), .val (.ref v8), .val (.long x0), .second, .val (.long v11), .second, .val (.int v13), .val (.long v14), .second, .val (.ref w_be), .val (.int v17), .val (.ref bc162_17), .val (.int (1 : Int32)), .val (.ref bc246_39)] [(.int (1 : Int32))]))
        exact Runs.endN Xc246_39 hx (t := .boolean) Bd.returns (by simp) Bd.notSynchronized (hb hby at_285) ⟨congrArg (fun z => some (Value.int z)) hv, Nc246_39⟩ (by decide) (by decide)
  have k_110 : ∀ (T : State) (locs : List Loc) (h : Heap) (X : Stand p l e room_1 s m #[(.long x0), (.long x1), (.long x2), (.int x3)] below meth c T locs 5 36) (eT : T.heap = h) (N : Fr n0 locs) (w_a : Addr) (w_b1 : Addr) (w_b2 : Addr) (w_be : Addr) (w_el : List Int64) (v0 : Int64) (v2 : Int64) (v4 : Int64) (v6 : Int32) (v8 : Addr) (v11 : Int64) (v13 : Int32) (v14 : Int64) (v17 : Int32) (G_EA : EA Z h n0 w_be w_a w_b1 w_b2 w_el) (G_EI : EI Z h n0 w_a w_b1 w_b2 (0 : Int32) (0 : Int64) own_I0 own_S0) (hR : ER1 x0 v11 v17 w_el), f0_110 x0 x1 x2 x3 w_el v11 v14 v17 = r → Runs p e below s (QH (.int r) n0) room_1.cells room_1.slots (T.setTop (mkF m 110 #[.val (.long v0), .second, .val (.long v2), .second, .val (.long v4), .second, .val (.int v6), .val (.ref w_a), .val (.ref v8), .val (.long x0), .second, .val (.long v11), .second, .val (.int v13), .val (.long v14), .second, .val (.ref w_be), .val (.int v17), .unset, .unset, .unset] [])) := by
    intro T locs h X eT N w_a w_b1 w_b2 w_be w_el v0 v2 v4 v6 v8 v11 v13 v14 v17 G_EA G_EI hR hv
    unfold f0_110 at hv
    obtain ⟨gbe, nea, neb1, neb2, ke, Ve⟩ := G_EA
    refine Runs.go (fun _ => XS.lload X.here hx rfl (hb hby at_110) rfl) ?_
    show Runs p e below s _ _ _ (T.setTop (mkF m 112 #[.val (.long v0), .second, .val (.long v2), .second, .val (.long v4), .second, .val (.int v6), .val (.ref w_a), .val (.ref v8), .val (.long x0), .second, .val (.long v11), .second, .val (.int v13), .val (.long v14), .second, .val (.ref w_be), .val (.int v17), .unset, .unset, .unset] [(.long v14)]))
    refine Runs.go (fun _ => XS.lload X.here hx rfl (hb hby at_112) rfl) ?_
    show Runs p e below s _ _ _ (T.setTop (mkF m 114 #[.val (.long v0), .second, .val (.long v2), .second, .val (.long v4), .second, .val (.int v6), .val (.ref w_a), .val (.ref v8), .val (.long x0), .second, .val (.long v11), .second, .val (.int v13), .val (.long v14), .second, .val (.ref w_be), .val (.int v17), .unset, .unset, .unset] [(.long x0), (.long v14)]))
    refine Runs.go (fun _ => XS.lcmp X.here hx rfl (hb hby at_114) rfl) ?_
    show Runs p e below s _ _ _ (T.setTop (mkF m 115 #[.val (.long v0), .second, .val (.long v2), .second, .val (.long v4), .second, .val (.int v6), .val (.ref w_a), .val (.ref v8), .val (.long x0), .second, .val (.long v11), .second, .val (.int v13), .val (.long v14), .second, .val (.ref w_be), .val (.int v17), .unset, .unset, .unset] [(.int (lcmpW v14 x0))]))
    by_cases hc115 : (lcmpW v14 x0) = (0 : Int32)
    · have hv := (if_pos hc115).symm.trans hv
      refine Runs.go (fun _ => XS.ifYes X.here hx rfl (pc0 := 115) (pc' := 136) rfl (hb hby at_115) rfl ((if0 _ _).trans (teq hc115).1) (by decide) (by decide)) ?_
      show Runs p e below s _ _ _ (T.setTop (mkF m 136 #[.val (.long v0), .second, .val (.long v2), .second, .val (.long v4), .second, .val (.int v6), .val (.ref w_a), .val (.ref v8), .val (.long x0), .second, .val (.long v11), .second, .val (.int v13), .val (.long v14), .second, .val (.ref w_be), .val (.int v17), .unset, .unset, .unset] []))
      have EA_10 : EA Z h n0 w_be w_a w_b1 w_b2 w_el := ⟨gbe, nea, neb1, neb2, _, Ve⟩
      exact k_136 _ _ _ X eT N w_a w_b1 w_b2 w_be w_el v0 v2 v4 v6 v8 v11 v13 v14 v17 EA_10 G_EI (ER2.s0 hR ((lw_eq _ _).mp hc115)) hv
    · have hv := (if_neg hc115).symm.trans hv
      refine Runs.go (fun _ => XS.ifNo X.here hx rfl (hb hby at_115) rfl ((if0 _ _).trans (feq hc115).1)) ?_
      show Runs p e below s _ _ _ (T.setTop (mkF m 118 #[.val (.long v0), .second, .val (.long v2), .second, .val (.long v4), .second, .val (.int v6), .val (.ref w_a), .val (.ref v8), .val (.long x0), .second, .val (.long v11), .second, .val (.int v13), .val (.long v14), .second, .val (.ref w_be), .val (.int v17), .unset, .unset, .unset] []))
      refine Runs.go (fun _ => XS.lload X.here hx rfl (hb hby at_118) rfl) ?_
      show Runs p e below s _ _ _ (T.setTop (mkF m 120 #[.val (.long v0), .second, .val (.long v2), .second, .val (.long v4), .second, .val (.int v6), .val (.ref w_a), .val (.ref v8), .val (.long x0), .second, .val (.long v11), .second, .val (.int v13), .val (.long v14), .second, .val (.ref w_be), .val (.int v17), .unset, .unset, .unset] [(.long v14)]))
      refine Runs.go (fun _ => XS.lload X.here hx rfl (hb hby at_120) rfl) ?_
      show Runs p e below s _ _ _ (T.setTop (mkF m 122 #[.val (.long v0), .second, .val (.long v2), .second, .val (.long v4), .second, .val (.int v6), .val (.ref w_a), .val (.ref v8), .val (.long x0), .second, .val (.long v11), .second, .val (.int v13), .val (.long v14), .second, .val (.ref w_be), .val (.int v17), .unset, .unset, .unset] [(.long v11), (.long v14)]))
      refine Runs.go (fun _ => XS.lcmp X.here hx rfl (hb hby at_122) rfl) ?_
      show Runs p e below s _ _ _ (T.setTop (mkF m 123 #[.val (.long v0), .second, .val (.long v2), .second, .val (.long v4), .second, .val (.int v6), .val (.ref w_a), .val (.ref v8), .val (.long x0), .second, .val (.long v11), .second, .val (.int v13), .val (.long v14), .second, .val (.ref w_be), .val (.int v17), .unset, .unset, .unset] [(.int (lcmpW v14 v11))]))
      by_cases hc123 : (lcmpW v14 v11) = (0 : Int32)
      · have hv := (if_pos hc123).symm.trans hv
        refine Runs.go (fun _ => XS.ifYes X.here hx rfl (pc0 := 123) (pc' := 136) rfl (hb hby at_123) rfl ((if0 _ _).trans (teq hc123).1) (by decide) (by decide)) ?_
        show Runs p e below s _ _ _ (T.setTop (mkF m 136 #[.val (.long v0), .second, .val (.long v2), .second, .val (.long v4), .second, .val (.int v6), .val (.ref w_a), .val (.ref v8), .val (.long x0), .second, .val (.long v11), .second, .val (.int v13), .val (.long v14), .second, .val (.ref w_be), .val (.int v17), .unset, .unset, .unset] []))
        have EA_11 : EA Z h n0 w_be w_a w_b1 w_b2 w_el := ⟨gbe, nea, neb1, neb2, _, Ve⟩
        exact k_136 _ _ _ X eT N w_a w_b1 w_b2 w_be w_el v0 v2 v4 v6 v8 v11 v13 v14 v17 EA_11 G_EI (ER2.s1 hR (fun q => hc115 ((lw_eq _ _).mpr q)) ((lw_eq _ _).mp hc123)) hv
      · have hv := (if_neg hc123).symm.trans hv
        refine Runs.go (fun _ => XS.ifNo X.here hx rfl (hb hby at_123) rfl ((if0 _ _).trans (feq hc123).1)) ?_
        show Runs p e below s _ _ _ (T.setTop (mkF m 126 #[.val (.long v0), .second, .val (.long v2), .second, .val (.long v4), .second, .val (.int v6), .val (.ref w_a), .val (.ref v8), .val (.long x0), .second, .val (.long v11), .second, .val (.int v13), .val (.long v14), .second, .val (.ref w_be), .val (.int v17), .unset, .unset, .unset] []))
        refine Runs.go (fun _ => XS.aload X.here hx rfl (hb hby at_126) rfl rfl) ?_
        show Runs p e below s _ _ _ (T.setTop (mkF m 128 #[.val (.long v0), .second, .val (.long v2), .second, .val (.long v4), .second, .val (.int v6), .val (.ref w_a), .val (.ref v8), .val (.long x0), .second, .val (.long v11), .second, .val (.int v13), .val (.long v14), .second, .val (.ref w_be), .val (.int v17), .unset, .unset, .unset] [(.ref w_be)]))
        refine Runs.go (fun _ => XS.iload X.here hx rfl (hb hby at_128) rfl) ?_
        show Runs p e below s _ _ _ (T.setTop (mkF m 130 #[.val (.long v0), .second, .val (.long v2), .second, .val (.long v4), .second, .val (.int v6), .val (.ref w_a), .val (.ref v8), .val (.long x0), .second, .val (.long v11), .second, .val (.int v13), .val (.long v14), .second, .val (.ref w_be), .val (.int v17), .unset, .unset, .unset] [(.int v17), (.ref w_be)]))
        refine Runs.go (fun _ => XS.lload X.here hx rfl (hb hby at_130) rfl) ?_
        show Runs p e below s _ _ _ (T.setTop (mkF m 132 #[.val (.long v0), .second, .val (.long v2), .second, .val (.long v4), .second, .val (.int v6), .val (.ref w_a), .val (.ref v8), .val (.long x0), .second, .val (.long v11), .second, .val (.int v13), .val (.long v14), .second, .val (.ref w_be), .val (.int v17), .unset, .unset, .unset] [(.long v14), (.int v17), (.ref w_be)]))
        have VCw132_12 := Ve
        obtain ⟨clw132_12, Arw132_12, qw132_12, Sw132_12, Mw132_12, Hw132_12, Gw132_12⟩ := VCw132_12
        have hinw132_12 : ¬ (v17 < 0 ∨ clw132_12.slots.size ≤ (v17).toNatClampNeg) := inb_of Sw132_12 hR.inb
        obtain ⟨Tw132_12, hw132_12, Xw132_12, ew132_12, Ww132_12, stw132_12⟩ := stJ X hx hZ eT Arw132_12 (j := v17) hinw132_12 (g := (mkF m 132 #[.val (.long v0), .second, .val (.long v2), .second, .val (.long v4), .second, .val (.int v6), .val (.ref w_a), .val (.ref v8), .val (.long x0), .second, .val (.long v11), .second, .val (.int v13), .val (.long v14), .second, .val (.ref w_be), .val (.int v17), .unset, .unset, .unset] [(.long v14), (.int v17), (.ref w_be)])) rfl rfl (hb hby at_132)
        refine Runs.go stw132_12 ?_
        have hnw132_12 : n0 ≤ hw132_12.size := by rw [Wr.size Ww132_12]; exact (Nat.le_trans G_EI.2.1 (Nat.le_of_lt G_EI.lts.1))
        have EI_w132_12 := G_EI.other Ww132_12 nea neb1 neb2
        have Vw132_12 : Arv Z hw132_12 w_be ke .long (3 : Int32) (List.map Value.long (own_setJ w_el v17 v14)) (.long (0 : Int64)) := by
          rw [own_setJ, List.map_set]; exact Arv.set Arw132_12 qw132_12 Sw132_12 Mw132_12 Hw132_12 Gw132_12 rfl Ww132_12 _ rfl (by rw [List.length_map]; exact hR.len)
        have Nw132_12 := Fr.snoc Xw132_12 N gbe
        show Runs p e below s _ _ _ (Tw132_12.setTop (mkF m 133 #[.val (.long v0), .second, .val (.long v2), .second, .val (.long v4), .second, .val (.int v6), .val (.ref w_a), .val (.ref v8), .val (.long x0), .second, .val (.long v11), .second, .val (.int v13), .val (.long v14), .second, .val (.ref w_be), .val (.int v17), .unset, .unset, .unset] []))
        refine Runs.go (fun _ => XS.iinc Xw132_12.here hx rfl (hb hby at_133) rfl (l' := #[.val (.long v0), .second, .val (.long v2), .second, .val (.long v4), .second, .val (.int v6), .val (.ref w_a), .val (.ref v8), .val (.long x0), .second, .val (.long v11), .second, .val (.int v13), .val (.long v14), .second, .val (.ref w_be), .val (.int (v17 + (1 : Int32))), .unset, .unset, .unset]) rfl) ?_
        show Runs p e below s _ _ _ (Tw132_12.setTop (mkF m 136 #[.val (.long v0), .second, .val (.long v2), .second, .val (.long v4), .second, .val (.int v6), .val (.ref w_a), .val (.ref v8), .val (.long x0), .second, .val (.long v11), .second, .val (.int v13), .val (.long v14), .second, .val (.ref w_be), .val (.int (v17 + (1 : Int32))), .unset, .unset, .unset] []))
        have EA_13 : EA Z hw132_12 n0 w_be w_a w_b1 w_b2 (own_setJ w_el v17 v14) := ⟨gbe, nea, neb1, neb2, _, Vw132_12⟩
        exact k_136 _ _ _ Xw132_12 ew132_12 Nw132_12 w_a w_b1 w_b2 w_be (own_setJ w_el v17 v14) v0 v2 v4 v6 v8 v11 v13 v14 (v17 + (1 : Int32)) EA_13 EI_w132_12 (ER2.new hR (fun q => hc115 ((lw_eq _ _).mpr q)) (fun q => hc123 ((lw_eq _ _).mpr q))) hv
  have k_72 : ∀ (T : State) (locs : List Loc) (h : Heap) (X : Stand p l e room_1 s m #[(.long x0), (.long x1), (.long x2), (.int x3)] below meth c T locs 4 33) (eT : T.heap = h) (N : Fr n0 locs) (w_a : Addr) (w_b1 : Addr) (w_b2 : Addr) (v0 : Int64) (v2 : Int64) (v4 : Int64) (v6 : Int32) (v8 : Addr) (v11 : Int64) (v13 : Int32) (t0 : Int64) (G_EI : EI Z h n0 w_a w_b1 w_b2 (0 : Int32) (0 : Int64) own_I0 own_S0), f0_72 x0 x1 x2 x3 v11 t0 = r → Runs p e below s (QH (.int r) n0) room_1.cells room_1.slots (T.setTop (mkF m 72 #[.val (.long v0), .second, .val (.long v2), .second, .val (.long v4), .second, .val (.int v6), .val (.ref w_a), .val (.ref v8), .val (.long x0), .second, .val (.long v11), .second, .val (.int v13), .unset, .unset, .unset, .unset, .unset, .unset, .unset] [(.long t0)])) := by
    intro T locs h X eT N w_a w_b1 w_b2 v0 v2 v4 v6 v8 v11 v13 t0 G_EI hv
    unfold f0_72 at hv
    refine Runs.go (fun _ => XS.lstore X.here hx rfl (hb hby at_72) rfl (l' := #[.val (.long v0), .second, .val (.long v2), .second, .val (.long v4), .second, .val (.int v6), .val (.ref w_a), .val (.ref v8), .val (.long x0), .second, .val (.long v11), .second, .val (.int v13), .val (.long t0), .second, .unset, .unset, .unset, .unset, .unset]) rfl) ?_
    show Runs p e below s _ _ _ (T.setTop (mkF m 74 #[.val (.long v0), .second, .val (.long v2), .second, .val (.long v4), .second, .val (.int v6), .val (.ref w_a), .val (.ref v8), .val (.long x0), .second, .val (.long v11), .second, .val (.int v13), .val (.long t0), .second, .unset, .unset, .unset, .unset, .unset] []))
    refine Runs.go (fun _ => XS.iconst X.here hx rfl (hb hby at_74)) ?_
    show Runs p e below s _ _ _ (T.setTop (mkF m 75 #[.val (.long v0), .second, .val (.long v2), .second, .val (.long v4), .second, .val (.int v6), .val (.ref w_a), .val (.ref v8), .val (.long x0), .second, .val (.long v11), .second, .val (.int v13), .val (.long t0), .second, .unset, .unset, .unset, .unset, .unset] [(.int (3 : Int32))]))
    obtain ⟨Ta75_5, ha75_5, ka75_5, Xa75_5, ea75_5, Ea75_5, Aa75_5, sta75_5⟩ := newP X hx hZ (hw _ (List.mem_of_getElem? (i := 9) rfl)) eT (g := (mkF m 75 #[.val (.long v0), .second, .val (.long v2), .second, .val (.long v4), .second, .val (.int v6), .val (.ref w_a), .val (.ref v8), .val (.long x0), .second, .val (.long v11), .second, .val (.int v13), .val (.long t0), .second, .unset, .unset, .unset, .unset, .unset] [(.int (3 : Int32))])) rfl (hb hby at_75) rfl (by decide) (cap := 3) (by decide) (by decide) (by decide) (by decide)
    obtain ⟨ba75_5, ga75_5⟩ : ∃ z, z = h.size := ⟨_, rfl⟩
    have gb_ba75_5 : n0 ≤ ba75_5 := Nat.le_trans (Nat.le_trans G_EI.2.1 (Nat.le_of_lt G_EI.lts.1)) (Nat.le_of_eq ga75_5.symm)
    have nea_a75_5 : w_a ≠ ba75_5 := Nat.ne_of_lt (Nat.lt_of_lt_of_le G_EI.lts.1 (Nat.le_of_eq ga75_5.symm))
    have neb1_a75_5 : w_b1 ≠ ba75_5 := Nat.ne_of_lt (Nat.lt_of_lt_of_le G_EI.lts.2.1 (Nat.le_of_eq ga75_5.symm))
    have neb2_a75_5 : w_b2 ≠ ba75_5 := Nat.ne_of_lt (Nat.lt_of_lt_of_le G_EI.lts.2.2 (Nat.le_of_eq ga75_5.symm))
    rw [← ga75_5] at Aa75_5 sta75_5
    refine Runs.go sta75_5 ?_
    have EI_a75_5 := G_EI.ext Ea75_5
    have hna75_5 : n0 ≤ ha75_5.size := Nat.le_trans (Nat.le_trans G_EI.2.1 (Nat.le_of_lt G_EI.lts.1)) Ea75_5.1
    have Va75_5 : Arv Z ha75_5 ba75_5 ka75_5 .long (3 : Int32) [(.long (0 : Int64)), (.long (0 : Int64)), (.long (0 : Int64))] (.long (0 : Int64)) := (Arv.new Aa75_5 (by decide)).pad (pad_rep [] (.long (0 : Int64)) 3)
    show Runs p e below s _ _ _ (Ta75_5.setTop (mkF m 77 #[.val (.long v0), .second, .val (.long v2), .second, .val (.long v4), .second, .val (.int v6), .val (.ref w_a), .val (.ref v8), .val (.long x0), .second, .val (.long v11), .second, .val (.int v13), .val (.long t0), .second, .unset, .unset, .unset, .unset, .unset] [(.ref ba75_5)]))
    refine Runs.go (fun _ => XS.astore Xa75_5.here hx rfl (hb hby at_77) rfl rfl (l' := #[.val (.long v0), .second, .val (.long v2), .second, .val (.long v4), .second, .val (.int v6), .val (.ref w_a), .val (.ref v8), .val (.long x0), .second, .val (.long v11), .second, .val (.int v13), .val (.long t0), .second, .val (.ref ba75_5), .unset, .unset, .unset, .unset]) rfl) ?_
    show Runs p e below s _ _ _ (Ta75_5.setTop (mkF m 79 #[.val (.long v0), .second, .val (.long v2), .second, .val (.long v4), .second, .val (.int v6), .val (.ref w_a), .val (.ref v8), .val (.long x0), .second, .val (.long v11), .second, .val (.int v13), .val (.long t0), .second, .val (.ref ba75_5), .unset, .unset, .unset, .unset] []))
    refine Runs.go (fun _ => XS.iconst Xa75_5.here hx rfl (hb hby at_79)) ?_
    show Runs p e below s _ _ _ (Ta75_5.setTop (mkF m 80 #[.val (.long v0), .second, .val (.long v2), .second, .val (.long v4), .second, .val (.int v6), .val (.ref w_a), .val (.ref v8), .val (.long x0), .second, .val (.long v11), .second, .val (.int v13), .val (.long t0), .second, .val (.ref ba75_5), .unset, .unset, .unset, .unset] [(.int (0 : Int32))]))
    refine Runs.go (fun _ => XS.istore Xa75_5.here hx rfl (hb hby at_80) rfl (l' := #[.val (.long v0), .second, .val (.long v2), .second, .val (.long v4), .second, .val (.int v6), .val (.ref w_a), .val (.ref v8), .val (.long x0), .second, .val (.long v11), .second, .val (.int v13), .val (.long t0), .second, .val (.ref ba75_5), .val (.int (0 : Int32)), .unset, .unset, .unset]) rfl) ?_
    show Runs p e below s _ _ _ (Ta75_5.setTop (mkF m 82 #[.val (.long v0), .second, .val (.long v2), .second, .val (.long v4), .second, .val (.int v6), .val (.ref w_a), .val (.ref v8), .val (.long x0), .second, .val (.long v11), .second, .val (.int v13), .val (.long t0), .second, .val (.ref ba75_5), .val (.int (0 : Int32)), .unset, .unset, .unset] []))
    refine Runs.go (fun _ => XS.aload Xa75_5.here hx rfl (hb hby at_82) rfl rfl) ?_
    show Runs p e below s _ _ _ (Ta75_5.setTop (mkF m 84 #[.val (.long v0), .second, .val (.long v2), .second, .val (.long v4), .second, .val (.int v6), .val (.ref w_a), .val (.ref v8), .val (.long x0), .second, .val (.long v11), .second, .val (.int v13), .val (.long t0), .second, .val (.ref ba75_5), .val (.int (0 : Int32)), .unset, .unset, .unset] [(.ref ba75_5)]))
    refine Runs.go (fun _ => XS.iload Xa75_5.here hx rfl (hb hby at_84) rfl) ?_
    show Runs p e below s _ _ _ (Ta75_5.setTop (mkF m 86 #[.val (.long v0), .second, .val (.long v2), .second, .val (.long v4), .second, .val (.int v6), .val (.ref w_a), .val (.ref v8), .val (.long x0), .second, .val (.long v11), .second, .val (.int v13), .val (.long t0), .second, .val (.ref ba75_5), .val (.int (0 : Int32)), .unset, .unset, .unset] [(.int (0 : Int32)), (.ref ba75_5)]))
    refine Runs.go (fun _ => XS.lload Xa75_5.here hx rfl (hb hby at_86) rfl) ?_
    show Runs p e below s _ _ _ (Ta75_5.setTop (mkF m 88 #[.val (.long v0), .second, .val (.long v2), .second, .val (.long v4), .second, .val (.int v6), .val (.ref w_a), .val (.ref v8), .val (.long x0), .second, .val (.long v11), .second, .val (.int v13), .val (.long t0), .second, .val (.ref ba75_5), .val (.int (0 : Int32)), .unset, .unset, .unset] [(.long x0), (.int (0 : Int32)), (.ref ba75_5)]))
    have VCw88_6 := Va75_5
    obtain ⟨clw88_6, Arw88_6, qw88_6, Sw88_6, Mw88_6, Hw88_6, Gw88_6⟩ := VCw88_6
    have hinw88_6 : ¬ ((0 : Int32) < 0 ∨ clw88_6.slots.size ≤ ((0 : Int32)).toNatClampNeg) := inb_of Sw88_6 ⟨by decide, by decide⟩
    obtain ⟨Tw88_6, hw88_6, Xw88_6, ew88_6, Ww88_6, stw88_6⟩ := stJ Xa75_5 hx hZ ea75_5 Arw88_6 (j := (0 : Int32)) hinw88_6 (g := (mkF m 88 #[.val (.long v0), .second, .val (.long v2), .second, .val (.long v4), .second, .val (.int v6), .val (.ref w_a), .val (.ref v8), .val (.long x0), .second, .val (.long v11), .second, .val (.int v13), .val (.long t0), .second, .val (.ref ba75_5), .val (.int (0 : Int32)), .unset, .unset, .unset] [(.long x0), (.int (0 : Int32)), (.ref ba75_5)])) rfl rfl (hb hby at_88)
    refine Runs.go stw88_6 ?_
    have hnw88_6 : n0 ≤ hw88_6.size := by rw [Wr.size Ww88_6]; exact hna75_5
    have EI_w88_6 := EI_a75_5.other Ww88_6 nea_a75_5 neb1_a75_5 neb2_a75_5
    have Vw88_6 : Arv Z hw88_6 ba75_5 ka75_5 .long (3 : Int32) (List.map Value.long (own_setJ [(0 : Int64), (0 : Int64), (0 : Int64)] (0 : Int32) x0)) (.long (0 : Int64)) := by
      rw [own_setJ, List.map_set]; exact Arv.set Arw88_6 qw88_6 Sw88_6 Mw88_6 Hw88_6 Gw88_6 rfl Ww88_6 _ rfl (by first | (rw [List.length_map]; exact (Nat.le_of_ble_eq_true rfl)) | decide)
    have Nw88_6 := Fr.snoc Xw88_6 N gb_ba75_5
    show Runs p e below s _ _ _ (Tw88_6.setTop (mkF m 89 #[.val (.long v0), .second, .val (.long v2), .second, .val (.long v4), .second, .val (.int v6), .val (.ref w_a), .val (.ref v8), .val (.long x0), .second, .val (.long v11), .second, .val (.int v13), .val (.long t0), .second, .val (.ref ba75_5), .val (.int (0 : Int32)), .unset, .unset, .unset] []))
    refine Runs.go (fun _ => XS.iinc Xw88_6.here hx rfl (hb hby at_89) rfl (l' := #[.val (.long v0), .second, .val (.long v2), .second, .val (.long v4), .second, .val (.int v6), .val (.ref w_a), .val (.ref v8), .val (.long x0), .second, .val (.long v11), .second, .val (.int v13), .val (.long t0), .second, .val (.ref ba75_5), .val (.int ((0 : Int32) + (1 : Int32))), .unset, .unset, .unset]) rfl) ?_
    show Runs p e below s _ _ _ (Tw88_6.setTop (mkF m 92 #[.val (.long v0), .second, .val (.long v2), .second, .val (.long v4), .second, .val (.int v6), .val (.ref w_a), .val (.ref v8), .val (.long x0), .second, .val (.long v11), .second, .val (.int v13), .val (.long t0), .second, .val (.ref ba75_5), .val (.int ((0 : Int32) + (1 : Int32))), .unset, .unset, .unset] []))
    refine Runs.go (fun _ => XS.lload Xw88_6.here hx rfl (hb hby at_92) rfl) ?_
    show Runs p e below s _ _ _ (Tw88_6.setTop (mkF m 94 #[.val (.long v0), .second, .val (.long v2), .second, .val (.long v4), .second, .val (.int v6), .val (.ref w_a), .val (.ref v8), .val (.long x0), .second, .val (.long v11), .second, .val (.int v13), .val (.long t0), .second, .val (.ref ba75_5), .val (.int ((0 : Int32) + (1 : Int32))), .unset, .unset, .unset] [(.long v11)]))
    refine Runs.go (fun _ => XS.lload Xw88_6.here hx rfl (hb hby at_94) rfl) ?_
    show Runs p e below s _ _ _ (Tw88_6.setTop (mkF m 96 #[.val (.long v0), .second, .val (.long v2), .second, .val (.long v4), .second, .val (.int v6), .val (.ref w_a), .val (.ref v8), .val (.long x0), .second, .val (.long v11), .second, .val (.int v13), .val (.long t0), .second, .val (.ref ba75_5), .val (.int ((0 : Int32) + (1 : Int32))), .unset, .unset, .unset] [(.long x0), (.long v11)]))
    refine Runs.go (fun _ => XS.lcmp Xw88_6.here hx rfl (hb hby at_96) rfl) ?_
    show Runs p e below s _ _ _ (Tw88_6.setTop (mkF m 97 #[.val (.long v0), .second, .val (.long v2), .second, .val (.long v4), .second, .val (.int v6), .val (.ref w_a), .val (.ref v8), .val (.long x0), .second, .val (.long v11), .second, .val (.int v13), .val (.long t0), .second, .val (.ref ba75_5), .val (.int ((0 : Int32) + (1 : Int32))), .unset, .unset, .unset] [(.int (lcmpW v11 x0))]))
    by_cases hc97 : (lcmpW v11 x0) = (0 : Int32)
    · have hv := (if_pos hc97).symm.trans hv
      refine Runs.go (fun _ => XS.ifYes Xw88_6.here hx rfl (pc0 := 97) (pc' := 110) rfl (hb hby at_97) rfl ((if0 _ _).trans (teq hc97).1) (by decide) (by decide)) ?_
      show Runs p e below s _ _ _ (Tw88_6.setTop (mkF m 110 #[.val (.long v0), .second, .val (.long v2), .second, .val (.long v4), .second, .val (.int v6), .val (.ref w_a), .val (.ref v8), .val (.long x0), .second, .val (.long v11), .second, .val (.int v13), .val (.long t0), .second, .val (.ref ba75_5), .val (.int ((0 : Int32) + (1 : Int32))), .unset, .unset, .unset] []))
      have EA_7 : EA Z hw88_6 n0 ba75_5 w_a w_b1 w_b2 (own_setJ [(0 : Int64), (0 : Int64), (0 : Int64)] (0 : Int32) x0) := ⟨gb_ba75_5, nea_a75_5, neb1_a75_5, neb2_a75_5, _, Vw88_6⟩
      exact k_110 _ _ _ Xw88_6 ew88_6 Nw88_6 w_a w_b1 w_b2 ba75_5 (own_setJ [(0 : Int64), (0 : Int64), (0 : Int64)] (0 : Int32) x0) v0 v2 v4 v6 v8 v11 v13 t0 ((0 : Int32) + (1 : Int32)) EA_7 EI_w88_6 (ER1.same ((lw_eq _ _).mp hc97)) hv
    · have hv := (if_neg hc97).symm.trans hv
      refine Runs.go (fun _ => XS.ifNo Xw88_6.here hx rfl (hb hby at_97) rfl ((if0 _ _).trans (feq hc97).1)) ?_
      show Runs p e below s _ _ _ (Tw88_6.setTop (mkF m 100 #[.val (.long v0), .second, .val (.long v2), .second, .val (.long v4), .second, .val (.int v6), .val (.ref w_a), .val (.ref v8), .val (.long x0), .second, .val (.long v11), .second, .val (.int v13), .val (.long t0), .second, .val (.ref ba75_5), .val (.int ((0 : Int32) + (1 : Int32))), .unset, .unset, .unset] []))
      refine Runs.go (fun _ => XS.aload Xw88_6.here hx rfl (hb hby at_100) rfl rfl) ?_
      show Runs p e below s _ _ _ (Tw88_6.setTop (mkF m 102 #[.val (.long v0), .second, .val (.long v2), .second, .val (.long v4), .second, .val (.int v6), .val (.ref w_a), .val (.ref v8), .val (.long x0), .second, .val (.long v11), .second, .val (.int v13), .val (.long t0), .second, .val (.ref ba75_5), .val (.int ((0 : Int32) + (1 : Int32))), .unset, .unset, .unset] [(.ref ba75_5)]))
      refine Runs.go (fun _ => XS.iload Xw88_6.here hx rfl (hb hby at_102) rfl) ?_
      show Runs p e below s _ _ _ (Tw88_6.setTop (mkF m 104 #[.val (.long v0), .second, .val (.long v2), .second, .val (.long v4), .second, .val (.int v6), .val (.ref w_a), .val (.ref v8), .val (.long x0), .second, .val (.long v11), .second, .val (.int v13), .val (.long t0), .second, .val (.ref ba75_5), .val (.int ((0 : Int32) + (1 : Int32))), .unset, .unset, .unset] [(.int ((0 : Int32) + (1 : Int32))), (.ref ba75_5)]))
      refine Runs.go (fun _ => XS.lload Xw88_6.here hx rfl (hb hby at_104) rfl) ?_
      show Runs p e below s _ _ _ (Tw88_6.setTop (mkF m 106 #[.val (.long v0), .second, .val (.long v2), .second, .val (.long v4), .second, .val (.int v6), .val (.ref w_a), .val (.ref v8), .val (.long x0), .second, .val (.long v11), .second, .val (.int v13), .val (.long t0), .second, .val (.ref ba75_5), .val (.int ((0 : Int32) + (1 : Int32))), .unset, .unset, .unset] [(.long v11), (.int ((0 : Int32) + (1 : Int32))), (.ref ba75_5)]))
      have VCw106_8 := Vw88_6
      obtain ⟨clw106_8, Arw106_8, qw106_8, Sw106_8, Mw106_8, Hw106_8, Gw106_8⟩ := VCw106_8
      have hinw106_8 : ¬ (((0 : Int32) + (1 : Int32)) < 0 ∨ clw106_8.slots.size ≤ (((0 : Int32) + (1 : Int32))).toNatClampNeg) := inb_of Sw106_8 ⟨by decide, by decide⟩
      obtain ⟨Tw106_8, hw106_8, Xw106_8, ew106_8, Ww106_8, stw106_8⟩ := stJ Xw88_6 hx hZ ew88_6 Arw106_8 (j := ((0 : Int32) + (1 : Int32))) hinw106_8 (g := (mkF m 106 #[.val (.long v0), .second, .val (.long v2), .second, .val (.long v4), .second, .val (.int v6), .val (.ref w_a), .val (.ref v8), .val (.long x0), .second, .val (.long v11), .second, .val (.int v13), .val (.long t0), .second, .val (.ref ba75_5), .val (.int ((0 : Int32) + (1 : Int32))), .unset, .unset, .unset] [(.long v11), (.int ((0 : Int32) + (1 : Int32))), (.ref ba75_5)])) rfl rfl (hb hby at_106)
      refine Runs.go stw106_8 ?_
      have hnw106_8 : n0 ≤ hw106_8.size := by rw [Wr.size Ww106_8]; exact hnw88_6
      have EI_w106_8 := EI_w88_6.other Ww106_8 nea_a75_5 neb1_a75_5 neb2_a75_5
      have Vw106_8 : Arv Z hw106_8 ba75_5 ka75_5 .long (3 : Int32) (List.map Value.long (own_setJ (own_setJ [(0 : Int64), (0 : Int64), (0 : Int64)] (0 : Int32) x0) ((0 : Int32) + (1 : Int32)) v11)) (.long (0 : Int64)) := by
        rw [own_setJ, List.map_set]; exact Arv.set Arw106_8 qw106_8 Sw106_8 Mw106_8 Hw106_8 Gw106_8 rfl Ww106_8 _ rfl (by first | (rw [List.length_map]; exact (Nat.le_of_ble_eq_true rfl)) | decide)
      have Nw106_8 := Fr.snoc Xw106_8 Nw88_6 gb_ba75_5
      show Runs p e below s _ _ _ (Tw106_8.setTop (mkF m 107 #[.val (.long v0), .second, .val (.long v2), .second, .val (.long v4), .second, .val (.int v6), .val (.ref w_a), .val (.ref v8), .val (.long x0), .second, .val (.long v11), .second, .val (.int v13), .val (.long t0), .second, .val (.ref ba75_5), .val (.int ((0 : Int32) + (1 : Int32))), .unset, .unset, .unset] []))
      refine Runs.go (fun _ => XS.iinc Xw106_8.here hx rfl (hb hby at_107) rfl (l' := #[.val (.long v0), .second, .val (.long v2), .second, .val (.long v4), .second, .val (.int v6), .val (.ref w_a), .val (.ref v8), .val (.long x0), .second, .val (.long v11), .second, .val (.int v13), .val (.long t0), .second, .val (.ref ba75_5), .val (.int (((0 : Int32) + (1 : Int32)) + (1 : Int32))), .unset, .unset, .unset]) rfl) ?_
      show Runs p e below s _ _ _ (Tw106_8.setTop (mkF m 110 #[.val (.long v0), .second, .val (.long v2), .second, .val (.long v4), .second, .val (.int v6), .val (.ref w_a), .val (.ref v8), .val (.long x0), .second, .val (.long v11), .second, .val (.int v13), .val (.long t0), .second, .val (.ref ba75_5), .val (.int (((0 : Int32) + (1 : Int32)) + (1 : Int32))), .unset, .unset, .unset] []))
      have EA_9 : EA Z hw106_8 n0 ba75_5 w_a w_b1 w_b2 (own_setJ (own_setJ [(0 : Int64), (0 : Int64), (0 : Int64)] (0 : Int32) x0) ((0 : Int32) + (1 : Int32)) v11) := ⟨gb_ba75_5, nea_a75_5, neb1_a75_5, neb2_a75_5, _, Vw106_8⟩
      exact k_110 _ _ _ Xw106_8 ew106_8 Nw106_8 w_a w_b1 w_b2 ba75_5 (own_setJ (own_setJ [(0 : Int64), (0 : Int64), (0 : Int64)] (0 : Int32) x0) ((0 : Int32) + (1 : Int32)) v11) v0 v2 v4 v6 v8 v11 v13 t0 (((0 : Int32) + (1 : Int32)) + (1 : Int32)) EA_9 EI_w106_8 (ER1.new (fun q => hc97 ((lw_eq _ _).mpr q))) hv
  have k_39 : ∀ (T : State) (locs : List Loc) (h : Heap) (X : Stand p l e room_1 s m #[(.long x0), (.long x1), (.long x2), (.int x3)] below meth c T locs 4 33) (eT : T.heap = h) (N : Fr n0 locs) (w_a : Addr) (w_b1 : Addr) (w_b2 : Addr) (v0 : Int64) (v2 : Int64) (v8 : Addr) (t0 : Int64) (G_EI : EI Z h n0 w_a w_b1 w_b2 (0 : Int32) (0 : Int64) own_I0 own_S0), f0_39 x0 x1 x2 x3 t0 = r → Runs p e below s (QH (.int r) n0) room_1.cells room_1.slots (T.setTop (mkF m 39 #[.val (.long v0), .second, .val (.long v2), .second, .val (.long x2), .second, .val (.int x3), .val (.ref w_a), .val (.ref v8), .val (.long x0), .second, .unset, .unset, .unset, .unset, .unset, .unset, .unset, .unset, .unset, .unset] [(.long t0)])) := by
    intro T locs h X eT N w_a w_b1 w_b2 v0 v2 v8 t0 G_EI hv
    unfold f0_39 at hv
    refine Runs.go (fun _ => XS.lstore X.here hx rfl (hb hby at_39) rfl (l' := #[.val (.long v0), .second, .val (.long v2), .second, .val (.long x2), .second, .val (.int x3), .val (.ref w_a), .val (.ref v8), .val (.long x0), .second, .val (.long t0), .second, .unset, .unset, .unset, .unset, .unset, .unset, .unset, .unset]) rfl) ?_
    show Runs p e below s _ _ _ (T.setTop (mkF m 41 #[.val (.long v0), .second, .val (.long v2), .second, .val (.long x2), .second, .val (.int x3), .val (.ref w_a), .val (.ref v8), .val (.long x0), .second, .val (.long t0), .second, .unset, .unset, .unset, .unset, .unset, .unset, .unset, .unset] []))
    refine Runs.go (fun _ => XS.iload X.here hx rfl (hb hby at_41) rfl) ?_
    show Runs p e below s _ _ _ (T.setTop (mkF m 43 #[.val (.long v0), .second, .val (.long v2), .second, .val (.long x2), .second, .val (.int x3), .val (.ref w_a), .val (.ref v8), .val (.long x0), .second, .val (.long t0), .second, .unset, .unset, .unset, .unset, .unset, .unset, .unset, .unset] [(.int x3)]))
    refine Runs.go (fun _ => XS.iconst X.here hx rfl (hb hby at_43)) ?_
    show Runs p e below s _ _ _ (T.setTop (mkF m 44 #[.val (.long v0), .second, .val (.long v2), .second, .val (.long x2), .second, .val (.int x3), .val (.ref w_a), .val (.ref v8), .val (.long x0), .second, .val (.long t0), .second, .unset, .unset, .unset, .unset, .unset, .unset, .unset, .unset] [(.int (1 : Int32)), (.int x3)]))
    refine Runs.go (fun _ => XS.iushr X.here hx rfl (hb hby at_44) rfl) ?_
    show Runs p e below s _ _ _ (T.setTop (mkF m 45 #[.val (.long v0), .second, .val (.long v2), .second, .val (.long x2), .second, .val (.int x3), .val (.ref w_a), .val (.ref v8), .val (.long x0), .second, .val (.long t0), .second, .unset, .unset, .unset, .unset, .unset, .unset, .unset, .unset] [(.int ((x3.toUInt32 >>> ((1 : Int32) &&& 31).toUInt32).toInt32))]))
    refine Runs.go (fun _ => XS.iconst X.here hx rfl (hb hby at_45)) ?_
    show Runs p e below s _ _ _ (T.setTop (mkF m 46 #[.val (.long v0), .second, .val (.long v2), .second, .val (.long x2), .second, .val (.int x3), .val (.ref w_a), .val (.ref v8), .val (.long x0), .second, .val (.long t0), .second, .unset, .unset, .unset, .unset, .unset, .unset, .unset, .unset] [(.int (3 : Int32)), (.int ((x3.toUInt32 >>> ((1 : Int32) &&& 31).toUInt32).toInt32))]))
    refine Runs.go (fun _ => XS.iand X.here hx rfl (hb hby at_46) rfl) ?_
    show Runs p e below s _ _ _ (T.setTop (mkF m 47 #[.val (.long v0), .second, .val (.long v2), .second, .val (.long x2), .second, .val (.int x3), .val (.ref w_a), .val (.ref v8), .val (.long x0), .second, .val (.long t0), .second, .unset, .unset, .unset, .unset, .unset, .unset, .unset, .unset] [(.int (((x3.toUInt32 >>> ((1 : Int32) &&& 31).toUInt32).toInt32) &&& (3 : Int32)))]))
    refine Runs.go (fun _ => XS.istore X.here hx rfl (hb hby at_47) rfl (l' := #[.val (.long v0), .second, .val (.long v2), .second, .val (.long x2), .second, .val (.int x3), .val (.ref w_a), .val (.ref v8), .val (.long x0), .second, .val (.long t0), .second, .val (.int (((x3.toUInt32 >>> ((1 : Int32) &&& 31).toUInt32).toInt32) &&& (3 : Int32))), .unset, .unset, .unset, .unset, .unset, .unset, .unset]) rfl) ?_
    show Runs p e below s _ _ _ (T.setTop (mkF m 49 #[.val (.long v0), .second, .val (.long v2), .second, .val (.long x2), .second, .val (.int x3), .val (.ref w_a), .val (.ref v8), .val (.long x0), .second, .val (.long t0), .second, .val (.int (((x3.toUInt32 >>> ((1 : Int32) &&& 31).toUInt32).toInt32) &&& (3 : Int32))), .unset, .unset, .unset, .unset, .unset, .unset, .unset] []))
    refine Runs.go (fun _ => XS.iload X.here hx rfl (hb hby at_49) rfl) ?_
    show Runs p e below s _ _ _ (T.setTop (mkF m 51 #[.val (.long v0), .second, .val (.long v2), .second, .val (.long x2), .second, .val (.int x3), .val (.ref w_a), .val (.ref v8), .val (.long x0), .second, .val (.long t0), .second, .val (.int (((x3.toUInt32 >>> ((1 : Int32) &&& 31).toUInt32).toInt32) &&& (3 : Int32))), .unset, .unset, .unset, .unset, .unset, .unset, .unset] [(.int (((x3.toUInt32 >>> ((1 : Int32) &&& 31).toUInt32).toInt32) &&& (3 : Int32)))]))
    by_cases hc51 : (((x3.toUInt32 >>> ((1 : Int32) &&& 31).toUInt32).toInt32) &&& (3 : Int32)) = (0 : Int32)
    · have hv := (if_pos hc51).symm.trans hv
      refine Runs.go (fun _ => XS.ifNo X.here hx rfl (hb hby at_51) rfl ((if0 _ _).trans (teq hc51).2)) ?_
      show Runs p e below s _ _ _ (T.setTop (mkF m 54 #[.val (.long v0), .second, .val (.long v2), .second, .val (.long x2), .second, .val (.int x3), .val (.ref w_a), .val (.ref v8), .val (.long x0), .second, .val (.long t0), .second, .val (.int (((x3.toUInt32 >>> ((1 : Int32) &&& 31).toUInt32).toInt32) &&& (3 : Int32))), .unset, .unset, .unset, .unset, .unset, .unset, .unset] []))
      refine Runs.go (fun _ => XS.lload X.here hx rfl (hb hby at_54) rfl) ?_
      show Runs p e below s _ _ _ (T.setTop (mkF m 56 #[.val (.long v0), .second, .val (.long v2), .second, .val (.long x2), .second, .val (.int x3), .val (.ref w_a), .val (.ref v8), .val (.long x0), .second, .val (.long t0), .second, .val (.int (((x3.toUInt32 >>> ((1 : Int32) &&& 31).toUInt32).toInt32) &&& (3 : Int32))), .unset, .unset, .unset, .unset, .unset, .unset, .unset] [(.long x2)]))
      refine Runs.go (fun _ => XS.goto X.here hx rfl (pc0 := 56) (pc' := 72) rfl (hb hby at_56) (by decide) (by decide)) ?_
      show Runs p e below s _ _ _ (T.setTop (mkF m 72 #[.val (.long v0), .second, .val (.long v2), .second, .val (.long x2), .second, .val (.int x3), .val (.ref w_a), .val (.ref v8), .val (.long x0), .second, .val (.long t0), .second, .val (.int (((x3.toUInt32 >>> ((1 : Int32) &&& 31).toUInt32).toInt32) &&& (3 : Int32))), .unset, .unset, .unset, .unset, .unset, .unset, .unset] [(.long x2)]))
      exact k_72 _ _ _ X eT N w_a w_b1 w_b2 v0 v2 x2 x3 v8 t0 (((x3.toUInt32 >>> ((1 : Int32) &&& 31).toUInt32).toInt32) &&& (3 : Int32)) x2 G_EI hv
    · have hv := (if_neg hc51).symm.trans hv
      refine Runs.go (fun _ => XS.ifYes X.here hx rfl (pc0 := 51) (pc' := 59) rfl (hb hby at_51) rfl ((if0 _ _).trans (feq hc51).2) (by decide) (by decide)) ?_
      show Runs p e below s _ _ _ (T.setTop (mkF m 59 #[.val (.long v0), .second, .val (.long v2), .second, .val (.long x2), .second, .val (.int x3), .val (.ref w_a), .val (.ref v8), .val (.long x0), .second, .val (.long t0), .second, .val (.int (((x3.toUInt32 >>> ((1 : Int32) &&& 31).toUInt32).toInt32) &&& (3 : Int32))), .unset, .unset, .unset, .unset, .unset, .unset, .unset] []))
      refine Runs.go (fun _ => XS.iload X.here hx rfl (hb hby at_59) rfl) ?_
      show Runs p e below s _ _ _ (T.setTop (mkF m 61 #[.val (.long v0), .second, .val (.long v2), .second, .val (.long x2), .second, .val (.int x3), .val (.ref w_a), .val (.ref v8), .val (.long x0), .second, .val (.long t0), .second, .val (.int (((x3.toUInt32 >>> ((1 : Int32) &&& 31).toUInt32).toInt32) &&& (3 : Int32))), .unset, .unset, .unset, .unset, .unset, .unset, .unset] [(.int (((x3.toUInt32 >>> ((1 : Int32) &&& 31).toUInt32).toInt32) &&& (3 : Int32)))]))
      refine Runs.go (fun _ => XS.iconst X.here hx rfl (hb hby at_61)) ?_
      show Runs p e below s _ _ _ (T.setTop (mkF m 62 #[.val (.long v0), .second, .val (.long v2), .second, .val (.long x2), .second, .val (.int x3), .val (.ref w_a), .val (.ref v8), .val (.long x0), .second, .val (.long t0), .second, .val (.int (((x3.toUInt32 >>> ((1 : Int32) &&& 31).toUInt32).toInt32) &&& (3 : Int32))), .unset, .unset, .unset, .unset, .unset, .unset, .unset] [(.int (1 : Int32)), (.int (((x3.toUInt32 >>> ((1 : Int32) &&& 31).toUInt32).toInt32) &&& (3 : Int32)))]))
      by_cases hc62 : (((x3.toUInt32 >>> ((1 : Int32) &&& 31).toUInt32).toInt32) &&& (3 : Int32)) = (1 : Int32)
      · have hv := (if_pos hc62).symm.trans hv
        refine Runs.go (fun _ => XS.icmpNo X.here hx rfl (hb hby at_62) rfl (teq hc62).2) ?_
        show Runs p e below s _ _ _ (T.setTop (mkF m 65 #[.val (.long v0), .second, .val (.long v2), .second, .val (.long x2), .second, .val (.int x3), .val (.ref w_a), .val (.ref v8), .val (.long x0), .second, .val (.long t0), .second, .val (.int (((x3.toUInt32 >>> ((1 : Int32) &&& 31).toUInt32).toInt32) &&& (3 : Int32))), .unset, .unset, .unset, .unset, .unset, .unset, .unset] []))
        refine Runs.go (fun _ => XS.lload X.here hx rfl (hb hby at_65) rfl) ?_
        show Runs p e below s _ _ _ (T.setTop (mkF m 67 #[.val (.long v0), .second, .val (.long v2), .second, .val (.long x2), .second, .val (.int x3), .val (.ref w_a), .val (.ref v8), .val (.long x0), .second, .val (.long t0), .second, .val (.int (((x3.toUInt32 >>> ((1 : Int32) &&& 31).toUInt32).toInt32) &&& (3 : Int32))), .unset, .unset, .unset, .unset, .unset, .unset, .unset] [(.long x0)]))
        refine Runs.go (fun _ => XS.goto X.here hx rfl (pc0 := 67) (pc' := 72) rfl (hb hby at_67) (by decide) (by decide)) ?_
        show Runs p e below s _ _ _ (T.setTop (mkF m 72 #[.val (.long v0), .second, .val (.long v2), .second, .val (.long x2), .second, .val (.int x3), .val (.ref w_a), .val (.ref v8), .val (.long x0), .second, .val (.long t0), .second, .val (.int (((x3.toUInt32 >>> ((1 : Int32) &&& 31).toUInt32).toInt32) &&& (3 : Int32))), .unset, .unset, .unset, .unset, .unset, .unset, .unset] [(.long x0)]))
        exact k_72 _ _ _ X eT N w_a w_b1 w_b2 v0 v2 x2 x3 v8 t0 (((x3.toUInt32 >>> ((1 : Int32) &&& 31).toUInt32).toInt32) &&& (3 : Int32)) x0 G_EI hv
      · have hv := (if_neg hc62).symm.trans hv
        refine Runs.go (fun _ => XS.icmpYes X.here hx rfl (pc0 := 62) (pc' := 70) rfl (hb hby at_62) rfl (feq hc62).2 (by decide) (by decide)) ?_
        show Runs p e below s _ _ _ (T.setTop (mkF m 70 #[.val (.long v0), .second, .val (.long v2), .second, .val (.long x2), .second, .val (.int x3), .val (.ref w_a), .val (.ref v8), .val (.long x0), .second, .val (.long t0), .second, .val (.int (((x3.toUInt32 >>> ((1 : Int32) &&& 31).toUInt32).toInt32) &&& (3 : Int32))), .unset, .unset, .unset, .unset, .unset, .unset, .unset] []))
        refine Runs.go (fun _ => XS.lload X.here hx rfl (hb hby at_70) rfl) ?_
        show Runs p e below s _ _ _ (T.setTop (mkF m 72 #[.val (.long v0), .second, .val (.long v2), .second, .val (.long x2), .second, .val (.int x3), .val (.ref w_a), .val (.ref v8), .val (.long x0), .second, .val (.long t0), .second, .val (.int (((x3.toUInt32 >>> ((1 : Int32) &&& 31).toUInt32).toInt32) &&& (3 : Int32))), .unset, .unset, .unset, .unset, .unset, .unset, .unset] [(.long t0)]))
        exact k_72 _ _ _ X eT N w_a w_b1 w_b2 v0 v2 x2 x3 v8 t0 (((x3.toUInt32 >>> ((1 : Int32) &&& 31).toUInt32).toInt32) &&& (3 : Int32)) t0 G_EI hv
  have k_0 : ∀ (T : State) (X : Stand p l e room_1 s m #[(.long x0), (.long x1), (.long x2), (.int x3)] below meth c T [] 0 0) (eT : T.heap = h0) (N : Fr n0 []), f0_0 x0 x1 x2 x3 = r → Runs p e below s (QH (.int r) n0) room_1.cells room_1.slots (T.setTop (mkF m 0 #[.val (.long x0), .second, .val (.long x1), .second, .val (.long x2), .second, .val (.int x3), .unset, .unset, .unset, .unset, .unset, .unset, .unset, .unset, .unset, .unset, .unset, .unset, .unset, .unset] [])) := by
    intro T X eT N  hv
    unfold f0_0 at hv
    obtain ⟨To0_1, ho0_1, Xo0_1, eo0_1, Eo0_1, Ao0_1, Do0_1, -, sto0_1⟩ := newO X hx hZ hown (hw _ (List.mem_of_getElem? (i := 0) rfl)) (hw _ (List.mem_of_getElem? (i := 1) rfl)) (hw _ (List.mem_of_getElem? (i := 2) rfl)) eT (g := (mkF m 0 #[.val (.long x0), .second, .val (.long x1), .second, .val (.long x2), .second, .val (.int x3), .unset, .unset, .unset, .unset, .unset, .unset, .unset, .unset, .unset, .unset, .unset, .unset, .unset, .unset] [])) rfl (hb hby at_0) (by decide) (by decide)
    obtain ⟨bo0_1, go0_1⟩ : ∃ z, z = h0.size := ⟨_, rfl⟩
    have gb_bo0_1 : n0 ≤ bo0_1 := Nat.le_trans hn0 (Nat.le_of_eq go0_1.symm)
    rw [← go0_1] at Ao0_1 Do0_1 sto0_1
    refine Runs.go sto0_1 ?_
    have hno0_1 : n0 ≤ ho0_1.size := Nat.le_trans hn0 Eo0_1.1
    have Fids_bo0_1 : Fld Z ho0_1 bo0_1 "com/example/quillon/quillon/core/ElementIds" "ids" "[J" .null := Do0_1 (Or.inl (hw _ (List.mem_of_getElem? (i := 11) rfl))) (ty := (.array .long)) (by decide)
    have Fslots_bo0_1 : Fld Z ho0_1 bo0_1 "com/example/quillon/quillon/core/ElementIds" "slots" "[I" .null := Do0_1 (Or.inl (hw _ (List.mem_of_getElem? (i := 18) rfl))) (ty := (.array .int)) (by decide)
    have Fshift_bo0_1 : Fld Z ho0_1 bo0_1 "com/example/quillon/quillon/core/ElementIds" "shift" "I" (.int (0 : Int32)) := Do0_1 (Or.inl (hw _ (List.mem_of_getElem? (i := 29) rfl))) (ty := .int) (by decide)
    have Fsize_bo0_1 : Fld Z ho0_1 bo0_1 "com/example/quillon/quillon/core/ElementIds" "size" "I" (.int (0 : Int32)) := Do0_1 (Or.inl (hw _ (List.mem_of_getElem? (i := 31) rfl))) (ty := .int) (by decide)
    have Fkey_bo0_1 : Fld Z ho0_1 bo0_1 "com/example/quillon/quillon/core/ElementIds" "key" "[J" .null := Do0_1 (Or.inl (hw _ (List.mem_of_getElem? (i := 54) rfl))) (ty := (.array .long)) (by decide)
    have FspareProbes_bo0_1 : Fld Z ho0_1 bo0_1 "com/example/quillon/quillon/core/ElementIds" "spareProbes" "J" (.long (0 : Int64)) := Do0_1 (Or.inl (hw _ (List.mem_of_getElem? (i := 56) rfl))) (ty := .long) (by decide)
    show Runs p e below s _ _ _ (To0_1.setTop (mkF m 3 #[.val (.long x0), .second, .val (.long x1), .second, .val (.long x2), .second, .val (.int x3), .unset, .unset, .unset, .unset, .unset, .unset, .unset, .unset, .unset, .unset, .unset, .unset, .unset, .unset] [(.ref bo0_1)]))
    refine Runs.go (fun _ => XS.dup Xo0_1.here hx rfl (hb hby at_3) rfl rfl) ?_
    show Runs p e below s _ _ _ (To0_1.setTop (mkF m 4 #[.val (.long x0), .second, .val (.long x1), .second, .val (.long x2), .second, .val (.int x3), .unset, .unset, .unset, .unset, .unset, .unset, .unset, .unset, .unset, .unset, .unset, .unset, .unset, .unset] [(.ref bo0_1), (.ref bo0_1)]))
    obtain ⟨_, _, ⟨Tc4_2, Lc4_2, kc4_2, nc4_2⟩, -, Xc4_2, ⟨Lcc4_2, hQc4_2, lc4_2, yc4_2, zc4_2⟩, stc4_2⟩ := Xo0_1.specialBack hx (y := (⟨"com/example/quillon/quillon/core/ElementIds", "<init>", "()V"⟩ : MethodName)) rfl hown (mvT hZ (hw _ (List.mem_of_getElem? (i := 3) rfl))) (mvT hZ (hw _ (List.mem_of_getElem? (i := 4) rfl))) (mvT hZ (hw _ (List.mem_of_getElem? (i := 5) rfl))) (by decide) (backOf (W := 1) (rm1 l Z a0 hw [] bo0_1 ho0_1 n0 hno0_1 Ao0_1 gb_bo0_1 Fsize_bo0_1 FspareProbes_bo0_1 Fshift_bo0_1 Fkey_bo0_1 Fids_bo0_1 Fslots_bo0_1) hZ (hw _ (List.mem_of_getElem? (i := 5) rfl)) (hw _ (List.mem_of_getElem? (i := 2) rfl)) (by decide) (by decide)) (g := (mkF m 4 #[.val (.long x0), .second, .val (.long x1), .second, .val (.long x2), .second, .val (.int x3), .unset, .unset, .unset, .unset, .unset, .unset, .unset, .unset, .unset, .unset, .unset, .unset, .unset, .unset] [(.ref bo0_1), (.ref bo0_1)])) rfl (by rw [hml]; rfl) (Steps.refl _) (a := bo0_1) (argsL := []) (rest := [(.ref bo0_1)]) (lenOf pd_0 rfl) rfl (by show 2 * 0 + _ ≤ _; exact Nat.le_of_eq rfl) (hb hby at_4) (fun _ _ => ⟨rfl, eo0_1, (by decide : 1 + 2 ≤ _), (by decide : 6 + 24 ≤ _)⟩)
    dsimp only [Pt.U, Pt.locs, Pt.cells, Pt.slots] at Xc4_2 lc4_2 yc4_2 zc4_2 stc4_2 hQc4_2
    subst lc4_2 yc4_2 zc4_2
    obtain ⟨rfl, Nc4_2q, b1, b2, Gc4_2⟩ := hQc4_2
    refine Runs.go (fun _ => stc4_2.trans) ?_
    have Nc4_2 := Fr.app N Nc4_2q
    have hz4 : n0 ≤ Tc4_2.heap.size := Nat.le_trans Gc4_2.2.1 (Nat.le_of_lt Gc4_2.lts.1)
    show Runs p e below s _ _ _ (Tc4_2.setTop (mkF m 7 #[.val (.long x0), .second, .val (.long x1), .second, .val (.long x2), .second, .val (.int x3), .unset, .unset, .unset, .unset, .unset, .unset, .unset, .unset, .unset, .unset, .unset, .unset, .unset, .unset] [(.ref bo0_1)]))
    refine Runs.go (fun _ => XS.astore Xc4_2.here hx rfl (hb hby at_7) rfl rfl (l' := #[.val (.long x0), .second, .val (.long x1), .second, .val (.long x2), .second, .val (.int x3), .val (.ref bo0_1), .unset, .unset, .unset, .unset, .unset, .unset, .unset, .unset, .unset, .unset, .unset, .unset, .unset]) rfl) ?_
    show Runs p e below s _ _ _ (Tc4_2.setTop (mkF m 9 #[.val (.long x0), .second, .val (.long x1), .second, .val (.long x2), .second, .val (.int x3), .val (.ref bo0_1), .unset, .unset, .unset, .unset, .unset, .unset, .unset, .unset, .unset, .unset, .unset, .unset, .unset] []))
    refine Runs.go (fun _ => XS.aload Xc4_2.here hx rfl (hb hby at_9) rfl rfl) ?_
    show Runs p e below s _ _ _ (Tc4_2.setTop (mkF m 11 #[.val (.long x0), .second, .val (.long x1), .second, .val (.long x2), .second, .val (.int x3), .val (.ref bo0_1), .unset, .unset, .unset, .unset, .unset, .unset, .unset, .unset, .unset, .unset, .unset, .unset, .unset] [(.ref bo0_1)]))
    have hz11 : n0 ≤ Tc4_2.heap.size := Nat.le_trans Gc4_2.2.1 (Nat.le_of_lt Gc4_2.lts.1)
    obtain ⟨cqc11_3, kqc11_3, qc11_3a, qc11_3b, qc11_3c⟩ := isOf hZ rfl Gc4_2.1
    obtain ⟨_, _, ⟨Tc11_3, Lc11_3, kc11_3, nc11_3⟩, -, Xc11_3, ⟨Lcc11_3, hQc11_3, lc11_3, yc11_3, zc11_3⟩, stc11_3⟩ := Xc4_2.virtualBack hx (y := (⟨"com/example/quillon/quillon/core/ElementIds", "toArray", "()[J"⟩ : MethodName)) (z := (⟨"com/example/quillon/quillon/core/ElementIds", "toArray", "()[J"⟩ : MethodName)) hown (mvT hZ (hw _ (List.mem_of_getElem? (i := 32) rfl))) (mvT hZ (hw _ (List.mem_of_getElem? (i := 33) rfl))) (notFace_of_selects (args := #[]) (mvT hZ (hw _ (List.mem_of_getElem? (i := 35) rfl)))) (mvT hZ (hw _ (List.mem_of_getElem? (i := 35) rfl))) (mvT hZ (hw _ (List.mem_of_getElem? (i := 34) rfl))) (by decide) (backOf (W := 0) (rm6 l Z a0 hw [] bo0_1 b1 b2 (0 : Int32) (0 : Int64) own_I0 own_S0 Tc4_2.heap n0 hz11 Gc4_2 own_n0) hZ (hw _ (List.mem_of_getElem? (i := 36) rfl)) (hw _ (List.mem_of_getElem? (i := 2) rfl)) (by decide) (by decide)) qc11_3a qc11_3c (g := (mkF m 11 #[.val (.long x0), .second, .val (.long x1), .second, .val (.long x2), .second, .val (.int x3), .val (.ref bo0_1), .unset, .unset, .unset, .unset, .unset, .unset, .unset, .unset, .unset, .unset, .unset, .unset, .unset] [(.ref bo0_1)])) rfl (by rw [hml]; rfl) (Steps.refl _) (argsL := []) (rest := []) (lenOf pd_4 rfl) rfl (by show 2 * 0 + _ ≤ _; exact Nat.le_of_eq rfl) (hb hby at_11) (fun _ _ => ⟨rfl, rfl, (by decide : 3 + 1 ≤ _), (by decide : 30 + 3 ≤ _)⟩)
    dsimp only [Pt.U, Pt.locs, Pt.cells, Pt.slots] at Xc11_3 lc11_3 yc11_3 zc11_3 stc11_3 hQc11_3
    subst lc11_3 yc11_3 zc11_3
    obtain ⟨bc11_3, kc11_3, rfl, Nc11_3q, gc11_3, Ec11_3, Vc11_3⟩ := hQc11_3
    refine Runs.go (fun _ => stc11_3.trans) ?_
    have Nc11_3 := Fr.app Nc4_2 Nc11_3q
    have nea_c11_3 : bo0_1 ≠ bc11_3 := Nat.ne_of_lt (Nat.lt_of_lt_of_le Gc4_2.lts.1 (Nat.le_of_eq gc11_3.symm))
    have neb1_c11_3 : b1 ≠ bc11_3 := Nat.ne_of_lt (Nat.lt_of_lt_of_le Gc4_2.lts.2.1 (Nat.le_of_eq gc11_3.symm))
    have neb2_c11_3 : b2 ≠ bc11_3 := Nat.ne_of_lt (Nat.lt_of_lt_of_le Gc4_2.lts.2.2 (Nat.le_of_eq gc11_3.symm))
    have gb_bc11_3 : n0 ≤ bc11_3 := Nat.le_trans hz11 (Nat.le_of_eq gc11_3.symm)
    have EI_c11_3 := Gc4_2.ext Ec11_3
    have hzt11 : n0 ≤ Tc11_3.heap.size := Nat.le_trans hz11 Ec11_3.1
    show Runs p e below s _ _ _ (Tc11_3.setTop (mkF m 14 #[.val (.long x0), .second, .val (.long x1), .second, .val (.long x2), .second, .val (.int x3), .val (.ref bo0_1), .unset, .unset, .unset, .unset, .unset, .unset, .unset, .unset, .unset, .unset, .unset, .unset, .unset] [(.ref bc11_3)]))
    refine Runs.go (fun _ => XS.astore Xc11_3.here hx rfl (hb hby at_14) rfl rfl (l' := #[.val (.long x0), .second, .val (.long x1), .second, .val (.long x2), .second, .val (.int x3), .val (.ref bo0_1), .val (.ref bc11_3), .unset, .unset, .unset, .unset, .unset, .unset, .unset, .unset, .unset, .unset, .unset, .unset]) rfl) ?_
    show Runs p e below s _ _ _ (Tc11_3.setTop (mkF m 16 #[.val (.long x0), .second, .val (.long x1), .second, .val (.long x2), .second, .val (.int x3), .val (.ref bo0_1), .val (.ref bc11_3), .unset, .unset, .unset, .unset, .unset, .unset, .unset, .unset, .unset, .unset, .unset, .unset] []))
    refine Runs.go (fun _ => XS.aload Xc11_3.here hx rfl (hb hby at_16) rfl rfl) ?_
    show Runs p e below s _ _ _ (Tc11_3.setTop (mkF m 18 #[.val (.long x0), .second, .val (.long x1), .second, .val (.long x2), .second, .val (.int x3), .val (.ref bo0_1), .val (.ref bc11_3), .unset, .unset, .unset, .unset, .unset, .unset, .unset, .unset, .unset, .unset, .unset, .unset] [(.ref bc11_3)]))
    have VCl18_4 := Vc11_3
    obtain ⟨cll18_4, Arl18_4, -, Sl18_4, Ml18_4, -, -⟩ := VCl18_4
    refine Runs.go (Xc11_3.arraylength hx (by exact Arl18_4.1) (State.isArrayOf_alike hZ.alike Arl18_4.2.1) (g := (mkF m 18 #[.val (.long x0), .second, .val (.long x1), .second, .val (.long x2), .second, .val (.int x3), .val (.ref bo0_1), .val (.ref bc11_3), .unset, .unset, .unset, .unset, .unset, .unset, .unset, .unset, .unset, .unset, .unset, .unset] [(.ref bc11_3)])) rfl rfl (hb hby at_18)) ?_
    rw [len_of Sl18_4 Ml18_4]
    show Runs p e below s _ _ _ (Tc11_3.setTop (mkF m 19 #[.val (.long x0), .second, .val (.long x1), .second, .val (.long x2), .second, .val (.int x3), .val (.ref bo0_1), .val (.ref bc11_3), .unset, .unset, .unset, .unset, .unset, .unset, .unset, .unset, .unset, .unset, .unset, .unset] [(.int (0 : Int32))]))
    refine Runs.go (fun _ => XS.ifYes Xc11_3.here hx rfl (pc0 := 19) (pc' := 24) rfl (hb hby at_19) rfl ((if0 _ _).trans (teq (rfl : (0 : Int32) = (0 : Int32))).1) (by decide) (by decide)) ?_
    show Runs p e below s _ _ _ (Tc11_3.setTop (mkF m 24 #[.val (.long x0), .second, .val (.long x1), .second, .val (.long x2), .second, .val (.int x3), .val (.ref bo0_1), .val (.ref bc11_3), .unset, .unset, .unset, .unset, .unset, .unset, .unset, .unset, .unset, .unset, .unset, .unset] []))
    refine Runs.go (fun _ => XS.lloadN Xc11_3.here hx rfl (hb hby at_24) rfl) ?_
    show Runs p e below s _ _ _ (Tc11_3.setTop (mkF m 25 #[.val (.long x0), .second, .val (.long x1), .second, .val (.long x2), .second, .val (.int x3), .val (.ref bo0_1), .val (.ref bc11_3), .unset, .unset, .unset, .unset, .unset, .unset, .unset, .unset, .unset, .unset, .unset, .unset] [(.long x0)]))
    refine Runs.go (fun _ => XS.lstore Xc11_3.here hx rfl (hb hby at_25) rfl (l' := #[.val (.long x0), .second, .val (.long x1), .second, .val (.long x2), .second, .val (.int x3), .val (.ref bo0_1), .val (.ref bc11_3), .val (.long x0), .second, .unset, .unset, .unset, .unset, .unset, .unset, .unset, .unset, .unset, .unset]) rfl) ?_
    show Runs p e below s _ _ _ (Tc11_3.setTop (mkF m 27 #[.val (.long x0), .second, .val (.long x1), .second, .val (.long x2), .second, .val (.int x3), .val (.ref bo0_1), .val (.ref bc11_3), .val (.long x0), .second, .unset, .unset, .unset, .unset, .unset, .unset, .unset, .unset, .unset, .unset] []))
    refine Runs.go (fun _ => XS.iload Xc11_3.here hx rfl (hb hby at_27) rfl) ?_
    show Runs p e below s _ _ _ (Tc11_3.setTop (mkF m 29 #[.val (.long x0), .second, .val (.long x1), .second, .val (.long x2), .second, .val (.int x3), .val (.ref bo0_1), .val (.ref bc11_3), .val (.long x0), .second, .unset, .unset, .unset, .unset, .unset, .unset, .unset, .unset, .unset, .unset] [(.int x3)]))
    refine Runs.go (fun _ => XS.iconst Xc11_3.here hx rfl (hb hby at_29)) ?_
    show Runs p e below s _ _ _ (Tc11_3.setTop (mkF m 30 #[.val (.long x0), .second, .val (.long x1), .second, .val (.long x2), .second, .val (.int x3), .val (.ref bo0_1), .val (.ref bc11_3), .val (.long x0), .second, .unset, .unset, .unset, .unset, .unset, .unset, .unset, .unset, .unset, .unset] [(.int (1 : Int32)), (.int x3)]))
    refine Runs.go (fun _ => XS.iand Xc11_3.here hx rfl (hb hby at_30) rfl) ?_
    show Runs p e below s _ _ _ (Tc11_3.setTop (mkF m 31 #[.val (.long x0), .second, .val (.long x1), .second, .val (.long x2), .second, .val (.int x3), .val (.ref bo0_1), .val (.ref bc11_3), .val (.long x0), .second, .unset, .unset, .unset, .unset, .unset, .unset, .unset, .unset, .unset, .unset] [(.int (x3 &&& (1 : Int32)))]))
    by_cases hc31 : (x3 &&& (1 : Int32)) = (0 : Int32)
    · have hv := (if_pos hc31).symm.trans hv
      refine Runs.go (fun _ => XS.ifYes Xc11_3.here hx rfl (pc0 := 31) (pc' := 38) rfl (hb hby at_31) rfl ((if0 _ _).trans (teq hc31).1) (by decide) (by decide)) ?_
      show Runs p e below s _ _ _ (Tc11_3.setTop (mkF m 38 #[.val (.long x0), .second, .val (.long x1), .second, .val (.long x2), .second, .val (.int x3), .val (.ref bo0_1), .val (.ref bc11_3), .val (.long x0), .second, .unset, .unset, .unset, .unset, .unset, .unset, .unset, .unset, .unset, .unset] []))
      refine Runs.go (fun _ => XS.lloadN Xc11_3.here hx rfl (hb hby at_38) rfl) ?_
      show Runs p e below s _ _ _ (Tc11_3.setTop (mkF m 39 #[.val (.long x0), .second, .val (.long x1), .second, .val (.long x2), .second, .val (.int x3), .val (.ref bo0_1), .val (.ref bc11_3), .val (.long x0), .second, .unset, .unset, .unset, .unset, .unset, .unset, .unset, .unset, .unset, .unset] [(.long x1)]))
      exact k_39 _ _ _ Xc11_3 rfl Nc11_3 bo0_1 b1 b2 x0 x1 bc11_3 x1 EI_c11_3 hv
    · have hv := (if_neg hc31).symm.trans hv
      refine Runs.go (fun _ => XS.ifNo Xc11_3.here hx rfl (hb hby at_31) rfl ((if0 _ _).trans (feq hc31).1)) ?_
      show Runs p e below s _ _ _ (Tc11_3.setTop (mkF m 34 #[.val (.long x0), .second, .val (.long x1), .second, .val (.long x2), .second, .val (.int x3), .val (.ref bo0_1), .val (.ref bc11_3), .val (.long x0), .second, .unset, .unset, .unset, .unset, .unset, .unset, .unset, .unset, .unset, .unset] []))
      refine Runs.go (fun _ => XS.lloadN Xc11_3.here hx rfl (hb hby at_34) rfl) ?_
      show Runs p e below s _ _ _ (Tc11_3.setTop (mkF m 35 #[.val (.long x0), .second, .val (.long x1), .second, .val (.long x2), .second, .val (.int x3), .val (.ref bo0_1), .val (.ref bc11_3), .val (.long x0), .second, .unset, .unset, .unset, .unset, .unset, .unset, .unset, .unset, .unset, .unset] [(.long x0)]))
      refine Runs.go (fun _ => XS.goto Xc11_3.here hx rfl (pc0 := 35) (pc' := 39) rfl (hb hby at_35) (by decide) (by decide)) ?_
      show Runs p e below s _ _ _ (Tc11_3.setTop (mkF m 39 #[.val (.long x0), .second, .val (.long x1), .second, .val (.long x2), .second, .val (.int x3), .val (.ref bo0_1), .val (.ref bc11_3), .val (.long x0), .second, .unset, .unset, .unset, .unset, .unset, .unset, .unset, .unset, .unset, .unset] [(.long x0)]))
      exact k_39 _ _ _ Xc11_3 rfl Nc11_3 bo0_1 b1 b2 x0 x1 bc11_3 x0 EI_c11_3 hv
  exact k_0 _ X0 e0 (Fr.nil n0) hF
set_option maxRecDepth 65536 in
set_option maxHeartbeats 40000000 in
theorem comes_1 {Post : Tables → Env → Array Value → State → Outcome → State → Prop} (hpost : ∀ tb e args s v u, (limb_1_1.after args s (.returned v) u = true ∧ limb_1_2.after args s (.returned v) u = true ∧ True) → FrameEnd s (.returned v) u (Jvm.fieldLocs frame_1_writes args s ++ Jvm.arrayLocs frame_1_arrays args s ++ Jvm.staticLocs frame_1_statics s) 24 192 → Post tb e args s (.returned v) u) :
    ArmFor flags0 classFile x code maxLocals ret World_1 tables_1 room_1 Calls_1 rest_1 Pre_1 Post := by
  intro l hfl _ _ p e ha hc hk s m args below hf hA hF happ hP
  obtain ⟨hcalls, hrest, hpre⟩ := hP
  obtain ⟨-, -, -, hnamed, -, -, -, hat⟩ := (Spec.applies_iff hf).mp happ
  obtain ⟨hg, hn⟩ := and_e (Cond.before_iff.mp (show (Jvm.Cond.and given_1 narrow_1).before args s = true from hpre))
  obtain ⟨hcnt, hg⟩ := and_e hg
  obtain ⟨w0, w1, w2, w3, rfl⟩ : ∃ w0 w1 w2 w3 : Value, args = #[w0, w1, w2, w3] := by
    have hs : args.size = 4 := by simpa [Cond.value, given_1] using hcnt
    obtain ⟨L⟩ := args
    match L, hs with
    | [w0, w1, w2, w3], _ => exact ⟨w0, w1, w2, w3, rfl⟩
  obtain ⟨ga0, hg⟩ := and_e hg
  obtain ⟨i0, ei0⟩ := isL_v ga0
  obtain rfl : w0 = (.long i0) := Option.some.inj ei0
  obtain ⟨ga1, hg⟩ := and_e hg
  obtain ⟨i1, ei1⟩ := isL_v ga1
  obtain rfl : w1 = (.long i1) := Option.some.inj ei1
  obtain ⟨ga2, hg⟩ := and_e hg
  obtain ⟨i2, ei2⟩ := isL_v ga2
  obtain rfl : w2 = (.long i2) := Option.some.inj ei2
  have ga3 := hg
  obtain ⟨i3, ei3⟩ := is_v ga3
  obtain rfl : w3 = (.int i3) := Option.some.inj ei3
  have hw := fun d (hd : d ∈ tables_1) => atoms_spec (ws := Jvm.Cond.code x code maxLocals ret :: tables_1) hat d (List.mem_cons_of_mem _ hd)
  obtain ⟨n, o, h1, h2, h3, _, L, rfl, ⟨rfl, N⟩, hq⟩ := rm0 l s _ hw tables_1 i0 i1 i2 i3 s.heap s.heap.size (Nat.le_refl _) p e ha hc hk s m _ below hf ((Spec.applies_iff_loose hf).mp happ).1 ⟨rfl, State.Warmed39.refl s, rfl⟩ trivial
  rw [law_true i0 i1 i2 i3] at hq h3
  exact ⟨n, _, h1, h2, h3, hpost _ _ _ _ _ _ ⟨Cond.after_iff.mpr rfl, Cond.after_iff.mpr (eq_i res_at (Term.int_eval (1)) rfl), trivial⟩ ⟨hq.1, hq.2.1, (hq.2.2.sift fun y hy => Or.inr (N y hy)).mono (by decide) (by decide)⟩⟩
theorem main_1_1 : Claimed_1_1 := comes_1 fun _ _ _ _ _ _ h hF => ⟨h.1, hF⟩
theorem main_1_2 : Claimed_1_2 := comes_1 fun _ _ _ _ _ _ h hF => ⟨h.2.1, hF⟩
end Jvm.Pilot.@@N@@
namespace Jvm.Pilot.@@N@@
open Jvm Jvm.ClassFile Sem Op Lib Jvm.Free Jvm.Stand Jvm.Pilot.@@N@@.Jvm.D
/-! MADE BY PROGRAM (witnessworld.py) out of the Statement's table words and the real class files: 19 classes; the members and pool entries that the words name. The judged class is class 1, her method 1. -/
namespace start1
open Jvm.ClassFile
def u (s : String) : CpInfo := .utf8 (stringToUtf16 s)
/-- a pool by its gaps: so many unusable entries, then the entry; so many at the end -/
def gap : Nat → List CpInfo → List CpInfo
  | 0, r => r
  | n + 1, r => .unusable :: gap n r
def poolList (es : List (Nat × CpInfo)) (last : Nat) : List CpInfo := es.foldr (fun e r => gap e.1 (e.2 :: r)) (gap last [])
def pool (es : List (Nat × CpInfo)) (last : Nat) : Array CpInfo := ⟨poolList es last⟩
def fileOf (pool : Array CpInfo) (this : Nat) (attrs : Array Attribute := #[]) (ms : Array MethodInfo := #[]) (fl : Nat := 33) (sup : Nat := 0) (ifs : Array Nat := #[]) (fds : Array FieldInfo := #[]) : ClassFile where
  minorVersion := 0
  majorVersion := 65
  constantPool := pool
  accessFlags := fl
  thisClass := this
  superClass := sup
  interfaces := ifs
  fields := fds
  methods := ms
  attributes := attrs
def plain (name : String) (sup : Option ClassId) : Class where
  name := name
  kind := .ordinary
  loader := none
  accessFlags := 33
  super := sup
  interfaces := #[]
  cf := none
  fields := #[]
  methods := #[]
  instanceTypes := #[]
  staticTypes := #[]
  resolved := #[]
  callSites := []
  init := .initialized
  statics := none
  mirror := none

def pool0 : Array CpInfo := pool [(5, u "<init>"), (0, u "()V"), (1, .class_ 10), (1, u "java/lang/Object")] 113

def k0c0 : Code := { maxStack := 0, maxLocals := 1, code := object_method_1_code, exceptionTable := #[], attributes := #[] }
def k0m0 : Method := { name := "<init>", desc := "()V", sig := { parameters := [], returnType := none }, accessFlags := 1, code := some k0c0 }
/-- java/lang/Object -/
def k0 : Class := { plain "java/lang/Object" none with
  accessFlags := 33
  interfaces := #[]
  cf := some (fileOf pool0 8 #[] #[{ accessFlags := 1, nameIndex := 5, descriptorIndex := 6, attributes := #[] }] 33 0 #[] #[])
  fields := #[]
  methods := #[k0m0]
  instanceTypes := #[]
  staticTypes := #[]
  resolved := Array.replicate 124 none
  statics := none }

def pool1 : Array CpInfo := pool [(2, .class_ 4), (0, .nameAndType 5 6), (0, u "java/lang/Object"), (0, u "<init>"), (0, u "()V"), (0, .class_ 8), (0, u "com/example/quillon/quillon/core/ElementIds"), (0, .methodref 7 3), (0, .methodref 7 11), (0, .nameAndType 12 13), (0, u "toArray"), (0, u "()[J"), (0, .methodref 7 15), (0, .nameAndType 16 17), (0, u "indexOf"), (0, u "(J)I"), (0, .long 18446744073709551615), (1, .class_ 21), (0, u "com/example/quillon/quillon/core/ElementIdsToArrayPinLaw"), (2, u "law"), (0, u "(JJJI)Z")] 5

def k1m0 : Method := { name := "<init>", desc := "()V", sig := { parameters := [], returnType := none }, accessFlags := 1, code := none }
def k1c1 : Code := { maxStack := 6, maxLocals := 21, code := code, exceptionTable := #[], attributes := #[] }
def k1m1 : Method := { name := "law", desc := "(JJJI)Z", sig := { parameters := [.long, .long, .long, .int], returnType := some .boolean }, accessFlags := 9, code := some k1c1 }
/-- com/example/quillon/quillon/core/ElementIdsToArrayPinLaw -/
def k1 : Class := { plain "com/example/quillon/quillon/core/ElementIdsToArrayPinLaw" (some 0) with
  accessFlags := 49
  interfaces := #[]
  cf := some (fileOf pool1 20 #[] #[{ accessFlags := 1, nameIndex := 5, descriptorIndex := 6, attributes := #[] }, { accessFlags := 9, nameIndex := 24, descriptorIndex := 25, attributes := #[] }] 49 2 #[] #[])
  fields := #[]
  methods := #[k1m0, k1m1]
  instanceTypes := #[]
  staticTypes := #[]
  resolved := Array.replicate 31 none
  statics := none }

def pool2 : Array CpInfo := pool [(5, .methodref 6 7), (0, .class_ 8), (0, .nameAndType 9 10), (0, u "java/lang/Object"), (0, u "<init>"), (0, u "()V"), (0, .class_ 12), (0, u "com/example/quillon/quillon/core/ElementIds"), (0, .fieldref 11 14), (0, .nameAndType 15 16), (0, u "ids"), (0, u "[J"), (0, .methodref 11 18), (0, .nameAndType 19 20), (0, u "place"), (0, u "(I)V"), (0, .fieldref 11 22), (0, .nameAndType 23 16), (0, u "key"), (0, .fieldref 11 25), (0, .nameAndType 26 27), (0, u "spareProbes"), (0, u "J"), (3, .long 2048), (9, u "toArray"), (0, u "()[J"), (0, .fieldref 11 44), (0, .nameAndType 45 46), (0, u "slots"), (0, u "[I"), (0, .methodref 11 48), (0, .nameAndType 49 50), (0, u "slotOf"), (0, u "(J)I"), (0, .fieldref 11 52), (0, .nameAndType 53 54), (0, u "size"), (0, u "I"), (3, .methodref 59 60), (0, .class_ 61), (0, .nameAndType 62 63), (0, u "java/util/Arrays"), (0, u "copyOf"), (0, u "([JI)[J"), (0, .methodref 11 65), (0, .nameAndType 66 67), (0, u "hash"), (0, u "(J)J"), (0, .fieldref 11 69), (0, .nameAndType 70 54), (0, u "shift"), (0, .long 4), (1, .long 11400714819323198485), (11, .methodref 59 86), (0, .nameAndType 87 88), (0, u "fill"), (0, u "([II)V"), (0, .methodref 90 91), (0, .class_ 92), (0, .nameAndType 93 94), (0, u "java/lang/Integer"), (0, u "numberOfTrailingZeros"), (0, u "(I)I"), (0, u "EMPTY"), (2, u "INITIAL_SLOTS"), (1, u "MAX_SLOTS"), (0, u "SPREAD"), (0, u "SPARE_PROBES_PER_LOOKUP"), (1, u "KEY_WORDS"), (3, u "indexOf")] 19

def k2c0 : Code := { maxStack := 2, maxLocals := 1, code := prog_8_method_1_code, exceptionTable := #[], attributes := #[] }
def k2m0 : Method := { name := "<init>", desc := "()V", sig := { parameters := [], returnType := none }, accessFlags := 0, code := some k2c0 }
def k2c1 : Code := { maxStack := 4, maxLocals := 4, code := prog_8_method_2_code, exceptionTable := #[], attributes := #[] }
def k2m1 : Method := { name := "indexOf", desc := "(J)I", sig := { parameters := [.long], returnType := some .int }, accessFlags := 0, code := some k2c1 }
def k2c2 : Code := { maxStack := 2, maxLocals := 1, code := prog_8_method_4_code, exceptionTable := #[], attributes := #[] }
def k2m2 : Method := { name := "toArray", desc := "()[J", sig := { parameters := [], returnType := some (.array .long) }, accessFlags := 0, code := some k2c2 }
def k2c3 : Code := { maxStack := 5, maxLocals := 5, code := prog_8_method_5_code, exceptionTable := #[], attributes := #[] }
def k2m3 : Method := { name := "slotOf", desc := "(J)I", sig := { parameters := [.long], returnType := some .int }, accessFlags := 2, code := some k2c3 }
def k2c4 : Code := { maxStack := 8, maxLocals := 6, code := prog_8_method_6_code, exceptionTable := #[], attributes := #[] }
def k2m4 : Method := { name := "hash", desc := "(J)J", sig := { parameters := [.long], returnType := some .long }, accessFlags := 2, code := some k2c4 }
def k2c5 : Code := { maxStack := 4, maxLocals := 3, code := prog_8_method_8_code, exceptionTable := #[], attributes := #[] }
def k2m5 : Method := { name := "place", desc := "(I)V", sig := { parameters := [.int], returnType := none }, accessFlags := 2, code := some k2c5 }
/-- com/example/quillon/quillon/core/ElementIds -/
def k2 : Class := { plain "com/example/quillon/quillon/core/ElementIds" (some 0) with
  accessFlags := 48
  interfaces := #[]
  cf := some (fileOf pool2 11 #[] #[{ accessFlags := 0, nameIndex := 9, descriptorIndex := 10, attributes := #[] }, { accessFlags := 0, nameIndex := 108, descriptorIndex := 50, attributes := #[] }, { accessFlags := 0, nameIndex := 41, descriptorIndex := 42, attributes := #[] }, { accessFlags := 2, nameIndex := 49, descriptorIndex := 50, attributes := #[] }, { accessFlags := 2, nameIndex := 66, descriptorIndex := 67, attributes := #[] }, { accessFlags := 2, nameIndex := 19, descriptorIndex := 20, attributes := #[] }] 48 6 #[] #[{ accessFlags := 26, nameIndex := 95, descriptorIndex := 54, attributes := #[] }, { accessFlags := 26, nameIndex := 98, descriptorIndex := 54, attributes := #[] }, { accessFlags := 26, nameIndex := 100, descriptorIndex := 54, attributes := #[] }, { accessFlags := 24, nameIndex := 101, descriptorIndex := 27, attributes := #[] }, { accessFlags := 26, nameIndex := 102, descriptorIndex := 54, attributes := #[] }, { accessFlags := 26, nameIndex := 104, descriptorIndex := 54, attributes := #[] }, { accessFlags := 2, nameIndex := 15, descriptorIndex := 16, attributes := #[] }, { accessFlags := 2, nameIndex := 53, descriptorIndex := 54, attributes := #[] }, { accessFlags := 2, nameIndex := 45, descriptorIndex := 46, attributes := #[] }, { accessFlags := 2, nameIndex := 70, descriptorIndex := 54, attributes := #[] }, { accessFlags := 2, nameIndex := 23, descriptorIndex := 16, attributes := #[] }, { accessFlags := 2, nameIndex := 26, descriptorIndex := 27, attributes := #[] }])
  fields := #[{ name := "EMPTY", type := .int, accessFlags := 26, slot := 0, constantValue := 0 }, { name := "INITIAL_SLOTS", type := .int, accessFlags := 26, slot := 1, constantValue := 0 }, { name := "MAX_SLOTS", type := .int, accessFlags := 26, slot := 2, constantValue := 0 }, { name := "SPREAD", type := .long, accessFlags := 24, slot := 3, constantValue := 0 }, { name := "SPARE_PROBES_PER_LOOKUP", type := .int, accessFlags := 26, slot := 4, constantValue := 0 }, { name := "KEY_WORDS", type := .int, accessFlags := 26, slot := 5, constantValue := 0 }, { name := "ids", type := (.array .long), accessFlags := 2, slot := 0, constantValue := 0 }, { name := "size", type := .int, accessFlags := 2, slot := 1, constantValue := 0 }, { name := "slots", type := (.array .int), accessFlags := 2, slot := 2, constantValue := 0 }, { name := "shift", type := .int, accessFlags := 2, slot := 3, constantValue := 0 }, { name := "key", type := (.array .long), accessFlags := 2, slot := 4, constantValue := 0 }, { name := "spareProbes", type := .long, accessFlags := 2, slot := 5, constantValue := 0 }]
  methods := #[k2m0, k2m1, k2m2, k2m3, k2m4, k2m5]
  instanceTypes := #[(.array .long), .int, (.array .int), .int, (.array .long), .long]
  staticTypes := #[.int, .int, .int, .long, .int, .int]
  resolved := Array.replicate 128 none
  statics := none }

def pool3 : Array CpInfo := pool [(2, .class_ 4), (1, u "java/lang/Object"), (0, u "<init>"), (0, u "()V"), (7, .class_ 16), (1, u "java/util/Arrays"), (57, .class_ 76), (1, u "java/util/Arrays$NaturalOrder"), (36, .class_ 115), (1, u "java/util/Arrays$LegacyMergeSort"), (1, u "Z"), (32, .methodref 151 152), (0, .class_ 153), (0, .nameAndType 154 155), (0, u "java/lang/System"), (0, u "arraycopy"), (0, u "(Ljava/lang/Object;ILjava/lang/Object;II)V"), (146, u "copyOf"), (1, .methodref 305 306), (0, .class_ 307), (0, .nameAndType 308 309), (0, u "java/lang/Math"), (0, u "min"), (0, u "(II)I"), (65, .class_ 376), (0, u "java/util/Arrays$ArrayList"), (68, u "$assertionsDisabled"), (269, u "MIN_ARRAY_SORT_GRAN"), (0, u "I"), (2, u "INSERTIONSORT_THRESHOLD"), (120, u "fill"), (4, u "([II)V"), (26, u "([JI)[J"), (102, .class_ 976), (0, u "java/util/Arrays$ArrayItr")] 52

def k3m0 : Method := { name := "<init>", desc := "()V", sig := { parameters := [], returnType := none }, accessFlags := 2, code := none }
def k3c1 : Code := { maxStack := 3, maxLocals := 4, code := jdk_65_method_103_code, exceptionTable := #[], attributes := #[] }
def k3m1 : Method := { name := "fill", desc := "([II)V", sig := { parameters := [(.array .int), .int], returnType := none }, accessFlags := 9, code := some k3c1 }
def k3c2 : Code := { maxStack := 6, maxLocals := 3, code := jdk_65_method_124_code, exceptionTable := #[], attributes := #[] }
def k3m2 : Method := { name := "copyOf", desc := "([JI)[J", sig := { parameters := [(.array .long), .int], returnType := some (.array .long) }, accessFlags := 9, code := some k3c2 }
/-- java/util/Arrays -/
def k3 : Class := { plain "java/util/Arrays" (some 0) with
  accessFlags := 49
  interfaces := #[]
  cf := some (fileOf pool3 14 #[.nestMembers #[975, 375, 113, 74]] #[{ accessFlags := 2, nameIndex := 5, descriptorIndex := 6, attributes := #[] }, { accessFlags := 9, nameIndex := 840, descriptorIndex := 845, attributes := #[] }, { accessFlags := 9, nameIndex := 302, descriptorIndex := 872, attributes := #[] }] 49 2 #[] #[{ accessFlags := 26, nameIndex := 715, descriptorIndex := 716, attributes := #[] }, { accessFlags := 26, nameIndex := 719, descriptorIndex := 716, attributes := #[] }, { accessFlags := 4120, nameIndex := 445, descriptorIndex := 117, attributes := #[] }])
  fields := #[{ name := "MIN_ARRAY_SORT_GRAN", type := .int, accessFlags := 26, slot := 0, constantValue := 0 }, { name := "INSERTIONSORT_THRESHOLD", type := .int, accessFlags := 26, slot := 1, constantValue := 0 }, { name := "$assertionsDisabled", type := .boolean, accessFlags := 4120, slot := 2, constantValue := 0 }]
  methods := #[k3m0, k3m1, k3m2]
  instanceTypes := #[]
  staticTypes := #[.int, .int, .boolean]
  resolved := Array.replicate 1029 none
  statics := none }

def pool4 : Array CpInfo := pool [(1, .class_ 2), (0, u "java/io/Serializable"), (0, .class_ 4), (0, u "java/lang/Object")] 2

/-- java/io/Serializable -/
def k4 : Class := { plain "java/io/Serializable" (some 0) with
  accessFlags := 1537
  interfaces := #[]
  cf := some (fileOf pool4 1 #[] #[] 1537 3 #[] #[])
  fields := #[]
  methods := #[]
  instanceTypes := #[]
  staticTypes := #[]
  resolved := Array.replicate 7 none
  statics := none }

def pool5 : Array CpInfo := pool [(2, .class_ 4), (1, u "java/lang/Object"), (0, u "<init>"), (0, u "()V"), (1, .class_ 10), (1, u "java/lang/Number"), (2, .class_ 14), (0, u "java/io/Serializable"), (0, u "serialVersionUID"), (0, u "J")] 20

def k5m0 : Method := { name := "<init>", desc := "()V", sig := { parameters := [], returnType := none }, accessFlags := 1, code := none }
/-- java/lang/Number -/
def k5 : Class := { plain "java/lang/Number" (some 0) with
  accessFlags := 1057
  interfaces := #[4]
  cf := some (fileOf pool5 8 #[] #[{ accessFlags := 1, nameIndex := 5, descriptorIndex := 6, attributes := #[] }] 1057 2 #[13] #[{ accessFlags := 26, nameIndex := 15, descriptorIndex := 16, attributes := #[] }])
  fields := #[{ name := "serialVersionUID", type := .long, accessFlags := 26, slot := 0, constantValue := 0 }]
  methods := #[k5m0]
  instanceTypes := #[]
  staticTypes := #[.long]
  resolved := Array.replicate 37 none
  statics := none }

def pool6 : Array CpInfo := pool [(1, .class_ 2), (0, u "java/lang/Comparable"), (0, .class_ 4), (0, u "java/lang/Object")] 7

/-- java/lang/Comparable -/
def k6 : Class := { plain "java/lang/Comparable" (some 0) with
  accessFlags := 1537
  interfaces := #[]
  cf := some (fileOf pool6 1 #[] #[] 1537 3 #[] #[])
  fields := #[]
  methods := #[]
  instanceTypes := #[]
  staticTypes := #[]
  resolved := Array.replicate 12 none
  statics := none }

def pool7 : Array CpInfo := pool [(1, .class_ 2), (0, u "java/lang/constant/Constable"), (0, .class_ 4), (0, u "java/lang/Object")] 6

/-- java/lang/constant/Constable -/
def k7 : Class := { plain "java/lang/constant/Constable" (some 0) with
  accessFlags := 1537
  interfaces := #[]
  cf := some (fileOf pool7 1 #[] #[] 1537 3 #[] #[])
  fields := #[]
  methods := #[]
  instanceTypes := #[]
  staticTypes := #[]
  resolved := Array.replicate 11 none
  statics := none }

def pool8 : Array CpInfo := pool [(1, .class_ 2), (0, u "java/lang/constant/ConstantDesc"), (0, .class_ 4), (0, u "java/lang/Object")] 32

/-- java/lang/constant/ConstantDesc -/
def k8 : Class := { plain "java/lang/constant/ConstantDesc" (some 0) with
  accessFlags := 1537
  interfaces := #[]
  cf := some (fileOf pool8 1 #[] #[] 1537 3 #[] #[])
  fields := #[]
  methods := #[]
  instanceTypes := #[]
  staticTypes := #[]
  resolved := Array.replicate 37 none
  statics := none }

def pool9 : Array CpInfo := pool [(1, .class_ 2), (0, u "java/lang/Integer"), (16, u "digits"), (0, u "[C"), (33, u "(I)I"), (30, u "DigitOnes"), (0, u "[B"), (2, u "DigitTens"), (99, .class_ 190), (0, u "java/lang/Integer$IntegerCache"), (3, u "I"), (8, .class_ 204), (0, u "java/lang/Number"), (2, u "value"), (56, .integer 65536), (37, u "TYPE"), (0, u "Ljava/lang/Class;"), (0, .class_ 305), (0, u "java/lang/Comparable"), (0, .class_ 307), (0, u "java/lang/constant/Constable"), (0, .class_ 309), (0, u "java/lang/constant/ConstantDesc"), (0, u "MIN_VALUE"), (1, u "MAX_VALUE"), (3, u "SIZE"), (1, u "BYTES"), (1, u "serialVersionUID"), (0, u "J"), (84, u "numberOfTrailingZeros")] 46

def k9c0 : Code := { maxStack := 3, maxLocals := 2, code := jdk_33_method_48_code, exceptionTable := #[], attributes := #[] }
def k9m0 : Method := { name := "numberOfTrailingZeros", desc := "(I)I", sig := { parameters := [.int], returnType := some .int }, accessFlags := 9, code := some k9c0 }
/-- java/lang/Integer -/
def k9 : Class := { plain "java/lang/Integer" (some 5) with
  accessFlags := 49
  interfaces := #[6, 7, 8]
  cf := some (fileOf pool9 1 #[.nestMembers #[189]] #[{ accessFlags := 9, nameIndex := 406, descriptorIndex := 54, attributes := #[] }] 49 203 #[304, 306, 308] #[{ accessFlags := 25, nameIndex := 310, descriptorIndex := 194, attributes := #[] }, { accessFlags := 25, nameIndex := 312, descriptorIndex := 194, attributes := #[] }, { accessFlags := 25, nameIndex := 302, descriptorIndex := 303, attributes := #[] }, { accessFlags := 24, nameIndex := 19, descriptorIndex := 20, attributes := #[] }, { accessFlags := 24, nameIndex := 89, descriptorIndex := 86, attributes := #[] }, { accessFlags := 24, nameIndex := 85, descriptorIndex := 86, attributes := #[] }, { accessFlags := 18, nameIndex := 207, descriptorIndex := 194, attributes := #[] }, { accessFlags := 25, nameIndex := 316, descriptorIndex := 194, attributes := #[] }, { accessFlags := 25, nameIndex := 318, descriptorIndex := 194, attributes := #[] }, { accessFlags := 26, nameIndex := 320, descriptorIndex := 321, attributes := #[] }])
  fields := #[{ name := "MIN_VALUE", type := .int, accessFlags := 25, slot := 0, constantValue := 0 }, { name := "MAX_VALUE", type := .int, accessFlags := 25, slot := 1, constantValue := 0 }, { name := "TYPE", type := (.object "java/lang/Class"), accessFlags := 25, slot := 2, constantValue := 0 }, { name := "digits", type := (.array .char), accessFlags := 24, slot := 3, constantValue := 0 }, { name := "DigitTens", type := (.array .byte), accessFlags := 24, slot := 4, constantValue := 0 }, { name := "DigitOnes", type := (.array .byte), accessFlags := 24, slot := 5, constantValue := 0 }, { name := "value", type := .int, accessFlags := 18, slot := 0, constantValue := 0 }, { name := "SIZE", type := .int, accessFlags := 25, slot := 6, constantValue := 0 }, { name := "BYTES", type := .int, accessFlags := 25, slot := 7, constantValue := 0 }, { name := "serialVersionUID", type := .long, accessFlags := 26, slot := 8, constantValue := 0 }]
  methods := #[k9m0]
  instanceTypes := #[.int]
  staticTypes := #[.int, .int, (.object "java/lang/Class"), (.array .char), (.array .byte), (.array .byte), .int, .int, .long]
  resolved := Array.replicate 453 none
  statics := none }

def pool10 : Array CpInfo := pool [(1, .class_ 2), (0, u "java/lang/Math"), (1, .class_ 6), (1, u "java/lang/Object"), (0, u "<init>"), (0, u "()V"), (89, .class_ 100), (1, u "java/lang/Math$RandomNumberGeneratorHolder"), (71, u "negativeZeroFloatBits"), (0, u "J"), (2, u "negativeZeroDoubleBits"), (24, u "min"), (43, u "$assertionsDisabled"), (0, u "Z"), (88, u "(II)I"), (2, u "twoToTheDoubleScaleDown"), (0, u "D"), (4, u "twoToTheDoubleScaleUp"), (9, u "E"), (3, u "PI"), (2, u "TAU"), (2, u "DEGREES_TO_RADIANS"), (0, u "RADIANS_TO_DEGREES")] 94

def k10m0 : Method := { name := "<init>", desc := "()V", sig := { parameters := [], returnType := none }, accessFlags := 2, code := none }
def k10c1 : Code := { maxStack := 2, maxLocals := 2, code := jdk_29_method_69_code, exceptionTable := #[], attributes := #[] }
def k10m1 : Method := { name := "min", desc := "(II)I", sig := { parameters := [.int, .int], returnType := some .int }, accessFlags := 9, code := some k10c1 }
/-- java/lang/Math -/
def k10 : Class := { plain "java/lang/Math" (some 0) with
  accessFlags := 49
  interfaces := #[]
  cf := some (fileOf pool10 1 #[.nestMembers #[98]] #[{ accessFlags := 2, nameIndex := 7, descriptorIndex := 8, attributes := #[] }, { accessFlags := 9, nameIndex := 201, descriptorIndex := 335, attributes := #[] }] 49 4 #[] #[{ accessFlags := 25, nameIndex := 354, descriptorIndex := 339, attributes := #[] }, { accessFlags := 25, nameIndex := 358, descriptorIndex := 339, attributes := #[] }, { accessFlags := 25, nameIndex := 361, descriptorIndex := 339, attributes := #[] }, { accessFlags := 26, nameIndex := 364, descriptorIndex := 339, attributes := #[] }, { accessFlags := 26, nameIndex := 365, descriptorIndex := 339, attributes := #[] }, { accessFlags := 26, nameIndex := 172, descriptorIndex := 173, attributes := #[] }, { accessFlags := 26, nameIndex := 176, descriptorIndex := 173, attributes := #[] }, { accessFlags := 8, nameIndex := 344, descriptorIndex := 339, attributes := #[] }, { accessFlags := 8, nameIndex := 338, descriptorIndex := 339, attributes := #[] }, { accessFlags := 4120, nameIndex := 245, descriptorIndex := 246, attributes := #[] }])
  fields := #[{ name := "E", type := .double, accessFlags := 25, slot := 0, constantValue := 0 }, { name := "PI", type := .double, accessFlags := 25, slot := 1, constantValue := 0 }, { name := "TAU", type := .double, accessFlags := 25, slot := 2, constantValue := 0 }, { name := "DEGREES_TO_RADIANS", type := .double, accessFlags := 26, slot := 3, constantValue := 0 }, { name := "RADIANS_TO_DEGREES", type := .double, accessFlags := 26, slot := 4, constantValue := 0 }, { name := "negativeZeroFloatBits", type := .long, accessFlags := 26, slot := 5, constantValue := 0 }, { name := "negativeZeroDoubleBits", type := .long, accessFlags := 26, slot := 6, constantValue := 0 }, { name := "twoToTheDoubleScaleUp", type := .double, accessFlags := 8, slot := 7, constantValue := 0 }, { name := "twoToTheDoubleScaleDown", type := .double, accessFlags := 8, slot := 8, constantValue := 0 }, { name := "$assertionsDisabled", type := .boolean, accessFlags := 4120, slot := 9, constantValue := 0 }]
  methods := #[k10m0, k10m1]
  instanceTypes := #[]
  staticTypes := #[.double, .double, .double, .double, .double, .long, .long, .double, .double, .boolean]
  resolved := Array.replicate 460 none
  statics := none }

def pool11 : Array CpInfo := pool [(2, .class_ 4), (1, u "java/lang/Object"), (0, u "<init>"), (0, u "()V"), (1, .class_ 10), (1, u "java/lang/System"), (0, u "allowSecurityManager"), (0, u "I"), (16, u "cons"), (0, u "Ljava/io/Console;"), (77, .class_ 110), (1, u "java/lang/System$CallersHolder"), (43, u "initialErrStream"), (0, u "Ljava/io/PrintStream;"), (19, u "security"), (0, u "Ljava/lang/SecurityManager;"), (31, .class_ 209), (0, u "java/lang/System$1"), (7, u "props"), (0, u "Ljava/util/Properties;"), (2, u "lineSeparator"), (0, u "Ljava/lang/String;"), (96, .class_ 321), (1, u "java/lang/System$LoggerFinder"), (5, .class_ 328), (0, u "java/lang/System$Logger"), (67, u "err"), (2, u "out"), (91, u "notSupportedJnuEncoding"), (15, u "in"), (17, u "initialIn"), (0, u "Ljava/io/InputStream;"), (35, u "bootLayer"), (0, u "Ljava/lang/ModuleLayer;"), (99, .class_ 664), (0, u "java/lang/System$2"), (9, u "NEVER"), (2, u "MAYBE"), (49, u "arraycopy"), (0, u "(Ljava/lang/Object;ILjava/lang/Object;II)V"), (72, .class_ 802), (0, u "java/lang/System$Logger$Level")] 31

def k11m0 : Method := { name := "<init>", desc := "()V", sig := { parameters := [], returnType := none }, accessFlags := 2, code := none }
def k11m1 : Method := { name := "arraycopy", desc := "(Ljava/lang/Object;ILjava/lang/Object;II)V", sig := { parameters := [(.object "java/lang/Object"), .int, (.object "java/lang/Object"), .int, .int], returnType := none }, accessFlags := 265, code := none }
/-- java/lang/System -/
def k11 : Class := { plain "java/lang/System" (some 0) with
  accessFlags := 49
  interfaces := #[]
  cf := some (fileOf pool11 8 #[.nestMembers #[319, 327, 801, 108, 663, 208]] #[{ accessFlags := 2, nameIndex := 5, descriptorIndex := 6, attributes := #[] }, { accessFlags := 265, nameIndex := 727, descriptorIndex := 728, attributes := #[] }] 49 2 #[] #[{ accessFlags := 25, nameIndex := 507, descriptorIndex := 526, attributes := #[] }, { accessFlags := 25, nameIndex := 399, descriptorIndex := 155, attributes := #[] }, { accessFlags := 25, nameIndex := 396, descriptorIndex := 155, attributes := #[] }, { accessFlags := 10, nameIndex := 525, descriptorIndex := 526, attributes := #[] }, { accessFlags := 26, nameIndex := 674, descriptorIndex := 12, attributes := #[] }, { accessFlags := 26, nameIndex := 677, descriptorIndex := 12, attributes := #[] }, { accessFlags := 10, nameIndex := 11, descriptorIndex := 12, attributes := #[] }, { accessFlags := 74, nameIndex := 175, descriptorIndex := 176, attributes := #[] }, { accessFlags := 10, nameIndex := 491, descriptorIndex := 222, attributes := #[] }, { accessFlags := 74, nameIndex := 29, descriptorIndex := 30, attributes := #[] }, { accessFlags := 74, nameIndex := 154, descriptorIndex := 155, attributes := #[] }, { accessFlags := 10, nameIndex := 217, descriptorIndex := 218, attributes := #[] }, { accessFlags := 10, nameIndex := 221, descriptorIndex := 222, attributes := #[] }, { accessFlags := 8, nameIndex := 562, descriptorIndex := 563, attributes := #[] }])
  fields := #[{ name := "in", type := (.object "java/io/InputStream"), accessFlags := 25, slot := 0, constantValue := 0 }, { name := "out", type := (.object "java/io/PrintStream"), accessFlags := 25, slot := 1, constantValue := 0 }, { name := "err", type := (.object "java/io/PrintStream"), accessFlags := 25, slot := 2, constantValue := 0 }, { name := "initialIn", type := (.object "java/io/InputStream"), accessFlags := 10, slot := 3, constantValue := 0 }, { name := "NEVER", type := .int, accessFlags := 26, slot := 4, constantValue := 0 }, { name := "MAYBE", type := .int, accessFlags := 26, slot := 5, constantValue := 0 }, { name := "allowSecurityManager", type := .int, accessFlags := 10, slot := 6, constantValue := 0 }, { name := "security", type := (.object "java/lang/SecurityManager"), accessFlags := 74, slot := 7, constantValue := 0 }, { name := "notSupportedJnuEncoding", type := (.object "java/lang/String"), accessFlags := 10, slot := 8, constantValue := 0 }, { name := "cons", type := (.object "java/io/Console"), accessFlags := 74, slot := 9, constantValue := 0 }, { name := "initialErrStream", type := (.object "java/io/PrintStream"), accessFlags := 74, slot := 10, constantValue := 0 }, { name := "props", type := (.object "java/util/Properties"), accessFlags := 10, slot := 11, constantValue := 0 }, { name := "lineSeparator", type := (.object "java/lang/String"), accessFlags := 10, slot := 12, constantValue := 0 }, { name := "bootLayer", type := (.object "java/lang/ModuleLayer"), accessFlags := 8, slot := 13, constantValue := 0 }]
  methods := #[k11m0, k11m1]
  instanceTypes := #[]
  staticTypes := #[(.object "java/io/InputStream"), (.object "java/io/PrintStream"), (.object "java/io/PrintStream"), (.object "java/io/InputStream"), .int, .int, .int, (.object "java/lang/SecurityManager"), (.object "java/lang/String"), (.object "java/io/Console"), (.object "java/io/PrintStream"), (.object "java/util/Properties"), (.object "java/lang/String"), (.object "java/lang/ModuleLayer")]
  resolved := Array.replicate 834 none
  statics := none }

def pool12 : Array CpInfo := pool [(1, u "java/lang/Cloneable"), (0, .class_ 1), (0, u "java/lang/Object"), (0, .class_ 3)] 3

/-- java/lang/Cloneable -/
def k12 : Class := { plain "java/lang/Cloneable" (some 0) with
  accessFlags := 1537
  interfaces := #[]
  cf := some (fileOf pool12 2 #[] #[] 1537 4 #[] #[])
  fields := #[]
  methods := #[]
  instanceTypes := #[]
  staticTypes := #[]
  resolved := Array.replicate 8 none
  statics := none }

/-- the primitive byte -/
def k13 : Class := { plain "byte" none with kind := .primitive 'B', accessFlags := 0x411 }
/-- [B -/
def k14 : Class := { plain "[B" (some 0) with kind := .array 13 .byte, interfaces := #[12, 4], accessFlags := 1041 }

/-- the primitive int -/
def k15 : Class := { plain "int" none with kind := .primitive 'I', accessFlags := 0x411 }
/-- [I -/
def k16 : Class := { plain "[I" (some 0) with kind := .array 15 .int, interfaces := #[12, 4], accessFlags := 1041 }

/-- the primitive long -/
def k17 : Class := { plain "long" none with kind := .primitive 'J', accessFlags := 0x411 }
/-- [J -/
def k18 : Class := { plain "[J" (some 0) with kind := .array 17 .long, interfaces := #[12, 4], accessFlags := 1041 }

def heap : Heap := #[]
def classes : Array Class := #[k0, k1, k2, k3, k4, k5, k6, k7, k8, k9, k10, k11, k12, k13, k14, k15, k16, k17, k18]
def interned : List (Array UInt16 × Addr) := []
def slotsUsed : Nat := 0
def theMethod : MethodId := ⟨1, 1⟩
def args0 : Array Value := #[.long 700, .long 8, .long 9, .int 10]
def aboutOver (below : List Frame) : State where
  vm := { classes := classes, interned := interned.toArray }
  heap := heap
  slotsUsed := slotsUsed
  threads := #[{ frames := .invoking theMethod args0 :: below }]
def below0 : List Frame := [.native { method := ⟨0, 0⟩, args := #[] }]
def about1 : State := aboutOver below0
def p0 : Program := .bare "" "" ""
def e0 : Env := launch0.env 0 0 0
theorem w_frames : about1.frames = Frame.invoking theMethod args0 :: below0 := rfl
set_option maxRecDepth 65536 in
theorem w_args : argsFit about1.vm theMethod args0 = true := by decide +kernel
set_option maxRecDepth 65536 in
theorem w_heap : heapFits about1 = true := by decide +kernel
set_option maxRecDepth 65536 in
theorem w_runnable : about1.curStatus? = some .runnable := by decide +kernel
set_option maxRecDepth 65536 in
theorem w_alone : about1.alone = true := by decide +kernel
set_option maxRecDepth 65536 in
theorem w_named : about1.methodNamed? x = some theMethod := by decide +kernel
set_option maxRecDepth 65536 in
theorem w_hears : about1.hears theMethod below0 = true := by decide +kernel
set_option maxRecDepth 65536 in
theorem w_ripe : about1.ripe theMethod args0 below0 = true := by decide +kernel
theorem w_running : about1.status = .running := rfl
set_option maxRecDepth 65536 in
theorem w_room : about1.hasRoom e0.platform room_1 = true :=
  launch0.hasRoom_least _ room_1 (by decide +kernel) (by decide +kernel) (by decide +kernel) (by decide +kernel) (by decide +kernel) (by decide +kernel)
theorem allAtoms_all (ts : List Jvm.Cond) (a : Array Jvm.Value) (st : Jvm.State) : (allAtoms ts).before a st = ts.all (fun c => c.before a st) := by
  induction ts with
  | nil => rfl
  | cons c t ih =>
    show (Jvm.Cond.and c (allAtoms t)).before a st = _
    rw [Jvm.Cond.before_and, ih, List.all_cons]
def words1 : List Jvm.Cond := Jvm.Cond.code x code maxLocals ret :: tables_1
/-- a 'code' word, met by the world's own term for the bytes: nothing is compared byte by byte -/
theorem code_word {y : MethodName} {bytes : ByteArray} {mx : Nat} {rt : Option FieldType} {a : Array Value} {s : State} {m : MethodId} {meth : Method} {c : Code} (h1 : s.methodNamed? y = some m) (h2 : s.vm.method? m = some meth) (h3 : meth.code = some c) (h4 : c.code = bytes)
    (h5 : (c.maxLocals == mx && c.exceptionTable.isEmpty && decide (c.maxStack ≤ mostOperands) && decide (meth.sig.returnType = rt) && !meth.locks && decide (parseMethodDescriptor y.desc = some meth.sig)) = true) : (Jvm.Cond.code y bytes mx rt).before a s = true := by
  simp only [Bool.and_eq_true, beq_iff_eq, Bool.not_eq_true', decide_eq_true_eq] at h5
  obtain ⟨⟨⟨⟨⟨g1, g2⟩, g3⟩, g4⟩, g5⟩, g6⟩ := h5
  simp [Cond.before, Cond.holds, Cond.value, h1, h2, h3, h4, g1, g2, g3, g4, g5, g6]
def isCode : Jvm.Cond → Bool
  | .code _ _ _ _ => true
  | _ => false
theorem all_split {L : List Jvm.Cond} {P : Jvm.Cond → Bool} (h1 : L.all (fun c => isCode c || P c) = true) (h2 : ∀ c ∈ L.filter isCode, P c = true) : L.all P = true := by
  refine List.all_eq_true.mpr fun c hc => ?_
  have h := List.all_eq_true.mp h1 c hc
  rcases Bool.eq_false_or_eq_true (isCode c) with hi | hi
  · exact h2 c (List.mem_filter.mpr ⟨hc, hi⟩)
  · simpa [hi] using h
set_option maxRecDepth 65536 in
theorem w_c0 : (Jvm.Cond.code x code maxLocals ret).before args0 about1 = true := code_word (m := ⟨1, 1⟩) (meth := k1m1) (c := k1c1) (by decide +kernel) rfl rfl rfl (by decide +kernel)
set_option maxRecDepth 65536 in
theorem w_c1 : (Jvm.Cond.code ({ cls := "com/example/quillon/quillon/core/ElementIds", name := "<init>", desc := "()V" } : Jvm.MethodName) prog_8_method_1_code (1 : Nat) (Option.none : Option Jvm.ClassFile.FieldType)).before args0 about1 = true := code_word (m := ⟨2, 0⟩) (meth := k2m0) (c := k2c0) (by decide +kernel) rfl rfl rfl (by decide +kernel)
set_option maxRecDepth 65536 in
theorem w_c2 : (Jvm.Cond.code ({ cls := "java/lang/Object", name := "<init>", desc := "()V" } : Jvm.MethodName) object_method_1_code (1 : Nat) (Option.none : Option Jvm.ClassFile.FieldType)).before args0 about1 = true := code_word (m := ⟨0, 0⟩) (meth := k0m0) (c := k0c0) (by decide +kernel) rfl rfl rfl (by decide +kernel)
set_option maxRecDepth 65536 in
theorem w_c3 : (Jvm.Cond.code ({ cls := "com/example/quillon/quillon/core/ElementIds", name := "place", desc := "(I)V" } : Jvm.MethodName) prog_8_method_8_code (3 : Nat) (Option.none : Option Jvm.ClassFile.FieldType)).before args0 about1 = true := code_word (m := ⟨2, 5⟩) (meth := k2m5) (c := k2c5) (by decide +kernel) rfl rfl rfl (by decide +kernel)
set_option maxRecDepth 65536 in
theorem w_c4 : (Jvm.Cond.code ({ cls := "java/util/Arrays", name := "fill", desc := "([II)V" } : Jvm.MethodName) jdk_65_method_103_code (4 : Nat) (Option.none : Option Jvm.ClassFile.FieldType)).before args0 about1 = true := code_word (m := ⟨3, 1⟩) (meth := k3m1) (c := k3c1) (by decide +kernel) rfl rfl rfl (by decide +kernel)
set_option maxRecDepth 65536 in
theorem w_c5 : (Jvm.Cond.code ({ cls := "java/lang/Integer", name := "numberOfTrailingZeros", desc := "(I)I" } : Jvm.MethodName) jdk_33_method_48_code (2 : Nat) (Option.some Jvm.ClassFile.FieldType.int)).before args0 about1 = true := code_word (m := ⟨9, 0⟩) (meth := k9m0) (c := k9c0) (by decide +kernel) rfl rfl rfl (by decide +kernel)
set_option maxRecDepth 65536 in
theorem w_c6 : (Jvm.Cond.code ({ cls := "com/example/quillon/quillon/core/ElementIds", name := "toArray", desc := "()[J" } : Jvm.MethodName) prog_8_method_4_code (1 : Nat) (Option.some (Jvm.ClassFile.FieldType.array Jvm.ClassFile.FieldType.long))).before args0 about1 = true := code_word (m := ⟨2, 2⟩) (meth := k2m2) (c := k2c2) (by decide +kernel) rfl rfl rfl (by decide +kernel)
set_option maxRecDepth 65536 in
theorem w_c7 : (Jvm.Cond.code ({ cls := "java/util/Arrays", name := "copyOf", desc := "([JI)[J" } : Jvm.MethodName) jdk_65_method_124_code (3 : Nat) (Option.some (Jvm.ClassFile.FieldType.array Jvm.ClassFile.FieldType.long))).before args0 about1 = true := code_word (m := ⟨3, 2⟩) (meth := k3m2) (c := k3c2) (by decide +kernel) rfl rfl rfl (by decide +kernel)
set_option maxRecDepth 65536 in
theorem w_c8 : (Jvm.Cond.code ({ cls := "java/lang/Math", name := "min", desc := "(II)I" } : Jvm.MethodName) jdk_29_method_69_code (2 : Nat) (Option.some Jvm.ClassFile.FieldType.int)).before args0 about1 = true := code_word (m := ⟨10, 1⟩) (meth := k10m1) (c := k10c1) (by decide +kernel) rfl rfl rfl (by decide +kernel)
set_option maxRecDepth 65536 in
theorem w_c9 : (Jvm.Cond.code ({ cls := "com/example/quillon/quillon/core/ElementIds", name := "indexOf", desc := "(J)I" } : Jvm.MethodName) prog_8_method_2_code (4 : Nat) (Option.some Jvm.ClassFile.FieldType.int)).before args0 about1 = true := code_word (m := ⟨2, 1⟩) (meth := k2m1) (c := k2c1) (by decide +kernel) rfl rfl rfl (by decide +kernel)
set_option maxRecDepth 65536 in
theorem w_c10 : (Jvm.Cond.code ({ cls := "com/example/quillon/quillon/core/ElementIds", name := "slotOf", desc := "(J)I" } : Jvm.MethodName) prog_8_method_5_code (5 : Nat) (Option.some Jvm.ClassFile.FieldType.int)).before args0 about1 = true := code_word (m := ⟨2, 3⟩) (meth := k2m3) (c := k2c3) (by decide +kernel) rfl rfl rfl (by decide +kernel)
set_option maxRecDepth 65536 in
theorem w_c11 : (Jvm.Cond.code ({ cls := "com/example/quillon/quillon/core/ElementIds", name := "hash", desc := "(J)J" } : Jvm.MethodName) prog_8_method_6_code (6 : Nat) (Option.some Jvm.ClassFile.FieldType.long)).before args0 about1 = true := code_word (m := ⟨2, 4⟩) (meth := k2m4) (c := k2c4) (by decide +kernel) rfl rfl rfl (by decide +kernel)
def codes1 : List Jvm.Cond := [Jvm.Cond.code x code maxLocals ret, Jvm.Cond.code ({ cls := "com/example/quillon/quillon/core/ElementIds", name := "<init>", desc := "()V" } : Jvm.MethodName) prog_8_method_1_code (1 : Nat) (Option.none : Option Jvm.ClassFile.FieldType), Jvm.Cond.code ({ cls := "java/lang/Object", name := "<init>", desc := "()V" } : Jvm.MethodName) object_method_1_code (1 : Nat) (Option.none : Option Jvm.ClassFile.FieldType), Jvm.Cond.code ({ cls := "com/example/quillon/quillon/core/ElementIds", name := "place", desc := "(I)V" } : Jvm.MethodName) prog_8_method_8_code (3 : Nat) (Option.none : Option Jvm.ClassFile.FieldType), Jvm.Cond.code ({ cls := "java/util/Arrays", name := "fill", desc := "([II)V" } : Jvm.MethodName) jdk_65_method_103_code (4 : Nat) (Option.none : Option Jvm.ClassFile.FieldType), Jvm.Cond.code ({ cls := "java/lang/Integer", name := "numberOfTrailingZeros", desc := "(I)I" } : Jvm.MethodName) jdk_33_method_48_code (2 : Nat) (Option.some Jvm.ClassFile.FieldType.int), Jvm.Cond.code ({ cls := "com/example/quillon/quillon/core/ElementIds", name := "toArray", desc := "()[J" } : Jvm.MethodName) prog_8_method_4_code (1 : Nat) (Option.some (Jvm.ClassFile.FieldType.array Jvm.ClassFile.FieldType.long)), Jvm.Cond.code ({ cls := "java/util/Arrays", name := "copyOf", desc := "([JI)[J" } : Jvm.MethodName) jdk_65_method_124_code (3 : Nat) (Option.some (Jvm.ClassFile.FieldType.array Jvm.ClassFile.FieldType.long)), Jvm.Cond.code ({ cls := "java/lang/Math", name := "min", desc := "(II)I" } : Jvm.MethodName) jdk_29_method_69_code (2 : Nat) (Option.some Jvm.ClassFile.FieldType.int), Jvm.Cond.code ({ cls := "com/example/quillon/quillon/core/ElementIds", name := "indexOf", desc := "(J)I" } : Jvm.MethodName) prog_8_method_2_code (4 : Nat) (Option.some Jvm.ClassFile.FieldType.int), Jvm.Cond.code ({ cls := "com/example/quillon/quillon/core/ElementIds", name := "slotOf", desc := "(J)I" } : Jvm.MethodName) prog_8_method_5_code (5 : Nat) (Option.some Jvm.ClassFile.FieldType.int), Jvm.Cond.code ({ cls := "com/example/quillon/quillon/core/ElementIds", name := "hash", desc := "(J)J" } : Jvm.MethodName) prog_8_method_6_code (6 : Nat) (Option.some Jvm.ClassFile.FieldType.long)]
set_option maxRecDepth 65536 in
theorem codes_eq : words1.filter isCode = codes1 := rfl
theorem w_codes : ∀ c ∈ words1.filter isCode, c.before args0 about1 = true := by
  rw [codes_eq]
  intro c hc
  simp only [codes1, List.mem_cons, List.not_mem_nil, or_false] at hc
  rcases hc with rfl | rfl | rfl | rfl | rfl | rfl | rfl | rfl | rfl | rfl | rfl | rfl
  · exact w_c0
  · exact w_c1
  · exact w_c2
  · exact w_c3
  · exact w_c4
  · exact w_c5
  · exact w_c6
  · exact w_c7
  · exact w_c8
  · exact w_c9
  · exact w_c10
  · exact w_c11
set_option maxRecDepth 65536 in
theorem w_t1 : (words1.take 24).all (fun c => isCode c || c.before args0 about1) = true := by decide +kernel
set_option maxRecDepth 65536 in
theorem w_t2 : ((words1.drop 24).take 24).all (fun c => isCode c || c.before args0 about1) = true := by decide +kernel
set_option maxRecDepth 65536 in
theorem w_t3 : ((words1.drop 24).drop 24).all (fun c => isCode c || c.before args0 about1) = true := by decide +kernel
theorem w_tables : (allAtoms (Jvm.Cond.code x code maxLocals ret :: tables_1)).before args0 about1 = true := by
  rw [allAtoms_all]
  show words1.all (fun c => c.before args0 about1) = true
  refine all_split ?_ w_codes
  rw [← List.take_append_drop 24 words1, List.all_append, w_t1, ← List.take_append_drop 24 (words1.drop 24), List.all_append, w_t2, w_t3]
  rfl
set_option maxRecDepth 65536 in
theorem w_case : (Jvm.Cond.and given_1 narrow_1).before args0 about1 = true := by decide +kernel
theorem w_applies : (headSpec (Jvm.Cond.code x code maxLocals ret :: tables_1) room_1).applies x e0.platform about1 = true :=
  (Spec.applies_iff w_frames).mpr ⟨w_running, w_runnable, w_alone, w_named, w_hears, w_ripe, w_room, w_tables⟩
theorem atStart : AtStart classFile x code maxLocals ret World_1 tables_1 room_1 Calls_1 rest_1 Pre_1 launch0 p0 e0 about1 theMethod args0 below0 :=
  ⟨lists_1, trivial, launch0.admits_env _ _ _, launch0.least_env, fairChoices_fair.cas, fairChoices_fair.clock, w_frames, w_args, w_heap, w_applies, trivial, trivial, w_case⟩
end start1
theorem witness_1 : WitnessClaimed_1 := ⟨start1.p0, start1.e0, start1.about1, start1.theMethod, start1.args0, start1.below0, start1.atStart⟩
end Jvm.Pilot.@@N@@
