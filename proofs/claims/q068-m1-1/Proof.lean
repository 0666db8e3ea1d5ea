import JvmDerived
import JvmDerived.Pilot.@@N@@Statement
import JvmDerived.Pilot.@@N@@Code
set_option linter.unusedVariables false
set_option linter.unusedSimpArgs false

namespace Jvm.Pilot.@@N@@
open Jvm Jvm.ClassFile Sem Op Lib Jvm.Free Jvm.Stand Jvm.LawKit Jvm.RoadKit Bundle Jvm.Pilot.@@N@@.Jvm.D
def QH (w : Value) (n0 : Nat) (v : Option Value) (h : Heap) (L : List Loc) : Prop := v = some w ∧ Fr n0 L
def own_at (l : List Int32) (j : Int32) : Int32 := l.getD j.toNatClampNeg 0
theorem own_getD (l : List Int32) (j : Int32) : (List.map Value.int l).getD j.toNatClampNeg (.int (0 : Int32)) = .int (own_at l j) := by
  simp only [own_at, List.getD_eq_getElem?_getD, List.getElem?_map]
  cases l[j.toNatClampNeg]? <;> rfl
def own_atJ (l : List Int64) (j : Int32) : Int64 := l.getD j.toNatClampNeg 0
theorem own_getDJ (l : List Int64) (j : Int32) : (List.map Value.long l).getD j.toNatClampNeg (.long (0 : Int64)) = .long (own_atJ l j) := by
  simp only [own_atJ, List.getD_eq_getElem?_getD, List.getElem?_map]
  cases l[j.toNatClampNeg]? <;> rfl
def QP (w : Value) (h0 : Heap) (v : Option Value) (h : Heap) (L : List Loc) : Prop := v = some w ∧ L = [] ∧ h = h0
def Runs (p : Program) (e : Env) (below : List Frame) (s : State) (Q : Option Value → Heap → List Loc → Prop) (k n : Nat) (A : State) : Prop :=
  ∃ s₂ o, Steps p.tables e below A s₂ ∧ s₂.status = .running ∧ Ended s₂ below o ∧ ∃ v L, o = .returned v ∧ Q v s₂.heap L ∧ FrameEnd s o s₂ L k n
section Ends
variable {p : Program} {l : Launch} {e : Env} {R : Room} {s : State} {m : MethodId} {args : Array Value} {below : List Frame} {meth : Method} {c : Code} {T A B : State} {locs : List Loc} {cells slots : Nat} {Q : Option Value → Heap → List Loc → Prop} {k n pc : Nat} {Ls : Array Slot} {rest : List Value}
theorem Runs.go (h : ∀ t, Steps p.tables e below B t → Steps p.tables e below A t) (q : Runs p e below s Q k n B) : Runs p e below s Q k n A := by
  obtain ⟨s₂, o, h1, h2⟩ := q; exact ⟨s₂, o, h _ h1, h2⟩
theorem Runs.endI (X : Stand p l e R s m args below meth c T locs cells slots) (hx : p.tables.exec = Jvm.exec) {z : Int32} (hret : meth.sig.returnType = some .int) (hl : meth.locks = false) (hd : decode c.code pc = .ok (.ireturn, 1)) (hQ : Q (some (.int z)) T.heap locs) (hk : cells ≤ k) (hn : slots ≤ n) : Runs p e below s Q k n (T.setTop (mkF m pc Ls (.int z :: rest))) := by
  obtain ⟨fs, hr, hrun, hended, hW, hsame⟩ := X.leave (v := some (.int z)) (fun h => by rw [hret] at h; cases h) hl
  exact ⟨_, _, retOut X hx hret rfl (Or.inl ⟨rfl, Or.inl rfl, _, rfl⟩) hd hr, hrun, hended, _, _, rfl, hQ, ⟨_, rfl⟩, hW, hsame.mono hk hn⟩
theorem Runs.endJ (X : Stand p l e R s m args below meth c T locs cells slots) (hx : p.tables.exec = Jvm.exec) {z : Int64} (hret : meth.sig.returnType = some .long) (hl : meth.locks = false) (hd : decode c.code pc = .ok (.lreturn, 1)) (hQ : Q (some (.long z)) T.heap locs) (hk : cells ≤ k) (hn : slots ≤ n) : Runs p e below s Q k n (T.setTop (mkF m pc Ls (.long z :: rest))) := by
  obtain ⟨fs, hr, hrun, hended, hW, hsame⟩ := X.leave (v := some (.long z)) (fun h => by rw [hret] at h; cases h) hl
  exact ⟨_, _, retOut X hx hret rfl (Or.inr (Or.inl ⟨rfl, rfl, _, rfl⟩)) hd hr, hrun, hended, _, _, rfl, hQ, ⟨_, rfl⟩, hW, hsame.mono hk hn⟩
theorem Runs.endN (X : Stand p l e R s m args below meth c T locs cells slots) (hx : p.tables.exec = Jvm.exec) {z : Int32} {t : FieldType} (hret : meth.sig.returnType = some t) (ht : t = .boolean ∨ t = .byte ∨ t = .char ∨ t = .short) (hl : meth.locks = false) (hd : decode c.code pc = .ok (.ireturn, 1)) (hQ : Q (some (.int (nar t z))) T.heap locs) (hk : cells ≤ k) (hn : slots ≤ n) : Runs p e below s Q k n (T.setTop (mkF m pc Ls (.int z :: rest))) := by
  obtain ⟨fs, hr, hrun, hended, hW, hsame⟩ := X.leave (v := some (.int (nar t z))) (fun h => by rw [hret] at h; cases h) hl
  exact ⟨_, _, retN X hx hret ht hd hr, hrun, hended, _, _, rfl, hQ, ⟨_, rfl⟩, hW, hsame.mono hk hn⟩
theorem Runs.endV (X : Stand p l e R s m args below meth c T locs cells slots) (hx : p.tables.exec = Jvm.exec) (hret : meth.sig.returnType = none) (hl : meth.locks = false) (hd : decode c.code pc = .ok (.return_, 1)) (hQ : Q none T.heap locs) (hk : cells ≤ k) (hn : slots ≤ n) : Runs p e below s Q k n (T.setTop (mkF m pc Ls [])) := by
  obtain ⟨fs, hr, hrun, hended, hW, hsame⟩ := X.leave (v := none) (fun _ => rfl) hl
  exact ⟨_, _, X.returnOut hx hret hd hr, hrun, hended, _, _, rfl, hQ, ⟨_, rfl⟩, hW, hsame.mono hk hn⟩
theorem Runs.endR (X : Stand p l e R s m args below meth c T locs cells slots) (hx : p.tables.exec = Jvm.exec) {z : Addr} {t : FieldType} (hret : meth.sig.returnType = some t) (ht : t.isReference = true) (hl : meth.locks = false) (hd : decode c.code pc = .ok (.areturn, 1)) (hQ : Q (some (.ref z)) T.heap locs) (hk : cells ≤ k) (hn : slots ≤ n) : Runs p e below s Q k n (T.setTop (mkF m pc Ls (.ref z :: rest))) := by
  obtain ⟨fs, hr, hrun, hended, hW, hsame⟩ := X.leave (v := some (.ref z)) (fun h => by rw [hret] at h; cases h) hl
  exact ⟨_, _, retOut X hx hret (by cases t <;> first | rfl | cases ht) (Or.inr (Or.inr (Or.inr (Or.inr ⟨rfl, ht, rfl⟩)))) hd hr, hrun, hended, _, _, rfl, hQ, ⟨_, rfl⟩, hW, hsame.mono hk hn⟩
end Ends
open Jvm.Lib.Cold (StaticIs)
open Jvm.Lib.StringLatin1.equals (intAt intAt_spec)
abbrev STR : String := "java/lang/String"
def own_act : List Int32 := [97, 99, 116, 105, 118, 105, 116, 121]
def own_evt : List Int32 := [101, 118, 101, 110, 116]
def own_stp : List Int32 := [115, 116, 101, 112]
/-! the heap: what stood at the start stands -/
theorem own_extr (h : Heap) : Ext h h := ⟨Nat.le_refl _, fun _ _ q => q⟩
theorem own_extt {h0 h h' : Heap} (E : Ext h0 h) (E' : Ext h h') : Ext h0 h' := ⟨Nat.le_trans E.1 E'.1, fun a c q => E'.2 a c (E.2 a c q)⟩
theorem own_extw {h0 h h' : Heap} {b : Addr} {sl : Nat} {v : Value} (E : Ext h0 h) (W : Wr h h' b sl v) (q : h0.size ≤ b) : Ext h0 h' :=
  have K := Keep.of_wr W
  ⟨Nat.le_trans E.1 K.1, fun a c r => K.2.1 a c (E.2 a c r) fun z => by
    have e := List.mem_singleton.mp z
    have lt := (Array.getElem?_eq_some_iff.mp r).1
    exact absurd (e ▸ lt) (Nat.not_lt.mpr q)⟩
theorem own_since (s : State) : s.Since s.vm s.heap.size := ⟨State.Warmed39.refl s, fun j p hj hp => absurd (Array.getElem?_eq_some_iff.mp hp).1 (Nat.not_lt.mpr hj)⟩
/-! the ends of a walk that may have interned -/
def RunsW (p : Program) (e : Env) (below : List Frame) (s : State) (Q : Option Value → Heap → List Loc → Prop) (k n : Nat) (A : State) : Prop :=
  ∃ s₂ o, Steps p.tables e below A s₂ ∧ s₂.status = .running ∧ Ended s₂ below o ∧ ∃ v L, o = .returned v ∧ Q v s₂.heap L ∧ ReturnedEndW s o s₂ L k n
section EndsW
variable {p : Program} {l : Launch} {e : Env} {R : Room} {s : State} {m : MethodId} {args : Array Value} {below : List Frame} {meth : Method} {c : Code} {T A B : State} {locs : List Loc} {cells slots : Nat} {Q : Option Value → Heap → List Loc → Prop} {k n pc : Nat} {Ls : Array Slot} {rest : List Value}
theorem RunsW.go (h : ∀ t, Steps p.tables e below B t → Steps p.tables e below A t) (q : RunsW p e below s Q k n B) : RunsW p e below s Q k n A := by
  obtain ⟨s₂, o, h1, h2⟩ := q; exact ⟨s₂, o, h _ h1, h2⟩
theorem RunsW.endN {vm₁ : Vm} {k0 : Nat} (X : Stand p l e R (s.setVm vm₁) m args below meth c T locs cells slots) (hS : s.Since vm₁ k0) (hk0 : k0 ≤ T.heap.size) (hx : p.tables.exec = Jvm.exec) {z : Int32} {t : FieldType} (hret : meth.sig.returnType = some t) (ht : t = .boolean ∨ t = .byte ∨ t = .char ∨ t = .short) (hl : meth.locks = false) (hd : decode c.code pc = .ok (.ireturn, 1)) (hQ : Q (some (.int (nar t z))) T.heap locs) (hk : cells ≤ k) (hn : slots ≤ n) : RunsW p e below s Q k n (T.setTop (mkF m pc Ls (.int z :: rest))) := by
  obtain ⟨fs, hr, hrun, hended, e1, e2, e3, e4⟩ := X.leaveW hS hk0 (v := some (.int (nar t z))) (fun h => by rw [hret] at h; cases h) hl
  exact ⟨_, _, retN X hx hret ht hd hr, hrun, hended, _, _, rfl, hQ, e1, e2, e3, e4.mono hk hn⟩
theorem RunsW.endN0 (X : Stand p l e R s m args below meth c T locs cells slots) (hx : p.tables.exec = Jvm.exec) {z : Int32} {t : FieldType} (hret : meth.sig.returnType = some t) (ht : t = .boolean ∨ t = .byte ∨ t = .char ∨ t = .short) (hl : meth.locks = false) (hd : decode c.code pc = .ok (.ireturn, 1)) (hQ : Q (some (.int (nar t z))) T.heap locs) (hk : cells ≤ k) (hn : slots ≤ n) : RunsW p e below s Q k n (T.setTop (mkF m pc Ls (.int z :: rest))) := by
  obtain ⟨fs, hr, hrun, hended, hW, hsame⟩ := X.leave (v := some (.int (nar t z))) (fun h => by rw [hret] at h; cases h) hl
  exact ⟨_, _, retN X hx hret ht hd hr, hrun, hended, _, _, rfl, hQ, ReturnedEndW.of_narrow ⟨_, rfl⟩ hW (hsame.mono hk hn)⟩
theorem Runs.endW (X : Stand p l e R s m args below meth c T locs cells slots) (hx : p.tables.exec = Jvm.exec) {w : Value} {t : FieldType} (hret : meth.sig.returnType = some t) (ht : t.isReference = true) (hw : w.isRef = true) (hl : meth.locks = false) (hd : decode c.code pc = .ok (.areturn, 1)) (hQ : Q (some w) T.heap locs) (hk : cells ≤ k) (hn : slots ≤ n) : Runs p e below s Q k n (T.setTop (mkF m pc Ls (w :: rest))) := by
  obtain ⟨fs, hr, hrun, hended, hW, hsame⟩ := X.leave (v := some w) (fun h => by rw [hret] at h; cases h) hl
  exact ⟨_, _, retOut X hx hret (by cases t <;> first | rfl | cases ht) (Or.inr (Or.inr (Or.inr (Or.inr ⟨rfl, ht, hw⟩)))) hd hr, hrun, hended, _, _, rfl, hQ, ⟨_, rfl⟩, hW, hsame.mono hk hn⟩
end EndsW
/-! numbers -/
theorem e13 : (13 : Int32).toInt = 13 := by decide
theorem own_mod (x0 : Int32) : (x0 &&& (2147483647 : Int32)) - (x0 &&& (2147483647 : Int32)) / (13 : Int32) * (13 : Int32) = (0 : Int32) ∨ (x0 &&& (2147483647 : Int32)) - (x0 &&& (2147483647 : Int32)) / (13 : Int32) * (13 : Int32) = (1 : Int32) ∨ (x0 &&& (2147483647 : Int32)) - (x0 &&& (2147483647 : Int32)) / (13 : Int32) * (13 : Int32) = (2 : Int32) ∨ (x0 &&& (2147483647 : Int32)) - (x0 &&& (2147483647 : Int32)) / (13 : Int32) * (13 : Int32) = (3 : Int32) ∨ (x0 &&& (2147483647 : Int32)) - (x0 &&& (2147483647 : Int32)) / (13 : Int32) * (13 : Int32) = (4 : Int32) ∨ (x0 &&& (2147483647 : Int32)) - (x0 &&& (2147483647 : Int32)) / (13 : Int32) * (13 : Int32) = (5 : Int32) ∨ (x0 &&& (2147483647 : Int32)) - (x0 &&& (2147483647 : Int32)) / (13 : Int32) * (13 : Int32) = (6 : Int32) ∨ (x0 &&& (2147483647 : Int32)) - (x0 &&& (2147483647 : Int32)) / (13 : Int32) * (13 : Int32) = (7 : Int32) ∨ (x0 &&& (2147483647 : Int32)) - (x0 &&& (2147483647 : Int32)) / (13 : Int32) * (13 : Int32) = (8 : Int32) ∨ (x0 &&& (2147483647 : Int32)) - (x0 &&& (2147483647 : Int32)) / (13 : Int32) * (13 : Int32) = (9 : Int32) ∨ (x0 &&& (2147483647 : Int32)) - (x0 &&& (2147483647 : Int32)) / (13 : Int32) * (13 : Int32) = (10 : Int32) ∨ (x0 &&& (2147483647 : Int32)) - (x0 &&& (2147483647 : Int32)) / (13 : Int32) * (13 : Int32) = (11 : Int32) ∨ (x0 &&& (2147483647 : Int32)) - (x0 &&& (2147483647 : Int32)) / (13 : Int32) * (13 : Int32) = (12 : Int32) := by
  have m : (x0 &&& (2147483647 : Int32)).toInt = x0.toInt % 2147483648 := by
    have := c_mask x0 (2147483647 : Int32) 31 (by decide) (by decide); simpa using this
  generalize (x0 &&& (2147483647 : Int32)) = y at m ⊢
  have c0 : (y / (13 : Int32)).toInt = y.toInt / 13 := (c_idiv y 13 13 (by decide) (by decide)).1 (by omega)
  have c1 := c_imul (y / (13 : Int32)) 13; have r1 := rng32 (y / (13 : Int32) * 13); have c2 := c_isub y (y / (13 : Int32) * 13); have r2 := rng32 (y - y / (13 : Int32) * 13); rw [e13] at c1
  generalize hi : y - y / (13 : Int32) * (13 : Int32) = i at c2 r2 ⊢
  have h0 : 0 ≤ i.toInt ∧ i.toInt < 13 := by omega
  have key : ∀ k : Int32, i.toInt = k.toInt → i = k := fun k h => Int32.toInt_inj.mp h
  have e0 : (0 : Int32).toInt = 0 := by decide
  have e1 : (1 : Int32).toInt = 1 := by decide
  have e2 : (2 : Int32).toInt = 2 := by decide
  have e3 : (3 : Int32).toInt = 3 := by decide
  have e4 : (4 : Int32).toInt = 4 := by decide
  have e5 : (5 : Int32).toInt = 5 := by decide
  have e6 : (6 : Int32).toInt = 6 := by decide
  have e7 : (7 : Int32).toInt = 7 := by decide
  have e8 : (8 : Int32).toInt = 8 := by decide
  have e9 : (9 : Int32).toInt = 9 := by decide
  have e10 : (10 : Int32).toInt = 10 := by decide
  have e11 : (11 : Int32).toInt = 11 := by decide
  have e12 : (12 : Int32).toInt = 12 := by decide
  have : i.toInt = 0 ∨ i.toInt = 1 ∨ i.toInt = 2 ∨ i.toInt = 3 ∨ i.toInt = 4 ∨ i.toInt = 5 ∨ i.toInt = 6 ∨ i.toInt = 7 ∨ i.toInt = 8 ∨ i.toInt = 9 ∨ i.toInt = 10 ∨ i.toInt = 11 ∨ i.toInt = 12 := by omega
  rcases this with h | h | h | h | h | h | h | h | h | h | h | h | h
  · exact Or.inl (key 0 (h.trans e0.symm))
  · exact Or.inr (Or.inl (key 1 (h.trans e1.symm)))
  · exact Or.inr (Or.inr (Or.inl (key 2 (h.trans e2.symm))))
  · exact Or.inr (Or.inr (Or.inr (Or.inl (key 3 (h.trans e3.symm)))))
  · exact Or.inr (Or.inr (Or.inr (Or.inr (Or.inl (key 4 (h.trans e4.symm))))))
  · exact Or.inr (Or.inr (Or.inr (Or.inr (Or.inr (Or.inl (key 5 (h.trans e5.symm)))))))
  · exact Or.inr (Or.inr (Or.inr (Or.inr (Or.inr (Or.inr (Or.inl (key 6 (h.trans e6.symm))))))))
  · exact Or.inr (Or.inr (Or.inr (Or.inr (Or.inr (Or.inr (Or.inr (Or.inl (key 7 (h.trans e7.symm)))))))))
  · exact Or.inr (Or.inr (Or.inr (Or.inr (Or.inr (Or.inr (Or.inr (Or.inr (Or.inl (key 8 (h.trans e8.symm))))))))))
  · exact Or.inr (Or.inr (Or.inr (Or.inr (Or.inr (Or.inr (Or.inr (Or.inr (Or.inr (Or.inl (key 9 (h.trans e9.symm)))))))))))
  · exact Or.inr (Or.inr (Or.inr (Or.inr (Or.inr (Or.inr (Or.inr (Or.inr (Or.inr (Or.inr (Or.inl (key 10 (h.trans e10.symm))))))))))))
  · exact Or.inr (Or.inr (Or.inr (Or.inr (Or.inr (Or.inr (Or.inr (Or.inr (Or.inr (Or.inr (Or.inr (Or.inl (key 11 (h.trans e11.symm)))))))))))))
  · exact Or.inr (Or.inr (Or.inr (Or.inr (Or.inr (Or.inr (Or.inr (Or.inr (Or.inr (Or.inr (Or.inr (Or.inr (key 12 (h.trans e12.symm)))))))))))))
/-! strings -/
theorem own_sf {f g : Nat → Int32} : ∀ (n k : Nat), (∀ i, k ≤ i → i < k + n → f i = g i) → Jvm.Free.StrEq.sameFrom f g k n = true
  | 0, _, _ => rfl
  | n + 1, k, h => by
    rw [Jvm.Free.StrEq.sameFrom, own_sf n (k + 1) (fun i h1 h2 => h i (by omega) (by omega)), h k (by omega) (by omega)]; simp
theorem own_strAt {Z : State} {h : Heap} {a d : Addr} {k : ClassId} {z : Int32} {vs : List Int32} (E : Exa Z h a STR) (Fc : Fld Z h a STR "coder" "B" (.int 0)) (Fv : Fld Z h a STR "value" "[B" (.ref d)) (V : Arv Z h d k .byte z (vs.map Value.int) (.int 0)) :
    ∃ (fC fV : Field) (C A : Cell), (∃ c k i, Z.fieldFound? STR "coder" "B" = some (c, k, i, fC)) ∧ (∃ c k i, Z.fieldFound? STR "value" "[B" = some (c, k, i, fV)) ∧
      (∀ U : State, Z.Warmed39 U.vm → U.heap = h → Jvm.Free.StrEq.SE.StrAt fC fV a C 0 d A U) ∧ A.slots.size = z.toNatClampNeg ∧ ∀ i, i < A.slots.size → intAt A i = vs.getD i 0 := by
  obtain ⟨cell, k1, a1, a2, a3, a4, -⟩ := E
  obtain ⟨cell1, cf1, kc, i1, fC, b1, b2, b3, b4, b5, b6, b7⟩ := Fc
  obtain ⟨cell2, cf2, kv, i2, fV, c1, c2, c3, c4, c5, c6, c7⟩ := Fv
  obtain ⟨A, Ar, q, S, M, H, G⟩ := V
  cases a1.symm.trans b1
  cases a1.symm.trans c1
  have hv : ∀ i, i < A.slots.size → A.slots[i]? = some (.int (vs.getD i 0)) := fun i hi => by
    rw [H i hi]; congr 1
    simp only [List.getD_eq_getElem?_getD, List.getElem?_map]
    cases vs[i]? <;> rfl
  have hb : ∀ i, i < A.slots.size → A.slots[i]? = some (.int (intAt A i)) := fun i hi => intAt_spec ⟨_, hv i hi⟩
  refine ⟨fC, fV, cell, A, ⟨_, _, _, b2⟩, ⟨_, _, _, c2⟩, fun U hU hh => ?_, S, fun i hi => Value.int.inj (Option.some.inj ((hb i hi).symm.trans (hv i hi)))⟩
  obtain ⟨kc', q1, -⟩ := State.fieldFound?_setVm (s := Z) hU.alike b2
  obtain ⟨kv', q2, -⟩ := State.fieldFound?_setVm (s := Z) hU.alike c2
  have hz := rng32 z
  refine ⟨by rw [hh]; exact a1, a4, b4, by rw [hU.alike.findClass]; exact a2, ⟨_, _, _, q1⟩, b3, b7, ⟨_, _, _, q2⟩, c3, c7, by rw [hh]; exact Ar.1, State.isArrayOf_alike hU.alike Ar.2.1, Ar.2.2, ?_, hb⟩
  rw [S, Int32.toNatClampNeg]; omega
theorem own_dne {Z : State} {h : Heap} {a a' d d' : Addr} {k k' : ClassId} {z z' : Int32} {vs vs' : List Value} (F : Fld Z h a STR "value" "[B" (.ref d)) (V : Arv Z h d k .byte z vs (.int 0)) (F' : Fld Z h a' STR "value" "[B" (.ref d')) (V' : Arv Z h d' k' .byte z' vs' (.int 0)) (q : z.toNatClampNeg ≠ z'.toNatClampNeg) : a ≠ a' :=
  Fld.ne F F' fun e => by
    have e' := Value.ref.inj e
    subst e'
    obtain ⟨c, A, -, S, -⟩ := V
    obtain ⟨c', A', -, S', -⟩ := V'
    cases A.1.symm.trans A'.1
    exact q (S.symm.trans S')
theorem own_stat {Z U : State} {h : Heap} {C n d : String} {v : Value} (F : Sta Z h C n d v) (hU : Z.Warmed39 U.vm) (hh : U.heap = h) : StaticIs U C n d v := by
  obtain ⟨cf, i, k, f, st, cell, h1, h2, h3, h4, h5, h6, h7⟩ := F
  obtain ⟨k', hi, ek⟩ := State.fieldFound?_setVm (s := Z) hU.alike h1
  exact ⟨cf, i, k', f, st, cell, hi, h2, by rw [ek]; exact h3, by rw [ek]; exact h4, by rw [hh]; exact h5, (fun q => by rw [q] at h6; cases h6), h7⟩
/-! reading the premise -/
theorem own_eqv {Z : State} {args : Array Value} {t u : Term} {x : Addr} (h : (Jvm.Cond.eq t u).value args Z none Z [] = some true) (hu : u.eval args Z none [] Z = some (.ref x)) : t.eval args Z none [] Z = some (.ref x) := by
  cases ht : t.eval args Z none [] Z with
  | none => simp [Cond.value, ht, hu] at h
  | some w => cases w <;> simp [Cond.value, ht, hu] at h ⊢ <;> exact h
theorem own_eqi {Z : State} {args : Array Value} {t : Term} {k : Int32} (h : (Jvm.Cond.eq t (.int k)).value args Z none Z [] = some true) : t.eval args Z none [] Z = some (.int k) := Cond.eq_int (Cond.before_iff.mpr h) rfl
theorem own_str {Z : State} {args : Array Value} {t : Term} {x : Addr} (hf : Fit Z) (ev : t.eval args Z none [] Z = some (.ref x)) (c1 : (Jvm.Cond.exactly t STR).value args Z none Z [] = some true)
    (c2 : (Jvm.Cond.eq (.field t STR "coder" "B") (.int 0)).value args Z none Z [] = some true) (c3 : (Jvm.Cond.arrayOf (.field t STR "value" "[B") .byte).value args Z none Z [] = some true) {n : Int32} (c4 : (Jvm.Cond.eq (.length (.field t STR "value" "[B")) (.int n)).value args Z none Z [] = some true)
    (vs : List Int32) (hz : ¬ n < 0) (hl : n.toNatClampNeg = (vs.map Value.int).length)
    (HL : ∀ cl : Cell, (∀ (i : Nat) (j b : Int32), j.toNatClampNeg = i → ¬ j < 0 → (Jvm.Cond.eq (.elem (.field t STR "value" "[B") (.int j)) (.int b)).value args Z none Z [] = some true → cl.slots[i]? = some (.int b)) → HasL cl 0 (vs.map Value.int)) :
    ∃ (d : Addr) (k : ClassId), Exa Z Z.heap x STR ∧ Fld Z Z.heap x STR "coder" "B" (.int 0) ∧ Fld Z Z.heap x STR "value" "[B" (.ref d) ∧ Arv Z Z.heap d k .byte n (vs.map Value.int) (.int 0) := by
  obtain ⟨d, evd⟩ := arr_v c3
  obtain ⟨cl, A⟩ := Arr.start evd c3
  have ha : Z.arrayAt? d = some cl := IntBox.arrayAt_of A.1 A.2.1 A.2.2
  have hlen := own_eqi c4
  have h31 := SBG.length_lt evd ha hlen
  have e : cl.slots.size.toInt32 = n := Value.int.inj (Option.some.inj ((len_f evd ha h31).symm.trans hlen))
  refine ⟨d, _, Exa.start ev c1, Fld.start ((fld_at ev).symm.trans (own_eqi c2)), Fld.start ((fld_at ev).symm.trans evd), Arv.start hf A h31 e hz hl (HL cl fun i j b hj hn hc => ?_)⟩
  have q := own_eqi hc
  rw [elem_f evd rfl ha hn, hj] at q
  exact q

theorem pd_0 : parseMethodDescriptor "()Z" = some ⟨[], some .boolean⟩ := by decide +kernel
theorem pd_1 : parseMethodDescriptor "()Ljava/lang/String;" = some ⟨[], some (.object "java/lang/String")⟩ := by decide +kernel
theorem pd_2 : parseMethodDescriptor "(Ljava/lang/Object;)Z" = some ⟨[(.object "java/lang/Object")], some .boolean⟩ := by decide +kernel
theorem pd_3 : parseMethodDescriptor "([B[B)Z" = some ⟨[(.array .byte), (.array .byte)], some .boolean⟩ := by decide +kernel
theorem d1_0 : decode prog_4_method_8_code 0 = .ok (.aload_n 0, 1) := by decide +kernel
theorem d1_1 : decode prog_4_method_8_code 1 = .ok (.getstatic 10, 3) := by decide +kernel
theorem d1_4 : decode prog_4_method_8_code 4 = .ok (.if_acmp .eq 10, 3) := by decide +kernel
theorem d1_14 : decode prog_4_method_8_code 14 = .ok (.iconst 1, 1) := by decide +kernel
theorem d1_15 : decode prog_4_method_8_code 15 = .ok (.goto 4, 3) := by decide +kernel
theorem d1_19 : decode prog_4_method_8_code 19 = .ok (.ireturn, 1) := by decide +kernel
theorem pn_1 : plainName "com/example/replay/replay/api/EventType" = true := by first | (simp [plainName, overriddenIn]; done) | decide +kernel
theorem ef_1a (m : MethodId) (x0 : Addr) : entryFrame m #[(.ref x0)] 1 = mkF m 0 #[.val (.ref x0)] [] := by first | (simp [entryFrame, mkF, argsToLocals, Value.category]; done) | rfl
set_option maxRecDepth 65536 in
set_option maxHeartbeats 40000000 in
theorem rm1a (l : Launch) (Z : State) (a0 : Array Value) (hw : ∀ d ∈ tables_1, d.before a0 Z = true) (ws : List Jvm.Cond) (x0 y2 y3 : Addr) (h0 : Heap) (n0 : Nat) (hn0 : n0 ≤ h0.size) (S2 : Sta Z h0 "com/example/replay/replay/api/EventType" "ACTIVITY_COMPLETED" "Lcom/example/replay/replay/api/EventType;" (.ref y2)) (S3 : Sta Z h0 "com/example/replay/replay/api/EventType" "ACTIVITY_FAILED" "Lcom/example/replay/replay/api/EventType;" (.ref y3)) (q2 : x0 = y2) :
    MetFree l (⟨"com/example/replay/replay/api/EventType", "isActivityOutcome", "()Z"⟩ : MethodName) (head1 (Jvm.Cond.code (⟨"com/example/replay/replay/api/EventType", "isActivityOutcome", "()Z"⟩ : MethodName) prog_4_method_8_code 1 (some .boolean) :: ws) ({ frames := 0, cells := 0, slots := 0, locals := 0 } : Room)) (fun a U => a = #[(.ref x0)] ∧ Z.Warmed39 U.vm ∧ U.heap = h0) (fun _ _ _ _ _ => True) (fun _ U o U' => ∃ v L, o = .returned v ∧ QP (.int (1 : Int32)) h0 v U'.heap L ∧ FrameEnd U o U' L ({ frames := 0, cells := 0, slots := 0, locals := 0 } : Room).cells ({ frames := 0, cells := 0, slots := 0, locals := 0 } : Room).slots) := by
  refine MetFree.of_bodySF (plainFor_of_name pn_1) hisR ?_
  intro p e s m args below meth c s₁ Bd hml0 hP hK
  obtain ⟨rfl, hZ, hh⟩ := hP
  have hx := Bd.exec
  have hby := Bd.bytes
  have hml : c.maxLocals = 1 := hml0
  have hown : s.vm.findClass "com/example/replay/replay/api/EventType" = some m.cls := findClass_of_methodNamed Bd.named
  have hnm := (name_of_methodNamed Bd.named Bd.method).1
  have X0 : Stand p l e ({ frames := 0, cells := 0, slots := 0, locals := 0 } : Room) s m #[(.ref x0)] below meth c s₁ [] 0 0 := Stand.of_body Bd
  have e0 : s₁.heap = h0 := by rw [← hh, Bd.state]; rfl
  show Runs p e below s (QP (.int (1 : Int32)) h0) ({ frames := 0, cells := 0, slots := 0, locals := 0 } : Room).cells ({ frames := 0, cells := 0, slots := 0, locals := 0 } : Room).slots (s₁.setTop (entryFrame m #[(.ref x0)] 1))
  rw [ef_1a m x0]
  have k_0 : ∀ (T : State) (X : Stand p l e ({ frames := 0, cells := 0, slots := 0, locals := 0 } : Room) s m #[(.ref x0)] below meth c T [] 0 0) (eT : T.heap = h0) (N : Fr n0 []), Runs p e below s (QP (.int (1 : Int32)) h0) ({ frames := 0, cells := 0, slots := 0, locals := 0 } : Room).cells ({ frames := 0, cells := 0, slots := 0, locals := 0 } : Room).slots (T.setTop (mkF m 0 #[.val (.ref x0)] [])) := by
    intro T X eT N 
    refine Runs.go (fun _ => XS.aloadN X.here hx rfl (hb hby d1_0) rfl rfl) ?_
    show Runs p e below s _ _ _ (T.setTop (mkF m 1 #[.val (.ref x0)] [(.ref x0)]))
    obtain ⟨Tg1_1, Xg1_1, eg1_1, stg1_1⟩ := getS2 X hx hZ hown (host := "") (Or.inl (hw _ (List.mem_of_getElem? (i := 36) rfl))) Via.refl eT S2 (g := (mkF m 1 #[.val (.ref x0)] [(.ref x0)])) rfl (hb hby d1_1)
    refine Runs.go stg1_1 ?_
    show Runs p e below s _ _ _ (Tg1_1.setTop (mkF m 4 #[.val (.ref x0)] [(.ref y2), (.ref x0)]))
    refine Runs.go (fun _ => Jvm.RoadKit.acmp (g := (mkF m 4 #[.val (.ref x0)] [(.ref y2), (.ref x0)])) Xg1_1 hx rfl rfl rfl (pc0 := 4) (pc' := 14) (same := true) rfl (hb hby d1_4) rfl (decide_eq_true (congrArg Value.ref q2)) (by decide) (by decide)) ?_
    show Runs p e below s _ _ _ (Tg1_1.setTop (mkF m 14 #[.val (.ref x0)] []))
    refine Runs.go (fun _ => XS.iconst Xg1_1.here hx rfl (hb hby d1_14)) ?_
    show Runs p e below s _ _ _ (Tg1_1.setTop (mkF m 15 #[.val (.ref x0)] [(.int (1 : Int32))]))
    refine Runs.go (fun _ => XS.goto Xg1_1.here hx rfl (pc0 := 15) (pc' := 19) rfl (hb hby d1_15) (by decide) (by decide)) ?_
    show Runs p e below s _ _ _ (Tg1_1.setTop (mkF m 19 #[.val (.ref x0)] [(.int (1 : Int32))]))
    exact Runs.endN Xg1_1 hx (t := .boolean) Bd.returns (by simp) Bd.notSynchronized (hb hby d1_19) ⟨rfl, rfl, eg1_1⟩ (by decide) (by decide)
  exact k_0 _ X0 e0 (Fr.nil n0)
theorem d1_7 : decode prog_4_method_8_code 7 = .ok (.aload_n 0, 1) := by decide +kernel
theorem d1_8 : decode prog_4_method_8_code 8 = .ok (.getstatic 13, 3) := by decide +kernel
theorem d1_11 : decode prog_4_method_8_code 11 = .ok (.if_acmp .ne 7, 3) := by decide +kernel
theorem ef_1b (m : MethodId) (x0 : Addr) : entryFrame m #[(.ref x0)] 1 = mkF m 0 #[.val (.ref x0)] [] := by first | (simp [entryFrame, mkF, argsToLocals, Value.category]; done) | rfl
set_option maxRecDepth 65536 in
set_option maxHeartbeats 40000000 in
theorem rm1b (l : Launch) (Z : State) (a0 : Array Value) (hw : ∀ d ∈ tables_1, d.before a0 Z = true) (ws : List Jvm.Cond) (x0 y2 y3 : Addr) (h0 : Heap) (n0 : Nat) (hn0 : n0 ≤ h0.size) (S2 : Sta Z h0 "com/example/replay/replay/api/EventType" "ACTIVITY_COMPLETED" "Lcom/example/replay/replay/api/EventType;" (.ref y2)) (S3 : Sta Z h0 "com/example/replay/replay/api/EventType" "ACTIVITY_FAILED" "Lcom/example/replay/replay/api/EventType;" (.ref y3)) (n2 : x0 ≠ y2) (q3 : x0 = y3) :
    MetFree l (⟨"com/example/replay/replay/api/EventType", "isActivityOutcome", "()Z"⟩ : MethodName) (head1 (Jvm.Cond.code (⟨"com/example/replay/replay/api/EventType", "isActivityOutcome", "()Z"⟩ : MethodName) prog_4_method_8_code 1 (some .boolean) :: ws) ({ frames := 0, cells := 0, slots := 0, locals := 0 } : Room)) (fun a U => a = #[(.ref x0)] ∧ Z.Warmed39 U.vm ∧ U.heap = h0) (fun _ _ _ _ _ => True) (fun _ U o U' => ∃ v L, o = .returned v ∧ QP (.int (1 : Int32)) h0 v U'.heap L ∧ FrameEnd U o U' L ({ frames := 0, cells := 0, slots := 0, locals := 0 } : Room).cells ({ frames := 0, cells := 0, slots := 0, locals := 0 } : Room).slots) := by
  refine MetFree.of_bodySF (plainFor_of_name pn_1) hisR ?_
  intro p e s m args below meth c s₁ Bd hml0 hP hK
  obtain ⟨rfl, hZ, hh⟩ := hP
  have hx := Bd.exec
  have hby := Bd.bytes
  have hml : c.maxLocals = 1 := hml0
  have hown : s.vm.findClass "com/example/replay/replay/api/EventType" = some m.cls := findClass_of_methodNamed Bd.named
  have hnm := (name_of_methodNamed Bd.named Bd.method).1
  have X0 : Stand p l e ({ frames := 0, cells := 0, slots := 0, locals := 0 } : Room) s m #[(.ref x0)] below meth c s₁ [] 0 0 := Stand.of_body Bd
  have e0 : s₁.heap = h0 := by rw [← hh, Bd.state]; rfl
  show Runs p e below s (QP (.int (1 : Int32)) h0) ({ frames := 0, cells := 0, slots := 0, locals := 0 } : Room).cells ({ frames := 0, cells := 0, slots := 0, locals := 0 } : Room).slots (s₁.setTop (entryFrame m #[(.ref x0)] 1))
  rw [ef_1b m x0]
  have k_0 : ∀ (T : State) (X : Stand p l e ({ frames := 0, cells := 0, slots := 0, locals := 0 } : Room) s m #[(.ref x0)] below meth c T [] 0 0) (eT : T.heap = h0) (N : Fr n0 []), Runs p e below s (QP (.int (1 : Int32)) h0) ({ frames := 0, cells := 0, slots := 0, locals := 0 } : Room).cells ({ frames := 0, cells := 0, slots := 0, locals := 0 } : Room).slots (T.setTop (mkF m 0 #[.val (.ref x0)] [])) := by
    intro T X eT N 
    refine Runs.go (fun _ => XS.aloadN X.here hx rfl (hb hby d1_0) rfl rfl) ?_
    show Runs p e below s _ _ _ (T.setTop (mkF m 1 #[.val (.ref x0)] [(.ref x0)]))
    obtain ⟨Tg1_1, Xg1_1, eg1_1, stg1_1⟩ := getS2 X hx hZ hown (host := "") (Or.inl (hw _ (List.mem_of_getElem? (i := 36) rfl))) Via.refl eT S2 (g := (mkF m 1 #[.val (.ref x0)] [(.ref x0)])) rfl (hb hby d1_1)
    refine Runs.go stg1_1 ?_
    show Runs p e below s _ _ _ (Tg1_1.setTop (mkF m 4 #[.val (.ref x0)] [(.ref y2), (.ref x0)]))
    refine Runs.go (fun _ => Jvm.RoadKit.acmp (g := (mkF m 4 #[.val (.ref x0)] [(.ref y2), (.ref x0)])) Xg1_1 hx rfl rfl rfl (pc0 := 4) (pc' := 7) (same := false) rfl (hb hby d1_4) rfl (decide_eq_false fun q => n2 (Value.ref.inj q)) (by decide) (by decide)) ?_
    show Runs p e below s _ _ _ (Tg1_1.setTop (mkF m 7 #[.val (.ref x0)] []))
    refine Runs.go (fun _ => XS.aloadN Xg1_1.here hx rfl (hb hby d1_7) rfl rfl) ?_
    show Runs p e below s _ _ _ (Tg1_1.setTop (mkF m 8 #[.val (.ref x0)] [(.ref x0)]))
    obtain ⟨Tg8_2, Xg8_2, eg8_2, stg8_2⟩ := getS2 Xg1_1 hx hZ hown (host := "") (Or.inl (hw _ (List.mem_of_getElem? (i := 37) rfl))) Via.refl eg1_1 S3 (g := (mkF m 8 #[.val (.ref x0)] [(.ref x0)])) rfl (hb hby d1_8)
    refine Runs.go stg8_2 ?_
    show Runs p e below s _ _ _ (Tg8_2.setTop (mkF m 11 #[.val (.ref x0)] [(.ref y3), (.ref x0)]))
    refine Runs.go (fun _ => Jvm.RoadKit.acmp (g := (mkF m 11 #[.val (.ref x0)] [(.ref y3), (.ref x0)])) Xg8_2 hx rfl rfl rfl (pc0 := 11) (pc' := 14) (same := true) rfl (hb hby d1_11) rfl (decide_eq_true (congrArg Value.ref q3)) (by decide) (by decide)) ?_
    show Runs p e below s _ _ _ (Tg8_2.setTop (mkF m 14 #[.val (.ref x0)] []))
    refine Runs.go (fun _ => XS.iconst Xg8_2.here hx rfl (hb hby d1_14)) ?_
    show Runs p e below s _ _ _ (Tg8_2.setTop (mkF m 15 #[.val (.ref x0)] [(.int (1 : Int32))]))
    refine Runs.go (fun _ => XS.goto Xg8_2.here hx rfl (pc0 := 15) (pc' := 19) rfl (hb hby d1_15) (by decide) (by decide)) ?_
    show Runs p e below s _ _ _ (Tg8_2.setTop (mkF m 19 #[.val (.ref x0)] [(.int (1 : Int32))]))
    exact Runs.endN Xg8_2 hx (t := .boolean) Bd.returns (by simp) Bd.notSynchronized (hb hby d1_19) ⟨rfl, rfl, eg8_2⟩ (by decide) (by decide)
  exact k_0 _ X0 e0 (Fr.nil n0)
theorem d1_18 : decode prog_4_method_8_code 18 = .ok (.iconst 0, 1) := by decide +kernel
theorem ef_1c (m : MethodId) (x0 : Addr) : entryFrame m #[(.ref x0)] 1 = mkF m 0 #[.val (.ref x0)] [] := by first | (simp [entryFrame, mkF, argsToLocals, Value.category]; done) | rfl
set_option maxRecDepth 65536 in
set_option maxHeartbeats 40000000 in
theorem rm1c (l : Launch) (Z : State) (a0 : Array Value) (hw : ∀ d ∈ tables_1, d.before a0 Z = true) (ws : List Jvm.Cond) (x0 y2 y3 : Addr) (h0 : Heap) (n0 : Nat) (hn0 : n0 ≤ h0.size) (S2 : Sta Z h0 "com/example/replay/replay/api/EventType" "ACTIVITY_COMPLETED" "Lcom/example/replay/replay/api/EventType;" (.ref y2)) (S3 : Sta Z h0 "com/example/replay/replay/api/EventType" "ACTIVITY_FAILED" "Lcom/example/replay/replay/api/EventType;" (.ref y3)) (n2 : x0 ≠ y2) (n3 : x0 ≠ y3) :
    MetFree l (⟨"com/example/replay/replay/api/EventType", "isActivityOutcome", "()Z"⟩ : MethodName) (head1 (Jvm.Cond.code (⟨"com/example/replay/replay/api/EventType", "isActivityOutcome", "()Z"⟩ : MethodName) prog_4_method_8_code 1 (some .boolean) :: ws) ({ frames := 0, cells := 0, slots := 0, locals := 0 } : Room)) (fun a U => a = #[(.ref x0)] ∧ Z.Warmed39 U.vm ∧ U.heap = h0) (fun _ _ _ _ _ => True) (fun _ U o U' => ∃ v L, o = .returned v ∧ QP (.int (0 : Int32)) h0 v U'.heap L ∧ FrameEnd U o U' L ({ frames := 0, cells := 0, slots := 0, locals := 0 } : Room).cells ({ frames := 0, cells := 0, slots := 0, locals := 0 } : Room).slots) := by
  refine MetFree.of_bodySF (plainFor_of_name pn_1) hisR ?_
  intro p e s m args below meth c s₁ Bd hml0 hP hK
  obtain ⟨rfl, hZ, hh⟩ := hP
  have hx := Bd.exec
  have hby := Bd.bytes
  have hml : c.maxLocals = 1 := hml0
  have hown : s.vm.findClass "com/example/replay/replay/api/EventType" = some m.cls := findClass_of_methodNamed Bd.named
  have hnm := (name_of_methodNamed Bd.named Bd.method).1
  have X0 : Stand p l e ({ frames := 0, cells := 0, slots := 0, locals := 0 } : Room) s m #[(.ref x0)] below meth c s₁ [] 0 0 := Stand.of_body Bd
  have e0 : s₁.heap = h0 := by rw [← hh, Bd.state]; rfl
  show Runs p e below s (QP (.int (0 : Int32)) h0) ({ frames := 0, cells := 0, slots := 0, locals := 0 } : Room).cells ({ frames := 0, cells := 0, slots := 0, locals := 0 } : Room).slots (s₁.setTop (entryFrame m #[(.ref x0)] 1))
  rw [ef_1c m x0]
  have k_0 : ∀ (T : State) (X : Stand p l e ({ frames := 0, cells := 0, slots := 0, locals := 0 } : Room) s m #[(.ref x0)] below meth c T [] 0 0) (eT : T.heap = h0) (N : Fr n0 []), Runs p e below s (QP (.int (0 : Int32)) h0) ({ frames := 0, cells := 0, slots := 0, locals := 0 } : Room).cells ({ frames := 0, cells := 0, slots := 0, locals := 0 } : Room).slots (T.setTop (mkF m 0 #[.val (.ref x0)] [])) := by
    intro T X eT N 
    refine Runs.go (fun _ => XS.aloadN X.here hx rfl (hb hby d1_0) rfl rfl) ?_
    show Runs p e below s _ _ _ (T.setTop (mkF m 1 #[.val (.ref x0)] [(.ref x0)]))
    obtain ⟨Tg1_1, Xg1_1, eg1_1, stg1_1⟩ := getS2 X hx hZ hown (host := "") (Or.inl (hw _ (List.mem_of_getElem? (i := 36) rfl))) Via.refl eT S2 (g := (mkF m 1 #[.val (.ref x0)] [(.ref x0)])) rfl (hb hby d1_1)
    refine Runs.go stg1_1 ?_
    show Runs p e below s _ _ _ (Tg1_1.setTop (mkF m 4 #[.val (.ref x0)] [(.ref y2), (.ref x0)]))
    refine Runs.go (fun _ => Jvm.RoadKit.acmp (g := (mkF m 4 #[.val (.ref x0)] [(.ref y2), (.ref x0)])) Xg1_1 hx rfl rfl rfl (pc0 := 4) (pc' := 7) (same := false) rfl (hb hby d1_4) rfl (decide_eq_false fun q => n2 (Value.ref.inj q)) (by decide) (by decide)) ?_
    show Runs p e below s _ _ _ (Tg1_1.setTop (mkF m 7 #[.val (.ref x0)] []))
    refine Runs.go (fun _ => XS.aloadN Xg1_1.here hx rfl (hb hby d1_7) rfl rfl) ?_
    show Runs p e below s _ _ _ (Tg1_1.setTop (mkF m 8 #[.val (.ref x0)] [(.ref x0)]))
    obtain ⟨Tg8_2, Xg8_2, eg8_2, stg8_2⟩ := getS2 Xg1_1 hx hZ hown (host := "") (Or.inl (hw _ (List.mem_of_getElem? (i := 37) rfl))) Via.refl eg1_1 S3 (g := (mkF m 8 #[.val (.ref x0)] [(.ref x0)])) rfl (hb hby d1_8)
    refine Runs.go stg8_2 ?_
    show Runs p e below s _ _ _ (Tg8_2.setTop (mkF m 11 #[.val (.ref x0)] [(.ref y3), (.ref x0)]))
    refine Runs.go (fun _ => Jvm.RoadKit.acmp (g := (mkF m 11 #[.val (.ref x0)] [(.ref y3), (.ref x0)])) Xg8_2 hx rfl rfl rfl (pc0 := 11) (pc' := 18) (same := false) rfl (hb hby d1_11) rfl (decide_eq_false fun q => n3 (Value.ref.inj q)) (by decide) (by decide)) ?_
    show Runs p e below s _ _ _ (Tg8_2.setTop (mkF m 18 #[.val (.ref x0)] []))
    refine Runs.go (fun _ => XS.iconst Xg8_2.here hx rfl (hb hby d1_18)) ?_
    show Runs p e below s _ _ _ (Tg8_2.setTop (mkF m 19 #[.val (.ref x0)] [(.int (0 : Int32))]))
    exact Runs.endN Xg8_2 hx (t := .boolean) Bd.returns (by simp) Bd.notSynchronized (hb hby d1_19) ⟨rfl, rfl, eg8_2⟩ (by decide) (by decide)
  exact k_0 _ X0 e0 (Fr.nil n0)
theorem d2_0 : decode prog_4_method_7_code 0 = .ok (.aload_n 0, 1) := by decide +kernel
theorem d2_1 : decode prog_4_method_7_code 1 = .ok (.getstatic 7, 3) := by decide +kernel
theorem d2_4 : decode prog_4_method_7_code 4 = .ok (.if_acmp .eq 10, 3) := by decide +kernel
theorem d2_14 : decode prog_4_method_7_code 14 = .ok (.iconst 1, 1) := by decide +kernel
theorem d2_15 : decode prog_4_method_7_code 15 = .ok (.goto 4, 3) := by decide +kernel
theorem d2_19 : decode prog_4_method_7_code 19 = .ok (.ireturn, 1) := by decide +kernel
theorem pn_2 : plainName "com/example/replay/replay/api/EventType" = true := by first | (simp [plainName, overriddenIn]; done) | decide +kernel
theorem ef_2s (m : MethodId) (x0 : Addr) : entryFrame m #[(.ref x0)] 1 = mkF m 0 #[.val (.ref x0)] [] := by first | (simp [entryFrame, mkF, argsToLocals, Value.category]; done) | rfl
set_option maxRecDepth 65536 in
set_option maxHeartbeats 40000000 in
theorem rm2s (l : Launch) (Z : State) (a0 : Array Value) (hw : ∀ d ∈ tables_1, d.before a0 Z = true) (ws : List Jvm.Cond) (x0 y1 y2 y3 : Addr) (h0 : Heap) (n0 : Nat) (hn0 : n0 ≤ h0.size) (E0 : Exa Z h0 x0 "com/example/replay/replay/api/EventType") (S1 : Sta Z h0 "com/example/replay/replay/api/EventType" "ACTIVITY_SCHEDULED" "Lcom/example/replay/replay/api/EventType;" (.ref y1)) (S2 : Sta Z h0 "com/example/replay/replay/api/EventType" "ACTIVITY_COMPLETED" "Lcom/example/replay/replay/api/EventType;" (.ref y2)) (S3 : Sta Z h0 "com/example/replay/replay/api/EventType" "ACTIVITY_FAILED" "Lcom/example/replay/replay/api/EventType;" (.ref y3)) (q1 : x0 = y1) :
    MetFree l (⟨"com/example/replay/replay/api/EventType", "isActivityEvent", "()Z"⟩ : MethodName) (head1 (Jvm.Cond.code (⟨"com/example/replay/replay/api/EventType", "isActivityEvent", "()Z"⟩ : MethodName) prog_4_method_7_code 1 (some .boolean) :: ws) ({ frames := 1, cells := 0, slots := 0, locals := 12 } : Room)) (fun a U => a = #[(.ref x0)] ∧ Z.Warmed39 U.vm ∧ U.heap = h0) (fun _ _ _ _ _ => True) (fun _ U o U' => ∃ v L, o = .returned v ∧ QP (.int (1 : Int32)) h0 v U'.heap L ∧ FrameEnd U o U' L ({ frames := 1, cells := 0, slots := 0, locals := 12 } : Room).cells ({ frames := 1, cells := 0, slots := 0, locals := 12 } : Room).slots) := by
  refine MetFree.of_bodySF (plainFor_of_name pn_2) hisR ?_
  intro p e s m args below meth c s₁ Bd hml0 hP hK
  obtain ⟨rfl, hZ, hh⟩ := hP
  have hx := Bd.exec
  have hby := Bd.bytes
  have hml : c.maxLocals = 1 := hml0
  have hown : s.vm.findClass "com/example/replay/replay/api/EventType" = some m.cls := findClass_of_methodNamed Bd.named
  have hnm := (name_of_methodNamed Bd.named Bd.method).1
  have X0 : Stand p l e ({ frames := 1, cells := 0, slots := 0, locals := 12 } : Room) s m #[(.ref x0)] below meth c s₁ [] 0 0 := Stand.of_body Bd
  have e0 : s₁.heap = h0 := by rw [← hh, Bd.state]; rfl
  show Runs p e below s (QP (.int (1 : Int32)) h0) ({ frames := 1, cells := 0, slots := 0, locals := 12 } : Room).cells ({ frames := 1, cells := 0, slots := 0, locals := 12 } : Room).slots (s₁.setTop (entryFrame m #[(.ref x0)] 1))
  rw [ef_2s m x0]
  have k_0 : ∀ (T : State) (X : Stand p l e ({ frames := 1, cells := 0, slots := 0, locals := 12 } : Room) s m #[(.ref x0)] below meth c T [] 0 0) (eT : T.heap = h0) (N : Fr n0 []), Runs p e below s (QP (.int (1 : Int32)) h0) ({ frames := 1, cells := 0, slots := 0, locals := 12 } : Room).cells ({ frames := 1, cells := 0, slots := 0, locals := 12 } : Room).slots (T.setTop (mkF m 0 #[.val (.ref x0)] [])) := by
    intro T X eT N 
    refine Runs.go (fun _ => XS.aloadN X.here hx rfl (hb hby d2_0) rfl rfl) ?_
    show Runs p e below s _ _ _ (T.setTop (mkF m 1 #[.val (.ref x0)] [(.ref x0)]))
    obtain ⟨Tg1_1, Xg1_1, eg1_1, stg1_1⟩ := getS2 X hx hZ hown (host := "") (Or.inl (hw _ (List.mem_of_getElem? (i := 43) rfl))) Via.refl eT S1 (g := (mkF m 1 #[.val (.ref x0)] [(.ref x0)])) rfl (hb hby d2_1)
    refine Runs.go stg1_1 ?_
    show Runs p e below s _ _ _ (Tg1_1.setTop (mkF m 4 #[.val (.ref x0)] [(.ref y1), (.ref x0)]))
    refine Runs.go (fun _ => Jvm.RoadKit.acmp (g := (mkF m 4 #[.val (.ref x0)] [(.ref y1), (.ref x0)])) Xg1_1 hx rfl rfl rfl (pc0 := 4) (pc' := 14) (same := true) rfl (hb hby d2_4) rfl (decide_eq_true (congrArg Value.ref q1)) (by decide) (by decide)) ?_
    show Runs p e below s _ _ _ (Tg1_1.setTop (mkF m 14 #[.val (.ref x0)] []))
    refine Runs.go (fun _ => XS.iconst Xg1_1.here hx rfl (hb hby d2_14)) ?_
    show Runs p e below s _ _ _ (Tg1_1.setTop (mkF m 15 #[.val (.ref x0)] [(.int (1 : Int32))]))
    refine Runs.go (fun _ => XS.goto Xg1_1.here hx rfl (pc0 := 15) (pc' := 19) rfl (hb hby d2_15) (by decide) (by decide)) ?_
    show Runs p e below s _ _ _ (Tg1_1.setTop (mkF m 19 #[.val (.ref x0)] [(.int (1 : Int32))]))
    exact Runs.endN Xg1_1 hx (t := .boolean) Bd.returns (by simp) Bd.notSynchronized (hb hby d2_19) ⟨rfl, rfl, eg1_1⟩ (by decide) (by decide)
  exact k_0 _ X0 e0 (Fr.nil n0)
theorem d2_7 : decode prog_4_method_7_code 7 = .ok (.aload_n 0, 1) := by decide +kernel
theorem d2_8 : decode prog_4_method_7_code 8 = .ok (.invokevirtual 88, 3) := by decide +kernel
theorem d2_11 : decode prog_4_method_7_code 11 = .ok (.ifCond .eq 7, 3) := by decide +kernel
theorem ef_2a (m : MethodId) (x0 : Addr) : entryFrame m #[(.ref x0)] 1 = mkF m 0 #[.val (.ref x0)] [] := by first | (simp [entryFrame, mkF, argsToLocals, Value.category]; done) | rfl
set_option maxRecDepth 65536 in
set_option maxHeartbeats 40000000 in
theorem rm2a (l : Launch) (Z : State) (a0 : Array Value) (hw : ∀ d ∈ tables_1, d.before a0 Z = true) (ws : List Jvm.Cond) (x0 y1 y2 y3 : Addr) (h0 : Heap) (n0 : Nat) (hn0 : n0 ≤ h0.size) (E0 : Exa Z h0 x0 "com/example/replay/replay/api/EventType") (S1 : Sta Z h0 "com/example/replay/replay/api/EventType" "ACTIVITY_SCHEDULED" "Lcom/example/replay/replay/api/EventType;" (.ref y1)) (S2 : Sta Z h0 "com/example/replay/replay/api/EventType" "ACTIVITY_COMPLETED" "Lcom/example/replay/replay/api/EventType;" (.ref y2)) (S3 : Sta Z h0 "com/example/replay/replay/api/EventType" "ACTIVITY_FAILED" "Lcom/example/replay/replay/api/EventType;" (.ref y3)) (n1 : x0 ≠ y1) (q2 : x0 = y2) :
    MetFree l (⟨"com/example/replay/replay/api/EventType", "isActivityEvent", "()Z"⟩ : MethodName) (head1 (Jvm.Cond.code (⟨"com/example/replay/replay/api/EventType", "isActivityEvent", "()Z"⟩ : MethodName) prog_4_method_7_code 1 (some .boolean) :: ws) ({ frames := 1, cells := 0, slots := 0, locals := 12 } : Room)) (fun a U => a = #[(.ref x0)] ∧ Z.Warmed39 U.vm ∧ U.heap = h0) (fun _ _ _ _ _ => True) (fun _ U o U' => ∃ v L, o = .returned v ∧ QP (.int (1 : Int32)) h0 v U'.heap L ∧ FrameEnd U o U' L ({ frames := 1, cells := 0, slots := 0, locals := 12 } : Room).cells ({ frames := 1, cells := 0, slots := 0, locals := 12 } : Room).slots) := by
  refine MetFree.of_bodySF (plainFor_of_name pn_2) hisR ?_
  intro p e s m args below meth c s₁ Bd hml0 hP hK
  obtain ⟨rfl, hZ, hh⟩ := hP
  have hx := Bd.exec
  have hby := Bd.bytes
  have hml : c.maxLocals = 1 := hml0
  have hown : s.vm.findClass "com/example/replay/replay/api/EventType" = some m.cls := findClass_of_methodNamed Bd.named
  have hnm := (name_of_methodNamed Bd.named Bd.method).1
  have X0 : Stand p l e ({ frames := 1, cells := 0, slots := 0, locals := 12 } : Room) s m #[(.ref x0)] below meth c s₁ [] 0 0 := Stand.of_body Bd
  have e0 : s₁.heap = h0 := by rw [← hh, Bd.state]; rfl
  show Runs p e below s (QP (.int (1 : Int32)) h0) ({ frames := 1, cells := 0, slots := 0, locals := 12 } : Room).cells ({ frames := 1, cells := 0, slots := 0, locals := 12 } : Room).slots (s₁.setTop (entryFrame m #[(.ref x0)] 1))
  rw [ef_2a m x0]
  have k_0 : ∀ (T : State) (X : Stand p l e ({ frames := 1, cells := 0, slots := 0, locals := 12 } : Room) s m #[(.ref x0)] below meth c T [] 0 0) (eT : T.heap = h0) (N : Fr n0 []), Runs p e below s (QP (.int (1 : Int32)) h0) ({ frames := 1, cells := 0, slots := 0, locals := 12 } : Room).cells ({ frames := 1, cells := 0, slots := 0, locals := 12 } : Room).slots (T.setTop (mkF m 0 #[.val (.ref x0)] [])) := by
    intro T X eT N 
    refine Runs.go (fun _ => XS.aloadN X.here hx rfl (hb hby d2_0) rfl rfl) ?_
    show Runs p e below s _ _ _ (T.setTop (mkF m 1 #[.val (.ref x0)] [(.ref x0)]))
    obtain ⟨Tg1_1, Xg1_1, eg1_1, stg1_1⟩ := getS2 X hx hZ hown (host := "") (Or.inl (hw _ (List.mem_of_getElem? (i := 43) rfl))) Via.refl eT S1 (g := (mkF m 1 #[.val (.ref x0)] [(.ref x0)])) rfl (hb hby d2_1)
    refine Runs.go stg1_1 ?_
    show Runs p e below s _ _ _ (Tg1_1.setTop (mkF m 4 #[.val (.ref x0)] [(.ref y1), (.ref x0)]))
    refine Runs.go (fun _ => Jvm.RoadKit.acmp (g := (mkF m 4 #[.val (.ref x0)] [(.ref y1), (.ref x0)])) Xg1_1 hx rfl rfl rfl (pc0 := 4) (pc' := 7) (same := false) rfl (hb hby d2_4) rfl (decide_eq_false fun q => n1 (Value.ref.inj q)) (by decide) (by decide)) ?_
    show Runs p e below s _ _ _ (Tg1_1.setTop (mkF m 7 #[.val (.ref x0)] []))
    refine Runs.go (fun _ => XS.aloadN Xg1_1.here hx rfl (hb hby d2_7) rfl rfl) ?_
    show Runs p e below s _ _ _ (Tg1_1.setTop (mkF m 8 #[.val (.ref x0)] [(.ref x0)]))
    obtain ⟨cqc8_2, kqc8_2, qc8_2a, qc8_2b, qc8_2c⟩ := isOf hZ eg1_1 E0
    obtain ⟨_, _, ⟨Tc8_2, Lc8_2, kc8_2, nc8_2⟩, -, Xc8_2, ⟨Lcc8_2, hQc8_2, lc8_2, yc8_2, zc8_2⟩, stc8_2⟩ := Xg1_1.virtualBack hx (y := (⟨"com/example/replay/replay/api/EventType", "isActivityOutcome", "()Z"⟩ : MethodName)) (z := (⟨"com/example/replay/replay/api/EventType", "isActivityOutcome", "()Z"⟩ : MethodName)) hown (mvT hZ (hw _ (List.mem_of_getElem? (i := 44) rfl))) (mvT hZ (hw _ (List.mem_of_getElem? (i := 32) rfl))) (notFace_of_selects (args := #[]) (mvT hZ (hw _ (List.mem_of_getElem? (i := 34) rfl)))) (mvT hZ (hw _ (List.mem_of_getElem? (i := 34) rfl))) (mvT hZ (hw _ (List.mem_of_getElem? (i := 33) rfl))) (by decide) (backOf (W := 0) (rm1a l Z a0 hw [] x0 y2 y3 h0 n0 hn0 S2 S3 q2) hZ (hw _ (List.mem_of_getElem? (i := 35) rfl)) (hw _ (List.mem_of_getElem? (i := 3) rfl)) (by decide) (by decide)) qc8_2a qc8_2c (g := (mkF m 8 #[.val (.ref x0)] [(.ref x0)])) rfl (by rw [hml]; rfl) (Steps.refl _) (argsL := []) (rest := []) (lenOf pd_0 rfl) rfl (by show 2 * 0 + _ ≤ _; exact Nat.le_of_eq rfl) (hb hby d2_8) (fun _ _ => ⟨rfl, eg1_1, (by decide : 0 + 0 ≤ _), (by decide : 0 + 0 ≤ _)⟩)
    dsimp only [Pt.U, Pt.locs, Pt.cells, Pt.slots] at Xc8_2 lc8_2 yc8_2 zc8_2 stc8_2 hQc8_2
    subst lc8_2 yc8_2 zc8_2
    obtain ⟨rfl, rfl, ec8_2⟩ := hQc8_2
    refine Runs.go (fun _ => stc8_2.trans) ?_
    have Nc8_2 := Fr.app N (Fr.nil n0)
    show Runs p e below s _ _ _ (Tc8_2.setTop (mkF m 11 #[.val (.ref x0)] [(.int (1 : Int32))]))
    refine Runs.go (fun _ => XS.ifNo Xc8_2.here hx rfl (hb hby d2_11) rfl ((if0 _ _).trans (feq ((by decide) : ¬ ((1 : Int32) = (0 : Int32)))).1)) ?_
    show Runs p e below s _ _ _ (Tc8_2.setTop (mkF m 14 #[.val (.ref x0)] []))
    refine Runs.go (fun _ => XS.iconst Xc8_2.here hx rfl (hb hby d2_14)) ?_
    show Runs p e below s _ _ _ (Tc8_2.setTop (mkF m 15 #[.val (.ref x0)] [(.int (1 : Int32))]))
    refine Runs.go (fun _ => XS.goto Xc8_2.here hx rfl (pc0 := 15) (pc' := 19) rfl (hb hby d2_15) (by decide) (by decide)) ?_
    show Runs p e below s _ _ _ (Tc8_2.setTop (mkF m 19 #[.val (.ref x0)] [(.int (1 : Int32))]))
    exact Runs.endN Xc8_2 hx (t := .boolean) Bd.returns (by simp) Bd.notSynchronized (hb hby d2_19) ⟨rfl, rfl, ec8_2⟩ (by decide) (by decide)
  exact k_0 _ X0 e0 (Fr.nil n0)
theorem ef_2b (m : MethodId) (x0 : Addr) : entryFrame m #[(.ref x0)] 1 = mkF m 0 #[.val (.ref x0)] [] := by first | (simp [entryFrame, mkF, argsToLocals, Value.category]; done) | rfl
set_option maxRecDepth 65536 in
set_option maxHeartbeats 40000000 in
theorem rm2b (l : Launch) (Z : State) (a0 : Array Value) (hw : ∀ d ∈ tables_1, d.before a0 Z = true) (ws : List Jvm.Cond) (x0 y1 y2 y3 : Addr) (h0 : Heap) (n0 : Nat) (hn0 : n0 ≤ h0.size) (E0 : Exa Z h0 x0 "com/example/replay/replay/api/EventType") (S1 : Sta Z h0 "com/example/replay/replay/api/EventType" "ACTIVITY_SCHEDULED" "Lcom/example/replay/replay/api/EventType;" (.ref y1)) (S2 : Sta Z h0 "com/example/replay/replay/api/EventType" "ACTIVITY_COMPLETED" "Lcom/example/replay/replay/api/EventType;" (.ref y2)) (S3 : Sta Z h0 "com/example/replay/replay/api/EventType" "ACTIVITY_FAILED" "Lcom/example/replay/replay/api/EventType;" (.ref y3)) (n1 : x0 ≠ y1) (n2 : x0 ≠ y2) (q3 : x0 = y3) :
    MetFree l (⟨"com/example/replay/replay/api/EventType", "isActivityEvent", "()Z"⟩ : MethodName) (head1 (Jvm.Cond.code (⟨"com/example/replay/replay/api/EventType", "isActivityEvent", "()Z"⟩ : MethodName) prog_4_method_7_code 1 (some .boolean) :: ws) ({ frames := 1, cells := 0, slots := 0, locals := 12 } : Room)) (fun a U => a = #[(.ref x0)] ∧ Z.Warmed39 U.vm ∧ U.heap = h0) (fun _ _ _ _ _ => True) (fun _ U o U' => ∃ v L, o = .returned v ∧ QP (.int (1 : Int32)) h0 v U'.heap L ∧ FrameEnd U o U' L ({ frames := 1, cells := 0, slots := 0, locals := 12 } : Room).cells ({ frames := 1, cells := 0, slots := 0, locals := 12 } : Room).slots) := by
  refine MetFree.of_bodySF (plainFor_of_name pn_2) hisR ?_
  intro p e s m args below meth c s₁ Bd hml0 hP hK
  obtain ⟨rfl, hZ, hh⟩ := hP
  have hx := Bd.exec
  have hby := Bd.bytes
  have hml : c.maxLocals = 1 := hml0
  have hown : s.vm.findClass "com/example/replay/replay/api/EventType" = some m.cls := findClass_of_methodNamed Bd.named
  have hnm := (name_of_methodNamed Bd.named Bd.method).1
  have X0 : Stand p l e ({ frames := 1, cells := 0, slots := 0, locals := 12 } : Room) s m #[(.ref x0)] below meth c s₁ [] 0 0 := Stand.of_body Bd
  have e0 : s₁.heap = h0 := by rw [← hh, Bd.state]; rfl
  show Runs p e below s (QP (.int (1 : Int32)) h0) ({ frames := 1, cells := 0, slots := 0, locals := 12 } : Room).cells ({ frames := 1, cells := 0, slots := 0, locals := 12 } : Room).slots (s₁.setTop (entryFrame m #[(.ref x0)] 1))
  rw [ef_2b m x0]
  have k_0 : ∀ (T : State) (X : Stand p l e ({ frames := 1, cells := 0, slots := 0, locals := 12 } : Room) s m #[(.ref x0)] below meth c T [] 0 0) (eT : T.heap = h0) (N : Fr n0 []), Runs p e below s (QP (.int (1 : Int32)) h0) ({ frames := 1, cells := 0, slots := 0, locals := 12 } : Room).cells ({ frames := 1, cells := 0, slots := 0, locals := 12 } : Room).slots (T.setTop (mkF m 0 #[.val (.ref x0)] [])) := by
    intro T X eT N 
    refine Runs.go (fun _ => XS.aloadN X.here hx rfl (hb hby d2_0) rfl rfl) ?_
    show Runs p e below s _ _ _ (T.setTop (mkF m 1 #[.val (.ref x0)] [(.ref x0)]))
    obtain ⟨Tg1_1, Xg1_1, eg1_1, stg1_1⟩ := getS2 X hx hZ hown (host := "") (Or.inl (hw _ (List.mem_of_getElem? (i := 43) rfl))) Via.refl eT S1 (g := (mkF m 1 #[.val (.ref x0)] [(.ref x0)])) rfl (hb hby d2_1)
    refine Runs.go stg1_1 ?_
    show Runs p e below s _ _ _ (Tg1_1.setTop (mkF m 4 #[.val (.ref x0)] [(.ref y1), (.ref x0)]))
    refine Runs.go (fun _ => Jvm.RoadKit.acmp (g := (mkF m 4 #[.val (.ref x0)] [(.ref y1), (.ref x0)])) Xg1_1 hx rfl rfl rfl (pc0 := 4) (pc' := 7) (same := false) rfl (hb hby d2_4) rfl (decide_eq_false fun q => n1 (Value.ref.inj q)) (by decide) (by decide)) ?_
    show Runs p e below s _ _ _ (Tg1_1.setTop (mkF m 7 #[.val (.ref x0)] []))
    refine Runs.go (fun _ => XS.aloadN Xg1_1.here hx rfl (hb hby d2_7) rfl rfl) ?_
    show Runs p e below s _ _ _ (Tg1_1.setTop (mkF m 8 #[.val (.ref x0)] [(.ref x0)]))
    obtain ⟨cqc8_2, kqc8_2, qc8_2a, qc8_2b, qc8_2c⟩ := isOf hZ eg1_1 E0
    obtain ⟨_, _, ⟨Tc8_2, Lc8_2, kc8_2, nc8_2⟩, -, Xc8_2, ⟨Lcc8_2, hQc8_2, lc8_2, yc8_2, zc8_2⟩, stc8_2⟩ := Xg1_1.virtualBack hx (y := (⟨"com/example/replay/replay/api/EventType", "isActivityOutcome", "()Z"⟩ : MethodName)) (z := (⟨"com/example/replay/replay/api/EventType", "isActivityOutcome", "()Z"⟩ : MethodName)) hown (mvT hZ (hw _ (List.mem_of_getElem? (i := 44) rfl))) (mvT hZ (hw _ (List.mem_of_getElem? (i := 32) rfl))) (notFace_of_selects (args := #[]) (mvT hZ (hw _ (List.mem_of_getElem? (i := 34) rfl)))) (mvT hZ (hw _ (List.mem_of_getElem? (i := 34) rfl))) (mvT hZ (hw _ (List.mem_of_getElem? (i := 33) rfl))) (by decide) (backOf (W := 0) (rm1b l Z a0 hw [] x0 y2 y3 h0 n0 hn0 S2 S3 n2 q3) hZ (hw _ (List.mem_of_getElem? (i := 35) rfl)) (hw _ (List.mem_of_getElem? (i := 3) rfl)) (by decide) (by decide)) qc8_2a qc8_2c (g := (mkF m 8 #[.val (.ref x0)] [(.ref x0)])) rfl (by rw [hml]; rfl) (Steps.refl _) (argsL := []) (rest := []) (lenOf pd_0 rfl) rfl (by show 2 * 0 + _ ≤ _; exact Nat.le_of_eq rfl) (hb hby d2_8) (fun _ _ => ⟨rfl, eg1_1, (by decide : 0 + 0 ≤ _), (by decide : 0 + 0 ≤ _)⟩)
    dsimp only [Pt.U, Pt.locs, Pt.cells, Pt.slots] at Xc8_2 lc8_2 yc8_2 zc8_2 stc8_2 hQc8_2
    subst lc8_2 yc8_2 zc8_2
    obtain ⟨rfl, rfl, ec8_2⟩ := hQc8_2
    refine Runs.go (fun _ => stc8_2.trans) ?_
    have Nc8_2 := Fr.app N (Fr.nil n0)
    show Runs p e below s _ _ _ (Tc8_2.setTop (mkF m 11 #[.val (.ref x0)] [(.int (1 : Int32))]))
    refine Runs.go (fun _ => XS.ifNo Xc8_2.here hx rfl (hb hby d2_11) rfl ((if0 _ _).trans (feq ((by decide) : ¬ ((1 : Int32) = (0 : Int32)))).1)) ?_
    show Runs p e below s _ _ _ (Tc8_2.setTop (mkF m 14 #[.val (.ref x0)] []))
    refine Runs.go (fun _ => XS.iconst Xc8_2.here hx rfl (hb hby d2_14)) ?_
    show Runs p e below s _ _ _ (Tc8_2.setTop (mkF m 15 #[.val (.ref x0)] [(.int (1 : Int32))]))
    refine Runs.go (fun _ => XS.goto Xc8_2.here hx rfl (pc0 := 15) (pc' := 19) rfl (hb hby d2_15) (by decide) (by decide)) ?_
    show Runs p e below s _ _ _ (Tc8_2.setTop (mkF m 19 #[.val (.ref x0)] [(.int (1 : Int32))]))
    exact Runs.endN Xc8_2 hx (t := .boolean) Bd.returns (by simp) Bd.notSynchronized (hb hby d2_19) ⟨rfl, rfl, ec8_2⟩ (by decide) (by decide)
  exact k_0 _ X0 e0 (Fr.nil n0)
theorem d2_18 : decode prog_4_method_7_code 18 = .ok (.iconst 0, 1) := by decide +kernel
theorem ef_2c (m : MethodId) (x0 : Addr) : entryFrame m #[(.ref x0)] 1 = mkF m 0 #[.val (.ref x0)] [] := by first | (simp [entryFrame, mkF, argsToLocals, Value.category]; done) | rfl
set_option maxRecDepth 65536 in
set_option maxHeartbeats 40000000 in
theorem rm2c (l : Launch) (Z : State) (a0 : Array Value) (hw : ∀ d ∈ tables_1, d.before a0 Z = true) (ws : List Jvm.Cond) (x0 y1 y2 y3 : Addr) (h0 : Heap) (n0 : Nat) (hn0 : n0 ≤ h0.size) (E0 : Exa Z h0 x0 "com/example/replay/replay/api/EventType") (S1 : Sta Z h0 "com/example/replay/replay/api/EventType" "ACTIVITY_SCHEDULED" "Lcom/example/replay/replay/api/EventType;" (.ref y1)) (S2 : Sta Z h0 "com/example/replay/replay/api/EventType" "ACTIVITY_COMPLETED" "Lcom/example/replay/replay/api/EventType;" (.ref y2)) (S3 : Sta Z h0 "com/example/replay/replay/api/EventType" "ACTIVITY_FAILED" "Lcom/example/replay/replay/api/EventType;" (.ref y3)) (n1 : x0 ≠ y1) (n2 : x0 ≠ y2) (n3 : x0 ≠ y3) :
    MetFree l (⟨"com/example/replay/replay/api/EventType", "isActivityEvent", "()Z"⟩ : MethodName) (head1 (Jvm.Cond.code (⟨"com/example/replay/replay/api/EventType", "isActivityEvent", "()Z"⟩ : MethodName) prog_4_method_7_code 1 (some .boolean) :: ws) ({ frames := 1, cells := 0, slots := 0, locals := 12 } : Room)) (fun a U => a = #[(.ref x0)] ∧ Z.Warmed39 U.vm ∧ U.heap = h0) (fun _ _ _ _ _ => True) (fun _ U o U' => ∃ v L, o = .returned v ∧ QP (.int (0 : Int32)) h0 v U'.heap L ∧ FrameEnd U o U' L ({ frames := 1, cells := 0, slots := 0, locals := 12 } : Room).cells ({ frames := 1, cells := 0, slots := 0, locals := 12 } : Room).slots) := by
  refine MetFree.of_bodySF (plainFor_of_name pn_2) hisR ?_
  intro p e s m args below meth c s₁ Bd hml0 hP hK
  obtain ⟨rfl, hZ, hh⟩ := hP
  have hx := Bd.exec
  have hby := Bd.bytes
  have hml : c.maxLocals = 1 := hml0
  have hown : s.vm.findClass "com/example/replay/replay/api/EventType" = some m.cls := findClass_of_methodNamed Bd.named
  have hnm := (name_of_methodNamed Bd.named Bd.method).1
  have X0 : Stand p l e ({ frames := 1, cells := 0, slots := 0, locals := 12 } : Room) s m #[(.ref x0)] below meth c s₁ [] 0 0 := Stand.of_body Bd
  have e0 : s₁.heap = h0 := by rw [← hh, Bd.state]; rfl
  show Runs p e below s (QP (.int (0 : Int32)) h0) ({ frames := 1, cells := 0, slots := 0, locals := 12 } : Room).cells ({ frames := 1, cells := 0, slots := 0, locals := 12 } : Room).slots (s₁.setTop (entryFrame m #[(.ref x0)] 1))
  rw [ef_2c m x0]
  have k_0 : ∀ (T : State) (X : Stand p l e ({ frames := 1, cells := 0, slots := 0, locals := 12 } : Room) s m #[(.ref x0)] below meth c T [] 0 0) (eT : T.heap = h0) (N : Fr n0 []), Runs p e below s (QP (.int (0 : Int32)) h0) ({ frames := 1, cells := 0, slots := 0, locals := 12 } : Room).cells ({ frames := 1, cells := 0, slots := 0, locals := 12 } : Room).slots (T.setTop (mkF m 0 #[.val (.ref x0)] [])) := by
    intro T X eT N 
    refine Runs.go (fun _ => XS.aloadN X.here hx rfl (hb hby d2_0) rfl rfl) ?_
    show Runs p e below s _ _ _ (T.setTop (mkF m 1 #[.val (.ref x0)] [(.ref x0)]))
    obtain ⟨Tg1_1, Xg1_1, eg1_1, stg1_1⟩ := getS2 X hx hZ hown (host := "") (Or.inl (hw _ (List.mem_of_getElem? (i := 43) rfl))) Via.refl eT S1 (g := (mkF m 1 #[.val (.ref x0)] [(.ref x0)])) rfl (hb hby d2_1)
    refine Runs.go stg1_1 ?_
    show Runs p e below s _ _ _ (Tg1_1.setTop (mkF m 4 #[.val (.ref x0)] [(.ref y1), (.ref x0)]))
    refine Runs.go (fun _ => Jvm.RoadKit.acmp (g := (mkF m 4 #[.val (.ref x0)] [(.ref y1), (.ref x0)])) Xg1_1 hx rfl rfl rfl (pc0 := 4) (pc' := 7) (same := false) rfl (hb hby d2_4) rfl (decide_eq_false fun q => n1 (Value.ref.inj q)) (by decide) (by decide)) ?_
    show Runs p e below s _ _ _ (Tg1_1.setTop (mkF m 7 #[.val (.ref x0)] []))
    refine Runs.go (fun _ => XS.aloadN Xg1_1.here hx rfl (hb hby d2_7) rfl rfl) ?_
    show Runs p e below s _ _ _ (Tg1_1.setTop (mkF m 8 #[.val (.ref x0)] [(.ref x0)]))
    obtain ⟨cqc8_2, kqc8_2, qc8_2a, qc8_2b, qc8_2c⟩ := isOf hZ eg1_1 E0
    obtain ⟨_, _, ⟨Tc8_2, Lc8_2, kc8_2, nc8_2⟩, -, Xc8_2, ⟨Lcc8_2, hQc8_2, lc8_2, yc8_2, zc8_2⟩, stc8_2⟩ := Xg1_1.virtualBack hx (y := (⟨"com/example/replay/replay/api/EventType", "isActivityOutcome", "()Z"⟩ : MethodName)) (z := (⟨"com/example/replay/replay/api/EventType", "isActivityOutcome", "()Z"⟩ : MethodName)) hown (mvT hZ (hw _ (List.mem_of_getElem? (i := 44) rfl))) (mvT hZ (hw _ (List.mem_of_getElem? (i := 32) rfl))) (notFace_of_selects (args := #[]) (mvT hZ (hw _ (List.mem_of_getElem? (i := 34) rfl)))) (mvT hZ (hw _ (List.mem_of_getElem? (i := 34) rfl))) (mvT hZ (hw _ (List.mem_of_getElem? (i := 33) rfl))) (by decide) (backOf (W := 0) (rm1c l Z a0 hw [] x0 y2 y3 h0 n0 hn0 S2 S3 n2 n3) hZ (hw _ (List.mem_of_getElem? (i := 35) rfl)) (hw _ (List.mem_of_getElem? (i := 3) rfl)) (by decide) (by decide)) qc8_2a qc8_2c (g := (mkF m 8 #[.val (.ref x0)] [(.ref x0)])) rfl (by rw [hml]; rfl) (Steps.refl _) (argsL := []) (rest := []) (lenOf pd_0 rfl) rfl (by show 2 * 0 + _ ≤ _; exact Nat.le_of_eq rfl) (hb hby d2_8) (fun _ _ => ⟨rfl, eg1_1, (by decide : 0 + 0 ≤ _), (by decide : 0 + 0 ≤ _)⟩)
    dsimp only [Pt.U, Pt.locs, Pt.cells, Pt.slots] at Xc8_2 lc8_2 yc8_2 zc8_2 stc8_2 hQc8_2
    subst lc8_2 yc8_2 zc8_2
    obtain ⟨rfl, rfl, ec8_2⟩ := hQc8_2
    refine Runs.go (fun _ => stc8_2.trans) ?_
    have Nc8_2 := Fr.app N (Fr.nil n0)
    show Runs p e below s _ _ _ (Tc8_2.setTop (mkF m 11 #[.val (.ref x0)] [(.int (0 : Int32))]))
    refine Runs.go (fun _ => XS.ifYes Xc8_2.here hx rfl (pc0 := 11) (pc' := 18) rfl (hb hby d2_11) rfl ((if0 _ _).trans (teq (rfl : (0 : Int32) = (0 : Int32))).1) (by decide) (by decide)) ?_
    show Runs p e below s _ _ _ (Tc8_2.setTop (mkF m 18 #[.val (.ref x0)] []))
    refine Runs.go (fun _ => XS.iconst Xc8_2.here hx rfl (hb hby d2_18)) ?_
    show Runs p e below s _ _ _ (Tc8_2.setTop (mkF m 19 #[.val (.ref x0)] [(.int (0 : Int32))]))
    exact Runs.endN Xc8_2 hx (t := .boolean) Bd.returns (by simp) Bd.notSynchronized (hb hby d2_19) ⟨rfl, rfl, ec8_2⟩ (by decide) (by decide)
  exact k_0 _ X0 e0 (Fr.nil n0)
theorem d3_0 : decode prog_4_method_5_code 0 = .ok (.aload_n 0, 1) := by decide +kernel
theorem d3_1 : decode prog_4_method_5_code 1 = .ok (.getfield 66, 3) := by decide +kernel
theorem d3_4 : decode prog_4_method_5_code 4 = .ok (.areturn, 1) := by decide +kernel
theorem pn_3 : plainName "com/example/replay/replay/api/EventType" = true := by first | (simp [plainName, overriddenIn]; done) | decide +kernel
theorem ef_3 (m : MethodId) (x0 : Addr) : entryFrame m #[(.ref x0)] 1 = mkF m 0 #[.val (.ref x0)] [] := by first | (simp [entryFrame, mkF, argsToLocals, Value.category]; done) | rfl
set_option maxRecDepth 65536 in
theorem rm3 (l : Launch) (Z : State) (a0 : Array Value) (hw : ∀ d ∈ tables_1, d.before a0 Z = true) (ws : List Jvm.Cond) (x0 : Addr) (w : Value) (h0 : Heap) (n0 : Nat) (hn0 : n0 ≤ h0.size) (F : Fld Z h0 x0 "com/example/replay/replay/api/EventType" "subject" "Ljava/lang/String;" w) (hr : w.isRef = true) :
    MetFree l (⟨"com/example/replay/replay/api/EventType", "subject", "()Ljava/lang/String;"⟩ : MethodName) (head1 (Jvm.Cond.code (⟨"com/example/replay/replay/api/EventType", "subject", "()Ljava/lang/String;"⟩ : MethodName) prog_4_method_5_code 1 (some (.object "java/lang/String")) :: ws) ({ frames := 0, cells := 0, slots := 0, locals := 0 } : Room)) (fun a U => a = #[(.ref x0)] ∧ Z.Warmed39 U.vm ∧ U.heap = h0) (fun _ _ _ _ _ => True) (fun _ U o U' => ∃ v L, o = .returned v ∧ QP w h0 v U'.heap L ∧ FrameEnd U o U' L ({ frames := 0, cells := 0, slots := 0, locals := 0 } : Room).cells ({ frames := 0, cells := 0, slots := 0, locals := 0 } : Room).slots) := by
  refine MetFree.of_bodySF (plainFor_of_name pn_3) hisR ?_
  intro p e s m args below meth c s₁ Bd hml0 hP hK
  obtain ⟨rfl, hZ, hh⟩ := hP
  have hx := Bd.exec
  have hby := Bd.bytes
  have hown : s.vm.findClass "com/example/replay/replay/api/EventType" = some m.cls := findClass_of_methodNamed Bd.named
  have X0 : Stand p l e ({ frames := 0, cells := 0, slots := 0, locals := 0 } : Room) s m #[(.ref x0)] below meth c s₁ [] 0 0 := Stand.of_body Bd
  have e0 : s₁.heap = h0 := by rw [← hh, Bd.state]; rfl
  show Runs p e below s (QP w h0) ({ frames := 0, cells := 0, slots := 0, locals := 0 } : Room).cells ({ frames := 0, cells := 0, slots := 0, locals := 0 } : Room).slots (s₁.setTop (entryFrame m #[(.ref x0)] 1))
  rw [ef_3 m x0]
  refine Runs.go (fun _ => XS.aloadN X0.here hx rfl (hb hby d3_0) rfl rfl) ?_
  show Runs p e below s _ _ _ (s₁.setTop (mkF m 1 #[.val (.ref x0)] [(.ref x0)]))
  obtain ⟨T1, X1, e1, st1⟩ := getF X0 hx hZ hown (host := "") (Or.inl (hw _ (List.mem_of_getElem? (i := 50) rfl))) Via.refl e0 F (g := (mkF m 1 #[.val (.ref x0)] [(.ref x0)])) rfl rfl (hb hby d3_1)
  refine Runs.go st1 ?_
  show Runs p e below s _ _ _ (T1.setTop (mkF m 4 #[.val (.ref x0)] [w]))
  exact Runs.endW X1 hx Bd.returns rfl hr Bd.notSynchronized (hb hby d3_4) ⟨rfl, rfl, e1⟩ (by decide) (by decide)
theorem own_se (l : Launch) (Z : State) (a0 : Array Value) (hw : ∀ d ∈ tables_1, d.before a0 Z = true) (ws : List Jvm.Cond) {P : Array Value → State → Prop} {as' : Array Value} {r : Int32} {h0 : Heap} (hM : MetFree l Jvm.Free.StrEq.seN Jvm.Free.StrEq.SE.spec P (fun _ _ _ _ _ => True) (PureRet (some (.int r)))) (h2 : as'.size = 2) (hP : ∀ U : State, Z.Warmed39 U.vm → U.heap = h0 → P as' U) : MetFree l (⟨"java/lang/String", "equals", "(Ljava/lang/Object;)Z"⟩ : MethodName) (head1 (Jvm.Cond.code (⟨"java/lang/String", "equals", "(Ljava/lang/Object;)Z"⟩ : MethodName) jdk_42_method_66_code 3 (some .boolean) :: ws) ({ frames := 2, cells := 0, slots := 0, locals := 60 } : Room)) (fun a U => a = as' ∧ Z.Warmed39 U.vm ∧ U.heap = h0) (fun _ _ _ _ _ => True) (fun _ U o U' => ∃ v L, o = .returned v ∧ QP (.int r) h0 v U'.heap L ∧ FrameEnd U o U' L ({ frames := 2, cells := 0, slots := 0, locals := 60 } : Room).cells ({ frames := 2, cells := 0, slots := 0, locals := 60 } : Room).slots) := by
  intro p e ha hc hk s m args below hf happ hA hK
  obtain ⟨rfl, hZ, hh⟩ := hA
  have hs : Jvm.Free.StrEq.SE.spec.appliesLoose Jvm.Free.StrEq.seN e.platform s = true := by
    simp only [Spec.appliesLoose, hf, Bool.and_eq_true] at happ ⊢
    obtain ⟨⟨q1, q2⟩, -⟩ := happ
    refine ⟨⟨q1, q2⟩, ?_⟩
    show (Jvm.Cond.and (.count 2) Jvm.Free.StrEq.SE.tab).before args s = true
    rw [Cond.before_and, Bool.and_eq_true]
    refine ⟨by simp [Cond.before, Cond.holds, Cond.value, h2], ?_⟩
    simp only [Jvm.Free.StrEq.SE.tab, Cond.before_and, Bool.and_eq_true]
    exact ⟨mvT hZ (hw _ (List.mem_of_getElem? (i := 64) rfl)), mvT hZ (hw _ (List.mem_of_getElem? (i := 65) rfl)), mvT hZ (hw _ (List.mem_of_getElem? (i := 67) rfl)), mvT hZ (hw _ (List.mem_of_getElem? (i := 68) rfl)), mvT hZ (hw _ (List.mem_of_getElem? (i := 69) rfl)), mvT hZ (hw _ (List.mem_of_getElem? (i := 70) rfl)), mvT hZ (hw _ (List.mem_of_getElem? (i := 71) rfl)), mvT hZ (hw _ (List.mem_of_getElem? (i := 72) rfl)), mvT hZ (hw _ (List.mem_of_getElem? (i := 73) rfl))⟩
  obtain ⟨n, o, h1, h2', h3, h4, h5, h6⟩ := hM p e ha hc hk s m args below hf hs (hP s hZ hh) trivial
  exact ⟨n, o, h1, h2', h3, _, [], h4, ⟨rfl, rfl, h5.trans hh⟩, h6⟩
theorem rm4n (l : Launch) (Z : State) (a0 : Array Value) (hw : ∀ d ∈ tables_1, d.before a0 Z = true) (ws : List Jvm.Cond) (x0 : Addr) (h0 : Heap) : MetFree l (⟨"java/lang/String", "equals", "(Ljava/lang/Object;)Z"⟩ : MethodName) (head1 (Jvm.Cond.code (⟨"java/lang/String", "equals", "(Ljava/lang/Object;)Z"⟩ : MethodName) jdk_42_method_66_code 3 (some .boolean) :: ws) ({ frames := 2, cells := 0, slots := 0, locals := 60 } : Room)) (fun a U => a = #[(.ref x0), .null] ∧ Z.Warmed39 U.vm ∧ U.heap = h0) (fun _ _ _ _ _ => True) (fun _ U o U' => ∃ v L, o = .returned v ∧ QP (.int (0 : Int32)) h0 v U'.heap L ∧ FrameEnd U o U' L ({ frames := 2, cells := 0, slots := 0, locals := 60 } : Room).cells ({ frames := 2, cells := 0, slots := 0, locals := 60 } : Room).slots) := own_se l Z a0 hw ws (Jvm.Free.StrEq.SE.nul l x0) rfl (fun U _ _ => rfl)
theorem rm4e (l : Launch) (Z : State) (a0 : Array Value) (hw : ∀ d ∈ tables_1, d.before a0 Z = true) (ws : List Jvm.Cond) (x0 x1 : Addr) (h0 : Heap) {d0 d1 : Addr} {k0 k1 : ClassId} {z zc : Int32} {vs : List Int32} (Ex0 : Exa Z h0 x0 STR) (Fcx0 : Fld Z h0 x0 STR "coder" "B" (.int 0)) (Fvx0 : Fld Z h0 x0 STR "value" "[B" (.ref d0)) (Vx0 : Arv Z h0 d0 k0 .byte z (vs.map Value.int) (.int 0)) (Ex1 : Exa Z h0 x1 STR) (Fcx1 : Fld Z h0 x1 STR "coder" "B" (.int 0)) (Fvx1 : Fld Z h0 x1 STR "value" "[B" (.ref d1)) (Vx1 : Arv Z h0 d1 k1 .byte z (vs.map Value.int) (.int 0)) (AC : Sta Z h0 "java/lang/String" "COMPACT_STRINGS" "Z" (.int zc)) (hzc : zc ≠ 0) : MetFree l (⟨"java/lang/String", "equals", "(Ljava/lang/Object;)Z"⟩ : MethodName) (head1 (Jvm.Cond.code (⟨"java/lang/String", "equals", "(Ljava/lang/Object;)Z"⟩ : MethodName) jdk_42_method_66_code 3 (some .boolean) :: ws) ({ frames := 2, cells := 0, slots := 0, locals := 60 } : Room)) (fun a U => a = #[(.ref x0), (.ref x1)] ∧ Z.Warmed39 U.vm ∧ U.heap = h0) (fun _ _ _ _ _ => True) (fun _ U o U' => ∃ v L, o = .returned v ∧ QP (.int (1 : Int32)) h0 v U'.heap L ∧ FrameEnd U o U' L ({ frames := 2, cells := 0, slots := 0, locals := 60 } : Room).cells ({ frames := 2, cells := 0, slots := 0, locals := 60 } : Room).slots) := by
  obtain ⟨fC, fV, Ca, A, ⟨_, _, _, u1⟩, ⟨_, _, _, u2⟩, u3, u4, u5⟩ := own_strAt Ex0 Fcx0 Fvx0 Vx0
  obtain ⟨fC', fV', Cb, Bc, ⟨_, _, _, w1⟩, ⟨_, _, _, w2⟩, w3, w4, w5⟩ := own_strAt Ex1 Fcx1 Fvx1 Vx1
  cases u1.symm.trans w1
  cases u2.symm.trans w2
  by_cases q : x0 = x1
  · subst q; exact own_se l Z a0 hw ws (Jvm.Free.StrEq.SE.same l x0) rfl (fun U _ _ => rfl)
  · have hans : Jvm.Free.StrEq.SE.ans 0 0 A Bc = 1 := by
      have hs : Jvm.Free.StrEq.sameB A Bc = true := by
        rw [Jvm.Free.StrEq.sameB, u4, w4, own_sf _ _ (fun i _ hi => by rw [u5 i (by omega), w5 i (by omega)])]; simp
      rw [Jvm.Free.StrEq.SE.ans, if_pos ⟨rfl, hs⟩]
    have hM := Jvm.Free.StrEq.SE.gets l fC fV x0 Ca 0 d0 A x1 Cb 0 d1 Bc zc
    rw [hans] at hM
    exact own_se l Z a0 hw ws hM rfl (fun U hU hh => ⟨rfl, q, u3 U hU hh, w3 U hU hh, own_stat AC hU hh, hzc⟩)
theorem rm4d (l : Launch) (Z : State) (a0 : Array Value) (hw : ∀ d ∈ tables_1, d.before a0 Z = true) (ws : List Jvm.Cond) (x0 x1 : Addr) (h0 : Heap) {d0 d1 : Addr} {k0 k1 : ClassId} {z z' zc : Int32} {vs vs' : List Int32} (Ex0 : Exa Z h0 x0 STR) (Fcx0 : Fld Z h0 x0 STR "coder" "B" (.int 0)) (Fvx0 : Fld Z h0 x0 STR "value" "[B" (.ref d0)) (Vx0 : Arv Z h0 d0 k0 .byte z (vs.map Value.int) (.int 0)) (Ex1 : Exa Z h0 x1 STR) (Fcx1 : Fld Z h0 x1 STR "coder" "B" (.int 0)) (Fvx1 : Fld Z h0 x1 STR "value" "[B" (.ref d1)) (Vx1 : Arv Z h0 d1 k1 .byte z' (vs'.map Value.int) (.int 0)) (AC : Sta Z h0 "java/lang/String" "COMPACT_STRINGS" "Z" (.int zc)) (hzc : zc ≠ 0) (hd : z.toNatClampNeg ≠ z'.toNatClampNeg) : MetFree l (⟨"java/lang/String", "equals", "(Ljava/lang/Object;)Z"⟩ : MethodName) (head1 (Jvm.Cond.code (⟨"java/lang/String", "equals", "(Ljava/lang/Object;)Z"⟩ : MethodName) jdk_42_method_66_code 3 (some .boolean) :: ws) ({ frames := 2, cells := 0, slots := 0, locals := 60 } : Room)) (fun a U => a = #[(.ref x0), (.ref x1)] ∧ Z.Warmed39 U.vm ∧ U.heap = h0) (fun _ _ _ _ _ => True) (fun _ U o U' => ∃ v L, o = .returned v ∧ QP (.int (0 : Int32)) h0 v U'.heap L ∧ FrameEnd U o U' L ({ frames := 2, cells := 0, slots := 0, locals := 60 } : Room).cells ({ frames := 2, cells := 0, slots := 0, locals := 60 } : Room).slots) := by
  obtain ⟨fC, fV, Ca, A, ⟨_, _, _, u1⟩, ⟨_, _, _, u2⟩, u3, u4, u5⟩ := own_strAt Ex0 Fcx0 Fvx0 Vx0
  obtain ⟨fC', fV', Cb, Bc, ⟨_, _, _, w1⟩, ⟨_, _, _, w2⟩, w3, w4, w5⟩ := own_strAt Ex1 Fcx1 Fvx1 Vx1
  cases u1.symm.trans w1
  cases u2.symm.trans w2
  have q : x0 ≠ x1 := own_dne Fvx0 Vx0 Fvx1 Vx1 hd
  have hans : Jvm.Free.StrEq.SE.ans 0 0 A Bc = 0 := by
    have hs : Jvm.Free.StrEq.sameB A Bc = false := by
      rw [Jvm.Free.StrEq.sameB, u4, w4, beq_false_of_ne hd]; rfl
    rw [Jvm.Free.StrEq.SE.ans, if_neg (fun t => by rw [hs] at t; cases t.2)]
  have hM := Jvm.Free.StrEq.SE.gets l fC fV x0 Ca 0 d0 A x1 Cb 0 d1 Bc zc
  rw [hans] at hM
  exact own_se l Z a0 hw ws hM rfl (fun U hU hh => ⟨rfl, q, u3 U hU hh, w3 U hU hh, own_stat AC hU hh, hzc⟩)
theorem pn_0 : plainName "com/example/replay/replay/api/EventTypeIsActivityOutcomePinLaw" = true := by first | (simp [plainName, overriddenIn]; done) | decide +kernel
theorem ef_0 (m : MethodId) (x0 : Int32) : entryFrame m #[(.int x0)] maxLocals = mkF m 0 #[.val (.int x0), .unset, .unset, .unset, .unset, .unset, .unset] [] := by first | (simp [entryFrame, mkF, argsToLocals, Value.category, maxLocals]; done) | rfl
set_option maxRecDepth 65536 in
set_option maxHeartbeats 40000000 in
theorem rm0 (l : Launch) (Z : State) (a0 : Array Value) (hw : ∀ d ∈ tables_1, d.before a0 Z = true) (ws : List Jvm.Cond) (x0 : Int32) {y0 y1 y2 y3 y4 y5 y6 y7 y8 y9 y10 y11 y12 sA dA sE dE sS dS : Addr} {kA kE kS : ClassId} {zc : Int32}
    (S0 : Sta Z Z.heap "com/example/replay/replay/api/EventType" "RUN_STARTED" "Lcom/example/replay/replay/api/EventType;" (.ref y0))
    (E0 : Exa Z Z.heap y0 "com/example/replay/replay/api/EventType")
    (O0 : Fld Z Z.heap y0 "java/lang/Enum" "ordinal" "I" (.int (0 : Int32)))
    (F0 : Fld Z Z.heap y0 "com/example/replay/replay/api/EventType" "subject" "Ljava/lang/String;" .null)
    (S1 : Sta Z Z.heap "com/example/replay/replay/api/EventType" "ACTIVITY_SCHEDULED" "Lcom/example/replay/replay/api/EventType;" (.ref y1))
    (E1 : Exa Z Z.heap y1 "com/example/replay/replay/api/EventType")
    (O1 : Fld Z Z.heap y1 "java/lang/Enum" "ordinal" "I" (.int (1 : Int32)))
    (F1 : Fld Z Z.heap y1 "com/example/replay/replay/api/EventType" "subject" "Ljava/lang/String;" (.ref sA))
    (S2 : Sta Z Z.heap "com/example/replay/replay/api/EventType" "ACTIVITY_COMPLETED" "Lcom/example/replay/replay/api/EventType;" (.ref y2))
    (E2 : Exa Z Z.heap y2 "com/example/replay/replay/api/EventType")
    (O2 : Fld Z Z.heap y2 "java/lang/Enum" "ordinal" "I" (.int (2 : Int32)))
    (F2 : Fld Z Z.heap y2 "com/example/replay/replay/api/EventType" "subject" "Ljava/lang/String;" (.ref sA))
    (S3 : Sta Z Z.heap "com/example/replay/replay/api/EventType" "ACTIVITY_FAILED" "Lcom/example/replay/replay/api/EventType;" (.ref y3))
    (E3 : Exa Z Z.heap y3 "com/example/replay/replay/api/EventType")
    (O3 : Fld Z Z.heap y3 "java/lang/Enum" "ordinal" "I" (.int (3 : Int32)))
    (F3 : Fld Z Z.heap y3 "com/example/replay/replay/api/EventType" "subject" "Ljava/lang/String;" (.ref sA))
    (S4 : Sta Z Z.heap "com/example/replay/replay/api/EventType" "CLOCK_READ" "Lcom/example/replay/replay/api/EventType;" (.ref y4))
    (E4 : Exa Z Z.heap y4 "com/example/replay/replay/api/EventType")
    (O4 : Fld Z Z.heap y4 "java/lang/Enum" "ordinal" "I" (.int (4 : Int32)))
    (F4 : Fld Z Z.heap y4 "com/example/replay/replay/api/EventType" "subject" "Ljava/lang/String;" .null)
    (S5 : Sta Z Z.heap "com/example/replay/replay/api/EventType" "RANDOM_DRAWN" "Lcom/example/replay/replay/api/EventType;" (.ref y5))
    (E5 : Exa Z Z.heap y5 "com/example/replay/replay/api/EventType")
    (O5 : Fld Z Z.heap y5 "java/lang/Enum" "ordinal" "I" (.int (5 : Int32)))
    (F5 : Fld Z Z.heap y5 "com/example/replay/replay/api/EventType" "subject" "Ljava/lang/String;" .null)
    (S6 : Sta Z Z.heap "com/example/replay/replay/api/EventType" "TIMER_STARTED" "Lcom/example/replay/replay/api/EventType;" (.ref y6))
    (E6 : Exa Z Z.heap y6 "com/example/replay/replay/api/EventType")
    (O6 : Fld Z Z.heap y6 "java/lang/Enum" "ordinal" "I" (.int (6 : Int32)))
    (F6 : Fld Z Z.heap y6 "com/example/replay/replay/api/EventType" "subject" "Ljava/lang/String;" (.ref sE))
    (S7 : Sta Z Z.heap "com/example/replay/replay/api/EventType" "TIMER_FIRED" "Lcom/example/replay/replay/api/EventType;" (.ref y7))
    (E7 : Exa Z Z.heap y7 "com/example/replay/replay/api/EventType")
    (O7 : Fld Z Z.heap y7 "java/lang/Enum" "ordinal" "I" (.int (7 : Int32)))
    (F7 : Fld Z Z.heap y7 "com/example/replay/replay/api/EventType" "subject" "Ljava/lang/String;" .null)
    (S8 : Sta Z Z.heap "com/example/replay/replay/api/EventType" "EVENT_RECEIVED" "Lcom/example/replay/replay/api/EventType;" (.ref y8))
    (E8 : Exa Z Z.heap y8 "com/example/replay/replay/api/EventType")
    (O8 : Fld Z Z.heap y8 "java/lang/Enum" "ordinal" "I" (.int (8 : Int32)))
    (F8 : Fld Z Z.heap y8 "com/example/replay/replay/api/EventType" "subject" "Ljava/lang/String;" (.ref sE))
    (S9 : Sta Z Z.heap "com/example/replay/replay/api/EventType" "STEPS_DECLARED" "Lcom/example/replay/replay/api/EventType;" (.ref y9))
    (E9 : Exa Z Z.heap y9 "com/example/replay/replay/api/EventType")
    (O9 : Fld Z Z.heap y9 "java/lang/Enum" "ordinal" "I" (.int (9 : Int32)))
    (F9 : Fld Z Z.heap y9 "com/example/replay/replay/api/EventType" "subject" "Ljava/lang/String;" .null)
    (S10 : Sta Z Z.heap "com/example/replay/replay/api/EventType" "STEP_NOT_APPLICABLE" "Lcom/example/replay/replay/api/EventType;" (.ref y10))
    (E10 : Exa Z Z.heap y10 "com/example/replay/replay/api/EventType")
    (O10 : Fld Z Z.heap y10 "java/lang/Enum" "ordinal" "I" (.int (10 : Int32)))
    (F10 : Fld Z Z.heap y10 "com/example/replay/replay/api/EventType" "subject" "Ljava/lang/String;" (.ref sS))
    (S11 : Sta Z Z.heap "com/example/replay/replay/api/EventType" "RUN_COMPLETED" "Lcom/example/replay/replay/api/EventType;" (.ref y11))
    (E11 : Exa Z Z.heap y11 "com/example/replay/replay/api/EventType")
    (O11 : Fld Z Z.heap y11 "java/lang/Enum" "ordinal" "I" (.int (11 : Int32)))
    (F11 : Fld Z Z.heap y11 "com/example/replay/replay/api/EventType" "subject" "Ljava/lang/String;" .null)
    (S12 : Sta Z Z.heap "com/example/replay/replay/api/EventType" "RUN_FAILED" "Lcom/example/replay/replay/api/EventType;" (.ref y12))
    (E12 : Exa Z Z.heap y12 "com/example/replay/replay/api/EventType")
    (O12 : Fld Z Z.heap y12 "java/lang/Enum" "ordinal" "I" (.int (12 : Int32)))
    (F12 : Fld Z Z.heap y12 "com/example/replay/replay/api/EventType" "subject" "Ljava/lang/String;" .null)
    (AA1 : Exa Z Z.heap sA STR) (AA2 : Fld Z Z.heap sA STR "coder" "B" (.int 0)) (AA3 : Fld Z Z.heap sA STR "value" "[B" (.ref dA)) (AA4 : Arv Z Z.heap dA kA .byte 8 (own_act.map Value.int) (.int 0))
    (AE1 : Exa Z Z.heap sE STR) (AE2 : Fld Z Z.heap sE STR "coder" "B" (.int 0)) (AE3 : Fld Z Z.heap sE STR "value" "[B" (.ref dE)) (AE4 : Arv Z Z.heap dE kE .byte 5 (own_evt.map Value.int) (.int 0))
    (AS1 : Exa Z Z.heap sS STR) (AS2 : Fld Z Z.heap sS STR "coder" "B" (.int 0)) (AS3 : Fld Z Z.heap sS STR "value" "[B" (.ref dS)) (AS4 : Arv Z Z.heap dS kS .byte 4 (own_stp.map Value.int) (.int 0))
    (AC : Sta Z Z.heap "java/lang/String" "COMPACT_STRINGS" "Z" (.int zc)) (hzc : zc ≠ 0) (hheld : Jvm.Lit.constHeld Z "com/example/replay/replay/api/EventTypeIsActivityOutcomePinLaw" 61) (hcw : Jvm.Lit.compactW.before a0 Z = true) :
    MetFree l x (head1 (Jvm.Cond.code x code maxLocals ret :: ws) room_1) (fun a U => a = #[(.int x0)] ∧ U = Z) (fun _ _ _ _ _ => True) (fun _ U o U' => ∃ v L, o = .returned v ∧ QH (.int (1 : Int32)) Z.heap.size v U'.heap L ∧ ReturnedEndW U o U' L room_1.cells room_1.slots) := by
  refine MetFree.of_bodySF (plainFor_of_name pn_0) hisR ?_
  intro p e s m args below meth c s₁ Bd hml0 hP hK
  obtain ⟨rfl, hsZ⟩ := hP
  have hZ : Z.Warmed39 s.vm := by rw [hsZ]; exact State.Warmed39.refl Z
  have hh : s.heap = Z.heap := by rw [hsZ]
  have I0 : IB Z s.vm [] := by rw [hsZ]; exact IB.start
  have hkeep : ∀ (b : Addr) (cl : Cell), Z.heap[b]? = some cl → s.heap[b]? = some cl := by rw [hsZ]; exact fun _ _ q => q
  have hx := Bd.exec
  have hby := Bd.bytes
  have hml : c.maxLocals = 7 := hml0
  have hown : s.vm.findClass "com/example/replay/replay/api/EventTypeIsActivityOutcomePinLaw" = some m.cls := findClass_of_methodNamed Bd.named
  have wS : ∀ a ∈ Bundle.stringAtoms, a.before a0 Z = true := by
    intro a ha
    simp only [Bundle.stringAtoms, List.mem_cons, List.not_mem_nil, or_false] at ha
    rcases ha with rfl | rfl | rfl | rfl | rfl | rfl | rfl
    · exact (hw _ (List.mem_of_getElem? (i := 53) rfl))
    · exact (hw _ (List.mem_of_getElem? (i := 54) rfl))
    · exact (hw _ (List.mem_of_getElem? (i := 55) rfl))
    · exact (hw _ (List.mem_of_getElem? (i := 56) rfl))
    · exact (hw _ (List.mem_of_getElem? (i := 57) rfl))
    · exact (hw _ (List.mem_of_getElem? (i := 58) rfl))
    · exact (hw _ (List.mem_of_getElem? (i := 59) rfl))
  have X : Stand p l e room_1 s m #[(.int x0)] below meth c s₁ [] 0 0 := Stand.of_body Bd
  have eT : s₁.heap = Z.heap := by rw [← hh, Bd.state]; rfl
  have N := Fr.nil Z.heap.size
  show RunsW p e below s (QH (.int (1 : Int32)) Z.heap.size) room_1.cells room_1.slots (s₁.setTop (entryFrame m #[(.int x0)] maxLocals))
  rw [ef_0 m x0]
  refine RunsW.go (fun _ => XS.bipush X.here hx rfl (hb hby at_0)) ?_
  show RunsW p e below s _ _ _ (s₁.setTop (mkF m 2 #[.val (.int x0), .unset, .unset, .unset, .unset, .unset, .unset] [(.int (13 : Int32))]))
  obtain ⟨Ta2_1, ha2_1, ka2_1, Xa2_1, ea2_1, Ea2_1, Aa2_1, Oa2_1, sta2_1⟩ := newR X hx hZ hown (hw _ (List.mem_of_getElem? (i := 0) rfl)) (hw _ (List.mem_of_getElem? (i := 1) rfl)) eT (g := (mkF m 2 #[.val (.int x0), .unset, .unset, .unset, .unset, .unset, .unset] [(.int (13 : Int32))])) rfl (hb hby at_2) rfl (by decide) (cap := 13) (by decide) (by decide) (by decide) (by decide)
  obtain ⟨ba2_1, ga2_1⟩ : ∃ z, z = Z.heap.size := ⟨_, rfl⟩
  have gb_ba2_1 : Z.heap.size ≤ ba2_1 := Nat.le_trans (Nat.le_refl _) (Nat.le_of_eq ga2_1.symm)
  rw [← ga2_1] at Aa2_1 sta2_1
  refine RunsW.go sta2_1 ?_
  have Ka2_1 : Ext Z.heap ha2_1 := own_extt (own_extr Z.heap) Ea2_1
  have hna2_1 : Z.heap.size ≤ ha2_1.size := Nat.le_trans (Nat.le_refl _) Ea2_1.1
  have Va2_1 : Arv Z ha2_1 ba2_1 ka2_1 (.object "com/example/replay/replay/api/EventType") (13 : Int32) [.null, .null, .null, .null, .null, .null, .null, .null, .null, .null, .null, .null, .null] .null := (Arv.new Aa2_1 (by decide)).pad (pad_rep [] .null 13)
  show RunsW p e below s _ _ _ (Ta2_1.setTop (mkF m 5 #[.val (.int x0), .unset, .unset, .unset, .unset, .unset, .unset] [(.ref ba2_1)]))
  refine RunsW.go (fun _ => XS.dup Xa2_1.here hx rfl (hb hby at_5) rfl rfl) ?_
  show RunsW p e below s _ _ _ (Ta2_1.setTop (mkF m 6 #[.val (.int x0), .unset, .unset, .unset, .unset, .unset, .unset] [(.ref ba2_1), (.ref ba2_1)]))
  refine RunsW.go (fun _ => XS.iconst Xa2_1.here hx rfl (hb hby at_6)) ?_
  show RunsW p e below s _ _ _ (Ta2_1.setTop (mkF m 7 #[.val (.int x0), .unset, .unset, .unset, .unset, .unset, .unset] [(.int (0 : Int32)), (.ref ba2_1), (.ref ba2_1)]))
  obtain ⟨Tg7_2, Xg7_2, eg7_2, stg7_2⟩ := getS2 Xa2_1 hx hZ hown (host := "") (Or.inl (hw _ (List.mem_of_getElem? (i := 2) rfl))) Via.refl ea2_1 (S0.ext Ka2_1) (g := (mkF m 7 #[.val (.int x0), .unset, .unset, .unset, .unset, .unset, .unset] [(.int (0 : Int32)), (.ref ba2_1), (.ref ba2_1)])) rfl (hb hby at_7)
  refine RunsW.go stg7_2 ?_
  show RunsW p e below s _ _ _ (Tg7_2.setTop (mkF m 10 #[.val (.int x0), .unset, .unset, .unset, .unset, .unset, .unset] [(.ref y0), (.int (0 : Int32)), (.ref ba2_1), (.ref ba2_1)]))
  have VCw10_3 := Va2_1
  obtain ⟨clw10_3, Arw10_3, qw10_3, Sw10_3, Mw10_3, Hw10_3, Gw10_3⟩ := VCw10_3
  have hinw10_3 : ¬ ((0 : Int32) < 0 ∨ clw10_3.slots.size ≤ ((0 : Int32)).toNatClampNeg) := inb_of Sw10_3 ⟨by decide, by decide⟩
  obtain ⟨Tw10_3, hw10_3, Xw10_3, ew10_3, Ww10_3, stw10_3⟩ := stR Xg7_2 hx hZ eg7_2 Arw10_3 (j := (0 : Int32)) hinw10_3 rfl (Sto.ofV Arw10_3 qw10_3 Oa2_1 (Ins.of_exa (E0.ext Ka2_1) (hw _ (List.mem_of_getElem? (i := 5) rfl)))) (g := (mkF m 10 #[.val (.int x0), .unset, .unset, .unset, .unset, .unset, .unset] [(.ref y0), (.int (0 : Int32)), (.ref ba2_1), (.ref ba2_1)])) rfl rfl (hb hby at_10)
  refine RunsW.go stw10_3 ?_
  have hnw10_3 : Z.heap.size ≤ hw10_3.size := by rw [Wr.size Ww10_3]; exact hna2_1
  have Kw10_3 : Ext Z.heap hw10_3 := own_extw Ka2_1 Ww10_3 gb_ba2_1
  have Vw10_3 : Arv Z hw10_3 ba2_1 ka2_1 (.object "com/example/replay/replay/api/EventType") (13 : Int32) [(.ref y0), .null, .null, .null, .null, .null, .null, .null, .null, .null, .null, .null, .null] .null := Arv.set Arw10_3 qw10_3 Sw10_3 Mw10_3 Hw10_3 Gw10_3 rfl Ww10_3 0 rfl (Nat.le_of_ble_eq_true rfl)
  have Nw10_3 := Fr.snoc Xw10_3 N gb_ba2_1
  show RunsW p e below s _ _ _ (Tw10_3.setTop (mkF m 11 #[.val (.int x0), .unset, .unset, .unset, .unset, .unset, .unset] [(.ref ba2_1)]))
  refine RunsW.go (fun _ => XS.dup Xw10_3.here hx rfl (hb hby at_11) rfl rfl) ?_
  show RunsW p e below s _ _ _ (Tw10_3.setTop (mkF m 12 #[.val (.int x0), .unset, .unset, .unset, .unset, .unset, .unset] [(.ref ba2_1), (.ref ba2_1)]))
  refine RunsW.go (fun _ => XS.iconst Xw10_3.here hx rfl (hb hby at_12)) ?_
  show RunsW p e below s _ _ _ (Tw10_3.setTop (mkF m 13 #[.val (.int x0), .unset, .unset, .unset, .unset, .unset, .unset] [(.int (1 : Int32)), (.ref ba2_1), (.ref ba2_1)]))
  obtain ⟨Tg13_4, Xg13_4, eg13_4, stg13_4⟩ := getS2 Xw10_3 hx hZ hown (host := "") (Or.inl (hw _ (List.mem_of_getElem? (i := 6) rfl))) Via.refl ew10_3 (S1.ext Kw10_3) (g := (mkF m 13 #[.val (.int x0), .unset, .unset, .unset, .unset, .unset, .unset] [(.int (1 : Int32)), (.ref ba2_1), (.ref ba2_1)])) rfl (hb hby at_13)
  refine RunsW.go stg13_4 ?_
  show RunsW p e below s _ _ _ (Tg13_4.setTop (mkF m 16 #[.val (.int x0), .unset, .unset, .unset, .unset, .unset, .unset] [(.ref y1), (.int (1 : Int32)), (.ref ba2_1), (.ref ba2_1)]))
  have VCw16_5 := Vw10_3
  obtain ⟨clw16_5, Arw16_5, qw16_5, Sw16_5, Mw16_5, Hw16_5, Gw16_5⟩ := VCw16_5
  have hinw16_5 : ¬ ((1 : Int32) < 0 ∨ clw16_5.slots.size ≤ ((1 : Int32)).toNatClampNeg) := inb_of Sw16_5 ⟨by decide, by decide⟩
  obtain ⟨Tw16_5, hw16_5, Xw16_5, ew16_5, Ww16_5, stw16_5⟩ := stR Xg13_4 hx hZ eg13_4 Arw16_5 (j := (1 : Int32)) hinw16_5 rfl (Sto.ofV Arw16_5 qw16_5 Oa2_1 (Ins.of_exa (E1.ext Kw10_3) (hw _ (List.mem_of_getElem? (i := 5) rfl)))) (g := (mkF m 16 #[.val (.int x0), .unset, .unset, .unset, .unset, .unset, .unset] [(.ref y1), (.int (1 : Int32)), (.ref ba2_1), (.ref ba2_1)])) rfl rfl (hb hby at_16)
  refine RunsW.go stw16_5 ?_
  have hnw16_5 : Z.heap.size ≤ hw16_5.size := by rw [Wr.size Ww16_5]; exact hnw10_3
  have Kw16_5 : Ext Z.heap hw16_5 := own_extw Kw10_3 Ww16_5 gb_ba2_1
  have Vw16_5 : Arv Z hw16_5 ba2_1 ka2_1 (.object "com/example/replay/replay/api/EventType") (13 : Int32) [(.ref y0), (.ref y1), .null, .null, .null, .null, .null, .null, .null, .null, .null, .null, .null] .null := Arv.set Arw16_5 qw16_5 Sw16_5 Mw16_5 Hw16_5 Gw16_5 rfl Ww16_5 1 rfl (Nat.le_of_ble_eq_true rfl)
  have Nw16_5 := Fr.snoc Xw16_5 Nw10_3 gb_ba2_1
  show RunsW p e below s _ _ _ (Tw16_5.setTop (mkF m 17 #[.val (.int x0), .unset, .unset, .unset, .unset, .unset, .unset] [(.ref ba2_1)]))
  refine RunsW.go (fun _ => XS.dup Xw16_5.here hx rfl (hb hby at_17) rfl rfl) ?_
  show RunsW p e below s _ _ _ (Tw16_5.setTop (mkF m 18 #[.val (.int x0), .unset, .unset, .unset, .unset, .unset, .unset] [(.ref ba2_1), (.ref ba2_1)]))
  refine RunsW.go (fun _ => XS.iconst Xw16_5.here hx rfl (hb hby at_18)) ?_
  show RunsW p e below s _ _ _ (Tw16_5.setTop (mkF m 19 #[.val (.int x0), .unset, .unset, .unset, .unset, .unset, .unset] [(.int (2 : Int32)), (.ref ba2_1), (.ref ba2_1)]))
  obtain ⟨Tg19_6, Xg19_6, eg19_6, stg19_6⟩ := getS2 Xw16_5 hx hZ hown (host := "") (Or.inl (hw _ (List.mem_of_getElem? (i := 8) rfl))) Via.refl ew16_5 (S2.ext Kw16_5) (g := (mkF m 19 #[.val (.int x0), .unset, .unset, .unset, .unset, .unset, .unset] [(.int (2 : Int32)), (.ref ba2_1), (.ref ba2_1)])) rfl (hb hby at_19)
  refine RunsW.go stg19_6 ?_
  show RunsW p e below s _ _ _ (Tg19_6.setTop (mkF m 22 #[.val (.int x0), .unset, .unset, .unset, .unset, .unset, .unset] [(.ref y2), (.int (2 : Int32)), (.ref ba2_1), (.ref ba2_1)]))
  have VCw22_7 := Vw16_5
  obtain ⟨clw22_7, Arw22_7, qw22_7, Sw22_7, Mw22_7, Hw22_7, Gw22_7⟩ := VCw22_7
  have hinw22_7 : ¬ ((2 : Int32) < 0 ∨ clw22_7.slots.size ≤ ((2 : Int32)).toNatClampNeg) := inb_of Sw22_7 ⟨by decide, by decide⟩
  obtain ⟨Tw22_7, hw22_7, Xw22_7, ew22_7, Ww22_7, stw22_7⟩ := stR Xg19_6 hx hZ eg19_6 Arw22_7 (j := (2 : Int32)) hinw22_7 rfl (Sto.ofV Arw22_7 qw22_7 Oa2_1 (Ins.of_exa (E2.ext Kw16_5) (hw _ (List.mem_of_getElem? (i := 5) rfl)))) (g := (mkF m 22 #[.val (.int x0), .unset, .unset, .unset, .unset, .unset, .unset] [(.ref y2), (.int (2 : Int32)), (.ref ba2_1), (.ref ba2_1)])) rfl rfl (hb hby at_22)
  refine RunsW.go stw22_7 ?_
  have hnw22_7 : Z.heap.size ≤ hw22_7.size := by rw [Wr.size Ww22_7]; exact hnw16_5
  have Kw22_7 : Ext Z.heap hw22_7 := own_extw Kw16_5 Ww22_7 gb_ba2_1
  have Vw22_7 : Arv Z hw22_7 ba2_1 ka2_1 (.object "com/example/replay/replay/api/EventType") (13 : Int32) [(.ref y0), (.ref y1), (.ref y2), .null, .null, .null, .null, .null, .null, .null, .null, .null, .null] .null := Arv.set Arw22_7 qw22_7 Sw22_7 Mw22_7 Hw22_7 Gw22_7 rfl Ww22_7 2 rfl (Nat.le_of_ble_eq_true rfl)
  have Nw22_7 := Fr.snoc Xw22_7 Nw16_5 gb_ba2_1
  show RunsW p e below s _ _ _ (Tw22_7.setTop (mkF m 23 #[.val (.int x0), .unset, .unset, .unset, .unset, .unset, .unset] [(.ref ba2_1)]))
  refine RunsW.go (fun _ => XS.dup Xw22_7.here hx rfl (hb hby at_23) rfl rfl) ?_
  show RunsW p e below s _ _ _ (Tw22_7.setTop (mkF m 24 #[.val (.int x0), .unset, .unset, .unset, .unset, .unset, .unset] [(.ref ba2_1), (.ref ba2_1)]))
  refine RunsW.go (fun _ => XS.iconst Xw22_7.here hx rfl (hb hby at_24)) ?_
  show RunsW p e below s _ _ _ (Tw22_7.setTop (mkF m 25 #[.val (.int x0), .unset, .unset, .unset, .unset, .unset, .unset] [(.int (3 : Int32)), (.ref ba2_1), (.ref ba2_1)]))
  obtain ⟨Tg25_8, Xg25_8, eg25_8, stg25_8⟩ := getS2 Xw22_7 hx hZ hown (host := "") (Or.inl (hw _ (List.mem_of_getElem? (i := 10) rfl))) Via.refl ew22_7 (S3.ext Kw22_7) (g := (mkF m 25 #[.val (.int x0), .unset, .unset, .unset, .unset, .unset, .unset] [(.int (3 : Int32)), (.ref ba2_1), (.ref ba2_1)])) rfl (hb hby at_25)
  refine RunsW.go stg25_8 ?_
  show RunsW p e below s _ _ _ (Tg25_8.setTop (mkF m 28 #[.val (.int x0), .unset, .unset, .unset, .unset, .unset, .unset] [(.ref y3), (.int (3 : Int32)), (.ref ba2_1), (.ref ba2_1)]))
  have VCw28_9 := Vw22_7
  obtain ⟨clw28_9, Arw28_9, qw28_9, Sw28_9, Mw28_9, Hw28_9, Gw28_9⟩ := VCw28_9
  have hinw28_9 : ¬ ((3 : Int32) < 0 ∨ clw28_9.slots.size ≤ ((3 : Int32)).toNatClampNeg) := inb_of Sw28_9 ⟨by decide, by decide⟩
  obtain ⟨Tw28_9, hw28_9, Xw28_9, ew28_9, Ww28_9, stw28_9⟩ := stR Xg25_8 hx hZ eg25_8 Arw28_9 (j := (3 : Int32)) hinw28_9 rfl (Sto.ofV Arw28_9 qw28_9 Oa2_1 (Ins.of_exa (E3.ext Kw22_7) (hw _ (List.mem_of_getElem? (i := 5) rfl)))) (g := (mkF m 28 #[.val (.int x0), .unset, .unset, .unset, .unset, .unset, .unset] [(.ref y3), (.int (3 : Int32)), (.ref ba2_1), (.ref ba2_1)])) rfl rfl (hb hby at_28)
  refine RunsW.go stw28_9 ?_
  have hnw28_9 : Z.heap.size ≤ hw28_9.size := by rw [Wr.size Ww28_9]; exact hnw22_7
  have Kw28_9 : Ext Z.heap hw28_9 := own_extw Kw22_7 Ww28_9 gb_ba2_1
  have Vw28_9 : Arv Z hw28_9 ba2_1 ka2_1 (.object "com/example/replay/replay/api/EventType") (13 : Int32) [(.ref y0), (.ref y1), (.ref y2), (.ref y3), .null, .null, .null, .null, .null, .null, .null, .null, .null] .null := Arv.set Arw28_9 qw28_9 Sw28_9 Mw28_9 Hw28_9 Gw28_9 rfl Ww28_9 3 rfl (Nat.le_of_ble_eq_true rfl)
  have Nw28_9 := Fr.snoc Xw28_9 Nw22_7 gb_ba2_1
  show RunsW p e below s _ _ _ (Tw28_9.setTop (mkF m 29 #[.val (.int x0), .unset, .unset, .unset, .unset, .unset, .unset] [(.ref ba2_1)]))
  refine RunsW.go (fun _ => XS.dup Xw28_9.here hx rfl (hb hby at_29) rfl rfl) ?_
  show RunsW p e below s _ _ _ (Tw28_9.setTop (mkF m 30 #[.val (.int x0), .unset, .unset, .unset, .unset, .unset, .unset] [(.ref ba2_1), (.ref ba2_1)]))
  refine RunsW.go (fun _ => XS.iconst Xw28_9.here hx rfl (hb hby at_30)) ?_
  show RunsW p e below s _ _ _ (Tw28_9.setTop (mkF m 31 #[.val (.int x0), .unset, .unset, .unset, .unset, .unset, .unset] [(.int (4 : Int32)), (.ref ba2_1), (.ref ba2_1)]))
  obtain ⟨Tg31_10, Xg31_10, eg31_10, stg31_10⟩ := getS2 Xw28_9 hx hZ hown (host := "") (Or.inl (hw _ (List.mem_of_getElem? (i := 12) rfl))) Via.refl ew28_9 (S4.ext Kw28_9) (g := (mkF m 31 #[.val (.int x0), .unset, .unset, .unset, .unset, .unset, .unset] [(.int (4 : Int32)), (.ref ba2_1), (.ref ba2_1)])) rfl (hb hby at_31)
  refine RunsW.go stg31_10 ?_
  show RunsW p e below s _ _ _ (Tg31_10.setTop (mkF m 34 #[.val (.int x0), .unset, .unset, .unset, .unset, .unset, .unset] [(.ref y4), (.int (4 : Int32)), (.ref ba2_1), (.ref ba2_1)]))
  have VCw34_11 := Vw28_9
  obtain ⟨clw34_11, Arw34_11, qw34_11, Sw34_11, Mw34_11, Hw34_11, Gw34_11⟩ := VCw34_11
  have hinw34_11 : ¬ ((4 : Int32) < 0 ∨ clw34_11.slots.size ≤ ((4 : Int32)).toNatClampNeg) := inb_of Sw34_11 ⟨by decide, by decide⟩
  obtain ⟨Tw34_11, hw34_11, Xw34_11, ew34_11, Ww34_11, stw34_11⟩ := stR Xg31_10 hx hZ eg31_10 Arw34_11 (j := (4 : Int32)) hinw34_11 rfl (Sto.ofV Arw34_11 qw34_11 Oa2_1 (Ins.of_exa (E4.ext Kw28_9) (hw _ (List.mem_of_getElem? (i := 5) rfl)))) (g := (mkF m 34 #[.val (.int x0), .unset, .unset, .unset, .unset, .unset, .unset] [(.ref y4), (.int (4 : Int32)), (.ref ba2_1), (.ref ba2_1)])) rfl rfl (hb hby at_34)
  refine RunsW.go stw34_11 ?_
  have hnw34_11 : Z.heap.size ≤ hw34_11.size := by rw [Wr.size Ww34_11]; exact hnw28_9
  have Kw34_11 : Ext Z.heap hw34_11 := own_extw Kw28_9 Ww34_11 gb_ba2_1
  have Vw34_11 : Arv Z hw34_11 ba2_1 ka2_1 (.object "com/example/replay/replay/api/EventType") (13 : Int32) [(.ref y0), (.ref y1), (.ref y2), (.ref y3), (.ref y4), .null, .null, .null, .null, .null, .null, .null, .null] .null := Arv.set Arw34_11 qw34_11 Sw34_11 Mw34_11 Hw34_11 Gw34_11 rfl Ww34_11 4 rfl (Nat.le_of_ble_eq_true rfl)
  have Nw34_11 := Fr.snoc Xw34_11 Nw28_9 gb_ba2_1
  show RunsW p e below s _ _ _ (Tw34_11.setTop (mkF m 35 #[.val (.int x0), .unset, .unset, .unset, .unset, .unset, .unset] [(.ref ba2_1)]))
  refine RunsW.go (fun _ => XS.dup Xw34_11.here hx rfl (hb hby at_35) rfl rfl) ?_
  show RunsW p e below s _ _ _ (Tw34_11.setTop (mkF m 36 #[.val (.int x0), .unset, .unset, .unset, .unset, .unset, .unset] [(.ref ba2_1), (.ref ba2_1)]))
  refine RunsW.go (fun _ => XS.iconst Xw34_11.here hx rfl (hb hby at_36)) ?_
  show RunsW p e below s _ _ _ (Tw34_11.setTop (mkF m 37 #[.val (.int x0), .unset, .unset, .unset, .unset, .unset, .unset] [(.int (5 : Int32)), (.ref ba2_1), (.ref ba2_1)]))
  obtain ⟨Tg37_12, Xg37_12, eg37_12, stg37_12⟩ := getS2 Xw34_11 hx hZ hown (host := "") (Or.inl (hw _ (List.mem_of_getElem? (i := 14) rfl))) Via.refl ew34_11 (S5.ext Kw34_11) (g := (mkF m 37 #[.val (.int x0), .unset, .unset, .unset, .unset, .unset, .unset] [(.int (5 : Int32)), (.ref ba2_1), (.ref ba2_1)])) rfl (hb hby at_37)
  refine RunsW.go stg37_12 ?_
  show RunsW p e below s _ _ _ (Tg37_12.setTop (mkF m 40 #[.val (.int x0), .unset, .unset, .unset, .unset, .unset, .unset] [(.ref y5), (.int (5 : Int32)), (.ref ba2_1), (.ref ba2_1)]))
  have VCw40_13 := Vw34_11
  obtain ⟨clw40_13, Arw40_13, qw40_13, Sw40_13, Mw40_13, Hw40_13, Gw40_13⟩ := VCw40_13
  have hinw40_13 : ¬ ((5 : Int32) < 0 ∨ clw40_13.slots.size ≤ ((5 : Int32)).toNatClampNeg) := inb_of Sw40_13 ⟨by decide, by decide⟩
  obtain ⟨Tw40_13, hw40_13, Xw40_13, ew40_13, Ww40_13, stw40_13⟩ := stR Xg37_12 hx hZ eg37_12 Arw40_13 (j := (5 : Int32)) hinw40_13 rfl (Sto.ofV Arw40_13 qw40_13 Oa2_1 (Ins.of_exa (E5.ext Kw34_11) (hw _ (List.mem_of_getElem? (i := 5) rfl)))) (g := (mkF m 40 #[.val (.int x0), .unset, .unset, .unset, .unset, .unset, .unset] [(.ref y5), (.int (5 : Int32)), (.ref ba2_1), (.ref ba2_1)])) rfl rfl (hb hby at_40)
  refine RunsW.go stw40_13 ?_
  have hnw40_13 : Z.heap.size ≤ hw40_13.size := by rw [Wr.size Ww40_13]; exact hnw34_11
  have Kw40_13 : Ext Z.heap hw40_13 := own_extw Kw34_11 Ww40_13 gb_ba2_1
  have Vw40_13 : Arv Z hw40_13 ba2_1 ka2_1 (.object "com/example/replay/replay/api/EventType") (13 : Int32) [(.ref y0), (.ref y1), (.ref y2), (.ref y3), (.ref y4), (.ref y5), .null, .null, .null, .null, .null, .null, .null] .null := Arv.set Arw40_13 qw40_13 Sw40_13 Mw40_13 Hw40_13 Gw40_13 rfl Ww40_13 5 rfl (Nat.le_of_ble_eq_true rfl)
  have Nw40_13 := Fr.snoc Xw40_13 Nw34_11 gb_ba2_1
  show RunsW p e below s _ _ _ (Tw40_13.setTop (mkF m 41 #[.val (.int x0), .unset, .unset, .unset, .unset, .unset, .unset] [(.ref ba2_1)]))
  refine RunsW.go (fun _ => XS.dup Xw40_13.here hx rfl (hb hby at_41) rfl rfl) ?_
  show RunsW p e below s _ _ _ (Tw40_13.setTop (mkF m 42 #[.val (.int x0), .unset, .unset, .unset, .unset, .unset, .unset] [(.ref ba2_1), (.ref ba2_1)]))
  refine RunsW.go (fun _ => XS.bipush Xw40_13.here hx rfl (hb hby at_42)) ?_
  show RunsW p e below s _ _ _ (Tw40_13.setTop (mkF m 44 #[.val (.int x0), .unset, .unset, .unset, .unset, .unset, .unset] [(.int (6 : Int32)), (.ref ba2_1), (.ref ba2_1)]))
  obtain ⟨Tg44_14, Xg44_14, eg44_14, stg44_14⟩ := getS2 Xw40_13 hx hZ hown (host := "") (Or.inl (hw _ (List.mem_of_getElem? (i := 16) rfl))) Via.refl ew40_13 (S6.ext Kw40_13) (g := (mkF m 44 #[.val (.int x0), .unset, .unset, .unset, .unset, .unset, .unset] [(.int (6 : Int32)), (.ref ba2_1), (.ref ba2_1)])) rfl (hb hby at_44)
  refine RunsW.go stg44_14 ?_
  show RunsW p e below s _ _ _ (Tg44_14.setTop (mkF m 47 #[.val (.int x0), .unset, .unset, .unset, .unset, .unset, .unset] [(.ref y6), (.int (6 : Int32)), (.ref ba2_1), (.ref ba2_1)]))
  have VCw47_15 := Vw40_13
  obtain ⟨clw47_15, Arw47_15, qw47_15, Sw47_15, Mw47_15, Hw47_15, Gw47_15⟩ := VCw47_15
  have hinw47_15 : ¬ ((6 : Int32) < 0 ∨ clw47_15.slots.size ≤ ((6 : Int32)).toNatClampNeg) := inb_of Sw47_15 ⟨by decide, by decide⟩
  obtain ⟨Tw47_15, hw47_15, Xw47_15, ew47_15, Ww47_15, stw47_15⟩ := stR Xg44_14 hx hZ eg44_14 Arw47_15 (j := (6 : Int32)) hinw47_15 rfl (Sto.ofV Arw47_15 qw47_15 Oa2_1 (Ins.of_exa (E6.ext Kw40_13) (hw _ (List.mem_of_getElem? (i := 5) rfl)))) (g := (mkF m 47 #[.val (.int x0), .unset, .unset, .unset, .unset, .unset, .unset] [(.ref y6), (.int (6 : Int32)), (.ref ba2_1), (.ref ba2_1)])) rfl rfl (hb hby at_47)
  refine RunsW.go stw47_15 ?_
  have hnw47_15 : Z.heap.size ≤ hw47_15.size := by rw [Wr.size Ww47_15]; exact hnw40_13
  have Kw47_15 : Ext Z.heap hw47_15 := own_extw Kw40_13 Ww47_15 gb_ba2_1
  have Vw47_15 : Arv Z hw47_15 ba2_1 ka2_1 (.object "com/example/replay/replay/api/EventType") (13 : Int32) [(.ref y0), (.ref y1), (.ref y2), (.ref y3), (.ref y4), (.ref y5), (.ref y6), .null, .null, .null, .null, .null, .null] .null := Arv.set Arw47_15 qw47_15 Sw47_15 Mw47_15 Hw47_15 Gw47_15 rfl Ww47_15 6 rfl (Nat.le_of_ble_eq_true rfl)
  have Nw47_15 := Fr.snoc Xw47_15 Nw40_13 gb_ba2_1
  show RunsW p e below s _ _ _ (Tw47_15.setTop (mkF m 48 #[.val (.int x0), .unset, .unset, .unset, .unset, .unset, .unset] [(.ref ba2_1)]))
  refine RunsW.go (fun _ => XS.dup Xw47_15.here hx rfl (hb hby at_48) rfl rfl) ?_
  show RunsW p e below s _ _ _ (Tw47_15.setTop (mkF m 49 #[.val (.int x0), .unset, .unset, .unset, .unset, .unset, .unset] [(.ref ba2_1), (.ref ba2_1)]))
  refine RunsW.go (fun _ => XS.bipush Xw47_15.here hx rfl (hb hby at_49)) ?_
  show RunsW p e below s _ _ _ (Tw47_15.setTop (mkF m 51 #[.val (.int x0), .unset, .unset, .unset, .unset, .unset, .unset] [(.int (7 : Int32)), (.ref ba2_1), (.ref ba2_1)]))
  obtain ⟨Tg51_16, Xg51_16, eg51_16, stg51_16⟩ := getS2 Xw47_15 hx hZ hown (host := "") (Or.inl (hw _ (List.mem_of_getElem? (i := 18) rfl))) Via.refl ew47_15 (S7.ext Kw47_15) (g := (mkF m 51 #[.val (.int x0), .unset, .unset, .unset, .unset, .unset, .unset] [(.int (7 : Int32)), (.ref ba2_1), (.ref ba2_1)])) rfl (hb hby at_51)
  refine RunsW.go stg51_16 ?_
  show RunsW p e below s _ _ _ (Tg51_16.setTop (mkF m 54 #[.val (.int x0), .unset, .unset, .unset, .unset, .unset, .unset] [(.ref y7), (.int (7 : Int32)), (.ref ba2_1), (.ref ba2_1)]))
  have VCw54_17 := Vw47_15
  obtain ⟨clw54_17, Arw54_17, qw54_17, Sw54_17, Mw54_17, Hw54_17, Gw54_17⟩ := VCw54_17
  have hinw54_17 : ¬ ((7 : Int32) < 0 ∨ clw54_17.slots.size ≤ ((7 : Int32)).toNatClampNeg) := inb_of Sw54_17 ⟨by decide, by decide⟩
  obtain ⟨Tw54_17, hw54_17, Xw54_17, ew54_17, Ww54_17, stw54_17⟩ := stR Xg51_16 hx hZ eg51_16 Arw54_17 (j := (7 : Int32)) hinw54_17 rfl (Sto.ofV Arw54_17 qw54_17 Oa2_1 (Ins.of_exa (E7.ext Kw47_15) (hw _ (List.mem_of_getElem? (i := 5) rfl)))) (g := (mkF m 54 #[.val (.int x0), .unset, .unset, .unset, .unset, .unset, .unset] [(.ref y7), (.int (7 : Int32)), (.ref ba2_1), (.ref ba2_1)])) rfl rfl (hb hby at_54)
  refine RunsW.go stw54_17 ?_
  have hnw54_17 : Z.heap.size ≤ hw54_17.size := by rw [Wr.size Ww54_17]; exact hnw47_15
  have Kw54_17 : Ext Z.heap hw54_17 := own_extw Kw47_15 Ww54_17 gb_ba2_1
  have Vw54_17 : Arv Z hw54_17 ba2_1 ka2_1 (.object "com/example/replay/replay/api/EventType") (13 : Int32) [(.ref y0), (.ref y1), (.ref y2), (.ref y3), (.ref y4), (.ref y5), (.ref y6), (.ref y7), .null, .null, .null, .null, .null] .null := Arv.set Arw54_17 qw54_17 Sw54_17 Mw54_17 Hw54_17 Gw54_17 rfl Ww54_17 7 rfl (Nat.le_of_ble_eq_true rfl)
  have Nw54_17 := Fr.snoc Xw54_17 Nw47_15 gb_ba2_1
  show RunsW p e below s _ _ _ (Tw54_17.setTop (mkF m 55 #[.val (.int x0), .unset, .unset, .unset, .unset, .unset, .unset] [(.ref ba2_1)]))
  refine RunsW.go (fun _ => XS.dup Xw54_17.here hx rfl (hb hby at_55) rfl rfl) ?_
  show RunsW p e below s _ _ _ (Tw54_17.setTop (mkF m 56 #[.val (.int x0), .unset, .unset, .unset, .unset, .unset, .unset] [(.ref ba2_1), (.ref ba2_1)]))
  refine RunsW.go (fun _ => XS.bipush Xw54_17.here hx rfl (hb hby at_56)) ?_
  show RunsW p e below s _ _ _ (Tw54_17.setTop (mkF m 58 #[.val (.int x0), .unset, .unset, .unset, .unset, .unset, .unset] [(.int (8 : Int32)), (.ref ba2_1), (.ref ba2_1)]))
  obtain ⟨Tg58_18, Xg58_18, eg58_18, stg58_18⟩ := getS2 Xw54_17 hx hZ hown (host := "") (Or.inl (hw _ (List.mem_of_getElem? (i := 20) rfl))) Via.refl ew54_17 (S8.ext Kw54_17) (g := (mkF m 58 #[.val (.int x0), .unset, .unset, .unset, .unset, .unset, .unset] [(.int (8 : Int32)), (.ref ba2_1), (.ref ba2_1)])) rfl (hb hby at_58)
  refine RunsW.go stg58_18 ?_
  show RunsW p e below s _ _ _ (Tg58_18.setTop (mkF m 61 #[.val (.int x0), .unset, .unset, .unset, .unset, .unset, .unset] [(.ref y8), (.int (8 : Int32)), (.ref ba2_1), (.ref ba2_1)]))
  have VCw61_19 := Vw54_17
  obtain ⟨clw61_19, Arw61_19, qw61_19, Sw61_19, Mw61_19, Hw61_19, Gw61_19⟩ := VCw61_19
  have hinw61_19 : ¬ ((8 : Int32) < 0 ∨ clw61_19.slots.size ≤ ((8 : Int32)).toNatClampNeg) := inb_of Sw61_19 ⟨by decide, by decide⟩
  obtain ⟨Tw61_19, hw61_19, Xw61_19, ew61_19, Ww61_19, stw61_19⟩ := stR Xg58_18 hx hZ eg58_18 Arw61_19 (j := (8 : Int32)) hinw61_19 rfl (Sto.ofV Arw61_19 qw61_19 Oa2_1 (Ins.of_exa (E8.ext Kw54_17) (hw _ (List.mem_of_getElem? (i := 5) rfl)))) (g := (mkF m 61 #[.val (.int x0), .unset, .unset, .unset, .unset, .unset, .unset] [(.ref y8), (.int (8 : Int32)), (.ref ba2_1), (.ref ba2_1)])) rfl rfl (hb hby at_61)
  refine RunsW.go stw61_19 ?_
  have hnw61_19 : Z.heap.size ≤ hw61_19.size := by rw [Wr.size Ww61_19]; exact hnw54_17
  have Kw61_19 : Ext Z.heap hw61_19 := own_extw Kw54_17 Ww61_19 gb_ba2_1
  have Vw61_19 : Arv Z hw61_19 ba2_1 ka2_1 (.object "com/example/replay/replay/api/EventType") (13 : Int32) [(.ref y0), (.ref y1), (.ref y2), (.ref y3), (.ref y4), (.ref y5), (.ref y6), (.ref y7), (.ref y8), .null, .null, .null, .null] .null := Arv.set Arw61_19 qw61_19 Sw61_19 Mw61_19 Hw61_19 Gw61_19 rfl Ww61_19 8 rfl (Nat.le_of_ble_eq_true rfl)
  have Nw61_19 := Fr.snoc Xw61_19 Nw54_17 gb_ba2_1
  show RunsW p e below s _ _ _ (Tw61_19.setTop (mkF m 62 #[.val (.int x0), .unset, .unset, .unset, .unset, .unset, .unset] [(.ref ba2_1)]))
  refine RunsW.go (fun _ => XS.dup Xw61_19.here hx rfl (hb hby at_62) rfl rfl) ?_
  show RunsW p e below s _ _ _ (Tw61_19.setTop (mkF m 63 #[.val (.int x0), .unset, .unset, .unset, .unset, .unset, .unset] [(.ref ba2_1), (.ref ba2_1)]))
  refine RunsW.go (fun _ => XS.bipush Xw61_19.here hx rfl (hb hby at_63)) ?_
  show RunsW p e below s _ _ _ (Tw61_19.setTop (mkF m 65 #[.val (.int x0), .unset, .unset, .unset, .unset, .unset, .unset] [(.int (9 : Int32)), (.ref ba2_1), (.ref ba2_1)]))
  obtain ⟨Tg65_20, Xg65_20, eg65_20, stg65_20⟩ := getS2 Xw61_19 hx hZ hown (host := "") (Or.inl (hw _ (List.mem_of_getElem? (i := 22) rfl))) Via.refl ew61_19 (S9.ext Kw61_19) (g := (mkF m 65 #[.val (.int x0), .unset, .unset, .unset, .unset, .unset, .unset] [(.int (9 : Int32)), (.ref ba2_1), (.ref ba2_1)])) rfl (hb hby at_65)
  refine RunsW.go stg65_20 ?_
  show RunsW p e below s _ _ _ (Tg65_20.setTop (mkF m 68 #[.val (.int x0), .unset, .unset, .unset, .unset, .unset, .unset] [(.ref y9), (.int (9 : Int32)), (.ref ba2_1), (.ref ba2_1)]))
  have VCw68_21 := Vw61_19
  obtain ⟨clw68_21, Arw68_21, qw68_21, Sw68_21, Mw68_21, Hw68_21, Gw68_21⟩ := VCw68_21
  have hinw68_21 : ¬ ((9 : Int32) < 0 ∨ clw68_21.slots.size ≤ ((9 : Int32)).toNatClampNeg) := inb_of Sw68_21 ⟨by decide, by decide⟩
  obtain ⟨Tw68_21, hw68_21, Xw68_21, ew68_21, Ww68_21, stw68_21⟩ := stR Xg65_20 hx hZ eg65_20 Arw68_21 (j := (9 : Int32)) hinw68_21 rfl (Sto.ofV Arw68_21 qw68_21 Oa2_1 (Ins.of_exa (E9.ext Kw61_19) (hw _ (List.mem_of_getElem? (i := 5) rfl)))) (g := (mkF m 68 #[.val (.int x0), .unset, .unset, .unset, .unset, .unset, .unset] [(.ref y9), (.int (9 : Int32)), (.ref ba2_1), (.ref ba2_1)])) rfl rfl (hb hby at_68)
  refine RunsW.go stw68_21 ?_
  have hnw68_21 : Z.heap.size ≤ hw68_21.size := by rw [Wr.size Ww68_21]; exact hnw61_19
  have Kw68_21 : Ext Z.heap hw68_21 := own_extw Kw61_19 Ww68_21 gb_ba2_1
  have Vw68_21 : Arv Z hw68_21 ba2_1 ka2_1 (.object "com/example/replay/replay/api/EventType") (13 : Int32) [(.ref y0), (.ref y1), (.ref y2), (.ref y3), (.ref y4), (.ref y5), (.ref y6), (.ref y7), (.ref y8), (.ref y9), .null, .null, .null] .null := Arv.set Arw68_21 qw68_21 Sw68_21 Mw68_21 Hw68_21 Gw68_21 rfl Ww68_21 9 rfl (Nat.le_of_ble_eq_true rfl)
  have Nw68_21 := Fr.snoc Xw68_21 Nw61_19 gb_ba2_1
  show RunsW p e below s _ _ _ (Tw68_21.setTop (mkF m 69 #[.val (.int x0), .unset, .unset, .unset, .unset, .unset, .unset] [(.ref ba2_1)]))
  refine RunsW.go (fun _ => XS.dup Xw68_21.here hx rfl (hb hby at_69) rfl rfl) ?_
  show RunsW p e below s _ _ _ (Tw68_21.setTop (mkF m 70 #[.val (.int x0), .unset, .unset, .unset, .unset, .unset, .unset] [(.ref ba2_1), (.ref ba2_1)]))
  refine RunsW.go (fun _ => XS.bipush Xw68_21.here hx rfl (hb hby at_70)) ?_
  show RunsW p e below s _ _ _ (Tw68_21.setTop (mkF m 72 #[.val (.int x0), .unset, .unset, .unset, .unset, .unset, .unset] [(.int (10 : Int32)), (.ref ba2_1), (.ref ba2_1)]))
  obtain ⟨Tg72_22, Xg72_22, eg72_22, stg72_22⟩ := getS2 Xw68_21 hx hZ hown (host := "") (Or.inl (hw _ (List.mem_of_getElem? (i := 24) rfl))) Via.refl ew68_21 (S10.ext Kw68_21) (g := (mkF m 72 #[.val (.int x0), .unset, .unset, .unset, .unset, .unset, .unset] [(.int (10 : Int32)), (.ref ba2_1), (.ref ba2_1)])) rfl (hb hby at_72)
  refine RunsW.go stg72_22 ?_
  show RunsW p e below s _ _ _ (Tg72_22.setTop (mkF m 75 #[.val (.int x0), .unset, .unset, .unset, .unset, .unset, .unset] [(.ref y10), (.int (10 : Int32)), (.ref ba2_1), (.ref ba2_1)]))
  have VCw75_23 := Vw68_21
  obtain ⟨clw75_23, Arw75_23, qw75_23, Sw75_23, Mw75_23, Hw75_23, Gw75_23⟩ := VCw75_23
  have hinw75_23 : ¬ ((10 : Int32) < 0 ∨ clw75_23.slots.size ≤ ((10 : Int32)).toNatClampNeg) := inb_of Sw75_23 ⟨by decide, by decide⟩
  obtain ⟨Tw75_23, hw75_23, Xw75_23, ew75_23, Ww75_23, stw75_23⟩ := stR Xg72_22 hx hZ eg72_22 Arw75_23 (j := (10 : Int32)) hinw75_23 rfl (Sto.ofV Arw75_23 qw75_23 Oa2_1 (Ins.of_exa (E10.ext Kw68_21) (hw _ (List.mem_of_getElem? (i := 5) rfl)))) (g := (mkF m 75 #[.val (.int x0), .unset, .unset, .unset, .unset, .unset, .unset] [(.ref y10), (.int (10 : Int32)), (.ref ba2_1), (.ref ba2_1)])) rfl rfl (hb hby at_75)
  refine RunsW.go stw75_23 ?_
  have hnw75_23 : Z.heap.size ≤ hw75_23.size := by rw [Wr.size Ww75_23]; exact hnw68_21
  have Kw75_23 : Ext Z.heap hw75_23 := own_extw Kw68_21 Ww75_23 gb_ba2_1
  have Vw75_23 : Arv Z hw75_23 ba2_1 ka2_1 (.object "com/example/replay/replay/api/EventType") (13 : Int32) [(.ref y0), (.ref y1), (.ref y2), (.ref y3), (.ref y4), (.ref y5), (.ref y6), (.ref y7), (.ref y8), (.ref y9), (.ref y10), .null, .null] .null := Arv.set Arw75_23 qw75_23 Sw75_23 Mw75_23 Hw75_23 Gw75_23 rfl Ww75_23 10 rfl (Nat.le_of_ble_eq_true rfl)
  have Nw75_23 := Fr.snoc Xw75_23 Nw68_21 gb_ba2_1
  show RunsW p e below s _ _ _ (Tw75_23.setTop (mkF m 76 #[.val (.int x0), .unset, .unset, .unset, .unset, .unset, .unset] [(.ref ba2_1)]))
  refine RunsW.go (fun _ => XS.dup Xw75_23.here hx rfl (hb hby at_76) rfl rfl) ?_
  show RunsW p e below s _ _ _ (Tw75_23.setTop (mkF m 77 #[.val (.int x0), .unset, .unset, .unset, .unset, .unset, .unset] [(.ref ba2_1), (.ref ba2_1)]))
  refine RunsW.go (fun _ => XS.bipush Xw75_23.here hx rfl (hb hby at_77)) ?_
  show RunsW p e below s _ _ _ (Tw75_23.setTop (mkF m 79 #[.val (.int x0), .unset, .unset, .unset, .unset, .unset, .unset] [(.int (11 : Int32)), (.ref ba2_1), (.ref ba2_1)]))
  obtain ⟨Tg79_24, Xg79_24, eg79_24, stg79_24⟩ := getS2 Xw75_23 hx hZ hown (host := "") (Or.inl (hw _ (List.mem_of_getElem? (i := 26) rfl))) Via.refl ew75_23 (S11.ext Kw75_23) (g := (mkF m 79 #[.val (.int x0), .unset, .unset, .unset, .unset, .unset, .unset] [(.int (11 : Int32)), (.ref ba2_1), (.ref ba2_1)])) rfl (hb hby at_79)
  refine RunsW.go stg79_24 ?_
  show RunsW p e below s _ _ _ (Tg79_24.setTop (mkF m 82 #[.val (.int x0), .unset, .unset, .unset, .unset, .unset, .unset] [(.ref y11), (.int (11 : Int32)), (.ref ba2_1), (.ref ba2_1)]))
  have VCw82_25 := Vw75_23
  obtain ⟨clw82_25, Arw82_25, qw82_25, Sw82_25, Mw82_25, Hw82_25, Gw82_25⟩ := VCw82_25
  have hinw82_25 : ¬ ((11 : Int32) < 0 ∨ clw82_25.slots.size ≤ ((11 : Int32)).toNatClampNeg) := inb_of Sw82_25 ⟨by decide, by decide⟩
  obtain ⟨Tw82_25, hw82_25, Xw82_25, ew82_25, Ww82_25, stw82_25⟩ := stR Xg79_24 hx hZ eg79_24 Arw82_25 (j := (11 : Int32)) hinw82_25 rfl (Sto.ofV Arw82_25 qw82_25 Oa2_1 (Ins.of_exa (E11.ext Kw75_23) (hw _ (List.mem_of_getElem? (i := 5) rfl)))) (g := (mkF m 82 #[.val (.int x0), .unset, .unset, .unset, .unset, .unset, .unset] [(.ref y11), (.int (11 : Int32)), (.ref ba2_1), (.ref ba2_1)])) rfl rfl (hb hby at_82)
  refine RunsW.go stw82_25 ?_
  have hnw82_25 : Z.heap.size ≤ hw82_25.size := by rw [Wr.size Ww82_25]; exact hnw75_23
  have Kw82_25 : Ext Z.heap hw82_25 := own_extw Kw75_23 Ww82_25 gb_ba2_1
  have Vw82_25 : Arv Z hw82_25 ba2_1 ka2_1 (.object "com/example/replay/replay/api/EventType") (13 : Int32) [(.ref y0), (.ref y1), (.ref y2), (.ref y3), (.ref y4), (.ref y5), (.ref y6), (.ref y7), (.ref y8), (.ref y9), (.ref y10), (.ref y11), .null] .null := Arv.set Arw82_25 qw82_25 Sw82_25 Mw82_25 Hw82_25 Gw82_25 rfl Ww82_25 11 rfl (Nat.le_of_ble_eq_true rfl)
  have Nw82_25 := Fr.snoc Xw82_25 Nw75_23 gb_ba2_1
  show RunsW p e below s _ _ _ (Tw82_25.setTop (mkF m 83 #[.val (.int x0), .unset, .unset, .unset, .unset, .unset, .unset] [(.ref ba2_1)]))
  refine RunsW.go (fun _ => XS.dup Xw82_25.here hx rfl (hb hby at_83) rfl rfl) ?_
  show RunsW p e below s _ _ _ (Tw82_25.setTop (mkF m 84 #[.val (.int x0), .unset, .unset, .unset, .unset, .unset, .unset] [(.ref ba2_1), (.ref ba2_1)]))
  refine RunsW.go (fun _ => XS.bipush Xw82_25.here hx rfl (hb hby at_84)) ?_
  show RunsW p e below s _ _ _ (Tw82_25.setTop (mkF m 86 #[.val (.int x0), .unset, .unset, .unset, .unset, .unset, .unset] [(.int (12 : Int32)), (.ref ba2_1), (.ref ba2_1)]))
  obtain ⟨Tg86_26, Xg86_26, eg86_26, stg86_26⟩ := getS2 Xw82_25 hx hZ hown (host := "") (Or.inl (hw _ (List.mem_of_getElem? (i := 28) rfl))) Via.refl ew82_25 (S12.ext Kw82_25) (g := (mkF m 86 #[.val (.int x0), .unset, .unset, .unset, .unset, .unset, .unset] [(.int (12 : Int32)), (.ref ba2_1), (.ref ba2_1)])) rfl (hb hby at_86)
  refine RunsW.go stg86_26 ?_
  show RunsW p e below s _ _ _ (Tg86_26.setTop (mkF m 89 #[.val (.int x0), .unset, .unset, .unset, .unset, .unset, .unset] [(.ref y12), (.int (12 : Int32)), (.ref ba2_1), (.ref ba2_1)]))
  have VCw89_27 := Vw82_25
  obtain ⟨clw89_27, Arw89_27, qw89_27, Sw89_27, Mw89_27, Hw89_27, Gw89_27⟩ := VCw89_27
  have hinw89_27 : ¬ ((12 : Int32) < 0 ∨ clw89_27.slots.size ≤ ((12 : Int32)).toNatClampNeg) := inb_of Sw89_27 ⟨by decide, by decide⟩
  obtain ⟨Tw89_27, hw89_27, Xw89_27, ew89_27, Ww89_27, stw89_27⟩ := stR Xg86_26 hx hZ eg86_26 Arw89_27 (j := (12 : Int32)) hinw89_27 rfl (Sto.ofV Arw89_27 qw89_27 Oa2_1 (Ins.of_exa (E12.ext Kw82_25) (hw _ (List.mem_of_getElem? (i := 5) rfl)))) (g := (mkF m 89 #[.val (.int x0), .unset, .unset, .unset, .unset, .unset, .unset] [(.ref y12), (.int (12 : Int32)), (.ref ba2_1), (.ref ba2_1)])) rfl rfl (hb hby at_89)
  refine RunsW.go stw89_27 ?_
  have hnw89_27 : Z.heap.size ≤ hw89_27.size := by rw [Wr.size Ww89_27]; exact hnw82_25
  have Kw89_27 : Ext Z.heap hw89_27 := own_extw Kw82_25 Ww89_27 gb_ba2_1
  have Vw89_27 : Arv Z hw89_27 ba2_1 ka2_1 (.object "com/example/replay/replay/api/EventType") (13 : Int32) [(.ref y0), (.ref y1), (.ref y2), (.ref y3), (.ref y4), (.ref y5), (.ref y6), (.ref y7), (.ref y8), (.ref y9), (.ref y10), (.ref y11), (.ref y12)] .null := Arv.set Arw89_27 qw89_27 Sw89_27 Mw89_27 Hw89_27 Gw89_27 rfl Ww89_27 12 rfl (Nat.le_of_ble_eq_true rfl)
  have Nw89_27 := Fr.snoc Xw89_27 Nw82_25 gb_ba2_1
  show RunsW p e below s _ _ _ (Tw89_27.setTop (mkF m 90 #[.val (.int x0), .unset, .unset, .unset, .unset, .unset, .unset] [(.ref ba2_1)]))
  refine RunsW.go (fun _ => XS.astoreN Xw89_27.here hx rfl (hb hby at_90) rfl rfl (l' := #[.val (.int x0), .val (.ref ba2_1), .unset, .unset, .unset, .unset, .unset]) rfl) ?_
  show RunsW p e below s _ _ _ (Tw89_27.setTop (mkF m 91 #[.val (.int x0), .val (.ref ba2_1), .unset, .unset, .unset, .unset, .unset] []))
  refine RunsW.go (fun _ => XS.iloadN Xw89_27.here hx rfl (hb hby at_91) rfl) ?_
  show RunsW p e below s _ _ _ (Tw89_27.setTop (mkF m 92 #[.val (.int x0), .val (.ref ba2_1), .unset, .unset, .unset, .unset, .unset] [(.int x0)]))
  refine RunsW.go (Xw89_27.ldcInt hx hown (mvT hZ (hw _ (List.mem_of_getElem? (i := 30) rfl))) (g := (mkF m 92 #[.val (.int x0), .val (.ref ba2_1), .unset, .unset, .unset, .unset, .unset] [(.int x0)])) rfl (hb hby at_92)) ?_
  show RunsW p e below s _ _ _ (Tw89_27.setTop (mkF m 94 #[.val (.int x0), .val (.ref ba2_1), .unset, .unset, .unset, .unset, .unset] [(.int (2147483647 : Int32)), (.int x0)]))
  refine RunsW.go (fun _ => XS.iand Xw89_27.here hx rfl (hb hby at_94) rfl) ?_
  show RunsW p e below s _ _ _ (Tw89_27.setTop (mkF m 95 #[.val (.int x0), .val (.ref ba2_1), .unset, .unset, .unset, .unset, .unset] [(.int (x0 &&& (2147483647 : Int32)))]))
  refine RunsW.go (fun _ => XS.bipush Xw89_27.here hx rfl (hb hby at_95)) ?_
  show RunsW p e below s _ _ _ (Tw89_27.setTop (mkF m 97 #[.val (.int x0), .val (.ref ba2_1), .unset, .unset, .unset, .unset, .unset] [(.int (13 : Int32)), (.int (x0 &&& (2147483647 : Int32)))]))
  refine RunsW.go (fun _ => XS.irem Xw89_27.here hx rfl (hb hby at_97) rfl (by decide)) ?_
  show RunsW p e below s _ _ _ (Tw89_27.setTop (mkF m 98 #[.val (.int x0), .val (.ref ba2_1), .unset, .unset, .unset, .unset, .unset] [(.int ((x0 &&& (2147483647 : Int32)) - (x0 &&& (2147483647 : Int32)) / (13 : Int32) * (13 : Int32)))]))
  rcases own_mod x0 with q | q | q | q | q | q | q | q | q | q | q | q | q
  · rw [q]
    show RunsW p e below s _ _ _ (Tw89_27.setTop (mkF m 98 #[.val (.int x0), .val (.ref ba2_1), .unset, .unset, .unset, .unset, .unset] [(.int (0 : Int32))]))
    refine RunsW.go (fun _ => XS.istoreN Xw89_27.here hx rfl (hb hby at_98) rfl (l' := #[.val (.int x0), .val (.ref ba2_1), .val (.int (0 : Int32)), .unset, .unset, .unset, .unset]) rfl) ?_
    show RunsW p e below s _ _ _ (Tw89_27.setTop (mkF m 99 #[.val (.int x0), .val (.ref ba2_1), .val (.int (0 : Int32)), .unset, .unset, .unset, .unset] []))
    refine RunsW.go (fun _ => XS.aloadN Xw89_27.here hx rfl (hb hby at_99) rfl rfl) ?_
    show RunsW p e below s _ _ _ (Tw89_27.setTop (mkF m 100 #[.val (.int x0), .val (.ref ba2_1), .val (.int (0 : Int32)), .unset, .unset, .unset, .unset] [(.ref ba2_1)]))
    refine RunsW.go (fun _ => XS.iloadN Xw89_27.here hx rfl (hb hby at_100) rfl) ?_
    show RunsW p e below s _ _ _ (Tw89_27.setTop (mkF m 101 #[.val (.int x0), .val (.ref ba2_1), .val (.int (0 : Int32)), .unset, .unset, .unset, .unset] [(.int (0 : Int32)), (.ref ba2_1)]))
    have VCr101_28 := Vw89_27
    obtain ⟨clr101_28, Arr101_28, -, Sr101_28, Mr101_28, Hr101_28, -⟩ := VCr101_28
    have hinr101_28 : ¬ ((0 : Int32) < 0 ∨ clr101_28.slots.size ≤ ((0 : Int32)).toNatClampNeg) := inb_of Sr101_28 ⟨by decide, by decide⟩
    have hatr101_28 : clr101_28.slots[((0 : Int32)).toNatClampNeg]? = some (.ref y0) := Has.at Hr101_28 hinr101_28 rfl
    refine RunsW.go (Xw89_27.aaload hx (j := (0 : Int32)) (v := (.ref y0)) (by rw [ew89_27]; exact Arr101_28.1) (State.isArrayOf_alike hZ.alike Arr101_28.2.1) rfl Arr101_28.2.2 hinr101_28 hatr101_28 (g := (mkF m 101 #[.val (.int x0), .val (.ref ba2_1), .val (.int (0 : Int32)), .unset, .unset, .unset, .unset] [(.int (0 : Int32)), (.ref ba2_1)])) rfl rfl (hb hby at_101)) ?_
    show RunsW p e below s _ _ _ (Tw89_27.setTop (mkF m 102 #[.val (.int x0), .val (.ref ba2_1), .val (.int (0 : Int32)), .unset, .unset, .unset, .unset] [(.ref y0)]))
    refine RunsW.go (fun _ => XS.astoreN Xw89_27.here hx rfl (hb hby at_102) rfl rfl (l' := #[.val (.int x0), .val (.ref ba2_1), .val (.int (0 : Int32)), .val (.ref y0), .unset, .unset, .unset]) rfl) ?_
    show RunsW p e below s _ _ _ (Tw89_27.setTop (mkF m 103 #[.val (.int x0), .val (.ref ba2_1), .val (.int (0 : Int32)), .val (.ref y0), .unset, .unset, .unset] []))
    refine RunsW.go (fun _ => XS.iloadN Xw89_27.here hx rfl (hb hby at_103) rfl) ?_
    show RunsW p e below s _ _ _ (Tw89_27.setTop (mkF m 104 #[.val (.int x0), .val (.ref ba2_1), .val (.int (0 : Int32)), .val (.ref y0), .unset, .unset, .unset] [(.int (0 : Int32))]))
    refine RunsW.go (fun _ => XS.iconst Xw89_27.here hx rfl (hb hby at_104)) ?_
    show RunsW p e below s _ _ _ (Tw89_27.setTop (mkF m 105 #[.val (.int x0), .val (.ref ba2_1), .val (.int (0 : Int32)), .val (.ref y0), .unset, .unset, .unset] [(.int (2 : Int32)), (.int (0 : Int32))]))
    refine RunsW.go (fun _ => XS.icmpNo Xw89_27.here hx rfl (hb hby at_105) rfl (feq ((by decide) : ¬ ((0 : Int32) = (2 : Int32)))).1) ?_
    show RunsW p e below s _ _ _ (Tw89_27.setTop (mkF m 108 #[.val (.int x0), .val (.ref ba2_1), .val (.int (0 : Int32)), .val (.ref y0), .unset, .unset, .unset] []))
    refine RunsW.go (fun _ => XS.iloadN Xw89_27.here hx rfl (hb hby at_108) rfl) ?_
    show RunsW p e below s _ _ _ (Tw89_27.setTop (mkF m 109 #[.val (.int x0), .val (.ref ba2_1), .val (.int (0 : Int32)), .val (.ref y0), .unset, .unset, .unset] [(.int (0 : Int32))]))
    refine RunsW.go (fun _ => XS.iconst Xw89_27.here hx rfl (hb hby at_109)) ?_
    show RunsW p e below s _ _ _ (Tw89_27.setTop (mkF m 110 #[.val (.int x0), .val (.ref ba2_1), .val (.int (0 : Int32)), .val (.ref y0), .unset, .unset, .unset] [(.int (3 : Int32)), (.int (0 : Int32))]))
    refine RunsW.go (fun _ => XS.icmpYes Xw89_27.here hx rfl (pc0 := 110) (pc' := 117) rfl (hb hby at_110) rfl (feq ((by decide) : ¬ ((0 : Int32) = (3 : Int32)))).2 (by decide) (by decide)) ?_
    show RunsW p e below s _ _ _ (Tw89_27.setTop (mkF m 117 #[.val (.int x0), .val (.ref ba2_1), .val (.int (0 : Int32)), .val (.ref y0), .unset, .unset, .unset] []))
    refine RunsW.go (fun _ => XS.iconst Xw89_27.here hx rfl (hb hby at_117)) ?_
    show RunsW p e below s _ _ _ (Tw89_27.setTop (mkF m 118 #[.val (.int x0), .val (.ref ba2_1), .val (.int (0 : Int32)), .val (.ref y0), .unset, .unset, .unset] [(.int (0 : Int32))]))
    refine RunsW.go (fun _ => XS.istore Xw89_27.here hx rfl (hb hby at_118) rfl (l' := #[.val (.int x0), .val (.ref ba2_1), .val (.int (0 : Int32)), .val (.ref y0), .val (.int (0 : Int32)), .unset, .unset]) rfl) ?_
    show RunsW p e below s _ _ _ (Tw89_27.setTop (mkF m 120 #[.val (.int x0), .val (.ref ba2_1), .val (.int (0 : Int32)), .val (.ref y0), .val (.int (0 : Int32)), .unset, .unset] []))
    refine RunsW.go (fun _ => XS.aloadN Xw89_27.here hx rfl (hb hby at_120) rfl rfl) ?_
    show RunsW p e below s _ _ _ (Tw89_27.setTop (mkF m 121 #[.val (.int x0), .val (.ref ba2_1), .val (.int (0 : Int32)), .val (.ref y0), .val (.int (0 : Int32)), .unset, .unset] [(.ref y0)]))
    obtain ⟨cqc121_29, kqc121_29, qc121_29a, qc121_29b, qc121_29c⟩ := isOf hZ ew89_27 (E0.ext Kw89_27)
    obtain ⟨_, _, ⟨Tc121_29, Lc121_29, kc121_29, nc121_29⟩, -, Xc121_29, ⟨Lcc121_29, hQc121_29, lc121_29, yc121_29, zc121_29⟩, stc121_29⟩ := Xw89_27.virtualBack hx (y := (⟨"com/example/replay/replay/api/EventType", "isActivityOutcome", "()Z"⟩ : MethodName)) (z := (⟨"com/example/replay/replay/api/EventType", "isActivityOutcome", "()Z"⟩ : MethodName)) hown (mvT hZ (hw _ (List.mem_of_getElem? (i := 31) rfl))) (mvT hZ (hw _ (List.mem_of_getElem? (i := 32) rfl))) (notFace_of_selects (args := #[]) (mvT hZ (hw _ (List.mem_of_getElem? (i := 34) rfl)))) (mvT hZ (hw _ (List.mem_of_getElem? (i := 34) rfl))) (mvT hZ (hw _ (List.mem_of_getElem? (i := 33) rfl))) (by decide) (backOf (W := 0) (rm1c l Z a0 hw [] y0 y2 y3 hw89_27 Z.heap.size hnw89_27 (S2.ext Kw89_27) (S3.ext Kw89_27) (Fld.ne O0 O2 (by decide)) (Fld.ne O0 O3 (by decide))) hZ (hw _ (List.mem_of_getElem? (i := 35) rfl)) (hw _ (List.mem_of_getElem? (i := 3) rfl)) (by decide) (by decide)) qc121_29a qc121_29c (g := (mkF m 121 #[.val (.int x0), .val (.ref ba2_1), .val (.int (0 : Int32)), .val (.ref y0), .val (.int (0 : Int32)), .unset, .unset] [(.ref y0)])) rfl (by rw [hml]; rfl) (Steps.refl _) (argsL := []) (rest := []) (lenOf pd_0 rfl) rfl (by show 2 * 0 + _ ≤ _; exact Nat.le_of_eq rfl) (hb hby at_121) (fun _ _ => ⟨rfl, ew89_27, (by decide : 1 + 0 ≤ _), (by decide : 13 + 0 ≤ _)⟩)
    dsimp only [Pt.U, Pt.locs, Pt.cells, Pt.slots] at Xc121_29 lc121_29 yc121_29 zc121_29 stc121_29 hQc121_29
    subst lc121_29 yc121_29 zc121_29
    obtain ⟨rfl, rfl, ec121_29⟩ := hQc121_29
    refine RunsW.go (fun _ => stc121_29.trans) ?_
    have Nc121_29 := Fr.app Nw89_27 (Fr.nil Z.heap.size)
    show RunsW p e below s _ _ _ (Tc121_29.setTop (mkF m 124 #[.val (.int x0), .val (.ref ba2_1), .val (.int (0 : Int32)), .val (.ref y0), .val (.int (0 : Int32)), .unset, .unset] [(.int (0 : Int32))]))
    refine RunsW.go (fun _ => XS.istore Xc121_29.here hx rfl (hb hby at_124) rfl (l' := #[.val (.int x0), .val (.ref ba2_1), .val (.int (0 : Int32)), .val (.ref y0), .val (.int (0 : Int32)), .val (.int (0 : Int32)), .unset]) rfl) ?_
    show RunsW p e below s _ _ _ (Tc121_29.setTop (mkF m 126 #[.val (.int x0), .val (.ref ba2_1), .val (.int (0 : Int32)), .val (.ref y0), .val (.int (0 : Int32)), .val (.int (0 : Int32)), .unset] []))
    refine RunsW.go (fun _ => XS.iload Xc121_29.here hx rfl (hb hby at_126) rfl) ?_
    show RunsW p e below s _ _ _ (Tc121_29.setTop (mkF m 128 #[.val (.int x0), .val (.ref ba2_1), .val (.int (0 : Int32)), .val (.ref y0), .val (.int (0 : Int32)), .val (.int (0 : Int32)), .unset] [(.int (0 : Int32))]))
    refine RunsW.go (fun _ => XS.iload Xc121_29.here hx rfl (hb hby at_128) rfl) ?_
    show RunsW p e below s _ _ _ (Tc121_29.setTop (mkF m 130 #[.val (.int x0), .val (.ref ba2_1), .val (.int (0 : Int32)), .val (.ref y0), .val (.int (0 : Int32)), .val (.int (0 : Int32)), .unset] [(.int (0 : Int32)), (.int (0 : Int32))]))
    refine RunsW.go (fun _ => XS.icmpYes Xc121_29.here hx rfl (pc0 := 130) (pc' := 135) rfl (hb hby at_130) rfl (teq (rfl : (0 : Int32) = (0 : Int32))).1 (by decide) (by decide)) ?_
    show RunsW p e below s _ _ _ (Tc121_29.setTop (mkF m 135 #[.val (.int x0), .val (.ref ba2_1), .val (.int (0 : Int32)), .val (.ref y0), .val (.int (0 : Int32)), .val (.int (0 : Int32)), .unset] []))
    refine RunsW.go (fun _ => XS.iload Xc121_29.here hx rfl (hb hby at_135) rfl) ?_
    show RunsW p e below s _ _ _ (Tc121_29.setTop (mkF m 137 #[.val (.int x0), .val (.ref ba2_1), .val (.int (0 : Int32)), .val (.ref y0), .val (.int (0 : Int32)), .val (.int (0 : Int32)), .unset] [(.int (0 : Int32))]))
    refine RunsW.go (fun _ => XS.ifYes Xc121_29.here hx rfl (pc0 := 137) (pc' := 172) rfl (hb hby at_137) rfl ((if0 _ _).trans (teq (rfl : (0 : Int32) = (0 : Int32))).1) (by decide) (by decide)) ?_
    show RunsW p e below s _ _ _ (Tc121_29.setTop (mkF m 172 #[.val (.int x0), .val (.ref ba2_1), .val (.int (0 : Int32)), .val (.ref y0), .val (.int (0 : Int32)), .val (.int (0 : Int32)), .unset] []))
    refine RunsW.go (fun _ => XS.iconst Xc121_29.here hx rfl (hb hby at_172)) ?_
    show RunsW p e below s _ _ _ (Tc121_29.setTop (mkF m 173 #[.val (.int x0), .val (.ref ba2_1), .val (.int (0 : Int32)), .val (.ref y0), .val (.int (0 : Int32)), .val (.int (0 : Int32)), .unset] [(.int (1 : Int32))]))
    exact RunsW.endN0 Xc121_29 hx (t := .boolean) Bd.returns (by simp) Bd.notSynchronized (hb hby at_173) ⟨rfl, Nc121_29⟩ (by decide) (by decide)
  · rw [q]
    show RunsW p e below s _ _ _ (Tw89_27.setTop (mkF m 98 #[.val (.int x0), .val (.ref ba2_1), .unset, .unset, .unset, .unset, .unset] [(.int (1 : Int32))]))
    refine RunsW.go (fun _ => XS.istoreN Xw89_27.here hx rfl (hb hby at_98) rfl (l' := #[.val (.int x0), .val (.ref ba2_1), .val (.int (1 : Int32)), .unset, .unset, .unset, .unset]) rfl) ?_
    show RunsW p e below s _ _ _ (Tw89_27.setTop (mkF m 99 #[.val (.int x0), .val (.ref ba2_1), .val (.int (1 : Int32)), .unset, .unset, .unset, .unset] []))
    refine RunsW.go (fun _ => XS.aloadN Xw89_27.here hx rfl (hb hby at_99) rfl rfl) ?_
    show RunsW p e below s _ _ _ (Tw89_27.setTop (mkF m 100 #[.val (.int x0), .val (.ref ba2_1), .val (.int (1 : Int32)), .unset, .unset, .unset, .unset] [(.ref ba2_1)]))
    refine RunsW.go (fun _ => XS.iloadN Xw89_27.here hx rfl (hb hby at_100) rfl) ?_
    show RunsW p e below s _ _ _ (Tw89_27.setTop (mkF m 101 #[.val (.int x0), .val (.ref ba2_1), .val (.int (1 : Int32)), .unset, .unset, .unset, .unset] [(.int (1 : Int32)), (.ref ba2_1)]))
    have VCr101_30 := Vw89_27
    obtain ⟨clr101_30, Arr101_30, -, Sr101_30, Mr101_30, Hr101_30, -⟩ := VCr101_30
    have hinr101_30 : ¬ ((1 : Int32) < 0 ∨ clr101_30.slots.size ≤ ((1 : Int32)).toNatClampNeg) := inb_of Sr101_30 ⟨by decide, by decide⟩
    have hatr101_30 : clr101_30.slots[((1 : Int32)).toNatClampNeg]? = some (.ref y1) := Has.at Hr101_30 hinr101_30 rfl
    refine RunsW.go (Xw89_27.aaload hx (j := (1 : Int32)) (v := (.ref y1)) (by rw [ew89_27]; exact Arr101_30.1) (State.isArrayOf_alike hZ.alike Arr101_30.2.1) rfl Arr101_30.2.2 hinr101_30 hatr101_30 (g := (mkF m 101 #[.val (.int x0), .val (.ref ba2_1), .val (.int (1 : Int32)), .unset, .unset, .unset, .unset] [(.int (1 : Int32)), (.ref ba2_1)])) rfl rfl (hb hby at_101)) ?_
    show RunsW p e below s _ _ _ (Tw89_27.setTop (mkF m 102 #[.val (.int x0), .val (.ref ba2_1), .val (.int (1 : Int32)), .unset, .unset, .unset, .unset] [(.ref y1)]))
    refine RunsW.go (fun _ => XS.astoreN Xw89_27.here hx rfl (hb hby at_102) rfl rfl (l' := #[.val (.int x0), .val (.ref ba2_1), .val (.int (1 : Int32)), .val (.ref y1), .unset, .unset, .unset]) rfl) ?_
    show RunsW p e below s _ _ _ (Tw89_27.setTop (mkF m 103 #[.val (.int x0), .val (.ref ba2_1), .val (.int (1 : Int32)), .val (.ref y1), .unset, .unset, .unset] []))
    refine RunsW.go (fun _ => XS.iloadN Xw89_27.here hx rfl (hb hby at_103) rfl) ?_
    show RunsW p e below s _ _ _ (Tw89_27.setTop (mkF m 104 #[.val (.int x0), .val (.ref ba2_1), .val (.int (1 : Int32)), .val (.ref y1), .unset, .unset, .unset] [(.int (1 : Int32))]))
    refine RunsW.go (fun _ => XS.iconst Xw89_27.here hx rfl (hb hby at_104)) ?_
    show RunsW p e below s _ _ _ (Tw89_27.setTop (mkF m 105 #[.val (.int x0), .val (.ref ba2_1), .val (.int (1 : Int32)), .val (.ref y1), .unset, .unset, .unset] [(.int (2 : Int32)), (.int (1 : Int32))]))
    refine RunsW.go (fun _ => XS.icmpNo Xw89_27.here hx rfl (hb hby at_105) rfl (feq ((by decide) : ¬ ((1 : Int32) = (2 : Int32)))).1) ?_
    show RunsW p e below s _ _ _ (Tw89_27.setTop (mkF m 108 #[.val (.int x0), .val (.ref ba2_1), .val (.int (1 : Int32)), .val (.ref y1), .unset, .unset, .unset] []))
    refine RunsW.go (fun _ => XS.iloadN Xw89_27.here hx rfl (hb hby at_108) rfl) ?_
    show RunsW p e below s _ _ _ (Tw89_27.setTop (mkF m 109 #[.val (.int x0), .val (.ref ba2_1), .val (.int (1 : Int32)), .val (.ref y1), .unset, .unset, .unset] [(.int (1 : Int32))]))
    refine RunsW.go (fun _ => XS.iconst Xw89_27.here hx rfl (hb hby at_109)) ?_
    show RunsW p e below s _ _ _ (Tw89_27.setTop (mkF m 110 #[.val (.int x0), .val (.ref ba2_1), .val (.int (1 : Int32)), .val (.ref y1), .unset, .unset, .unset] [(.int (3 : Int32)), (.int (1 : Int32))]))
    refine RunsW.go (fun _ => XS.icmpYes Xw89_27.here hx rfl (pc0 := 110) (pc' := 117) rfl (hb hby at_110) rfl (feq ((by decide) : ¬ ((1 : Int32) = (3 : Int32)))).2 (by decide) (by decide)) ?_
    show RunsW p e below s _ _ _ (Tw89_27.setTop (mkF m 117 #[.val (.int x0), .val (.ref ba2_1), .val (.int (1 : Int32)), .val (.ref y1), .unset, .unset, .unset] []))
    refine RunsW.go (fun _ => XS.iconst Xw89_27.here hx rfl (hb hby at_117)) ?_
    show RunsW p e below s _ _ _ (Tw89_27.setTop (mkF m 118 #[.val (.int x0), .val (.ref ba2_1), .val (.int (1 : Int32)), .val (.ref y1), .unset, .unset, .unset] [(.int (0 : Int32))]))
    refine RunsW.go (fun _ => XS.istore Xw89_27.here hx rfl (hb hby at_118) rfl (l' := #[.val (.int x0), .val (.ref ba2_1), .val (.int (1 : Int32)), .val (.ref y1), .val (.int (0 : Int32)), .unset, .unset]) rfl) ?_
    show RunsW p e below s _ _ _ (Tw89_27.setTop (mkF m 120 #[.val (.int x0), .val (.ref ba2_1), .val (.int (1 : Int32)), .val (.ref y1), .val (.int (0 : Int32)), .unset, .unset] []))
    refine RunsW.go (fun _ => XS.aloadN Xw89_27.here hx rfl (hb hby at_120) rfl rfl) ?_
    show RunsW p e below s _ _ _ (Tw89_27.setTop (mkF m 121 #[.val (.int x0), .val (.ref ba2_1), .val (.int (1 : Int32)), .val (.ref y1), .val (.int (0 : Int32)), .unset, .unset] [(.ref y1)]))
    obtain ⟨cqc121_31, kqc121_31, qc121_31a, qc121_31b, qc121_31c⟩ := isOf hZ ew89_27 (E1.ext Kw89_27)
    obtain ⟨_, _, ⟨Tc121_31, Lc121_31, kc121_31, nc121_31⟩, -, Xc121_31, ⟨Lcc121_31, hQc121_31, lc121_31, yc121_31, zc121_31⟩, stc121_31⟩ := Xw89_27.virtualBack hx (y := (⟨"com/example/replay/replay/api/EventType", "isActivityOutcome", "()Z"⟩ : MethodName)) (z := (⟨"com/example/replay/replay/api/EventType", "isActivityOutcome", "()Z"⟩ : MethodName)) hown (mvT hZ (hw _ (List.mem_of_getElem? (i := 31) rfl))) (mvT hZ (hw _ (List.mem_of_getElem? (i := 32) rfl))) (notFace_of_selects (args := #[]) (mvT hZ (hw _ (List.mem_of_getElem? (i := 34) rfl)))) (mvT hZ (hw _ (List.mem_of_getElem? (i := 34) rfl))) (mvT hZ (hw _ (List.mem_of_getElem? (i := 33) rfl))) (by decide) (backOf (W := 0) (rm1c l Z a0 hw [] y1 y2 y3 hw89_27 Z.heap.size hnw89_27 (S2.ext Kw89_27) (S3.ext Kw89_27) (Fld.ne O1 O2 (by decide)) (Fld.ne O1 O3 (by decide))) hZ (hw _ (List.mem_of_getElem? (i := 35) rfl)) (hw _ (List.mem_of_getElem? (i := 3) rfl)) (by decide) (by decide)) qc121_31a qc121_31c (g := (mkF m 121 #[.val (.int x0), .val (.ref ba2_1), .val (.int (1 : Int32)), .val (.ref y1), .val (.int (0 : Int32)), .unset, .unset] [(.ref y1)])) rfl (by rw [hml]; rfl) (Steps.refl _) (argsL := []) (rest := []) (lenOf pd_0 rfl) rfl (by show 2 * 0 + _ ≤ _; exact Nat.le_of_eq rfl) (hb hby at_121) (fun _ _ => ⟨rfl, ew89_27, (by decide : 1 + 0 ≤ _), (by decide : 13 + 0 ≤ _)⟩)
    dsimp only [Pt.U, Pt.locs, Pt.cells, Pt.slots] at Xc121_31 lc121_31 yc121_31 zc121_31 stc121_31 hQc121_31
    subst lc121_31 yc121_31 zc121_31
    obtain ⟨rfl, rfl, ec121_31⟩ := hQc121_31
    refine RunsW.go (fun _ => stc121_31.trans) ?_
    have Nc121_31 := Fr.app Nw89_27 (Fr.nil Z.heap.size)
    show RunsW p e below s _ _ _ (Tc121_31.setTop (mkF m 124 #[.val (.int x0), .val (.ref ba2_1), .val (.int (1 : Int32)), .val (.ref y1), .val (.int (0 : Int32)), .unset, .unset] [(.int (0 : Int32))]))
    refine RunsW.go (fun _ => XS.istore Xc121_31.here hx rfl (hb hby at_124) rfl (l' := #[.val (.int x0), .val (.ref ba2_1), .val (.int (1 : Int32)), .val (.ref y1), .val (.int (0 : Int32)), .val (.int (0 : Int32)), .unset]) rfl) ?_
    show RunsW p e below s _ _ _ (Tc121_31.setTop (mkF m 126 #[.val (.int x0), .val (.ref ba2_1), .val (.int (1 : Int32)), .val (.ref y1), .val (.int (0 : Int32)), .val (.int (0 : Int32)), .unset] []))
    refine RunsW.go (fun _ => XS.iload Xc121_31.here hx rfl (hb hby at_126) rfl) ?_
    show RunsW p e below s _ _ _ (Tc121_31.setTop (mkF m 128 #[.val (.int x0), .val (.ref ba2_1), .val (.int (1 : Int32)), .val (.ref y1), .val (.int (0 : Int32)), .val (.int (0 : Int32)), .unset] [(.int (0 : Int32))]))
    refine RunsW.go (fun _ => XS.iload Xc121_31.here hx rfl (hb hby at_128) rfl) ?_
    show RunsW p e below s _ _ _ (Tc121_31.setTop (mkF m 130 #[.val (.int x0), .val (.ref ba2_1), .val (.int (1 : Int32)), .val (.ref y1), .val (.int (0 : Int32)), .val (.int (0 : Int32)), .unset] [(.int (0 : Int32)), (.int (0 : Int32))]))
    refine RunsW.go (fun _ => XS.icmpYes Xc121_31.here hx rfl (pc0 := 130) (pc' := 135) rfl (hb hby at_130) rfl (teq (rfl : (0 : Int32) = (0 : Int32))).1 (by decide) (by decide)) ?_
    show RunsW p e below s _ _ _ (Tc121_31.setTop (mkF m 135 #[.val (.int x0), .val (.ref ba2_1), .val (.int (1 : Int32)), .val (.ref y1), .val (.int (0 : Int32)), .val (.int (0 : Int32)), .unset] []))
    refine RunsW.go (fun _ => XS.iload Xc121_31.here hx rfl (hb hby at_135) rfl) ?_
    show RunsW p e below s _ _ _ (Tc121_31.setTop (mkF m 137 #[.val (.int x0), .val (.ref ba2_1), .val (.int (1 : Int32)), .val (.ref y1), .val (.int (0 : Int32)), .val (.int (0 : Int32)), .unset] [(.int (0 : Int32))]))
    refine RunsW.go (fun _ => XS.ifYes Xc121_31.here hx rfl (pc0 := 137) (pc' := 172) rfl (hb hby at_137) rfl ((if0 _ _).trans (teq (rfl : (0 : Int32) = (0 : Int32))).1) (by decide) (by decide)) ?_
    show RunsW p e below s _ _ _ (Tc121_31.setTop (mkF m 172 #[.val (.int x0), .val (.ref ba2_1), .val (.int (1 : Int32)), .val (.ref y1), .val (.int (0 : Int32)), .val (.int (0 : Int32)), .unset] []))
    refine RunsW.go (fun _ => XS.iconst Xc121_31.here hx rfl (hb hby at_172)) ?_
    show RunsW p e below s _ _ _ (Tc121_31.setTop (mkF m 173 #[.val (.int x0), .val (.ref ba2_1), .val (.int (1 : Int32)), .val (.ref y1), .val (.int (0 : Int32)), .val (.int (0 : Int32)), .unset] [(.int (1 : Int32))]))
    exact RunsW.endN0 Xc121_31 hx (t := .boolean) Bd.returns (by simp) Bd.notSynchronized (hb hby at_173) ⟨rfl, Nc121_31⟩ (by decide) (by decide)
  · rw [q]
    show RunsW p e below s _ _ _ (Tw89_27.setTop (mkF m 98 #[.val (.int x0), .val (.ref ba2_1), .unset, .unset, .unset, .unset, .unset] [(.int (2 : Int32))]))
    refine RunsW.go (fun _ => XS.istoreN Xw89_27.here hx rfl (hb hby at_98) rfl (l' := #[.val (.int x0), .val (.ref ba2_1), .val (.int (2 : Int32)), .unset, .unset, .unset, .unset]) rfl) ?_
    show RunsW p e below s _ _ _ (Tw89_27.setTop (mkF m 99 #[.val (.int x0), .val (.ref ba2_1), .val (.int (2 : Int32)), .unset, .unset, .unset, .unset] []))
    refine RunsW.go (fun _ => XS.aloadN Xw89_27.here hx rfl (hb hby at_99) rfl rfl) ?_
    show RunsW p e below s _ _ _ (Tw89_27.setTop (mkF m 100 #[.val (.int x0), .val (.ref ba2_1), .val (.int (2 : Int32)), .unset, .unset, .unset, .unset] [(.ref ba2_1)]))
    refine RunsW.go (fun _ => XS.iloadN Xw89_27.here hx rfl (hb hby at_100) rfl) ?_
    show RunsW p e below s _ _ _ (Tw89_27.setTop (mkF m 101 #[.val (.int x0), .val (.ref ba2_1), .val (.int (2 : Int32)), .unset, .unset, .unset, .unset] [(.int (2 : Int32)), (.ref ba2_1)]))
    have VCr101_32 := Vw89_27
    obtain ⟨clr101_32, Arr101_32, -, Sr101_32, Mr101_32, Hr101_32, -⟩ := VCr101_32
    have hinr101_32 : ¬ ((2 : Int32) < 0 ∨ clr101_32.slots.size ≤ ((2 : Int32)).toNatClampNeg) := inb_of Sr101_32 ⟨by decide, by decide⟩
    have hatr101_32 : clr101_32.slots[((2 : Int32)).toNatClampNeg]? = some (.ref y2) := Has.at Hr101_32 hinr101_32 rfl
    refine RunsW.go (Xw89_27.aaload hx (j := (2 : Int32)) (v := (.ref y2)) (by rw [ew89_27]; exact Arr101_32.1) (State.isArrayOf_alike hZ.alike Arr101_32.2.1) rfl Arr101_32.2.2 hinr101_32 hatr101_32 (g := (mkF m 101 #[.val (.int x0), .val (.ref ba2_1), .val (.int (2 : Int32)), .unset, .unset, .unset, .unset] [(.int (2 : Int32)), (.ref ba2_1)])) rfl rfl (hb hby at_101)) ?_
    show RunsW p e below s _ _ _ (Tw89_27.setTop (mkF m 102 #[.val (.int x0), .val (.ref ba2_1), .val (.int (2 : Int32)), .unset, .unset, .unset, .unset] [(.ref y2)]))
    refine RunsW.go (fun _ => XS.astoreN Xw89_27.here hx rfl (hb hby at_102) rfl rfl (l' := #[.val (.int x0), .val (.ref ba2_1), .val (.int (2 : Int32)), .val (.ref y2), .unset, .unset, .unset]) rfl) ?_
    show RunsW p e below s _ _ _ (Tw89_27.setTop (mkF m 103 #[.val (.int x0), .val (.ref ba2_1), .val (.int (2 : Int32)), .val (.ref y2), .unset, .unset, .unset] []))
    refine RunsW.go (fun _ => XS.iloadN Xw89_27.here hx rfl (hb hby at_103) rfl) ?_
    show RunsW p e below s _ _ _ (Tw89_27.setTop (mkF m 104 #[.val (.int x0), .val (.ref ba2_1), .val (.int (2 : Int32)), .val (.ref y2), .unset, .unset, .unset] [(.int (2 : Int32))]))
    refine RunsW.go (fun _ => XS.iconst Xw89_27.here hx rfl (hb hby at_104)) ?_
    show RunsW p e below s _ _ _ (Tw89_27.setTop (mkF m 105 #[.val (.int x0), .val (.ref ba2_1), .val (.int (2 : Int32)), .val (.ref y2), .unset, .unset, .unset] [(.int (2 : Int32)), (.int (2 : Int32))]))
    refine RunsW.go (fun _ => XS.icmpYes Xw89_27.here hx rfl (pc0 := 105) (pc' := 113) rfl (hb hby at_105) rfl (teq (rfl : (2 : Int32) = (2 : Int32))).1 (by decide) (by decide)) ?_
    show RunsW p e below s _ _ _ (Tw89_27.setTop (mkF m 113 #[.val (.int x0), .val (.ref ba2_1), .val (.int (2 : Int32)), .val (.ref y2), .unset, .unset, .unset] []))
    refine RunsW.go (fun _ => XS.iconst Xw89_27.here hx rfl (hb hby at_113)) ?_
    show RunsW p e below s _ _ _ (Tw89_27.setTop (mkF m 114 #[.val (.int x0), .val (.ref ba2_1), .val (.int (2 : Int32)), .val (.ref y2), .unset, .unset, .unset] [(.int (1 : Int32))]))
    refine RunsW.go (fun _ => XS.goto Xw89_27.here hx rfl (pc0 := 114) (pc' := 118) rfl (hb hby at_114) (by decide) (by decide)) ?_
    show RunsW p e below s _ _ _ (Tw89_27.setTop (mkF m 118 #[.val (.int x0), .val (.ref ba2_1), .val (.int (2 : Int32)), .val (.ref y2), .unset, .unset, .unset] [(.int (1 : Int32))]))
    refine RunsW.go (fun _ => XS.istore Xw89_27.here hx rfl (hb hby at_118) rfl (l' := #[.val (.int x0), .val (.ref ba2_1), .val (.int (2 : Int32)), .val (.ref y2), .val (.int (1 : Int32)), .unset, .unset]) rfl) ?_
    show RunsW p e below s _ _ _ (Tw89_27.setTop (mkF m 120 #[.val (.int x0), .val (.ref ba2_1), .val (.int (2 : Int32)), .val (.ref y2), .val (.int (1 : Int32)), .unset, .unset] []))
    refine RunsW.go (fun _ => XS.aloadN Xw89_27.here hx rfl (hb hby at_120) rfl rfl) ?_
    show RunsW p e below s _ _ _ (Tw89_27.setTop (mkF m 121 #[.val (.int x0), .val (.ref ba2_1), .val (.int (2 : Int32)), .val (.ref y2), .val (.int (1 : Int32)), .unset, .unset] [(.ref y2)]))
    obtain ⟨cqc121_33, kqc121_33, qc121_33a, qc121_33b, qc121_33c⟩ := isOf hZ ew89_27 (E2.ext Kw89_27)
    obtain ⟨_, _, ⟨Tc121_33, Lc121_33, kc121_33, nc121_33⟩, -, Xc121_33, ⟨Lcc121_33, hQc121_33, lc121_33, yc121_33, zc121_33⟩, stc121_33⟩ := Xw89_27.virtualBack hx (y := (⟨"com/example/replay/replay/api/EventType", "isActivityOutcome", "()Z"⟩ : MethodName)) (z := (⟨"com/example/replay/replay/api/EventType", "isActivityOutcome", "()Z"⟩ : MethodName)) hown (mvT hZ (hw _ (List.mem_of_getElem? (i := 31) rfl))) (mvT hZ (hw _ (List.mem_of_getElem? (i := 32) rfl))) (notFace_of_selects (args := #[]) (mvT hZ (hw _ (List.mem_of_getElem? (i := 34) rfl)))) (mvT hZ (hw _ (List.mem_of_getElem? (i := 34) rfl))) (mvT hZ (hw _ (List.mem_of_getElem? (i := 33) rfl))) (by decide) (backOf (W := 0) (rm1a l Z a0 hw [] y2 y2 y3 hw89_27 Z.heap.size hnw89_27 (S2.ext Kw89_27) (S3.ext Kw89_27) rfl) hZ (hw _ (List.mem_of_getElem? (i := 35) rfl)) (hw _ (List.mem_of_getElem? (i := 3) rfl)) (by decide) (by decide)) qc121_33a qc121_33c (g := (mkF m 121 #[.val (.int x0), .val (.ref ba2_1), .val (.int (2 : Int32)), .val (.ref y2), .val (.int (1 : Int32)), .unset, .unset] [(.ref y2)])) rfl (by rw [hml]; rfl) (Steps.refl _) (argsL := []) (rest := []) (lenOf pd_0 rfl) rfl (by show 2 * 0 + _ ≤ _; exact Nat.le_of_eq rfl) (hb hby at_121) (fun _ _ => ⟨rfl, ew89_27, (by decide : 1 + 0 ≤ _), (by decide : 13 + 0 ≤ _)⟩)
    dsimp only [Pt.U, Pt.locs, Pt.cells, Pt.slots] at Xc121_33 lc121_33 yc121_33 zc121_33 stc121_33 hQc121_33
    subst lc121_33 yc121_33 zc121_33
    obtain ⟨rfl, rfl, ec121_33⟩ := hQc121_33
    refine RunsW.go (fun _ => stc121_33.trans) ?_
    have Nc121_33 := Fr.app Nw89_27 (Fr.nil Z.heap.size)
    show RunsW p e below s _ _ _ (Tc121_33.setTop (mkF m 124 #[.val (.int x0), .val (.ref ba2_1), .val (.int (2 : Int32)), .val (.ref y2), .val (.int (1 : Int32)), .unset, .unset] [(.int (1 : Int32))]))
    refine RunsW.go (fun _ => XS.istore Xc121_33.here hx rfl (hb hby at_124) rfl (l' := #[.val (.int x0), .val (.ref ba2_1), .val (.int (2 : Int32)), .val (.ref y2), .val (.int (1 : Int32)), .val (.int (1 : Int32)), .unset]) rfl) ?_
    show RunsW p e below s _ _ _ (Tc121_33.setTop (mkF m 126 #[.val (.int x0), .val (.ref ba2_1), .val (.int (2 : Int32)), .val (.ref y2), .val (.int (1 : Int32)), .val (.int (1 : Int32)), .unset] []))
    refine RunsW.go (fun _ => XS.iload Xc121_33.here hx rfl (hb hby at_126) rfl) ?_
    show RunsW p e below s _ _ _ (Tc121_33.setTop (mkF m 128 #[.val (.int x0), .val (.ref ba2_1), .val (.int (2 : Int32)), .val (.ref y2), .val (.int (1 : Int32)), .val (.int (1 : Int32)), .unset] [(.int (1 : Int32))]))
    refine RunsW.go (fun _ => XS.iload Xc121_33.here hx rfl (hb hby at_128) rfl) ?_
    show RunsW p e below s _ _ _ (Tc121_33.setTop (mkF m 130 #[.val (.int x0), .val (.ref ba2_1), .val (.int (2 : Int32)), .val (.ref y2), .val (.int (1 : Int32)), .val (.int (1 : Int32)), .unset] [(.int (1 : Int32)), (.int (1 : Int32))]))
    refine RunsW.go (fun _ => XS.icmpYes Xc121_33.here hx rfl (pc0 := 130) (pc' := 135) rfl (hb hby at_130) rfl (teq (rfl : (1 : Int32) = (1 : Int32))).1 (by decide) (by decide)) ?_
    show RunsW p e below s _ _ _ (Tc121_33.setTop (mkF m 135 #[.val (.int x0), .val (.ref ba2_1), .val (.int (2 : Int32)), .val (.ref y2), .val (.int (1 : Int32)), .val (.int (1 : Int32)), .unset] []))
    refine RunsW.go (fun _ => XS.iload Xc121_33.here hx rfl (hb hby at_135) rfl) ?_
    show RunsW p e below s _ _ _ (Tc121_33.setTop (mkF m 137 #[.val (.int x0), .val (.ref ba2_1), .val (.int (2 : Int32)), .val (.ref y2), .val (.int (1 : Int32)), .val (.int (1 : Int32)), .unset] [(.int (1 : Int32))]))
    refine RunsW.go (fun _ => XS.ifNo Xc121_33.here hx rfl (hb hby at_137) rfl ((if0 _ _).trans (feq ((by decide) : ¬ ((1 : Int32) = (0 : Int32)))).1)) ?_
    show RunsW p e below s _ _ _ (Tc121_33.setTop (mkF m 140 #[.val (.int x0), .val (.ref ba2_1), .val (.int (2 : Int32)), .val (.ref y2), .val (.int (1 : Int32)), .val (.int (1 : Int32)), .unset] []))
    refine RunsW.go (fun _ => XS.aloadN Xc121_33.here hx rfl (hb hby at_140) rfl rfl) ?_
    show RunsW p e below s _ _ _ (Tc121_33.setTop (mkF m 141 #[.val (.int x0), .val (.ref ba2_1), .val (.int (2 : Int32)), .val (.ref y2), .val (.int (1 : Int32)), .val (.int (1 : Int32)), .unset] [(.ref y2)]))
    obtain ⟨cqc141_34, kqc141_34, qc141_34a, qc141_34b, qc141_34c⟩ := isOf hZ ec121_33 (E2.ext Kw89_27)
    obtain ⟨_, _, ⟨Tc141_34, Lc141_34, kc141_34, nc141_34⟩, -, Xc141_34, ⟨Lcc141_34, hQc141_34, lc141_34, yc141_34, zc141_34⟩, stc141_34⟩ := Xc121_33.virtualBack hx (y := (⟨"com/example/replay/replay/api/EventType", "isActivityEvent", "()Z"⟩ : MethodName)) (z := (⟨"com/example/replay/replay/api/EventType", "isActivityEvent", "()Z"⟩ : MethodName)) hown (mvT hZ (hw _ (List.mem_of_getElem? (i := 38) rfl))) (mvT hZ (hw _ (List.mem_of_getElem? (i := 39) rfl))) (notFace_of_selects (args := #[]) (mvT hZ (hw _ (List.mem_of_getElem? (i := 41) rfl)))) (mvT hZ (hw _ (List.mem_of_getElem? (i := 41) rfl))) (mvT hZ (hw _ (List.mem_of_getElem? (i := 40) rfl))) (by decide) (backOf (W := 0) (rm2a l Z a0 hw [] y2 y1 y2 y3 hw89_27 Z.heap.size hnw89_27 (E2.ext Kw89_27) (S1.ext Kw89_27) (S2.ext Kw89_27) (S3.ext Kw89_27) (Fld.ne O2 O1 (by decide)) rfl) hZ (hw _ (List.mem_of_getElem? (i := 42) rfl)) (hw _ (List.mem_of_getElem? (i := 3) rfl)) (by decide) (by decide)) qc141_34a qc141_34c (g := (mkF m 141 #[.val (.int x0), .val (.ref ba2_1), .val (.int (2 : Int32)), .val (.ref y2), .val (.int (1 : Int32)), .val (.int (1 : Int32)), .unset] [(.ref y2)])) rfl (by rw [hml]; rfl) (Steps.refl _) (argsL := []) (rest := []) (lenOf pd_0 rfl) rfl (by show 2 * 0 + _ ≤ _; exact Nat.le_of_eq rfl) (hb hby at_141) (fun _ _ => ⟨rfl, ec121_33, (by decide : 1 + 0 ≤ _), (by decide : 13 + 0 ≤ _)⟩)
    dsimp only [Pt.U, Pt.locs, Pt.cells, Pt.slots] at Xc141_34 lc141_34 yc141_34 zc141_34 stc141_34 hQc141_34
    subst lc141_34 yc141_34 zc141_34
    obtain ⟨rfl, rfl, ec141_34⟩ := hQc141_34
    refine RunsW.go (fun _ => stc141_34.trans) ?_
    have Nc141_34 := Fr.app Nc121_33 (Fr.nil Z.heap.size)
    show RunsW p e below s _ _ _ (Tc141_34.setTop (mkF m 144 #[.val (.int x0), .val (.ref ba2_1), .val (.int (2 : Int32)), .val (.ref y2), .val (.int (1 : Int32)), .val (.int (1 : Int32)), .unset] [(.int (1 : Int32))]))
    refine RunsW.go (fun _ => XS.ifYes Xc141_34.here hx rfl (pc0 := 144) (pc' := 149) rfl (hb hby at_144) rfl ((if0 _ _).trans (feq ((by decide) : ¬ ((1 : Int32) = (0 : Int32)))).2) (by decide) (by decide)) ?_
    show RunsW p e below s _ _ _ (Tc141_34.setTop (mkF m 149 #[.val (.int x0), .val (.ref ba2_1), .val (.int (2 : Int32)), .val (.ref y2), .val (.int (1 : Int32)), .val (.int (1 : Int32)), .unset] []))
    refine RunsW.go (fun _ => XS.aloadN Xc141_34.here hx rfl (hb hby at_149) rfl rfl) ?_
    show RunsW p e below s _ _ _ (Tc141_34.setTop (mkF m 150 #[.val (.int x0), .val (.ref ba2_1), .val (.int (2 : Int32)), .val (.ref y2), .val (.int (1 : Int32)), .val (.int (1 : Int32)), .unset] [(.ref y2)]))
    obtain ⟨cqc150_35, kqc150_35, qc150_35a, qc150_35b, qc150_35c⟩ := isOf hZ ec141_34 (E2.ext Kw89_27)
    obtain ⟨_, _, ⟨Tc150_35, Lc150_35, kc150_35, nc150_35⟩, -, Xc150_35, ⟨Lcc150_35, hQc150_35, lc150_35, yc150_35, zc150_35⟩, stc150_35⟩ := Xc141_34.virtualBack hx (y := (⟨"com/example/replay/replay/api/EventType", "subject", "()Ljava/lang/String;"⟩ : MethodName)) (z := (⟨"com/example/replay/replay/api/EventType", "subject", "()Ljava/lang/String;"⟩ : MethodName)) hown (mvT hZ (hw _ (List.mem_of_getElem? (i := 45) rfl))) (mvT hZ (hw _ (List.mem_of_getElem? (i := 46) rfl))) (notFace_of_selects (args := #[]) (mvT hZ (hw _ (List.mem_of_getElem? (i := 48) rfl)))) (mvT hZ (hw _ (List.mem_of_getElem? (i := 48) rfl))) (mvT hZ (hw _ (List.mem_of_getElem? (i := 47) rfl))) (by decide) (backOf (W := 0) (rm3 l Z a0 hw [] y2 (.ref sA) hw89_27 Z.heap.size hnw89_27 (F2.ext Kw89_27) rfl) hZ (hw _ (List.mem_of_getElem? (i := 49) rfl)) (hw _ (List.mem_of_getElem? (i := 3) rfl)) (by decide) (by decide)) qc150_35a qc150_35c (g := (mkF m 150 #[.val (.int x0), .val (.ref ba2_1), .val (.int (2 : Int32)), .val (.ref y2), .val (.int (1 : Int32)), .val (.int (1 : Int32)), .unset] [(.ref y2)])) rfl (by rw [hml]; rfl) (Steps.refl _) (argsL := []) (rest := []) (lenOf pd_1 rfl) rfl (by show 2 * 0 + _ ≤ _; exact Nat.le_of_eq rfl) (hb hby at_150) (fun _ _ => ⟨rfl, ec141_34, (by decide : 1 + 0 ≤ _), (by decide : 13 + 0 ≤ _)⟩)
    dsimp only [Pt.U, Pt.locs, Pt.cells, Pt.slots] at Xc150_35 lc150_35 yc150_35 zc150_35 stc150_35 hQc150_35
    subst lc150_35 yc150_35 zc150_35
    obtain ⟨rfl, rfl, ec150_35⟩ := hQc150_35
    refine RunsW.go (fun _ => stc150_35.trans) ?_
    have Nc150_35 := Fr.app Nc141_34 (Fr.nil Z.heap.size)
    show RunsW p e below s _ _ _ (Tc150_35.setTop (mkF m 153 #[.val (.int x0), .val (.ref ba2_1), .val (.int (2 : Int32)), .val (.ref y2), .val (.int (1 : Int32)), .val (.int (1 : Int32)), .unset] [(.ref sA)]))
    refine RunsW.go (fun _ => XS.astore Xc150_35.here hx rfl (hb hby at_153) rfl rfl (l' := #[.val (.int x0), .val (.ref ba2_1), .val (.int (2 : Int32)), .val (.ref y2), .val (.int (1 : Int32)), .val (.int (1 : Int32)), .val (.ref sA)]) rfl) ?_
    show RunsW p e below s _ _ _ (Tc150_35.setTop (mkF m 155 #[.val (.int x0), .val (.ref ba2_1), .val (.int (2 : Int32)), .val (.ref y2), .val (.int (1 : Int32)), .val (.int (1 : Int32)), .val (.ref sA)] []))
    refine RunsW.go (fun _ => XS.aload Xc150_35.here hx rfl (hb hby at_155) rfl rfl) ?_
    show RunsW p e below s _ _ _ (Tc150_35.setTop (mkF m 157 #[.val (.int x0), .val (.ref ba2_1), .val (.int (2 : Int32)), .val (.ref y2), .val (.int (1 : Int32)), .val (.int (1 : Int32)), .val (.ref sA)] [(.ref sA)]))
    refine RunsW.go (fun _ => XS.ifnullNo Xc150_35.here hx rfl (hb hby at_157) rfl) ?_
    show RunsW p e below s _ _ _ (Tc150_35.setTop (mkF m 160 #[.val (.int x0), .val (.ref ba2_1), .val (.int (2 : Int32)), .val (.ref y2), .val (.int (1 : Int32)), .val (.int (1 : Int32)), .val (.ref sA)] []))
    refine RunsW.go (fun _ => XS.aload Xc150_35.here hx rfl (hb hby at_160) rfl rfl) ?_
    show RunsW p e below s _ _ _ (Tc150_35.setTop (mkF m 162 #[.val (.int x0), .val (.ref ba2_1), .val (.int (2 : Int32)), .val (.ref y2), .val (.int (1 : Int32)), .val (.int (1 : Int32)), .val (.ref sA)] [(.ref sA)]))
    obtain ⟨bs162_36, Ts162_36, hs162_36, k1s162_36, ds162_36, kks162_36, Xs162_36, es162_36, Es162_36, hSs162_36, hks162_36, hZ, hown, Exs162_36, Fcs162_36, Fvs162_36, Vs162_36, -, -, -, sts162_36⟩ := ldcSV (s := s) (vm0 := s.vm) Xc150_35 hx hZ hown (hw _ (List.mem_of_getElem? (i := 52) rfl)) wS ec150_35 (own_since s) (by rw [hh]; exact Kw89_27.1) (by rw [hh]; exact Nc150_35) hkeep I0 (fun q => nomatch q) hheld hcw (vs := own_act.map Value.int) (z := 8) ⟨by decide, by decide +kernel⟩ (by decide) rfl (g := (mkF m 162 #[.val (.int x0), .val (.ref ba2_1), .val (.int (2 : Int32)), .val (.ref y2), .val (.int (1 : Int32)), .val (.int (1 : Int32)), .val (.ref sA)] [(.ref sA)])) rfl (hb hby at_162) (n := 32) (by decide) (by decide) (by decide) (by decide)
    refine RunsW.go sts162_36 ?_
    have Ks162_36 : Ext Z.heap hs162_36 := own_extt Kw89_27 Es162_36
    have hns162_36 : Z.heap.size ≤ hs162_36.size := Nat.le_trans hnw89_27 Es162_36.1
    show RunsW p e below s _ _ _ (Ts162_36.setTop (mkF m 164 #[.val (.int x0), .val (.ref ba2_1), .val (.int (2 : Int32)), .val (.ref y2), .val (.int (1 : Int32)), .val (.int (1 : Int32)), .val (.ref sA)] [(.ref bs162_36), (.ref sA)]))
    obtain ⟨cqc164_37, kqc164_37, qc164_37a, qc164_37b, qc164_37c⟩ := isOf hZ es162_36 (AA1.ext Ks162_36)
    obtain ⟨_, _, ⟨Tc164_37, Lc164_37, kc164_37, nc164_37⟩, -, Xc164_37, ⟨Lcc164_37, hQc164_37, lc164_37, yc164_37, zc164_37⟩, stc164_37⟩ := Xs162_36.virtualBack hx (y := (⟨"java/lang/String", "equals", "(Ljava/lang/Object;)Z"⟩ : MethodName)) (z := (⟨"java/lang/String", "equals", "(Ljava/lang/Object;)Z"⟩ : MethodName)) hown (mvT hZ (hw _ (List.mem_of_getElem? (i := 60) rfl))) (mvT hZ (hw _ (List.mem_of_getElem? (i := 61) rfl))) (notFace_of_selects (args := #[]) (mvT hZ (hw _ (List.mem_of_getElem? (i := 63) rfl)))) (mvT hZ (hw _ (List.mem_of_getElem? (i := 63) rfl))) (mvT hZ (hw _ (List.mem_of_getElem? (i := 62) rfl))) (by decide) (backOf (W := 0) (rm4e l Z a0 hw [] sA bs162_36 hs162_36 (AA1.ext Ks162_36) (AA2.ext Ks162_36) (AA3.ext Ks162_36) (AA4.ext Ks162_36) (Exs162_36) (Fcs162_36) (Fvs162_36) (Vs162_36) (AC.ext Ks162_36) hzc) hZ (hw _ (List.mem_of_getElem? (i := 64) rfl)) (hw _ (List.mem_of_getElem? (i := 53) rfl)) (by decide) (by decide)) qc164_37a qc164_37c (g := (mkF m 164 #[.val (.int x0), .val (.ref ba2_1), .val (.int (2 : Int32)), .val (.ref y2), .val (.int (1 : Int32)), .val (.int (1 : Int32)), .val (.ref sA)] [(.ref bs162_36), (.ref sA)])) rfl (by rw [hml]; rfl) (Steps.refl _) (argsL := [(.ref bs162_36)]) (rest := []) (lenOf pd_2 rfl) rfl (by show 2 * 0 + _ ≤ _; exact Nat.le_of_eq rfl) (hb hby at_164) (fun _ _ => ⟨rfl, es162_36, (by decide : 3 + 0 ≤ _), (by decide : 49 + 0 ≤ _)⟩)
    dsimp only [Pt.U, Pt.locs, Pt.cells, Pt.slots] at Xc164_37 lc164_37 yc164_37 zc164_37 stc164_37 hQc164_37
    subst lc164_37 yc164_37 zc164_37
    obtain ⟨rfl, rfl, ec164_37⟩ := hQc164_37
    refine RunsW.go (fun _ => stc164_37.trans) ?_
    have Nc164_37 := Fr.app Nc150_35 (Fr.nil Z.heap.size)
    show RunsW p e below s _ _ _ (Tc164_37.setTop (mkF m 167 #[.val (.int x0), .val (.ref ba2_1), .val (.int (2 : Int32)), .val (.ref y2), .val (.int (1 : Int32)), .val (.int (1 : Int32)), .val (.ref sA)] [(.int (1 : Int32))]))
    refine RunsW.go (fun _ => XS.ifYes Xc164_37.here hx rfl (pc0 := 167) (pc' := 172) rfl (hb hby at_167) rfl ((if0 _ _).trans (feq ((by decide) : ¬ ((1 : Int32) = (0 : Int32)))).2) (by decide) (by decide)) ?_
    show RunsW p e below s _ _ _ (Tc164_37.setTop (mkF m 172 #[.val (.int x0), .val (.ref ba2_1), .val (.int (2 : Int32)), .val (.ref y2), .val (.int (1 : Int32)), .val (.int (1 : Int32)), .val (.ref sA)] []))
    refine RunsW.go (fun _ => XS.iconst Xc164_37.here hx rfl (hb hby at_172)) ?_
    show RunsW p e below s _ _ _ (Tc164_37.setTop (mkF m 173 #[.val (.int x0), .val (.ref ba2_1), .val (.int (2 : Int32)), .val (.ref y2), .val (.int (1 : Int32)), .val (.int (1 : Int32)), .val (.ref sA)] [(.int (1 : Int32))]))
    exact RunsW.endN Xc164_37 hSs162_36 (by rw [ec164_37]; exact hks162_36) hx (t := .boolean) Bd.returns (by simp) Bd.notSynchronized (hb hby at_173) ⟨rfl, Nc164_37⟩ (by decide) (by decide)
  · rw [q]
    show RunsW p e below s _ _ _ (Tw89_27.setTop (mkF m 98 #[.val (.int x0), .val (.ref ba2_1), .unset, .unset, .unset, .unset, .unset] [(.int (3 : Int32))]))
    refine RunsW.go (fun _ => XS.istoreN Xw89_27.here hx rfl (hb hby at_98) rfl (l' := #[.val (.int x0), .val (.ref ba2_1), .val (.int (3 : Int32)), .unset, .unset, .unset, .unset]) rfl) ?_
    show RunsW p e below s _ _ _ (Tw89_27.setTop (mkF m 99 #[.val (.int x0), .val (.ref ba2_1), .val (.int (3 : Int32)), .unset, .unset, .unset, .unset] []))
    refine RunsW.go (fun _ => XS.aloadN Xw89_27.here hx rfl (hb hby at_99) rfl rfl) ?_
    show RunsW p e below s _ _ _ (Tw89_27.setTop (mkF m 100 #[.val (.int x0), .val (.ref ba2_1), .val (.int (3 : Int32)), .unset, .unset, .unset, .unset] [(.ref ba2_1)]))
    refine RunsW.go (fun _ => XS.iloadN Xw89_27.here hx rfl (hb hby at_100) rfl) ?_
    show RunsW p e below s _ _ _ (Tw89_27.setTop (mkF m 101 #[.val (.int x0), .val (.ref ba2_1), .val (.int (3 : Int32)), .unset, .unset, .unset, .unset] [(.int (3 : Int32)), (.ref ba2_1)]))
    have VCr101_38 := Vw89_27
    obtain ⟨clr101_38, Arr101_38, -, Sr101_38, Mr101_38, Hr101_38, -⟩ := VCr101_38
    have hinr101_38 : ¬ ((3 : Int32) < 0 ∨ clr101_38.slots.size ≤ ((3 : Int32)).toNatClampNeg) := inb_of Sr101_38 ⟨by decide, by decide⟩
    have hatr101_38 : clr101_38.slots[((3 : Int32)).toNatClampNeg]? = some (.ref y3) := Has.at Hr101_38 hinr101_38 rfl
    refine RunsW.go (Xw89_27.aaload hx (j := (3 : Int32)) (v := (.ref y3)) (by rw [ew89_27]; exact Arr101_38.1) (State.isArrayOf_alike hZ.alike Arr101_38.2.1) rfl Arr101_38.2.2 hinr101_38 hatr101_38 (g := (mkF m 101 #[.val (.int x0), .val (.ref ba2_1), .val (.int (3 : Int32)), .unset, .unset, .unset, .unset] [(.int (3 : Int32)), (.ref ba2_1)])) rfl rfl (hb hby at_101)) ?_
    show RunsW p e below s _ _ _ (Tw89_27.setTop (mkF m 102 #[.val (.int x0), .val (.ref ba2_1), .val (.int (3 : Int32)), .unset, .unset, .unset, .unset] [(.ref y3)]))
    refine RunsW.go (fun _ => XS.astoreN Xw89_27.here hx rfl (hb hby at_102) rfl rfl (l' := #[.val (.int x0), .val (.ref ba2_1), .val (.int (3 : Int32)), .val (.ref y3), .unset, .unset, .unset]) rfl) ?_
    show RunsW p e below s _ _ _ (Tw89_27.setTop (mkF m 103 #[.val (.int x0), .val (.ref ba2_1), .val (.int (3 : Int32)), .val (.ref y3), .unset, .unset, .unset] []))
    refine RunsW.go (fun _ => XS.iloadN Xw89_27.here hx rfl (hb hby at_103) rfl) ?_
    show RunsW p e below s _ _ _ (Tw89_27.setTop (mkF m 104 #[.val (.int x0), .val (.ref ba2_1), .val (.int (3 : Int32)), .val (.ref y3), .unset, .unset, .unset] [(.int (3 : Int32))]))
    refine RunsW.go (fun _ => XS.iconst Xw89_27.here hx rfl (hb hby at_104)) ?_
    show RunsW p e below s _ _ _ (Tw89_27.setTop (mkF m 105 #[.val (.int x0), .val (.ref ba2_1), .val (.int (3 : Int32)), .val (.ref y3), .unset, .unset, .unset] [(.int (2 : Int32)), (.int (3 : Int32))]))
    refine RunsW.go (fun _ => XS.icmpNo Xw89_27.here hx rfl (hb hby at_105) rfl (feq ((by decide) : ¬ ((3 : Int32) = (2 : Int32)))).1) ?_
    show RunsW p e below s _ _ _ (Tw89_27.setTop (mkF m 108 #[.val (.int x0), .val (.ref ba2_1), .val (.int (3 : Int32)), .val (.ref y3), .unset, .unset, .unset] []))
    refine RunsW.go (fun _ => XS.iloadN Xw89_27.here hx rfl (hb hby at_108) rfl) ?_
    show RunsW p e below s _ _ _ (Tw89_27.setTop (mkF m 109 #[.val (.int x0), .val (.ref ba2_1), .val (.int (3 : Int32)), .val (.ref y3), .unset, .unset, .unset] [(.int (3 : Int32))]))
    refine RunsW.go (fun _ => XS.iconst Xw89_27.here hx rfl (hb hby at_109)) ?_
    show RunsW p e below s _ _ _ (Tw89_27.setTop (mkF m 110 #[.val (.int x0), .val (.ref ba2_1), .val (.int (3 : Int32)), .val (.ref y3), .unset, .unset, .unset] [(.int (3 : Int32)), (.int (3 : Int32))]))
    refine RunsW.go (fun _ => XS.icmpNo Xw89_27.here hx rfl (hb hby at_110) rfl (teq (rfl : (3 : Int32) = (3 : Int32))).2) ?_
    show RunsW p e below s _ _ _ (Tw89_27.setTop (mkF m 113 #[.val (.int x0), .val (.ref ba2_1), .val (.int (3 : Int32)), .val (.ref y3), .unset, .unset, .unset] []))
    refine RunsW.go (fun _ => XS.iconst Xw89_27.here hx rfl (hb hby at_113)) ?_
    show RunsW p e below s _ _ _ (Tw89_27.setTop (mkF m 114 #[.val (.int x0), .val (.ref ba2_1), .val (.int (3 : Int32)), .val (.ref y3), .unset, .unset, .unset] [(.int (1 : Int32))]))
    refine RunsW.go (fun _ => XS.goto Xw89_27.here hx rfl (pc0 := 114) (pc' := 118) rfl (hb hby at_114) (by decide) (by decide)) ?_
    show RunsW p e below s _ _ _ (Tw89_27.setTop (mkF m 118 #[.val (.int x0), .val (.ref ba2_1), .val (.int (3 : Int32)), .val (.ref y3), .unset, .unset, .unset] [(.int (1 : Int32))]))
    refine RunsW.go (fun _ => XS.istore Xw89_27.here hx rfl (hb hby at_118) rfl (l' := #[.val (.int x0), .val (.ref ba2_1), .val (.int (3 : Int32)), .val (.ref y3), .val (.int (1 : Int32)), .unset, .unset]) rfl) ?_
    show RunsW p e below s _ _ _ (Tw89_27.setTop (mkF m 120 #[.val (.int x0), .val (.ref ba2_1), .val (.int (3 : Int32)), .val (.ref y3), .val (.int (1 : Int32)), .unset, .unset] []))
    refine RunsW.go (fun _ => XS.aloadN Xw89_27.here hx rfl (hb hby at_120) rfl rfl) ?_
    show RunsW p e below s _ _ _ (Tw89_27.setTop (mkF m 121 #[.val (.int x0), .val (.ref ba2_1), .val (.int (3 : Int32)), .val (.ref y3), .val (.int (1 : Int32)), .unset, .unset] [(.ref y3)]))
    obtain ⟨cqc121_39, kqc121_39, qc121_39a, qc121_39b, qc121_39c⟩ := isOf hZ ew89_27 (E3.ext Kw89_27)
    obtain ⟨_, _, ⟨Tc121_39, Lc121_39, kc121_39, nc121_39⟩, -, Xc121_39, ⟨Lcc121_39, hQc121_39, lc121_39, yc121_39, zc121_39⟩, stc121_39⟩ := Xw89_27.virtualBack hx (y := (⟨"com/example/replay/replay/api/EventType", "isActivityOutcome", "()Z"⟩ : MethodName)) (z := (⟨"com/example/replay/replay/api/EventType", "isActivityOutcome", "()Z"⟩ : MethodName)) hown (mvT hZ (hw _ (List.mem_of_getElem? (i := 31) rfl))) (mvT hZ (hw _ (List.mem_of_getElem? (i := 32) rfl))) (notFace_of_selects (args := #[]) (mvT hZ (hw _ (List.mem_of_getElem? (i := 34) rfl)))) (mvT hZ (hw _ (List.mem_of_getElem? (i := 34) rfl))) (mvT hZ (hw _ (List.mem_of_getElem? (i := 33) rfl))) (by decide) (backOf (W := 0) (rm1b l Z a0 hw [] y3 y2 y3 hw89_27 Z.heap.size hnw89_27 (S2.ext Kw89_27) (S3.ext Kw89_27) (Fld.ne O3 O2 (by decide)) rfl) hZ (hw _ (List.mem_of_getElem? (i := 35) rfl)) (hw _ (List.mem_of_getElem? (i := 3) rfl)) (by decide) (by decide)) qc121_39a qc121_39c (g := (mkF m 121 #[.val (.int x0), .val (.ref ba2_1), .val (.int (3 : Int32)), .val (.ref y3), .val (.int (1 : Int32)), .unset, .unset] [(.ref y3)])) rfl (by rw [hml]; rfl) (Steps.refl _) (argsL := []) (rest := []) (lenOf pd_0 rfl) rfl (by show 2 * 0 + _ ≤ _; exact Nat.le_of_eq rfl) (hb hby at_121) (fun _ _ => ⟨rfl, ew89_27, (by decide : 1 + 0 ≤ _), (by decide : 13 + 0 ≤ _)⟩)
    dsimp only [Pt.U, Pt.locs, Pt.cells, Pt.slots] at Xc121_39 lc121_39 yc121_39 zc121_39 stc121_39 hQc121_39
    subst lc121_39 yc121_39 zc121_39
    obtain ⟨rfl, rfl, ec121_39⟩ := hQc121_39
    refine RunsW.go (fun _ => stc121_39.trans) ?_
    have Nc121_39 := Fr.app Nw89_27 (Fr.nil Z.heap.size)
    show RunsW p e below s _ _ _ (Tc121_39.setTop (mkF m 124 #[.val (.int x0), .val (.ref ba2_1), .val (.int (3 : Int32)), .val (.ref y3), .val (.int (1 : Int32)), .unset, .unset] [(.int (1 : Int32))]))
    refine RunsW.go (fun _ => XS.istore Xc121_39.here hx rfl (hb hby at_124) rfl (l' := #[.val (.int x0), .val (.ref ba2_1), .val (.int (3 : Int32)), .val (.ref y3), .val (.int (1 : Int32)), .val (.int (1 : Int32)), .unset]) rfl) ?_
    show RunsW p e below s _ _ _ (Tc121_39.setTop (mkF m 126 #[.val (.int x0), .val (.ref ba2_1), .val (.int (3 : Int32)), .val (.ref y3), .val (.int (1 : Int32)), .val (.int (1 : Int32)), .unset] []))
    refine RunsW.go (fun _ => XS.iload Xc121_39.here hx rfl (hb hby at_126) rfl) ?_
    show RunsW p e below s _ _ _ (Tc121_39.setTop (mkF m 128 #[.val (.int x0), .val (.ref ba2_1), .val (.int (3 : Int32)), .val (.ref y3), .val (.int (1 : Int32)), .val (.int (1 : Int32)), .unset] [(.int (1 : Int32))]))
    refine RunsW.go (fun _ => XS.iload Xc121_39.here hx rfl (hb hby at_128) rfl) ?_
    show RunsW p e below s _ _ _ (Tc121_39.setTop (mkF m 130 #[.val (.int x0), .val (.ref ba2_1), .val (.int (3 : Int32)), .val (.ref y3), .val (.int (1 : Int32)), .val (.int (1 : Int32)), .unset] [(.int (1 : Int32)), (.int (1 : Int32))]))
    refine RunsW.go (fun _ => XS.icmpYes Xc121_39.here hx rfl (pc0 := 130) (pc' := 135) rfl (hb hby at_130) rfl (teq (rfl : (1 : Int32) = (1 : Int32))).1 (by decide) (by decide)) ?_
    show RunsW p e below s _ _ _ (Tc121_39.setTop (mkF m 135 #[.val (.int x0), .val (.ref ba2_1), .val (.int (3 : Int32)), .val (.ref y3), .val (.int (1 : Int32)), .val (.int (1 : Int32)), .unset] []))
    refine RunsW.go (fun _ => XS.iload Xc121_39.here hx rfl (hb hby at_135) rfl) ?_
    show RunsW p e below s _ _ _ (Tc121_39.setTop (mkF m 137 #[.val (.int x0), .val (.ref ba2_1), .val (.int (3 : Int32)), .val (.ref y3), .val (.int (1 : Int32)), .val (.int (1 : Int32)), .unset] [(.int (1 : Int32))]))
    refine RunsW.go (fun _ => XS.ifNo Xc121_39.here hx rfl (hb hby at_137) rfl ((if0 _ _).trans (feq ((by decide) : ¬ ((1 : Int32) = (0 : Int32)))).1)) ?_
    show RunsW p e below s _ _ _ (Tc121_39.setTop (mkF m 140 #[.val (.int x0), .val (.ref ba2_1), .val (.int (3 : Int32)), .val (.ref y3), .val (.int (1 : Int32)), .val (.int (1 : Int32)), .unset] []))
    refine RunsW.go (fun _ => XS.aloadN Xc121_39.here hx rfl (hb hby at_140) rfl rfl) ?_
    show RunsW p e below s _ _ _ (Tc121_39.setTop (mkF m 141 #[.val (.int x0), .val (.ref ba2_1), .val (.int (3 : Int32)), .val (.ref y3), .val (.int (1 : Int32)), .val (.int (1 : Int32)), .unset] [(.ref y3)]))
    obtain ⟨cqc141_40, kqc141_40, qc141_40a, qc141_40b, qc141_40c⟩ := isOf hZ ec121_39 (E3.ext Kw89_27)
    obtain ⟨_, _, ⟨Tc141_40, Lc141_40, kc141_40, nc141_40⟩, -, Xc141_40, ⟨Lcc141_40, hQc141_40, lc141_40, yc141_40, zc141_40⟩, stc141_40⟩ := Xc121_39.virtualBack hx (y := (⟨"com/example/replay/replay/api/EventType", "isActivityEvent", "()Z"⟩ : MethodName)) (z := (⟨"com/example/replay/replay/api/EventType", "isActivityEvent", "()Z"⟩ : MethodName)) hown (mvT hZ (hw _ (List.mem_of_getElem? (i := 38) rfl))) (mvT hZ (hw _ (List.mem_of_getElem? (i := 39) rfl))) (notFace_of_selects (args := #[]) (mvT hZ (hw _ (List.mem_of_getElem? (i := 41) rfl)))) (mvT hZ (hw _ (List.mem_of_getElem? (i := 41) rfl))) (mvT hZ (hw _ (List.mem_of_getElem? (i := 40) rfl))) (by decide) (backOf (W := 0) (rm2b l Z a0 hw [] y3 y1 y2 y3 hw89_27 Z.heap.size hnw89_27 (E3.ext Kw89_27) (S1.ext Kw89_27) (S2.ext Kw89_27) (S3.ext Kw89_27) (Fld.ne O3 O1 (by decide)) (Fld.ne O3 O2 (by decide)) rfl) hZ (hw _ (List.mem_of_getElem? (i := 42) rfl)) (hw _ (List.mem_of_getElem? (i := 3) rfl)) (by decide) (by decide)) qc141_40a qc141_40c (g := (mkF m 141 #[.val (.int x0), .val (.ref ba2_1), .val (.int (3 : Int32)), .val (.ref y3), .val (.int (1 : Int32)), .val (.int (1 : Int32)), .unset] [(.ref y3)])) rfl (by rw [hml]; rfl) (Steps.refl _) (argsL := []) (rest := []) (lenOf pd_0 rfl) rfl (by show 2 * 0 + _ ≤ _; exact Nat.le_of_eq rfl) (hb hby at_141) (fun _ _ => ⟨rfl, ec121_39, (by decide : 1 + 0 ≤ _), (by decide : 13 + 0 ≤ _)⟩)
    dsimp only [Pt.U, Pt.locs, Pt.cells, Pt.slots] at Xc141_40 lc141_40 yc141_40 zc141_40 stc141_40 hQc141_40
    subst lc141_40 yc141_40 zc141_40
    obtain ⟨rfl, rfl, ec141_40⟩ := hQc141_40
    refine RunsW.go (fun _ => stc141_40.trans) ?_
    have Nc141_40 := Fr.app Nc121_39 (Fr.nil Z.heap.size)
    show RunsW p e below s _ _ _ (Tc141_40.setTop (mkF m 144 #[.val (.int x0), .val (.ref ba2_1), .val (.int (3 : Int32)), .val (.ref y3), .val (.int (1 : Int32)), .val (.int (1 : Int32)), .unset] [(.int (1 : Int32))]))
    refine RunsW.go (fun _ => XS.ifYes Xc141_40.here hx rfl (pc0 := 144) (pc' := 149) rfl (hb hby at_144) rfl ((if0 _ _).trans (feq ((by decide) : ¬ ((1 : Int32) = (0 : Int32)))).2) (by decide) (by decide)) ?_
    show RunsW p e below s _ _ _ (Tc141_40.setTop (mkF m 149 #[.val (.int x0), .val (.ref ba2_1), .val (.int (3 : Int32)), .val (.ref y3), .val (.int (1 : Int32)), .val (.int (1 : Int32)), .unset] []))
    refine RunsW.go (fun _ => XS.aloadN Xc141_40.here hx rfl (hb hby at_149) rfl rfl) ?_
    show RunsW p e below s _ _ _ (Tc141_40.setTop (mkF m 150 #[.val (.int x0), .val (.ref ba2_1), .val (.int (3 : Int32)), .val (.ref y3), .val (.int (1 : Int32)), .val (.int (1 : Int32)), .unset] [(.ref y3)]))
    obtain ⟨cqc150_41, kqc150_41, qc150_41a, qc150_41b, qc150_41c⟩ := isOf hZ ec141_40 (E3.ext Kw89_27)
    obtain ⟨_, _, ⟨Tc150_41, Lc150_41, kc150_41, nc150_41⟩, -, Xc150_41, ⟨Lcc150_41, hQc150_41, lc150_41, yc150_41, zc150_41⟩, stc150_41⟩ := Xc141_40.virtualBack hx (y := (⟨"com/example/replay/replay/api/EventType", "subject", "()Ljava/lang/String;"⟩ : MethodName)) (z := (⟨"com/example/replay/replay/api/EventType", "subject", "()Ljava/lang/String;"⟩ : MethodName)) hown (mvT hZ (hw _ (List.mem_of_getElem? (i := 45) rfl))) (mvT hZ (hw _ (List.mem_of_getElem? (i := 46) rfl))) (notFace_of_selects (args := #[]) (mvT hZ (hw _ (List.mem_of_getElem? (i := 48) rfl)))) (mvT hZ (hw _ (List.mem_of_getElem? (i := 48) rfl))) (mvT hZ (hw _ (List.mem_of_getElem? (i := 47) rfl))) (by decide) (backOf (W := 0) (rm3 l Z a0 hw [] y3 (.ref sA) hw89_27 Z.heap.size hnw89_27 (F3.ext Kw89_27) rfl) hZ (hw _ (List.mem_of_getElem? (i := 49) rfl)) (hw _ (List.mem_of_getElem? (i := 3) rfl)) (by decide) (by decide)) qc150_41a qc150_41c (g := (mkF m 150 #[.val (.int x0), .val (.ref ba2_1), .val (.int (3 : Int32)), .val (.ref y3), .val (.int (1 : Int32)), .val (.int (1 : Int32)), .unset] [(.ref y3)])) rfl (by rw [hml]; rfl) (Steps.refl _) (argsL := []) (rest := []) (lenOf pd_1 rfl) rfl (by show 2 * 0 + _ ≤ _; exact Nat.le_of_eq rfl) (hb hby at_150) (fun _ _ => ⟨rfl, ec141_40, (by decide : 1 + 0 ≤ _), (by decide : 13 + 0 ≤ _)⟩)
    dsimp only [Pt.U, Pt.locs, Pt.cells, Pt.slots] at Xc150_41 lc150_41 yc150_41 zc150_41 stc150_41 hQc150_41
    subst lc150_41 yc150_41 zc150_41
    obtain ⟨rfl, rfl, ec150_41⟩ := hQc150_41
    refine RunsW.go (fun _ => stc150_41.trans) ?_
    have Nc150_41 := Fr.app Nc141_40 (Fr.nil Z.heap.size)
    show RunsW p e below s _ _ _ (Tc150_41.setTop (mkF m 153 #[.val (.int x0), .val (.ref ba2_1), .val (.int (3 : Int32)), .val (.ref y3), .val (.int (1 : Int32)), .val (.int (1 : Int32)), .unset] [(.ref sA)]))
    refine RunsW.go (fun _ => XS.astore Xc150_41.here hx rfl (hb hby at_153) rfl rfl (l' := #[.val (.int x0), .val (.ref ba2_1), .val (.int (3 : Int32)), .val (.ref y3), .val (.int (1 : Int32)), .val (.int (1 : Int32)), .val (.ref sA)]) rfl) ?_
    show RunsW p e below s _ _ _ (Tc150_41.setTop (mkF m 155 #[.val (.int x0), .val (.ref ba2_1), .val (.int (3 : Int32)), .val (.ref y3), .val (.int (1 : Int32)), .val (.int (1 : Int32)), .val (.ref sA)] []))
    refine RunsW.go (fun _ => XS.aload Xc150_41.here hx rfl (hb hby at_155) rfl rfl) ?_
    show RunsW p e below s _ _ _ (Tc150_41.setTop (mkF m 157 #[.val (.int x0), .val (.ref ba2_1), .val (.int (3 : Int32)), .val (.ref y3), .val (.int (1 : Int32)), .val (.int (1 : Int32)), .val (.ref sA)] [(.ref sA)]))
    refine RunsW.go (fun _ => XS.ifnullNo Xc150_41.here hx rfl (hb hby at_157) rfl) ?_
    show RunsW p e below s _ _ _ (Tc150_41.setTop (mkF m 160 #[.val (.int x0), .val (.ref ba2_1), .val (.int (3 : Int32)), .val (.ref y3), .val (.int (1 : Int32)), .val (.int (1 : Int32)), .val (.ref sA)] []))
    refine RunsW.go (fun _ => XS.aload Xc150_41.here hx rfl (hb hby at_160) rfl rfl) ?_
    show RunsW p e below s _ _ _ (Tc150_41.setTop (mkF m 162 #[.val (.int x0), .val (.ref ba2_1), .val (.int (3 : Int32)), .val (.ref y3), .val (.int (1 : Int32)), .val (.int (1 : Int32)), .val (.ref sA)] [(.ref sA)]))
    obtain ⟨bs162_42, Ts162_42, hs162_42, k1s162_42, ds162_42, kks162_42, Xs162_42, es162_42, Es162_42, hSs162_42, hks162_42, hZ, hown, Exs162_42, Fcs162_42, Fvs162_42, Vs162_42, -, -, -, sts162_42⟩ := ldcSV (s := s) (vm0 := s.vm) Xc150_41 hx hZ hown (hw _ (List.mem_of_getElem? (i := 52) rfl)) wS ec150_41 (own_since s) (by rw [hh]; exact Kw89_27.1) (by rw [hh]; exact Nc150_41) hkeep I0 (fun q => nomatch q) hheld hcw (vs := own_act.map Value.int) (z := 8) ⟨by decide, by decide +kernel⟩ (by decide) rfl (g := (mkF m 162 #[.val (.int x0), .val (.ref ba2_1), .val (.int (3 : Int32)), .val (.ref y3), .val (.int (1 : Int32)), .val (.int (1 : Int32)), .val (.ref sA)] [(.ref sA)])) rfl (hb hby at_162) (n := 32) (by decide) (by decide) (by decide) (by decide)
    refine RunsW.go sts162_42 ?_
    have Ks162_42 : Ext Z.heap hs162_42 := own_extt Kw89_27 Es162_42
    have hns162_42 : Z.heap.size ≤ hs162_42.size := Nat.le_trans hnw89_27 Es162_42.1
    show RunsW p e below s _ _ _ (Ts162_42.setTop (mkF m 164 #[.val (.int x0), .val (.ref ba2_1), .val (.int (3 : Int32)), .val (.ref y3), .val (.int (1 : Int32)), .val (.int (1 : Int32)), .val (.ref sA)] [(.ref bs162_42), (.ref sA)]))
    obtain ⟨cqc164_43, kqc164_43, qc164_43a, qc164_43b, qc164_43c⟩ := isOf hZ es162_42 (AA1.ext Ks162_42)
    obtain ⟨_, _, ⟨Tc164_43, Lc164_43, kc164_43, nc164_43⟩, -, Xc164_43, ⟨Lcc164_43, hQc164_43, lc164_43, yc164_43, zc164_43⟩, stc164_43⟩ := Xs162_42.virtualBack hx (y := (⟨"java/lang/String", "equals", "(Ljava/lang/Object;)Z"⟩ : MethodName)) (z := (⟨"java/lang/String", "equals", "(Ljava/lang/Object;)Z"⟩ : MethodName)) hown (mvT hZ (hw _ (List.mem_of_getElem? (i := 60) rfl))) (mvT hZ (hw _ (List.mem_of_getElem? (i := 61) rfl))) (notFace_of_selects (args := #[]) (mvT hZ (hw _ (List.mem_of_getElem? (i := 63) rfl)))) (mvT hZ (hw _ (List.mem_of_getElem? (i := 63) rfl))) (mvT hZ (hw _ (List.mem_of_getElem? (i := 62) rfl))) (by decide) (backOf (W := 0) (rm4e l Z a0 hw [] sA bs162_42 hs162_42 (AA1.ext Ks162_42) (AA2.ext Ks162_42) (AA3.ext Ks162_42) (AA4.ext Ks162_42) (Exs162_42) (Fcs162_42) (Fvs162_42) (Vs162_42) (AC.ext Ks162_42) hzc) hZ (hw _ (List.mem_of_getElem? (i := 64) rfl)) (hw _ (List.mem_of_getElem? (i := 53) rfl)) (by decide) (by decide)) qc164_43a qc164_43c (g := (mkF m 164 #[.val (.int x0), .val (.ref ba2_1), .val (.int (3 : Int32)), .val (.ref y3), .val (.int (1 : Int32)), .val (.int (1 : Int32)), .val (.ref sA)] [(.ref bs162_42), (.ref sA)])) rfl (by rw [hml]; rfl) (Steps.refl _) (argsL := [(.ref bs162_42)]) (rest := []) (lenOf pd_2 rfl) rfl (by show 2 * 0 + _ ≤ _; exact Nat.le_of_eq rfl) (hb hby at_164) (fun _ _ => ⟨rfl, es162_42, (by decide : 3 + 0 ≤ _), (by decide : 49 + 0 ≤ _)⟩)
    dsimp only [Pt.U, Pt.locs, Pt.cells, Pt.slots] at Xc164_43 lc164_43 yc164_43 zc164_43 stc164_43 hQc164_43
    subst lc164_43 yc164_43 zc164_43
    obtain ⟨rfl, rfl, ec164_43⟩ := hQc164_43
    refine RunsW.go (fun _ => stc164_43.trans) ?_
    have Nc164_43 := Fr.app Nc150_41 (Fr.nil Z.heap.size)
    show RunsW p e below s _ _ _ (Tc164_43.setTop (mkF m 167 #[.val (.int x0), .val (.ref ba2_1), .val (.int (3 : Int32)), .val (.ref y3), .val (.int (1 : Int32)), .val (.int (1 : Int32)), .val (.ref sA)] [(.int (1 : Int32))]))
    refine RunsW.go (fun _ => XS.ifYes Xc164_43.here hx rfl (pc0 := 167) (pc' := 172) rfl (hb hby at_167) rfl ((if0 _ _).trans (feq ((by decide) : ¬ ((1 : Int32) = (0 : Int32)))).2) (by decide) (by decide)) ?_
    show RunsW p e below s _ _ _ (Tc164_43.setTop (mkF m 172 #[.val (.int x0), .val (.ref ba2_1), .val (.int (3 : Int32)), .val (.ref y3), .val (.int (1 : Int32)), .val (.int (1 : Int32)), .val (.ref sA)] []))
    refine RunsW.go (fun _ => XS.iconst Xc164_43.here hx rfl (hb hby at_172)) ?_
    show RunsW p e below s _ _ _ (Tc164_43.setTop (mkF m 173 #[.val (.int x0), .val (.ref ba2_1), .val (.int (3 : Int32)), .val (.ref y3), .val (.int (1 : Int32)), .val (.int (1 : Int32)), .val (.ref sA)] [(.int (1 : Int32))]))
    exact RunsW.endN Xc164_43 hSs162_42 (by rw [ec164_43]; exact hks162_42) hx (t := .boolean) Bd.returns (by simp) Bd.notSynchronized (hb hby at_173) ⟨rfl, Nc164_43⟩ (by decide) (by decide)
  · rw [q]
    show RunsW p e below s _ _ _ (Tw89_27.setTop (mkF m 98 #[.val (.int x0), .val (.ref ba2_1), .unset, .unset, .unset, .unset, .unset] [(.int (4 : Int32))]))
    refine RunsW.go (fun _ => XS.istoreN Xw89_27.here hx rfl (hb hby at_98) rfl (l' := #[.val (.int x0), .val (.ref ba2_1), .val (.int (4 : Int32)), .unset, .unset, .unset, .unset]) rfl) ?_
    show RunsW p e below s _ _ _ (Tw89_27.setTop (mkF m 99 #[.val (.int x0), .val (.ref ba2_1), .val (.int (4 : Int32)), .unset, .unset, .unset, .unset] []))
    refine RunsW.go (fun _ => XS.aloadN Xw89_27.here hx rfl (hb hby at_99) rfl rfl) ?_
    show RunsW p e below s _ _ _ (Tw89_27.setTop (mkF m 100 #[.val (.int x0), .val (.ref ba2_1), .val (.int (4 : Int32)), .unset, .unset, .unset, .unset] [(.ref ba2_1)]))
    refine RunsW.go (fun _ => XS.iloadN Xw89_27.here hx rfl (hb hby at_100) rfl) ?_
    show RunsW p e below s _ _ _ (Tw89_27.setTop (mkF m 101 #[.val (.int x0), .val (.ref ba2_1), .val (.int (4 : Int32)), .unset, .unset, .unset, .unset] [(.int (4 : Int32)), (.ref ba2_1)]))
    have VCr101_44 := Vw89_27
    obtain ⟨clr101_44, Arr101_44, -, Sr101_44, Mr101_44, Hr101_44, -⟩ := VCr101_44
    have hinr101_44 : ¬ ((4 : Int32) < 0 ∨ clr101_44.slots.size ≤ ((4 : Int32)).toNatClampNeg) := inb_of Sr101_44 ⟨by decide, by decide⟩
    have hatr101_44 : clr101_44.slots[((4 : Int32)).toNatClampNeg]? = some (.ref y4) := Has.at Hr101_44 hinr101_44 rfl
    refine RunsW.go (Xw89_27.aaload hx (j := (4 : Int32)) (v := (.ref y4)) (by rw [ew89_27]; exact Arr101_44.1) (State.isArrayOf_alike hZ.alike Arr101_44.2.1) rfl Arr101_44.2.2 hinr101_44 hatr101_44 (g := (mkF m 101 #[.val (.int x0), .val (.ref ba2_1), .val (.int (4 : Int32)), .unset, .unset, .unset, .unset] [(.int (4 : Int32)), (.ref ba2_1)])) rfl rfl (hb hby at_101)) ?_
    show RunsW p e below s _ _ _ (Tw89_27.setTop (mkF m 102 #[.val (.int x0), .val (.ref ba2_1), .val (.int (4 : Int32)), .unset, .unset, .unset, .unset] [(.ref y4)]))
    refine RunsW.go (fun _ => XS.astoreN Xw89_27.here hx rfl (hb hby at_102) rfl rfl (l' := #[.val (.int x0), .val (.ref ba2_1), .val (.int (4 : Int32)), .val (.ref y4), .unset, .unset, .unset]) rfl) ?_
    show RunsW p e below s _ _ _ (Tw89_27.setTop (mkF m 103 #[.val (.int x0), .val (.ref ba2_1), .val (.int (4 : Int32)), .val (.ref y4), .unset, .unset, .unset] []))
    refine RunsW.go (fun _ => XS.iloadN Xw89_27.here hx rfl (hb hby at_103) rfl) ?_
    show RunsW p e below s _ _ _ (Tw89_27.setTop (mkF m 104 #[.val (.int x0), .val (.ref ba2_1), .val (.int (4 : Int32)), .val (.ref y4), .unset, .unset, .unset] [(.int (4 : Int32))]))
    refine RunsW.go (fun _ => XS.iconst Xw89_27.here hx rfl (hb hby at_104)) ?_
    show RunsW p e below s _ _ _ (Tw89_27.setTop (mkF m 105 #[.val (.int x0), .val (.ref ba2_1), .val (.int (4 : Int32)), .val (.ref y4), .unset, .unset, .unset] [(.int (2 : Int32)), (.int (4 : Int32))]))
    refine RunsW.go (fun _ => XS.icmpNo Xw89_27.here hx rfl (hb hby at_105) rfl (feq ((by decide) : ¬ ((4 : Int32) = (2 : Int32)))).1) ?_
    show RunsW p e below s _ _ _ (Tw89_27.setTop (mkF m 108 #[.val (.int x0), .val (.ref ba2_1), .val (.int (4 : Int32)), .val (.ref y4), .unset, .unset, .unset] []))
    refine RunsW.go (fun _ => XS.iloadN Xw89_27.here hx rfl (hb hby at_108) rfl) ?_
    show RunsW p e below s _ _ _ (Tw89_27.setTop (mkF m 109 #[.val (.int x0), .val (.ref ba2_1), .val (.int (4 : Int32)), .val (.ref y4), .unset, .unset, .unset] [(.int (4 : Int32))]))
    refine RunsW.go (fun _ => XS.iconst Xw89_27.here hx rfl (hb hby at_109)) ?_
    show RunsW p e below s _ _ _ (Tw89_27.setTop (mkF m 110 #[.val (.int x0), .val (.ref ba2_1), .val (.int (4 : Int32)), .val (.ref y4), .unset, .unset, .unset] [(.int (3 : Int32)), (.int (4 : Int32))]))
    refine RunsW.go (fun _ => XS.icmpYes Xw89_27.here hx rfl (pc0 := 110) (pc' := 117) rfl (hb hby at_110) rfl (feq ((by decide) : ¬ ((4 : Int32) = (3 : Int32)))).2 (by decide) (by decide)) ?_
    show RunsW p e below s _ _ _ (Tw89_27.setTop (mkF m 117 #[.val (.int x0), .val (.ref ba2_1), .val (.int (4 : Int32)), .val (.ref y4), .unset, .unset, .unset] []))
    refine RunsW.go (fun _ => XS.iconst Xw89_27.here hx rfl (hb hby at_117)) ?_
    show RunsW p e below s _ _ _ (Tw89_27.setTop (mkF m 118 #[.val (.int x0), .val (.ref ba2_1), .val (.int (4 : Int32)), .val (.ref y4), .unset, .unset, .unset] [(.int (0 : Int32))]))
    refine RunsW.go (fun _ => XS.istore Xw89_27.here hx rfl (hb hby at_118) rfl (l' := #[.val (.int x0), .val (.ref ba2_1), .val (.int (4 : Int32)), .val (.ref y4), .val (.int (0 : Int32)), .unset, .unset]) rfl) ?_
    show RunsW p e below s _ _ _ (Tw89_27.setTop (mkF m 120 #[.val (.int x0), .val (.ref ba2_1), .val (.int (4 : Int32)), .val (.ref y4), .val (.int (0 : Int32)), .unset, .unset] []))
    refine RunsW.go (fun _ => XS.aloadN Xw89_27.here hx rfl (hb hby at_120) rfl rfl) ?_
    show RunsW p e below s _ _ _ (Tw89_27.setTop (mkF m 121 #[.val (.int x0), .val (.ref ba2_1), .val (.int (4 : Int32)), .val (.ref y4), .val (.int (0 : Int32)), .unset, .unset] [(.ref y4)]))
    obtain ⟨cqc121_45, kqc121_45, qc121_45a, qc121_45b, qc121_45c⟩ := isOf hZ ew89_27 (E4.ext Kw89_27)
    obtain ⟨_, _, ⟨Tc121_45, Lc121_45, kc121_45, nc121_45⟩, -, Xc121_45, ⟨Lcc121_45, hQc121_45, lc121_45, yc121_45, zc121_45⟩, stc121_45⟩ := Xw89_27.virtualBack hx (y := (⟨"com/example/replay/replay/api/EventType", "isActivityOutcome", "()Z"⟩ : MethodName)) (z := (⟨"com/example/replay/replay/api/EventType", "isActivityOutcome", "()Z"⟩ : MethodName)) hown (mvT hZ (hw _ (List.mem_of_getElem? (i := 31) rfl))) (mvT hZ (hw _ (List.mem_of_getElem? (i := 32) rfl))) (notFace_of_selects (args := #[]) (mvT hZ (hw _ (List.mem_of_getElem? (i := 34) rfl)))) (mvT hZ (hw _ (List.mem_of_getElem? (i := 34) rfl))) (mvT hZ (hw _ (List.mem_of_getElem? (i := 33) rfl))) (by decide) (backOf (W := 0) (rm1c l Z a0 hw [] y4 y2 y3 hw89_27 Z.heap.size hnw89_27 (S2.ext Kw89_27) (S3.ext Kw89_27) (Fld.ne O4 O2 (by decide)) (Fld.ne O4 O3 (by decide))) hZ (hw _ (List.mem_of_getElem? (i := 35) rfl)) (hw _ (List.mem_of_getElem? (i := 3) rfl)) (by decide) (by decide)) qc121_45a qc121_45c (g := (mkF m 121 #[.val (.int x0), .val (.ref ba2_1), .val (.int (4 : Int32)), .val (.ref y4), .val (.int (0 : Int32)), .unset, .unset] [(.ref y4)])) rfl (by rw [hml]; rfl) (Steps.refl _) (argsL := []) (rest := []) (lenOf pd_0 rfl) rfl (by show 2 * 0 + _ ≤ _; exact Nat.le_of_eq rfl) (hb hby at_121) (fun _ _ => ⟨rfl, ew89_27, (by decide : 1 + 0 ≤ _), (by decide : 13 + 0 ≤ _)⟩)
    dsimp only [Pt.U, Pt.locs, Pt.cells, Pt.slots] at Xc121_45 lc121_45 yc121_45 zc121_45 stc121_45 hQc121_45
    subst lc121_45 yc121_45 zc121_45
    obtain ⟨rfl, rfl, ec121_45⟩ := hQc121_45
    refine RunsW.go (fun _ => stc121_45.trans) ?_
    have Nc121_45 := Fr.app Nw89_27 (Fr.nil Z.heap.size)
    show RunsW p e below s _ _ _ (Tc121_45.setTop (mkF m 124 #[.val (.int x0), .val (.ref ba2_1), .val (.int (4 : Int32)), .val (.ref y4), .val (.int (0 : Int32)), .unset, .unset] [(.int (0 : Int32))]))
    refine RunsW.go (fun _ => XS.istore Xc121_45.here hx rfl (hb hby at_124) rfl (l' := #[.val (.int x0), .val (.ref ba2_1), .val (.int (4 : Int32)), .val (.ref y4), .val (.int (0 : Int32)), .val (.int (0 : Int32)), .unset]) rfl) ?_
    show RunsW p e below s _ _ _ (Tc121_45.setTop (mkF m 126 #[.val (.int x0), .val (.ref ba2_1), .val (.int (4 : Int32)), .val (.ref y4), .val (.int (0 : Int32)), .val (.int (0 : Int32)), .unset] []))
    refine RunsW.go (fun _ => XS.iload Xc121_45.here hx rfl (hb hby at_126) rfl) ?_
    show RunsW p e below s _ _ _ (Tc121_45.setTop (mkF m 128 #[.val (.int x0), .val (.ref ba2_1), .val (.int (4 : Int32)), .val (.ref y4), .val (.int (0 : Int32)), .val (.int (0 : Int32)), .unset] [(.int (0 : Int32))]))
    refine RunsW.go (fun _ => XS.iload Xc121_45.here hx rfl (hb hby at_128) rfl) ?_
    show RunsW p e below s _ _ _ (Tc121_45.setTop (mkF m 130 #[.val (.int x0), .val (.ref ba2_1), .val (.int (4 : Int32)), .val (.ref y4), .val (.int (0 : Int32)), .val (.int (0 : Int32)), .unset] [(.int (0 : Int32)), (.int (0 : Int32))]))
    refine RunsW.go (fun _ => XS.icmpYes Xc121_45.here hx rfl (pc0 := 130) (pc' := 135) rfl (hb hby at_130) rfl (teq (rfl : (0 : Int32) = (0 : Int32))).1 (by decide) (by decide)) ?_
    show RunsW p e below s _ _ _ (Tc121_45.setTop (mkF m 135 #[.val (.int x0), .val (.ref ba2_1), .val (.int (4 : Int32)), .val (.ref y4), .val (.int (0 : Int32)), .val (.int (0 : Int32)), .unset] []))
    refine RunsW.go (fun _ => XS.iload Xc121_45.here hx rfl (hb hby at_135) rfl) ?_
    show RunsW p e below s _ _ _ (Tc121_45.setTop (mkF m 137 #[.val (.int x0), .val (.ref ba2_1), .val (.int (4 : Int32)), .val (.ref y4), .val (.int (0 : Int32)), .val (.int (0 : Int32)), .unset] [(.int (0 : Int32))]))
    refine RunsW.go (fun _ => XS.ifYes Xc121_45.here hx rfl (pc0 := 137) (pc' := 172) rfl (hb hby at_137) rfl ((if0 _ _).trans (teq (rfl : (0 : Int32) = (0 : Int32))).1) (by decide) (by decide)) ?_
    show RunsW p e below s _ _ _ (Tc121_45.setTop (mkF m 172 #[.val (.int x0), .val (.ref ba2_1), .val (.int (4 : Int32)), .val (.ref y4), .val (.int (0 : Int32)), .val (.int (0 : Int32)), .unset] []))
    refine RunsW.go (fun _ => XS.iconst Xc121_45.here hx rfl (hb hby at_172)) ?_
    show RunsW p e below s _ _ _ (Tc121_45.setTop (mkF m 173 #[.val (.int x0), .val (.ref ba2_1), .val (.int (4 : Int32)), .val (.ref y4), .val (.int (0 : Int32)), .val (.int (0 : Int32)), .unset] [(.int (1 : Int32))]))
    exact RunsW.endN0 Xc121_45 hx (t := .boolean) Bd.returns (by simp) Bd.notSynchronized (hb hby at_173) ⟨rfl, Nc121_45⟩ (by decide) (by decide)
  · rw [q]
    show RunsW p e below s _ _ _ (Tw89_27.setTop (mkF m 98 #[.val (.int x0), .val (.ref ba2_1), .unset, .unset, .unset, .unset, .unset] [(.int (5 : Int32))]))
    refine RunsW.go (fun _ => XS.istoreN Xw89_27.here hx rfl (hb hby at_98) rfl (l' := #[.val (.int x0), .val (.ref ba2_1), .val (.int (5 : Int32)), .unset, .unset, .unset, .unset]) rfl) ?_
    show RunsW p e below s _ _ _ (Tw89_27.setTop (mkF m 99 #[.val (.int x0), .val (.ref ba2_1), .val (.int (5 : Int32)), .unset, .unset, .unset, .unset] []))
    refine RunsW.go (fun _ => XS.aloadN Xw89_27.here hx rfl (hb hby at_99) rfl rfl) ?_
    show RunsW p e below s _ _ _ (Tw89_27.setTop (mkF m 100 #[.val (.int x0), .val (.ref ba2_1), .val (.int (5 : Int32)), .unset, .unset, .unset, .unset] [(.ref ba2_1)]))
    refine RunsW.go (fun _ => XS.iloadN Xw89_27.here hx rfl (hb hby at_100) rfl) ?_
    show RunsW p e below s _ _ _ (Tw89_27.setTop (mkF m 101 #[.val (.int x0), .val (.ref ba2_1), .val (.int (5 : Int32)), .unset, .unset, .unset, .unset] [(.int (5 : Int32)), (.ref ba2_1)]))
    have VCr101_46 := Vw89_27
    obtain ⟨clr101_46, Arr101_46, -, Sr101_46, Mr101_46, Hr101_46, -⟩ := VCr101_46
    have hinr101_46 : ¬ ((5 : Int32) < 0 ∨ clr101_46.slots.size ≤ ((5 : Int32)).toNatClampNeg) := inb_of Sr101_46 ⟨by decide, by decide⟩
    have hatr101_46 : clr101_46.slots[((5 : Int32)).toNatClampNeg]? = some (.ref y5) := Has.at Hr101_46 hinr101_46 rfl
    refine RunsW.go (Xw89_27.aaload hx (j := (5 : Int32)) (v := (.ref y5)) (by rw [ew89_27]; exact Arr101_46.1) (State.isArrayOf_alike hZ.alike Arr101_46.2.1) rfl Arr101_46.2.2 hinr101_46 hatr101_46 (g := (mkF m 101 #[.val (.int x0), .val (.ref ba2_1), .val (.int (5 : Int32)), .unset, .unset, .unset, .unset] [(.int (5 : Int32)), (.ref ba2_1)])) rfl rfl (hb hby at_101)) ?_
    show RunsW p e below s _ _ _ (Tw89_27.setTop (mkF m 102 #[.val (.int x0), .val (.ref ba2_1), .val (.int (5 : Int32)), .unset, .unset, .unset, .unset] [(.ref y5)]))
    refine RunsW.go (fun _ => XS.astoreN Xw89_27.here hx rfl (hb hby at_102) rfl rfl (l' := #[.val (.int x0), .val (.ref ba2_1), .val (.int (5 : Int32)), .val (.ref y5), .unset, .unset, .unset]) rfl) ?_
    show RunsW p e below s _ _ _ (Tw89_27.setTop (mkF m 103 #[.val (.int x0), .val (.ref ba2_1), .val (.int (5 : Int32)), .val (.ref y5), .unset, .unset, .unset] []))
    refine RunsW.go (fun _ => XS.iloadN Xw89_27.here hx rfl (hb hby at_103) rfl) ?_
    show RunsW p e below s _ _ _ (Tw89_27.setTop (mkF m 104 #[.val (.int x0), .val (.ref ba2_1), .val (.int (5 : Int32)), .val (.ref y5), .unset, .unset, .unset] [(.int (5 : Int32))]))
    refine RunsW.go (fun _ => XS.iconst Xw89_27.here hx rfl (hb hby at_104)) ?_
    show RunsW p e below s _ _ _ (Tw89_27.setTop (mkF m 105 #[.val (.int x0), .val (.ref ba2_1), .val (.int (5 : Int32)), .val (.ref y5), .unset, .unset, .unset] [(.int (2 : Int32)), (.int (5 : Int32))]))
    refine RunsW.go (fun _ => XS.icmpNo Xw89_27.here hx rfl (hb hby at_105) rfl (feq ((by decide) : ¬ ((5 : Int32) = (2 : Int32)))).1) ?_
    show RunsW p e below s _ _ _ (Tw89_27.setTop (mkF m 108 #[.val (.int x0), .val (.ref ba2_1), .val (.int (5 : Int32)), .val (.ref y5), .unset, .unset, .unset] []))
    refine RunsW.go (fun _ => XS.iloadN Xw89_27.here hx rfl (hb hby at_108) rfl) ?_
    show RunsW p e below s _ _ _ (Tw89_27.setTop (mkF m 109 #[.val (.int x0), .val (.ref ba2_1), .val (.int (5 : Int32)), .val (.ref y5), .unset, .unset, .unset] [(.int (5 : Int32))]))
    refine RunsW.go (fun _ => XS.iconst Xw89_27.here hx rfl (hb hby at_109)) ?_
    show RunsW p e below s _ _ _ (Tw89_27.setTop (mkF m 110 #[.val (.int x0), .val (.ref ba2_1), .val (.int (5 : Int32)), .val (.ref y5), .unset, .unset, .unset] [(.int (3 : Int32)), (.int (5 : Int32))]))
    refine RunsW.go (fun _ => XS.icmpYes Xw89_27.here hx rfl (pc0 := 110) (pc' := 117) rfl (hb hby at_110) rfl (feq ((by decide) : ¬ ((5 : Int32) = (3 : Int32)))).2 (by decide) (by decide)) ?_
    show RunsW p e below s _ _ _ (Tw89_27.setTop (mkF m 117 #[.val (.int x0), .val (.ref ba2_1), .val (.int (5 : Int32)), .val (.ref y5), .unset, .unset, .unset] []))
    refine RunsW.go (fun _ => XS.iconst Xw89_27.here hx rfl (hb hby at_117)) ?_
    show RunsW p e below s _ _ _ (Tw89_27.setTop (mkF m 118 #[.val (.int x0), .val (.ref ba2_1), .val (.int (5 : Int32)), .val (.ref y5), .unset, .unset, .unset] [(.int (0 : Int32))]))
    refine RunsW.go (fun _ => XS.istore Xw89_27.here hx rfl (hb hby at_118) rfl (l' := #[.val (.int x0), .val (.ref ba2_1), .val (.int (5 : Int32)), .val (.ref y5), .val (.int (0 : Int32)), .unset, .unset]) rfl) ?_
    show RunsW p e below s _ _ _ (Tw89_27.setTop (mkF m 120 #[.val (.int x0), .val (.ref ba2_1), .val (.int (5 : Int32)), .val (.ref y5), .val (.int (0 : Int32)), .unset, .unset] []))
    refine RunsW.go (fun _ => XS.aloadN Xw89_27.here hx rfl (hb hby at_120) rfl rfl) ?_
    show RunsW p e below s _ _ _ (Tw89_27.setTop (mkF m 121 #[.val (.int x0), .val (.ref ba2_1), .val (.int (5 : Int32)), .val (.ref y5), .val (.int (0 : Int32)), .unset, .unset] [(.ref y5)]))
    obtain ⟨cqc121_47, kqc121_47, qc121_47a, qc121_47b, qc121_47c⟩ := isOf hZ ew89_27 (E5.ext Kw89_27)
    obtain ⟨_, _, ⟨Tc121_47, Lc121_47, kc121_47, nc121_47⟩, -, Xc121_47, ⟨Lcc121_47, hQc121_47, lc121_47, yc121_47, zc121_47⟩, stc121_47⟩ := Xw89_27.virtualBack hx (y := (⟨"com/example/replay/replay/api/EventType", "isActivityOutcome", "()Z"⟩ : MethodName)) (z := (⟨"com/example/replay/replay/api/EventType", "isActivityOutcome", "()Z"⟩ : MethodName)) hown (mvT hZ (hw _ (List.mem_of_getElem? (i := 31) rfl))) (mvT hZ (hw _ (List.mem_of_getElem? (i := 32) rfl))) (notFace_of_selects (args := #[]) (mvT hZ (hw _ (List.mem_of_getElem? (i := 34) rfl)))) (mvT hZ (hw _ (List.mem_of_getElem? (i := 34) rfl))) (mvT hZ (hw _ (List.mem_of_getElem? (i := 33) rfl))) (by decide) (backOf (W := 0) (rm1c l Z a0 hw [] y5 y2 y3 hw89_27 Z.heap.size hnw89_27 (S2.ext Kw89_27) (S3.ext Kw89_27) (Fld.ne O5 O2 (by decide)) (Fld.ne O5 O3 (by decide))) hZ (hw _ (List.mem_of_getElem? (i := 35) rfl)) (hw _ (List.mem_of_getElem? (i := 3) rfl)) (by decide) (by decide)) qc121_47a qc121_47c (g := (mkF m 121 #[.val (.int x0), .val (.ref ba2_1), .val (.int (5 : Int32)), .val (.ref y5), .val (.int (0 : Int32)), .unset, .unset] [(.ref y5)])) rfl (by rw [hml]; rfl) (Steps.refl _) (argsL := []) (rest := []) (lenOf pd_0 rfl) rfl (by show 2 * 0 + _ ≤ _; exact Nat.le_of_eq rfl) (hb hby at_121) (fun _ _ => ⟨rfl, ew89_27, (by decide : 1 + 0 ≤ _), (by decide : 13 + 0 ≤ _)⟩)
    dsimp only [Pt.U, Pt.locs, Pt.cells, Pt.slots] at Xc121_47 lc121_47 yc121_47 zc121_47 stc121_47 hQc121_47
    subst lc121_47 yc121_47 zc121_47
    obtain ⟨rfl, rfl, ec121_47⟩ := hQc121_47
    refine RunsW.go (fun _ => stc121_47.trans) ?_
    have Nc121_47 := Fr.app Nw89_27 (Fr.nil Z.heap.size)
    show RunsW p e below s _ _ _ (Tc121_47.setTop (mkF m 124 #[.val (.int x0), .val (.ref ba2_1), .val (.int (5 : Int32)), .val (.ref y5), .val (.int (0 : Int32)), .unset, .unset] [(.int (0 : Int32))]))
    refine RunsW.go (fun _ => XS.istore Xc121_47.here hx rfl (hb hby at_124) rfl (l' := #[.val (.int x0), .val (.ref ba2_1), .val (.int (5 : Int32)), .val (.ref y5), .val (.int (0 : Int32)), .val (.int (0 : Int32)), .unset]) rfl) ?_
    show RunsW p e below s _ _ _ (Tc121_47.setTop (mkF m 126 #[.val (.int x0), .val (.ref ba2_1), .val (.int (5 : Int32)), .val (.ref y5), .val (.int (0 : Int32)), .val (.int (0 : Int32)), .unset] []))
    refine RunsW.go (fun _ => XS.iload Xc121_47.here hx rfl (hb hby at_126) rfl) ?_
    show RunsW p e below s _ _ _ (Tc121_47.setTop (mkF m 128 #[.val (.int x0), .val (.ref ba2_1), .val (.int (5 : Int32)), .val (.ref y5), .val (.int (0 : Int32)), .val (.int (0 : Int32)), .unset] [(.int (0 : Int32))]))
    refine RunsW.go (fun _ => XS.iload Xc121_47.here hx rfl (hb hby at_128) rfl) ?_
    show RunsW p e below s _ _ _ (Tc121_47.setTop (mkF m 130 #[.val (.int x0), .val (.ref ba2_1), .val (.int (5 : Int32)), .val (.ref y5), .val (.int (0 : Int32)), .val (.int (0 : Int32)), .unset] [(.int (0 : Int32)), (.int (0 : Int32))]))
    refine RunsW.go (fun _ => XS.icmpYes Xc121_47.here hx rfl (pc0 := 130) (pc' := 135) rfl (hb hby at_130) rfl (teq (rfl : (0 : Int32) = (0 : Int32))).1 (by decide) (by decide)) ?_
    show RunsW p e below s _ _ _ (Tc121_47.setTop (mkF m 135 #[.val (.int x0), .val (.ref ba2_1), .val (.int (5 : Int32)), .val (.ref y5), .val (.int (0 : Int32)), .val (.int (0 : Int32)), .unset] []))
    refine RunsW.go (fun _ => XS.iload Xc121_47.here hx rfl (hb hby at_135) rfl) ?_
    show RunsW p e below s _ _ _ (Tc121_47.setTop (mkF m 137 #[.val (.int x0), .val (.ref ba2_1), .val (.int (5 : Int32)), .val (.ref y5), .val (.int (0 : Int32)), .val (.int (0 : Int32)), .unset] [(.int (0 : Int32))]))
    refine RunsW.go (fun _ => XS.ifYes Xc121_47.here hx rfl (pc0 := 137) (pc' := 172) rfl (hb hby at_137) rfl ((if0 _ _).trans (teq (rfl : (0 : Int32) = (0 : Int32))).1) (by decide) (by decide)) ?_
    show RunsW p e below s _ _ _ (Tc121_47.setTop (mkF m 172 #[.val (.int x0), .val (.ref ba2_1), .val (.int (5 : Int32)), .val (.ref y5), .val (.int (0 : Int32)), .val (.int (0 : Int32)), .unset] []))
    refine RunsW.go (fun _ => XS.iconst Xc121_47.here hx rfl (hb hby at_172)) ?_
    show RunsW p e below s _ _ _ (Tc121_47.setTop (mkF m 173 #[.val (.int x0), .val (.ref ba2_1), .val (.int (5 : Int32)), .val (.ref y5), .val (.int (0 : Int32)), .val (.int (0 : Int32)), .unset] [(.int (1 : Int32))]))
    exact RunsW.endN0 Xc121_47 hx (t := .boolean) Bd.returns (by simp) Bd.notSynchronized (hb hby at_173) ⟨rfl, Nc121_47⟩ (by decide) (by decide)
  · rw [q]
    show RunsW p e below s _ _ _ (Tw89_27.setTop (mkF m 98 #[.val (.int x0), .val (.ref ba2_1), .unset, .unset, .unset, .unset, .unset] [(.int (6 : Int32))]))
    refine RunsW.go (fun _ => XS.istoreN Xw89_27.here hx rfl (hb hby at_98) rfl (l' := #[.val (.int x0), .val (.ref ba2_1), .val (.int (6 : Int32)), .unset, .unset, .unset, .unset]) rfl) ?_
    show RunsW p e below s _ _ _ (Tw89_27.setTop (mkF m 99 #[.val (.int x0), .val (.ref ba2_1), .val (.int (6 : Int32)), .unset, .unset, .unset, .unset] []))
    refine RunsW.go (fun _ => XS.aloadN Xw89_27.here hx rfl (hb hby at_99) rfl rfl) ?_
    show RunsW p e below s _ _ _ (Tw89_27.setTop (mkF m 100 #[.val (.int x0), .val (.ref ba2_1), .val (.int (6 : Int32)), .unset, .unset, .unset, .unset] [(.ref ba2_1)]))
    refine RunsW.go (fun _ => XS.iloadN Xw89_27.here hx rfl (hb hby at_100) rfl) ?_
    show RunsW p e below s _ _ _ (Tw89_27.setTop (mkF m 101 #[.val (.int x0), .val (.ref ba2_1), .val (.int (6 : Int32)), .unset, .unset, .unset, .unset] [(.int (6 : Int32)), (.ref ba2_1)]))
    have VCr101_48 := Vw89_27
    obtain ⟨clr101_48, Arr101_48, -, Sr101_48, Mr101_48, Hr101_48, -⟩ := VCr101_48
    have hinr101_48 : ¬ ((6 : Int32) < 0 ∨ clr101_48.slots.size ≤ ((6 : Int32)).toNatClampNeg) := inb_of Sr101_48 ⟨by decide, by decide⟩
    have hatr101_48 : clr101_48.slots[((6 : Int32)).toNatClampNeg]? = some (.ref y6) := Has.at Hr101_48 hinr101_48 rfl
    refine RunsW.go (Xw89_27.aaload hx (j := (6 : Int32)) (v := (.ref y6)) (by rw [ew89_27]; exact Arr101_48.1) (State.isArrayOf_alike hZ.alike Arr101_48.2.1) rfl Arr101_48.2.2 hinr101_48 hatr101_48 (g := (mkF m 101 #[.val (.int x0), .val (.ref ba2_1), .val (.int (6 : Int32)), .unset, .unset, .unset, .unset] [(.int (6 : Int32)), (.ref ba2_1)])) rfl rfl (hb hby at_101)) ?_
    show RunsW p e below s _ _ _ (Tw89_27.setTop (mkF m 102 #[.val (.int x0), .val (.ref ba2_1), .val (.int (6 : Int32)), .unset, .unset, .unset, .unset] [(.ref y6)]))
    refine RunsW.go (fun _ => XS.astoreN Xw89_27.here hx rfl (hb hby at_102) rfl rfl (l' := #[.val (.int x0), .val (.ref ba2_1), .val (.int (6 : Int32)), .val (.ref y6), .unset, .unset, .unset]) rfl) ?_
    show RunsW p e below s _ _ _ (Tw89_27.setTop (mkF m 103 #[.val (.int x0), .val (.ref ba2_1), .val (.int (6 : Int32)), .val (.ref y6), .unset, .unset, .unset] []))
    refine RunsW.go (fun _ => XS.iloadN Xw89_27.here hx rfl (hb hby at_103) rfl) ?_
    show RunsW p e below s _ _ _ (Tw89_27.setTop (mkF m 104 #[.val (.int x0), .val (.ref ba2_1), .val (.int (6 : Int32)), .val (.ref y6), .unset, .unset, .unset] [(.int (6 : Int32))]))
    refine RunsW.go (fun _ => XS.iconst Xw89_27.here hx rfl (hb hby at_104)) ?_
    show RunsW p e below s _ _ _ (Tw89_27.setTop (mkF m 105 #[.val (.int x0), .val (.ref ba2_1), .val (.int (6 : Int32)), .val (.ref y6), .unset, .unset, .unset] [(.int (2 : Int32)), (.int (6 : Int32))]))
    refine RunsW.go (fun _ => XS.icmpNo Xw89_27.here hx rfl (hb hby at_105) rfl (feq ((by decide) : ¬ ((6 : Int32) = (2 : Int32)))).1) ?_
    show RunsW p e below s _ _ _ (Tw89_27.setTop (mkF m 108 #[.val (.int x0), .val (.ref ba2_1), .val (.int (6 : Int32)), .val (.ref y6), .unset, .unset, .unset] []))
    refine RunsW.go (fun _ => XS.iloadN Xw89_27.here hx rfl (hb hby at_108) rfl) ?_
    show RunsW p e below s _ _ _ (Tw89_27.setTop (mkF m 109 #[.val (.int x0), .val (.ref ba2_1), .val (.int (6 : Int32)), .val (.ref y6), .unset, .unset, .unset] [(.int (6 : Int32))]))
    refine RunsW.go (fun _ => XS.iconst Xw89_27.here hx rfl (hb hby at_109)) ?_
    show RunsW p e below s _ _ _ (Tw89_27.setTop (mkF m 110 #[.val (.int x0), .val (.ref ba2_1), .val (.int (6 : Int32)), .val (.ref y6), .unset, .unset, .unset] [(.int (3 : Int32)), (.int (6 : Int32))]))
    refine RunsW.go (fun _ => XS.icmpYes Xw89_27.here hx rfl (pc0 := 110) (pc' := 117) rfl (hb hby at_110) rfl (feq ((by decide) : ¬ ((6 : Int32) = (3 : Int32)))).2 (by decide) (by decide)) ?_
    show RunsW p e below s _ _ _ (Tw89_27.setTop (mkF m 117 #[.val (.int x0), .val (.ref ba2_1), .val (.int (6 : Int32)), .val (.ref y6), .unset, .unset, .unset] []))
    refine RunsW.go (fun _ => XS.iconst Xw89_27.here hx rfl (hb hby at_117)) ?_
    show RunsW p e below s _ _ _ (Tw89_27.setTop (mkF m 118 #[.val (.int x0), .val (.ref ba2_1), .val (.int (6 : Int32)), .val (.ref y6), .unset, .unset, .unset] [(.int (0 : Int32))]))
    refine RunsW.go (fun _ => XS.istore Xw89_27.here hx rfl (hb hby at_118) rfl (l' := #[.val (.int x0), .val (.ref ba2_1), .val (.int (6 : Int32)), .val (.ref y6), .val (.int (0 : Int32)), .unset, .unset]) rfl) ?_
    show RunsW p e below s _ _ _ (Tw89_27.setTop (mkF m 120 #[.val (.int x0), .val (.ref ba2_1), .val (.int (6 : Int32)), .val (.ref y6), .val (.int (0 : Int32)), .unset, .unset] []))
    refine RunsW.go (fun _ => XS.aloadN Xw89_27.here hx rfl (hb hby at_120) rfl rfl) ?_
    show RunsW p e below s _ _ _ (Tw89_27.setTop (mkF m 121 #[.val (.int x0), .val (.ref ba2_1), .val (.int (6 : Int32)), .val (.ref y6), .val (.int (0 : Int32)), .unset, .unset] [(.ref y6)]))
    obtain ⟨cqc121_49, kqc121_49, qc121_49a, qc121_49b, qc121_49c⟩ := isOf hZ ew89_27 (E6.ext Kw89_27)
    obtain ⟨_, _, ⟨Tc121_49, Lc121_49, kc121_49, nc121_49⟩, -, Xc121_49, ⟨Lcc121_49, hQc121_49, lc121_49, yc121_49, zc121_49⟩, stc121_49⟩ := Xw89_27.virtualBack hx (y := (⟨"com/example/replay/replay/api/EventType", "isActivityOutcome", "()Z"⟩ : MethodName)) (z := (⟨"com/example/replay/replay/api/EventType", "isActivityOutcome", "()Z"⟩ : MethodName)) hown (mvT hZ (hw _ (List.mem_of_getElem? (i := 31) rfl))) (mvT hZ (hw _ (List.mem_of_getElem? (i := 32) rfl))) (notFace_of_selects (args := #[]) (mvT hZ (hw _ (List.mem_of_getElem? (i := 34) rfl)))) (mvT hZ (hw _ (List.mem_of_getElem? (i := 34) rfl))) (mvT hZ (hw _ (List.mem_of_getElem? (i := 33) rfl))) (by decide) (backOf (W := 0) (rm1c l Z a0 hw [] y6 y2 y3 hw89_27 Z.heap.size hnw89_27 (S2.ext Kw89_27) (S3.ext Kw89_27) (Fld.ne O6 O2 (by decide)) (Fld.ne O6 O3 (by decide))) hZ (hw _ (List.mem_of_getElem? (i := 35) rfl)) (hw _ (List.mem_of_getElem? (i := 3) rfl)) (by decide) (by decide)) qc121_49a qc121_49c (g := (mkF m 121 #[.val (.int x0), .val (.ref ba2_1), .val (.int (6 : Int32)), .val (.ref y6), .val (.int (0 : Int32)), .unset, .unset] [(.ref y6)])) rfl (by rw [hml]; rfl) (Steps.refl _) (argsL := []) (rest := []) (lenOf pd_0 rfl) rfl (by show 2 * 0 + _ ≤ _; exact Nat.le_of_eq rfl) (hb hby at_121) (fun _ _ => ⟨rfl, ew89_27, (by decide : 1 + 0 ≤ _), (by decide : 13 + 0 ≤ _)⟩)
    dsimp only [Pt.U, Pt.locs, Pt.cells, Pt.slots] at Xc121_49 lc121_49 yc121_49 zc121_49 stc121_49 hQc121_49
    subst lc121_49 yc121_49 zc121_49
    obtain ⟨rfl, rfl, ec121_49⟩ := hQc121_49
    refine RunsW.go (fun _ => stc121_49.trans) ?_
    have Nc121_49 := Fr.app Nw89_27 (Fr.nil Z.heap.size)
    show RunsW p e below s _ _ _ (Tc121_49.setTop (mkF m 124 #[.val (.int x0), .val (.ref ba2_1), .val (.int (6 : Int32)), .val (.ref y6), .val (.int (0 : Int32)), .unset, .unset] [(.int (0 : Int32))]))
    refine RunsW.go (fun _ => XS.istore Xc121_49.here hx rfl (hb hby at_124) rfl (l' := #[.val (.int x0), .val (.ref ba2_1), .val (.int (6 : Int32)), .val (.ref y6), .val (.int (0 : Int32)), .val (.int (0 : Int32)), .unset]) rfl) ?_
    show RunsW p e below s _ _ _ (Tc121_49.setTop (mkF m 126 #[.val (.int x0), .val (.ref ba2_1), .val (.int (6 : Int32)), .val (.ref y6), .val (.int (0 : Int32)), .val (.int (0 : Int32)), .unset] []))
    refine RunsW.go (fun _ => XS.iload Xc121_49.here hx rfl (hb hby at_126) rfl) ?_
    show RunsW p e below s _ _ _ (Tc121_49.setTop (mkF m 128 #[.val (.int x0), .val (.ref ba2_1), .val (.int (6 : Int32)), .val (.ref y6), .val (.int (0 : Int32)), .val (.int (0 : Int32)), .unset] [(.int (0 : Int32))]))
    refine RunsW.go (fun _ => XS.iload Xc121_49.here hx rfl (hb hby at_128) rfl) ?_
    show RunsW p e below s _ _ _ (Tc121_49.setTop (mkF m 130 #[.val (.int x0), .val (.ref ba2_1), .val (.int (6 : Int32)), .val (.ref y6), .val (.int (0 : Int32)), .val (.int (0 : Int32)), .unset] [(.int (0 : Int32)), (.int (0 : Int32))]))
    refine RunsW.go (fun _ => XS.icmpYes Xc121_49.here hx rfl (pc0 := 130) (pc' := 135) rfl (hb hby at_130) rfl (teq (rfl : (0 : Int32) = (0 : Int32))).1 (by decide) (by decide)) ?_
    show RunsW p e below s _ _ _ (Tc121_49.setTop (mkF m 135 #[.val (.int x0), .val (.ref ba2_1), .val (.int (6 : Int32)), .val (.ref y6), .val (.int (0 : Int32)), .val (.int (0 : Int32)), .unset] []))
    refine RunsW.go (fun _ => XS.iload Xc121_49.here hx rfl (hb hby at_135) rfl) ?_
    show RunsW p e below s _ _ _ (Tc121_49.setTop (mkF m 137 #[.val (.int x0), .val (.ref ba2_1), .val (.int (6 : Int32)), .val (.ref y6), .val (.int (0 : Int32)), .val (.int (0 : Int32)), .unset] [(.int (0 : Int32))]))
    refine RunsW.go (fun _ => XS.ifYes Xc121_49.here hx rfl (pc0 := 137) (pc' := 172) rfl (hb hby at_137) rfl ((if0 _ _).trans (teq (rfl : (0 : Int32) = (0 : Int32))).1) (by decide) (by decide)) ?_
    show RunsW p e below s _ _ _ (Tc121_49.setTop (mkF m 172 #[.val (.int x0), .val (.ref ba2_1), .val (.int (6 : Int32)), .val (.ref y6), .val (.int (0 : Int32)), .val (.int (0 : Int32)), .unset] []))
    refine RunsW.go (fun _ => XS.iconst Xc121_49.here hx rfl (hb hby at_172)) ?_
    show RunsW p e below s _ _ _ (Tc121_49.setTop (mkF m 173 #[.val (.int x0), .val (.ref ba2_1), .val (.int (6 : Int32)), .val (.ref y6), .val (.int (0 : Int32)), .val (.int (0 : Int32)), .unset] [(.int (1 : Int32))]))
    exact RunsW.endN0 Xc121_49 hx (t := .boolean) Bd.returns (by simp) Bd.notSynchronized (hb hby at_173) ⟨rfl, Nc121_49⟩ (by decide) (by decide)
  · rw [q]
    show RunsW p e below s _ _ _ (Tw89_27.setTop (mkF m 98 #[.val (.int x0), .val (.ref ba2_1), .unset, .unset, .unset, .unset, .unset] [(.int (7 : Int32))]))
    refine RunsW.go (fun _ => XS.istoreN Xw89_27.here hx rfl (hb hby at_98) rfl (l' := #[.val (.int x0), .val (.ref ba2_1), .val (.int (7 : Int32)), .unset, .unset, .unset, .unset]) rfl) ?_
    show RunsW p e below s _ _ _ (Tw89_27.setTop (mkF m 99 #[.val (.int x0), .val (.ref ba2_1), .val (.int (7 : Int32)), .unset, .unset, .unset, .unset] []))
    refine RunsW.go (fun _ => XS.aloadN Xw89_27.here hx rfl (hb hby at_99) rfl rfl) ?_
    show RunsW p e below s _ _ _ (Tw89_27.setTop (mkF m 100 #[.val (.int x0), .val (.ref ba2_1), .val (.int (7 : Int32)), .unset, .unset, .unset, .unset] [(.ref ba2_1)]))
    refine RunsW.go (fun _ => XS.iloadN Xw89_27.here hx rfl (hb hby at_100) rfl) ?_
    show RunsW p e below s _ _ _ (Tw89_27.setTop (mkF m 101 #[.val (.int x0), .val (.ref ba2_1), .val (.int (7 : Int32)), .unset, .unset, .unset, .unset] [(.int (7 : Int32)), (.ref ba2_1)]))
    have VCr101_50 := Vw89_27
    obtain ⟨clr101_50, Arr101_50, -, Sr101_50, Mr101_50, Hr101_50, -⟩ := VCr101_50
    have hinr101_50 : ¬ ((7 : Int32) < 0 ∨ clr101_50.slots.size ≤ ((7 : Int32)).toNatClampNeg) := inb_of Sr101_50 ⟨by decide, by decide⟩
    have hatr101_50 : clr101_50.slots[((7 : Int32)).toNatClampNeg]? = some (.ref y7) := Has.at Hr101_50 hinr101_50 rfl
    refine RunsW.go (Xw89_27.aaload hx (j := (7 : Int32)) (v := (.ref y7)) (by rw [ew89_27]; exact Arr101_50.1) (State.isArrayOf_alike hZ.alike Arr101_50.2.1) rfl Arr101_50.2.2 hinr101_50 hatr101_50 (g := (mkF m 101 #[.val (.int x0), .val (.ref ba2_1), .val (.int (7 : Int32)), .unset, .unset, .unset, .unset] [(.int (7 : Int32)), (.ref ba2_1)])) rfl rfl (hb hby at_101)) ?_
    show RunsW p e below s _ _ _ (Tw89_27.setTop (mkF m 102 #[.val (.int x0), .val (.ref ba2_1), .val (.int (7 : Int32)), .unset, .unset, .unset, .unset] [(.ref y7)]))
    refine RunsW.go (fun _ => XS.astoreN Xw89_27.here hx rfl (hb hby at_102) rfl rfl (l' := #[.val (.int x0), .val (.ref ba2_1), .val (.int (7 : Int32)), .val (.ref y7), .unset, .unset, .unset]) rfl) ?_
    show RunsW p e below s _ _ _ (Tw89_27.setTop (mkF m 103 #[.val (.int x0), .val (.ref ba2_1), .val (.int (7 : Int32)), .val (.ref y7), .unset, .unset, .unset] []))
    refine RunsW.go (fun _ => XS.iloadN Xw89_27.here hx rfl (hb hby at_103) rfl) ?_
    show RunsW p e below s _ _ _ (Tw89_27.setTop (mkF m 104 #[.val (.int x0), .val (.ref ba2_1), .val (.int (7 : Int32)), .val (.ref y7), .unset, .unset, .unset] [(.int (7 : Int32))]))
    refine RunsW.go (fun _ => XS.iconst Xw89_27.here hx rfl (hb hby at_104)) ?_
    show RunsW p e below s _ _ _ (Tw89_27.setTop (mkF m 105 #[.val (.int x0), .val (.ref ba2_1), .val (.int (7 : Int32)), .val (.ref y7), .unset, .unset, .unset] [(.int (2 : Int32)), (.int (7 : Int32))]))
    refine RunsW.go (fun _ => XS.icmpNo Xw89_27.here hx rfl (hb hby at_105) rfl (feq ((by decide) : ¬ ((7 : Int32) = (2 : Int32)))).1) ?_
    show RunsW p e below s _ _ _ (Tw89_27.setTop (mkF m 108 #[.val (.int x0), .val (.ref ba2_1), .val (.int (7 : Int32)), .val (.ref y7), .unset, .unset, .unset] []))
    refine RunsW.go (fun _ => XS.iloadN Xw89_27.here hx rfl (hb hby at_108) rfl) ?_
    show RunsW p e below s _ _ _ (Tw89_27.setTop (mkF m 109 #[.val (.int x0), .val (.ref ba2_1), .val (.int (7 : Int32)), .val (.ref y7), .unset, .unset, .unset] [(.int (7 : Int32))]))
    refine RunsW.go (fun _ => XS.iconst Xw89_27.here hx rfl (hb hby at_109)) ?_
    show RunsW p e below s _ _ _ (Tw89_27.setTop (mkF m 110 #[.val (.int x0), .val (.ref ba2_1), .val (.int (7 : Int32)), .val (.ref y7), .unset, .unset, .unset] [(.int (3 : Int32)), (.int (7 : Int32))]))
    refine RunsW.go (fun _ => XS.icmpYes Xw89_27.here hx rfl (pc0 := 110) (pc' := 117) rfl (hb hby at_110) rfl (feq ((by decide) : ¬ ((7 : Int32) = (3 : Int32)))).2 (by decide) (by decide)) ?_
    show RunsW p e below s _ _ _ (Tw89_27.setTop (mkF m 117 #[.val (.int x0), .val (.ref ba2_1), .val (.int (7 : Int32)), .val (.ref y7), .unset, .unset, .unset] []))
    refine RunsW.go (fun _ => XS.iconst Xw89_27.here hx rfl (hb hby at_117)) ?_
    show RunsW p e below s _ _ _ (Tw89_27.setTop (mkF m 118 #[.val (.int x0), .val (.ref ba2_1), .val (.int (7 : Int32)), .val (.ref y7), .unset, .unset, .unset] [(.int (0 : Int32))]))
    refine RunsW.go (fun _ => XS.istore Xw89_27.here hx rfl (hb hby at_118) rfl (l' := #[.val (.int x0), .val (.ref ba2_1), .val (.int (7 : Int32)), .val (.ref y7), .val (.int (0 : Int32)), .unset, .unset]) rfl) ?_
    show RunsW p e below s _ _ _ (Tw89_27.setTop (mkF m 120 #[.val (.int x0), .val (.ref ba2_1), .val (.int (7 : Int32)), .val (.ref y7), .val (.int (0 : Int32)), .unset, .unset] []))
    refine RunsW.go (fun _ => XS.aloadN Xw89_27.here hx rfl (hb hby at_120) rfl rfl) ?_
    show RunsW p e below s _ _ _ (Tw89_27.setTop (mkF m 121 #[.val (.int x0), .val (.ref ba2_1), .val (.int (7 : Int32)), .val (.ref y7), .val (.int (0 : Int32)), .unset, .unset] [(.ref y7)]))
    obtain ⟨cqc121_51, kqc121_51, qc121_51a, qc121_51b, qc121_51c⟩ := isOf hZ ew89_27 (E7.ext Kw89_27)
    obtain ⟨_, _, ⟨Tc121_51, Lc121_51, kc121_51, nc121_51⟩, -, Xc121_51, ⟨Lcc121_51, hQc121_51, lc121_51, yc121_51, zc121_51⟩, stc121_51⟩ := Xw89_27.virtualBack hx (y := (⟨"com/example/replay/replay/api/EventType", "isActivityOutcome", "()Z"⟩ : MethodName)) (z := (⟨"com/example/replay/replay/api/EventType", "isActivityOutcome", "()Z"⟩ : MethodName)) hown (mvT hZ (hw _ (List.mem_of_getElem? (i := 31) rfl))) (mvT hZ (hw _ (List.mem_of_getElem? (i := 32) rfl))) (notFace_of_selects (args := #[]) (mvT hZ (hw _ (List.mem_of_getElem? (i := 34) rfl)))) (mvT hZ (hw _ (List.mem_of_getElem? (i := 34) rfl))) (mvT hZ (hw _ (List.mem_of_getElem? (i := 33) rfl))) (by decide) (backOf (W := 0) (rm1c l Z a0 hw [] y7 y2 y3 hw89_27 Z.heap.size hnw89_27 (S2.ext Kw89_27) (S3.ext Kw89_27) (Fld.ne O7 O2 (by decide)) (Fld.ne O7 O3 (by decide))) hZ (hw _ (List.mem_of_getElem? (i := 35) rfl)) (hw _ (List.mem_of_getElem? (i := 3) rfl)) (by decide) (by decide)) qc121_51a qc121_51c (g := (mkF m 121 #[.val (.int x0), .val (.ref ba2_1), .val (.int (7 : Int32)), .val (.ref y7), .val (.int (0 : Int32)), .unset, .unset] [(.ref y7)])) rfl (by rw [hml]; rfl) (Steps.refl _) (argsL := []) (rest := []) (lenOf pd_0 rfl) rfl (by show 2 * 0 + _ ≤ _; exact Nat.le_of_eq rfl) (hb hby at_121) (fun _ _ => ⟨rfl, ew89_27, (by decide : 1 + 0 ≤ _), (by decide : 13 + 0 ≤ _)⟩)
    dsimp only [Pt.U, Pt.locs, Pt.cells, Pt.slots] at Xc121_51 lc121_51 yc121_51 zc121_51 stc121_51 hQc121_51
    subst lc121_51 yc121_51 zc121_51
    obtain ⟨rfl, rfl, ec121_51⟩ := hQc121_51
    refine RunsW.go (fun _ => stc121_51.trans) ?_
    have Nc121_51 := Fr.app Nw89_27 (Fr.nil Z.heap.size)
    show RunsW p e below s _ _ _ (Tc121_51.setTop (mkF m 124 #[.val (.int x0), .val (.ref ba2_1), .val (.int (7 : Int32)), .val (.ref y7), .val (.int (0 : Int32)), .unset, .unset] [(.int (0 : Int32))]))
    refine RunsW.go (fun _ => XS.istore Xc121_51.here hx rfl (hb hby at_124) rfl (l' := #[.val (.int x0), .val (.ref ba2_1), .val (.int (7 : Int32)), .val (.ref y7), .val (.int (0 : Int32)), .val (.int (0 : Int32)), .unset]) rfl) ?_
    show RunsW p e below s _ _ _ (Tc121_51.setTop (mkF m 126 #[.val (.int x0), .val (.ref ba2_1), .val (.int (7 : Int32)), .val (.ref y7), .val (.int (0 : Int32)), .val (.int (0 : Int32)), .unset] []))
    refine RunsW.go (fun _ => XS.iload Xc121_51.here hx rfl (hb hby at_126) rfl) ?_
    show RunsW p e below s _ _ _ (Tc121_51.setTop (mkF m 128 #[.val (.int x0), .val (.ref ba2_1), .val (.int (7 : Int32)), .val (.ref y7), .val (.int (0 : Int32)), .val (.int (0 : Int32)), .unset] [(.int (0 : Int32))]))
    refine RunsW.go (fun _ => XS.iload Xc121_51.here hx rfl (hb hby at_128) rfl) ?_
    show RunsW p e below s _ _ _ (Tc121_51.setTop (mkF m 130 #[.val (.int x0), .val (.ref ba2_1), .val (.int (7 : Int32)), .val (.ref y7), .val (.int (0 : Int32)), .val (.int (0 : Int32)), .unset] [(.int (0 : Int32)), (.int (0 : Int32))]))
    refine RunsW.go (fun _ => XS.icmpYes Xc121_51.here hx rfl (pc0 := 130) (pc' := 135) rfl (hb hby at_130) rfl (teq (rfl : (0 : Int32) = (0 : Int32))).1 (by decide) (by decide)) ?_
    show RunsW p e below s _ _ _ (Tc121_51.setTop (mkF m 135 #[.val (.int x0), .val (.ref ba2_1), .val (.int (7 : Int32)), .val (.ref y7), .val (.int (0 : Int32)), .val (.int (0 : Int32)), .unset] []))
    refine RunsW.go (fun _ => XS.iload Xc121_51.here hx rfl (hb hby at_135) rfl) ?_
    show RunsW p e below s _ _ _ (Tc121_51.setTop (mkF m 137 #[.val (.int x0), .val (.ref ba2_1), .val (.int (7 : Int32)), .val (.ref y7), .val (.int (0 : Int32)), .val (.int (0 : Int32)), .unset] [(.int (0 : Int32))]))
    refine RunsW.go (fun _ => XS.ifYes Xc121_51.here hx rfl (pc0 := 137) (pc' := 172) rfl (hb hby at_137) rfl ((if0 _ _).trans (teq (rfl : (0 : Int32) = (0 : Int32))).1) (by decide) (by decide)) ?_
    show RunsW p e below s _ _ _ (Tc121_51.setTop (mkF m 172 #[.val (.int x0), .val (.ref ba2_1), .val (.int (7 : Int32)), .val (.ref y7), .val (.int (0 : Int32)), .val (.int (0 : Int32)), .unset] []))
    refine RunsW.go (fun _ => XS.iconst Xc121_51.here hx rfl (hb hby at_172)) ?_
    show RunsW p e below s _ _ _ (Tc121_51.setTop (mkF m 173 #[.val (.int x0), .val (.ref ba2_1), .val (.int (7 : Int32)), .val (.ref y7), .val (.int (0 : Int32)), .val (.int (0 : Int32)), .unset] [(.int (1 : Int32))]))
    exact RunsW.endN0 Xc121_51 hx (t := .boolean) Bd.returns (by simp) Bd.notSynchronized (hb hby at_173) ⟨rfl, Nc121_51⟩ (by decide) (by decide)
  · rw [q]
    show RunsW p e below s _ _ _ (Tw89_27.setTop (mkF m 98 #[.val (.int x0), .val (.ref ba2_1), .unset, .unset, .unset, .unset, .unset] [(.int (8 : Int32))]))
    refine RunsW.go (fun _ => XS.istoreN Xw89_27.here hx rfl (hb hby at_98) rfl (l' := #[.val (.int x0), .val (.ref ba2_1), .val (.int (8 : Int32)), .unset, .unset, .unset, .unset]) rfl) ?_
    show RunsW p e below s _ _ _ (Tw89_27.setTop (mkF m 99 #[.val (.int x0), .val (.ref ba2_1), .val (.int (8 : Int32)), .unset, .unset, .unset, .unset] []))
    refine RunsW.go (fun _ => XS.aloadN Xw89_27.here hx rfl (hb hby at_99) rfl rfl) ?_
    show RunsW p e below s _ _ _ (Tw89_27.setTop (mkF m 100 #[.val (.int x0), .val (.ref ba2_1), .val (.int (8 : Int32)), .unset, .unset, .unset, .unset] [(.ref ba2_1)]))
    refine RunsW.go (fun _ => XS.iloadN Xw89_27.here hx rfl (hb hby at_100) rfl) ?_
    show RunsW p e below s _ _ _ (Tw89_27.setTop (mkF m 101 #[.val (.int x0), .val (.ref ba2_1), .val (.int (8 : Int32)), .unset, .unset, .unset, .unset] [(.int (8 : Int32)), (.ref ba2_1)]))
    have VCr101_52 := Vw89_27
    obtain ⟨clr101_52, Arr101_52, -, Sr101_52, Mr101_52, Hr101_52, -⟩ := VCr101_52
    have hinr101_52 : ¬ ((8 : Int32) < 0 ∨ clr101_52.slots.size ≤ ((8 : Int32)).toNatClampNeg) := inb_of Sr101_52 ⟨by decide, by decide⟩
    have hatr101_52 : clr101_52.slots[((8 : Int32)).toNatClampNeg]? = some (.ref y8) := Has.at Hr101_52 hinr101_52 rfl
    refine RunsW.go (Xw89_27.aaload hx (j := (8 : Int32)) (v := (.ref y8)) (by rw [ew89_27]; exact Arr101_52.1) (State.isArrayOf_alike hZ.alike Arr101_52.2.1) rfl Arr101_52.2.2 hinr101_52 hatr101_52 (g := (mkF m 101 #[.val (.int x0), .val (.ref ba2_1), .val (.int (8 : Int32)), .unset, .unset, .unset, .unset] [(.int (8 : Int32)), (.ref ba2_1)])) rfl rfl (hb hby at_101)) ?_
    show RunsW p e below s _ _ _ (Tw89_27.setTop (mkF m 102 #[.val (.int x0), .val (.ref ba2_1), .val (.int (8 : Int32)), .unset, .unset, .unset, .unset] [(.ref y8)]))
    refine RunsW.go (fun _ => XS.astoreN Xw89_27.here hx rfl (hb hby at_102) rfl rfl (l' := #[.val (.int x0), .val (.ref ba2_1), .val (.int (8 : Int32)), .val (.ref y8), .unset, .unset, .unset]) rfl) ?_
    show RunsW p e below s _ _ _ (Tw89_27.setTop (mkF m 103 #[.val (.int x0), .val (.ref ba2_1), .val (.int (8 : Int32)), .val (.ref y8), .unset, .unset, .unset] []))
    refine RunsW.go (fun _ => XS.iloadN Xw89_27.here hx rfl (hb hby at_103) rfl) ?_
    show RunsW p e below s _ _ _ (Tw89_27.setTop (mkF m 104 #[.val (.int x0), .val (.ref ba2_1), .val (.int (8 : Int32)), .val (.ref y8), .unset, .unset, .unset] [(.int (8 : Int32))]))
    refine RunsW.go (fun _ => XS.iconst Xw89_27.here hx rfl (hb hby at_104)) ?_
    show RunsW p e below s _ _ _ (Tw89_27.setTop (mkF m 105 #[.val (.int x0), .val (.ref ba2_1), .val (.int (8 : Int32)), .val (.ref y8), .unset, .unset, .unset] [(.int (2 : Int32)), (.int (8 : Int32))]))
    refine RunsW.go (fun _ => XS.icmpNo Xw89_27.here hx rfl (hb hby at_105) rfl (feq ((by decide) : ¬ ((8 : Int32) = (2 : Int32)))).1) ?_
    show RunsW p e below s _ _ _ (Tw89_27.setTop (mkF m 108 #[.val (.int x0), .val (.ref ba2_1), .val (.int (8 : Int32)), .val (.ref y8), .unset, .unset, .unset] []))
    refine RunsW.go (fun _ => XS.iloadN Xw89_27.here hx rfl (hb hby at_108) rfl) ?_
    show RunsW p e below s _ _ _ (Tw89_27.setTop (mkF m 109 #[.val (.int x0), .val (.ref ba2_1), .val (.int (8 : Int32)), .val (.ref y8), .unset, .unset, .unset] [(.int (8 : Int32))]))
    refine RunsW.go (fun _ => XS.iconst Xw89_27.here hx rfl (hb hby at_109)) ?_
    show RunsW p e below s _ _ _ (Tw89_27.setTop (mkF m 110 #[.val (.int x0), .val (.ref ba2_1), .val (.int (8 : Int32)), .val (.ref y8), .unset, .unset, .unset] [(.int (3 : Int32)), (.int (8 : Int32))]))
    refine RunsW.go (fun _ => XS.icmpYes Xw89_27.here hx rfl (pc0 := 110) (pc' := 117) rfl (hb hby at_110) rfl (feq ((by decide) : ¬ ((8 : Int32) = (3 : Int32)))).2 (by decide) (by decide)) ?_
    show RunsW p e below s _ _ _ (Tw89_27.setTop (mkF m 117 #[.val (.int x0), .val (.ref ba2_1), .val (.int (8 : Int32)), .val (.ref y8), .unset, .unset, .unset] []))
    refine RunsW.go (fun _ => XS.iconst Xw89_27.here hx rfl (hb hby at_117)) ?_
    show RunsW p e below s _ _ _ (Tw89_27.setTop (mkF m 118 #[.val (.int x0), .val (.ref ba2_1), .val (.int (8 : Int32)), .val (.ref y8), .unset, .unset, .unset] [(.int (0 : Int32))]))
    refine RunsW.go (fun _ => XS.istore Xw89_27.here hx rfl (hb hby at_118) rfl (l' := #[.val (.int x0), .val (.ref ba2_1), .val (.int (8 : Int32)), .val (.ref y8), .val (.int (0 : Int32)), .unset, .unset]) rfl) ?_
    show RunsW p e below s _ _ _ (Tw89_27.setTop (mkF m 120 #[.val (.int x0), .val (.ref ba2_1), .val (.int (8 : Int32)), .val (.ref y8), .val (.int (0 : Int32)), .unset, .unset] []))
    refine RunsW.go (fun _ => XS.aloadN Xw89_27.here hx rfl (hb hby at_120) rfl rfl) ?_
    show RunsW p e below s _ _ _ (Tw89_27.setTop (mkF m 121 #[.val (.int x0), .val (.ref ba2_1), .val (.int (8 : Int32)), .val (.ref y8), .val (.int (0 : Int32)), .unset, .unset] [(.ref y8)]))
    obtain ⟨cqc121_53, kqc121_53, qc121_53a, qc121_53b, qc121_53c⟩ := isOf hZ ew89_27 (E8.ext Kw89_27)
    obtain ⟨_, _, ⟨Tc121_53, Lc121_53, kc121_53, nc121_53⟩, -, Xc121_53, ⟨Lcc121_53, hQc121_53, lc121_53, yc121_53, zc121_53⟩, stc121_53⟩ := Xw89_27.virtualBack hx (y := (⟨"com/example/replay/replay/api/EventType", "isActivityOutcome", "()Z"⟩ : MethodName)) (z := (⟨"com/example/replay/replay/api/EventType", "isActivityOutcome", "()Z"⟩ : MethodName)) hown (mvT hZ (hw _ (List.mem_of_getElem? (i := 31) rfl))) (mvT hZ (hw _ (List.mem_of_getElem? (i := 32) rfl))) (notFace_of_selects (args := #[]) (mvT hZ (hw _ (List.mem_of_getElem? (i := 34) rfl)))) (mvT hZ (hw _ (List.mem_of_getElem? (i := 34) rfl))) (mvT hZ (hw _ (List.mem_of_getElem? (i := 33) rfl))) (by decide) (backOf (W := 0) (rm1c l Z a0 hw [] y8 y2 y3 hw89_27 Z.heap.size hnw89_27 (S2.ext Kw89_27) (S3.ext Kw89_27) (Fld.ne O8 O2 (by decide)) (Fld.ne O8 O3 (by decide))) hZ (hw _ (List.mem_of_getElem? (i := 35) rfl)) (hw _ (List.mem_of_getElem? (i := 3) rfl)) (by decide) (by decide)) qc121_53a qc121_53c (g := (mkF m 121 #[.val (.int x0), .val (.ref ba2_1), .val (.int (8 : Int32)), .val (.ref y8), .val (.int (0 : Int32)), .unset, .unset] [(.ref y8)])) rfl (by rw [hml]; rfl) (Steps.refl _) (argsL := []) (rest := []) (lenOf pd_0 rfl) rfl (by show 2 * 0 + _ ≤ _; exact Nat.le_of_eq rfl) (hb hby at_121) (fun _ _ => ⟨rfl, ew89_27, (by decide : 1 + 0 ≤ _), (by decide : 13 + 0 ≤ _)⟩)
    dsimp only [Pt.U, Pt.locs, Pt.cells, Pt.slots] at Xc121_53 lc121_53 yc121_53 zc121_53 stc121_53 hQc121_53
    subst lc121_53 yc121_53 zc121_53
    obtain ⟨rfl, rfl, ec121_53⟩ := hQc121_53
    refine RunsW.go (fun _ => stc121_53.trans) ?_
    have Nc121_53 := Fr.app Nw89_27 (Fr.nil Z.heap.size)
    show RunsW p e below s _ _ _ (Tc121_53.setTop (mkF m 124 #[.val (.int x0), .val (.ref ba2_1), .val (.int (8 : Int32)), .val (.ref y8), .val (.int (0 : Int32)), .unset, .unset] [(.int (0 : Int32))]))
    refine RunsW.go (fun _ => XS.istore Xc121_53.here hx rfl (hb hby at_124) rfl (l' := #[.val (.int x0), .val (.ref ba2_1), .val (.int (8 : Int32)), .val (.ref y8), .val (.int (0 : Int32)), .val (.int (0 : Int32)), .unset]) rfl) ?_
    show RunsW p e below s _ _ _ (Tc121_53.setTop (mkF m 126 #[.val (.int x0), .val (.ref ba2_1), .val (.int (8 : Int32)), .val (.ref y8), .val (.int (0 : Int32)), .val (.int (0 : Int32)), .unset] []))
    refine RunsW.go (fun _ => XS.iload Xc121_53.here hx rfl (hb hby at_126) rfl) ?_
    show RunsW p e below s _ _ _ (Tc121_53.setTop (mkF m 128 #[.val (.int x0), .val (.ref ba2_1), .val (.int (8 : Int32)), .val (.ref y8), .val (.int (0 : Int32)), .val (.int (0 : Int32)), .unset] [(.int (0 : Int32))]))
    refine RunsW.go (fun _ => XS.iload Xc121_53.here hx rfl (hb hby at_128) rfl) ?_
    show RunsW p e below s _ _ _ (Tc121_53.setTop (mkF m 130 #[.val (.int x0), .val (.ref ba2_1), .val (.int (8 : Int32)), .val (.ref y8), .val (.int (0 : Int32)), .val (.int (0 : Int32)), .unset] [(.int (0 : Int32)), (.int (0 : Int32))]))
    refine RunsW.go (fun _ => XS.icmpYes Xc121_53.here hx rfl (pc0 := 130) (pc' := 135) rfl (hb hby at_130) rfl (teq (rfl : (0 : Int32) = (0 : Int32))).1 (by decide) (by decide)) ?_
    show RunsW p e below s _ _ _ (Tc121_53.setTop (mkF m 135 #[.val (.int x0), .val (.ref ba2_1), .val (.int (8 : Int32)), .val (.ref y8), .val (.int (0 : Int32)), .val (.int (0 : Int32)), .unset] []))
    refine RunsW.go (fun _ => XS.iload Xc121_53.here hx rfl (hb hby at_135) rfl) ?_
    show RunsW p e below s _ _ _ (Tc121_53.setTop (mkF m 137 #[.val (.int x0), .val (.ref ba2_1), .val (.int (8 : Int32)), .val (.ref y8), .val (.int (0 : Int32)), .val (.int (0 : Int32)), .unset] [(.int (0 : Int32))]))
    refine RunsW.go (fun _ => XS.ifYes Xc121_53.here hx rfl (pc0 := 137) (pc' := 172) rfl (hb hby at_137) rfl ((if0 _ _).trans (teq (rfl : (0 : Int32) = (0 : Int32))).1) (by decide) (by decide)) ?_
    show RunsW p e below s _ _ _ (Tc121_53.setTop (mkF m 172 #[.val (.int x0), .val (.ref ba2_1), .val (.int (8 : Int32)), .val (.ref y8), .val (.int (0 : Int32)), .val (.int (0 : Int32)), .unset] []))
    refine RunsW.go (fun _ => XS.iconst Xc121_53.here hx rfl (hb hby at_172)) ?_
    show RunsW p e below s _ _ _ (Tc121_53.setTop (mkF m 173 #[.val (.int x0), .val (.ref ba2_1), .val (.int (8 : Int32)), .val (.ref y8), .val (.int (0 : Int32)), .val (.int (0 : Int32)), .unset] [(.int (1 : Int32))]))
    exact RunsW.endN0 Xc121_53 hx (t := .boolean) Bd.returns (by simp) Bd.notSynchronized (hb hby at_173) ⟨rfl, Nc121_53⟩ (by decide) (by decide)
  · rw [q]
    show RunsW p e below s _ _ _ (Tw89_27.setTop (mkF m 98 #[.val (.int x0), .val (.ref ba2_1), .unset, .unset, .unset, .unset, .unset] [(.int (9 : Int32))]))
    refine RunsW.go (fun _ => XS.istoreN Xw89_27.here hx rfl (hb hby at_98) rfl (l' := #[.val (.int x0), .val (.ref ba2_1), .val (.int (9 : Int32)), .unset, .unset, .unset, .unset]) rfl) ?_
    show RunsW p e below s _ _ _ (Tw89_27.setTop (mkF m 99 #[.val (.int x0), .val (.ref ba2_1), .val (.int (9 : Int32)), .unset, .unset, .unset, .unset] []))
    refine RunsW.go (fun _ => XS.aloadN Xw89_27.here hx rfl (hb hby at_99) rfl rfl) ?_
    show RunsW p e below s _ _ _ (Tw89_27.setTop (mkF m 100 #[.val (.int x0), .val (.ref ba2_1), .val (.int (9 : Int32)), .unset, .unset, .unset, .unset] [(.ref ba2_1)]))
    refine RunsW.go (fun _ => XS.iloadN Xw89_27.here hx rfl (hb hby at_100) rfl) ?_
    show RunsW p e below s _ _ _ (Tw89_27.setTop (mkF m 101 #[.val (.int x0), .val (.ref ba2_1), .val (.int (9 : Int32)), .unset, .unset, .unset, .unset] [(.int (9 : Int32)), (.ref ba2_1)]))
    have VCr101_54 := Vw89_27
    obtain ⟨clr101_54, Arr101_54, -, Sr101_54, Mr101_54, Hr101_54, -⟩ := VCr101_54
    have hinr101_54 : ¬ ((9 : Int32) < 0 ∨ clr101_54.slots.size ≤ ((9 : Int32)).toNatClampNeg) := inb_of Sr101_54 ⟨by decide, by decide⟩
    have hatr101_54 : clr101_54.slots[((9 : Int32)).toNatClampNeg]? = some (.ref y9) := Has.at Hr101_54 hinr101_54 rfl
    refine RunsW.go (Xw89_27.aaload hx (j := (9 : Int32)) (v := (.ref y9)) (by rw [ew89_27]; exact Arr101_54.1) (State.isArrayOf_alike hZ.alike Arr101_54.2.1) rfl Arr101_54.2.2 hinr101_54 hatr101_54 (g := (mkF m 101 #[.val (.int x0), .val (.ref ba2_1), .val (.int (9 : Int32)), .unset, .unset, .unset, .unset] [(.int (9 : Int32)), (.ref ba2_1)])) rfl rfl (hb hby at_101)) ?_
    show RunsW p e below s _ _ _ (Tw89_27.setTop (mkF m 102 #[.val (.int x0), .val (.ref ba2_1), .val (.int (9 : Int32)), .unset, .unset, .unset, .unset] [(.ref y9)]))
    refine RunsW.go (fun _ => XS.astoreN Xw89_27.here hx rfl (hb hby at_102) rfl rfl (l' := #[.val (.int x0), .val (.ref ba2_1), .val (.int (9 : Int32)), .val (.ref y9), .unset, .unset, .unset]) rfl) ?_
    show RunsW p e below s _ _ _ (Tw89_27.setTop (mkF m 103 #[.val (.int x0), .val (.ref ba2_1), .val (.int (9 : Int32)), .val (.ref y9), .unset, .unset, .unset] []))
    refine RunsW.go (fun _ => XS.iloadN Xw89_27.here hx rfl (hb hby at_103) rfl) ?_
    show RunsW p e below s _ _ _ (Tw89_27.setTop (mkF m 104 #[.val (.int x0), .val (.ref ba2_1), .val (.int (9 : Int32)), .val (.ref y9), .unset, .unset, .unset] [(.int (9 : Int32))]))
    refine RunsW.go (fun _ => XS.iconst Xw89_27.here hx rfl (hb hby at_104)) ?_
    show RunsW p e below s _ _ _ (Tw89_27.setTop (mkF m 105 #[.val (.int x0), .val (.ref ba2_1), .val (.int (9 : Int32)), .val (.ref y9), .unset, .unset, .unset] [(.int (2 : Int32)), (.int (9 : Int32))]))
    refine RunsW.go (fun _ => XS.icmpNo Xw89_27.here hx rfl (hb hby at_105) rfl (feq ((by decide) : ¬ ((9 : Int32) = (2 : Int32)))).1) ?_
    show RunsW p e below s _ _ _ (Tw89_27.setTop (mkF m 108 #[.val (.int x0), .val (.ref ba2_1), .val (.int (9 : Int32)), .val (.ref y9), .unset, .unset, .unset] []))
    refine RunsW.go (fun _ => XS.iloadN Xw89_27.here hx rfl (hb hby at_108) rfl) ?_
    show RunsW p e below s _ _ _ (Tw89_27.setTop (mkF m 109 #[.val (.int x0), .val (.ref ba2_1), .val (.int (9 : Int32)), .val (.ref y9), .unset, .unset, .unset] [(.int (9 : Int32))]))
    refine RunsW.go (fun _ => XS.iconst Xw89_27.here hx rfl (hb hby at_109)) ?_
    show RunsW p e below s _ _ _ (Tw89_27.setTop (mkF m 110 #[.val (.int x0), .val (.ref ba2_1), .val (.int (9 : Int32)), .val (.ref y9), .unset, .unset, .unset] [(.int (3 : Int32)), (.int (9 : Int32))]))
    refine RunsW.go (fun _ => XS.icmpYes Xw89_27.here hx rfl (pc0 := 110) (pc' := 117) rfl (hb hby at_110) rfl (feq ((by decide) : ¬ ((9 : Int32) = (3 : Int32)))).2 (by decide) (by decide)) ?_
    show RunsW p e below s _ _ _ (Tw89_27.setTop (mkF m 117 #[.val (.int x0), .val (.ref ba2_1), .val (.int (9 : Int32)), .val (.ref y9), .unset, .unset, .unset] []))
    refine RunsW.go (fun _ => XS.iconst Xw89_27.here hx rfl (hb hby at_117)) ?_
    show RunsW p e below s _ _ _ (Tw89_27.setTop (mkF m 118 #[.val (.int x0), .val (.ref ba2_1), .val (.int (9 : Int32)), .val (.ref y9), .unset, .unset, .unset] [(.int (0 : Int32))]))
    refine RunsW.go (fun _ => XS.istore Xw89_27.here hx rfl (hb hby at_118) rfl (l' := #[.val (.int x0), .val (.ref ba2_1), .val (.int (9 : Int32)), .val (.ref y9), .val (.int (0 : Int32)), .unset, .unset]) rfl) ?_
    show RunsW p e below s _ _ _ (Tw89_27.setTop (mkF m 120 #[.val (.int x0), .val (.ref ba2_1), .val (.int (9 : Int32)), .val (.ref y9), .val (.int (0 : Int32)), .unset, .unset] []))
    refine RunsW.go (fun _ => XS.aloadN Xw89_27.here hx rfl (hb hby at_120) rfl rfl) ?_
    show RunsW p e below s _ _ _ (Tw89_27.setTop (mkF m 121 #[.val (.int x0), .val (.ref ba2_1), .val (.int (9 : Int32)), .val (.ref y9), .val (.int (0 : Int32)), .unset, .unset] [(.ref y9)]))
    obtain ⟨cqc121_55, kqc121_55, qc121_55a, qc121_55b, qc121_55c⟩ := isOf hZ ew89_27 (E9.ext Kw89_27)
    obtain ⟨_, _, ⟨Tc121_55, Lc121_55, kc121_55, nc121_55⟩, -, Xc121_55, ⟨Lcc121_55, hQc121_55, lc121_55, yc121_55, zc121_55⟩, stc121_55⟩ := Xw89_27.virtualBack hx (y := (⟨"com/example/replay/replay/api/EventType", "isActivityOutcome", "()Z"⟩ : MethodName)) (z := (⟨"com/example/replay/replay/api/EventType", "isActivityOutcome", "()Z"⟩ : MethodName)) hown (mvT hZ (hw _ (List.mem_of_getElem? (i := 31) rfl))) (mvT hZ (hw _ (List.mem_of_getElem? (i := 32) rfl))) (notFace_of_selects (args := #[]) (mvT hZ (hw _ (List.mem_of_getElem? (i := 34) rfl)))) (mvT hZ (hw _ (List.mem_of_getElem? (i := 34) rfl))) (mvT hZ (hw _ (List.mem_of_getElem? (i := 33) rfl))) (by decide) (backOf (W := 0) (rm1c l Z a0 hw [] y9 y2 y3 hw89_27 Z.heap.size hnw89_27 (S2.ext Kw89_27) (S3.ext Kw89_27) (Fld.ne O9 O2 (by decide)) (Fld.ne O9 O3 (by decide))) hZ (hw _ (List.mem_of_getElem? (i := 35) rfl)) (hw _ (List.mem_of_getElem? (i := 3) rfl)) (by decide) (by decide)) qc121_55a qc121_55c (g := (mkF m 121 #[.val (.int x0), .val (.ref ba2_1), .val (.int (9 : Int32)), .val (.ref y9), .val (.int (0 : Int32)), .unset, .unset] [(.ref y9)])) rfl (by rw [hml]; rfl) (Steps.refl _) (argsL := []) (rest := []) (lenOf pd_0 rfl) rfl (by show 2 * 0 + _ ≤ _; exact Nat.le_of_eq rfl) (hb hby at_121) (fun _ _ => ⟨rfl, ew89_27, (by decide : 1 + 0 ≤ _), (by decide : 13 + 0 ≤ _)⟩)
    dsimp only [Pt.U, Pt.locs, Pt.cells, Pt.slots] at Xc121_55 lc121_55 yc121_55 zc121_55 stc121_55 hQc121_55
    subst lc121_55 yc121_55 zc121_55
    obtain ⟨rfl, rfl, ec121_55⟩ := hQc121_55
    refine RunsW.go (fun _ => stc121_55.trans) ?_
    have Nc121_55 := Fr.app Nw89_27 (Fr.nil Z.heap.size)
    show RunsW p e below s _ _ _ (Tc121_55.setTop (mkF m 124 #[.val (.int x0), .val (.ref ba2_1), .val (.int (9 : Int32)), .val (.ref y9), .val (.int (0 : Int32)), .unset, .unset] [(.int (0 : Int32))]))
    refine RunsW.go (fun _ => XS.istore Xc121_55.here hx rfl (hb hby at_124) rfl (l' := #[.val (.int x0), .val (.ref ba2_1), .val (.int (9 : Int32)), .val (.ref y9), .val (.int (0 : Int32)), .val (.int (0 : Int32)), .unset]) rfl) ?_
    show RunsW p e below s _ _ _ (Tc121_55.setTop (mkF m 126 #[.val (.int x0), .val (.ref ba2_1), .val (.int (9 : Int32)), .val (.ref y9), .val (.int (0 : Int32)), .val (.int (0 : Int32)), .unset] []))
    refine RunsW.go (fun _ => XS.iload Xc121_55.here hx rfl (hb hby at_126) rfl) ?_
    show RunsW p e below s _ _ _ (Tc121_55.setTop (mkF m 128 #[.val (.int x0), .val (.ref ba2_1), .val (.int (9 : Int32)), .val (.ref y9), .val (.int (0 : Int32)), .val (.int (0 : Int32)), .unset] [(.int (0 : Int32))]))
    refine RunsW.go (fun _ => XS.iload Xc121_55.here hx rfl (hb hby at_128) rfl) ?_
    show RunsW p e below s _ _ _ (Tc121_55.setTop (mkF m 130 #[.val (.int x0), .val (.ref ba2_1), .val (.int (9 : Int32)), .val (.ref y9), .val (.int (0 : Int32)), .val (.int (0 : Int32)), .unset] [(.int (0 : Int32)), (.int (0 : Int32))]))
    refine RunsW.go (fun _ => XS.icmpYes Xc121_55.here hx rfl (pc0 := 130) (pc' := 135) rfl (hb hby at_130) rfl (teq (rfl : (0 : Int32) = (0 : Int32))).1 (by decide) (by decide)) ?_
    show RunsW p e below s _ _ _ (Tc121_55.setTop (mkF m 135 #[.val (.int x0), .val (.ref ba2_1), .val (.int (9 : Int32)), .val (.ref y9), .val (.int (0 : Int32)), .val (.int (0 : Int32)), .unset] []))
    refine RunsW.go (fun _ => XS.iload Xc121_55.here hx rfl (hb hby at_135) rfl) ?_
    show RunsW p e below s _ _ _ (Tc121_55.setTop (mkF m 137 #[.val (.int x0), .val (.ref ba2_1), .val (.int (9 : Int32)), .val (.ref y9), .val (.int (0 : Int32)), .val (.int (0 : Int32)), .unset] [(.int (0 : Int32))]))
    refine RunsW.go (fun _ => XS.ifYes Xc121_55.here hx rfl (pc0 := 137) (pc' := 172) rfl (hb hby at_137) rfl ((if0 _ _).trans (teq (rfl : (0 : Int32) = (0 : Int32))).1) (by decide) (by decide)) ?_
    show RunsW p e below s _ _ _ (Tc121_55.setTop (mkF m 172 #[.val (.int x0), .val (.ref ba2_1), .val (.int (9 : Int32)), .val (.ref y9), .val (.int (0 : Int32)), .val (.int (0 : Int32)), .unset] []))
    refine RunsW.go (fun _ => XS.iconst Xc121_55.here hx rfl (hb hby at_172)) ?_
    show RunsW p e below s _ _ _ (Tc121_55.setTop (mkF m 173 #[.val (.int x0), .val (.ref ba2_1), .val (.int (9 : Int32)), .val (.ref y9), .val (.int (0 : Int32)), .val (.int (0 : Int32)), .unset] [(.int (1 : Int32))]))
    exact RunsW.endN0 Xc121_55 hx (t := .boolean) Bd.returns (by simp) Bd.notSynchronized (hb hby at_173) ⟨rfl, Nc121_55⟩ (by decide) (by decide)
  · rw [q]
    show RunsW p e below s _ _ _ (Tw89_27.setTop (mkF m 98 #[.val (.int x0), .val (.ref ba2_1), .unset, .unset, .unset, .unset, .unset] [(.int (10 : Int32))]))
    refine RunsW.go (fun _ => XS.istoreN Xw89_27.here hx rfl (hb hby at_98) rfl (l' := #[.val (.int x0), .val (.ref ba2_1), .val (.int (10 : Int32)), .unset, .unset, .unset, .unset]) rfl) ?_
    show RunsW p e below s _ _ _ (Tw89_27.setTop (mkF m 99 #[.val (.int x0), .val (.ref ba2_1), .val (.int (10 : Int32)), .unset, .unset, .unset, .unset] []))
    refine RunsW.go (fun _ => XS.aloadN Xw89_27.here hx rfl (hb hby at_99) rfl rfl) ?_
    show RunsW p e below s _ _ _ (Tw89_27.setTop (mkF m 100 #[.val (.int x0), .val (.ref ba2_1), .val (.int (10 : Int32)), .unset, .unset, .unset, .unset] [(.ref ba2_1)]))
    refine RunsW.go (fun _ => XS.iloadN Xw89_27.here hx rfl (hb hby at_100) rfl) ?_
    show RunsW p e below s _ _ _ (Tw89_27.setTop (mkF m 101 #[.val (.int x0), .val (.ref ba2_1), .val (.int (10 : Int32)), .unset, .unset, .unset, .unset] [(.int (10 : Int32)), (.ref ba2_1)]))
    have VCr101_56 := Vw89_27
    obtain ⟨clr101_56, Arr101_56, -, Sr101_56, Mr101_56, Hr101_56, -⟩ := VCr101_56
    have hinr101_56 : ¬ ((10 : Int32) < 0 ∨ clr101_56.slots.size ≤ ((10 : Int32)).toNatClampNeg) := inb_of Sr101_56 ⟨by decide, by decide⟩
    have hatr101_56 : clr101_56.slots[((10 : Int32)).toNatClampNeg]? = some (.ref y10) := Has.at Hr101_56 hinr101_56 rfl
    refine RunsW.go (Xw89_27.aaload hx (j := (10 : Int32)) (v := (.ref y10)) (by rw [ew89_27]; exact Arr101_56.1) (State.isArrayOf_alike hZ.alike Arr101_56.2.1) rfl Arr101_56.2.2 hinr101_56 hatr101_56 (g := (mkF m 101 #[.val (.int x0), .val (.ref ba2_1), .val (.int (10 : Int32)), .unset, .unset, .unset, .unset] [(.int (10 : Int32)), (.ref ba2_1)])) rfl rfl (hb hby at_101)) ?_
    show RunsW p e below s _ _ _ (Tw89_27.setTop (mkF m 102 #[.val (.int x0), .val (.ref ba2_1), .val (.int (10 : Int32)), .unset, .unset, .unset, .unset] [(.ref y10)]))
    refine RunsW.go (fun _ => XS.astoreN Xw89_27.here hx rfl (hb hby at_102) rfl rfl (l' := #[.val (.int x0), .val (.ref ba2_1), .val (.int (10 : Int32)), .val (.ref y10), .unset, .unset, .unset]) rfl) ?_
    show RunsW p e below s _ _ _ (Tw89_27.setTop (mkF m 103 #[.val (.int x0), .val (.ref ba2_1), .val (.int (10 : Int32)), .val (.ref y10), .unset, .unset, .unset] []))
    refine RunsW.go (fun _ => XS.iloadN Xw89_27.here hx rfl (hb hby at_103) rfl) ?_
    show RunsW p e below s _ _ _ (Tw89_27.setTop (mkF m 104 #[.val (.int x0), .val (.ref ba2_1), .val (.int (10 : Int32)), .val (.ref y10), .unset, .unset, .unset] [(.int (10 : Int32))]))
    refine RunsW.go (fun _ => XS.iconst Xw89_27.here hx rfl (hb hby at_104)) ?_
    show RunsW p e below s _ _ _ (Tw89_27.setTop (mkF m 105 #[.val (.int x0), .val (.ref ba2_1), .val (.int (10 : Int32)), .val (.ref y10), .unset, .unset, .unset] [(.int (2 : Int32)), (.int (10 : Int32))]))
    refine RunsW.go (fun _ => XS.icmpNo Xw89_27.here hx rfl (hb hby at_105) rfl (feq ((by decide) : ¬ ((10 : Int32) = (2 : Int32)))).1) ?_
    show RunsW p e below s _ _ _ (Tw89_27.setTop (mkF m 108 #[.val (.int x0), .val (.ref ba2_1), .val (.int (10 : Int32)), .val (.ref y10), .unset, .unset, .unset] []))
    refine RunsW.go (fun _ => XS.iloadN Xw89_27.here hx rfl (hb hby at_108) rfl) ?_
    show RunsW p e below s _ _ _ (Tw89_27.setTop (mkF m 109 #[.val (.int x0), .val (.ref ba2_1), .val (.int (10 : Int32)), .val (.ref y10), .unset, .unset, .unset] [(.int (10 : Int32))]))
    refine RunsW.go (fun _ => XS.iconst Xw89_27.here hx rfl (hb hby at_109)) ?_
    show RunsW p e below s _ _ _ (Tw89_27.setTop (mkF m 110 #[.val (.int x0), .val (.ref ba2_1), .val (.int (10 : Int32)), .val (.ref y10), .unset, .unset, .unset] [(.int (3 : Int32)), (.int (10 : Int32))]))
    refine RunsW.go (fun _ => XS.icmpYes Xw89_27.here hx rfl (pc0 := 110) (pc' := 117) rfl (hb hby at_110) rfl (feq ((by decide) : ¬ ((10 : Int32) = (3 : Int32)))).2 (by decide) (by decide)) ?_
    show RunsW p e below s _ _ _ (Tw89_27.setTop (mkF m 117 #[.val (.int x0), .val (.ref ba2_1), .val (.int (10 : Int32)), .val (.ref y10), .unset, .unset, .unset] []))
    refine RunsW.go (fun _ => XS.iconst Xw89_27.here hx rfl (hb hby at_117)) ?_
    show RunsW p e below s _ _ _ (Tw89_27.setTop (mkF m 118 #[.val (.int x0), .val (.ref ba2_1), .val (.int (10 : Int32)), .val (.ref y10), .unset, .unset, .unset] [(.int (0 : Int32))]))
    refine RunsW.go (fun _ => XS.istore Xw89_27.here hx rfl (hb hby at_118) rfl (l' := #[.val (.int x0), .val (.ref ba2_1), .val (.int (10 : Int32)), .val (.ref y10), .val (.int (0 : Int32)), .unset, .unset]) rfl) ?_
    show RunsW p e below s _ _ _ (Tw89_27.setTop (mkF m 120 #[.val (.int x0), .val (.ref ba2_1), .val (.int (10 : Int32)), .val (.ref y10), .val (.int (0 : Int32)), .unset, .unset] []))
    refine RunsW.go (fun _ => XS.aloadN Xw89_27.here hx rfl (hb hby at_120) rfl rfl) ?_
    show RunsW p e below s _ _ _ (Tw89_27.setTop (mkF m 121 #[.val (.int x0), .val (.ref ba2_1), .val (.int (10 : Int32)), .val (.ref y10), .val (.int (0 : Int32)), .unset, .unset] [(.ref y10)]))
    obtain ⟨cqc121_57, kqc121_57, qc121_57a, qc121_57b, qc121_57c⟩ := isOf hZ ew89_27 (E10.ext Kw89_27)
    obtain ⟨_, _, ⟨Tc121_57, Lc121_57, kc121_57, nc121_57⟩, -, Xc121_57, ⟨Lcc121_57, hQc121_57, lc121_57, yc121_57, zc121_57⟩, stc121_57⟩ := Xw89_27.virtualBack hx (y := (⟨"com/example/replay/replay/api/EventType", "isActivityOutcome", "()Z"⟩ : MethodName)) (z := (⟨"com/example/replay/replay/api/EventType", "isActivityOutcome", "()Z"⟩ : MethodName)) hown (mvT hZ (hw _ (List.mem_of_getElem? (i := 31) rfl))) (mvT hZ (hw _ (List.mem_of_getElem? (i := 32) rfl))) (notFace_of_selects (args := #[]) (mvT hZ (hw _ (List.mem_of_getElem? (i := 34) rfl)))) (mvT hZ (hw _ (List.mem_of_getElem? (i := 34) rfl))) (mvT hZ (hw _ (List.mem_of_getElem? (i := 33) rfl))) (by decide) (backOf (W := 0) (rm1c l Z a0 hw [] y10 y2 y3 hw89_27 Z.heap.size hnw89_27 (S2.ext Kw89_27) (S3.ext Kw89_27) (Fld.ne O10 O2 (by decide)) (Fld.ne O10 O3 (by decide))) hZ (hw _ (List.mem_of_getElem? (i := 35) rfl)) (hw _ (List.mem_of_getElem? (i := 3) rfl)) (by decide) (by decide)) qc121_57a qc121_57c (g := (mkF m 121 #[.val (.int x0), .val (.ref ba2_1), .val (.int (10 : Int32)), .val (.ref y10), .val (.int (0 : Int32)), .unset, .unset] [(.ref y10)])) rfl (by rw [hml]; rfl) (Steps.refl _) (argsL := []) (rest := []) (lenOf pd_0 rfl) rfl (by show 2 * 0 + _ ≤ _; exact Nat.le_of_eq rfl) (hb hby at_121) (fun _ _ => ⟨rfl, ew89_27, (by decide : 1 + 0 ≤ _), (by decide : 13 + 0 ≤ _)⟩)
    dsimp only [Pt.U, Pt.locs, Pt.cells, Pt.slots] at Xc121_57 lc121_57 yc121_57 zc121_57 stc121_57 hQc121_57
    subst lc121_57 yc121_57 zc121_57
    obtain ⟨rfl, rfl, ec121_57⟩ := hQc121_57
    refine RunsW.go (fun _ => stc121_57.trans) ?_
    have Nc121_57 := Fr.app Nw89_27 (Fr.nil Z.heap.size)
    show RunsW p e below s _ _ _ (Tc121_57.setTop (mkF m 124 #[.val (.int x0), .val (.ref ba2_1), .val (.int (10 : Int32)), .val (.ref y10), .val (.int (0 : Int32)), .unset, .unset] [(.int (0 : Int32))]))
    refine RunsW.go (fun _ => XS.istore Xc121_57.here hx rfl (hb hby at_124) rfl (l' := #[.val (.int x0), .val (.ref ba2_1), .val (.int (10 : Int32)), .val (.ref y10), .val (.int (0 : Int32)), .val (.int (0 : Int32)), .unset]) rfl) ?_
    show RunsW p e below s _ _ _ (Tc121_57.setTop (mkF m 126 #[.val (.int x0), .val (.ref ba2_1), .val (.int (10 : Int32)), .val (.ref y10), .val (.int (0 : Int32)), .val (.int (0 : Int32)), .unset] []))
    refine RunsW.go (fun _ => XS.iload Xc121_57.here hx rfl (hb hby at_126) rfl) ?_
    show RunsW p e below s _ _ _ (Tc121_57.setTop (mkF m 128 #[.val (.int x0), .val (.ref ba2_1), .val (.int (10 : Int32)), .val (.ref y10), .val (.int (0 : Int32)), .val (.int (0 : Int32)), .unset] [(.int (0 : Int32))]))
    refine RunsW.go (fun _ => XS.iload Xc121_57.here hx rfl (hb hby at_128) rfl) ?_
    show RunsW p e below s _ _ _ (Tc121_57.setTop (mkF m 130 #[.val (.int x0), .val (.ref ba2_1), .val (.int (10 : Int32)), .val (.ref y10), .val (.int (0 : Int32)), .val (.int (0 : Int32)), .unset] [(.int (0 : Int32)), (.int (0 : Int32))]))
    refine RunsW.go (fun _ => XS.icmpYes Xc121_57.here hx rfl (pc0 := 130) (pc' := 135) rfl (hb hby at_130) rfl (teq (rfl : (0 : Int32) = (0 : Int32))).1 (by decide) (by decide)) ?_
    show RunsW p e below s _ _ _ (Tc121_57.setTop (mkF m 135 #[.val (.int x0), .val (.ref ba2_1), .val (.int (10 : Int32)), .val (.ref y10), .val (.int (0 : Int32)), .val (.int (0 : Int32)), .unset] []))
    refine RunsW.go (fun _ => XS.iload Xc121_57.here hx rfl (hb hby at_135) rfl) ?_
    show RunsW p e below s _ _ _ (Tc121_57.setTop (mkF m 137 #[.val (.int x0), .val (.ref ba2_1), .val (.int (10 : Int32)), .val (.ref y10), .val (.int (0 : Int32)), .val (.int (0 : Int32)), .unset] [(.int (0 : Int32))]))
    refine RunsW.go (fun _ => XS.ifYes Xc121_57.here hx rfl (pc0 := 137) (pc' := 172) rfl (hb hby at_137) rfl ((if0 _ _).trans (teq (rfl : (0 : Int32) = (0 : Int32))).1) (by decide) (by decide)) ?_
    show RunsW p e below s _ _ _ (Tc121_57.setTop (mkF m 172 #[.val (.int x0), .val (.ref ba2_1), .val (.int (10 : Int32)), .val (.ref y10), .val (.int (0 : Int32)), .val (.int (0 : Int32)), .unset] []))
    refine RunsW.go (fun _ => XS.iconst Xc121_57.here hx rfl (hb hby at_172)) ?_
    show RunsW p e below s _ _ _ (Tc121_57.setTop (mkF m 173 #[.val (.int x0), .val (.ref ba2_1), .val (.int (10 : Int32)), .val (.ref y10), .val (.int (0 : Int32)), .val (.int (0 : Int32)), .unset] [(.int (1 : Int32))]))
    exact RunsW.endN0 Xc121_57 hx (t := .boolean) Bd.returns (by simp) Bd.notSynchronized (hb hby at_173) ⟨rfl, Nc121_57⟩ (by decide) (by decide)
  · rw [q]
    show RunsW p e below s _ _ _ (Tw89_27.setTop (mkF m 98 #[.val (.int x0), .val (.ref ba2_1), .unset, .unset, .unset, .unset, .unset] [(.int (11 : Int32))]))
    refine RunsW.go (fun _ => XS.istoreN Xw89_27.here hx rfl (hb hby at_98) rfl (l' := #[.val (.int x0), .val (.ref ba2_1), .val (.int (11 : Int32)), .unset, .unset, .unset, .unset]) rfl) ?_
    show RunsW p e below s _ _ _ (Tw89_27.setTop (mkF m 99 #[.val (.int x0), .val (.ref ba2_1), .val (.int (11 : Int32)), .unset, .unset, .unset, .unset] []))
    refine RunsW.go (fun _ => XS.aloadN Xw89_27.here hx rfl (hb hby at_99) rfl rfl) ?_
    show RunsW p e below s _ _ _ (Tw89_27.setTop (mkF m 100 #[.val (.int x0), .val (.ref ba2_1), .val (.int (11 : Int32)), .unset, .unset, .unset, .unset] [(.ref ba2_1)]))
    refine RunsW.go (fun _ => XS.iloadN Xw89_27.here hx rfl (hb hby at_100) rfl) ?_
    show RunsW p e below s _ _ _ (Tw89_27.setTop (mkF m 101 #[.val (.int x0), .val (.ref ba2_1), .val (.int (11 : Int32)), .unset, .unset, .unset, .unset] [(.int (11 : Int32)), (.ref ba2_1)]))
    have VCr101_58 := Vw89_27
    obtain ⟨clr101_58, Arr101_58, -, Sr101_58, Mr101_58, Hr101_58, -⟩ := VCr101_58
    have hinr101_58 : ¬ ((11 : Int32) < 0 ∨ clr101_58.slots.size ≤ ((11 : Int32)).toNatClampNeg) := inb_of Sr101_58 ⟨by decide, by decide⟩
    have hatr101_58 : clr101_58.slots[((11 : Int32)).toNatClampNeg]? = some (.ref y11) := Has.at Hr101_58 hinr101_58 rfl
    refine RunsW.go (Xw89_27.aaload hx (j := (11 : Int32)) (v := (.ref y11)) (by rw [ew89_27]; exact Arr101_58.1) (State.isArrayOf_alike hZ.alike Arr101_58.2.1) rfl Arr101_58.2.2 hinr101_58 hatr101_58 (g := (mkF m 101 #[.val (.int x0), .val (.ref ba2_1), .val (.int (11 : Int32)), .unset, .unset, .unset, .unset] [(.int (11 : Int32)), (.ref ba2_1)])) rfl rfl (hb hby at_101)) ?_
    show RunsW p e below s _ _ _ (Tw89_27.setTop (mkF m 102 #[.val (.int x0), .val (.ref ba2_1), .val (.int (11 : Int32)), .unset, .unset, .unset, .unset] [(.ref y11)]))
    refine RunsW.go (fun _ => XS.astoreN Xw89_27.here hx rfl (hb hby at_102) rfl rfl (l' := #[.val (.int x0), .val (.ref ba2_1), .val (.int (11 : Int32)), .val (.ref y11), .unset, .unset, .unset]) rfl) ?_
    show RunsW p e below s _ _ _ (Tw89_27.setTop (mkF m 103 #[.val (.int x0), .val (.ref ba2_1), .val (.int (11 : Int32)), .val (.ref y11), .unset, .unset, .unset] []))
    refine RunsW.go (fun _ => XS.iloadN Xw89_27.here hx rfl (hb hby at_103) rfl) ?_
    show RunsW p e below s _ _ _ (Tw89_27.setTop (mkF m 104 #[.val (.int x0), .val (.ref ba2_1), .val (.int (11 : Int32)), .val (.ref y11), .unset, .unset, .unset] [(.int (11 : Int32))]))
    refine RunsW.go (fun _ => XS.iconst Xw89_27.here hx rfl (hb hby at_104)) ?_
    show RunsW p e below s _ _ _ (Tw89_27.setTop (mkF m 105 #[.val (.int x0), .val (.ref ba2_1), .val (.int (11 : Int32)), .val (.ref y11), .unset, .unset, .unset] [(.int (2 : Int32)), (.int (11 : Int32))]))
    refine RunsW.go (fun _ => XS.icmpNo Xw89_27.here hx rfl (hb hby at_105) rfl (feq ((by decide) : ¬ ((11 : Int32) = (2 : Int32)))).1) ?_
    show RunsW p e below s _ _ _ (Tw89_27.setTop (mkF m 108 #[.val (.int x0), .val (.ref ba2_1), .val (.int (11 : Int32)), .val (.ref y11), .unset, .unset, .unset] []))
    refine RunsW.go (fun _ => XS.iloadN Xw89_27.here hx rfl (hb hby at_108) rfl) ?_
    show RunsW p e below s _ _ _ (Tw89_27.setTop (mkF m 109 #[.val (.int x0), .val (.ref ba2_1), .val (.int (11 : Int32)), .val (.ref y11), .unset, .unset, .unset] [(.int (11 : Int32))]))
    refine RunsW.go (fun _ => XS.iconst Xw89_27.here hx rfl (hb hby at_109)) ?_
    show RunsW p e below s _ _ _ (Tw89_27.setTop (mkF m 110 #[.val (.int x0), .val (.ref ba2_1), .val (.int (11 : Int32)), .val (.ref y11), .unset, .unset, .unset] [(.int (3 : Int32)), (.int (11 : Int32))]))
    refine RunsW.go (fun _ => XS.icmpYes Xw89_27.here hx rfl (pc0 := 110) (pc' := 117) rfl (hb hby at_110) rfl (feq ((by decide) : ¬ ((11 : Int32) = (3 : Int32)))).2 (by decide) (by decide)) ?_
    show RunsW p e below s _ _ _ (Tw89_27.setTop (mkF m 117 #[.val (.int x0), .val (.ref ba2_1), .val (.int (11 : Int32)), .val (.ref y11), .unset, .unset, .unset] []))
    refine RunsW.go (fun _ => XS.iconst Xw89_27.here hx rfl (hb hby at_117)) ?_
    show RunsW p e below s _ _ _ (Tw89_27.setTop (mkF m 118 #[.val (.int x0), .val (.ref ba2_1), .val (.int (11 : Int32)), .val (.ref y11), .unset, .unset, .unset] [(.int (0 : Int32))]))
    refine RunsW.go (fun _ => XS.istore Xw89_27.here hx rfl (hb hby at_118) rfl (l' := #[.val (.int x0), .val (.ref ba2_1), .val (.int (11 : Int32)), .val (.ref y11), .val (.int (0 : Int32)), .unset, .unset]) rfl) ?_
    show RunsW p e below s _ _ _ (Tw89_27.setTop (mkF m 120 #[.val (.int x0), .val (.ref ba2_1), .val (.int (11 : Int32)), .val (.ref y11), .val (.int (0 : Int32)), .unset, .unset] []))
    refine RunsW.go (fun _ => XS.aloadN Xw89_27.here hx rfl (hb hby at_120) rfl rfl) ?_
    show RunsW p e below s _ _ _ (Tw89_27.setTop (mkF m 121 #[.val (.int x0), .val (.ref ba2_1), .val (.int (11 : Int32)), .val (.ref y11), .val (.int (0 : Int32)), .unset, .unset] [(.ref y11)]))
    obtain ⟨cqc121_59, kqc121_59, qc121_59a, qc121_59b, qc121_59c⟩ := isOf hZ ew89_27 (E11.ext Kw89_27)
    obtain ⟨_, _, ⟨Tc121_59, Lc121_59, kc121_59, nc121_59⟩, -, Xc121_59, ⟨Lcc121_59, hQc121_59, lc121_59, yc121_59, zc121_59⟩, stc121_59⟩ := Xw89_27.virtualBack hx (y := (⟨"com/example/replay/replay/api/EventType", "isActivityOutcome", "()Z"⟩ : MethodName)) (z := (⟨"com/example/replay/replay/api/EventType", "isActivityOutcome", "()Z"⟩ : MethodName)) hown (mvT hZ (hw _ (List.mem_of_getElem? (i := 31) rfl))) (mvT hZ (hw _ (List.mem_of_getElem? (i := 32) rfl))) (notFace_of_selects (args := #[]) (mvT hZ (hw _ (List.mem_of_getElem? (i := 34) rfl)))) (mvT hZ (hw _ (List.mem_of_getElem? (i := 34) rfl))) (mvT hZ (hw _ (List.mem_of_getElem? (i := 33) rfl))) (by decide) (backOf (W := 0) (rm1c l Z a0 hw [] y11 y2 y3 hw89_27 Z.heap.size hnw89_27 (S2.ext Kw89_27) (S3.ext Kw89_27) (Fld.ne O11 O2 (by decide)) (Fld.ne O11 O3 (by decide))) hZ (hw _ (List.mem_of_getElem? (i := 35) rfl)) (hw _ (List.mem_of_getElem? (i := 3) rfl)) (by decide) (by decide)) qc121_59a qc121_59c (g := (mkF m 121 #[.val (.int x0), .val (.ref ba2_1), .val (.int (11 : Int32)), .val (.ref y11), .val (.int (0 : Int32)), .unset, .unset] [(.ref y11)])) rfl (by rw [hml]; rfl) (Steps.refl _) (argsL := []) (rest := []) (lenOf pd_0 rfl) rfl (by show 2 * 0 + _ ≤ _; exact Nat.le_of_eq rfl) (hb hby at_121) (fun _ _ => ⟨rfl, ew89_27, (by decide : 1 + 0 ≤ _), (by decide : 13 + 0 ≤ _)⟩)
    dsimp only [Pt.U, Pt.locs, Pt.cells, Pt.slots] at Xc121_59 lc121_59 yc121_59 zc121_59 stc121_59 hQc121_59
    subst lc121_59 yc121_59 zc121_59
    obtain ⟨rfl, rfl, ec121_59⟩ := hQc121_59
    refine RunsW.go (fun _ => stc121_59.trans) ?_
    have Nc121_59 := Fr.app Nw89_27 (Fr.nil Z.heap.size)
    show RunsW p e below s _ _ _ (Tc121_59.setTop (mkF m 124 #[.val (.int x0), .val (.ref ba2_1), .val (.int (11 : Int32)), .val (.ref y11), .val (.int (0 : Int32)), .unset, .unset] [(.int (0 : Int32))]))
    refine RunsW.go (fun _ => XS.istore Xc121_59.here hx rfl (hb hby at_124) rfl (l' := #[.val (.int x0), .val (.ref ba2_1), .val (.int (11 : Int32)), .val (.ref y11), .val (.int (0 : Int32)), .val (.int (0 : Int32)), .unset]) rfl) ?_
    show RunsW p e below s _ _ _ (Tc121_59.setTop (mkF m 126 #[.val (.int x0), .val (.ref ba2_1), .val (.int (11 : Int32)), .val (.ref y11), .val (.int (0 : Int32)), .val (.int (0 : Int32)), .unset] []))
    refine RunsW.go (fun _ => XS.iload Xc121_59.here hx rfl (hb hby at_126) rfl) ?_
    show RunsW p e below s _ _ _ (Tc121_59.setTop (mkF m 128 #[.val (.int x0), .val (.ref ba2_1), .val (.int (11 : Int32)), .val (.ref y11), .val (.int (0 : Int32)), .val (.int (0 : Int32)), .unset] [(.int (0 : Int32))]))
    refine RunsW.go (fun _ => XS.iload Xc121_59.here hx rfl (hb hby at_128) rfl) ?_
    show RunsW p e below s _ _ _ (Tc121_59.setTop (mkF m 130 #[.val (.int x0), .val (.ref ba2_1), .val (.int (11 : Int32)), .val (.ref y11), .val (.int (0 : Int32)), .val (.int (0 : Int32)), .unset] [(.int (0 : Int32)), (.int (0 : Int32))]))
    refine RunsW.go (fun _ => XS.icmpYes Xc121_59.here hx rfl (pc0 := 130) (pc' := 135) rfl (hb hby at_130) rfl (teq (rfl : (0 : Int32) = (0 : Int32))).1 (by decide) (by decide)) ?_
    show RunsW p e below s _ _ _ (Tc121_59.setTop (mkF m 135 #[.val (.int x0), .val (.ref ba2_1), .val (.int (11 : Int32)), .val (.ref y11), .val (.int (0 : Int32)), .val (.int (0 : Int32)), .unset] []))
    refine RunsW.go (fun _ => XS.iload Xc121_59.here hx rfl (hb hby at_135) rfl) ?_
    show RunsW p e below s _ _ _ (Tc121_59.setTop (mkF m 137 #[.val (.int x0), .val (.ref ba2_1), .val (.int (11 : Int32)), .val (.ref y11), .val (.int (0 : Int32)), .val (.int (0 : Int32)), .unset] [(.int (0 : Int32))]))
    refine RunsW.go (fun _ => XS.ifYes Xc121_59.here hx rfl (pc0 := 137) (pc' := 172) rfl (hb hby at_137) rfl ((if0 _ _).trans (teq (rfl : (0 : Int32) = (0 : Int32))).1) (by decide) (by decide)) ?_
    show RunsW p e below s _ _ _ (Tc121_59.setTop (mkF m 172 #[.val (.int x0), .val (.ref ba2_1), .val (.int (11 : Int32)), .val (.ref y11), .val (.int (0 : Int32)), .val (.int (0 : Int32)), .unset] []))
    refine RunsW.go (fun _ => XS.iconst Xc121_59.here hx rfl (hb hby at_172)) ?_
    show RunsW p e below s _ _ _ (Tc121_59.setTop (mkF m 173 #[.val (.int x0), .val (.ref ba2_1), .val (.int (11 : Int32)), .val (.ref y11), .val (.int (0 : Int32)), .val (.int (0 : Int32)), .unset] [(.int (1 : Int32))]))
    exact RunsW.endN0 Xc121_59 hx (t := .boolean) Bd.returns (by simp) Bd.notSynchronized (hb hby at_173) ⟨rfl, Nc121_59⟩ (by decide) (by decide)
  · rw [q]
    show RunsW p e below s _ _ _ (Tw89_27.setTop (mkF m 98 #[.val (.int x0), .val (.ref ba2_1), .unset, .unset, .unset, .unset, .unset] [(.int (12 : Int32))]))
    refine RunsW.go (fun _ => XS.istoreN Xw89_27.here hx rfl (hb hby at_98) rfl (l' := #[.val (.int x0), .val (.ref ba2_1), .val (.int (12 : Int32)), .unset, .unset, .unset, .unset]) rfl) ?_
    show RunsW p e below s _ _ _ (Tw89_27.setTop (mkF m 99 #[.val (.int x0), .val (.ref ba2_1), .val (.int (12 : Int32)), .unset, .unset, .unset, .unset] []))
    refine RunsW.go (fun _ => XS.aloadN Xw89_27.here hx rfl (hb hby at_99) rfl rfl) ?_
    show RunsW p e below s _ _ _ (Tw89_27.setTop (mkF m 100 #[.val (.int x0), .val (.ref ba2_1), .val (.int (12 : Int32)), .unset, .unset, .unset, .unset] [(.ref ba2_1)]))
    refine RunsW.go (fun _ => XS.iloadN Xw89_27.here hx rfl (hb hby at_100) rfl) ?_
    show RunsW p e below s _ _ _ (Tw89_27.setTop (mkF m 101 #[.val (.int x0), .val (.ref ba2_1), .val (.int (12 : Int32)), .unset, .unset, .unset, .unset] [(.int (12 : Int32)), (.ref ba2_1)]))
    have VCr101_60 := Vw89_27
    obtain ⟨clr101_60, Arr101_60, -, Sr101_60, Mr101_60, Hr101_60, -⟩ := VCr101_60
    have hinr101_60 : ¬ ((12 : Int32) < 0 ∨ clr101_60.slots.size ≤ ((12 : Int32)).toNatClampNeg) := inb_of Sr101_60 ⟨by decide, by decide⟩
    have hatr101_60 : clr101_60.slots[((12 : Int32)).toNatClampNeg]? = some (.ref y12) := Has.at Hr101_60 hinr101_60 rfl
    refine RunsW.go (Xw89_27.aaload hx (j := (12 : Int32)) (v := (.ref y12)) (by rw [ew89_27]; exact Arr101_60.1) (State.isArrayOf_alike hZ.alike Arr101_60.2.1) rfl Arr101_60.2.2 hinr101_60 hatr101_60 (g := (mkF m 101 #[.val (.int x0), .val (.ref ba2_1), .val (.int (12 : Int32)), .unset, .unset, .unset, .unset] [(.int (12 : Int32)), (.ref ba2_1)])) rfl rfl (hb hby at_101)) ?_
    show RunsW p e below s _ _ _ (Tw89_27.setTop (mkF m 102 #[.val (.int x0), .val (.ref ba2_1), .val (.int (12 : Int32)), .unset, .unset, .unset, .unset] [(.ref y12)]))
    refine RunsW.go (fun _ => XS.astoreN Xw89_27.here hx rfl (hb hby at_102) rfl rfl (l' := #[.val (.int x0), .val (.ref ba2_1), .val (.int (12 : Int32)), .val (.ref y12), .unset, .unset, .unset]) rfl) ?_
    show RunsW p e below s _ _ _ (Tw89_27.setTop (mkF m 103 #[.val (.int x0), .val (.ref ba2_1), .val (.int (12 : Int32)), .val (.ref y12), .unset, .unset, .unset] []))
    refine RunsW.go (fun _ => XS.iloadN Xw89_27.here hx rfl (hb hby at_103) rfl) ?_
    show RunsW p e below s _ _ _ (Tw89_27.setTop (mkF m 104 #[.val (.int x0), .val (.ref ba2_1), .val (.int (12 : Int32)), .val (.ref y12), .unset, .unset, .unset] [(.int (12 : Int32))]))
    refine RunsW.go (fun _ => XS.iconst Xw89_27.here hx rfl (hb hby at_104)) ?_
    show RunsW p e below s _ _ _ (Tw89_27.setTop (mkF m 105 #[.val (.int x0), .val (.ref ba2_1), .val (.int (12 : Int32)), .val (.ref y12), .unset, .unset, .unset] [(.int (2 : Int32)), (.int (12 : Int32))]))
    refine RunsW.go (fun _ => XS.icmpNo Xw89_27.here hx rfl (hb hby at_105) rfl (feq ((by decide) : ¬ ((12 : Int32) = (2 : Int32)))).1) ?_
    show RunsW p e below s _ _ _ (Tw89_27.setTop (mkF m 108 #[.val (.int x0), .val (.ref ba2_1), .val (.int (12 : Int32)), .val (.ref y12), .unset, .unset, .unset] []))
    refine RunsW.go (fun _ => XS.iloadN Xw89_27.here hx rfl (hb hby at_108) rfl) ?_
    show RunsW p e below s _ _ _ (Tw89_27.setTop (mkF m 109 #[.val (.int x0), .val (.ref ba2_1), .val (.int (12 : Int32)), .val (.ref y12), .unset, .unset, .unset] [(.int (12 : Int32))]))
    refine RunsW.go (fun _ => XS.iconst Xw89_27.here hx rfl (hb hby at_109)) ?_
    show RunsW p e below s _ _ _ (Tw89_27.setTop (mkF m 110 #[.val (.int x0), .val (.ref ba2_1), .val (.int (12 : Int32)), .val (.ref y12), .unset, .unset, .unset] [(.int (3 : Int32)), (.int (12 : Int32))]))
    refine RunsW.go (fun _ => XS.icmpYes Xw89_27.here hx rfl (pc0 := 110) (pc' := 117) rfl (hb hby at_110) rfl (feq ((by decide) : ¬ ((12 : Int32) = (3 : Int32)))).2 (by decide) (by decide)) ?_
    show RunsW p e below s _ _ _ (Tw89_27.setTop (mkF m 117 #[.val (.int x0), .val (.ref ba2_1), .val (.int (12 : Int32)), .val (.ref y12), .unset, .unset, .unset] []))
    refine RunsW.go (fun _ => XS.iconst Xw89_27.here hx rfl (hb hby at_117)) ?_
    show RunsW p e below s _ _ _ (Tw89_27.setTop (mkF m 118 #[.val (.int x0), .val (.ref ba2_1), .val (.int (12 : Int32)), .val (.ref y12), .unset, .unset, .unset] [(.int (0 : Int32))]))
    refine RunsW.go (fun _ => XS.istore Xw89_27.here hx rfl (hb hby at_118) rfl (l' := #[.val (.int x0), .val (.ref ba2_1), .val (.int (12 : Int32)), .val (.ref y12), .val (.int (0 : Int32)), .unset, .unset]) rfl) ?_
    show RunsW p e below s _ _ _ (Tw89_27.setTop (mkF m 120 #[.val (.int x0), .val (.ref ba2_1), .val (.int (12 : Int32)), .val (.ref y12), .val (.int (0 : Int32)), .unset, .unset] []))
    refine RunsW.go (fun _ => XS.aloadN Xw89_27.here hx rfl (hb hby at_120) rfl rfl) ?_
    show RunsW p e below s _ _ _ (Tw89_27.setTop (mkF m 121 #[.val (.int x0), .val (.ref ba2_1), .val (.int (12 : Int32)), .val (.ref y12), .val (.int (0 : Int32)), .unset, .unset] [(.ref y12)]))
    obtain ⟨cqc121_61, kqc121_61, qc121_61a, qc121_61b, qc121_61c⟩ := isOf hZ ew89_27 (E12.ext Kw89_27)
    obtain ⟨_, _, ⟨Tc121_61, Lc121_61, kc121_61, nc121_61⟩, -, Xc121_61, ⟨Lcc121_61, hQc121_61, lc121_61, yc121_61, zc121_61⟩, stc121_61⟩ := Xw89_27.virtualBack hx (y := (⟨"com/example/replay/replay/api/EventType", "isActivityOutcome", "()Z"⟩ : MethodName)) (z := (⟨"com/example/replay/replay/api/EventType", "isActivityOutcome", "()Z"⟩ : MethodName)) hown (mvT hZ (hw _ (List.mem_of_getElem? (i := 31) rfl))) (mvT hZ (hw _ (List.mem_of_getElem? (i := 32) rfl))) (notFace_of_selects (args := #[]) (mvT hZ (hw _ (List.mem_of_getElem? (i := 34) rfl)))) (mvT hZ (hw _ (List.mem_of_getElem? (i := 34) rfl))) (mvT hZ (hw _ (List.mem_of_getElem? (i := 33) rfl))) (by decide) (backOf (W := 0) (rm1c l Z a0 hw [] y12 y2 y3 hw89_27 Z.heap.size hnw89_27 (S2.ext Kw89_27) (S3.ext Kw89_27) (Fld.ne O12 O2 (by decide)) (Fld.ne O12 O3 (by decide))) hZ (hw _ (List.mem_of_getElem? (i := 35) rfl)) (hw _ (List.mem_of_getElem? (i := 3) rfl)) (by decide) (by decide)) qc121_61a qc121_61c (g := (mkF m 121 #[.val (.int x0), .val (.ref ba2_1), .val (.int (12 : Int32)), .val (.ref y12), .val (.int (0 : Int32)), .unset, .unset] [(.ref y12)])) rfl (by rw [hml]; rfl) (Steps.refl _) (argsL := []) (rest := []) (lenOf pd_0 rfl) rfl (by show 2 * 0 + _ ≤ _; exact Nat.le_of_eq rfl) (hb hby at_121) (fun _ _ => ⟨rfl, ew89_27, (by decide : 1 + 0 ≤ _), (by decide : 13 + 0 ≤ _)⟩)
    dsimp only [Pt.U, Pt.locs, Pt.cells, Pt.slots] at Xc121_61 lc121_61 yc121_61 zc121_61 stc121_61 hQc121_61
    subst lc121_61 yc121_61 zc121_61
    obtain ⟨rfl, rfl, ec121_61⟩ := hQc121_61
    refine RunsW.go (fun _ => stc121_61.trans) ?_
    have Nc121_61 := Fr.app Nw89_27 (Fr.nil Z.heap.size)
    show RunsW p e below s _ _ _ (Tc121_61.setTop (mkF m 124 #[.val (.int x0), .val (.ref ba2_1), .val (.int (12 : Int32)), .val (.ref y12), .val (.int (0 : Int32)), .unset, .unset] [(.int (0 : Int32))]))
    refine RunsW.go (fun _ => XS.istore Xc121_61.here hx rfl (hb hby at_124) rfl (l' := #[.val (.int x0), .val (.ref ba2_1), .val (.int (12 : Int32)), .val (.ref y12), .val (.int (0 : Int32)), .val (.int (0 : Int32)), .unset]) rfl) ?_
    show RunsW p e below s _ _ _ (Tc121_61.setTop (mkF m 126 #[.val (.int x0), .val (.ref ba2_1), .val (.int (12 : Int32)), .val (.ref y12), .val (.int (0 : Int32)), .val (.int (0 : Int32)), .unset] []))
    refine RunsW.go (fun _ => XS.iload Xc121_61.here hx rfl (hb hby at_126) rfl) ?_
    show RunsW p e below s _ _ _ (Tc121_61.setTop (mkF m 128 #[.val (.int x0), .val (.ref ba2_1), .val (.int (12 : Int32)), .val (.ref y12), .val (.int (0 : Int32)), .val (.int (0 : Int32)), .unset] [(.int (0 : Int32))]))
    refine RunsW.go (fun _ => XS.iload Xc121_61.here hx rfl (hb hby at_128) rfl) ?_
    show RunsW p e below s _ _ _ (Tc121_61.setTop (mkF m 130 #[.val (.int x0), .val (.ref ba2_1), .val (.int (12 : Int32)), .val (.ref y12), .val (.int (0 : Int32)), .val (.int (0 : Int32)), .unset] [(.int (0 : Int32)), (.int (0 : Int32))]))
    refine RunsW.go (fun _ => XS.icmpYes Xc121_61.here hx rfl (pc0 := 130) (pc' := 135) rfl (hb hby at_130) rfl (teq (rfl : (0 : Int32) = (0 : Int32))).1 (by decide) (by decide)) ?_
    show RunsW p e below s _ _ _ (Tc121_61.setTop (mkF m 135 #[.val (.int x0), .val (.ref ba2_1), .val (.int (12 : Int32)), .val (.ref y12), .val (.int (0 : Int32)), .val (.int (0 : Int32)), .unset] []))
    refine RunsW.go (fun _ => XS.iload Xc121_61.here hx rfl (hb hby at_135) rfl) ?_
    show RunsW p e below s _ _ _ (Tc121_61.setTop (mkF m 137 #[.val (.int x0), .val (.ref ba2_1), .val (.int (12 : Int32)), .val (.ref y12), .val (.int (0 : Int32)), .val (.int (0 : Int32)), .unset] [(.int (0 : Int32))]))
    refine RunsW.go (fun _ => XS.ifYes Xc121_61.here hx rfl (pc0 := 137) (pc' := 172) rfl (hb hby at_137) rfl ((if0 _ _).trans (teq (rfl : (0 : Int32) = (0 : Int32))).1) (by decide) (by decide)) ?_
    show RunsW p e below s _ _ _ (Tc121_61.setTop (mkF m 172 #[.val (.int x0), .val (.ref ba2_1), .val (.int (12 : Int32)), .val (.ref y12), .val (.int (0 : Int32)), .val (.int (0 : Int32)), .unset] []))
    refine RunsW.go (fun _ => XS.iconst Xc121_61.here hx rfl (hb hby at_172)) ?_
    show RunsW p e below s _ _ _ (Tc121_61.setTop (mkF m 173 #[.val (.int x0), .val (.ref ba2_1), .val (.int (12 : Int32)), .val (.ref y12), .val (.int (0 : Int32)), .val (.int (0 : Int32)), .unset] [(.int (1 : Int32))]))
    exact RunsW.endN0 Xc121_61 hx (t := .boolean) Bd.returns (by simp) Bd.notSynchronized (hb hby at_173) ⟨rfl, Nc121_61⟩ (by decide) (by decide)
set_option maxRecDepth 65536 in
set_option maxHeartbeats 40000000 in
theorem comes_1 {Post : Tables → Env → Array Value → State → Outcome → State → Prop} (hpost : ∀ tb e args s v u, (limb_1_1.after args s (.returned v) u = true ∧ limb_1_2.after args s (.returned v) u = true ∧ True) → FramedW s (.returned v) u (Jvm.fieldLocs frame_1_writes args s ++ Jvm.arrayLocs frame_1_arrays args s ++ Jvm.staticLocs frame_1_statics s) 16 1152 → Post tb e args s (.returned v) u) :
    ArmFor flags0 classFile x code maxLocals ret World_1 tables_1 room_1 Calls_1 rest_1 Pre_1 Post := by
  intro l hfl _ _ p e ha hc hk s m args below hf hA hF happ hP
  obtain ⟨hcalls, hrest, hpre⟩ := hP
  obtain ⟨-, -, -, hnamed, -, -, -, hat⟩ := (Spec.applies_iff hf).mp happ
  obtain ⟨hg, hn⟩ := and_e (Cond.before_iff.mp (show (Jvm.Cond.and given_1 narrow_1).before args s = true from hpre))
  obtain ⟨hcnt, ga0⟩ := and_e hg
  obtain ⟨w0, rfl⟩ : ∃ w0 : Value, args = #[w0] := by
    have hs : args.size = 1 := by simpa [Cond.value, given_1] using hcnt
    obtain ⟨L⟩ := args
    match L, hs with
    | [w0], _ => exact ⟨w0, rfl⟩
  obtain ⟨i0, ei0⟩ := is_v ga0
  obtain rfl : w0 = (.int i0) := Option.some.inj ei0
  have hw := fun d (hd : d ∈ tables_1) => atoms_spec (ws := Jvm.Cond.code x code maxLocals ret :: tables_1) hat d (List.mem_cons_of_mem _ hd)
  have hfit : Fit s := fun {y c} hc i hi => by
    obtain ⟨ha, rfl⟩ := Array.getElem?_eq_some_iff.mp hc
    have q := List.all_eq_true.mp ((Array.all_eq_true_iff_forall_mem.mp hF) _ (Array.getElem_mem ha)) i (List.mem_range.mpr hi)
    simpa [Array.getElem?_eq_getElem hi] using q
  obtain ⟨c0, hn⟩ := and_e hn
  obtain ⟨c1, hn⟩ := and_e hn
  obtain ⟨c2, hn⟩ := and_e hn
  obtain ⟨c3, hn⟩ := and_e hn
  obtain ⟨c4, hn⟩ := and_e hn
  obtain ⟨c5, hn⟩ := and_e hn
  obtain ⟨c6, hn⟩ := and_e hn
  obtain ⟨c7, hn⟩ := and_e hn
  obtain ⟨c8, hn⟩ := and_e hn
  obtain ⟨c9, hn⟩ := and_e hn
  obtain ⟨c10, hn⟩ := and_e hn
  obtain ⟨c11, hn⟩ := and_e hn
  obtain ⟨c12, hn⟩ := and_e hn
  obtain ⟨c13, hn⟩ := and_e hn
  obtain ⟨c14, hn⟩ := and_e hn
  obtain ⟨c15, hn⟩ := and_e hn
  obtain ⟨c16, hn⟩ := and_e hn
  obtain ⟨c17, hn⟩ := and_e hn
  obtain ⟨c18, hn⟩ := and_e hn
  obtain ⟨c19, hn⟩ := and_e hn
  obtain ⟨c20, hn⟩ := and_e hn
  obtain ⟨c21, hn⟩ := and_e hn
  obtain ⟨c22, hn⟩ := and_e hn
  obtain ⟨c23, hn⟩ := and_e hn
  obtain ⟨c24, hn⟩ := and_e hn
  obtain ⟨c25, hn⟩ := and_e hn
  obtain ⟨c26, hn⟩ := and_e hn
  obtain ⟨c27, hn⟩ := and_e hn
  obtain ⟨c28, hn⟩ := and_e hn
  obtain ⟨c29, hn⟩ := and_e hn
  obtain ⟨c30, hn⟩ := and_e hn
  obtain ⟨c31, hn⟩ := and_e hn
  obtain ⟨c32, hn⟩ := and_e hn
  obtain ⟨c33, hn⟩ := and_e hn
  obtain ⟨c34, hn⟩ := and_e hn
  obtain ⟨c35, hn⟩ := and_e hn
  obtain ⟨c36, hn⟩ := and_e hn
  obtain ⟨c37, hn⟩ := and_e hn
  obtain ⟨c38, hn⟩ := and_e hn
  obtain ⟨c39, hn⟩ := and_e hn
  obtain ⟨c40, hn⟩ := and_e hn
  obtain ⟨c41, hn⟩ := and_e hn
  obtain ⟨c42, hn⟩ := and_e hn
  obtain ⟨c43, hn⟩ := and_e hn
  obtain ⟨c44, hn⟩ := and_e hn
  obtain ⟨c45, hn⟩ := and_e hn
  obtain ⟨c46, hn⟩ := and_e hn
  obtain ⟨c47, hn⟩ := and_e hn
  obtain ⟨c48, hn⟩ := and_e hn
  obtain ⟨c49, hn⟩ := and_e hn
  obtain ⟨c50, hn⟩ := and_e hn
  obtain ⟨c51, hn⟩ := and_e hn
  obtain ⟨c52, hn⟩ := and_e hn
  obtain ⟨c53, hn⟩ := and_e hn
  obtain ⟨c54, hn⟩ := and_e hn
  obtain ⟨c55, hn⟩ := and_e hn
  obtain ⟨c56, hn⟩ := and_e hn
  obtain ⟨c57, hn⟩ := and_e hn
  obtain ⟨c58, hn⟩ := and_e hn
  obtain ⟨c59, hn⟩ := and_e hn
  obtain ⟨c60, hn⟩ := and_e hn
  obtain ⟨c61, hn⟩ := and_e hn
  obtain ⟨c62, hn⟩ := and_e hn
  obtain ⟨c63, hn⟩ := and_e hn
  have c64 := hn
  obtain ⟨y0, v0⟩ := exa_v c0
  have E0 := Exa.start v0 c0
  have S0 := Sta.start v0 (Or.inr ⟨(hw _ (List.mem_of_getElem? (i := 3) rfl)), (hw _ (List.mem_of_getElem? (i := 4) rfl))⟩)
  have O0 := Fld.start ((fld_at v0).symm.trans (own_eqi c13))
  obtain ⟨y1, v1⟩ := exa_v c1
  have E1 := Exa.start v1 c1
  have S1 := Sta.start v1 (Or.inr ⟨(hw _ (List.mem_of_getElem? (i := 3) rfl)), (hw _ (List.mem_of_getElem? (i := 7) rfl))⟩)
  have O1 := Fld.start ((fld_at v1).symm.trans (own_eqi c16))
  obtain ⟨y2, v2⟩ := exa_v c2
  have E2 := Exa.start v2 c2
  have S2 := Sta.start v2 (Or.inr ⟨(hw _ (List.mem_of_getElem? (i := 3) rfl)), (hw _ (List.mem_of_getElem? (i := 9) rfl))⟩)
  have O2 := Fld.start ((fld_at v2).symm.trans (own_eqi c14))
  obtain ⟨y3, v3⟩ := exa_v c3
  have E3 := Exa.start v3 c3
  have S3 := Sta.start v3 (Or.inr ⟨(hw _ (List.mem_of_getElem? (i := 3) rfl)), (hw _ (List.mem_of_getElem? (i := 11) rfl))⟩)
  have O3 := Fld.start ((fld_at v3).symm.trans (own_eqi c15))
  obtain ⟨y4, v4⟩ := exa_v c4
  have E4 := Exa.start v4 c4
  have S4 := Sta.start v4 (Or.inr ⟨(hw _ (List.mem_of_getElem? (i := 3) rfl)), (hw _ (List.mem_of_getElem? (i := 13) rfl))⟩)
  have O4 := Fld.start ((fld_at v4).symm.trans (own_eqi c30))
  obtain ⟨y5, v5⟩ := exa_v c5
  have E5 := Exa.start v5 c5
  have S5 := Sta.start v5 (Or.inr ⟨(hw _ (List.mem_of_getElem? (i := 3) rfl)), (hw _ (List.mem_of_getElem? (i := 15) rfl))⟩)
  have O5 := Fld.start ((fld_at v5).symm.trans (own_eqi c22))
  obtain ⟨y6, v6⟩ := exa_v c6
  have E6 := Exa.start v6 c6
  have S6 := Sta.start v6 (Or.inr ⟨(hw _ (List.mem_of_getElem? (i := 3) rfl)), (hw _ (List.mem_of_getElem? (i := 17) rfl))⟩)
  have O6 := Fld.start ((fld_at v6).symm.trans (own_eqi c21))
  obtain ⟨y7, v7⟩ := exa_v c7
  have E7 := Exa.start v7 c7
  have S7 := Sta.start v7 (Or.inr ⟨(hw _ (List.mem_of_getElem? (i := 3) rfl)), (hw _ (List.mem_of_getElem? (i := 19) rfl))⟩)
  have O7 := Fld.start ((fld_at v7).symm.trans (own_eqi c23))
  obtain ⟨y8, v8⟩ := exa_v c8
  have E8 := Exa.start v8 c8
  have S8 := Sta.start v8 (Or.inr ⟨(hw _ (List.mem_of_getElem? (i := 3) rfl)), (hw _ (List.mem_of_getElem? (i := 21) rfl))⟩)
  have O8 := Fld.start ((fld_at v8).symm.trans (own_eqi c27))
  obtain ⟨y9, v9⟩ := exa_v c9
  have E9 := Exa.start v9 c9
  have S9 := Sta.start v9 (Or.inr ⟨(hw _ (List.mem_of_getElem? (i := 3) rfl)), (hw _ (List.mem_of_getElem? (i := 23) rfl))⟩)
  have O9 := Fld.start ((fld_at v9).symm.trans (own_eqi c24))
  obtain ⟨y10, v10⟩ := exa_v c10
  have E10 := Exa.start v10 c10
  have S10 := Sta.start v10 (Or.inr ⟨(hw _ (List.mem_of_getElem? (i := 3) rfl)), (hw _ (List.mem_of_getElem? (i := 25) rfl))⟩)
  have O10 := Fld.start ((fld_at v10).symm.trans (own_eqi c28))
  obtain ⟨y11, v11⟩ := exa_v c11
  have E11 := Exa.start v11 c11
  have S11 := Sta.start v11 (Or.inr ⟨(hw _ (List.mem_of_getElem? (i := 3) rfl)), (hw _ (List.mem_of_getElem? (i := 27) rfl))⟩)
  have O11 := Fld.start ((fld_at v11).symm.trans (own_eqi c26))
  obtain ⟨y12, v12⟩ := exa_v c12
  have E12 := Exa.start v12 c12
  have S12 := Sta.start v12 (Or.inr ⟨(hw _ (List.mem_of_getElem? (i := 3) rfl)), (hw _ (List.mem_of_getElem? (i := 29) rfl))⟩)
  have O12 := Fld.start ((fld_at v12).symm.trans (own_eqi c29))
  obtain ⟨sA, uA⟩ := exa_v c17
  obtain ⟨dA, kA, AA1, AA2, AA3, AA4⟩ := own_str hfit uA c17 c18 c19 c20 own_act (by decide) rfl (fun cl el => ⟨(el 0 0 97 (by decide) (by decide) c52), (el 1 1 99 (by decide) (by decide) c53), (el 2 2 116 (by decide) (by decide) c54), (el 3 3 105 (by decide) (by decide) c55), (el 4 4 118 (by decide) (by decide) c56), (el 5 5 105 (by decide) (by decide) c57), (el 6 6 116 (by decide) (by decide) c58), (el 7 7 121 (by decide) (by decide) c59), trivial⟩)
  obtain ⟨sE, uE⟩ := exa_v c35
  obtain ⟨dE, kE, AE1, AE2, AE3, AE4⟩ := own_str hfit uE c35 c42 c43 c44 own_evt (by decide) rfl (fun cl el => ⟨(el 0 0 101 (by decide) (by decide) c60), (el 1 1 118 (by decide) (by decide) c61), (el 2 2 101 (by decide) (by decide) c62), (el 3 3 110 (by decide) (by decide) c63), (el 4 4 116 (by decide) (by decide) c64), trivial⟩)
  obtain ⟨sS, uS⟩ := exa_v c39
  obtain ⟨dS, kS, AS1, AS2, AS3, AS4⟩ := own_str hfit uS c39 c45 c46 c47 own_stp (by decide) rfl (fun cl el => ⟨(el 0 0 115 (by decide) (by decide) c48), (el 1 1 116 (by decide) (by decide) c49), (el 2 2 101 (by decide) (by decide) c50), (el 3 3 112 (by decide) (by decide) c51), trivial⟩)
  have F0 := Fld.start ((fld_at v0).symm.trans (null_v c31))
  have F1 := Fld.start ((fld_at v1).symm.trans (own_eqv c32 uA))
  have F2 := Fld.start ((fld_at v2).symm.trans (own_eqv c25 uA))
  have F3 := Fld.start ((fld_at v3).symm.trans uA)
  have F4 := Fld.start ((fld_at v4).symm.trans (null_v c33))
  have F5 := Fld.start ((fld_at v5).symm.trans (null_v c34))
  have F6 := Fld.start ((fld_at v6).symm.trans uE)
  have F7 := Fld.start ((fld_at v7).symm.trans (null_v c36))
  have F8 := Fld.start ((fld_at v8).symm.trans (own_eqv c37 uE))
  have F9 := Fld.start ((fld_at v9).symm.trans (null_v c38))
  have F10 := Fld.start ((fld_at v10).symm.trans uS)
  have F11 := Fld.start ((fld_at v11).symm.trans (null_v c40))
  have F12 := Fld.start ((fld_at v12).symm.trans (null_v c41))
  have hr : rest_1_c.before #[.int i0] s = true := hrest
  rw [rest_1_c_eq] at hr
  have wr : ∀ (i : Nat) {w : Jvm.Cond}, jdkStatics_1[i]? = some w → w.before #[.int i0] s = true := fun i w h => (atoms_of _ hr).1 w (List.mem_of_getElem? h)
  obtain ⟨zc, hzv⟩ := Cond.isInt_spec (wr 1 rfl)
  have hcw : Jvm.Lit.compactW.before #[.int i0] s = true := wr 2 rfl
  have hzc : zc ≠ 0 := fun h => by
    have q := wr 2 rfl
    simp only [Cond.before, Cond.holds, Cond.value, hzv, h] at q
    simp [Term.eval] at q
  have AC := Sta.start hzv (Or.inl (wr 0 rfl))
  have hheld : Jvm.Lit.constHeld s "com/example/replay/replay/api/EventTypeIsActivityOutcomePinLaw" 61 := hcalls.1 _ (List.mem_singleton.mpr rfl)
  obtain ⟨n, o, h1, h2, h3, _, L, rfl, ⟨rfl, N⟩, hq⟩ := rm0 l s _ hw tables_1 i0 S0 E0 O0 F0 S1 E1 O1 F1 S2 E2 O2 F2 S3 E3 O3 F3 S4 E4 O4 F4 S5 E5 O5 F5 S6 E6 O6 F6 S7 E7 O7 F7 S8 E8 O8 F8 S9 E9 O9 F9 S10 E10 O10 F10 S11 E11 O11 F11 S12 E12 O12 F12 AA1 AA2 AA3 AA4 AE1 AE2 AE3 AE4 AS1 AS2 AS3 AS4 AC hzc hheld hcw p e ha hc hk s m _ below hf ((Spec.applies_iff_loose hf).mp happ).1 ⟨rfl, rfl⟩ trivial
  exact ⟨n, _, h1, h2, h3, hpost _ _ _ _ _ _ ⟨Cond.after_iff.mpr rfl, Cond.after_iff.mpr (eq_i res_at (Term.int_eval (1)) rfl), trivial⟩ ⟨hq.1, hq.2.1, hq.2.2.1, (hq.2.2.2.sift fun y hy => Or.inr (N y hy)).mono (by decide) (by decide)⟩⟩
theorem main_1_1 : Claimed_1_1 := comes_1 fun _ _ _ _ _ _ h hF => ⟨h.1, hF⟩
theorem main_1_2 : Claimed_1_2 := comes_1 fun _ _ _ _ _ _ h hF => ⟨h.2.1, hF⟩
end Jvm.Pilot.@@N@@
namespace Jvm.Pilot.@@N@@
open Jvm Jvm.ClassFile Sem Op Lib Jvm.Free Jvm.Stand Jvm.Pilot.@@N@@.Jvm.D
/-! MADE BY PROGRAM (witnessworld.py) out of the Statement's table words and the real class files: 19 classes; the members and pool entries that the words name. The judged class is class 1, her method 1. -/
namespace start1
open Jvm.ClassFile
def u (s : String) : CpInfo := .utf8 (stringToUtf16 s)
/-- a pool by its gaps: so many unusable entries, then the entry; so many at the end -/
def gap : Nat → List CpInfo → List CpInfo
  | 0, r => r
  | n + 1, r => .unusable :: gap n r
def poolList (es : List (Nat × CpInfo)) (last : Nat) : List CpInfo := es.foldr (fun e r => gap e.1 (e.2 :: r)) (gap last [])
def pool (es : List (Nat × CpInfo)) (last : Nat) : Array CpInfo := ⟨poolList es last⟩
def fileOf (pool : Array CpInfo) (this : Nat) (attrs : Array Attribute := #[]) (ms : Array MethodInfo := #[]) (fl : Nat := 33) (sup : Nat := 0) (ifs : Array Nat := #[]) (fds : Array FieldInfo := #[]) : ClassFile where
  minorVersion := 0
  majorVersion := 65
  constantPool := pool
  accessFlags := fl
  thisClass := this
  superClass := sup
  interfaces := ifs
  fields := fds
  methods := ms
  attributes := attrs
def plain (name : String) (sup : Option ClassId) : Class where
  name := name
  kind := .ordinary
  loader := none
  accessFlags := 33
  super := sup
  interfaces := #[]
  cf := none
  fields := #[]
  methods := #[]
  instanceTypes := #[]
  staticTypes := #[]
  resolved := #[]
  callSites := []
  init := .initialized
  statics := none
  mirror := none

def pool0 : Array CpInfo := pool [(5, u "<init>"), (0, u "()V"), (1, .class_ 10), (1, u "java/lang/Object")] 113

def k0m0 : Method := { name := "<init>", desc := "()V", sig := { parameters := [], returnType := none }, accessFlags := 1, code := none }
/-- java/lang/Object -/
def k0 : Class := { plain "java/lang/Object" none with
  accessFlags := 33
  interfaces := #[]
  cf := some (fileOf pool0 8 #[] #[{ accessFlags := 1, nameIndex := 5, descriptorIndex := 6, attributes := #[] }] 33 0 #[] #[])
  fields := #[]
  methods := #[k0m0]
  instanceTypes := #[]
  staticTypes := #[]
  resolved := Array.replicate 124 none
  statics := none }

def pool1 : Array CpInfo := pool [(2, .class_ 4), (1, u "java/lang/Object"), (0, u "<init>"), (0, u "()V"), (0, .class_ 8), (0, u "com/example/replay/replay/api/EventType"), (0, .fieldref 7 10), (0, .nameAndType 11 12), (0, u "RUN_STARTED"), (0, u "Lcom/example/replay/replay/api/EventType;"), (0, .fieldref 7 14), (0, .nameAndType 15 12), (0, u "ACTIVITY_SCHEDULED"), (0, .fieldref 7 17), (0, .nameAndType 18 12), (0, u "ACTIVITY_COMPLETED"), (0, .fieldref 7 20), (0, .nameAndType 21 12), (0, u "ACTIVITY_FAILED"), (0, .fieldref 7 23), (0, .nameAndType 24 12), (0, u "CLOCK_READ"), (0, .fieldref 7 26), (0, .nameAndType 27 12), (0, u "RANDOM_DRAWN"), (0, .fieldref 7 29), (0, .nameAndType 30 12), (0, u "TIMER_STARTED"), (0, .fieldref 7 32), (0, .nameAndType 33 12), (0, u "TIMER_FIRED"), (0, .fieldref 7 35), (0, .nameAndType 36 12), (0, u "EVENT_RECEIVED"), (0, .fieldref 7 38), (0, .nameAndType 39 12), (0, u "STEPS_DECLARED"), (0, .fieldref 7 41), (0, .nameAndType 42 12), (0, u "STEP_NOT_APPLICABLE"), (0, .fieldref 7 44), (0, .nameAndType 45 12), (0, u "RUN_COMPLETED"), (0, .fieldref 7 47), (0, .nameAndType 48 12), (0, u "RUN_FAILED"), (0, .integer 2147483647), (0, .methodref 7 51), (0, .nameAndType 52 53), (0, u "isActivityOutcome"), (0, u "()Z"), (0, .methodref 7 55), (0, .nameAndType 56 53), (0, u "isActivityEvent"), (0, .methodref 7 58), (0, .nameAndType 59 60), (0, u "subject"), (0, u "()Ljava/lang/String;"), (0, .string 62), (0, u "activity"), (0, .methodref 64 65), (0, .class_ 66), (0, .nameAndType 67 68), (0, u "java/lang/String"), (0, u "equals"), (0, u "(Ljava/lang/Object;)Z"), (0, .class_ 70), (0, u "com/example/replay/replay/api/EventTypeIsActivityOutcomePinLaw"), (2, u "law"), (0, u "(I)Z")] 5

def k1m0 : Method := { name := "<init>", desc := "()V", sig := { parameters := [], returnType := none }, accessFlags := 1, code := none }
def k1c1 : Code := { maxStack := 4, maxLocals := 7, code := code, exceptionTable := #[], attributes := #[] }
def k1m1 : Method := { name := "law", desc := "(I)Z", sig := { parameters := [.int], returnType := some .boolean }, accessFlags := 9, code := some k1c1 }
/-- com/example/replay/replay/api/EventTypeIsActivityOutcomePinLaw -/
def k1 : Class := { plain "com/example/replay/replay/api/EventTypeIsActivityOutcomePinLaw" (some 0) with
  accessFlags := 49
  interfaces := #[]
  cf := some (fileOf pool1 69 #[] #[{ accessFlags := 1, nameIndex := 5, descriptorIndex := 6, attributes := #[] }, { accessFlags := 9, nameIndex := 73, descriptorIndex := 74, attributes := #[] }] 49 2 #[] #[])
  fields := #[]
  methods := #[k1m0, k1m1]
  instanceTypes := #[]
  staticTypes := #[]
  resolved := Array.replicate 80 none
  statics := none }

def pool2 : Array CpInfo := pool [(1, .class_ 2), (0, u "java/lang/constant/Constable"), (0, .class_ 4), (0, u "java/lang/Object")] 6

/-- java/lang/constant/Constable -/
def k2 : Class := { plain "java/lang/constant/Constable" (some 0) with
  accessFlags := 1537
  interfaces := #[]
  cf := some (fileOf pool2 1 #[] #[] 1537 3 #[] #[])
  fields := #[]
  methods := #[]
  instanceTypes := #[]
  staticTypes := #[]
  resolved := Array.replicate 11 none
  statics := none }

def pool3 : Array CpInfo := pool [(1, .class_ 2), (0, u "java/lang/Comparable"), (0, .class_ 4), (0, u "java/lang/Object")] 7

/-- java/lang/Comparable -/
def k3 : Class := { plain "java/lang/Comparable" (some 0) with
  accessFlags := 1537
  interfaces := #[]
  cf := some (fileOf pool3 1 #[] #[] 1537 3 #[] #[])
  fields := #[]
  methods := #[]
  instanceTypes := #[]
  staticTypes := #[]
  resolved := Array.replicate 12 none
  statics := none }

def pool4 : Array CpInfo := pool [(1, .class_ 2), (0, u "java/io/Serializable"), (0, .class_ 4), (0, u "java/lang/Object")] 2

/-- java/io/Serializable -/
def k4 : Class := { plain "java/io/Serializable" (some 0) with
  accessFlags := 1537
  interfaces := #[]
  cf := some (fileOf pool4 1 #[] #[] 1537 3 #[] #[])
  fields := #[]
  methods := #[]
  instanceTypes := #[]
  staticTypes := #[]
  resolved := Array.replicate 7 none
  statics := none }

def pool5 : Array CpInfo := pool [(2, .class_ 4), (1, u "java/lang/Enum"), (0, u "name"), (0, u "Ljava/lang/String;"), (2, u "ordinal"), (0, u "I"), (1, .class_ 14), (1, u "java/lang/Object"), (4, u "hash"), (86, .class_ 108), (1, u "java/lang/Enum$EnumDesc"), (2, .class_ 112), (0, u "java/lang/constant/Constable"), (0, .class_ 114), (0, u "java/lang/Comparable"), (0, .class_ 116), (0, u "java/io/Serializable")] 87

/-- java/lang/Enum -/
def k5 : Class := { plain "java/lang/Enum" (some 0) with
  accessFlags := 1057
  interfaces := #[2, 3, 4]
  cf := some (fileOf pool5 2 #[.nestMembers #[106]] #[] 1057 12 #[111, 113, 115] #[{ accessFlags := 18, nameIndex := 5, descriptorIndex := 6, attributes := #[] }, { accessFlags := 18, nameIndex := 9, descriptorIndex := 10, attributes := #[] }, { accessFlags := 2, nameIndex := 19, descriptorIndex := 10, attributes := #[] }])
  fields := #[{ name := "name", type := (.object "java/lang/String"), accessFlags := 18, slot := 0, constantValue := 0 }, { name := "ordinal", type := .int, accessFlags := 18, slot := 1, constantValue := 0 }, { name := "hash", type := .int, accessFlags := 2, slot := 2, constantValue := 0 }]
  methods := #[]
  instanceTypes := #[(.object "java/lang/String"), .int, .int]
  staticTypes := #[]
  resolved := Array.replicate 204 none
  statics := none }

def pool6 : Array CpInfo := pool [(1, .class_ 2), (0, u "com/example/replay/replay/api/EventType"), (2, u "RUN_STARTED"), (0, u "Lcom/example/replay/replay/api/EventType;"), (0, .fieldref 1 8), (0, .nameAndType 9 6), (0, u "ACTIVITY_SCHEDULED"), (0, .fieldref 1 11), (0, .nameAndType 12 6), (0, u "ACTIVITY_COMPLETED"), (0, .fieldref 1 14), (0, .nameAndType 15 6), (0, u "ACTIVITY_FAILED"), (2, u "CLOCK_READ"), (2, u "RANDOM_DRAWN"), (2, u "TIMER_STARTED"), (2, u "TIMER_FIRED"), (2, u "EVENT_RECEIVED"), (2, u "STEPS_DECLARED"), (2, u "STEP_NOT_APPLICABLE"), (2, u "RUN_COMPLETED"), (2, u "RUN_FAILED"), (2, u "$VALUES"), (0, u "[Lcom/example/replay/replay/api/EventType;"), (6, .class_ 55), (1, u "java/lang/Enum"), (8, u "label"), (0, u "Ljava/lang/String;"), (0, .fieldref 1 67), (0, .nameAndType 68 65), (0, u "subject"), (19, .methodref 1 89), (0, .nameAndType 90 91), (0, u "isActivityOutcome"), (0, u "()Z"), (57, u "()Ljava/lang/String;"), (2, u "isActivityEvent")] 20

def k6c0 : Code := { maxStack := 1, maxLocals := 1, code := prog_4_method_5_code, exceptionTable := #[], attributes := #[] }
def k6m0 : Method := { name := "subject", desc := "()Ljava/lang/String;", sig := { parameters := [], returnType := some (.object "java/lang/String") }, accessFlags := 1, code := some k6c0 }
def k6c1 : Code := { maxStack := 2, maxLocals := 1, code := prog_4_method_7_code, exceptionTable := #[], attributes := #[] }
def k6m1 : Method := { name := "isActivityEvent", desc := "()Z", sig := { parameters := [], returnType := some .boolean }, accessFlags := 1, code := some k6c1 }
def k6c2 : Code := { maxStack := 2, maxLocals := 1, code := prog_4_method_8_code, exceptionTable := #[], attributes := #[] }
def k6m2 : Method := { name := "isActivityOutcome", desc := "()Z", sig := { parameters := [], returnType := some .boolean }, accessFlags := 1, code := some k6c2 }
/-- com/example/replay/replay/api/EventType -/
def k6 : Class := { plain "com/example/replay/replay/api/EventType" (some 5) with
  accessFlags := 16433
  interfaces := #[]
  cf := some (fileOf pool6 1 #[] #[{ accessFlags := 1, nameIndex := 68, descriptorIndex := 149, attributes := #[] }, { accessFlags := 1, nameIndex := 152, descriptorIndex := 91, attributes := #[] }, { accessFlags := 1, nameIndex := 90, descriptorIndex := 91, attributes := #[] }] 16433 53 #[] #[{ accessFlags := 16409, nameIndex := 5, descriptorIndex := 6, attributes := #[] }, { accessFlags := 16409, nameIndex := 9, descriptorIndex := 6, attributes := #[] }, { accessFlags := 16409, nameIndex := 12, descriptorIndex := 6, attributes := #[] }, { accessFlags := 16409, nameIndex := 15, descriptorIndex := 6, attributes := #[] }, { accessFlags := 16409, nameIndex := 18, descriptorIndex := 6, attributes := #[] }, { accessFlags := 16409, nameIndex := 21, descriptorIndex := 6, attributes := #[] }, { accessFlags := 16409, nameIndex := 24, descriptorIndex := 6, attributes := #[] }, { accessFlags := 16409, nameIndex := 27, descriptorIndex := 6, attributes := #[] }, { accessFlags := 16409, nameIndex := 30, descriptorIndex := 6, attributes := #[] }, { accessFlags := 16409, nameIndex := 33, descriptorIndex := 6, attributes := #[] }, { accessFlags := 16409, nameIndex := 36, descriptorIndex := 6, attributes := #[] }, { accessFlags := 16409, nameIndex := 39, descriptorIndex := 6, attributes := #[] }, { accessFlags := 16409, nameIndex := 42, descriptorIndex := 6, attributes := #[] }, { accessFlags := 18, nameIndex := 64, descriptorIndex := 65, attributes := #[] }, { accessFlags := 18, nameIndex := 68, descriptorIndex := 65, attributes := #[] }, { accessFlags := 4122, nameIndex := 45, descriptorIndex := 46, attributes := #[] }])
  fields := #[{ name := "RUN_STARTED", type := (.object "com/example/replay/replay/api/EventType"), accessFlags := 16409, slot := 0, constantValue := 0 }, { name := "ACTIVITY_SCHEDULED", type := (.object "com/example/replay/replay/api/EventType"), accessFlags := 16409, slot := 1, constantValue := 0 }, { name := "ACTIVITY_COMPLETED", type := (.object "com/example/replay/replay/api/EventType"), accessFlags := 16409, slot := 2, constantValue := 0 }, { name := "ACTIVITY_FAILED", type := (.object "com/example/replay/replay/api/EventType"), accessFlags := 16409, slot := 3, constantValue := 0 }, { name := "CLOCK_READ", type := (.object "com/example/replay/replay/api/EventType"), accessFlags := 16409, slot := 4, constantValue := 0 }, { name := "RANDOM_DRAWN", type := (.object "com/example/replay/replay/api/EventType"), accessFlags := 16409, slot := 5, constantValue := 0 }, { name := "TIMER_STARTED", type := (.object "com/example/replay/replay/api/EventType"), accessFlags := 16409, slot := 6, constantValue := 0 }, { name := "TIMER_FIRED", type := (.object "com/example/replay/replay/api/EventType"), accessFlags := 16409, slot := 7, constantValue := 0 }, { name := "EVENT_RECEIVED", type := (.object "com/example/replay/replay/api/EventType"), accessFlags := 16409, slot := 8, constantValue := 0 }, { name := "STEPS_DECLARED", type := (.object "com/example/replay/replay/api/EventType"), accessFlags := 16409, slot := 9, constantValue := 0 }, { name := "STEP_NOT_APPLICABLE", type := (.object "com/example/replay/replay/api/EventType"), accessFlags := 16409, slot := 10, constantValue := 0 }, { name := "RUN_COMPLETED", type := (.object "com/example/replay/replay/api/EventType"), accessFlags := 16409, slot := 11, constantValue := 0 }, { name := "RUN_FAILED", type := (.object "com/example/replay/replay/api/EventType"), accessFlags := 16409, slot := 12, constantValue := 0 }, { name := "label", type := (.object "java/lang/String"), accessFlags := 18, slot := 3, constantValue := 0 }, { name := "subject", type := (.object "java/lang/String"), accessFlags := 18, slot := 4, constantValue := 0 }, { name := "$VALUES", type := (.array (.object "com/example/replay/replay/api/EventType")), accessFlags := 4122, slot := 13, constantValue := 0 }]
  methods := #[k6m0, k6m1, k6m2]
  instanceTypes := #[(.object "java/lang/String"), .int, .int, (.object "java/lang/String"), (.object "java/lang/String")]
  staticTypes := #[(.object "com/example/replay/replay/api/EventType"), (.object "com/example/replay/replay/api/EventType"), (.object "com/example/replay/replay/api/EventType"), (.object "com/example/replay/replay/api/EventType"), (.object "com/example/replay/replay/api/EventType"), (.object "com/example/replay/replay/api/EventType"), (.object "com/example/replay/replay/api/EventType"), (.object "com/example/replay/replay/api/EventType"), (.object "com/example/replay/replay/api/EventType"), (.object "com/example/replay/replay/api/EventType"), (.object "com/example/replay/replay/api/EventType"), (.object "com/example/replay/replay/api/EventType"), (.object "com/example/replay/replay/api/EventType"), (.array (.object "com/example/replay/replay/api/EventType"))]
  resolved := Array.replicate 173 none
  statics := some 0 }

def pool7 : Array CpInfo := pool [(2, .class_ 4), (1, u "java/lang/CharSequence"), (42, .class_ 48), (0, u "java/lang/CharSequence$1CodePointIterator"), (10, .class_ 60), (0, u "java/lang/CharSequence$1CharIterator"), (5, .class_ 67), (0, u "java/lang/Object")] 63

/-- java/lang/CharSequence -/
def k7 : Class := { plain "java/lang/CharSequence" (some 0) with
  accessFlags := 1537
  interfaces := #[]
  cf := some (fileOf pool7 2 #[.nestMembers #[47, 59]] #[] 1537 66 #[] #[])
  fields := #[]
  methods := #[]
  instanceTypes := #[]
  staticTypes := #[]
  resolved := Array.replicate 131 none
  statics := none }

def pool8 : Array CpInfo := pool [(1, .class_ 2), (0, u "java/lang/constant/ConstantDesc"), (0, .class_ 4), (0, u "java/lang/Object")] 32

/-- java/lang/constant/ConstantDesc -/
def k8 : Class := { plain "java/lang/constant/ConstantDesc" (some 0) with
  accessFlags := 1537
  interfaces := #[]
  cf := some (fileOf pool8 1 #[] #[] 1537 3 #[] #[])
  fields := #[]
  methods := #[]
  instanceTypes := #[]
  staticTypes := #[]
  resolved := Array.replicate 37 none
  statics := none }

def pool9 : Array CpInfo := pool [(2, .class_ 4), (1, u "java/lang/Object"), (0, u "<init>"), (0, u "()V"), (2, .fieldref 10 11), (0, .class_ 12), (0, .nameAndType 13 14), (0, u "java/lang/String"), (0, u "value"), (0, u "[B"), (0, .fieldref 10 16), (0, .nameAndType 17 18), (0, u "coder"), (0, u "B"), (2, u "hash"), (0, u "I"), (2, u "hashIsZero"), (0, u "Z"), (11, .fieldref 10 39), (0, .nameAndType 40 26), (0, u "COMPACT_STRINGS"), (66, .class_ 109), (1, u "java/lang/StringLatin1"), (431, .methodref 107 542), (0, .nameAndType 543 544), (0, u "equals"), (0, u "([B[B)Z"), (28, u "(Ljava/lang/Object;)Z"), (1, .class_ 576), (0, u "java/lang/CharSequence"), (22, u "CASE_INSENSITIVE_ORDER"), (0, u "Ljava/util/Comparator;"), (500, u "serialPersistentFields"), (0, u "[Ljava/io/ObjectStreamField;"), (0, .class_ 1104), (0, u "java/lang/String$CaseInsensitiveComparator"), (1, .class_ 1107), (0, u "java/io/Serializable"), (0, .class_ 1109), (0, u "java/lang/Comparable"), (0, .class_ 1111), (0, u "java/lang/constant/Constable"), (0, .class_ 1113), (0, u "java/lang/constant/ConstantDesc"), (2, u "serialVersionUID"), (0, u "J"), (3, u "REPL"), (0, u "C"), (2, u "LATIN1"), (1, u "UTF16")] 323

def k9m0 : Method := { name := "<init>", desc := "()V", sig := { parameters := [], returnType := none }, accessFlags := 1, code := none }
def k9c1 : Code := { maxStack := 2, maxLocals := 3, code := jdk_42_method_66_code, exceptionTable := #[], attributes := #[] }
def k9m1 : Method := { name := "equals", desc := "(Ljava/lang/Object;)Z", sig := { parameters := [(.object "java/lang/Object")], returnType := some .boolean }, accessFlags := 1, code := some k9c1 }
/-- java/lang/String -/
def k9 : Class := { plain "java/lang/String" (some 0) with
  accessFlags := 49
  interfaces := #[4, 3, 7, 2, 8]
  cf := some (fileOf pool9 10 #[.nestMembers #[1103]] #[{ accessFlags := 1, nameIndex := 5, descriptorIndex := 6, attributes := #[] }, { accessFlags := 1, nameIndex := 543, descriptorIndex := 573, attributes := #[] }] 49 2 #[1106, 1108, 575, 1110, 1112] #[{ accessFlags := 18, nameIndex := 13, descriptorIndex := 14, attributes := #[] }, { accessFlags := 18, nameIndex := 17, descriptorIndex := 18, attributes := #[] }, { accessFlags := 2, nameIndex := 21, descriptorIndex := 22, attributes := #[] }, { accessFlags := 2, nameIndex := 25, descriptorIndex := 26, attributes := #[] }, { accessFlags := 26, nameIndex := 1116, descriptorIndex := 1117, attributes := #[] }, { accessFlags := 24, nameIndex := 40, descriptorIndex := 26, attributes := #[] }, { accessFlags := 26, nameIndex := 1101, descriptorIndex := 1102, attributes := #[] }, { accessFlags := 26, nameIndex := 1121, descriptorIndex := 1122, attributes := #[] }, { accessFlags := 25, nameIndex := 599, descriptorIndex := 600, attributes := #[] }, { accessFlags := 24, nameIndex := 1125, descriptorIndex := 18, attributes := #[] }, { accessFlags := 24, nameIndex := 1127, descriptorIndex := 18, attributes := #[] }])
  fields := #[{ name := "value", type := (.array .byte), accessFlags := 18, slot := 0, constantValue := 0 }, { name := "coder", type := .byte, accessFlags := 18, slot := 1, constantValue := 0 }, { name := "hash", type := .int, accessFlags := 2, slot := 2, constantValue := 0 }, { name := "hashIsZero", type := .boolean, accessFlags := 2, slot := 3, constantValue := 0 }, { name := "serialVersionUID", type := .long, accessFlags := 26, slot := 0, constantValue := 0 }, { name := "COMPACT_STRINGS", type := .boolean, accessFlags := 24, slot := 1, constantValue := 0 }, { name := "serialPersistentFields", type := (.array (.object "java/io/ObjectStreamField")), accessFlags := 26, slot := 2, constantValue := 0 }, { name := "REPL", type := .char, accessFlags := 26, slot := 3, constantValue := 0 }, { name := "CASE_INSENSITIVE_ORDER", type := (.object "java/util/Comparator"), accessFlags := 25, slot := 4, constantValue := 0 }, { name := "LATIN1", type := .byte, accessFlags := 24, slot := 5, constantValue := 0 }, { name := "UTF16", type := .byte, accessFlags := 24, slot := 6, constantValue := 0 }]
  methods := #[k9m0, k9m1]
  instanceTypes := #[(.array .byte), .byte, .int, .boolean]
  staticTypes := #[.long, .boolean, (.array (.object "java/io/ObjectStreamField")), .char, (.object "java/util/Comparator"), .byte, .byte]
  resolved := Array.replicate 1451 none
  statics := some 1 }

def pool10 : Array CpInfo := pool [(4, .class_ 6), (1, u "java/lang/Object"), (0, u "<init>"), (0, u "()V"), (5, .class_ 16), (1, u "java/lang/StringLatin1"), (104, u "$assertionsDisabled"), (0, u "Z"), (98, .class_ 223), (1, u "java/lang/StringLatin1$LinesSpliterator"), (57, u "equals"), (0, u "([B[B)Z"), (107, .class_ 391), (0, u "java/lang/StringLatin1$CharsSpliterator")] 3

def k10m0 : Method := { name := "<init>", desc := "()V", sig := { parameters := [], returnType := none }, accessFlags := 0, code := none }
def k10c1 : Code := { maxStack := 3, maxLocals := 3, code := jdk_43_method_13_code, exceptionTable := #[], attributes := #[] }
def k10m1 : Method := { name := "equals", desc := "([B[B)Z", sig := { parameters := [(.array .byte), (.array .byte)], returnType := some .boolean }, accessFlags := 9, code := some k10c1 }
/-- java/lang/StringLatin1 -/
def k10 : Class := { plain "java/lang/StringLatin1" (some 0) with
  accessFlags := 48
  interfaces := #[]
  cf := some (fileOf pool10 14 #[.nestMembers #[390, 221]] #[{ accessFlags := 0, nameIndex := 7, descriptorIndex := 8, attributes := #[] }, { accessFlags := 9, nameIndex := 281, descriptorIndex := 282, attributes := #[] }] 48 4 #[] #[{ accessFlags := 4120, nameIndex := 121, descriptorIndex := 122, attributes := #[] }])
  fields := #[{ name := "$assertionsDisabled", type := .boolean, accessFlags := 4120, slot := 0, constantValue := 0 }]
  methods := #[k10m0, k10m1]
  instanceTypes := #[]
  staticTypes := #[.boolean]
  resolved := Array.replicate 395 none
  statics := none }

def pool11 : Array CpInfo := pool [(2, .class_ 4), (1, u "java/lang/Object"), (0, u "<init>"), (0, u "()V"), (17, .class_ 26), (1, u "jdk/internal/util/Preconditions"), (28, .class_ 56), (0, u "jdk/internal/util/Preconditions$4"), (57, .class_ 115), (0, u "jdk/internal/util/Preconditions$1"), (7, u "SIOOBE_FORMATTER"), (0, u "Ljava/util/function/BiFunction;"), (0, .class_ 126), (0, u "jdk/internal/util/Preconditions$2"), (3, u "AIOOBE_FORMATTER"), (0, .class_ 132), (0, u "jdk/internal/util/Preconditions$3"), (3, u "IOOBE_FORMATTER")] 57

def k11m0 : Method := { name := "<init>", desc := "()V", sig := { parameters := [], returnType := none }, accessFlags := 1, code := none }
/-- jdk/internal/util/Preconditions -/
def k11 : Class := { plain "jdk/internal/util/Preconditions" (some 0) with
  accessFlags := 33
  interfaces := #[]
  cf := some (fileOf pool11 24 #[.nestMembers #[55, 131, 125, 114]] #[{ accessFlags := 1, nameIndex := 5, descriptorIndex := 6, attributes := #[] }] 33 2 #[] #[{ accessFlags := 25, nameIndex := 123, descriptorIndex := 124, attributes := #[] }, { accessFlags := 25, nameIndex := 130, descriptorIndex := 124, attributes := #[] }, { accessFlags := 25, nameIndex := 136, descriptorIndex := 124, attributes := #[] }])
  fields := #[{ name := "SIOOBE_FORMATTER", type := (.object "java/util/function/BiFunction"), accessFlags := 25, slot := 0, constantValue := 0 }, { name := "AIOOBE_FORMATTER", type := (.object "java/util/function/BiFunction"), accessFlags := 25, slot := 1, constantValue := 0 }, { name := "IOOBE_FORMATTER", type := (.object "java/util/function/BiFunction"), accessFlags := 25, slot := 2, constantValue := 0 }]
  methods := #[k11m0]
  instanceTypes := #[]
  staticTypes := #[(.object "java/util/function/BiFunction"), (.object "java/util/function/BiFunction"), (.object "java/util/function/BiFunction")]
  resolved := Array.replicate 194 none
  statics := some 2 }

def pool12 : Array CpInfo := pool [(9, u "<init>"), (6, .class_ 18), (1, u "java/lang/Object"), (0, u "()V"), (1, .class_ 23), (1, u "jdk/internal/util/ArraysSupport"), (0, u "LOG2_ARRAY_LONG_INDEX_SCALE"), (0, u "I"), (2, u "U"), (0, u "Ljdk/internal/misc/Unsafe;"), (8, u "BIG_ENDIAN"), (0, u "Z"), (8, u "LOG2_BYTE_BIT_SIZE"), (4, u "LOG2_ARRAY_INT_INDEX_SCALE"), (54, u "JLA"), (0, u "Ljdk/internal/access/JavaLangAccess;"), (11, u "LOG2_ARRAY_BOOLEAN_INDEX_SCALE"), (9, u "LOG2_ARRAY_BYTE_INDEX_SCALE"), (5, u "LOG2_ARRAY_CHAR_INDEX_SCALE"), (5, u "LOG2_ARRAY_SHORT_INDEX_SCALE"), (18, u "LOG2_ARRAY_FLOAT_INDEX_SCALE"), (24, u "LOG2_ARRAY_DOUBLE_INDEX_SCALE"), (89, u "T_BOOLEAN"), (2, u "T_CHAR"), (1, u "T_FLOAT"), (1, u "T_DOUBLE"), (1, u "T_BYTE"), (1, u "T_SHORT"), (1, u "T_INT"), (1, u "T_LONG"), (1, u "SOFT_MAX_ARRAY_LENGTH")] 83

def k12m0 : Method := { name := "<init>", desc := "()V", sig := { parameters := [], returnType := none }, accessFlags := 2, code := none }
/-- jdk/internal/util/ArraysSupport -/
def k12 : Class := { plain "jdk/internal/util/ArraysSupport" (some 0) with
  accessFlags := 33
  interfaces := #[]
  cf := some (fileOf pool12 21 #[] #[{ accessFlags := 2, nameIndex := 9, descriptorIndex := 19, attributes := #[] }] 33 16 #[] #[{ accessFlags := 24, nameIndex := 28, descriptorIndex := 29, attributes := #[] }, { accessFlags := 26, nameIndex := 38, descriptorIndex := 39, attributes := #[] }, { accessFlags := 25, nameIndex := 121, descriptorIndex := 25, attributes := #[] }, { accessFlags := 25, nameIndex := 131, descriptorIndex := 25, attributes := #[] }, { accessFlags := 25, nameIndex := 137, descriptorIndex := 25, attributes := #[] }, { accessFlags := 25, nameIndex := 143, descriptorIndex := 25, attributes := #[] }, { accessFlags := 25, nameIndex := 53, descriptorIndex := 25, attributes := #[] }, { accessFlags := 25, nameIndex := 24, descriptorIndex := 25, attributes := #[] }, { accessFlags := 25, nameIndex := 162, descriptorIndex := 25, attributes := #[] }, { accessFlags := 25, nameIndex := 187, descriptorIndex := 25, attributes := #[] }, { accessFlags := 26, nameIndex := 48, descriptorIndex := 25, attributes := #[] }, { accessFlags := 25, nameIndex := 277, descriptorIndex := 25, attributes := #[] }, { accessFlags := 25, nameIndex := 280, descriptorIndex := 25, attributes := #[] }, { accessFlags := 25, nameIndex := 282, descriptorIndex := 25, attributes := #[] }, { accessFlags := 25, nameIndex := 284, descriptorIndex := 25, attributes := #[] }, { accessFlags := 25, nameIndex := 286, descriptorIndex := 25, attributes := #[] }, { accessFlags := 25, nameIndex := 288, descriptorIndex := 25, attributes := #[] }, { accessFlags := 25, nameIndex := 290, descriptorIndex := 25, attributes := #[] }, { accessFlags := 25, nameIndex := 292, descriptorIndex := 25, attributes := #[] }, { accessFlags := 26, nameIndex := 108, descriptorIndex := 109, attributes := #[] }, { accessFlags := 25, nameIndex := 294, descriptorIndex := 25, attributes := #[] }])
  fields := #[{ name := "U", type := (.object "jdk/internal/misc/Unsafe"), accessFlags := 24, slot := 0, constantValue := 0 }, { name := "BIG_ENDIAN", type := .boolean, accessFlags := 26, slot := 1, constantValue := 0 }, { name := "LOG2_ARRAY_BOOLEAN_INDEX_SCALE", type := .int, accessFlags := 25, slot := 2, constantValue := 0 }, { name := "LOG2_ARRAY_BYTE_INDEX_SCALE", type := .int, accessFlags := 25, slot := 3, constantValue := 0 }, { name := "LOG2_ARRAY_CHAR_INDEX_SCALE", type := .int, accessFlags := 25, slot := 4, constantValue := 0 }, { name := "LOG2_ARRAY_SHORT_INDEX_SCALE", type := .int, accessFlags := 25, slot := 5, constantValue := 0 }, { name := "LOG2_ARRAY_INT_INDEX_SCALE", type := .int, accessFlags := 25, slot := 6, constantValue := 0 }, { name := "LOG2_ARRAY_LONG_INDEX_SCALE", type := .int, accessFlags := 25, slot := 7, constantValue := 0 }, { name := "LOG2_ARRAY_FLOAT_INDEX_SCALE", type := .int, accessFlags := 25, slot := 8, constantValue := 0 }, { name := "LOG2_ARRAY_DOUBLE_INDEX_SCALE", type := .int, accessFlags := 25, slot := 9, constantValue := 0 }, { name := "LOG2_BYTE_BIT_SIZE", type := .int, accessFlags := 26, slot := 10, constantValue := 0 }, { name := "T_BOOLEAN", type := .int, accessFlags := 25, slot := 11, constantValue := 0 }, { name := "T_CHAR", type := .int, accessFlags := 25, slot := 12, constantValue := 0 }, { name := "T_FLOAT", type := .int, accessFlags := 25, slot := 13, constantValue := 0 }, { name := "T_DOUBLE", type := .int, accessFlags := 25, slot := 14, constantValue := 0 }, { name := "T_BYTE", type := .int, accessFlags := 25, slot := 15, constantValue := 0 }, { name := "T_SHORT", type := .int, accessFlags := 25, slot := 16, constantValue := 0 }, { name := "T_INT", type := .int, accessFlags := 25, slot := 17, constantValue := 0 }, { name := "T_LONG", type := .int, accessFlags := 25, slot := 18, constantValue := 0 }, { name := "JLA", type := (.object "jdk/internal/access/JavaLangAccess"), accessFlags := 26, slot := 19, constantValue := 0 }, { name := "SOFT_MAX_ARRAY_LENGTH", type := .int, accessFlags := 25, slot := 20, constantValue := 0 }]
  methods := #[k12m0]
  instanceTypes := #[]
  staticTypes := #[(.object "jdk/internal/misc/Unsafe"), .boolean, .int, .int, .int, .int, .int, .int, .int, .int, .int, .int, .int, .int, .int, .int, .int, .int, .int, (.object "jdk/internal/access/JavaLangAccess"), .int]
  resolved := Array.replicate 378 none
  statics := none }

def pool13 : Array CpInfo := pool [(1, u "java/lang/Cloneable"), (0, .class_ 1), (0, u "java/lang/Object"), (0, .class_ 3)] 3

/-- java/lang/Cloneable -/
def k13 : Class := { plain "java/lang/Cloneable" (some 0) with
  accessFlags := 1537
  interfaces := #[]
  cf := some (fileOf pool13 2 #[] #[] 1537 4 #[] #[])
  fields := #[]
  methods := #[]
  instanceTypes := #[]
  staticTypes := #[]
  resolved := Array.replicate 8 none
  statics := none }

/-- the primitive byte -/
def k14 : Class := { plain "byte" none with kind := .primitive 'B', accessFlags := 0x411 }
/-- [B -/
def k15 : Class := { plain "[B" (some 0) with kind := .array 14 .byte, interfaces := #[13, 4], accessFlags := 1041 }

/-- the primitive int -/
def k16 : Class := { plain "int" none with kind := .primitive 'I', accessFlags := 0x411 }
/-- [I -/
def k17 : Class := { plain "[I" (some 0) with kind := .array 16 .int, interfaces := #[13, 4], accessFlags := 1041 }

/-- [Lcom/example/replay/replay/api/EventType; -/
def k18 : Class := { plain "[Lcom/example/replay/replay/api/EventType;" (some 0) with kind := .array 6 (.object "com/example/replay/replay/api/EventType"), interfaces := #[13, 4], accessFlags := 1041 }

def heap : Heap := #[{ cls := 6, slots := #[.ref 9, .ref 10, .ref 11, .ref 12, .ref 13, .ref 14, .ref 15, .ref 16, .ref 17, .ref 18, .ref 19, .ref 20, .ref 21, .null], vm := .statics 6 },
  { cls := 9, slots := #[.long 0, .int 1, .null, .int 0, .null, .int 0, .int 0], vm := .statics 9 },
  { cls := 11, slots := #[.null, .null, .null], vm := .statics 11 },
  { cls := 15, slots := #[.int 97, .int 99, .int 116, .int 105, .int 118, .int 105, .int 116, .int 121], vm := .none },
  { cls := 15, slots := #[.int 101, .int 118, .int 101, .int 110, .int 116], vm := .none },
  { cls := 15, slots := #[.int 115, .int 116, .int 101, .int 112], vm := .none },
  { cls := 9, slots := #[.ref 3, .int 0, .int 0, .int 0], vm := .none },
  { cls := 9, slots := #[.ref 4, .int 0, .int 0, .int 0], vm := .none },
  { cls := 9, slots := #[.ref 5, .int 0, .int 0, .int 0], vm := .none },
  { cls := 6, slots := #[.null, .int 0, .int 0, .null, .null], vm := .none },
  { cls := 6, slots := #[.null, .int 1, .int 0, .null, .ref 6], vm := .none },
  { cls := 6, slots := #[.null, .int 2, .int 0, .null, .ref 6], vm := .none },
  { cls := 6, slots := #[.null, .int 3, .int 0, .null, .ref 6], vm := .none },
  { cls := 6, slots := #[.null, .int 4, .int 0, .null, .null], vm := .none },
  { cls := 6, slots := #[.null, .int 5, .int 0, .null, .null], vm := .none },
  { cls := 6, slots := #[.null, .int 6, .int 0, .null, .ref 7], vm := .none },
  { cls := 6, slots := #[.null, .int 7, .int 0, .null, .null], vm := .none },
  { cls := 6, slots := #[.null, .int 8, .int 0, .null, .ref 7], vm := .none },
  { cls := 6, slots := #[.null, .int 9, .int 0, .null, .null], vm := .none },
  { cls := 6, slots := #[.null, .int 10, .int 0, .null, .ref 8], vm := .none },
  { cls := 6, slots := #[.null, .int 11, .int 0, .null, .null], vm := .none },
  { cls := 6, slots := #[.null, .int 12, .int 0, .null, .null], vm := .none }]
def classes : Array Class := #[k0, k1, k2, k3, k4, k5, k6, k7, k8, k9, k10, k11, k12, k13, k14, k15, k16, k17, k18]
def interned : List (Array UInt16 × Addr) := []
def slotsUsed : Nat := 118
def theMethod : MethodId := ⟨1, 1⟩
def args0 : Array Value := #[.int 5]
def aboutOver (below : List Frame) : State where
  vm := { classes := classes, interned := interned.toArray }
  heap := heap
  slotsUsed := slotsUsed
  threads := #[{ frames := .invoking theMethod args0 :: below }]
def below0 : List Frame := [.native { method := ⟨0, 0⟩, args := #[] }]
def about1 : State := aboutOver below0
def p0 : Program := .bare "" "" ""
def e0 : Env := launch0.env 0 0 0
theorem w_frames : about1.frames = Frame.invoking theMethod args0 :: below0 := rfl
set_option maxRecDepth 65536 in
theorem w_args : argsFit about1.vm theMethod args0 = true := by decide +kernel
set_option maxRecDepth 65536 in
theorem w_heap : heapFits about1 = true := by decide +kernel
set_option maxRecDepth 65536 in
theorem w_runnable : about1.curStatus? = some .runnable := by decide +kernel
set_option maxRecDepth 65536 in
theorem w_alone : about1.alone = true := by decide +kernel
set_option maxRecDepth 65536 in
theorem w_named : about1.methodNamed? x = some theMethod := by decide +kernel
set_option maxRecDepth 65536 in
theorem w_hears : about1.hears theMethod below0 = true := by decide +kernel
set_option maxRecDepth 65536 in
theorem w_ripe : about1.ripe theMethod args0 below0 = true := by decide +kernel
theorem w_running : about1.status = .running := rfl
set_option maxRecDepth 65536 in
theorem w_room : about1.hasRoom e0.platform room_1 = true :=
  launch0.hasRoom_least _ room_1 (by decide +kernel) (by decide +kernel) (by decide +kernel) (by decide +kernel) (by decide +kernel) (by decide +kernel)
theorem allAtoms_all (ts : List Jvm.Cond) (a : Array Jvm.Value) (st : Jvm.State) : (allAtoms ts).before a st = ts.all (fun c => c.before a st) := by
  induction ts with
  | nil => rfl
  | cons c t ih =>
    show (Jvm.Cond.and c (allAtoms t)).before a st = _
    rw [Jvm.Cond.before_and, ih, List.all_cons]
def words1 : List Jvm.Cond := Jvm.Cond.code x code maxLocals ret :: tables_1
/-- a 'code' word, met by the world's own term for the bytes: nothing is compared byte by byte -/
theorem code_word {y : MethodName} {bytes : ByteArray} {mx : Nat} {rt : Option FieldType} {a : Array Value} {s : State} {m : MethodId} {meth : Method} {c : Code} (h1 : s.methodNamed? y = some m) (h2 : s.vm.method? m = some meth) (h3 : meth.code = some c) (h4 : c.code = bytes)
    (h5 : (c.maxLocals == mx && c.exceptionTable.isEmpty && decide (c.maxStack ≤ mostOperands) && decide (meth.sig.returnType = rt) && !meth.locks && decide (parseMethodDescriptor y.desc = some meth.sig)) = true) : (Jvm.Cond.code y bytes mx rt).before a s = true := by
  simp only [Bool.and_eq_true, beq_iff_eq, Bool.not_eq_true', decide_eq_true_eq] at h5
  obtain ⟨⟨⟨⟨⟨g1, g2⟩, g3⟩, g4⟩, g5⟩, g6⟩ := h5
  simp [Cond.before, Cond.holds, Cond.value, h1, h2, h3, h4, g1, g2, g3, g4, g5, g6]
def isCode : Jvm.Cond → Bool
  | .code _ _ _ _ => true
  | _ => false
theorem all_split {L : List Jvm.Cond} {P : Jvm.Cond → Bool} (h1 : L.all (fun c => isCode c || P c) = true) (h2 : ∀ c ∈ L.filter isCode, P c = true) : L.all P = true := by
  refine List.all_eq_true.mpr fun c hc => ?_
  have h := List.all_eq_true.mp h1 c hc
  rcases Bool.eq_false_or_eq_true (isCode c) with hi | hi
  · exact h2 c (List.mem_filter.mpr ⟨hc, hi⟩)
  · simpa [hi] using h
set_option maxRecDepth 65536 in
theorem w_c0 : (Jvm.Cond.code x code maxLocals ret).before args0 about1 = true := code_word (m := ⟨1, 1⟩) (meth := k1m1) (c := k1c1) (by decide +kernel) rfl rfl rfl (by decide +kernel)
set_option maxRecDepth 65536 in
theorem w_c1 : (Jvm.Cond.code ({ cls := "com/example/replay/replay/api/EventType", name := "isActivityOutcome", desc := "()Z" } : Jvm.MethodName) prog_4_method_8_code (1 : Nat) (Option.some Jvm.ClassFile.FieldType.boolean)).before args0 about1 = true := code_word (m := ⟨6, 2⟩) (meth := k6m2) (c := k6c2) (by decide +kernel) rfl rfl rfl (by decide +kernel)
set_option maxRecDepth 65536 in
theorem w_c2 : (Jvm.Cond.code ({ cls := "com/example/replay/replay/api/EventType", name := "isActivityEvent", desc := "()Z" } : Jvm.MethodName) prog_4_method_7_code (1 : Nat) (Option.some Jvm.ClassFile.FieldType.boolean)).before args0 about1 = true := code_word (m := ⟨6, 1⟩) (meth := k6m1) (c := k6c1) (by decide +kernel) rfl rfl rfl (by decide +kernel)
set_option maxRecDepth 65536 in
theorem w_c3 : (Jvm.Cond.code ({ cls := "com/example/replay/replay/api/EventType", name := "subject", desc := "()Ljava/lang/String;" } : Jvm.MethodName) prog_4_method_5_code (1 : Nat) (Option.some (Jvm.ClassFile.FieldType.object "java/lang/String"))).before args0 about1 = true := code_word (m := ⟨6, 0⟩) (meth := k6m0) (c := k6c0) (by decide +kernel) rfl rfl rfl (by decide +kernel)
set_option maxRecDepth 65536 in
theorem w_c4 : (Jvm.Cond.code ({ cls := "java/lang/String", name := "equals", desc := "(Ljava/lang/Object;)Z" } : Jvm.MethodName) jdk_42_method_66_code (3 : Nat) (Option.some Jvm.ClassFile.FieldType.boolean)).before args0 about1 = true := code_word (m := ⟨9, 1⟩) (meth := k9m1) (c := k9c1) (by decide +kernel) rfl rfl rfl (by decide +kernel)
set_option maxRecDepth 65536 in
theorem w_c5 : (Jvm.Cond.code ({ cls := "java/lang/StringLatin1", name := "equals", desc := "([B[B)Z" } : Jvm.MethodName) jdk_43_method_13_code (3 : Nat) (Option.some Jvm.ClassFile.FieldType.boolean)).before args0 about1 = true := code_word (m := ⟨10, 1⟩) (meth := k10m1) (c := k10c1) (by decide +kernel) rfl rfl rfl (by decide +kernel)
def codes1 : List Jvm.Cond := [Jvm.Cond.code x code maxLocals ret, Jvm.Cond.code ({ cls := "com/example/replay/replay/api/EventType", name := "isActivityOutcome", desc := "()Z" } : Jvm.MethodName) prog_4_method_8_code (1 : Nat) (Option.some Jvm.ClassFile.FieldType.boolean), Jvm.Cond.code ({ cls := "com/example/replay/replay/api/EventType", name := "isActivityEvent", desc := "()Z" } : Jvm.MethodName) prog_4_method_7_code (1 : Nat) (Option.some Jvm.ClassFile.FieldType.boolean), Jvm.Cond.code ({ cls := "com/example/replay/replay/api/EventType", name := "subject", desc := "()Ljava/lang/String;" } : Jvm.MethodName) prog_4_method_5_code (1 : Nat) (Option.some (Jvm.ClassFile.FieldType.object "java/lang/String")), Jvm.Cond.code ({ cls := "java/lang/String", name := "equals", desc := "(Ljava/lang/Object;)Z" } : Jvm.MethodName) jdk_42_method_66_code (3 : Nat) (Option.some Jvm.ClassFile.FieldType.boolean), Jvm.Cond.code ({ cls := "java/lang/StringLatin1", name := "equals", desc := "([B[B)Z" } : Jvm.MethodName) jdk_43_method_13_code (3 : Nat) (Option.some Jvm.ClassFile.FieldType.boolean)]
set_option maxRecDepth 65536 in
theorem codes_eq : words1.filter isCode = codes1 := rfl
theorem w_codes : ∀ c ∈ words1.filter isCode, c.before args0 about1 = true := by
  rw [codes_eq]
  intro c hc
  simp only [codes1, List.mem_cons, List.not_mem_nil, or_false] at hc
  rcases hc with rfl | rfl | rfl | rfl | rfl | rfl
  · exact w_c0
  · exact w_c1
  · exact w_c2
  · exact w_c3
  · exact w_c4
  · exact w_c5
set_option maxRecDepth 65536 in
theorem w_t1 : (words1.take 24).all (fun c => isCode c || c.before args0 about1) = true := by decide +kernel
set_option maxRecDepth 65536 in
theorem w_t2 : ((words1.drop 24).take 24).all (fun c => isCode c || c.before args0 about1) = true := by decide +kernel
set_option maxRecDepth 65536 in
theorem w_t3 : (((words1.drop 24).drop 24).take 24).all (fun c => isCode c || c.before args0 about1) = true := by decide +kernel
set_option maxRecDepth 65536 in
theorem w_t4 : (((words1.drop 24).drop 24).drop 24).all (fun c => isCode c || c.before args0 about1) = true := by decide +kernel
theorem w_tables : (allAtoms (Jvm.Cond.code x code maxLocals ret :: tables_1)).before args0 about1 = true := by
  rw [allAtoms_all]
  show words1.all (fun c => c.before args0 about1) = true
  refine all_split ?_ w_codes
  rw [← List.take_append_drop 24 words1, List.all_append, w_t1, ← List.take_append_drop 24 (words1.drop 24), List.all_append, w_t2, ← List.take_append_drop 24 ((words1.drop 24).drop 24), List.all_append, w_t3, w_t4]
  rfl
set_option maxRecDepth 65536 in
theorem w_rest : rest_1_c.before args0 about1 = true := by decide +kernel
set_option maxRecDepth 65536 in
theorem w_case : (Jvm.Cond.and given_1 narrow_1).before args0 about1 = true := by decide +kernel
set_option maxRecDepth 65536 in
theorem w_consts : constsHeld consts_1 about1 := Jvm.Lit.constsHeldB_iff.mp (by decide +kernel)
theorem w_applies : (headSpec (Jvm.Cond.code x code maxLocals ret :: tables_1) room_1).applies x e0.platform about1 = true :=
  (Spec.applies_iff w_frames).mpr ⟨w_running, w_runnable, w_alone, w_named, w_hears, w_ripe, w_room, w_tables⟩
theorem atStart : AtStart classFile x code maxLocals ret World_1 tables_1 room_1 Calls_1 rest_1 Pre_1 launch0 p0 e0 about1 theMethod args0 below0 :=
  ⟨lists_1, trivial, launch0.admits_env _ _ _, launch0.least_env, fairChoices_fair.cas, fairChoices_fair.clock, w_frames, w_args, w_heap, w_applies, ⟨w_consts, trivial⟩, w_rest, w_case⟩
end start1
theorem witness_1 : WitnessClaimed_1 := ⟨start1.p0, start1.e0, start1.about1, start1.theMethod, start1.args0, start1.below0, start1.atStart⟩
end Jvm.Pilot.@@N@@
