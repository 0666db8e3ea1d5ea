import JvmDerived
import JvmDerived.Pilot.@@N@@Statement
import JvmDerived.Pilot.@@N@@Code
set_option linter.unusedVariables false
set_option linter.unusedSimpArgs false

namespace Jvm.Pilot.@@N@@
open Jvm Jvm.ClassFile Sem Op Lib Jvm.Free Jvm.Stand Jvm.LawKit Jvm.RoadKit Bundle Jvm.Pilot.@@N@@.Jvm.D
def QH (w : Value) (n0 : Nat) (v : Option Value) (h : Heap) (L : List Loc) : Prop := v = some w ∧ Fr n0 L
def own_at (l : List Int32) (j : Int32) : Int32 := l.getD j.toNatClampNeg 0
theorem own_getD (l : List Int32) (j : Int32) : (List.map Value.int l).getD j.toNatClampNeg (.int (0 : Int32)) = .int (own_at l j) := by
  simp only [own_at, List.getD_eq_getElem?_getD, List.getElem?_map]
  cases l[j.toNatClampNeg]? <;> rfl
def own_atJ (l : List Int64) (j : Int32) : Int64 := l.getD j.toNatClampNeg 0
theorem own_getDJ (l : List Int64) (j : Int32) : (List.map Value.long l).getD j.toNatClampNeg (.long (0 : Int64)) = .long (own_atJ l j) := by
  simp only [own_atJ, List.getD_eq_getElem?_getD, List.getElem?_map]
  cases l[j.toNatClampNeg]? <;> rfl
def QP (w : Value) (h0 : Heap) (v : Option Value) (h : Heap) (L : List Loc) : Prop := v = some w ∧ L = [] ∧ h = h0
def Runs (p : Program) (e : Env) (below : List Frame) (s : State) (Q : Option Value → Heap → List Loc → Prop) (k n : Nat) (A : State) : Prop :=
  ∃ s₂ o, Steps p.tables e below A s₂ ∧ s₂.status = .running ∧ Ended s₂ below o ∧ ∃ v L, o = .returned v ∧ Q v s₂.heap L ∧ FrameEnd s o s₂ L k n
section Ends
variable {p : Program} {l : Launch} {e : Env} {R : Room} {s : State} {m : MethodId} {args : Array Value} {below : List Frame} {meth : Method} {c : Code} {T A B : State} {locs : List Loc} {cells slots : Nat} {Q : Option Value → Heap → List Loc → Prop} {k n pc : Nat} {Ls : Array Slot} {rest : List Value}
theorem Runs.go (h : ∀ t, Steps p.tables e below B t → Steps p.tables e below A t) (q : Runs p e below s Q k n B) : Runs p e below s Q k n A := by
  obtain ⟨s₂, o, h1, h2⟩ := q; exact ⟨s₂, o, h _ h1, h2⟩
theorem Runs.endI (X : Stand p l e R s m args below meth c T locs cells slots) (hx : p.tables.exec = Jvm.exec) {z : Int32} (hret : meth.sig.returnType = some .int) (hl : meth.locks = false) (hd : decode c.code pc = .ok (.ireturn, 1)) (hQ : Q (some (.int z)) T.heap locs) (hk : cells ≤ k) (hn : slots ≤ n) : Runs p e below s Q k n (T.setTop (mkF m pc Ls (.int z :: rest))) := by
  obtain ⟨fs, hr, hrun, hended, hW, hsame⟩ := X.leave (v := some (.int z)) (fun h => by rw [hret] at h; cases h) hl
  exact ⟨_, _, retOut X hx hret rfl (Or.inl ⟨rfl, Or.inl rfl, _, rfl⟩) hd hr, hrun, hended, _, _, rfl, hQ, ⟨_, rfl⟩, hW, hsame.mono hk hn⟩
theorem Runs.endJ (X : Stand p l e R s m args below meth c T locs cells slots) (hx : p.tables.exec = Jvm.exec) {z : Int64} (hret : meth.sig.returnType = some .long) (hl : meth.locks = false) (hd : decode c.code pc = .ok (.lreturn, 1)) (hQ : Q (some (.long z)) T.heap locs) (hk : cells ≤ k) (hn : slots ≤ n) : Runs p e below s Q k n (T.setTop (mkF m pc Ls (.long z :: rest))) := by
  obtain ⟨fs, hr, hrun, hended, hW, hsame⟩ := X.leave (v := some (.long z)) (fun h => by rw [hret] at h; cases h) hl
  exact ⟨_, _, retOut X hx hret rfl (Or.inr (Or.inl ⟨rfl, rfl, _, rfl⟩)) hd hr, hrun, hended, _, _, rfl, hQ, ⟨_, rfl⟩, hW, hsame.mono hk hn⟩
theorem Runs.endN (X : Stand p l e R s m args below meth c T locs cells slots) (hx : p.tables.exec = Jvm.exec) {z : Int32} {t : FieldType} (hret : meth.sig.returnType = some t) (ht : t = .boolean ∨ t = .byte ∨ t = .char ∨ t = .short) (hl : meth.locks = false) (hd : decode c.code pc = .ok (.ireturn, 1)) (hQ : Q (some (.int (nar t z))) T.heap locs) (hk : cells ≤ k) (hn : slots ≤ n) : Runs p e below s Q k n (T.setTop (mkF m pc Ls (.int z :: rest))) := by
  obtain ⟨fs, hr, hrun, hended, hW, hsame⟩ := X.leave (v := some (.int (nar t z))) (fun h => by rw [hret] at h; cases h) hl
  exact ⟨_, _, retN X hx hret ht hd hr, hrun, hended, _, _, rfl, hQ, ⟨_, rfl⟩, hW, hsame.mono hk hn⟩
theorem Runs.endV (X : Stand p l e R s m args below meth c T locs cells slots) (hx : p.tables.exec = Jvm.exec) (hret : meth.sig.returnType = none) (hl : meth.locks = false) (hd : decode c.code pc = .ok (.return_, 1)) (hQ : Q none T.heap locs) (hk : cells ≤ k) (hn : slots ≤ n) : Runs p e below s Q k n (T.setTop (mkF m pc Ls [])) := by
  obtain ⟨fs, hr, hrun, hended, hW, hsame⟩ := X.leave (v := none) (fun _ => rfl) hl
  exact ⟨_, _, X.returnOut hx hret hd hr, hrun, hended, _, _, rfl, hQ, ⟨_, rfl⟩, hW, hsame.mono hk hn⟩
theorem Runs.endR (X : Stand p l e R s m args below meth c T locs cells slots) (hx : p.tables.exec = Jvm.exec) {z : Addr} {t : FieldType} (hret : meth.sig.returnType = some t) (ht : t.isReference = true) (hl : meth.locks = false) (hd : decode c.code pc = .ok (.areturn, 1)) (hQ : Q (some (.ref z)) T.heap locs) (hk : cells ≤ k) (hn : slots ≤ n) : Runs p e below s Q k n (T.setTop (mkF m pc Ls (.ref z :: rest))) := by
  obtain ⟨fs, hr, hrun, hended, hW, hsame⟩ := X.leave (v := some (.ref z)) (fun h => by rw [hret] at h; cases h) hl
  exact ⟨_, _, retOut X hx hret (by cases t <;> first | rfl | cases ht) (Or.inr (Or.inr (Or.inr (Or.inr ⟨rfl, ht, rfl⟩)))) hd hr, hrun, hended, _, _, rfl, hQ, ⟨_, rfl⟩, hW, hsame.mono hk hn⟩
end Ends
open Jvm.Lib.Cold (StaticIs)
open Jvm.Lib.StringLatin1.equals (intAt intAt_spec)
abbrev STR : String := "java/lang/String"
def own_act : List Int32 := [97, 99, 116, 105, 118, 105, 116, 121]
def own_evt : List Int32 := [101, 118, 101, 110, 116]
def own_stp : List Int32 := [115, 116, 101, 112]
/-! the heap: what stood at the start stands -/
theorem own_extr (h : Heap) : Ext h h := ⟨Nat.le_refl _, fun _ _ q => q⟩
theorem own_extt {h0 h h' : Heap} (E : Ext h0 h) (E' : Ext h h') : Ext h0 h' := ⟨Nat.le_trans E.1 E'.1, fun a c q => E'.2 a c (E.2 a c q)⟩
theorem own_extw {h0 h h' : Heap} {b : Addr} {sl : Nat} {v : Value} (E : Ext h0 h) (W : Wr h h' b sl v) (q : h0.size ≤ b) : Ext h0 h' :=
  have K := Keep.of_wr W
  ⟨Nat.le_trans E.1 K.1, fun a c r => K.2.1 a c (E.2 a c r) fun z => by
    have e := List.mem_singleton.mp z
    have lt := (Array.getElem?_eq_some_iff.mp r).1
    exact absurd (e ▸ lt) (Nat.not_lt.mpr q)⟩
theorem own_since (s : State) : s.Since s.vm s.heap.size := ⟨State.Warmed39.refl s, fun j p hj hp => absurd (Array.getElem?_eq_some_iff.mp hp).1 (Nat.not_lt.mpr hj)⟩
/-! the ends of a walk that may have interned -/
def RunsW (p : Program) (e : Env) (below : List Frame) (s : State) (Q : Option Value → Heap → List Loc → Prop) (k n : Nat) (A : State) : Prop :=
  ∃ s₂ o, Steps p.tables e below A s₂ ∧ s₂.status = .running ∧ Ended s₂ below o ∧ ∃ v L, o = .returned v ∧ Q v s₂.heap L ∧ ReturnedEndW s o s₂ L k n
section EndsW
variable {p : Program} {l : Launch} {e : Env} {R : Room} {s : State} {m : MethodId} {args : Array Value} {below : List Frame} {meth : Method} {c : Code} {T A B : State} {locs : List Loc} {cells slots : Nat} {Q : Option Value → Heap → List Loc → Prop} {k n pc : Nat} {Ls : Array Slot} {rest : List Value}
theorem RunsW.go (h : ∀ t, Steps p.tables e below B t → Steps p.tables e below A t) (q : RunsW p e below s Q k n B) : RunsW p e below s Q k n A := by
  obtain ⟨s₂, o, h1, h2⟩ := q; exact ⟨s₂, o, h _ h1, h2⟩
theorem RunsW.endN {vm₁ : Vm} {k0 : Nat} (X : Stand p l e R (s.setVm vm₁) m args below meth c T locs cells slots) (hS : s.Since vm₁ k0) (hk0 : k0 ≤ T.heap.size) (hx : p.tables.exec = Jvm.exec) {z : Int32} {t : FieldType} (hret : meth.sig.returnType = some t) (ht : t = .boolean ∨ t = .byte ∨ t = .char ∨ t = .short) (hl : meth.locks = false) (hd : decode c.code pc = .ok (.ireturn, 1)) (hQ : Q (some (.int (nar t z))) T.heap locs) (hk : cells ≤ k) (hn : slots ≤ n) : RunsW p e below s Q k n (T.setTop (mkF m pc Ls (.int z :: rest))) := by
  obtain ⟨fs, hr, hrun, hended, e1, e2, e3, e4⟩ := X.leaveW hS hk0 (v := some (.int (nar t z))) (fun h => by rw [hret] at h; cases h) hl
  exact ⟨_, _, retN X hx hret ht hd hr, hrun, hended, _, _, rfl, hQ, e1, e2, e3, e4.mono hk hn⟩
theorem RunsW.endN0 (X : Stand p l e R s m args below meth c T locs cells slots) (hx : p.tables.exec = Jvm.exec) {z : Int32} {t : FieldType} (hret : meth.sig.returnType = some t) (ht : t = .boolean ∨ t = .byte ∨ t = .char ∨ t = .short) (hl : meth.locks = false) (hd : decode c.code pc = .ok (.ireturn, 1)) (hQ : Q (some (.int (nar t z))) T.heap locs) (hk : cells ≤ k) (hn : slots ≤ n) : RunsW p e below s Q k n (T.setTop (mkF m pc Ls (.int z :: rest))) := by
  obtain ⟨fs, hr, hrun, hended, hW, hsame⟩ := X.leave (v := some (.int (nar t z))) (fun h => by rw [hret] at h; cases h) hl
  exact ⟨_, _, retN X hx hret ht hd hr, hrun, hended, _, _, rfl, hQ, ReturnedEndW.of_narrow ⟨_, rfl⟩ hW (hsame.mono hk hn)⟩
theorem Runs.endW (X : Stand p l e R s m args below meth c T locs cells slots) (hx : p.tables.exec = Jvm.exec) {w : Value} {t : FieldType} (hret : meth.sig.returnType = some t) (ht : t.isReference = true) (hw : w.isRef = true) (hl : meth.locks = false) (hd : decode c.code pc = .ok (.areturn, 1)) (hQ : Q (some w) T.heap locs) (hk : cells ≤ k) (hn : slots ≤ n) : Runs p e below s Q k n (T.setTop (mkF m pc Ls (w :: rest))) := by
  obtain ⟨fs, hr, hrun, hended, hW, hsame⟩ := X.leave (v := some w) (fun h => by rw [hret] at h; cases h) hl
  exact ⟨_, _, retOut X hx hret (by cases t <;> first | rfl | cases ht) (Or.inr (Or.inr (Or.inr (Or.inr ⟨rfl, ht, hw⟩)))) hd hr, hrun, hended, _, _, rfl, hQ, ⟨_, rfl⟩, hW, hsame.mono hk hn⟩
end EndsW
/-! numbers -/
theorem e13 : (13 : Int32).toInt = 13 := by decide
theorem own_mod (x0 : Int32) : (x0 &&& (2147483647 : Int32)) - (x0 &&& (2147483647 : Int32)) / (13 : Int32) * (13 : Int32) = (0 : Int32) ∨ (x0 &&& (2147483647 : Int32)) - (x0 &&& (2147483647 : Int32)) / (13 : Int32) * (13 : Int32) = (1 : Int32) ∨ (x0 &&& (2147483647 : Int32)) - (x0 &&& (2147483647 : Int32)) / (13 : Int32) * (13 : Int32) = (2 : Int32) ∨ (x0 &&& (2147483647 : Int32)) - (x0 &&& (2147483647 : Int32)) / (13 : Int32) * (13 : Int32) = (3 : Int32) ∨ (x0 &&& (2147483647 : Int32)) - (x0 &&& (2147483647 : Int32)) / (13 : Int32) * (13 : Int32) = (4 : Int32) ∨ (x0 &&& (2147483647 : Int32)) - (x0 &&& (2147483647 : Int32)) / (13 : Int32) * (13 : Int32) = (5 : Int32) ∨ (x0 &&& (2147483647 : Int32)) - (x0 &&& (2147483647 : Int32)) / (13 : Int32) * (13 : Int32) = (6 : Int32) ∨ (x0 &&& (2147483647 : Int32)) - (x0 &&& (2147483647 : Int32)) / (13 : Int32) * (13 : Int32) = (7 : Int32) ∨ (x0 &&& (2147483647 : Int32)) - (x0 &&& (2147483647 : Int32)) / (13 : Int32) * (13 : Int32) = (8 : Int32) ∨ (x0 &&& (2147483647 : Int32)) - (x0 &&& (2147483647 : Int32)) / (13 : Int32) * (13 : Int32) = (9 : Int32) ∨ (x0 &&& (2147483647 : Int32)) - (x0 &&& (2147483647 : Int32)) / (13 : Int32) * (13 : Int32) = (10 : Int32) ∨ (x0 &&& (2147483647 : Int32)) - (x0 &&& (2147483647 : Int32)) / (13 : Int32) * (13 : Int32) = (11 : Int32) ∨ (x0 &&& (2147483647 : Int32)) - (x0 &&& (2147483647 : Int32)) / (13 : Int32) * (13 : Int32) = (12 : Int32) := by
  have m : (x0 &&& (2147483647 : Int32)).toInt = x0.toInt % 2147483648 := by
    have := c_mask x0 (2147483647 : Int32) 31 (by decide) (by decide); simpa using this
  generalize (x0 &&& (2147483647 : Int32)) = y at m ⊢
  have c0 : (y / (13 : Int32)).toInt = y.toInt / 13 := (c_idiv y 13 13 (by decide) (by decide)).1 (by omega)
  have c1 := c_imul (y / (13 : Int32)) 13; have r1 := rng32 (y / (13 : Int32) * 13); have c2 := c_isub y (y / (13 : Int32) * 13); have r2 := rng32 (y - y / (13 : Int32) * 13); rw [e13] at c1
  generalize hi : y - y / (13 : Int32) * (13 : Int32) = i at c2 r2 ⊢
  have h0 : 0 ≤ i.toInt ∧ i.toInt < 13 := by omega
  have key : ∀ k : Int32, i.toInt = k.toInt → i = k := fun k h => Int32.toInt_inj.mp h
  have e0 : (0 : Int32).toInt = 0 := by decide
  have e1 : (1 : Int32).toInt = 1 := by decide
  have e2 : (2 : Int32).toInt = 2 := by decide
  have e3 : (3 : Int32).toInt = 3 := by decide
  have e4 : (4 : Int32).toInt = 4 := by decide
  have e5 : (5 : Int32).toInt = 5 := by decide
  have e6 : (6 : Int32).toInt = 6 := by decide
  have e7 : (7 : Int32).toInt = 7 := by decide
  have e8 : (8 : Int32).toInt = 8 := by decide
  have e9 : (9 : Int32).toInt = 9 := by decide
  have e10 : (10 : Int32).toInt = 10 := by decide
  have e11 : (11 : Int32).toInt = 11 := by decide
  have e12 : (12 : Int32).toInt = 12 := by decide
  have : i.toInt = 0 ∨ i.toInt = 1 ∨ i.toInt = 2 ∨ i.toInt = 3 ∨ i.toInt = 4 ∨ i.toInt = 5 ∨ i.toInt = 6 ∨ i.toInt = 7 ∨ i.toInt = 8 ∨ i.toInt = 9 ∨ i.toInt = 10 ∨ i.toInt = 11 ∨ i.toInt = 12 := by omega
  rcases this with h | h | h | h | h | h | h | h | h | h | h | h | h
  · exact Or.inl (key 0 (h.trans e0.symm))
  · exact Or.inr (Or.inl (key 1 (h.trans e1.symm)))
  · exact Or.inr (Or.inr (Or.inl (key 2 (h.trans e2.symm))))
  · exact Or.inr (Or.inr (Or.inr (Or.inl (key 3 (h.trans e3.symm)))))
  · exact Or.inr (Or.inr (Or.inr (Or.inr (Or.inl (key 4 (h.trans e4.symm))))))
  · exact Or.inr (Or.inr (Or.inr (Or.inr (Or.inr (Or.inl (key 5 (h.trans e5.symm)))))))
  · exact Or.inr (Or.inr (Or.inr (Or.inr (Or.inr (Or.inr (Or.inl (key 6 (h.trans e6.symm))))))))
  · exact Or.inr (Or.inr (Or.inr (Or.inr (Or.inr (Or.inr (Or.inr (Or.inl (key 7 (h.trans e7.symm)))))))))
  · exact Or.inr (Or.inr (Or.inr (Or.inr (Or.inr (Or.inr (Or.inr (Or.inr (Or.inl (key 8 (h.trans e8.symm))))))))))
  · exact Or.inr (Or.inr (Or.inr (Or.inr (Or.inr (Or.inr (Or.inr (Or.inr (Or.inr (Or.inl (key 9 (h.trans e9.symm)))))))))))
  · exact Or.inr (Or.inr (Or.inr (Or.inr (Or.inr (Or.inr (Or.inr (Or.inr (Or.inr (Or.inr (Or.inl (key 10 (h.trans e10.symm))))))))))))
  · exact Or.inr (Or.inr (Or.inr (Or.inr (Or.inr (Or.inr (Or.inr (Or.inr (Or.inr (Or.inr (Or.inr (Or.inl (key 11 (h.trans e11.symm)))))))))))))
  · exact Or.inr (Or.inr (Or.inr (Or.inr (Or.inr (Or.inr (Or.inr (Or.inr (Or.inr (Or.inr (Or.inr (Or.inr (key 12 (h.trans e12.symm)))))))))))))
/-! strings -/
theorem own_sf {f g : Nat → Int32} : ∀ (n k : Nat), (∀ i, k ≤ i → i < k + n → f i = g i) → Jvm.Free.StrEq.sameFrom f g k n = true
  | 0, _, _ => rfl
  | n + 1, k, h => by
    rw [Jvm.Free.StrEq.sameFrom, own_sf n (k + 1) (fun i h1 h2 => h i (by omega) (by omega)), h k (by omega) (by omega)]; simp
theorem own_strAt {Z : State} {h : Heap} {a d : Addr} {k : ClassId} {z : Int32} {vs : List Int32} (E : Exa Z h a STR) (Fc : Fld Z h a STR "coder" "B" (.int 0)) (Fv : Fld Z h a STR "value" "[B" (.ref d)) (V : Arv Z h d k .byte z (vs.map Value.int) (.int 0)) :
    ∃ (fC fV : Field) (C A : Cell), (∃ c k i, Z.fieldFound? STR "coder" "B" = some (c, k, i, fC)) ∧ (∃ c k i, Z.fieldFound? STR "value" "[B" = some (c, k, i, fV)) ∧
      (∀ U : State, Z.Warmed39 U.vm → U.heap = h → Jvm.Free.StrEq.SE.StrAt fC fV a C 0 d A U) ∧ A.slots.size = z.toNatClampNeg ∧ ∀ i, i < A.slots.size → intAt A i = vs.getD i 0 := by
  obtain ⟨cell, k1, a1, a2, a3, a4, -⟩ := E
  obtain ⟨cell1, cf1, kc, i1, fC, b1, b2, b3, b4, b5, b6, b7⟩ := Fc
  obtain ⟨cell2, cf2, kv, i2, fV, c1, c2, c3, c4, c5, c6, c7⟩ := Fv
  obtain ⟨A, Ar, q, S, M, H, G⟩ := V
  cases a1.symm.trans b1
  cases a1.symm.trans c1
  have hv : ∀ i, i < A.slots.size → A.slots[i]? = some (.int (vs.getD i 0)) := fun i hi => by
    rw [H i hi]; congr 1
    simp only [List.getD_eq_getElem?_getD, List.getElem?_map]
    cases vs[i]? <;> rfl
  have hb : ∀ i, i < A.slots.size → A.slots[i]? = some (.int (intAt A i)) := fun i hi => intAt_spec ⟨_, hv i hi⟩
  refine ⟨fC, fV, cell, A, ⟨_, _, _, b2⟩, ⟨_, _, _, c2⟩, fun U hU hh => ?_, S, fun i hi => Value.int.inj (Option.some.inj ((hb i hi).symm.trans (hv i hi)))⟩
  obtain ⟨kc', q1, -⟩ := State.fieldFound?_setVm (s := Z) hU.alike b2
  obtain ⟨kv', q2, -⟩ := State.fieldFound?_setVm (s := Z) hU.alike c2
  have hz := rng32 z
  refine ⟨by rw [hh]; exact a1, a4, b4, by rw [hU.alike.findClass]; exact a2, ⟨_, _, _, q1⟩, b3, b7, ⟨_, _, _, q2⟩, c3, c7, by rw [hh]; exact Ar.1, State.isArrayOf_alike hU.alike Ar.2.1, Ar.2.2, ?_, hb⟩
  rw [S, Int32.toNatClampNeg]; omega
theorem own_dne {Z : State} {h : Heap} {a a' d d' : Addr} {k k' : ClassId} {z z' : Int32} {vs vs' : List Value} (F : Fld Z h a STR "value" "[B" (.ref d)) (V : Arv Z h d k .byte z vs (.int 0)) (F' : Fld Z h a' STR "value" "[B" (.ref d')) (V' : Arv Z h d' k' .byte z' vs' (.int 0)) (q : z.toNatClampNeg ≠ z'.toNatClampNeg) : a ≠ a' :=
  Fld.ne F F' fun e => by
    have e' := Value.ref.inj e
    subst e'
    obtain ⟨c, A, -, S, -⟩ := V
    obtain ⟨c', A', -, S', -⟩ := V'
    cases A.1.symm.trans A'.1
    exact q (S.symm.trans S')
theorem own_stat {Z U : State} {h : Heap} {C n d : String} {v : Value} (F : Sta Z h C n d v) (hU : Z.Warmed39 U.vm) (hh : U.heap = h) : StaticIs U C n d v := by
  obtain ⟨cf, i, k, f, st, cell, h1, h2, h3, h4, h5, h6, h7⟩ := F
  obtain ⟨k', hi, ek⟩ := State.fieldFound?_setVm (s := Z) hU.alike h1
  exact ⟨cf, i, k', f, st, cell, hi, h2, by rw [ek]; exact h3, by rw [ek]; exact h4, by rw [hh]; exact h5, (fun q => by rw [q] at h6; cases h6), h7⟩
/-! reading the premise -/
theorem own_eqv {Z : State} {args : Array Value} {t u : Term} {x : Addr} (h : (Jvm.Cond.eq t u).value args Z none Z [] = some true) (hu : u.eval args Z none [] Z = some (.ref x)) : t.eval args Z none [] Z = some (.ref x) := by
  cases ht : t.eval args Z none [] Z with
  | none => simp [Cond.value, ht, hu] at h
  | some w => cases w <;> simp [Cond.value, ht, hu] at h ⊢ <;> exact h
theorem own_eqi {Z : State} {args : Array Value} {t : Term} {k : Int32} (h : (Jvm.Cond.eq t (.int k)).value args Z none Z [] = some true) : t.eval args Z none [] Z = some (.int k) := Cond.eq_int (Cond.before_iff.mpr h) rfl
theorem own_str {Z : State} {args : Array Value} {t : Term} {x : Addr} (hf : Fit Z) (ev : t.eval args Z none [] Z = some (.ref x)) (c1 : (Jvm.Cond.exactly t STR).value args Z none Z [] = some true)
    (c2 : (Jvm.Cond.eq (.field t STR "coder" "B") (.int 0)).value args Z none Z [] = some true) (c3 : (Jvm.Cond.arrayOf (.field t STR "value" "[B") .byte).value args Z none Z [] = some true) {n : Int32} (c4 : (Jvm.Cond.eq (.length (.field t STR "value" "[B")) (.int n)).value args Z none Z [] = some true)
    (vs : List Int32) (hz : ¬ n < 0) (hl : n.toNatClampNeg = (vs.map Value.int).length)
    (HL : ∀ cl : Cell, (∀ (i : Nat) (j b : Int32), j.toNatClampNeg = i → ¬ j < 0 → (Jvm.Cond.eq (.elem (.field t STR "value" "[B") (.int j)) (.int b)).value args Z none Z [] = some true → cl.slots[i]? = some (.int b)) → HasL cl 0 (vs.map Value.int)) :
    ∃ (d : Addr) (k : ClassId), Exa Z Z.heap x STR ∧ Fld Z Z.heap x STR "coder" "B" (.int 0) ∧ Fld Z Z.heap x STR "value" "[B" (.ref d) ∧ Arv Z Z.heap d k .byte n (vs.map Value.int) (.int 0) := by
  obtain ⟨d, evd⟩ := arr_v c3
  obtain ⟨cl, A⟩ := Arr.start evd c3
  have ha : Z.arrayAt? d = some cl := IntBox.arrayAt_of A.1 A.2.1 A.2.2
  have hlen := own_eqi c4
  have h31 := SBG.length_lt evd ha hlen
  have e : cl.slots.size.toInt32 = n := Value.int.inj (Option.some.inj ((len_f evd ha h31).symm.trans hlen))
  refine ⟨d, _, Exa.start ev c1, Fld.start ((fld_at ev).symm.trans (own_eqi c2)), Fld.start ((fld_at ev).symm.trans evd), Arv.start hf A h31 e hz hl (HL cl fun i j b hj hn hc => ?_)⟩
  have q := own_eqi hc
  rw [elem_f evd rfl ha hn, hj] at q
  exact q

theorem pd_0 : parseMethodDescriptor "()Z" = some ⟨[], some .boolean⟩ := by decide +kernel
theorem pd_1 : parseMethodDescriptor "()Ljava/lang/String;" = some ⟨[], some (.object "java/lang/String")⟩ := by decide +kernel
theorem pd_2 : parseMethodDescriptor "(Ljava/lang/Object;)Z" = some ⟨[(.object "java/lang/Object")], some .boolean⟩ := by decide +kernel
theorem pd_3 : parseMethodDescriptor "([B[B)Z" = some ⟨[(.array .byte), (.array .byte)], some .boolean⟩ := by decide +kernel
theorem d2_0 : decode prog_4_method_8_code 0 = .ok (.aload_n 0, 1) := by decide +kernel
theorem d2_1 : decode prog_4_method_8_code 1 = .ok (.getstatic 10, 3) := by decide +kernel
theorem d2_4 : decode prog_4_method_8_code 4 = .ok (.if_acmp .eq 10, 3) := by decide +kernel
theorem d2_14 : decode prog_4_method_8_code 14 = .ok (.iconst 1, 1) := by decide +kernel
theorem d2_15 : decode prog_4_method_8_code 15 = .ok (.goto 4, 3) := by decide +kernel
theorem d2_19 : decode prog_4_method_8_code 19 = .ok (.ireturn, 1) := by decide +kernel
theorem pn_2 : plainName "com/example/replay/replay/api/EventType" = true := by first | (simp [plainName, overriddenIn]; done) | decide +kernel
theorem ef_2a (m : MethodId) (x0 : Addr) : entryFrame m #[(.ref x0)] 1 = mkF m 0 #[.val (.ref x0)] [] := by first | (simp [entryFrame, mkF, argsToLocals, Value.category]; done) | rfl
set_option maxRecDepth 65536 in
set_option maxHeartbeats 40000000 in
theorem rm2a (l : Launch) (Z : State) (a0 : Array Value) (hw : ∀ d ∈ tables_1, d.before a0 Z = true) (ws : List Jvm.Cond) (x0 y2 y3 : Addr) (h0 : Heap) (n0 : Nat) (hn0 : n0 ≤ h0.size) (S2 : Sta Z h0 "com/example/replay/replay/api/EventType" "ACTIVITY_COMPLETED" "Lcom/example/replay/replay/api/EventType;" (.ref y2)) (S3 : Sta Z h0 "com/example/replay/replay/api/EventType" "ACTIVITY_FAILED" "Lcom/example/replay/replay/api/EventType;" (.ref y3)) (q2 : x0 = y2) :
    MetFree l (⟨"com/example/replay/replay/api/EventType", "isActivityOutcome", "()Z"⟩ : MethodName) (head1 (Jvm.Cond.code (⟨"com/example/replay/replay/api/EventType", "isActivityOutcome", "()Z"⟩ : MethodName) prog_4_method_8_code 1 (some .boolean) :: ws) ({ frames := 0, cells := 0, slots := 0, locals := 0 } : Room)) (fun a U => a = #[(.ref x0)] ∧ Z.Warmed39 U.vm ∧ U.heap = h0) (fun _ _ _ _ _ => True) (fun _ U o U' => ∃ v L, o = .returned v ∧ QP (.int (1 : Int32)) h0 v U'.heap L ∧ FrameEnd U o U' L ({ frames := 0, cells := 0, slots := 0, locals := 0 } : Room).cells ({ frames := 0, cells := 0, slots := 0, locals := 0 } : Room).slots) := by
  refine MetFree.of_bodySF (plainFor_of_name pn_2) hisR ?_
  intro p e s m args below meth c s₁ Bd hml0 hP hK
  obtain ⟨rfl, hZ, hh⟩ := hP
  have hx := Bd.exec
  have hby := Bd.bytes
  have hml : c.maxLocals = 1 := hml0
  have hown : s.vm.findClass "com/example/replay/replay/api/EventType" = some m.cls := findClass_of_methodNamed Bd.named
  have hnm := (name_of_methodNamed Bd.named Bd.method).1
  have X0 : Stand p l e ({ frames := 0, cells := 0, slots := 0, locals := 0 } : Room) s m #[(.ref x0)] below meth c s₁ [] 0 0 := Stand.of_body Bd
  have e0 : s₁.heap = h0 := by rw [← hh, Bd.state]; rfl
  show Runs p e below s (QP (.int (1 : Int32)) h0) ({ frames := 0, cells := 0, slots := 0, locals := 0 } : Room).cells ({ frames := 0, cells := 0, slots := 0, locals := 0 } : Room).slots (s₁.setTop (entryFrame m #[(.ref x0)] 1))
  rw [ef_2a m x0]
  have k_0 : ∀ (T : State) (X : Stand p l e ({ frames := 0, cells := 0, slots := 0, locals := 0 } : Room) s m #[(.ref x0)] below meth c T [] 0 0) (eT : T.heap = h0) (N : Fr n0 []), Runs p e below s (QP (.int (1 : Int32)) h0) ({ frames := 0, cells := 0, slots := 0, locals := 0 } : Room).cells ({ frames := 0, cells := 0, slots := 0, locals := 0 } : Room).slots (T.setTop (mkF m 0 #[.val (.ref x0)] [])) := by
    intro T X eT N 
    refine Runs.go (fun _ => XS.aloadN X.here hx rfl (hb hby d2_0) rfl rfl) ?_
    show Runs p e below s _ _ _ (T.setTop (mkF m 1 #[.val (.ref x0)] [(.ref x0)]))
    obtain ⟨Tg1_1, Xg1_1, eg1_1, stg1_1⟩ := getS2 X hx hZ hown (host := "") (Or.inl (hw _ (List.mem_of_getElem? (i := 42) rfl))) Via.refl eT S2 (g := (mkF m 1 #[.val (.ref x0)] [(.ref x0)])) rfl (hb hby d2_1)
    refine Runs.go stg1_1 ?_
    show Runs p e below s _ _ _ (Tg1_1.setTop (mkF m 4 #[.val (.ref x0)] [(.ref y2), (.ref x0)]))
    refine Runs.go (fun _ => Jvm.RoadKit.acmp (g := (mkF m 4 #[.val (.ref x0)] [(.ref y2), (.ref x0)])) Xg1_1 hx rfl rfl rfl (pc0 := 4) (pc' := 14) (same := true) rfl (hb hby d2_4) rfl (decide_eq_true (congrArg Value.ref q2)) (by decide) (by decide)) ?_
    show Runs p e below s _ _ _ (Tg1_1.setTop (mkF m 14 #[.val (.ref x0)] []))
    refine Runs.go (fun _ => XS.iconst Xg1_1.here hx rfl (hb hby d2_14)) ?_
    show Runs p e below s _ _ _ (Tg1_1.setTop (mkF m 15 #[.val (.ref x0)] [(.int (1 : Int32))]))
    refine Runs.go (fun _ => XS.goto Xg1_1.here hx rfl (pc0 := 15) (pc' := 19) rfl (hb hby d2_15) (by decide) (by decide)) ?_
    show Runs p e below s _ _ _ (Tg1_1.setTop (mkF m 19 #[.val (.ref x0)] [(.int (1 : Int32))]))
    exact Runs.endN Xg1_1 hx (t := .boolean) Bd.returns (by simp) Bd.notSynchronized (hb hby d2_19) ⟨rfl, rfl, eg1_1⟩ (by decide) (by decide)
  exact k_0 _ X0 e0 (Fr.nil n0)
theorem d2_7 : decode prog_4_method_8_code 7 = .ok (.aload_n 0, 1) := by decide +kernel
theorem d2_8 : decode prog_4_method_8_code 8 = .ok (.getstatic 13, 3) := by decide +kernel
theorem d2_11 : decode prog_4_method_8_code 11 = .ok (.if_acmp .ne 7, 3) := by decide +kernel
theorem ef_2b (m : MethodId) (x0 : Addr) : entryFrame m #[(.ref x0)] 1 = mkF m 0 #[.val (.ref x0)] [] := by first | (simp [entryFrame, mkF, argsToLocals, Value.category]; done) | rfl
set_option maxRecDepth 65536 in
set_option maxHeartbeats 40000000 in
theorem rm2b (l : Launch) (Z : State) (a0 : Array Value) (hw : ∀ d ∈ tables_1, d.before a0 Z = true) (ws : List Jvm.Cond) (x0 y2 y3 : Addr) (h0 : Heap) (n0 : Nat) (hn0 : n0 ≤ h0.size) (S2 : Sta Z h0 "com/example/replay/replay/api/EventType" "ACTIVITY_COMPLETED" "Lcom/example/replay/replay/api/EventType;" (.ref y2)) (S3 : Sta Z h0 "com/example/replay/replay/api/EventType" "ACTIVITY_FAILED" "Lcom/example/replay/replay/api/EventType;" (.ref y3)) (n2 : x0 ≠ y2) (q3 : x0 = y3) :
    MetFree l (⟨"com/example/replay/replay/api/EventType", "isActivityOutcome", "()Z"⟩ : MethodName) (head1 (Jvm.Cond.code (⟨"com/example/replay/replay/api/EventType", "isActivityOutcome", "()Z"⟩ : MethodName) prog_4_method_8_code 1 (some .boolean) :: ws) ({ frames := 0, cells := 0, slots := 0, locals := 0 } : Room)) (fun a U => a = #[(.ref x0)] ∧ Z.Warmed39 U.vm ∧ U.heap = h0) (fun _ _ _ _ _ => True) (fun _ U o U' => ∃ v L, o = .returned v ∧ QP (.int (1 : Int32)) h0 v U'.heap L ∧ FrameEnd U o U' L ({ frames := 0, cells := 0, slots := 0, locals := 0 } : Room).cells ({ frames := 0, cells := 0, slots := 0, locals := 0 } : Room).slots) := by
  refine MetFree.of_bodySF (plainFor_of_name pn_2) hisR ?_
  intro p e s m args below meth c s₁ Bd hml0 hP hK
  obtain ⟨rfl, hZ, hh⟩ := hP
  have hx := Bd.exec
  have hby := Bd.bytes
  have hml : c.maxLocals = 1 := hml0
  have hown : s.vm.findClass "com/example/replay/replay/api/EventType" = some m.cls := findClass_of_methodNamed Bd.named
  have hnm := (name_of_methodNamed Bd.named Bd.method).1
  have X0 : Stand p l e ({ frames := 0, cells := 0, slots := 0, locals := 0 } : Room) s m #[(.ref x0)] below meth c s₁ [] 0 0 := Stand.of_body Bd
  have e0 : s₁.heap = h0 := by rw [← hh, Bd.state]; rfl
  show Runs p e below s (QP (.int (1 : Int32)) h0) ({ frames := 0, cells := 0, slots := 0, locals := 0 } : Room).cells ({ frames := 0, cells := 0, slots := 0, locals := 0 } : Room).slots (s₁.setTop (entryFrame m #[(.ref x0)] 1))
  rw [ef_2b m x0]
  have k_0 : ∀ (T : State) (X : Stand p l e ({ frames := 0, cells := 0, slots := 0, locals := 0 } : Room) s m #[(.ref x0)] below meth c T [] 0 0) (eT : T.heap = h0) (N : Fr n0 []), Runs p e below s (QP (.int (1 : Int32)) h0) ({ frames := 0, cells := 0, slots := 0, locals := 0 } : Room).cells ({ frames := 0, cells := 0, slots := 0, locals := 0 } : Room).slots (T.setTop (mkF m 0 #[.val (.ref x0)] [])) := by
    intro T X eT N 
    refine Runs.go (fun _ => XS.aloadN X.here hx rfl (hb hby d2_0) rfl rfl) ?_
    show Runs p e below s _ _ _ (T.setTop (mkF m 1 #[.val (.ref x0)] [(.ref x0)]))
    obtain ⟨Tg1_1, Xg1_1, eg1_1, stg1_1⟩ := getS2 X hx hZ hown (host := "") (Or.inl (hw _ (List.mem_of_getElem? (i := 42) rfl))) Via.refl eT S2 (g := (mkF m 1 #[.val (.ref x0)] [(.ref x0)])) rfl (hb hby d2_1)
    refine Runs.go stg1_1 ?_
    show Runs p e below s _ _ _ (Tg1_1.setTop (mkF m 4 #[.val (.ref x0)] [(.ref y2), (.ref x0)]))
    refine Runs.go (fun _ => Jvm.RoadKit.acmp (g := (mkF m 4 #[.val (.ref x0)] [(.ref y2), (.ref x0)])) Xg1_1 hx rfl rfl rfl (pc0 := 4) (pc' := 7) (same := false) rfl (hb hby d2_4) rfl (decide_eq_false fun q => n2 (Value.ref.inj q)) (by decide) (by decide)) ?_
    show Runs p e below s _ _ _ (Tg1_1.setTop (mkF m 7 #[.val (.ref x0)] []))
    refine Runs.go (fun _ => XS.aloadN Xg1_1.here hx rfl (hb hby d2_7) rfl rfl) ?_
    show Runs p e below s _ _ _ (Tg1_1.setTop (mkF m 8 #[.val (.ref x0)] [(.ref x0)]))
    obtain ⟨Tg8_2, Xg8_2, eg8_2, stg8_2⟩ := getS2 Xg1_1 hx hZ hown (host := "") (Or.inl (hw _ (List.mem_of_getElem? (i := 43) rfl))) Via.refl eg1_1 S3 (g := (mkF m 8 #[.val (.ref x0)] [(.ref x0)])) rfl (hb hby d2_8)
    refine Runs.go stg8_2 ?_
    show Runs p e below s _ _ _ (Tg8_2.setTop (mkF m 11 #[.val (.ref x0)] [(.ref y3), (.ref x0)]))
    refine Runs.go (fun _ => Jvm.RoadKit.acmp (g := (mkF m 11 #[.val (.ref x0)] [(.ref y3), (.ref x0)])) Xg8_2 hx rfl rfl rfl (pc0 := 11) (pc' := 14) (same := true) rfl (hb hby d2_11) rfl (decide_eq_true (congrArg Value.ref q3)) (by decide) (by decide)) ?_
    show Runs p e below s _ _ _ (Tg8_2.setTop (mkF m 14 #[.val (.ref x0)] []))
    refine Runs.go (fun _ => XS.iconst Xg8_2.here hx rfl (hb hby d2_14)) ?_
    show Runs p e below s _ _ _ (Tg8_2.setTop (mkF m 15 #[.val (.ref x0)] [(.int (1 : Int32))]))
    refine Runs.go (fun _ => XS.goto Xg8_2.here hx rfl (pc0 := 15) (pc' := 19) rfl (hb hby d2_15) (by decide) (by decide)) ?_
    show Runs p e below s _ _ _ (Tg8_2.setTop (mkF m 19 #[.val (.ref x0)] [(.int (1 : Int32))]))
    exact Runs.endN Xg8_2 hx (t := .boolean) Bd.returns (by simp) Bd.notSynchronized (hb hby d2_19) ⟨rfl, rfl, eg8_2⟩ (by decide) (by decide)
  exact k_0 _ X0 e0 (Fr.nil n0)
theorem d2_18 : decode prog_4_method_8_code 18 = .ok (.iconst 0, 1) := by decide +kernel
theorem ef_2c (m : MethodId) (x0 : Addr) : entryFrame m #[(.ref x0)] 1 = mkF m 0 #[.val (.ref x0)] [] := by first | (simp [entryFrame, mkF, argsToLocals, Value.category]; done) | rfl
set_option maxRecDepth 65536 in
set_option maxHeartbeats 40000000 in
theorem rm2c (l : Launch) (Z : State) (a0 : Array Value) (hw : ∀ d ∈ tables_1, d.before a0 Z = true) (ws : List Jvm.Cond) (x0 y2 y3 : Addr) (h0 : Heap) (n0 : Nat) (hn0 : n0 ≤ h0.size) (S2 : Sta Z h0 "com/example/replay/replay/api/EventType" "ACTIVITY_COMPLETED" "Lcom/example/replay/replay/api/EventType;" (.ref y2)) (S3 : Sta Z h0 "com/example/replay/replay/api/EventType" "ACTIVITY_FAILED" "Lcom/example/replay/replay/api/EventType;" (.ref y3)) (n2 : x0 ≠ y2) (n3 : x0 ≠ y3) :
    MetFree l (⟨"com/example/replay/replay/api/EventType", "isActivityOutcome", "()Z"⟩ : MethodName) (head1 (Jvm.Cond.code (⟨"com/example/replay/replay/api/EventType", "isActivityOutcome", "()Z"⟩ : MethodName) prog_4_method_8_code 1 (some .boolean) :: ws) ({ frames := 0, cells := 0, slots := 0, locals := 0 } : Room)) (fun a U => a = #[(.ref x0)] ∧ Z.Warmed39 U.vm ∧ U.heap = h0) (fun _ _ _ _ _ => True) (fun _ U o U' => ∃ v L, o = .returned v ∧ QP (.int (0 : Int32)) h0 v U'.heap L ∧ FrameEnd U o U' L ({ frames := 0, cells := 0, slots := 0, locals := 0 } : Room).cells ({ frames := 0, cells := 0, slots := 0, locals := 0 } : Room).slots) := by
  refine MetFree.of_bodySF (plainFor_of_name pn_2) hisR ?_
  intro p e s m args below meth c s₁ Bd hml0 hP hK
  obtain ⟨rfl, hZ, hh⟩ := hP
  have hx := Bd.exec
  have hby := Bd.bytes
  have hml : c.maxLocals = 1 := hml0
  have hown : s.vm.findClass "com/example/replay/replay/api/EventType" = some m.cls := findClass_of_methodNamed Bd.named
  have hnm := (name_of_methodNamed Bd.named Bd.method).1
  have X0 : Stand p l e ({ frames := 0, cells := 0, slots := 0, locals := 0 } : Room) s m #[(.ref x0)] below meth c s₁ [] 0 0 := Stand.of_body Bd
  have e0 : s₁.heap = h0 := by rw [← hh, Bd.state]; rfl
  show Runs p e below s (QP (.int (0 : Int32)) h0) ({ frames := 0, cells := 0, slots := 0, locals := 0 } : Room).cells ({ frames := 0, cells := 0, slots := 0, locals := 0 } : Room).slots (s₁.setTop (entryFrame m #[(.ref x0)] 1))
  rw [ef_2c m x0]
  have k_0 : ∀ (T : State) (X : Stand p l e ({ frames := 0, cells := 0, slots := 0, locals := 0 } : Room) s m #[(.ref x0)] below meth c T [] 0 0) (eT : T.heap = h0) (N : Fr n0 []), Runs p e below s (QP (.int (0 : Int32)) h0) ({ frames := 0, cells := 0, slots := 0, locals := 0 } : Room).cells ({ frames := 0, cells := 0, slots := 0, locals := 0 } : Room).slots (T.setTop (mkF m 0 #[.val (.ref x0)] [])) := by
    intro T X eT N 
    refine Runs.go (fun _ => XS.aloadN X.here hx rfl (hb hby d2_0) rfl rfl) ?_
    show Runs p e below s _ _ _ (T.setTop (mkF m 1 #[.val (.ref x0)] [(.ref x0)]))
    obtain ⟨Tg1_1, Xg1_1, eg1_1, stg1_1⟩ := getS2 X hx hZ hown (host := "") (Or.inl (hw _ (List.mem_of_getElem? (i := 42) rfl))) Via.refl eT S2 (g := (mkF m 1 #[.val (.ref x0)] [(.ref x0)])) rfl (hb hby d2_1)
    refine Runs.go stg1_1 ?_
    show Runs p e below s _ _ _ (Tg1_1.setTop (mkF m 4 #[.val (.ref x0)] [(.ref y2), (.ref x0)]))
    refine Runs.go (fun _ => Jvm.RoadKit.acmp (g := (mkF m 4 #[.val (.ref x0)] [(.ref y2), (.ref x0)])) Xg1_1 hx rfl rfl rfl (pc0 := 4) (pc' := 7) (same := false) rfl (hb hby d2_4) rfl (decide_eq_false fun q => n2 (Value.ref.inj q)) (by decide) (by decide)) ?_
    show Runs p e below s _ _ _ (Tg1_1.setTop (mkF m 7 #[.val (.ref x0)] []))
    refine Runs.go (fun _ => XS.aloadN Xg1_1.here hx rfl (hb hby d2_7) rfl rfl) ?_
    show Runs p e below s _ _ _ (Tg1_1.setTop (mkF m 8 #[.val (.ref x0)] [(.ref x0)]))
    obtain ⟨Tg8_2, Xg8_2, eg8_2, stg8_2⟩ := getS2 Xg1_1 hx hZ hown (host := "") (Or.inl (hw _ (List.mem_of_getElem? (i := 43) rfl))) Via.refl eg1_1 S3 (g := (mkF m 8 #[.val (.ref x0)] [(.ref x0)])) rfl (hb hby d2_8)
    refine Runs.go stg8_2 ?_
    show Runs p e below s _ _ _ (Tg8_2.setTop (mkF m 11 #[.val (.ref x0)] [(.ref y3), (.ref x0)]))
    refine Runs.go (fun _ => Jvm.RoadKit.acmp (g := (mkF m 11 #[.val (.ref x0)] [(.ref y3), (.ref x0)])) Xg8_2 hx rfl rfl rfl (pc0 := 11) (pc' := 18) (same := false) rfl (hb hby d2_11) rfl (decide_eq_false fun q => n3 (Value.ref.inj q)) (by decide) (by decide)) ?_
    show Runs p e below s _ _ _ (Tg8_2.setTop (mkF m 18 #[.val (.ref x0)] []))
    refine Runs.go (fun _ => XS.iconst Xg8_2.here hx rfl (hb hby d2_18)) ?_
    show Runs p e below s _ _ _ (Tg8_2.setTop (mkF m 19 #[.val (.ref x0)] [(.int (0 : Int32))]))
    exact Runs.endN Xg8_2 hx (t := .boolean) Bd.returns (by simp) Bd.notSynchronized (hb hby d2_19) ⟨rfl, rfl, eg8_2⟩ (by decide) (by decide)
  exact k_0 _ X0 e0 (Fr.nil n0)
theorem d1_0 : decode prog_4_method_7_code 0 = .ok (.aload_n 0, 1) := by decide +kernel
theorem d1_1 : decode prog_4_method_7_code 1 = .ok (.getstatic 7, 3) := by decide +kernel
theorem d1_4 : decode prog_4_method_7_code 4 = .ok (.if_acmp .eq 10, 3) := by decide +kernel
theorem d1_14 : decode prog_4_method_7_code 14 = .ok (.iconst 1, 1) := by decide +kernel
theorem d1_15 : decode prog_4_method_7_code 15 = .ok (.goto 4, 3) := by decide +kernel
theorem d1_19 : decode prog_4_method_7_code 19 = .ok (.ireturn, 1) := by decide +kernel
theorem pn_1 : plainName "com/example/replay/replay/api/EventType" = true := by first | (simp [plainName, overriddenIn]; done) | decide +kernel
theorem ef_1s (m : MethodId) (x0 : Addr) : entryFrame m #[(.ref x0)] 1 = mkF m 0 #[.val (.ref x0)] [] := by first | (simp [entryFrame, mkF, argsToLocals, Value.category]; done) | rfl
set_option maxRecDepth 65536 in
set_option maxHeartbeats 40000000 in
theorem rm1s (l : Launch) (Z : State) (a0 : Array Value) (hw : ∀ d ∈ tables_1, d.before a0 Z = true) (ws : List Jvm.Cond) (x0 y1 y2 y3 : Addr) (h0 : Heap) (n0 : Nat) (hn0 : n0 ≤ h0.size) (E0 : Exa Z h0 x0 "com/example/replay/replay/api/EventType") (S1 : Sta Z h0 "com/example/replay/replay/api/EventType" "ACTIVITY_SCHEDULED" "Lcom/example/replay/replay/api/EventType;" (.ref y1)) (S2 : Sta Z h0 "com/example/replay/replay/api/EventType" "ACTIVITY_COMPLETED" "Lcom/example/replay/replay/api/EventType;" (.ref y2)) (S3 : Sta Z h0 "com/example/replay/replay/api/EventType" "ACTIVITY_FAILED" "Lcom/example/replay/replay/api/EventType;" (.ref y3)) (q1 : x0 = y1) :
    MetFree l (⟨"com/example/replay/replay/api/EventType", "isActivityEvent", "()Z"⟩ : MethodName) (head1 (Jvm.Cond.code (⟨"com/example/replay/replay/api/EventType", "isActivityEvent", "()Z"⟩ : MethodName) prog_4_method_7_code 1 (some .boolean) :: ws) ({ frames := 1, cells := 0, slots := 0, locals := 12 } : Room)) (fun a U => a = #[(.ref x0)] ∧ Z.Warmed39 U.vm ∧ U.heap = h0) (fun _ _ _ _ _ => True) (fun _ U o U' => ∃ v L, o = .returned v ∧ QP (.int (1 : Int32)) h0 v U'.heap L ∧ FrameEnd U o U' L ({ frames := 1, cells := 0, slots := 0, locals := 12 } : Room).cells ({ frames := 1, cells := 0, slots := 0, locals := 12 } : Room).slots) := by
  refine MetFree.of_bodySF (plainFor_of_name pn_1) hisR ?_
  intro p e s m args below meth c s₁ Bd hml0 hP hK
  obtain ⟨rfl, hZ, hh⟩ := hP
  have hx := Bd.exec
  have hby := Bd.bytes
  have hml : c.maxLocals = 1 := hml0
  have hown : s.vm.findClass "com/example/replay/replay/api/EventType" = some m.cls := findClass_of_methodNamed Bd.named
  have hnm := (name_of_methodNamed Bd.named Bd.method).1
  have X0 : Stand p l e ({ frames := 1, cells := 0, slots := 0, locals := 12 } : Room) s m #[(.ref x0)] below meth c s₁ [] 0 0 := Stand.of_body Bd
  have e0 : s₁.heap = h0 := by rw [← hh, Bd.state]; rfl
  show Runs p e below s (QP (.int (1 : Int32)) h0) ({ frames := 1, cells := 0, slots := 0, locals := 12 } : Room).cells ({ frames := 1, cells := 0, slots := 0, locals := 12 } : Room).slots (s₁.setTop (entryFrame m #[(.ref x0)] 1))
  rw [ef_1s m x0]
  have k_0 : ∀ (T : State) (X : Stand p l e ({ frames := 1, cells := 0, slots := 0, locals := 12 } : Room) s m #[(.ref x0)] below meth c T [] 0 0) (eT : T.heap = h0) (N : Fr n0 []), Runs p e below s (QP (.int (1 : Int32)) h0) ({ frames := 1, cells := 0, slots := 0, locals := 12 } : Room).cells ({ frames := 1, cells := 0, slots := 0, locals := 12 } : Room).slots (T.setTop (mkF m 0 #[.val (.ref x0)] [])) := by
    intro T X eT N 
    refine Runs.go (fun _ => XS.aloadN X.here hx rfl (hb hby d1_0) rfl rfl) ?_
    show Runs p e below s _ _ _ (T.setTop (mkF m 1 #[.val (.ref x0)] [(.ref x0)]))
    obtain ⟨Tg1_1, Xg1_1, eg1_1, stg1_1⟩ := getS2 X hx hZ hown (host := "") (Or.inl (hw _ (List.mem_of_getElem? (i := 36) rfl))) Via.refl eT S1 (g := (mkF m 1 #[.val (.ref x0)] [(.ref x0)])) rfl (hb hby d1_1)
    refine Runs.go stg1_1 ?_
    show Runs p e below s _ _ _ (Tg1_1.setTop (mkF m 4 #[.val (.ref x0)] [(.ref y1), (.ref x0)]))
    refine Runs.go (fun _ => Jvm.RoadKit.acmp (g := (mkF m 4 #[.val (.ref x0)] [(.ref y1), (.ref x0)])) Xg1_1 hx rfl rfl rfl (pc0 := 4) (pc' := 14) (same := true) rfl (hb hby d1_4) rfl (decide_eq_true (congrArg Value.ref q1)) (by decide) (by decide)) ?_
    show Runs p e below s _ _ _ (Tg1_1.setTop (mkF m 14 #[.val (.ref x0)] []))
    refine Runs.go (fun _ => XS.iconst Xg1_1.here hx rfl (hb hby d1_14)) ?_
    show Runs p e below s _ _ _ (Tg1_1.setTop (mkF m 15 #[.val (.ref x0)] [(.int (1 : Int32))]))
    refine Runs.go (fun _ => XS.goto Xg1_1.here hx rfl (pc0 := 15) (pc' := 19) rfl (hb hby d1_15) (by decide) (by decide)) ?_
    show Runs p e below s _ _ _ (Tg1_1.setTop (mkF m 19 #[.val (.ref x0)] [(.int (1 : Int32))]))
    exact Runs.endN Xg1_1 hx (t := .boolean) Bd.returns (by simp) Bd.notSynchronized (hb hby d1_19) ⟨rfl, rfl, eg1_1⟩ (by decide) (by decide)
  exact k_0 _ X0 e0 (Fr.nil n0)
theorem d1_7 : decode prog_4_method_7_code 7 = .ok (.aload_n 0, 1) := by decide +kernel
theorem d1_8 : decode prog_4_method_7_code 8 = .ok (.invokevirtual 88, 3) := by decide +kernel
theorem d1_11 : decode prog_4_method_7_code 11 = .ok (.ifCond .eq 7, 3) := by decide +kernel
theorem ef_1a (m : MethodId) (x0 : Addr) : entryFrame m #[(.ref x0)] 1 = mkF m 0 #[.val (.ref x0)] [] := by first | (simp [entryFrame, mkF, argsToLocals, Value.category]; done) | rfl
set_option maxRecDepth 65536 in
set_option maxHeartbeats 40000000 in
theorem rm1a (l : Launch) (Z : State) (a0 : Array Value) (hw : ∀ d ∈ tables_1, d.before a0 Z = true) (ws : List Jvm.Cond) (x0 y1 y2 y3 : Addr) (h0 : Heap) (n0 : Nat) (hn0 : n0 ≤ h0.size) (E0 : Exa Z h0 x0 "com/example/replay/replay/api/EventType") (S1 : Sta Z h0 "com/example/replay/replay/api/EventType" "ACTIVITY_SCHEDULED" "Lcom/example/replay/replay/api/EventType;" (.ref y1)) (S2 : Sta Z h0 "com/example/replay/replay/api/EventType" "ACTIVITY_COMPLETED" "Lcom/example/replay/replay/api/EventType;" (.ref y2)) (S3 : Sta Z h0 "com/example/replay/replay/api/EventType" "ACTIVITY_FAILED" "Lcom/example/replay/replay/api/EventType;" (.ref y3)) (n1 : x0 ≠ y1) (q2 : x0 = y2) :
    MetFree l (⟨"com/example/replay/replay/api/EventType", "isActivityEvent", "()Z"⟩ : MethodName) (head1 (Jvm.Cond.code (⟨"com/example/replay/replay/api/EventType", "isActivityEvent", "()Z"⟩ : MethodName) prog_4_method_7_code 1 (some .boolean) :: ws) ({ frames := 1, cells := 0, slots := 0, locals := 12 } : Room)) (fun a U => a = #[(.ref x0)] ∧ Z.Warmed39 U.vm ∧ U.heap = h0) (fun _ _ _ _ _ => True) (fun _ U o U' => ∃ v L, o = .returned v ∧ QP (.int (1 : Int32)) h0 v U'.heap L ∧ FrameEnd U o U' L ({ frames := 1, cells := 0, slots := 0, locals := 12 } : Room).cells ({ frames := 1, cells := 0, slots := 0, locals := 12 } : Room).slots) := by
  refine MetFree.of_bodySF (plainFor_of_name pn_1) hisR ?_
  intro p e s m args below meth c s₁ Bd hml0 hP hK
  obtain ⟨rfl, hZ, hh⟩ := hP
  have hx := Bd.exec
  have hby := Bd.bytes
  have hml : c.maxLocals = 1 := hml0
  have hown : s.vm.findClass "com/example/replay/replay/api/EventType" = some m.cls := findClass_of_methodNamed Bd.named
  have hnm := (name_of_methodNamed Bd.named Bd.method).1
  have X0 : Stand p l e ({ frames := 1, cells := 0, slots := 0, locals := 12 } : Room) s m #[(.ref x0)] below meth c s₁ [] 0 0 := Stand.of_body Bd
  have e0 : s₁.heap = h0 := by rw [← hh, Bd.state]; rfl
  show Runs p e below s (QP (.int (1 : Int32)) h0) ({ frames := 1, cells := 0, slots := 0, locals := 12 } : Room).cells ({ frames := 1, cells := 0, slots := 0, locals := 12 } : Room).slots (s₁.setTop (entryFrame m #[(.ref x0)] 1))
  rw [ef_1a m x0]
  have k_0 : ∀ (T : State) (X : Stand p l e ({ frames := 1, cells := 0, slots := 0, locals := 12 } : Room) s m #[(.ref x0)] below meth c T [] 0 0) (eT : T.heap = h0) (N : Fr n0 []), Runs p e below s (QP (.int (1 : Int32)) h0) ({ frames := 1, cells := 0, slots := 0, locals := 12 } : Room).cells ({ frames := 1, cells := 0, slots := 0, locals := 12 } : Room).slots (T.setTop (mkF m 0 #[.val (.ref x0)] [])) := by
    intro T X eT N 
    refine Runs.go (fun _ => XS.aloadN X.here hx rfl (hb hby d1_0) rfl rfl) ?_
    show Runs p e below s _ _ _ (T.setTop (mkF m 1 #[.val (.ref x0)] [(.ref x0)]))
    obtain ⟨Tg1_1, Xg1_1, eg1_1, stg1_1⟩ := getS2 X hx hZ hown (host := "") (Or.inl (hw _ (List.mem_of_getElem? (i := 36) rfl))) Via.refl eT S1 (g := (mkF m 1 #[.val (.ref x0)] [(.ref x0)])) rfl (hb hby d1_1)
    refine Runs.go stg1_1 ?_
    show Runs p e below s _ _ _ (Tg1_1.setTop (mkF m 4 #[.val (.ref x0)] [(.ref y1), (.ref x0)]))
    refine Runs.go (fun _ => Jvm.RoadKit.acmp (g := (mkF m 4 #[.val (.ref x0)] [(.ref y1), (.ref x0)])) Xg1_1 hx rfl rfl rfl (pc0 := 4) (pc' := 7) (same := false) rfl (hb hby d1_4) rfl (decide_eq_false fun q => n1 (Value.ref.inj q)) (by decide) (by decide)) ?_
    show Runs p e below s _ _ _ (Tg1_1.setTop (mkF m 7 #[.val (.ref x0)] []))
    refine Runs.go (fun _ => XS.aloadN Xg1_1.here hx rfl (hb hby d1_7) rfl rfl) ?_
    show Runs p e below s _ _ _ (Tg1_1.setTop (mkF m 8 #[.val (.ref x0)] [(.ref x0)]))
    obtain ⟨cqc8_2, kqc8_2, qc8_2a, qc8_2b, qc8_2c⟩ := isOf hZ eg1_1 E0
    obtain ⟨_, _, ⟨Tc8_2, Lc8_2, kc8_2, nc8_2⟩, -, Xc8_2, ⟨Lcc8_2, hQc8_2, lc8_2, yc8_2, zc8_2⟩, stc8_2⟩ := Xg1_1.virtualBack hx (y := (⟨"com/example/replay/replay/api/EventType", "isActivityOutcome", "()Z"⟩ : MethodName)) (z := (⟨"com/example/replay/replay/api/EventType", "isActivityOutcome", "()Z"⟩ : MethodName)) hown (mvT hZ (hw _ (List.mem_of_getElem? (i := 37) rfl))) (mvT hZ (hw _ (List.mem_of_getElem? (i := 38) rfl))) (notFace_of_selects (args := #[]) (mvT hZ (hw _ (List.mem_of_getElem? (i := 40) rfl)))) (mvT hZ (hw _ (List.mem_of_getElem? (i := 40) rfl))) (mvT hZ (hw _ (List.mem_of_getElem? (i := 39) rfl))) (by decide) (backOf (W := 0) (rm2a l Z a0 hw [] x0 y2 y3 h0 n0 hn0 S2 S3 q2) hZ (hw _ (List.mem_of_getElem? (i := 41) rfl)) (hw _ (List.mem_of_getElem? (i := 3) rfl)) (by decide) (by decide)) qc8_2a qc8_2c (g := (mkF m 8 #[.val (.ref x0)] [(.ref x0)])) rfl (by rw [hml]; rfl) (Steps.refl _) (argsL := []) (rest := []) (lenOf pd_0 rfl) rfl (by show 2 * 0 + _ ≤ _; exact Nat.le_of_eq rfl) (hb hby d1_8) (fun _ _ => ⟨rfl, eg1_1, (by decide : 0 + 0 ≤ _), (by decide : 0 + 0 ≤ _)⟩)
    dsimp only [Pt.U, Pt.locs, Pt.cells, Pt.slots] at Xc8_2 lc8_2 yc8_2 zc8_2 stc8_2 hQc8_2
    subst lc8_2 yc8_2 zc8_2
    obtain ⟨rfl, rfl, ec8_2⟩ := hQc8_2
    refine Runs.go (fun _ => stc8_2.trans) ?_
    have Nc8_2 := Fr.app N (Fr.nil n0)
    show Runs p e below s _ _ _ (Tc8_2.setTop (mkF m 11 #[.val (.ref x0)] [(.int (1 : Int32))]))
    refine Runs.go (fun _ => XS.ifNo Xc8_2.here hx rfl (hb hby d1_11) rfl ((if0 _ _).trans (feq ((by decide) : ¬ ((1 : Int32) = (0 : Int32)))).1)) ?_
    show Runs p e below s _ _ _ (Tc8_2.setTop (mkF m 14 #[.val (.ref x0)] []))
    refine Runs.go (fun _ => XS.iconst Xc8_2.here hx rfl (hb hby d1_14)) ?_
    show Runs p e below s _ _ _ (Tc8_2.setTop (mkF m 15 #[.val (.ref x0)] [(.int (1 : Int32))]))
    refine Runs.go (fun _ => XS.goto Xc8_2.here hx rfl (pc0 := 15) (pc' := 19) rfl (hb hby d1_15) (by decide) (by decide)) ?_
    show Runs p e below s _ _ _ (Tc8_2.setTop (mkF m 19 #[.val (.ref x0)] [(.int (1 : Int32))]))
    exact Runs.endN Xc8_2 hx (t := .boolean) Bd.returns (by simp) Bd.notSynchronized (hb hby d1_19) ⟨rfl, rfl, ec8_2⟩ (by decide) (by decide)
  exact k_0 _ X0 e0 (Fr.nil n0)
theorem ef_1b (m : MethodId) (x0 : Addr) : entryFrame m #[(.ref x0)] 1 = mkF m 0 #[.val (.ref x0)] [] := by first | (simp [entryFrame, mkF, argsToLocals, Value.category]; done) | rfl
set_option maxRecDepth 65536 in
set_option maxHeartbeats 40000000 in
theorem rm1b (l : Launch) (Z : State) (a0 : Array Value) (hw : ∀ d ∈ tables_1, d.before a0 Z = true) (ws : List Jvm.Cond) (x0 y1 y2 y3 : Addr) (h0 : Heap) (n0 : Nat) (hn0 : n0 ≤ h0.size) (E0 : Exa Z h0 x0 "com/example/replay/replay/api/EventType") (S1 : Sta Z h0 "com/example/replay/replay/api/EventType" "ACTIVITY_SCHEDULED" "Lcom/example/replay/replay/api/EventType;" (.ref y1)) (S2 : Sta Z h0 "com/example/replay/replay/api/EventType" "ACTIVITY_COMPLETED" "Lcom/example/replay/replay/api/EventType;" (.ref y2)) (S3 : Sta Z h0 "com/example/replay/replay/api/EventType" "ACTIVITY_FAILED" "Lcom/example/replay/replay/api/EventType;" (.ref y3)) (n1 : x0 ≠ y1) (n2 : x0 ≠ y2) (q3 : x0 = y3) :
    MetFree l (⟨"com/example/replay/replay/api/EventType", "isActivityEvent", "()Z"⟩ : MethodName) (head1 (Jvm.Cond.code (⟨"com/example/replay/replay/api/EventType", "isActivityEvent", "()Z"⟩ : MethodName) prog_4_method_7_code 1 (some .boolean) :: ws) ({ frames := 1, cells := 0, slots := 0, locals := 12 } : Room)) (fun a U => a = #[(.ref x0)] ∧ Z.Warmed39 U.vm ∧ U.heap = h0) (fun _ _ _ _ _ => True) (fun _ U o U' => ∃ v L, o = .returned v ∧ QP (.int (1 : Int32)) h0 v U'.heap L ∧ FrameEnd U o U' L ({ frames := 1, cells := 0, slots := 0, locals := 12 } : Room).cells ({ frames := 1, cells := 0, slots := 0, locals := 12 } : Room).slots) := by
  refine MetFree.of_bodySF (plainFor_of_name pn_1) hisR ?_
  intro p e s m args below meth c s₁ Bd hml0 hP hK
  obtain ⟨rfl, hZ, hh⟩ := hP
  have hx := Bd.exec
  have hby := Bd.bytes
  have hml : c.maxLocals = 1 := hml0
  have hown : s.vm.findClass "com/example/replay/replay/api/EventType" = some m.cls := findClass_of_methodNamed Bd.named
  have hnm := (name_of_methodNamed Bd.named Bd.method).1
  have X0 : Stand p l e ({ frames := 1, cells := 0, slots := 0, locals := 12 } : Room) s m #[(.ref x0)] below meth c s₁ [] 0 0 := Stand.of_body Bd
  have e0 : s₁.heap = h0 := by rw [← hh, Bd.state]; rfl
  show Runs p e below s (QP (.int (1 : Int32)) h0) ({ frames := 1, cells := 0, slots := 0, locals := 12 } : Room).cells ({ frames := 1, cells := 0, slots := 0, locals := 12 } : Room).slots (s₁.setTop (entryFrame m #[(.ref x0)] 1))
  rw [ef_1b m x0]
  have k_0 : ∀ (T : State) (X : Stand p l e ({ frames := 1, cells := 0, slots := 0, locals := 12 } : Room) s m #[(.ref x0)] below meth c T [] 0 0) (eT : T.heap = h0) (N : Fr n0 []), Runs p e below s (QP (.int (1 : Int32)) h0) ({ frames := 1, cells := 0, slots := 0, locals := 12 } : Room).cells ({ frames := 1, cells := 0, slots := 0, locals := 12 } : Room).slots (T.setTop (mkF m 0 #[.val (.ref x0)] [])) := by
    intro T X eT N 
    refine Runs.go (fun _ => XS.aloadN X.here hx rfl (hb hby d1_0) rfl rfl) ?_
    show Runs p e below s _ _ _ (T.setTop (mkF m 1 #[.val (.ref x0)] [(.ref x0)]))
    obtain ⟨Tg1_1, Xg1_1, eg1_1, stg1_1⟩ := getS2 X hx hZ hown (host := "") (Or.inl (hw _ (List.mem_of_getElem? (i := 36) rfl))) Via.refl eT S1 (g := (mkF m 1 #[.val (.ref x0)] [(.ref x0)])) rfl (hb hby d1_1)
    refine Runs.go stg1_1 ?_
    show Runs p e below s _ _ _ (Tg1_1.setTop (mkF m 4 #[.val (.ref x0)] [(.ref y1), (.ref x0)]))
    refine Runs.go (fun _ => Jvm.RoadKit.acmp (g := (mkF m 4 #[.val (.ref x0)] [(.ref y1), (.ref x0)])) Xg1_1 hx rfl rfl rfl (pc0 := 4) (pc' := 7) (same := false) rfl (hb hby d1_4) rfl (decide_eq_false fun q => n1 (Value.ref.inj q)) (by decide) (by decide)) ?_
    show Runs p e below s _ _ _ (Tg1_1.setTop (mkF m 7 #[.val (.ref x0)] []))
    refine Runs.go (fun _ => XS.aloadN Xg1_1.here hx rfl (hb hby d1_7) rfl rfl) ?_
    show Runs p e below s _ _ _ (Tg1_1.setTop (mkF m 8 #[.val (.ref x0)] [(.ref x0)]))
    obtain ⟨cqc8_2, kqc8_2, qc8_2a, qc8_2b, qc8_2c⟩ := isOf hZ eg1_1 E0
    obtain ⟨_, _, ⟨Tc8_2, Lc8_2, kc8_2, nc8_2⟩, -, Xc8_2, ⟨Lcc8_2, hQc8_2, lc8_2, yc8_2, zc8_2⟩, stc8_2⟩ := Xg1_1.virtualBack hx (y := (⟨"com/example/replay/replay/api/EventType", "isActivityOutcome", "()Z"⟩ : MethodName)) (z := (⟨"com/example/replay/replay/api/EventType", "isActivityOutcome", "()Z"⟩ : MethodName)) hown (mvT hZ (hw _ (List.mem_of_getElem? (i := 37) rfl))) (mvT hZ (hw _ (List.mem_of_getElem? (i := 38) rfl))) (notFace_of_selects (args := #[]) (mvT hZ (hw _ (List.mem_of_getElem? (i := 40) rfl)))) (mvT hZ (hw _ (List.mem_of_getElem? (i := 40) rfl))) (mvT hZ (hw _ (List.mem_of_getElem? (i := 39) rfl))) (by decide) (backOf (W := 0) (rm2b l Z a0 hw [] x0 y2 y3 h0 n0 hn0 S2 S3 n2 q3) hZ (hw _ (List.mem_of_getElem? (i := 41) rfl)) (hw _ (List.mem_of_getElem? (i := 3) rfl)) (by decide) (by decide)) qc8_2a qc8_2c (g := (mkF m 8 #[.val (.ref x0)] [(.ref x0)])) rfl (by rw [hml]; rfl) (Steps.refl _) (argsL := []) (rest := []) (lenOf pd_0 rfl) rfl (by show 2 * 0 + _ ≤ _; exact Nat.le_of_eq rfl) (hb hby d1_8) (fun _ _ => ⟨rfl, eg1_1, (by decide : 0 + 0 ≤ _), (by decide : 0 + 0 ≤ _)⟩)
    dsimp only [Pt.U, Pt.locs, Pt.cells, Pt.slots] at Xc8_2 lc8_2 yc8_2 zc8_2 stc8_2 hQc8_2
    subst lc8_2 yc8_2 zc8_2
    obtain ⟨rfl, rfl, ec8_2⟩ := hQc8_2
    refine Runs.go (fun _ => stc8_2.trans) ?_
    have Nc8_2 := Fr.app N (Fr.nil n0)
    show Runs p e below s _ _ _ (Tc8_2.setTop (mkF m 11 #[.val (.ref x0)] [(.int (1 : Int32))]))
    refine Runs.go (fun _ => XS.ifNo Xc8_2.here hx rfl (hb hby d1_11) rfl ((if0 _ _).trans (feq ((by decide) : ¬ ((1 : Int32) = (0 : Int32)))).1)) ?_
    show Runs p e below s _ _ _ (Tc8_2.setTop (mkF m 14 #[.val (.ref x0)] []))
    refine Runs.go (fun _ => XS.iconst Xc8_2.here hx rfl (hb hby d1_14)) ?_
    show Runs p e below s _ _ _ (Tc8_2.setTop (mkF m 15 #[.val (.ref x0)] [(.int (1 : Int32))]))
    refine Runs.go (fun _ => XS.goto Xc8_2.here hx rfl (pc0 := 15) (pc' := 19) rfl (hb hby d1_15) (by decide) (by decide)) ?_
    show Runs p e below s _ _ _ (Tc8_2.setTop (mkF m 19 #[.val (.ref x0)] [(.int (1 : Int32))]))
    exact Runs.endN Xc8_2 hx (t := .boolean) Bd.returns (by simp) Bd.notSynchronized (hb hby d1_19) ⟨rfl, rfl, ec8_2⟩ (by decide) (by decide)
  exact k_0 _ X0 e0 (Fr.nil n0)
theorem d1_18 : decode prog_4_method_7_code 18 = .ok (.iconst 0, 1) := by decide +kernel
theorem ef_1c (m : MethodId) (x0 : Addr) : entryFrame m #[(.ref x0)] 1 = mkF m 0 #[.val (.ref x0)] [] := by first | (simp [entryFrame, mkF, argsToLocals, Value.category]; done) | rfl
set_option maxRecDepth 65536 in
set_option maxHeartbeats 40000000 in
theorem rm1c (l : Launch) (Z : State) (a0 : Array Value) (hw : ∀ d ∈ tables_1, d.before a0 Z = true) (ws : List Jvm.Cond) (x0 y1 y2 y3 : Addr) (h0 : Heap) (n0 : Nat) (hn0 : n0 ≤ h0.size) (E0 : Exa Z h0 x0 "com/example/replay/replay/api/EventType") (S1 : Sta Z h0 "com/example/replay/replay/api/EventType" "ACTIVITY_SCHEDULED" "Lcom/example/replay/replay/api/EventType;" (.ref y1)) (S2 : Sta Z h0 "com/example/replay/replay/api/EventType" "ACTIVITY_COMPLETED" "Lcom/example/replay/replay/api/EventType;" (.ref y2)) (S3 : Sta Z h0 "com/example/replay/replay/api/EventType" "ACTIVITY_FAILED" "Lcom/example/replay/replay/api/EventType;" (.ref y3)) (n1 : x0 ≠ y1) (n2 : x0 ≠ y2) (n3 : x0 ≠ y3) :
    MetFree l (⟨"com/example/replay/replay/api/EventType", "isActivityEvent", "()Z"⟩ : MethodName) (head1 (Jvm.Cond.code (⟨"com/example/replay/replay/api/EventType", "isActivityEvent", "()Z"⟩ : MethodName) prog_4_method_7_code 1 (some .boolean) :: ws) ({ frames := 1, cells := 0, slots := 0, locals := 12 } : Room)) (fun a U => a = #[(.ref x0)] ∧ Z.Warmed39 U.vm ∧ U.heap = h0) (fun _ _ _ _ _ => True) (fun _ U o U' => ∃ v L, o = .returned v ∧ QP (.int (0 : Int32)) h0 v U'.heap L ∧ FrameEnd U o U' L ({ frames := 1, cells := 0, slots := 0, locals := 12 } : Room).cells ({ frames := 1, cells := 0, slots := 0, locals := 12 } : Room).slots) := by
  refine MetFree.of_bodySF (plainFor_of_name pn_1) hisR ?_
  intro p e s m args below meth c s₁ Bd hml0 hP hK
  obtain ⟨rfl, hZ, hh⟩ := hP
  have hx := Bd.exec
  have hby := Bd.bytes
  have hml : c.maxLocals = 1 := hml0
  have hown : s.vm.findClass "com/example/replay/replay/api/EventType" = some m.cls := findClass_of_methodNamed Bd.named
  have hnm := (name_of_methodNamed Bd.named Bd.method).1
  have X0 : Stand p l e ({ frames := 1, cells := 0, slots := 0, locals := 12 } : Room) s m #[(.ref x0)] below meth c s₁ [] 0 0 := Stand.of_body Bd
  have e0 : s₁.heap = h0 := by rw [← hh, Bd.state]; rfl
  show Runs p e below s (QP (.int (0 : Int32)) h0) ({ frames := 1, cells := 0, slots := 0, locals := 12 } : Room).cells ({ frames := 1, cells := 0, slots := 0, locals := 12 } : Room).slots (s₁.setTop (entryFrame m #[(.ref x0)] 1))
  rw [ef_1c m x0]
  have k_0 : ∀ (T : State) (X : Stand p l e ({ frames := 1, cells := 0, slots := 0, locals := 12 } : Room) s m #[(.ref x0)] below meth c T [] 0 0) (eT : T.heap = h0) (N : Fr n0 []), Runs p e below s (QP (.int (0 : Int32)) h0) ({ frames := 1, cells := 0, slots := 0, locals := 12 } : Room).cells ({ frames := 1, cells := 0, slots := 0, locals := 12 } : Room).slots (T.setTop (mkF m 0 #[.val (.ref x0)] [])) := by
    intro T X eT N 
    refine Runs.go (fun _ => XS.aloadN X.here hx rfl (hb hby d1_0) rfl rfl) ?_
    show Runs p e below s _ _ _ (T.setTop (mkF m 1 #[.val (.ref x0)] [(.ref x0)]))
    obtain ⟨Tg1_1, Xg1_1, eg1_1, stg1_1⟩ := getS2 X hx hZ hown (host := "") (Or.inl (hw _ (List.mem_of_getElem? (i := 36) rfl))) Via.refl eT S1 (g := (mkF m 1 #[.val (.ref x0)] [(.ref x0)])) rfl (hb hby d1_1)
    refine Runs.go stg1_1 ?_
    show Runs p e below s _ _ _ (Tg1_1.setTop (mkF m 4 #[.val (.ref x0)] [(.ref y1), (.ref x0)]))
    refine Runs.go (fun _ => Jvm.RoadKit.acmp (g := (mkF m 4 #[.val (.ref x0)] [(.ref y1), (.ref x0)])) Xg1_1 hx rfl rfl rfl (pc0 := 4) (pc' := 7) (same := false) rfl (hb hby d1_4) rfl (decide_eq_false fun q => n1 (Value.ref.inj q)) (by decide) (by decide)) ?_
    show Runs p e below s _ _ _ (Tg1_1.setTop (mkF m 7 #[.val (.ref x0)] []))
    refine Runs.go (fun _ => XS.aloadN Xg1_1.here hx rfl (hb hby d1_7) rfl rfl) ?_
    show Runs p e below s _ _ _ (Tg1_1.setTop (mkF m 8 #[.val (.ref x0)] [(.ref x0)]))
    obtain ⟨cqc8_2, kqc8_2, qc8_2a, qc8_2b, qc8_2c⟩ := isOf hZ eg1_1 E0
    obtain ⟨_, _, ⟨Tc8_2, Lc8_2, kc8_2, nc8_2⟩, -, Xc8_2, ⟨Lcc8_2, hQc8_2, lc8_2, yc8_2, zc8_2⟩, stc8_2⟩ := Xg1_1.virtualBack hx (y := (⟨"com/example/replay/replay/api/EventType", "isActivityOutcome", "()Z"⟩ : MethodName)) (z := (⟨"com/example/replay/replay/api/EventType", "isActivityOutcome", "()Z"⟩ : MethodName)) hown (mvT hZ (hw _ (List.mem_of_getElem? (i := 37) rfl))) (mvT hZ (hw _ (List.mem_of_getElem? (i := 38) rfl))) (notFace_of_selects (args := #[]) (mvT hZ (hw _ (List.mem_of_getElem? (i := 40) rfl)))) (mvT hZ (hw _ (List.mem_of_getElem? (i := 40) rfl))) (mvT hZ (hw _ (List.mem_of_getElem? (i := 39) rfl))) (by decide) (backOf (W := 0) (rm2c l Z a0 hw [] x0 y2 y3 h0 n0 hn0 S2 S3 n2 n3) hZ (hw _ (List.mem_of_getElem? (i := 41) rfl)) (hw _ (List.mem_of_getElem? (i := 3) rfl)) (by decide) (by decide)) qc8_2a qc8_2c (g := (mkF m 8 #[.val (.ref x0)] [(.ref x0)])) rfl (by rw [hml]; rfl) (Steps.refl _) (argsL := []) (rest := []) (lenOf pd_0 rfl) rfl (by show 2 * 0 + _ ≤ _; exact Nat.le_of_eq rfl) (hb hby d1_8) (fun _ _ => ⟨rfl, eg1_1, (by decide : 0 + 0 ≤ _), (by decide : 0 + 0 ≤ _)⟩)
    dsimp only [Pt.U, Pt.locs, Pt.cells, Pt.slots] at Xc8_2 lc8_2 yc8_2 zc8_2 stc8_2 hQc8_2
    subst lc8_2 yc8_2 zc8_2
    obtain ⟨rfl, rfl, ec8_2⟩ := hQc8_2
    refine Runs.go (fun _ => stc8_2.trans) ?_
    have Nc8_2 := Fr.app N (Fr.nil n0)
    show Runs p e below s _ _ _ (Tc8_2.setTop (mkF m 11 #[.val (.ref x0)] [(.int (0 : Int32))]))
    refine Runs.go (fun _ => XS.ifYes Xc8_2.here hx rfl (pc0 := 11) (pc' := 18) rfl (hb hby d1_11) rfl ((if0 _ _).trans (teq (rfl : (0 : Int32) = (0 : Int32))).1) (by decide) (by decide)) ?_
    show Runs p e below s _ _ _ (Tc8_2.setTop (mkF m 18 #[.val (.ref x0)] []))
    refine Runs.go (fun _ => XS.iconst Xc8_2.here hx rfl (hb hby d1_18)) ?_
    show Runs p e below s _ _ _ (Tc8_2.setTop (mkF m 19 #[.val (.ref x0)] [(.int (0 : Int32))]))
    exact Runs.endN Xc8_2 hx (t := .boolean) Bd.returns (by simp) Bd.notSynchronized (hb hby d1_19) ⟨rfl, rfl, ec8_2⟩ (by decide) (by decide)
  exact k_0 _ X0 e0 (Fr.nil n0)
theorem d3_0 : decode prog_4_method_5_code 0 = .ok (.aload_n 0, 1) := by decide +kernel
theorem d3_1 : decode prog_4_method_5_code 1 = .ok (.getfield 66, 3) := by decide +kernel
theorem d3_4 : decode prog_4_method_5_code 4 = .ok (.areturn, 1) := by decide +kernel
theorem pn_3 : plainName "com/example/replay/replay/api/EventType" = true := by first | (simp [plainName, overriddenIn]; done) | decide +kernel
theorem ef_3 (m : MethodId) (x0 : Addr) : entryFrame m #[(.ref x0)] 1 = mkF m 0 #[.val (.ref x0)] [] := by first | (simp [entryFrame, mkF, argsToLocals, Value.category]; done) | rfl
set_option maxRecDepth 65536 in
theorem rm3 (l : Launch) (Z : State) (a0 : Array Value) (hw : ∀ d ∈ tables_1, d.before a0 Z = true) (ws : List Jvm.Cond) (x0 : Addr) (w : Value) (h0 : Heap) (n0 : Nat) (hn0 : n0 ≤ h0.size) (F : Fld Z h0 x0 "com/example/replay/replay/api/EventType" "subject" "Ljava/lang/String;" w) (hr : w.isRef = true) :
    MetFree l (⟨"com/example/replay/replay/api/EventType", "subject", "()Ljava/lang/String;"⟩ : MethodName) (head1 (Jvm.Cond.code (⟨"com/example/replay/replay/api/EventType", "subject", "()Ljava/lang/String;"⟩ : MethodName) prog_4_method_5_code 1 (some (.object "java/lang/String")) :: ws) ({ frames := 0, cells := 0, slots := 0, locals := 0 } : Room)) (fun a U => a = #[(.ref x0)] ∧ Z.Warmed39 U.vm ∧ U.heap = h0) (fun _ _ _ _ _ => True) (fun _ U o U' => ∃ v L, o = .returned v ∧ QP w h0 v U'.heap L ∧ FrameEnd U o U' L ({ frames := 0, cells := 0, slots := 0, locals := 0 } : Room).cells ({ frames := 0, cells := 0, slots := 0, locals := 0 } : Room).slots) := by
  refine MetFree.of_bodySF (plainFor_of_name pn_3) hisR ?_
  intro p e s m args below meth c s₁ Bd hml0 hP hK
  obtain ⟨rfl, hZ, hh⟩ := hP
  have hx := Bd.exec
  have hby := Bd.bytes
  have hown : s.vm.findClass "com/example/replay/replay/api/EventType" = some m.cls := findClass_of_methodNamed Bd.named
  have X0 : Stand p l e ({ frames := 0, cells := 0, slots := 0, locals := 0 } : Room) s m #[(.ref x0)] below meth c s₁ [] 0 0 := Stand.of_body Bd
  have e0 : s₁.heap = h0 := by rw [← hh, Bd.state]; rfl
  show Runs p e below s (QP w h0) ({ frames := 0, cells := 0, slots := 0, locals := 0 } : Room).cells ({ frames := 0, cells := 0, slots := 0, locals := 0 } : Room).slots (s₁.setTop (entryFrame m #[(.ref x0)] 1))
  rw [ef_3 m x0]
  refine Runs.go (fun _ => XS.aloadN X0.here hx rfl (hb hby d3_0) rfl rfl) ?_
  show Runs p e below s _ _ _ (s₁.setTop (mkF m 1 #[.val (.ref x0)] [(.ref x0)]))
  obtain ⟨T1, X1, e1, st1⟩ := getF X0 hx hZ hown (host := "") (Or.inl (hw _ (List.mem_of_getElem? (i := 57) rfl))) Via.refl e0 F (g := (mkF m 1 #[.val (.ref x0)] [(.ref x0)])) rfl rfl (hb hby d3_1)
  refine Runs.go st1 ?_
  show Runs p e below s _ _ _ (T1.setTop (mkF m 4 #[.val (.ref x0)] [w]))
  exact Runs.endW X1 hx Bd.returns rfl hr Bd.notSynchronized (hb hby d3_4) ⟨rfl, rfl, e1⟩ (by decide) (by decide)
theorem own_se (l : Launch) (Z : State) (a0 : Array Value) (hw : ∀ d ∈ tables_1, d.before a0 Z = true) (ws : List Jvm.Cond) {P : Array Value → State → Prop} {as' : Array Value} {r : Int32} {h0 : Heap} (hM : MetFree l Jvm.Free.StrEq.seN Jvm.Free.StrEq.SE.spec P (fun _ _ _ _ _ => True) (PureRet (some (.int r)))) (h2 : as'.size = 2) (hP : ∀ U : State, Z.Warmed39 U.vm → U.heap = h0 → P as' U) : MetFree l (⟨"java/lang/String", "equals", "(Ljava/lang/Object;)Z"⟩ : MethodName) (head1 (Jvm.Cond.code (⟨"java/lang/String", "equals", "(Ljava/lang/Object;)Z"⟩ : MethodName) jdk_42_method_66_code 3 (some .boolean) :: ws) ({ frames := 2, cells := 0, slots := 0, locals := 60 } : Room)) (fun a U => a = as' ∧ Z.Warmed39 U.vm ∧ U.heap = h0) (fun _ _ _ _ _ => True) (fun _ U o U' => ∃ v L, o = .returned v ∧ QP (.int r) h0 v U'.heap L ∧ FrameEnd U o U' L ({ frames := 2, cells := 0, slots := 0, locals := 60 } : Room).cells ({ frames := 2, cells := 0, slots := 0, locals := 60 } : Room).slots) := by
  intro p e ha hc hk s m args below hf happ hA hK
  obtain ⟨rfl, hZ, hh⟩ := hA
  have hs : Jvm.Free.StrEq.SE.spec.appliesLoose Jvm.Free.StrEq.seN e.platform s = true := by
    simp only [Spec.appliesLoose, hf, Bool.and_eq_true] at happ ⊢
    obtain ⟨⟨q1, q2⟩, -⟩ := happ
    refine ⟨⟨q1, q2⟩, ?_⟩
    show (Jvm.Cond.and (.count 2) Jvm.Free.StrEq.SE.tab).before args s = true
    rw [Cond.before_and, Bool.and_eq_true]
    refine ⟨by simp [Cond.before, Cond.holds, Cond.value, h2], ?_⟩
    simp only [Jvm.Free.StrEq.SE.tab, Cond.before_and, Bool.and_eq_true]
    exact ⟨mvT hZ (hw _ (List.mem_of_getElem? (i := 63) rfl)), mvT hZ (hw _ (List.mem_of_getElem? (i := 64) rfl)), mvT hZ (hw _ (List.mem_of_getElem? (i := 66) rfl)), mvT hZ (hw _ (List.mem_of_getElem? (i := 67) rfl)), mvT hZ (hw _ (List.mem_of_getElem? (i := 68) rfl)), mvT hZ (hw _ (List.mem_of_getElem? (i := 69) rfl)), mvT hZ (hw _ (List.mem_of_getElem? (i := 70) rfl)), mvT hZ (hw _ (List.mem_of_getElem? (i := 71) rfl)), mvT hZ (hw _ (List.mem_of_getElem? (i := 72) rfl))⟩
  obtain ⟨n, o, h1, h2', h3, h4, h5, h6⟩ := hM p e ha hc hk s m args below hf hs (hP s hZ hh) trivial
  exact ⟨n, o, h1, h2', h3, _, [], h4, ⟨rfl, rfl, h5.trans hh⟩, h6⟩
theorem rm4n (l : Launch) (Z : State) (a0 : Array Value) (hw : ∀ d ∈ tables_1, d.before a0 Z = true) (ws : List Jvm.Cond) (x0 : Addr) (h0 : Heap) : MetFree l (⟨"java/lang/String", "equals", "(Ljava/lang/Object;)Z"⟩ : MethodName) (head1 (Jvm.Cond.code (⟨"java/lang/String", "equals", "(Ljava/lang/Object;)Z"⟩ : MethodName) jdk_42_method_66_code 3 (some .boolean) :: ws) ({ frames := 2, cells := 0, slots := 0, locals := 60 } : Room)) (fun a U => a = #[(.ref x0), .null] ∧ Z.Warmed39 U.vm ∧ U.heap = h0) (fun _ _ _ _ _ => True) (fun _ U o U' => ∃ v L, o = .returned v ∧ QP (.int (0 : Int32)) h0 v U'.heap L ∧ FrameEnd U o U' L ({ frames := 2, cells := 0, slots := 0, locals := 60 } : Room).cells ({ frames := 2, cells := 0, slots := 0, locals := 60 } : Room).slots) := own_se l Z a0 hw ws (Jvm.Free.StrEq.SE.nul l x0) rfl (fun U _ _ => rfl)
theorem rm4e (l : Launch) (Z : State) (a0 : Array Value) (hw : ∀ d ∈ tables_1, d.before a0 Z = true) (ws : List Jvm.Cond) (x0 x1 : Addr) (h0 : Heap) {d0 d1 : Addr} {k0 k1 : ClassId} {z zc : Int32} {vs : List Int32} (Ex0 : Exa Z h0 x0 STR) (Fcx0 : Fld Z h0 x0 STR "coder" "B" (.int 0)) (Fvx0 : Fld Z h0 x0 STR "value" "[B" (.ref d0)) (Vx0 : Arv Z h0 d0 k0 .byte z (vs.map Value.int) (.int 0)) (Ex1 : Exa Z h0 x1 STR) (Fcx1 : Fld Z h0 x1 STR "coder" "B" (.int 0)) (Fvx1 : Fld Z h0 x1 STR "value" "[B" (.ref d1)) (Vx1 : Arv Z h0 d1 k1 .byte z (vs.map Value.int) (.int 0)) (AC : Sta Z h0 "java/lang/String" "COMPACT_STRINGS" "Z" (.int zc)) (hzc : zc ≠ 0) : MetFree l (⟨"java/lang/String", "equals", "(Ljava/lang/Object;)Z"⟩ : MethodName) (head1 (Jvm.Cond.code (⟨"java/lang/String", "equals", "(Ljava/lang/Object;)Z"⟩ : MethodName) jdk_42_method_66_code 3 (some .boolean) :: ws) ({ frames := 2, cells := 0, slots := 0, locals := 60 } : Room)) (fun a U => a = #[(.ref x0), (.ref x1)] ∧ Z.Warmed39 U.vm ∧ U.heap = h0) (fun _ _ _ _ _ => True) (fun _ U o U' => ∃ v L, o = .returned v ∧ QP (.int (1 : Int32)) h0 v U'.heap L ∧ FrameEnd U o U' L ({ frames := 2, cells := 0, slots := 0, locals := 60 } : Room).cells ({ frames := 2, cells := 0, slots := 0, locals := 60 } : Room).slots) := by
  obtain ⟨fC, fV, Ca, A, ⟨_, _, _, u1⟩, ⟨_, _, _, u2⟩, u3, u4, u5⟩ := own_strAt Ex0 Fcx0 Fvx0 Vx0
  obtain ⟨fC', fV', Cb, Bc, ⟨_, _, _, w1⟩, ⟨_, _, _, w2⟩, w3, w4, w5⟩ := own_strAt Ex1 Fcx1 Fvx1 Vx1
  cases u1.symm.trans w1
  cases u2.symm.trans w2
  by_cases q : x0 = x1
  · subst q; exact own_se l Z a0 hw ws (Jvm.Free.StrEq.SE.same l x0) rfl (fun U _ _ => rfl)
  · have hans : Jvm.Free.StrEq.SE.ans 0 0 A Bc = 1 := by
      have hs : Jvm.Free.StrEq.sameB A Bc = true := by
        rw [Jvm.Free.StrEq.sameB, u4, w4, own_sf _ _ (fun i _ hi => by rw [u5 i (by omega), w5 i (by omega)])]; simp
      rw [Jvm.Free.StrEq.SE.ans, if_pos ⟨rfl, hs⟩]
    have hM := Jvm.Free.StrEq.SE.gets l fC fV x0 Ca 0 d0 A x1 Cb 0 d1 Bc zc
    rw [hans] at hM
    exact own_se l Z a0 hw ws hM rfl (fun U hU hh => ⟨rfl, q, u3 U hU hh, w3 U hU hh, own_stat AC hU hh, hzc⟩)
theorem rm4d (l : Launch) (Z : State) (a0 : Array Value) (hw : ∀ d ∈ tables_1, d.before a0 Z = true) (ws : List Jvm.Cond) (x0 x1 : Addr) (h0 : Heap) {d0 d1 : Addr} {k0 k1 : ClassId} {z z' zc : Int32} {vs vs' : List Int32} (Ex0 : Exa Z h0 x0 STR) (Fcx0 : Fld Z h0 x0 STR "coder" "B" (.int 0)) (Fvx0 : Fld Z h0 x0 STR "value" "[B" (.ref d0)) (Vx0 : Arv Z h0 d0 k0 .byte z (vs.map Value.int) (.int 0)) (Ex1 : Exa Z h0 x1 STR) (Fcx1 : Fld Z h0 x1 STR "coder" "B" (.int 0)) (Fvx1 : Fld Z h0 x1 STR "value" "[B" (.ref d1)) (Vx1 : Arv Z h0 d1 k1 .byte z' (vs'.map Value.int) (.int 0)) (AC : Sta Z h0 "java/lang/String" "COMPACT_STRINGS" "Z" (.int zc)) (hzc : zc ≠ 0) (hd : z.toNatClampNeg ≠ z'.toNatClampNeg) : MetFree l (⟨"java/lang/String", "equals", "(Ljava/lang/Object;)Z"⟩ : MethodName) (head1 (Jvm.Cond.code (⟨"java/lang/String", "equals", "(Ljava/lang/Object;)Z"⟩ : MethodName) jdk_42_method_66_code 3 (some .boolean) :: ws) ({ frames := 2, cells := 0, slots := 0, locals := 60 } : Room)) (fun a U => a = #[(.ref x0), (.ref x1)] ∧ Z.Warmed39 U.vm ∧ U.heap = h0) (fun _ _ _ _ _ => True) (fun _ U o U' => ∃ v L, o = .returned v ∧ QP (.int (0 : Int32)) h0 v U'.heap L ∧ FrameEnd U o U' L ({ frames := 2, cells := 0, slots := 0, locals := 60 } : Room).cells ({ frames := 2, cells := 0, slots := 0, locals := 60 } : Room).slots) := by
  obtain ⟨fC, fV, Ca, A, ⟨_, _, _, u1⟩, ⟨_, _, _, u2⟩, u3, u4, u5⟩ := own_strAt Ex0 Fcx0 Fvx0 Vx0
  obtain ⟨fC', fV', Cb, Bc, ⟨_, _, _, w1⟩, ⟨_, _, _, w2⟩, w3, w4, w5⟩ := own_strAt Ex1 Fcx1 Fvx1 Vx1
  cases u1.symm.trans w1
  cases u2.symm.trans w2
  have q : x0 ≠ x1 := own_dne Fvx0 Vx0 Fvx1 Vx1 hd
  have hans : Jvm.Free.StrEq.SE.ans 0 0 A Bc = 0 := by
    have hs : Jvm.Free.StrEq.sameB A Bc = false := by
      rw [Jvm.Free.StrEq.sameB, u4, w4, beq_false_of_ne hd]; rfl
    rw [Jvm.Free.StrEq.SE.ans, if_neg (fun t => by rw [hs] at t; cases t.2)]
  have hM := Jvm.Free.StrEq.SE.gets l fC fV x0 Ca 0 d0 A x1 Cb 0 d1 Bc zc
  rw [hans] at hM
  exact own_se l Z a0 hw ws hM rfl (fun U hU hh => ⟨rfl, q, u3 U hU hh, w3 U hU hh, own_stat AC hU hh, hzc⟩)
theorem pn_0 : plainName "com/example/replay/replay/api/EventTypeIsActivityEventPinLaw" = true := by first | (simp [plainName, overriddenIn]; done) | decide +kernel
theorem ef_0 (m : MethodId) (x0 : Int32) : entryFrame m #[(.int x0)] maxLocals = mkF m 0 #[.val (.int x0), .unset, .unset, .unset, .unset, .unset, .unset] [] := by first | (simp [entryFrame, mkF, argsToLocals, Value.category, maxLocals]; done) | rfl
set_option maxRecDepth 65536 in
set_option maxHeartbeats 40000000 in
theorem rm0 (l : Launch) (Z : State) (a0 : Array Value) (hw : ∀ d ∈ tables_1, d.before a0 Z = true) (ws : List Jvm.Cond) (x0 : Int32) {y0 y1 y2 y3 y4 y5 y6 y7 y8 y9 y10 y11 y12 sA dA sE dE sS dS : Addr} {kA kE kS : ClassId} {zc : Int32}
    (S0 : Sta Z Z.heap "com/example/replay/replay/api/EventType" "RUN_STARTED" "Lcom/example/replay/replay/api/EventType;" (.ref y0))
    (E0 : Exa Z Z.heap y0 "com/example/replay/replay/api/EventType")
    (O0 : Fld Z Z.heap y0 "java/lang/Enum" "ordinal" "I" (.int (0 : Int32)))
    (F0 : Fld Z Z.heap y0 "com/example/replay/replay/api/EventType" "subject" "Ljava/lang/String;" .null)
    (S1 : Sta Z Z.heap "com/example/replay/replay/api/EventType" "ACTIVITY_SCHEDULED" "Lcom/example/replay/replay/api/EventType;" (.ref y1))
    (E1 : Exa Z Z.heap y1 "com/example/replay/replay/api/EventType")
    (O1 : Fld Z Z.heap y1 "java/lang/Enum" "ordinal" "I" (.int (1 : Int32)))
    (F1 : Fld Z Z.heap y1 "com/example/replay/replay/api/EventType" "subject" "Ljava/lang/String;" (.ref sA))
    (S2 : Sta Z Z.heap "com/example/replay/replay/api/EventType" "ACTIVITY_COMPLETED" "Lcom/example/replay/replay/api/EventType;" (.ref y2))
    (E2 : Exa Z Z.heap y2 "com/example/replay/replay/api/EventType")
    (O2 : Fld Z Z.heap y2 "java/lang/Enum" "ordinal" "I" (.int (2 : Int32)))
    (F2 : Fld Z Z.heap y2 "com/example/replay/replay/api/EventType" "subject" "Ljava/lang/String;" (.ref sA))
    (S3 : Sta Z Z.heap "com/example/replay/replay/api/EventType" "ACTIVITY_FAILED" "Lcom/example/replay/replay/api/EventType;" (.ref y3))
    (E3 : Exa Z Z.heap y3 "com/example/replay/replay/api/EventType")
    (O3 : Fld Z Z.heap y3 "java/lang/Enum" "ordinal" "I" (.int (3 : Int32)))
    (F3 : Fld Z Z.heap y3 "com/example/replay/replay/api/EventType" "subject" "Ljava/lang/String;" (.ref sA))
    (S4 : Sta Z Z.heap "com/example/replay/replay/api/EventType" "CLOCK_READ" "Lcom/example/replay/replay/api/EventType;" (.ref y4))
    (E4 : Exa Z Z.heap y4 "com/example/replay/replay/api/EventType")
    (O4 : Fld Z Z.heap y4 "java/lang/Enum" "ordinal" "I" (.int (4 : Int32)))
    (F4 : Fld Z Z.heap y4 "com/example/replay/replay/api/EventType" "subject" "Ljava/lang/String;" .null)
    (S5 : Sta Z Z.heap "com/example/replay/replay/api/EventType" "RANDOM_DRAWN" "Lcom/example/replay/replay/api/EventType;" (.ref y5))
    (E5 : Exa Z Z.heap y5 "com/example/replay/replay/api/EventType")
    (O5 : Fld Z Z.heap y5 "java/lang/Enum" "ordinal" "I" (.int (5 : Int32)))
    (F5 : Fld Z Z.heap y5 "com/example/replay/replay/api/EventType" "subject" "Ljava/lang/String;" .null)
    (S6 : Sta Z Z.heap "com/example/replay/replay/api/EventType" "TIMER_STARTED" "Lcom/example/replay/replay/api/EventType;" (.ref y6))
    (E6 : Exa Z Z.heap y6 "com/example/replay/replay/api/EventType")
    (O6 : Fld Z Z.heap y6 "java/lang/Enum" "ordinal" "I" (.int (6 : Int32)))
    (F6 : Fld Z Z.heap y6 "com/example/replay/replay/api/EventType" "subject" "Ljava/lang/String;" (.ref sE))
    (S7 : Sta Z Z.heap "com/example/replay/replay/api/EventType" "TIMER_FIRED" "Lcom/example/replay/replay/api/EventType;" (.ref y7))
    (E7 : Exa Z Z.heap y7 "com/example/replay/replay/api/EventType")
    (O7 : Fld Z Z.heap y7 "java/lang/Enum" "ordinal" "I" (.int (7 : Int32)))
    (F7 : Fld Z Z.heap y7 "com/example/replay/replay/api/EventType" "subject" "Ljava/lang/String;" .null)
    (S8 : Sta Z Z.heap "com/example/replay/replay/api/EventType" "EVENT_RECEIVED" "Lcom/example/replay/replay/api/EventType;" (.ref y8))
    (E8 : Exa Z Z.heap y8 "com/example/replay/replay/api/EventType")
    (O8 : Fld Z Z.heap y8 "java/lang/Enum" "ordinal" "I" (.int (8 : Int32)))
    (F8 : Fld Z Z.heap y8 "com/example/replay/replay/api/EventType" "subject" "Ljava/lang/String;" (.ref sE))
    (S9 : Sta Z Z.heap "com/example/replay/replay/api/EventType" "STEPS_DECLARED" "Lcom/example/replay/replay/api/EventType;" (.ref y9))
    (E9 : Exa Z Z.heap y9 "com/example/replay/replay/api/EventType")
    (O9 : Fld Z Z.heap y9 "java/lang/Enum" "ordinal" "I" (.int (9 : Int32)))
    (F9 : Fld Z Z.heap y9 "com/example/replay/replay/api/EventType" "subject" "Ljava/lang/String;" .null)
    (S10 : Sta Z Z.heap "com/example/replay/replay/api/EventType" "STEP_NOT_APPLICABLE" "Lcom/example/replay/replay/api/EventType;" (.ref y10))
    (E10 : Exa Z Z.heap y10 "com/example/replay/replay/api/EventType")
    (O10 : Fld Z Z.heap y10 "java/lang/Enum" "ordinal" "I" (.int (10 : Int32)))
    (F10 : Fld Z Z.heap y10 "com/example/replay/replay/api/EventType" "subject" "Ljava/lang/String;" (.ref sS))
    (S11 : Sta Z Z.heap "com/example/replay/replay/api/EventType" "RUN_COMPLETED" "Lcom/example/replay/replay/api/EventType;" (.ref y11))
    (E11 : Exa Z Z.heap y11 "com/example/replay/replay/api/EventType")
    (O11 : Fld Z Z.heap y11 "java/lang/Enum" "ordinal" "I" (.int (11 : Int32)))
    (F11 : Fld Z Z.heap y11 "com/example/replay/replay/api/EventType" "subject" "Ljava/lang/String;" .null)
    (S12 : Sta Z Z.heap "com/example/replay/replay/api/EventType" "RUN_FAILED" "Lcom/example/replay/replay/api/EventType;" (.ref y12))
    (E12 : Exa Z Z.heap y12 "com/example/replay/replay/api/EventType")
    (O12 : Fld Z Z.heap y12 "java/lang/Enum" "ordinal" "I" (.int (12 : Int32)))
    (F12 : Fld Z Z.heap y12 "com/example/replay/replay/api/EventType" "subject" "Ljava/lang/String;" .null)
    (AA1 : Exa Z Z.heap sA STR) (AA2 : Fld Z Z.heap sA STR "coder" "B" (.int 0)) (AA3 : Fld Z Z.heap sA STR "value" "[B" (.ref dA)) (AA4 : Arv Z Z.heap dA kA .byte 8 (own_act.map Value.int) (.int 0))
    (AE1 : Exa Z Z.heap sE STR) (AE2 : Fld Z Z.heap sE STR "coder" "B" (.int 0)) (AE3 : Fld Z Z.heap sE STR "value" "[B" (.ref dE)) (AE4 : Arv Z Z.heap dE kE .byte 5 (own_evt.map Value.int) (.int 0))
    (AS1 : Exa Z Z.heap sS STR) (AS2 : Fld Z Z.heap sS STR "coder" "B" (.int 0)) (AS3 : Fld Z Z.heap sS STR "value" "[B" (.ref dS)) (AS4 : Arv Z Z.heap dS kS .byte 4 (own_stp.map Value.int) (.int 0))
    (AC : Sta Z Z.heap "java/lang/String" "COMPACT_STRINGS" "Z" (.int zc)) (hzc : zc ≠ 0) (hheld : Jvm.Lit.constHeld Z "com/example/replay/replay/api/EventTypeIsActivityEventPinLaw" 54) (hcw : Jvm.Lit.compactW.before a0 Z = true) :
    MetFree l x (head1 (Jvm.Cond.code x code maxLocals ret :: ws) room_1) (fun a U => a = #[(.int x0)] ∧ U = Z) (fun _ _ _ _ _ => True) (fun _ U o U' => ∃ v L, o = .returned v ∧ QH (.int (1 : Int32)) Z.heap.size v U'.heap L ∧ ReturnedEndW U o U' L room_1.cells room_1.slots) := by
  refine MetFree.of_bodySF (plainFor_of_name pn_0) hisR ?_
  intro p e s m args below meth c s₁ Bd hml0 hP hK
  obtain ⟨rfl, hsZ⟩ := hP
  have hZ : Z.Warmed39 s.vm := by rw [hsZ]; exact State.Warmed39.refl Z
  have hh : s.heap = Z.heap := by rw [hsZ]
  have I0 : IB Z s.vm [] := by rw [hsZ]; exact IB.start
  have hkeep : ∀ (b : Addr) (cl : Cell), Z.heap[b]? = some cl → s.heap[b]? = some cl := by rw [hsZ]; exact fun _ _ q => q
  have hx := Bd.exec
  have hby := Bd.bytes
  have hml : c.maxLocals = 7 := hml0
  have hown : s.vm.findClass "com/example/replay/replay/api/EventTypeIsActivityEventPinLaw" = some m.cls := findClass_of_methodNamed Bd.named
  have wS : ∀ a ∈ Bundle.stringAtoms, a.before a0 Z = true := by
    intro a ha
    simp only [Bundle.stringAtoms, List.mem_cons, List.not_mem_nil, or_false] at ha
    rcases ha with rfl | rfl | rfl | rfl | rfl | rfl | rfl
    · exact (hw _ (List.mem_of_getElem? (i := 45) rfl))
    · exact (hw _ (List.mem_of_getElem? (i := 46) rfl))
    · exact (hw _ (List.mem_of_getElem? (i := 47) rfl))
    · exact (hw _ (List.mem_of_getElem? (i := 48) rfl))
    · exact (hw _ (List.mem_of_getElem? (i := 49) rfl))
    · exact (hw _ (List.mem_of_getElem? (i := 50) rfl))
    · exact (hw _ (List.mem_of_getElem? (i := 51) rfl))
  have X : Stand p l e room_1 s m #[(.int x0)] below meth c s₁ [] 0 0 := Stand.of_body Bd
  have eT : s₁.heap = Z.heap := by rw [← hh, Bd.state]; rfl
  have N := Fr.nil Z.heap.size
  show RunsW p e below s (QH (.int (1 : Int32)) Z.heap.size) room_1.cells room_1.slots (s₁.setTop (entryFrame m #[(.int x0)] maxLocals))
  rw [ef_0 m x0]
  refine RunsW.go (fun _ => XS.bipush X.here hx rfl (hb hby at_0)) ?_
  show RunsW p e below s _ _ _ (s₁.setTop (mkF m 2 #[.val (.int x0), .unset, .unset, .unset, .unset, .unset, .unset] [(.int (13 : Int32))]))
  obtain ⟨Ta2_1, ha2_1, ka2_1, Xa2_1, ea2_1, Ea2_1, Aa2_1, Oa2_1, sta2_1⟩ := newR X hx hZ hown (hw _ (List.mem_of_getElem? (i := 0) rfl)) (hw _ (List.mem_of_getElem? (i := 1) rfl)) eT (g := (mkF m 2 #[.val (.int x0), .unset, .unset, .unset, .unset, .unset, .unset] [(.int (13 : Int32))])) rfl (hb hby at_2) rfl (by decide) (cap := 13) (by decide) (by decide) (by decide) (by decide)
  obtain ⟨ba2_1, ga2_1⟩ : ∃ z, z = Z.heap.size := ⟨_, rfl⟩
  have gb_ba2_1 : Z.heap.size ≤ ba2_1 := Nat.le_trans (Nat.le_refl _) (Nat.le_of_eq ga2_1.symm)
  rw [← ga2_1] at Aa2_1 sta2_1
  refine RunsW.go sta2_1 ?_
  have Ka2_1 : Ext Z.heap ha2_1 := own_extt (own_extr Z.heap) Ea2_1
  have hna2_1 : Z.heap.size ≤ ha2_1.size := Nat.le_trans (Nat.le_refl _) Ea2_1.1
  have Va2_1 : Arv Z ha2_1 ba2_1 ka2_1 (.object "com/example/replay/replay/api/EventType") (13 : Int32) [.null, .null, .null, .null, .null, .null, .null, .null, .null, .null, .null, .null, .null] .null := (Arv.new Aa2_1 (by decide)).pad (pad_rep [] .null 13)
  show RunsW p e below s _ _ _ (Ta2_1.setTop (mkF m 5 #[.val (.int x0), .unset, .unset, .unset, .unset, .unset, .unset] [(.ref ba2_1)]))
  refine RunsW.go (fun _ => XS.dup Xa2_1.here hx rfl (hb hby at_5) rfl rfl) ?_
  show RunsW p e below s _ _ _ (Ta2_1.setTop (mkF m 6 #[.val (.int x0), .unset, .unset, .unset, .unset, .unset, .unset] [(.ref ba2_1), (.ref ba2_1)]))
  refine RunsW.go (fun _ => XS.iconst Xa2_1.here hx rfl (hb hby at_6)) ?_
  show RunsW p e below s _ _ _ (Ta2_1.setTop (mkF m 7 #[.val (.int x0), .unset, .unset, .unset, .unset, .unset, .unset] [(.int (0 : Int32)), (.ref ba2_1), (.ref ba2_1)]))
  obtain ⟨Tg7_2, Xg7_2, eg7_2, stg7_2⟩ := getS2 Xa2_1 hx hZ hown (host := "") (Or.inl (hw _ (List.mem_of_getElem? (i := 2) rfl))) Via.refl ea2_1 (S0.ext Ka2_1) (g := (mkF m 7 #[.val (.int x0), .unset, .unset, .unset, .unset, .unset, .unset] [(.int (0 : Int32)), (.ref ba2_1), (.ref ba2_1)])) rfl (hb hby at_7)
  refine RunsW.go stg7_2 ?_
  show RunsW p e below s _ _ _ (Tg7_2.setTop (mkF m 10 #[.val (.int x0), .unset, .unset, .unset, .unset, .unset, .unset] [(.ref y0), (.int (0 : Int32)), (.ref ba2_1), (.ref ba2_1)]))
  have VCw10_3 := Va2_1
  obtain ⟨clw10_3, Arw10_3, qw10_3, Sw10_3, Mw10_3, Hw10_3, Gw10_3⟩ := VCw10_3
  have hinw10_3 : ¬ ((0 : Int32) < 0 ∨ clw10_3.slots.size ≤ ((0 : Int32)).toNatClampNeg) := inb_of Sw10_3 ⟨by decide, by decide⟩
  obtain ⟨Tw10_3, hw10_3, Xw10_3, ew10_3, Ww10_3, stw10_3⟩ := stR Xg7_2 hx hZ eg7_2 Arw10_3 (j := (0 : Int32)) hinw10_3 rfl (Sto.ofV Arw10_3 qw10_3 Oa2_1 (Ins.of_exa (E0.ext Ka2_1) (hw _ (List.mem_of_getElem? (i := 5) rfl)))) (g := (mkF m 10 #[.val (.int x0), .unset, .unset, .unset, .unset, .unset, .unset] [(.ref y0), (.int (0 : Int32)), (.ref ba2_1), (.ref ba2_1)])) rfl rfl (hb hby at_10)
  refine RunsW.go stw10_3 ?_
  have hnw10_3 : Z.heap.size ≤ hw10_3.size := by rw [Wr.size Ww10_3]; exact hna2_1
  have Kw10_3 : Ext Z.heap hw10_3 := own_extw Ka2_1 Ww10_3 gb_ba2_1
  have Vw10_3 : Arv Z hw10_3 ba2_1 ka2_1 (.object "com/example/replay/replay/api/EventType") (13 : Int32) [(.ref y0), .null, .null, .null, .null, .null, .null, .null, .null, .null, .null, .null, .null] .null := Arv.set Arw10_3 qw10_3 Sw10_3 Mw10_3 Hw10_3 Gw10_3 rfl Ww10_3 0 rfl (Nat.le_of_ble_eq_true rfl)
  have Nw10_3 := Fr.snoc Xw10_3 N gb_ba2_1
  show RunsW p e below s _ _ _ (Tw10_3.setTop (mkF m 11 #[.val (.int x0), .unset, .unset, .unset, .unset, .unset, .unset] [(.ref ba2_1)]))
  refine RunsW.go (fun _ => XS.dup Xw10_3.here hx rfl (hb hby at_11) rfl rfl) ?_
  show RunsW p e below s _ _ _ (Tw10_3.setTop (mkF m 12 #[.val (.int x0), .unset, .unset, .unset, .unset, .unset, .unset] [(.ref ba2_1), (.ref ba2_1)]))
  refine RunsW.go (fun _ => XS.iconst Xw10_3.here hx rfl (hb hby at_12)) ?_
  show RunsW p e below s _ _ _ (Tw10_3.setTop (mkF m 13 #[.val (.int x0), .unset, .unset, .unset, .unset, .unset, .unset] [(.int (1 : Int32)), (.ref ba2_1), (.ref ba2_1)]))
  obtain ⟨Tg13_4, Xg13_4, eg13_4, stg13_4⟩ := getS2 Xw10_3 hx hZ hown (host := "") (Or.inl (hw _ (List.mem_of_getElem? (i := 6) rfl))) Via.refl ew10_3 (S1.ext Kw10_3) (g := (mkF m 13 #[.val (.int x0), .unset, .unset, .unset, .unset, .unset, .unset] [(.int (1 : Int32)), (.ref ba2_1), (.ref ba2_1)])) rfl (hb hby at_13)
  refine RunsW.go stg13_4 ?_
  show RunsW p e below s _ _ _ (Tg13_4.setTop (mkF m 16 #[.val (.int x0), .unset, .unset, .unset, .unset, .unset, .unset] [(.ref y1), (.int (1 : Int32)), (.ref ba2_1), (.ref ba2_1)]))
  have VCw16_5 := Vw10_3
  obtain ⟨clw16_5, Arw16_5, qw16_5, Sw16_5, Mw16_5, Hw16_5, Gw16_5⟩ := VCw16_5
  have hinw16_5 : ¬ ((1 : Int32) < 0 ∨ clw16_5.slots.size ≤ ((1 : Int32)).toNatClampNeg) := inb_of Sw16_5 ⟨by decide, by decide⟩
  obtain ⟨Tw16_5, hw16_5, Xw16_5, ew16_5, Ww16_5, stw16_5⟩ := stR Xg13_4 hx hZ eg13_4 Arw16_5 (j := (1 : Int32)) hinw16_5 rfl (Sto.ofV Arw16_5 qw16_5 Oa2_1 (Ins.of_exa (E1.ext Kw10_3) (hw _ (List.mem_of_getElem? (i := 5) rfl)))) (g := (mkF m 16 #[.val (.int x0), .unset, .unset, .unset, .unset, .unset, .unset] [(.ref y1), (.int (1 : Int32)), (.ref ba2_1), (.ref ba2_1)])) rfl rfl (hb hby at_16)
  refine RunsW.go stw16_5 ?_
  have hnw16_5 : Z.heap.size ≤ hw16_5.size := by rw [Wr.size Ww16_5]; exact hnw10_3
  have Kw16_5 : Ext Z.heap hw16_5 := own_extw Kw10_3 Ww16_5 gb_ba2_1
  have Vw16_5 : Arv Z hw16_5 ba2_1 ka2_1 (.object "com/example/replay/replay/api/EventType") (13 : Int32) [(.ref y0), (.ref y1), .null, .null, .null, .null, .null, .null, .null, .null, .null, .null, .null] .null := Arv.set Arw16_5 qw16_5 Sw16_5 Mw16_5 Hw16_5 Gw16_5 rfl Ww16_5 1 rfl (Nat.le_of_ble_eq_true rfl)
  have Nw16_5 := Fr.snoc Xw16_5 Nw10_3 gb_ba2_1
  show RunsW p e below s _ _ _ (Tw16_5.setTop (mkF m 17 #[.val (.int x0), .unset, .unset, .unset, .unset, .unset, .unset] [(.ref ba2_1)]))
  refine RunsW.go (fun _ => XS.dup Xw16_5.here hx rfl (hb hby at_17) rfl rfl) ?_
  show RunsW p e below s _ _ _ (Tw16_5.setTop (mkF m 18 #[.val (.int x0), .unset, .unset, .unset, .unset, .unset, .unset] [(.ref ba2_1), (.ref ba2_1)]))
  refine RunsW.go (fun _ => XS.iconst Xw16_5.here hx rfl (hb hby at_18)) ?_
  show RunsW p e below s _ _ _ (Tw16_5.setTop (mkF m 19 #[.val (.int x0), .unset, .unset, .unset, .unset, .unset, .unset] [(.int (2 : Int32)), (.ref ba2_1), (.ref ba2_1)]))
  obtain ⟨Tg19_6, Xg19_6, eg19_6, stg19_6⟩ := getS2 Xw16_5 hx hZ hown (host := "") (Or.inl (hw _ (List.mem_of_getElem? (i := 8) rfl))) Via.refl ew16_5 (S2.ext Kw16_5) (g := (mkF m 19 #[.val (.int x0), .unset, .unset, .unset, .unset, .unset, .unset] [(.int (2 : Int32)), (.ref ba2_1), (.ref ba2_1)])) rfl (hb hby at_19)
  refine RunsW.go stg19_6 ?_
  show RunsW p e below s _ _ _ (Tg19_6.setTop (mkF m 22 #[.val (.int x0), .unset, .unset, .unset, .unset, .unset, .unset] [(.ref y2), (.int (2 : Int32)), (.ref ba2_1), (.ref ba2_1)]))
  have VCw22_7 := Vw16_5
  obtain ⟨clw22_7, Arw22_7, qw22_7, Sw22_7, Mw22_7, Hw22_7, Gw22_7⟩ := VCw22_7
  have hinw22_7 : ¬ ((2 : Int32) < 0 ∨ clw22_7.slots.size ≤ ((2 : Int32)).toNatClampNeg) := inb_of Sw22_7 ⟨by decide, by decide⟩
  obtain ⟨Tw22_7, hw22_7, Xw22_7, ew22_7, Ww22_7, stw22_7⟩ := stR Xg19_6 hx hZ eg19_6 Arw22_7 (j := (2 : Int32)) hinw22_7 rfl (Sto.ofV Arw22_7 qw22_7 Oa2_1 (Ins.of_exa (E2.ext Kw16_5) (hw _ (List.mem_of_getElem? (i := 5) rfl)))) (g := (mkF m 22 #[.val (.int x0), .unset, .unset, .unset, .unset, .unset, .unset] [(.ref y2), (.int (2 : Int32)), (.ref ba2_1), (.ref ba2_1)])) rfl rfl (hb hby at_22)
  refine RunsW.go stw22_7 ?_
  have hnw22_7 : Z.heap.size ≤ hw22_7.size := by rw [Wr.size Ww22_7]; exact hnw16_5
  have Kw22_7 : Ext Z.heap hw22_7 := own_extw Kw16_5 Ww22_7 gb_ba2_1
  have Vw22_7 : Arv Z hw22_7 ba2_1 ka2_1 (.object "com/example/replay/replay/api/EventType") (13 : Int32) [(.ref y0), (.ref y1), (.ref y2), .null, .null, .null, .null, .null, .null, .null, .null, .null, .null] .null := Arv.set Arw22_7 qw22_7 Sw22_7 Mw22_7 Hw22_7 Gw22_7 rfl Ww22_7 2 rfl (Nat.le_of_ble_eq_true rfl)
  have Nw22_7 := Fr.snoc Xw22_7 Nw16_5 gb_ba2_1
  show RunsW p e below s _ _ _ (Tw22_7.setTop (mkF m 23 #[.val (.int x0), .unset, .unset, .unset, .unset, .unset, .unset] [(.ref ba2_1)]))
  refine RunsW.go (fun _ => XS.dup Xw22_7.here hx rfl (hb hby at_23) rfl rfl) ?_
  show RunsW p e below s _ _ _ (Tw22_7.setTop (mkF m 24 #[.val (.int x0), .unset, .unset, .unset, .unset, .unset, .unset] [(.ref ba2_1), (.ref ba2_1)]))
  refine RunsW.go (fun _ => XS.iconst Xw22_7.here hx rfl (hb hby at_24)) ?_
  show RunsW p e below s _ _ _ (Tw22_7.setTop (mkF m 25 #[.val (.int x0), .unset, .unset, .unset, .unset, .unset, .unset] [(.int (3 : Int32)), (.ref ba2_1), (.ref ba2_1)]))
  obtain ⟨Tg25_8, Xg25_8, eg25_8, stg25_8⟩ := getS2 Xw22_7 hx hZ hown (host := "") (Or.inl (hw _ (List.mem_of_getElem? (i := 10) rfl))) Via.refl ew22_7 (S3.ext Kw22_7) (g := (mkF m 25 #[.val (.int x0), .unset, .unset, .unset, .unset, .unset, .unset] [(.int (3 : Int32)), (.ref ba2_1), (.ref ba2_1)])) rfl (hb hby at_25)
  refine RunsW.go stg25_8 ?_
  show RunsW p e below s _ _ _ (Tg25_8.setTop (mkF m 28 #[.val (.int x0), .unset, .unset, .unset, .unset, .unset, .unset] [(.ref y3), (.int (3 : Int32)), (.ref ba2_1), (.ref ba2_1)]))
  have VCw28_9 := Vw22_7
  obtain ⟨clw28_9, Arw28_9, qw28_9, Sw28_9, Mw28_9, Hw28_9, Gw28_9⟩ := VCw28_9
  have hinw28_9 : ¬ ((3 : Int32) < 0 ∨ clw28_9.slots.size ≤ ((3 : Int32)).toNatClampNeg) := inb_of Sw28_9 ⟨by decide, by decide⟩
  obtain ⟨Tw28_9, hw28_9, Xw28_9, ew28_9, Ww28_9, stw28_9⟩ := stR Xg25_8 hx hZ eg25_8 Arw28_9 (j := (3 : Int32)) hinw28_9 rfl (Sto.ofV Arw28_9 qw28_9 Oa2_1 (Ins.of_exa (E3.ext Kw22_7) (hw _ (List.mem_of_getElem? (i := 5) rfl)))) (g := (mkF m 28 #[.val (.int x0), .unset, .unset, .unset, .unset, .unset, .unset] [(.ref y3), (.int (3 : Int32)), (.ref ba2_1), (.ref ba2_1)])) rfl rfl (hb hby at_28)
  refine RunsW.go stw28_9 ?_
  have hnw28_9 : Z.heap.size ≤ hw28_9.size := by rw [Wr.size Ww28_9]; exact hnw22_7
  have Kw28_9 : Ext Z.heap hw28_9 := own_extw Kw22_7 Ww28_9 gb_ba2_1
  have Vw28_9 : Arv Z hw28_9 ba2_1 ka2_1 (.object "com/example/replay/replay/api/EventType") (13 : Int32) [(.ref y0), (.ref y1), (.ref y2), (.ref y3), .null, .null, .null, .null, .null, .null, .null, .null, .null] .null := Arv.set Arw28_9 qw28_9 Sw28_9 Mw28_9 Hw28_9 Gw28_9 rfl Ww28_9 3 rfl (Nat.le_of_ble_eq_true rfl)
  have Nw28_9 := Fr.snoc Xw28_9 Nw22_7 gb_ba2_1
  show RunsW p e below s _ _ _ (Tw28_9.setTop (mkF m 29 #[.val (.int x0), .unset, .unset, .unset, .unset, .unset, .unset] [(.ref ba2_1)]))
  refine RunsW.go (fun _ => XS.dup Xw28_9.here hx rfl (hb hby at_29) rfl rfl) ?_
  show RunsW p e below s _ _ _ (Tw28_9.setTop (mkF m 30 #[.val (.int x0), .unset, .unset, .unset, .unset, .unset, .unset] [(.ref ba2_1), (.ref ba2_1)]))
  refine RunsW.go (fun _ => XS.iconst Xw28_9.here hx rfl (hb hby at_30)) ?_
  show RunsW p e below s _ _ _ (Tw28_9.setTop (mkF m 31 #[.val (.int x0), .unset, .unset, .unset, .unset, .unset, .unset] [(.int (4 : Int32)), (.ref ba2_1), (.ref ba2_1)]))
  obtain ⟨Tg31_10, Xg31_10, eg31_10, stg31_10⟩ := getS2 Xw28_9 hx hZ hown (host := "") (Or.inl (hw _ (List.mem_of_getElem? (i := 12) rfl))) Via.refl ew28_9 (S4.ext Kw28_9) (g := (mkF m 31 #[.val (.int x0), .unset, .unset, .unset, .unset, .unset, .unset] [(.int (4 : Int32)), (.ref ba2_1), (.ref ba2_1)])) rfl (hb hby at_31)
  refine RunsW.go stg31_10 ?_
  show RunsW p e below s _ _ _ (Tg31_10.setTop (mkF m 34 #[.val (.int x0), .unset, .unset, .unset, .unset, .unset, .unset] [(.ref y4), (.int (4 : Int32)), (.ref ba2_1), (.ref ba2_1)]))
  have VCw34_11 := Vw28_9
  obtain ⟨clw34_11, Arw34_11, qw34_11, Sw34_11, Mw34_11, Hw34_11, Gw34_11⟩ := VCw34_11
  have hinw34_11 : ¬ ((4 : Int32) < 0 ∨ clw34_11.slots.size ≤ ((4 : Int32)).toNatClampNeg) := inb_of Sw34_11 ⟨by decide, by decide⟩
  obtain ⟨Tw34_11, hw34_11, Xw34_11, ew34_11, Ww34_11, stw34_11⟩ := stR Xg31_10 hx hZ eg31_10 Arw34_11 (j := (4 : Int32)) hinw34_11 rfl (Sto.ofV Arw34_11 qw34_11 Oa2_1 (Ins.of_exa (E4.ext Kw28_9) (hw _ (List.mem_of_getElem? (i := 5) rfl)))) (g := (mkF m 34 #[.val (.int x0), .unset, .unset, .unset, .unset, .unset, .unset] [(.ref y4), (.int (4 : Int32)), (.ref ba2_1), (.ref ba2_1)])) rfl rfl (hb hby at_34)
  refine RunsW.go stw34_11 ?_
  have hnw34_11 : Z.heap.size ≤ hw34_11.size := by rw [Wr.size Ww34_11]; exact hnw28_9
  have Kw34_11 : Ext Z.heap hw34_11 := own_extw Kw28_9 Ww34_11 gb_ba2_1
  have Vw34_11 : Arv Z hw34_11 ba2_1 ka2_1 (.object "com/example/replay/replay/api/EventType") (13 : Int32) [(.ref y0), (.ref y1), (.ref y2), (.ref y3), (.ref y4), .null, .null, .null, .null, .null, .null, .null, .null] .null := Arv.set Arw34_11 qw34_11 Sw34_11 Mw34_11 Hw34_11 Gw34_11 rfl Ww34_11 4 rfl (Nat.le_of_ble_eq_true rfl)
  have Nw34_11 := Fr.snoc Xw34_11 Nw28_9 gb_ba2_1
  show RunsW p e below s _ _ _ (Tw34_11.setTop (mkF m 35 #[.val (.int x0), .unset, .unset, .unset, .unset, .unset, .unset] [(.ref ba2_1)]))
  refine RunsW.go (fun _ => XS.dup Xw34_11.here hx rfl (hb hby at_35) rfl rfl) ?_
  show RunsW p e below s _ _ _ (Tw34_11.setTop (mkF m 36 #[.val (.int x0), .unset, .unset, .unset, .unset, .unset, .unset] [(.ref ba2_1), (.ref ba2_1)]))
  refine RunsW.go (fun _ => XS.iconst Xw34_11.here hx rfl (hb hby at_36)) ?_
  show RunsW p e below s _ _ _ (Tw34_11.setTop (mkF m 37 #[.val (.int x0), .unset, .unset, .unset, .unset, .unset, .unset] [(.int (5 : Int32)), (.ref ba2_1), (.ref ba2_1)]))
  obtain ⟨Tg37_12, Xg37_12, eg37_12, stg37_12⟩ := getS2 Xw34_11 hx hZ hown (host := "") (Or.inl (hw _ (List.mem_of_getElem? (i := 14) rfl))) Via.refl ew34_11 (S5.ext Kw34_11) (g := (mkF m 37 #[.val (.int x0), .unset, .unset, .unset, .unset, .unset, .unset] [(.int (5 : Int32)), (.ref ba2_1), (.ref ba2_1)])) rfl (hb hby at_37)
  refine RunsW.go stg37_12 ?_
  show RunsW p e below s _ _ _ (Tg37_12.setTop (mkF m 40 #[.val (.int x0), .unset, .unset, .unset, .unset, .unset, .unset] [(.ref y5), (.int (5 : Int32)), (.ref ba2_1), (.ref ba2_1)]))
  have VCw40_13 := Vw34_11
  obtain ⟨clw40_13, Arw40_13, qw40_13, Sw40_13, Mw40_13, Hw40_13, Gw40_13⟩ := VCw40_13
  have hinw40_13 : ¬ ((5 : Int32) < 0 ∨ clw40_13.slots.size ≤ ((5 : Int32)).toNatClampNeg) := inb_of Sw40_13 ⟨by decide, by decide⟩
  obtain ⟨Tw40_13, hw40_13, Xw40_13, ew40_13, Ww40_13, stw40_13⟩ := stR Xg37_12 hx hZ eg37_12 Arw40_13 (j := (5 : Int32)) hinw40_13 rfl (Sto.ofV Arw40_13 qw40_13 Oa2_1 (Ins.of_exa (E5.ext Kw34_11) (hw _ (List.mem_of_getElem? (i := 5) rfl)))) (g := (mkF m 40 #[.val (.int x0), .unset, .unset, .unset, .unset, .unset, .unset] [(.ref y5), (.int (5 : Int32)), (.ref ba2_1), (.ref ba2_1)])) rfl rfl (hb hby at_40)
  refine RunsW.go stw40_13 ?_
  have hnw40_13 : Z.heap.size ≤ hw40_13.size := by rw [Wr.size Ww40_13]; exact hnw34_11
  have Kw40_13 : Ext Z.heap hw40_13 := own_extw Kw34_11 Ww40_13 gb_ba2_1
  have Vw40_13 : Arv Z hw40_13 ba2_1 ka2_1 (.object "com/example/replay/replay/api/EventType") (13 : Int32) [(.ref y0), (.ref y1), (.ref y2), (.ref y3), (.ref y4), (.ref y5), .null, .null, .null, .null, .null, .null, .null] .null := Arv.set Arw40_13 qw40_13 Sw40_13 Mw40_13 Hw40_13 Gw40_13 rfl Ww40_13 5 rfl (Nat.le_of_ble_eq_true rfl)
  have Nw40_13 := Fr.snoc Xw40_13 Nw34_11 gb_ba2_1
  show RunsW p e below s _ _ _ (Tw40_13.setTop (mkF m 41 #[.val (.int x0), .unset, .unset, .unset, .unset, .unset, .unset] [(.ref ba2_1)]))
  refine RunsW.go (fun _ => XS.dup Xw40_13.here hx rfl (hb hby at_41) rfl rfl) ?_
  show RunsW p e below s _ _ _ (Tw40_13.setTop (mkF m 42 #[.val (.int x0), .unset, .unset, .unset, .unset, .unset, .unset] [(.ref ba2_1), (.ref ba2_1)]))
  refine RunsW.go (fun _ => XS.bipush Xw40_13.here hx rfl (hb hby at_42)) ?_
  show RunsW p e below s _ _ _ (Tw40_13.setTop (mkF m 44 #[.val (.int x0), .unset, .unset, .unset, .unset, .unset, .unset] [(.int (6 : Int32)), (.ref ba2_1), (.ref ba2_1)]))
  obtain ⟨Tg44_14, Xg44_14, eg44_14, stg44_14⟩ := getS2 Xw40_13 hx hZ hown (host := "") (Or.inl (hw _ (List.mem_of_getElem? (i := 16) rfl))) Via.refl ew40_13 (S6.ext Kw40_13) (g := (mkF m 44 #[.val (.int x0), .unset, .unset, .unset, .unset, .unset, .unset] [(.int (6 : Int32)), (.ref ba2_1), (.ref ba2_1)])) rfl (hb hby at_44)
  refine RunsW.go stg44_14 ?_
  show RunsW p e below s _ _ _ (Tg44_14.setTop (mkF m 47 #[.val (.int x0), .unset, .unset, .unset, .unset, .unset, .unset] [(.ref y6), (.int (6 : Int32)), (.ref ba2_1), (.ref ba2_1)]))
  have VCw47_15 := Vw40_13
  obtain ⟨clw47_15, Arw47_15, qw47_15, Sw47_15, Mw47_15, Hw47_15, Gw47_15⟩ := VCw47_15
  have hinw47_15 : ¬ ((6 : Int32) < 0 ∨ clw47_15.slots.size ≤ ((6 : Int32)).toNatClampNeg) := inb_of Sw47_15 ⟨by decide, by decide⟩
  obtain ⟨Tw47_15, hw47_15, Xw47_15, ew47_15, Ww47_15, stw47_15⟩ := stR Xg44_14 hx hZ eg44_14 Arw47_15 (j := (6 : Int32)) hinw47_15 rfl (Sto.ofV Arw47_15 qw47_15 Oa2_1 (Ins.of_exa (E6.ext Kw40_13) (hw _ (List.mem_of_getElem? (i := 5) rfl)))) (g := (mkF m 47 #[.val (.int x0), .unset, .unset, .unset, .unset, .unset, .unset] [(.ref y6), (.int (6 : Int32)), (.ref ba2_1), (.ref ba2_1)])) rfl rfl (hb hby at_47)
  refine RunsW.go stw47_15 ?_
  have hnw47_15 : Z.heap.size ≤ hw47_15.size := by rw [Wr.size Ww47_15]; exact hnw40_13
  have Kw47_15 : Ext Z.heap hw47_15 := own_extw Kw40_13 Ww47_15 gb_ba2_1
  have Vw47_15 : Arv Z hw47_15 ba2_1 ka2_1 (.object "com/example/replay/replay/api/EventType") (13 : Int32) [(.ref y0), (.ref y1), (.ref y2), (.ref y3), (.ref y4), (.ref y5), (.ref y6), .null, .null, .null, .null, .null, .null] .null := Arv.set Arw47_15 qw47_15 Sw47_15 Mw47_15 Hw47_15 Gw47_15 rfl Ww47_15 6 rfl (Nat.le_of_ble_eq_true rfl)
  have Nw47_15 := Fr.snoc Xw47_15 Nw40_13 gb_ba2_1
  show RunsW p e below s _ _ _ (Tw47_15.setTop (mkF m 48 #[.val (.int x0), .unset, .unset, .unset, .unset, .unset, .unset] [(.ref ba2_1)]))
  refine RunsW.go (fun _ => XS.dup Xw47_15.here hx rfl (hb hby at_48) rfl rfl) ?_
  show RunsW p e below s _ _ _ (Tw47_15.setTop (mkF m 49 #[.val (.int x0), .unset, .unset, .unset, .unset, .unset, .unset] [(.ref ba2_1), (.ref ba2_1)]))
  refine RunsW.go (fun _ => XS.bipush Xw47_15.here hx rfl (hb hby at_49)) ?_
  show RunsW p e below s _ _ _ (Tw47_15.setTop (mkF m 51 #[.val (.int x0), .unset, .unset, .unset, .unset, .unset, .unset] [(.int (7 : Int32)), (.ref ba2_1), (.ref ba2_1)]))
  obtain ⟨Tg51_16, Xg51_16, eg51_16, stg51_16⟩ := getS2 Xw47_15 hx hZ hown (host := "") (Or.inl (hw _ (List.mem_of_getElem? (i := 18) rfl))) Via.refl ew47_15 (S7.ext Kw47_15) (g := (mkF m 51 #[.val (.int x0), .unset, .unset, .unset, .unset, .unset, .unset] [(.int (7 : Int32)), (.ref ba2_1), (.ref ba2_1)])) rfl (hb hby at_51)
  refine RunsW.go stg51_16 ?_
  show RunsW p e below s _ _ _ (Tg51_16.setTop (mkF m 54 #[.val (.int x0), .unset, .unset, .unset, .unset, .unset, .unset] [(.ref y7), (.int (7 : Int32)), (.ref ba2_1), (.ref ba2_1)]))
  have VCw54_17 := Vw47_15
  obtain ⟨clw54_17, Arw54_17, qw54_17, Sw54_17, Mw54_17, Hw54_17, Gw54_17⟩ := VCw54_17
  have hinw54_17 : ¬ ((7 : Int32) < 0 ∨ clw54_17.slots.size ≤ ((7 : Int32)).toNatClampNeg) := inb_of Sw54_17 ⟨by decide, by decide⟩
  obtain ⟨Tw54_17, hw54_17, Xw54_17, ew54_17, Ww54_17, stw54_17⟩ := stR Xg51_16 hx hZ eg51_16 Arw54_17 (j := (7 : Int32)) hinw54_17 rfl (Sto.ofV Arw54_17 qw54_17 Oa2_1 (Ins.of_exa (E7.ext Kw47_15) (hw _ (List.mem_of_getElem? (i := 5) rfl)))) (g := (mkF m 54 #[.val (.int x0), .unset, .unset, .unset, .unset, .unset, .unset] [(.ref y7), (.int (7 : Int32)), (.ref ba2_1), (.ref ba2_1)])) rfl rfl (hb hby at_54)
  refine RunsW.go stw54_17 ?_
  have hnw54_17 : Z.heap.size ≤ hw54_17.size := by rw [Wr.size Ww54_17]; exact hnw47_15
  have Kw54_17 : Ext Z.heap hw54_17 := own_extw Kw47_15 Ww54_17 gb_ba2_1
  have Vw54_17 : Arv Z hw54_17 ba2_1 ka2_1 (.object "com/example/replay/replay/api/EventType") (13 : Int32) [(.ref y0), (.ref y1), (.ref y2), (.ref y3), (.ref y4), (.ref y5), (.ref y6), (.ref y7), .null, .null, .null, .null, .null] .null := Arv.set Arw54_17 qw54_17 Sw54_17 Mw54_17 Hw54_17 Gw54_17 rfl Ww54_17 7 rfl (Nat.le_of_ble_eq_true rfl)
  have Nw54_17 := Fr.snoc Xw54_17 Nw47_15 gb_ba2_1
  show RunsW p e below s _ _ _ (Tw54_17.setTop (mkF m 55 #[.val (.int x0), .unset, .unset, .unset, .unset, .unset, .unset] [(.ref ba2_1)]))
  refine RunsW.go (fun _ => XS.dup Xw54_17.here hx rfl (hb hby at_55) rfl rfl) ?_
  show RunsW p e below s _ _ _ (Tw54_17.setTop (mkF m 56 #[.val (.int x0), .unset, .unset, .unset, .unset, .unset, .unset] [(.ref ba2_1), (.ref ba2_1)]))
  refine RunsW.go (fun _ => XS.bipush Xw54_17.here hx rfl (hb hby at_56)) ?_
  show RunsW p e below s _ _ _ (Tw54_17.setTop (mkF m 58 #[.val (.int x0), .unset, .unset, .unset, .unset, .unset, .unset] [(.int (8 : Int32)), (.ref ba2_1), (.ref ba2_1)]))
  obtain ⟨Tg58_18, Xg58_18, eg58_18, stg58_18⟩ := getS2 Xw54_17 hx hZ hown (host := "") (Or.inl (hw _ (List.mem_of_getElem? (i := 20) rfl))) Via.refl ew54_17 (S8.ext Kw54_17) (g := (mkF m 58 #[.val (.int x0), .unset, .unset, .unset, .unset, .unset, .unset] [(.int (8 : Int32)), (.ref ba2_1), (.ref ba2_1)])) rfl (hb hby at_58)
  refine RunsW.go stg58_18 ?_
  show RunsW p e below s _ _ _ (Tg58_18.setTop (mkF m 61 #[.val (.int x0), .unset, .unset, .unset, .unset, .unset, .unset] [(.ref y8), (.int (8 : Int32)), (.ref ba2_1), (.ref ba2_1)]))
  have VCw61_19 := Vw54_17
  obtain ⟨clw61_19, Arw61_19, qw61_19, Sw61_19, Mw61_19, Hw61_19, Gw61_19⟩ := VCw61_19
  have hinw61_19 : ¬ ((8 : Int32) < 0 ∨ clw61_19.slots.size ≤ ((8 : Int32)).toNatClampNeg) := inb_of Sw61_19 ⟨by decide, by decide⟩
  obtain ⟨Tw61_19, hw61_19, Xw61_19, ew61_19, Ww61_19, stw61_19⟩ := stR Xg58_18 hx hZ eg58_18 Arw61_19 (j := (8 : Int32)) hinw61_19 rfl (Sto.ofV Arw61_19 qw61_19 Oa2_1 (Ins.of_exa (E8.ext Kw54_17) (hw _ (List.mem_of_getElem? (i := 5) rfl)))) (g := (mkF m 61 #[.val (.int x0), .unset, .unset, .unset, .unset, .unset, .unset] [(.ref y8), (.int (8 : Int32)), (.ref ba2_1), (.ref ba2_1)])) rfl rfl (hb hby at_61)
  refine RunsW.go stw61_19 ?_
  have hnw61_19 : Z.heap.size ≤ hw61_19.size := by rw [Wr.size Ww61_19]; exact hnw54_17
  have Kw61_19 : Ext Z.heap hw61_19 := own_extw Kw54_17 Ww61_19 gb_ba2_1
  have Vw61_19 : Arv Z hw61_19 ba2_1 ka2_1 (.object "com/example/replay/replay/api/EventType") (13 : Int32) [(.ref y0), (.ref y1), (.ref y2), (.ref y3), (.ref y4), (.ref y5), (.ref y6), (.ref y7), (.ref y8), .null, .null, .null, .null] .null := Arv.set Arw61_19 qw61_19 Sw61_19 Mw61_19 Hw61_19 Gw61_19 rfl Ww61_19 8 rfl (Nat.le_of_ble_eq_true rfl)
  have Nw61_19 := Fr.snoc Xw61_19 Nw54_17 gb_ba2_1
  show RunsW p e below s _ _ _ (Tw61_19.setTop (mkF m 62 #[.val (.int x0), .unset, .unset, .unset, .unset, .unset, .unset] [(.ref ba2_1)]))
  refine RunsW.go (fun _ => XS.dup Xw61_19.here hx rfl (hb hby at_62) rfl rfl) ?_
  show RunsW p e below s _ _ _ (Tw61_19.setTop (mkF m 63 #[.val (.int x0), .unset, .unset, .unset, .unset, .unset, .unset] [(.ref ba2_1), (.ref ba2_1)]))
  refine RunsW.go (fun _ => XS.bipush Xw61_19.here hx rfl (hb hby at_63)) ?_
  show RunsW p e below s _ _ _ (Tw61_19.setTop (mkF m 65 #[.val (.int x0), .unset, .unset, .unset, .unset, .unset, .unset] [(.int (9 : Int32)), (.ref ba2_1), (.ref ba2_1)]))
  obtain ⟨Tg65_20, Xg65_20, eg65_20, stg65_20⟩ := getS2 Xw61_19 hx hZ hown (host := "") (Or.inl (hw _ (List.mem_of_getElem? (i := 22) rfl))) Via.refl ew61_19 (S9.ext Kw61_19) (g := (mkF m 65 #[.val (.int x0), .unset, .unset, .unset, .unset, .unset, .unset] [(.int (9 : Int32)), (.ref ba2_1), (.ref ba2_1)])) rfl (hb hby at_65)
  refine RunsW.go stg65_20 ?_
  show RunsW p e below s _ _ _ (Tg65_20.setTop (mkF m 68 #[.val (.int x0), .unset, .unset, .unset, .unset, .unset, .unset] [(.ref y9), (.int (9 : Int32)), (.ref ba2_1), (.ref ba2_1)]))
  have VCw68_21 := Vw61_19
  obtain ⟨clw68_21, Arw68_21, qw68_21, Sw68_21, Mw68_21, Hw68_21, Gw68_21⟩ := VCw68_21
  have hinw68_21 : ¬ ((9 : Int32) < 0 ∨ clw68_21.slots.size ≤ ((9 : Int32)).toNatClampNeg) := inb_of Sw68_21 ⟨by decide, by decide⟩
  obtain ⟨Tw68_21, hw68_21, Xw68_21, ew68_21, Ww68_21, stw68_21⟩ := stR Xg65_20 hx hZ eg65_20 Arw68_21 (j := (9 : Int32)) hinw68_21 rfl (Sto.ofV Arw68_21 qw68_21 Oa2_1 (Ins.of_exa (E9.ext Kw61_19) (hw _ (List.mem_of_getElem? (i := 5) rfl)))) (g := (mkF m 68 #[.val (.int x0), .unset, .unset, .unset, .unset, .unset, .unset] [(.ref y9), (.int (9 : Int32)), (.ref ba2_1), (.ref ba2_1)])) rfl rfl (hb hby at_68)
  refine RunsW.go stw68_21 ?_
  have hnw68_21 : Z.heap.size ≤ hw68_21.size := by rw [Wr.size Ww68_21]; exact hnw61_19
  have Kw68_21 : Ext Z.heap hw68_21 := own_extw Kw61_19 Ww68_21 gb_ba2_1
  have Vw68_21 : Arv Z hw68_21 ba2_1 ka2_1 (.object "com/example/replay/replay/api/EventType") (13 : Int32) [(.ref y0), (.ref y1), (.ref y2), (.ref y3), (.ref y4), (.ref y5), (.ref y6), (.ref y7), (.ref y8), (.ref y9), .null, .null, .null] .null := Arv.set Arw68_21 qw68_21 Sw68_21 Mw68_21 Hw68_21 Gw68_21 rfl Ww68_21 9 rfl (Nat.le_of_ble_eq_true rfl)
  have Nw68_21 := Fr.snoc Xw68_21 Nw61_19 gb_ba2_1
  show RunsW p e below s _ _ _ (Tw68_21.setTop (mkF m 69 #[.val (.int x0), .unset, .unset, .unset, .unset, .unset, .unset] [(.ref ba2_1)]))
  refine RunsW.go (fun _ => XS.dup Xw68_21.here hx rfl (hb hby at_69) rfl rfl) ?_
  show RunsW p e below s _ _ _ (Tw68_21.setTop (mkF m 70 #[.val (.int x0), .unset, .unset, .unset, .unset, .unset, .unset] [(.ref ba2_1), (.ref ba2_1)]))
  refine RunsW.go (fun _ => XS.bipush Xw68_21.here hx rfl (hb hby at_70)) ?_
  show RunsW p e below s _ _ _ (Tw68_21.setTop (mkF m 72 #[.val (.int x0), .unset, .unset, .unset, .unset, .unset, .unset] [(.int (10 : Int32)), (.ref ba2_1), (.ref ba2_1)]))
  obtain ⟨Tg72_22, Xg72_22, eg72_22, stg72_22⟩ := getS2 Xw68_21 hx hZ hown (host := "") (Or.inl (hw _ (List.mem_of_getElem? (i := 24) rfl))) Via.refl ew68_21 (S10.ext Kw68_21) (g := (mkF m 72 #[.val (.int x0), .unset, .unset, .unset, .unset, .unset, .unset] [(.int (10 : Int32)), (.ref ba2_1), (.ref ba2_1)])) rfl (hb hby at_72)
  refine RunsW.go stg72_22 ?_
  show RunsW p e below s _ _ _ (Tg72_22.setTop (mkF m 75 #[.val (.int x0), .unset, .unset, .unset, .unset, .unset, .unset] [(.ref y10), (.int (10 : Int32)), (.ref ba2_1), (.ref ba2_1)]))
  have VCw75_23 := Vw68_21
  obtain ⟨clw75_23, Arw75_23, qw75_23, Sw75_23, Mw75_23, Hw75_23, Gw75_23⟩ := VCw75_23
  have hinw75_23 : ¬ ((10 : Int32) < 0 ∨ clw75_23.slots.size ≤ ((10 : Int32)).toNatClampNeg) := inb_of Sw75_23 ⟨by decide, by decide⟩
  obtain ⟨Tw75_23, hw75_23, Xw75_23, ew75_23, Ww75_23, stw75_23⟩ := stR Xg72_22 hx hZ eg72_22 Arw75_23 (j := (10 : Int32)) hinw75_23 rfl (Sto.ofV Arw75_23 qw75_23 Oa2_1 (Ins.of_exa (E10.ext Kw68_21) (hw _ (List.mem_of_getElem? (i := 5) rfl)))) (g := (mkF m 75 #[.val (.int x0), .unset, .unset, .unset, .unset, .unset, .unset] [(.ref y10), (.int (10 : Int32)), (.ref ba2_1), (.ref ba2_1)])) rfl rfl (hb hby at_75)
  refine RunsW.go stw75_23 ?_
  have hnw75_23 : Z.heap.size ≤ hw75_23.size := by rw [Wr.size Ww75_23]; exact hnw68_21
  have Kw75_23 : Ext Z.heap hw75_23 := own_extw Kw68_21 Ww75_23 gb_ba2_1
  have Vw75_23 : Arv Z hw75_23 ba2_1 ka2_1 (.object "com/example/replay/replay/api/EventType") (13 : Int32) [(.ref y0), (.ref y1), (.ref y2), (.ref y3), (.ref y4), (.ref y5), (.ref y6), (.ref y7), (.ref y8), (.ref y9), (.ref y10), .null, .null] .null := Arv.set Arw75_23 qw75_23 Sw75_23 Mw75_23 Hw75_23 Gw75_23 rfl Ww75_23 10 rfl (Nat.le_of_ble_eq_true rfl)
  have Nw75_23 := Fr.snoc Xw75_23 Nw68_21 gb_ba2_1
  show RunsW p e below s _ _ _ (Tw75_23.setTop (mkF m 76 #[.val (.int x0), .unset, .unset, .unset, .unset, .unset, .unset] [(.ref ba2_1)]))
  refine RunsW.go (fun _ => XS.dup Xw75_23.here hx rfl (hb hby at_76) rfl rfl) ?_
  show RunsW p e below s _ _ _ (Tw75_23.setTop (mkF m 77 #[.val (.int x0), .unset, .unset, .unset, .unset, .unset, .unset] [(.ref ba2_1), (.ref ba2_1)]))
  refine RunsW.go (fun _ => XS.bipush Xw75_23.here hx rfl (hb hby at_77)) ?_
  show RunsW p e below s _ _ _ (Tw75_23.setTop (mkF m 79 #[.val (.int x0), .unset, .unset, .unset, .unset, .unset, .unset] [(.int (11 : Int32)), (.ref ba2_1), (.ref ba2_1)]))
  obtain ⟨Tg79_24, Xg79_24, eg79_24, stg79_24⟩ := getS2 Xw75_23 hx hZ hown (host := "") (Or.inl (hw _ (List.mem_of_getElem? (i := 26) rfl))) Via.refl ew75_23 (S11.ext Kw75_23) (g := (mkF m 79 #[.val (.int x0), .unset, .unset, .unset, .unset, .unset, .unset] [(.int (11 : Int32)), (.ref ba2_1), (.ref ba2_1)])) rfl (hb hby at_79)
  refine RunsW.go stg79_24 ?_
  show RunsW p e below s _ _ _ (Tg79_24.setTop (mkF m 82 #[.val (.int x0), .unset, .unset, .unset, .unset, .unset, .unset] [(.ref y11), (.int (11 : Int32)), (.ref ba2_1), (.ref ba2_1)]))
  have VCw82_25 := Vw75_23
  obtain ⟨clw82_25, Arw82_25, qw82_25, Sw82_25, Mw82_25, Hw82_25, Gw82_25⟩ := VCw82_25
  have hinw82_25 : ¬ ((11 : Int32) < 0 ∨ clw82_25.slots.size ≤ ((11 : Int32)).toNatClampNeg) := inb_of Sw82_25 ⟨by decide, by decide⟩
  obtain ⟨Tw82_25, hw82_25, Xw82_25, ew82_25, Ww82_25, stw82_25⟩ := stR Xg79_24 hx hZ eg79_24 Arw82_25 (j := (11 : Int32)) hinw82_25 rfl (Sto.ofV Arw82_25 qw82_25 Oa2_1 (Ins.of_exa (E11.ext Kw75_23) (hw _ (List.mem_of_getElem? (i := 5) rfl)))) (g := (mkF m 82 #[.val (.int x0), .unset, .unset, .unset, .unset, .unset, .unset] [(.ref y11), (.int (11 : Int32)), (.ref ba2_1), (.ref ba2_1)])) rfl rfl (hb hby at_82)
  refine RunsW.go stw82_25 ?_
  have hnw82_25 : Z.heap.size ≤ hw82_25.size := by rw [Wr.size Ww82_25]; exact hnw75_23
  have Kw82_25 : Ext Z.heap hw82_25 := own_extw Kw75_23 Ww82_25 gb_ba2_1
  have Vw82_25 : Arv Z hw82_25 ba2_1 ka2_1 (.object "com/example/replay/replay/api/EventType") (13 : Int32) [(.ref y0), (.ref y1), (.ref y2), (.ref y3), (.ref y4), (.ref y5), (.ref y6), (.ref y7), (.ref y8), (.ref y9), (.ref y10), (.ref y11), .null] .null := Arv.set Arw82_25 qw82_25 Sw82_25 Mw82_25 Hw82_25 Gw82_25 rfl Ww82_25 11 rfl (Nat.le_of_ble_eq_true rfl)
  have Nw82_25 := Fr.snoc Xw82_25 Nw75_23 gb_ba2_1
  show RunsW p e below s _ _ _ (Tw82_25.setTop (mkF m 83 #[.val (.int x0), .unset, .unset, .unset, .unset, .unset, .unset] [(.ref ba2_1)]))
  refine RunsW.go (fun _ => XS.dup Xw82_25.here hx rfl (hb hby at_83) rfl rfl) ?_
  show RunsW p e below s _ _ _ (Tw82_25.setTop (mkF m 84 #[.val (.int x0), .unset, .unset, .unset, .unset, .unset, .unset] [(.ref ba2_1), (.ref ba2_1)]))
  refine RunsW.go (fun _ => XS.bipush Xw82_25.here hx rfl (hb hby at_84)) ?_
  show RunsW p e below s _ _ _ (Tw82_25.setTop (mkF m 86 #[.val (.int x0), .unset, .unset, .unset, .unset, .unset, .unset] [(.int (12 : Int32)), (.ref ba2_1), (.ref ba2_1)]))
  obtain ⟨Tg86_26, Xg86_26, eg86_26, stg86_26⟩ := getS2 Xw82_25 hx hZ hown (host := "") (Or.inl (hw _ (List.mem_of_getElem? (i := 28) rfl))) Via.refl ew82_25 (S12.ext Kw82_25) (g := (mkF m 86 #[.val (.int x0), .unset, .unset, .unset, .unset, .unset, .unset] [(.int (12 : Int32)), (.ref ba2_1), (.ref ba2_1)])) rfl (hb hby at_86)
  refine RunsW.go stg86_26 ?_
  show RunsW p e below s _ _ _ (Tg86_26.setTop (mkF m 89 #[.val (.int x0), .unset, .unset, .unset, .unset, .unset, .unset] [(.ref y12), (.int (12 : Int32)), (.ref ba2_1), (.ref ba2_1)]))
  have VCw89_27 := Vw82_25
  obtain ⟨clw89_27, Arw89_27, qw89_27, Sw89_27, Mw89_27, Hw89_27, Gw89_27⟩ := VCw89_27
  have hinw89_27 : ¬ ((12 : Int32) < 0 ∨ clw89_27.slots.size ≤ ((12 : Int32)).toNatClampNeg) := inb_of Sw89_27 ⟨by decide, by decide⟩
  obtain ⟨Tw89_27, hw89_27, Xw89_27, ew89_27, Ww89_27, stw89_27⟩ := stR Xg86_26 hx hZ eg86_26 Arw89_27 (j := (12 : Int32)) hinw89_27 rfl (Sto.ofV Arw89_27 qw89_27 Oa2_1 (Ins.of_exa (E12.ext Kw82_25) (hw _ (List.mem_of_getElem? (i := 5) rfl)))) (g := (mkF m 89 #[.val (.int x0), .unset, .unset, .unset, .unset, .unset, .unset] [(.ref y12), (.int (12 : Int32)), (.ref ba2_1), (.ref ba2_1)])) rfl rfl (hb hby at_89)
  refine RunsW.go stw89_27 ?_
  have hnw89_27 : Z.heap.size ≤ hw89_27.size := by rw [Wr.size Ww89_27]; exact hnw82_25
  have Kw89_27 : Ext Z.heap hw89_27 := own_extw Kw82_25 Ww89_27 gb_ba2_1
  have Vw89_27 : Arv Z hw89_27 ba2_1 ka2_1 (.object "com/example/replay/replay/api/EventType") (13 : Int32) [(.ref y0), (.ref y1), (.ref y2), (.ref y3), (.ref y4), (.ref y5), (.ref y6), (.ref y7), (.ref y8), (.ref y9), (.ref y10), (.ref y11), (.ref y12)] .null := Arv.set Arw89_27 qw89_27 Sw89_27 Mw89_27 Hw89_27 Gw89_27 rfl Ww89_27 12 rfl (Nat.le_of_ble_eq_true rfl)
  have Nw89_27 := Fr.snoc Xw89_27 Nw82_25 gb_ba2_1
  show RunsW p e below s _ _ _ (Tw89_27.setTop (mkF m 90 #[.val (.int x0), .unset, .unset, .unset, .unset, .unset, .unset] [(.ref ba2_1)]))
  refine RunsW.go (fun _ => XS.astoreN Xw89_27.here hx rfl (hb hby at_90) rfl rfl (l' := #[.val (.int x0), .val (.ref ba2_1), .unset, .unset, .unset, .unset, .unset]) rfl) ?_
  show RunsW p e below s _ _ _ (Tw89_27.setTop (mkF m 91 #[.val (.int x0), .val (.ref ba2_1), .unset, .unset, .unset, .unset, .unset] []))
  refine RunsW.go (fun _ => XS.iloadN Xw89_27.here hx rfl (hb hby at_91) rfl) ?_
  show RunsW p e below s _ _ _ (Tw89_27.setTop (mkF m 92 #[.val (.int x0), .val (.ref ba2_1), .unset, .unset, .unset, .unset, .unset] [(.int x0)]))
  refine RunsW.go (Xw89_27.ldcInt hx hown (mvT hZ (hw _ (List.mem_of_getElem? (i := 30) rfl))) (g := (mkF m 92 #[.val (.int x0), .val (.ref ba2_1), .unset, .unset, .unset, .unset, .unset] [(.int x0)])) rfl (hb hby at_92)) ?_
  show RunsW p e below s _ _ _ (Tw89_27.setTop (mkF m 94 #[.val (.int x0), .val (.ref ba2_1), .unset, .unset, .unset, .unset, .unset] [(.int (2147483647 : Int32)), (.int x0)]))
  refine RunsW.go (fun _ => XS.iand Xw89_27.here hx rfl (hb hby at_94) rfl) ?_
  show RunsW p e below s _ _ _ (Tw89_27.setTop (mkF m 95 #[.val (.int x0), .val (.ref ba2_1), .unset, .unset, .unset, .unset, .unset] [(.int (x0 &&& (2147483647 : Int32)))]))
  refine RunsW.go (fun _ => XS.bipush Xw89_27.here hx rfl (hb hby at_95)) ?_
  show RunsW p e below s _ _ _ (Tw89_27.setTop (mkF m 97 #[.val (.int x0), .val (.ref ba2_1), .unset, .unset, .unset, .unset, .unset] [(.int (13 : Int32)), (.int (x0 &&& (2147483647 : Int32)))]))
  refine RunsW.go (fun _ => XS.irem Xw89_27.here hx rfl (hb hby at_97) rfl (by decide)) ?_
  show RunsW p e below s _ _ _ (Tw89_27.setTop (mkF m 98 #[.val (.int x0), .val (.ref ba2_1), .unset, .unset, .unset, .unset, .unset] [(.int ((x0 &&& (2147483647 : Int32)) - (x0 &&& (2147483647 : Int32)) / (13 : Int32) * (13 : Int32)))]))
  rcases own_mod x0 with q | q | q | q | q | q | q | q | q | q | q | q | q
  · rw [q]
    show RunsW p e below s _ _ _ (Tw89_27.setTop (mkF m 98 #[.val (.int x0), .val (.ref ba2_1), .unset, .unset, .unset, .unset, .unset] [(.int (0 : Int32))]))
    refine RunsW.go (fun _ => XS.istoreN Xw89_27.here hx rfl (hb hby at_98) rfl (l' := #[.val (.int x0), .val (.ref ba2_1), .val (.int (0 : Int32)), .unset, .unset, .unset, .unset]) rfl) ?_
    show RunsW p e below s _ _ _ (Tw89_27.setTop (mkF m 99 #[.val (.int x0), .val (.ref ba2_1), .val (.int (0 : Int32)), .unset, .unset, .unset, .unset] []))
    refine RunsW.go (fun _ => XS.aloadN Xw89_27.here hx rfl (hb hby at_99) rfl rfl) ?_
    show RunsW p e below s _ _ _ (Tw89_27.setTop (mkF m 100 #[.val (.int x0), .val (.ref ba2_1), .val (.int (0 : Int32)), .unset, .unset, .unset, .unset] [(.ref ba2_1)]))
    refine RunsW.go (fun _ => XS.iloadN Xw89_27.here hx rfl (hb hby at_100) rfl) ?_
    show RunsW p e below s _ _ _ (Tw89_27.setTop (mkF m 101 #[.val (.int x0), .val (.ref ba2_1), .val (.int (0 : Int32)), .unset, .unset, .unset, .unset] [(.int (0 : Int32)), (.ref ba2_1)]))
    have VCr101_28 := Vw89_27
    obtain ⟨clr101_28, Arr101_28, -, Sr101_28, Mr101_28, Hr101_28, -⟩ := VCr101_28
    have hinr101_28 : ¬ ((0 : Int32) < 0 ∨ clr101_28.slots.size ≤ ((0 : Int32)).toNatClampNeg) := inb_of Sr101_28 ⟨by decide, by decide⟩
    have hatr101_28 : clr101_28.slots[((0 : Int32)).toNatClampNeg]? = some (.ref y0) := Has.at Hr101_28 hinr101_28 rfl
    refine RunsW.go (Xw89_27.aaload hx (j := (0 : Int32)) (v := (.ref y0)) (by rw [ew89_27]; exact Arr101_28.1) (State.isArrayOf_alike hZ.alike Arr101_28.2.1) rfl Arr101_28.2.2 hinr101_28 hatr101_28 (g := (mkF m 101 #[.val (.int x0), .val (.ref ba2_1), .val (.int (0 : Int32)), .unset, .unset, .unset, .unset] [(.int (0 : Int32)), (.ref ba2_1)])) rfl rfl (hb hby at_101)) ?_
    show RunsW p e below s _ _ _ (Tw89_27.setTop (mkF m 102 #[.val (.int x0), .val (.ref ba2_1), .val (.int (0 : Int32)), .unset, .unset, .unset, .unset] [(.ref y0)]))
    refine RunsW.go (fun _ => XS.astoreN Xw89_27.here hx rfl (hb hby at_102) rfl rfl (l' := #[.val (.int x0), .val (.ref ba2_1), .val (.int (0 : Int32)), .val (.ref y0), .unset, .unset, .unset]) rfl) ?_
    show RunsW p e below s _ _ _ (Tw89_27.setTop (mkF m 103 #[.val (.int x0), .val (.ref ba2_1), .val (.int (0 : Int32)), .val (.ref y0), .unset, .unset, .unset] []))
    refine RunsW.go (fun _ => XS.iloadN Xw89_27.here hx rfl (hb hby at_103) rfl) ?_
    show RunsW p e below s _ _ _ (Tw89_27.setTop (mkF m 104 #[.val (.int x0), .val (.ref ba2_1), .val (.int (0 : Int32)), .val (.ref y0), .unset, .unset, .unset] [(.int (0 : Int32))]))
    refine RunsW.go (fun _ => XS.iconst Xw89_27.here hx rfl (hb hby at_104)) ?_
    show RunsW p e below s _ _ _ (Tw89_27.setTop (mkF m 105 #[.val (.int x0), .val (.ref ba2_1), .val (.int (0 : Int32)), .val (.ref y0), .unset, .unset, .unset] [(.int (1 : Int32)), (.int (0 : Int32))]))
    refine RunsW.go (fun _ => XS.icmpYes Xw89_27.here hx rfl (pc0 := 105) (pc' := 117) rfl (hb hby at_105) rfl (tlt ((by decide) : (0 : Int32) < (1 : Int32))).1 (by decide) (by decide)) ?_
    show RunsW p e below s _ _ _ (Tw89_27.setTop (mkF m 117 #[.val (.int x0), .val (.ref ba2_1), .val (.int (0 : Int32)), .val (.ref y0), .unset, .unset, .unset] []))
    refine RunsW.go (fun _ => XS.iconst Xw89_27.here hx rfl (hb hby at_117)) ?_
    show RunsW p e below s _ _ _ (Tw89_27.setTop (mkF m 118 #[.val (.int x0), .val (.ref ba2_1), .val (.int (0 : Int32)), .val (.ref y0), .unset, .unset, .unset] [(.int (0 : Int32))]))
    refine RunsW.go (fun _ => XS.istore Xw89_27.here hx rfl (hb hby at_118) rfl (l' := #[.val (.int x0), .val (.ref ba2_1), .val (.int (0 : Int32)), .val (.ref y0), .val (.int (0 : Int32)), .unset, .unset]) rfl) ?_
    show RunsW p e below s _ _ _ (Tw89_27.setTop (mkF m 120 #[.val (.int x0), .val (.ref ba2_1), .val (.int (0 : Int32)), .val (.ref y0), .val (.int (0 : Int32)), .unset, .unset] []))
    refine RunsW.go (fun _ => XS.aloadN Xw89_27.here hx rfl (hb hby at_120) rfl rfl) ?_
    show RunsW p e below s _ _ _ (Tw89_27.setTop (mkF m 121 #[.val (.int x0), .val (.ref ba2_1), .val (.int (0 : Int32)), .val (.ref y0), .val (.int (0 : Int32)), .unset, .unset] [(.ref y0)]))
    obtain ⟨cqc121_29, kqc121_29, qc121_29a, qc121_29b, qc121_29c⟩ := isOf hZ ew89_27 (E0.ext Kw89_27)
    obtain ⟨_, _, ⟨Tc121_29, Lc121_29, kc121_29, nc121_29⟩, -, Xc121_29, ⟨Lcc121_29, hQc121_29, lc121_29, yc121_29, zc121_29⟩, stc121_29⟩ := Xw89_27.virtualBack hx (y := (⟨"com/example/replay/replay/api/EventType", "isActivityEvent", "()Z"⟩ : MethodName)) (z := (⟨"com/example/replay/replay/api/EventType", "isActivityEvent", "()Z"⟩ : MethodName)) hown (mvT hZ (hw _ (List.mem_of_getElem? (i := 31) rfl))) (mvT hZ (hw _ (List.mem_of_getElem? (i := 32) rfl))) (notFace_of_selects (args := #[]) (mvT hZ (hw _ (List.mem_of_getElem? (i := 34) rfl)))) (mvT hZ (hw _ (List.mem_of_getElem? (i := 34) rfl))) (mvT hZ (hw _ (List.mem_of_getElem? (i := 33) rfl))) (by decide) (backOf (W := 0) (rm1c l Z a0 hw [] y0 y1 y2 y3 hw89_27 Z.heap.size hnw89_27 (E0.ext Kw89_27) (S1.ext Kw89_27) (S2.ext Kw89_27) (S3.ext Kw89_27) (Fld.ne O0 O1 (by decide)) (Fld.ne O0 O2 (by decide)) (Fld.ne O0 O3 (by decide))) hZ (hw _ (List.mem_of_getElem? (i := 35) rfl)) (hw _ (List.mem_of_getElem? (i := 3) rfl)) (by decide) (by decide)) qc121_29a qc121_29c (g := (mkF m 121 #[.val (.int x0), .val (.ref ba2_1), .val (.int (0 : Int32)), .val (.ref y0), .val (.int (0 : Int32)), .unset, .unset] [(.ref y0)])) rfl (by rw [hml]; rfl) (Steps.refl _) (argsL := []) (rest := []) (lenOf pd_0 rfl) rfl (by show 2 * 0 + _ ≤ _; exact Nat.le_of_eq rfl) (hb hby at_121) (fun _ _ => ⟨rfl, ew89_27, (by decide : 1 + 0 ≤ _), (by decide : 13 + 0 ≤ _)⟩)
    dsimp only [Pt.U, Pt.locs, Pt.cells, Pt.slots] at Xc121_29 lc121_29 yc121_29 zc121_29 stc121_29 hQc121_29
    subst lc121_29 yc121_29 zc121_29
    obtain ⟨rfl, rfl, ec121_29⟩ := hQc121_29
    refine RunsW.go (fun _ => stc121_29.trans) ?_
    have Nc121_29 := Fr.app Nw89_27 (Fr.nil Z.heap.size)
    show RunsW p e below s _ _ _ (Tc121_29.setTop (mkF m 124 #[.val (.int x0), .val (.ref ba2_1), .val (.int (0 : Int32)), .val (.ref y0), .val (.int (0 : Int32)), .unset, .unset] [(.int (0 : Int32))]))
    refine RunsW.go (fun _ => XS.istore Xc121_29.here hx rfl (hb hby at_124) rfl (l' := #[.val (.int x0), .val (.ref ba2_1), .val (.int (0 : Int32)), .val (.ref y0), .val (.int (0 : Int32)), .val (.int (0 : Int32)), .unset]) rfl) ?_
    show RunsW p e below s _ _ _ (Tc121_29.setTop (mkF m 126 #[.val (.int x0), .val (.ref ba2_1), .val (.int (0 : Int32)), .val (.ref y0), .val (.int (0 : Int32)), .val (.int (0 : Int32)), .unset] []))
    obtain ⟨bs126_30, Ts126_30, hs126_30, k1s126_30, ds126_30, kks126_30, Xs126_30, es126_30, Es126_30, hSs126_30, hks126_30, hZ, hown, Exs126_30, Fcs126_30, Fvs126_30, Vs126_30, -, -, -, sts126_30⟩ := ldcSV (s := s) (vm0 := s.vm) Xc121_29 hx hZ hown (hw _ (List.mem_of_getElem? (i := 44) rfl)) wS ec121_29 (own_since s) (by rw [hh]; exact Kw89_27.1) (by rw [hh]; exact Nc121_29) hkeep I0 (fun q => nomatch q) hheld hcw (vs := own_act.map Value.int) (z := 8) ⟨by decide, by decide +kernel⟩ (by decide) rfl (g := (mkF m 126 #[.val (.int x0), .val (.ref ba2_1), .val (.int (0 : Int32)), .val (.ref y0), .val (.int (0 : Int32)), .val (.int (0 : Int32)), .unset] [])) rfl (hb hby at_126) (n := 32) (by decide) (by decide) (by decide) (by decide)
    refine RunsW.go sts126_30 ?_
    have Ks126_30 : Ext Z.heap hs126_30 := own_extt Kw89_27 Es126_30
    have hns126_30 : Z.heap.size ≤ hs126_30.size := Nat.le_trans hnw89_27 Es126_30.1
    show RunsW p e below s _ _ _ (Ts126_30.setTop (mkF m 128 #[.val (.int x0), .val (.ref ba2_1), .val (.int (0 : Int32)), .val (.ref y0), .val (.int (0 : Int32)), .val (.int (0 : Int32)), .unset] [(.ref bs126_30)]))
    refine RunsW.go (fun _ => XS.aloadN Xs126_30.here hx rfl (hb hby at_128) rfl rfl) ?_
    show RunsW p e below s _ _ _ (Ts126_30.setTop (mkF m 129 #[.val (.int x0), .val (.ref ba2_1), .val (.int (0 : Int32)), .val (.ref y0), .val (.int (0 : Int32)), .val (.int (0 : Int32)), .unset] [(.ref y0), (.ref bs126_30)]))
    obtain ⟨cqc129_31, kqc129_31, qc129_31a, qc129_31b, qc129_31c⟩ := isOf hZ es126_30 (E0.ext Ks126_30)
    obtain ⟨_, _, ⟨Tc129_31, Lc129_31, kc129_31, nc129_31⟩, -, Xc129_31, ⟨Lcc129_31, hQc129_31, lc129_31, yc129_31, zc129_31⟩, stc129_31⟩ := Xs126_30.virtualBack hx (y := (⟨"com/example/replay/replay/api/EventType", "subject", "()Ljava/lang/String;"⟩ : MethodName)) (z := (⟨"com/example/replay/replay/api/EventType", "subject", "()Ljava/lang/String;"⟩ : MethodName)) hown (mvT hZ (hw _ (List.mem_of_getElem? (i := 52) rfl))) (mvT hZ (hw _ (List.mem_of_getElem? (i := 53) rfl))) (notFace_of_selects (args := #[]) (mvT hZ (hw _ (List.mem_of_getElem? (i := 55) rfl)))) (mvT hZ (hw _ (List.mem_of_getElem? (i := 55) rfl))) (mvT hZ (hw _ (List.mem_of_getElem? (i := 54) rfl))) (by decide) (backOf (W := 1) (rm3 l Z a0 hw [] y0 .null hs126_30 Z.heap.size hns126_30 (F0.ext Ks126_30) rfl) hZ (hw _ (List.mem_of_getElem? (i := 56) rfl)) (hw _ (List.mem_of_getElem? (i := 3) rfl)) (by decide) (by decide)) qc129_31a qc129_31c (g := (mkF m 129 #[.val (.int x0), .val (.ref ba2_1), .val (.int (0 : Int32)), .val (.ref y0), .val (.int (0 : Int32)), .val (.int (0 : Int32)), .unset] [(.ref y0), (.ref bs126_30)])) rfl (by rw [hml]; rfl) (Steps.refl _) (argsL := []) (rest := [(.ref bs126_30)]) (lenOf pd_1 rfl) rfl (by show 2 * 0 + _ ≤ _; exact Nat.le_of_eq rfl) (hb hby at_129) (fun _ _ => ⟨rfl, es126_30, (by decide : 3 + 0 ≤ _), (by decide : 49 + 0 ≤ _)⟩)
    dsimp only [Pt.U, Pt.locs, Pt.cells, Pt.slots] at Xc129_31 lc129_31 yc129_31 zc129_31 stc129_31 hQc129_31
    subst lc129_31 yc129_31 zc129_31
    obtain ⟨rfl, rfl, ec129_31⟩ := hQc129_31
    refine RunsW.go (fun _ => stc129_31.trans) ?_
    have Nc129_31 := Fr.app Nc121_29 (Fr.nil Z.heap.size)
    show RunsW p e below s _ _ _ (Tc129_31.setTop (mkF m 132 #[.val (.int x0), .val (.ref ba2_1), .val (.int (0 : Int32)), .val (.ref y0), .val (.int (0 : Int32)), .val (.int (0 : Int32)), .unset] [.null, (.ref bs126_30)]))
    obtain ⟨cqc132_32, kqc132_32, qc132_32a, qc132_32b, qc132_32c⟩ := isOf hZ ec129_31 Exs126_30
    obtain ⟨_, _, ⟨Tc132_32, Lc132_32, kc132_32, nc132_32⟩, -, Xc132_32, ⟨Lcc132_32, hQc132_32, lc132_32, yc132_32, zc132_32⟩, stc132_32⟩ := Xc129_31.virtualBack hx (y := (⟨"java/lang/String", "equals", "(Ljava/lang/Object;)Z"⟩ : MethodName)) (z := (⟨"java/lang/String", "equals", "(Ljava/lang/Object;)Z"⟩ : MethodName)) hown (mvT hZ (hw _ (List.mem_of_getElem? (i := 59) rfl))) (mvT hZ (hw _ (List.mem_of_getElem? (i := 60) rfl))) (notFace_of_selects (args := #[]) (mvT hZ (hw _ (List.mem_of_getElem? (i := 62) rfl)))) (mvT hZ (hw _ (List.mem_of_getElem? (i := 62) rfl))) (mvT hZ (hw _ (List.mem_of_getElem? (i := 61) rfl))) (by decide) (backOf (W := 0) (rm4n l Z a0 hw [] bs126_30 hs126_30) hZ (hw _ (List.mem_of_getElem? (i := 63) rfl)) (hw _ (List.mem_of_getElem? (i := 45) rfl)) (by decide) (by decide)) qc132_32a qc132_32c (g := (mkF m 132 #[.val (.int x0), .val (.ref ba2_1), .val (.int (0 : Int32)), .val (.ref y0), .val (.int (0 : Int32)), .val (.int (0 : Int32)), .unset] [.null, (.ref bs126_30)])) rfl (by rw [hml]; rfl) (Steps.refl _) (argsL := [.null]) (rest := []) (lenOf pd_2 rfl) rfl (by show 2 * 0 + _ ≤ _; exact Nat.le_of_eq rfl) (hb hby at_132) (fun _ _ => ⟨rfl, ec129_31, (by decide : 3 + 0 ≤ _), (by decide : 49 + 0 ≤ _)⟩)
    dsimp only [Pt.U, Pt.locs, Pt.cells, Pt.slots] at Xc132_32 lc132_32 yc132_32 zc132_32 stc132_32 hQc132_32
    subst lc132_32 yc132_32 zc132_32
    obtain ⟨rfl, rfl, ec132_32⟩ := hQc132_32
    refine RunsW.go (fun _ => stc132_32.trans) ?_
    have Nc132_32 := Fr.app Nc129_31 (Fr.nil Z.heap.size)
    show RunsW p e below s _ _ _ (Tc132_32.setTop (mkF m 135 #[.val (.int x0), .val (.ref ba2_1), .val (.int (0 : Int32)), .val (.ref y0), .val (.int (0 : Int32)), .val (.int (0 : Int32)), .unset] [(.int (0 : Int32))]))
    refine RunsW.go (fun _ => XS.istore Xc132_32.here hx rfl (hb hby at_135) rfl (l' := #[.val (.int x0), .val (.ref ba2_1), .val (.int (0 : Int32)), .val (.ref y0), .val (.int (0 : Int32)), .val (.int (0 : Int32)), .val (.int (0 : Int32))]) rfl) ?_
    show RunsW p e below s _ _ _ (Tc132_32.setTop (mkF m 137 #[.val (.int x0), .val (.ref ba2_1), .val (.int (0 : Int32)), .val (.ref y0), .val (.int (0 : Int32)), .val (.int (0 : Int32)), .val (.int (0 : Int32))] []))
    refine RunsW.go (fun _ => XS.iload Xc132_32.here hx rfl (hb hby at_137) rfl) ?_
    show RunsW p e below s _ _ _ (Tc132_32.setTop (mkF m 139 #[.val (.int x0), .val (.ref ba2_1), .val (.int (0 : Int32)), .val (.ref y0), .val (.int (0 : Int32)), .val (.int (0 : Int32)), .val (.int (0 : Int32))] [(.int (0 : Int32))]))
    refine RunsW.go (fun _ => XS.iload Xc132_32.here hx rfl (hb hby at_139) rfl) ?_
    show RunsW p e below s _ _ _ (Tc132_32.setTop (mkF m 141 #[.val (.int x0), .val (.ref ba2_1), .val (.int (0 : Int32)), .val (.ref y0), .val (.int (0 : Int32)), .val (.int (0 : Int32)), .val (.int (0 : Int32))] [(.int (0 : Int32)), (.int (0 : Int32))]))
    refine RunsW.go (fun _ => XS.icmpNo Xc132_32.here hx rfl (hb hby at_141) rfl (teq (rfl : (0 : Int32) = (0 : Int32))).2) ?_
    show RunsW p e below s _ _ _ (Tc132_32.setTop (mkF m 144 #[.val (.int x0), .val (.ref ba2_1), .val (.int (0 : Int32)), .val (.ref y0), .val (.int (0 : Int32)), .val (.int (0 : Int32)), .val (.int (0 : Int32))] []))
    refine RunsW.go (fun _ => XS.iload Xc132_32.here hx rfl (hb hby at_144) rfl) ?_
    show RunsW p e below s _ _ _ (Tc132_32.setTop (mkF m 146 #[.val (.int x0), .val (.ref ba2_1), .val (.int (0 : Int32)), .val (.ref y0), .val (.int (0 : Int32)), .val (.int (0 : Int32)), .val (.int (0 : Int32))] [(.int (0 : Int32))]))
    refine RunsW.go (fun _ => XS.iload Xc132_32.here hx rfl (hb hby at_146) rfl) ?_
    show RunsW p e below s _ _ _ (Tc132_32.setTop (mkF m 148 #[.val (.int x0), .val (.ref ba2_1), .val (.int (0 : Int32)), .val (.ref y0), .val (.int (0 : Int32)), .val (.int (0 : Int32)), .val (.int (0 : Int32))] [(.int (0 : Int32)), (.int (0 : Int32))]))
    refine RunsW.go (fun _ => XS.icmpNo Xc132_32.here hx rfl (hb hby at_148) rfl (teq (rfl : (0 : Int32) = (0 : Int32))).2) ?_
    show RunsW p e below s _ _ _ (Tc132_32.setTop (mkF m 151 #[.val (.int x0), .val (.ref ba2_1), .val (.int (0 : Int32)), .val (.ref y0), .val (.int (0 : Int32)), .val (.int (0 : Int32)), .val (.int (0 : Int32))] []))
    refine RunsW.go (fun _ => XS.iconst Xc132_32.here hx rfl (hb hby at_151)) ?_
    show RunsW p e below s _ _ _ (Tc132_32.setTop (mkF m 152 #[.val (.int x0), .val (.ref ba2_1), .val (.int (0 : Int32)), .val (.ref y0), .val (.int (0 : Int32)), .val (.int (0 : Int32)), .val (.int (0 : Int32))] [(.int (1 : Int32))]))
    refine RunsW.go (fun _ => XS.goto Xc132_32.here hx rfl (pc0 := 152) (pc' := 156) rfl (hb hby at_152) (by decide) (by decide)) ?_
    show RunsW p e below s _ _ _ (Tc132_32.setTop (mkF m 156 #[.val (.int x0), .val (.ref ba2_1), .val (.int (0 : Int32)), .val (.ref y0), .val (.int (0 : Int32)), .val (.int (0 : Int32)), .val (.int (0 : Int32))] [(.int (1 : Int32))]))
    exact RunsW.endN Xc132_32 hSs126_30 (by rw [ec132_32]; exact hks126_30) hx (t := .boolean) Bd.returns (by simp) Bd.notSynchronized (hb hby at_156) ⟨rfl, Nc132_32⟩ (by decide) (by decide)
  · rw [q]
    show RunsW p e below s _ _ _ (Tw89_27.setTop (mkF m 98 #[.val (.int x0), .val (.ref ba2_1), .unset, .unset, .unset, .unset, .unset] [(.int (1 : Int32))]))
    refine RunsW.go (fun _ => XS.istoreN Xw89_27.here hx rfl (hb hby at_98) rfl (l' := #[.val (.int x0), .val (.ref ba2_1), .val (.int (1 : Int32)), .unset, .unset, .unset, .unset]) rfl) ?_
    show RunsW p e below s _ _ _ (Tw89_27.setTop (mkF m 99 #[.val (.int x0), .val (.ref ba2_1), .val (.int (1 : Int32)), .unset, .unset, .unset, .unset] []))
    refine RunsW.go (fun _ => XS.aloadN Xw89_27.here hx rfl (hb hby at_99) rfl rfl) ?_
    show RunsW p e below s _ _ _ (Tw89_27.setTop (mkF m 100 #[.val (.int x0), .val (.ref ba2_1), .val (.int (1 : Int32)), .unset, .unset, .unset, .unset] [(.ref ba2_1)]))
    refine RunsW.go (fun _ => XS.iloadN Xw89_27.here hx rfl (hb hby at_100) rfl) ?_
    show RunsW p e below s _ _ _ (Tw89_27.setTop (mkF m 101 #[.val (.int x0), .val (.ref ba2_1), .val (.int (1 : Int32)), .unset, .unset, .unset, .unset] [(.int (1 : Int32)), (.ref ba2_1)]))
    have VCr101_33 := Vw89_27
    obtain ⟨clr101_33, Arr101_33, -, Sr101_33, Mr101_33, Hr101_33, -⟩ := VCr101_33
    have hinr101_33 : ¬ ((1 : Int32) < 0 ∨ clr101_33.slots.size ≤ ((1 : Int32)).toNatClampNeg) := inb_of Sr101_33 ⟨by decide, by decide⟩
    have hatr101_33 : clr101_33.slots[((1 : Int32)).toNatClampNeg]? = some (.ref y1) := Has.at Hr101_33 hinr101_33 rfl
    refine RunsW.go (Xw89_27.aaload hx (j := (1 : Int32)) (v := (.ref y1)) (by rw [ew89_27]; exact Arr101_33.1) (State.isArrayOf_alike hZ.alike Arr101_33.2.1) rfl Arr101_33.2.2 hinr101_33 hatr101_33 (g := (mkF m 101 #[.val (.int x0), .val (.ref ba2_1), .val (.int (1 : Int32)), .unset, .unset, .unset, .unset] [(.int (1 : Int32)), (.ref ba2_1)])) rfl rfl (hb hby at_101)) ?_
    show RunsW p e below s _ _ _ (Tw89_27.setTop (mkF m 102 #[.val (.int x0), .val (.ref ba2_1), .val (.int (1 : Int32)), .unset, .unset, .unset, .unset] [(.ref y1)]))
    refine RunsW.go (fun _ => XS.astoreN Xw89_27.here hx rfl (hb hby at_102) rfl rfl (l' := #[.val (.int x0), .val (.ref ba2_1), .val (.int (1 : Int32)), .val (.ref y1), .unset, .unset, .unset]) rfl) ?_
    show RunsW p e below s _ _ _ (Tw89_27.setTop (mkF m 103 #[.val (.int x0), .val (.ref ba2_1), .val (.int (1 : Int32)), .val (.ref y1), .unset, .unset, .unset] []))
    refine RunsW.go (fun _ => XS.iloadN Xw89_27.here hx rfl (hb hby at_103) rfl) ?_
    show RunsW p e below s _ _ _ (Tw89_27.setTop (mkF m 104 #[.val (.int x0), .val (.ref ba2_1), .val (.int (1 : Int32)), .val (.ref y1), .unset, .unset, .unset] [(.int (1 : Int32))]))
    refine RunsW.go (fun _ => XS.iconst Xw89_27.here hx rfl (hb hby at_104)) ?_
    show RunsW p e below s _ _ _ (Tw89_27.setTop (mkF m 105 #[.val (.int x0), .val (.ref ba2_1), .val (.int (1 : Int32)), .val (.ref y1), .unset, .unset, .unset] [(.int (1 : Int32)), (.int (1 : Int32))]))
    refine RunsW.go (fun _ => XS.icmpNo Xw89_27.here hx rfl (hb hby at_105) rfl (flt ((by decide) : ¬ ((1 : Int32) < (1 : Int32)))).1) ?_
    show RunsW p e below s _ _ _ (Tw89_27.setTop (mkF m 108 #[.val (.int x0), .val (.ref ba2_1), .val (.int (1 : Int32)), .val (.ref y1), .unset, .unset, .unset] []))
    refine RunsW.go (fun _ => XS.iloadN Xw89_27.here hx rfl (hb hby at_108) rfl) ?_
    show RunsW p e below s _ _ _ (Tw89_27.setTop (mkF m 109 #[.val (.int x0), .val (.ref ba2_1), .val (.int (1 : Int32)), .val (.ref y1), .unset, .unset, .unset] [(.int (1 : Int32))]))
    refine RunsW.go (fun _ => XS.iconst Xw89_27.here hx rfl (hb hby at_109)) ?_
    show RunsW p e below s _ _ _ (Tw89_27.setTop (mkF m 110 #[.val (.int x0), .val (.ref ba2_1), .val (.int (1 : Int32)), .val (.ref y1), .unset, .unset, .unset] [(.int (3 : Int32)), (.int (1 : Int32))]))
    refine RunsW.go (fun _ => XS.icmpNo Xw89_27.here hx rfl (hb hby at_110) rfl (flt ((by decide) : ¬ ((3 : Int32) < (1 : Int32)))).2.2.1) ?_
    show RunsW p e below s _ _ _ (Tw89_27.setTop (mkF m 113 #[.val (.int x0), .val (.ref ba2_1), .val (.int (1 : Int32)), .val (.ref y1), .unset, .unset, .unset] []))
    refine RunsW.go (fun _ => XS.iconst Xw89_27.here hx rfl (hb hby at_113)) ?_
    show RunsW p e below s _ _ _ (Tw89_27.setTop (mkF m 114 #[.val (.int x0), .val (.ref ba2_1), .val (.int (1 : Int32)), .val (.ref y1), .unset, .unset, .unset] [(.int (1 : Int32))]))
    refine RunsW.go (fun _ => XS.goto Xw89_27.here hx rfl (pc0 := 114) (pc' := 118) rfl (hb hby at_114) (by decide) (by decide)) ?_
    show RunsW p e below s _ _ _ (Tw89_27.setTop (mkF m 118 #[.val (.int x0), .val (.ref ba2_1), .val (.int (1 : Int32)), .val (.ref y1), .unset, .unset, .unset] [(.int (1 : Int32))]))
    refine RunsW.go (fun _ => XS.istore Xw89_27.here hx rfl (hb hby at_118) rfl (l' := #[.val (.int x0), .val (.ref ba2_1), .val (.int (1 : Int32)), .val (.ref y1), .val (.int (1 : Int32)), .unset, .unset]) rfl) ?_
    show RunsW p e below s _ _ _ (Tw89_27.setTop (mkF m 120 #[.val (.int x0), .val (.ref ba2_1), .val (.int (1 : Int32)), .val (.ref y1), .val (.int (1 : Int32)), .unset, .unset] []))
    refine RunsW.go (fun _ => XS.aloadN Xw89_27.here hx rfl (hb hby at_120) rfl rfl) ?_
    show RunsW p e below s _ _ _ (Tw89_27.setTop (mkF m 121 #[.val (.int x0), .val (.ref ba2_1), .val (.int (1 : Int32)), .val (.ref y1), .val (.int (1 : Int32)), .unset, .unset] [(.ref y1)]))
    obtain ⟨cqc121_34, kqc121_34, qc121_34a, qc121_34b, qc121_34c⟩ := isOf hZ ew89_27 (E1.ext Kw89_27)
    obtain ⟨_, _, ⟨Tc121_34, Lc121_34, kc121_34, nc121_34⟩, -, Xc121_34, ⟨Lcc121_34, hQc121_34, lc121_34, yc121_34, zc121_34⟩, stc121_34⟩ := Xw89_27.virtualBack hx (y := (⟨"com/example/replay/replay/api/EventType", "isActivityEvent", "()Z"⟩ : MethodName)) (z := (⟨"com/example/replay/replay/api/EventType", "isActivityEvent", "()Z"⟩ : MethodName)) hown (mvT hZ (hw _ (List.mem_of_getElem? (i := 31) rfl))) (mvT hZ (hw _ (List.mem_of_getElem? (i := 32) rfl))) (notFace_of_selects (args := #[]) (mvT hZ (hw _ (List.mem_of_getElem? (i := 34) rfl)))) (mvT hZ (hw _ (List.mem_of_getElem? (i := 34) rfl))) (mvT hZ (hw _ (List.mem_of_getElem? (i := 33) rfl))) (by decide) (backOf (W := 0) (rm1s l Z a0 hw [] y1 y1 y2 y3 hw89_27 Z.heap.size hnw89_27 (E1.ext Kw89_27) (S1.ext Kw89_27) (S2.ext Kw89_27) (S3.ext Kw89_27) rfl) hZ (hw _ (List.mem_of_getElem? (i := 35) rfl)) (hw _ (List.mem_of_getElem? (i := 3) rfl)) (by decide) (by decide)) qc121_34a qc121_34c (g := (mkF m 121 #[.val (.int x0), .val (.ref ba2_1), .val (.int (1 : Int32)), .val (.ref y1), .val (.int (1 : Int32)), .unset, .unset] [(.ref y1)])) rfl (by rw [hml]; rfl) (Steps.refl _) (argsL := []) (rest := []) (lenOf pd_0 rfl) rfl (by show 2 * 0 + _ ≤ _; exact Nat.le_of_eq rfl) (hb hby at_121) (fun _ _ => ⟨rfl, ew89_27, (by decide : 1 + 0 ≤ _), (by decide : 13 + 0 ≤ _)⟩)
    dsimp only [Pt.U, Pt.locs, Pt.cells, Pt.slots] at Xc121_34 lc121_34 yc121_34 zc121_34 stc121_34 hQc121_34
    subst lc121_34 yc121_34 zc121_34
    obtain ⟨rfl, rfl, ec121_34⟩ := hQc121_34
    refine RunsW.go (fun _ => stc121_34.trans) ?_
    have Nc121_34 := Fr.app Nw89_27 (Fr.nil Z.heap.size)
    show RunsW p e below s _ _ _ (Tc121_34.setTop (mkF m 124 #[.val (.int x0), .val (.ref ba2_1), .val (.int (1 : Int32)), .val (.ref y1), .val (.int (1 : Int32)), .unset, .unset] [(.int (1 : Int32))]))
    refine RunsW.go (fun _ => XS.istore Xc121_34.here hx rfl (hb hby at_124) rfl (l' := #[.val (.int x0), .val (.ref ba2_1), .val (.int (1 : Int32)), .val (.ref y1), .val (.int (1 : Int32)), .val (.int (1 : Int32)), .unset]) rfl) ?_
    show RunsW p e below s _ _ _ (Tc121_34.setTop (mkF m 126 #[.val (.int x0), .val (.ref ba2_1), .val (.int (1 : Int32)), .val (.ref y1), .val (.int (1 : Int32)), .val (.int (1 : Int32)), .unset] []))
    obtain ⟨bs126_35, Ts126_35, hs126_35, k1s126_35, ds126_35, kks126_35, Xs126_35, es126_35, Es126_35, hSs126_35, hks126_35, hZ, hown, Exs126_35, Fcs126_35, Fvs126_35, Vs126_35, -, -, -, sts126_35⟩ := ldcSV (s := s) (vm0 := s.vm) Xc121_34 hx hZ hown (hw _ (List.mem_of_getElem? (i := 44) rfl)) wS ec121_34 (own_since s) (by rw [hh]; exact Kw89_27.1) (by rw [hh]; exact Nc121_34) hkeep I0 (fun q => nomatch q) hheld hcw (vs := own_act.map Value.int) (z := 8) ⟨by decide, by decide +kernel⟩ (by decide) rfl (g := (mkF m 126 #[.val (.int x0), .val (.ref ba2_1), .val (.int (1 : Int32)), .val (.ref y1), .val (.int (1 : Int32)), .val (.int (1 : Int32)), .unset] [])) rfl (hb hby at_126) (n := 32) (by decide) (by decide) (by decide) (by decide)
    refine RunsW.go sts126_35 ?_
    have Ks126_35 : Ext Z.heap hs126_35 := own_extt Kw89_27 Es126_35
    have hns126_35 : Z.heap.size ≤ hs126_35.size := Nat.le_trans hnw89_27 Es126_35.1
    show RunsW p e below s _ _ _ (Ts126_35.setTop (mkF m 128 #[.val (.int x0), .val (.ref ba2_1), .val (.int (1 : Int32)), .val (.ref y1), .val (.int (1 : Int32)), .val (.int (1 : Int32)), .unset] [(.ref bs126_35)]))
    refine RunsW.go (fun _ => XS.aloadN Xs126_35.here hx rfl (hb hby at_128) rfl rfl) ?_
    show RunsW p e below s _ _ _ (Ts126_35.setTop (mkF m 129 #[.val (.int x0), .val (.ref ba2_1), .val (.int (1 : Int32)), .val (.ref y1), .val (.int (1 : Int32)), .val (.int (1 : Int32)), .unset] [(.ref y1), (.ref bs126_35)]))
    obtain ⟨cqc129_36, kqc129_36, qc129_36a, qc129_36b, qc129_36c⟩ := isOf hZ es126_35 (E1.ext Ks126_35)
    obtain ⟨_, _, ⟨Tc129_36, Lc129_36, kc129_36, nc129_36⟩, -, Xc129_36, ⟨Lcc129_36, hQc129_36, lc129_36, yc129_36, zc129_36⟩, stc129_36⟩ := Xs126_35.virtualBack hx (y := (⟨"com/example/replay/replay/api/EventType", "subject", "()Ljava/lang/String;"⟩ : MethodName)) (z := (⟨"com/example/replay/replay/api/EventType", "subject", "()Ljava/lang/String;"⟩ : MethodName)) hown (mvT hZ (hw _ (List.mem_of_getElem? (i := 52) rfl))) (mvT hZ (hw _ (List.mem_of_getElem? (i := 53) rfl))) (notFace_of_selects (args := #[]) (mvT hZ (hw _ (List.mem_of_getElem? (i := 55) rfl)))) (mvT hZ (hw _ (List.mem_of_getElem? (i := 55) rfl))) (mvT hZ (hw _ (List.mem_of_getElem? (i := 54) rfl))) (by decide) (backOf (W := 1) (rm3 l Z a0 hw [] y1 (.ref sA) hs126_35 Z.heap.size hns126_35 (F1.ext Ks126_35) rfl) hZ (hw _ (List.mem_of_getElem? (i := 56) rfl)) (hw _ (List.mem_of_getElem? (i := 3) rfl)) (by decide) (by decide)) qc129_36a qc129_36c (g := (mkF m 129 #[.val (.int x0), .val (.ref ba2_1), .val (.int (1 : Int32)), .val (.ref y1), .val (.int (1 : Int32)), .val (.int (1 : Int32)), .unset] [(.ref y1), (.ref bs126_35)])) rfl (by rw [hml]; rfl) (Steps.refl _) (argsL := []) (rest := [(.ref bs126_35)]) (lenOf pd_1 rfl) rfl (by show 2 * 0 + _ ≤ _; exact Nat.le_of_eq rfl) (hb hby at_129) (fun _ _ => ⟨rfl, es126_35, (by decide : 3 + 0 ≤ _), (by decide : 49 + 0 ≤ _)⟩)
    dsimp only [Pt.U, Pt.locs, Pt.cells, Pt.slots] at Xc129_36 lc129_36 yc129_36 zc129_36 stc129_36 hQc129_36
    subst lc129_36 yc129_36 zc129_36
    obtain ⟨rfl, rfl, ec129_36⟩ := hQc129_36
    refine RunsW.go (fun _ => stc129_36.trans) ?_
    have Nc129_36 := Fr.app Nc121_34 (Fr.nil Z.heap.size)
    show RunsW p e below s _ _ _ (Tc129_36.setTop (mkF m 132 #[.val (.int x0), .val (.ref ba2_1), .val (.int (1 : Int32)), .val (.ref y1), .val (.int (1 : Int32)), .val (.int (1 : Int32)), .unset] [(.ref sA), (.ref bs126_35)]))
    obtain ⟨cqc132_37, kqc132_37, qc132_37a, qc132_37b, qc132_37c⟩ := isOf hZ ec129_36 Exs126_35
    obtain ⟨_, _, ⟨Tc132_37, Lc132_37, kc132_37, nc132_37⟩, -, Xc132_37, ⟨Lcc132_37, hQc132_37, lc132_37, yc132_37, zc132_37⟩, stc132_37⟩ := Xc129_36.virtualBack hx (y := (⟨"java/lang/String", "equals", "(Ljava/lang/Object;)Z"⟩ : MethodName)) (z := (⟨"java/lang/String", "equals", "(Ljava/lang/Object;)Z"⟩ : MethodName)) hown (mvT hZ (hw _ (List.mem_of_getElem? (i := 59) rfl))) (mvT hZ (hw _ (List.mem_of_getElem? (i := 60) rfl))) (notFace_of_selects (args := #[]) (mvT hZ (hw _ (List.mem_of_getElem? (i := 62) rfl)))) (mvT hZ (hw _ (List.mem_of_getElem? (i := 62) rfl))) (mvT hZ (hw _ (List.mem_of_getElem? (i := 61) rfl))) (by decide) (backOf (W := 0) (rm4e l Z a0 hw [] bs126_35 sA hs126_35 (Exs126_35) (Fcs126_35) (Fvs126_35) (Vs126_35) (AA1.ext Ks126_35) (AA2.ext Ks126_35) (AA3.ext Ks126_35) (AA4.ext Ks126_35) (AC.ext Ks126_35) hzc) hZ (hw _ (List.mem_of_getElem? (i := 63) rfl)) (hw _ (List.mem_of_getElem? (i := 45) rfl)) (by decide) (by decide)) qc132_37a qc132_37c (g := (mkF m 132 #[.val (.int x0), .val (.ref ba2_1), .val (.int (1 : Int32)), .val (.ref y1), .val (.int (1 : Int32)), .val (.int (1 : Int32)), .unset] [(.ref sA), (.ref bs126_35)])) rfl (by rw [hml]; rfl) (Steps.refl _) (argsL := [(.ref sA)]) (rest := []) (lenOf pd_2 rfl) rfl (by show 2 * 0 + _ ≤ _; exact Nat.le_of_eq rfl) (hb hby at_132) (fun _ _ => ⟨rfl, ec129_36, (by decide : 3 + 0 ≤ _), (by decide : 49 + 0 ≤ _)⟩)
    dsimp only [Pt.U, Pt.locs, Pt.cells, Pt.slots] at Xc132_37 lc132_37 yc132_37 zc132_37 stc132_37 hQc132_37
    subst lc132_37 yc132_37 zc132_37
    obtain ⟨rfl, rfl, ec132_37⟩ := hQc132_37
    refine RunsW.go (fun _ => stc132_37.trans) ?_
    have Nc132_37 := Fr.app Nc129_36 (Fr.nil Z.heap.size)
    show RunsW p e below s _ _ _ (Tc132_37.setTop (mkF m 135 #[.val (.int x0), .val (.ref ba2_1), .val (.int (1 : Int32)), .val (.ref y1), .val (.int (1 : Int32)), .val (.int (1 : Int32)), .unset] [(.int (1 : Int32))]))
    refine RunsW.go (fun _ => XS.istore Xc132_37.here hx rfl (hb hby at_135) rfl (l' := #[.val (.int x0), .val (.ref ba2_1), .val (.int (1 : Int32)), .val (.ref y1), .val (.int (1 : Int32)), .val (.int (1 : Int32)), .val (.int (1 : Int32))]) rfl) ?_
    show RunsW p e below s _ _ _ (Tc132_37.setTop (mkF m 137 #[.val (.int x0), .val (.ref ba2_1), .val (.int (1 : Int32)), .val (.ref y1), .val (.int (1 : Int32)), .val (.int (1 : Int32)), .val (.int (1 : Int32))] []))
    refine RunsW.go (fun _ => XS.iload Xc132_37.here hx rfl (hb hby at_137) rfl) ?_
    show RunsW p e below s _ _ _ (Tc132_37.setTop (mkF m 139 #[.val (.int x0), .val (.ref ba2_1), .val (.int (1 : Int32)), .val (.ref y1), .val (.int (1 : Int32)), .val (.int (1 : Int32)), .val (.int (1 : Int32))] [(.int (1 : Int32))]))
    refine RunsW.go (fun _ => XS.iload Xc132_37.here hx rfl (hb hby at_139) rfl) ?_
    show RunsW p e below s _ _ _ (Tc132_37.setTop (mkF m 141 #[.val (.int x0), .val (.ref ba2_1), .val (.int (1 : Int32)), .val (.ref y1), .val (.int (1 : Int32)), .val (.int (1 : Int32)), .val (.int (1 : Int32))] [(.int (1 : Int32)), (.int (1 : Int32))]))
    refine RunsW.go (fun _ => XS.icmpNo Xc132_37.here hx rfl (hb hby at_141) rfl (teq (rfl : (1 : Int32) = (1 : Int32))).2) ?_
    show RunsW p e below s _ _ _ (Tc132_37.setTop (mkF m 144 #[.val (.int x0), .val (.ref ba2_1), .val (.int (1 : Int32)), .val (.ref y1), .val (.int (1 : Int32)), .val (.int (1 : Int32)), .val (.int (1 : Int32))] []))
    refine RunsW.go (fun _ => XS.iload Xc132_37.here hx rfl (hb hby at_144) rfl) ?_
    show RunsW p e below s _ _ _ (Tc132_37.setTop (mkF m 146 #[.val (.int x0), .val (.ref ba2_1), .val (.int (1 : Int32)), .val (.ref y1), .val (.int (1 : Int32)), .val (.int (1 : Int32)), .val (.int (1 : Int32))] [(.int (1 : Int32))]))
    refine RunsW.go (fun _ => XS.iload Xc132_37.here hx rfl (hb hby at_146) rfl) ?_
    show RunsW p e below s _ _ _ (Tc132_37.setTop (mkF m 148 #[.val (.int x0), .val (.ref ba2_1), .val (.int (1 : Int32)), .val (.ref y1), .val (.int (1 : Int32)), .val (.int (1 : Int32)), .val (.int (1 : Int32))] [(.int (1 : Int32)), (.int (1 : Int32))]))
    refine RunsW.go (fun _ => XS.icmpNo Xc132_37.here hx rfl (hb hby at_148) rfl (teq (rfl : (1 : Int32) = (1 : Int32))).2) ?_
    show RunsW p e below s _ _ _ (Tc132_37.setTop (mkF m 151 #[.val (.int x0), .val (.ref ba2_1), .val (.int (1 : Int32)), .val (.ref y1), .val (.int (1 : Int32)), .val (.int (1 : Int32)), .val (.int (1 : Int32))] []))
    refine RunsW.go (fun _ => XS.iconst Xc132_37.here hx rfl (hb hby at_151)) ?_
    show RunsW p e below s _ _ _ (Tc132_37.setTop (mkF m 152 #[.val (.int x0), .val (.ref ba2_1), .val (.int (1 : Int32)), .val (.ref y1), .val (.int (1 : Int32)), .val (.int (1 : Int32)), .val (.int (1 : Int32))] [(.int (1 : Int32))]))
    refine RunsW.go (fun _ => XS.goto Xc132_37.here hx rfl (pc0 := 152) (pc' := 156) rfl (hb hby at_152) (by decide) (by decide)) ?_
    show RunsW p e below s _ _ _ (Tc132_37.setTop (mkF m 156 #[.val (.int x0), .val (.ref ba2_1), .val (.int (1 : Int32)), .val (.ref y1), .val (.int (1 : Int32)), .val (.int (1 : Int32)), .val (.int (1 : Int32))] [(.int (1 : Int32))]))
    exact RunsW.endN Xc132_37 hSs126_35 (by rw [ec132_37]; exact hks126_35) hx (t := .boolean) Bd.returns (by simp) Bd.notSynchronized (hb hby at_156) ⟨rfl, Nc132_37⟩ (by decide) (by decide)
  · rw [q]
    show RunsW p e below s _ _ _ (Tw89_27.setTop (mkF m 98 #[.val (.int x0), .val (.ref ba2_1), .unset, .unset, .unset, .unset, .unset] [(.int (2 : Int32))]))
    refine RunsW.go (fun _ => XS.istoreN Xw89_27.here hx rfl (hb hby at_98) rfl (l' := #[.val (.int x0), .val (.ref ba2_1), .val (.int (2 : Int32)), .unset, .unset, .unset, .unset]) rfl) ?_
    show RunsW p e below s _ _ _ (Tw89_27.setTop (mkF m 99 #[.val (.int x0), .val (.ref ba2_1), .val (.int (2 : Int32)), .unset, .unset, .unset, .unset] []))
    refine RunsW.go (fun _ => XS.aloadN Xw89_27.here hx rfl (hb hby at_99) rfl rfl) ?_
    show RunsW p e below s _ _ _ (Tw89_27.setTop (mkF m 100 #[.val (.int x0), .val (.ref ba2_1), .val (.int (2 : Int32)), .unset, .unset, .unset, .unset] [(.ref ba2_1)]))
    refine RunsW.go (fun _ => XS.iloadN Xw89_27.here hx rfl (hb hby at_100) rfl) ?_
    show RunsW p e below s _ _ _ (Tw89_27.setTop (mkF m 101 #[.val (.int x0), .val (.ref ba2_1), .val (.int (2 : Int32)), .unset, .unset, .unset, .unset] [(.int (2 : Int32)), (.ref ba2_1)]))
    have VCr101_38 := Vw89_27
    obtain ⟨clr101_38, Arr101_38, -, Sr101_38, Mr101_38, Hr101_38, -⟩ := VCr101_38
    have hinr101_38 : ¬ ((2 : Int32) < 0 ∨ clr101_38.slots.size ≤ ((2 : Int32)).toNatClampNeg) := inb_of Sr101_38 ⟨by decide, by decide⟩
    have hatr101_38 : clr101_38.slots[((2 : Int32)).toNatClampNeg]? = some (.ref y2) := Has.at Hr101_38 hinr101_38 rfl
    refine RunsW.go (Xw89_27.aaload hx (j := (2 : Int32)) (v := (.ref y2)) (by rw [ew89_27]; exact Arr101_38.1) (State.isArrayOf_alike hZ.alike Arr101_38.2.1) rfl Arr101_38.2.2 hinr101_38 hatr101_38 (g := (mkF m 101 #[.val (.int x0), .val (.ref ba2_1), .val (.int (2 : Int32)), .unset, .unset, .unset, .unset] [(.int (2 : Int32)), (.ref ba2_1)])) rfl rfl (hb hby at_101)) ?_
    show RunsW p e below s _ _ _ (Tw89_27.setTop (mkF m 102 #[.val (.int x0), .val (.ref ba2_1), .val (.int (2 : Int32)), .unset, .unset, .unset, .unset] [(.ref y2)]))
    refine RunsW.go (fun _ => XS.astoreN Xw89_27.here hx rfl (hb hby at_102) rfl rfl (l' := #[.val (.int x0), .val (.ref ba2_1), .val (.int (2 : Int32)), .val (.ref y2), .unset, .unset, .unset]) rfl) ?_
    show RunsW p e below s _ _ _ (Tw89_27.setTop (mkF m 103 #[.val (.int x0), .val (.ref ba2_1), .val (.int (2 : Int32)), .val (.ref y2), .unset, .unset, .unset] []))
    refine RunsW.go (fun _ => XS.iloadN Xw89_27.here hx rfl (hb hby at_103) rfl) ?_
    show RunsW p e below s _ _ _ (Tw89_27.setTop (mkF m 104 #[.val (.int x0), .val (.ref ba2_1), .val (.int (2 : Int32)), .val (.ref y2), .unset, .unset, .unset] [(.int (2 : Int32))]))
    refine RunsW.go (fun _ => XS.iconst Xw89_27.here hx rfl (hb hby at_104)) ?_
    show RunsW p e below s _ _ _ (Tw89_27.setTop (mkF m 105 #[.val (.int x0), .val (.ref ba2_1), .val (.int (2 : Int32)), .val (.ref y2), .unset, .unset, .unset] [(.int (1 : Int32)), (.int (2 : Int32))]))
    refine RunsW.go (fun _ => XS.icmpNo Xw89_27.here hx rfl (hb hby at_105) rfl (flt ((by decide) : ¬ ((2 : Int32) < (1 : Int32)))).1) ?_
    show RunsW p e below s _ _ _ (Tw89_27.setTop (mkF m 108 #[.val (.int x0), .val (.ref ba2_1), .val (.int (2 : Int32)), .val (.ref y2), .unset, .unset, .unset] []))
    refine RunsW.go (fun _ => XS.iloadN Xw89_27.here hx rfl (hb hby at_108) rfl) ?_
    show RunsW p e below s _ _ _ (Tw89_27.setTop (mkF m 109 #[.val (.int x0), .val (.ref ba2_1), .val (.int (2 : Int32)), .val (.ref y2), .unset, .unset, .unset] [(.int (2 : Int32))]))
    refine RunsW.go (fun _ => XS.iconst Xw89_27.here hx rfl (hb hby at_109)) ?_
    show RunsW p e below s _ _ _ (Tw89_27.setTop (mkF m 110 #[.val (.int x0), .val (.ref ba2_1), .val (.int (2 : Int32)), .val (.ref y2), .unset, .unset, .unset] [(.int (3 : Int32)), (.int (2 : Int32))]))
    refine RunsW.go (fun _ => XS.icmpNo Xw89_27.here hx rfl (hb hby at_110) rfl (flt ((by decide) : ¬ ((3 : Int32) < (2 : Int32)))).2.2.1) ?_
    show RunsW p e below s _ _ _ (Tw89_27.setTop (mkF m 113 #[.val (.int x0), .val (.ref ba2_1), .val (.int (2 : Int32)), .val (.ref y2), .unset, .unset, .unset] []))
    refine RunsW.go (fun _ => XS.iconst Xw89_27.here hx rfl (hb hby at_113)) ?_
    show RunsW p e below s _ _ _ (Tw89_27.setTop (mkF m 114 #[.val (.int x0), .val (.ref ba2_1), .val (.int (2 : Int32)), .val (.ref y2), .unset, .unset, .unset] [(.int (1 : Int32))]))
    refine RunsW.go (fun _ => XS.goto Xw89_27.here hx rfl (pc0 := 114) (pc' := 118) rfl (hb hby at_114) (by decide) (by decide)) ?_
    show RunsW p e below s _ _ _ (Tw89_27.setTop (mkF m 118 #[.val (.int x0), .val (.ref ba2_1), .val (.int (2 : Int32)), .val (.ref y2), .unset, .unset, .unset] [(.int (1 : Int32))]))
    refine RunsW.go (fun _ => XS.istore Xw89_27.here hx rfl (hb hby at_118) rfl (l' := #[.val (.int x0), .val (.ref ba2_1), .val (.int (2 : Int32)), .val (.ref y2), .val (.int (1 : Int32)), .unset, .unset]) rfl) ?_
    show RunsW p e below s _ _ _ (Tw89_27.setTop (mkF m 120 #[.val (.int x0), .val (.ref ba2_1), .val (.int (2 : Int32)), .val (.ref y2), .val (.int (1 : Int32)), .unset, .unset] []))
    refine RunsW.go (fun _ => XS.aloadN Xw89_27.here hx rfl (hb hby at_120) rfl rfl) ?_
    show RunsW p e below s _ _ _ (Tw89_27.setTop (mkF m 121 #[.val (.int x0), .val (.ref ba2_1), .val (.int (2 : Int32)), .val (.ref y2), .val (.int (1 : Int32)), .unset, .unset] [(.ref y2)]))
    obtain ⟨cqc121_39, kqc121_39, qc121_39a, qc121_39b, qc121_39c⟩ := isOf hZ ew89_27 (E2.ext Kw89_27)
    obtain ⟨_, _, ⟨Tc121_39, Lc121_39, kc121_39, nc121_39⟩, -, Xc121_39, ⟨Lcc121_39, hQc121_39, lc121_39, yc121_39, zc121_39⟩, stc121_39⟩ := Xw89_27.virtualBack hx (y := (⟨"com/example/replay/replay/api/EventType", "isActivityEvent", "()Z"⟩ : MethodName)) (z := (⟨"com/example/replay/replay/api/EventType", "isActivityEvent", "()Z"⟩ : MethodName)) hown (mvT hZ (hw _ (List.mem_of_getElem? (i := 31) rfl))) (mvT hZ (hw _ (List.mem_of_getElem? (i := 32) rfl))) (notFace_of_selects (args := #[]) (mvT hZ (hw _ (List.mem_of_getElem? (i := 34) rfl)))) (mvT hZ (hw _ (List.mem_of_getElem? (i := 34) rfl))) (mvT hZ (hw _ (List.mem_of_getElem? (i := 33) rfl))) (by decide) (backOf (W := 0) (rm1a l Z a0 hw [] y2 y1 y2 y3 hw89_27 Z.heap.size hnw89_27 (E2.ext Kw89_27) (S1.ext Kw89_27) (S2.ext Kw89_27) (S3.ext Kw89_27) (Fld.ne O2 O1 (by decide)) rfl) hZ (hw _ (List.mem_of_getElem? (i := 35) rfl)) (hw _ (List.mem_of_getElem? (i := 3) rfl)) (by decide) (by decide)) qc121_39a qc121_39c (g := (mkF m 121 #[.val (.int x0), .val (.ref ba2_1), .val (.int (2 : Int32)), .val (.ref y2), .val (.int (1 : Int32)), .unset, .unset] [(.ref y2)])) rfl (by rw [hml]; rfl) (Steps.refl _) (argsL := []) (rest := []) (lenOf pd_0 rfl) rfl (by show 2 * 0 + _ ≤ _; exact Nat.le_of_eq rfl) (hb hby at_121) (fun _ _ => ⟨rfl, ew89_27, (by decide : 1 + 0 ≤ _), (by decide : 13 + 0 ≤ _)⟩)
    dsimp only [Pt.U, Pt.locs, Pt.cells, Pt.slots] at Xc121_39 lc121_39 yc121_39 zc121_39 stc121_39 hQc121_39
    subst lc121_39 yc121_39 zc121_39
    obtain ⟨rfl, rfl, ec121_39⟩ := hQc121_39
    refine RunsW.go (fun _ => stc121_39.trans) ?_
    have Nc121_39 := Fr.app Nw89_27 (Fr.nil Z.heap.size)
    show RunsW p e below s _ _ _ (Tc121_39.setTop (mkF m 124 #[.val (.int x0), .val (.ref ba2_1), .val (.int (2 : Int32)), .val (.ref y2), .val (.int (1 : Int32)), .unset, .unset] [(.int (1 : Int32))]))
    refine RunsW.go (fun _ => XS.istore Xc121_39.here hx rfl (hb hby at_124) rfl (l' := #[.val (.int x0), .val (.ref ba2_1), .val (.int (2 : Int32)), .val (.ref y2), .val (.int (1 : Int32)), .val (.int (1 : Int32)), .unset]) rfl) ?_
    show RunsW p e below s _ _ _ (Tc121_39.setTop (mkF m 126 #[.val (.int x0), .val (.ref ba2_1), .val (.int (2 : Int32)), .val (.ref y2), .val (.int (1 : Int32)), .val (.int (1 : Int32)), .unset] []))
    obtain ⟨bs126_40, Ts126_40, hs126_40, k1s126_40, ds126_40, kks126_40, Xs126_40, es126_40, Es126_40, hSs126_40, hks126_40, hZ, hown, Exs126_40, Fcs126_40, Fvs126_40, Vs126_40, -, -, -, sts126_40⟩ := ldcSV (s := s) (vm0 := s.vm) Xc121_39 hx hZ hown (hw _ (List.mem_of_getElem? (i := 44) rfl)) wS ec121_39 (own_since s) (by rw [hh]; exact Kw89_27.1) (by rw [hh]; exact Nc121_39) hkeep I0 (fun q => nomatch q) hheld hcw (vs := own_act.map Value.int) (z := 8) ⟨by decide, by decide +kernel⟩ (by decide) rfl (g := (mkF m 126 #[.val (.int x0), .val (.ref ba2_1), .val (.int (2 : Int32)), .val (.ref y2), .val (.int (1 : Int32)), .val (.int (1 : Int32)), .unset] [])) rfl (hb hby at_126) (n := 32) (by decide) (by decide) (by decide) (by decide)
    refine RunsW.go sts126_40 ?_
    have Ks126_40 : Ext Z.heap hs126_40 := own_extt Kw89_27 Es126_40
    have hns126_40 : Z.heap.size ≤ hs126_40.size := Nat.le_trans hnw89_27 Es126_40.1
    show RunsW p e below s _ _ _ (Ts126_40.setTop (mkF m 128 #[.val (.int x0), .val (.ref ba2_1), .val (.int (2 : Int32)), .val (.ref y2), .val (.int (1 : Int32)), .val (.int (1 : Int32)), .unset] [(.ref bs126_40)]))
    refine RunsW.go (fun _ => XS.aloadN Xs126_40.here hx rfl (hb hby at_128) rfl rfl) ?_
    show RunsW p e below s _ _ _ (Ts126_40.setTop (mkF m 129 #[.val (.int x0), .val (.ref ba2_1), .val (.int (2 : Int32)), .val (.ref y2), .val (.int (1 : Int32)), .val (.int (1 : Int32)), .unset] [(.ref y2), (.ref bs126_40)]))
    obtain ⟨cqc129_41, kqc129_41, qc129_41a, qc129_41b, qc129_41c⟩ := isOf hZ es126_40 (E2.ext Ks126_40)
    obtain ⟨_, _, ⟨Tc129_41, Lc129_41, kc129_41, nc129_41⟩, -, Xc129_41, ⟨Lcc129_41, hQc129_41, lc129_41, yc129_41, zc129_41⟩, stc129_41⟩ := Xs126_40.virtualBack hx (y := (⟨"com/example/replay/replay/api/EventType", "subject", "()Ljava/lang/String;"⟩ : MethodName)) (z := (⟨"com/example/replay/replay/api/EventType", "subject", "()Ljava/lang/String;"⟩ : MethodName)) hown (mvT hZ (hw _ (List.mem_of_getElem? (i := 52) rfl))) (mvT hZ (hw _ (List.mem_of_getElem? (i := 53) rfl))) (notFace_of_selects (args := #[]) (mvT hZ (hw _ (List.mem_of_getElem? (i := 55) rfl)))) (mvT hZ (hw _ (List.mem_of_getElem? (i := 55) rfl))) (mvT hZ (hw _ (List.mem_of_getElem? (i := 54) rfl))) (by decide) (backOf (W := 1) (rm3 l Z a0 hw [] y2 (.ref sA) hs126_40 Z.heap.size hns126_40 (F2.ext Ks126_40) rfl) hZ (hw _ (List.mem_of_getElem? (i := 56) rfl)) (hw _ (List.mem_of_getElem? (i := 3) rfl)) (by decide) (by decide)) qc129_41a qc129_41c (g := (mkF m 129 #[.val (.int x0), .val (.ref ba2_1), .val (.int (2 : Int32)), .val (.ref y2), .val (.int (1 : Int32)), .val (.int (1 : Int32)), .unset] [(.ref y2), (.ref bs126_40)])) rfl (by rw [hml]; rfl) (Steps.refl _) (argsL := []) (rest := [(.ref bs126_40)]) (lenOf pd_1 rfl) rfl (by show 2 * 0 + _ ≤ _; exact Nat.le_of_eq rfl) (hb hby at_129) (fun _ _ => ⟨rfl, es126_40, (by decide : 3 + 0 ≤ _), (by decide : 49 + 0 ≤ _)⟩)
    dsimp only [Pt.U, Pt.locs, Pt.cells, Pt.slots] at Xc129_41 lc129_41 yc129_41 zc129_41 stc129_41 hQc129_41
    subst lc129_41 yc129_41 zc129_41
    obtain ⟨rfl, rfl, ec129_41⟩ := hQc129_41
    refine RunsW.go (fun _ => stc129_41.trans) ?_
    have Nc129_41 := Fr.app Nc121_39 (Fr.nil Z.heap.size)
    show RunsW p e below s _ _ _ (Tc129_41.setTop (mkF m 132 #[.val (.int x0), .val (.ref ba2_1), .val (.int (2 : Int32)), .val (.ref y2), .val (.int (1 : Int32)), .val (.int (1 : Int32)), .unset] [(.ref sA), (.ref bs126_40)]))
    obtain ⟨cqc132_42, kqc132_42, qc132_42a, qc132_42b, qc132_42c⟩ := isOf hZ ec129_41 Exs126_40
    obtain ⟨_, _, ⟨Tc132_42, Lc132_42, kc132_42, nc132_42⟩, -, Xc132_42, ⟨Lcc132_42, hQc132_42, lc132_42, yc132_42, zc132_42⟩, stc132_42⟩ := Xc129_41.virtualBack hx (y := (⟨"java/lang/String", "equals", "(Ljava/lang/Object;)Z"⟩ : MethodName)) (z := (⟨"java/lang/String", "equals", "(Ljava/lang/Object;)Z"⟩ : MethodName)) hown (mvT hZ (hw _ (List.mem_of_getElem? (i := 59) rfl))) (mvT hZ (hw _ (List.mem_of_getElem? (i := 60) rfl))) (notFace_of_selects (args := #[]) (mvT hZ (hw _ (List.mem_of_getElem? (i := 62) rfl)))) (mvT hZ (hw _ (List.mem_of_getElem? (i := 62) rfl))) (mvT hZ (hw _ (List.mem_of_getElem? (i := 61) rfl))) (by decide) (backOf (W := 0) (rm4e l Z a0 hw [] bs126_40 sA hs126_40 (Exs126_40) (Fcs126_40) (Fvs126_40) (Vs126_40) (AA1.ext Ks126_40) (AA2.ext Ks126_40) (AA3.ext Ks126_40) (AA4.ext Ks126_40) (AC.ext Ks126_40) hzc) hZ (hw _ (List.mem_of_getElem? (i := 63) rfl)) (hw _ (List.mem_of_getElem? (i := 45) rfl)) (by decide) (by decide)) qc132_42a qc132_42c (g := (mkF m 132 #[.val (.int x0), .val (.ref ba2_1), .val (.int (2 : Int32)), .val (.ref y2), .val (.int (1 : Int32)), .val (.int (1 : Int32)), .unset] [(.ref sA), (.ref bs126_40)])) rfl (by rw [hml]; rfl) (Steps.refl _) (argsL := [(.ref sA)]) (rest := []) (lenOf pd_2 rfl) rfl (by show 2 * 0 + _ ≤ _; exact Nat.le_of_eq rfl) (hb hby at_132) (fun _ _ => ⟨rfl, ec129_41, (by decide : 3 + 0 ≤ _), (by decide : 49 + 0 ≤ _)⟩)
    dsimp only [Pt.U, Pt.locs, Pt.cells, Pt.slots] at Xc132_42 lc132_42 yc132_42 zc132_42 stc132_42 hQc132_42
    subst lc132_42 yc132_42 zc132_42
    obtain ⟨rfl, rfl, ec132_42⟩ := hQc132_42
    refine RunsW.go (fun _ => stc132_42.trans) ?_
    have Nc132_42 := Fr.app Nc129_41 (Fr.nil Z.heap.size)
    show RunsW p e below s _ _ _ (Tc132_42.setTop (mkF m 135 #[.val (.int x0), .val (.ref ba2_1), .val (.int (2 : Int32)), .val (.ref y2), .val (.int (1 : Int32)), .val (.int (1 : Int32)), .unset] [(.int (1 : Int32))]))
    refine RunsW.go (fun _ => XS.istore Xc132_42.here hx rfl (hb hby at_135) rfl (l' := #[.val (.int x0), .val (.ref ba2_1), .val (.int (2 : Int32)), .val (.ref y2), .val (.int (1 : Int32)), .val (.int (1 : Int32)), .val (.int (1 : Int32))]) rfl) ?_
    show RunsW p e below s _ _ _ (Tc132_42.setTop (mkF m 137 #[.val (.int x0), .val (.ref ba2_1), .val (.int (2 : Int32)), .val (.ref y2), .val (.int (1 : Int32)), .val (.int (1 : Int32)), .val (.int (1 : Int32))] []))
    refine RunsW.go (fun _ => XS.iload Xc132_42.here hx rfl (hb hby at_137) rfl) ?_
    show RunsW p e below s _ _ _ (Tc132_42.setTop (mkF m 139 #[.val (.int x0), .val (.ref ba2_1), .val (.int (2 : Int32)), .val (.ref y2), .val (.int (1 : Int32)), .val (.int (1 : Int32)), .val (.int (1 : Int32))] [(.int (1 : Int32))]))
    refine RunsW.go (fun _ => XS.iload Xc132_42.here hx rfl (hb hby at_139) rfl) ?_
    show RunsW p e below s _ _ _ (Tc132_42.setTop (mkF m 141 #[.val (.int x0), .val (.ref ba2_1), .val (.int (2 : Int32)), .val (.ref y2), .val (.int (1 : Int32)), .val (.int (1 : Int32)), .val (.int (1 : Int32))] [(.int (1 : Int32)), (.int (1 : Int32))]))
    refine RunsW.go (fun _ => XS.icmpNo Xc132_42.here hx rfl (hb hby at_141) rfl (teq (rfl : (1 : Int32) = (1 : Int32))).2) ?_
    show RunsW p e below s _ _ _ (Tc132_42.setTop (mkF m 144 #[.val (.int x0), .val (.ref ba2_1), .val (.int (2 : Int32)), .val (.ref y2), .val (.int (1 : Int32)), .val (.int (1 : Int32)), .val (.int (1 : Int32))] []))
    refine RunsW.go (fun _ => XS.iload Xc132_42.here hx rfl (hb hby at_144) rfl) ?_
    show RunsW p e below s _ _ _ (Tc132_42.setTop (mkF m 146 #[.val (.int x0), .val (.ref ba2_1), .val (.int (2 : Int32)), .val (.ref y2), .val (.int (1 : Int32)), .val (.int (1 : Int32)), .val (.int (1 : Int32))] [(.int (1 : Int32))]))
    refine RunsW.go (fun _ => XS.iload Xc132_42.here hx rfl (hb hby at_146) rfl) ?_
    show RunsW p e below s _ _ _ (Tc132_42.setTop (mkF m 148 #[.val (.int x0), .val (.ref ba2_1), .val (.int (2 : Int32)), .val (.ref y2), .val (.int (1 : Int32)), .val (.int (1 : Int32)), .val (.int (1 : Int32))] [(.int (1 : Int32)), (.int (1 : Int32))]))
    refine RunsW.go (fun _ => XS.icmpNo Xc132_42.here hx rfl (hb hby at_148) rfl (teq (rfl : (1 : Int32) = (1 : Int32))).2) ?_
    show RunsW p e below s _ _ _ (Tc132_42.setTop (mkF m 151 #[.val (.int x0), .val (.ref ba2_1), .val (.int (2 : Int32)), .val (.ref y2), .val (.int (1 : Int32)), .val (.int (1 : Int32)), .val (.int (1 : Int32))] []))
    refine RunsW.go (fun _ => XS.iconst Xc132_42.here hx rfl (hb hby at_151)) ?_
    show RunsW p e below s _ _ _ (Tc132_42.setTop (mkF m 152 #[.val (.int x0), .val (.ref ba2_1), .val (.int (2 : Int32)), .val (.ref y2), .val (.int (1 : Int32)), .val (.int (1 : Int32)), .val (.int (1 : Int32))] [(.int (1 : Int32))]))
    refine RunsW.go (fun _ => XS.goto Xc132_42.here hx rfl (pc0 := 152) (pc' := 156) rfl (hb hby at_152) (by decide) (by decide)) ?_
    show RunsW p e below s _ _ _ (Tc132_42.setTop (mkF m 156 #[.val (.int x0), .val (.ref ba2_1), .val (.int (2 : Int32)), .val (.ref y2), .val (.int (1 : Int32)), .val (.int (1 : Int32)), .val (.int (1 : Int32))] [(.int (1 : Int32))]))
    exact RunsW.endN Xc132_42 hSs126_40 (by rw [ec132_42]; exact hks126_40) hx (t := .boolean) Bd.returns (by simp) Bd.notSynchronized (hb hby at_156) ⟨rfl, Nc132_42⟩ (by decide) (by decide)
  · rw [q]
    show RunsW p e below s _ _ _ (Tw89_27.setTop (mkF m 98 #[.val (.int x0), .val (.ref ba2_1), .unset, .unset, .unset, .unset, .unset] [(.int (3 : Int32))]))
    refine RunsW.go (fun _ => XS.istoreN Xw89_27.here hx rfl (hb hby at_98) rfl (l' := #[.val (.int x0), .val (.ref ba2_1), .val (.int (3 : Int32)), .unset, .unset, .unset, .unset]) rfl) ?_
    show RunsW p e below s _ _ _ (Tw89_27.setTop (mkF m 99 #[.val (.int x0), .val (.ref ba2_1), .val (.int (3 : Int32)), .unset, .unset, .unset, .unset] []))
    refine RunsW.go (fun _ => XS.aloadN Xw89_27.here hx rfl (hb hby at_99) rfl rfl) ?_
    show RunsW p e below s _ _ _ (Tw89_27.setTop (mkF m 100 #[.val (.int x0), .val (.ref ba2_1), .val (.int (3 : Int32)), .unset, .unset, .unset, .unset] [(.ref ba2_1)]))
    refine RunsW.go (fun _ => XS.iloadN Xw89_27.here hx rfl (hb hby at_100) rfl) ?_
    show RunsW p e below s _ _ _ (Tw89_27.setTop (mkF m 101 #[.val (.int x0), .val (.ref ba2_1), .val (.int (3 : Int32)), .unset, .unset, .unset, .unset] [(.int (3 : Int32)), (.ref ba2_1)]))
    have VCr101_43 := Vw89_27
    obtain ⟨clr101_43, Arr101_43, -, Sr101_43, Mr101_43, Hr101_43, -⟩ := VCr101_43
    have hinr101_43 : ¬ ((3 : Int32) < 0 ∨ clr101_43.slots.size ≤ ((3 : Int32)).toNatClampNeg) := inb_of Sr101_43 ⟨by decide, by decide⟩
    have hatr101_43 : clr101_43.slots[((3 : Int32)).toNatClampNeg]? = some (.ref y3) := Has.at Hr101_43 hinr101_43 rfl
    refine RunsW.go (Xw89_27.aaload hx (j := (3 : Int32)) (v := (.ref y3)) (by rw [ew89_27]; exact Arr101_43.1) (State.isArrayOf_alike hZ.alike Arr101_43.2.1) rfl Arr101_43.2.2 hinr101_43 hatr101_43 (g := (mkF m 101 #[.val (.int x0), .val (.ref ba2_1), .val (.int (3 : Int32)), .unset, .unset, .unset, .unset] [(.int (3 : Int32)), (.ref ba2_1)])) rfl rfl (hb hby at_101)) ?_
    show RunsW p e below s _ _ _ (Tw89_27.setTop (mkF m 102 #[.val (.int x0), .val (.ref ba2_1), .val (.int (3 : Int32)), .unset, .unset, .unset, .unset] [(.ref y3)]))
    refine RunsW.go (fun _ => XS.astoreN Xw89_27.here hx rfl (hb hby at_102) rfl rfl (l' := #[.val (.int x0), .val (.ref ba2_1), .val (.int (3 : Int32)), .val (.ref y3), .unset, .unset, .unset]) rfl) ?_
    show RunsW p e below s _ _ _ (Tw89_27.setTop (mkF m 103 #[.val (.int x0), .val (.ref ba2_1), .val (.int (3 : Int32)), .val (.ref y3), .unset, .unset, .unset] []))
    refine RunsW.go (fun _ => XS.iloadN Xw89_27.here hx rfl (hb hby at_103) rfl) ?_
    show RunsW p e below s _ _ _ (Tw89_27.setTop (mkF m 104 #[.val (.int x0), .val (.ref ba2_1), .val (.int (3 : Int32)), .val (.ref y3), .unset, .unset, .unset] [(.int (3 : Int32))]))
    refine RunsW.go (fun _ => XS.iconst Xw89_27.here hx rfl (hb hby at_104)) ?_
    show RunsW p e below s _ _ _ (Tw89_27.setTop (mkF m 105 #[.val (.int x0), .val (.ref ba2_1), .val (.int (3 : Int32)), .val (.ref y3), .unset, .unset, .unset] [(.int (1 : Int32)), (.int (3 : Int32))]))
    refine RunsW.go (fun _ => XS.icmpNo Xw89_27.here hx rfl (hb hby at_105) rfl (flt ((by decide) : ¬ ((3 : Int32) < (1 : Int32)))).1) ?_
    show RunsW p e below s _ _ _ (Tw89_27.setTop (mkF m 108 #[.val (.int x0), .val (.ref ba2_1), .val (.int (3 : Int32)), .val (.ref y3), .unset, .unset, .unset] []))
    refine RunsW.go (fun _ => XS.iloadN Xw89_27.here hx rfl (hb hby at_108) rfl) ?_
    show RunsW p e below s _ _ _ (Tw89_27.setTop (mkF m 109 #[.val (.int x0), .val (.ref ba2_1), .val (.int (3 : Int32)), .val (.ref y3), .unset, .unset, .unset] [(.int (3 : Int32))]))
    refine RunsW.go (fun _ => XS.iconst Xw89_27.here hx rfl (hb hby at_109)) ?_
    show RunsW p e below s _ _ _ (Tw89_27.setTop (mkF m 110 #[.val (.int x0), .val (.ref ba2_1), .val (.int (3 : Int32)), .val (.ref y3), .unset, .unset, .unset] [(.int (3 : Int32)), (.int (3 : Int32))]))
    refine RunsW.go (fun _ => XS.icmpNo Xw89_27.here hx rfl (hb hby at_110) rfl (flt ((by decide) : ¬ ((3 : Int32) < (3 : Int32)))).2.2.1) ?_
    show RunsW p e below s _ _ _ (Tw89_27.setTop (mkF m 113 #[.val (.int x0), .val (.ref ba2_1), .val (.int (3 : Int32)), .val (.ref y3), .unset, .unset, .unset] []))
    refine RunsW.go (fun _ => XS.iconst Xw89_27.here hx rfl (hb hby at_113)) ?_
    show RunsW p e below s _ _ _ (Tw89_27.setTop (mkF m 114 #[.val (.int x0), .val (.ref ba2_1), .val (.int (3 : Int32)), .val (.ref y3), .unset, .unset, .unset] [(.int (1 : Int32))]))
    refine RunsW.go (fun _ => XS.goto Xw89_27.here hx rfl (pc0 := 114) (pc' := 118) rfl (hb hby at_114) (by decide) (by decide)) ?_
    show RunsW p e below s _ _ _ (Tw89_27.setTop (mkF m 118 #[.val (.int x0), .val (.ref ba2_1), .val (.int (3 : Int32)), .val (.ref y3), .unset, .unset, .unset] [(.int (1 : Int32))]))
    refine RunsW.go (fun _ => XS.istore Xw89_27.here hx rfl (hb hby at_118) rfl (l' := #[.val (.int x0), .val (.ref ba2_1), .val (.int (3 : Int32)), .val (.ref y3), .val (.int (1 : Int32)), .unset, .unset]) rfl) ?_
    show RunsW p e below s _ _ _ (Tw89_27.setTop (mkF m 120 #[.val (.int x0), .val (.ref ba2_1), .val (.int (3 : Int32)), .val (.ref y3), .val (.int (1 : Int32)), .unset, .unset] []))
    refine RunsW.go (fun _ => XS.aloadN Xw89_27.here hx rfl (hb hby at_120) rfl rfl) ?_
    show RunsW p e below s _ _ _ (Tw89_27.setTop (mkF m 121 #[.val (.int x0), .val (.ref ba2_1), .val (.int (3 : Int32)), .val (.ref y3), .val (.int (1 : Int32)), .unset, .unset] [(.ref y3)]))
    obtain ⟨cqc121_44, kqc121_44, qc121_44a, qc121_44b, qc121_44c⟩ := isOf hZ ew89_27 (E3.ext Kw89_27)
    obtain ⟨_, _, ⟨Tc121_44, Lc121_44, kc121_44, nc121_44⟩, -, Xc121_44, ⟨Lcc121_44, hQc121_44, lc121_44, yc121_44, zc121_44⟩, stc121_44⟩ := Xw89_27.virtualBack hx (y := (⟨"com/example/replay/replay/api/EventType", "isActivityEvent", "()Z"⟩ : MethodName)) (z := (⟨"com/example/replay/replay/api/EventType", "isActivityEvent", "()Z"⟩ : MethodName)) hown (mvT hZ (hw _ (List.mem_of_getElem? (i := 31) rfl))) (mvT hZ (hw _ (List.mem_of_getElem? (i := 32) rfl))) (notFace_of_selects (args := #[]) (mvT hZ (hw _ (List.mem_of_getElem? (i := 34) rfl)))) (mvT hZ (hw _ (List.mem_of_getElem? (i := 34) rfl))) (mvT hZ (hw _ (List.mem_of_getElem? (i := 33) rfl))) (by decide) (backOf (W := 0) (rm1b l Z a0 hw [] y3 y1 y2 y3 hw89_27 Z.heap.size hnw89_27 (E3.ext Kw89_27) (S1.ext Kw89_27) (S2.ext Kw89_27) (S3.ext Kw89_27) (Fld.ne O3 O1 (by decide)) (Fld.ne O3 O2 (by decide)) rfl) hZ (hw _ (List.mem_of_getElem? (i := 35) rfl)) (hw _ (List.mem_of_getElem? (i := 3) rfl)) (by decide) (by decide)) qc121_44a qc121_44c (g := (mkF m 121 #[.val (.int x0), .val (.ref ba2_1), .val (.int (3 : Int32)), .val (.ref y3), .val (.int (1 : Int32)), .unset, .unset] [(.ref y3)])) rfl (by rw [hml]; rfl) (Steps.refl _) (argsL := []) (rest := []) (lenOf pd_0 rfl) rfl (by show 2 * 0 + _ ≤ _; exact Nat.le_of_eq rfl) (hb hby at_121) (fun _ _ => ⟨rfl, ew89_27, (by decide : 1 + 0 ≤ _), (by decide : 13 + 0 ≤ _)⟩)
    dsimp only [Pt.U, Pt.locs, Pt.cells, Pt.slots] at Xc121_44 lc121_44 yc121_44 zc121_44 stc121_44 hQc121_44
    subst lc121_44 yc121_44 zc121_44
    obtain ⟨rfl, rfl, ec121_44⟩ := hQc121_44
    refine RunsW.go (fun _ => stc121_44.trans) ?_
    have Nc121_44 := Fr.app Nw89_27 (Fr.nil Z.heap.size)
    show RunsW p e below s _ _ _ (Tc121_44.setTop (mkF m 124 #[.val (.int x0), .val (.ref ba2_1), .val (.int (3 : Int32)), .val (.ref y3), .val (.int (1 : Int32)), .unset, .unset] [(.int (1 : Int32))]))
    refine RunsW.go (fun _ => XS.istore Xc121_44.here hx rfl (hb hby at_124) rfl (l' := #[.val (.int x0), .val (.ref ba2_1), .val (.int (3 : Int32)), .val (.ref y3), .val (.int (1 : Int32)), .val (.int (1 : Int32)), .unset]) rfl) ?_
    show RunsW p e below s _ _ _ (Tc121_44.setTop (mkF m 126 #[.val (.int x0), .val (.ref ba2_1), .val (.int (3 : Int32)), .val (.ref y3), .val (.int (1 : Int32)), .val (.int (1 : Int32)), .unset] []))
    obtain ⟨bs126_45, Ts126_45, hs126_45, k1s126_45, ds126_45, kks126_45, Xs126_45, es126_45, Es126_45, hSs126_45, hks126_45, hZ, hown, Exs126_45, Fcs126_45, Fvs126_45, Vs126_45, -, -, -, sts126_45⟩ := ldcSV (s := s) (vm0 := s.vm) Xc121_44 hx hZ hown (hw _ (List.mem_of_getElem? (i := 44) rfl)) wS ec121_44 (own_since s) (by rw [hh]; exact Kw89_27.1) (by rw [hh]; exact Nc121_44) hkeep I0 (fun q => nomatch q) hheld hcw (vs := own_act.map Value.int) (z := 8) ⟨by decide, by decide +kernel⟩ (by decide) rfl (g := (mkF m 126 #[.val (.int x0), .val (.ref ba2_1), .val (.int (3 : Int32)), .val (.ref y3), .val (.int (1 : Int32)), .val (.int (1 : Int32)), .unset] [])) rfl (hb hby at_126) (n := 32) (by decide) (by decide) (by decide) (by decide)
    refine RunsW.go sts126_45 ?_
    have Ks126_45 : Ext Z.heap hs126_45 := own_extt Kw89_27 Es126_45
    have hns126_45 : Z.heap.size ≤ hs126_45.size := Nat.le_trans hnw89_27 Es126_45.1
    show RunsW p e below s _ _ _ (Ts126_45.setTop (mkF m 128 #[.val (.int x0), .val (.ref ba2_1), .val (.int (3 : Int32)), .val (.ref y3), .val (.int (1 : Int32)), .val (.int (1 : Int32)), .unset] [(.ref bs126_45)]))
    refine RunsW.go (fun _ => XS.aloadN Xs126_45.here hx rfl (hb hby at_128) rfl rfl) ?_
    show RunsW p e below s _ _ _ (Ts126_45.setTop (mkF m 129 #[.val (.int x0), .val (.ref ba2_1), .val (.int (3 : Int32)), .val (.ref y3), .val (.int (1 : Int32)), .val (.int (1 : Int32)), .unset] [(.ref y3), (.ref bs126_45)]))
    obtain ⟨cqc129_46, kqc129_46, qc129_46a, qc129_46b, qc129_46c⟩ := isOf hZ es126_45 (E3.ext Ks126_45)
    obtain ⟨_, _, ⟨Tc129_46, Lc129_46, kc129_46, nc129_46⟩, -, Xc129_46, ⟨Lcc129_46, hQc129_46, lc129_46, yc129_46, zc129_46⟩, stc129_46⟩ := Xs126_45.virtualBack hx (y := (⟨"com/example/replay/replay/api/EventType", "subject", "()Ljava/lang/String;"⟩ : MethodName)) (z := (⟨"com/example/replay/replay/api/EventType", "subject", "()Ljava/lang/String;"⟩ : MethodName)) hown (mvT hZ (hw _ (List.mem_of_getElem? (i := 52) rfl))) (mvT hZ (hw _ (List.mem_of_getElem? (i := 53) rfl))) (notFace_of_selects (args := #[]) (mvT hZ (hw _ (List.mem_of_getElem? (i := 55) rfl)))) (mvT hZ (hw _ (List.mem_of_getElem? (i := 55) rfl))) (mvT hZ (hw _ (List.mem_of_getElem? (i := 54) rfl))) (by decide) (backOf (W := 1) (rm3 l Z a0 hw [] y3 (.ref sA) hs126_45 Z.heap.size hns126_45 (F3.ext Ks126_45) rfl) hZ (hw _ (List.mem_of_getElem? (i := 56) rfl)) (hw _ (List.mem_of_getElem? (i := 3) rfl)) (by decide) (by decide)) qc129_46a qc129_46c (g := (mkF m 129 #[.val (.int x0), .val (.ref ba2_1), .val (.int (3 : Int32)), .val (.ref y3), .val (.int (1 : Int32)), .val (.int (1 : Int32)), .unset] [(.ref y3), (.ref bs126_45)])) rfl (by rw [hml]; rfl) (Steps.refl _) (argsL := []) (rest := [(.ref bs126_45)]) (lenOf pd_1 rfl) rfl (by show 2 * 0 + _ ≤ _; exact Nat.le_of_eq rfl) (hb hby at_129) (fun _ _ => ⟨rfl, es126_45, (by decide : 3 + 0 ≤ _), (by decide : 49 + 0 ≤ _)⟩)
    dsimp only [Pt.U, Pt.locs, Pt.cells, Pt.slots] at Xc129_46 lc129_46 yc129_46 zc129_46 stc129_46 hQc129_46
    subst lc129_46 yc129_46 zc129_46
    obtain ⟨rfl, rfl, ec129_46⟩ := hQc129_46
    refine RunsW.go (fun _ => stc129_46.trans) ?_
    have Nc129_46 := Fr.app Nc121_44 (Fr.nil Z.heap.size)
    show RunsW p e below s _ _ _ (Tc129_46.setTop (mkF m 132 #[.val (.int x0), .val (.ref ba2_1), .val (.int (3 : Int32)), .val (.ref y3), .val (.int (1 : Int32)), .val (.int (1 : Int32)), .unset] [(.ref sA), (.ref bs126_45)]))
    obtain ⟨cqc132_47, kqc132_47, qc132_47a, qc132_47b, qc132_47c⟩ := isOf hZ ec129_46 Exs126_45
    obtain ⟨_, _, ⟨Tc132_47, Lc132_47, kc132_47, nc132_47⟩, -, Xc132_47, ⟨Lcc132_47, hQc132_47, lc132_47, yc132_47, zc132_47⟩, stc132_47⟩ := Xc129_46.virtualBack hx (y := (⟨"java/lang/String", "equals", "(Ljava/lang/Object;)Z"⟩ : MethodName)) (z := (⟨"java/lang/String", "equals", "(Ljava/lang/Object;)Z"⟩ : MethodName)) hown (mvT hZ (hw _ (List.mem_of_getElem? (i := 59) rfl))) (mvT hZ (hw _ (List.mem_of_getElem? (i := 60) rfl))) (notFace_of_selects (args := #[]) (mvT hZ (hw _ (List.mem_of_getElem? (i := 62) rfl)))) (mvT hZ (hw _ (List.mem_of_getElem? (i := 62) rfl))) (mvT hZ (hw _ (List.mem_of_getElem? (i := 61) rfl))) (by decide) (backOf (W := 0) (rm4e l Z a0 hw [] bs126_45 sA hs126_45 (Exs126_45) (Fcs126_45) (Fvs126_45) (Vs126_45) (AA1.ext Ks126_45) (AA2.ext Ks126_45) (AA3.ext Ks126_45) (AA4.ext Ks126_45) (AC.ext Ks126_45) hzc) hZ (hw _ (List.mem_of_getElem? (i := 63) rfl)) (hw _ (List.mem_of_getElem? (i := 45) rfl)) (by decide) (by decide)) qc132_47a qc132_47c (g := (mkF m 132 #[.val (.int x0), .val (.ref ba2_1), .val (.int (3 : Int32)), .val (.ref y3), .val (.int (1 : Int32)), .val (.int (1 : Int32)), .unset] [(.ref sA), (.ref bs126_45)])) rfl (by rw [hml]; rfl) (Steps.refl _) (argsL := [(.ref sA)]) (rest := []) (lenOf pd_2 rfl) rfl (by show 2 * 0 + _ ≤ _; exact Nat.le_of_eq rfl) (hb hby at_132) (fun _ _ => ⟨rfl, ec129_46, (by decide : 3 + 0 ≤ _), (by decide : 49 + 0 ≤ _)⟩)
    dsimp only [Pt.U, Pt.locs, Pt.cells, Pt.slots] at Xc132_47 lc132_47 yc132_47 zc132_47 stc132_47 hQc132_47
    subst lc132_47 yc132_47 zc132_47
    obtain ⟨rfl, rfl, ec132_47⟩ := hQc132_47
    refine RunsW.go (fun _ => stc132_47.trans) ?_
    have Nc132_47 := Fr.app Nc129_46 (Fr.nil Z.heap.size)
    show RunsW p e below s _ _ _ (Tc132_47.setTop (mkF m 135 #[.val (.int x0), .val (.ref ba2_1), .val (.int (3 : Int32)), .val (.ref y3), .val (.int (1 : Int32)), .val (.int (1 : Int32)), .unset] [(.int (1 : Int32))]))
    refine RunsW.go (fun _ => XS.istore Xc132_47.here hx rfl (hb hby at_135) rfl (l' := #[.val (.int x0), .val (.ref ba2_1), .val (.int (3 : Int32)), .val (.ref y3), .val (.int (1 : Int32)), .val (.int (1 : Int32)), .val (.int (1 : Int32))]) rfl) ?_
    show RunsW p e below s _ _ _ (Tc132_47.setTop (mkF m 137 #[.val (.int x0), .val (.ref ba2_1), .val (.int (3 : Int32)), .val (.ref y3), .val (.int (1 : Int32)), .val (.int (1 : Int32)), .val (.int (1 : Int32))] []))
    refine RunsW.go (fun _ => XS.iload Xc132_47.here hx rfl (hb hby at_137) rfl) ?_
    show RunsW p e below s _ _ _ (Tc132_47.setTop (mkF m 139 #[.val (.int x0), .val (.ref ba2_1), .val (.int (3 : Int32)), .val (.ref y3), .val (.int (1 : Int32)), .val (.int (1 : Int32)), .val (.int (1 : Int32))] [(.int (1 : Int32))]))
    refine RunsW.go (fun _ => XS.iload Xc132_47.here hx rfl (hb hby at_139) rfl) ?_
    show RunsW p e below s _ _ _ (Tc132_47.setTop (mkF m 141 #[.val (.int x0), .val (.ref ba2_1), .val (.int (3 : Int32)), .val (.ref y3), .val (.int (1 : Int32)), .val (.int (1 : Int32)), .val (.int (1 : Int32))] [(.int (1 : Int32)), (.int (1 : Int32))]))
    refine RunsW.go (fun _ => XS.icmpNo Xc132_47.here hx rfl (hb hby at_141) rfl (teq (rfl : (1 : Int32) = (1 : Int32))).2) ?_
    show RunsW p e below s _ _ _ (Tc132_47.setTop (mkF m 144 #[.val (.int x0), .val (.ref ba2_1), .val (.int (3 : Int32)), .val (.ref y3), .val (.int (1 : Int32)), .val (.int (1 : Int32)), .val (.int (1 : Int32))] []))
    refine RunsW.go (fun _ => XS.iload Xc132_47.here hx rfl (hb hby at_144) rfl) ?_
    show RunsW p e below s _ _ _ (Tc132_47.setTop (mkF m 146 #[.val (.int x0), .val (.ref ba2_1), .val (.int (3 : Int32)), .val (.ref y3), .val (.int (1 : Int32)), .val (.int (1 : Int32)), .val (.int (1 : Int32))] [(.int (1 : Int32))]))
    refine RunsW.go (fun _ => XS.iload Xc132_47.here hx rfl (hb hby at_146) rfl) ?_
    show RunsW p e below s _ _ _ (Tc132_47.setTop (mkF m 148 #[.val (.int x0), .val (.ref ba2_1), .val (.int (3 : Int32)), .val (.ref y3), .val (.int (1 : Int32)), .val (.int (1 : Int32)), .val (.int (1 : Int32))] [(.int (1 : Int32)), (.int (1 : Int32))]))
    refine RunsW.go (fun _ => XS.icmpNo Xc132_47.here hx rfl (hb hby at_148) rfl (teq (rfl : (1 : Int32) = (1 : Int32))).2) ?_
    show RunsW p e below s _ _ _ (Tc132_47.setTop (mkF m 151 #[.val (.int x0), .val (.ref ba2_1), .val (.int (3 : Int32)), .val (.ref y3), .val (.int (1 : Int32)), .val (.int (1 : Int32)), .val (.int (1 : Int32))] []))
    refine RunsW.go (fun _ => XS.iconst Xc132_47.here hx rfl (hb hby at_151)) ?_
    show RunsW p e below s _ _ _ (Tc132_47.setTop (mkF m 152 #[.val (.int x0), .val (.ref ba2_1), .val (.int (3 : Int32)), .val (.ref y3), .val (.int (1 : Int32)), .val (.int (1 : Int32)), .val (.int (1 : Int32))] [(.int (1 : Int32))]))
    refine RunsW.go (fun _ => XS.goto Xc132_47.here hx rfl (pc0 := 152) (pc' := 156) rfl (hb hby at_152) (by decide) (by decide)) ?_
    show RunsW p e below s _ _ _ (Tc132_47.setTop (mkF m 156 #[.val (.int x0), .val (.ref ba2_1), .val (.int (3 : Int32)), .val (.ref y3), .val (.int (1 : Int32)), .val (.int (1 : Int32)), .val (.int (1 : Int32))] [(.int (1 : Int32))]))
    exact RunsW.endN Xc132_47 hSs126_45 (by rw [ec132_47]; exact hks126_45) hx (t := .boolean) Bd.returns (by simp) Bd.notSynchronized (hb hby at_156) ⟨rfl, Nc132_47⟩ (by decide) (by decide)
  · rw [q]
    show RunsW p e below s _ _ _ (Tw89_27.setTop (mkF m 98 #[.val (.int x0), .val (.ref ba2_1), .unset, .unset, .unset, .unset, .unset] [(.int (4 : Int32))]))
    refine RunsW.go (fun _ => XS.istoreN Xw89_27.here hx rfl (hb hby at_98) rfl (l' := #[.val (.int x0), .val (.ref ba2_1), .val (.int (4 : Int32)), .unset, .unset, .unset, .unset]) rfl) ?_
    show RunsW p e below s _ _ _ (Tw89_27.setTop (mkF m 99 #[.val (.int x0), .val (.ref ba2_1), .val (.int (4 : Int32)), .unset, .unset, .unset, .unset] []))
    refine RunsW.go (fun _ => XS.aloadN Xw89_27.here hx rfl (hb hby at_99) rfl rfl) ?_
    show RunsW p e below s _ _ _ (Tw89_27.setTop (mkF m 100 #[.val (.int x0), .val (.ref ba2_1), .val (.int (4 : Int32)), .unset, .unset, .unset, .unset] [(.ref ba2_1)]))
    refine RunsW.go (fun _ => XS.iloadN Xw89_27.here hx rfl (hb hby at_100) rfl) ?_
    show RunsW p e below s _ _ _ (Tw89_27.setTop (mkF m 101 #[.val (.int x0), .val (.ref ba2_1), .val (.int (4 : Int32)), .unset, .unset, .unset, .unset] [(.int (4 : Int32)), (.ref ba2_1)]))
    have VCr101_48 := Vw89_27
    obtain ⟨clr101_48, Arr101_48, -, Sr101_48, Mr101_48, Hr101_48, -⟩ := VCr101_48
    have hinr101_48 : ¬ ((4 : Int32) < 0 ∨ clr101_48.slots.size ≤ ((4 : Int32)).toNatClampNeg) := inb_of Sr101_48 ⟨by decide, by decide⟩
    have hatr101_48 : clr101_48.slots[((4 : Int32)).toNatClampNeg]? = some (.ref y4) := Has.at Hr101_48 hinr101_48 rfl
    refine RunsW.go (Xw89_27.aaload hx (j := (4 : Int32)) (v := (.ref y4)) (by rw [ew89_27]; exact Arr101_48.1) (State.isArrayOf_alike hZ.alike Arr101_48.2.1) rfl Arr101_48.2.2 hinr101_48 hatr101_48 (g := (mkF m 101 #[.val (.int x0), .val (.ref ba2_1), .val (.int (4 : Int32)), .unset, .unset, .unset, .unset] [(.int (4 : Int32)), (.ref ba2_1)])) rfl rfl (hb hby at_101)) ?_
    show RunsW p e below s _ _ _ (Tw89_27.setTop (mkF m 102 #[.val (.int x0), .val (.ref ba2_1), .val (.int (4 : Int32)), .unset, .unset, .unset, .unset] [(.ref y4)]))
    refine RunsW.go (fun _ => XS.astoreN Xw89_27.here hx rfl (hb hby at_102) rfl rfl (l' := #[.val (.int x0), .val (.ref ba2_1), .val (.int (4 : Int32)), .val (.ref y4), .unset, .unset, .unset]) rfl) ?_
    show RunsW p e below s _ _ _ (Tw89_27.setTop (mkF m 103 #[.val (.int x0), .val (.ref ba2_1), .val (.int (4 : Int32)), .val (.ref y4), .unset, .unset, .unset] []))
    refine RunsW.go (fun _ => XS.iloadN Xw89_27.here hx rfl (hb hby at_103) rfl) ?_
    show RunsW p e below s _ _ _ (Tw89_27.setTop (mkF m 104 #[.val (.int x0), .val (.ref ba2_1), .val (.int (4 : Int32)), .val (.ref y4), .unset, .unset, .unset] [(.int (4 : Int32))]))
    refine RunsW.go (fun _ => XS.iconst Xw89_27.here hx rfl (hb hby at_104)) ?_
    show RunsW p e below s _ _ _ (Tw89_27.setTop (mkF m 105 #[.val (.int x0), .val (.ref ba2_1), .val (.int (4 : Int32)), .val (.ref y4), .unset, .unset, .unset] [(.int (1 : Int32)), (.int (4 : Int32))]))
    refine RunsW.go (fun _ => XS.icmpNo Xw89_27.here hx rfl (hb hby at_105) rfl (flt ((by decide) : ¬ ((4 : Int32) < (1 : Int32)))).1) ?_
    show RunsW p e below s _ _ _ (Tw89_27.setTop (mkF m 108 #[.val (.int x0), .val (.ref ba2_1), .val (.int (4 : Int32)), .val (.ref y4), .unset, .unset, .unset] []))
    refine RunsW.go (fun _ => XS.iloadN Xw89_27.here hx rfl (hb hby at_108) rfl) ?_
    show RunsW p e below s _ _ _ (Tw89_27.setTop (mkF m 109 #[.val (.int x0), .val (.ref ba2_1), .val (.int (4 : Int32)), .val (.ref y4), .unset, .unset, .unset] [(.int (4 : Int32))]))
    refine RunsW.go (fun _ => XS.iconst Xw89_27.here hx rfl (hb hby at_109)) ?_
    show RunsW p e below s _ _ _ (Tw89_27.setTop (mkF m 110 #[.val (.int x0), .val (.ref ba2_1), .val (.int (4 : Int32)), .val (.ref y4), .unset, .unset, .unset] [(.int (3 : Int32)), (.int (4 : Int32))]))
    refine RunsW.go (fun _ => XS.icmpYes Xw89_27.here hx rfl (pc0 := 110) (pc' := 117) rfl (hb hby at_110) rfl (tlt ((by decide) : (3 : Int32) < (4 : Int32))).2.2.1 (by decide) (by decide)) ?_
    show RunsW p e below s _ _ _ (Tw89_27.setTop (mkF m 117 #[.val (.int x0), .val (.ref ba2_1), .val (.int (4 : Int32)), .val (.ref y4), .unset, .unset, .unset] []))
    refine RunsW.go (fun _ => XS.iconst Xw89_27.here hx rfl (hb hby at_117)) ?_
    show RunsW p e below s _ _ _ (Tw89_27.setTop (mkF m 118 #[.val (.int x0), .val (.ref ba2_1), .val (.int (4 : Int32)), .val (.ref y4), .unset, .unset, .unset] [(.int (0 : Int32))]))
    refine RunsW.go (fun _ => XS.istore Xw89_27.here hx rfl (hb hby at_118) rfl (l' := #[.val (.int x0), .val (.ref ba2_1), .val (.int (4 : Int32)), .val (.ref y4), .val (.int (0 : Int32)), .unset, .unset]) rfl) ?_
    show RunsW p e below s _ _ _ (Tw89_27.setTop (mkF m 120 #[.val (.int x0), .val (.ref ba2_1), .val (.int (4 : Int32)), .val (.ref y4), .val (.int (0 : Int32)), .unset, .unset] []))
    refine RunsW.go (fun _ => XS.aloadN Xw89_27.here hx rfl (hb hby at_120) rfl rfl) ?_
    show RunsW p e below s _ _ _ (Tw89_27.setTop (mkF m 121 #[.val (.int x0), .val (.ref ba2_1), .val (.int (4 : Int32)), .val (.ref y4), .val (.int (0 : Int32)), .unset, .unset] [(.ref y4)]))
    obtain ⟨cqc121_49, kqc121_49, qc121_49a, qc121_49b, qc121_49c⟩ := isOf hZ ew89_27 (E4.ext Kw89_27)
    obtain ⟨_, _, ⟨Tc121_49, Lc121_49, kc121_49, nc121_49⟩, -, Xc121_49, ⟨Lcc121_49, hQc121_49, lc121_49, yc121_49, zc121_49⟩, stc121_49⟩ := Xw89_27.virtualBack hx (y := (⟨"com/example/replay/replay/api/EventType", "isActivityEvent", "()Z"⟩ : MethodName)) (z := (⟨"com/example/replay/replay/api/EventType", "isActivityEvent", "()Z"⟩ : MethodName)) hown (mvT hZ (hw _ (List.mem_of_getElem? (i := 31) rfl))) (mvT hZ (hw _ (List.mem_of_getElem? (i := 32) rfl))) (notFace_of_selects (args := #[]) (mvT hZ (hw _ (List.mem_of_getElem? (i := 34) rfl)))) (mvT hZ (hw _ (List.mem_of_getElem? (i := 34) rfl))) (mvT hZ (hw _ (List.mem_of_getElem? (i := 33) rfl))) (by decide) (backOf (W := 0) (rm1c l Z a0 hw [] y4 y1 y2 y3 hw89_27 Z.heap.size hnw89_27 (E4.ext Kw89_27) (S1.ext Kw89_27) (S2.ext Kw89_27) (S3.ext Kw89_27) (Fld.ne O4 O1 (by decide)) (Fld.ne O4 O2 (by decide)) (Fld.ne O4 O3 (by decide))) hZ (hw _ (List.mem_of_getElem? (i := 35) rfl)) (hw _ (List.mem_of_getElem? (i := 3) rfl)) (by decide) (by decide)) qc121_49a qc121_49c (g := (mkF m 121 #[.val (.int x0), .val (.ref ba2_1), .val (.int (4 : Int32)), .val (.ref y4), .val (.int (0 : Int32)), .unset, .unset] [(.ref y4)])) rfl (by rw [hml]; rfl) (Steps.refl _) (argsL := []) (rest := []) (lenOf pd_0 rfl) rfl (by show 2 * 0 + _ ≤ _; exact Nat.le_of_eq rfl) (hb hby at_121) (fun _ _ => ⟨rfl, ew89_27, (by decide : 1 + 0 ≤ _), (by decide : 13 + 0 ≤ _)⟩)
    dsimp only [Pt.U, Pt.locs, Pt.cells, Pt.slots] at Xc121_49 lc121_49 yc121_49 zc121_49 stc121_49 hQc121_49
    subst lc121_49 yc121_49 zc121_49
    obtain ⟨rfl, rfl, ec121_49⟩ := hQc121_49
    refine RunsW.go (fun _ => stc121_49.trans) ?_
    have Nc121_49 := Fr.app Nw89_27 (Fr.nil Z.heap.size)
    show RunsW p e below s _ _ _ (Tc121_49.setTop (mkF m 124 #[.val (.int x0), .val (.ref ba2_1), .val (.int (4 : Int32)), .val (.ref y4), .val (.int (0 : Int32)), .unset, .unset] [(.int (0 : Int32))]))
    refine RunsW.go (fun _ => XS.istore Xc121_49.here hx rfl (hb hby at_124) rfl (l' := #[.val (.int x0), .val (.ref ba2_1), .val (.int (4 : Int32)), .val (.ref y4), .val (.int (0 : Int32)), .val (.int (0 : Int32)), .unset]) rfl) ?_
    show RunsW p e below s _ _ _ (Tc121_49.setTop (mkF m 126 #[.val (.int x0), .val (.ref ba2_1), .val (.int (4 : Int32)), .val (.ref y4), .val (.int (0 : Int32)), .val (.int (0 : Int32)), .unset] []))
    obtain ⟨bs126_50, Ts126_50, hs126_50, k1s126_50, ds126_50, kks126_50, Xs126_50, es126_50, Es126_50, hSs126_50, hks126_50, hZ, hown, Exs126_50, Fcs126_50, Fvs126_50, Vs126_50, -, -, -, sts126_50⟩ := ldcSV (s := s) (vm0 := s.vm) Xc121_49 hx hZ hown (hw _ (List.mem_of_getElem? (i := 44) rfl)) wS ec121_49 (own_since s) (by rw [hh]; exact Kw89_27.1) (by rw [hh]; exact Nc121_49) hkeep I0 (fun q => nomatch q) hheld hcw (vs := own_act.map Value.int) (z := 8) ⟨by decide, by decide +kernel⟩ (by decide) rfl (g := (mkF m 126 #[.val (.int x0), .val (.ref ba2_1), .val (.int (4 : Int32)), .val (.ref y4), .val (.int (0 : Int32)), .val (.int (0 : Int32)), .unset] [])) rfl (hb hby at_126) (n := 32) (by decide) (by decide) (by decide) (by decide)
    refine RunsW.go sts126_50 ?_
    have Ks126_50 : Ext Z.heap hs126_50 := own_extt Kw89_27 Es126_50
    have hns126_50 : Z.heap.size ≤ hs126_50.size := Nat.le_trans hnw89_27 Es126_50.1
    show RunsW p e below s _ _ _ (Ts126_50.setTop (mkF m 128 #[.val (.int x0), .val (.ref ba2_1), .val (.int (4 : Int32)), .val (.ref y4), .val (.int (0 : Int32)), .val (.int (0 : Int32)), .unset] [(.ref bs126_50)]))
    refine RunsW.go (fun _ => XS.aloadN Xs126_50.here hx rfl (hb hby at_128) rfl rfl) ?_
    show RunsW p e below s _ _ _ (Ts126_50.setTop (mkF m 129 #[.val (.int x0), .val (.ref ba2_1), .val (.int (4 : Int32)), .val (.ref y4), .val (.int (0 : Int32)), .val (.int (0 : Int32)), .unset] [(.ref y4), (.ref bs126_50)]))
    obtain ⟨cqc129_51, kqc129_51, qc129_51a, qc129_51b, qc129_51c⟩ := isOf hZ es126_50 (E4.ext Ks126_50)
    obtain ⟨_, _, ⟨Tc129_51, Lc129_51, kc129_51, nc129_51⟩, -, Xc129_51, ⟨Lcc129_51, hQc129_51, lc129_51, yc129_51, zc129_51⟩, stc129_51⟩ := Xs126_50.virtualBack hx (y := (⟨"com/example/replay/replay/api/EventType", "subject", "()Ljava/lang/String;"⟩ : MethodName)) (z := (⟨"com/example/replay/replay/api/EventType", "subject", "()Ljava/lang/String;"⟩ : MethodName)) hown (mvT hZ (hw _ (List.mem_of_getElem? (i := 52) rfl))) (mvT hZ (hw _ (List.mem_of_getElem? (i := 53) rfl))) (notFace_of_selects (args := #[]) (mvT hZ (hw _ (List.mem_of_getElem? (i := 55) rfl)))) (mvT hZ (hw _ (List.mem_of_getElem? (i := 55) rfl))) (mvT hZ (hw _ (List.mem_of_getElem? (i := 54) rfl))) (by decide) (backOf (W := 1) (rm3 l Z a0 hw [] y4 .null hs126_50 Z.heap.size hns126_50 (F4.ext Ks126_50) rfl) hZ (hw _ (List.mem_of_getElem? (i := 56) rfl)) (hw _ (List.mem_of_getElem? (i := 3) rfl)) (by decide) (by decide)) qc129_51a qc129_51c (g := (mkF m 129 #[.val (.int x0), .val (.ref ba2_1), .val (.int (4 : Int32)), .val (.ref y4), .val (.int (0 : Int32)), .val (.int (0 : Int32)), .unset] [(.ref y4), (.ref bs126_50)])) rfl (by rw [hml]; rfl) (Steps.refl _) (argsL := []) (rest := [(.ref bs126_50)]) (lenOf pd_1 rfl) rfl (by show 2 * 0 + _ ≤ _; exact Nat.le_of_eq rfl) (hb hby at_129) (fun _ _ => ⟨rfl, es126_50, (by decide : 3 + 0 ≤ _), (by decide : 49 + 0 ≤ _)⟩)
    dsimp only [Pt.U, Pt.locs, Pt.cells, Pt.slots] at Xc129_51 lc129_51 yc129_51 zc129_51 stc129_51 hQc129_51
    subst lc129_51 yc129_51 zc129_51
    obtain ⟨rfl, rfl, ec129_51⟩ := hQc129_51
    refine RunsW.go (fun _ => stc129_51.trans) ?_
    have Nc129_51 := Fr.app Nc121_49 (Fr.nil Z.heap.size)
    show RunsW p e below s _ _ _ (Tc129_51.setTop (mkF m 132 #[.val (.int x0), .val (.ref ba2_1), .val (.int (4 : Int32)), .val (.ref y4), .val (.int (0 : Int32)), .val (.int (0 : Int32)), .unset] [.null, (.ref bs126_50)]))
    obtain ⟨cqc132_52, kqc132_52, qc132_52a, qc132_52b, qc132_52c⟩ := isOf hZ ec129_51 Exs126_50
    obtain ⟨_, _, ⟨Tc132_52, Lc132_52, kc132_52, nc132_52⟩, -, Xc132_52, ⟨Lcc132_52, hQc132_52, lc132_52, yc132_52, zc132_52⟩, stc132_52⟩ := Xc129_51.virtualBack hx (y := (⟨"java/lang/String", "equals", "(Ljava/lang/Object;)Z"⟩ : MethodName)) (z := (⟨"java/lang/String", "equals", "(Ljava/lang/Object;)Z"⟩ : MethodName)) hown (mvT hZ (hw _ (List.mem_of_getElem? (i := 59) rfl))) (mvT hZ (hw _ (List.mem_of_getElem? (i := 60) rfl))) (notFace_of_selects (args := #[]) (mvT hZ (hw _ (List.mem_of_getElem? (i := 62) rfl)))) (mvT hZ (hw _ (List.mem_of_getElem? (i := 62) rfl))) (mvT hZ (hw _ (List.mem_of_getElem? (i := 61) rfl))) (by decide) (backOf (W := 0) (rm4n l Z a0 hw [] bs126_50 hs126_50) hZ (hw _ (List.mem_of_getElem? (i := 63) rfl)) (hw _ (List.mem_of_getElem? (i := 45) rfl)) (by decide) (by decide)) qc132_52a qc132_52c (g := (mkF m 132 #[.val (.int x0), .val (.ref ba2_1), .val (.int (4 : Int32)), .val (.ref y4), .val (.int (0 : Int32)), .val (.int (0 : Int32)), .unset] [.null, (.ref bs126_50)])) rfl (by rw [hml]; rfl) (Steps.refl _) (argsL := [.null]) (rest := []) (lenOf pd_2 rfl) rfl (by show 2 * 0 + _ ≤ _; exact Nat.le_of_eq rfl) (hb hby at_132) (fun _ _ => ⟨rfl, ec129_51, (by decide : 3 + 0 ≤ _), (by decide : 49 + 0 ≤ _)⟩)
    dsimp only [Pt.U, Pt.locs, Pt.cells, Pt.slots] at Xc132_52 lc132_52 yc132_52 zc132_52 stc132_52 hQc132_52
    subst lc132_52 yc132_52 zc132_52
    obtain ⟨rfl, rfl, ec132_52⟩ := hQc132_52
    refine RunsW.go (fun _ => stc132_52.trans) ?_
    have Nc132_52 := Fr.app Nc129_51 (Fr.nil Z.heap.size)
    show RunsW p e below s _ _ _ (Tc132_52.setTop (mkF m 135 #[.val (.int x0), .val (.ref ba2_1), .val (.int (4 : Int32)), .val (.ref y4), .val (.int (0 : Int32)), .val (.int (0 : Int32)), .unset] [(.int (0 : Int32))]))
    refine RunsW.go (fun _ => XS.istore Xc132_52.here hx rfl (hb hby at_135) rfl (l' := #[.val (.int x0), .val (.ref ba2_1), .val (.int (4 : Int32)), .val (.ref y4), .val (.int (0 : Int32)), .val (.int (0 : Int32)), .val (.int (0 : Int32))]) rfl) ?_
    show RunsW p e below s _ _ _ (Tc132_52.setTop (mkF m 137 #[.val (.int x0), .val (.ref ba2_1), .val (.int (4 : Int32)), .val (.ref y4), .val (.int (0 : Int32)), .val (.int (0 : Int32)), .val (.int (0 : Int32))] []))
    refine RunsW.go (fun _ => XS.iload Xc132_52.here hx rfl (hb hby at_137) rfl) ?_
    show RunsW p e below s _ _ _ (Tc132_52.setTop (mkF m 139 #[.val (.int x0), .val (.ref ba2_1), .val (.int (4 : Int32)), .val (.ref y4), .val (.int (0 : Int32)), .val (.int (0 : Int32)), .val (.int (0 : Int32))] [(.int (0 : Int32))]))
    refine RunsW.go (fun _ => XS.iload Xc132_52.here hx rfl (hb hby at_139) rfl) ?_
    show RunsW p e below s _ _ _ (Tc132_52.setTop (mkF m 141 #[.val (.int x0), .val (.ref ba2_1), .val (.int (4 : Int32)), .val (.ref y4), .val (.int (0 : Int32)), .val (.int (0 : Int32)), .val (.int (0 : Int32))] [(.int (0 : Int32)), (.int (0 : Int32))]))
    refine RunsW.go (fun _ => XS.icmpNo Xc132_52.here hx rfl (hb hby at_141) rfl (teq (rfl : (0 : Int32) = (0 : Int32))).2) ?_
    show RunsW p e below s _ _ _ (Tc132_52.setTop (mkF m 144 #[.val (.int x0), .val (.ref ba2_1), .val (.int (4 : Int32)), .val (.ref y4), .val (.int (0 : Int32)), .val (.int (0 : Int32)), .val (.int (0 : Int32))] []))
    refine RunsW.go (fun _ => XS.iload Xc132_52.here hx rfl (hb hby at_144) rfl) ?_
    show RunsW p e below s _ _ _ (Tc132_52.setTop (mkF m 146 #[.val (.int x0), .val (.ref ba2_1), .val (.int (4 : Int32)), .val (.ref y4), .val (.int (0 : Int32)), .val (.int (0 : Int32)), .val (.int (0 : Int32))] [(.int (0 : Int32))]))
    refine RunsW.go (fun _ => XS.iload Xc132_52.here hx rfl (hb hby at_146) rfl) ?_
    show RunsW p e below s _ _ _ (Tc132_52.setTop (mkF m 148 #[.val (.int x0), .val (.ref ba2_1), .val (.int (4 : Int32)), .val (.ref y4), .val (.int (0 : Int32)), .val (.int (0 : Int32)), .val (.int (0 : Int32))] [(.int (0 : Int32)), (.int (0 : Int32))]))
    refine RunsW.go (fun _ => XS.icmpNo Xc132_52.here hx rfl (hb hby at_148) rfl (teq (rfl : (0 : Int32) = (0 : Int32))).2) ?_
    show RunsW p e below s _ _ _ (Tc132_52.setTop (mkF m 151 #[.val (.int x0), .val (.ref ba2_1), .val (.int (4 : Int32)), .val (.ref y4), .val (.int (0 : Int32)), .val (.int (0 : Int32)), .val (.int (0 : Int32))] []))
    refine RunsW.go (fun _ => XS.iconst Xc132_52.here hx rfl (hb hby at_151)) ?_
    show RunsW p e below s _ _ _ (Tc132_52.setTop (mkF m 152 #[.val (.int x0), .val (.ref ba2_1), .val (.int (4 : Int32)), .val (.ref y4), .val (.int (0 : Int32)), .val (.int (0 : Int32)), .val (.int (0 : Int32))] [(.int (1 : Int32))]))
    refine RunsW.go (fun _ => XS.goto Xc132_52.here hx rfl (pc0 := 152) (pc' := 156) rfl (hb hby at_152) (by decide) (by decide)) ?_
    show RunsW p e below s _ _ _ (Tc132_52.setTop (mkF m 156 #[.val (.int x0), .val (.ref ba2_1), .val (.int (4 : Int32)), .val (.ref y4), .val (.int (0 : Int32)), .val (.int (0 : Int32)), .val (.int (0 : Int32))] [(.int (1 : Int32))]))
    exact RunsW.endN Xc132_52 hSs126_50 (by rw [ec132_52]; exact hks126_50) hx (t := .boolean) Bd.returns (by simp) Bd.notSynchronized (hb hby at_156) ⟨rfl, Nc132_52⟩ (by decide) (by decide)
  · rw [q]
    show RunsW p e below s _ _ _ (Tw89_27.setTop (mkF m 98 #[.val (.int x0), .val (.ref ba2_1), .unset, .unset, .unset, .unset, .unset] [(.int (5 : Int32))]))
    refine RunsW.go (fun _ => XS.istoreN Xw89_27.here hx rfl (hb hby at_98) rfl (l' := #[.val (.int x0), .val (.ref ba2_1), .val (.int (5 : Int32)), .unset, .unset, .unset, .unset]) rfl) ?_
    show RunsW p e below s _ _ _ (Tw89_27.setTop (mkF m 99 #[.val (.int x0), .val (.ref ba2_1), .val (.int (5 : Int32)), .unset, .unset, .unset, .unset] []))
    refine RunsW.go (fun _ => XS.aloadN Xw89_27.here hx rfl (hb hby at_99) rfl rfl) ?_
    show RunsW p e below s _ _ _ (Tw89_27.setTop (mkF m 100 #[.val (.int x0), .val (.ref ba2_1), .val (.int (5 : Int32)), .unset, .unset, .unset, .unset] [(.ref ba2_1)]))
    refine RunsW.go (fun _ => XS.iloadN Xw89_27.here hx rfl (hb hby at_100) rfl) ?_
    show RunsW p e below s _ _ _ (Tw89_27.setTop (mkF m 101 #[.val (.int x0), .val (.ref ba2_1), .val (.int (5 : Int32)), .unset, .unset, .unset, .unset] [(.int (5 : Int32)), (.ref ba2_1)]))
    have VCr101_53 := Vw89_27
    obtain ⟨clr101_53, Arr101_53, -, Sr101_53, Mr101_53, Hr101_53, -⟩ := VCr101_53
    have hinr101_53 : ¬ ((5 : Int32) < 0 ∨ clr101_53.slots.size ≤ ((5 : Int32)).toNatClampNeg) := inb_of Sr101_53 ⟨by decide, by decide⟩
    have hatr101_53 : clr101_53.slots[((5 : Int32)).toNatClampNeg]? = some (.ref y5) := Has.at Hr101_53 hinr101_53 rfl
    refine RunsW.go (Xw89_27.aaload hx (j := (5 : Int32)) (v := (.ref y5)) (by rw [ew89_27]; exact Arr101_53.1) (State.isArrayOf_alike hZ.alike Arr101_53.2.1) rfl Arr101_53.2.2 hinr101_53 hatr101_53 (g := (mkF m 101 #[.val (.int x0), .val (.ref ba2_1), .val (.int (5 : Int32)), .unset, .unset, .unset, .unset] [(.int (5 : Int32)), (.ref ba2_1)])) rfl rfl (hb hby at_101)) ?_
    show RunsW p e below s _ _ _ (Tw89_27.setTop (mkF m 102 #[.val (.int x0), .val (.ref ba2_1), .val (.int (5 : Int32)), .unset, .unset, .unset, .unset] [(.ref y5)]))
    refine RunsW.go (fun _ => XS.astoreN Xw89_27.here hx rfl (hb hby at_102) rfl rfl (l' := #[.val (.int x0), .val (.ref ba2_1), .val (.int (5 : Int32)), .val (.ref y5), .unset, .unset, .unset]) rfl) ?_
    show RunsW p e below s _ _ _ (Tw89_27.setTop (mkF m 103 #[.val (.int x0), .val (.ref ba2_1), .val (.int (5 : Int32)), .val (.ref y5), .unset, .unset, .unset] []))
    refine RunsW.go (fun _ => XS.iloadN Xw89_27.here hx rfl (hb hby at_103) rfl) ?_
    show RunsW p e below s _ _ _ (Tw89_27.setTop (mkF m 104 #[.val (.int x0), .val (.ref ba2_1), .val (.int (5 : Int32)), .val (.ref y5), .unset, .unset, .unset] [(.int (5 : Int32))]))
    refine RunsW.go (fun _ => XS.iconst Xw89_27.here hx rfl (hb hby at_104)) ?_
    show RunsW p e below s _ _ _ (Tw89_27.setTop (mkF m 105 #[.val (.int x0), .val (.ref ba2_1), .val (.int (5 : Int32)), .val (.ref y5), .unset, .unset, .unset] [(.int (1 : Int32)), (.int (5 : Int32))]))
    refine RunsW.go (fun _ => XS.icmpNo Xw89_27.here hx rfl (hb hby at_105) rfl (flt ((by decide) : ¬ ((5 : Int32) < (1 : Int32)))).1) ?_
    show RunsW p e below s _ _ _ (Tw89_27.setTop (mkF m 108 #[.val (.int x0), .val (.ref ba2_1), .val (.int (5 : Int32)), .val (.ref y5), .unset, .unset, .unset] []))
    refine RunsW.go (fun _ => XS.iloadN Xw89_27.here hx rfl (hb hby at_108) rfl) ?_
    show RunsW p e below s _ _ _ (Tw89_27.setTop (mkF m 109 #[.val (.int x0), .val (.ref ba2_1), .val (.int (5 : Int32)), .val (.ref y5), .unset, .unset, .unset] [(.int (5 : Int32))]))
    refine RunsW.go (fun _ => XS.iconst Xw89_27.here hx rfl (hb hby at_109)) ?_
    show RunsW p e below s _ _ _ (Tw89_27.setTop (mkF m 110 #[.val (.int x0), .val (.ref ba2_1), .val (.int (5 : Int32)), .val (.ref y5), .unset, .unset, .unset] [(.int (3 : Int32)), (.int (5 : Int32))]))
    refine RunsW.go (fun _ => XS.icmpYes Xw89_27.here hx rfl (pc0 := 110) (pc' := 117) rfl (hb hby at_110) rfl (tlt ((by decide) : (3 : Int32) < (5 : Int32))).2.2.1 (by decide) (by decide)) ?_
    show RunsW p e below s _ _ _ (Tw89_27.setTop (mkF m 117 #[.val (.int x0), .val (.ref ba2_1), .val (.int (5 : Int32)), .val (.ref y5), .unset, .unset, .unset] []))
    refine RunsW.go (fun _ => XS.iconst Xw89_27.here hx rfl (hb hby at_117)) ?_
    show RunsW p e below s _ _ _ (Tw89_27.setTop (mkF m 118 #[.val (.int x0), .val (.ref ba2_1), .val (.int (5 : Int32)), .val (.ref y5), .unset, .unset, .unset] [(.int (0 : Int32))]))
    refine RunsW.go (fun _ => XS.istore Xw89_27.here hx rfl (hb hby at_118) rfl (l' := #[.val (.int x0), .val (.ref ba2_1), .val (.int (5 : Int32)), .val (.ref y5), .val (.int (0 : Int32)), .unset, .unset]) rfl) ?_
    show RunsW p e below s _ _ _ (Tw89_27.setTop (mkF m 120 #[.val (.int x0), .val (.ref ba2_1), .val (.int (5 : Int32)), .val (.ref y5), .val (.int (0 : Int32)), .unset, .unset] []))
    refine RunsW.go (fun _ => XS.aloadN Xw89_27.here hx rfl (hb hby at_120) rfl rfl) ?_
    show RunsW p e below s _ _ _ (Tw89_27.setTop (mkF m 121 #[.val (.int x0), .val (.ref ba2_1), .val (.int (5 : Int32)), .val (.ref y5), .val (.int (0 : Int32)), .unset, .unset] [(.ref y5)]))
    obtain ⟨cqc121_54, kqc121_54, qc121_54a, qc121_54b, qc121_54c⟩ := isOf hZ ew89_27 (E5.ext Kw89_27)
    obtain ⟨_, _, ⟨Tc121_54, Lc121_54, kc121_54, nc121_54⟩, -, Xc121_54, ⟨Lcc121_54, hQc121_54, lc121_54, yc121_54, zc121_54⟩, stc121_54⟩ := Xw89_27.virtualBack hx (y := (⟨"com/example/replay/replay/api/EventType", "isActivityEvent", "()Z"⟩ : MethodName)) (z := (⟨"com/example/replay/replay/api/EventType", "isActivityEvent", "()Z"⟩ : MethodName)) hown (mvT hZ (hw _ (List.mem_of_getElem? (i := 31) rfl))) (mvT hZ (hw _ (List.mem_of_getElem? (i := 32) rfl))) (notFace_of_selects (args := #[]) (mvT hZ (hw _ (List.mem_of_getElem? (i := 34) rfl)))) (mvT hZ (hw _ (List.mem_of_getElem? (i := 34) rfl))) (mvT hZ (hw _ (List.mem_of_getElem? (i := 33) rfl))) (by decide) (backOf (W := 0) (rm1c l Z a0 hw [] y5 y1 y2 y3 hw89_27 Z.heap.size hnw89_27 (E5.ext Kw89_27) (S1.ext Kw89_27) (S2.ext Kw89_27) (S3.ext Kw89_27) (Fld.ne O5 O1 (by decide)) (Fld.ne O5 O2 (by decide)) (Fld.ne O5 O3 (by decide))) hZ (hw _ (List.mem_of_getElem? (i := 35) rfl)) (hw _ (List.mem_of_getElem? (i := 3) rfl)) (by decide) (by decide)) qc121_54a qc121_54c (g := (mkF m 121 #[.val (.int x0), .val (.ref ba2_1), .val (.int (5 : Int32)), .val (.ref y5), .val (.int (0 : Int32)), .unset, .unset] [(.ref y5)])) rfl (by rw [hml]; rfl) (Steps.refl _) (argsL := []) (rest := []) (lenOf pd_0 rfl) rfl (by show 2 * 0 + _ ≤ _; exact Nat.le_of_eq rfl) (hb hby at_121) (fun _ _ => ⟨rfl, ew89_27, (by decide : 1 + 0 ≤ _), (by decide : 13 + 0 ≤ _)⟩)
    dsimp only [Pt.U, Pt.locs, Pt.cells, Pt.slots] at Xc121_54 lc121_54 yc121_54 zc121_54 stc121_54 hQc121_54
    subst lc121_54 yc121_54 zc121_54
    obtain ⟨rfl, rfl, ec121_54⟩ := hQc121_54
    refine RunsW.go (fun _ => stc121_54.trans) ?_
    have Nc121_54 := Fr.app Nw89_27 (Fr.nil Z.heap.size)
    show RunsW p e below s _ _ _ (Tc121_54.setTop (mkF m 124 #[.val (.int x0), .val (.ref ba2_1), .val (.int (5 : Int32)), .val (.ref y5), .val (.int (0 : Int32)), .unset, .unset] [(.int (0 : Int32))]))
    refine RunsW.go (fun _ => XS.istore Xc121_54.here hx rfl (hb hby at_124) rfl (l' := #[.val (.int x0), .val (.ref ba2_1), .val (.int (5 : Int32)), .val (.ref y5), .val (.int (0 : Int32)), .val (.int (0 : Int32)), .unset]) rfl) ?_
    show RunsW p e below s _ _ _ (Tc121_54.setTop (mkF m 126 #[.val (.int x0), .val (.ref ba2_1), .val (.int (5 : Int32)), .val (.ref y5), .val (.int (0 : Int32)), .val (.int (0 : Int32)), .unset] []))
    obtain ⟨bs126_55, Ts126_55, hs126_55, k1s126_55, ds126_55, kks126_55, Xs126_55, es126_55, Es126_55, hSs126_55, hks126_55, hZ, hown, Exs126_55, Fcs126_55, Fvs126_55, Vs126_55, -, -, -, sts126_55⟩ := ldcSV (s := s) (vm0 := s.vm) Xc121_54 hx hZ hown (hw _ (List.mem_of_getElem? (i := 44) rfl)) wS ec121_54 (own_since s) (by rw [hh]; exact Kw89_27.1) (by rw [hh]; exact Nc121_54) hkeep I0 (fun q => nomatch q) hheld hcw (vs := own_act.map Value.int) (z := 8) ⟨by decide, by decide +kernel⟩ (by decide) rfl (g := (mkF m 126 #[.val (.int x0), .val (.ref ba2_1), .val (.int (5 : Int32)), .val (.ref y5), .val (.int (0 : Int32)), .val (.int (0 : Int32)), .unset] [])) rfl (hb hby at_126) (n := 32) (by decide) (by decide) (by decide) (by decide)
    refine RunsW.go sts126_55 ?_
    have Ks126_55 : Ext Z.heap hs126_55 := own_extt Kw89_27 Es126_55
    have hns126_55 : Z.heap.size ≤ hs126_55.size := Nat.le_trans hnw89_27 Es126_55.1
    show RunsW p e below s _ _ _ (Ts126_55.setTop (mkF m 128 #[.val (.int x0), .val (.ref ba2_1), .val (.int (5 : Int32)), .val (.ref y5), .val (.int (0 : Int32)), .val (.int (0 : Int32)), .unset] [(.ref bs126_55)]))
    refine RunsW.go (fun _ => XS.aloadN Xs126_55.here hx rfl (hb hby at_128) rfl rfl) ?_
    show RunsW p e below s _ _ _ (Ts126_55.setTop (mkF m 129 #[.val (.int x0), .val (.ref ba2_1), .val (.int (5 : Int32)), .val (.ref y5), .val (.int (0 : Int32)), .val (.int (0 : Int32)), .unset] [(.ref y5), (.ref bs126_55)]))
    obtain ⟨cqc129_56, kqc129_56, qc129_56a, qc129_56b, qc129_56c⟩ := isOf hZ es126_55 (E5.ext Ks126_55)
    obtain ⟨_, _, ⟨Tc129_56, Lc129_56, kc129_56, nc129_56⟩, -, Xc129_56, ⟨Lcc129_56, hQc129_56, lc129_56, yc129_56, zc129_56⟩, stc129_56⟩ := Xs126_55.virtualBack hx (y := (⟨"com/example/replay/replay/api/EventType", "subject", "()Ljava/lang/String;"⟩ : MethodName)) (z := (⟨"com/example/replay/replay/api/EventType", "subject", "()Ljava/lang/String;"⟩ : MethodName)) hown (mvT hZ (hw _ (List.mem_of_getElem? (i := 52) rfl))) (mvT hZ (hw _ (List.mem_of_getElem? (i := 53) rfl))) (notFace_of_selects (args := #[]) (mvT hZ (hw _ (List.mem_of_getElem? (i := 55) rfl)))) (mvT hZ (hw _ (List.mem_of_getElem? (i := 55) rfl))) (mvT hZ (hw _ (List.mem_of_getElem? (i := 54) rfl))) (by decide) (backOf (W := 1) (rm3 l Z a0 hw [] y5 .null hs126_55 Z.heap.size hns126_55 (F5.ext Ks126_55) rfl) hZ (hw _ (List.mem_of_getElem? (i := 56) rfl)) (hw _ (List.mem_of_getElem? (i := 3) rfl)) (by decide) (by decide)) qc129_56a qc129_56c (g := (mkF m 129 #[.val (.int x0), .val (.ref ba2_1), .val (.int (5 : Int32)), .val (.ref y5), .val (.int (0 : Int32)), .val (.int (0 : Int32)), .unset] [(.ref y5), (.ref bs126_55)])) rfl (by rw [hml]; rfl) (Steps.refl _) (argsL := []) (rest := [(.ref bs126_55)]) (lenOf pd_1 rfl) rfl (by show 2 * 0 + _ ≤ _; exact Nat.le_of_eq rfl) (hb hby at_129) (fun _ _ => ⟨rfl, es126_55, (by decide : 3 + 0 ≤ _), (by decide : 49 + 0 ≤ _)⟩)
    dsimp only [Pt.U, Pt.locs, Pt.cells, Pt.slots] at Xc129_56 lc129_56 yc129_56 zc129_56 stc129_56 hQc129_56
    subst lc129_56 yc129_56 zc129_56
    obtain ⟨rfl, rfl, ec129_56⟩ := hQc129_56
    refine RunsW.go (fun _ => stc129_56.trans) ?_
    have Nc129_56 := Fr.app Nc121_54 (Fr.nil Z.heap.size)
    show RunsW p e below s _ _ _ (Tc129_56.setTop (mkF m 132 #[.val (.int x0), .val (.ref ba2_1), .val (.int (5 : Int32)), .val (.ref y5), .val (.int (0 : Int32)), .val (.int (0 : Int32)), .unset] [.null, (.ref bs126_55)]))
    obtain ⟨cqc132_57, kqc132_57, qc132_57a, qc132_57b, qc132_57c⟩ := isOf hZ ec129_56 Exs126_55
    obtain ⟨_, _, ⟨Tc132_57, Lc132_57, kc132_57, nc132_57⟩, -, Xc132_57, ⟨Lcc132_57, hQc132_57, lc132_57, yc132_57, zc132_57⟩, stc132_57⟩ := Xc129_56.virtualBack hx (y := (⟨"java/lang/String", "equals", "(Ljava/lang/Object;)Z"⟩ : MethodName)) (z := (⟨"java/lang/String", "equals", "(Ljava/lang/Object;)Z"⟩ : MethodName)) hown (mvT hZ (hw _ (List.mem_of_getElem? (i := 59) rfl))) (mvT hZ (hw _ (List.mem_of_getElem? (i := 60) rfl))) (notFace_of_selects (args := #[]) (mvT hZ (hw _ (List.mem_of_getElem? (i := 62) rfl)))) (mvT hZ (hw _ (List.mem_of_getElem? (i := 62) rfl))) (mvT hZ (hw _ (List.mem_of_getElem? (i := 61) rfl))) (by decide) (backOf (W := 0) (rm4n l Z a0 hw [] bs126_55 hs126_55) hZ (hw _ (List.mem_of_getElem? (i := 63) rfl)) (hw _ (List.mem_of_getElem? (i := 45) rfl)) (by decide) (by decide)) qc132_57a qc132_57c (g := (mkF m 132 #[.val (.int x0), .val (.ref ba2_1), .val (.int (5 : Int32)), .val (.ref y5), .val (.int (0 : Int32)), .val (.int (0 : Int32)), .unset] [.null, (.ref bs126_55)])) rfl (by rw [hml]; rfl) (Steps.refl _) (argsL := [.null]) (rest := []) (lenOf pd_2 rfl) rfl (by show 2 * 0 + _ ≤ _; exact Nat.le_of_eq rfl) (hb hby at_132) (fun _ _ => ⟨rfl, ec129_56, (by decide : 3 + 0 ≤ _), (by decide : 49 + 0 ≤ _)⟩)
    dsimp only [Pt.U, Pt.locs, Pt.cells, Pt.slots] at Xc132_57 lc132_57 yc132_57 zc132_57 stc132_57 hQc132_57
    subst lc132_57 yc132_57 zc132_57
    obtain ⟨rfl, rfl, ec132_57⟩ := hQc132_57
    refine RunsW.go (fun _ => stc132_57.trans) ?_
    have Nc132_57 := Fr.app Nc129_56 (Fr.nil Z.heap.size)
    show RunsW p e below s _ _ _ (Tc132_57.setTop (mkF m 135 #[.val (.int x0), .val (.ref ba2_1), .val (.int (5 : Int32)), .val (.ref y5), .val (.int (0 : Int32)), .val (.int (0 : Int32)), .unset] [(.int (0 : Int32))]))
    refine RunsW.go (fun _ => XS.istore Xc132_57.here hx rfl (hb hby at_135) rfl (l' := #[.val (.int x0), .val (.ref ba2_1), .val (.int (5 : Int32)), .val (.ref y5), .val (.int (0 : Int32)), .val (.int (0 : Int32)), .val (.int (0 : Int32))]) rfl) ?_
    show RunsW p e below s _ _ _ (Tc132_57.setTop (mkF m 137 #[.val (.int x0), .val (.ref ba2_1), .val (.int (5 : Int32)), .val (.ref y5), .val (.int (0 : Int32)), .val (.int (0 : Int32)), .val (.int (0 : Int32))] []))
    refine RunsW.go (fun _ => XS.iload Xc132_57.here hx rfl (hb hby at_137) rfl) ?_
    show RunsW p e below s _ _ _ (Tc132_57.setTop (mkF m 139 #[.val (.int x0), .val (.ref ba2_1), .val (.int (5 : Int32)), .val (.ref y5), .val (.int (0 : Int32)), .val (.int (0 : Int32)), .val (.int (0 : Int32))] [(.int (0 : Int32))]))
    refine RunsW.go (fun _ => XS.iload Xc132_57.here hx rfl (hb hby at_139) rfl) ?_
    show RunsW p e below s _ _ _ (Tc132_57.setTop (mkF m 141 #[.val (.int x0), .val (.ref ba2_1), .val (.int (5 : Int32)), .val (.ref y5), .val (.int (0 : Int32)), .val (.int (0 : Int32)), .val (.int (0 : Int32))] [(.int (0 : Int32)), (.int (0 : Int32))]))
    refine RunsW.go (fun _ => XS.icmpNo Xc132_57.here hx rfl (hb hby at_141) rfl (teq (rfl : (0 : Int32) = (0 : Int32))).2) ?_
    show RunsW p e below s _ _ _ (Tc132_57.setTop (mkF m 144 #[.val (.int x0), .val (.ref ba2_1), .val (.int (5 : Int32)), .val (.ref y5), .val (.int (0 : Int32)), .val (.int (0 : Int32)), .val (.int (0 : Int32))] []))
    refine RunsW.go (fun _ => XS.iload Xc132_57.here hx rfl (hb hby at_144) rfl) ?_
    show RunsW p e below s _ _ _ (Tc132_57.setTop (mkF m 146 #[.val (.int x0), .val (.ref ba2_1), .val (.int (5 : Int32)), .val (.ref y5), .val (.int (0 : Int32)), .val (.int (0 : Int32)), .val (.int (0 : Int32))] [(.int (0 : Int32))]))
    refine RunsW.go (fun _ => XS.iload Xc132_57.here hx rfl (hb hby at_146) rfl) ?_
    show RunsW p e below s _ _ _ (Tc132_57.setTop (mkF m 148 #[.val (.int x0), .val (.ref ba2_1), .val (.int (5 : Int32)), .val (.ref y5), .val (.int (0 : Int32)), .val (.int (0 : Int32)), .val (.int (0 : Int32))] [(.int (0 : Int32)), (.int (0 : Int32))]))
    refine RunsW.go (fun _ => XS.icmpNo Xc132_57.here hx rfl (hb hby at_148) rfl (teq (rfl : (0 : Int32) = (0 : Int32))).2) ?_
    show RunsW p e below s _ _ _ (Tc132_57.setTop (mkF m 151 #[.val (.int x0), .val (.ref ba2_1), .val (.int (5 : Int32)), .val (.ref y5), .val (.int (0 : Int32)), .val (.int (0 : Int32)), .val (.int (0 : Int32))] []))
    refine RunsW.go (fun _ => XS.iconst Xc132_57.here hx rfl (hb hby at_151)) ?_
    show RunsW p e below s _ _ _ (Tc132_57.setTop (mkF m 152 #[.val (.int x0), .val (.ref ba2_1), .val (.int (5 : Int32)), .val (.ref y5), .val (.int (0 : Int32)), .val (.int (0 : Int32)), .val (.int (0 : Int32))] [(.int (1 : Int32))]))
    refine RunsW.go (fun _ => XS.goto Xc132_57.here hx rfl (pc0 := 152) (pc' := 156) rfl (hb hby at_152) (by decide) (by decide)) ?_
    show RunsW p e below s _ _ _ (Tc132_57.setTop (mkF m 156 #[.val (.int x0), .val (.ref ba2_1), .val (.int (5 : Int32)), .val (.ref y5), .val (.int (0 : Int32)), .val (.int (0 : Int32)), .val (.int (0 : Int32))] [(.int (1 : Int32))]))
    exact RunsW.endN Xc132_57 hSs126_55 (by rw [ec132_57]; exact hks126_55) hx (t := .boolean) Bd.returns (by simp) Bd.notSynchronized (hb hby at_156) ⟨rfl, Nc132_57⟩ (by decide) (by decide)
  · rw [q]
    show RunsW p e below s _ _ _ (Tw89_27.setTop (mkF m 98 #[.val (.int x0), .val (.ref ba2_1), .unset, .unset, .unset, .unset, .unset] [(.int (6 : Int32))]))
    refine RunsW.go (fun _ => XS.istoreN Xw89_27.here hx rfl (hb hby at_98) rfl (l' := #[.val (.int x0), .val (.ref ba2_1), .val (.int (6 : Int32)), .unset, .unset, .unset, .unset]) rfl) ?_
    show RunsW p e below s _ _ _ (Tw89_27.setTop (mkF m 99 #[.val (.int x0), .val (.ref ba2_1), .val (.int (6 : Int32)), .unset, .unset, .unset, .unset] []))
    refine RunsW.go (fun _ => XS.aloadN Xw89_27.here hx rfl (hb hby at_99) rfl rfl) ?_
    show RunsW p e below s _ _ _ (Tw89_27.setTop (mkF m 100 #[.val (.int x0), .val (.ref ba2_1), .val (.int (6 : Int32)), .unset, .unset, .unset, .unset] [(.ref ba2_1)]))
    refine RunsW.go (fun _ => XS.iloadN Xw89_27.here hx rfl (hb hby at_100) rfl) ?_
    show RunsW p e below s _ _ _ (Tw89_27.setTop (mkF m 101 #[.val (.int x0), .val (.ref ba2_1), .val (.int (6 : Int32)), .unset, .unset, .unset, .unset] [(.int (6 : Int32)), (.ref ba2_1)]))
    have VCr101_58 := Vw89_27
    obtain ⟨clr101_58, Arr101_58, -, Sr101_58, Mr101_58, Hr101_58, -⟩ := VCr101_58
    have hinr101_58 : ¬ ((6 : Int32) < 0 ∨ clr101_58.slots.size ≤ ((6 : Int32)).toNatClampNeg) := inb_of Sr101_58 ⟨by decide, by decide⟩
    have hatr101_58 : clr101_58.slots[((6 : Int32)).toNatClampNeg]? = some (.ref y6) := Has.at Hr101_58 hinr101_58 rfl
    refine RunsW.go (Xw89_27.aaload hx (j := (6 : Int32)) (v := (.ref y6)) (by rw [ew89_27]; exact Arr101_58.1) (State.isArrayOf_alike hZ.alike Arr101_58.2.1) rfl Arr101_58.2.2 hinr101_58 hatr101_58 (g := (mkF m 101 #[.val (.int x0), .val (.ref ba2_1), .val (.int (6 : Int32)), .unset, .unset, .unset, .unset] [(.int (6 : Int32)), (.ref ba2_1)])) rfl rfl (hb hby at_101)) ?_
    show RunsW p e below s _ _ _ (Tw89_27.setTop (mkF m 102 #[.val (.int x0), .val (.ref ba2_1), .val (.int (6 : Int32)), .unset, .unset, .unset, .unset] [(.ref y6)]))
    refine RunsW.go (fun _ => XS.astoreN Xw89_27.here hx rfl (hb hby at_102) rfl rfl (l' := #[.val (.int x0), .val (.ref ba2_1), .val (.int (6 : Int32)), .val (.ref y6), .unset, .unset, .unset]) rfl) ?_
    show RunsW p e below s _ _ _ (Tw89_27.setTop (mkF m 103 #[.val (.int x0), .val (.ref ba2_1), .val (.int (6 : Int32)), .val (.ref y6), .unset, .unset, .unset] []))
    refine RunsW.go (fun _ => XS.iloadN Xw89_27.here hx rfl (hb hby at_103) rfl) ?_
    show RunsW p e below s _ _ _ (Tw89_27.setTop (mkF m 104 #[.val (.int x0), .val (.ref ba2_1), .val (.int (6 : Int32)), .val (.ref y6), .unset, .unset, .unset] [(.int (6 : Int32))]))
    refine RunsW.go (fun _ => XS.iconst Xw89_27.here hx rfl (hb hby at_104)) ?_
    show RunsW p e below s _ _ _ (Tw89_27.setTop (mkF m 105 #[.val (.int x0), .val (.ref ba2_1), .val (.int (6 : Int32)), .val (.ref y6), .unset, .unset, .unset] [(.int (1 : Int32)), (.int (6 : Int32))]))
    refine RunsW.go (fun _ => XS.icmpNo Xw89_27.here hx rfl (hb hby at_105) rfl (flt ((by decide) : ¬ ((6 : Int32) < (1 : Int32)))).1) ?_
    show RunsW p e below s _ _ _ (Tw89_27.setTop (mkF m 108 #[.val (.int x0), .val (.ref ba2_1), .val (.int (6 : Int32)), .val (.ref y6), .unset, .unset, .unset] []))
    refine RunsW.go (fun _ => XS.iloadN Xw89_27.here hx rfl (hb hby at_108) rfl) ?_
    show RunsW p e below s _ _ _ (Tw89_27.setTop (mkF m 109 #[.val (.int x0), .val (.ref ba2_1), .val (.int (6 : Int32)), .val (.ref y6), .unset, .unset, .unset] [(.int (6 : Int32))]))
    refine RunsW.go (fun _ => XS.iconst Xw89_27.here hx rfl (hb hby at_109)) ?_
    show RunsW p e below s _ _ _ (Tw89_27.setTop (mkF m 110 #[.val (.int x0), .val (.ref ba2_1), .val (.int (6 : Int32)), .val (.ref y6), .unset, .unset, .unset] [(.int (3 : Int32)), (.int (6 : Int32))]))
    refine RunsW.go (fun _ => XS.icmpYes Xw89_27.here hx rfl (pc0 := 110) (pc' := 117) rfl (hb hby at_110) rfl (tlt ((by decide) : (3 : Int32) < (6 : Int32))).2.2.1 (by decide) (by decide)) ?_
    show RunsW p e below s _ _ _ (Tw89_27.setTop (mkF m 117 #[.val (.int x0), .val (.ref ba2_1), .val (.int (6 : Int32)), .val (.ref y6), .unset, .unset, .unset] []))
    refine RunsW.go (fun _ => XS.iconst Xw89_27.here hx rfl (hb hby at_117)) ?_
    show RunsW p e below s _ _ _ (Tw89_27.setTop (mkF m 118 #[.val (.int x0), .val (.ref ba2_1), .val (.int (6 : Int32)), .val (.ref y6), .unset, .unset, .unset] [(.int (0 : Int32))]))
    refine RunsW.go (fun _ => XS.istore Xw89_27.here hx rfl (hb hby at_118) rfl (l' := #[.val (.int x0), .val (.ref ba2_1), .val (.int (6 : Int32)), .val (.ref y6), .val (.int (0 : Int32)), .unset, .unset]) rfl) ?_
    show RunsW p e below s _ _ _ (Tw89_27.setTop (mkF m 120 #[.val (.int x0), .val (.ref ba2_1), .val (.int (6 : Int32)), .val (.ref y6), .val (.int (0 : Int32)), .unset, .unset] []))
    refine RunsW.go (fun _ => XS.aloadN Xw89_27.here hx rfl (hb hby at_120) rfl rfl) ?_
    show RunsW p e below s _ _ _ (Tw89_27.setTop (mkF m 121 #[.val (.int x0), .val (.ref ba2_1), .val (.int (6 : Int32)), .val (.ref y6), .val (.int (0 : Int32)), .unset, .unset] [(.ref y6)]))
    obtain ⟨cqc121_59, kqc121_59, qc121_59a, qc121_59b, qc121_59c⟩ := isOf hZ ew89_27 (E6.ext Kw89_27)
    obtain ⟨_, _, ⟨Tc121_59, Lc121_59, kc121_59, nc121_59⟩, -, Xc121_59, ⟨Lcc121_59, hQc121_59, lc121_59, yc121_59, zc121_59⟩, stc121_59⟩ := Xw89_27.virtualBack hx (y := (⟨"com/example/replay/replay/api/EventType", "isActivityEvent", "()Z"⟩ : MethodName)) (z := (⟨"com/example/replay/replay/api/EventType", "isActivityEvent", "()Z"⟩ : MethodName)) hown (mvT hZ (hw _ (List.mem_of_getElem? (i := 31) rfl))) (mvT hZ (hw _ (List.mem_of_getElem? (i := 32) rfl))) (notFace_of_selects (args := #[]) (mvT hZ (hw _ (List.mem_of_getElem? (i := 34) rfl)))) (mvT hZ (hw _ (List.mem_of_getElem? (i := 34) rfl))) (mvT hZ (hw _ (List.mem_of_getElem? (i := 33) rfl))) (by decide) (backOf (W := 0) (rm1c l Z a0 hw [] y6 y1 y2 y3 hw89_27 Z.heap.size hnw89_27 (E6.ext Kw89_27) (S1.ext Kw89_27) (S2.ext Kw89_27) (S3.ext Kw89_27) (Fld.ne O6 O1 (by decide)) (Fld.ne O6 O2 (by decide)) (Fld.ne O6 O3 (by decide))) hZ (hw _ (List.mem_of_getElem? (i := 35) rfl)) (hw _ (List.mem_of_getElem? (i := 3) rfl)) (by decide) (by decide)) qc121_59a qc121_59c (g := (mkF m 121 #[.val (.int x0), .val (.ref ba2_1), .val (.int (6 : Int32)), .val (.ref y6), .val (.int (0 : Int32)), .unset, .unset] [(.ref y6)])) rfl (by rw [hml]; rfl) (Steps.refl _) (argsL := []) (rest := []) (lenOf pd_0 rfl) rfl (by show 2 * 0 + _ ≤ _; exact Nat.le_of_eq rfl) (hb hby at_121) (fun _ _ => ⟨rfl, ew89_27, (by decide : 1 + 0 ≤ _), (by decide : 13 + 0 ≤ _)⟩)
    dsimp only [Pt.U, Pt.locs, Pt.cells, Pt.slots] at Xc121_59 lc121_59 yc121_59 zc121_59 stc121_59 hQc121_59
    subst lc121_59 yc121_59 zc121_59
    obtain ⟨rfl, rfl, ec121_59⟩ := hQc121_59
    refine RunsW.go (fun _ => stc121_59.trans) ?_
    have Nc121_59 := Fr.app Nw89_27 (Fr.nil Z.heap.size)
    show RunsW p e below s _ _ _ (Tc121_59.setTop (mkF m 124 #[.val (.int x0), .val (.ref ba2_1), .val (.int (6 : Int32)), .val (.ref y6), .val (.int (0 : Int32)), .unset, .unset] [(.int (0 : Int32))]))
    refine RunsW.go (fun _ => XS.istore Xc121_59.here hx rfl (hb hby at_124) rfl (l' := #[.val (.int x0), .val (.ref ba2_1), .val (.int (6 : Int32)), .val (.ref y6), .val (.int (0 : Int32)), .val (.int (0 : Int32)), .unset]) rfl) ?_
    show RunsW p e below s _ _ _ (Tc121_59.setTop (mkF m 126 #[.val (.int x0), .val (.ref ba2_1), .val (.int (6 : Int32)), .val (.ref y6), .val (.int (0 : Int32)), .val (.int (0 : Int32)), .unset] []))
    obtain ⟨bs126_60, Ts126_60, hs126_60, k1s126_60, ds126_60, kks126_60, Xs126_60, es126_60, Es126_60, hSs126_60, hks126_60, hZ, hown, Exs126_60, Fcs126_60, Fvs126_60, Vs126_60, -, -, -, sts126_60⟩ := ldcSV (s := s) (vm0 := s.vm) Xc121_59 hx hZ hown (hw _ (List.mem_of_getElem? (i := 44) rfl)) wS ec121_59 (own_since s) (by rw [hh]; exact Kw89_27.1) (by rw [hh]; exact Nc121_59) hkeep I0 (fun q => nomatch q) hheld hcw (vs := own_act.map Value.int) (z := 8) ⟨by decide, by decide +kernel⟩ (by decide) rfl (g := (mkF m 126 #[.val (.int x0), .val (.ref ba2_1), .val (.int (6 : Int32)), .val (.ref y6), .val (.int (0 : Int32)), .val (.int (0 : Int32)), .unset] [])) rfl (hb hby at_126) (n := 32) (by decide) (by decide) (by decide) (by decide)
    refine RunsW.go sts126_60 ?_
    have Ks126_60 : Ext Z.heap hs126_60 := own_extt Kw89_27 Es126_60
    have hns126_60 : Z.heap.size ≤ hs126_60.size := Nat.le_trans hnw89_27 Es126_60.1
    show RunsW p e below s _ _ _ (Ts126_60.setTop (mkF m 128 #[.val (.int x0), .val (.ref ba2_1), .val (.int (6 : Int32)), .val (.ref y6), .val (.int (0 : Int32)), .val (.int (0 : Int32)), .unset] [(.ref bs126_60)]))
    refine RunsW.go (fun _ => XS.aloadN Xs126_60.here hx rfl (hb hby at_128) rfl rfl) ?_
    show RunsW p e below s _ _ _ (Ts126_60.setTop (mkF m 129 #[.val (.int x0), .val (.ref ba2_1), .val (.int (6 : Int32)), .val (.ref y6), .val (.int (0 : Int32)), .val (.int (0 : Int32)), .unset] [(.ref y6), (.ref bs126_60)]))
    obtain ⟨cqc129_61, kqc129_61, qc129_61a, qc129_61b, qc129_61c⟩ := isOf hZ es126_60 (E6.ext Ks126_60)
    obtain ⟨_, _, ⟨Tc129_61, Lc129_61, kc129_61, nc129_61⟩, -, Xc129_61, ⟨Lcc129_61, hQc129_61, lc129_61, yc129_61, zc129_61⟩, stc129_61⟩ := Xs126_60.virtualBack hx (y := (⟨"com/example/replay/replay/api/EventType", "subject", "()Ljava/lang/String;"⟩ : MethodName)) (z := (⟨"com/example/replay/replay/api/EventType", "subject", "()Ljava/lang/String;"⟩ : MethodName)) hown (mvT hZ (hw _ (List.mem_of_getElem? (i := 52) rfl))) (mvT hZ (hw _ (List.mem_of_getElem? (i := 53) rfl))) (notFace_of_selects (args := #[]) (mvT hZ (hw _ (List.mem_of_getElem? (i := 55) rfl)))) (mvT hZ (hw _ (List.mem_of_getElem? (i := 55) rfl))) (mvT hZ (hw _ (List.mem_of_getElem? (i := 54) rfl))) (by decide) (backOf (W := 1) (rm3 l Z a0 hw [] y6 (.ref sE) hs126_60 Z.heap.size hns126_60 (F6.ext Ks126_60) rfl) hZ (hw _ (List.mem_of_getElem? (i := 56) rfl)) (hw _ (List.mem_of_getElem? (i := 3) rfl)) (by decide) (by decide)) qc129_61a qc129_61c (g := (mkF m 129 #[.val (.int x0), .val (.ref ba2_1), .val (.int (6 : Int32)), .val (.ref y6), .val (.int (0 : Int32)), .val (.int (0 : Int32)), .unset] [(.ref y6), (.ref bs126_60)])) rfl (by rw [hml]; rfl) (Steps.refl _) (argsL := []) (rest := [(.ref bs126_60)]) (lenOf pd_1 rfl) rfl (by show 2 * 0 + _ ≤ _; exact Nat.le_of_eq rfl) (hb hby at_129) (fun _ _ => ⟨rfl, es126_60, (by decide : 3 + 0 ≤ _), (by decide : 49 + 0 ≤ _)⟩)
    dsimp only [Pt.U, Pt.locs, Pt.cells, Pt.slots] at Xc129_61 lc129_61 yc129_61 zc129_61 stc129_61 hQc129_61
    subst lc129_61 yc129_61 zc129_61
    obtain ⟨rfl, rfl, ec129_61⟩ := hQc129_61
    refine RunsW.go (fun _ => stc129_61.trans) ?_
    have Nc129_61 := Fr.app Nc121_59 (Fr.nil Z.heap.size)
    show RunsW p e below s _ _ _ (Tc129_61.setTop (mkF m 132 #[.val (.int x0), .val (.ref ba2_1), .val (.int (6 : Int32)), .val (.ref y6), .val (.int (0 : Int32)), .val (.int (0 : Int32)), .unset] [(.ref sE), (.ref bs126_60)]))
    obtain ⟨cqc132_62, kqc132_62, qc132_62a, qc132_62b, qc132_62c⟩ := isOf hZ ec129_61 Exs126_60
    obtain ⟨_, _, ⟨Tc132_62, Lc132_62, kc132_62, nc132_62⟩, -, Xc132_62, ⟨Lcc132_62, hQc132_62, lc132_62, yc132_62, zc132_62⟩, stc132_62⟩ := Xc129_61.virtualBack hx (y := (⟨"java/lang/String", "equals", "(Ljava/lang/Object;)Z"⟩ : MethodName)) (z := (⟨"java/lang/String", "equals", "(Ljava/lang/Object;)Z"⟩ : MethodName)) hown (mvT hZ (hw _ (List.mem_of_getElem? (i := 59) rfl))) (mvT hZ (hw _ (List.mem_of_getElem? (i := 60) rfl))) (notFace_of_selects (args := #[]) (mvT hZ (hw _ (List.mem_of_getElem? (i := 62) rfl)))) (mvT hZ (hw _ (List.mem_of_getElem? (i := 62) rfl))) (mvT hZ (hw _ (List.mem_of_getElem? (i := 61) rfl))) (by decide) (backOf (W := 0) (rm4d l Z a0 hw [] bs126_60 sE hs126_60 (Exs126_60) (Fcs126_60) (Fvs126_60) (Vs126_60) (AE1.ext Ks126_60) (AE2.ext Ks126_60) (AE3.ext Ks126_60) (AE4.ext Ks126_60) (AC.ext Ks126_60) hzc (by decide)) hZ (hw _ (List.mem_of_getElem? (i := 63) rfl)) (hw _ (List.mem_of_getElem? (i := 45) rfl)) (by decide) (by decide)) qc132_62a qc132_62c (g := (mkF m 132 #[.val (.int x0), .val (.ref ba2_1), .val (.int (6 : Int32)), .val (.ref y6), .val (.int (0 : Int32)), .val (.int (0 : Int32)), .unset] [(.ref sE), (.ref bs126_60)])) rfl (by rw [hml]; rfl) (Steps.refl _) (argsL := [(.ref sE)]) (rest := []) (lenOf pd_2 rfl) rfl (by show 2 * 0 + _ ≤ _; exact Nat.le_of_eq rfl) (hb hby at_132) (fun _ _ => ⟨rfl, ec129_61, (by decide : 3 + 0 ≤ _), (by decide : 49 + 0 ≤ _)⟩)
    dsimp only [Pt.U, Pt.locs, Pt.cells, Pt.slots] at Xc132_62 lc132_62 yc132_62 zc132_62 stc132_62 hQc132_62
    subst lc132_62 yc132_62 zc132_62
    obtain ⟨rfl, rfl, ec132_62⟩ := hQc132_62
    refine RunsW.go (fun _ => stc132_62.trans) ?_
    have Nc132_62 := Fr.app Nc129_61 (Fr.nil Z.heap.size)
    show RunsW p e below s _ _ _ (Tc132_62.setTop (mkF m 135 #[.val (.int x0), .val (.ref ba2_1), .val (.int (6 : Int32)), .val (.ref y6), .val (.int (0 : Int32)), .val (.int (0 : Int32)), .unset] [(.int (0 : Int32))]))
    refine RunsW.go (fun _ => XS.istore Xc132_62.here hx rfl (hb hby at_135) rfl (l' := #[.val (.int x0), .val (.ref ba2_1), .val (.int (6 : Int32)), .val (.ref y6), .val (.int (0 : Int32)), .val (.int (0 : Int32)), .val (.int (0 : Int32))]) rfl) ?_
    show RunsW p e below s _ _ _ (Tc132_62.setTop (mkF m 137 #[.val (.int x0), .val (.ref ba2_1), .val (.int (6 : Int32)), .val (.ref y6), .val (.int (0 : Int32)), .val (.int (0 : Int32)), .val (.int (0 : Int32))] []))
    refine RunsW.go (fun _ => XS.iload Xc132_62.here hx rfl (hb hby at_137) rfl) ?_
    show RunsW p e below s _ _ _ (Tc132_62.setTop (mkF m 139 #[.val (.int x0), .val (.ref ba2_1), .val (.int (6 : Int32)), .val (.ref y6), .val (.int (0 : Int32)), .val (.int (0 : Int32)), .val (.int (0 : Int32))] [(.int (0 : Int32))]))
    refine RunsW.go (fun _ => XS.iload Xc132_62.here hx rfl (hb hby at_139) rfl) ?_
    show RunsW p e below s _ _ _ (Tc132_62.setTop (mkF m 141 #[.val (.int x0), .val (.ref ba2_1), .val (.int (6 : Int32)), .val (.ref y6), .val (.int (0 : Int32)), .val (.int (0 : Int32)), .val (.int (0 : Int32))] [(.int (0 : Int32)), (.int (0 : Int32))]))
    refine RunsW.go (fun _ => XS.icmpNo Xc132_62.here hx rfl (hb hby at_141) rfl (teq (rfl : (0 : Int32) = (0 : Int32))).2) ?_
    show RunsW p e below s _ _ _ (Tc132_62.setTop (mkF m 144 #[.val (.int x0), .val (.ref ba2_1), .val (.int (6 : Int32)), .val (.ref y6), .val (.int (0 : Int32)), .val (.int (0 : Int32)), .val (.int (0 : Int32))] []))
    refine RunsW.go (fun _ => XS.iload Xc132_62.here hx rfl (hb hby at_144) rfl) ?_
    show RunsW p e below s _ _ _ (Tc132_62.setTop (mkF m 146 #[.val (.int x0), .val (.ref ba2_1), .val (.int (6 : Int32)), .val (.ref y6), .val (.int (0 : Int32)), .val (.int (0 : Int32)), .val (.int (0 : Int32))] [(.int (0 : Int32))]))
    refine RunsW.go (fun _ => XS.iload Xc132_62.here hx rfl (hb hby at_146) rfl) ?_
    show RunsW p e below s _ _ _ (Tc132_62.setTop (mkF m 148 #[.val (.int x0), .val (.ref ba2_1), .val (.int (6 : Int32)), .val (.ref y6), .val (.int (0 : Int32)), .val (.int (0 : Int32)), .val (.int (0 : Int32))] [(.int (0 : Int32)), (.int (0 : Int32))]))
    refine RunsW.go (fun _ => XS.icmpNo Xc132_62.here hx rfl (hb hby at_148) rfl (teq (rfl : (0 : Int32) = (0 : Int32))).2) ?_
    show RunsW p e below s _ _ _ (Tc132_62.setTop (mkF m 151 #[.val (.int x0), .val (.ref ba2_1), .val (.int (6 : Int32)), .val (.ref y6), .val (.int (0 : Int32)), .val (.int (0 : Int32)), .val (.int (0 : Int32))] []))
    refine RunsW.go (fun _ => XS.iconst Xc132_62.here hx rfl (hb hby at_151)) ?_
    show RunsW p e below s _ _ _ (Tc132_62.setTop (mkF m 152 #[.val (.int x0), .val (.ref ba2_1), .val (.int (6 : Int32)), .val (.ref y6), .val (.int (0 : Int32)), .val (.int (0 : Int32)), .val (.int (0 : Int32))] [(.int (1 : Int32))]))
    refine RunsW.go (fun _ => XS.goto Xc132_62.here hx rfl (pc0 := 152) (pc' := 156) rfl (hb hby at_152) (by decide) (by decide)) ?_
    show RunsW p e below s _ _ _ (Tc132_62.setTop (mkF m 156 #[.val (.int x0), .val (.ref ba2_1), .val (.int (6 : Int32)), .val (.ref y6), .val (.int (0 : Int32)), .val (.int (0 : Int32)), .val (.int (0 : Int32))] [(.int (1 : Int32))]))
    exact RunsW.endN Xc132_62 hSs126_60 (by rw [ec132_62]; exact hks126_60) hx (t := .boolean) Bd.returns (by simp) Bd.notSynchronized (hb hby at_156) ⟨rfl, Nc132_62⟩ (by decide) (by decide)
  · rw [q]
    show RunsW p e below s _ _ _ (Tw89_27.setTop (mkF m 98 #[.val (.int x0), .val (.ref ba2_1), .unset, .unset, .unset, .unset, .unset] [(.int (7 : Int32))]))
    refine RunsW.go (fun _ => XS.istoreN Xw89_27.here hx rfl (hb hby at_98) rfl (l' := #[.val (.int x0), .val (.ref ba2_1), .val (.int (7 : Int32)), .unset, .unset, .unset, .unset]) rfl) ?_
    show RunsW p e below s _ _ _ (Tw89_27.setTop (mkF m 99 #[.val (.int x0), .val (.ref ba2_1), .val (.int (7 : Int32)), .unset, .unset, .unset, .unset] []))
    refine RunsW.go (fun _ => XS.aloadN Xw89_27.here hx rfl (hb hby at_99) rfl rfl) ?_
    show RunsW p e below s _ _ _ (Tw89_27.setTop (mkF m 100 #[.val (.int x0), .val (.ref ba2_1), .val (.int (7 : Int32)), .unset, .unset, .unset, .unset] [(.ref ba2_1)]))
    refine RunsW.go (fun _ => XS.iloadN Xw89_27.here hx rfl (hb hby at_100) rfl) ?_
    show RunsW p e below s _ _ _ (Tw89_27.setTop (mkF m 101 #[.val (.int x0), .val (.ref ba2_1), .val (.int (7 : Int32)), .unset, .unset, .unset, .unset] [(.int (7 : Int32)), (.ref ba2_1)]))
    have VCr101_63 := Vw89_27
    obtain ⟨clr101_63, Arr101_63, -, Sr101_63, Mr101_63, Hr101_63, -⟩ := VCr101_63
    have hinr101_63 : ¬ ((7 : Int32) < 0 ∨ clr101_63.slots.size ≤ ((7 : Int32)).toNatClampNeg) := inb_of Sr101_63 ⟨by decide, by decide⟩
    have hatr101_63 : clr101_63.slots[((7 : Int32)).toNatClampNeg]? = some (.ref y7) := Has.at Hr101_63 hinr101_63 rfl
    refine RunsW.go (Xw89_27.aaload hx (j := (7 : Int32)) (v := (.ref y7)) (by rw [ew89_27]; exact Arr101_63.1) (State.isArrayOf_alike hZ.alike Arr101_63.2.1) rfl Arr101_63.2.2 hinr101_63 hatr101_63 (g := (mkF m 101 #[.val (.int x0), .val (.ref ba2_1), .val (.int (7 : Int32)), .unset, .unset, .unset, .unset] [(.int (7 : Int32)), (.ref ba2_1)])) rfl rfl (hb hby at_101)) ?_
    show RunsW p e below s _ _ _ (Tw89_27.setTop (mkF m 102 #[.val (.int x0), .val (.ref ba2_1), .val (.int (7 : Int32)), .unset, .unset, .unset, .unset] [(.ref y7)]))
    refine RunsW.go (fun _ => XS.astoreN Xw89_27.here hx rfl (hb hby at_102) rfl rfl (l' := #[.val (.int x0), .val (.ref ba2_1), .val (.int (7 : Int32)), .val (.ref y7), .unset, .unset, .unset]) rfl) ?_
    show RunsW p e below s _ _ _ (Tw89_27.setTop (mkF m 103 #[.val (.int x0), .val (.ref ba2_1), .val (.int (7 : Int32)), .val (.ref y7), .unset, .unset, .unset] []))
    refine RunsW.go (fun _ => XS.iloadN Xw89_27.here hx rfl (hb hby at_103) rfl) ?_
    show RunsW p e below s _ _ _ (Tw89_27.setTop (mkF m 104 #[.val (.int x0), .val (.ref ba2_1), .val (.int (7 : Int32)), .val (.ref y7), .unset, .unset, .unset] [(.int (7 : Int32))]))
    refine RunsW.go (fun _ => XS.iconst Xw89_27.here hx rfl (hb hby at_104)) ?_
    show RunsW p e below s _ _ _ (Tw89_27.setTop (mkF m 105 #[.val (.int x0), .val (.ref ba2_1), .val (.int (7 : Int32)), .val (.ref y7), .unset, .unset, .unset] [(.int (1 : Int32)), (.int (7 : Int32))]))
    refine RunsW.go (fun _ => XS.icmpNo Xw89_27.here hx rfl (hb hby at_105) rfl (flt ((by decide) : ¬ ((7 : Int32) < (1 : Int32)))).1) ?_
    show RunsW p e below s _ _ _ (Tw89_27.setTop (mkF m 108 #[.val (.int x0), .val (.ref ba2_1), .val (.int (7 : Int32)), .val (.ref y7), .unset, .unset, .unset] []))
    refine RunsW.go (fun _ => XS.iloadN Xw89_27.here hx rfl (hb hby at_108) rfl) ?_
    show RunsW p e below s _ _ _ (Tw89_27.setTop (mkF m 109 #[.val (.int x0), .val (.ref ba2_1), .val (.int (7 : Int32)), .val (.ref y7), .unset, .unset, .unset] [(.int (7 : Int32))]))
    refine RunsW.go (fun _ => XS.iconst Xw89_27.here hx rfl (hb hby at_109)) ?_
    show RunsW p e below s _ _ _ (Tw89_27.setTop (mkF m 110 #[.val (.int x0), .val (.ref ba2_1), .val (.int (7 : Int32)), .val (.ref y7), .unset, .unset, .unset] [(.int (3 : Int32)), (.int (7 : Int32))]))
    refine RunsW.go (fun _ => XS.icmpYes Xw89_27.here hx rfl (pc0 := 110) (pc' := 117) rfl (hb hby at_110) rfl (tlt ((by decide) : (3 : Int32) < (7 : Int32))).2.2.1 (by decide) (by decide)) ?_
    show RunsW p e below s _ _ _ (Tw89_27.setTop (mkF m 117 #[.val (.int x0), .val (.ref ba2_1), .val (.int (7 : Int32)), .val (.ref y7), .unset, .unset, .unset] []))
    refine RunsW.go (fun _ => XS.iconst Xw89_27.here hx rfl (hb hby at_117)) ?_
    show RunsW p e below s _ _ _ (Tw89_27.setTop (mkF m 118 #[.val (.int x0), .val (.ref ba2_1), .val (.int (7 : Int32)), .val (.ref y7), .unset, .unset, .unset] [(.int (0 : Int32))]))
    refine RunsW.go (fun _ => XS.istore Xw89_27.here hx rfl (hb hby at_118) rfl (l' := #[.val (.int x0), .val (.ref ba2_1), .val (.int (7 : Int32)), .val (.ref y7), .val (.int (0 : Int32)), .unset, .unset]) rfl) ?_
    show RunsW p e below s _ _ _ (Tw89_27.setTop (mkF m 120 #[.val (.int x0), .val (.ref ba2_1), .val (.int (7 : Int32)), .val (.ref y7), .val (.int (0 : Int32)), .unset, .unset] []))
    refine RunsW.go (fun _ => XS.aloadN Xw89_27.here hx rfl (hb hby at_120) rfl rfl) ?_
    show RunsW p e below s _ _ _ (Tw89_27.setTop (mkF m 121 #[.val (.int x0), .val (.ref ba2_1), .val (.int (7 : Int32)), .val (.ref y7), .val (.int (0 : Int32)), .unset, .unset] [(.ref y7)]))
    obtain ⟨cqc121_64, kqc121_64, qc121_64a, qc121_64b, qc121_64c⟩ := isOf hZ ew89_27 (E7.ext Kw89_27)
    obtain ⟨_, _, ⟨Tc121_64, Lc121_64, kc121_64, nc121_64⟩, -, Xc121_64, ⟨Lcc121_64, hQc121_64, lc121_64, yc121_64, zc121_64⟩, stc121_64⟩ := Xw89_27.virtualBack hx (y := (⟨"com/example/replay/replay/api/EventType", "isActivityEvent", "()Z"⟩ : MethodName)) (z := (⟨"com/example/replay/replay/api/EventType", "isActivityEvent", "()Z"⟩ : MethodName)) hown (mvT hZ (hw _ (List.mem_of_getElem? (i := 31) rfl))) (mvT hZ (hw _ (List.mem_of_getElem? (i := 32) rfl))) (notFace_of_selects (args := #[]) (mvT hZ (hw _ (List.mem_of_getElem? (i := 34) rfl)))) (mvT hZ (hw _ (List.mem_of_getElem? (i := 34) rfl))) (mvT hZ (hw _ (List.mem_of_getElem? (i := 33) rfl))) (by decide) (backOf (W := 0) (rm1c l Z a0 hw [] y7 y1 y2 y3 hw89_27 Z.heap.size hnw89_27 (E7.ext Kw89_27) (S1.ext Kw89_27) (S2.ext Kw89_27) (S3.ext Kw89_27) (Fld.ne O7 O1 (by decide)) (Fld.ne O7 O2 (by decide)) (Fld.ne O7 O3 (by decide))) hZ (hw _ (List.mem_of_getElem? (i := 35) rfl)) (hw _ (List.mem_of_getElem? (i := 3) rfl)) (by decide) (by decide)) qc121_64a qc121_64c (g := (mkF m 121 #[.val (.int x0), .val (.ref ba2_1), .val (.int (7 : Int32)), .val (.ref y7), .val (.int (0 : Int32)), .unset, .unset] [(.ref y7)])) rfl (by rw [hml]; rfl) (Steps.refl _) (argsL := []) (rest := []) (lenOf pd_0 rfl) rfl (by show 2 * 0 + _ ≤ _; exact Nat.le_of_eq rfl) (hb hby at_121) (fun _ _ => ⟨rfl, ew89_27, (by decide : 1 + 0 ≤ _), (by decide : 13 + 0 ≤ _)⟩)
    dsimp only [Pt.U, Pt.locs, Pt.cells, Pt.slots] at Xc121_64 lc121_64 yc121_64 zc121_64 stc121_64 hQc121_64
    subst lc121_64 yc121_64 zc121_64
    obtain ⟨rfl, rfl, ec121_64⟩ := hQc121_64
    refine RunsW.go (fun _ => stc121_64.trans) ?_
    have Nc121_64 := Fr.app Nw89_27 (Fr.nil Z.heap.size)
    show RunsW p e below s _ _ _ (Tc121_64.setTop (mkF m 124 #[.val (.int x0), .val (.ref ba2_1), .val (.int (7 : Int32)), .val (.ref y7), .val (.int (0 : Int32)), .unset, .unset] [(.int (0 : Int32))]))
    refine RunsW.go (fun _ => XS.istore Xc121_64.here hx rfl (hb hby at_124) rfl (l' := #[.val (.int x0), .val (.ref ba2_1), .val (.int (7 : Int32)), .val (.ref y7), .val (.int (0 : Int32)), .val (.int (0 : Int32)), .unset]) rfl) ?_
    show RunsW p e below s _ _ _ (Tc121_64.setTop (mkF m 126 #[.val (.int x0), .val (.ref ba2_1), .val (.int (7 : Int32)), .val (.ref y7), .val (.int (0 : Int32)), .val (.int (0 : Int32)), .unset] []))
    obtain ⟨bs126_65, Ts126_65, hs126_65, k1s126_65, ds126_65, kks126_65, Xs126_65, es126_65, Es126_65, hSs126_65, hks126_65, hZ, hown, Exs126_65, Fcs126_65, Fvs126_65, Vs126_65, -, -, -, sts126_65⟩ := ldcSV (s := s) (vm0 := s.vm) Xc121_64 hx hZ hown (hw _ (List.mem_of_getElem? (i := 44) rfl)) wS ec121_64 (own_since s) (by rw [hh]; exact Kw89_27.1) (by rw [hh]; exact Nc121_64) hkeep I0 (fun q => nomatch q) hheld hcw (vs := own_act.map Value.int) (z := 8) ⟨by decide, by decide +kernel⟩ (by decide) rfl (g := (mkF m 126 #[.val (.int x0), .val (.ref ba2_1), .val (.int (7 : Int32)), .val (.ref y7), .val (.int (0 : Int32)), .val (.int (0 : Int32)), .unset] [])) rfl (hb hby at_126) (n := 32) (by decide) (by decide) (by decide) (by decide)
    refine RunsW.go sts126_65 ?_
    have Ks126_65 : Ext Z.heap hs126_65 := own_extt Kw89_27 Es126_65
    have hns126_65 : Z.heap.size ≤ hs126_65.size := Nat.le_trans hnw89_27 Es126_65.1
    show RunsW p e below s _ _ _ (Ts126_65.setTop (mkF m 128 #[.val (.int x0), .val (.ref ba2_1), .val (.int (7 : Int32)), .val (.ref y7), .val (.int (0 : Int32)), .val (.int (0 : Int32)), .unset] [(.ref bs126_65)]))
    refine RunsW.go (fun _ => XS.aloadN Xs126_65.here hx rfl (hb hby at_128) rfl rfl) ?_
    show RunsW p e below s _ _ _ (Ts126_65.setTop (mkF m 129 #[.val (.int x0), .val (.ref ba2_1), .val (.int (7 : Int32)), .val (.ref y7), .val (.int (0 : Int32)), .val (.int (0 : Int32)), .unset] [(.ref y7), (.ref bs126_65)]))
    obtain ⟨cqc129_66, kqc129_66, qc129_66a, qc129_66b, qc129_66c⟩ := isOf hZ es126_65 (E7.ext Ks126_65)
    obtain ⟨_, _, ⟨Tc129_66, Lc129_66, kc129_66, nc129_66⟩, -, Xc129_66, ⟨Lcc129_66, hQc129_66, lc129_66, yc129_66, zc129_66⟩, stc129_66⟩ := Xs126_65.virtualBack hx (y := (⟨"com/example/replay/replay/api/EventType", "subject", "()Ljava/lang/String;"⟩ : MethodName)) (z := (⟨"com/example/replay/replay/api/EventType", "subject", "()Ljava/lang/String;"⟩ : MethodName)) hown (mvT hZ (hw _ (List.mem_of_getElem? (i := 52) rfl))) (mvT hZ (hw _ (List.mem_of_getElem? (i := 53) rfl))) (notFace_of_selects (args := #[]) (mvT hZ (hw _ (List.mem_of_getElem? (i := 55) rfl)))) (mvT hZ (hw _ (List.mem_of_getElem? (i := 55) rfl))) (mvT hZ (hw _ (List.mem_of_getElem? (i := 54) rfl))) (by decide) (backOf (W := 1) (rm3 l Z a0 hw [] y7 .null hs126_65 Z.heap.size hns126_65 (F7.ext Ks126_65) rfl) hZ (hw _ (List.mem_of_getElem? (i := 56) rfl)) (hw _ (List.mem_of_getElem? (i := 3) rfl)) (by decide) (by decide)) qc129_66a qc129_66c (g := (mkF m 129 #[.val (.int x0), .val (.ref ba2_1), .val (.int (7 : Int32)), .val (.ref y7), .val (.int (0 : Int32)), .val (.int (0 : Int32)), .unset] [(.ref y7), (.ref bs126_65)])) rfl (by rw [hml]; rfl) (Steps.refl _) (argsL := []) (rest := [(.ref bs126_65)]) (lenOf pd_1 rfl) rfl (by show 2 * 0 + _ ≤ _; exact Nat.le_of_eq rfl) (hb hby at_129) (fun _ _ => ⟨rfl, es126_65, (by decide : 3 + 0 ≤ _), (by decide : 49 + 0 ≤ _)⟩)
    dsimp only [Pt.U, Pt.locs, Pt.cells, Pt.slots] at Xc129_66 lc129_66 yc129_66 zc129_66 stc129_66 hQc129_66
    subst lc129_66 yc129_66 zc129_66
    obtain ⟨rfl, rfl, ec129_66⟩ := hQc129_66
    refine RunsW.go (fun _ => stc129_66.trans) ?_
    have Nc129_66 := Fr.app Nc121_64 (Fr.nil Z.heap.size)
    show RunsW p e below s _ _ _ (Tc129_66.setTop (mkF m 132 #[.val (.int x0), .val (.ref ba2_1), .val (.int (7 : Int32)), .val (.ref y7), .val (.int (0 : Int32)), .val (.int (0 : Int32)), .unset] [.null, (.ref bs126_65)]))
    obtain ⟨cqc132_67, kqc132_67, qc132_67a, qc132_67b, qc132_67c⟩ := isOf hZ ec129_66 Exs126_65
    obtain ⟨_, _, ⟨Tc132_67, Lc132_67, kc132_67, nc132_67⟩, -, Xc132_67, ⟨Lcc132_67, hQc132_67, lc132_67, yc132_67, zc132_67⟩, stc132_67⟩ := Xc129_66.virtualBack hx (y := (⟨"java/lang/String", "equals", "(Ljava/lang/Object;)Z"⟩ : MethodName)) (z := (⟨"java/lang/String", "equals", "(Ljava/lang/Object;)Z"⟩ : MethodName)) hown (mvT hZ (hw _ (List.mem_of_getElem? (i := 59) rfl))) (mvT hZ (hw _ (List.mem_of_getElem? (i := 60) rfl))) (notFace_of_selects (args := #[]) (mvT hZ (hw _ (List.mem_of_getElem? (i := 62) rfl)))) (mvT hZ (hw _ (List.mem_of_getElem? (i := 62) rfl))) (mvT hZ (hw _ (List.mem_of_getElem? (i := 61) rfl))) (by decide) (backOf (W := 0) (rm4n l Z a0 hw [] bs126_65 hs126_65) hZ (hw _ (List.mem_of_getElem? (i := 63) rfl)) (hw _ (List.mem_of_getElem? (i := 45) rfl)) (by decide) (by decide)) qc132_67a qc132_67c (g := (mkF m 132 #[.val (.int x0), .val (.ref ba2_1), .val (.int (7 : Int32)), .val (.ref y7), .val (.int (0 : Int32)), .val (.int (0 : Int32)), .unset] [.null, (.ref bs126_65)])) rfl (by rw [hml]; rfl) (Steps.refl _) (argsL := [.null]) (rest := []) (lenOf pd_2 rfl) rfl (by show 2 * 0 + _ ≤ _; exact Nat.le_of_eq rfl) (hb hby at_132) (fun _ _ => ⟨rfl, ec129_66, (by decide : 3 + 0 ≤ _), (by decide : 49 + 0 ≤ _)⟩)
    dsimp only [Pt.U, Pt.locs, Pt.cells, Pt.slots] at Xc132_67 lc132_67 yc132_67 zc132_67 stc132_67 hQc132_67
    subst lc132_67 yc132_67 zc132_67
    obtain ⟨rfl, rfl, ec132_67⟩ := hQc132_67
    refine RunsW.go (fun _ => stc132_67.trans) ?_
    have Nc132_67 := Fr.app Nc129_66 (Fr.nil Z.heap.size)
    show RunsW p e below s _ _ _ (Tc132_67.setTop (mkF m 135 #[.val (.int x0), .val (.ref ba2_1), .val (.int (7 : Int32)), .val (.ref y7), .val (.int (0 : Int32)), .val (.int (0 : Int32)), .unset] [(.int (0 : Int32))]))
    refine RunsW.go (fun _ => XS.istore Xc132_67.here hx rfl (hb hby at_135) rfl (l' := #[.val (.int x0), .val (.ref ba2_1), .val (.int (7 : Int32)), .val (.ref y7), .val (.int (0 : Int32)), .val (.int (0 : Int32)), .val (.int (0 : Int32))]) rfl) ?_
    show RunsW p e below s _ _ _ (Tc132_67.setTop (mkF m 137 #[.val (.int x0), .val (.ref ba2_1), .val (.int (7 : Int32)), .val (.ref y7), .val (.int (0 : Int32)), .val (.int (0 : Int32)), .val (.int (0 : Int32))] []))
    refine RunsW.go (fun _ => XS.iload Xc132_67.here hx rfl (hb hby at_137) rfl) ?_
    show RunsW p e below s _ _ _ (Tc132_67.setTop (mkF m 139 #[.val (.int x0), .val (.ref ba2_1), .val (.int (7 : Int32)), .val (.ref y7), .val (.int (0 : Int32)), .val (.int (0 : Int32)), .val (.int (0 : Int32))] [(.int (0 : Int32))]))
    refine RunsW.go (fun _ => XS.iload Xc132_67.here hx rfl (hb hby at_139) rfl) ?_
    show RunsW p e below s _ _ _ (Tc132_67.setTop (mkF m 141 #[.val (.int x0), .val (.ref ba2_1), .val (.int (7 : Int32)), .val (.ref y7), .val (.int (0 : Int32)), .val (.int (0 : Int32)), .val (.int (0 : Int32))] [(.int (0 : Int32)), (.int (0 : Int32))]))
    refine RunsW.go (fun _ => XS.icmpNo Xc132_67.here hx rfl (hb hby at_141) rfl (teq (rfl : (0 : Int32) = (0 : Int32))).2) ?_
    show RunsW p e below s _ _ _ (Tc132_67.setTop (mkF m 144 #[.val (.int x0), .val (.ref ba2_1), .val (.int (7 : Int32)), .val (.ref y7), .val (.int (0 : Int32)), .val (.int (0 : Int32)), .val (.int (0 : Int32))] []))
    refine RunsW.go (fun _ => XS.iload Xc132_67.here hx rfl (hb hby at_144) rfl) ?_
    show RunsW p e below s _ _ _ (Tc132_67.setTop (mkF m 146 #[.val (.int x0), .val (.ref ba2_1), .val (.int (7 : Int32)), .val (.ref y7), .val (.int (0 : Int32)), .val (.int (0 : Int32)), .val (.int (0 : Int32))] [(.int (0 : Int32))]))
    refine RunsW.go (fun _ => XS.iload Xc132_67.here hx rfl (hb hby at_146) rfl) ?_
    show RunsW p e below s _ _ _ (Tc132_67.setTop (mkF m 148 #[.val (.int x0), .val (.ref ba2_1), .val (.int (7 : Int32)), .val (.ref y7), .val (.int (0 : Int32)), .val (.int (0 : Int32)), .val (.int (0 : Int32))] [(.int (0 : Int32)), (.int (0 : Int32))]))
    refine RunsW.go (fun _ => XS.icmpNo Xc132_67.here hx rfl (hb hby at_148) rfl (teq (rfl : (0 : Int32) = (0 : Int32))).2) ?_
    show RunsW p e below s _ _ _ (Tc132_67.setTop (mkF m 151 #[.val (.int x0), .val (.ref ba2_1), .val (.int (7 : Int32)), .val (.ref y7), .val (.int (0 : Int32)), .val (.int (0 : Int32)), .val (.int (0 : Int32))] []))
    refine RunsW.go (fun _ => XS.iconst Xc132_67.here hx rfl (hb hby at_151)) ?_
    show RunsW p e below s _ _ _ (Tc132_67.setTop (mkF m 152 #[.val (.int x0), .val (.ref ba2_1), .val (.int (7 : Int32)), .val (.ref y7), .val (.int (0 : Int32)), .val (.int (0 : Int32)), .val (.int (0 : Int32))] [(.int (1 : Int32))]))
    refine RunsW.go (fun _ => XS.goto Xc132_67.here hx rfl (pc0 := 152) (pc' := 156) rfl (hb hby at_152) (by decide) (by decide)) ?_
    show RunsW p e below s _ _ _ (Tc132_67.setTop (mkF m 156 #[.val (.int x0), .val (.ref ba2_1), .val (.int (7 : Int32)), .val (.ref y7), .val (.int (0 : Int32)), .val (.int (0 : Int32)), .val (.int (0 : Int32))] [(.int (1 : Int32))]))
    exact RunsW.endN Xc132_67 hSs126_65 (by rw [ec132_67]; exact hks126_65) hx (t := .boolean) Bd.returns (by simp) Bd.notSynchronized (hb hby at_156) ⟨rfl, Nc132_67⟩ (by decide) (by decide)
  · rw [q]
    show RunsW p e below s _ _ _ (Tw89_27.setTop (mkF m 98 #[.val (.int x0), .val (.ref ba2_1), .unset, .unset, .unset, .unset, .unset] [(.int (8 : Int32))]))
    refine RunsW.go (fun _ => XS.istoreN Xw89_27.here hx rfl (hb hby at_98) rfl (l' := #[.val (.int x0), .val (.ref ba2_1), .val (.int (8 : Int32)), .unset, .unset, .unset, .unset]) rfl) ?_
    show RunsW p e below s _ _ _ (Tw89_27.setTop (mkF m 99 #[.val (.int x0), .val (.ref ba2_1), .val (.int (8 : Int32)), .unset, .unset, .unset, .unset] []))
    refine RunsW.go (fun _ => XS.aloadN Xw89_27.here hx rfl (hb hby at_99) rfl rfl) ?_
    show RunsW p e below s _ _ _ (Tw89_27.setTop (mkF m 100 #[.val (.int x0), .val (.ref ba2_1), .val (.int (8 : Int32)), .unset, .unset, .unset, .unset] [(.ref ba2_1)]))
    refine RunsW.go (fun _ => XS.iloadN Xw89_27.here hx rfl (hb hby at_100) rfl) ?_
    show RunsW p e below s _ _ _ (Tw89_27.setTop (mkF m 101 #[.val (.int x0), .val (.ref ba2_1), .val (.int (8 : Int32)), .unset, .unset, .unset, .unset] [(.int (8 : Int32)), (.ref ba2_1)]))
    have VCr101_68 := Vw89_27
    obtain ⟨clr101_68, Arr101_68, -, Sr101_68, Mr101_68, Hr101_68, -⟩ := VCr101_68
    have hinr101_68 : ¬ ((8 : Int32) < 0 ∨ clr101_68.slots.size ≤ ((8 : Int32)).toNatClampNeg) := inb_of Sr101_68 ⟨by decide, by decide⟩
    have hatr101_68 : clr101_68.slots[((8 : Int32)).toNatClampNeg]? = some (.ref y8) := Has.at Hr101_68 hinr101_68 rfl
    refine RunsW.go (Xw89_27.aaload hx (j := (8 : Int32)) (v := (.ref y8)) (by rw [ew89_27]; exact Arr101_68.1) (State.isArrayOf_alike hZ.alike Arr101_68.2.1) rfl Arr101_68.2.2 hinr101_68 hatr101_68 (g := (mkF m 101 #[.val (.int x0), .val (.ref ba2_1), .val (.int (8 : Int32)), .unset, .unset, .unset, .unset] [(.int (8 : Int32)), (.ref ba2_1)])) rfl rfl (hb hby at_101)) ?_
    show RunsW p e below s _ _ _ (Tw89_27.setTop (mkF m 102 #[.val (.int x0), .val (.ref ba2_1), .val (.int (8 : Int32)), .unset, .unset, .unset, .unset] [(.ref y8)]))
    refine RunsW.go (fun _ => XS.astoreN Xw89_27.here hx rfl (hb hby at_102) rfl rfl (l' := #[.val (.int x0), .val (.ref ba2_1), .val (.int (8 : Int32)), .val (.ref y8), .unset, .unset, .unset]) rfl) ?_
    show RunsW p e below s _ _ _ (Tw89_27.setTop (mkF m 103 #[.val (.int x0), .val (.ref ba2_1), .val (.int (8 : Int32)), .val (.ref y8), .unset, .unset, .unset] []))
    refine RunsW.go (fun _ => XS.iloadN Xw89_27.here hx rfl (hb hby at_103) rfl) ?_
    show RunsW p e below s _ _ _ (Tw89_27.setTop (mkF m 104 #[.val (.int x0), .val (.ref ba2_1), .val (.int (8 : Int32)), .val (.ref y8), .unset, .unset, .unset] [(.int (8 : Int32))]))
    refine RunsW.go (fun _ => XS.iconst Xw89_27.here hx rfl (hb hby at_104)) ?_
    show RunsW p e below s _ _ _ (Tw89_27.setTop (mkF m 105 #[.val (.int x0), .val (.ref ba2_1), .val (.int (8 : Int32)), .val (.ref y8), .unset, .unset, .unset] [(.int (1 : Int32)), (.int (8 : Int32))]))
    refine RunsW.go (fun _ => XS.icmpNo Xw89_27.here hx rfl (hb hby at_105) rfl (flt ((by decide) : ¬ ((8 : Int32) < (1 : Int32)))).1) ?_
    show RunsW p e below s _ _ _ (Tw89_27.setTop (mkF m 108 #[.val (.int x0), .val (.ref ba2_1), .val (.int (8 : Int32)), .val (.ref y8), .unset, .unset, .unset] []))
    refine RunsW.go (fun _ => XS.iloadN Xw89_27.here hx rfl (hb hby at_108) rfl) ?_
    show RunsW p e below s _ _ _ (Tw89_27.setTop (mkF m 109 #[.val (.int x0), .val (.ref ba2_1), .val (.int (8 : Int32)), .val (.ref y8), .unset, .unset, .unset] [(.int (8 : Int32))]))
    refine RunsW.go (fun _ => XS.iconst Xw89_27.here hx rfl (hb hby at_109)) ?_
    show RunsW p e below s _ _ _ (Tw89_27.setTop (mkF m 110 #[.val (.int x0), .val (.ref ba2_1), .val (.int (8 : Int32)), .val (.ref y8), .unset, .unset, .unset] [(.int (3 : Int32)), (.int (8 : Int32))]))
    refine RunsW.go (fun _ => XS.icmpYes Xw89_27.here hx rfl (pc0 := 110) (pc' := 117) rfl (hb hby at_110) rfl (tlt ((by decide) : (3 : Int32) < (8 : Int32))).2.2.1 (by decide) (by decide)) ?_
    show RunsW p e below s _ _ _ (Tw89_27.setTop (mkF m 117 #[.val (.int x0), .val (.ref ba2_1), .val (.int (8 : Int32)), .val (.ref y8), .unset, .unset, .unset] []))
    refine RunsW.go (fun _ => XS.iconst Xw89_27.here hx rfl (hb hby at_117)) ?_
    show RunsW p e below s _ _ _ (Tw89_27.setTop (mkF m 118 #[.val (.int x0), .val (.ref ba2_1), .val (.int (8 : Int32)), .val (.ref y8), .unset, .unset, .unset] [(.int (0 : Int32))]))
    refine RunsW.go (fun _ => XS.istore Xw89_27.here hx rfl (hb hby at_118) rfl (l' := #[.val (.int x0), .val (.ref ba2_1), .val (.int (8 : Int32)), .val (.ref y8), .val (.int (0 : Int32)), .unset, .unset]) rfl) ?_
    show RunsW p e below s _ _ _ (Tw89_27.setTop (mkF m 120 #[.val (.int x0), .val (.ref ba2_1), .val (.int (8 : Int32)), .val (.ref y8), .val (.int (0 : Int32)), .unset, .unset] []))
    refine RunsW.go (fun _ => XS.aloadN Xw89_27.here hx rfl (hb hby at_120) rfl rfl) ?_
    show RunsW p e below s _ _ _ (Tw89_27.setTop (mkF m 121 #[.val (.int x0), .val (.ref ba2_1), .val (.int (8 : Int32)), .val (.ref y8), .val (.int (0 : Int32)), .unset, .unset] [(.ref y8)]))
    obtain ⟨cqc121_69, kqc121_69, qc121_69a, qc121_69b, qc121_69c⟩ := isOf hZ ew89_27 (E8.ext Kw89_27)
    obtain ⟨_, _, ⟨Tc121_69, Lc121_69, kc121_69, nc121_69⟩, -, Xc121_69, ⟨Lcc121_69, hQc121_69, lc121_69, yc121_69, zc121_69⟩, stc121_69⟩ := Xw89_27.virtualBack hx (y := (⟨"com/example/replay/replay/api/EventType", "isActivityEvent", "()Z"⟩ : MethodName)) (z := (⟨"com/example/replay/replay/api/EventType", "isActivityEvent", "()Z"⟩ : MethodName)) hown (mvT hZ (hw _ (List.mem_of_getElem? (i := 31) rfl))) (mvT hZ (hw _ (List.mem_of_getElem? (i := 32) rfl))) (notFace_of_selects (args := #[]) (mvT hZ (hw _ (List.mem_of_getElem? (i := 34) rfl)))) (mvT hZ (hw _ (List.mem_of_getElem? (i := 34) rfl))) (mvT hZ (hw _ (List.mem_of_getElem? (i := 33) rfl))) (by decide) (backOf (W := 0) (rm1c l Z a0 hw [] y8 y1 y2 y3 hw89_27 Z.heap.size hnw89_27 (E8.ext Kw89_27) (S1.ext Kw89_27) (S2.ext Kw89_27) (S3.ext Kw89_27) (Fld.ne O8 O1 (by decide)) (Fld.ne O8 O2 (by decide)) (Fld.ne O8 O3 (by decide))) hZ (hw _ (List.mem_of_getElem? (i := 35) rfl)) (hw _ (List.mem_of_getElem? (i := 3) rfl)) (by decide) (by decide)) qc121_69a qc121_69c (g := (mkF m 121 #[.val (.int x0), .val (.ref ba2_1), .val (.int (8 : Int32)), .val (.ref y8), .val (.int (0 : Int32)), .unset, .unset] [(.ref y8)])) rfl (by rw [hml]; rfl) (Steps.refl _) (argsL := []) (rest := []) (lenOf pd_0 rfl) rfl (by show 2 * 0 + _ ≤ _; exact Nat.le_of_eq rfl) (hb hby at_121) (fun _ _ => ⟨rfl, ew89_27, (by decide : 1 + 0 ≤ _), (by decide : 13 + 0 ≤ _)⟩)
    dsimp only [Pt.U, Pt.locs, Pt.cells, Pt.slots] at Xc121_69 lc121_69 yc121_69 zc121_69 stc121_69 hQc121_69
    subst lc121_69 yc121_69 zc121_69
    obtain ⟨rfl, rfl, ec121_69⟩ := hQc121_69
    refine RunsW.go (fun _ => stc121_69.trans) ?_
    have Nc121_69 := Fr.app Nw89_27 (Fr.nil Z.heap.size)
    show RunsW p e below s _ _ _ (Tc121_69.setTop (mkF m 124 #[.val (.int x0), .val (.ref ba2_1), .val (.int (8 : Int32)), .val (.ref y8), .val (.int (0 : Int32)), .unset, .unset] [(.int (0 : Int32))]))
    refine RunsW.go (fun _ => XS.istore Xc121_69.here hx rfl (hb hby at_124) rfl (l' := #[.val (.int x0), .val (.ref ba2_1), .val (.int (8 : Int32)), .val (.ref y8), .val (.int (0 : Int32)), .val (.int (0 : Int32)), .unset]) rfl) ?_
    show RunsW p e below s _ _ _ (Tc121_69.setTop (mkF m 126 #[.val (.int x0), .val (.ref ba2_1), .val (.int (8 : Int32)), .val (.ref y8), .val (.int (0 : Int32)), .val (.int (0 : Int32)), .unset] []))
    obtain ⟨bs126_70, Ts126_70, hs126_70, k1s126_70, ds126_70, kks126_70, Xs126_70, es126_70, Es126_70, hSs126_70, hks126_70, hZ, hown, Exs126_70, Fcs126_70, Fvs126_70, Vs126_70, -, -, -, sts126_70⟩ := ldcSV (s := s) (vm0 := s.vm) Xc121_69 hx hZ hown (hw _ (List.mem_of_getElem? (i := 44) rfl)) wS ec121_69 (own_since s) (by rw [hh]; exact Kw89_27.1) (by rw [hh]; exact Nc121_69) hkeep I0 (fun q => nomatch q) hheld hcw (vs := own_act.map Value.int) (z := 8) ⟨by decide, by decide +kernel⟩ (by decide) rfl (g := (mkF m 126 #[.val (.int x0), .val (.ref ba2_1), .val (.int (8 : Int32)), .val (.ref y8), .val (.int (0 : Int32)), .val (.int (0 : Int32)), .unset] [])) rfl (hb hby at_126) (n := 32) (by decide) (by decide) (by decide) (by decide)
    refine RunsW.go sts126_70 ?_
    have Ks126_70 : Ext Z.heap hs126_70 := own_extt Kw89_27 Es126_70
    have hns126_70 : Z.heap.size ≤ hs126_70.size := Nat.le_trans hnw89_27 Es126_70.1
    show RunsW p e below s _ _ _ (Ts126_70.setTop (mkF m 128 #[.val (.int x0), .val (.ref ba2_1), .val (.int (8 : Int32)), .val (.ref y8), .val (.int (0 : Int32)), .val (.int (0 : Int32)), .unset] [(.ref bs126_70)]))
    refine RunsW.go (fun _ => XS.aloadN Xs126_70.here hx rfl (hb hby at_128) rfl rfl) ?_
    show RunsW p e below s _ _ _ (Ts126_70.setTop (mkF m 129 #[.val (.int x0), .val (.ref ba2_1), .val (.int (8 : Int32)), .val (.ref y8), .val (.int (0 : Int32)), .val (.int (0 : Int32)), .unset] [(.ref y8), (.ref bs126_70)]))
    obtain ⟨cqc129_71, kqc129_71, qc129_71a, qc129_71b, qc129_71c⟩ := isOf hZ es126_70 (E8.ext Ks126_70)
    obtain ⟨_, _, ⟨Tc129_71, Lc129_71, kc129_71, nc129_71⟩, -, Xc129_71, ⟨Lcc129_71, hQc129_71, lc129_71, yc129_71, zc129_71⟩, stc129_71⟩ := Xs126_70.virtualBack hx (y := (⟨"com/example/replay/replay/api/EventType", "subject", "()Ljava/lang/String;"⟩ : MethodName)) (z := (⟨"com/example/replay/replay/api/EventType", "subject", "()Ljava/lang/String;"⟩ : MethodName)) hown (mvT hZ (hw _ (List.mem_of_getElem? (i := 52) rfl))) (mvT hZ (hw _ (List.mem_of_getElem? (i := 53) rfl))) (notFace_of_selects (args := #[]) (mvT hZ (hw _ (List.mem_of_getElem? (i := 55) rfl)))) (mvT hZ (hw _ (List.mem_of_getElem? (i := 55) rfl))) (mvT hZ (hw _ (List.mem_of_getElem? (i := 54) rfl))) (by decide) (backOf (W := 1) (rm3 l Z a0 hw [] y8 (.ref sE) hs126_70 Z.heap.size hns126_70 (F8.ext Ks126_70) rfl) hZ (hw _ (List.mem_of_getElem? (i := 56) rfl)) (hw _ (List.mem_of_getElem? (i := 3) rfl)) (by decide) (by decide)) qc129_71a qc129_71c (g := (mkF m 129 #[.val (.int x0), .val (.ref ba2_1), .val (.int (8 : Int32)), .val (.ref y8), .val (.int (0 : Int32)), .val (.int (0 : Int32)), .unset] [(.ref y8), (.ref bs126_70)])) rfl (by rw [hml]; rfl) (Steps.refl _) (argsL := []) (rest := [(.ref bs126_70)]) (lenOf pd_1 rfl) rfl (by show 2 * 0 + _ ≤ _; exact Nat.le_of_eq rfl) (hb hby at_129) (fun _ _ => ⟨rfl, es126_70, (by decide : 3 + 0 ≤ _), (by decide : 49 + 0 ≤ _)⟩)
    dsimp only [Pt.U, Pt.locs, Pt.cells, Pt.slots] at Xc129_71 lc129_71 yc129_71 zc129_71 stc129_71 hQc129_71
    subst lc129_71 yc129_71 zc129_71
    obtain ⟨rfl, rfl, ec129_71⟩ := hQc129_71
    refine RunsW.go (fun _ => stc129_71.trans) ?_
    have Nc129_71 := Fr.app Nc121_69 (Fr.nil Z.heap.size)
    show RunsW p e below s _ _ _ (Tc129_71.setTop (mkF m 132 #[.val (.int x0), .val (.ref ba2_1), .val (.int (8 : Int32)), .val (.ref y8), .val (.int (0 : Int32)), .val (.int (0 : Int32)), .unset] [(.ref sE), (.ref bs126_70)]))
    obtain ⟨cqc132_72, kqc132_72, qc132_72a, qc132_72b, qc132_72c⟩ := isOf hZ ec129_71 Exs126_70
    obtain ⟨_, _, ⟨Tc132_72, Lc132_72, kc132_72, nc132_72⟩, -, Xc132_72, ⟨Lcc132_72, hQc132_72, lc132_72, yc132_72, zc132_72⟩, stc132_72⟩ := Xc129_71.virtualBack hx (y := (⟨"java/lang/String", "equals", "(Ljava/lang/Object;)Z"⟩ : MethodName)) (z := (⟨"java/lang/String", "equals", "(Ljava/lang/Object;)Z"⟩ : MethodName)) hown (mvT hZ (hw _ (List.mem_of_getElem? (i := 59) rfl))) (mvT hZ (hw _ (List.mem_of_getElem? (i := 60) rfl))) (notFace_of_selects (args := #[]) (mvT hZ (hw _ (List.mem_of_getElem? (i := 62) rfl)))) (mvT hZ (hw _ (List.mem_of_getElem? (i := 62) rfl))) (mvT hZ (hw _ (List.mem_of_getElem? (i := 61) rfl))) (by decide) (backOf (W := 0) (rm4d l Z a0 hw [] bs126_70 sE hs126_70 (Exs126_70) (Fcs126_70) (Fvs126_70) (Vs126_70) (AE1.ext Ks126_70) (AE2.ext Ks126_70) (AE3.ext Ks126_70) (AE4.ext Ks126_70) (AC.ext Ks126_70) hzc (by decide)) hZ (hw _ (List.mem_of_getElem? (i := 63) rfl)) (hw _ (List.mem_of_getElem? (i := 45) rfl)) (by decide) (by decide)) qc132_72a qc132_72c (g := (mkF m 132 #[.val (.int x0), .val (.ref ba2_1), .val (.int (8 : Int32)), .val (.ref y8), .val (.int (0 : Int32)), .val (.int (0 : Int32)), .unset] [(.ref sE), (.ref bs126_70)])) rfl (by rw [hml]; rfl) (Steps.refl _) (argsL := [(.ref sE)]) (rest := []) (lenOf pd_2 rfl) rfl (by show 2 * 0 + _ ≤ _; exact Nat.le_of_eq rfl) (hb hby at_132) (fun _ _ => ⟨rfl, ec129_71, (by decide : 3 + 0 ≤ _), (by decide : 49 + 0 ≤ _)⟩)
    dsimp only [Pt.U, Pt.locs, Pt.cells, Pt.slots] at Xc132_72 lc132_72 yc132_72 zc132_72 stc132_72 hQc132_72
    subst lc132_72 yc132_72 zc132_72
    obtain ⟨rfl, rfl, ec132_72⟩ := hQc132_72
    refine RunsW.go (fun _ => stc132_72.trans) ?_
    have Nc132_72 := Fr.app Nc129_71 (Fr.nil Z.heap.size)
    show RunsW p e below s _ _ _ (Tc132_72.setTop (mkF m 135 #[.val (.int x0), .val (.ref ba2_1), .val (.int (8 : Int32)), .val (.ref y8), .val (.int (0 : Int32)), .val (.int (0 : Int32)), .unset] [(.int (0 : Int32))]))
    refine RunsW.go (fun _ => XS.istore Xc132_72.here hx rfl (hb hby at_135) rfl (l' := #[.val (.int x0), .val (.ref ba2_1), .val (.int (8 : Int32)), .val (.ref y8), .val (.int (0 : Int32)), .val (.int (0 : Int32)), .val (.int (0 : Int32))]) rfl) ?_
    show RunsW p e below s _ _ _ (Tc132_72.setTop (mkF m 137 #[.val (.int x0), .val (.ref ba2_1), .val (.int (8 : Int32)), .val (.ref y8), .val (.int (0 : Int32)), .val (.int (0 : Int32)), .val (.int (0 : Int32))] []))
    refine RunsW.go (fun _ => XS.iload Xc132_72.here hx rfl (hb hby at_137) rfl) ?_
    show RunsW p e below s _ _ _ (Tc132_72.setTop (mkF m 139 #[.val (.int x0), .val (.ref ba2_1), .val (.int (8 : Int32)), .val (.ref y8), .val (.int (0 : Int32)), .val (.int (0 : Int32)), .val (.int (0 : Int32))] [(.int (0 : Int32))]))
    refine RunsW.go (fun _ => XS.iload Xc132_72.here hx rfl (hb hby at_139) rfl) ?_
    show RunsW p e below s _ _ _ (Tc132_72.setTop (mkF m 141 #[.val (.int x0), .val (.ref ba2_1), .val (.int (8 : Int32)), .val (.ref y8), .val (.int (0 : Int32)), .val (.int (0 : Int32)), .val (.int (0 : Int32))] [(.int (0 : Int32)), (.int (0 : Int32))]))
    refine RunsW.go (fun _ => XS.icmpNo Xc132_72.here hx rfl (hb hby at_141) rfl (teq (rfl : (0 : Int32) = (0 : Int32))).2) ?_
    show RunsW p e below s _ _ _ (Tc132_72.setTop (mkF m 144 #[.val (.int x0), .val (.ref ba2_1), .val (.int (8 : Int32)), .val (.ref y8), .val (.int (0 : Int32)), .val (.int (0 : Int32)), .val (.int (0 : Int32))] []))
    refine RunsW.go (fun _ => XS.iload Xc132_72.here hx rfl (hb hby at_144) rfl) ?_
    show RunsW p e below s _ _ _ (Tc132_72.setTop (mkF m 146 #[.val (.int x0), .val (.ref ba2_1), .val (.int (8 : Int32)), .val (.ref y8), .val (.int (0 : Int32)), .val (.int (0 : Int32)), .val (.int (0 : Int32))] [(.int (0 : Int32))]))
    refine RunsW.go (fun _ => XS.iload Xc132_72.here hx rfl (hb hby at_146) rfl) ?_
    show RunsW p e below s _ _ _ (Tc132_72.setTop (mkF m 148 #[.val (.int x0), .val (.ref ba2_1), .val (.int (8 : Int32)), .val (.ref y8), .val (.int (0 : Int32)), .val (.int (0 : Int32)), .val (.int (0 : Int32))] [(.int (0 : Int32)), (.int (0 : Int32))]))
    refine RunsW.go (fun _ => XS.icmpNo Xc132_72.here hx rfl (hb hby at_148) rfl (teq (rfl : (0 : Int32) = (0 : Int32))).2) ?_
    show RunsW p e below s _ _ _ (Tc132_72.setTop (mkF m 151 #[.val (.int x0), .val (.ref ba2_1), .val (.int (8 : Int32)), .val (.ref y8), .val (.int (0 : Int32)), .val (.int (0 : Int32)), .val (.int (0 : Int32))] []))
    refine RunsW.go (fun _ => XS.iconst Xc132_72.here hx rfl (hb hby at_151)) ?_
    show RunsW p e below s _ _ _ (Tc132_72.setTop (mkF m 152 #[.val (.int x0), .val (.ref ba2_1), .val (.int (8 : Int32)), .val (.ref y8), .val (.int (0 : Int32)), .val (.int (0 : Int32)), .val (.int (0 : Int32))] [(.int (1 : Int32))]))
    refine RunsW.go (fun _ => XS.goto Xc132_72.here hx rfl (pc0 := 152) (pc' := 156) rfl (hb hby at_152) (by decide) (by decide)) ?_
    show RunsW p e below s _ _ _ (Tc132_72.setTop (mkF m 156 #[.val (.int x0), .val (.ref ba2_1), .val (.int (8 : Int32)), .val (.ref y8), .val (.int (0 : Int32)), .val (.int (0 : Int32)), .val (.int (0 : Int32))] [(.int (1 : Int32))]))
    exact RunsW.endN Xc132_72 hSs126_70 (by rw [ec132_72]; exact hks126_70) hx (t := .boolean) Bd.returns (by simp) Bd.notSynchronized (hb hby at_156) ⟨rfl, Nc132_72⟩ (by decide) (by decide)
  · rw [q]
    show RunsW p e below s _ _ _ (Tw89_27.setTop (mkF m 98 #[.val (.int x0), .val (.ref ba2_1), .unset, .unset, .unset, .unset, .unset] [(.int (9 : Int32))]))
    refine RunsW.go (fun _ => XS.istoreN Xw89_27.here hx rfl (hb hby at_98) rfl (l' := #[.val (.int x0), .val (.ref ba2_1), .val (.int (9 : Int32)), .unset, .unset, .unset, .unset]) rfl) ?_
    show RunsW p e below s _ _ _ (Tw89_27.setTop (mkF m 99 #[.val (.int x0), .val (.ref ba2_1), .val (.int (9 : Int32)), .unset, .unset, .unset, .unset] []))
    refine RunsW.go (fun _ => XS.aloadN Xw89_27.here hx rfl (hb hby at_99) rfl rfl) ?_
    show RunsW p e below s _ _ _ (Tw89_27.setTop (mkF m 100 #[.val (.int x0), .val (.ref ba2_1), .val (.int (9 : Int32)), .unset, .unset, .unset, .unset] [(.ref ba2_1)]))
    refine RunsW.go (fun _ => XS.iloadN Xw89_27.here hx rfl (hb hby at_100) rfl) ?_
    show RunsW p e below s _ _ _ (Tw89_27.setTop (mkF m 101 #[.val (.int x0), .val (.ref ba2_1), .val (.int (9 : Int32)), .unset, .unset, .unset, .unset] [(.int (9 : Int32)), (.ref ba2_1)]))
    have VCr101_73 := Vw89_27
    obtain ⟨clr101_73, Arr101_73, -, Sr101_73, Mr101_73, Hr101_73, -⟩ := VCr101_73
    have hinr101_73 : ¬ ((9 : Int32) < 0 ∨ clr101_73.slots.size ≤ ((9 : Int32)).toNatClampNeg) := inb_of Sr101_73 ⟨by decide, by decide⟩
    have hatr101_73 : clr101_73.slots[((9 : Int32)).toNatClampNeg]? = some (.ref y9) := Has.at Hr101_73 hinr101_73 rfl
    refine RunsW.go (Xw89_27.aaload hx (j := (9 : Int32)) (v := (.ref y9)) (by rw [ew89_27]; exact Arr101_73.1) (State.isArrayOf_alike hZ.alike Arr101_73.2.1) rfl Arr101_73.2.2 hinr101_73 hatr101_73 (g := (mkF m 101 #[.val (.int x0), .val (.ref ba2_1), .val (.int (9 : Int32)), .unset, .unset, .unset, .unset] [(.int (9 : Int32)), (.ref ba2_1)])) rfl rfl (hb hby at_101)) ?_
    show RunsW p e below s _ _ _ (Tw89_27.setTop (mkF m 102 #[.val (.int x0), .val (.ref ba2_1), .val (.int (9 : Int32)), .unset, .unset, .unset, .unset] [(.ref y9)]))
    refine RunsW.go (fun _ => XS.astoreN Xw89_27.here hx rfl (hb hby at_102) rfl rfl (l' := #[.val (.int x0), .val (.ref ba2_1), .val (.int (9 : Int32)), .val (.ref y9), .unset, .unset, .unset]) rfl) ?_
    show RunsW p e below s _ _ _ (Tw89_27.setTop (mkF m 103 #[.val (.int x0), .val (.ref ba2_1), .val (.int (9 : Int32)), .val (.ref y9), .unset, .unset, .unset] []))
    refine RunsW.go (fun _ => XS.iloadN Xw89_27.here hx rfl (hb hby at_103) rfl) ?_
    show RunsW p e below s _ _ _ (Tw89_27.setTop (mkF m 104 #[.val (.int x0), .val (.ref ba2_1), .val (.int (9 : Int32)), .val (.ref y9), .unset, .unset, .unset] [(.int (9 : Int32))]))
    refine RunsW.go (fun _ => XS.iconst Xw89_27.here hx rfl (hb hby at_104)) ?_
    show RunsW p e below s _ _ _ (Tw89_27.setTop (mkF m 105 #[.val (.int x0), .val (.ref ba2_1), .val (.int (9 : Int32)), .val (.ref y9), .unset, .unset, .unset] [(.int (1 : Int32)), (.int (9 : Int32))]))
    refine RunsW.go (fun _ => XS.icmpNo Xw89_27.here hx rfl (hb hby at_105) rfl (flt ((by decide) : ¬ ((9 : Int32) < (1 : Int32)))).1) ?_
    show RunsW p e below s _ _ _ (Tw89_27.setTop (mkF m 108 #[.val (.int x0), .val (.ref ba2_1), .val (.int (9 : Int32)), .val (.ref y9), .unset, .unset, .unset] []))
    refine RunsW.go (fun _ => XS.iloadN Xw89_27.here hx rfl (hb hby at_108) rfl) ?_
    show RunsW p e below s _ _ _ (Tw89_27.setTop (mkF m 109 #[.val (.int x0), .val (.ref ba2_1), .val (.int (9 : Int32)), .val (.ref y9), .unset, .unset, .unset] [(.int (9 : Int32))]))
    refine RunsW.go (fun _ => XS.iconst Xw89_27.here hx rfl (hb hby at_109)) ?_
    show RunsW p e below s _ _ _ (Tw89_27.setTop (mkF m 110 #[.val (.int x0), .val (.ref ba2_1), .val (.int (9 : Int32)), .val (.ref y9), .unset, .unset, .unset] [(.int (3 : Int32)), (.int (9 : Int32))]))
    refine RunsW.go (fun _ => XS.icmpYes Xw89_27.here hx rfl (pc0 := 110) (pc' := 117) rfl (hb hby at_110) rfl (tlt ((by decide) : (3 : Int32) < (9 : Int32))).2.2.1 (by decide) (by decide)) ?_
    show RunsW p e below s _ _ _ (Tw89_27.setTop (mkF m 117 #[.val (.int x0), .val (.ref ba2_1), .val (.int (9 : Int32)), .val (.ref y9), .unset, .unset, .unset] []))
    refine RunsW.go (fun _ => XS.iconst Xw89_27.here hx rfl (hb hby at_117)) ?_
    show RunsW p e below s _ _ _ (Tw89_27.setTop (mkF m 118 #[.val (.int x0), .val (.ref ba2_1), .val (.int (9 : Int32)), .val (.ref y9), .unset, .unset, .unset] [(.int (0 : Int32))]))
    refine RunsW.go (fun _ => XS.istore Xw89_27.here hx rfl (hb hby at_118) rfl (l' := #[.val (.int x0), .val (.ref ba2_1), .val (.int (9 : Int32)), .val (.ref y9), .val (.int (0 : Int32)), .unset, .unset]) rfl) ?_
    show RunsW p e below s _ _ _ (Tw89_27.setTop (mkF m 120 #[.val (.int x0), .val (.ref ba2_1), .val (.int (9 : Int32)), .val (.ref y9), .val (.int (0 : Int32)), .unset, .unset] []))
    refine RunsW.go (fun _ => XS.aloadN Xw89_27.here hx rfl (hb hby at_120) rfl rfl) ?_
    show RunsW p e below s _ _ _ (Tw89_27.setTop (mkF m 121 #[.val (.int x0), .val (.ref ba2_1), .val (.int (9 : Int32)), .val (.ref y9), .val (.int (0 : Int32)), .unset, .unset] [(.ref y9)]))
    obtain ⟨cqc121_74, kqc121_74, qc121_74a, qc121_74b, qc121_74c⟩ := isOf hZ ew89_27 (E9.ext Kw89_27)
    obtain ⟨_, _, ⟨Tc121_74, Lc121_74, kc121_74, nc121_74⟩, -, Xc121_74, ⟨Lcc121_74, hQc121_74, lc121_74, yc121_74, zc121_74⟩, stc121_74⟩ := Xw89_27.virtualBack hx (y := (⟨"com/example/replay/replay/api/EventType", "isActivityEvent", "()Z"⟩ : MethodName)) (z := (⟨"com/example/replay/replay/api/EventType", "isActivityEvent", "()Z"⟩ : MethodName)) hown (mvT hZ (hw _ (List.mem_of_getElem? (i := 31) rfl))) (mvT hZ (hw _ (List.mem_of_getElem? (i := 32) rfl))) (notFace_of_selects (args := #[]) (mvT hZ (hw _ (List.mem_of_getElem? (i := 34) rfl)))) (mvT hZ (hw _ (List.mem_of_getElem? (i := 34) rfl))) (mvT hZ (hw _ (List.mem_of_getElem? (i := 33) rfl))) (by decide) (backOf (W := 0) (rm1c l Z a0 hw [] y9 y1 y2 y3 hw89_27 Z.heap.size hnw89_27 (E9.ext Kw89_27) (S1.ext Kw89_27) (S2.ext Kw89_27) (S3.ext Kw89_27) (Fld.ne O9 O1 (by decide)) (Fld.ne O9 O2 (by decide)) (Fld.ne O9 O3 (by decide))) hZ (hw _ (List.mem_of_getElem? (i := 35) rfl)) (hw _ (List.mem_of_getElem? (i := 3) rfl)) (by decide) (by decide)) qc121_74a qc121_74c (g := (mkF m 121 #[.val (.int x0), .val (.ref ba2_1), .val (.int (9 : Int32)), .val (.ref y9), .val (.int (0 : Int32)), .unset, .unset] [(.ref y9)])) rfl (by rw [hml]; rfl) (Steps.refl _) (argsL := []) (rest := []) (lenOf pd_0 rfl) rfl (by show 2 * 0 + _ ≤ _; exact Nat.le_of_eq rfl) (hb hby at_121) (fun _ _ => ⟨rfl, ew89_27, (by decide : 1 + 0 ≤ _), (by decide : 13 + 0 ≤ _)⟩)
    dsimp only [Pt.U, Pt.locs, Pt.cells, Pt.slots] at Xc121_74 lc121_74 yc121_74 zc121_74 stc121_74 hQc121_74
    subst lc121_74 yc121_74 zc121_74
    obtain ⟨rfl, rfl, ec121_74⟩ := hQc121_74
    refine RunsW.go (fun _ => stc121_74.trans) ?_
    have Nc121_74 := Fr.app Nw89_27 (Fr.nil Z.heap.size)
    show RunsW p e below s _ _ _ (Tc121_74.setTop (mkF m 124 #[.val (.int x0), .val (.ref ba2_1), .val (.int (9 : Int32)), .val (.ref y9), .val (.int (0 : Int32)), .unset, .unset] [(.int (0 : Int32))]))
    refine RunsW.go (fun _ => XS.istore Xc121_74.here hx rfl (hb hby at_124) rfl (l' := #[.val (.int x0), .val (.ref ba2_1), .val (.int (9 : Int32)), .val (.ref y9), .val (.int (0 : Int32)), .val (.int (0 : Int32)), .unset]) rfl) ?_
    show RunsW p e below s _ _ _ (Tc121_74.setTop (mkF m 126 #[.val (.int x0), .val (.ref ba2_1), .val (.int (9 : Int32)), .val (.ref y9), .val (.int (0 : Int32)), .val (.int (0 : Int32)), .unset] []))
    obtain ⟨bs126_75, Ts126_75, hs126_75, k1s126_75, ds126_75, kks126_75, Xs126_75, es126_75, Es126_75, hSs126_75, hks126_75, hZ, hown, Exs126_75, Fcs126_75, Fvs126_75, Vs126_75, -, -, -, sts126_75⟩ := ldcSV (s := s) (vm0 := s.vm) Xc121_74 hx hZ hown (hw _ (List.mem_of_getElem? (i := 44) rfl)) wS ec121_74 (own_since s) (by rw [hh]; exact Kw89_27.1) (by rw [hh]; exact Nc121_74) hkeep I0 (fun q => nomatch q) hheld hcw (vs := own_act.map Value.int) (z := 8) ⟨by decide, by decide +kernel⟩ (by decide) rfl (g := (mkF m 126 #[.val (.int x0), .val (.ref ba2_1), .val (.int (9 : Int32)), .val (.ref y9), .val (.int (0 : Int32)), .val (.int (0 : Int32)), .unset] [])) rfl (hb hby at_126) (n := 32) (by decide) (by decide) (by decide) (by decide)
    refine RunsW.go sts126_75 ?_
    have Ks126_75 : Ext Z.heap hs126_75 := own_extt Kw89_27 Es126_75
    have hns126_75 : Z.heap.size ≤ hs126_75.size := Nat.le_trans hnw89_27 Es126_75.1
    show RunsW p e below s _ _ _ (Ts126_75.setTop (mkF m 128 #[.val (.int x0), .val (.ref ba2_1), .val (.int (9 : Int32)), .val (.ref y9), .val (.int (0 : Int32)), .val (.int (0 : Int32)), .unset] [(.ref bs126_75)]))
    refine RunsW.go (fun _ => XS.aloadN Xs126_75.here hx rfl (hb hby at_128) rfl rfl) ?_
    show RunsW p e below s _ _ _ (Ts126_75.setTop (mkF m 129 #[.val (.int x0), .val (.ref ba2_1), .val (.int (9 : Int32)), .val (.ref y9), .val (.int (0 : Int32)), .val (.int (0 : Int32)), .unset] [(.ref y9), (.ref bs126_75)]))
    obtain ⟨cqc129_76, kqc129_76, qc129_76a, qc129_76b, qc129_76c⟩ := isOf hZ es126_75 (E9.ext Ks126_75)
    obtain ⟨_, _, ⟨Tc129_76, Lc129_76, kc129_76, nc129_76⟩, -, Xc129_76, ⟨Lcc129_76, hQc129_76, lc129_76, yc129_76, zc129_76⟩, stc129_76⟩ := Xs126_75.virtualBack hx (y := (⟨"com/example/replay/replay/api/EventType", "subject", "()Ljava/lang/String;"⟩ : MethodName)) (z := (⟨"com/example/replay/replay/api/EventType", "subject", "()Ljava/lang/String;"⟩ : MethodName)) hown (mvT hZ (hw _ (List.mem_of_getElem? (i := 52) rfl))) (mvT hZ (hw _ (List.mem_of_getElem? (i := 53) rfl))) (notFace_of_selects (args := #[]) (mvT hZ (hw _ (List.mem_of_getElem? (i := 55) rfl)))) (mvT hZ (hw _ (List.mem_of_getElem? (i := 55) rfl))) (mvT hZ (hw _ (List.mem_of_getElem? (i := 54) rfl))) (by decide) (backOf (W := 1) (rm3 l Z a0 hw [] y9 .null hs126_75 Z.heap.size hns126_75 (F9.ext Ks126_75) rfl) hZ (hw _ (List.mem_of_getElem? (i := 56) rfl)) (hw _ (List.mem_of_getElem? (i := 3) rfl)) (by decide) (by decide)) qc129_76a qc129_76c (g := (mkF m 129 #[.val (.int x0), .val (.ref ba2_1), .val (.int (9 : Int32)), .val (.ref y9), .val (.int (0 : Int32)), .val (.int (0 : Int32)), .unset] [(.ref y9), (.ref bs126_75)])) rfl (by rw [hml]; rfl) (Steps.refl _) (argsL := []) (rest := [(.ref bs126_75)]) (lenOf pd_1 rfl) rfl (by show 2 * 0 + _ ≤ _; exact Nat.le_of_eq rfl) (hb hby at_129) (fun _ _ => ⟨rfl, es126_75, (by decide : 3 + 0 ≤ _), (by decide : 49 + 0 ≤ _)⟩)
    dsimp only [Pt.U, Pt.locs, Pt.cells, Pt.slots] at Xc129_76 lc129_76 yc129_76 zc129_76 stc129_76 hQc129_76
    subst lc129_76 yc129_76 zc129_76
    obtain ⟨rfl, rfl, ec129_76⟩ := hQc129_76
    refine RunsW.go (fun _ => stc129_76.trans) ?_
    have Nc129_76 := Fr.app Nc121_74 (Fr.nil Z.heap.size)
    show RunsW p e below s _ _ _ (Tc129_76.setTop (mkF m 132 #[.val (.int x0), .val (.ref ba2_1), .val (.int (9 : Int32)), .val (.ref y9), .val (.int (0 : Int32)), .val (.int (0 : Int32)), .unset] [.null, (.ref bs126_75)]))
    obtain ⟨cqc132_77, kqc132_77, qc132_77a, qc132_77b, qc132_77c⟩ := isOf hZ ec129_76 Exs126_75
    obtain ⟨_, _, ⟨Tc132_77, Lc132_77, kc132_77, nc132_77⟩, -, Xc132_77, ⟨Lcc132_77, hQc132_77, lc132_77, yc132_77, zc132_77⟩, stc132_77⟩ := Xc129_76.virtualBack hx (y := (⟨"java/lang/String", "equals", "(Ljava/lang/Object;)Z"⟩ : MethodName)) (z := (⟨"java/lang/String", "equals", "(Ljava/lang/Object;)Z"⟩ : MethodName)) hown (mvT hZ (hw _ (List.mem_of_getElem? (i := 59) rfl))) (mvT hZ (hw _ (List.mem_of_getElem? (i := 60) rfl))) (notFace_of_selects (args := #[]) (mvT hZ (hw _ (List.mem_of_getElem? (i := 62) rfl)))) (mvT hZ (hw _ (List.mem_of_getElem? (i := 62) rfl))) (mvT hZ (hw _ (List.mem_of_getElem? (i := 61) rfl))) (by decide) (backOf (W := 0) (rm4n l Z a0 hw [] bs126_75 hs126_75) hZ (hw _ (List.mem_of_getElem? (i := 63) rfl)) (hw _ (List.mem_of_getElem? (i := 45) rfl)) (by decide) (by decide)) qc132_77a qc132_77c (g := (mkF m 132 #[.val (.int x0), .val (.ref ba2_1), .val (.int (9 : Int32)), .val (.ref y9), .val (.int (0 : Int32)), .val (.int (0 : Int32)), .unset] [.null, (.ref bs126_75)])) rfl (by rw [hml]; rfl) (Steps.refl _) (argsL := [.null]) (rest := []) (lenOf pd_2 rfl) rfl (by show 2 * 0 + _ ≤ _; exact Nat.le_of_eq rfl) (hb hby at_132) (fun _ _ => ⟨rfl, ec129_76, (by decide : 3 + 0 ≤ _), (by decide : 49 + 0 ≤ _)⟩)
    dsimp only [Pt.U, Pt.locs, Pt.cells, Pt.slots] at Xc132_77 lc132_77 yc132_77 zc132_77 stc132_77 hQc132_77
    subst lc132_77 yc132_77 zc132_77
    obtain ⟨rfl, rfl, ec132_77⟩ := hQc132_77
    refine RunsW.go (fun _ => stc132_77.trans) ?_
    have Nc132_77 := Fr.app Nc129_76 (Fr.nil Z.heap.size)
    show RunsW p e below s _ _ _ (Tc132_77.setTop (mkF m 135 #[.val (.int x0), .val (.ref ba2_1), .val (.int (9 : Int32)), .val (.ref y9), .val (.int (0 : Int32)), .val (.int (0 : Int32)), .unset] [(.int (0 : Int32))]))
    refine RunsW.go (fun _ => XS.istore Xc132_77.here hx rfl (hb hby at_135) rfl (l' := #[.val (.int x0), .val (.ref ba2_1), .val (.int (9 : Int32)), .val (.ref y9), .val (.int (0 : Int32)), .val (.int (0 : Int32)), .val (.int (0 : Int32))]) rfl) ?_
    show RunsW p e below s _ _ _ (Tc132_77.setTop (mkF m 137 #[.val (.int x0), .val (.ref ba2_1), .val (.int (9 : Int32)), .val (.ref y9), .val (.int (0 : Int32)), .val (.int (0 : Int32)), .val (.int (0 : Int32))] []))
    refine RunsW.go (fun _ => XS.iload Xc132_77.here hx rfl (hb hby at_137) rfl) ?_
    show RunsW p e below s _ _ _ (Tc132_77.setTop (mkF m 139 #[.val (.int x0), .val (.ref ba2_1), .val (.int (9 : Int32)), .val (.ref y9), .val (.int (0 : Int32)), .val (.int (0 : Int32)), .val (.int (0 : Int32))] [(.int (0 : Int32))]))
    refine RunsW.go (fun _ => XS.iload Xc132_77.here hx rfl (hb hby at_139) rfl) ?_
    show RunsW p e below s _ _ _ (Tc132_77.setTop (mkF m 141 #[.val (.int x0), .val (.ref ba2_1), .val (.int (9 : Int32)), .val (.ref y9), .val (.int (0 : Int32)), .val (.int (0 : Int32)), .val (.int (0 : Int32))] [(.int (0 : Int32)), (.int (0 : Int32))]))
    refine RunsW.go (fun _ => XS.icmpNo Xc132_77.here hx rfl (hb hby at_141) rfl (teq (rfl : (0 : Int32) = (0 : Int32))).2) ?_
    show RunsW p e below s _ _ _ (Tc132_77.setTop (mkF m 144 #[.val (.int x0), .val (.ref ba2_1), .val (.int (9 : Int32)), .val (.ref y9), .val (.int (0 : Int32)), .val (.int (0 : Int32)), .val (.int (0 : Int32))] []))
    refine RunsW.go (fun _ => XS.iload Xc132_77.here hx rfl (hb hby at_144) rfl) ?_
    show RunsW p e below s _ _ _ (Tc132_77.setTop (mkF m 146 #[.val (.int x0), .val (.ref ba2_1), .val (.int (9 : Int32)), .val (.ref y9), .val (.int (0 : Int32)), .val (.int (0 : Int32)), .val (.int (0 : Int32))] [(.int (0 : Int32))]))
    refine RunsW.go (fun _ => XS.iload Xc132_77.here hx rfl (hb hby at_146) rfl) ?_
    show RunsW p e below s _ _ _ (Tc132_77.setTop (mkF m 148 #[.val (.int x0), .val (.ref ba2_1), .val (.int (9 : Int32)), .val (.ref y9), .val (.int (0 : Int32)), .val (.int (0 : Int32)), .val (.int (0 : Int32))] [(.int (0 : Int32)), (.int (0 : Int32))]))
    refine RunsW.go (fun _ => XS.icmpNo Xc132_77.here hx rfl (hb hby at_148) rfl (teq (rfl : (0 : Int32) = (0 : Int32))).2) ?_
    show RunsW p e below s _ _ _ (Tc132_77.setTop (mkF m 151 #[.val (.int x0), .val (.ref ba2_1), .val (.int (9 : Int32)), .val (.ref y9), .val (.int (0 : Int32)), .val (.int (0 : Int32)), .val (.int (0 : Int32))] []))
    refine RunsW.go (fun _ => XS.iconst Xc132_77.here hx rfl (hb hby at_151)) ?_
    show RunsW p e below s _ _ _ (Tc132_77.setTop (mkF m 152 #[.val (.int x0), .val (.ref ba2_1), .val (.int (9 : Int32)), .val (.ref y9), .val (.int (0 : Int32)), .val (.int (0 : Int32)), .val (.int (0 : Int32))] [(.int (1 : Int32))]))
    refine RunsW.go (fun _ => XS.goto Xc132_77.here hx rfl (pc0 := 152) (pc' := 156) rfl (hb hby at_152) (by decide) (by decide)) ?_
    show RunsW p e below s _ _ _ (Tc132_77.setTop (mkF m 156 #[.val (.int x0), .val (.ref ba2_1), .val (.int (9 : Int32)), .val (.ref y9), .val (.int (0 : Int32)), .val (.int (0 : Int32)), .val (.int (0 : Int32))] [(.int (1 : Int32))]))
    exact RunsW.endN Xc132_77 hSs126_75 (by rw [ec132_77]; exact hks126_75) hx (t := .boolean) Bd.returns (by simp) Bd.notSynchronized (hb hby at_156) ⟨rfl, Nc132_77⟩ (by decide) (by decide)
  · rw [q]
    show RunsW p e below s _ _ _ (Tw89_27.setTop (mkF m 98 #[.val (.int x0), .val (.ref ba2_1), .unset, .unset, .unset, .unset, .unset] [(.int (10 : Int32))]))
    refine RunsW.go (fun _ => XS.istoreN Xw89_27.here hx rfl (hb hby at_98) rfl (l' := #[.val (.int x0), .val (.ref ba2_1), .val (.int (10 : Int32)), .unset, .unset, .unset, .unset]) rfl) ?_
    show RunsW p e below s _ _ _ (Tw89_27.setTop (mkF m 99 #[.val (.int x0), .val (.ref ba2_1), .val (.int (10 : Int32)), .unset, .unset, .unset, .unset] []))
    refine RunsW.go (fun _ => XS.aloadN Xw89_27.here hx rfl (hb hby at_99) rfl rfl) ?_
    show RunsW p e below s _ _ _ (Tw89_27.setTop (mkF m 100 #[.val (.int x0), .val (.ref ba2_1), .val (.int (10 : Int32)), .unset, .unset, .unset, .unset] [(.ref ba2_1)]))
    refine RunsW.go (fun _ => XS.iloadN Xw89_27.here hx rfl (hb hby at_100) rfl) ?_
    show RunsW p e below s _ _ _ (Tw89_27.setTop (mkF m 101 #[.val (.int x0), .val (.ref ba2_1), .val (.int (10 : Int32)), .unset, .unset, .unset, .unset] [(.int (10 : Int32)), (.ref ba2_1)]))
    have VCr101_78 := Vw89_27
    obtain ⟨clr101_78, Arr101_78, -, Sr101_78, Mr101_78, Hr101_78, -⟩ := VCr101_78
    have hinr101_78 : ¬ ((10 : Int32) < 0 ∨ clr101_78.slots.size ≤ ((10 : Int32)).toNatClampNeg) := inb_of Sr101_78 ⟨by decide, by decide⟩
    have hatr101_78 : clr101_78.slots[((10 : Int32)).toNatClampNeg]? = some (.ref y10) := Has.at Hr101_78 hinr101_78 rfl
    refine RunsW.go (Xw89_27.aaload hx (j := (10 : Int32)) (v := (.ref y10)) (by rw [ew89_27]; exact Arr101_78.1) (State.isArrayOf_alike hZ.alike Arr101_78.2.1) rfl Arr101_78.2.2 hinr101_78 hatr101_78 (g := (mkF m 101 #[.val (.int x0), .val (.ref ba2_1), .val (.int (10 : Int32)), .unset, .unset, .unset, .unset] [(.int (10 : Int32)), (.ref ba2_1)])) rfl rfl (hb hby at_101)) ?_
    show RunsW p e below s _ _ _ (Tw89_27.setTop (mkF m 102 #[.val (.int x0), .val (.ref ba2_1), .val (.int (10 : Int32)), .unset, .unset, .unset, .unset] [(.ref y10)]))
    refine RunsW.go (fun _ => XS.astoreN Xw89_27.here hx rfl (hb hby at_102) rfl rfl (l' := #[.val (.int x0), .val (.ref ba2_1), .val (.int (10 : Int32)), .val (.ref y10), .unset, .unset, .unset]) rfl) ?_
    show RunsW p e below s _ _ _ (Tw89_27.setTop (mkF m 103 #[.val (.int x0), .val (.ref ba2_1), .val (.int (10 : Int32)), .val (.ref y10), .unset, .unset, .unset] []))
    refine RunsW.go (fun _ => XS.iloadN Xw89_27.here hx rfl (hb hby at_103) rfl) ?_
    show RunsW p e below s _ _ _ (Tw89_27.setTop (mkF m 104 #[.val (.int x0), .val (.ref ba2_1), .val (.int (10 : Int32)), .val (.ref y10), .unset, .unset, .unset] [(.int (10 : Int32))]))
    refine RunsW.go (fun _ => XS.iconst Xw89_27.here hx rfl (hb hby at_104)) ?_
    show RunsW p e below s _ _ _ (Tw89_27.setTop (mkF m 105 #[.val (.int x0), .val (.ref ba2_1), .val (.int (10 : Int32)), .val (.ref y10), .unset, .unset, .unset] [(.int (1 : Int32)), (.int (10 : Int32))]))
    refine RunsW.go (fun _ => XS.icmpNo Xw89_27.here hx rfl (hb hby at_105) rfl (flt ((by decide) : ¬ ((10 : Int32) < (1 : Int32)))).1) ?_
    show RunsW p e below s _ _ _ (Tw89_27.setTop (mkF m 108 #[.val (.int x0), .val (.ref ba2_1), .val (.int (10 : Int32)), .val (.ref y10), .unset, .unset, .unset] []))
    refine RunsW.go (fun _ => XS.iloadN Xw89_27.here hx rfl (hb hby at_108) rfl) ?_
    show RunsW p e below s _ _ _ (Tw89_27.setTop (mkF m 109 #[.val (.int x0), .val (.ref ba2_1), .val (.int (10 : Int32)), .val (.ref y10), .unset, .unset, .unset] [(.int (10 : Int32))]))
    refine RunsW.go (fun _ => XS.iconst Xw89_27.here hx rfl (hb hby at_109)) ?_
    show RunsW p e below s _ _ _ (Tw89_27.setTop (mkF m 110 #[.val (.int x0), .val (.ref ba2_1), .val (.int (10 : Int32)), .val (.ref y10), .unset, .unset, .unset] [(.int (3 : Int32)), (.int (10 : Int32))]))
    refine RunsW.go (fun _ => XS.icmpYes Xw89_27.here hx rfl (pc0 := 110) (pc' := 117) rfl (hb hby at_110) rfl (tlt ((by decide) : (3 : Int32) < (10 : Int32))).2.2.1 (by decide) (by decide)) ?_
    show RunsW p e below s _ _ _ (Tw89_27.setTop (mkF m 117 #[.val (.int x0), .val (.ref ba2_1), .val (.int (10 : Int32)), .val (.ref y10), .unset, .unset, .unset] []))
    refine RunsW.go (fun _ => XS.iconst Xw89_27.here hx rfl (hb hby at_117)) ?_
    show RunsW p e below s _ _ _ (Tw89_27.setTop (mkF m 118 #[.val (.int x0), .val (.ref ba2_1), .val (.int (10 : Int32)), .val (.ref y10), .unset, .unset, .unset] [(.int (0 : Int32))]))
    refine RunsW.go (fun _ => XS.istore Xw89_27.here hx rfl (hb hby at_118) rfl (l' := #[.val (.int x0), .val (.ref ba2_1), .val (.int (10 : Int32)), .val (.ref y10), .val (.int (0 : Int32)), .unset, .unset]) rfl) ?_
    show RunsW p e below s _ _ _ (Tw89_27.setTop (mkF m 120 #[.val (.int x0), .val (.ref ba2_1), .val (.int (10 : Int32)), .val (.ref y10), .val (.int (0 : Int32)), .unset, .unset] []))
    refine RunsW.go (fun _ => XS.aloadN Xw89_27.here hx rfl (hb hby at_120) rfl rfl) ?_
    show RunsW p e below s _ _ _ (Tw89_27.setTop (mkF m 121 #[.val (.int x0), .val (.ref ba2_1), .val (.int (10 : Int32)), .val (.ref y10), .val (.int (0 : Int32)), .unset, .unset] [(.ref y10)]))
    obtain ⟨cqc121_79, kqc121_79, qc121_79a, qc121_79b, qc121_79c⟩ := isOf hZ ew89_27 (E10.ext Kw89_27)
    obtain ⟨_, _, ⟨Tc121_79, Lc121_79, kc121_79, nc121_79⟩, -, Xc121_79, ⟨Lcc121_79, hQc121_79, lc121_79, yc121_79, zc121_79⟩, stc121_79⟩ := Xw89_27.virtualBack hx (y := (⟨"com/example/replay/replay/api/EventType", "isActivityEvent", "()Z"⟩ : MethodName)) (z := (⟨"com/example/replay/replay/api/EventType", "isActivityEvent", "()Z"⟩ : MethodName)) hown (mvT hZ (hw _ (List.mem_of_getElem? (i := 31) rfl))) (mvT hZ (hw _ (List.mem_of_getElem? (i := 32) rfl))) (notFace_of_selects (args := #[]) (mvT hZ (hw _ (List.mem_of_getElem? (i := 34) rfl)))) (mvT hZ (hw _ (List.mem_of_getElem? (i := 34) rfl))) (mvT hZ (hw _ (List.mem_of_getElem? (i := 33) rfl))) (by decide) (backOf (W := 0) (rm1c l Z a0 hw [] y10 y1 y2 y3 hw89_27 Z.heap.size hnw89_27 (E10.ext Kw89_27) (S1.ext Kw89_27) (S2.ext Kw89_27) (S3.ext Kw89_27) (Fld.ne O10 O1 (by decide)) (Fld.ne O10 O2 (by decide)) (Fld.ne O10 O3 (by decide))) hZ (hw _ (List.mem_of_getElem? (i := 35) rfl)) (hw _ (List.mem_of_getElem? (i := 3) rfl)) (by decide) (by decide)) qc121_79a qc121_79c (g := (mkF m 121 #[.val (.int x0), .val (.ref ba2_1), .val (.int (10 : Int32)), .val (.ref y10), .val (.int (0 : Int32)), .unset, .unset] [(.ref y10)])) rfl (by rw [hml]; rfl) (Steps.refl _) (argsL := []) (rest := []) (lenOf pd_0 rfl) rfl (by show 2 * 0 + _ ≤ _; exact Nat.le_of_eq rfl) (hb hby at_121) (fun _ _ => ⟨rfl, ew89_27, (by decide : 1 + 0 ≤ _), (by decide : 13 + 0 ≤ _)⟩)
    dsimp only [Pt.U, Pt.locs, Pt.cells, Pt.slots] at Xc121_79 lc121_79 yc121_79 zc121_79 stc121_79 hQc121_79
    subst lc121_79 yc121_79 zc121_79
    obtain ⟨rfl, rfl, ec121_79⟩ := hQc121_79
    refine RunsW.go (fun _ => stc121_79.trans) ?_
    have Nc121_79 := Fr.app Nw89_27 (Fr.nil Z.heap.size)
    show RunsW p e below s _ _ _ (Tc121_79.setTop (mkF m 124 #[.val (.int x0), .val (.ref ba2_1), .val (.int (10 : Int32)), .val (.ref y10), .val (.int (0 : Int32)), .unset, .unset] [(.int (0 : Int32))]))
    refine RunsW.go (fun _ => XS.istore Xc121_79.here hx rfl (hb hby at_124) rfl (l' := #[.val (.int x0), .val (.ref ba2_1), .val (.int (10 : Int32)), .val (.ref y10), .val (.int (0 : Int32)), .val (.int (0 : Int32)), .unset]) rfl) ?_
    show RunsW p e below s _ _ _ (Tc121_79.setTop (mkF m 126 #[.val (.int x0), .val (.ref ba2_1), .val (.int (10 : Int32)), .val (.ref y10), .val (.int (0 : Int32)), .val (.int (0 : Int32)), .unset] []))
    obtain ⟨bs126_80, Ts126_80, hs126_80, k1s126_80, ds126_80, kks126_80, Xs126_80, es126_80, Es126_80, hSs126_80, hks126_80, hZ, hown, Exs126_80, Fcs126_80, Fvs126_80, Vs126_80, -, -, -, sts126_80⟩ := ldcSV (s := s) (vm0 := s.vm) Xc121_79 hx hZ hown (hw _ (List.mem_of_getElem? (i := 44) rfl)) wS ec121_79 (own_since s) (by rw [hh]; exact Kw89_27.1) (by rw [hh]; exact Nc121_79) hkeep I0 (fun q => nomatch q) hheld hcw (vs := own_act.map Value.int) (z := 8) ⟨by decide, by decide +kernel⟩ (by decide) rfl (g := (mkF m 126 #[.val (.int x0), .val (.ref ba2_1), .val (.int (10 : Int32)), .val (.ref y10), .val (.int (0 : Int32)), .val (.int (0 : Int32)), .unset] [])) rfl (hb hby at_126) (n := 32) (by decide) (by decide) (by decide) (by decide)
    refine RunsW.go sts126_80 ?_
    have Ks126_80 : Ext Z.heap hs126_80 := own_extt Kw89_27 Es126_80
    have hns126_80 : Z.heap.size ≤ hs126_80.size := Nat.le_trans hnw89_27 Es126_80.1
    show RunsW p e below s _ _ _ (Ts126_80.setTop (mkF m 128 #[.val (.int x0), .val (.ref ba2_1), .val (.int (10 : Int32)), .val (.ref y10), .val (.int (0 : Int32)), .val (.int (0 : Int32)), .unset] [(.ref bs126_80)]))
    refine RunsW.go (fun _ => XS.aloadN Xs126_80.here hx rfl (hb hby at_128) rfl rfl) ?_
    show RunsW p e below s _ _ _ (Ts126_80.setTop (mkF m 129 #[.val (.int x0), .val (.ref ba2_1), .val (.int (10 : Int32)), .val (.ref y10), .val (.int (0 : Int32)), .val (.int (0 : Int32)), .unset] [(.ref y10), (.ref bs126_80)]))
    obtain ⟨cqc129_81, kqc129_81, qc129_81a, qc129_81b, qc129_81c⟩ := isOf hZ es126_80 (E10.ext Ks126_80)
    obtain ⟨_, _, ⟨Tc129_81, Lc129_81, kc129_81, nc129_81⟩, -, Xc129_81, ⟨Lcc129_81, hQc129_81, lc129_81, yc129_81, zc129_81⟩, stc129_81⟩ := Xs126_80.virtualBack hx (y := (⟨"com/example/replay/replay/api/EventType", "subject", "()Ljava/lang/String;"⟩ : MethodName)) (z := (⟨"com/example/replay/replay/api/EventType", "subject", "()Ljava/lang/String;"⟩ : MethodName)) hown (mvT hZ (hw _ (List.mem_of_getElem? (i := 52) rfl))) (mvT hZ (hw _ (List.mem_of_getElem? (i := 53) rfl))) (notFace_of_selects (args := #[]) (mvT hZ (hw _ (List.mem_of_getElem? (i := 55) rfl)))) (mvT hZ (hw _ (List.mem_of_getElem? (i := 55) rfl))) (mvT hZ (hw _ (List.mem_of_getElem? (i := 54) rfl))) (by decide) (backOf (W := 1) (rm3 l Z a0 hw [] y10 (.ref sS) hs126_80 Z.heap.size hns126_80 (F10.ext Ks126_80) rfl) hZ (hw _ (List.mem_of_getElem? (i := 56) rfl)) (hw _ (List.mem_of_getElem? (i := 3) rfl)) (by decide) (by decide)) qc129_81a qc129_81c (g := (mkF m 129 #[.val (.int x0), .val (.ref ba2_1), .val (.int (10 : Int32)), .val (.ref y10), .val (.int (0 : Int32)), .val (.int (0 : Int32)), .unset] [(.ref y10), (.ref bs126_80)])) rfl (by rw [hml]; rfl) (Steps.refl _) (argsL := []) (rest := [(.ref bs126_80)]) (lenOf pd_1 rfl) rfl (by show 2 * 0 + _ ≤ _; exact Nat.le_of_eq rfl) (hb hby at_129) (fun _ _ => ⟨rfl, es126_80, (by decide : 3 + 0 ≤ _), (by decide : 49 + 0 ≤ _)⟩)
    dsimp only [Pt.U, Pt.locs, Pt.cells, Pt.slots] at Xc129_81 lc129_81 yc129_81 zc129_81 stc129_81 hQc129_81
    subst lc129_81 yc129_81 zc129_81
    obtain ⟨rfl, rfl, ec129_81⟩ := hQc129_81
    refine RunsW.go (fun _ => stc129_81.trans) ?_
    have Nc129_81 := Fr.app Nc121_79 (Fr.nil Z.heap.size)
    show RunsW p e below s _ _ _ (Tc129_81.setTop (mkF m 132 #[.val (.int x0), .val (.ref ba2_1), .val (.int (10 : Int32)), .val (.ref y10), .val (.int (0 : Int32)), .val (.int (0 : Int32)), .unset] [(.ref sS), (.ref bs126_80)]))
    obtain ⟨cqc132_82, kqc132_82, qc132_82a, qc132_82b, qc132_82c⟩ := isOf hZ ec129_81 Exs126_80
    obtain ⟨_, _, ⟨Tc132_82, Lc132_82, kc132_82, nc132_82⟩, -, Xc132_82, ⟨Lcc132_82, hQc132_82, lc132_82, yc132_82, zc132_82⟩, stc132_82⟩ := Xc129_81.virtualBack hx (y := (⟨"java/lang/String", "equals", "(Ljava/lang/Object;)Z"⟩ : MethodName)) (z := (⟨"java/lang/String", "equals", "(Ljava/lang/Object;)Z"⟩ : MethodName)) hown (mvT hZ (hw _ (List.mem_of_getElem? (i := 59) rfl))) (mvT hZ (hw _ (List.mem_of_getElem? (i := 60) rfl))) (notFace_of_selects (args := #[]) (mvT hZ (hw _ (List.mem_of_getElem? (i := 62) rfl)))) (mvT hZ (hw _ (List.mem_of_getElem? (i := 62) rfl))) (mvT hZ (hw _ (List.mem_of_getElem? (i := 61) rfl))) (by decide) (backOf (W := 0) (rm4d l Z a0 hw [] bs126_80 sS hs126_80 (Exs126_80) (Fcs126_80) (Fvs126_80) (Vs126_80) (AS1.ext Ks126_80) (AS2.ext Ks126_80) (AS3.ext Ks126_80) (AS4.ext Ks126_80) (AC.ext Ks126_80) hzc (by decide)) hZ (hw _ (List.mem_of_getElem? (i := 63) rfl)) (hw _ (List.mem_of_getElem? (i := 45) rfl)) (by decide) (by decide)) qc132_82a qc132_82c (g := (mkF m 132 #[.val (.int x0), .val (.ref ba2_1), .val (.int (10 : Int32)), .val (.ref y10), .val (.int (0 : Int32)), .val (.int (0 : Int32)), .unset] [(.ref sS), (.ref bs126_80)])) rfl (by rw [hml]; rfl) (Steps.refl _) (argsL := [(.ref sS)]) (rest := []) (lenOf pd_2 rfl) rfl (by show 2 * 0 + _ ≤ _; exact Nat.le_of_eq rfl) (hb hby at_132) (fun _ _ => ⟨rfl, ec129_81, (by decide : 3 + 0 ≤ _), (by decide : 49 + 0 ≤ _)⟩)
    dsimp only [Pt.U, Pt.locs, Pt.cells, Pt.slots] at Xc132_82 lc132_82 yc132_82 zc132_82 stc132_82 hQc132_82
    subst lc132_82 yc132_82 zc132_82
    obtain ⟨rfl, rfl, ec132_82⟩ := hQc132_82
    refine RunsW.go (fun _ => stc132_82.trans) ?_
    have Nc132_82 := Fr.app Nc129_81 (Fr.nil Z.heap.size)
    show RunsW p e below s _ _ _ (Tc132_82.setTop (mkF m 135 #[.val (.int x0), .val (.ref ba2_1), .val (.int (10 : Int32)), .val (.ref y10), .val (.int (0 : Int32)), .val (.int (0 : Int32)), .unset] [(.int (0 : Int32))]))
    refine RunsW.go (fun _ => XS.istore Xc132_82.here hx rfl (hb hby at_135) rfl (l' := #[.val (.int x0), .val (.ref ba2_1), .val (.int (10 : Int32)), .val (.ref y10), .val (.int (0 : Int32)), .val (.int (0 : Int32)), .val (.int (0 : Int32))]) rfl) ?_
    show RunsW p e below s _ _ _ (Tc132_82.setTop (mkF m 137 #[.val (.int x0), .val (.ref ba2_1), .val (.int (10 : Int32)), .val (.ref y10), .val (.int (0 : Int32)), .val (.int (0 : Int32)), .val (.int (0 : Int32))] []))
    refine RunsW.go (fun _ => XS.iload Xc132_82.here hx rfl (hb hby at_137) rfl) ?_
    show RunsW p e below s _ _ _ (Tc132_82.setTop (mkF m 139 #[.val (.int x0), .val (.ref ba2_1), .val (.int (10 : Int32)), .val (.ref y10), .val (.int (0 : Int32)), .val (.int (0 : Int32)), .val (.int (0 : Int32))] [(.int (0 : Int32))]))
    refine RunsW.go (fun _ => XS.iload Xc132_82.here hx rfl (hb hby at_139) rfl) ?_
    show RunsW p e below s _ _ _ (Tc132_82.setTop (mkF m 141 #[.val (.int x0), .val (.ref ba2_1), .val (.int (10 : Int32)), .val (.ref y10), .val (.int (0 : Int32)), .val (.int (0 : Int32)), .val (.int (0 : Int32))] [(.int (0 : Int32)), (.int (0 : Int32))]))
    refine RunsW.go (fun _ => XS.icmpNo Xc132_82.here hx rfl (hb hby at_141) rfl (teq (rfl : (0 : Int32) = (0 : Int32))).2) ?_
    show RunsW p e below s _ _ _ (Tc132_82.setTop (mkF m 144 #[.val (.int x0), .val (.ref ba2_1), .val (.int (10 : Int32)), .val (.ref y10), .val (.int (0 : Int32)), .val (.int (0 : Int32)), .val (.int (0 : Int32))] []))
    refine RunsW.go (fun _ => XS.iload Xc132_82.here hx rfl (hb hby at_144) rfl) ?_
    show RunsW p e below s _ _ _ (Tc132_82.setTop (mkF m 146 #[.val (.int x0), .val (.ref ba2_1), .val (.int (10 : Int32)), .val (.ref y10), .val (.int (0 : Int32)), .val (.int (0 : Int32)), .val (.int (0 : Int32))] [(.int (0 : Int32))]))
    refine RunsW.go (fun _ => XS.iload Xc132_82.here hx rfl (hb hby at_146) rfl) ?_
    show RunsW p e below s _ _ _ (Tc132_82.setTop (mkF m 148 #[.val (.int x0), .val (.ref ba2_1), .val (.int (10 : Int32)), .val (.ref y10), .val (.int (0 : Int32)), .val (.int (0 : Int32)), .val (.int (0 : Int32))] [(.int (0 : Int32)), (.int (0 : Int32))]))
    refine RunsW.go (fun _ => XS.icmpNo Xc132_82.here hx rfl (hb hby at_148) rfl (teq (rfl : (0 : Int32) = (0 : Int32))).2) ?_
    show RunsW p e below s _ _ _ (Tc132_82.setTop (mkF m 151 #[.val (.int x0), .val (.ref ba2_1), .val (.int (10 : Int32)), .val (.ref y10), .val (.int (0 : Int32)), .val (.int (0 : Int32)), .val (.int (0 : Int32))] []))
    refine RunsW.go (fun _ => XS.iconst Xc132_82.here hx rfl (hb hby at_151)) ?_
    show RunsW p e below s _ _ _ (Tc132_82.setTop (mkF m 152 #[.val (.int x0), .val (.ref ba2_1), .val (.int (10 : Int32)), .val (.ref y10), .val (.int (0 : Int32)), .val (.int (0 : Int32)), .val (.int (0 : Int32))] [(.int (1 : Int32))]))
    refine RunsW.go (fun _ => XS.goto Xc132_82.here hx rfl (pc0 := 152) (pc' := 156) rfl (hb hby at_152) (by decide) (by decide)) ?_
    show RunsW p e below s _ _ _ (Tc132_82.setTop (mkF m 156 #[.val (.int x0), .val (.ref ba2_1), .val (.int (10 : Int32)), .val (.ref y10), .val (.int (0 : Int32)), .val (.int (0 : Int32)), .val (.int (0 : Int32))] [(.int (1 : Int32))]))
    exact RunsW.endN Xc132_82 hSs126_80 (by rw [ec132_82]; exact hks126_80) hx (t := .boolean) Bd.returns (by simp) Bd.notSynchronized (hb hby at_156) ⟨rfl, Nc132_82⟩ (by decide) (by decide)
  · rw [q]
    show RunsW p e below s _ _ _ (Tw89_27.setTop (mkF m 98 #[.val (.int x0), .val (.ref ba2_1), .unset, .unset, .unset, .unset, .unset] [(.int (11 : Int32))]))
    refine RunsW.go (fun _ => XS.istoreN Xw89_27.here hx rfl (hb hby at_98) rfl (l' := #[.val (.int x0), .val (.ref ba2_1), .val (.int (11 : Int32)), .unset, .unset, .unset, .unset]) rfl) ?_
    show RunsW p e below s _ _ _ (Tw89_27.setTop (mkF m 99 #[.val (.int x0), .val (.ref ba2_1), .val (.int (11 : Int32)), .unset, .unset, .unset, .unset] []))
    refine RunsW.go (fun _ => XS.aloadN Xw89_27.here hx rfl (hb hby at_99) rfl rfl) ?_
    show RunsW p e below s _ _ _ (Tw89_27.setTop (mkF m 100 #[.val (.int x0), .val (.ref ba2_1), .val (.int (11 : Int32)), .unset, .unset, .unset, .unset] [(.ref ba2_1)]))
    refine RunsW.go (fun _ => XS.iloadN Xw89_27.here hx rfl (hb hby at_100) rfl) ?_
    show RunsW p e below s _ _ _ (Tw89_27.setTop (mkF m 101 #[.val (.int x0), .val (.ref ba2_1), .val (.int (11 : Int32)), .unset, .unset, .unset, .unset] [(.int (11 : Int32)), (.ref ba2_1)]))
    have VCr101_83 := Vw89_27
    obtain ⟨clr101_83, Arr101_83, -, Sr101_83, Mr101_83, Hr101_83, -⟩ := VCr101_83
    have hinr101_83 : ¬ ((11 : Int32) < 0 ∨ clr101_83.slots.size ≤ ((11 : Int32)).toNatClampNeg) := inb_of Sr101_83 ⟨by decide, by decide⟩
    have hatr101_83 : clr101_83.slots[((11 : Int32)).toNatClampNeg]? = some (.ref y11) := Has.at Hr101_83 hinr101_83 rfl
    refine RunsW.go (Xw89_27.aaload hx (j := (11 : Int32)) (v := (.ref y11)) (by rw [ew89_27]; exact Arr101_83.1) (State.isArrayOf_alike hZ.alike Arr101_83.2.1) rfl Arr101_83.2.2 hinr101_83 hatr101_83 (g := (mkF m 101 #[.val (.int x0), .val (.ref ba2_1), .val (.int (11 : Int32)), .unset, .unset, .unset, .unset] [(.int (11 : Int32)), (.ref ba2_1)])) rfl rfl (hb hby at_101)) ?_
    show RunsW p e below s _ _ _ (Tw89_27.setTop (mkF m 102 #[.val (.int x0), .val (.ref ba2_1), .val (.int (11 : Int32)), .unset, .unset, .unset, .unset] [(.ref y11)]))
    refine RunsW.go (fun _ => XS.astoreN Xw89_27.here hx rfl (hb hby at_102) rfl rfl (l' := #[.val (.int x0), .val (.ref ba2_1), .val (.int (11 : Int32)), .val (.ref y11), .unset, .unset, .unset]) rfl) ?_
    show RunsW p e below s _ _ _ (Tw89_27.setTop (mkF m 103 #[.val (.int x0), .val (.ref ba2_1), .val (.int (11 : Int32)), .val (.ref y11), .unset, .unset, .unset] []))
    refine RunsW.go (fun _ => XS.iloadN Xw89_27.here hx rfl (hb hby at_103) rfl) ?_
    show RunsW p e below s _ _ _ (Tw89_27.setTop (mkF m 104 #[.val (.int x0), .val (.ref ba2_1), .val (.int (11 : Int32)), .val (.ref y11), .unset, .unset, .unset] [(.int (11 : Int32))]))
    refine RunsW.go (fun _ => XS.iconst Xw89_27.here hx rfl (hb hby at_104)) ?_
    show RunsW p e below s _ _ _ (Tw89_27.setTop (mkF m 105 #[.val (.int x0), .val (.ref ba2_1), .val (.int (11 : Int32)), .val (.ref y11), .unset, .unset, .unset] [(.int (1 : Int32)), (.int (11 : Int32))]))
    refine RunsW.go (fun _ => XS.icmpNo Xw89_27.here hx rfl (hb hby at_105) rfl (flt ((by decide) : ¬ ((11 : Int32) < (1 : Int32)))).1) ?_
    show RunsW p e below s _ _ _ (Tw89_27.setTop (mkF m 108 #[.val (.int x0), .val (.ref ba2_1), .val (.int (11 : Int32)), .val (.ref y11), .unset, .unset, .unset] []))
    refine RunsW.go (fun _ => XS.iloadN Xw89_27.here hx rfl (hb hby at_108) rfl) ?_
    show RunsW p e below s _ _ _ (Tw89_27.setTop (mkF m 109 #[.val (.int x0), .val (.ref ba2_1), .val (.int (11 : Int32)), .val (.ref y11), .unset, .unset, .unset] [(.int (11 : Int32))]))
    refine RunsW.go (fun _ => XS.iconst Xw89_27.here hx rfl (hb hby at_109)) ?_
    show RunsW p e below s _ _ _ (Tw89_27.setTop (mkF m 110 #[.val (.int x0), .val (.ref ba2_1), .val (.int (11 : Int32)), .val (.ref y11), .unset, .unset, .unset] [(.int (3 : Int32)), (.int (11 : Int32))]))
    refine RunsW.go (fun _ => XS.icmpYes Xw89_27.here hx rfl (pc0 := 110) (pc' := 117) rfl (hb hby at_110) rfl (tlt ((by decide) : (3 : Int32) < (11 : Int32))).2.2.1 (by decide) (by decide)) ?_
    show RunsW p e below s _ _ _ (Tw89_27.setTop (mkF m 117 #[.val (.int x0), .val (.ref ba2_1), .val (.int (11 : Int32)), .val (.ref y11), .unset, .unset, .unset] []))
    refine RunsW.go (fun _ => XS.iconst Xw89_27.here hx rfl (hb hby at_117)) ?_
    show RunsW p e below s _ _ _ (Tw89_27.setTop (mkF m 118 #[.val (.int x0), .val (.ref ba2_1), .val (.int (11 : Int32)), .val (.ref y11), .unset, .unset, .unset] [(.int (0 : Int32))]))
    refine RunsW.go (fun _ => XS.istore Xw89_27.here hx rfl (hb hby at_118) rfl (l' := #[.val (.int x0), .val (.ref ba2_1), .val (.int (11 : Int32)), .val (.ref y11), .val (.int (0 : Int32)), .unset, .unset]) rfl) ?_
    show RunsW p e below s _ _ _ (Tw89_27.setTop (mkF m 120 #[.val (.int x0), .val (.ref ba2_1), .val (.int (11 : Int32)), .val (.ref y11), .val (.int (0 : Int32)), .unset, .unset] []))
    refine RunsW.go (fun _ => XS.aloadN Xw89_27.here hx rfl (hb hby at_120) rfl rfl) ?_
    show RunsW p e below s _ _ _ (Tw89_27.setTop (mkF m 121 #[.val (.int x0), .val (.ref ba2_1), .val (.int (11 : Int32)), .val (.ref y11), .val (.int (0 : Int32)), .unset, .unset] [(.ref y11)]))
    obtain ⟨cqc121_84, kqc121_84, qc121_84a, qc121_84b, qc121_84c⟩ := isOf hZ ew89_27 (E11.ext Kw89_27)
    obtain ⟨_, _, ⟨Tc121_84, Lc121_84, kc121_84, nc121_84⟩, -, Xc121_84, ⟨Lcc121_84, hQc121_84, lc121_84, yc121_84, zc121_84⟩, stc121_84⟩ := Xw89_27.virtualBack hx (y := (⟨"com/example/replay/replay/api/EventType", "isActivityEvent", "()Z"⟩ : MethodName)) (z := (⟨"com/example/replay/replay/api/EventType", "isActivityEvent", "()Z"⟩ : MethodName)) hown (mvT hZ (hw _ (List.mem_of_getElem? (i := 31) rfl))) (mvT hZ (hw _ (List.mem_of_getElem? (i := 32) rfl))) (notFace_of_selects (args := #[]) (mvT hZ (hw _ (List.mem_of_getElem? (i := 34) rfl)))) (mvT hZ (hw _ (List.mem_of_getElem? (i := 34) rfl))) (mvT hZ (hw _ (List.mem_of_getElem? (i := 33) rfl))) (by decide) (backOf (W := 0) (rm1c l Z a0 hw [] y11 y1 y2 y3 hw89_27 Z.heap.size hnw89_27 (E11.ext Kw89_27) (S1.ext Kw89_27) (S2.ext Kw89_27) (S3.ext Kw89_27) (Fld.ne O11 O1 (by decide)) (Fld.ne O11 O2 (by decide)) (Fld.ne O11 O3 (by decide))) hZ (hw _ (List.mem_of_getElem? (i := 35) rfl)) (hw _ (List.mem_of_getElem? (i := 3) rfl)) (by decide) (by decide)) qc121_84a qc121_84c (g := (mkF m 121 #[.val (.int x0), .val (.ref ba2_1), .val (.int (11 : Int32)), .val (.ref y11), .val (.int (0 : Int32)), .unset, .unset] [(.ref y11)])) rfl (by rw [hml]; rfl) (Steps.refl _) (argsL := []) (rest := []) (lenOf pd_0 rfl) rfl (by show 2 * 0 + _ ≤ _; exact Nat.le_of_eq rfl) (hb hby at_121) (fun _ _ => ⟨rfl, ew89_27, (by decide : 1 + 0 ≤ _), (by decide : 13 + 0 ≤ _)⟩)
    dsimp only [Pt.U, Pt.locs, Pt.cells, Pt.slots] at Xc121_84 lc121_84 yc121_84 zc121_84 stc121_84 hQc121_84
    subst lc121_84 yc121_84 zc121_84
    obtain ⟨rfl, rfl, ec121_84⟩ := hQc121_84
    refine RunsW.go (fun _ => stc121_84.trans) ?_
    have Nc121_84 := Fr.app Nw89_27 (Fr.nil Z.heap.size)
    show RunsW p e below s _ _ _ (Tc121_84.setTop (mkF m 124 #[.val (.int x0), .val (.ref ba2_1), .val (.int (11 : Int32)), .val (.ref y11), .val (.int (0 : Int32)), .unset, .unset] [(.int (0 : Int32))]))
    refine RunsW.go (fun _ => XS.istore Xc121_84.here hx rfl (hb hby at_124) rfl (l' := #[.val (.int x0), .val (.ref ba2_1), .val (.int (11 : Int32)), .val (.ref y11), .val (.int (0 : Int32)), .val (.int (0 : Int32)), .unset]) rfl) ?_
    show RunsW p e below s _ _ _ (Tc121_84.setTop (mkF m 126 #[.val (.int x0), .val (.ref ba2_1), .val (.int (11 : Int32)), .val (.ref y11), .val (.int (0 : Int32)), .val (.int (0 : Int32)), .unset] []))
    obtain ⟨bs126_85, Ts126_85, hs126_85, k1s126_85, ds126_85, kks126_85, Xs126_85, es126_85, Es126_85, hSs126_85, hks126_85, hZ, hown, Exs126_85, Fcs126_85, Fvs126_85, Vs126_85, -, -, -, sts126_85⟩ := ldcSV (s := s) (vm0 := s.vm) Xc121_84 hx hZ hown (hw _ (List.mem_of_getElem? (i := 44) rfl)) wS ec121_84 (own_since s) (by rw [hh]; exact Kw89_27.1) (by rw [hh]; exact Nc121_84) hkeep I0 (fun q => nomatch q) hheld hcw (vs := own_act.map Value.int) (z := 8) ⟨by decide, by decide +kernel⟩ (by decide) rfl (g := (mkF m 126 #[.val (.int x0), .val (.ref ba2_1), .val (.int (11 : Int32)), .val (.ref y11), .val (.int (0 : Int32)), .val (.int (0 : Int32)), .unset] [])) rfl (hb hby at_126) (n := 32) (by decide) (by decide) (by decide) (by decide)
    refine RunsW.go sts126_85 ?_
    have Ks126_85 : Ext Z.heap hs126_85 := own_extt Kw89_27 Es126_85
    have hns126_85 : Z.heap.size ≤ hs126_85.size := Nat.le_trans hnw89_27 Es126_85.1
    show RunsW p e below s _ _ _ (Ts126_85.setTop (mkF m 128 #[.val (.int x0), .val (.ref ba2_1), .val (.int (11 : Int32)), .val (.ref y11), .val (.int (0 : Int32)), .val (.int (0 : Int32)), .unset] [(.ref bs126_85)]))
    refine RunsW.go (fun _ => XS.aloadN Xs126_85.here hx rfl (hb hby at_128) rfl rfl) ?_
    show RunsW p e below s _ _ _ (Ts126_85.setTop (mkF m 129 #[.val (.int x0), .val (.ref ba2_1), .val (.int (11 : Int32)), .val (.ref y11), .val (.int (0 : Int32)), .val (.int (0 : Int32)), .unset] [(.ref y11), (.ref bs126_85)]))
    obtain ⟨cqc129_86, kqc129_86, qc129_86a, qc129_86b, qc129_86c⟩ := isOf hZ es126_85 (E11.ext Ks126_85)
    obtain ⟨_, _, ⟨Tc129_86, Lc129_86, kc129_86, nc129_86⟩, -, Xc129_86, ⟨Lcc129_86, hQc129_86, lc129_86, yc129_86, zc129_86⟩, stc129_86⟩ := Xs126_85.virtualBack hx (y := (⟨"com/example/replay/replay/api/EventType", "subject", "()Ljava/lang/String;"⟩ : MethodName)) (z := (⟨"com/example/replay/replay/api/EventType", "subject", "()Ljava/lang/String;"⟩ : MethodName)) hown (mvT hZ (hw _ (List.mem_of_getElem? (i := 52) rfl))) (mvT hZ (hw _ (List.mem_of_getElem? (i := 53) rfl))) (notFace_of_selects (args := #[]) (mvT hZ (hw _ (List.mem_of_getElem? (i := 55) rfl)))) (mvT hZ (hw _ (List.mem_of_getElem? (i := 55) rfl))) (mvT hZ (hw _ (List.mem_of_getElem? (i := 54) rfl))) (by decide) (backOf (W := 1) (rm3 l Z a0 hw [] y11 .null hs126_85 Z.heap.size hns126_85 (F11.ext Ks126_85) rfl) hZ (hw _ (List.mem_of_getElem? (i := 56) rfl)) (hw _ (List.mem_of_getElem? (i := 3) rfl)) (by decide) (by decide)) qc129_86a qc129_86c (g := (mkF m 129 #[.val (.int x0), .val (.ref ba2_1), .val (.int (11 : Int32)), .val (.ref y11), .val (.int (0 : Int32)), .val (.int (0 : Int32)), .unset] [(.ref y11), (.ref bs126_85)])) rfl (by rw [hml]; rfl) (Steps.refl _) (argsL := []) (rest := [(.ref bs126_85)]) (lenOf pd_1 rfl) rfl (by show 2 * 0 + _ ≤ _; exact Nat.le_of_eq rfl) (hb hby at_129) (fun _ _ => ⟨rfl, es126_85, (by decide : 3 + 0 ≤ _), (by decide : 49 + 0 ≤ _)⟩)
    dsimp only [Pt.U, Pt.locs, Pt.cells, Pt.slots] at Xc129_86 lc129_86 yc129_86 zc129_86 stc129_86 hQc129_86
    subst lc129_86 yc129_86 zc129_86
    obtain ⟨rfl, rfl, ec129_86⟩ := hQc129_86
    refine RunsW.go (fun _ => stc129_86.trans) ?_
    have Nc129_86 := Fr.app Nc121_84 (Fr.nil Z.heap.size)
    show RunsW p e below s _ _ _ (Tc129_86.setTop (mkF m 132 #[.val (.int x0), .val (.ref ba2_1), .val (.int (11 : Int32)), .val (.ref y11), .val (.int (0 : Int32)), .val (.int (0 : Int32)), .unset] [.null, (.ref bs126_85)]))
    obtain ⟨cqc132_87, kqc132_87, qc132_87a, qc132_87b, qc132_87c⟩ := isOf hZ ec129_86 Exs126_85
    obtain ⟨_, _, ⟨Tc132_87, Lc132_87, kc132_87, nc132_87⟩, -, Xc132_87, ⟨Lcc132_87, hQc132_87, lc132_87, yc132_87, zc132_87⟩, stc132_87⟩ := Xc129_86.virtualBack hx (y := (⟨"java/lang/String", "equals", "(Ljava/lang/Object;)Z"⟩ : MethodName)) (z := (⟨"java/lang/String", "equals", "(Ljava/lang/Object;)Z"⟩ : MethodName)) hown (mvT hZ (hw _ (List.mem_of_getElem? (i := 59) rfl))) (mvT hZ (hw _ (List.mem_of_getElem? (i := 60) rfl))) (notFace_of_selects (args := #[]) (mvT hZ (hw _ (List.mem_of_getElem? (i := 62) rfl)))) (mvT hZ (hw _ (List.mem_of_getElem? (i := 62) rfl))) (mvT hZ (hw _ (List.mem_of_getElem? (i := 61) rfl))) (by decide) (backOf (W := 0) (rm4n l Z a0 hw [] bs126_85 hs126_85) hZ (hw _ (List.mem_of_getElem? (i := 63) rfl)) (hw _ (List.mem_of_getElem? (i := 45) rfl)) (by decide) (by decide)) qc132_87a qc132_87c (g := (mkF m 132 #[.val (.int x0), .val (.ref ba2_1), .val (.int (11 : Int32)), .val (.ref y11), .val (.int (0 : Int32)), .val (.int (0 : Int32)), .unset] [.null, (.ref bs126_85)])) rfl (by rw [hml]; rfl) (Steps.refl _) (argsL := [.null]) (rest := []) (lenOf pd_2 rfl) rfl (by show 2 * 0 + _ ≤ _; exact Nat.le_of_eq rfl) (hb hby at_132) (fun _ _ => ⟨rfl, ec129_86, (by decide : 3 + 0 ≤ _), (by decide : 49 + 0 ≤ _)⟩)
    dsimp only [Pt.U, Pt.locs, Pt.cells, Pt.slots] at Xc132_87 lc132_87 yc132_87 zc132_87 stc132_87 hQc132_87
    subst lc132_87 yc132_87 zc132_87
    obtain ⟨rfl, rfl, ec132_87⟩ := hQc132_87
    refine RunsW.go (fun _ => stc132_87.trans) ?_
    have Nc132_87 := Fr.app Nc129_86 (Fr.nil Z.heap.size)
    show RunsW p e below s _ _ _ (Tc132_87.setTop (mkF m 135 #[.val (.int x0), .val (.ref ba2_1), .val (.int (11 : Int32)), .val (.ref y11), .val (.int (0 : Int32)), .val (.int (0 : Int32)), .unset] [(.int (0 : Int32))]))
    refine RunsW.go (fun _ => XS.istore Xc132_87.here hx rfl (hb hby at_135) rfl (l' := #[.val (.int x0), .val (.ref ba2_1), .val (.int (11 : Int32)), .val (.ref y11), .val (.int (0 : Int32)), .val (.int (0 : Int32)), .val (.int (0 : Int32))]) rfl) ?_
    show RunsW p e below s _ _ _ (Tc132_87.setTop (mkF m 137 #[.val (.int x0), .val (.ref ba2_1), .val (.int (11 : Int32)), .val (.ref y11), .val (.int (0 : Int32)), .val (.int (0 : Int32)), .val (.int (0 : Int32))] []))
    refine RunsW.go (fun _ => XS.iload Xc132_87.here hx rfl (hb hby at_137) rfl) ?_
    show RunsW p e below s _ _ _ (Tc132_87.setTop (mkF m 139 #[.val (.int x0), .val (.ref ba2_1), .val (.int (11 : Int32)), .val (.ref y11), .val (.int (0 : Int32)), .val (.int (0 : Int32)), .val (.int (0 : Int32))] [(.int (0 : Int32))]))
    refine RunsW.go (fun _ => XS.iload Xc132_87.here hx rfl (hb hby at_139) rfl) ?_
    show RunsW p e below s _ _ _ (Tc132_87.setTop (mkF m 141 #[.val (.int x0), .val (.ref ba2_1), .val (.int (11 : Int32)), .val (.ref y11), .val (.int (0 : Int32)), .val (.int (0 : Int32)), .val (.int (0 : Int32))] [(.int (0 : Int32)), (.int (0 : Int32))]))
    refine RunsW.go (fun _ => XS.icmpNo Xc132_87.here hx rfl (hb hby at_141) rfl (teq (rfl : (0 : Int32) = (0 : Int32))).2) ?_
    show RunsW p e below s _ _ _ (Tc132_87.setTop (mkF m 144 #[.val (.int x0), .val (.ref ba2_1), .val (.int (11 : Int32)), .val (.ref y11), .val (.int (0 : Int32)), .val (.int (0 : Int32)), .val (.int (0 : Int32))] []))
    refine RunsW.go (fun _ => XS.iload Xc132_87.here hx rfl (hb hby at_144) rfl) ?_
    show RunsW p e below s _ _ _ (Tc132_87.setTop (mkF m 146 #[.val (.int x0), .val (.ref ba2_1), .val (.int (11 : Int32)), .val (.ref y11), .val (.int (0 : Int32)), .val (.int (0 : Int32)), .val (.int (0 : Int32))] [(.int (0 : Int32))]))
    refine RunsW.go (fun _ => XS.iload Xc132_87.here hx rfl (hb hby at_146) rfl) ?_
    show RunsW p e below s _ _ _ (Tc132_87.setTop (mkF m 148 #[.val (.int x0), .val (.ref ba2_1), .val (.int (11 : Int32)), .val (.ref y11), .val (.int (0 : Int32)), .val (.int (0 : Int32)), .val (.int (0 : Int32))] [(.int (0 : Int32)), (.int (0 : Int32))]))
    refine RunsW.go (fun _ => XS.icmpNo Xc132_87.here hx rfl (hb hby at_148) rfl (teq (rfl : (0 : Int32) = (0 : Int32))).2) ?_
    show RunsW p e below s _ _ _ (Tc132_87.setTop (mkF m 151 #[.val (.int x0), .val (.ref ba2_1), .val (.int (11 : Int32)), .val (.ref y11), .val (.int (0 : Int32)), .val (.int (0 : Int32)), .val (.int (0 : Int32))] []))
    refine RunsW.go (fun _ => XS.iconst Xc132_87.here hx rfl (hb hby at_151)) ?_
    show RunsW p e below s _ _ _ (Tc132_87.setTop (mkF m 152 #[.val (.int x0), .val (.ref ba2_1), .val (.int (11 : Int32)), .val (.ref y11), .val (.int (0 : Int32)), .val (.int (0 : Int32)), .val (.int (0 : Int32))] [(.int (1 : Int32))]))
    refine RunsW.go (fun _ => XS.goto Xc132_87.here hx rfl (pc0 := 152) (pc' := 156) rfl (hb hby at_152) (by decide) (by decide)) ?_
    show RunsW p e below s _ _ _ (Tc132_87.setTop (mkF m 156 #[.val (.int x0), .val (.ref ba2_1), .val (.int (11 : Int32)), .val (.ref y11), .val (.int (0 : Int32)), .val (.int (0 : Int32)), .val (.int (0 : Int32))] [(.int (1 : Int32))]))
    exact RunsW.endN Xc132_87 hSs126_85 (by rw [ec132_87]; exact hks126_85) hx (t := .boolean) Bd.returns (by simp) Bd.notSynchronized (hb hby at_156) ⟨rfl, Nc132_87⟩ (by decide) (by decide)
  · rw [q]
    show RunsW p e below s _ _ _ (Tw89_27.setTop (mkF m 98 #[.val (.int x0), .val (.ref ba2_1), .unset, .unset, .unset, .unset, .unset] [(.int (12 : Int32))]))
    refine RunsW.go (fun _ => XS.istoreN Xw89_27.here hx rfl (hb hby at_98) rfl (l' := #[.val (.int x0), .val (.ref ba2_1), .val (.int (12 : Int32)), .unset, .unset, .unset, .unset]) rfl) ?_
    show RunsW p e below s _ _ _ (Tw89_27.setTop (mkF m 99 #[.val (.int x0), .val (.ref ba2_1), .val (.int (12 : Int32)), .unset, .unset, .unset, .unset] []))
    refine RunsW.go (fun _ => XS.aloadN Xw89_27.here hx rfl (hb hby at_99) rfl rfl) ?_
    show RunsW p e below s _ _ _ (Tw89_27.setTop (mkF m 100 #[.val (.int x0), .val (.ref ba2_1), .val (.int (12 : Int32)), .unset, .unset, .unset, .unset] [(.ref ba2_1)]))
    refine RunsW.go (fun _ => XS.iloadN Xw89_27.here hx rfl (hb hby at_100) rfl) ?_
    show RunsW p e below s _ _ _ (Tw89_27.setTop (mkF m 101 #[.val (.int x0), .val (.ref ba2_1), .val (.int (12 : Int32)), .unset, .unset, .unset, .unset] [(.int (12 : Int32)), (.ref ba2_1)]))
    have VCr101_88 := Vw89_27
    obtain ⟨clr101_88, Arr101_88, -, Sr101_88, Mr101_88, Hr101_88, -⟩ := VCr101_88
    have hinr101_88 : ¬ ((12 : Int32) < 0 ∨ clr101_88.slots.size ≤ ((12 : Int32)).toNatClampNeg) := inb_of Sr101_88 ⟨by decide, by decide⟩
    have hatr101_88 : clr101_88.slots[((12 : Int32)).toNatClampNeg]? = some (.ref y12) := Has.at Hr101_88 hinr101_88 rfl
    refine RunsW.go (Xw89_27.aaload hx (j := (12 : Int32)) (v := (.ref y12)) (by rw [ew89_27]; exact Arr101_88.1) (State.isArrayOf_alike hZ.alike Arr101_88.2.1) rfl Arr101_88.2.2 hinr101_88 hatr101_88 (g := (mkF m 101 #[.val (.int x0), .val (.ref ba2_1), .val (.int (12 : Int32)), .unset, .unset, .unset, .unset] [(.int (12 : Int32)), (.ref ba2_1)])) rfl rfl (hb hby at_101)) ?_
    show RunsW p e below s _ _ _ (Tw89_27.setTop (mkF m 102 #[.val (.int x0), .val (.ref ba2_1), .val (.int (12 : Int32)), .unset, .unset, .unset, .unset] [(.ref y12)]))
    refine RunsW.go (fun _ => XS.astoreN Xw89_27.here hx rfl (hb hby at_102) rfl rfl (l' := #[.val (.int x0), .val (.ref ba2_1), .val (.int (12 : Int32)), .val (.ref y12), .unset, .unset, .unset]) rfl) ?_
    show RunsW p e below s _ _ _ (Tw89_27.setTop (mkF m 103 #[.val (.int x0), .val (.ref ba2_1), .val (.int (12 : Int32)), .val (.ref y12), .unset, .unset, .unset] []))
    refine RunsW.go (fun _ => XS.iloadN Xw89_27.here hx rfl (hb hby at_103) rfl) ?_
    show RunsW p e below s _ _ _ (Tw89_27.setTop (mkF m 104 #[.val (.int x0), .val (.ref ba2_1), .val (.int (12 : Int32)), .val (.ref y12), .unset, .unset, .unset] [(.int (12 : Int32))]))
    refine RunsW.go (fun _ => XS.iconst Xw89_27.here hx rfl (hb hby at_104)) ?_
    show RunsW p e below s _ _ _ (Tw89_27.setTop (mkF m 105 #[.val (.int x0), .val (.ref ba2_1), .val (.int (12 : Int32)), .val (.ref y12), .unset, .unset, .unset] [(.int (1 : Int32)), (.int (12 : Int32))]))
    refine RunsW.go (fun _ => XS.icmpNo Xw89_27.here hx rfl (hb hby at_105) rfl (flt ((by decide) : ¬ ((12 : Int32) < (1 : Int32)))).1) ?_
    show RunsW p e below s _ _ _ (Tw89_27.setTop (mkF m 108 #[.val (.int x0), .val (.ref ba2_1), .val (.int (12 : Int32)), .val (.ref y12), .unset, .unset, .unset] []))
    refine RunsW.go (fun _ => XS.iloadN Xw89_27.here hx rfl (hb hby at_108) rfl) ?_
    show RunsW p e below s _ _ _ (Tw89_27.setTop (mkF m 109 #[.val (.int x0), .val (.ref ba2_1), .val (.int (12 : Int32)), .val (.ref y12), .unset, .unset, .unset] [(.int (12 : Int32))]))
    refine RunsW.go (fun _ => XS.iconst Xw89_27.here hx rfl (hb hby at_109)) ?_
    show RunsW p e below s _ _ _ (Tw89_27.setTop (mkF m 110 #[.val (.int x0), .val (.ref ba2_1), .val (.int (12 : Int32)), .val (.ref y12), .unset, .unset, .unset] [(.int (3 : Int32)), (.int (12 : Int32))]))
    refine RunsW.go (fun _ => XS.icmpYes Xw89_27.here hx rfl (pc0 := 110) (pc' := 117) rfl (hb hby at_110) rfl (tlt ((by decide) : (3 : Int32) < (12 : Int32))).2.2.1 (by decide) (by decide)) ?_
    show RunsW p e below s _ _ _ (Tw89_27.setTop (mkF m 117 #[.val (.int x0), .val (.ref ba2_1), .val (.int (12 : Int32)), .val (.ref y12), .unset, .unset, .unset] []))
    refine RunsW.go (fun _ => XS.iconst Xw89_27.here hx rfl (hb hby at_117)) ?_
    show RunsW p e below s _ _ _ (Tw89_27.setTop (mkF m 118 #[.val (.int x0), .val (.ref ba2_1), .val (.int (12 : Int32)), .val (.ref y12), .unset, .unset, .unset] [(.int (0 : Int32))]))
    refine RunsW.go (fun _ => XS.istore Xw89_27.here hx rfl (hb hby at_118) rfl (l' := #[.val (.int x0), .val (.ref ba2_1), .val (.int (12 : Int32)), .val (.ref y12), .val (.int (0 : Int32)), .unset, .unset]) rfl) ?_
    show RunsW p e below s _ _ _ (Tw89_27.setTop (mkF m 120 #[.val (.int x0), .val (.ref ba2_1), .val (.int (12 : Int32)), .val (.ref y12), .val (.int (0 : Int32)), .unset, .unset] []))
    refine RunsW.go (fun _ => XS.aloadN Xw89_27.here hx rfl (hb hby at_120) rfl rfl) ?_
    show RunsW p e below s _ _ _ (Tw89_27.setTop (mkF m 121 #[.val (.int x0), .val (.ref ba2_1), .val (.int (12 : Int32)), .val (.ref y12), .val (.int (0 : Int32)), .unset, .unset] [(.ref y12)]))
    obtain ⟨cqc121_89, kqc121_89, qc121_89a, qc121_89b, qc121_89c⟩ := isOf hZ ew89_27 (E12.ext Kw89_27)
    obtain ⟨_, _, ⟨Tc121_89, Lc121_89, kc121_89, nc121_89⟩, -, Xc121_89, ⟨Lcc121_89, hQc121_89, lc121_89, yc121_89, zc121_89⟩, stc121_89⟩ := Xw89_27.virtualBack hx (y := (⟨"com/example/replay/replay/api/EventType", "isActivityEvent", "()Z"⟩ : MethodName)) (z := (⟨"com/example/replay/replay/api/EventType", "isActivityEvent", "()Z"⟩ : MethodName)) hown (mvT hZ (hw _ (List.mem_of_getElem? (i := 31) rfl))) (mvT hZ (hw _ (List.mem_of_getElem? (i := 32) rfl))) (notFace_of_selects (args := #[]) (mvT hZ (hw _ (List.mem_of_getElem? (i := 34) rfl)))) (mvT hZ (hw _ (List.mem_of_getElem? (i := 34) rfl))) (mvT hZ (hw _ (List.mem_of_getElem? (i := 33) rfl))) (by decide) (backOf (W := 0) (rm1c l Z a0 hw [] y12 y1 y2 y3 hw89_27 Z.heap.size hnw89_27 (E12.ext Kw89_27) (S1.ext Kw89_27) (S2.ext Kw89_27) (S3.ext Kw89_27) (Fld.ne O12 O1 (by decide)) (Fld.ne O12 O2 (by decide)) (Fld.ne O12 O3 (by decide))) hZ (hw _ (List.mem_of_getElem? (i := 35) rfl)) (hw _ (List.mem_of_getElem? (i := 3) rfl)) (by decide) (by decide)) qc121_89a qc121_89c (g := (mkF m 121 #[.val (.int x0), .val (.ref ba2_1), .val (.int (12 : Int32)), .val (.ref y12), .val (.int (0 : Int32)), .unset, .unset] [(.ref y12)])) rfl (by rw [hml]; rfl) (Steps.refl _) (argsL := []) (rest := []) (lenOf pd_0 rfl) rfl (by show 2 * 0 + _ ≤ _; exact Nat.le_of_eq rfl) (hb hby at_121) (fun _ _ => ⟨rfl, ew89_27, (by decide : 1 + 0 ≤ _), (by decide : 13 + 0 ≤ _)⟩)
    dsimp only [Pt.U, Pt.locs, Pt.cells, Pt.slots] at Xc121_89 lc121_89 yc121_89 zc121_89 stc121_89 hQc121_89
    subst lc121_89 yc121_89 zc121_89
    obtain ⟨rfl, rfl, ec121_89⟩ := hQc121_89
    refine RunsW.go (fun _ => stc121_89.trans) ?_
    have Nc121_89 := Fr.app Nw89_27 (Fr.nil Z.heap.size)
    show RunsW p e below s _ _ _ (Tc121_89.setTop (mkF m 124 #[.val (.int x0), .val (.ref ba2_1), .val (.int (12 : Int32)), .val (.ref y12), .val (.int (0 : Int32)), .unset, .unset] [(.int (0 : Int32))]))
    refine RunsW.go (fun _ => XS.istore Xc121_89.here hx rfl (hb hby at_124) rfl (l' := #[.val (.int x0), .val (.ref ba2_1), .val (.int (12 : Int32)), .val (.ref y12), .val (.int (0 : Int32)), .val (.int (0 : Int32)), .unset]) rfl) ?_
    show RunsW p e below s _ _ _ (Tc121_89.setTop (mkF m 126 #[.val (.int x0), .val (.ref ba2_1), .val (.int (12 : Int32)), .val (.ref y12), .val (.int (0 : Int32)), .val (.int (0 : Int32)), .unset] []))
    obtain ⟨bs126_90, Ts126_90, hs126_90, k1s126_90, ds126_90, kks126_90, Xs126_90, es126_90, Es126_90, hSs126_90, hks126_90, hZ, hown, Exs126_90, Fcs126_90, Fvs126_90, Vs126_90, -, -, -, sts126_90⟩ := ldcSV (s := s) (vm0 := s.vm) Xc121_89 hx hZ hown (hw _ (List.mem_of_getElem? (i := 44) rfl)) wS ec121_89 (own_since s) (by rw [hh]; exact Kw89_27.1) (by rw [hh]; exact Nc121_89) hkeep I0 (fun q => nomatch q) hheld hcw (vs := own_act.map Value.int) (z := 8) ⟨by decide, by decide +kernel⟩ (by decide) rfl (g := (mkF m 126 #[.val (.int x0), .val (.ref ba2_1), .val (.int (12 : Int32)), .val (.ref y12), .val (.int (0 : Int32)), .val (.int (0 : Int32)), .unset] [])) rfl (hb hby at_126) (n := 32) (by decide) (by decide) (by decide) (by decide)
    refine RunsW.go sts126_90 ?_
    have Ks126_90 : Ext Z.heap hs126_90 := own_extt Kw89_27 Es126_90
    have hns126_90 : Z.heap.size ≤ hs126_90.size := Nat.le_trans hnw89_27 Es126_90.1
    show RunsW p e below s _ _ _ (Ts126_90.setTop (mkF m 128 #[.val (.int x0), .val (.ref ba2_1), .val (.int (12 : Int32)), .val (.ref y12), .val (.int (0 : Int32)), .val (.int (0 : Int32)), .unset] [(.ref bs126_90)]))
    refine RunsW.go (fun _ => XS.aloadN Xs126_90.here hx rfl (hb hby at_128) rfl rfl) ?_
    show RunsW p e below s _ _ _ (Ts126_90.setTop (mkF m 129 #[.val (.int x0), .val (.ref ba2_1), .val (.int (12 : Int32)), .val (.ref y12), .val (.int (0 : Int32)), .val (.int (0 : Int32)), .unset] [(.ref y12), (.ref bs126_90)]))
    obtain ⟨cqc129_91, kqc129_91, qc129_91a, qc129_91b, qc129_91c⟩ := isOf hZ es126_90 (E12.ext Ks126_90)
    obtain ⟨_, _, ⟨Tc129_91, Lc129_91, kc129_91, nc129_91⟩, -, Xc129_91, ⟨Lcc129_91, hQc129_91, lc129_91, yc129_91, zc129_91⟩, stc129_91⟩ := Xs126_90.virtualBack hx (y := (⟨"com/example/replay/replay/api/EventType", "subject", "()Ljava/lang/String;"⟩ : MethodName)) (z := (⟨"com/example/replay/replay/api/EventType", "subject", "()Ljava/lang/String;"⟩ : MethodName)) hown (mvT hZ (hw _ (List.mem_of_getElem? (i := 52) rfl))) (mvT hZ (hw _ (List.mem_of_getElem? (i := 53) rfl))) (notFace_of_selects (args := #[]) (mvT hZ (hw _ (List.mem_of_getElem? (i := 55) rfl)))) (mvT hZ (hw _ (List.mem_of_getElem? (i := 55) rfl))) (mvT hZ (hw _ (List.mem_of_getElem? (i := 54) rfl))) (by decide) (backOf (W := 1) (rm3 l Z a0 hw [] y12 .null hs126_90 Z.heap.size hns126_90 (F12.ext Ks126_90) rfl) hZ (hw _ (List.mem_of_getElem? (i := 56) rfl)) (hw _ (List.mem_of_getElem? (i := 3) rfl)) (by decide) (by decide)) qc129_91a qc129_91c (g := (mkF m 129 #[.val (.int x0), .val (.ref ba2_1), .val (.int (12 : Int32)), .val (.ref y12), .val (.int (0 : Int32)), .val (.int (0 : Int32)), .unset] [(.ref y12), (.ref bs126_90)])) rfl (by rw [hml]; rfl) (Steps.refl _) (argsL := []) (rest := [(.ref bs126_90)]) (lenOf pd_1 rfl) rfl (by show 2 * 0 + _ ≤ _; exact Nat.le_of_eq rfl) (hb hby at_129) (fun _ _ => ⟨rfl, es126_90, (by decide : 3 + 0 ≤ _), (by decide : 49 + 0 ≤ _)⟩)
    dsimp only [Pt.U, Pt.locs, Pt.cells, Pt.slots] at Xc129_91 lc129_91 yc129_91 zc129_91 stc129_91 hQc129_91
    subst lc129_91 yc129_91 zc129_91
    obtain ⟨rfl, rfl, ec129_91⟩ := hQc129_91
    refine RunsW.go (fun _ => stc129_91.trans) ?_
    have Nc129_91 := Fr.app Nc121_89 (Fr.nil Z.heap.size)
    show RunsW p e below s _ _ _ (Tc129_91.setTop (mkF m 132 #[.val (.int x0), .val (.ref ba2_1), .val (.int (12 : Int32)), .val (.ref y12), .val (.int (0 : Int32)), .val (.int (0 : Int32)), .unset] [.null, (.ref bs126_90)]))
    obtain ⟨cqc132_92, kqc132_92, qc132_92a, qc132_92b, qc132_92c⟩ := isOf hZ ec129_91 Exs126_90
    obtain ⟨_, _, ⟨Tc132_92, Lc132_92, kc132_92, nc132_92⟩, -, Xc132_92, ⟨Lcc132_92, hQc132_92, lc132_92, yc132_92, zc132_92⟩, stc132_92⟩ := Xc129_91.virtualBack hx (y := (⟨"java/lang/String", "equals", "(Ljava/lang/Object;)Z"⟩ : MethodName)) (z := (⟨"java/lang/String", "equals", "(Ljava/lang/Object;)Z"⟩ : MethodName)) hown (mvT hZ (hw _ (List.mem_of_getElem? (i := 59) rfl))) (mvT hZ (hw _ (List.mem_of_getElem? (i := 60) rfl))) (notFace_of_selects (args := #[]) (mvT hZ (hw _ (List.mem_of_getElem? (i := 62) rfl)))) (mvT hZ (hw _ (List.mem_of_getElem? (i := 62) rfl))) (mvT hZ (hw _ (List.mem_of_getElem? (i := 61) rfl))) (by decide) (backOf (W := 0) (rm4n l Z a0 hw [] bs126_90 hs126_90) hZ (hw _ (List.mem_of_getElem? (i := 63) rfl)) (hw _ (List.mem_of_getElem? (i := 45) rfl)) (by decide) (by decide)) qc132_92a qc132_92c (g := (mkF m 132 #[.val (.int x0), .val (.ref ba2_1), .val (.int (12 : Int32)), .val (.ref y12), .val (.int (0 : Int32)), .val (.int (0 : Int32)), .unset] [.null, (.ref bs126_90)])) rfl (by rw [hml]; rfl) (Steps.refl _) (argsL := [.null]) (rest := []) (lenOf pd_2 rfl) rfl (by show 2 * 0 + _ ≤ _; exact Nat.le_of_eq rfl) (hb hby at_132) (fun _ _ => ⟨rfl, ec129_91, (by decide : 3 + 0 ≤ _), (by decide : 49 + 0 ≤ _)⟩)
    dsimp only [Pt.U, Pt.locs, Pt.cells, Pt.slots] at Xc132_92 lc132_92 yc132_92 zc132_92 stc132_92 hQc132_92
    subst lc132_92 yc132_92 zc132_92
    obtain ⟨rfl, rfl, ec132_92⟩ := hQc132_92
    refine RunsW.go (fun _ => stc132_92.trans) ?_
    have Nc132_92 := Fr.app Nc129_91 (Fr.nil Z.heap.size)
    show RunsW p e below s _ _ _ (Tc132_92.setTop (mkF m 135 #[.val (.int x0), .val (.ref ba2_1), .val (.int (12 : Int32)), .val (.ref y12), .val (.int (0 : Int32)), .val (.int (0 : Int32)), .unset] [(.int (0 : Int32))]))
    refine RunsW.go (fun _ => XS.istore Xc132_92.here hx rfl (hb hby at_135) rfl (l' := #[.val (.int x0), .val (.ref ba2_1), .val (.int (12 : Int32)), .val (.ref y12), .val (.int (0 : Int32)), .val (.int (0 : Int32)), .val (.int (0 : Int32))]) rfl) ?_
    show RunsW p e below s _ _ _ (Tc132_92.setTop (mkF m 137 #[.val (.int x0), .val (.ref ba2_1), .val (.int (12 : Int32)), .val (.ref y12), .val (.int (0 : Int32)), .val (.int (0 : Int32)), .val (.int (0 : Int32))] []))
    refine RunsW.go (fun _ => XS.iload Xc132_92.here hx rfl (hb hby at_137) rfl) ?_
    show RunsW p e below s _ _ _ (Tc132_92.setTop (mkF m 139 #[.val (.int x0), .val (.ref ba2_1), .val (.int (12 : Int32)), .val (.ref y12), .val (.int (0 : Int32)), .val (.int (0 : Int32)), .val (.int (0 : Int32))] [(.int (0 : Int32))]))
    refine RunsW.go (fun _ => XS.iload Xc132_92.here hx rfl (hb hby at_139) rfl) ?_
    show RunsW p e below s _ _ _ (Tc132_92.setTop (mkF m 141 #[.val (.int x0), .val (.ref ba2_1), .val (.int (12 : Int32)), .val (.ref y12), .val (.int (0 : Int32)), .val (.int (0 : Int32)), .val (.int (0 : Int32))] [(.int (0 : Int32)), (.int (0 : Int32))]))
    refine RunsW.go (fun _ => XS.icmpNo Xc132_92.here hx rfl (hb hby at_141) rfl (teq (rfl : (0 : Int32) = (0 : Int32))).2) ?_
    show RunsW p e below s _ _ _ (Tc132_92.setTop (mkF m 144 #[.val (.int x0), .val (.ref ba2_1), .val (.int (12 : Int32)), .val (.ref y12), .val (.int (0 : Int32)), .val (.int (0 : Int32)), .val (.int (0 : Int32))] []))
    refine RunsW.go (fun _ => XS.iload Xc132_92.here hx rfl (hb hby at_144) rfl) ?_
    show RunsW p e below s _ _ _ (Tc132_92.setTop (mkF m 146 #[.val (.int x0), .val (.ref ba2_1), .val (.int (12 : Int32)), .val (.ref y12), .val (.int (0 : Int32)), .val (.int (0 : Int32)), .val (.int (0 : Int32))] [(.int (0 : Int32))]))
    refine RunsW.go (fun _ => XS.iload Xc132_92.here hx rfl (hb hby at_146) rfl) ?_
    show RunsW p e below s _ _ _ (Tc132_92.setTop (mkF m 148 #[.val (.int x0), .val (.ref ba2_1), .val (.int (12 : Int32)), .val (.ref y12), .val (.int (0 : Int32)), .val (.int (0 : Int32)), .val (.int (0 : Int32))] [(.int (0 : Int32)), (.int (0 : Int32))]))
    refine RunsW.go (fun _ => XS.icmpNo Xc132_92.here hx rfl (hb hby at_148) rfl (teq (rfl : (0 : Int32) = (0 : Int32))).2) ?_
    show RunsW p e below s _ _ _ (Tc132_92.setTop (mkF m 151 #[.val (.int x0), .val (.ref ba2_1), .val (.int (12 : Int32)), .val (.ref y12), .val (.int (0 : Int32)), .val (.int (0 : Int32)), .val (.int (0 : Int32))] []))
    refine RunsW.go (fun _ => XS.iconst Xc132_92.here hx rfl (hb hby at_151)) ?_
    show RunsW p e below s _ _ _ (Tc132_92.setTop (mkF m 152 #[.val (.int x0), .val (.ref ba2_1), .val (.int (12 : Int32)), .val (.ref y12), .val (.int (0 : Int32)), .val (.int (0 : Int32)), .val (.int (0 : Int32))] [(.int (1 : Int32))]))
    refine RunsW.go (fun _ => XS.goto Xc132_92.here hx rfl (pc0 := 152) (pc' := 156) rfl (hb hby at_152) (by decide) (by decide)) ?_
    show RunsW p e below s _ _ _ (Tc132_92.setTop (mkF m 156 #[.val (.int x0), .val (.ref ba2_1), .val (.int (12 : Int32)), .val (.ref y12), .val (.int (0 : Int32)), .val (.int (0 : Int32)), .val (.int (0 : Int32))] [(.int (1 : Int32))]))
    exact RunsW.endN Xc132_92 hSs126_90 (by rw [ec132_92]; exact hks126_90) hx (t := .boolean) Bd.returns (by simp) Bd.notSynchronized (hb hby at_156) ⟨rfl, Nc132_92⟩ (by decide) (by decide)
set_option maxRecDepth 65536 in
set_option maxHeartbeats 40000000 in
theorem comes_1 {Post : Tables → Env → Array Value → State → Outcome → State → Prop} (hpost : ∀ tb e args s v u, (limb_1_1.after args s (.returned v) u = true ∧ limb_1_2.after args s (.returned v) u = true ∧ True) → FramedW s (.returned v) u (Jvm.fieldLocs frame_1_writes args s ++ Jvm.arrayLocs frame_1_arrays args s ++ Jvm.staticLocs frame_1_statics s) 16 1152 → Post tb e args s (.returned v) u) :
    ArmFor flags0 classFile x code maxLocals ret World_1 tables_1 room_1 Calls_1 rest_1 Pre_1 Post := by
  intro l hfl _ _ p e ha hc hk s m args below hf hA hF happ hP
  obtain ⟨hcalls, hrest, hpre⟩ := hP
  obtain ⟨-, -, -, hnamed, -, -, -, hat⟩ := (Spec.applies_iff hf).mp happ
  obtain ⟨hg, hn⟩ := and_e (Cond.before_iff.mp (show (Jvm.Cond.and given_1 narrow_1).before args s = true from hpre))
  obtain ⟨hcnt, ga0⟩ := and_e hg
  obtain ⟨w0, rfl⟩ : ∃ w0 : Value, args = #[w0] := by
    have hs : args.size = 1 := by simpa [Cond.value, given_1] using hcnt
    obtain ⟨L⟩ := args
    match L, hs with
    | [w0], _ => exact ⟨w0, rfl⟩
  obtain ⟨i0, ei0⟩ := is_v ga0
  obtain rfl : w0 = (.int i0) := Option.some.inj ei0
  have hw := fun d (hd : d ∈ tables_1) => atoms_spec (ws := Jvm.Cond.code x code maxLocals ret :: tables_1) hat d (List.mem_cons_of_mem _ hd)
  have hfit : Fit s := fun {y c} hc i hi => by
    obtain ⟨ha, rfl⟩ := Array.getElem?_eq_some_iff.mp hc
    have q := List.all_eq_true.mp ((Array.all_eq_true_iff_forall_mem.mp hF) _ (Array.getElem_mem ha)) i (List.mem_range.mpr hi)
    simpa [Array.getElem?_eq_getElem hi] using q
  obtain ⟨c0, hn⟩ := and_e hn
  obtain ⟨c1, hn⟩ := and_e hn
  obtain ⟨c2, hn⟩ := and_e hn
  obtain ⟨c3, hn⟩ := and_e hn
  obtain ⟨c4, hn⟩ := and_e hn
  obtain ⟨c5, hn⟩ := and_e hn
  obtain ⟨c6, hn⟩ := and_e hn
  obtain ⟨c7, hn⟩ := and_e hn
  obtain ⟨c8, hn⟩ := and_e hn
  obtain ⟨c9, hn⟩ := and_e hn
  obtain ⟨c10, hn⟩ := and_e hn
  obtain ⟨c11, hn⟩ := and_e hn
  obtain ⟨c12, hn⟩ := and_e hn
  obtain ⟨c13, hn⟩ := and_e hn
  obtain ⟨c14, hn⟩ := and_e hn
  obtain ⟨c15, hn⟩ := and_e hn
  obtain ⟨c16, hn⟩ := and_e hn
  obtain ⟨c17, hn⟩ := and_e hn
  obtain ⟨c18, hn⟩ := and_e hn
  obtain ⟨c19, hn⟩ := and_e hn
  obtain ⟨c20, hn⟩ := and_e hn
  obtain ⟨c21, hn⟩ := and_e hn
  obtain ⟨c22, hn⟩ := and_e hn
  obtain ⟨c23, hn⟩ := and_e hn
  obtain ⟨c24, hn⟩ := and_e hn
  obtain ⟨c25, hn⟩ := and_e hn
  obtain ⟨c26, hn⟩ := and_e hn
  obtain ⟨c27, hn⟩ := and_e hn
  obtain ⟨c28, hn⟩ := and_e hn
  obtain ⟨c29, hn⟩ := and_e hn
  obtain ⟨c30, hn⟩ := and_e hn
  obtain ⟨c31, hn⟩ := and_e hn
  obtain ⟨c32, hn⟩ := and_e hn
  obtain ⟨c33, hn⟩ := and_e hn
  obtain ⟨c34, hn⟩ := and_e hn
  obtain ⟨c35, hn⟩ := and_e hn
  obtain ⟨c36, hn⟩ := and_e hn
  obtain ⟨c37, hn⟩ := and_e hn
  obtain ⟨c38, hn⟩ := and_e hn
  obtain ⟨c39, hn⟩ := and_e hn
  obtain ⟨c40, hn⟩ := and_e hn
  obtain ⟨c41, hn⟩ := and_e hn
  obtain ⟨c42, hn⟩ := and_e hn
  obtain ⟨c43, hn⟩ := and_e hn
  obtain ⟨c44, hn⟩ := and_e hn
  obtain ⟨c45, hn⟩ := and_e hn
  obtain ⟨c46, hn⟩ := and_e hn
  obtain ⟨c47, hn⟩ := and_e hn
  obtain ⟨c48, hn⟩ := and_e hn
  obtain ⟨c49, hn⟩ := and_e hn
  obtain ⟨c50, hn⟩ := and_e hn
  obtain ⟨c51, hn⟩ := and_e hn
  obtain ⟨c52, hn⟩ := and_e hn
  obtain ⟨c53, hn⟩ := and_e hn
  obtain ⟨c54, hn⟩ := and_e hn
  obtain ⟨c55, hn⟩ := and_e hn
  obtain ⟨c56, hn⟩ := and_e hn
  obtain ⟨c57, hn⟩ := and_e hn
  obtain ⟨c58, hn⟩ := and_e hn
  obtain ⟨c59, hn⟩ := and_e hn
  obtain ⟨c60, hn⟩ := and_e hn
  obtain ⟨c61, hn⟩ := and_e hn
  obtain ⟨c62, hn⟩ := and_e hn
  obtain ⟨c63, hn⟩ := and_e hn
  have c64 := hn
  obtain ⟨y0, v0⟩ := exa_v c0
  have E0 := Exa.start v0 c0
  have S0 := Sta.start v0 (Or.inr ⟨(hw _ (List.mem_of_getElem? (i := 3) rfl)), (hw _ (List.mem_of_getElem? (i := 4) rfl))⟩)
  have O0 := Fld.start ((fld_at v0).symm.trans (own_eqi c13))
  obtain ⟨y1, v1⟩ := exa_v c1
  have E1 := Exa.start v1 c1
  have S1 := Sta.start v1 (Or.inr ⟨(hw _ (List.mem_of_getElem? (i := 3) rfl)), (hw _ (List.mem_of_getElem? (i := 7) rfl))⟩)
  have O1 := Fld.start ((fld_at v1).symm.trans (own_eqi c14))
  obtain ⟨y2, v2⟩ := exa_v c2
  have E2 := Exa.start v2 c2
  have S2 := Sta.start v2 (Or.inr ⟨(hw _ (List.mem_of_getElem? (i := 3) rfl)), (hw _ (List.mem_of_getElem? (i := 9) rfl))⟩)
  have O2 := Fld.start ((fld_at v2).symm.trans (own_eqi c15))
  obtain ⟨y3, v3⟩ := exa_v c3
  have E3 := Exa.start v3 c3
  have S3 := Sta.start v3 (Or.inr ⟨(hw _ (List.mem_of_getElem? (i := 3) rfl)), (hw _ (List.mem_of_getElem? (i := 11) rfl))⟩)
  have O3 := Fld.start ((fld_at v3).symm.trans (own_eqi c16))
  obtain ⟨y4, v4⟩ := exa_v c4
  have E4 := Exa.start v4 c4
  have S4 := Sta.start v4 (Or.inr ⟨(hw _ (List.mem_of_getElem? (i := 3) rfl)), (hw _ (List.mem_of_getElem? (i := 13) rfl))⟩)
  have O4 := Fld.start ((fld_at v4).symm.trans (own_eqi c46))
  obtain ⟨y5, v5⟩ := exa_v c5
  have E5 := Exa.start v5 c5
  have S5 := Sta.start v5 (Or.inr ⟨(hw _ (List.mem_of_getElem? (i := 3) rfl)), (hw _ (List.mem_of_getElem? (i := 15) rfl))⟩)
  have O5 := Fld.start ((fld_at v5).symm.trans (own_eqi c27))
  obtain ⟨y6, v6⟩ := exa_v c6
  have E6 := Exa.start v6 c6
  have S6 := Sta.start v6 (Or.inr ⟨(hw _ (List.mem_of_getElem? (i := 3) rfl)), (hw _ (List.mem_of_getElem? (i := 17) rfl))⟩)
  have O6 := Fld.start ((fld_at v6).symm.trans (own_eqi c22))
  obtain ⟨y7, v7⟩ := exa_v c7
  have E7 := Exa.start v7 c7
  have S7 := Sta.start v7 (Or.inr ⟨(hw _ (List.mem_of_getElem? (i := 3) rfl)), (hw _ (List.mem_of_getElem? (i := 19) rfl))⟩)
  have O7 := Fld.start ((fld_at v7).symm.trans (own_eqi c29))
  obtain ⟨y8, v8⟩ := exa_v c8
  have E8 := Exa.start v8 c8
  have S8 := Sta.start v8 (Or.inr ⟨(hw _ (List.mem_of_getElem? (i := 3) rfl)), (hw _ (List.mem_of_getElem? (i := 21) rfl))⟩)
  have O8 := Fld.start ((fld_at v8).symm.trans (own_eqi c37))
  obtain ⟨y9, v9⟩ := exa_v c9
  have E9 := Exa.start v9 c9
  have S9 := Sta.start v9 (Or.inr ⟨(hw _ (List.mem_of_getElem? (i := 3) rfl)), (hw _ (List.mem_of_getElem? (i := 23) rfl))⟩)
  have O9 := Fld.start ((fld_at v9).symm.trans (own_eqi c31))
  obtain ⟨y10, v10⟩ := exa_v c10
  have E10 := Exa.start v10 c10
  have S10 := Sta.start v10 (Or.inr ⟨(hw _ (List.mem_of_getElem? (i := 3) rfl)), (hw _ (List.mem_of_getElem? (i := 25) rfl))⟩)
  have O10 := Fld.start ((fld_at v10).symm.trans (own_eqi c39))
  obtain ⟨y11, v11⟩ := exa_v c11
  have E11 := Exa.start v11 c11
  have S11 := Sta.start v11 (Or.inr ⟨(hw _ (List.mem_of_getElem? (i := 3) rfl)), (hw _ (List.mem_of_getElem? (i := 27) rfl))⟩)
  have O11 := Fld.start ((fld_at v11).symm.trans (own_eqi c34))
  obtain ⟨y12, v12⟩ := exa_v c12
  have E12 := Exa.start v12 c12
  have S12 := Sta.start v12 (Or.inr ⟨(hw _ (List.mem_of_getElem? (i := 3) rfl)), (hw _ (List.mem_of_getElem? (i := 29) rfl))⟩)
  have O12 := Fld.start ((fld_at v12).symm.trans (own_eqi c44))
  obtain ⟨sA, uA⟩ := exa_v c18
  obtain ⟨dA, kA, AA1, AA2, AA3, AA4⟩ := own_str hfit uA c18 c19 c20 c21 own_act (by decide) rfl (fun cl el => ⟨(el 0 0 97 (by decide) (by decide) c52), (el 1 1 99 (by decide) (by decide) c53), (el 2 2 116 (by decide) (by decide) c54), (el 3 3 105 (by decide) (by decide) c55), (el 4 4 118 (by decide) (by decide) c56), (el 5 5 105 (by decide) (by decide) c57), (el 6 6 116 (by decide) (by decide) c58), (el 7 7 121 (by decide) (by decide) c59), trivial⟩)
  obtain ⟨sE, uE⟩ := exa_v c23
  obtain ⟨dE, kE, AE1, AE2, AE3, AE4⟩ := own_str hfit uE c23 c24 c25 c26 own_evt (by decide) rfl (fun cl el => ⟨(el 0 0 101 (by decide) (by decide) c60), (el 1 1 118 (by decide) (by decide) c61), (el 2 2 101 (by decide) (by decide) c62), (el 3 3 110 (by decide) (by decide) c63), (el 4 4 116 (by decide) (by decide) c64), trivial⟩)
  obtain ⟨sS, uS⟩ := exa_v c40
  obtain ⟨dS, kS, AS1, AS2, AS3, AS4⟩ := own_str hfit uS c40 c41 c42 c43 own_stp (by decide) rfl (fun cl el => ⟨(el 0 0 115 (by decide) (by decide) c48), (el 1 1 116 (by decide) (by decide) c49), (el 2 2 101 (by decide) (by decide) c50), (el 3 3 112 (by decide) (by decide) c51), trivial⟩)
  have F0 := Fld.start ((fld_at v0).symm.trans (null_v c17))
  have F1 := Fld.start ((fld_at v1).symm.trans (own_eqv c36 uA))
  have F2 := Fld.start ((fld_at v2).symm.trans (own_eqv c33 uA))
  have F3 := Fld.start ((fld_at v3).symm.trans uA)
  have F4 := Fld.start ((fld_at v4).symm.trans (null_v c47))
  have F5 := Fld.start ((fld_at v5).symm.trans (null_v c28))
  have F6 := Fld.start ((fld_at v6).symm.trans uE)
  have F7 := Fld.start ((fld_at v7).symm.trans (null_v c30))
  have F8 := Fld.start ((fld_at v8).symm.trans (own_eqv c38 uE))
  have F9 := Fld.start ((fld_at v9).symm.trans (null_v c32))
  have F10 := Fld.start ((fld_at v10).symm.trans uS)
  have F11 := Fld.start ((fld_at v11).symm.trans (null_v c35))
  have F12 := Fld.start ((fld_at v12).symm.trans (null_v c45))
  have hr : rest_1_c.before #[.int i0] s = true := hrest
  rw [rest_1_c_eq] at hr
  have wr : ∀ (i : Nat) {w : Jvm.Cond}, jdkStatics_1[i]? = some w → w.before #[.int i0] s = true := fun i w h => (atoms_of _ hr).1 w (List.mem_of_getElem? h)
  obtain ⟨zc, hzv⟩ := Cond.isInt_spec (wr 1 rfl)
  have hcw : Jvm.Lit.compactW.before #[.int i0] s = true := wr 2 rfl
  have hzc : zc ≠ 0 := fun h => by
    have q := wr 2 rfl
    simp only [Cond.before, Cond.holds, Cond.value, hzv, h] at q
    simp [Term.eval] at q
  have AC := Sta.start hzv (Or.inl (wr 0 rfl))
  have hheld : Jvm.Lit.constHeld s "com/example/replay/replay/api/EventTypeIsActivityEventPinLaw" 54 := hcalls.1 _ (List.mem_singleton.mpr rfl)
  obtain ⟨n, o, h1, h2, h3, _, L, rfl, ⟨rfl, N⟩, hq⟩ := rm0 l s _ hw tables_1 i0 S0 E0 O0 F0 S1 E1 O1 F1 S2 E2 O2 F2 S3 E3 O3 F3 S4 E4 O4 F4 S5 E5 O5 F5 S6 E6 O6 F6 S7 E7 O7 F7 S8 E8 O8 F8 S9 E9 O9 F9 S10 E10 O10 F10 S11 E11 O11 F11 S12 E12 O12 F12 AA1 AA2 AA3 AA4 AE1 AE2 AE3 AE4 AS1 AS2 AS3 AS4 AC hzc hheld hcw p e ha hc hk s m _ below hf ((Spec.applies_iff_loose hf).mp happ).1 ⟨rfl, rfl⟩ trivial
  exact ⟨n, _, h1, h2, h3, hpost _ _ _ _ _ _ ⟨Cond.after_iff.mpr rfl, Cond.after_iff.mpr (eq_i res_at (Term.int_eval (1)) rfl), trivial⟩ ⟨hq.1, hq.2.1, hq.2.2.1, (hq.2.2.2.sift fun y hy => Or.inr (N y hy)).mono (by decide) (by decide)⟩⟩
theorem main_1_1 : Claimed_1_1 := comes_1 fun _ _ _ _ _ _ h hF => ⟨h.1, hF⟩
theorem main_1_2 : Claimed_1_2 := comes_1 fun _ _ _ _ _ _ h hF => ⟨h.2.1, hF⟩
end Jvm.Pilot.@@N@@
namespace Jvm.Pilot.@@N@@
open Jvm Jvm.ClassFile Sem Op Lib Jvm.Free Jvm.Stand Jvm.Pilot.@@N@@.Jvm.D
/-! MADE BY PROGRAM (witnessworld.py) out of the Statement's table words and the real class files: 19 classes; the members and pool entries that the words name. The judged class is class 1, her method 1. -/
namespace start1
open Jvm.ClassFile
def u (s : String) : CpInfo := .utf8 (stringToUtf16 s)
/-- a pool by its gaps: so many unusable entries, then the entry; so many at the end -/
def gap : Nat → List CpInfo → List CpInfo
  | 0, r => r
  | n + 1, r => .unusable :: gap n r
def poolList (es : List (Nat × CpInfo)) (last : Nat) : List CpInfo := es.foldr (fun e r => gap e.1 (e.2 :: r)) (gap last [])
def pool (es : List (Nat × CpInfo)) (last : Nat) : Array CpInfo := ⟨poolList es last⟩
def fileOf (pool : Array CpInfo) (this : Nat) (attrs : Array Attribute := #[]) (ms : Array MethodInfo := #[]) (fl : Nat := 33) (sup : Nat := 0) (ifs : Array Nat := #[]) (fds : Array FieldInfo := #[]) : ClassFile where
  minorVersion := 0
  majorVersion := 65
  constantPool := pool
  accessFlags := fl
  thisClass := this
  superClass := sup
  interfaces := ifs
  fields := fds
  methods := ms
  attributes := attrs
def plain (name : String) (sup : Option ClassId) : Class where
  name := name
  kind := .ordinary
  loader := none
  accessFlags := 33
  super := sup
  interfaces := #[]
  cf := none
  fields := #[]
  methods := #[]
  instanceTypes := #[]
  staticTypes := #[]
  resolved := #[]
  callSites := []
  init := .initialized
  statics := none
  mirror := none

def pool0 : Array CpInfo := pool [(5, u "<init>"), (0, u "()V"), (1, .class_ 10), (1, u "java/lang/Object")] 113

def k0m0 : Method := { name := "<init>", desc := "()V", sig := { parameters := [], returnType := none }, accessFlags := 1, code := none }
/-- java/lang/Object -/
def k0 : Class := { plain "java/lang/Object" none with
  accessFlags := 33
  interfaces := #[]
  cf := some (fileOf pool0 8 #[] #[{ accessFlags := 1, nameIndex := 5, descriptorIndex := 6, attributes := #[] }] 33 0 #[] #[])
  fields := #[]
  methods := #[k0m0]
  instanceTypes := #[]
  staticTypes := #[]
  resolved := Array.replicate 124 none
  statics := none }

def pool1 : Array CpInfo := pool [(2, .class_ 4), (1, u "java/lang/Object"), (0, u "<init>"), (0, u "()V"), (0, .class_ 8), (0, u "com/example/replay/replay/api/EventType"), (0, .fieldref 7 10), (0, .nameAndType 11 12), (0, u "RUN_STARTED"), (0, u "Lcom/example/replay/replay/api/EventType;"), (0, .fieldref 7 14), (0, .nameAndType 15 12), (0, u "ACTIVITY_SCHEDULED"), (0, .fieldref 7 17), (0, .nameAndType 18 12), (0, u "ACTIVITY_COMPLETED"), (0, .fieldref 7 20), (0, .nameAndType 21 12), (0, u "ACTIVITY_FAILED"), (0, .fieldref 7 23), (0, .nameAndType 24 12), (0, u "CLOCK_READ"), (0, .fieldref 7 26), (0, .nameAndType 27 12), (0, u "RANDOM_DRAWN"), (0, .fieldref 7 29), (0, .nameAndType 30 12), (0, u "TIMER_STARTED"), (0, .fieldref 7 32), (0, .nameAndType 33 12), (0, u "TIMER_FIRED"), (0, .fieldref 7 35), (0, .nameAndType 36 12), (0, u "EVENT_RECEIVED"), (0, .fieldref 7 38), (0, .nameAndType 39 12), (0, u "STEPS_DECLARED"), (0, .fieldref 7 41), (0, .nameAndType 42 12), (0, u "STEP_NOT_APPLICABLE"), (0, .fieldref 7 44), (0, .nameAndType 45 12), (0, u "RUN_COMPLETED"), (0, .fieldref 7 47), (0, .nameAndType 48 12), (0, u "RUN_FAILED"), (0, .integer 2147483647), (0, .methodref 7 51), (0, .nameAndType 52 53), (0, u "isActivityEvent"), (0, u "()Z"), (0, .string 55), (0, u "activity"), (0, .methodref 7 57), (0, .nameAndType 58 59), (0, u "subject"), (0, u "()Ljava/lang/String;"), (0, .methodref 61 62), (0, .class_ 63), (0, .nameAndType 64 65), (0, u "java/lang/String"), (0, u "equals"), (0, u "(Ljava/lang/Object;)Z"), (0, .class_ 67), (0, u "com/example/replay/replay/api/EventTypeIsActivityEventPinLaw"), (2, u "law"), (0, u "(I)Z")] 5

def k1m0 : Method := { name := "<init>", desc := "()V", sig := { parameters := [], returnType := none }, accessFlags := 1, code := none }
def k1c1 : Code := { maxStack := 4, maxLocals := 7, code := code, exceptionTable := #[], attributes := #[] }
def k1m1 : Method := { name := "law", desc := "(I)Z", sig := { parameters := [.int], returnType := some .boolean }, accessFlags := 9, code := some k1c1 }
/-- com/example/replay/replay/api/EventTypeIsActivityEventPinLaw -/
def k1 : Class := { plain "com/example/replay/replay/api/EventTypeIsActivityEventPinLaw" (some 0) with
  accessFlags := 49
  interfaces := #[]
  cf := some (fileOf pool1 66 #[] #[{ accessFlags := 1, nameIndex := 5, descriptorIndex := 6, attributes := #[] }, { accessFlags := 9, nameIndex := 70, descriptorIndex := 71, attributes := #[] }] 49 2 #[] #[])
  fields := #[]
  methods := #[k1m0, k1m1]
  instanceTypes := #[]
  staticTypes := #[]
  resolved := Array.replicate 77 none
  statics := none }

def pool2 : Array CpInfo := pool [(1, .class_ 2), (0, u "java/lang/constant/Constable"), (0, .class_ 4), (0, u "java/lang/Object")] 6

/-- java/lang/constant/Constable -/
def k2 : Class := { plain "java/lang/constant/Constable" (some 0) with
  accessFlags := 1537
  interfaces := #[]
  cf := some (fileOf pool2 1 #[] #[] 1537 3 #[] #[])
  fields := #[]
  methods := #[]
  instanceTypes := #[]
  staticTypes := #[]
  resolved := Array.replicate 11 none
  statics := none }

def pool3 : Array CpInfo := pool [(1, .class_ 2), (0, u "java/lang/Comparable"), (0, .class_ 4), (0, u "java/lang/Object")] 7

/-- java/lang/Comparable -/
def k3 : Class := { plain "java/lang/Comparable" (some 0) with
  accessFlags := 1537
  interfaces := #[]
  cf := some (fileOf pool3 1 #[] #[] 1537 3 #[] #[])
  fields := #[]
  methods := #[]
  instanceTypes := #[]
  staticTypes := #[]
  resolved := Array.replicate 12 none
  statics := none }

def pool4 : Array CpInfo := pool [(1, .class_ 2), (0, u "java/io/Serializable"), (0, .class_ 4), (0, u "java/lang/Object")] 2

/-- java/io/Serializable -/
def k4 : Class := { plain "java/io/Serializable" (some 0) with
  accessFlags := 1537
  interfaces := #[]
  cf := some (fileOf pool4 1 #[] #[] 1537 3 #[] #[])
  fields := #[]
  methods := #[]
  instanceTypes := #[]
  staticTypes := #[]
  resolved := Array.replicate 7 none
  statics := none }

def pool5 : Array CpInfo := pool [(2, .class_ 4), (1, u "java/lang/Enum"), (0, u "name"), (0, u "Ljava/lang/String;"), (2, u "ordinal"), (0, u "I"), (1, .class_ 14), (1, u "java/lang/Object"), (4, u "hash"), (86, .class_ 108), (1, u "java/lang/Enum$EnumDesc"), (2, .class_ 112), (0, u "java/lang/constant/Constable"), (0, .class_ 114), (0, u "java/lang/Comparable"), (0, .class_ 116), (0, u "java/io/Serializable")] 87

/-- java/lang/Enum -/
def k5 : Class := { plain "java/lang/Enum" (some 0) with
  accessFlags := 1057
  interfaces := #[2, 3, 4]
  cf := some (fileOf pool5 2 #[.nestMembers #[106]] #[] 1057 12 #[111, 113, 115] #[{ accessFlags := 18, nameIndex := 5, descriptorIndex := 6, attributes := #[] }, { accessFlags := 18, nameIndex := 9, descriptorIndex := 10, attributes := #[] }, { accessFlags := 2, nameIndex := 19, descriptorIndex := 10, attributes := #[] }])
  fields := #[{ name := "name", type := (.object "java/lang/String"), accessFlags := 18, slot := 0, constantValue := 0 }, { name := "ordinal", type := .int, accessFlags := 18, slot := 1, constantValue := 0 }, { name := "hash", type := .int, accessFlags := 2, slot := 2, constantValue := 0 }]
  methods := #[]
  instanceTypes := #[(.object "java/lang/String"), .int, .int]
  staticTypes := #[]
  resolved := Array.replicate 204 none
  statics := none }

def pool6 : Array CpInfo := pool [(1, .class_ 2), (0, u "com/example/replay/replay/api/EventType"), (2, u "RUN_STARTED"), (0, u "Lcom/example/replay/replay/api/EventType;"), (0, .fieldref 1 8), (0, .nameAndType 9 6), (0, u "ACTIVITY_SCHEDULED"), (0, .fieldref 1 11), (0, .nameAndType 12 6), (0, u "ACTIVITY_COMPLETED"), (0, .fieldref 1 14), (0, .nameAndType 15 6), (0, u "ACTIVITY_FAILED"), (2, u "CLOCK_READ"), (2, u "RANDOM_DRAWN"), (2, u "TIMER_STARTED"), (2, u "TIMER_FIRED"), (2, u "EVENT_RECEIVED"), (2, u "STEPS_DECLARED"), (2, u "STEP_NOT_APPLICABLE"), (2, u "RUN_COMPLETED"), (2, u "RUN_FAILED"), (2, u "$VALUES"), (0, u "[Lcom/example/replay/replay/api/EventType;"), (6, .class_ 55), (1, u "java/lang/Enum"), (8, u "label"), (0, u "Ljava/lang/String;"), (0, .fieldref 1 67), (0, .nameAndType 68 65), (0, u "subject"), (19, .methodref 1 89), (0, .nameAndType 90 91), (0, u "isActivityOutcome"), (0, u "()Z"), (57, u "()Ljava/lang/String;"), (2, u "isActivityEvent")] 20

def k6c0 : Code := { maxStack := 1, maxLocals := 1, code := prog_4_method_5_code, exceptionTable := #[], attributes := #[] }
def k6m0 : Method := { name := "subject", desc := "()Ljava/lang/String;", sig := { parameters := [], returnType := some (.object "java/lang/String") }, accessFlags := 1, code := some k6c0 }
def k6c1 : Code := { maxStack := 2, maxLocals := 1, code := prog_4_method_7_code, exceptionTable := #[], attributes := #[] }
def k6m1 : Method := { name := "isActivityEvent", desc := "()Z", sig := { parameters := [], returnType := some .boolean }, accessFlags := 1, code := some k6c1 }
def k6c2 : Code := { maxStack := 2, maxLocals := 1, code := prog_4_method_8_code, exceptionTable := #[], attributes := #[] }
def k6m2 : Method := { name := "isActivityOutcome", desc := "()Z", sig := { parameters := [], returnType := some .boolean }, accessFlags := 1, code := some k6c2 }
/-- com/example/replay/replay/api/EventType -/
def k6 : Class := { plain "com/example/replay/replay/api/EventType" (some 5) with
  accessFlags := 16433
  interfaces := #[]
  cf := some (fileOf pool6 1 #[] #[{ accessFlags := 1, nameIndex := 68, descriptorIndex := 149, attributes := #[] }, { accessFlags := 1, nameIndex := 152, descriptorIndex := 91, attributes := #[] }, { accessFlags := 1, nameIndex := 90, descriptorIndex := 91, attributes := #[] }] 16433 53 #[] #[{ accessFlags := 16409, nameIndex := 5, descriptorIndex := 6, attributes := #[] }, { accessFlags := 16409, nameIndex := 9, descriptorIndex := 6, attributes := #[] }, { accessFlags := 16409, nameIndex := 12, descriptorIndex := 6, attributes := #[] }, { accessFlags := 16409, nameIndex := 15, descriptorIndex := 6, attributes := #[] }, { accessFlags := 16409, nameIndex := 18, descriptorIndex := 6, attributes := #[] }, { accessFlags := 16409, nameIndex := 21, descriptorIndex := 6, attributes := #[] }, { accessFlags := 16409, nameIndex := 24, descriptorIndex := 6, attributes := #[] }, { accessFlags := 16409, nameIndex := 27, descriptorIndex := 6, attributes := #[] }, { accessFlags := 16409, nameIndex := 30, descriptorIndex := 6, attributes := #[] }, { accessFlags := 16409, nameIndex := 33, descriptorIndex := 6, attributes := #[] }, { accessFlags := 16409, nameIndex := 36, descriptorIndex := 6, attributes := #[] }, { accessFlags := 16409, nameIndex := 39, descriptorIndex := 6, attributes := #[] }, { accessFlags := 16409, nameIndex := 42, descriptorIndex := 6, attributes := #[] }, { accessFlags := 18, nameIndex := 64, descriptorIndex := 65, attributes := #[] }, { accessFlags := 18, nameIndex := 68, descriptorIndex := 65, attributes := #[] }, { accessFlags := 4122, nameIndex := 45, descriptorIndex := 46, attributes := #[] }])
  fields := #[{ name := "RUN_STARTED", type := (.object "com/example/replay/replay/api/EventType"), accessFlags := 16409, slot := 0, constantValue := 0 }, { name := "ACTIVITY_SCHEDULED", type := (.object "com/example/replay/replay/api/EventType"), accessFlags := 16409, slot := 1, constantValue := 0 }, { name := "ACTIVITY_COMPLETED", type := (.object "com/example/replay/replay/api/EventType"), accessFlags := 16409, slot := 2, constantValue := 0 }, { name := "ACTIVITY_FAILED", type := (.object "com/example/replay/replay/api/EventType"), accessFlags := 16409, slot := 3, constantValue := 0 }, { name := "CLOCK_READ", type := (.object "com/example/replay/replay/api/EventType"), accessFlags := 16409, slot := 4, constantValue := 0 }, { name := "RANDOM_DRAWN", type := (.object "com/example/replay/replay/api/EventType"), accessFlags := 16409, slot := 5, constantValue := 0 }, { name := "TIMER_STARTED", type := (.object "com/example/replay/replay/api/EventType"), accessFlags := 16409, slot := 6, constantValue := 0 }, { name := "TIMER_FIRED", type := (.object "com/example/replay/replay/api/EventType"), accessFlags := 16409, slot := 7, constantValue := 0 }, { name := "EVENT_RECEIVED", type := (.object "com/example/replay/replay/api/EventType"), accessFlags := 16409, slot := 8, constantValue := 0 }, { name := "STEPS_DECLARED", type := (.object "com/example/replay/replay/api/EventType"), accessFlags := 16409, slot := 9, constantValue := 0 }, { name := "STEP_NOT_APPLICABLE", type := (.object "com/example/replay/replay/api/EventType"), accessFlags := 16409, slot := 10, constantValue := 0 }, { name := "RUN_COMPLETED", type := (.object "com/example/replay/replay/api/EventType"), accessFlags := 16409, slot := 11, constantValue := 0 }, { name := "RUN_FAILED", type := (.object "com/example/replay/replay/api/EventType"), accessFlags := 16409, slot := 12, constantValue := 0 }, { name := "label", type := (.object "java/lang/String"), accessFlags := 18, slot := 3, constantValue := 0 }, { name := "subject", type := (.object "java/lang/String"), accessFlags := 18, slot := 4, constantValue := 0 }, { name := "$VALUES", type := (.array (.object "com/example/replay/replay/api/EventType")), accessFlags := 4122, slot := 13, constantValue := 0 }]
  methods := #[k6m0, k6m1, k6m2]
  instanceTypes := #[(.object "java/lang/String"), .int, .int, (.object "java/lang/String"), (.object "java/lang/String")]
  staticTypes := #[(.object "com/example/replay/replay/api/EventType"), (.object "com/example/replay/replay/api/EventType"), (.object "com/example/replay/replay/api/EventType"), (.object "com/example/replay/replay/api/EventType"), (.object "com/example/replay/replay/api/EventType"), (.object "com/example/replay/replay/api/EventType"), (.object "com/example/replay/replay/api/EventType"), (.object "com/example/replay/replay/api/EventType"), (.object "com/example/replay/replay/api/EventType"), (.object "com/example/replay/replay/api/EventType"), (.object "com/example/replay/replay/api/EventType"), (.object "com/example/replay/replay/api/EventType"), (.object "com/example/replay/replay/api/EventType"), (.array (.object "com/example/replay/replay/api/EventType"))]
  resolved := Array.replicate 173 none
  statics := some 0 }

def pool7 : Array CpInfo := pool [(2, .class_ 4), (1, u "java/lang/CharSequence"), (42, .class_ 48), (0, u "java/lang/CharSequence$1CodePointIterator"), (10, .class_ 60), (0, u "java/lang/CharSequence$1CharIterator"), (5, .class_ 67), (0, u "java/lang/Object")] 63

/-- java/lang/CharSequence -/
def k7 : Class := { plain "java/lang/CharSequence" (some 0) with
  accessFlags := 1537
  interfaces := #[]
  cf := some (fileOf pool7 2 #[.nestMembers #[47, 59]] #[] 1537 66 #[] #[])
  fields := #[]
  methods := #[]
  instanceTypes := #[]
  staticTypes := #[]
  resolved := Array.replicate 131 none
  statics := none }

def pool8 : Array CpInfo := pool [(1, .class_ 2), (0, u "java/lang/constant/ConstantDesc"), (0, .class_ 4), (0, u "java/lang/Object")] 32

/-- java/lang/constant/ConstantDesc -/
def k8 : Class := { plain "java/lang/constant/ConstantDesc" (some 0) with
  accessFlags := 1537
  interfaces := #[]
  cf := some (fileOf pool8 1 #[] #[] 1537 3 #[] #[])
  fields := #[]
  methods := #[]
  instanceTypes := #[]
  staticTypes := #[]
  resolved := Array.replicate 37 none
  statics := none }

def pool9 : Array CpInfo := pool [(2, .class_ 4), (1, u "java/lang/Object"), (0, u "<init>"), (0, u "()V"), (2, .fieldref 10 11), (0, .class_ 12), (0, .nameAndType 13 14), (0, u "java/lang/String"), (0, u "value"), (0, u "[B"), (0, .fieldref 10 16), (0, .nameAndType 17 18), (0, u "coder"), (0, u "B"), (2, u "hash"), (0, u "I"), (2, u "hashIsZero"), (0, u "Z"), (11, .fieldref 10 39), (0, .nameAndType 40 26), (0, u "COMPACT_STRINGS"), (66, .class_ 109), (1, u "java/lang/StringLatin1"), (431, .methodref 107 542), (0, .nameAndType 543 544), (0, u "equals"), (0, u "([B[B)Z"), (28, u "(Ljava/lang/Object;)Z"), (1, .class_ 576), (0, u "java/lang/CharSequence"), (22, u "CASE_INSENSITIVE_ORDER"), (0, u "Ljava/util/Comparator;"), (500, u "serialPersistentFields"), (0, u "[Ljava/io/ObjectStreamField;"), (0, .class_ 1104), (0, u "java/lang/String$CaseInsensitiveComparator"), (1, .class_ 1107), (0, u "java/io/Serializable"), (0, .class_ 1109), (0, u "java/lang/Comparable"), (0, .class_ 1111), (0, u "java/lang/constant/Constable"), (0, .class_ 1113), (0, u "java/lang/constant/ConstantDesc"), (2, u "serialVersionUID"), (0, u "J"), (3, u "REPL"), (0, u "C"), (2, u "LATIN1"), (1, u "UTF16")] 323

def k9m0 : Method := { name := "<init>", desc := "()V", sig := { parameters := [], returnType := none }, accessFlags := 1, code := none }
def k9c1 : Code := { maxStack := 2, maxLocals := 3, code := jdk_42_method_66_code, exceptionTable := #[], attributes := #[] }
def k9m1 : Method := { name := "equals", desc := "(Ljava/lang/Object;)Z", sig := { parameters := [(.object "java/lang/Object")], returnType := some .boolean }, accessFlags := 1, code := some k9c1 }
/-- java/lang/String -/
def k9 : Class := { plain "java/lang/String" (some 0) with
  accessFlags := 49
  interfaces := #[4, 3, 7, 2, 8]
  cf := some (fileOf pool9 10 #[.nestMembers #[1103]] #[{ accessFlags := 1, nameIndex := 5, descriptorIndex := 6, attributes := #[] }, { accessFlags := 1, nameIndex := 543, descriptorIndex := 573, attributes := #[] }] 49 2 #[1106, 1108, 575, 1110, 1112] #[{ accessFlags := 18, nameIndex := 13, descriptorIndex := 14, attributes := #[] }, { accessFlags := 18, nameIndex := 17, descriptorIndex := 18, attributes := #[] }, { accessFlags := 2, nameIndex := 21, descriptorIndex := 22, attributes := #[] }, { accessFlags := 2, nameIndex := 25, descriptorIndex := 26, attributes := #[] }, { accessFlags := 26, nameIndex := 1116, descriptorIndex := 1117, attributes := #[] }, { accessFlags := 24, nameIndex := 40, descriptorIndex := 26, attributes := #[] }, { accessFlags := 26, nameIndex := 1101, descriptorIndex := 1102, attributes := #[] }, { accessFlags := 26, nameIndex := 1121, descriptorIndex := 1122, attributes := #[] }, { accessFlags := 25, nameIndex := 599, descriptorIndex := 600, attributes := #[] }, { accessFlags := 24, nameIndex := 1125, descriptorIndex := 18, attributes := #[] }, { accessFlags := 24, nameIndex := 1127, descriptorIndex := 18, attributes := #[] }])
  fields := #[{ name := "value", type := (.array .byte), accessFlags := 18, slot := 0, constantValue := 0 }, { name := "coder", type := .byte, accessFlags := 18, slot := 1, constantValue := 0 }, { name := "hash", type := .int, accessFlags := 2, slot := 2, constantValue := 0 }, { name := "hashIsZero", type := .boolean, accessFlags := 2, slot := 3, constantValue := 0 }, { name := "serialVersionUID", type := .long, accessFlags := 26, slot := 0, constantValue := 0 }, { name := "COMPACT_STRINGS", type := .boolean, accessFlags := 24, slot := 1, constantValue := 0 }, { name := "serialPersistentFields", type := (.array (.object "java/io/ObjectStreamField")), accessFlags := 26, slot := 2, constantValue := 0 }, { name := "REPL", type := .char, accessFlags := 26, slot := 3, constantValue := 0 }, { name := "CASE_INSENSITIVE_ORDER", type := (.object "java/util/Comparator"), accessFlags := 25, slot := 4, constantValue := 0 }, { name := "LATIN1", type := .byte, accessFlags := 24, slot := 5, constantValue := 0 }, { name := "UTF16", type := .byte, accessFlags := 24, slot := 6, constantValue := 0 }]
  methods := #[k9m0, k9m1]
  instanceTypes := #[(.array .byte), .byte, .int, .boolean]
  staticTypes := #[.long, .boolean, (.array (.object "java/io/ObjectStreamField")), .char, (.object "java/util/Comparator"), .byte, .byte]
  resolved := Array.replicate 1451 none
  statics := some 1 }

def pool10 : Array CpInfo := pool [(4, .class_ 6), (1, u "java/lang/Object"), (0, u "<init>"), (0, u "()V"), (5, .class_ 16), (1, u "java/lang/StringLatin1"), (104, u "$assertionsDisabled"), (0, u "Z"), (98, .class_ 223), (1, u "java/lang/StringLatin1$LinesSpliterator"), (57, u "equals"), (0, u "([B[B)Z"), (107, .class_ 391), (0, u "java/lang/StringLatin1$CharsSpliterator")] 3

def k10m0 : Method := { name := "<init>", desc := "()V", sig := { parameters := [], returnType := none }, accessFlags := 0, code := none }
def k10c1 : Code := { maxStack := 3, maxLocals := 3, code := jdk_43_method_13_code, exceptionTable := #[], attributes := #[] }
def k10m1 : Method := { name := "equals", desc := "([B[B)Z", sig := { parameters := [(.array .byte), (.array .byte)], returnType := some .boolean }, accessFlags := 9, code := some k10c1 }
/-- java/lang/StringLatin1 -/
def k10 : Class := { plain "java/lang/StringLatin1" (some 0) with
  accessFlags := 48
  interfaces := #[]
  cf := some (fileOf pool10 14 #[.nestMembers #[390, 221]] #[{ accessFlags := 0, nameIndex := 7, descriptorIndex := 8, attributes := #[] }, { accessFlags := 9, nameIndex := 281, descriptorIndex := 282, attributes := #[] }] 48 4 #[] #[{ accessFlags := 4120, nameIndex := 121, descriptorIndex := 122, attributes := #[] }])
  fields := #[{ name := "$assertionsDisabled", type := .boolean, accessFlags := 4120, slot := 0, constantValue := 0 }]
  methods := #[k10m0, k10m1]
  instanceTypes := #[]
  staticTypes := #[.boolean]
  resolved := Array.replicate 395 none
  statics := none }

def pool11 : Array CpInfo := pool [(2, .class_ 4), (1, u "java/lang/Object"), (0, u "<init>"), (0, u "()V"), (17, .class_ 26), (1, u "jdk/internal/util/Preconditions"), (28, .class_ 56), (0, u "jdk/internal/util/Preconditions$4"), (57, .class_ 115), (0, u "jdk/internal/util/Preconditions$1"), (7, u "SIOOBE_FORMATTER"), (0, u "Ljava/util/function/BiFunction;"), (0, .class_ 126), (0, u "jdk/internal/util/Preconditions$2"), (3, u "AIOOBE_FORMATTER"), (0, .class_ 132), (0, u "jdk/internal/util/Preconditions$3"), (3, u "IOOBE_FORMATTER")] 57

def k11m0 : Method := { name := "<init>", desc := "()V", sig := { parameters := [], returnType := none }, accessFlags := 1, code := none }
/-- jdk/internal/util/Preconditions -/
def k11 : Class := { plain "jdk/internal/util/Preconditions" (some 0) with
  accessFlags := 33
  interfaces := #[]
  cf := some (fileOf pool11 24 #[.nestMembers #[55, 131, 125, 114]] #[{ accessFlags := 1, nameIndex := 5, descriptorIndex := 6, attributes := #[] }] 33 2 #[] #[{ accessFlags := 25, nameIndex := 123, descriptorIndex := 124, attributes := #[] }, { accessFlags := 25, nameIndex := 130, descriptorIndex := 124, attributes := #[] }, { accessFlags := 25, nameIndex := 136, descriptorIndex := 124, attributes := #[] }])
  fields := #[{ name := "SIOOBE_FORMATTER", type := (.object "java/util/function/BiFunction"), accessFlags := 25, slot := 0, constantValue := 0 }, { name := "AIOOBE_FORMATTER", type := (.object "java/util/function/BiFunction"), accessFlags := 25, slot := 1, constantValue := 0 }, { name := "IOOBE_FORMATTER", type := (.object "java/util/function/BiFunction"), accessFlags := 25, slot := 2, constantValue := 0 }]
  methods := #[k11m0]
  instanceTypes := #[]
  staticTypes := #[(.object "java/util/function/BiFunction"), (.object "java/util/function/BiFunction"), (.object "java/util/function/BiFunction")]
  resolved := Array.replicate 194 none
  statics := some 2 }

def pool12 : Array CpInfo := pool [(9, u "<init>"), (6, .class_ 18), (1, u "java/lang/Object"), (0, u "()V"), (1, .class_ 23), (1, u "jdk/internal/util/ArraysSupport"), (0, u "LOG2_ARRAY_LONG_INDEX_SCALE"), (0, u "I"), (2, u "U"), (0, u "Ljdk/internal/misc/Unsafe;"), (8, u "BIG_ENDIAN"), (0, u "Z"), (8, u "LOG2_BYTE_BIT_SIZE"), (4, u "LOG2_ARRAY_INT_INDEX_SCALE"), (54, u "JLA"), (0, u "Ljdk/internal/access/JavaLangAccess;"), (11, u "LOG2_ARRAY_BOOLEAN_INDEX_SCALE"), (9, u "LOG2_ARRAY_BYTE_INDEX_SCALE"), (5, u "LOG2_ARRAY_CHAR_INDEX_SCALE"), (5, u "LOG2_ARRAY_SHORT_INDEX_SCALE"), (18, u "LOG2_ARRAY_FLOAT_INDEX_SCALE"), (24, u "LOG2_ARRAY_DOUBLE_INDEX_SCALE"), (89, u "T_BOOLEAN"), (2, u "T_CHAR"), (1, u "T_FLOAT"), (1, u "T_DOUBLE"), (1, u "T_BYTE"), (1, u "T_SHORT"), (1, u "T_INT"), (1, u "T_LONG"), (1, u "SOFT_MAX_ARRAY_LENGTH")] 83

def k12m0 : Method := { name := "<init>", desc := "()V", sig := { parameters := [], returnType := none }, accessFlags := 2, code := none }
/-- jdk/internal/util/ArraysSupport -/
def k12 : Class := { plain "jdk/internal/util/ArraysSupport" (some 0) with
  accessFlags := 33
  interfaces := #[]
  cf := some (fileOf pool12 21 #[] #[{ accessFlags := 2, nameIndex := 9, descriptorIndex := 19, attributes := #[] }] 33 16 #[] #[{ accessFlags := 24, nameIndex := 28, descriptorIndex := 29, attributes := #[] }, { accessFlags := 26, nameIndex := 38, descriptorIndex := 39, attributes := #[] }, { accessFlags := 25, nameIndex := 121, descriptorIndex := 25, attributes := #[] }, { accessFlags := 25, nameIndex := 131, descriptorIndex := 25, attributes := #[] }, { accessFlags := 25, nameIndex := 137, descriptorIndex := 25, attributes := #[] }, { accessFlags := 25, nameIndex := 143, descriptorIndex := 25, attributes := #[] }, { accessFlags := 25, nameIndex := 53, descriptorIndex := 25, attributes := #[] }, { accessFlags := 25, nameIndex := 24, descriptorIndex := 25, attributes := #[] }, { accessFlags := 25, nameIndex := 162, descriptorIndex := 25, attributes := #[] }, { accessFlags := 25, nameIndex := 187, descriptorIndex := 25, attributes := #[] }, { accessFlags := 26, nameIndex := 48, descriptorIndex := 25, attributes := #[] }, { accessFlags := 25, nameIndex := 277, descriptorIndex := 25, attributes := #[] }, { accessFlags := 25, nameIndex := 280, descriptorIndex := 25, attributes := #[] }, { accessFlags := 25, nameIndex := 282, descriptorIndex := 25, attributes := #[] }, { accessFlags := 25, nameIndex := 284, descriptorIndex := 25, attributes := #[] }, { accessFlags := 25, nameIndex := 286, descriptorIndex := 25, attributes := #[] }, { accessFlags := 25, nameIndex := 288, descriptorIndex := 25, attributes := #[] }, { accessFlags := 25, nameIndex := 290, descriptorIndex := 25, attributes := #[] }, { accessFlags := 25, nameIndex := 292, descriptorIndex := 25, attributes := #[] }, { accessFlags := 26, nameIndex := 108, descriptorIndex := 109, attributes := #[] }, { accessFlags := 25, nameIndex := 294, descriptorIndex := 25, attributes := #[] }])
  fields := #[{ name := "U", type := (.object "jdk/internal/misc/Unsafe"), accessFlags := 24, slot := 0, constantValue := 0 }, { name := "BIG_ENDIAN", type := .boolean, accessFlags := 26, slot := 1, constantValue := 0 }, { name := "LOG2_ARRAY_BOOLEAN_INDEX_SCALE", type := .int, accessFlags := 25, slot := 2, constantValue := 0 }, { name := "LOG2_ARRAY_BYTE_INDEX_SCALE", type := .int, accessFlags := 25, slot := 3, constantValue := 0 }, { name := "LOG2_ARRAY_CHAR_INDEX_SCALE", type := .int, accessFlags := 25, slot := 4, constantValue := 0 }, { name := "LOG2_ARRAY_SHORT_INDEX_SCALE", type := .int, accessFlags := 25, slot := 5, constantValue := 0 }, { name := "LOG2_ARRAY_INT_INDEX_SCALE", type := .int, accessFlags := 25, slot := 6, constantValue := 0 }, { name := "LOG2_ARRAY_LONG_INDEX_SCALE", type := .int, accessFlags := 25, slot := 7, constantValue := 0 }, { name := "LOG2_ARRAY_FLOAT_INDEX_SCALE", type := .int, accessFlags := 25, slot := 8, constantValue := 0 }, { name := "LOG2_ARRAY_DOUBLE_INDEX_SCALE", type := .int, accessFlags := 25, slot := 9, constantValue := 0 }, { name := "LOG2_BYTE_BIT_SIZE", type := .int, accessFlags := 26, slot := 10, constantValue := 0 }, { name := "T_BOOLEAN", type := .int, accessFlags := 25, slot := 11, constantValue := 0 }, { name := "T_CHAR", type := .int, accessFlags := 25, slot := 12, constantValue := 0 }, { name := "T_FLOAT", type := .int, accessFlags := 25, slot := 13, constantValue := 0 }, { name := "T_DOUBLE", type := .int, accessFlags := 25, slot := 14, constantValue := 0 }, { name := "T_BYTE", type := .int, accessFlags := 25, slot := 15, constantValue := 0 }, { name := "T_SHORT", type := .int, accessFlags := 25, slot := 16, constantValue := 0 }, { name := "T_INT", type := .int, accessFlags := 25, slot := 17, constantValue := 0 }, { name := "T_LONG", type := .int, accessFlags := 25, slot := 18, constantValue := 0 }, { name := "JLA", type := (.object "jdk/internal/access/JavaLangAccess"), accessFlags := 26, slot := 19, constantValue := 0 }, { name := "SOFT_MAX_ARRAY_LENGTH", type := .int, accessFlags := 25, slot := 20, constantValue := 0 }]
  methods := #[k12m0]
  instanceTypes := #[]
  staticTypes := #[(.object "jdk/internal/misc/Unsafe"), .boolean, .int, .int, .int, .int, .int, .int, .int, .int, .int, .int, .int, .int, .int, .int, .int, .int, .int, (.object "jdk/internal/access/JavaLangAccess"), .int]
  resolved := Array.replicate 378 none
  statics := none }

def pool13 : Array CpInfo := pool [(1, u "java/lang/Cloneable"), (0, .class_ 1), (0, u "java/lang/Object"), (0, .class_ 3)] 3

/-- java/lang/Cloneable -/
def k13 : Class := { plain "java/lang/Cloneable" (some 0) with
  accessFlags := 1537
  interfaces := #[]
  cf := some (fileOf pool13 2 #[] #[] 1537 4 #[] #[])
  fields := #[]
  methods := #[]
  instanceTypes := #[]
  staticTypes := #[]
  resolved := Array.replicate 8 none
  statics := none }

/-- the primitive byte -/
def k14 : Class := { plain "byte" none with kind := .primitive 'B', accessFlags := 0x411 }
/-- [B -/
def k15 : Class := { plain "[B" (some 0) with kind := .array 14 .byte, interfaces := #[13, 4], accessFlags := 1041 }

/-- the primitive int -/
def k16 : Class := { plain "int" none with kind := .primitive 'I', accessFlags := 0x411 }
/-- [I -/
def k17 : Class := { plain "[I" (some 0) with kind := .array 16 .int, interfaces := #[13, 4], accessFlags := 1041 }

/-- [Lcom/example/replay/replay/api/EventType; -/
def k18 : Class := { plain "[Lcom/example/replay/replay/api/EventType;" (some 0) with kind := .array 6 (.object "com/example/replay/replay/api/EventType"), interfaces := #[13, 4], accessFlags := 1041 }

def heap : Heap := #[{ cls := 6, slots := #[.ref 9, .ref 10, .ref 11, .ref 12, .ref 13, .ref 14, .ref 15, .ref 16, .ref 17, .ref 18, .ref 19, .ref 20, .ref 21, .null], vm := .statics 6 },
  { cls := 9, slots := #[.long 0, .int 1, .null, .int 0, .null, .int 0, .int 0], vm := .statics 9 },
  { cls := 11, slots := #[.null, .null, .null], vm := .statics 11 },
  { cls := 15, slots := #[.int 97, .int 99, .int 116, .int 105, .int 118, .int 105, .int 116, .int 121], vm := .none },
  { cls := 15, slots := #[.int 101, .int 118, .int 101, .int 110, .int 116], vm := .none },
  { cls := 15, slots := #[.int 115, .int 116, .int 101, .int 112], vm := .none },
  { cls := 9, slots := #[.ref 3, .int 0, .int 0, .int 0], vm := .none },
  { cls := 9, slots := #[.ref 4, .int 0, .int 0, .int 0], vm := .none },
  { cls := 9, slots := #[.ref 5, .int 0, .int 0, .int 0], vm := .none },
  { cls := 6, slots := #[.null, .int 0, .int 0, .null, .null], vm := .none },
  { cls := 6, slots := #[.null, .int 1, .int 0, .null, .ref 6], vm := .none },
  { cls := 6, slots := #[.null, .int 2, .int 0, .null, .ref 6], vm := .none },
  { cls := 6, slots := #[.null, .int 3, .int 0, .null, .ref 6], vm := .none },
  { cls := 6, slots := #[.null, .int 4, .int 0, .null, .null], vm := .none },
  { cls := 6, slots := #[.null, .int 5, .int 0, .null, .null], vm := .none },
  { cls := 6, slots := #[.null, .int 6, .int 0, .null, .ref 7], vm := .none },
  { cls := 6, slots := #[.null, .int 7, .int 0, .null, .null], vm := .none },
  { cls := 6, slots := #[.null, .int 8, .int 0, .null, .ref 7], vm := .none },
  { cls := 6, slots := #[.null, .int 9, .int 0, .null, .null], vm := .none },
  { cls := 6, slots := #[.null, .int 10, .int 0, .null, .ref 8], vm := .none },
  { cls := 6, slots := #[.null, .int 11, .int 0, .null, .null], vm := .none },
  { cls := 6, slots := #[.null, .int 12, .int 0, .null, .null], vm := .none }]
def classes : Array Class := #[k0, k1, k2, k3, k4, k5, k6, k7, k8, k9, k10, k11, k12, k13, k14, k15, k16, k17, k18]
def interned : List (Array UInt16 × Addr) := []
def slotsUsed : Nat := 118
def theMethod : MethodId := ⟨1, 1⟩
def args0 : Array Value := #[.int 5]
def aboutOver (below : List Frame) : State where
  vm := { classes := classes, interned := interned.toArray }
  heap := heap
  slotsUsed := slotsUsed
  threads := #[{ frames := .invoking theMethod args0 :: below }]
def below0 : List Frame := [.native { method := ⟨0, 0⟩, args := #[] }]
def about1 : State := aboutOver below0
def p0 : Program := .bare "" "" ""
def e0 : Env := launch0.env 0 0 0
theorem w_frames : about1.frames = Frame.invoking theMethod args0 :: below0 := rfl
set_option maxRecDepth 65536 in
theorem w_args : argsFit about1.vm theMethod args0 = true := by decide +kernel
set_option maxRecDepth 65536 in
theorem w_heap : heapFits about1 = true := by decide +kernel
set_option maxRecDepth 65536 in
theorem w_runnable : about1.curStatus? = some .runnable := by decide +kernel
set_option maxRecDepth 65536 in
theorem w_alone : about1.alone = true := by decide +kernel
set_option maxRecDepth 65536 in
theorem w_named : about1.methodNamed? x = some theMethod := by decide +kernel
set_option maxRecDepth 65536 in
theorem w_hears : about1.hears theMethod below0 = true := by decide +kernel
set_option maxRecDepth 65536 in
theorem w_ripe : about1.ripe theMethod args0 below0 = true := by decide +kernel
theorem w_running : about1.status = .running := rfl
set_option maxRecDepth 65536 in
theorem w_room : about1.hasRoom e0.platform room_1 = true :=
  launch0.hasRoom_least _ room_1 (by decide +kernel) (by decide +kernel) (by decide +kernel) (by decide +kernel) (by decide +kernel) (by decide +kernel)
theorem allAtoms_all (ts : List Jvm.Cond) (a : Array Jvm.Value) (st : Jvm.State) : (allAtoms ts).before a st = ts.all (fun c => c.before a st) := by
  induction ts with
  | nil => rfl
  | cons c t ih =>
    show (Jvm.Cond.and c (allAtoms t)).before a st = _
    rw [Jvm.Cond.before_and, ih, List.all_cons]
def words1 : List Jvm.Cond := Jvm.Cond.code x code maxLocals ret :: tables_1
/-- a 'code' word, met by the world's own term for the bytes: nothing is compared byte by byte -/
theorem code_word {y : MethodName} {bytes : ByteArray} {mx : Nat} {rt : Option FieldType} {a : Array Value} {s : State} {m : MethodId} {meth : Method} {c : Code} (h1 : s.methodNamed? y = some m) (h2 : s.vm.method? m = some meth) (h3 : meth.code = some c) (h4 : c.code = bytes)
    (h5 : (c.maxLocals == mx && c.exceptionTable.isEmpty && decide (c.maxStack ≤ mostOperands) && decide (meth.sig.returnType = rt) && !meth.locks && decide (parseMethodDescriptor y.desc = some meth.sig)) = true) : (Jvm.Cond.code y bytes mx rt).before a s = true := by
  simp only [Bool.and_eq_true, beq_iff_eq, Bool.not_eq_true', decide_eq_true_eq] at h5
  obtain ⟨⟨⟨⟨⟨g1, g2⟩, g3⟩, g4⟩, g5⟩, g6⟩ := h5
  simp [Cond.before, Cond.holds, Cond.value, h1, h2, h3, h4, g1, g2, g3, g4, g5, g6]
def isCode : Jvm.Cond → Bool
  | .code _ _ _ _ => true
  | _ => false
theorem all_split {L : List Jvm.Cond} {P : Jvm.Cond → Bool} (h1 : L.all (fun c => isCode c || P c) = true) (h2 : ∀ c ∈ L.filter isCode, P c = true) : L.all P = true := by
  refine List.all_eq_true.mpr fun c hc => ?_
  have h := List.all_eq_true.mp h1 c hc
  rcases Bool.eq_false_or_eq_true (isCode c) with hi | hi
  · exact h2 c (List.mem_filter.mpr ⟨hc, hi⟩)
  · simpa [hi] using h
set_option maxRecDepth 65536 in
theorem w_c0 : (Jvm.Cond.code x code maxLocals ret).before args0 about1 = true := code_word (m := ⟨1, 1⟩) (meth := k1m1) (c := k1c1) (by decide +kernel) rfl rfl rfl (by decide +kernel)
set_option maxRecDepth 65536 in
theorem w_c1 : (Jvm.Cond.code ({ cls := "com/example/replay/replay/api/EventType", name := "isActivityEvent", desc := "()Z" } : Jvm.MethodName) prog_4_method_7_code (1 : Nat) (Option.some Jvm.ClassFile.FieldType.boolean)).before args0 about1 = true := code_word (m := ⟨6, 1⟩) (meth := k6m1) (c := k6c1) (by decide +kernel) rfl rfl rfl (by decide +kernel)
set_option maxRecDepth 65536 in
theorem w_c2 : (Jvm.Cond.code ({ cls := "com/example/replay/replay/api/EventType", name := "isActivityOutcome", desc := "()Z" } : Jvm.MethodName) prog_4_method_8_code (1 : Nat) (Option.some Jvm.ClassFile.FieldType.boolean)).before args0 about1 = true := code_word (m := ⟨6, 2⟩) (meth := k6m2) (c := k6c2) (by decide +kernel) rfl rfl rfl (by decide +kernel)
set_option maxRecDepth 65536 in
theorem w_c3 : (Jvm.Cond.code ({ cls := "com/example/replay/replay/api/EventType", name := "subject", desc := "()Ljava/lang/String;" } : Jvm.MethodName) prog_4_method_5_code (1 : Nat) (Option.some (Jvm.ClassFile.FieldType.object "java/lang/String"))).before args0 about1 = true := code_word (m := ⟨6, 0⟩) (meth := k6m0) (c := k6c0) (by decide +kernel) rfl rfl rfl (by decide +kernel)
set_option maxRecDepth 65536 in
theorem w_c4 : (Jvm.Cond.code ({ cls := "java/lang/String", name := "equals", desc := "(Ljava/lang/Object;)Z" } : Jvm.MethodName) jdk_42_method_66_code (3 : Nat) (Option.some Jvm.ClassFile.FieldType.boolean)).before args0 about1 = true := code_word (m := ⟨9, 1⟩) (meth := k9m1) (c := k9c1) (by decide +kernel) rfl rfl rfl (by decide +kernel)
set_option maxRecDepth 65536 in
theorem w_c5 : (Jvm.Cond.code ({ cls := "java/lang/StringLatin1", name := "equals", desc := "([B[B)Z" } : Jvm.MethodName) jdk_43_method_13_code (3 : Nat) (Option.some Jvm.ClassFile.FieldType.boolean)).before args0 about1 = true := code_word (m := ⟨10, 1⟩) (meth := k10m1) (c := k10c1) (by decide +kernel) rfl rfl rfl (by decide +kernel)
def codes1 : List Jvm.Cond := [Jvm.Cond.code x code maxLocals ret, Jvm.Cond.code ({ cls := "com/example/replay/replay/api/EventType", name := "isActivityEvent", desc := "()Z" } : Jvm.MethodName) prog_4_method_7_code (1 : Nat) (Option.some Jvm.ClassFile.FieldType.boolean), Jvm.Cond.code ({ cls := "com/example/replay/replay/api/EventType", name := "isActivityOutcome", desc := "()Z" } : Jvm.MethodName) prog_4_method_8_code (1 : Nat) (Option.some Jvm.ClassFile.FieldType.boolean), Jvm.Cond.code ({ cls := "com/example/replay/replay/api/EventType", name := "subject", desc := "()Ljava/lang/String;" } : Jvm.MethodName) prog_4_method_5_code (1 : Nat) (Option.some (Jvm.ClassFile.FieldType.object "java/lang/String")), Jvm.Cond.code ({ cls := "java/lang/String", name := "equals", desc := "(Ljava/lang/Object;)Z" } : Jvm.MethodName) jdk_42_method_66_code (3 : Nat) (Option.some Jvm.ClassFile.FieldType.boolean), Jvm.Cond.code ({ cls := "java/lang/StringLatin1", name := "equals", desc := "([B[B)Z" } : Jvm.MethodName) jdk_43_method_13_code (3 : Nat) (Option.some Jvm.ClassFile.FieldType.boolean)]
set_option maxRecDepth 65536 in
theorem codes_eq : words1.filter isCode = codes1 := rfl
theorem w_codes : ∀ c ∈ words1.filter isCode, c.before args0 about1 = true := by
  rw [codes_eq]
  intro c hc
  simp only [codes1, List.mem_cons, List.not_mem_nil, or_false] at hc
  rcases hc with rfl | rfl | rfl | rfl | rfl | rfl
  · exact w_c0
  · exact w_c1
  · exact w_c2
  · exact w_c3
  · exact w_c4
  · exact w_c5
set_option maxRecDepth 65536 in
theorem w_t1 : (words1.take 24).all (fun c => isCode c || c.before args0 about1) = true := by decide +kernel
set_option maxRecDepth 65536 in
theorem w_t2 : ((words1.drop 24).take 24).all (fun c => isCode c || c.before args0 about1) = true := by decide +kernel
set_option maxRecDepth 65536 in
theorem w_t3 : (((words1.drop 24).drop 24).take 24).all (fun c => isCode c || c.before args0 about1) = true := by decide +kernel
set_option maxRecDepth 65536 in
theorem w_t4 : (((words1.drop 24).drop 24).drop 24).all (fun c => isCode c || c.before args0 about1) = true := by decide +kernel
theorem w_tables : (allAtoms (Jvm.Cond.code x code maxLocals ret :: tables_1)).before args0 about1 = true := by
  rw [allAtoms_all]
  show words1.all (fun c => c.before args0 about1) = true
  refine all_split ?_ w_codes
  rw [← List.take_append_drop 24 words1, List.all_append, w_t1, ← List.take_append_drop 24 (words1.drop 24), List.all_append, w_t2, ← List.take_append_drop 24 ((words1.drop 24).drop 24), List.all_append, w_t3, w_t4]
  rfl
set_option maxRecDepth 65536 in
theorem w_rest : rest_1_c.before args0 about1 = true := by decide +kernel
set_option maxRecDepth 65536 in
theorem w_case : (Jvm.Cond.and given_1 narrow_1).before args0 about1 = true := by decide +kernel
set_option maxRecDepth 65536 in
theorem w_consts : constsHeld consts_1 about1 := Jvm.Lit.constsHeldB_iff.mp (by decide +kernel)
theorem w_applies : (headSpec (Jvm.Cond.code x code maxLocals ret :: tables_1) room_1).applies x e0.platform about1 = true :=
  (Spec.applies_iff w_frames).mpr ⟨w_running, w_runnable, w_alone, w_named, w_hears, w_ripe, w_room, w_tables⟩
theorem atStart : AtStart classFile x code maxLocals ret World_1 tables_1 room_1 Calls_1 rest_1 Pre_1 launch0 p0 e0 about1 theMethod args0 below0 :=
  ⟨lists_1, trivial, launch0.admits_env _ _ _, launch0.least_env, fairChoices_fair.cas, fairChoices_fair.clock, w_frames, w_args, w_heap, w_applies, ⟨w_consts, trivial⟩, w_rest, w_case⟩
end start1
theorem witness_1 : WitnessClaimed_1 := ⟨start1.p0, start1.e0, start1.about1, start1.theMethod, start1.args0, start1.below0, start1.atStart⟩
end Jvm.Pilot.@@N@@
