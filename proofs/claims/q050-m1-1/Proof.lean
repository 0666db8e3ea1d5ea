import JvmDerived
import JvmDerived.Pilot.@@N@@Statement
import JvmDerived.Pilot.@@N@@Code
set_option linter.unusedVariables false
set_option linter.unusedSimpArgs false

namespace Jvm.Pilot.@@N@@
open Jvm Jvm.ClassFile Sem Op Lib Jvm.Free Jvm.Stand Jvm.LawKit Jvm.RoadKit Bundle Jvm.Pilot.@@N@@.Jvm.D
def QH (w : Value) (n0 : Nat) (v : Option Value) (h : Heap) (L : List Loc) : Prop := v = some w ∧ Fr n0 L
def own_at (l : List Int32) (j : Int32) : Int32 := l.getD j.toNatClampNeg 0
theorem own_getD (l : List Int32) (j : Int32) : (List.map Value.int l).getD j.toNatClampNeg (.int (0 : Int32)) = .int (own_at l j) := by
  simp only [own_at, List.getD_eq_getElem?_getD, List.getElem?_map]
  cases l[j.toNatClampNeg]? <;> rfl
def own_atJ (l : List Int64) (j : Int32) : Int64 := l.getD j.toNatClampNeg 0
theorem own_getDJ (l : List Int64) (j : Int32) : (List.map Value.long l).getD j.toNatClampNeg (.long (0 : Int64)) = .long (own_atJ l j) := by
  simp only [own_atJ, List.getD_eq_getElem?_getD, List.getElem?_map]
  cases l[j.toNatClampNeg]? <;> rfl
def QP (w : Value) (h0 : Heap) (v : Option Value) (h : Heap) (L : List Loc) : Prop := v = some w ∧ L = [] ∧ h = h0
def Runs (p : Program) (e : Env) (below : List Frame) (s : State) (Q : Option Value → Heap → List Loc → Prop) (k n : Nat) (A : State) : Prop :=
  ∃ s₂ o, Steps p.tables e below A s₂ ∧ s₂.status = .running ∧ Ended s₂ below o ∧ ∃ v L, o = .returned v ∧ Q v s₂.heap L ∧ FrameEnd s o s₂ L k n
section Ends
variable {p : Program} {l : Launch} {e : Env} {R : Room} {s : State} {m : MethodId} {args : Array Value} {below : List Frame} {meth : Method} {c : Code} {T A B : State} {locs : List Loc} {cells slots : Nat} {Q : Option Value → Heap → List Loc → Prop} {k n pc : Nat} {Ls : Array Slot} {rest : List Value}
theorem Runs.go (h : ∀ t, Steps p.tables e below B t → Steps p.tables e below A t) (q : Runs p e below s Q k n B) : Runs p e below s Q k n A := by
  obtain ⟨s₂, o, h1, h2⟩ := q; exact ⟨s₂, o, h _ h1, h2⟩
theorem Runs.endI (X : Stand p l e R s m args below meth c T locs cells slots) (hx : p.tables.exec = Jvm.exec) {z : Int32} (hret : meth.sig.returnType = some .int) (hl : meth.locks = false) (hd : decode c.code pc = .ok (.ireturn, 1)) (hQ : Q (some (.int z)) T.heap locs) (hk : cells ≤ k) (hn : slots ≤ n) : Runs p e below s Q k n (T.setTop (mkF m pc Ls (.int z :: rest))) := by
  obtain ⟨fs, hr, hrun, hended, hW, hsame⟩ := X.leave (v := some (.int z)) (fun h => by rw [hret] at h; cases h) hl
  exact ⟨_, _, retOut X hx hret rfl (Or.inl ⟨rfl, Or.inl rfl, _, rfl⟩) hd hr, hrun, hended, _, _, rfl, hQ, ⟨_, rfl⟩, hW, hsame.mono hk hn⟩
theorem Runs.endJ (X : Stand p l e R s m args below meth c T locs cells slots) (hx : p.tables.exec = Jvm.exec) {z : Int64} (hret : meth.sig.returnType = some .long) (hl : meth.locks = false) (hd : decode c.code pc = .ok (.lreturn, 1)) (hQ : Q (some (.long z)) T.heap locs) (hk : cells ≤ k) (hn : slots ≤ n) : Runs p e below s Q k n (T.setTop (mkF m pc Ls (.long z :: rest))) := by
  obtain ⟨fs, hr, hrun, hended, hW, hsame⟩ := X.leave (v := some (.long z)) (fun h => by rw [hret] at h; cases h) hl
  exact ⟨_, _, retOut X hx hret rfl (Or.inr (Or.inl ⟨rfl, rfl, _, rfl⟩)) hd hr, hrun, hended, _, _, rfl, hQ, ⟨_, rfl⟩, hW, hsame.mono hk hn⟩
theorem Runs.endN (X : Stand p l e R s m args below meth c T locs cells slots) (hx : p.tables.exec = Jvm.exec) {z : Int32} {t : FieldType} (hret : meth.sig.returnType = some t) (ht : t = .boolean ∨ t = .byte ∨ t = .char ∨ t = .short) (hl : meth.locks = false) (hd : decode c.code pc = .ok (.ireturn, 1)) (hQ : Q (some (.int (nar t z))) T.heap locs) (hk : cells ≤ k) (hn : slots ≤ n) : Runs p e below s Q k n (T.setTop (mkF m pc Ls (.int z :: rest))) := by
  obtain ⟨fs, hr, hrun, hended, hW, hsame⟩ := X.leave (v := some (.int (nar t z))) (fun h => by rw [hret] at h; cases h) hl
  exact ⟨_, _, retN X hx hret ht hd hr, hrun, hended, _, _, rfl, hQ, ⟨_, rfl⟩, hW, hsame.mono hk hn⟩
theorem Runs.endV (X : Stand p l e R s m args below meth c T locs cells slots) (hx : p.tables.exec = Jvm.exec) (hret : meth.sig.returnType = none) (hl : meth.locks = false) (hd : decode c.code pc = .ok (.return_, 1)) (hQ : Q none T.heap locs) (hk : cells ≤ k) (hn : slots ≤ n) : Runs p e below s Q k n (T.setTop (mkF m pc Ls [])) := by
  obtain ⟨fs, hr, hrun, hended, hW, hsame⟩ := X.leave (v := none) (fun _ => rfl) hl
  exact ⟨_, _, X.returnOut hx hret hd hr, hrun, hended, _, _, rfl, hQ, ⟨_, rfl⟩, hW, hsame.mono hk hn⟩
theorem Runs.endR (X : Stand p l e R s m args below meth c T locs cells slots) (hx : p.tables.exec = Jvm.exec) {z : Addr} {t : FieldType} (hret : meth.sig.returnType = some t) (ht : t.isReference = true) (hl : meth.locks = false) (hd : decode c.code pc = .ok (.areturn, 1)) (hQ : Q (some (.ref z)) T.heap locs) (hk : cells ≤ k) (hn : slots ≤ n) : Runs p e below s Q k n (T.setTop (mkF m pc Ls (.ref z :: rest))) := by
  obtain ⟨fs, hr, hrun, hended, hW, hsame⟩ := X.leave (v := some (.ref z)) (fun h => by rw [hret] at h; cases h) hl
  exact ⟨_, _, retOut X hx hret (by cases t <;> first | rfl | cases ht) (Or.inr (Or.inr (Or.inr (Or.inr ⟨rfl, ht, rfl⟩)))) hd hr, hrun, hended, _, _, rfl, hQ, ⟨_, rfl⟩, hW, hsame.mono hk hn⟩
end Ends
theorem own_rem (x y : Int32) : x - (x / y) * y = x % y := by
  apply Int32.toInt_inj.mp
  have h1 := Int32.le_toInt (x % y)
  have h2 := Int32.toInt_lt (x % y)
  rw [Int32.toInt_sub, Int32.toInt_mul, Int32.toInt_div, Int.bmod_mul_bmod, Int.sub_bmod_bmod, Int.mul_comm (x.toInt.tdiv y.toInt), ← Int.tmod_def, ← Int32.toInt_mod]
  exact Int.bmod_eq_of_le_mul_two (by omega) (by omega)
theorem own_idx (x : Int32) : ¬ (((x.toUInt32 >>> ((1 : Int32) &&& 31).toUInt32).toInt32) - (((x.toUInt32 >>> ((1 : Int32) &&& 31).toUInt32).toInt32) / (33 : Int32)) * (33 : Int32)) < 0 ∧ (((x.toUInt32 >>> ((1 : Int32) &&& 31).toUInt32).toInt32) - (((x.toUInt32 >>> ((1 : Int32) &&& 31).toUInt32).toInt32) / (33 : Int32)) * (33 : Int32)) < (33 : Int32) := by
  have h := c_iushr x 1 1 (by decide) (by decide)
  have e0 : (0 : Int32).toInt = 0 := by decide
  have e33 : (33 : Int32).toInt = 33 := by decide
  rw [own_rem, Int32.lt_iff_toInt_lt, Int32.lt_iff_toInt_lt]
  generalize ((x.toUInt32 >>> ((1 : Int32) &&& 31).toUInt32).toInt32) = y at *
  have hy : 0 ≤ y.toInt := by rw [h]; exact Int.ediv_nonneg (Int.emod_nonneg _ (by decide)) (by decide)
  have := (c_irem y 33 33 (by decide)).1 hy
  omega

def f1_201  : Int32 := (0 : Int32)
def f1_197  : Int32 := (1 : Int32)
def f1_185 (v0 : Int32) : Int32 := (if v0 < (65536 : Int32) then (f1_201) else (if (983039 : Int32) < v0 then (f1_201) else (f1_197)))
def f1_173 (v0 : Int32) : Int32 := (if v0 < (65008 : Int32) then (f1_185 v0) else (if (65533 : Int32) < v0 then (f1_185 v0) else (f1_197)))
def f1_161 (v0 : Int32) : Int32 := (if v0 < (63744 : Int32) then (f1_173 v0) else (if (64975 : Int32) < v0 then (f1_173 v0) else (f1_197)))
def f1_148 (v0 : Int32) : Int32 := (if v0 < (12289 : Int32) then (f1_161 v0) else (if (55295 : Int32) < v0 then (f1_161 v0) else (f1_197)))
def f1_134 (v0 : Int32) : Int32 := (if v0 < (11264 : Int32) then (f1_148 v0) else (if (12271 : Int32) < v0 then (f1_148 v0) else (f1_197)))
def f1_120 (v0 : Int32) : Int32 := (if v0 < (8304 : Int32) then (f1_134 v0) else (if (8591 : Int32) < v0 then (f1_134 v0) else (f1_197)))
def f1_106 (v0 : Int32) : Int32 := (if v0 < (8204 : Int32) then (f1_120 v0) else (if (8205 : Int32) < v0 then (f1_120 v0) else (f1_197)))
def f1_92 (v0 : Int32) : Int32 := (if v0 < (895 : Int32) then (f1_106 v0) else (if (8191 : Int32) < v0 then (f1_106 v0) else (f1_197)))
def f1_78 (v0 : Int32) : Int32 := (if v0 < (880 : Int32) then (f1_92 v0) else (if (893 : Int32) < v0 then (f1_92 v0) else (f1_197)))
def f1_64 (v0 : Int32) : Int32 := (if v0 < (248 : Int32) then (f1_78 v0) else (if (767 : Int32) < v0 then (f1_78 v0) else (f1_197)))
def f1_50 (v0 : Int32) : Int32 := (if v0 < (216 : Int32) then (f1_64 v0) else (if (246 : Int32) < v0 then (f1_64 v0) else (f1_197)))
def f1_24 (v0 : Int32) : Int32 := (if v0 = (58 : Int32) then (f1_197) else (if v0 = (95 : Int32) then (f1_197) else (if v0 < (192 : Int32) then (f1_50 v0) else (if (214 : Int32) < v0 then (f1_50 v0) else (f1_197)))))
def f1_12 (v0 : Int32) : Int32 := (if v0 < (65 : Int32) then (f1_24 v0) else (if (90 : Int32) < v0 then (f1_24 v0) else (f1_197)))
def f1_0 (x0 : Int32) : Int32 := (if x0 < (97 : Int32) then (f1_12 x0) else (if (122 : Int32) < x0 then (f1_12 x0) else (f1_197)))
def F1 (x0 : Int32) : Int32 := f1_0 x0
def f2_182  : Int32 := (1 : Int32)
def f2_176 (v0 : Int32) : Int32 := (if v0 < (983040 : Int32) then (0 : Int32) else (f2_182))
def f2_164 (v0 : Int32) : Int32 := (if v0 < (65534 : Int32) then (f2_176 v0) else (if (65535 : Int32) < v0 then (f2_176 v0) else (f2_182)))
def f2_152 (v0 : Int32) : Int32 := (if v0 < (64976 : Int32) then (f2_164 v0) else (if (65007 : Int32) < v0 then (f2_164 v0) else (f2_182)))
def f2_140 (v0 : Int32) : Int32 := (if v0 < (55296 : Int32) then (f2_152 v0) else (if (63743 : Int32) < v0 then (f2_152 v0) else (f2_182)))
def f2_126 (v0 : Int32) : Int32 := (if v0 < (12272 : Int32) then (f2_140 v0) else (if (12288 : Int32) < v0 then (f2_140 v0) else (f2_182)))
def f2_112 (v0 : Int32) : Int32 := (if v0 < (8592 : Int32) then (f2_126 v0) else (if (11263 : Int32) < v0 then (f2_126 v0) else (f2_182)))
def f2_98 (v0 : Int32) : Int32 := (if v0 < (8206 : Int32) then (f2_112 v0) else (if (8303 : Int32) < v0 then (f2_112 v0) else (f2_182)))
def f2_77 (v0 : Int32) : Int32 := (if v0 = (894 : Int32) then (f2_182) else (if v0 < (8192 : Int32) then (f2_98 v0) else (if (8203 : Int32) < v0 then (f2_98 v0) else (f2_182))))
def f2_49 (v0 : Int32) : Int32 := (if v0 = (215 : Int32) then (f2_182) else (if v0 = (247 : Int32) then (f2_182) else (if v0 < (768 : Int32) then (f2_77 v0) else (if (879 : Int32) < v0 then (f2_77 v0) else (f2_182)))))
def f2_30 (v0 : Int32) : Int32 := (if v0 = (96 : Int32) then (f2_182) else (if v0 < (123 : Int32) then (f2_49 v0) else (if (191 : Int32) < v0 then (f2_49 v0) else (f2_182))))
def f2_18 (v0 : Int32) : Int32 := (if v0 < (91 : Int32) then (f2_30 v0) else (if (94 : Int32) < v0 then (f2_30 v0) else (f2_182)))
def f2_0 (x0 : Int32) : Int32 := (if x0 < (58 : Int32) then (f2_182) else (if x0 < (59 : Int32) then (f2_18 x0) else (if (64 : Int32) < x0 then (f2_18 x0) else (f2_182))))
def F2 (x0 : Int32) : Int32 := f2_0 x0
def f0_266 (t0 : Int32) (t1 : Int32) : Int32 := (if t1 = t0 then (1 : Int32) else (0 : Int32))
def f0_250 (v3 : Int32) : Int32 := (if (F2 v3) = (0 : Int32) then (f0_266 (1 : Int32) (F1 v3)) else (f0_266 (0 : Int32) (F1 v3)))
def f0_0 (x0 : Int32) (x1 : Int32) : Int32 := (if (x1 &&& (1 : Int32)) = (0 : Int32) then (f0_250 x0) else (f0_250 ((own_at [(58 : Int32), (65 : Int32), (90 : Int32), (95 : Int32), (97 : Int32), (122 : Int32), (192 : Int32), (214 : Int32), (216 : Int32), (246 : Int32), (248 : Int32), (767 : Int32), (880 : Int32), (893 : Int32), (895 : Int32), (8191 : Int32), (8204 : Int32), (8205 : Int32), (8304 : Int32), (8591 : Int32), (11264 : Int32), (12271 : Int32), (12289 : Int32), (55295 : Int32), (63744 : Int32), (64975 : Int32), (65008 : Int32), (65533 : Int32), (65536 : Int32), (983039 : Int32), (0 : Int32), (-2147483648 : Int32), (2147483647 : Int32)] (((x1.toUInt32 >>> ((1 : Int32) &&& 31).toUInt32).toInt32) - (((x1.toUInt32 >>> ((1 : Int32) &&& 31).toUInt32).toInt32) / (33 : Int32)) * (33 : Int32))) + ((((x1.toUInt32 >>> ((8 : Int32) &&& 31).toUInt32).toInt32) - (((x1.toUInt32 >>> ((8 : Int32) &&& 31).toUInt32).toInt32) / (3 : Int32)) * (3 : Int32)) - (1 : Int32)))))
def F0 (x0 : Int32) (x1 : Int32) : Int32 := f0_0 x0 x1
theorem li32_m2147483648 : (-2147483648 : Int32).toInt = -2147483648 := by decide
theorem li32_0 : (0 : Int32).toInt = 0 := by decide
theorem li32_1 : (1 : Int32).toInt = 1 := by decide
theorem li32_3 : (3 : Int32).toInt = 3 := by decide
theorem li32_8 : (8 : Int32).toInt = 8 := by decide
theorem li32_33 : (33 : Int32).toInt = 33 := by decide
theorem li32_58 : (58 : Int32).toInt = 58 := by decide
theorem li32_59 : (59 : Int32).toInt = 59 := by decide
theorem li32_64 : (64 : Int32).toInt = 64 := by decide
theorem li32_65 : (65 : Int32).toInt = 65 := by decide
theorem li32_90 : (90 : Int32).toInt = 90 := by decide
theorem li32_91 : (91 : Int32).toInt = 91 := by decide
theorem li32_94 : (94 : Int32).toInt = 94 := by decide
theorem li32_95 : (95 : Int32).toInt = 95 := by decide
theorem li32_96 : (96 : Int32).toInt = 96 := by decide
theorem li32_97 : (97 : Int32).toInt = 97 := by decide
theorem li32_122 : (122 : Int32).toInt = 122 := by decide
theorem li32_123 : (123 : Int32).toInt = 123 := by decide
theorem li32_191 : (191 : Int32).toInt = 191 := by decide
theorem li32_192 : (192 : Int32).toInt = 192 := by decide
theorem li32_214 : (214 : Int32).toInt = 214 := by decide
theorem li32_215 : (215 : Int32).toInt = 215 := by decide
theorem li32_216 : (216 : Int32).toInt = 216 := by decide
theorem li32_246 : (246 : Int32).toInt = 246 := by decide
theorem li32_247 : (247 : Int32).toInt = 247 := by decide
theorem li32_248 : (248 : Int32).toInt = 248 := by decide
theorem li32_767 : (767 : Int32).toInt = 767 := by decide
theorem li32_768 : (768 : Int32).toInt = 768 := by decide
theorem li32_879 : (879 : Int32).toInt = 879 := by decide
theorem li32_880 : (880 : Int32).toInt = 880 := by decide
theorem li32_893 : (893 : Int32).toInt = 893 := by decide
theorem li32_894 : (894 : Int32).toInt = 894 := by decide
theorem li32_895 : (895 : Int32).toInt = 895 := by decide
theorem li32_8191 : (8191 : Int32).toInt = 8191 := by decide
theorem li32_8192 : (8192 : Int32).toInt = 8192 := by decide
theorem li32_8203 : (8203 : Int32).toInt = 8203 := by decide
theorem li32_8204 : (8204 : Int32).toInt = 8204 := by decide
theorem li32_8205 : (8205 : Int32).toInt = 8205 := by decide
theorem li32_8206 : (8206 : Int32).toInt = 8206 := by decide
theorem li32_8303 : (8303 : Int32).toInt = 8303 := by decide
theorem li32_8304 : (8304 : Int32).toInt = 8304 := by decide
theorem li32_8591 : (8591 : Int32).toInt = 8591 := by decide
theorem li32_8592 : (8592 : Int32).toInt = 8592 := by decide
theorem li32_11263 : (11263 : Int32).toInt = 11263 := by decide
theorem li32_11264 : (11264 : Int32).toInt = 11264 := by decide
theorem li32_12271 : (12271 : Int32).toInt = 12271 := by decide
theorem li32_12272 : (12272 : Int32).toInt = 12272 := by decide
theorem li32_12288 : (12288 : Int32).toInt = 12288 := by decide
theorem li32_12289 : (12289 : Int32).toInt = 12289 := by decide
theorem li32_55295 : (55295 : Int32).toInt = 55295 := by decide
theorem li32_55296 : (55296 : Int32).toInt = 55296 := by decide
theorem li32_63743 : (63743 : Int32).toInt = 63743 := by decide
theorem li32_63744 : (63744 : Int32).toInt = 63744 := by decide
theorem li32_64975 : (64975 : Int32).toInt = 64975 := by decide
theorem li32_64976 : (64976 : Int32).toInt = 64976 := by decide
theorem li32_65007 : (65007 : Int32).toInt = 65007 := by decide
theorem li32_65008 : (65008 : Int32).toInt = 65008 := by decide
theorem li32_65533 : (65533 : Int32).toInt = 65533 := by decide
theorem li32_65534 : (65534 : Int32).toInt = 65534 := by decide
theorem li32_65535 : (65535 : Int32).toInt = 65535 := by decide
theorem li32_65536 : (65536 : Int32).toInt = 65536 := by decide
theorem li32_983039 : (983039 : Int32).toInt = 983039 := by decide
theorem li32_983040 : (983040 : Int32).toInt = 983040 := by decide
theorem li32_2147483647 : (2147483647 : Int32).toInt = 2147483647 := by decide

theorem own_lt {a b : Int32} (h : a.toInt < b.toInt) : a < b := Int32.lt_iff_toInt_lt.mpr h
theorem own_nlt {a b : Int32} (h : ¬ a.toInt < b.toInt) : ¬ a < b := fun q => h (Int32.lt_iff_toInt_lt.mp q)
theorem own_eq {a b : Int32} (h : a.toInt = b.toInt) : a = b := Int32.toInt_inj.mp h
theorem own_neq {a b : Int32} (h : ¬ a.toInt = b.toInt) : ¬ a = b := fun q => h (congrArg Int32.toInt q)
theorem own_i0 (c : Int32) (h2 : c.toInt < 58) : f0_250 c = 1 := by
  have a1 : F1 c = 0 := by
    unfold F1
    unfold f1_0
    rw [if_pos (own_lt (a := c) (b := (97 : Int32)) (by rw [li32_97]; omega))]
    unfold f1_12
    rw [if_pos (own_lt (a := c) (b := (65 : Int32)) (by rw [li32_65]; omega))]
    unfold f1_24
    rw [if_neg (own_neq (a := c) (b := (58 : Int32)) (by rw [li32_58]; omega))]
    rw [if_neg (own_neq (a := c) (b := (95 : Int32)) (by rw [li32_95]; omega))]
    rw [if_pos (own_lt (a := c) (b := (192 : Int32)) (by rw [li32_192]; omega))]
    unfold f1_50
    rw [if_pos (own_lt (a := c) (b := (216 : Int32)) (by rw [li32_216]; omega))]
    unfold f1_64
    rw [if_pos (own_lt (a := c) (b := (248 : Int32)) (by rw [li32_248]; omega))]
    unfold f1_78
    rw [if_pos (own_lt (a := c) (b := (880 : Int32)) (by rw [li32_880]; omega))]
    unfold f1_92
    rw [if_pos (own_lt (a := c) (b := (895 : Int32)) (by rw [li32_895]; omega))]
    unfold f1_106
    rw [if_pos (own_lt (a := c) (b := (8204 : Int32)) (by rw [li32_8204]; omega))]
    unfold f1_120
    rw [if_pos (own_lt (a := c) (b := (8304 : Int32)) (by rw [li32_8304]; omega))]
    unfold f1_134
    rw [if_pos (own_lt (a := c) (b := (11264 : Int32)) (by rw [li32_11264]; omega))]
    unfold f1_148
    rw [if_pos (own_lt (a := c) (b := (12289 : Int32)) (by rw [li32_12289]; omega))]
    unfold f1_161
    rw [if_pos (own_lt (a := c) (b := (63744 : Int32)) (by rw [li32_63744]; omega))]
    unfold f1_173
    rw [if_pos (own_lt (a := c) (b := (65008 : Int32)) (by rw [li32_65008]; omega))]
    unfold f1_185
    rw [if_pos (own_lt (a := c) (b := (65536 : Int32)) (by rw [li32_65536]; omega))]
    unfold f1_201
    all_goals rfl
  have a2 : F2 c = 1 := by
    unfold F2
    unfold f2_0
    rw [if_pos (own_lt (a := c) (b := (58 : Int32)) (by rw [li32_58]; omega))]
    unfold f2_182
    all_goals rfl
  simp only [f0_250, f0_266, a1, a2]; rfl
theorem own_i1 (c : Int32) (h1 : 58 ≤ c.toInt) (h2 : c.toInt < 59) : f0_250 c = 1 := by
  have a1 : F1 c = 1 := by
    unfold F1
    unfold f1_0
    rw [if_pos (own_lt (a := c) (b := (97 : Int32)) (by rw [li32_97]; omega))]
    unfold f1_12
    rw [if_pos (own_lt (a := c) (b := (65 : Int32)) (by rw [li32_65]; omega))]
    unfold f1_24
    rw [if_pos (own_eq (a := c) (b := (58 : Int32)) (by rw [li32_58]; omega))]
    unfold f1_197
    all_goals rfl
  have a2 : F2 c = 0 := by
    unfold F2
    unfold f2_0
    rw [if_neg (own_nlt (a := c) (b := (58 : Int32)) (by rw [li32_58]; omega))]
    rw [if_pos (own_lt (a := c) (b := (59 : Int32)) (by rw [li32_59]; omega))]
    unfold f2_18
    rw [if_pos (own_lt (a := c) (b := (91 : Int32)) (by rw [li32_91]; omega))]
    unfold f2_30
    rw [if_neg (own_neq (a := c) (b := (96 : Int32)) (by rw [li32_96]; omega))]
    rw [if_pos (own_lt (a := c) (b := (123 : Int32)) (by rw [li32_123]; omega))]
    unfold f2_49
    rw [if_neg (own_neq (a := c) (b := (215 : Int32)) (by rw [li32_215]; omega))]
    rw [if_neg (own_neq (a := c) (b := (247 : Int32)) (by rw [li32_247]; omega))]
    rw [if_pos (own_lt (a := c) (b := (768 : Int32)) (by rw [li32_768]; omega))]
    unfold f2_77
    rw [if_neg (own_neq (a := c) (b := (894 : Int32)) (by rw [li32_894]; omega))]
    rw [if_pos (own_lt (a := c) (b := (8192 : Int32)) (by rw [li32_8192]; omega))]
    unfold f2_98
    rw [if_pos (own_lt (a := c) (b := (8206 : Int32)) (by rw [li32_8206]; omega))]
    unfold f2_112
    rw [if_pos (own_lt (a := c) (b := (8592 : Int32)) (by rw [li32_8592]; omega))]
    unfold f2_126
    rw [if_pos (own_lt (a := c) (b := (12272 : Int32)) (by rw [li32_12272]; omega))]
    unfold f2_140
    rw [if_pos (own_lt (a := c) (b := (55296 : Int32)) (by rw [li32_55296]; omega))]
    unfold f2_152
    rw [if_pos (own_lt (a := c) (b := (64976 : Int32)) (by rw [li32_64976]; omega))]
    unfold f2_164
    rw [if_pos (own_lt (a := c) (b := (65534 : Int32)) (by rw [li32_65534]; omega))]
    unfold f2_176
    rw [if_pos (own_lt (a := c) (b := (983040 : Int32)) (by rw [li32_983040]; omega))]
    all_goals rfl
  simp only [f0_250, f0_266, a1, a2]; rfl
theorem own_i2 (c : Int32) (h1 : 59 ≤ c.toInt) (h2 : c.toInt < 65) : f0_250 c = 1 := by
  have a1 : F1 c = 0 := by
    unfold F1
    unfold f1_0
    rw [if_pos (own_lt (a := c) (b := (97 : Int32)) (by rw [li32_97]; omega))]
    unfold f1_12
    rw [if_pos (own_lt (a := c) (b := (65 : Int32)) (by rw [li32_65]; omega))]
    unfold f1_24
    rw [if_neg (own_neq (a := c) (b := (58 : Int32)) (by rw [li32_58]; omega))]
    rw [if_neg (own_neq (a := c) (b := (95 : Int32)) (by rw [li32_95]; omega))]
    rw [if_pos (own_lt (a := c) (b := (192 : Int32)) (by rw [li32_192]; omega))]
    unfold f1_50
    rw [if_pos (own_lt (a := c) (b := (216 : Int32)) (by rw [li32_216]; omega))]
    unfold f1_64
    rw [if_pos (own_lt (a := c) (b := (248 : Int32)) (by rw [li32_248]; omega))]
    unfold f1_78
    rw [if_pos (own_lt (a := c) (b := (880 : Int32)) (by rw [li32_880]; omega))]
    unfold f1_92
    rw [if_pos (own_lt (a := c) (b := (895 : Int32)) (by rw [li32_895]; omega))]
    unfold f1_106
    rw [if_pos (own_lt (a := c) (b := (8204 : Int32)) (by rw [li32_8204]; omega))]
    unfold f1_120
    rw [if_pos (own_lt (a := c) (b := (8304 : Int32)) (by rw [li32_8304]; omega))]
    unfold f1_134
    rw [if_pos (own_lt (a := c) (b := (11264 : Int32)) (by rw [li32_11264]; omega))]
    unfold f1_148
    rw [if_pos (own_lt (a := c) (b := (12289 : Int32)) (by rw [li32_12289]; omega))]
    unfold f1_161
    rw [if_pos (own_lt (a := c) (b := (63744 : Int32)) (by rw [li32_63744]; omega))]
    unfold f1_173
    rw [if_pos (own_lt (a := c) (b := (65008 : Int32)) (by rw [li32_65008]; omega))]
    unfold f1_185
    rw [if_pos (own_lt (a := c) (b := (65536 : Int32)) (by rw [li32_65536]; omega))]
    unfold f1_201
    all_goals rfl
  have a2 : F2 c = 1 := by
    unfold F2
    unfold f2_0
    rw [if_neg (own_nlt (a := c) (b := (58 : Int32)) (by rw [li32_58]; omega))]
    rw [if_neg (own_nlt (a := c) (b := (59 : Int32)) (by rw [li32_59]; omega))]
    rw [if_neg (own_nlt (a := (64 : Int32)) (b := c) (by rw [li32_64]; omega))]
    unfold f2_182
    all_goals rfl
  simp only [f0_250, f0_266, a1, a2]; rfl
theorem own_i3 (c : Int32) (h1 : 65 ≤ c.toInt) (h2 : c.toInt < 91) : f0_250 c = 1 := by
  have a1 : F1 c = 1 := by
    unfold F1
    unfold f1_0
    rw [if_pos (own_lt (a := c) (b := (97 : Int32)) (by rw [li32_97]; omega))]
    unfold f1_12
    rw [if_neg (own_nlt (a := c) (b := (65 : Int32)) (by rw [li32_65]; omega))]
    rw [if_neg (own_nlt (a := (90 : Int32)) (b := c) (by rw [li32_90]; omega))]
    unfold f1_197
    all_goals rfl
  have a2 : F2 c = 0 := by
    unfold F2
    unfold f2_0
    rw [if_neg (own_nlt (a := c) (b := (58 : Int32)) (by rw [li32_58]; omega))]
    rw [if_neg (own_nlt (a := c) (b := (59 : Int32)) (by rw [li32_59]; omega))]
    rw [if_pos (own_lt (a := (64 : Int32)) (b := c) (by rw [li32_64]; omega))]
    unfold f2_18
    rw [if_pos (own_lt (a := c) (b := (91 : Int32)) (by rw [li32_91]; omega))]
    unfold f2_30
    rw [if_neg (own_neq (a := c) (b := (96 : Int32)) (by rw [li32_96]; omega))]
    rw [if_pos (own_lt (a := c) (b := (123 : Int32)) (by rw [li32_123]; omega))]
    unfold f2_49
    rw [if_neg (own_neq (a := c) (b := (215 : Int32)) (by rw [li32_215]; omega))]
    rw [if_neg (own_neq (a := c) (b := (247 : Int32)) (by rw [li32_247]; omega))]
    rw [if_pos (own_lt (a := c) (b := (768 : Int32)) (by rw [li32_768]; omega))]
    unfold f2_77
    rw [if_neg (own_neq (a := c) (b := (894 : Int32)) (by rw [li32_894]; omega))]
    rw [if_pos (own_lt (a := c) (b := (8192 : Int32)) (by rw [li32_8192]; omega))]
    unfold f2_98
    rw [if_pos (own_lt (a := c) (b := (8206 : Int32)) (by rw [li32_8206]; omega))]
    unfold f2_112
    rw [if_pos (own_lt (a := c) (b := (8592 : Int32)) (by rw [li32_8592]; omega))]
    unfold f2_126
    rw [if_pos (own_lt (a := c) (b := (12272 : Int32)) (by rw [li32_12272]; omega))]
    unfold f2_140
    rw [if_pos (own_lt (a := c) (b := (55296 : Int32)) (by rw [li32_55296]; omega))]
    unfold f2_152
    rw [if_pos (own_lt (a := c) (b := (64976 : Int32)) (by rw [li32_64976]; omega))]
    unfold f2_164
    rw [if_pos (own_lt (a := c) (b := (65534 : Int32)) (by rw [li32_65534]; omega))]
    unfold f2_176
    rw [if_pos (own_lt (a := c) (b := (983040 : Int32)) (by rw [li32_983040]; omega))]
    all_goals rfl
  simp only [f0_250, f0_266, a1, a2]; rfl
theorem own_i4 (c : Int32) (h1 : 91 ≤ c.toInt) (h2 : c.toInt < 95) : f0_250 c = 1 := by
  have a1 : F1 c = 0 := by
    unfold F1
    unfold f1_0
    rw [if_pos (own_lt (a := c) (b := (97 : Int32)) (by rw [li32_97]; omega))]
    unfold f1_12
    rw [if_neg (own_nlt (a := c) (b := (65 : Int32)) (by rw [li32_65]; omega))]
    rw [if_pos (own_lt (a := (90 : Int32)) (b := c) (by rw [li32_90]; omega))]
    unfold f1_24
    rw [if_neg (own_neq (a := c) (b := (58 : Int32)) (by rw [li32_58]; omega))]
    rw [if_neg (own_neq (a := c) (b := (95 : Int32)) (by rw [li32_95]; omega))]
    rw [if_pos (own_lt (a := c) (b := (192 : Int32)) (by rw [li32_192]; omega))]
    unfold f1_50
    rw [if_pos (own_lt (a := c) (b := (216 : Int32)) (by rw [li32_216]; omega))]
    unfold f1_64
    rw [if_pos (own_lt (a := c) (b := (248 : Int32)) (by rw [li32_248]; omega))]
    unfold f1_78
    rw [if_pos (own_lt (a := c) (b := (880 : Int32)) (by rw [li32_880]; omega))]
    unfold f1_92
    rw [if_pos (own_lt (a := c) (b := (895 : Int32)) (by rw [li32_895]; omega))]
    unfold f1_106
    rw [if_pos (own_lt (a := c) (b := (8204 : Int32)) (by rw [li32_8204]; omega))]
    unfold f1_120
    rw [if_pos (own_lt (a := c) (b := (8304 : Int32)) (by rw [li32_8304]; omega))]
    unfold f1_134
    rw [if_pos (own_lt (a := c) (b := (11264 : Int32)) (by rw [li32_11264]; omega))]
    unfold f1_148
    rw [if_pos (own_lt (a := c) (b := (12289 : Int32)) (by rw [li32_12289]; omega))]
    unfold f1_161
    rw [if_pos (own_lt (a := c) (b := (63744 : Int32)) (by rw [li32_63744]; omega))]
    unfold f1_173
    rw [if_pos (own_lt (a := c) (b := (65008 : Int32)) (by rw [li32_65008]; omega))]
    unfold f1_185
    rw [if_pos (own_lt (a := c) (b := (65536 : Int32)) (by rw [li32_65536]; omega))]
    unfold f1_201
    all_goals rfl
  have a2 : F2 c = 1 := by
    unfold F2
    unfold f2_0
    rw [if_neg (own_nlt (a := c) (b := (58 : Int32)) (by rw [li32_58]; omega))]
    rw [if_neg (own_nlt (a := c) (b := (59 : Int32)) (by rw [li32_59]; omega))]
    rw [if_pos (own_lt (a := (64 : Int32)) (b := c) (by rw [li32_64]; omega))]
    unfold f2_18
    rw [if_neg (own_nlt (a := c) (b := (91 : Int32)) (by rw [li32_91]; omega))]
    rw [if_neg (own_nlt (a := (94 : Int32)) (b := c) (by rw [li32_94]; omega))]
    unfold f2_182
    all_goals rfl
  simp only [f0_250, f0_266, a1, a2]; rfl
theorem own_i5 (c : Int32) (h1 : 95 ≤ c.toInt) (h2 : c.toInt < 96) : f0_250 c = 1 := by
  have a1 : F1 c = 1 := by
    unfold F1
    unfold f1_0
    rw [if_pos (own_lt (a := c) (b := (97 : Int32)) (by rw [li32_97]; omega))]
    unfold f1_12
    rw [if_neg (own_nlt (a := c) (b := (65 : Int32)) (by rw [li32_65]; omega))]
    rw [if_pos (own_lt (a := (90 : Int32)) (b := c) (by rw [li32_90]; omega))]
    unfold f1_24
    rw [if_neg (own_neq (a := c) (b := (58 : Int32)) (by rw [li32_58]; omega))]
    rw [if_pos (own_eq (a := c) (b := (95 : Int32)) (by rw [li32_95]; omega))]
    unfold f1_197
    all_goals rfl
  have a2 : F2 c = 0 := by
    unfold F2
    unfold f2_0
    rw [if_neg (own_nlt (a := c) (b := (58 : Int32)) (by rw [li32_58]; omega))]
    rw [if_neg (own_nlt (a := c) (b := (59 : Int32)) (by rw [li32_59]; omega))]
    rw [if_pos (own_lt (a := (64 : Int32)) (b := c) (by rw [li32_64]; omega))]
    unfold f2_18
    rw [if_neg (own_nlt (a := c) (b := (91 : Int32)) (by rw [li32_91]; omega))]
    rw [if_pos (own_lt (a := (94 : Int32)) (b := c) (by rw [li32_94]; omega))]
    unfold f2_30
    rw [if_neg (own_neq (a := c) (b := (96 : Int32)) (by rw [li32_96]; omega))]
    rw [if_pos (own_lt (a := c) (b := (123 : Int32)) (by rw [li32_123]; omega))]
    unfold f2_49
    rw [if_neg (own_neq (a := c) (b := (215 : Int32)) (by rw [li32_215]; omega))]
    rw [if_neg (own_neq (a := c) (b := (247 : Int32)) (by rw [li32_247]; omega))]
    rw [if_pos (own_lt (a := c) (b := (768 : Int32)) (by rw [li32_768]; omega))]
    unfold f2_77
    rw [if_neg (own_neq (a := c) (b := (894 : Int32)) (by rw [li32_894]; omega))]
    rw [if_pos (own_lt (a := c) (b := (8192 : Int32)) (by rw [li32_8192]; omega))]
    unfold f2_98
    rw [if_pos (own_lt (a := c) (b := (8206 : Int32)) (by rw [li32_8206]; omega))]
    unfold f2_112
    rw [if_pos (own_lt (a := c) (b := (8592 : Int32)) (by rw [li32_8592]; omega))]
    unfold f2_126
    rw [if_pos (own_lt (a := c) (b := (12272 : Int32)) (by rw [li32_12272]; omega))]
    unfold f2_140
    rw [if_pos (own_lt (a := c) (b := (55296 : Int32)) (by rw [li32_55296]; omega))]
    unfold f2_152
    rw [if_pos (own_lt (a := c) (b := (64976 : Int32)) (by rw [li32_64976]; omega))]
    unfold f2_164
    rw [if_pos (own_lt (a := c) (b := (65534 : Int32)) (by rw [li32_65534]; omega))]
    unfold f2_176
    rw [if_pos (own_lt (a := c) (b := (983040 : Int32)) (by rw [li32_983040]; omega))]
    all_goals rfl
  simp only [f0_250, f0_266, a1, a2]; rfl
theorem own_i6 (c : Int32) (h1 : 96 ≤ c.toInt) (h2 : c.toInt < 97) : f0_250 c = 1 := by
  have a1 : F1 c = 0 := by
    unfold F1
    unfold f1_0
    rw [if_pos (own_lt (a := c) (b := (97 : Int32)) (by rw [li32_97]; omega))]
    unfold f1_12
    rw [if_neg (own_nlt (a := c) (b := (65 : Int32)) (by rw [li32_65]; omega))]
    rw [if_pos (own_lt (a := (90 : Int32)) (b := c) (by rw [li32_90]; omega))]
    unfold f1_24
    rw [if_neg (own_neq (a := c) (b := (58 : Int32)) (by rw [li32_58]; omega))]
    rw [if_neg (own_neq (a := c) (b := (95 : Int32)) (by rw [li32_95]; omega))]
    rw [if_pos (own_lt (a := c) (b := (192 : Int32)) (by rw [li32_192]; omega))]
    unfold f1_50
    rw [if_pos (own_lt (a := c) (b := (216 : Int32)) (by rw [li32_216]; omega))]
    unfold f1_64
    rw [if_pos (own_lt (a := c) (b := (248 : Int32)) (by rw [li32_248]; omega))]
    unfold f1_78
    rw [if_pos (own_lt (a := c) (b := (880 : Int32)) (by rw [li32_880]; omega))]
    unfold f1_92
    rw [if_pos (own_lt (a := c) (b := (895 : Int32)) (by rw [li32_895]; omega))]
    unfold f1_106
    rw [if_pos (own_lt (a := c) (b := (8204 : Int32)) (by rw [li32_8204]; omega))]
    unfold f1_120
    rw [if_pos (own_lt (a := c) (b := (8304 : Int32)) (by rw [li32_8304]; omega))]
    unfold f1_134
    rw [if_pos (own_lt (a := c) (b := (11264 : Int32)) (by rw [li32_11264]; omega))]
    unfold f1_148
    rw [if_pos (own_lt (a := c) (b := (12289 : Int32)) (by rw [li32_12289]; omega))]
    unfold f1_161
    rw [if_pos (own_lt (a := c) (b := (63744 : Int32)) (by rw [li32_63744]; omega))]
    unfold f1_173
    rw [if_pos (own_lt (a := c) (b := (65008 : Int32)) (by rw [li32_65008]; omega))]
    unfold f1_185
    rw [if_pos (own_lt (a := c) (b := (65536 : Int32)) (by rw [li32_65536]; omega))]
    unfold f1_201
    all_goals rfl
  have a2 : F2 c = 1 := by
    unfold F2
    unfold f2_0
    rw [if_neg (own_nlt (a := c) (b := (58 : Int32)) (by rw [li32_58]; omega))]
    rw [if_neg (own_nlt (a := c) (b := (59 : Int32)) (by rw [li32_59]; omega))]
    rw [if_pos (own_lt (a := (64 : Int32)) (b := c) (by rw [li32_64]; omega))]
    unfold f2_18
    rw [if_neg (own_nlt (a := c) (b := (91 : Int32)) (by rw [li32_91]; omega))]
    rw [if_pos (own_lt (a := (94 : Int32)) (b := c) (by rw [li32_94]; omega))]
    unfold f2_30
    rw [if_pos (own_eq (a := c) (b := (96 : Int32)) (by rw [li32_96]; omega))]
    unfold f2_182
    all_goals rfl
  simp only [f0_250, f0_266, a1, a2]; rfl
theorem own_i7 (c : Int32) (h1 : 97 ≤ c.toInt) (h2 : c.toInt < 123) : f0_250 c = 1 := by
  have a1 : F1 c = 1 := by
    unfold F1
    unfold f1_0
    rw [if_neg (own_nlt (a := c) (b := (97 : Int32)) (by rw [li32_97]; omega))]
    rw [if_neg (own_nlt (a := (122 : Int32)) (b := c) (by rw [li32_122]; omega))]
    unfold f1_197
    all_goals rfl
  have a2 : F2 c = 0 := by
    unfold F2
    unfold f2_0
    rw [if_neg (own_nlt (a := c) (b := (58 : Int32)) (by rw [li32_58]; omega))]
    rw [if_neg (own_nlt (a := c) (b := (59 : Int32)) (by rw [li32_59]; omega))]
    rw [if_pos (own_lt (a := (64 : Int32)) (b := c) (by rw [li32_64]; omega))]
    unfold f2_18
    rw [if_neg (own_nlt (a := c) (b := (91 : Int32)) (by rw [li32_91]; omega))]
    rw [if_pos (own_lt (a := (94 : Int32)) (b := c) (by rw [li32_94]; omega))]
    unfold f2_30
    rw [if_neg (own_neq (a := c) (b := (96 : Int32)) (by rw [li32_96]; omega))]
    rw [if_pos (own_lt (a := c) (b := (123 : Int32)) (by rw [li32_123]; omega))]
    unfold f2_49
    rw [if_neg (own_neq (a := c) (b := (215 : Int32)) (by rw [li32_215]; omega))]
    rw [if_neg (own_neq (a := c) (b := (247 : Int32)) (by rw [li32_247]; omega))]
    rw [if_pos (own_lt (a := c) (b := (768 : Int32)) (by rw [li32_768]; omega))]
    unfold f2_77
    rw [if_neg (own_neq (a := c) (b := (894 : Int32)) (by rw [li32_894]; omega))]
    rw [if_pos (own_lt (a := c) (b := (8192 : Int32)) (by rw [li32_8192]; omega))]
    unfold f2_98
    rw [if_pos (own_lt (a := c) (b := (8206 : Int32)) (by rw [li32_8206]; omega))]
    unfold f2_112
    rw [if_pos (own_lt (a := c) (b := (8592 : Int32)) (by rw [li32_8592]; omega))]
    unfold f2_126
    rw [if_pos (own_lt (a := c) (b := (12272 : Int32)) (by rw [li32_12272]; omega))]
    unfold f2_140
    rw [if_pos (own_lt (a := c) (b := (55296 : Int32)) (by rw [li32_55296]; omega))]
    unfold f2_152
    rw [if_pos (own_lt (a := c) (b := (64976 : Int32)) (by rw [li32_64976]; omega))]
    unfold f2_164
    rw [if_pos (own_lt (a := c) (b := (65534 : Int32)) (by rw [li32_65534]; omega))]
    unfold f2_176
    rw [if_pos (own_lt (a := c) (b := (983040 : Int32)) (by rw [li32_983040]; omega))]
    all_goals rfl
  simp only [f0_250, f0_266, a1, a2]; rfl
theorem own_i8 (c : Int32) (h1 : 123 ≤ c.toInt) (h2 : c.toInt < 192) : f0_250 c = 1 := by
  have a1 : F1 c = 0 := by
    unfold F1
    unfold f1_0
    rw [if_neg (own_nlt (a := c) (b := (97 : Int32)) (by rw [li32_97]; omega))]
    rw [if_pos (own_lt (a := (122 : Int32)) (b := c) (by rw [li32_122]; omega))]
    unfold f1_12
    rw [if_neg (own_nlt (a := c) (b := (65 : Int32)) (by rw [li32_65]; omega))]
    rw [if_pos (own_lt (a := (90 : Int32)) (b := c) (by rw [li32_90]; omega))]
    unfold f1_24
    rw [if_neg (own_neq (a := c) (b := (58 : Int32)) (by rw [li32_58]; omega))]
    rw [if_neg (own_neq (a := c) (b := (95 : Int32)) (by rw [li32_95]; omega))]
    rw [if_pos (own_lt (a := c) (b := (192 : Int32)) (by rw [li32_192]; omega))]
    unfold f1_50
    rw [if_pos (own_lt (a := c) (b := (216 : Int32)) (by rw [li32_216]; omega))]
    unfold f1_64
    rw [if_pos (own_lt (a := c) (b := (248 : Int32)) (by rw [li32_248]; omega))]
    unfold f1_78
    rw [if_pos (own_lt (a := c) (b := (880 : Int32)) (by rw [li32_880]; omega))]
    unfold f1_92
    rw [if_pos (own_lt (a := c) (b := (895 : Int32)) (by rw [li32_895]; omega))]
    unfold f1_106
    rw [if_pos (own_lt (a := c) (b := (8204 : Int32)) (by rw [li32_8204]; omega))]
    unfold f1_120
    rw [if_pos (own_lt (a := c) (b := (8304 : Int32)) (by rw [li32_8304]; omega))]
    unfold f1_134
    rw [if_pos (own_lt (a := c) (b := (11264 : Int32)) (by rw [li32_11264]; omega))]
    unfold f1_148
    rw [if_pos (own_lt (a := c) (b := (12289 : Int32)) (by rw [li32_12289]; omega))]
    unfold f1_161
    rw [if_pos (own_lt (a := c) (b := (63744 : Int32)) (by rw [li32_63744]; omega))]
    unfold f1_173
    rw [if_pos (own_lt (a := c) (b := (65008 : Int32)) (by rw [li32_65008]; omega))]
    unfold f1_185
    rw [if_pos (own_lt (a := c) (b := (65536 : Int32)) (by rw [li32_65536]; omega))]
    unfold f1_201
    all_goals rfl
  have a2 : F2 c = 1 := by
    unfold F2
    unfold f2_0
    rw [if_neg (own_nlt (a := c) (b := (58 : Int32)) (by rw [li32_58]; omega))]
    rw [if_neg (own_nlt (a := c) (b := (59 : Int32)) (by rw [li32_59]; omega))]
    rw [if_pos (own_lt (a := (64 : Int32)) (b := c) (by rw [li32_64]; omega))]
    unfold f2_18
    rw [if_neg (own_nlt (a := c) (b := (91 : Int32)) (by rw [li32_91]; omega))]
    rw [if_pos (own_lt (a := (94 : Int32)) (b := c) (by rw [li32_94]; omega))]
    unfold f2_30
    rw [if_neg (own_neq (a := c) (b := (96 : Int32)) (by rw [li32_96]; omega))]
    rw [if_neg (own_nlt (a := c) (b := (123 : Int32)) (by rw [li32_123]; omega))]
    rw [if_neg (own_nlt (a := (191 : Int32)) (b := c) (by rw [li32_191]; omega))]
    unfold f2_182
    all_goals rfl
  simp only [f0_250, f0_266, a1, a2]; rfl
theorem own_i9 (c : Int32) (h1 : 192 ≤ c.toInt) (h2 : c.toInt < 215) : f0_250 c = 1 := by
  have a1 : F1 c = 1 := by
    unfold F1
    unfold f1_0
    rw [if_neg (own_nlt (a := c) (b := (97 : Int32)) (by rw [li32_97]; omega))]
    rw [if_pos (own_lt (a := (122 : Int32)) (b := c) (by rw [li32_122]; omega))]
    unfold f1_12
    rw [if_neg (own_nlt (a := c) (b := (65 : Int32)) (by rw [li32_65]; omega))]
    rw [if_pos (own_lt (a := (90 : Int32)) (b := c) (by rw [li32_90]; omega))]
    unfold f1_24
    rw [if_neg (own_neq (a := c) (b := (58 : Int32)) (by rw [li32_58]; omega))]
    rw [if_neg (own_neq (a := c) (b := (95 : Int32)) (by rw [li32_95]; omega))]
    rw [if_neg (own_nlt (a := c) (b := (192 : Int32)) (by rw [li32_192]; omega))]
    rw [if_neg (own_nlt (a := (214 : Int32)) (b := c) (by rw [li32_214]; omega))]
    unfold f1_197
    all_goals rfl
  have a2 : F2 c = 0 := by
    unfold F2
    unfold f2_0
    rw [if_neg (own_nlt (a := c) (b := (58 : Int32)) (by rw [li32_58]; omega))]
    rw [if_neg (own_nlt (a := c) (b := (59 : Int32)) (by rw [li32_59]; omega))]
    rw [if_pos (own_lt (a := (64 : Int32)) (b := c) (by rw [li32_64]; omega))]
    unfold f2_18
    rw [if_neg (own_nlt (a := c) (b := (91 : Int32)) (by rw [li32_91]; omega))]
    rw [if_pos (own_lt (a := (94 : Int32)) (b := c) (by rw [li32_94]; omega))]
    unfold f2_30
    rw [if_neg (own_neq (a := c) (b := (96 : Int32)) (by rw [li32_96]; omega))]
    rw [if_neg (own_nlt (a := c) (b := (123 : Int32)) (by rw [li32_123]; omega))]
    rw [if_pos (own_lt (a := (191 : Int32)) (b := c) (by rw [li32_191]; omega))]
    unfold f2_49
    rw [if_neg (own_neq (a := c) (b := (215 : Int32)) (by rw [li32_215]; omega))]
    rw [if_neg (own_neq (a := c) (b := (247 : Int32)) (by rw [li32_247]; omega))]
    rw [if_pos (own_lt (a := c) (b := (768 : Int32)) (by rw [li32_768]; omega))]
    unfold f2_77
    rw [if_neg (own_neq (a := c) (b := (894 : Int32)) (by rw [li32_894]; omega))]
    rw [if_pos (own_lt (a := c) (b := (8192 : Int32)) (by rw [li32_8192]; omega))]
    unfold f2_98
    rw [if_pos (own_lt (a := c) (b := (8206 : Int32)) (by rw [li32_8206]; omega))]
    unfold f2_112
    rw [if_pos (own_lt (a := c) (b := (8592 : Int32)) (by rw [li32_8592]; omega))]
    unfold f2_126
    rw [if_pos (own_lt (a := c) (b := (12272 : Int32)) (by rw [li32_12272]; omega))]
    unfold f2_140
    rw [if_pos (own_lt (a := c) (b := (55296 : Int32)) (by rw [li32_55296]; omega))]
    unfold f2_152
    rw [if_pos (own_lt (a := c) (b := (64976 : Int32)) (by rw [li32_64976]; omega))]
    unfold f2_164
    rw [if_pos (own_lt (a := c) (b := (65534 : Int32)) (by rw [li32_65534]; omega))]
    unfold f2_176
    rw [if_pos (own_lt (a := c) (b := (983040 : Int32)) (by rw [li32_983040]; omega))]
    all_goals rfl
  simp only [f0_250, f0_266, a1, a2]; rfl
theorem own_i10 (c : Int32) (h1 : 215 ≤ c.toInt) (h2 : c.toInt < 216) : f0_250 c = 1 := by
  have a1 : F1 c = 0 := by
    unfold F1
    unfold f1_0
    rw [if_neg (own_nlt (a := c) (b := (97 : Int32)) (by rw [li32_97]; omega))]
    rw [if_pos (own_lt (a := (122 : Int32)) (b := c) (by rw [li32_122]; omega))]
    unfold f1_12
    rw [if_neg (own_nlt (a := c) (b := (65 : Int32)) (by rw [li32_65]; omega))]
    rw [if_pos (own_lt (a := (90 : Int32)) (b := c) (by rw [li32_90]; omega))]
    unfold f1_24
    rw [if_neg (own_neq (a := c) (b := (58 : Int32)) (by rw [li32_58]; omega))]
    rw [if_neg (own_neq (a := c) (b := (95 : Int32)) (by rw [li32_95]; omega))]
    rw [if_neg (own_nlt (a := c) (b := (192 : Int32)) (by rw [li32_192]; omega))]
    rw [if_pos (own_lt (a := (214 : Int32)) (b := c) (by rw [li32_214]; omega))]
    unfold f1_50
    rw [if_pos (own_lt (a := c) (b := (216 : Int32)) (by rw [li32_216]; omega))]
    unfold f1_64
    rw [if_pos (own_lt (a := c) (b := (248 : Int32)) (by rw [li32_248]; omega))]
    unfold f1_78
    rw [if_pos (own_lt (a := c) (b := (880 : Int32)) (by rw [li32_880]; omega))]
    unfold f1_92
    rw [if_pos (own_lt (a := c) (b := (895 : Int32)) (by rw [li32_895]; omega))]
    unfold f1_106
    rw [if_pos (own_lt (a := c) (b := (8204 : Int32)) (by rw [li32_8204]; omega))]
    unfold f1_120
    rw [if_pos (own_lt (a := c) (b := (8304 : Int32)) (by rw [li32_8304]; omega))]
    unfold f1_134
    rw [if_pos (own_lt (a := c) (b := (11264 : Int32)) (by rw [li32_11264]; omega))]
    unfold f1_148
    rw [if_pos (own_lt (a := c) (b := (12289 : Int32)) (by rw [li32_12289]; omega))]
    unfold f1_161
    rw [if_pos (own_lt (a := c) (b := (63744 : Int32)) (by rw [li32_63744]; omega))]
    unfold f1_173
    rw [if_pos (own_lt (a := c) (b := (65008 : Int32)) (by rw [li32_65008]; omega))]
    unfold f1_185
    rw [if_pos (own_lt (a := c) (b := (65536 : Int32)) (by rw [li32_65536]; omega))]
    unfold f1_201
    all_goals rfl
  have a2 : F2 c = 1 := by
    unfold F2
    unfold f2_0
    rw [if_neg (own_nlt (a := c) (b := (58 : Int32)) (by rw [li32_58]; omega))]
    rw [if_neg (own_nlt (a := c) (b := (59 : Int32)) (by rw [li32_59]; omega))]
    rw [if_pos (own_lt (a := (64 : Int32)) (b := c) (by rw [li32_64]; omega))]
    unfold f2_18
    rw [if_neg (own_nlt (a := c) (b := (91 : Int32)) (by rw [li32_91]; omega))]
    rw [if_pos (own_lt (a := (94 : Int32)) (b := c) (by rw [li32_94]; omega))]
    unfold f2_30
    rw [if_neg (own_neq (a := c) (b := (96 : Int32)) (by rw [li32_96]; omega))]
    rw [if_neg (own_nlt (a := c) (b := (123 : Int32)) (by rw [li32_123]; omega))]
    rw [if_pos (own_lt (a := (191 : Int32)) (b := c) (by rw [li32_191]; omega))]
    unfold f2_49
    rw [if_pos (own_eq (a := c) (b := (215 : Int32)) (by rw [li32_215]; omega))]
    unfold f2_182
    all_goals rfl
  simp only [f0_250, f0_266, a1, a2]; rfl
theorem own_i11 (c : Int32) (h1 : 216 ≤ c.toInt) (h2 : c.toInt < 247) : f0_250 c = 1 := by
  have a1 : F1 c = 1 := by
    unfold F1
    unfold f1_0
    rw [if_neg (own_nlt (a := c) (b := (97 : Int32)) (by rw [li32_97]; omega))]
    rw [if_pos (own_lt (a := (122 : Int32)) (b := c) (by rw [li32_122]; omega))]
    unfold f1_12
    rw [if_neg (own_nlt (a := c) (b := (65 : Int32)) (by rw [li32_65]; omega))]
    rw [if_pos (own_lt (a := (90 : Int32)) (b := c) (by rw [li32_90]; omega))]
    unfold f1_24
    rw [if_neg (own_neq (a := c) (b := (58 : Int32)) (by rw [li32_58]; omega))]
    rw [if_neg (own_neq (a := c) (b := (95 : Int32)) (by rw [li32_95]; omega))]
    rw [if_neg (own_nlt (a := c) (b := (192 : Int32)) (by rw [li32_192]; omega))]
    rw [if_pos (own_lt (a := (214 : Int32)) (b := c) (by rw [li32_214]; omega))]
    unfold f1_50
    rw [if_neg (own_nlt (a := c) (b := (216 : Int32)) (by rw [li32_216]; omega))]
    rw [if_neg (own_nlt (a := (246 : Int32)) (b := c) (by rw [li32_246]; omega))]
    unfold f1_197
    all_goals rfl
  have a2 : F2 c = 0 := by
    unfold F2
    unfold f2_0
    rw [if_neg (own_nlt (a := c) (b := (58 : Int32)) (by rw [li32_58]; omega))]
    rw [if_neg (own_nlt (a := c) (b := (59 : Int32)) (by rw [li32_59]; omega))]
    rw [if_pos (own_lt (a := (64 : Int32)) (b := c) (by rw [li32_64]; omega))]
    unfold f2_18
    rw [if_neg (own_nlt (a := c) (b := (91 : Int32)) (by rw [li32_91]; omega))]
    rw [if_pos (own_lt (a := (94 : Int32)) (b := c) (by rw [li32_94]; omega))]
    unfold f2_30
    rw [if_neg (own_neq (a := c) (b := (96 : Int32)) (by rw [li32_96]; omega))]
    rw [if_neg (own_nlt (a := c) (b := (123 : Int32)) (by rw [li32_123]; omega))]
    rw [if_pos (own_lt (a := (191 : Int32)) (b := c) (by rw [li32_191]; omega))]
    unfold f2_49
    rw [if_neg (own_neq (a := c) (b := (215 : Int32)) (by rw [li32_215]; omega))]
    rw [if_neg (own_neq (a := c) (b := (247 : Int32)) (by rw [li32_247]; omega))]
    rw [if_pos (own_lt (a := c) (b := (768 : Int32)) (by rw [li32_768]; omega))]
    unfold f2_77
    rw [if_neg (own_neq (a := c) (b := (894 : Int32)) (by rw [li32_894]; omega))]
    rw [if_pos (own_lt (a := c) (b := (8192 : Int32)) (by rw [li32_8192]; omega))]
    unfold f2_98
    rw [if_pos (own_lt (a := c) (b := (8206 : Int32)) (by rw [li32_8206]; omega))]
    unfold f2_112
    rw [if_pos (own_lt (a := c) (b := (8592 : Int32)) (by rw [li32_8592]; omega))]
    unfold f2_126
    rw [if_pos (own_lt (a := c) (b := (12272 : Int32)) (by rw [li32_12272]; omega))]
    unfold f2_140
    rw [if_pos (own_lt (a := c) (b := (55296 : Int32)) (by rw [li32_55296]; omega))]
    unfold f2_152
    rw [if_pos (own_lt (a := c) (b := (64976 : Int32)) (by rw [li32_64976]; omega))]
    unfold f2_164
    rw [if_pos (own_lt (a := c) (b := (65534 : Int32)) (by rw [li32_65534]; omega))]
    unfold f2_176
    rw [if_pos (own_lt (a := c) (b := (983040 : Int32)) (by rw [li32_983040]; omega))]
    all_goals rfl
  simp only [f0_250, f0_266, a1, a2]; rfl
theorem own_i12 (c : Int32) (h1 : 247 ≤ c.toInt) (h2 : c.toInt < 248) : f0_250 c = 1 := by
  have a1 : F1 c = 0 := by
    unfold F1
    unfold f1_0
    rw [if_neg (own_nlt (a := c) (b := (97 : Int32)) (by rw [li32_97]; omega))]
    rw [if_pos (own_lt (a := (122 : Int32)) (b := c) (by rw [li32_122]; omega))]
    unfold f1_12
    rw [if_neg (own_nlt (a := c) (b := (65 : Int32)) (by rw [li32_65]; omega))]
    rw [if_pos (own_lt (a := (90 : Int32)) (b := c) (by rw [li32_90]; omega))]
    unfold f1_24
    rw [if_neg (own_neq (a := c) (b := (58 : Int32)) (by rw [li32_58]; omega))]
    rw [if_neg (own_neq (a := c) (b := (95 : Int32)) (by rw [li32_95]; omega))]
    rw [if_neg (own_nlt (a := c) (b := (192 : Int32)) (by rw [li32_192]; omega))]
    rw [if_pos (own_lt (a := (214 : Int32)) (b := c) (by rw [li32_214]; omega))]
    unfold f1_50
    rw [if_neg (own_nlt (a := c) (b := (216 : Int32)) (by rw [li32_216]; omega))]
    rw [if_pos (own_lt (a := (246 : Int32)) (b := c) (by rw [li32_246]; omega))]
    unfold f1_64
    rw [if_pos (own_lt (a := c) (b := (248 : Int32)) (by rw [li32_248]; omega))]
    unfold f1_78
    rw [if_pos (own_lt (a := c) (b := (880 : Int32)) (by rw [li32_880]; omega))]
    unfold f1_92
    rw [if_pos (own_lt (a := c) (b := (895 : Int32)) (by rw [li32_895]; omega))]
    unfold f1_106
    rw [if_pos (own_lt (a := c) (b := (8204 : Int32)) (by rw [li32_8204]; omega))]
    unfold f1_120
    rw [if_pos (own_lt (a := c) (b := (8304 : Int32)) (by rw [li32_8304]; omega))]
    unfold f1_134
    rw [if_pos (own_lt (a := c) (b := (11264 : Int32)) (by rw [li32_11264]; omega))]
    unfold f1_148
    rw [if_pos (own_lt (a := c) (b := (12289 : Int32)) (by rw [li32_12289]; omega))]
    unfold f1_161
    rw [if_pos (own_lt (a := c) (b := (63744 : Int32)) (by rw [li32_63744]; omega))]
    unfold f1_173
    rw [if_pos (own_lt (a := c) (b := (65008 : Int32)) (by rw [li32_65008]; omega))]
    unfold f1_185
    rw [if_pos (own_lt (a := c) (b := (65536 : Int32)) (by rw [li32_65536]; omega))]
    unfold f1_201
    all_goals rfl
  have a2 : F2 c = 1 := by
    unfold F2
    unfold f2_0
    rw [if_neg (own_nlt (a := c) (b := (58 : Int32)) (by rw [li32_58]; omega))]
    rw [if_neg (own_nlt (a := c) (b := (59 : Int32)) (by rw [li32_59]; omega))]
    rw [if_pos (own_lt (a := (64 : Int32)) (b := c) (by rw [li32_64]; omega))]
    unfold f2_18
    rw [if_neg (own_nlt (a := c) (b := (91 : Int32)) (by rw [li32_91]; omega))]
    rw [if_pos (own_lt (a := (94 : Int32)) (b := c) (by rw [li32_94]; omega))]
    unfold f2_30
    rw [if_neg (own_neq (a := c) (b := (96 : Int32)) (by rw [li32_96]; omega))]
    rw [if_neg (own_nlt (a := c) (b := (123 : Int32)) (by rw [li32_123]; omega))]
    rw [if_pos (own_lt (a := (191 : Int32)) (b := c) (by rw [li32_191]; omega))]
    unfold f2_49
    rw [if_neg (own_neq (a := c) (b := (215 : Int32)) (by rw [li32_215]; omega))]
    rw [if_pos (own_eq (a := c) (b := (247 : Int32)) (by rw [li32_247]; omega))]
    unfold f2_182
    all_goals rfl
  simp only [f0_250, f0_266, a1, a2]; rfl
theorem own_i13 (c : Int32) (h1 : 248 ≤ c.toInt) (h2 : c.toInt < 768) : f0_250 c = 1 := by
  have a1 : F1 c = 1 := by
    unfold F1
    unfold f1_0
    rw [if_neg (own_nlt (a := c) (b := (97 : Int32)) (by rw [li32_97]; omega))]
    rw [if_pos (own_lt (a := (122 : Int32)) (b := c) (by rw [li32_122]; omega))]
    unfold f1_12
    rw [if_neg (own_nlt (a := c) (b := (65 : Int32)) (by rw [li32_65]; omega))]
    rw [if_pos (own_lt (a := (90 : Int32)) (b := c) (by rw [li32_90]; omega))]
    unfold f1_24
    rw [if_neg (own_neq (a := c) (b := (58 : Int32)) (by rw [li32_58]; omega))]
    rw [if_neg (own_neq (a := c) (b := (95 : Int32)) (by rw [li32_95]; omega))]
    rw [if_neg (own_nlt (a := c) (b := (192 : Int32)) (by rw [li32_192]; omega))]
    rw [if_pos (own_lt (a := (214 : Int32)) (b := c) (by rw [li32_214]; omega))]
    unfold f1_50
    rw [if_neg (own_nlt (a := c) (b := (216 : Int32)) (by rw [li32_216]; omega))]
    rw [if_pos (own_lt (a := (246 : Int32)) (b := c) (by rw [li32_246]; omega))]
    unfold f1_64
    rw [if_neg (own_nlt (a := c) (b := (248 : Int32)) (by rw [li32_248]; omega))]
    rw [if_neg (own_nlt (a := (767 : Int32)) (b := c) (by rw [li32_767]; omega))]
    unfold f1_197
    all_goals rfl
  have a2 : F2 c = 0 := by
    unfold F2
    unfold f2_0
    rw [if_neg (own_nlt (a := c) (b := (58 : Int32)) (by rw [li32_58]; omega))]
    rw [if_neg (own_nlt (a := c) (b := (59 : Int32)) (by rw [li32_59]; omega))]
    rw [if_pos (own_lt (a := (64 : Int32)) (b := c) (by rw [li32_64]; omega))]
    unfold f2_18
    rw [if_neg (own_nlt (a := c) (b := (91 : Int32)) (by rw [li32_91]; omega))]
    rw [if_pos (own_lt (a := (94 : Int32)) (b := c) (by rw [li32_94]; omega))]
    unfold f2_30
    rw [if_neg (own_neq (a := c) (b := (96 : Int32)) (by rw [li32_96]; omega))]
    rw [if_neg (own_nlt (a := c) (b := (123 : Int32)) (by rw [li32_123]; omega))]
    rw [if_pos (own_lt (a := (191 : Int32)) (b := c) (by rw [li32_191]; omega))]
    unfold f2_49
    rw [if_neg (own_neq (a := c) (b := (215 : Int32)) (by rw [li32_215]; omega))]
    rw [if_neg (own_neq (a := c) (b := (247 : Int32)) (by rw [li32_247]; omega))]
    rw [if_pos (own_lt (a := c) (b := (768 : Int32)) (by rw [li32_768]; omega))]
    unfold f2_77
    rw [if_neg (own_neq (a := c) (b := (894 : Int32)) (by rw [li32_894]; omega))]
    rw [if_pos (own_lt (a := c) (b := (8192 : Int32)) (by rw [li32_8192]; omega))]
    unfold f2_98
    rw [if_pos (own_lt (a := c) (b := (8206 : Int32)) (by rw [li32_8206]; omega))]
    unfold f2_112
    rw [if_pos (own_lt (a := c) (b := (8592 : Int32)) (by rw [li32_8592]; omega))]
    unfold f2_126
    rw [if_pos (own_lt (a := c) (b := (12272 : Int32)) (by rw [li32_12272]; omega))]
    unfold f2_140
    rw [if_pos (own_lt (a := c) (b := (55296 : Int32)) (by rw [li32_55296]; omega))]
    unfold f2_152
    rw [if_pos (own_lt (a := c) (b := (64976 : Int32)) (by rw [li32_64976]; omega))]
    unfold f2_164
    rw [if_pos (own_lt (a := c) (b := (65534 : Int32)) (by rw [li32_65534]; omega))]
    unfold f2_176
    rw [if_pos (own_lt (a := c) (b := (983040 : Int32)) (by rw [li32_983040]; omega))]
    all_goals rfl
  simp only [f0_250, f0_266, a1, a2]; rfl
theorem own_i14 (c : Int32) (h1 : 768 ≤ c.toInt) (h2 : c.toInt < 880) : f0_250 c = 1 := by
  have a1 : F1 c = 0 := by
    unfold F1
    unfold f1_0
    rw [if_neg (own_nlt (a := c) (b := (97 : Int32)) (by rw [li32_97]; omega))]
    rw [if_pos (own_lt (a := (122 : Int32)) (b := c) (by rw [li32_122]; omega))]
    unfold f1_12
    rw [if_neg (own_nlt (a := c) (b := (65 : Int32)) (by rw [li32_65]; omega))]
    rw [if_pos (own_lt (a := (90 : Int32)) (b := c) (by rw [li32_90]; omega))]
    unfold f1_24
    rw [if_neg (own_neq (a := c) (b := (58 : Int32)) (by rw [li32_58]; omega))]
    rw [if_neg (own_neq (a := c) (b := (95 : Int32)) (by rw [li32_95]; omega))]
    rw [if_neg (own_nlt (a := c) (b := (192 : Int32)) (by rw [li32_192]; omega))]
    rw [if_pos (own_lt (a := (214 : Int32)) (b := c) (by rw [li32_214]; omega))]
    unfold f1_50
    rw [if_neg (own_nlt (a := c) (b := (216 : Int32)) (by rw [li32_216]; omega))]
    rw [if_pos (own_lt (a := (246 : Int32)) (b := c) (by rw [li32_246]; omega))]
    unfold f1_64
    rw [if_neg (own_nlt (a := c) (b := (248 : Int32)) (by rw [li32_248]; omega))]
    rw [if_pos (own_lt (a := (767 : Int32)) (b := c) (by rw [li32_767]; omega))]
    unfold f1_78
    rw [if_pos (own_lt (a := c) (b := (880 : Int32)) (by rw [li32_880]; omega))]
    unfold f1_92
    rw [if_pos (own_lt (a := c) (b := (895 : Int32)) (by rw [li32_895]; omega))]
    unfold f1_106
    rw [if_pos (own_lt (a := c) (b := (8204 : Int32)) (by rw [li32_8204]; omega))]
    unfold f1_120
    rw [if_pos (own_lt (a := c) (b := (8304 : Int32)) (by rw [li32_8304]; omega))]
    unfold f1_134
    rw [if_pos (own_lt (a := c) (b := (11264 : Int32)) (by rw [li32_11264]; omega))]
    unfold f1_148
    rw [if_pos (own_lt (a := c) (b := (12289 : Int32)) (by rw [li32_12289]; omega))]
    unfold f1_161
    rw [if_pos (own_lt (a := c) (b := (63744 : Int32)) (by rw [li32_63744]; omega))]
    unfold f1_173
    rw [if_pos (own_lt (a := c) (b := (65008 : Int32)) (by rw [li32_65008]; omega))]
    unfold f1_185
    rw [if_pos (own_lt (a := c) (b := (65536 : Int32)) (by rw [li32_65536]; omega))]
    unfold f1_201
    all_goals rfl
  have a2 : F2 c = 1 := by
    unfold F2
    unfold f2_0
    rw [if_neg (own_nlt (a := c) (b := (58 : Int32)) (by rw [li32_58]; omega))]
    rw [if_neg (own_nlt (a := c) (b := (59 : Int32)) (by rw [li32_59]; omega))]
    rw [if_pos (own_lt (a := (64 : Int32)) (b := c) (by rw [li32_64]; omega))]
    unfold f2_18
    rw [if_neg (own_nlt (a := c) (b := (91 : Int32)) (by rw [li32_91]; omega))]
    rw [if_pos (own_lt (a := (94 : Int32)) (b := c) (by rw [li32_94]; omega))]
    unfold f2_30
    rw [if_neg (own_neq (a := c) (b := (96 : Int32)) (by rw [li32_96]; omega))]
    rw [if_neg (own_nlt (a := c) (b := (123 : Int32)) (by rw [li32_123]; omega))]
    rw [if_pos (own_lt (a := (191 : Int32)) (b := c) (by rw [li32_191]; omega))]
    unfold f2_49
    rw [if_neg (own_neq (a := c) (b := (215 : Int32)) (by rw [li32_215]; omega))]
    rw [if_neg (own_neq (a := c) (b := (247 : Int32)) (by rw [li32_247]; omega))]
    rw [if_neg (own_nlt (a := c) (b := (768 : Int32)) (by rw [li32_768]; omega))]
    rw [if_neg (own_nlt (a := (879 : Int32)) (b := c) (by rw [li32_879]; omega))]
    unfold f2_182
    all_goals rfl
  simp only [f0_250, f0_266, a1, a2]; rfl
theorem own_i15 (c : Int32) (h1 : 880 ≤ c.toInt) (h2 : c.toInt < 894) : f0_250 c = 1 := by
  have a1 : F1 c = 1 := by
    unfold F1
    unfold f1_0
    rw [if_neg (own_nlt (a := c) (b := (97 : Int32)) (by rw [li32_97]; omega))]
    rw [if_pos (own_lt (a := (122 : Int32)) (b := c) (by rw [li32_122]; omega))]
    unfold f1_12
    rw [if_neg (own_nlt (a := c) (b := (65 : Int32)) (by rw [li32_65]; omega))]
    rw [if_pos (own_lt (a := (90 : Int32)) (b := c) (by rw [li32_90]; omega))]
    unfold f1_24
    rw [if_neg (own_neq (a := c) (b := (58 : Int32)) (by rw [li32_58]; omega))]
    rw [if_neg (own_neq (a := c) (b := (95 : Int32)) (by rw [li32_95]; omega))]
    rw [if_neg (own_nlt (a := c) (b := (192 : Int32)) (by rw [li32_192]; omega))]
    rw [if_pos (own_lt (a := (214 : Int32)) (b := c) (by rw [li32_214]; omega))]
    unfold f1_50
    rw [if_neg (own_nlt (a := c) (b := (216 : Int32)) (by rw [li32_216]; omega))]
    rw [if_pos (own_lt (a := (246 : Int32)) (b := c) (by rw [li32_246]; omega))]
    unfold f1_64
    rw [if_neg (own_nlt (a := c) (b := (248 : Int32)) (by rw [li32_248]; omega))]
    rw [if_pos (own_lt (a := (767 : Int32)) (b := c) (by rw [li32_767]; omega))]
    unfold f1_78
    rw [if_neg (own_nlt (a := c) (b := (880 : Int32)) (by rw [li32_880]; omega))]
    rw [if_neg (own_nlt (a := (893 : Int32)) (b := c) (by rw [li32_893]; omega))]
    unfold f1_197
    all_goals rfl
  have a2 : F2 c = 0 := by
    unfold F2
    unfold f2_0
    rw [if_neg (own_nlt (a := c) (b := (58 : Int32)) (by rw [li32_58]; omega))]
    rw [if_neg (own_nlt (a := c) (b := (59 : Int32)) (by rw [li32_59]; omega))]
    rw [if_pos (own_lt (a := (64 : Int32)) (b := c) (by rw [li32_64]; omega))]
    unfold f2_18
    rw [if_neg (own_nlt (a := c) (b := (91 : Int32)) (by rw [li32_91]; omega))]
    rw [if_pos (own_lt (a := (94 : Int32)) (b := c) (by rw [li32_94]; omega))]
    unfold f2_30
    rw [if_neg (own_neq (a := c) (b := (96 : Int32)) (by rw [li32_96]; omega))]
    rw [if_neg (own_nlt (a := c) (b := (123 : Int32)) (by rw [li32_123]; omega))]
    rw [if_pos (own_lt (a := (191 : Int32)) (b := c) (by rw [li32_191]; omega))]
    unfold f2_49
    rw [if_neg (own_neq (a := c) (b := (215 : Int32)) (by rw [li32_215]; omega))]
    rw [if_neg (own_neq (a := c) (b := (247 : Int32)) (by rw [li32_247]; omega))]
    rw [if_neg (own_nlt (a := c) (b := (768 : Int32)) (by rw [li32_768]; omega))]
    rw [if_pos (own_lt (a := (879 : Int32)) (b := c) (by rw [li32_879]; omega))]
    unfold f2_77
    rw [if_neg (own_neq (a := c) (b := (894 : Int32)) (by rw [li32_894]; omega))]
    rw [if_pos (own_lt (a := c) (b := (8192 : Int32)) (by rw [li32_8192]; omega))]
    unfold f2_98
    rw [if_pos (own_lt (a := c) (b := (8206 : Int32)) (by rw [li32_8206]; omega))]
    unfold f2_112
    rw [if_pos (own_lt (a := c) (b := (8592 : Int32)) (by rw [li32_8592]; omega))]
    unfold f2_126
    rw [if_pos (own_lt (a := c) (b := (12272 : Int32)) (by rw [li32_12272]; omega))]
    unfold f2_140
    rw [if_pos (own_lt (a := c) (b := (55296 : Int32)) (by rw [li32_55296]; omega))]
    unfold f2_152
    rw [if_pos (own_lt (a := c) (b := (64976 : Int32)) (by rw [li32_64976]; omega))]
    unfold f2_164
    rw [if_pos (own_lt (a := c) (b := (65534 : Int32)) (by rw [li32_65534]; omega))]
    unfold f2_176
    rw [if_pos (own_lt (a := c) (b := (983040 : Int32)) (by rw [li32_983040]; omega))]
    all_goals rfl
  simp only [f0_250, f0_266, a1, a2]; rfl
theorem own_i16 (c : Int32) (h1 : 894 ≤ c.toInt) (h2 : c.toInt < 895) : f0_250 c = 1 := by
  have a1 : F1 c = 0 := by
    unfold F1
    unfold f1_0
    rw [if_neg (own_nlt (a := c) (b := (97 : Int32)) (by rw [li32_97]; omega))]
    rw [if_pos (own_lt (a := (122 : Int32)) (b := c) (by rw [li32_122]; omega))]
    unfold f1_12
    rw [if_neg (own_nlt (a := c) (b := (65 : Int32)) (by rw [li32_65]; omega))]
    rw [if_pos (own_lt (a := (90 : Int32)) (b := c) (by rw [li32_90]; omega))]
    unfold f1_24
    rw [if_neg (own_neq (a := c) (b := (58 : Int32)) (by rw [li32_58]; omega))]
    rw [if_neg (own_neq (a := c) (b := (95 : Int32)) (by rw [li32_95]; omega))]
    rw [if_neg (own_nlt (a := c) (b := (192 : Int32)) (by rw [li32_192]; omega))]
    rw [if_pos (own_lt (a := (214 : Int32)) (b := c) (by rw [li32_214]; omega))]
    unfold f1_50
    rw [if_neg (own_nlt (a := c) (b := (216 : Int32)) (by rw [li32_216]; omega))]
    rw [if_pos (own_lt (a := (246 : Int32)) (b := c) (by rw [li32_246]; omega))]
    unfold f1_64
    rw [if_neg (own_nlt (a := c) (b := (248 : Int32)) (by rw [li32_248]; omega))]
    rw [if_pos (own_lt (a := (767 : Int32)) (b := c) (by rw [li32_767]; omega))]
    unfold f1_78
    rw [if_neg (own_nlt (a := c) (b := (880 : Int32)) (by rw [li32_880]; omega))]
    rw [if_pos (own_lt (a := (893 : Int32)) (b := c) (by rw [li32_893]; omega))]
    unfold f1_92
    rw [if_pos (own_lt (a := c) (b := (895 : Int32)) (by rw [li32_895]; omega))]
    unfold f1_106
    rw [if_pos (own_lt (a := c) (b := (8204 : Int32)) (by rw [li32_8204]; omega))]
    unfold f1_120
    rw [if_pos (own_lt (a := c) (b := (8304 : Int32)) (by rw [li32_8304]; omega))]
    unfold f1_134
    rw [if_pos (own_lt (a := c) (b := (11264 : Int32)) (by rw [li32_11264]; omega))]
    unfold f1_148
    rw [if_pos (own_lt (a := c) (b := (12289 : Int32)) (by rw [li32_12289]; omega))]
    unfold f1_161
    rw [if_pos (own_lt (a := c) (b := (63744 : Int32)) (by rw [li32_63744]; omega))]
    unfold f1_173
    rw [if_pos (own_lt (a := c) (b := (65008 : Int32)) (by rw [li32_65008]; omega))]
    unfold f1_185
    rw [if_pos (own_lt (a := c) (b := (65536 : Int32)) (by rw [li32_65536]; omega))]
    unfold f1_201
    all_goals rfl
  have a2 : F2 c = 1 := by
    unfold F2
    unfold f2_0
    rw [if_neg (own_nlt (a := c) (b := (58 : Int32)) (by rw [li32_58]; omega))]
    rw [if_neg (own_nlt (a := c) (b := (59 : Int32)) (by rw [li32_59]; omega))]
    rw [if_pos (own_lt (a := (64 : Int32)) (b := c) (by rw [li32_64]; omega))]
    unfold f2_18
    rw [if_neg (own_nlt (a := c) (b := (91 : Int32)) (by rw [li32_91]; omega))]
    rw [if_pos (own_lt (a := (94 : Int32)) (b := c) (by rw [li32_94]; omega))]
    unfold f2_30
    rw [if_neg (own_neq (a := c) (b := (96 : Int32)) (by rw [li32_96]; omega))]
    rw [if_neg (own_nlt (a := c) (b := (123 : Int32)) (by rw [li32_123]; omega))]
    rw [if_pos (own_lt (a := (191 : Int32)) (b := c) (by rw [li32_191]; omega))]
    unfold f2_49
    rw [if_neg (own_neq (a := c) (b := (215 : Int32)) (by rw [li32_215]; omega))]
    rw [if_neg (own_neq (a := c) (b := (247 : Int32)) (by rw [li32_247]; omega))]
    rw [if_neg (own_nlt (a := c) (b := (768 : Int32)) (by rw [li32_768]; omega))]
    rw [if_pos (own_lt (a := (879 : Int32)) (b := c) (by rw [li32_879]; omega))]
    unfold f2_77
    rw [if_pos (own_eq (a := c) (b := (894 : Int32)) (by rw [li32_894]; omega))]
    unfold f2_182
    all_goals rfl
  simp only [f0_250, f0_266, a1, a2]; rfl
theorem own_i17 (c : Int32) (h1 : 895 ≤ c.toInt) (h2 : c.toInt < 8192) : f0_250 c = 1 := by
  have a1 : F1 c = 1 := by
    unfold F1
    unfold f1_0
    rw [if_neg (own_nlt (a := c) (b := (97 : Int32)) (by rw [li32_97]; omega))]
    rw [if_pos (own_lt (a := (122 : Int32)) (b := c) (by rw [li32_122]; omega))]
    unfold f1_12
    rw [if_neg (own_nlt (a := c) (b := (65 : Int32)) (by rw [li32_65]; omega))]
    rw [if_pos (own_lt (a := (90 : Int32)) (b := c) (by rw [li32_90]; omega))]
    unfold f1_24
    rw [if_neg (own_neq (a := c) (b := (58 : Int32)) (by rw [li32_58]; omega))]
    rw [if_neg (own_neq (a := c) (b := (95 : Int32)) (by rw [li32_95]; omega))]
    rw [if_neg (own_nlt (a := c) (b := (192 : Int32)) (by rw [li32_192]; omega))]
    rw [if_pos (own_lt (a := (214 : Int32)) (b := c) (by rw [li32_214]; omega))]
    unfold f1_50
    rw [if_neg (own_nlt (a := c) (b := (216 : Int32)) (by rw [li32_216]; omega))]
    rw [if_pos (own_lt (a := (246 : Int32)) (b := c) (by rw [li32_246]; omega))]
    unfold f1_64
    rw [if_neg (own_nlt (a := c) (b := (248 : Int32)) (by rw [li32_248]; omega))]
    rw [if_pos (own_lt (a := (767 : Int32)) (b := c) (by rw [li32_767]; omega))]
    unfold f1_78
    rw [if_neg (own_nlt (a := c) (b := (880 : Int32)) (by rw [li32_880]; omega))]
    rw [if_pos (own_lt (a := (893 : Int32)) (b := c) (by rw [li32_893]; omega))]
    unfold f1_92
    rw [if_neg (own_nlt (a := c) (b := (895 : Int32)) (by rw [li32_895]; omega))]
    rw [if_neg (own_nlt (a := (8191 : Int32)) (b := c) (by rw [li32_8191]; omega))]
    unfold f1_197
    all_goals rfl
  have a2 : F2 c = 0 := by
    unfold F2
    unfold f2_0
    rw [if_neg (own_nlt (a := c) (b := (58 : Int32)) (by rw [li32_58]; omega))]
    rw [if_neg (own_nlt (a := c) (b := (59 : Int32)) (by rw [li32_59]; omega))]
    rw [if_pos (own_lt (a := (64 : Int32)) (b := c) (by rw [li32_64]; omega))]
    unfold f2_18
    rw [if_neg (own_nlt (a := c) (b := (91 : Int32)) (by rw [li32_91]; omega))]
    rw [if_pos (own_lt (a := (94 : Int32)) (b := c) (by rw [li32_94]; omega))]
    unfold f2_30
    rw [if_neg (own_neq (a := c) (b := (96 : Int32)) (by rw [li32_96]; omega))]
    rw [if_neg (own_nlt (a := c) (b := (123 : Int32)) (by rw [li32_123]; omega))]
    rw [if_pos (own_lt (a := (191 : Int32)) (b := c) (by rw [li32_191]; omega))]
    unfold f2_49
    rw [if_neg (own_neq (a := c) (b := (215 : Int32)) (by rw [li32_215]; omega))]
    rw [if_neg (own_neq (a := c) (b := (247 : Int32)) (by rw [li32_247]; omega))]
    rw [if_neg (own_nlt (a := c) (b := (768 : Int32)) (by rw [li32_768]; omega))]
    rw [if_pos (own_lt (a := (879 : Int32)) (b := c) (by rw [li32_879]; omega))]
    unfold f2_77
    rw [if_neg (own_neq (a := c) (b := (894 : Int32)) (by rw [li32_894]; omega))]
    rw [if_pos (own_lt (a := c) (b := (8192 : Int32)) (by rw [li32_8192]; omega))]
    unfold f2_98
    rw [if_pos (own_lt (a := c) (b := (8206 : Int32)) (by rw [li32_8206]; omega))]
    unfold f2_112
    rw [if_pos (own_lt (a := c) (b := (8592 : Int32)) (by rw [li32_8592]; omega))]
    unfold f2_126
    rw [if_pos (own_lt (a := c) (b := (12272 : Int32)) (by rw [li32_12272]; omega))]
    unfold f2_140
    rw [if_pos (own_lt (a := c) (b := (55296 : Int32)) (by rw [li32_55296]; omega))]
    unfold f2_152
    rw [if_pos (own_lt (a := c) (b := (64976 : Int32)) (by rw [li32_64976]; omega))]
    unfold f2_164
    rw [if_pos (own_lt (a := c) (b := (65534 : Int32)) (by rw [li32_65534]; omega))]
    unfold f2_176
    rw [if_pos (own_lt (a := c) (b := (983040 : Int32)) (by rw [li32_983040]; omega))]
    all_goals rfl
  simp only [f0_250, f0_266, a1, a2]; rfl
theorem own_i18 (c : Int32) (h1 : 8192 ≤ c.toInt) (h2 : c.toInt < 8204) : f0_250 c = 1 := by
  have a1 : F1 c = 0 := by
    unfold F1
    unfold f1_0
    rw [if_neg (own_nlt (a := c) (b := (97 : Int32)) (by rw [li32_97]; omega))]
    rw [if_pos (own_lt (a := (122 : Int32)) (b := c) (by rw [li32_122]; omega))]
    unfold f1_12
    rw [if_neg (own_nlt (a := c) (b := (65 : Int32)) (by rw [li32_65]; omega))]
    rw [if_pos (own_lt (a := (90 : Int32)) (b := c) (by rw [li32_90]; omega))]
    unfold f1_24
    rw [if_neg (own_neq (a := c) (b := (58 : Int32)) (by rw [li32_58]; omega))]
    rw [if_neg (own_neq (a := c) (b := (95 : Int32)) (by rw [li32_95]; omega))]
    rw [if_neg (own_nlt (a := c) (b := (192 : Int32)) (by rw [li32_192]; omega))]
    rw [if_pos (own_lt (a := (214 : Int32)) (b := c) (by rw [li32_214]; omega))]
    unfold f1_50
    rw [if_neg (own_nlt (a := c) (b := (216 : Int32)) (by rw [li32_216]; omega))]
    rw [if_pos (own_lt (a := (246 : Int32)) (b := c) (by rw [li32_246]; omega))]
    unfold f1_64
    rw [if_neg (own_nlt (a := c) (b := (248 : Int32)) (by rw [li32_248]; omega))]
    rw [if_pos (own_lt (a := (767 : Int32)) (b := c) (by rw [li32_767]; omega))]
    unfold f1_78
    rw [if_neg (own_nlt (a := c) (b := (880 : Int32)) (by rw [li32_880]; omega))]
    rw [if_pos (own_lt (a := (893 : Int32)) (b := c) (by rw [li32_893]; omega))]
    unfold f1_92
    rw [if_neg (own_nlt (a := c) (b := (895 : Int32)) (by rw [li32_895]; omega))]
    rw [if_pos (own_lt (a := (8191 : Int32)) (b := c) (by rw [li32_8191]; omega))]
    unfold f1_106
    rw [if_pos (own_lt (a := c) (b := (8204 : Int32)) (by rw [li32_8204]; omega))]
    unfold f1_120
    rw [if_pos (own_lt (a := c) (b := (8304 : Int32)) (by rw [li32_8304]; omega))]
    unfold f1_134
    rw [if_pos (own_lt (a := c) (b := (11264 : Int32)) (by rw [li32_11264]; omega))]
    unfold f1_148
    rw [if_pos (own_lt (a := c) (b := (12289 : Int32)) (by rw [li32_12289]; omega))]
    unfold f1_161
    rw [if_pos (own_lt (a := c) (b := (63744 : Int32)) (by rw [li32_63744]; omega))]
    unfold f1_173
    rw [if_pos (own_lt (a := c) (b := (65008 : Int32)) (by rw [li32_65008]; omega))]
    unfold f1_185
    rw [if_pos (own_lt (a := c) (b := (65536 : Int32)) (by rw [li32_65536]; omega))]
    unfold f1_201
    all_goals rfl
  have a2 : F2 c = 1 := by
    unfold F2
    unfold f2_0
    rw [if_neg (own_nlt (a := c) (b := (58 : Int32)) (by rw [li32_58]; omega))]
    rw [if_neg (own_nlt (a := c) (b := (59 : Int32)) (by rw [li32_59]; omega))]
    rw [if_pos (own_lt (a := (64 : Int32)) (b := c) (by rw [li32_64]; omega))]
    unfold f2_18
    rw [if_neg (own_nlt (a := c) (b := (91 : Int32)) (by rw [li32_91]; omega))]
    rw [if_pos (own_lt (a := (94 : Int32)) (b := c) (by rw [li32_94]; omega))]
    unfold f2_30
    rw [if_neg (own_neq (a := c) (b := (96 : Int32)) (by rw [li32_96]; omega))]
    rw [if_neg (own_nlt (a := c) (b := (123 : Int32)) (by rw [li32_123]; omega))]
    rw [if_pos (own_lt (a := (191 : Int32)) (b := c) (by rw [li32_191]; omega))]
    unfold f2_49
    rw [if_neg (own_neq (a := c) (b := (215 : Int32)) (by rw [li32_215]; omega))]
    rw [if_neg (own_neq (a := c) (b := (247 : Int32)) (by rw [li32_247]; omega))]
    rw [if_neg (own_nlt (a := c) (b := (768 : Int32)) (by rw [li32_768]; omega))]
    rw [if_pos (own_lt (a := (879 : Int32)) (b := c) (by rw [li32_879]; omega))]
    unfold f2_77
    rw [if_neg (own_neq (a := c) (b := (894 : Int32)) (by rw [li32_894]; omega))]
    rw [if_neg (own_nlt (a := c) (b := (8192 : Int32)) (by rw [li32_8192]; omega))]
    rw [if_neg (own_nlt (a := (8203 : Int32)) (b := c) (by rw [li32_8203]; omega))]
    unfold f2_182
    all_goals rfl
  simp only [f0_250, f0_266, a1, a2]; rfl
theorem own_i19 (c : Int32) (h1 : 8204 ≤ c.toInt) (h2 : c.toInt < 8206) : f0_250 c = 1 := by
  have a1 : F1 c = 1 := by
    unfold F1
    unfold f1_0
    rw [if_neg (own_nlt (a := c) (b := (97 : Int32)) (by rw [li32_97]; omega))]
    rw [if_pos (own_lt (a := (122 : Int32)) (b := c) (by rw [li32_122]; omega))]
    unfold f1_12
    rw [if_neg (own_nlt (a := c) (b := (65 : Int32)) (by rw [li32_65]; omega))]
    rw [if_pos (own_lt (a := (90 : Int32)) (b := c) (by rw [li32_90]; omega))]
    unfold f1_24
    rw [if_neg (own_neq (a := c) (b := (58 : Int32)) (by rw [li32_58]; omega))]
    rw [if_neg (own_neq (a := c) (b := (95 : Int32)) (by rw [li32_95]; omega))]
    rw [if_neg (own_nlt (a := c) (b := (192 : Int32)) (by rw [li32_192]; omega))]
    rw [if_pos (own_lt (a := (214 : Int32)) (b := c) (by rw [li32_214]; omega))]
    unfold f1_50
    rw [if_neg (own_nlt (a := c) (b := (216 : Int32)) (by rw [li32_216]; omega))]
    rw [if_pos (own_lt (a := (246 : Int32)) (b := c) (by rw [li32_246]; omega))]
    unfold f1_64
    rw [if_neg (own_nlt (a := c) (b := (248 : Int32)) (by rw [li32_248]; omega))]
    rw [if_pos (own_lt (a := (767 : Int32)) (b := c) (by rw [li32_767]; omega))]
    unfold f1_78
    rw [if_neg (own_nlt (a := c) (b := (880 : Int32)) (by rw [li32_880]; omega))]
    rw [if_pos (own_lt (a := (893 : Int32)) (b := c) (by rw [li32_893]; omega))]
    unfold f1_92
    rw [if_neg (own_nlt (a := c) (b := (895 : Int32)) (by rw [li32_895]; omega))]
    rw [if_pos (own_lt (a := (8191 : Int32)) (b := c) (by rw [li32_8191]; omega))]
    unfold f1_106
    rw [if_neg (own_nlt (a := c) (b := (8204 : Int32)) (by rw [li32_8204]; omega))]
    rw [if_neg (own_nlt (a := (8205 : Int32)) (b := c) (by rw [li32_8205]; omega))]
    unfold f1_197
    all_goals rfl
  have a2 : F2 c = 0 := by
    unfold F2
    unfold f2_0
    rw [if_neg (own_nlt (a := c) (b := (58 : Int32)) (by rw [li32_58]; omega))]
    rw [if_neg (own_nlt (a := c) (b := (59 : Int32)) (by rw [li32_59]; omega))]
    rw [if_pos (own_lt (a := (64 : Int32)) (b := c) (by rw [li32_64]; omega))]
    unfold f2_18
    rw [if_neg (own_nlt (a := c) (b := (91 : Int32)) (by rw [li32_91]; omega))]
    rw [if_pos (own_lt (a := (94 : Int32)) (b := c) (by rw [li32_94]; omega))]
    unfold f2_30
    rw [if_neg (own_neq (a := c) (b := (96 : Int32)) (by rw [li32_96]; omega))]
    rw [if_neg (own_nlt (a := c) (b := (123 : Int32)) (by rw [li32_123]; omega))]
    rw [if_pos (own_lt (a := (191 : Int32)) (b := c) (by rw [li32_191]; omega))]
    unfold f2_49
    rw [if_neg (own_neq (a := c) (b := (215 : Int32)) (by rw [li32_215]; omega))]
    rw [if_neg (own_neq (a := c) (b := (247 : Int32)) (by rw [li32_247]; omega))]
    rw [if_neg (own_nlt (a := c) (b := (768 : Int32)) (by rw [li32_768]; omega))]
    rw [if_pos (own_lt (a := (879 : Int32)) (b := c) (by rw [li32_879]; omega))]
    unfold f2_77
    rw [if_neg (own_neq (a := c) (b := (894 : Int32)) (by rw [li32_894]; omega))]
    rw [if_neg (own_nlt (a := c) (b := (8192 : Int32)) (by rw [li32_8192]; omega))]
    rw [if_pos (own_lt (a := (8203 : Int32)) (b := c) (by rw [li32_8203]; omega))]
    unfold f2_98
    rw [if_pos (own_lt (a := c) (b := (8206 : Int32)) (by rw [li32_8206]; omega))]
    unfold f2_112
    rw [if_pos (own_lt (a := c) (b := (8592 : Int32)) (by rw [li32_8592]; omega))]
    unfold f2_126
    rw [if_pos (own_lt (a := c) (b := (12272 : Int32)) (by rw [li32_12272]; omega))]
    unfold f2_140
    rw [if_pos (own_lt (a := c) (b := (55296 : Int32)) (by rw [li32_55296]; omega))]
    unfold f2_152
    rw [if_pos (own_lt (a := c) (b := (64976 : Int32)) (by rw [li32_64976]; omega))]
    unfold f2_164
    rw [if_pos (own_lt (a := c) (b := (65534 : Int32)) (by rw [li32_65534]; omega))]
    unfold f2_176
    rw [if_pos (own_lt (a := c) (b := (983040 : Int32)) (by rw [li32_983040]; omega))]
    all_goals rfl
  simp only [f0_250, f0_266, a1, a2]; rfl
theorem own_i20 (c : Int32) (h1 : 8206 ≤ c.toInt) (h2 : c.toInt < 8304) : f0_250 c = 1 := by
  have a1 : F1 c = 0 := by
    unfold F1
    unfold f1_0
    rw [if_neg (own_nlt (a := c) (b := (97 : Int32)) (by rw [li32_97]; omega))]
    rw [if_pos (own_lt (a := (122 : Int32)) (b := c) (by rw [li32_122]; omega))]
    unfold f1_12
    rw [if_neg (own_nlt (a := c) (b := (65 : Int32)) (by rw [li32_65]; omega))]
    rw [if_pos (own_lt (a := (90 : Int32)) (b := c) (by rw [li32_90]; omega))]
    unfold f1_24
    rw [if_neg (own_neq (a := c) (b := (58 : Int32)) (by rw [li32_58]; omega))]
    rw [if_neg (own_neq (a := c) (b := (95 : Int32)) (by rw [li32_95]; omega))]
    rw [if_neg (own_nlt (a := c) (b := (192 : Int32)) (by rw [li32_192]; omega))]
    rw [if_pos (own_lt (a := (214 : Int32)) (b := c) (by rw [li32_214]; omega))]
    unfold f1_50
    rw [if_neg (own_nlt (a := c) (b := (216 : Int32)) (by rw [li32_216]; omega))]
    rw [if_pos (own_lt (a := (246 : Int32)) (b := c) (by rw [li32_246]; omega))]
    unfold f1_64
    rw [if_neg (own_nlt (a := c) (b := (248 : Int32)) (by rw [li32_248]; omega))]
    rw [if_pos (own_lt (a := (767 : Int32)) (b := c) (by rw [li32_767]; omega))]
    unfold f1_78
    rw [if_neg (own_nlt (a := c) (b := (880 : Int32)) (by rw [li32_880]; omega))]
    rw [if_pos (own_lt (a := (893 : Int32)) (b := c) (by rw [li32_893]; omega))]
    unfold f1_92
    rw [if_neg (own_nlt (a := c) (b := (895 : Int32)) (by rw [li32_895]; omega))]
    rw [if_pos (own_lt (a := (8191 : Int32)) (b := c) (by rw [li32_8191]; omega))]
    unfold f1_106
    rw [if_neg (own_nlt (a := c) (b := (8204 : Int32)) (by rw [li32_8204]; omega))]
    rw [if_pos (own_lt (a := (8205 : Int32)) (b := c) (by rw [li32_8205]; omega))]
    unfold f1_120
    rw [if_pos (own_lt (a := c) (b := (8304 : Int32)) (by rw [li32_8304]; omega))]
    unfold f1_134
    rw [if_pos (own_lt (a := c) (b := (11264 : Int32)) (by rw [li32_11264]; omega))]
    unfold f1_148
    rw [if_pos (own_lt (a := c) (b := (12289 : Int32)) (by rw [li32_12289]; omega))]
    unfold f1_161
    rw [if_pos (own_lt (a := c) (b := (63744 : Int32)) (by rw [li32_63744]; omega))]
    unfold f1_173
    rw [if_pos (own_lt (a := c) (b := (65008 : Int32)) (by rw [li32_65008]; omega))]
    unfold f1_185
    rw [if_pos (own_lt (a := c) (b := (65536 : Int32)) (by rw [li32_65536]; omega))]
    unfold f1_201
    all_goals rfl
  have a2 : F2 c = 1 := by
    unfold F2
    unfold f2_0
    rw [if_neg (own_nlt (a := c) (b := (58 : Int32)) (by rw [li32_58]; omega))]
    rw [if_neg (own_nlt (a := c) (b := (59 : Int32)) (by rw [li32_59]; omega))]
    rw [if_pos (own_lt (a := (64 : Int32)) (b := c) (by rw [li32_64]; omega))]
    unfold f2_18
    rw [if_neg (own_nlt (a := c) (b := (91 : Int32)) (by rw [li32_91]; omega))]
    rw [if_pos (own_lt (a := (94 : Int32)) (b := c) (by rw [li32_94]; omega))]
    unfold f2_30
    rw [if_neg (own_neq (a := c) (b := (96 : Int32)) (by rw [li32_96]; omega))]
    rw [if_neg (own_nlt (a := c) (b := (123 : Int32)) (by rw [li32_123]; omega))]
    rw [if_pos (own_lt (a := (191 : Int32)) (b := c) (by rw [li32_191]; omega))]
    unfold f2_49
    rw [if_neg (own_neq (a := c) (b := (215 : Int32)) (by rw [li32_215]; omega))]
    rw [if_neg (own_neq (a := c) (b := (247 : Int32)) (by rw [li32_247]; omega))]
    rw [if_neg (own_nlt (a := c) (b := (768 : Int32)) (by rw [li32_768]; omega))]
    rw [if_pos (own_lt (a := (879 : Int32)) (b := c) (by rw [li32_879]; omega))]
    unfold f2_77
    rw [if_neg (own_neq (a := c) (b := (894 : Int32)) (by rw [li32_894]; omega))]
    rw [if_neg (own_nlt (a := c) (b := (8192 : Int32)) (by rw [li32_8192]; omega))]
    rw [if_pos (own_lt (a := (8203 : Int32)) (b := c) (by rw [li32_8203]; omega))]
    unfold f2_98
    rw [if_neg (own_nlt (a := c) (b := (8206 : Int32)) (by rw [li32_8206]; omega))]
    rw [if_neg (own_nlt (a := (8303 : Int32)) (b := c) (by rw [li32_8303]; omega))]
    unfold f2_182
    all_goals rfl
  simp only [f0_250, f0_266, a1, a2]; rfl
theorem own_i21 (c : Int32) (h1 : 8304 ≤ c.toInt) (h2 : c.toInt < 8592) : f0_250 c = 1 := by
  have a1 : F1 c = 1 := by
    unfold F1
    unfold f1_0
    rw [if_neg (own_nlt (a := c) (b := (97 : Int32)) (by rw [li32_97]; omega))]
    rw [if_pos (own_lt (a := (122 : Int32)) (b := c) (by rw [li32_122]; omega))]
    unfold f1_12
    rw [if_neg (own_nlt (a := c) (b := (65 : Int32)) (by rw [li32_65]; omega))]
    rw [if_pos (own_lt (a := (90 : Int32)) (b := c) (by rw [li32_90]; omega))]
    unfold f1_24
    rw [if_neg (own_neq (a := c) (b := (58 : Int32)) (by rw [li32_58]; omega))]
    rw [if_neg (own_neq (a := c) (b := (95 : Int32)) (by rw [li32_95]; omega))]
    rw [if_neg (own_nlt (a := c) (b := (192 : Int32)) (by rw [li32_192]; omega))]
    rw [if_pos (own_lt (a := (214 : Int32)) (b := c) (by rw [li32_214]; omega))]
    unfold f1_50
    rw [if_neg (own_nlt (a := c) (b := (216 : Int32)) (by rw [li32_216]; omega))]
    rw [if_pos (own_lt (a := (246 : Int32)) (b := c) (by rw [li32_246]; omega))]
    unfold f1_64
    rw [if_neg (own_nlt (a := c) (b := (248 : Int32)) (by rw [li32_248]; omega))]
    rw [if_pos (own_lt (a := (767 : Int32)) (b := c) (by rw [li32_767]; omega))]
    unfold f1_78
    rw [if_neg (own_nlt (a := c) (b := (880 : Int32)) (by rw [li32_880]; omega))]
    rw [if_pos (own_lt (a := (893 : Int32)) (b := c) (by rw [li32_893]; omega))]
    unfold f1_92
    rw [if_neg (own_nlt (a := c) (b := (895 : Int32)) (by rw [li32_895]; omega))]
    rw [if_pos (own_lt (a := (8191 : Int32)) (b := c) (by rw [li32_8191]; omega))]
    unfold f1_106
    rw [if_neg (own_nlt (a := c) (b := (8204 : Int32)) (by rw [li32_8204]; omega))]
    rw [if_pos (own_lt (a := (8205 : Int32)) (b := c) (by rw [li32_8205]; omega))]
    unfold f1_120
    rw [if_neg (own_nlt (a := c) (b := (8304 : Int32)) (by rw [li32_8304]; omega))]
    rw [if_neg (own_nlt (a := (8591 : Int32)) (b := c) (by rw [li32_8591]; omega))]
    unfold f1_197
    all_goals rfl
  have a2 : F2 c = 0 := by
    unfold F2
    unfold f2_0
    rw [if_neg (own_nlt (a := c) (b := (58 : Int32)) (by rw [li32_58]; omega))]
    rw [if_neg (own_nlt (a := c) (b := (59 : Int32)) (by rw [li32_59]; omega))]
    rw [if_pos (own_lt (a := (64 : Int32)) (b := c) (by rw [li32_64]; omega))]
    unfold f2_18
    rw [if_neg (own_nlt (a := c) (b := (91 : Int32)) (by rw [li32_91]; omega))]
    rw [if_pos (own_lt (a := (94 : Int32)) (b := c) (by rw [li32_94]; omega))]
    unfold f2_30
    rw [if_neg (own_neq (a := c) (b := (96 : Int32)) (by rw [li32_96]; omega))]
    rw [if_neg (own_nlt (a := c) (b := (123 : Int32)) (by rw [li32_123]; omega))]
    rw [if_pos (own_lt (a := (191 : Int32)) (b := c) (by rw [li32_191]; omega))]
    unfold f2_49
    rw [if_neg (own_neq (a := c) (b := (215 : Int32)) (by rw [li32_215]; omega))]
    rw [if_neg (own_neq (a := c) (b := (247 : Int32)) (by rw [li32_247]; omega))]
    rw [if_neg (own_nlt (a := c) (b := (768 : Int32)) (by rw [li32_768]; omega))]
    rw [if_pos (own_lt (a := (879 : Int32)) (b := c) (by rw [li32_879]; omega))]
    unfold f2_77
    rw [if_neg (own_neq (a := c) (b := (894 : Int32)) (by rw [li32_894]; omega))]
    rw [if_neg (own_nlt (a := c) (b := (8192 : Int32)) (by rw [li32_8192]; omega))]
    rw [if_pos (own_lt (a := (8203 : Int32)) (b := c) (by rw [li32_8203]; omega))]
    unfold f2_98
    rw [if_neg (own_nlt (a := c) (b := (8206 : Int32)) (by rw [li32_8206]; omega))]
    rw [if_pos (own_lt (a := (8303 : Int32)) (b := c) (by rw [li32_8303]; omega))]
    unfold f2_112
    rw [if_pos (own_lt (a := c) (b := (8592 : Int32)) (by rw [li32_8592]; omega))]
    unfold f2_126
    rw [if_pos (own_lt (a := c) (b := (12272 : Int32)) (by rw [li32_12272]; omega))]
    unfold f2_140
    rw [if_pos (own_lt (a := c) (b := (55296 : Int32)) (by rw [li32_55296]; omega))]
    unfold f2_152
    rw [if_pos (own_lt (a := c) (b := (64976 : Int32)) (by rw [li32_64976]; omega))]
    unfold f2_164
    rw [if_pos (own_lt (a := c) (b := (65534 : Int32)) (by rw [li32_65534]; omega))]
    unfold f2_176
    rw [if_pos (own_lt (a := c) (b := (983040 : Int32)) (by rw [li32_983040]; omega))]
    all_goals rfl
  simp only [f0_250, f0_266, a1, a2]; rfl
theorem own_i22 (c : Int32) (h1 : 8592 ≤ c.toInt) (h2 : c.toInt < 11264) : f0_250 c = 1 := by
  have a1 : F1 c = 0 := by
    unfold F1
    unfold f1_0
    rw [if_neg (own_nlt (a := c) (b := (97 : Int32)) (by rw [li32_97]; omega))]
    rw [if_pos (own_lt (a := (122 : Int32)) (b := c) (by rw [li32_122]; omega))]
    unfold f1_12
    rw [if_neg (own_nlt (a := c) (b := (65 : Int32)) (by rw [li32_65]; omega))]
    rw [if_pos (own_lt (a := (90 : Int32)) (b := c) (by rw [li32_90]; omega))]
    unfold f1_24
    rw [if_neg (own_neq (a := c) (b := (58 : Int32)) (by rw [li32_58]; omega))]
    rw [if_neg (own_neq (a := c) (b := (95 : Int32)) (by rw [li32_95]; omega))]
    rw [if_neg (own_nlt (a := c) (b := (192 : Int32)) (by rw [li32_192]; omega))]
    rw [if_pos (own_lt (a := (214 : Int32)) (b := c) (by rw [li32_214]; omega))]
    unfold f1_50
    rw [if_neg (own_nlt (a := c) (b := (216 : Int32)) (by rw [li32_216]; omega))]
    rw [if_pos (own_lt (a := (246 : Int32)) (b := c) (by rw [li32_246]; omega))]
    unfold f1_64
    rw [if_neg (own_nlt (a := c) (b := (248 : Int32)) (by rw [li32_248]; omega))]
    rw [if_pos (own_lt (a := (767 : Int32)) (b := c) (by rw [li32_767]; omega))]
    unfold f1_78
    rw [if_neg (own_nlt (a := c) (b := (880 : Int32)) (by rw [li32_880]; omega))]
    rw [if_pos (own_lt (a := (893 : Int32)) (b := c) (by rw [li32_893]; omega))]
    unfold f1_92
    rw [if_neg (own_nlt (a := c) (b := (895 : Int32)) (by rw [li32_895]; omega))]
    rw [if_pos (own_lt (a := (8191 : Int32)) (b := c) (by rw [li32_8191]; omega))]
    unfold f1_106
    rw [if_neg (own_nlt (a := c) (b := (8204 : Int32)) (by rw [li32_8204]; omega))]
    rw [if_pos (own_lt (a := (8205 : Int32)) (b := c) (by rw [li32_8205]; omega))]
    unfold f1_120
    rw [if_neg (own_nlt (a := c) (b := (8304 : Int32)) (by rw [li32_8304]; omega))]
    rw [if_pos (own_lt (a := (8591 : Int32)) (b := c) (by rw [li32_8591]; omega))]
    unfold f1_134
    rw [if_pos (own_lt (a := c) (b := (11264 : Int32)) (by rw [li32_11264]; omega))]
    unfold f1_148
    rw [if_pos (own_lt (a := c) (b := (12289 : Int32)) (by rw [li32_12289]; omega))]
    unfold f1_161
    rw [if_pos (own_lt (a := c) (b := (63744 : Int32)) (by rw [li32_63744]; omega))]
    unfold f1_173
    rw [if_pos (own_lt (a := c) (b := (65008 : Int32)) (by rw [li32_65008]; omega))]
    unfold f1_185
    rw [if_pos (own_lt (a := c) (b := (65536 : Int32)) (by rw [li32_65536]; omega))]
    unfold f1_201
    all_goals rfl
  have a2 : F2 c = 1 := by
    unfold F2
    unfold f2_0
    rw [if_neg (own_nlt (a := c) (b := (58 : Int32)) (by rw [li32_58]; omega))]
    rw [if_neg (own_nlt (a := c) (b := (59 : Int32)) (by rw [li32_59]; omega))]
    rw [if_pos (own_lt (a := (64 : Int32)) (b := c) (by rw [li32_64]; omega))]
    unfold f2_18
    rw [if_neg (own_nlt (a := c) (b := (91 : Int32)) (by rw [li32_91]; omega))]
    rw [if_pos (own_lt (a := (94 : Int32)) (b := c) (by rw [li32_94]; omega))]
    unfold f2_30
    rw [if_neg (own_neq (a := c) (b := (96 : Int32)) (by rw [li32_96]; omega))]
    rw [if_neg (own_nlt (a := c) (b := (123 : Int32)) (by rw [li32_123]; omega))]
    rw [if_pos (own_lt (a := (191 : Int32)) (b := c) (by rw [li32_191]; omega))]
    unfold f2_49
    rw [if_neg (own_neq (a := c) (b := (215 : Int32)) (by rw [li32_215]; omega))]
    rw [if_neg (own_neq (a := c) (b := (247 : Int32)) (by rw [li32_247]; omega))]
    rw [if_neg (own_nlt (a := c) (b := (768 : Int32)) (by rw [li32_768]; omega))]
    rw [if_pos (own_lt (a := (879 : Int32)) (b := c) (by rw [li32_879]; omega))]
    unfold f2_77
    rw [if_neg (own_neq (a := c) (b := (894 : Int32)) (by rw [li32_894]; omega))]
    rw [if_neg (own_nlt (a := c) (b := (8192 : Int32)) (by rw [li32_8192]; omega))]
    rw [if_pos (own_lt (a := (8203 : Int32)) (b := c) (by rw [li32_8203]; omega))]
    unfold f2_98
    rw [if_neg (own_nlt (a := c) (b := (8206 : Int32)) (by rw [li32_8206]; omega))]
    rw [if_pos (own_lt (a := (8303 : Int32)) (b := c) (by rw [li32_8303]; omega))]
    unfold f2_112
    rw [if_neg (own_nlt (a := c) (b := (8592 : Int32)) (by rw [li32_8592]; omega))]
    rw [if_neg (own_nlt (a := (11263 : Int32)) (b := c) (by rw [li32_11263]; omega))]
    unfold f2_182
    all_goals rfl
  simp only [f0_250, f0_266, a1, a2]; rfl
theorem own_i23 (c : Int32) (h1 : 11264 ≤ c.toInt) (h2 : c.toInt < 12272) : f0_250 c = 1 := by
  have a1 : F1 c = 1 := by
    unfold F1
    unfold f1_0
    rw [if_neg (own_nlt (a := c) (b := (97 : Int32)) (by rw [li32_97]; omega))]
    rw [if_pos (own_lt (a := (122 : Int32)) (b := c) (by rw [li32_122]; omega))]
    unfold f1_12
    rw [if_neg (own_nlt (a := c) (b := (65 : Int32)) (by rw [li32_65]; omega))]
    rw [if_pos (own_lt (a := (90 : Int32)) (b := c) (by rw [li32_90]; omega))]
    unfold f1_24
    rw [if_neg (own_neq (a := c) (b := (58 : Int32)) (by rw [li32_58]; omega))]
    rw [if_neg (own_neq (a := c) (b := (95 : Int32)) (by rw [li32_95]; omega))]
    rw [if_neg (own_nlt (a := c) (b := (192 : Int32)) (by rw [li32_192]; omega))]
    rw [if_pos (own_lt (a := (214 : Int32)) (b := c) (by rw [li32_214]; omega))]
    unfold f1_50
    rw [if_neg (own_nlt (a := c) (b := (216 : Int32)) (by rw [li32_216]; omega))]
    rw [if_pos (own_lt (a := (246 : Int32)) (b := c) (by rw [li32_246]; omega))]
    unfold f1_64
    rw [if_neg (own_nlt (a := c) (b := (248 : Int32)) (by rw [li32_248]; omega))]
    rw [if_pos (own_lt (a := (767 : Int32)) (b := c) (by rw [li32_767]; omega))]
    unfold f1_78
    rw [if_neg (own_nlt (a := c) (b := (880 : Int32)) (by rw [li32_880]; omega))]
    rw [if_pos (own_lt (a := (893 : Int32)) (b := c) (by rw [li32_893]; omega))]
    unfold f1_92
    rw [if_neg (own_nlt (a := c) (b := (895 : Int32)) (by rw [li32_895]; omega))]
    rw [if_pos (own_lt (a := (8191 : Int32)) (b := c) (by rw [li32_8191]; omega))]
    unfold f1_106
    rw [if_neg (own_nlt (a := c) (b := (8204 : Int32)) (by rw [li32_8204]; omega))]
    rw [if_pos (own_lt (a := (8205 : Int32)) (b := c) (by rw [li32_8205]; omega))]
    unfold f1_120
    rw [if_neg (own_nlt (a := c) (b := (8304 : Int32)) (by rw [li32_8304]; omega))]
    rw [if_pos (own_lt (a := (8591 : Int32)) (b := c) (by rw [li32_8591]; omega))]
    unfold f1_134
    rw [if_neg (own_nlt (a := c) (b := (11264 : Int32)) (by rw [li32_11264]; omega))]
    rw [if_neg (own_nlt (a := (12271 : Int32)) (b := c) (by rw [li32_12271]; omega))]
    unfold f1_197
    all_goals rfl
  have a2 : F2 c = 0 := by
    unfold F2
    unfold f2_0
    rw [if_neg (own_nlt (a := c) (b := (58 : Int32)) (by rw [li32_58]; omega))]
    rw [if_neg (own_nlt (a := c) (b := (59 : Int32)) (by rw [li32_59]; omega))]
    rw [if_pos (own_lt (a := (64 : Int32)) (b := c) (by rw [li32_64]; omega))]
    unfold f2_18
    rw [if_neg (own_nlt (a := c) (b := (91 : Int32)) (by rw [li32_91]; omega))]
    rw [if_pos (own_lt (a := (94 : Int32)) (b := c) (by rw [li32_94]; omega))]
    unfold f2_30
    rw [if_neg (own_neq (a := c) (b := (96 : Int32)) (by rw [li32_96]; omega))]
    rw [if_neg (own_nlt (a := c) (b := (123 : Int32)) (by rw [li32_123]; omega))]
    rw [if_pos (own_lt (a := (191 : Int32)) (b := c) (by rw [li32_191]; omega))]
    unfold f2_49
    rw [if_neg (own_neq (a := c) (b := (215 : Int32)) (by rw [li32_215]; omega))]
    rw [if_neg (own_neq (a := c) (b := (247 : Int32)) (by rw [li32_247]; omega))]
    rw [if_neg (own_nlt (a := c) (b := (768 : Int32)) (by rw [li32_768]; omega))]
    rw [if_pos (own_lt (a := (879 : Int32)) (b := c) (by rw [li32_879]; omega))]
    unfold f2_77
    rw [if_neg (own_neq (a := c) (b := (894 : Int32)) (by rw [li32_894]; omega))]
    rw [if_neg (own_nlt (a := c) (b := (8192 : Int32)) (by rw [li32_8192]; omega))]
    rw [if_pos (own_lt (a := (8203 : Int32)) (b := c) (by rw [li32_8203]; omega))]
    unfold f2_98
    rw [if_neg (own_nlt (a := c) (b := (8206 : Int32)) (by rw [li32_8206]; omega))]
    rw [if_pos (own_lt (a := (8303 : Int32)) (b := c) (by rw [li32_8303]; omega))]
    unfold f2_112
    rw [if_neg (own_nlt (a := c) (b := (8592 : Int32)) (by rw [li32_8592]; omega))]
    rw [if_pos (own_lt (a := (11263 : Int32)) (b := c) (by rw [li32_11263]; omega))]
    unfold f2_126
    rw [if_pos (own_lt (a := c) (b := (12272 : Int32)) (by rw [li32_12272]; omega))]
    unfold f2_140
    rw [if_pos (own_lt (a := c) (b := (55296 : Int32)) (by rw [li32_55296]; omega))]
    unfold f2_152
    rw [if_pos (own_lt (a := c) (b := (64976 : Int32)) (by rw [li32_64976]; omega))]
    unfold f2_164
    rw [if_pos (own_lt (a := c) (b := (65534 : Int32)) (by rw [li32_65534]; omega))]
    unfold f2_176
    rw [if_pos (own_lt (a := c) (b := (983040 : Int32)) (by rw [li32_983040]; omega))]
    all_goals rfl
  simp only [f0_250, f0_266, a1, a2]; rfl
theorem own_i24 (c : Int32) (h1 : 12272 ≤ c.toInt) (h2 : c.toInt < 12289) : f0_250 c = 1 := by
  have a1 : F1 c = 0 := by
    unfold F1
    unfold f1_0
    rw [if_neg (own_nlt (a := c) (b := (97 : Int32)) (by rw [li32_97]; omega))]
    rw [if_pos (own_lt (a := (122 : Int32)) (b := c) (by rw [li32_122]; omega))]
    unfold f1_12
    rw [if_neg (own_nlt (a := c) (b := (65 : Int32)) (by rw [li32_65]; omega))]
    rw [if_pos (own_lt (a := (90 : Int32)) (b := c) (by rw [li32_90]; omega))]
    unfold f1_24
    rw [if_neg (own_neq (a := c) (b := (58 : Int32)) (by rw [li32_58]; omega))]
    rw [if_neg (own_neq (a := c) (b := (95 : Int32)) (by rw [li32_95]; omega))]
    rw [if_neg (own_nlt (a := c) (b := (192 : Int32)) (by rw [li32_192]; omega))]
    rw [if_pos (own_lt (a := (214 : Int32)) (b := c) (by rw [li32_214]; omega))]
    unfold f1_50
    rw [if_neg (own_nlt (a := c) (b := (216 : Int32)) (by rw [li32_216]; omega))]
    rw [if_pos (own_lt (a := (246 : Int32)) (b := c) (by rw [li32_246]; omega))]
    unfold f1_64
    rw [if_neg (own_nlt (a := c) (b := (248 : Int32)) (by rw [li32_248]; omega))]
    rw [if_pos (own_lt (a := (767 : Int32)) (b := c) (by rw [li32_767]; omega))]
    unfold f1_78
    rw [if_neg (own_nlt (a := c) (b := (880 : Int32)) (by rw [li32_880]; omega))]
    rw [if_pos (own_lt (a := (893 : Int32)) (b := c) (by rw [li32_893]; omega))]
    unfold f1_92
    rw [if_neg (own_nlt (a := c) (b := (895 : Int32)) (by rw [li32_895]; omega))]
    rw [if_pos (own_lt (a := (8191 : Int32)) (b := c) (by rw [li32_8191]; omega))]
    unfold f1_106
    rw [if_neg (own_nlt (a := c) (b := (8204 : Int32)) (by rw [li32_8204]; omega))]
    rw [if_pos (own_lt (a := (8205 : Int32)) (b := c) (by rw [li32_8205]; omega))]
    unfold f1_120
    rw [if_neg (own_nlt (a := c) (b := (8304 : Int32)) (by rw [li32_8304]; omega))]
    rw [if_pos (own_lt (a := (8591 : Int32)) (b := c) (by rw [li32_8591]; omega))]
    unfold f1_134
    rw [if_neg (own_nlt (a := c) (b := (11264 : Int32)) (by rw [li32_11264]; omega))]
    rw [if_pos (own_lt (a := (12271 : Int32)) (b := c) (by rw [li32_12271]; omega))]
    unfold f1_148
    rw [if_pos (own_lt (a := c) (b := (12289 : Int32)) (by rw [li32_12289]; omega))]
    unfold f1_161
    rw [if_pos (own_lt (a := c) (b := (63744 : Int32)) (by rw [li32_63744]; omega))]
    unfold f1_173
    rw [if_pos (own_lt (a := c) (b := (65008 : Int32)) (by rw [li32_65008]; omega))]
    unfold f1_185
    rw [if_pos (own_lt (a := c) (b := (65536 : Int32)) (by rw [li32_65536]; omega))]
    unfold f1_201
    all_goals rfl
  have a2 : F2 c = 1 := by
    unfold F2
    unfold f2_0
    rw [if_neg (own_nlt (a := c) (b := (58 : Int32)) (by rw [li32_58]; omega))]
    rw [if_neg (own_nlt (a := c) (b := (59 : Int32)) (by rw [li32_59]; omega))]
    rw [if_pos (own_lt (a := (64 : Int32)) (b := c) (by rw [li32_64]; omega))]
    unfold f2_18
    rw [if_neg (own_nlt (a := c) (b := (91 : Int32)) (by rw [li32_91]; omega))]
    rw [if_pos (own_lt (a := (94 : Int32)) (b := c) (by rw [li32_94]; omega))]
    unfold f2_30
    rw [if_neg (own_neq (a := c) (b := (96 : Int32)) (by rw [li32_96]; omega))]
    rw [if_neg (own_nlt (a := c) (b := (123 : Int32)) (by rw [li32_123]; omega))]
    rw [if_pos (own_lt (a := (191 : Int32)) (b := c) (by rw [li32_191]; omega))]
    unfold f2_49
    rw [if_neg (own_neq (a := c) (b := (215 : Int32)) (by rw [li32_215]; omega))]
    rw [if_neg (own_neq (a := c) (b := (247 : Int32)) (by rw [li32_247]; omega))]
    rw [if_neg (own_nlt (a := c) (b := (768 : Int32)) (by rw [li32_768]; omega))]
    rw [if_pos (own_lt (a := (879 : Int32)) (b := c) (by rw [li32_879]; omega))]
    unfold f2_77
    rw [if_neg (own_neq (a := c) (b := (894 : Int32)) (by rw [li32_894]; omega))]
    rw [if_neg (own_nlt (a := c) (b := (8192 : Int32)) (by rw [li32_8192]; omega))]
    rw [if_pos (own_lt (a := (8203 : Int32)) (b := c) (by rw [li32_8203]; omega))]
    unfold f2_98
    rw [if_neg (own_nlt (a := c) (b := (8206 : Int32)) (by rw [li32_8206]; omega))]
    rw [if_pos (own_lt (a := (8303 : Int32)) (b := c) (by rw [li32_8303]; omega))]
    unfold f2_112
    rw [if_neg (own_nlt (a := c) (b := (8592 : Int32)) (by rw [li32_8592]; omega))]
    rw [if_pos (own_lt (a := (11263 : Int32)) (b := c) (by rw [li32_11263]; omega))]
    unfold f2_126
    rw [if_neg (own_nlt (a := c) (b := (12272 : Int32)) (by rw [li32_12272]; omega))]
    rw [if_neg (own_nlt (a := (12288 : Int32)) (b := c) (by rw [li32_12288]; omega))]
    unfold f2_182
    all_goals rfl
  simp only [f0_250, f0_266, a1, a2]; rfl
theorem own_i25 (c : Int32) (h1 : 12289 ≤ c.toInt) (h2 : c.toInt < 55296) : f0_250 c = 1 := by
  have a1 : F1 c = 1 := by
    unfold F1
    unfold f1_0
    rw [if_neg (own_nlt (a := c) (b := (97 : Int32)) (by rw [li32_97]; omega))]
    rw [if_pos (own_lt (a := (122 : Int32)) (b := c) (by rw [li32_122]; omega))]
    unfold f1_12
    rw [if_neg (own_nlt (a := c) (b := (65 : Int32)) (by rw [li32_65]; omega))]
    rw [if_pos (own_lt (a := (90 : Int32)) (b := c) (by rw [li32_90]; omega))]
    unfold f1_24
    rw [if_neg (own_neq (a := c) (b := (58 : Int32)) (by rw [li32_58]; omega))]
    rw [if_neg (own_neq (a := c) (b := (95 : Int32)) (by rw [li32_95]; omega))]
    rw [if_neg (own_nlt (a := c) (b := (192 : Int32)) (by rw [li32_192]; omega))]
    rw [if_pos (own_lt (a := (214 : Int32)) (b := c) (by rw [li32_214]; omega))]
    unfold f1_50
    rw [if_neg (own_nlt (a := c) (b := (216 : Int32)) (by rw [li32_216]; omega))]
    rw [if_pos (own_lt (a := (246 : Int32)) (b := c) (by rw [li32_246]; omega))]
    unfold f1_64
    rw [if_neg (own_nlt (a := c) (b := (248 : Int32)) (by rw [li32_248]; omega))]
    rw [if_pos (own_lt (a := (767 : Int32)) (b := c) (by rw [li32_767]; omega))]
    unfold f1_78
    rw [if_neg (own_nlt (a := c) (b := (880 : Int32)) (by rw [li32_880]; omega))]
    rw [if_pos (own_lt (a := (893 : Int32)) (b := c) (by rw [li32_893]; omega))]
    unfold f1_92
    rw [if_neg (own_nlt (a := c) (b := (895 : Int32)) (by rw [li32_895]; omega))]
    rw [if_pos (own_lt (a := (8191 : Int32)) (b := c) (by rw [li32_8191]; omega))]
    unfold f1_106
    rw [if_neg (own_nlt (a := c) (b := (8204 : Int32)) (by rw [li32_8204]; omega))]
    rw [if_pos (own_lt (a := (8205 : Int32)) (b := c) (by rw [li32_8205]; omega))]
    unfold f1_120
    rw [if_neg (own_nlt (a := c) (b := (8304 : Int32)) (by rw [li32_8304]; omega))]
    rw [if_pos (own_lt (a := (8591 : Int32)) (b := c) (by rw [li32_8591]; omega))]
    unfold f1_134
    rw [if_neg (own_nlt (a := c) (b := (11264 : Int32)) (by rw [li32_11264]; omega))]
    rw [if_pos (own_lt (a := (12271 : Int32)) (b := c) (by rw [li32_12271]; omega))]
    unfold f1_148
    rw [if_neg (own_nlt (a := c) (b := (12289 : Int32)) (by rw [li32_12289]; omega))]
    rw [if_neg (own_nlt (a := (55295 : Int32)) (b := c) (by rw [li32_55295]; omega))]
    unfold f1_197
    all_goals rfl
  have a2 : F2 c = 0 := by
    unfold F2
    unfold f2_0
    rw [if_neg (own_nlt (a := c) (b := (58 : Int32)) (by rw [li32_58]; omega))]
    rw [if_neg (own_nlt (a := c) (b := (59 : Int32)) (by rw [li32_59]; omega))]
    rw [if_pos (own_lt (a := (64 : Int32)) (b := c) (by rw [li32_64]; omega))]
    unfold f2_18
    rw [if_neg (own_nlt (a := c) (b := (91 : Int32)) (by rw [li32_91]; omega))]
    rw [if_pos (own_lt (a := (94 : Int32)) (b := c) (by rw [li32_94]; omega))]
    unfold f2_30
    rw [if_neg (own_neq (a := c) (b := (96 : Int32)) (by rw [li32_96]; omega))]
    rw [if_neg (own_nlt (a := c) (b := (123 : Int32)) (by rw [li32_123]; omega))]
    rw [if_pos (own_lt (a := (191 : Int32)) (b := c) (by rw [li32_191]; omega))]
    unfold f2_49
    rw [if_neg (own_neq (a := c) (b := (215 : Int32)) (by rw [li32_215]; omega))]
    rw [if_neg (own_neq (a := c) (b := (247 : Int32)) (by rw [li32_247]; omega))]
    rw [if_neg (own_nlt (a := c) (b := (768 : Int32)) (by rw [li32_768]; omega))]
    rw [if_pos (own_lt (a := (879 : Int32)) (b := c) (by rw [li32_879]; omega))]
    unfold f2_77
    rw [if_neg (own_neq (a := c) (b := (894 : Int32)) (by rw [li32_894]; omega))]
    rw [if_neg (own_nlt (a := c) (b := (8192 : Int32)) (by rw [li32_8192]; omega))]
    rw [if_pos (own_lt (a := (8203 : Int32)) (b := c) (by rw [li32_8203]; omega))]
    unfold f2_98
    rw [if_neg (own_nlt (a := c) (b := (8206 : Int32)) (by rw [li32_8206]; omega))]
    rw [if_pos (own_lt (a := (8303 : Int32)) (b := c) (by rw [li32_8303]; omega))]
    unfold f2_112
    rw [if_neg (own_nlt (a := c) (b := (8592 : Int32)) (by rw [li32_8592]; omega))]
    rw [if_pos (own_lt (a := (11263 : Int32)) (b := c) (by rw [li32_11263]; omega))]
    unfold f2_126
    rw [if_neg (own_nlt (a := c) (b := (12272 : Int32)) (by rw [li32_12272]; omega))]
    rw [if_pos (own_lt (a := (12288 : Int32)) (b := c) (by rw [li32_12288]; omega))]
    unfold f2_140
    rw [if_pos (own_lt (a := c) (b := (55296 : Int32)) (by rw [li32_55296]; omega))]
    unfold f2_152
    rw [if_pos (own_lt (a := c) (b := (64976 : Int32)) (by rw [li32_64976]; omega))]
    unfold f2_164
    rw [if_pos (own_lt (a := c) (b := (65534 : Int32)) (by rw [li32_65534]; omega))]
    unfold f2_176
    rw [if_pos (own_lt (a := c) (b := (983040 : Int32)) (by rw [li32_983040]; omega))]
    all_goals rfl
  simp only [f0_250, f0_266, a1, a2]; rfl
theorem own_i26 (c : Int32) (h1 : 55296 ≤ c.toInt) (h2 : c.toInt < 63744) : f0_250 c = 1 := by
  have a1 : F1 c = 0 := by
    unfold F1
    unfold f1_0
    rw [if_neg (own_nlt (a := c) (b := (97 : Int32)) (by rw [li32_97]; omega))]
    rw [if_pos (own_lt (a := (122 : Int32)) (b := c) (by rw [li32_122]; omega))]
    unfold f1_12
    rw [if_neg (own_nlt (a := c) (b := (65 : Int32)) (by rw [li32_65]; omega))]
    rw [if_pos (own_lt (a := (90 : Int32)) (b := c) (by rw [li32_90]; omega))]
    unfold f1_24
    rw [if_neg (own_neq (a := c) (b := (58 : Int32)) (by rw [li32_58]; omega))]
    rw [if_neg (own_neq (a := c) (b := (95 : Int32)) (by rw [li32_95]; omega))]
    rw [if_neg (own_nlt (a := c) (b := (192 : Int32)) (by rw [li32_192]; omega))]
    rw [if_pos (own_lt (a := (214 : Int32)) (b := c) (by rw [li32_214]; omega))]
    unfold f1_50
    rw [if_neg (own_nlt (a := c) (b := (216 : Int32)) (by rw [li32_216]; omega))]
    rw [if_pos (own_lt (a := (246 : Int32)) (b := c) (by rw [li32_246]; omega))]
    unfold f1_64
    rw [if_neg (own_nlt (a := c) (b := (248 : Int32)) (by rw [li32_248]; omega))]
    rw [if_pos (own_lt (a := (767 : Int32)) (b := c) (by rw [li32_767]; omega))]
    unfold f1_78
    rw [if_neg (own_nlt (a := c) (b := (880 : Int32)) (by rw [li32_880]; omega))]
    rw [if_pos (own_lt (a := (893 : Int32)) (b := c) (by rw [li32_893]; omega))]
    unfold f1_92
    rw [if_neg (own_nlt (a := c) (b := (895 : Int32)) (by rw [li32_895]; omega))]
    rw [if_pos (own_lt (a := (8191 : Int32)) (b := c) (by rw [li32_8191]; omega))]
    unfold f1_106
    rw [if_neg (own_nlt (a := c) (b := (8204 : Int32)) (by rw [li32_8204]; omega))]
    rw [if_pos (own_lt (a := (8205 : Int32)) (b := c) (by rw [li32_8205]; omega))]
    unfold f1_120
    rw [if_neg (own_nlt (a := c) (b := (8304 : Int32)) (by rw [li32_8304]; omega))]
    rw [if_pos (own_lt (a := (8591 : Int32)) (b := c) (by rw [li32_8591]; omega))]
    unfold f1_134
    rw [if_neg (own_nlt (a := c) (b := (11264 : Int32)) (by rw [li32_11264]; omega))]
    rw [if_pos (own_lt (a := (12271 : Int32)) (b := c) (by rw [li32_12271]; omega))]
    unfold f1_148
    rw [if_neg (own_nlt (a := c) (b := (12289 : Int32)) (by rw [li32_12289]; omega))]
    rw [if_pos (own_lt (a := (55295 : Int32)) (b := c) (by rw [li32_55295]; omega))]
    unfold f1_161
    rw [if_pos (own_lt (a := c) (b := (63744 : Int32)) (by rw [li32_63744]; omega))]
    unfold f1_173
    rw [if_pos (own_lt (a := c) (b := (65008 : Int32)) (by rw [li32_65008]; omega))]
    unfold f1_185
    rw [if_pos (own_lt (a := c) (b := (65536 : Int32)) (by rw [li32_65536]; omega))]
    unfold f1_201
    all_goals rfl
  have a2 : F2 c = 1 := by
    unfold F2
    unfold f2_0
    rw [if_neg (own_nlt (a := c) (b := (58 : Int32)) (by rw [li32_58]; omega))]
    rw [if_neg (own_nlt (a := c) (b := (59 : Int32)) (by rw [li32_59]; omega))]
    rw [if_pos (own_lt (a := (64 : Int32)) (b := c) (by rw [li32_64]; omega))]
    unfold f2_18
    rw [if_neg (own_nlt (a := c) (b := (91 : Int32)) (by rw [li32_91]; omega))]
    rw [if_pos (own_lt (a := (94 : Int32)) (b := c) (by rw [li32_94]; omega))]
    unfold f2_30
    rw [if_neg (own_neq (a := c) (b := (96 : Int32)) (by rw [li32_96]; omega))]
    rw [if_neg (own_nlt (a := c) (b := (123 : Int32)) (by rw [li32_123]; omega))]
    rw [if_pos (own_lt (a := (191 : Int32)) (b := c) (by rw [li32_191]; omega))]
    unfold f2_49
    rw [if_neg (own_neq (a := c) (b := (215 : Int32)) (by rw [li32_215]; omega))]
    rw [if_neg (own_neq (a := c) (b := (247 : Int32)) (by rw [li32_247]; omega))]
    rw [if_neg (own_nlt (a := c) (b := (768 : Int32)) (by rw [li32_768]; omega))]
    rw [if_pos (own_lt (a := (879 : Int32)) (b := c) (by rw [li32_879]; omega))]
    unfold f2_77
    rw [if_neg (own_neq (a := c) (b := (894 : Int32)) (by rw [li32_894]; omega))]
    rw [if_neg (own_nlt (a := c) (b := (8192 : Int32)) (by rw [li32_8192]; omega))]
    rw [if_pos (own_lt (a := (8203 : Int32)) (b := c) (by rw [li32_8203]; omega))]
    unfold f2_98
    rw [if_neg (own_nlt (a := c) (b := (8206 : Int32)) (by rw [li32_8206]; omega))]
    rw [if_pos (own_lt (a := (8303 : Int32)) (b := c) (by rw [li32_8303]; omega))]
    unfold f2_112
    rw [if_neg (own_nlt (a := c) (b := (8592 : Int32)) (by rw [li32_8592]; omega))]
    rw [if_pos (own_lt (a := (11263 : Int32)) (b := c) (by rw [li32_11263]; omega))]
    unfold f2_126
    rw [if_neg (own_nlt (a := c) (b := (12272 : Int32)) (by rw [li32_12272]; omega))]
    rw [if_pos (own_lt (a := (12288 : Int32)) (b := c) (by rw [li32_12288]; omega))]
    unfold f2_140
    rw [if_neg (own_nlt (a := c) (b := (55296 : Int32)) (by rw [li32_55296]; omega))]
    rw [if_neg (own_nlt (a := (63743 : Int32)) (b := c) (by rw [li32_63743]; omega))]
    unfold f2_182
    all_goals rfl
  simp only [f0_250, f0_266, a1, a2]; rfl
theorem own_i27 (c : Int32) (h1 : 63744 ≤ c.toInt) (h2 : c.toInt < 64976) : f0_250 c = 1 := by
  have a1 : F1 c = 1 := by
    unfold F1
    unfold f1_0
    rw [if_neg (own_nlt (a := c) (b := (97 : Int32)) (by rw [li32_97]; omega))]
    rw [if_pos (own_lt (a := (122 : Int32)) (b := c) (by rw [li32_122]; omega))]
    unfold f1_12
    rw [if_neg (own_nlt (a := c) (b := (65 : Int32)) (by rw [li32_65]; omega))]
    rw [if_pos (own_lt (a := (90 : Int32)) (b := c) (by rw [li32_90]; omega))]
    unfold f1_24
    rw [if_neg (own_neq (a := c) (b := (58 : Int32)) (by rw [li32_58]; omega))]
    rw [if_neg (own_neq (a := c) (b := (95 : Int32)) (by rw [li32_95]; omega))]
    rw [if_neg (own_nlt (a := c) (b := (192 : Int32)) (by rw [li32_192]; omega))]
    rw [if_pos (own_lt (a := (214 : Int32)) (b := c) (by rw [li32_214]; omega))]
    unfold f1_50
    rw [if_neg (own_nlt (a := c) (b := (216 : Int32)) (by rw [li32_216]; omega))]
    rw [if_pos (own_lt (a := (246 : Int32)) (b := c) (by rw [li32_246]; omega))]
    unfold f1_64
    rw [if_neg (own_nlt (a := c) (b := (248 : Int32)) (by rw [li32_248]; omega))]
    rw [if_pos (own_lt (a := (767 : Int32)) (b := c) (by rw [li32_767]; omega))]
    unfold f1_78
    rw [if_neg (own_nlt (a := c) (b := (880 : Int32)) (by rw [li32_880]; omega))]
    rw [if_pos (own_lt (a := (893 : Int32)) (b := c) (by rw [li32_893]; omega))]
    unfold f1_92
    rw [if_neg (own_nlt (a := c) (b := (895 : Int32)) (by rw [li32_895]; omega))]
    rw [if_pos (own_lt (a := (8191 : Int32)) (b := c) (by rw [li32_8191]; omega))]
    unfold f1_106
    rw [if_neg (own_nlt (a := c) (b := (8204 : Int32)) (by rw [li32_8204]; omega))]
    rw [if_pos (own_lt (a := (8205 : Int32)) (b := c) (by rw [li32_8205]; omega))]
    unfold f1_120
    rw [if_neg (own_nlt (a := c) (b := (8304 : Int32)) (by rw [li32_8304]; omega))]
    rw [if_pos (own_lt (a := (8591 : Int32)) (b := c) (by rw [li32_8591]; omega))]
    unfold f1_134
    rw [if_neg (own_nlt (a := c) (b := (11264 : Int32)) (by rw [li32_11264]; omega))]
    rw [if_pos (own_lt (a := (12271 : Int32)) (b := c) (by rw [li32_12271]; omega))]
    unfold f1_148
    rw [if_neg (own_nlt (a := c) (b := (12289 : Int32)) (by rw [li32_12289]; omega))]
    rw [if_pos (own_lt (a := (55295 : Int32)) (b := c) (by rw [li32_55295]; omega))]
    unfold f1_161
    rw [if_neg (own_nlt (a := c) (b := (63744 : Int32)) (by rw [li32_63744]; omega))]
    rw [if_neg (own_nlt (a := (64975 : Int32)) (b := c) (by rw [li32_64975]; omega))]
    unfold f1_197
    all_goals rfl
  have a2 : F2 c = 0 := by
    unfold F2
    unfold f2_0
    rw [if_neg (own_nlt (a := c) (b := (58 : Int32)) (by rw [li32_58]; omega))]
    rw [if_neg (own_nlt (a := c) (b := (59 : Int32)) (by rw [li32_59]; omega))]
    rw [if_pos (own_lt (a := (64 : Int32)) (b := c) (by rw [li32_64]; omega))]
    unfold f2_18
    rw [if_neg (own_nlt (a := c) (b := (91 : Int32)) (by rw [li32_91]; omega))]
    rw [if_pos (own_lt (a := (94 : Int32)) (b := c) (by rw [li32_94]; omega))]
    unfold f2_30
    rw [if_neg (own_neq (a := c) (b := (96 : Int32)) (by rw [li32_96]; omega))]
    rw [if_neg (own_nlt (a := c) (b := (123 : Int32)) (by rw [li32_123]; omega))]
    rw [if_pos (own_lt (a := (191 : Int32)) (b := c) (by rw [li32_191]; omega))]
    unfold f2_49
    rw [if_neg (own_neq (a := c) (b := (215 : Int32)) (by rw [li32_215]; omega))]
    rw [if_neg (own_neq (a := c) (b := (247 : Int32)) (by rw [li32_247]; omega))]
    rw [if_neg (own_nlt (a := c) (b := (768 : Int32)) (by rw [li32_768]; omega))]
    rw [if_pos (own_lt (a := (879 : Int32)) (b := c) (by rw [li32_879]; omega))]
    unfold f2_77
    rw [if_neg (own_neq (a := c) (b := (894 : Int32)) (by rw [li32_894]; omega))]
    rw [if_neg (own_nlt (a := c) (b := (8192 : Int32)) (by rw [li32_8192]; omega))]
    rw [if_pos (own_lt (a := (8203 : Int32)) (b := c) (by rw [li32_8203]; omega))]
    unfold f2_98
    rw [if_neg (own_nlt (a := c) (b := (8206 : Int32)) (by rw [li32_8206]; omega))]
    rw [if_pos (own_lt (a := (8303 : Int32)) (b := c) (by rw [li32_8303]; omega))]
    unfold f2_112
    rw [if_neg (own_nlt (a := c) (b := (8592 : Int32)) (by rw [li32_8592]; omega))]
    rw [if_pos (own_lt (a := (11263 : Int32)) (b := c) (by rw [li32_11263]; omega))]
    unfold f2_126
    rw [if_neg (own_nlt (a := c) (b := (12272 : Int32)) (by rw [li32_12272]; omega))]
    rw [if_pos (own_lt (a := (12288 : Int32)) (b := c) (by rw [li32_12288]; omega))]
    unfold f2_140
    rw [if_neg (own_nlt (a := c) (b := (55296 : Int32)) (by rw [li32_55296]; omega))]
    rw [if_pos (own_lt (a := (63743 : Int32)) (b := c) (by rw [li32_63743]; omega))]
    unfold f2_152
    rw [if_pos (own_lt (a := c) (b := (64976 : Int32)) (by rw [li32_64976]; omega))]
    unfold f2_164
    rw [if_pos (own_lt (a := c) (b := (65534 : Int32)) (by rw [li32_65534]; omega))]
    unfold f2_176
    rw [if_pos (own_lt (a := c) (b := (983040 : Int32)) (by rw [li32_983040]; omega))]
    all_goals rfl
  simp only [f0_250, f0_266, a1, a2]; rfl
theorem own_i28 (c : Int32) (h1 : 64976 ≤ c.toInt) (h2 : c.toInt < 65008) : f0_250 c = 1 := by
  have a1 : F1 c = 0 := by
    unfold F1
    unfold f1_0
    rw [if_neg (own_nlt (a := c) (b := (97 : Int32)) (by rw [li32_97]; omega))]
    rw [if_pos (own_lt (a := (122 : Int32)) (b := c) (by rw [li32_122]; omega))]
    unfold f1_12
    rw [if_neg (own_nlt (a := c) (b := (65 : Int32)) (by rw [li32_65]; omega))]
    rw [if_pos (own_lt (a := (90 : Int32)) (b := c) (by rw [li32_90]; omega))]
    unfold f1_24
    rw [if_neg (own_neq (a := c) (b := (58 : Int32)) (by rw [li32_58]; omega))]
    rw [if_neg (own_neq (a := c) (b := (95 : Int32)) (by rw [li32_95]; omega))]
    rw [if_neg (own_nlt (a := c) (b := (192 : Int32)) (by rw [li32_192]; omega))]
    rw [if_pos (own_lt (a := (214 : Int32)) (b := c) (by rw [li32_214]; omega))]
    unfold f1_50
    rw [if_neg (own_nlt (a := c) (b := (216 : Int32)) (by rw [li32_216]; omega))]
    rw [if_pos (own_lt (a := (246 : Int32)) (b := c) (by rw [li32_246]; omega))]
    unfold f1_64
    rw [if_neg (own_nlt (a := c) (b := (248 : Int32)) (by rw [li32_248]; omega))]
    rw [if_pos (own_lt (a := (767 : Int32)) (b := c) (by rw [li32_767]; omega))]
    unfold f1_78
    rw [if_neg (own_nlt (a := c) (b := (880 : Int32)) (by rw [li32_880]; omega))]
    rw [if_pos (own_lt (a := (893 : Int32)) (b := c) (by rw [li32_893]; omega))]
    unfold f1_92
    rw [if_neg (own_nlt (a := c) (b := (895 : Int32)) (by rw [li32_895]; omega))]
    rw [if_pos (own_lt (a := (8191 : Int32)) (b := c) (by rw [li32_8191]; omega))]
    unfold f1_106
    rw [if_neg (own_nlt (a := c) (b := (8204 : Int32)) (by rw [li32_8204]; omega))]
    rw [if_pos (own_lt (a := (8205 : Int32)) (b := c) (by rw [li32_8205]; omega))]
    unfold f1_120
    rw [if_neg (own_nlt (a := c) (b := (8304 : Int32)) (by rw [li32_8304]; omega))]
    rw [if_pos (own_lt (a := (8591 : Int32)) (b := c) (by rw [li32_8591]; omega))]
    unfold f1_134
    rw [if_neg (own_nlt (a := c) (b := (11264 : Int32)) (by rw [li32_11264]; omega))]
    rw [if_pos (own_lt (a := (12271 : Int32)) (b := c) (by rw [li32_12271]; omega))]
    unfold f1_148
    rw [if_neg (own_nlt (a := c) (b := (12289 : Int32)) (by rw [li32_12289]; omega))]
    rw [if_pos (own_lt (a := (55295 : Int32)) (b := c) (by rw [li32_55295]; omega))]
    unfold f1_161
    rw [if_neg (own_nlt (a := c) (b := (63744 : Int32)) (by rw [li32_63744]; omega))]
    rw [if_pos (own_lt (a := (64975 : Int32)) (b := c) (by rw [li32_64975]; omega))]
    unfold f1_173
    rw [if_pos (own_lt (a := c) (b := (65008 : Int32)) (by rw [li32_65008]; omega))]
    unfold f1_185
    rw [if_pos (own_lt (a := c) (b := (65536 : Int32)) (by rw [li32_65536]; omega))]
    unfold f1_201
    all_goals rfl
  have a2 : F2 c = 1 := by
    unfold F2
    unfold f2_0
    rw [if_neg (own_nlt (a := c) (b := (58 : Int32)) (by rw [li32_58]; omega))]
    rw [if_neg (own_nlt (a := c) (b := (59 : Int32)) (by rw [li32_59]; omega))]
    rw [if_pos (own_lt (a := (64 : Int32)) (b := c) (by rw [li32_64]; omega))]
    unfold f2_18
    rw [if_neg (own_nlt (a := c) (b := (91 : Int32)) (by rw [li32_91]; omega))]
    rw [if_pos (own_lt (a := (94 : Int32)) (b := c) (by rw [li32_94]; omega))]
    unfold f2_30
    rw [if_neg (own_neq (a := c) (b := (96 : Int32)) (by rw [li32_96]; omega))]
    rw [if_neg (own_nlt (a := c) (b := (123 : Int32)) (by rw [li32_123]; omega))]
    rw [if_pos (own_lt (a := (191 : Int32)) (b := c) (by rw [li32_191]; omega))]
    unfold f2_49
    rw [if_neg (own_neq (a := c) (b := (215 : Int32)) (by rw [li32_215]; omega))]
    rw [if_neg (own_neq (a := c) (b := (247 : Int32)) (by rw [li32_247]; omega))]
    rw [if_neg (own_nlt (a := c) (b := (768 : Int32)) (by rw [li32_768]; omega))]
    rw [if_pos (own_lt (a := (879 : Int32)) (b := c) (by rw [li32_879]; omega))]
    unfold f2_77
    rw [if_neg (own_neq (a := c) (b := (894 : Int32)) (by rw [li32_894]; omega))]
    rw [if_neg (own_nlt (a := c) (b := (8192 : Int32)) (by rw [li32_8192]; omega))]
    rw [if_pos (own_lt (a := (8203 : Int32)) (b := c) (by rw [li32_8203]; omega))]
    unfold f2_98
    rw [if_neg (own_nlt (a := c) (b := (8206 : Int32)) (by rw [li32_8206]; omega))]
    rw [if_pos (own_lt (a := (8303 : Int32)) (b := c) (by rw [li32_8303]; omega))]
    unfold f2_112
    rw [if_neg (own_nlt (a := c) (b := (8592 : Int32)) (by rw [li32_8592]; omega))]
    rw [if_pos (own_lt (a := (11263 : Int32)) (b := c) (by rw [li32_11263]; omega))]
    unfold f2_126
    rw [if_neg (own_nlt (a := c) (b := (12272 : Int32)) (by rw [li32_12272]; omega))]
    rw [if_pos (own_lt (a := (12288 : Int32)) (b := c) (by rw [li32_12288]; omega))]
    unfold f2_140
    rw [if_neg (own_nlt (a := c) (b := (55296 : Int32)) (by rw [li32_55296]; omega))]
    rw [if_pos (own_lt (a := (63743 : Int32)) (b := c) (by rw [li32_63743]; omega))]
    unfold f2_152
    rw [if_neg (own_nlt (a := c) (b := (64976 : Int32)) (by rw [li32_64976]; omega))]
    rw [if_neg (own_nlt (a := (65007 : Int32)) (b := c) (by rw [li32_65007]; omega))]
    unfold f2_182
    all_goals rfl
  simp only [f0_250, f0_266, a1, a2]; rfl
theorem own_i29 (c : Int32) (h1 : 65008 ≤ c.toInt) (h2 : c.toInt < 65534) : f0_250 c = 1 := by
  have a1 : F1 c = 1 := by
    unfold F1
    unfold f1_0
    rw [if_neg (own_nlt (a := c) (b := (97 : Int32)) (by rw [li32_97]; omega))]
    rw [if_pos (own_lt (a := (122 : Int32)) (b := c) (by rw [li32_122]; omega))]
    unfold f1_12
    rw [if_neg (own_nlt (a := c) (b := (65 : Int32)) (by rw [li32_65]; omega))]
    rw [if_pos (own_lt (a := (90 : Int32)) (b := c) (by rw [li32_90]; omega))]
    unfold f1_24
    rw [if_neg (own_neq (a := c) (b := (58 : Int32)) (by rw [li32_58]; omega))]
    rw [if_neg (own_neq (a := c) (b := (95 : Int32)) (by rw [li32_95]; omega))]
    rw [if_neg (own_nlt (a := c) (b := (192 : Int32)) (by rw [li32_192]; omega))]
    rw [if_pos (own_lt (a := (214 : Int32)) (b := c) (by rw [li32_214]; omega))]
    unfold f1_50
    rw [if_neg (own_nlt (a := c) (b := (216 : Int32)) (by rw [li32_216]; omega))]
    rw [if_pos (own_lt (a := (246 : Int32)) (b := c) (by rw [li32_246]; omega))]
    unfold f1_64
    rw [if_neg (own_nlt (a := c) (b := (248 : Int32)) (by rw [li32_248]; omega))]
    rw [if_pos (own_lt (a := (767 : Int32)) (b := c) (by rw [li32_767]; omega))]
    unfold f1_78
    rw [if_neg (own_nlt (a := c) (b := (880 : Int32)) (by rw [li32_880]; omega))]
    rw [if_pos (own_lt (a := (893 : Int32)) (b := c) (by rw [li32_893]; omega))]
    unfold f1_92
    rw [if_neg (own_nlt (a := c) (b := (895 : Int32)) (by rw [li32_895]; omega))]
    rw [if_pos (own_lt (a := (8191 : Int32)) (b := c) (by rw [li32_8191]; omega))]
    unfold f1_106
    rw [if_neg (own_nlt (a := c) (b := (8204 : Int32)) (by rw [li32_8204]; omega))]
    rw [if_pos (own_lt (a := (8205 : Int32)) (b := c) (by rw [li32_8205]; omega))]
    unfold f1_120
    rw [if_neg (own_nlt (a := c) (b := (8304 : Int32)) (by rw [li32_8304]; omega))]
    rw [if_pos (own_lt (a := (8591 : Int32)) (b := c) (by rw [li32_8591]; omega))]
    unfold f1_134
    rw [if_neg (own_nlt (a := c) (b := (11264 : Int32)) (by rw [li32_11264]; omega))]
    rw [if_pos (own_lt (a := (12271 : Int32)) (b := c) (by rw [li32_12271]; omega))]
    unfold f1_148
    rw [if_neg (own_nlt (a := c) (b := (12289 : Int32)) (by rw [li32_12289]; omega))]
    rw [if_pos (own_lt (a := (55295 : Int32)) (b := c) (by rw [li32_55295]; omega))]
    unfold f1_161
    rw [if_neg (own_nlt (a := c) (b := (63744 : Int32)) (by rw [li32_63744]; omega))]
    rw [if_pos (own_lt (a := (64975 : Int32)) (b := c) (by rw [li32_64975]; omega))]
    unfold f1_173
    rw [if_neg (own_nlt (a := c) (b := (65008 : Int32)) (by rw [li32_65008]; omega))]
    rw [if_neg (own_nlt (a := (65533 : Int32)) (b := c) (by rw [li32_65533]; omega))]
    unfold f1_197
    all_goals rfl
  have a2 : F2 c = 0 := by
    unfold F2
    unfold f2_0
    rw [if_neg (own_nlt (a := c) (b := (58 : Int32)) (by rw [li32_58]; omega))]
    rw [if_neg (own_nlt (a := c) (b := (59 : Int32)) (by rw [li32_59]; omega))]
    rw [if_pos (own_lt (a := (64 : Int32)) (b := c) (by rw [li32_64]; omega))]
    unfold f2_18
    rw [if_neg (own_nlt (a := c) (b := (91 : Int32)) (by rw [li32_91]; omega))]
    rw [if_pos (own_lt (a := (94 : Int32)) (b := c) (by rw [li32_94]; omega))]
    unfold f2_30
    rw [if_neg (own_neq (a := c) (b := (96 : Int32)) (by rw [li32_96]; omega))]
    rw [if_neg (own_nlt (a := c) (b := (123 : Int32)) (by rw [li32_123]; omega))]
    rw [if_pos (own_lt (a := (191 : Int32)) (b := c) (by rw [li32_191]; omega))]
    unfold f2_49
    rw [if_neg (own_neq (a := c) (b := (215 : Int32)) (by rw [li32_215]; omega))]
    rw [if_neg (own_neq (a := c) (b := (247 : Int32)) (by rw [li32_247]; omega))]
    rw [if_neg (own_nlt (a := c) (b := (768 : Int32)) (by rw [li32_768]; omega))]
    rw [if_pos (own_lt (a := (879 : Int32)) (b := c) (by rw [li32_879]; omega))]
    unfold f2_77
    rw [if_neg (own_neq (a := c) (b := (894 : Int32)) (by rw [li32_894]; omega))]
    rw [if_neg (own_nlt (a := c) (b := (8192 : Int32)) (by rw [li32_8192]; omega))]
    rw [if_pos (own_lt (a := (8203 : Int32)) (b := c) (by rw [li32_8203]; omega))]
    unfold f2_98
    rw [if_neg (own_nlt (a := c) (b := (8206 : Int32)) (by rw [li32_8206]; omega))]
    rw [if_pos (own_lt (a := (8303 : Int32)) (b := c) (by rw [li32_8303]; omega))]
    unfold f2_112
    rw [if_neg (own_nlt (a := c) (b := (8592 : Int32)) (by rw [li32_8592]; omega))]
    rw [if_pos (own_lt (a := (11263 : Int32)) (b := c) (by rw [li32_11263]; omega))]
    unfold f2_126
    rw [if_neg (own_nlt (a := c) (b := (12272 : Int32)) (by rw [li32_12272]; omega))]
    rw [if_pos (own_lt (a := (12288 : Int32)) (b := c) (by rw [li32_12288]; omega))]
    unfold f2_140
    rw [if_neg (own_nlt (a := c) (b := (55296 : Int32)) (by rw [li32_55296]; omega))]
    rw [if_pos (own_lt (a := (63743 : Int32)) (b := c) (by rw [li32_63743]; omega))]
    unfold f2_152
    rw [if_neg (own_nlt (a := c) (b := (64976 : Int32)) (by rw [li32_64976]; omega))]
    rw [if_pos (own_lt (a := (65007 : Int32)) (b := c) (by rw [li32_65007]; omega))]
    unfold f2_164
    rw [if_pos (own_lt (a := c) (b := (65534 : Int32)) (by rw [li32_65534]; omega))]
    unfold f2_176
    rw [if_pos (own_lt (a := c) (b := (983040 : Int32)) (by rw [li32_983040]; omega))]
    all_goals rfl
  simp only [f0_250, f0_266, a1, a2]; rfl
theorem own_i30 (c : Int32) (h1 : 65534 ≤ c.toInt) (h2 : c.toInt < 65536) : f0_250 c = 1 := by
  have a1 : F1 c = 0 := by
    unfold F1
    unfold f1_0
    rw [if_neg (own_nlt (a := c) (b := (97 : Int32)) (by rw [li32_97]; omega))]
    rw [if_pos (own_lt (a := (122 : Int32)) (b := c) (by rw [li32_122]; omega))]
    unfold f1_12
    rw [if_neg (own_nlt (a := c) (b := (65 : Int32)) (by rw [li32_65]; omega))]
    rw [if_pos (own_lt (a := (90 : Int32)) (b := c) (by rw [li32_90]; omega))]
    unfold f1_24
    rw [if_neg (own_neq (a := c) (b := (58 : Int32)) (by rw [li32_58]; omega))]
    rw [if_neg (own_neq (a := c) (b := (95 : Int32)) (by rw [li32_95]; omega))]
    rw [if_neg (own_nlt (a := c) (b := (192 : Int32)) (by rw [li32_192]; omega))]
    rw [if_pos (own_lt (a := (214 : Int32)) (b := c) (by rw [li32_214]; omega))]
    unfold f1_50
    rw [if_neg (own_nlt (a := c) (b := (216 : Int32)) (by rw [li32_216]; omega))]
    rw [if_pos (own_lt (a := (246 : Int32)) (b := c) (by rw [li32_246]; omega))]
    unfold f1_64
    rw [if_neg (own_nlt (a := c) (b := (248 : Int32)) (by rw [li32_248]; omega))]
    rw [if_pos (own_lt (a := (767 : Int32)) (b := c) (by rw [li32_767]; omega))]
    unfold f1_78
    rw [if_neg (own_nlt (a := c) (b := (880 : Int32)) (by rw [li32_880]; omega))]
    rw [if_pos (own_lt (a := (893 : Int32)) (b := c) (by rw [li32_893]; omega))]
    unfold f1_92
    rw [if_neg (own_nlt (a := c) (b := (895 : Int32)) (by rw [li32_895]; omega))]
    rw [if_pos (own_lt (a := (8191 : Int32)) (b := c) (by rw [li32_8191]; omega))]
    unfold f1_106
    rw [if_neg (own_nlt (a := c) (b := (8204 : Int32)) (by rw [li32_8204]; omega))]
    rw [if_pos (own_lt (a := (8205 : Int32)) (b := c) (by rw [li32_8205]; omega))]
    unfold f1_120
    rw [if_neg (own_nlt (a := c) (b := (8304 : Int32)) (by rw [li32_8304]; omega))]
    rw [if_pos (own_lt (a := (8591 : Int32)) (b := c) (by rw [li32_8591]; omega))]
    unfold f1_134
    rw [if_neg (own_nlt (a := c) (b := (11264 : Int32)) (by rw [li32_11264]; omega))]
    rw [if_pos (own_lt (a := (12271 : Int32)) (b := c) (by rw [li32_12271]; omega))]
    unfold f1_148
    rw [if_neg (own_nlt (a := c) (b := (12289 : Int32)) (by rw [li32_12289]; omega))]
    rw [if_pos (own_lt (a := (55295 : Int32)) (b := c) (by rw [li32_55295]; omega))]
    unfold f1_161
    rw [if_neg (own_nlt (a := c) (b := (63744 : Int32)) (by rw [li32_63744]; omega))]
    rw [if_pos (own_lt (a := (64975 : Int32)) (b := c) (by rw [li32_64975]; omega))]
    unfold f1_173
    rw [if_neg (own_nlt (a := c) (b := (65008 : Int32)) (by rw [li32_65008]; omega))]
    rw [if_pos (own_lt (a := (65533 : Int32)) (b := c) (by rw [li32_65533]; omega))]
    unfold f1_185
    rw [if_pos (own_lt (a := c) (b := (65536 : Int32)) (by rw [li32_65536]; omega))]
    unfold f1_201
    all_goals rfl
  have a2 : F2 c = 1 := by
    unfold F2
    unfold f2_0
    rw [if_neg (own_nlt (a := c) (b := (58 : Int32)) (by rw [li32_58]; omega))]
    rw [if_neg (own_nlt (a := c) (b := (59 : Int32)) (by rw [li32_59]; omega))]
    rw [if_pos (own_lt (a := (64 : Int32)) (b := c) (by rw [li32_64]; omega))]
    unfold f2_18
    rw [if_neg (own_nlt (a := c) (b := (91 : Int32)) (by rw [li32_91]; omega))]
    rw [if_pos (own_lt (a := (94 : Int32)) (b := c) (by rw [li32_94]; omega))]
    unfold f2_30
    rw [if_neg (own_neq (a := c) (b := (96 : Int32)) (by rw [li32_96]; omega))]
    rw [if_neg (own_nlt (a := c) (b := (123 : Int32)) (by rw [li32_123]; omega))]
    rw [if_pos (own_lt (a := (191 : Int32)) (b := c) (by rw [li32_191]; omega))]
    unfold f2_49
    rw [if_neg (own_neq (a := c) (b := (215 : Int32)) (by rw [li32_215]; omega))]
    rw [if_neg (own_neq (a := c) (b := (247 : Int32)) (by rw [li32_247]; omega))]
    rw [if_neg (own_nlt (a := c) (b := (768 : Int32)) (by rw [li32_768]; omega))]
    rw [if_pos (own_lt (a := (879 : Int32)) (b := c) (by rw [li32_879]; omega))]
    unfold f2_77
    rw [if_neg (own_neq (a := c) (b := (894 : Int32)) (by rw [li32_894]; omega))]
    rw [if_neg (own_nlt (a := c) (b := (8192 : Int32)) (by rw [li32_8192]; omega))]
    rw [if_pos (own_lt (a := (8203 : Int32)) (b := c) (by rw [li32_8203]; omega))]
    unfold f2_98
    rw [if_neg (own_nlt (a := c) (b := (8206 : Int32)) (by rw [li32_8206]; omega))]
    rw [if_pos (own_lt (a := (8303 : Int32)) (b := c) (by rw [li32_8303]; omega))]
    unfold f2_112
    rw [if_neg (own_nlt (a := c) (b := (8592 : Int32)) (by rw [li32_8592]; omega))]
    rw [if_pos (own_lt (a := (11263 : Int32)) (b := c) (by rw [li32_11263]; omega))]
    unfold f2_126
    rw [if_neg (own_nlt (a := c) (b := (12272 : Int32)) (by rw [li32_12272]; omega))]
    rw [if_pos (own_lt (a := (12288 : Int32)) (b := c) (by rw [li32_12288]; omega))]
    unfold f2_140
    rw [if_neg (own_nlt (a := c) (b := (55296 : Int32)) (by rw [li32_55296]; omega))]
    rw [if_pos (own_lt (a := (63743 : Int32)) (b := c) (by rw [li32_63743]; omega))]
    unfold f2_152
    rw [if_neg (own_nlt (a := c) (b := (64976 : Int32)) (by rw [li32_64976]; omega))]
    rw [if_pos (own_lt (a := (65007 : Int32)) (b := c) (by rw [li32_65007]; omega))]
    unfold f2_164
    rw [if_neg (own_nlt (a := c) (b := (65534 : Int32)) (by rw [li32_65534]; omega))]
    rw [if_neg (own_nlt (a := (65535 : Int32)) (b := c) (by rw [li32_65535]; omega))]
    unfold f2_182
    all_goals rfl
  simp only [f0_250, f0_266, a1, a2]; rfl
theorem own_i31 (c : Int32) (h1 : 65536 ≤ c.toInt) (h2 : c.toInt < 983040) : f0_250 c = 1 := by
  have a1 : F1 c = 1 := by
    unfold F1
    unfold f1_0
    rw [if_neg (own_nlt (a := c) (b := (97 : Int32)) (by rw [li32_97]; omega))]
    rw [if_pos (own_lt (a := (122 : Int32)) (b := c) (by rw [li32_122]; omega))]
    unfold f1_12
    rw [if_neg (own_nlt (a := c) (b := (65 : Int32)) (by rw [li32_65]; omega))]
    rw [if_pos (own_lt (a := (90 : Int32)) (b := c) (by rw [li32_90]; omega))]
    unfold f1_24
    rw [if_neg (own_neq (a := c) (b := (58 : Int32)) (by rw [li32_58]; omega))]
    rw [if_neg (own_neq (a := c) (b := (95 : Int32)) (by rw [li32_95]; omega))]
    rw [if_neg (own_nlt (a := c) (b := (192 : Int32)) (by rw [li32_192]; omega))]
    rw [if_pos (own_lt (a := (214 : Int32)) (b := c) (by rw [li32_214]; omega))]
    unfold f1_50
    rw [if_neg (own_nlt (a := c) (b := (216 : Int32)) (by rw [li32_216]; omega))]
    rw [if_pos (own_lt (a := (246 : Int32)) (b := c) (by rw [li32_246]; omega))]
    unfold f1_64
    rw [if_neg (own_nlt (a := c) (b := (248 : Int32)) (by rw [li32_248]; omega))]
    rw [if_pos (own_lt (a := (767 : Int32)) (b := c) (by rw [li32_767]; omega))]
    unfold f1_78
    rw [if_neg (own_nlt (a := c) (b := (880 : Int32)) (by rw [li32_880]; omega))]
    rw [if_pos (own_lt (a := (893 : Int32)) (b := c) (by rw [li32_893]; omega))]
    unfold f1_92
    rw [if_neg (own_nlt (a := c) (b := (895 : Int32)) (by rw [li32_895]; omega))]
    rw [if_pos (own_lt (a := (8191 : Int32)) (b := c) (by rw [li32_8191]; omega))]
    unfold f1_106
    rw [if_neg (own_nlt (a := c) (b := (8204 : Int32)) (by rw [li32_8204]; omega))]
    rw [if_pos (own_lt (a := (8205 : Int32)) (b := c) (by rw [li32_8205]; omega))]
    unfold f1_120
    rw [if_neg (own_nlt (a := c) (b := (8304 : Int32)) (by rw [li32_8304]; omega))]
    rw [if_pos (own_lt (a := (8591 : Int32)) (b := c) (by rw [li32_8591]; omega))]
    unfold f1_134
    rw [if_neg (own_nlt (a := c) (b := (11264 : Int32)) (by rw [li32_11264]; omega))]
    rw [if_pos (own_lt (a := (12271 : Int32)) (b := c) (by rw [li32_12271]; omega))]
    unfold f1_148
    rw [if_neg (own_nlt (a := c) (b := (12289 : Int32)) (by rw [li32_12289]; omega))]
    rw [if_pos (own_lt (a := (55295 : Int32)) (b := c) (by rw [li32_55295]; omega))]
    unfold f1_161
    rw [if_neg (own_nlt (a := c) (b := (63744 : Int32)) (by rw [li32_63744]; omega))]
    rw [if_pos (own_lt (a := (64975 : Int32)) (b := c) (by rw [li32_64975]; omega))]
    unfold f1_173
    rw [if_neg (own_nlt (a := c) (b := (65008 : Int32)) (by rw [li32_65008]; omega))]
    rw [if_pos (own_lt (a := (65533 : Int32)) (b := c) (by rw [li32_65533]; omega))]
    unfold f1_185
    rw [if_neg (own_nlt (a := c) (b := (65536 : Int32)) (by rw [li32_65536]; omega))]
    rw [if_neg (own_nlt (a := (983039 : Int32)) (b := c) (by rw [li32_983039]; omega))]
    unfold f1_197
    all_goals rfl
  have a2 : F2 c = 0 := by
    unfold F2
    unfold f2_0
    rw [if_neg (own_nlt (a := c) (b := (58 : Int32)) (by rw [li32_58]; omega))]
    rw [if_neg (own_nlt (a := c) (b := (59 : Int32)) (by rw [li32_59]; omega))]
    rw [if_pos (own_lt (a := (64 : Int32)) (b := c) (by rw [li32_64]; omega))]
    unfold f2_18
    rw [if_neg (own_nlt (a := c) (b := (91 : Int32)) (by rw [li32_91]; omega))]
    rw [if_pos (own_lt (a := (94 : Int32)) (b := c) (by rw [li32_94]; omega))]
    unfold f2_30
    rw [if_neg (own_neq (a := c) (b := (96 : Int32)) (by rw [li32_96]; omega))]
    rw [if_neg (own_nlt (a := c) (b := (123 : Int32)) (by rw [li32_123]; omega))]
    rw [if_pos (own_lt (a := (191 : Int32)) (b := c) (by rw [li32_191]; omega))]
    unfold f2_49
    rw [if_neg (own_neq (a := c) (b := (215 : Int32)) (by rw [li32_215]; omega))]
    rw [if_neg (own_neq (a := c) (b := (247 : Int32)) (by rw [li32_247]; omega))]
    rw [if_neg (own_nlt (a := c) (b := (768 : Int32)) (by rw [li32_768]; omega))]
    rw [if_pos (own_lt (a := (879 : Int32)) (b := c) (by rw [li32_879]; omega))]
    unfold f2_77
    rw [if_neg (own_neq (a := c) (b := (894 : Int32)) (by rw [li32_894]; omega))]
    rw [if_neg (own_nlt (a := c) (b := (8192 : Int32)) (by rw [li32_8192]; omega))]
    rw [if_pos (own_lt (a := (8203 : Int32)) (b := c) (by rw [li32_8203]; omega))]
    unfold f2_98
    rw [if_neg (own_nlt (a := c) (b := (8206 : Int32)) (by rw [li32_8206]; omega))]
    rw [if_pos (own_lt (a := (8303 : Int32)) (b := c) (by rw [li32_8303]; omega))]
    unfold f2_112
    rw [if_neg (own_nlt (a := c) (b := (8592 : Int32)) (by rw [li32_8592]; omega))]
    rw [if_pos (own_lt (a := (11263 : Int32)) (b := c) (by rw [li32_11263]; omega))]
    unfold f2_126
    rw [if_neg (own_nlt (a := c) (b := (12272 : Int32)) (by rw [li32_12272]; omega))]
    rw [if_pos (own_lt (a := (12288 : Int32)) (b := c) (by rw [li32_12288]; omega))]
    unfold f2_140
    rw [if_neg (own_nlt (a := c) (b := (55296 : Int32)) (by rw [li32_55296]; omega))]
    rw [if_pos (own_lt (a := (63743 : Int32)) (b := c) (by rw [li32_63743]; omega))]
    unfold f2_152
    rw [if_neg (own_nlt (a := c) (b := (64976 : Int32)) (by rw [li32_64976]; omega))]
    rw [if_pos (own_lt (a := (65007 : Int32)) (b := c) (by rw [li32_65007]; omega))]
    unfold f2_164
    rw [if_neg (own_nlt (a := c) (b := (65534 : Int32)) (by rw [li32_65534]; omega))]
    rw [if_pos (own_lt (a := (65535 : Int32)) (b := c) (by rw [li32_65535]; omega))]
    unfold f2_176
    rw [if_pos (own_lt (a := c) (b := (983040 : Int32)) (by rw [li32_983040]; omega))]
    all_goals rfl
  simp only [f0_250, f0_266, a1, a2]; rfl
theorem own_i32 (c : Int32) (h1 : 983040 ≤ c.toInt) : f0_250 c = 1 := by
  have a1 : F1 c = 0 := by
    unfold F1
    unfold f1_0
    rw [if_neg (own_nlt (a := c) (b := (97 : Int32)) (by rw [li32_97]; omega))]
    rw [if_pos (own_lt (a := (122 : Int32)) (b := c) (by rw [li32_122]; omega))]
    unfold f1_12
    rw [if_neg (own_nlt (a := c) (b := (65 : Int32)) (by rw [li32_65]; omega))]
    rw [if_pos (own_lt (a := (90 : Int32)) (b := c) (by rw [li32_90]; omega))]
    unfold f1_24
    rw [if_neg (own_neq (a := c) (b := (58 : Int32)) (by rw [li32_58]; omega))]
    rw [if_neg (own_neq (a := c) (b := (95 : Int32)) (by rw [li32_95]; omega))]
    rw [if_neg (own_nlt (a := c) (b := (192 : Int32)) (by rw [li32_192]; omega))]
    rw [if_pos (own_lt (a := (214 : Int32)) (b := c) (by rw [li32_214]; omega))]
    unfold f1_50
    rw [if_neg (own_nlt (a := c) (b := (216 : Int32)) (by rw [li32_216]; omega))]
    rw [if_pos (own_lt (a := (246 : Int32)) (b := c) (by rw [li32_246]; omega))]
    unfold f1_64
    rw [if_neg (own_nlt (a := c) (b := (248 : Int32)) (by rw [li32_248]; omega))]
    rw [if_pos (own_lt (a := (767 : Int32)) (b := c) (by rw [li32_767]; omega))]
    unfold f1_78
    rw [if_neg (own_nlt (a := c) (b := (880 : Int32)) (by rw [li32_880]; omega))]
    rw [if_pos (own_lt (a := (893 : Int32)) (b := c) (by rw [li32_893]; omega))]
    unfold f1_92
    rw [if_neg (own_nlt (a := c) (b := (895 : Int32)) (by rw [li32_895]; omega))]
    rw [if_pos (own_lt (a := (8191 : Int32)) (b := c) (by rw [li32_8191]; omega))]
    unfold f1_106
    rw [if_neg (own_nlt (a := c) (b := (8204 : Int32)) (by rw [li32_8204]; omega))]
    rw [if_pos (own_lt (a := (8205 : Int32)) (b := c) (by rw [li32_8205]; omega))]
    unfold f1_120
    rw [if_neg (own_nlt (a := c) (b := (8304 : Int32)) (by rw [li32_8304]; omega))]
    rw [if_pos (own_lt (a := (8591 : Int32)) (b := c) (by rw [li32_8591]; omega))]
    unfold f1_134
    rw [if_neg (own_nlt (a := c) (b := (11264 : Int32)) (by rw [li32_11264]; omega))]
    rw [if_pos (own_lt (a := (12271 : Int32)) (b := c) (by rw [li32_12271]; omega))]
    unfold f1_148
    rw [if_neg (own_nlt (a := c) (b := (12289 : Int32)) (by rw [li32_12289]; omega))]
    rw [if_pos (own_lt (a := (55295 : Int32)) (b := c) (by rw [li32_55295]; omega))]
    unfold f1_161
    rw [if_neg (own_nlt (a := c) (b := (63744 : Int32)) (by rw [li32_63744]; omega))]
    rw [if_pos (own_lt (a := (64975 : Int32)) (b := c) (by rw [li32_64975]; omega))]
    unfold f1_173
    rw [if_neg (own_nlt (a := c) (b := (65008 : Int32)) (by rw [li32_65008]; omega))]
    rw [if_pos (own_lt (a := (65533 : Int32)) (b := c) (by rw [li32_65533]; omega))]
    unfold f1_185
    rw [if_neg (own_nlt (a := c) (b := (65536 : Int32)) (by rw [li32_65536]; omega))]
    rw [if_pos (own_lt (a := (983039 : Int32)) (b := c) (by rw [li32_983039]; omega))]
    unfold f1_201
    all_goals rfl
  have a2 : F2 c = 1 := by
    unfold F2
    unfold f2_0
    rw [if_neg (own_nlt (a := c) (b := (58 : Int32)) (by rw [li32_58]; omega))]
    rw [if_neg (own_nlt (a := c) (b := (59 : Int32)) (by rw [li32_59]; omega))]
    rw [if_pos (own_lt (a := (64 : Int32)) (b := c) (by rw [li32_64]; omega))]
    unfold f2_18
    rw [if_neg (own_nlt (a := c) (b := (91 : Int32)) (by rw [li32_91]; omega))]
    rw [if_pos (own_lt (a := (94 : Int32)) (b := c) (by rw [li32_94]; omega))]
    unfold f2_30
    rw [if_neg (own_neq (a := c) (b := (96 : Int32)) (by rw [li32_96]; omega))]
    rw [if_neg (own_nlt (a := c) (b := (123 : Int32)) (by rw [li32_123]; omega))]
    rw [if_pos (own_lt (a := (191 : Int32)) (b := c) (by rw [li32_191]; omega))]
    unfold f2_49
    rw [if_neg (own_neq (a := c) (b := (215 : Int32)) (by rw [li32_215]; omega))]
    rw [if_neg (own_neq (a := c) (b := (247 : Int32)) (by rw [li32_247]; omega))]
    rw [if_neg (own_nlt (a := c) (b := (768 : Int32)) (by rw [li32_768]; omega))]
    rw [if_pos (own_lt (a := (879 : Int32)) (b := c) (by rw [li32_879]; omega))]
    unfold f2_77
    rw [if_neg (own_neq (a := c) (b := (894 : Int32)) (by rw [li32_894]; omega))]
    rw [if_neg (own_nlt (a := c) (b := (8192 : Int32)) (by rw [li32_8192]; omega))]
    rw [if_pos (own_lt (a := (8203 : Int32)) (b := c) (by rw [li32_8203]; omega))]
    unfold f2_98
    rw [if_neg (own_nlt (a := c) (b := (8206 : Int32)) (by rw [li32_8206]; omega))]
    rw [if_pos (own_lt (a := (8303 : Int32)) (b := c) (by rw [li32_8303]; omega))]
    unfold f2_112
    rw [if_neg (own_nlt (a := c) (b := (8592 : Int32)) (by rw [li32_8592]; omega))]
    rw [if_pos (own_lt (a := (11263 : Int32)) (b := c) (by rw [li32_11263]; omega))]
    unfold f2_126
    rw [if_neg (own_nlt (a := c) (b := (12272 : Int32)) (by rw [li32_12272]; omega))]
    rw [if_pos (own_lt (a := (12288 : Int32)) (b := c) (by rw [li32_12288]; omega))]
    unfold f2_140
    rw [if_neg (own_nlt (a := c) (b := (55296 : Int32)) (by rw [li32_55296]; omega))]
    rw [if_pos (own_lt (a := (63743 : Int32)) (b := c) (by rw [li32_63743]; omega))]
    unfold f2_152
    rw [if_neg (own_nlt (a := c) (b := (64976 : Int32)) (by rw [li32_64976]; omega))]
    rw [if_pos (own_lt (a := (65007 : Int32)) (b := c) (by rw [li32_65007]; omega))]
    unfold f2_164
    rw [if_neg (own_nlt (a := c) (b := (65534 : Int32)) (by rw [li32_65534]; omega))]
    rw [if_pos (own_lt (a := (65535 : Int32)) (b := c) (by rw [li32_65535]; omega))]
    unfold f2_176
    rw [if_neg (own_nlt (a := c) (b := (983040 : Int32)) (by rw [li32_983040]; omega))]
    unfold f2_182
    all_goals rfl
  simp only [f0_250, f0_266, a1, a2]; rfl
theorem own_law (c : Int32) : f0_250 c = 1 := by
  by_cases q0 : c.toInt < 58
  · exact own_i0 c (by omega)
  by_cases q1 : c.toInt < 59
  · exact own_i1 c (by omega) (by omega)
  by_cases q2 : c.toInt < 65
  · exact own_i2 c (by omega) (by omega)
  by_cases q3 : c.toInt < 91
  · exact own_i3 c (by omega) (by omega)
  by_cases q4 : c.toInt < 95
  · exact own_i4 c (by omega) (by omega)
  by_cases q5 : c.toInt < 96
  · exact own_i5 c (by omega) (by omega)
  by_cases q6 : c.toInt < 97
  · exact own_i6 c (by omega) (by omega)
  by_cases q7 : c.toInt < 123
  · exact own_i7 c (by omega) (by omega)
  by_cases q8 : c.toInt < 192
  · exact own_i8 c (by omega) (by omega)
  by_cases q9 : c.toInt < 215
  · exact own_i9 c (by omega) (by omega)
  by_cases q10 : c.toInt < 216
  · exact own_i10 c (by omega) (by omega)
  by_cases q11 : c.toInt < 247
  · exact own_i11 c (by omega) (by omega)
  by_cases q12 : c.toInt < 248
  · exact own_i12 c (by omega) (by omega)
  by_cases q13 : c.toInt < 768
  · exact own_i13 c (by omega) (by omega)
  by_cases q14 : c.toInt < 880
  · exact own_i14 c (by omega) (by omega)
  by_cases q15 : c.toInt < 894
  · exact own_i15 c (by omega) (by omega)
  by_cases q16 : c.toInt < 895
  · exact own_i16 c (by omega) (by omega)
  by_cases q17 : c.toInt < 8192
  · exact own_i17 c (by omega) (by omega)
  by_cases q18 : c.toInt < 8204
  · exact own_i18 c (by omega) (by omega)
  by_cases q19 : c.toInt < 8206
  · exact own_i19 c (by omega) (by omega)
  by_cases q20 : c.toInt < 8304
  · exact own_i20 c (by omega) (by omega)
  by_cases q21 : c.toInt < 8592
  · exact own_i21 c (by omega) (by omega)
  by_cases q22 : c.toInt < 11264
  · exact own_i22 c (by omega) (by omega)
  by_cases q23 : c.toInt < 12272
  · exact own_i23 c (by omega) (by omega)
  by_cases q24 : c.toInt < 12289
  · exact own_i24 c (by omega) (by omega)
  by_cases q25 : c.toInt < 55296
  · exact own_i25 c (by omega) (by omega)
  by_cases q26 : c.toInt < 63744
  · exact own_i26 c (by omega) (by omega)
  by_cases q27 : c.toInt < 64976
  · exact own_i27 c (by omega) (by omega)
  by_cases q28 : c.toInt < 65008
  · exact own_i28 c (by omega) (by omega)
  by_cases q29 : c.toInt < 65534
  · exact own_i29 c (by omega) (by omega)
  by_cases q30 : c.toInt < 65536
  · exact own_i30 c (by omega) (by omega)
  by_cases q31 : c.toInt < 983040
  · exact own_i31 c (by omega) (by omega)
  exact own_i32 c (by omega)
theorem law_true (x0 x1 : Int32) : F0 x0 x1 = 1 := by
  simp only [F0, f0_0, own_law]
  split <;> rfl

theorem pd_0 : parseMethodDescriptor "(I)Z" = some ⟨[.int], some .boolean⟩ := by decide +kernel
theorem d1_0 : decode prog_332_method_6_code 0 = .ok (.iload_n 0, 1) := by decide +kernel
theorem d1_1 : decode prog_332_method_6_code 1 = .ok (.bipush 97, 2) := by decide +kernel
theorem d1_3 : decode prog_332_method_6_code 3 = .ok (.if_icmp .lt 9, 3) := by decide +kernel
theorem d1_6 : decode prog_332_method_6_code 6 = .ok (.iload_n 0, 1) := by decide +kernel
theorem d1_7 : decode prog_332_method_6_code 7 = .ok (.bipush 122, 2) := by decide +kernel
theorem d1_9 : decode prog_332_method_6_code 9 = .ok (.if_icmp .le 188, 3) := by decide +kernel
theorem d1_12 : decode prog_332_method_6_code 12 = .ok (.iload_n 0, 1) := by decide +kernel
theorem d1_13 : decode prog_332_method_6_code 13 = .ok (.bipush 65, 2) := by decide +kernel
theorem d1_15 : decode prog_332_method_6_code 15 = .ok (.if_icmp .lt 9, 3) := by decide +kernel
theorem d1_18 : decode prog_332_method_6_code 18 = .ok (.iload_n 0, 1) := by decide +kernel
theorem d1_19 : decode prog_332_method_6_code 19 = .ok (.bipush 90, 2) := by decide +kernel
theorem d1_21 : decode prog_332_method_6_code 21 = .ok (.if_icmp .le 176, 3) := by decide +kernel
theorem d1_24 : decode prog_332_method_6_code 24 = .ok (.iload_n 0, 1) := by decide +kernel
theorem d1_25 : decode prog_332_method_6_code 25 = .ok (.bipush 58, 2) := by decide +kernel
theorem d1_27 : decode prog_332_method_6_code 27 = .ok (.if_icmp .eq 170, 3) := by decide +kernel
theorem d1_30 : decode prog_332_method_6_code 30 = .ok (.iload_n 0, 1) := by decide +kernel
theorem d1_31 : decode prog_332_method_6_code 31 = .ok (.bipush 95, 2) := by decide +kernel
theorem d1_33 : decode prog_332_method_6_code 33 = .ok (.if_icmp .eq 164, 3) := by decide +kernel
theorem d1_36 : decode prog_332_method_6_code 36 = .ok (.iload_n 0, 1) := by decide +kernel
theorem d1_37 : decode prog_332_method_6_code 37 = .ok (.sipush 192, 3) := by decide +kernel
theorem d1_40 : decode prog_332_method_6_code 40 = .ok (.if_icmp .lt 10, 3) := by decide +kernel
theorem d1_43 : decode prog_332_method_6_code 43 = .ok (.iload_n 0, 1) := by decide +kernel
theorem d1_44 : decode prog_332_method_6_code 44 = .ok (.sipush 214, 3) := by decide +kernel
theorem d1_47 : decode prog_332_method_6_code 47 = .ok (.if_icmp .le 150, 3) := by decide +kernel
theorem d1_50 : decode prog_332_method_6_code 50 = .ok (.iload_n 0, 1) := by decide +kernel
theorem d1_51 : decode prog_332_method_6_code 51 = .ok (.sipush 216, 3) := by decide +kernel
theorem d1_54 : decode prog_332_method_6_code 54 = .ok (.if_icmp .lt 10, 3) := by decide +kernel
theorem d1_57 : decode prog_332_method_6_code 57 = .ok (.iload_n 0, 1) := by decide +kernel
theorem d1_58 : decode prog_332_method_6_code 58 = .ok (.sipush 246, 3) := by decide +kernel
theorem d1_61 : decode prog_332_method_6_code 61 = .ok (.if_icmp .le 136, 3) := by decide +kernel
theorem d1_64 : decode prog_332_method_6_code 64 = .ok (.iload_n 0, 1) := by decide +kernel
theorem d1_65 : decode prog_332_method_6_code 65 = .ok (.sipush 248, 3) := by decide +kernel
theorem d1_68 : decode prog_332_method_6_code 68 = .ok (.if_icmp .lt 10, 3) := by decide +kernel
theorem d1_71 : decode prog_332_method_6_code 71 = .ok (.iload_n 0, 1) := by decide +kernel
theorem d1_72 : decode prog_332_method_6_code 72 = .ok (.sipush 767, 3) := by decide +kernel
theorem d1_75 : decode prog_332_method_6_code 75 = .ok (.if_icmp .le 122, 3) := by decide +kernel
theorem d1_78 : decode prog_332_method_6_code 78 = .ok (.iload_n 0, 1) := by decide +kernel
theorem d1_79 : decode prog_332_method_6_code 79 = .ok (.sipush 880, 3) := by decide +kernel
theorem d1_82 : decode prog_332_method_6_code 82 = .ok (.if_icmp .lt 10, 3) := by decide +kernel
theorem d1_85 : decode prog_332_method_6_code 85 = .ok (.iload_n 0, 1) := by decide +kernel
theorem d1_86 : decode prog_332_method_6_code 86 = .ok (.sipush 893, 3) := by decide +kernel
theorem d1_89 : decode prog_332_method_6_code 89 = .ok (.if_icmp .le 108, 3) := by decide +kernel
theorem d1_92 : decode prog_332_method_6_code 92 = .ok (.iload_n 0, 1) := by decide +kernel
theorem d1_93 : decode prog_332_method_6_code 93 = .ok (.sipush 895, 3) := by decide +kernel
theorem d1_96 : decode prog_332_method_6_code 96 = .ok (.if_icmp .lt 10, 3) := by decide +kernel
theorem d1_99 : decode prog_332_method_6_code 99 = .ok (.iload_n 0, 1) := by decide +kernel
theorem d1_100 : decode prog_332_method_6_code 100 = .ok (.sipush 8191, 3) := by decide +kernel
theorem d1_103 : decode prog_332_method_6_code 103 = .ok (.if_icmp .le 94, 3) := by decide +kernel
theorem d1_106 : decode prog_332_method_6_code 106 = .ok (.iload_n 0, 1) := by decide +kernel
theorem d1_107 : decode prog_332_method_6_code 107 = .ok (.sipush 8204, 3) := by decide +kernel
theorem d1_110 : decode prog_332_method_6_code 110 = .ok (.if_icmp .lt 10, 3) := by decide +kernel
theorem d1_113 : decode prog_332_method_6_code 113 = .ok (.iload_n 0, 1) := by decide +kernel
theorem d1_114 : decode prog_332_method_6_code 114 = .ok (.sipush 8205, 3) := by decide +kernel
theorem d1_117 : decode prog_332_method_6_code 117 = .ok (.if_icmp .le 80, 3) := by decide +kernel
theorem d1_120 : decode prog_332_method_6_code 120 = .ok (.iload_n 0, 1) := by decide +kernel
theorem d1_121 : decode prog_332_method_6_code 121 = .ok (.sipush 8304, 3) := by decide +kernel
theorem d1_124 : decode prog_332_method_6_code 124 = .ok (.if_icmp .lt 10, 3) := by decide +kernel
theorem d1_127 : decode prog_332_method_6_code 127 = .ok (.iload_n 0, 1) := by decide +kernel
theorem d1_128 : decode prog_332_method_6_code 128 = .ok (.sipush 8591, 3) := by decide +kernel
theorem d1_131 : decode prog_332_method_6_code 131 = .ok (.if_icmp .le 66, 3) := by decide +kernel
theorem d1_134 : decode prog_332_method_6_code 134 = .ok (.iload_n 0, 1) := by decide +kernel
theorem d1_135 : decode prog_332_method_6_code 135 = .ok (.sipush 11264, 3) := by decide +kernel
theorem d1_138 : decode prog_332_method_6_code 138 = .ok (.if_icmp .lt 10, 3) := by decide +kernel
theorem d1_141 : decode prog_332_method_6_code 141 = .ok (.iload_n 0, 1) := by decide +kernel
theorem d1_142 : decode prog_332_method_6_code 142 = .ok (.sipush 12271, 3) := by decide +kernel
theorem d1_145 : decode prog_332_method_6_code 145 = .ok (.if_icmp .le 52, 3) := by decide +kernel
theorem d1_148 : decode prog_332_method_6_code 148 = .ok (.iload_n 0, 1) := by decide +kernel
theorem d1_149 : decode prog_332_method_6_code 149 = .ok (.sipush 12289, 3) := by decide +kernel
theorem d1_152 : decode prog_332_method_6_code 152 = .ok (.if_icmp .lt 9, 3) := by decide +kernel
theorem d1_155 : decode prog_332_method_6_code 155 = .ok (.iload_n 0, 1) := by decide +kernel
theorem d1_156 : decode prog_332_method_6_code 156 = .ok (.ldc 7, 2) := by decide +kernel
theorem d1_158 : decode prog_332_method_6_code 158 = .ok (.if_icmp .le 39, 3) := by decide +kernel
theorem d1_161 : decode prog_332_method_6_code 161 = .ok (.iload_n 0, 1) := by decide +kernel
theorem d1_162 : decode prog_332_method_6_code 162 = .ok (.ldc 36, 2) := by decide +kernel
theorem d1_164 : decode prog_332_method_6_code 164 = .ok (.if_icmp .lt 9, 3) := by decide +kernel
theorem d1_167 : decode prog_332_method_6_code 167 = .ok (.iload_n 0, 1) := by decide +kernel
theorem d1_168 : decode prog_332_method_6_code 168 = .ok (.ldc 37, 2) := by decide +kernel
theorem d1_170 : decode prog_332_method_6_code 170 = .ok (.if_icmp .le 27, 3) := by decide +kernel
theorem d1_173 : decode prog_332_method_6_code 173 = .ok (.iload_n 0, 1) := by decide +kernel
theorem d1_174 : decode prog_332_method_6_code 174 = .ok (.ldc 38, 2) := by decide +kernel
theorem d1_176 : decode prog_332_method_6_code 176 = .ok (.if_icmp .lt 9, 3) := by decide +kernel
theorem d1_179 : decode prog_332_method_6_code 179 = .ok (.iload_n 0, 1) := by decide +kernel
theorem d1_180 : decode prog_332_method_6_code 180 = .ok (.ldc 9, 2) := by decide +kernel
theorem d1_182 : decode prog_332_method_6_code 182 = .ok (.if_icmp .le 15, 3) := by decide +kernel
theorem d1_185 : decode prog_332_method_6_code 185 = .ok (.iload_n 0, 1) := by decide +kernel
theorem d1_186 : decode prog_332_method_6_code 186 = .ok (.ldc 10, 2) := by decide +kernel
theorem d1_188 : decode prog_332_method_6_code 188 = .ok (.if_icmp .lt 13, 3) := by decide +kernel
theorem d1_191 : decode prog_332_method_6_code 191 = .ok (.iload_n 0, 1) := by decide +kernel
theorem d1_192 : decode prog_332_method_6_code 192 = .ok (.ldc 39, 2) := by decide +kernel
theorem d1_194 : decode prog_332_method_6_code 194 = .ok (.if_icmp .gt 7, 3) := by decide +kernel
theorem d1_197 : decode prog_332_method_6_code 197 = .ok (.iconst 1, 1) := by decide +kernel
theorem d1_198 : decode prog_332_method_6_code 198 = .ok (.goto 4, 3) := by decide +kernel
theorem d1_201 : decode prog_332_method_6_code 201 = .ok (.iconst 0, 1) := by decide +kernel
theorem d1_202 : decode prog_332_method_6_code 202 = .ok (.ireturn, 1) := by decide +kernel
theorem pn_1 : plainName "com/example/interlinear/interlinear/xml/XmlText" = true := by first | (simp [plainName, overriddenIn]; done) | decide +kernel
theorem ef_1 (m : MethodId) (x0 : Int32) : entryFrame m #[(.int x0)] 1 = mkF m 0 #[.val (.int x0)] [] := by first | (simp [entryFrame, mkF, argsToLocals, Value.category]; done) | rfl
set_option maxRecDepth 65536 in
set_option maxHeartbeats 40000000 in
theorem rm1 (l : Launch) (Z : State) (a0 : Array Value) (hw : ∀ d ∈ tables_1, d.before a0 Z = true) (ws : List Jvm.Cond) (x0 : Int32) (h0 : Heap) :
    MetFree l (⟨"com/example/interlinear/interlinear/xml/XmlText", "isNameStart", "(I)Z"⟩ : MethodName) (head1 (Jvm.Cond.code (⟨"com/example/interlinear/interlinear/xml/XmlText", "isNameStart", "(I)Z"⟩ : MethodName) prog_332_method_6_code 1 (some .boolean) :: ws) ({ frames := 0, cells := 0, slots := 0, locals := 0 } : Room)) (fun a U => a = #[(.int x0)] ∧ Z.Warmed39 U.vm ∧ U.heap = h0) (fun _ _ _ _ _ => True) (fun _ U o U' => ∃ v L, o = .returned v ∧ QP (.int (F1 x0)) h0 v U'.heap L ∧ FrameEnd U o U' L ({ frames := 0, cells := 0, slots := 0, locals := 0 } : Room).cells ({ frames := 0, cells := 0, slots := 0, locals := 0 } : Room).slots) := by
  refine MetFree.of_bodySF (plainFor_of_name pn_1) hisR ?_
  intro p e s m args below meth c s₁ Bd hml0 hP hK
  obtain ⟨rfl, hZ, hh⟩ := hP
  have hx := Bd.exec
  have hby := Bd.bytes
  have hml : c.maxLocals = 1 := hml0
  have hown : s.vm.findClass "com/example/interlinear/interlinear/xml/XmlText" = some m.cls := findClass_of_methodNamed Bd.named
  have X0 : Stand p l e ({ frames := 0, cells := 0, slots := 0, locals := 0 } : Room) s m #[(.int x0)] below meth c s₁ [] 0 0 := Stand.of_body Bd
  have e0 : s₁.heap = h0 := by rw [← hh, Bd.state]; rfl
  show Runs p e below s (QP (.int (F1 x0)) h0) ({ frames := 0, cells := 0, slots := 0, locals := 0 } : Room).cells ({ frames := 0, cells := 0, slots := 0, locals := 0 } : Room).slots (s₁.setTop (entryFrame m #[(.int x0)] 1))
  rw [ef_1 m x0]
  obtain ⟨r, hF⟩ : ∃ r, F1 x0 = r := ⟨_, rfl⟩
  rw [hF]
  have k_201 : ∀ (T : State) (X : Stand p l e ({ frames := 0, cells := 0, slots := 0, locals := 0 } : Room) s m #[(.int x0)] below meth c T [] 0 0) (eT : T.heap = h0) (v0 : Int32), f1_201 = r → Runs p e below s (QP (.int r) h0) ({ frames := 0, cells := 0, slots := 0, locals := 0 } : Room).cells ({ frames := 0, cells := 0, slots := 0, locals := 0 } : Room).slots (T.setTop (mkF m 201 #[.val (.int v0)] [])) := by
    intro T X eT v0 hv
    unfold f1_201 at hv
    refine Runs.go (fun _ => XS.iconst X.here hx rfl (hb hby d1_201)) ?_
    show Runs p e below s _ _ _ (T.setTop (mkF m 202 #[.val (.int v0)] [(.int (0 : Int32))]))
    exact Runs.endN X hx (t := .boolean) Bd.returns (by simp) Bd.notSynchronized (hb hby d1_202) ⟨congrArg (fun z => some (Value.int z)) hv, rfl, eT⟩ (by decide) (by decide)
  have k_197 : ∀ (T : State) (X : Stand p l e ({ frames := 0, cells := 0, slots := 0, locals := 0 } : Room) s m #[(.int x0)] below meth c T [] 0 0) (eT : T.heap = h0) (v0 : Int32), f1_197 = r → Runs p e below s (QP (.int r) h0) ({ frames := 0, cells := 0, slots := 0, locals := 0 } : Room).cells ({ frames := 0, cells := 0, slots := 0, locals := 0 } : Room).slots (T.setTop (mkF m 197 #[.val (.int v0)] [])) := by
    intro T X eT v0 hv
    unfold f1_197 at hv
    refine Runs.go (fun _ => XS.iconst X.here hx rfl (hb hby d1_197)) ?_
    show Runs p e below s _ _ _ (T.setTop (mkF m 198 #[.val (.int v0)] [(.int (1 : Int32))]))
    refine Runs.go (fun _ => XS.goto X.here hx rfl (pc0 := 198) (pc' := 202) rfl (hb hby d1_198) (by decide) (by decide)) ?_
    show Runs p e below s _ _ _ (T.setTop (mkF m 202 #[.val (.int v0)] [(.int (1 : Int32))]))
    exact Runs.endN X hx (t := .boolean) Bd.returns (by simp) Bd.notSynchronized (hb hby d1_202) ⟨congrArg (fun z => some (Value.int z)) hv, rfl, eT⟩ (by decide) (by decide)
  have k_185 : ∀ (T : State) (X : Stand p l e ({ frames := 0, cells := 0, slots := 0, locals := 0 } : Room) s m #[(.int x0)] below meth c T [] 0 0) (eT : T.heap = h0) (v0 : Int32), f1_185 v0 = r → Runs p e below s (QP (.int r) h0) ({ frames := 0, cells := 0, slots := 0, locals := 0 } : Room).cells ({ frames := 0, cells := 0, slots := 0, locals := 0 } : Room).slots (T.setTop (mkF m 185 #[.val (.int v0)] [])) := by
    intro T X eT v0 hv
    unfold f1_185 at hv
    refine Runs.go (fun _ => XS.iloadN X.here hx rfl (hb hby d1_185) rfl) ?_
    show Runs p e below s _ _ _ (T.setTop (mkF m 186 #[.val (.int v0)] [(.int v0)]))
    refine Runs.go (X.ldcInt hx hown (mvT hZ (hw _ (List.mem_of_getElem? (i := 16) rfl))) (g := (mkF m 186 #[.val (.int v0)] [(.int v0)])) rfl (hb hby d1_186)) ?_
    show Runs p e below s _ _ _ (T.setTop (mkF m 188 #[.val (.int v0)] [(.int (65536 : Int32)), (.int v0)]))
    by_cases hc188 : v0 < (65536 : Int32)
    · have hv := (if_pos hc188).symm.trans hv
      refine Runs.go (fun _ => XS.icmpYes X.here hx rfl (pc0 := 188) (pc' := 201) rfl (hb hby d1_188) rfl (tlt hc188).1 (by decide) (by decide)) ?_
      show Runs p e below s _ _ _ (T.setTop (mkF m 201 #[.val (.int v0)] []))
      exact k_201 _ X eT v0 hv
    · have hv := (if_neg hc188).symm.trans hv
      refine Runs.go (fun _ => XS.icmpNo X.here hx rfl (hb hby d1_188) rfl (flt hc188).1) ?_
      show Runs p e below s _ _ _ (T.setTop (mkF m 191 #[.val (.int v0)] []))
      refine Runs.go (fun _ => XS.iloadN X.here hx rfl (hb hby d1_191) rfl) ?_
      show Runs p e below s _ _ _ (T.setTop (mkF m 192 #[.val (.int v0)] [(.int v0)]))
      refine Runs.go (X.ldcInt hx hown (mvT hZ (hw _ (List.mem_of_getElem? (i := 24) rfl))) (g := (mkF m 192 #[.val (.int v0)] [(.int v0)])) rfl (hb hby d1_192)) ?_
      show Runs p e below s _ _ _ (T.setTop (mkF m 194 #[.val (.int v0)] [(.int (983039 : Int32)), (.int v0)]))
      by_cases hc194 : (983039 : Int32) < v0
      · have hv := (if_pos hc194).symm.trans hv
        refine Runs.go (fun _ => XS.icmpYes X.here hx rfl (pc0 := 194) (pc' := 201) rfl (hb hby d1_194) rfl (tlt hc194).2.2.1 (by decide) (by decide)) ?_
        show Runs p e below s _ _ _ (T.setTop (mkF m 201 #[.val (.int v0)] []))
        exact k_201 _ X eT v0 hv
      · have hv := (if_neg hc194).symm.trans hv
        refine Runs.go (fun _ => XS.icmpNo X.here hx rfl (hb hby d1_194) rfl (flt hc194).2.2.1) ?_
        show Runs p e below s _ _ _ (T.setTop (mkF m 197 #[.val (.int v0)] []))
        exact k_197 _ X eT v0 hv
  have k_173 : ∀ (T : State) (X : Stand p l e ({ frames := 0, cells := 0, slots := 0, locals := 0 } : Room) s m #[(.int x0)] below meth c T [] 0 0) (eT : T.heap = h0) (v0 : Int32), f1_173 v0 = r → Runs p e below s (QP (.int r) h0) ({ frames := 0, cells := 0, slots := 0, locals := 0 } : Room).cells ({ frames := 0, cells := 0, slots := 0, locals := 0 } : Room).slots (T.setTop (mkF m 173 #[.val (.int v0)] [])) := by
    intro T X eT v0 hv
    unfold f1_173 at hv
    refine Runs.go (fun _ => XS.iloadN X.here hx rfl (hb hby d1_173) rfl) ?_
    show Runs p e below s _ _ _ (T.setTop (mkF m 174 #[.val (.int v0)] [(.int v0)]))
    refine Runs.go (X.ldcInt hx hown (mvT hZ (hw _ (List.mem_of_getElem? (i := 15) rfl))) (g := (mkF m 174 #[.val (.int v0)] [(.int v0)])) rfl (hb hby d1_174)) ?_
    show Runs p e below s _ _ _ (T.setTop (mkF m 176 #[.val (.int v0)] [(.int (65008 : Int32)), (.int v0)]))
    by_cases hc176 : v0 < (65008 : Int32)
    · have hv := (if_pos hc176).symm.trans hv
      refine Runs.go (fun _ => XS.icmpYes X.here hx rfl (pc0 := 176) (pc' := 185) rfl (hb hby d1_176) rfl (tlt hc176).1 (by decide) (by decide)) ?_
      show Runs p e below s _ _ _ (T.setTop (mkF m 185 #[.val (.int v0)] []))
      exact k_185 _ X eT v0 hv
    · have hv := (if_neg hc176).symm.trans hv
      refine Runs.go (fun _ => XS.icmpNo X.here hx rfl (hb hby d1_176) rfl (flt hc176).1) ?_
      show Runs p e below s _ _ _ (T.setTop (mkF m 179 #[.val (.int v0)] []))
      refine Runs.go (fun _ => XS.iloadN X.here hx rfl (hb hby d1_179) rfl) ?_
      show Runs p e below s _ _ _ (T.setTop (mkF m 180 #[.val (.int v0)] [(.int v0)]))
      refine Runs.go (X.ldcInt hx hown (mvT hZ (hw _ (List.mem_of_getElem? (i := 23) rfl))) (g := (mkF m 180 #[.val (.int v0)] [(.int v0)])) rfl (hb hby d1_180)) ?_
      show Runs p e below s _ _ _ (T.setTop (mkF m 182 #[.val (.int v0)] [(.int (65533 : Int32)), (.int v0)]))
      by_cases hc182 : (65533 : Int32) < v0
      · have hv := (if_pos hc182).symm.trans hv
        refine Runs.go (fun _ => XS.icmpNo X.here hx rfl (hb hby d1_182) rfl (tlt hc182).2.2.2) ?_
        show Runs p e below s _ _ _ (T.setTop (mkF m 185 #[.val (.int v0)] []))
        exact k_185 _ X eT v0 hv
      · have hv := (if_neg hc182).symm.trans hv
        refine Runs.go (fun _ => XS.icmpYes X.here hx rfl (pc0 := 182) (pc' := 197) rfl (hb hby d1_182) rfl (flt hc182).2.2.2 (by decide) (by decide)) ?_
        show Runs p e below s _ _ _ (T.setTop (mkF m 197 #[.val (.int v0)] []))
        exact k_197 _ X eT v0 hv
  have k_161 : ∀ (T : State) (X : Stand p l e ({ frames := 0, cells := 0, slots := 0, locals := 0 } : Room) s m #[(.int x0)] below meth c T [] 0 0) (eT : T.heap = h0) (v0 : Int32), f1_161 v0 = r → Runs p e below s (QP (.int r) h0) ({ frames := 0, cells := 0, slots := 0, locals := 0 } : Room).cells ({ frames := 0, cells := 0, slots := 0, locals := 0 } : Room).slots (T.setTop (mkF m 161 #[.val (.int v0)] [])) := by
    intro T X eT v0 hv
    unfold f1_161 at hv
    refine Runs.go (fun _ => XS.iloadN X.here hx rfl (hb hby d1_161) rfl) ?_
    show Runs p e below s _ _ _ (T.setTop (mkF m 162 #[.val (.int v0)] [(.int v0)]))
    refine Runs.go (X.ldcInt hx hown (mvT hZ (hw _ (List.mem_of_getElem? (i := 14) rfl))) (g := (mkF m 162 #[.val (.int v0)] [(.int v0)])) rfl (hb hby d1_162)) ?_
    show Runs p e below s _ _ _ (T.setTop (mkF m 164 #[.val (.int v0)] [(.int (63744 : Int32)), (.int v0)]))
    by_cases hc164 : v0 < (63744 : Int32)
    · have hv := (if_pos hc164).symm.trans hv
      refine Runs.go (fun _ => XS.icmpYes X.here hx rfl (pc0 := 164) (pc' := 173) rfl (hb hby d1_164) rfl (tlt hc164).1 (by decide) (by decide)) ?_
      show Runs p e below s _ _ _ (T.setTop (mkF m 173 #[.val (.int v0)] []))
      exact k_173 _ X eT v0 hv
    · have hv := (if_neg hc164).symm.trans hv
      refine Runs.go (fun _ => XS.icmpNo X.here hx rfl (hb hby d1_164) rfl (flt hc164).1) ?_
      show Runs p e below s _ _ _ (T.setTop (mkF m 167 #[.val (.int v0)] []))
      refine Runs.go (fun _ => XS.iloadN X.here hx rfl (hb hby d1_167) rfl) ?_
      show Runs p e below s _ _ _ (T.setTop (mkF m 168 #[.val (.int v0)] [(.int v0)]))
      refine Runs.go (X.ldcInt hx hown (mvT hZ (hw _ (List.mem_of_getElem? (i := 22) rfl))) (g := (mkF m 168 #[.val (.int v0)] [(.int v0)])) rfl (hb hby d1_168)) ?_
      show Runs p e below s _ _ _ (T.setTop (mkF m 170 #[.val (.int v0)] [(.int (64975 : Int32)), (.int v0)]))
      by_cases hc170 : (64975 : Int32) < v0
      · have hv := (if_pos hc170).symm.trans hv
        refine Runs.go (fun _ => XS.icmpNo X.here hx rfl (hb hby d1_170) rfl (tlt hc170).2.2.2) ?_
        show Runs p e below s _ _ _ (T.setTop (mkF m 173 #[.val (.int v0)] []))
        exact k_173 _ X eT v0 hv
      · have hv := (if_neg hc170).symm.trans hv
        refine Runs.go (fun _ => XS.icmpYes X.here hx rfl (pc0 := 170) (pc' := 197) rfl (hb hby d1_170) rfl (flt hc170).2.2.2 (by decide) (by decide)) ?_
        show Runs p e below s _ _ _ (T.setTop (mkF m 197 #[.val (.int v0)] []))
        exact k_197 _ X eT v0 hv
  have k_148 : ∀ (T : State) (X : Stand p l e ({ frames := 0, cells := 0, slots := 0, locals := 0 } : Room) s m #[(.int x0)] below meth c T [] 0 0) (eT : T.heap = h0) (v0 : Int32), f1_148 v0 = r → Runs p e below s (QP (.int r) h0) ({ frames := 0, cells := 0, slots := 0, locals := 0 } : Room).cells ({ frames := 0, cells := 0, slots := 0, locals := 0 } : Room).slots (T.setTop (mkF m 148 #[.val (.int v0)] [])) := by
    intro T X eT v0 hv
    unfold f1_148 at hv
    refine Runs.go (fun _ => XS.iloadN X.here hx rfl (hb hby d1_148) rfl) ?_
    show Runs p e below s _ _ _ (T.setTop (mkF m 149 #[.val (.int v0)] [(.int v0)]))
    refine Runs.go (fun _ => XS.sipush X.here hx rfl (hb hby d1_149)) ?_
    show Runs p e below s _ _ _ (T.setTop (mkF m 152 #[.val (.int v0)] [(.int (12289 : Int32)), (.int v0)]))
    by_cases hc152 : v0 < (12289 : Int32)
    · have hv := (if_pos hc152).symm.trans hv
      refine Runs.go (fun _ => XS.icmpYes X.here hx rfl (pc0 := 152) (pc' := 161) rfl (hb hby d1_152) rfl (tlt hc152).1 (by decide) (by decide)) ?_
      show Runs p e below s _ _ _ (T.setTop (mkF m 161 #[.val (.int v0)] []))
      exact k_161 _ X eT v0 hv
    · have hv := (if_neg hc152).symm.trans hv
      refine Runs.go (fun _ => XS.icmpNo X.here hx rfl (hb hby d1_152) rfl (flt hc152).1) ?_
      show Runs p e below s _ _ _ (T.setTop (mkF m 155 #[.val (.int v0)] []))
      refine Runs.go (fun _ => XS.iloadN X.here hx rfl (hb hby d1_155) rfl) ?_
      show Runs p e below s _ _ _ (T.setTop (mkF m 156 #[.val (.int v0)] [(.int v0)]))
      refine Runs.go (X.ldcInt hx hown (mvT hZ (hw _ (List.mem_of_getElem? (i := 21) rfl))) (g := (mkF m 156 #[.val (.int v0)] [(.int v0)])) rfl (hb hby d1_156)) ?_
      show Runs p e below s _ _ _ (T.setTop (mkF m 158 #[.val (.int v0)] [(.int (55295 : Int32)), (.int v0)]))
      by_cases hc158 : (55295 : Int32) < v0
      · have hv := (if_pos hc158).symm.trans hv
        refine Runs.go (fun _ => XS.icmpNo X.here hx rfl (hb hby d1_158) rfl (tlt hc158).2.2.2) ?_
        show Runs p e below s _ _ _ (T.setTop (mkF m 161 #[.val (.int v0)] []))
        exact k_161 _ X eT v0 hv
      · have hv := (if_neg hc158).symm.trans hv
        refine Runs.go (fun _ => XS.icmpYes X.here hx rfl (pc0 := 158) (pc' := 197) rfl (hb hby d1_158) rfl (flt hc158).2.2.2 (by decide) (by decide)) ?_
        show Runs p e below s _ _ _ (T.setTop (mkF m 197 #[.val (.int v0)] []))
        exact k_197 _ X eT v0 hv
  have k_134 : ∀ (T : State) (X : Stand p l e ({ frames := 0, cells := 0, slots := 0, locals := 0 } : Room) s m #[(.int x0)] below meth c T [] 0 0) (eT : T.heap = h0) (v0 : Int32), f1_134 v0 = r → Runs p e below s (QP (.int r) h0) ({ frames := 0, cells := 0, slots := 0, locals := 0 } : Room).cells ({ frames := 0, cells := 0, slots := 0, locals := 0 } : Room).slots (T.setTop (mkF m 134 #[.val (.int v0)] [])) := by
    intro T X eT v0 hv
    unfold f1_134 at hv
    refine Runs.go (fun _ => XS.iloadN X.here hx rfl (hb hby d1_134) rfl) ?_
    show Runs p e below s _ _ _ (T.setTop (mkF m 135 #[.val (.int v0)] [(.int v0)]))
    refine Runs.go (fun _ => XS.sipush X.here hx rfl (hb hby d1_135)) ?_
    show Runs p e below s _ _ _ (T.setTop (mkF m 138 #[.val (.int v0)] [(.int (11264 : Int32)), (.int v0)]))
    by_cases hc138 : v0 < (11264 : Int32)
    · have hv := (if_pos hc138).symm.trans hv
      refine Runs.go (fun _ => XS.icmpYes X.here hx rfl (pc0 := 138) (pc' := 148) rfl (hb hby d1_138) rfl (tlt hc138).1 (by decide) (by decide)) ?_
      show Runs p e below s _ _ _ (T.setTop (mkF m 148 #[.val (.int v0)] []))
      exact k_148 _ X eT v0 hv
    · have hv := (if_neg hc138).symm.trans hv
      refine Runs.go (fun _ => XS.icmpNo X.here hx rfl (hb hby d1_138) rfl (flt hc138).1) ?_
      show Runs p e below s _ _ _ (T.setTop (mkF m 141 #[.val (.int v0)] []))
      refine Runs.go (fun _ => XS.iloadN X.here hx rfl (hb hby d1_141) rfl) ?_
      show Runs p e below s _ _ _ (T.setTop (mkF m 142 #[.val (.int v0)] [(.int v0)]))
      refine Runs.go (fun _ => XS.sipush X.here hx rfl (hb hby d1_142)) ?_
      show Runs p e below s _ _ _ (T.setTop (mkF m 145 #[.val (.int v0)] [(.int (12271 : Int32)), (.int v0)]))
      by_cases hc145 : (12271 : Int32) < v0
      · have hv := (if_pos hc145).symm.trans hv
        refine Runs.go (fun _ => XS.icmpNo X.here hx rfl (hb hby d1_145) rfl (tlt hc145).2.2.2) ?_
        show Runs p e below s _ _ _ (T.setTop (mkF m 148 #[.val (.int v0)] []))
        exact k_148 _ X eT v0 hv
      · have hv := (if_neg hc145).symm.trans hv
        refine Runs.go (fun _ => XS.icmpYes X.here hx rfl (pc0 := 145) (pc' := 197) rfl (hb hby d1_145) rfl (flt hc145).2.2.2 (by decide) (by decide)) ?_
        show Runs p e below s _ _ _ (T.setTop (mkF m 197 #[.val (.int v0)] []))
        exact k_197 _ X eT v0 hv
  have k_120 : ∀ (T : State) (X : Stand p l e ({ frames := 0, cells := 0, slots := 0, locals := 0 } : Room) s m #[(.int x0)] below meth c T [] 0 0) (eT : T.heap = h0) (v0 : Int32), f1_120 v0 = r → Runs p e below s (QP (.int r) h0) ({ frames := 0, cells := 0, slots := 0, locals := 0 } : Room).cells ({ frames := 0, cells := 0, slots := 0, locals := 0 } : Room).slots (T.setTop (mkF m 120 #[.val (.int v0)] [])) := by
    intro T X eT v0 hv
    unfold f1_120 at hv
    refine Runs.go (fun _ => XS.iloadN X.here hx rfl (hb hby d1_120) rfl) ?_
    show Runs p e below s _ _ _ (T.setTop (mkF m 121 #[.val (.int v0)] [(.int v0)]))
    refine Runs.go (fun _ => XS.sipush X.here hx rfl (hb hby d1_121)) ?_
    show Runs p e below s _ _ _ (T.setTop (mkF m 124 #[.val (.int v0)] [(.int (8304 : Int32)), (.int v0)]))
    by_cases hc124 : v0 < (8304 : Int32)
    · have hv := (if_pos hc124).symm.trans hv
      refine Runs.go (fun _ => XS.icmpYes X.here hx rfl (pc0 := 124) (pc' := 134) rfl (hb hby d1_124) rfl (tlt hc124).1 (by decide) (by decide)) ?_
      show Runs p e below s _ _ _ (T.setTop (mkF m 134 #[.val (.int v0)] []))
      exact k_134 _ X eT v0 hv
    · have hv := (if_neg hc124).symm.trans hv
      refine Runs.go (fun _ => XS.icmpNo X.here hx rfl (hb hby d1_124) rfl (flt hc124).1) ?_
      show Runs p e below s _ _ _ (T.setTop (mkF m 127 #[.val (.int v0)] []))
      refine Runs.go (fun _ => XS.iloadN X.here hx rfl (hb hby d1_127) rfl) ?_
      show Runs p e below s _ _ _ (T.setTop (mkF m 128 #[.val (.int v0)] [(.int v0)]))
      refine Runs.go (fun _ => XS.sipush X.here hx rfl (hb hby d1_128)) ?_
      show Runs p e below s _ _ _ (T.setTop (mkF m 131 #[.val (.int v0)] [(.int (8591 : Int32)), (.int v0)]))
      by_cases hc131 : (8591 : Int32) < v0
      · have hv := (if_pos hc131).symm.trans hv
        refine Runs.go (fun _ => XS.icmpNo X.here hx rfl (hb hby d1_131) rfl (tlt hc131).2.2.2) ?_
        show Runs p e below s _ _ _ (T.setTop (mkF m 134 #[.val (.int v0)] []))
        exact k_134 _ X eT v0 hv
      · have hv := (if_neg hc131).symm.trans hv
        refine Runs.go (fun _ => XS.icmpYes X.here hx rfl (pc0 := 131) (pc' := 197) rfl (hb hby d1_131) rfl (flt hc131).2.2.2 (by decide) (by decide)) ?_
        show Runs p e below s _ _ _ (T.setTop (mkF m 197 #[.val (.int v0)] []))
        exact k_197 _ X eT v0 hv
  have k_106 : ∀ (T : State) (X : Stand p l e ({ frames := 0, cells := 0, slots := 0, locals := 0 } : Room) s m #[(.int x0)] below meth c T [] 0 0) (eT : T.heap = h0) (v0 : Int32), f1_106 v0 = r → Runs p e below s (QP (.int r) h0) ({ frames := 0, cells := 0, slots := 0, locals := 0 } : Room).cells ({ frames := 0, cells := 0, slots := 0, locals := 0 } : Room).slots (T.setTop (mkF m 106 #[.val (.int v0)] [])) := by
    intro T X eT v0 hv
    unfold f1_106 at hv
    refine Runs.go (fun _ => XS.iloadN X.here hx rfl (hb hby d1_106) rfl) ?_
    show Runs p e below s _ _ _ (T.setTop (mkF m 107 #[.val (.int v0)] [(.int v0)]))
    refine Runs.go (fun _ => XS.sipush X.here hx rfl (hb hby d1_107)) ?_
    show Runs p e below s _ _ _ (T.setTop (mkF m 110 #[.val (.int v0)] [(.int (8204 : Int32)), (.int v0)]))
    by_cases hc110 : v0 < (8204 : Int32)
    · have hv := (if_pos hc110).symm.trans hv
      refine Runs.go (fun _ => XS.icmpYes X.here hx rfl (pc0 := 110) (pc' := 120) rfl (hb hby d1_110) rfl (tlt hc110).1 (by decide) (by decide)) ?_
      show Runs p e below s _ _ _ (T.setTop (mkF m 120 #[.val (.int v0)] []))
      exact k_120 _ X eT v0 hv
    · have hv := (if_neg hc110).symm.trans hv
      refine Runs.go (fun _ => XS.icmpNo X.here hx rfl (hb hby d1_110) rfl (flt hc110).1) ?_
      show Runs p e below s _ _ _ (T.setTop (mkF m 113 #[.val (.int v0)] []))
      refine Runs.go (fun _ => XS.iloadN X.here hx rfl (hb hby d1_113) rfl) ?_
      show Runs p e below s _ _ _ (T.setTop (mkF m 114 #[.val (.int v0)] [(.int v0)]))
      refine Runs.go (fun _ => XS.sipush X.here hx rfl (hb hby d1_114)) ?_
      show Runs p e below s _ _ _ (T.setTop (mkF m 117 #[.val (.int v0)] [(.int (8205 : Int32)), (.int v0)]))
      by_cases hc117 : (8205 : Int32) < v0
      · have hv := (if_pos hc117).symm.trans hv
        refine Runs.go (fun _ => XS.icmpNo X.here hx rfl (hb hby d1_117) rfl (tlt hc117).2.2.2) ?_
        show Runs p e below s _ _ _ (T.setTop (mkF m 120 #[.val (.int v0)] []))
        exact k_120 _ X eT v0 hv
      · have hv := (if_neg hc117).symm.trans hv
        refine Runs.go (fun _ => XS.icmpYes X.here hx rfl (pc0 := 117) (pc' := 197) rfl (hb hby d1_117) rfl (flt hc117).2.2.2 (by decide) (by decide)) ?_
        show Runs p e below s _ _ _ (T.setTop (mkF m 197 #[.val (.int v0)] []))
        exact k_197 _ X eT v0 hv
  have k_92 : ∀ (T : State) (X : Stand p l e ({ frames := 0, cells := 0, slots := 0, locals := 0 } : Room) s m #[(.int x0)] below meth c T [] 0 0) (eT : T.heap = h0) (v0 : Int32), f1_92 v0 = r → Runs p e below s (QP (.int r) h0) ({ frames := 0, cells := 0, slots := 0, locals := 0 } : Room).cells ({ frames := 0, cells := 0, slots := 0, locals := 0 } : Room).slots (T.setTop (mkF m 92 #[.val (.int v0)] [])) := by
    intro T X eT v0 hv
    unfold f1_92 at hv
    refine Runs.go (fun _ => XS.iloadN X.here hx rfl (hb hby d1_92) rfl) ?_
    show Runs p e below s _ _ _ (T.setTop (mkF m 93 #[.val (.int v0)] [(.int v0)]))
    refine Runs.go (fun _ => XS.sipush X.here hx rfl (hb hby d1_93)) ?_
    show Runs p e below s _ _ _ (T.setTop (mkF m 96 #[.val (.int v0)] [(.int (895 : Int32)), (.int v0)]))
    by_cases hc96 : v0 < (895 : Int32)
    · have hv := (if_pos hc96).symm.trans hv
      refine Runs.go (fun _ => XS.icmpYes X.here hx rfl (pc0 := 96) (pc' := 106) rfl (hb hby d1_96) rfl (tlt hc96).1 (by decide) (by decide)) ?_
      show Runs p e below s _ _ _ (T.setTop (mkF m 106 #[.val (.int v0)] []))
      exact k_106 _ X eT v0 hv
    · have hv := (if_neg hc96).symm.trans hv
      refine Runs.go (fun _ => XS.icmpNo X.here hx rfl (hb hby d1_96) rfl (flt hc96).1) ?_
      show Runs p e below s _ _ _ (T.setTop (mkF m 99 #[.val (.int v0)] []))
      refine Runs.go (fun _ => XS.iloadN X.here hx rfl (hb hby d1_99) rfl) ?_
      show Runs p e below s _ _ _ (T.setTop (mkF m 100 #[.val (.int v0)] [(.int v0)]))
      refine Runs.go (fun _ => XS.sipush X.here hx rfl (hb hby d1_100)) ?_
      show Runs p e below s _ _ _ (T.setTop (mkF m 103 #[.val (.int v0)] [(.int (8191 : Int32)), (.int v0)]))
      by_cases hc103 : (8191 : Int32) < v0
      · have hv := (if_pos hc103).symm.trans hv
        refine Runs.go (fun _ => XS.icmpNo X.here hx rfl (hb hby d1_103) rfl (tlt hc103).2.2.2) ?_
        show Runs p e below s _ _ _ (T.setTop (mkF m 106 #[.val (.int v0)] []))
        exact k_106 _ X eT v0 hv
      · have hv := (if_neg hc103).symm.trans hv
        refine Runs.go (fun _ => XS.icmpYes X.here hx rfl (pc0 := 103) (pc' := 197) rfl (hb hby d1_103) rfl (flt hc103).2.2.2 (by decide) (by decide)) ?_
        show Runs p e below s _ _ _ (T.setTop (mkF m 197 #[.val (.int v0)] []))
        exact k_197 _ X eT v0 hv
  have k_78 : ∀ (T : State) (X : Stand p l e ({ frames := 0, cells := 0, slots := 0, locals := 0 } : Room) s m #[(.int x0)] below meth c T [] 0 0) (eT : T.heap = h0) (v0 : Int32), f1_78 v0 = r → Runs p e below s (QP (.int r) h0) ({ frames := 0, cells := 0, slots := 0, locals := 0 } : Room).cells ({ frames := 0, cells := 0, slots := 0, locals := 0 } : Room).slots (T.setTop (mkF m 78 #[.val (.int v0)] [])) := by
    intro T X eT v0 hv
    unfold f1_78 at hv
    refine Runs.go (fun _ => XS.iloadN X.here hx rfl (hb hby d1_78) rfl) ?_
    show Runs p e below s _ _ _ (T.setTop (mkF m 79 #[.val (.int v0)] [(.int v0)]))
    refine Runs.go (fun _ => XS.sipush X.here hx rfl (hb hby d1_79)) ?_
    show Runs p e below s _ _ _ (T.setTop (mkF m 82 #[.val (.int v0)] [(.int (880 : Int32)), (.int v0)]))
    by_cases hc82 : v0 < (880 : Int32)
    · have hv := (if_pos hc82).symm.trans hv
      refine Runs.go (fun _ => XS.icmpYes X.here hx rfl (pc0 := 82) (pc' := 92) rfl (hb hby d1_82) rfl (tlt hc82).1 (by decide) (by decide)) ?_
      show Runs p e below s _ _ _ (T.setTop (mkF m 92 #[.val (.int v0)] []))
      exact k_92 _ X eT v0 hv
    · have hv := (if_neg hc82).symm.trans hv
      refine Runs.go (fun _ => XS.icmpNo X.here hx rfl (hb hby d1_82) rfl (flt hc82).1) ?_
      show Runs p e below s _ _ _ (T.setTop (mkF m 85 #[.val (.int v0)] []))
      refine Runs.go (fun _ => XS.iloadN X.here hx rfl (hb hby d1_85) rfl) ?_
      show Runs p e below s _ _ _ (T.setTop (mkF m 86 #[.val (.int v0)] [(.int v0)]))
      refine Runs.go (fun _ => XS.sipush X.here hx rfl (hb hby d1_86)) ?_
      show Runs p e below s _ _ _ (T.setTop (mkF m 89 #[.val (.int v0)] [(.int (893 : Int32)), (.int v0)]))
      by_cases hc89 : (893 : Int32) < v0
      · have hv := (if_pos hc89).symm.trans hv
        refine Runs.go (fun _ => XS.icmpNo X.here hx rfl (hb hby d1_89) rfl (tlt hc89).2.2.2) ?_
        show Runs p e below s _ _ _ (T.setTop (mkF m 92 #[.val (.int v0)] []))
        exact k_92 _ X eT v0 hv
      · have hv := (if_neg hc89).symm.trans hv
        refine Runs.go (fun _ => XS.icmpYes X.here hx rfl (pc0 := 89) (pc' := 197) rfl (hb hby d1_89) rfl (flt hc89).2.2.2 (by decide) (by decide)) ?_
        show Runs p e below s _ _ _ (T.setTop (mkF m 197 #[.val (.int v0)] []))
        exact k_197 _ X eT v0 hv
  have k_64 : ∀ (T : State) (X : Stand p l e ({ frames := 0, cells := 0, slots := 0, locals := 0 } : Room) s m #[(.int x0)] below meth c T [] 0 0) (eT : T.heap = h0) (v0 : Int32), f1_64 v0 = r → Runs p e below s (QP (.int r) h0) ({ frames := 0, cells := 0, slots := 0, locals := 0 } : Room).cells ({ frames := 0, cells := 0, slots := 0, locals := 0 } : Room).slots (T.setTop (mkF m 64 #[.val (.int v0)] [])) := by
    intro T X eT v0 hv
    unfold f1_64 at hv
    refine Runs.go (fun _ => XS.iloadN X.here hx rfl (hb hby d1_64) rfl) ?_
    show Runs p e below s _ _ _ (T.setTop (mkF m 65 #[.val (.int v0)] [(.int v0)]))
    refine Runs.go (fun _ => XS.sipush X.here hx rfl (hb hby d1_65)) ?_
    show Runs p e below s _ _ _ (T.setTop (mkF m 68 #[.val (.int v0)] [(.int (248 : Int32)), (.int v0)]))
    by_cases hc68 : v0 < (248 : Int32)
    · have hv := (if_pos hc68).symm.trans hv
      refine Runs.go (fun _ => XS.icmpYes X.here hx rfl (pc0 := 68) (pc' := 78) rfl (hb hby d1_68) rfl (tlt hc68).1 (by decide) (by decide)) ?_
      show Runs p e below s _ _ _ (T.setTop (mkF m 78 #[.val (.int v0)] []))
      exact k_78 _ X eT v0 hv
    · have hv := (if_neg hc68).symm.trans hv
      refine Runs.go (fun _ => XS.icmpNo X.here hx rfl (hb hby d1_68) rfl (flt hc68).1) ?_
      show Runs p e below s _ _ _ (T.setTop (mkF m 71 #[.val (.int v0)] []))
      refine Runs.go (fun _ => XS.iloadN X.here hx rfl (hb hby d1_71) rfl) ?_
      show Runs p e below s _ _ _ (T.setTop (mkF m 72 #[.val (.int v0)] [(.int v0)]))
      refine Runs.go (fun _ => XS.sipush X.here hx rfl (hb hby d1_72)) ?_
      show Runs p e below s _ _ _ (T.setTop (mkF m 75 #[.val (.int v0)] [(.int (767 : Int32)), (.int v0)]))
      by_cases hc75 : (767 : Int32) < v0
      · have hv := (if_pos hc75).symm.trans hv
        refine Runs.go (fun _ => XS.icmpNo X.here hx rfl (hb hby d1_75) rfl (tlt hc75).2.2.2) ?_
        show Runs p e below s _ _ _ (T.setTop (mkF m 78 #[.val (.int v0)] []))
        exact k_78 _ X eT v0 hv
      · have hv := (if_neg hc75).symm.trans hv
        refine Runs.go (fun _ => XS.icmpYes X.here hx rfl (pc0 := 75) (pc' := 197) rfl (hb hby d1_75) rfl (flt hc75).2.2.2 (by decide) (by decide)) ?_
        show Runs p e below s _ _ _ (T.setTop (mkF m 197 #[.val (.int v0)] []))
        exact k_197 _ X eT v0 hv
  have k_50 : ∀ (T : State) (X : Stand p l e ({ frames := 0, cells := 0, slots := 0, locals := 0 } : Room) s m #[(.int x0)] below meth c T [] 0 0) (eT : T.heap = h0) (v0 : Int32), f1_50 v0 = r → Runs p e below s (QP (.int r) h0) ({ frames := 0, cells := 0, slots := 0, locals := 0 } : Room).cells ({ frames := 0, cells := 0, slots := 0, locals := 0 } : Room).slots (T.setTop (mkF m 50 #[.val (.int v0)] [])) := by
    intro T X eT v0 hv
    unfold f1_50 at hv
    refine Runs.go (fun _ => XS.iloadN X.here hx rfl (hb hby d1_50) rfl) ?_
    show Runs p e below s _ _ _ (T.setTop (mkF m 51 #[.val (.int v0)] [(.int v0)]))
    refine Runs.go (fun _ => XS.sipush X.here hx rfl (hb hby d1_51)) ?_
    show Runs p e below s _ _ _ (T.setTop (mkF m 54 #[.val (.int v0)] [(.int (216 : Int32)), (.int v0)]))
    by_cases hc54 : v0 < (216 : Int32)
    · have hv := (if_pos hc54).symm.trans hv
      refine Runs.go (fun _ => XS.icmpYes X.here hx rfl (pc0 := 54) (pc' := 64) rfl (hb hby d1_54) rfl (tlt hc54).1 (by decide) (by decide)) ?_
      show Runs p e below s _ _ _ (T.setTop (mkF m 64 #[.val (.int v0)] []))
      exact k_64 _ X eT v0 hv
    · have hv := (if_neg hc54).symm.trans hv
      refine Runs.go (fun _ => XS.icmpNo X.here hx rfl (hb hby d1_54) rfl (flt hc54).1) ?_
      show Runs p e below s _ _ _ (T.setTop (mkF m 57 #[.val (.int v0)] []))
      refine Runs.go (fun _ => XS.iloadN X.here hx rfl (hb hby d1_57) rfl) ?_
      show Runs p e below s _ _ _ (T.setTop (mkF m 58 #[.val (.int v0)] [(.int v0)]))
      refine Runs.go (fun _ => XS.sipush X.here hx rfl (hb hby d1_58)) ?_
      show Runs p e below s _ _ _ (T.setTop (mkF m 61 #[.val (.int v0)] [(.int (246 : Int32)), (.int v0)]))
      by_cases hc61 : (246 : Int32) < v0
      · have hv := (if_pos hc61).symm.trans hv
        refine Runs.go (fun _ => XS.icmpNo X.here hx rfl (hb hby d1_61) rfl (tlt hc61).2.2.2) ?_
        show Runs p e below s _ _ _ (T.setTop (mkF m 64 #[.val (.int v0)] []))
        exact k_64 _ X eT v0 hv
      · have hv := (if_neg hc61).symm.trans hv
        refine Runs.go (fun _ => XS.icmpYes X.here hx rfl (pc0 := 61) (pc' := 197) rfl (hb hby d1_61) rfl (flt hc61).2.2.2 (by decide) (by decide)) ?_
        show Runs p e below s _ _ _ (T.setTop (mkF m 197 #[.val (.int v0)] []))
        exact k_197 _ X eT v0 hv
  have k_24 : ∀ (T : State) (X : Stand p l e ({ frames := 0, cells := 0, slots := 0, locals := 0 } : Room) s m #[(.int x0)] below meth c T [] 0 0) (eT : T.heap = h0) (v0 : Int32), f1_24 v0 = r → Runs p e below s (QP (.int r) h0) ({ frames := 0, cells := 0, slots := 0, locals := 0 } : Room).cells ({ frames := 0, cells := 0, slots := 0, locals := 0 } : Room).slots (T.setTop (mkF m 24 #[.val (.int v0)] [])) := by
    intro T X eT v0 hv
    unfold f1_24 at hv
    refine Runs.go (fun _ => XS.iloadN X.here hx rfl (hb hby d1_24) rfl) ?_
    show Runs p e below s _ _ _ (T.setTop (mkF m 25 #[.val (.int v0)] [(.int v0)]))
    refine Runs.go (fun _ => XS.bipush X.here hx rfl (hb hby d1_25)) ?_
    show Runs p e below s _ _ _ (T.setTop (mkF m 27 #[.val (.int v0)] [(.int (58 : Int32)), (.int v0)]))
    by_cases hc27 : v0 = (58 : Int32)
    · have hv := (if_pos hc27).symm.trans hv
      refine Runs.go (fun _ => XS.icmpYes X.here hx rfl (pc0 := 27) (pc' := 197) rfl (hb hby d1_27) rfl (teq hc27).1 (by decide) (by decide)) ?_
      show Runs p e below s _ _ _ (T.setTop (mkF m 197 #[.val (.int v0)] []))
      exact k_197 _ X eT v0 hv
    · have hv := (if_neg hc27).symm.trans hv
      refine Runs.go (fun _ => XS.icmpNo X.here hx rfl (hb hby d1_27) rfl (feq hc27).1) ?_
      show Runs p e below s _ _ _ (T.setTop (mkF m 30 #[.val (.int v0)] []))
      refine Runs.go (fun _ => XS.iloadN X.here hx rfl (hb hby d1_30) rfl) ?_
      show Runs p e below s _ _ _ (T.setTop (mkF m 31 #[.val (.int v0)] [(.int v0)]))
      refine Runs.go (fun _ => XS.bipush X.here hx rfl (hb hby d1_31)) ?_
      show Runs p e below s _ _ _ (T.setTop (mkF m 33 #[.val (.int v0)] [(.int (95 : Int32)), (.int v0)]))
      by_cases hc33 : v0 = (95 : Int32)
      · have hv := (if_pos hc33).symm.trans hv
        refine Runs.go (fun _ => XS.icmpYes X.here hx rfl (pc0 := 33) (pc' := 197) rfl (hb hby d1_33) rfl (teq hc33).1 (by decide) (by decide)) ?_
        show Runs p e below s _ _ _ (T.setTop (mkF m 197 #[.val (.int v0)] []))
        exact k_197 _ X eT v0 hv
      · have hv := (if_neg hc33).symm.trans hv
        refine Runs.go (fun _ => XS.icmpNo X.here hx rfl (hb hby d1_33) rfl (feq hc33).1) ?_
        show Runs p e below s _ _ _ (T.setTop (mkF m 36 #[.val (.int v0)] []))
        refine Runs.go (fun _ => XS.iloadN X.here hx rfl (hb hby d1_36) rfl) ?_
        show Runs p e below s _ _ _ (T.setTop (mkF m 37 #[.val (.int v0)] [(.int v0)]))
        refine Runs.go (fun _ => XS.sipush X.here hx rfl (hb hby d1_37)) ?_
        show Runs p e below s _ _ _ (T.setTop (mkF m 40 #[.val (.int v0)] [(.int (192 : Int32)), (.int v0)]))
        by_cases hc40 : v0 < (192 : Int32)
        · have hv := (if_pos hc40).symm.trans hv
          refine Runs.go (fun _ => XS.icmpYes X.here hx rfl (pc0 := 40) (pc' := 50) rfl (hb hby d1_40) rfl (tlt hc40).1 (by decide) (by decide)) ?_
          show Runs p e below s _ _ _ (T.setTop (mkF m 50 #[.val (.int v0)] []))
          exact k_50 _ X eT v0 hv
        · have hv := (if_neg hc40).symm.trans hv
          refine Runs.go (fun _ => XS.icmpNo X.here hx rfl (hb hby d1_40) rfl (flt hc40).1) ?_
          show Runs p e below s _ _ _ (T.setTop (mkF m 43 #[.val (.int v0)] []))
          refine Runs.go (fun _ => XS.iloadN X.here hx rfl (hb hby d1_43) rfl) ?_
          show Runs p e below s _ _ _ (T.setTop (mkF m 44 #[.val (.int v0)] [(.int v0)]))
          refine Runs.go (fun _ => XS.sipush X.here hx rfl (hb hby d1_44)) ?_
          show Runs p e below s _ _ _ (T.setTop (mkF m 47 #[.val (.int v0)] [(.int (214 : Int32)), (.int v0)]))
          by_cases hc47 : (214 : Int32) < v0
          · have hv := (if_pos hc47).symm.trans hv
            refine Runs.go (fun _ => XS.icmpNo X.here hx rfl (hb hby d1_47) rfl (tlt hc47).2.2.2) ?_
            show Runs p e below s _ _ _ (T.setTop (mkF m 50 #[.val (.int v0)] []))
            exact k_50 _ X eT v0 hv
          · have hv := (if_neg hc47).symm.trans hv
            refine Runs.go (fun _ => XS.icmpYes X.here hx rfl (pc0 := 47) (pc' := 197) rfl (hb hby d1_47) rfl (flt hc47).2.2.2 (by decide) (by decide)) ?_
            show Runs p e below s _ _ _ (T.setTop (mkF m 197 #[.val (.int v0)] []))
            exact k_197 _ X eT v0 hv
  have k_12 : ∀ (T : State) (X : Stand p l e ({ frames := 0, cells := 0, slots := 0, locals := 0 } : Room) s m #[(.int x0)] below meth c T [] 0 0) (eT : T.heap = h0) (v0 : Int32), f1_12 v0 = r → Runs p e below s (QP (.int r) h0) ({ frames := 0, cells := 0, slots := 0, locals := 0 } : Room).cells ({ frames := 0, cells := 0, slots := 0, locals := 0 } : Room).slots (T.setTop (mkF m 12 #[.val (.int v0)] [])) := by
    intro T X eT v0 hv
    unfold f1_12 at hv
    refine Runs.go (fun _ => XS.iloadN X.here hx rfl (hb hby d1_12) rfl) ?_
    show Runs p e below s _ _ _ (T.setTop (mkF m 13 #[.val (.int v0)] [(.int v0)]))
    refine Runs.go (fun _ => XS.bipush X.here hx rfl (hb hby d1_13)) ?_
    show Runs p e below s _ _ _ (T.setTop (mkF m 15 #[.val (.int v0)] [(.int (65 : Int32)), (.int v0)]))
    by_cases hc15 : v0 < (65 : Int32)
    · have hv := (if_pos hc15).symm.trans hv
      refine Runs.go (fun _ => XS.icmpYes X.here hx rfl (pc0 := 15) (pc' := 24) rfl (hb hby d1_15) rfl (tlt hc15).1 (by decide) (by decide)) ?_
      show Runs p e below s _ _ _ (T.setTop (mkF m 24 #[.val (.int v0)] []))
      exact k_24 _ X eT v0 hv
    · have hv := (if_neg hc15).symm.trans hv
      refine Runs.go (fun _ => XS.icmpNo X.here hx rfl (hb hby d1_15) rfl (flt hc15).1) ?_
      show Runs p e below s _ _ _ (T.setTop (mkF m 18 #[.val (.int v0)] []))
      refine Runs.go (fun _ => XS.iloadN X.here hx rfl (hb hby d1_18) rfl) ?_
      show Runs p e below s _ _ _ (T.setTop (mkF m 19 #[.val (.int v0)] [(.int v0)]))
      refine Runs.go (fun _ => XS.bipush X.here hx rfl (hb hby d1_19)) ?_
      show Runs p e below s _ _ _ (T.setTop (mkF m 21 #[.val (.int v0)] [(.int (90 : Int32)), (.int v0)]))
      by_cases hc21 : (90 : Int32) < v0
      · have hv := (if_pos hc21).symm.trans hv
        refine Runs.go (fun _ => XS.icmpNo X.here hx rfl (hb hby d1_21) rfl (tlt hc21).2.2.2) ?_
        show Runs p e below s _ _ _ (T.setTop (mkF m 24 #[.val (.int v0)] []))
        exact k_24 _ X eT v0 hv
      · have hv := (if_neg hc21).symm.trans hv
        refine Runs.go (fun _ => XS.icmpYes X.here hx rfl (pc0 := 21) (pc' := 197) rfl (hb hby d1_21) rfl (flt hc21).2.2.2 (by decide) (by decide)) ?_
        show Runs p e below s _ _ _ (T.setTop (mkF m 197 #[.val (.int v0)] []))
        exact k_197 _ X eT v0 hv
  have k_0 : ∀ (T : State) (X : Stand p l e ({ frames := 0, cells := 0, slots := 0, locals := 0 } : Room) s m #[(.int x0)] below meth c T [] 0 0) (eT : T.heap = h0), f1_0 x0 = r → Runs p e below s (QP (.int r) h0) ({ frames := 0, cells := 0, slots := 0, locals := 0 } : Room).cells ({ frames := 0, cells := 0, slots := 0, locals := 0 } : Room).slots (T.setTop (mkF m 0 #[.val (.int x0)] [])) := by
    intro T X eT  hv
    unfold f1_0 at hv
    refine Runs.go (fun _ => XS.iloadN X.here hx rfl (hb hby d1_0) rfl) ?_
    show Runs p e below s _ _ _ (T.setTop (mkF m 1 #[.val (.int x0)] [(.int x0)]))
    refine Runs.go (fun _ => XS.bipush X.here hx rfl (hb hby d1_1)) ?_
    show Runs p e below s _ _ _ (T.setTop (mkF m 3 #[.val (.int x0)] [(.int (97 : Int32)), (.int x0)]))
    by_cases hc3 : x0 < (97 : Int32)
    · have hv := (if_pos hc3).symm.trans hv
      refine Runs.go (fun _ => XS.icmpYes X.here hx rfl (pc0 := 3) (pc' := 12) rfl (hb hby d1_3) rfl (tlt hc3).1 (by decide) (by decide)) ?_
      show Runs p e below s _ _ _ (T.setTop (mkF m 12 #[.val (.int x0)] []))
      exact k_12 _ X eT x0 hv
    · have hv := (if_neg hc3).symm.trans hv
      refine Runs.go (fun _ => XS.icmpNo X.here hx rfl (hb hby d1_3) rfl (flt hc3).1) ?_
      show Runs p e below s _ _ _ (T.setTop (mkF m 6 #[.val (.int x0)] []))
      refine Runs.go (fun _ => XS.iloadN X.here hx rfl (hb hby d1_6) rfl) ?_
      show Runs p e below s _ _ _ (T.setTop (mkF m 7 #[.val (.int x0)] [(.int x0)]))
      refine Runs.go (fun _ => XS.bipush X.here hx rfl (hb hby d1_7)) ?_
      show Runs p e below s _ _ _ (T.setTop (mkF m 9 #[.val (.int x0)] [(.int (122 : Int32)), (.int x0)]))
      by_cases hc9 : (122 : Int32) < x0
      · have hv := (if_pos hc9).symm.trans hv
        refine Runs.go (fun _ => XS.icmpNo X.here hx rfl (hb hby d1_9) rfl (tlt hc9).2.2.2) ?_
        show Runs p e below s _ _ _ (T.setTop (mkF m 12 #[.val (.int x0)] []))
        exact k_12 _ X eT x0 hv
      · have hv := (if_neg hc9).symm.trans hv
        refine Runs.go (fun _ => XS.icmpYes X.here hx rfl (pc0 := 9) (pc' := 197) rfl (hb hby d1_9) rfl (flt hc9).2.2.2 (by decide) (by decide)) ?_
        show Runs p e below s _ _ _ (T.setTop (mkF m 197 #[.val (.int x0)] []))
        exact k_197 _ X eT x0 hv
  exact k_0 _ X0 e0 hF
theorem d2_0 : decode method_2_code 0 = .ok (.iload_n 0, 1) := by decide +kernel
theorem d2_1 : decode method_2_code 1 = .ok (.bipush 58, 2) := by decide +kernel
theorem d2_3 : decode method_2_code 3 = .ok (.if_icmp .lt 179, 3) := by decide +kernel
theorem d2_6 : decode method_2_code 6 = .ok (.iload_n 0, 1) := by decide +kernel
theorem d2_7 : decode method_2_code 7 = .ok (.bipush 59, 2) := by decide +kernel
theorem d2_9 : decode method_2_code 9 = .ok (.if_icmp .lt 9, 3) := by decide +kernel
theorem d2_12 : decode method_2_code 12 = .ok (.iload_n 0, 1) := by decide +kernel
theorem d2_13 : decode method_2_code 13 = .ok (.bipush 64, 2) := by decide +kernel
theorem d2_15 : decode method_2_code 15 = .ok (.if_icmp .le 167, 3) := by decide +kernel
theorem d2_18 : decode method_2_code 18 = .ok (.iload_n 0, 1) := by decide +kernel
theorem d2_19 : decode method_2_code 19 = .ok (.bipush 91, 2) := by decide +kernel
theorem d2_21 : decode method_2_code 21 = .ok (.if_icmp .lt 9, 3) := by decide +kernel
theorem d2_24 : decode method_2_code 24 = .ok (.iload_n 0, 1) := by decide +kernel
theorem d2_25 : decode method_2_code 25 = .ok (.bipush 94, 2) := by decide +kernel
theorem d2_27 : decode method_2_code 27 = .ok (.if_icmp .le 155, 3) := by decide +kernel
theorem d2_30 : decode method_2_code 30 = .ok (.iload_n 0, 1) := by decide +kernel
theorem d2_31 : decode method_2_code 31 = .ok (.bipush 96, 2) := by decide +kernel
theorem d2_33 : decode method_2_code 33 = .ok (.if_icmp .eq 149, 3) := by decide +kernel
theorem d2_36 : decode method_2_code 36 = .ok (.iload_n 0, 1) := by decide +kernel
theorem d2_37 : decode method_2_code 37 = .ok (.bipush 123, 2) := by decide +kernel
theorem d2_39 : decode method_2_code 39 = .ok (.if_icmp .lt 10, 3) := by decide +kernel
theorem d2_42 : decode method_2_code 42 = .ok (.iload_n 0, 1) := by decide +kernel
theorem d2_43 : decode method_2_code 43 = .ok (.sipush 191, 3) := by decide +kernel
theorem d2_46 : decode method_2_code 46 = .ok (.if_icmp .le 136, 3) := by decide +kernel
theorem d2_49 : decode method_2_code 49 = .ok (.iload_n 0, 1) := by decide +kernel
theorem d2_50 : decode method_2_code 50 = .ok (.sipush 215, 3) := by decide +kernel
theorem d2_53 : decode method_2_code 53 = .ok (.if_icmp .eq 129, 3) := by decide +kernel
theorem d2_56 : decode method_2_code 56 = .ok (.iload_n 0, 1) := by decide +kernel
theorem d2_57 : decode method_2_code 57 = .ok (.sipush 247, 3) := by decide +kernel
theorem d2_60 : decode method_2_code 60 = .ok (.if_icmp .eq 122, 3) := by decide +kernel
theorem d2_63 : decode method_2_code 63 = .ok (.iload_n 0, 1) := by decide +kernel
theorem d2_64 : decode method_2_code 64 = .ok (.sipush 768, 3) := by decide +kernel
theorem d2_67 : decode method_2_code 67 = .ok (.if_icmp .lt 10, 3) := by decide +kernel
theorem d2_70 : decode method_2_code 70 = .ok (.iload_n 0, 1) := by decide +kernel
theorem d2_71 : decode method_2_code 71 = .ok (.sipush 879, 3) := by decide +kernel
theorem d2_74 : decode method_2_code 74 = .ok (.if_icmp .le 108, 3) := by decide +kernel
theorem d2_77 : decode method_2_code 77 = .ok (.iload_n 0, 1) := by decide +kernel
theorem d2_78 : decode method_2_code 78 = .ok (.sipush 894, 3) := by decide +kernel
theorem d2_81 : decode method_2_code 81 = .ok (.if_icmp .eq 101, 3) := by decide +kernel
theorem d2_84 : decode method_2_code 84 = .ok (.iload_n 0, 1) := by decide +kernel
theorem d2_85 : decode method_2_code 85 = .ok (.sipush 8192, 3) := by decide +kernel
theorem d2_88 : decode method_2_code 88 = .ok (.if_icmp .lt 10, 3) := by decide +kernel
theorem d2_91 : decode method_2_code 91 = .ok (.iload_n 0, 1) := by decide +kernel
theorem d2_92 : decode method_2_code 92 = .ok (.sipush 8203, 3) := by decide +kernel
theorem d2_95 : decode method_2_code 95 = .ok (.if_icmp .le 87, 3) := by decide +kernel
theorem d2_98 : decode method_2_code 98 = .ok (.iload_n 0, 1) := by decide +kernel
theorem d2_99 : decode method_2_code 99 = .ok (.sipush 8206, 3) := by decide +kernel
theorem d2_102 : decode method_2_code 102 = .ok (.if_icmp .lt 10, 3) := by decide +kernel
theorem d2_105 : decode method_2_code 105 = .ok (.iload_n 0, 1) := by decide +kernel
theorem d2_106 : decode method_2_code 106 = .ok (.sipush 8303, 3) := by decide +kernel
theorem d2_109 : decode method_2_code 109 = .ok (.if_icmp .le 73, 3) := by decide +kernel
theorem d2_112 : decode method_2_code 112 = .ok (.iload_n 0, 1) := by decide +kernel
theorem d2_113 : decode method_2_code 113 = .ok (.sipush 8592, 3) := by decide +kernel
theorem d2_116 : decode method_2_code 116 = .ok (.if_icmp .lt 10, 3) := by decide +kernel
theorem d2_119 : decode method_2_code 119 = .ok (.iload_n 0, 1) := by decide +kernel
theorem d2_120 : decode method_2_code 120 = .ok (.sipush 11263, 3) := by decide +kernel
theorem d2_123 : decode method_2_code 123 = .ok (.if_icmp .le 59, 3) := by decide +kernel
theorem d2_126 : decode method_2_code 126 = .ok (.iload_n 0, 1) := by decide +kernel
theorem d2_127 : decode method_2_code 127 = .ok (.sipush 12272, 3) := by decide +kernel
theorem d2_130 : decode method_2_code 130 = .ok (.if_icmp .lt 10, 3) := by decide +kernel
theorem d2_133 : decode method_2_code 133 = .ok (.iload_n 0, 1) := by decide +kernel
theorem d2_134 : decode method_2_code 134 = .ok (.sipush 12288, 3) := by decide +kernel
theorem d2_137 : decode method_2_code 137 = .ok (.if_icmp .le 45, 3) := by decide +kernel
theorem d2_140 : decode method_2_code 140 = .ok (.iload_n 0, 1) := by decide +kernel
theorem d2_141 : decode method_2_code 141 = .ok (.ldc 7, 2) := by decide +kernel
theorem d2_143 : decode method_2_code 143 = .ok (.if_icmp .lt 9, 3) := by decide +kernel
theorem d2_146 : decode method_2_code 146 = .ok (.iload_n 0, 1) := by decide +kernel
theorem d2_147 : decode method_2_code 147 = .ok (.ldc 8, 2) := by decide +kernel
theorem d2_149 : decode method_2_code 149 = .ok (.if_icmp .le 33, 3) := by decide +kernel
theorem d2_152 : decode method_2_code 152 = .ok (.iload_n 0, 1) := by decide +kernel
theorem d2_153 : decode method_2_code 153 = .ok (.ldc 9, 2) := by decide +kernel
theorem d2_155 : decode method_2_code 155 = .ok (.if_icmp .lt 9, 3) := by decide +kernel
theorem d2_158 : decode method_2_code 158 = .ok (.iload_n 0, 1) := by decide +kernel
theorem d2_159 : decode method_2_code 159 = .ok (.ldc 10, 2) := by decide +kernel
theorem d2_161 : decode method_2_code 161 = .ok (.if_icmp .le 21, 3) := by decide +kernel
theorem d2_164 : decode method_2_code 164 = .ok (.iload_n 0, 1) := by decide +kernel
theorem d2_165 : decode method_2_code 165 = .ok (.ldc 11, 2) := by decide +kernel
theorem d2_167 : decode method_2_code 167 = .ok (.if_icmp .lt 9, 3) := by decide +kernel
theorem d2_170 : decode method_2_code 170 = .ok (.iload_n 0, 1) := by decide +kernel
theorem d2_171 : decode method_2_code 171 = .ok (.ldc 12, 2) := by decide +kernel
theorem d2_173 : decode method_2_code 173 = .ok (.if_icmp .le 9, 3) := by decide +kernel
theorem d2_176 : decode method_2_code 176 = .ok (.iload_n 0, 1) := by decide +kernel
theorem d2_177 : decode method_2_code 177 = .ok (.ldc 13, 2) := by decide +kernel
theorem d2_179 : decode method_2_code 179 = .ok (.if_icmp .lt 7, 3) := by decide +kernel
theorem d2_182 : decode method_2_code 182 = .ok (.iconst 1, 1) := by decide +kernel
theorem d2_183 : decode method_2_code 183 = .ok (.goto 4, 3) := by decide +kernel
theorem d2_186 : decode method_2_code 186 = .ok (.iconst 0, 1) := by decide +kernel
theorem d2_187 : decode method_2_code 187 = .ok (.ireturn, 1) := by decide +kernel
theorem pn_2 : plainName "com/example/interlinear/interlinear/xml/XmlTextIsNameStartPinLaw" = true := by first | (simp [plainName, overriddenIn]; done) | decide +kernel
theorem ef_2 (m : MethodId) (x0 : Int32) : entryFrame m #[(.int x0)] 1 = mkF m 0 #[.val (.int x0)] [] := by first | (simp [entryFrame, mkF, argsToLocals, Value.category]; done) | rfl
set_option maxRecDepth 65536 in
set_option maxHeartbeats 40000000 in
theorem rm2 (l : Launch) (Z : State) (a0 : Array Value) (hw : ∀ d ∈ tables_1, d.before a0 Z = true) (ws : List Jvm.Cond) (x0 : Int32) (h0 : Heap) :
    MetFree l (⟨"com/example/interlinear/interlinear/xml/XmlTextIsNameStartPinLaw", "excluded", "(I)Z"⟩ : MethodName) (head1 (Jvm.Cond.code (⟨"com/example/interlinear/interlinear/xml/XmlTextIsNameStartPinLaw", "excluded", "(I)Z"⟩ : MethodName) method_2_code 1 (some .boolean) :: ws) ({ frames := 0, cells := 0, slots := 0, locals := 0 } : Room)) (fun a U => a = #[(.int x0)] ∧ Z.Warmed39 U.vm ∧ U.heap = h0) (fun _ _ _ _ _ => True) (fun _ U o U' => ∃ v L, o = .returned v ∧ QP (.int (F2 x0)) h0 v U'.heap L ∧ FrameEnd U o U' L ({ frames := 0, cells := 0, slots := 0, locals := 0 } : Room).cells ({ frames := 0, cells := 0, slots := 0, locals := 0 } : Room).slots) := by
  refine MetFree.of_bodySF (plainFor_of_name pn_2) hisR ?_
  intro p e s m args below meth c s₁ Bd hml0 hP hK
  obtain ⟨rfl, hZ, hh⟩ := hP
  have hx := Bd.exec
  have hby := Bd.bytes
  have hml : c.maxLocals = 1 := hml0
  have hown : s.vm.findClass "com/example/interlinear/interlinear/xml/XmlTextIsNameStartPinLaw" = some m.cls := findClass_of_methodNamed Bd.named
  have X0 : Stand p l e ({ frames := 0, cells := 0, slots := 0, locals := 0 } : Room) s m #[(.int x0)] below meth c s₁ [] 0 0 := Stand.of_body Bd
  have e0 : s₁.heap = h0 := by rw [← hh, Bd.state]; rfl
  show Runs p e below s (QP (.int (F2 x0)) h0) ({ frames := 0, cells := 0, slots := 0, locals := 0 } : Room).cells ({ frames := 0, cells := 0, slots := 0, locals := 0 } : Room).slots (s₁.setTop (entryFrame m #[(.int x0)] 1))
  rw [ef_2 m x0]
  obtain ⟨r, hF⟩ : ∃ r, F2 x0 = r := ⟨_, rfl⟩
  rw [hF]
  have k_182 : ∀ (T : State) (X : Stand p l e ({ frames := 0, cells := 0, slots := 0, locals := 0 } : Room) s m #[(.int x0)] below meth c T [] 0 0) (eT : T.heap = h0) (v0 : Int32), f2_182 = r → Runs p e below s (QP (.int r) h0) ({ frames := 0, cells := 0, slots := 0, locals := 0 } : Room).cells ({ frames := 0, cells := 0, slots := 0, locals := 0 } : Room).slots (T.setTop (mkF m 182 #[.val (.int v0)] [])) := by
    intro T X eT v0 hv
    unfold f2_182 at hv
    refine Runs.go (fun _ => XS.iconst X.here hx rfl (hb hby d2_182)) ?_
    show Runs p e below s _ _ _ (T.setTop (mkF m 183 #[.val (.int v0)] [(.int (1 : Int32))]))
    refine Runs.go (fun _ => XS.goto X.here hx rfl (pc0 := 183) (pc' := 187) rfl (hb hby d2_183) (by decide) (by decide)) ?_
    show Runs p e below s _ _ _ (T.setTop (mkF m 187 #[.val (.int v0)] [(.int (1 : Int32))]))
    exact Runs.endN X hx (t := .boolean) Bd.returns (by simp) Bd.notSynchronized (hb hby d2_187) ⟨congrArg (fun z => some (Value.int z)) hv, rfl, eT⟩ (by decide) (by decide)
  have k_176 : ∀ (T : State) (X : Stand p l e ({ frames := 0, cells := 0, slots := 0, locals := 0 } : Room) s m #[(.int x0)] below meth c T [] 0 0) (eT : T.heap = h0) (v0 : Int32), f2_176 v0 = r → Runs p e below s (QP (.int r) h0) ({ frames := 0, cells := 0, slots := 0, locals := 0 } : Room).cells ({ frames := 0, cells := 0, slots := 0, locals := 0 } : Room).slots (T.setTop (mkF m 176 #[.val (.int v0)] [])) := by
    intro T X eT v0 hv
    unfold f2_176 at hv
    refine Runs.go (fun _ => XS.iloadN X.here hx rfl (hb hby d2_176) rfl) ?_
    show Runs p e below s _ _ _ (T.setTop (mkF m 177 #[.val (.int v0)] [(.int v0)]))
    refine Runs.go (X.ldcInt hx hown (mvT hZ (hw _ (List.mem_of_getElem? (i := 31) rfl))) (g := (mkF m 177 #[.val (.int v0)] [(.int v0)])) rfl (hb hby d2_177)) ?_
    show Runs p e below s _ _ _ (T.setTop (mkF m 179 #[.val (.int v0)] [(.int (983040 : Int32)), (.int v0)]))
    by_cases hc179 : v0 < (983040 : Int32)
    · have hv := (if_pos hc179).symm.trans hv
      refine Runs.go (fun _ => XS.icmpYes X.here hx rfl (pc0 := 179) (pc' := 186) rfl (hb hby d2_179) rfl (tlt hc179).1 (by decide) (by decide)) ?_
      show Runs p e below s _ _ _ (T.setTop (mkF m 186 #[.val (.int v0)] []))
      refine Runs.go (fun _ => XS.iconst X.here hx rfl (hb hby d2_186)) ?_
      show Runs p e below s _ _ _ (T.setTop (mkF m 187 #[.val (.int v0)] [(.int (0 : Int32))]))
      exact Runs.endN X hx (t := .boolean) Bd.returns (by simp) Bd.notSynchronized (hb hby d2_187) ⟨congrArg (fun z => some (Value.int z)) hv, rfl, eT⟩ (by decide) (by decide)
    · have hv := (if_neg hc179).symm.trans hv
      refine Runs.go (fun _ => XS.icmpNo X.here hx rfl (hb hby d2_179) rfl (flt hc179).1) ?_
      show Runs p e below s _ _ _ (T.setTop (mkF m 182 #[.val (.int v0)] []))
      exact k_182 _ X eT v0 hv
  have k_164 : ∀ (T : State) (X : Stand p l e ({ frames := 0, cells := 0, slots := 0, locals := 0 } : Room) s m #[(.int x0)] below meth c T [] 0 0) (eT : T.heap = h0) (v0 : Int32), f2_164 v0 = r → Runs p e below s (QP (.int r) h0) ({ frames := 0, cells := 0, slots := 0, locals := 0 } : Room).cells ({ frames := 0, cells := 0, slots := 0, locals := 0 } : Room).slots (T.setTop (mkF m 164 #[.val (.int v0)] [])) := by
    intro T X eT v0 hv
    unfold f2_164 at hv
    refine Runs.go (fun _ => XS.iloadN X.here hx rfl (hb hby d2_164) rfl) ?_
    show Runs p e below s _ _ _ (T.setTop (mkF m 165 #[.val (.int v0)] [(.int v0)]))
    refine Runs.go (X.ldcInt hx hown (mvT hZ (hw _ (List.mem_of_getElem? (i := 29) rfl))) (g := (mkF m 165 #[.val (.int v0)] [(.int v0)])) rfl (hb hby d2_165)) ?_
    show Runs p e below s _ _ _ (T.setTop (mkF m 167 #[.val (.int v0)] [(.int (65534 : Int32)), (.int v0)]))
    by_cases hc167 : v0 < (65534 : Int32)
    · have hv := (if_pos hc167).symm.trans hv
      refine Runs.go (fun _ => XS.icmpYes X.here hx rfl (pc0 := 167) (pc' := 176) rfl (hb hby d2_167) rfl (tlt hc167).1 (by decide) (by decide)) ?_
      show Runs p e below s _ _ _ (T.setTop (mkF m 176 #[.val (.int v0)] []))
      exact k_176 _ X eT v0 hv
    · have hv := (if_neg hc167).symm.trans hv
      refine Runs.go (fun _ => XS.icmpNo X.here hx rfl (hb hby d2_167) rfl (flt hc167).1) ?_
      show Runs p e below s _ _ _ (T.setTop (mkF m 170 #[.val (.int v0)] []))
      refine Runs.go (fun _ => XS.iloadN X.here hx rfl (hb hby d2_170) rfl) ?_
      show Runs p e below s _ _ _ (T.setTop (mkF m 171 #[.val (.int v0)] [(.int v0)]))
      refine Runs.go (X.ldcInt hx hown (mvT hZ (hw _ (List.mem_of_getElem? (i := 30) rfl))) (g := (mkF m 171 #[.val (.int v0)] [(.int v0)])) rfl (hb hby d2_171)) ?_
      show Runs p e below s _ _ _ (T.setTop (mkF m 173 #[.val (.int v0)] [(.int (65535 : Int32)), (.int v0)]))
      by_cases hc173 : (65535 : Int32) < v0
      · have hv := (if_pos hc173).symm.trans hv
        refine Runs.go (fun _ => XS.icmpNo X.here hx rfl (hb hby d2_173) rfl (tlt hc173).2.2.2) ?_
        show Runs p e below s _ _ _ (T.setTop (mkF m 176 #[.val (.int v0)] []))
        exact k_176 _ X eT v0 hv
      · have hv := (if_neg hc173).symm.trans hv
        refine Runs.go (fun _ => XS.icmpYes X.here hx rfl (pc0 := 173) (pc' := 182) rfl (hb hby d2_173) rfl (flt hc173).2.2.2 (by decide) (by decide)) ?_
        show Runs p e below s _ _ _ (T.setTop (mkF m 182 #[.val (.int v0)] []))
        exact k_182 _ X eT v0 hv
  have k_152 : ∀ (T : State) (X : Stand p l e ({ frames := 0, cells := 0, slots := 0, locals := 0 } : Room) s m #[(.int x0)] below meth c T [] 0 0) (eT : T.heap = h0) (v0 : Int32), f2_152 v0 = r → Runs p e below s (QP (.int r) h0) ({ frames := 0, cells := 0, slots := 0, locals := 0 } : Room).cells ({ frames := 0, cells := 0, slots := 0, locals := 0 } : Room).slots (T.setTop (mkF m 152 #[.val (.int v0)] [])) := by
    intro T X eT v0 hv
    unfold f2_152 at hv
    refine Runs.go (fun _ => XS.iloadN X.here hx rfl (hb hby d2_152) rfl) ?_
    show Runs p e below s _ _ _ (T.setTop (mkF m 153 #[.val (.int v0)] [(.int v0)]))
    refine Runs.go (X.ldcInt hx hown (mvT hZ (hw _ (List.mem_of_getElem? (i := 27) rfl))) (g := (mkF m 153 #[.val (.int v0)] [(.int v0)])) rfl (hb hby d2_153)) ?_
    show Runs p e below s _ _ _ (T.setTop (mkF m 155 #[.val (.int v0)] [(.int (64976 : Int32)), (.int v0)]))
    by_cases hc155 : v0 < (64976 : Int32)
    · have hv := (if_pos hc155).symm.trans hv
      refine Runs.go (fun _ => XS.icmpYes X.here hx rfl (pc0 := 155) (pc' := 164) rfl (hb hby d2_155) rfl (tlt hc155).1 (by decide) (by decide)) ?_
      show Runs p e below s _ _ _ (T.setTop (mkF m 164 #[.val (.int v0)] []))
      exact k_164 _ X eT v0 hv
    · have hv := (if_neg hc155).symm.trans hv
      refine Runs.go (fun _ => XS.icmpNo X.here hx rfl (hb hby d2_155) rfl (flt hc155).1) ?_
      show Runs p e below s _ _ _ (T.setTop (mkF m 158 #[.val (.int v0)] []))
      refine Runs.go (fun _ => XS.iloadN X.here hx rfl (hb hby d2_158) rfl) ?_
      show Runs p e below s _ _ _ (T.setTop (mkF m 159 #[.val (.int v0)] [(.int v0)]))
      refine Runs.go (X.ldcInt hx hown (mvT hZ (hw _ (List.mem_of_getElem? (i := 28) rfl))) (g := (mkF m 159 #[.val (.int v0)] [(.int v0)])) rfl (hb hby d2_159)) ?_
      show Runs p e below s _ _ _ (T.setTop (mkF m 161 #[.val (.int v0)] [(.int (65007 : Int32)), (.int v0)]))
      by_cases hc161 : (65007 : Int32) < v0
      · have hv := (if_pos hc161).symm.trans hv
        refine Runs.go (fun _ => XS.icmpNo X.here hx rfl (hb hby d2_161) rfl (tlt hc161).2.2.2) ?_
        show Runs p e below s _ _ _ (T.setTop (mkF m 164 #[.val (.int v0)] []))
        exact k_164 _ X eT v0 hv
      · have hv := (if_neg hc161).symm.trans hv
        refine Runs.go (fun _ => XS.icmpYes X.here hx rfl (pc0 := 161) (pc' := 182) rfl (hb hby d2_161) rfl (flt hc161).2.2.2 (by decide) (by decide)) ?_
        show Runs p e below s _ _ _ (T.setTop (mkF m 182 #[.val (.int v0)] []))
        exact k_182 _ X eT v0 hv
  have k_140 : ∀ (T : State) (X : Stand p l e ({ frames := 0, cells := 0, slots := 0, locals := 0 } : Room) s m #[(.int x0)] below meth c T [] 0 0) (eT : T.heap = h0) (v0 : Int32), f2_140 v0 = r → Runs p e below s (QP (.int r) h0) ({ frames := 0, cells := 0, slots := 0, locals := 0 } : Room).cells ({ frames := 0, cells := 0, slots := 0, locals := 0 } : Room).slots (T.setTop (mkF m 140 #[.val (.int v0)] [])) := by
    intro T X eT v0 hv
    unfold f2_140 at hv
    refine Runs.go (fun _ => XS.iloadN X.here hx rfl (hb hby d2_140) rfl) ?_
    show Runs p e below s _ _ _ (T.setTop (mkF m 141 #[.val (.int v0)] [(.int v0)]))
    refine Runs.go (X.ldcInt hx hown (mvT hZ (hw _ (List.mem_of_getElem? (i := 25) rfl))) (g := (mkF m 141 #[.val (.int v0)] [(.int v0)])) rfl (hb hby d2_141)) ?_
    show Runs p e below s _ _ _ (T.setTop (mkF m 143 #[.val (.int v0)] [(.int (55296 : Int32)), (.int v0)]))
    by_cases hc143 : v0 < (55296 : Int32)
    · have hv := (if_pos hc143).symm.trans hv
      refine Runs.go (fun _ => XS.icmpYes X.here hx rfl (pc0 := 143) (pc' := 152) rfl (hb hby d2_143) rfl (tlt hc143).1 (by decide) (by decide)) ?_
      show Runs p e below s _ _ _ (T.setTop (mkF m 152 #[.val (.int v0)] []))
      exact k_152 _ X eT v0 hv
    · have hv := (if_neg hc143).symm.trans hv
      refine Runs.go (fun _ => XS.icmpNo X.here hx rfl (hb hby d2_143) rfl (flt hc143).1) ?_
      show Runs p e below s _ _ _ (T.setTop (mkF m 146 #[.val (.int v0)] []))
      refine Runs.go (fun _ => XS.iloadN X.here hx rfl (hb hby d2_146) rfl) ?_
      show Runs p e below s _ _ _ (T.setTop (mkF m 147 #[.val (.int v0)] [(.int v0)]))
      refine Runs.go (X.ldcInt hx hown (mvT hZ (hw _ (List.mem_of_getElem? (i := 26) rfl))) (g := (mkF m 147 #[.val (.int v0)] [(.int v0)])) rfl (hb hby d2_147)) ?_
      show Runs p e below s _ _ _ (T.setTop (mkF m 149 #[.val (.int v0)] [(.int (63743 : Int32)), (.int v0)]))
      by_cases hc149 : (63743 : Int32) < v0
      · have hv := (if_pos hc149).symm.trans hv
        refine Runs.go (fun _ => XS.icmpNo X.here hx rfl (hb hby d2_149) rfl (tlt hc149).2.2.2) ?_
        show Runs p e below s _ _ _ (T.setTop (mkF m 152 #[.val (.int v0)] []))
        exact k_152 _ X eT v0 hv
      · have hv := (if_neg hc149).symm.trans hv
        refine Runs.go (fun _ => XS.icmpYes X.here hx rfl (pc0 := 149) (pc' := 182) rfl (hb hby d2_149) rfl (flt hc149).2.2.2 (by decide) (by decide)) ?_
        show Runs p e below s _ _ _ (T.setTop (mkF m 182 #[.val (.int v0)] []))
        exact k_182 _ X eT v0 hv
  have k_126 : ∀ (T : State) (X : Stand p l e ({ frames := 0, cells := 0, slots := 0, locals := 0 } : Room) s m #[(.int x0)] below meth c T [] 0 0) (eT : T.heap = h0) (v0 : Int32), f2_126 v0 = r → Runs p e below s (QP (.int r) h0) ({ frames := 0, cells := 0, slots := 0, locals := 0 } : Room).cells ({ frames := 0, cells := 0, slots := 0, locals := 0 } : Room).slots (T.setTop (mkF m 126 #[.val (.int v0)] [])) := by
    intro T X eT v0 hv
    unfold f2_126 at hv
    refine Runs.go (fun _ => XS.iloadN X.here hx rfl (hb hby d2_126) rfl) ?_
    show Runs p e below s _ _ _ (T.setTop (mkF m 127 #[.val (.int v0)] [(.int v0)]))
    refine Runs.go (fun _ => XS.sipush X.here hx rfl (hb hby d2_127)) ?_
    show Runs p e below s _ _ _ (T.setTop (mkF m 130 #[.val (.int v0)] [(.int (12272 : Int32)), (.int v0)]))
    by_cases hc130 : v0 < (12272 : Int32)
    · have hv := (if_pos hc130).symm.trans hv
      refine Runs.go (fun _ => XS.icmpYes X.here hx rfl (pc0 := 130) (pc' := 140) rfl (hb hby d2_130) rfl (tlt hc130).1 (by decide) (by decide)) ?_
      show Runs p e below s _ _ _ (T.setTop (mkF m 140 #[.val (.int v0)] []))
      exact k_140 _ X eT v0 hv
    · have hv := (if_neg hc130).symm.trans hv
      refine Runs.go (fun _ => XS.icmpNo X.here hx rfl (hb hby d2_130) rfl (flt hc130).1) ?_
      show Runs p e below s _ _ _ (T.setTop (mkF m 133 #[.val (.int v0)] []))
      refine Runs.go (fun _ => XS.iloadN X.here hx rfl (hb hby d2_133) rfl) ?_
      show Runs p e below s _ _ _ (T.setTop (mkF m 134 #[.val (.int v0)] [(.int v0)]))
      refine Runs.go (fun _ => XS.sipush X.here hx rfl (hb hby d2_134)) ?_
      show Runs p e below s _ _ _ (T.setTop (mkF m 137 #[.val (.int v0)] [(.int (12288 : Int32)), (.int v0)]))
      by_cases hc137 : (12288 : Int32) < v0
      · have hv := (if_pos hc137).symm.trans hv
        refine Runs.go (fun _ => XS.icmpNo X.here hx rfl (hb hby d2_137) rfl (tlt hc137).2.2.2) ?_
        show Runs p e below s _ _ _ (T.setTop (mkF m 140 #[.val (.int v0)] []))
        exact k_140 _ X eT v0 hv
      · have hv := (if_neg hc137).symm.trans hv
        refine Runs.go (fun _ => XS.icmpYes X.here hx rfl (pc0 := 137) (pc' := 182) rfl (hb hby d2_137) rfl (flt hc137).2.2.2 (by decide) (by decide)) ?_
        show Runs p e below s _ _ _ (T.setTop (mkF m 182 #[.val (.int v0)] []))
        exact k_182 _ X eT v0 hv
  have k_112 : ∀ (T : State) (X : Stand p l e ({ frames := 0, cells := 0, slots := 0, locals := 0 } : Room) s m #[(.int x0)] below meth c T [] 0 0) (eT : T.heap = h0) (v0 : Int32), f2_112 v0 = r → Runs p e below s (QP (.int r) h0) ({ frames := 0, cells := 0, slots := 0, locals := 0 } : Room).cells ({ frames := 0, cells := 0, slots := 0, locals := 0 } : Room).slots (T.setTop (mkF m 112 #[.val (.int v0)] [])) := by
    intro T X eT v0 hv
    unfold f2_112 at hv
    refine Runs.go (fun _ => XS.iloadN X.here hx rfl (hb hby d2_112) rfl) ?_
    show Runs p e below s _ _ _ (T.setTop (mkF m 113 #[.val (.int v0)] [(.int v0)]))
    refine Runs.go (fun _ => XS.sipush X.here hx rfl (hb hby d2_113)) ?_
    show Runs p e below s _ _ _ (T.setTop (mkF m 116 #[.val (.int v0)] [(.int (8592 : Int32)), (.int v0)]))
    by_cases hc116 : v0 < (8592 : Int32)
    · have hv := (if_pos hc116).symm.trans hv
      refine Runs.go (fun _ => XS.icmpYes X.here hx rfl (pc0 := 116) (pc' := 126) rfl (hb hby d2_116) rfl (tlt hc116).1 (by decide) (by decide)) ?_
      show Runs p e below s _ _ _ (T.setTop (mkF m 126 #[.val (.int v0)] []))
      exact k_126 _ X eT v0 hv
    · have hv := (if_neg hc116).symm.trans hv
      refine Runs.go (fun _ => XS.icmpNo X.here hx rfl (hb hby d2_116) rfl (flt hc116).1) ?_
      show Runs p e below s _ _ _ (T.setTop (mkF m 119 #[.val (.int v0)] []))
      refine Runs.go (fun _ => XS.iloadN X.here hx rfl (hb hby d2_119) rfl) ?_
      show Runs p e below s _ _ _ (T.setTop (mkF m 120 #[.val (.int v0)] [(.int v0)]))
      refine Runs.go (fun _ => XS.sipush X.here hx rfl (hb hby d2_120)) ?_
      show Runs p e below s _ _ _ (T.setTop (mkF m 123 #[.val (.int v0)] [(.int (11263 : Int32)), (.int v0)]))
      by_cases hc123 : (11263 : Int32) < v0
      · have hv := (if_pos hc123).symm.trans hv
        refine Runs.go (fun _ => XS.icmpNo X.here hx rfl (hb hby d2_123) rfl (tlt hc123).2.2.2) ?_
        show Runs p e below s _ _ _ (T.setTop (mkF m 126 #[.val (.int v0)] []))
        exact k_126 _ X eT v0 hv
      · have hv := (if_neg hc123).symm.trans hv
        refine Runs.go (fun _ => XS.icmpYes X.here hx rfl (pc0 := 123) (pc' := 182) rfl (hb hby d2_123) rfl (flt hc123).2.2.2 (by decide) (by decide)) ?_
        show Runs p e below s _ _ _ (T.setTop (mkF m 182 #[.val (.int v0)] []))
        exact k_182 _ X eT v0 hv
  have k_98 : ∀ (T : State) (X : Stand p l e ({ frames := 0, cells := 0, slots := 0, locals := 0 } : Room) s m #[(.int x0)] below meth c T [] 0 0) (eT : T.heap = h0) (v0 : Int32), f2_98 v0 = r → Runs p e below s (QP (.int r) h0) ({ frames := 0, cells := 0, slots := 0, locals := 0 } : Room).cells ({ frames := 0, cells := 0, slots := 0, locals := 0 } : Room).slots (T.setTop (mkF m 98 #[.val (.int v0)] [])) := by
    intro T X eT v0 hv
    unfold f2_98 at hv
    refine Runs.go (fun _ => XS.iloadN X.here hx rfl (hb hby d2_98) rfl) ?_
    show Runs p e below s _ _ _ (T.setTop (mkF m 99 #[.val (.int v0)] [(.int v0)]))
    refine Runs.go (fun _ => XS.sipush X.here hx rfl (hb hby d2_99)) ?_
    show Runs p e below s _ _ _ (T.setTop (mkF m 102 #[.val (.int v0)] [(.int (8206 : Int32)), (.int v0)]))
    by_cases hc102 : v0 < (8206 : Int32)
    · have hv := (if_pos hc102).symm.trans hv
      refine Runs.go (fun _ => XS.icmpYes X.here hx rfl (pc0 := 102) (pc' := 112) rfl (hb hby d2_102) rfl (tlt hc102).1 (by decide) (by decide)) ?_
      show Runs p e below s _ _ _ (T.setTop (mkF m 112 #[.val (.int v0)] []))
      exact k_112 _ X eT v0 hv
    · have hv := (if_neg hc102).symm.trans hv
      refine Runs.go (fun _ => XS.icmpNo X.here hx rfl (hb hby d2_102) rfl (flt hc102).1) ?_
      show Runs p e below s _ _ _ (T.setTop (mkF m 105 #[.val (.int v0)] []))
      refine Runs.go (fun _ => XS.iloadN X.here hx rfl (hb hby d2_105) rfl) ?_
      show Runs p e below s _ _ _ (T.setTop (mkF m 106 #[.val (.int v0)] [(.int v0)]))
      refine Runs.go (fun _ => XS.sipush X.here hx rfl (hb hby d2_106)) ?_
      show Runs p e below s _ _ _ (T.setTop (mkF m 109 #[.val (.int v0)] [(.int (8303 : Int32)), (.int v0)]))
      by_cases hc109 : (8303 : Int32) < v0
      · have hv := (if_pos hc109).symm.trans hv
        refine Runs.go (fun _ => XS.icmpNo X.here hx rfl (hb hby d2_109) rfl (tlt hc109).2.2.2) ?_
        show Runs p e below s _ _ _ (T.setTop (mkF m 112 #[.val (.int v0)] []))
        exact k_112 _ X eT v0 hv
      · have hv := (if_neg hc109).symm.trans hv
        refine Runs.go (fun _ => XS.icmpYes X.here hx rfl (pc0 := 109) (pc' := 182) rfl (hb hby d2_109) rfl (flt hc109).2.2.2 (by decide) (by decide)) ?_
        show Runs p e below s _ _ _ (T.setTop (mkF m 182 #[.val (.int v0)] []))
        exact k_182 _ X eT v0 hv
  have k_77 : ∀ (T : State) (X : Stand p l e ({ frames := 0, cells := 0, slots := 0, locals := 0 } : Room) s m #[(.int x0)] below meth c T [] 0 0) (eT : T.heap = h0) (v0 : Int32), f2_77 v0 = r → Runs p e below s (QP (.int r) h0) ({ frames := 0, cells := 0, slots := 0, locals := 0 } : Room).cells ({ frames := 0, cells := 0, slots := 0, locals := 0 } : Room).slots (T.setTop (mkF m 77 #[.val (.int v0)] [])) := by
    intro T X eT v0 hv
    unfold f2_77 at hv
    refine Runs.go (fun _ => XS.iloadN X.here hx rfl (hb hby d2_77) rfl) ?_
    show Runs p e below s _ _ _ (T.setTop (mkF m 78 #[.val (.int v0)] [(.int v0)]))
    refine Runs.go (fun _ => XS.sipush X.here hx rfl (hb hby d2_78)) ?_
    show Runs p e below s _ _ _ (T.setTop (mkF m 81 #[.val (.int v0)] [(.int (894 : Int32)), (.int v0)]))
    by_cases hc81 : v0 = (894 : Int32)
    · have hv := (if_pos hc81).symm.trans hv
      refine Runs.go (fun _ => XS.icmpYes X.here hx rfl (pc0 := 81) (pc' := 182) rfl (hb hby d2_81) rfl (teq hc81).1 (by decide) (by decide)) ?_
      show Runs p e below s _ _ _ (T.setTop (mkF m 182 #[.val (.int v0)] []))
      exact k_182 _ X eT v0 hv
    · have hv := (if_neg hc81).symm.trans hv
      refine Runs.go (fun _ => XS.icmpNo X.here hx rfl (hb hby d2_81) rfl (feq hc81).1) ?_
      show Runs p e below s _ _ _ (T.setTop (mkF m 84 #[.val (.int v0)] []))
      refine Runs.go (fun _ => XS.iloadN X.here hx rfl (hb hby d2_84) rfl) ?_
      show Runs p e below s _ _ _ (T.setTop (mkF m 85 #[.val (.int v0)] [(.int v0)]))
      refine Runs.go (fun _ => XS.sipush X.here hx rfl (hb hby d2_85)) ?_
      show Runs p e below s _ _ _ (T.setTop (mkF m 88 #[.val (.int v0)] [(.int (8192 : Int32)), (.int v0)]))
      by_cases hc88 : v0 < (8192 : Int32)
      · have hv := (if_pos hc88).symm.trans hv
        refine Runs.go (fun _ => XS.icmpYes X.here hx rfl (pc0 := 88) (pc' := 98) rfl (hb hby d2_88) rfl (tlt hc88).1 (by decide) (by decide)) ?_
        show Runs p e below s _ _ _ (T.setTop (mkF m 98 #[.val (.int v0)] []))
        exact k_98 _ X eT v0 hv
      · have hv := (if_neg hc88).symm.trans hv
        refine Runs.go (fun _ => XS.icmpNo X.here hx rfl (hb hby d2_88) rfl (flt hc88).1) ?_
        show Runs p e below s _ _ _ (T.setTop (mkF m 91 #[.val (.int v0)] []))
        refine Runs.go (fun _ => XS.iloadN X.here hx rfl (hb hby d2_91) rfl) ?_
        show Runs p e below s _ _ _ (T.setTop (mkF m 92 #[.val (.int v0)] [(.int v0)]))
        refine Runs.go (fun _ => XS.sipush X.here hx rfl (hb hby d2_92)) ?_
        show Runs p e below s _ _ _ (T.setTop (mkF m 95 #[.val (.int v0)] [(.int (8203 : Int32)), (.int v0)]))
        by_cases hc95 : (8203 : Int32) < v0
        · have hv := (if_pos hc95).symm.trans hv
          refine Runs.go (fun _ => XS.icmpNo X.here hx rfl (hb hby d2_95) rfl (tlt hc95).2.2.2) ?_
          show Runs p e below s _ _ _ (T.setTop (mkF m 98 #[.val (.int v0)] []))
          exact k_98 _ X eT v0 hv
        · have hv := (if_neg hc95).symm.trans hv
          refine Runs.go (fun _ => XS.icmpYes X.here hx rfl (pc0 := 95) (pc' := 182) rfl (hb hby d2_95) rfl (flt hc95).2.2.2 (by decide) (by decide)) ?_
          show Runs p e below s _ _ _ (T.setTop (mkF m 182 #[.val (.int v0)] []))
          exact k_182 _ X eT v0 hv
  have k_49 : ∀ (T : State) (X : Stand p l e ({ frames := 0, cells := 0, slots := 0, locals := 0 } : Room) s m #[(.int x0)] below meth c T [] 0 0) (eT : T.heap = h0) (v0 : Int32), f2_49 v0 = r → Runs p e below s (QP (.int r) h0) ({ frames := 0, cells := 0, slots := 0, locals := 0 } : Room).cells ({ frames := 0, cells := 0, slots := 0, locals := 0 } : Room).slots (T.setTop (mkF m 49 #[.val (.int v0)] [])) := by
    intro T X eT v0 hv
    unfold f2_49 at hv
    refine Runs.go (fun _ => XS.iloadN X.here hx rfl (hb hby d2_49) rfl) ?_
    show Runs p e below s _ _ _ (T.setTop (mkF m 50 #[.val (.int v0)] [(.int v0)]))
    refine Runs.go (fun _ => XS.sipush X.here hx rfl (hb hby d2_50)) ?_
    show Runs p e below s _ _ _ (T.setTop (mkF m 53 #[.val (.int v0)] [(.int (215 : Int32)), (.int v0)]))
    by_cases hc53 : v0 = (215 : Int32)
    · have hv := (if_pos hc53).symm.trans hv
      refine Runs.go (fun _ => XS.icmpYes X.here hx rfl (pc0 := 53) (pc' := 182) rfl (hb hby d2_53) rfl (teq hc53).1 (by decide) (by decide)) ?_
      show Runs p e below s _ _ _ (T.setTop (mkF m 182 #[.val (.int v0)] []))
      exact k_182 _ X eT v0 hv
    · have hv := (if_neg hc53).symm.trans hv
      refine Runs.go (fun _ => XS.icmpNo X.here hx rfl (hb hby d2_53) rfl (feq hc53).1) ?_
      show Runs p e below s _ _ _ (T.setTop (mkF m 56 #[.val (.int v0)] []))
      refine Runs.go (fun _ => XS.iloadN X.here hx rfl (hb hby d2_56) rfl) ?_
      show Runs p e below s _ _ _ (T.setTop (mkF m 57 #[.val (.int v0)] [(.int v0)]))
      refine Runs.go (fun _ => XS.sipush X.here hx rfl (hb hby d2_57)) ?_
      show Runs p e below s _ _ _ (T.setTop (mkF m 60 #[.val (.int v0)] [(.int (247 : Int32)), (.int v0)]))
      by_cases hc60 : v0 = (247 : Int32)
      · have hv := (if_pos hc60).symm.trans hv
        refine Runs.go (fun _ => XS.icmpYes X.here hx rfl (pc0 := 60) (pc' := 182) rfl (hb hby d2_60) rfl (teq hc60).1 (by decide) (by decide)) ?_
        show Runs p e below s _ _ _ (T.setTop (mkF m 182 #[.val (.int v0)] []))
        exact k_182 _ X eT v0 hv
      · have hv := (if_neg hc60).symm.trans hv
        refine Runs.go (fun _ => XS.icmpNo X.here hx rfl (hb hby d2_60) rfl (feq hc60).1) ?_
        show Runs p e below s _ _ _ (T.setTop (mkF m 63 #[.val (.int v0)] []))
        refine Runs.go (fun _ => XS.iloadN X.here hx rfl (hb hby d2_63) rfl) ?_
        show Runs p e below s _ _ _ (T.setTop (mkF m 64 #[.val (.int v0)] [(.int v0)]))
        refine Runs.go (fun _ => XS.sipush X.here hx rfl (hb hby d2_64)) ?_
        show Runs p e below s _ _ _ (T.setTop (mkF m 67 #[.val (.int v0)] [(.int (768 : Int32)), (.int v0)]))
        by_cases hc67 : v0 < (768 : Int32)
        · have hv := (if_pos hc67).symm.trans hv
          refine Runs.go (fun _ => XS.icmpYes X.here hx rfl (pc0 := 67) (pc' := 77) rfl (hb hby d2_67) rfl (tlt hc67).1 (by decide) (by decide)) ?_
          show Runs p e below s _ _ _ (T.setTop (mkF m 77 #[.val (.int v0)] []))
          exact k_77 _ X eT v0 hv
        · have hv := (if_neg hc67).symm.trans hv
          refine Runs.go (fun _ => XS.icmpNo X.here hx rfl (hb hby d2_67) rfl (flt hc67).1) ?_
          show Runs p e below s _ _ _ (T.setTop (mkF m 70 #[.val (.int v0)] []))
          refine Runs.go (fun _ => XS.iloadN X.here hx rfl (hb hby d2_70) rfl) ?_
          show Runs p e below s _ _ _ (T.setTop (mkF m 71 #[.val (.int v0)] [(.int v0)]))
          refine Runs.go (fun _ => XS.sipush X.here hx rfl (hb hby d2_71)) ?_
          show Runs p e below s _ _ _ (T.setTop (mkF m 74 #[.val (.int v0)] [(.int (879 : Int32)), (.int v0)]))
          by_cases hc74 : (879 : Int32) < v0
          · have hv := (if_pos hc74).symm.trans hv
            refine Runs.go (fun _ => XS.icmpNo X.here hx rfl (hb hby d2_74) rfl (tlt hc74).2.2.2) ?_
            show Runs p e below s _ _ _ (T.setTop (mkF m 77 #[.val (.int v0)] []))
            exact k_77 _ X eT v0 hv
          · have hv := (if_neg hc74).symm.trans hv
            refine Runs.go (fun _ => XS.icmpYes X.here hx rfl (pc0 := 74) (pc' := 182) rfl (hb hby d2_74) rfl (flt hc74).2.2.2 (by decide) (by decide)) ?_
            show Runs p e below s _ _ _ (T.setTop (mkF m 182 #[.val (.int v0)] []))
            exact k_182 _ X eT v0 hv
  have k_30 : ∀ (T : State) (X : Stand p l e ({ frames := 0, cells := 0, slots := 0, locals := 0 } : Room) s m #[(.int x0)] below meth c T [] 0 0) (eT : T.heap = h0) (v0 : Int32), f2_30 v0 = r → Runs p e below s (QP (.int r) h0) ({ frames := 0, cells := 0, slots := 0, locals := 0 } : Room).cells ({ frames := 0, cells := 0, slots := 0, locals := 0 } : Room).slots (T.setTop (mkF m 30 #[.val (.int v0)] [])) := by
    intro T X eT v0 hv
    unfold f2_30 at hv
    refine Runs.go (fun _ => XS.iloadN X.here hx rfl (hb hby d2_30) rfl) ?_
    show Runs p e below s _ _ _ (T.setTop (mkF m 31 #[.val (.int v0)] [(.int v0)]))
    refine Runs.go (fun _ => XS.bipush X.here hx rfl (hb hby d2_31)) ?_
    show Runs p e below s _ _ _ (T.setTop (mkF m 33 #[.val (.int v0)] [(.int (96 : Int32)), (.int v0)]))
    by_cases hc33 : v0 = (96 : Int32)
    · have hv := (if_pos hc33).symm.trans hv
      refine Runs.go (fun _ => XS.icmpYes X.here hx rfl (pc0 := 33) (pc' := 182) rfl (hb hby d2_33) rfl (teq hc33).1 (by decide) (by decide)) ?_
      show Runs p e below s _ _ _ (T.setTop (mkF m 182 #[.val (.int v0)] []))
      exact k_182 _ X eT v0 hv
    · have hv := (if_neg hc33).symm.trans hv
      refine Runs.go (fun _ => XS.icmpNo X.here hx rfl (hb hby d2_33) rfl (feq hc33).1) ?_
      show Runs p e below s _ _ _ (T.setTop (mkF m 36 #[.val (.int v0)] []))
      refine Runs.go (fun _ => XS.iloadN X.here hx rfl (hb hby d2_36) rfl) ?_
      show Runs p e below s _ _ _ (T.setTop (mkF m 37 #[.val (.int v0)] [(.int v0)]))
      refine Runs.go (fun _ => XS.bipush X.here hx rfl (hb hby d2_37)) ?_
      show Runs p e below s _ _ _ (T.setTop (mkF m 39 #[.val (.int v0)] [(.int (123 : Int32)), (.int v0)]))
      by_cases hc39 : v0 < (123 : Int32)
      · have hv := (if_pos hc39).symm.trans hv
        refine Runs.go (fun _ => XS.icmpYes X.here hx rfl (pc0 := 39) (pc' := 49) rfl (hb hby d2_39) rfl (tlt hc39).1 (by decide) (by decide)) ?_
        show Runs p e below s _ _ _ (T.setTop (mkF m 49 #[.val (.int v0)] []))
        exact k_49 _ X eT v0 hv
      · have hv := (if_neg hc39).symm.trans hv
        refine Runs.go (fun _ => XS.icmpNo X.here hx rfl (hb hby d2_39) rfl (flt hc39).1) ?_
        show Runs p e below s _ _ _ (T.setTop (mkF m 42 #[.val (.int v0)] []))
        refine Runs.go (fun _ => XS.iloadN X.here hx rfl (hb hby d2_42) rfl) ?_
        show Runs p e below s _ _ _ (T.setTop (mkF m 43 #[.val (.int v0)] [(.int v0)]))
        refine Runs.go (fun _ => XS.sipush X.here hx rfl (hb hby d2_43)) ?_
        show Runs p e below s _ _ _ (T.setTop (mkF m 46 #[.val (.int v0)] [(.int (191 : Int32)), (.int v0)]))
        by_cases hc46 : (191 : Int32) < v0
        · have hv := (if_pos hc46).symm.trans hv
          refine Runs.go (fun _ => XS.icmpNo X.here hx rfl (hb hby d2_46) rfl (tlt hc46).2.2.2) ?_
          show Runs p e below s _ _ _ (T.setTop (mkF m 49 #[.val (.int v0)] []))
          exact k_49 _ X eT v0 hv
        · have hv := (if_neg hc46).symm.trans hv
          refine Runs.go (fun _ => XS.icmpYes X.here hx rfl (pc0 := 46) (pc' := 182) rfl (hb hby d2_46) rfl (flt hc46).2.2.2 (by decide) (by decide)) ?_
          show Runs p e below s _ _ _ (T.setTop (mkF m 182 #[.val (.int v0)] []))
          exact k_182 _ X eT v0 hv
  have k_18 : ∀ (T : State) (X : Stand p l e ({ frames := 0, cells := 0, slots := 0, locals := 0 } : Room) s m #[(.int x0)] below meth c T [] 0 0) (eT : T.heap = h0) (v0 : Int32), f2_18 v0 = r → Runs p e below s (QP (.int r) h0) ({ frames := 0, cells := 0, slots := 0, locals := 0 } : Room).cells ({ frames := 0, cells := 0, slots := 0, locals := 0 } : Room).slots (T.setTop (mkF m 18 #[.val (.int v0)] [])) := by
    intro T X eT v0 hv
    unfold f2_18 at hv
    refine Runs.go (fun _ => XS.iloadN X.here hx rfl (hb hby d2_18) rfl) ?_
    show Runs p e below s _ _ _ (T.setTop (mkF m 19 #[.val (.int v0)] [(.int v0)]))
    refine Runs.go (fun _ => XS.bipush X.here hx rfl (hb hby d2_19)) ?_
    show Runs p e below s _ _ _ (T.setTop (mkF m 21 #[.val (.int v0)] [(.int (91 : Int32)), (.int v0)]))
    by_cases hc21 : v0 < (91 : Int32)
    · have hv := (if_pos hc21).symm.trans hv
      refine Runs.go (fun _ => XS.icmpYes X.here hx rfl (pc0 := 21) (pc' := 30) rfl (hb hby d2_21) rfl (tlt hc21).1 (by decide) (by decide)) ?_
      show Runs p e below s _ _ _ (T.setTop (mkF m 30 #[.val (.int v0)] []))
      exact k_30 _ X eT v0 hv
    · have hv := (if_neg hc21).symm.trans hv
      refine Runs.go (fun _ => XS.icmpNo X.here hx rfl (hb hby d2_21) rfl (flt hc21).1) ?_
      show Runs p e below s _ _ _ (T.setTop (mkF m 24 #[.val (.int v0)] []))
      refine Runs.go (fun _ => XS.iloadN X.here hx rfl (hb hby d2_24) rfl) ?_
      show Runs p e below s _ _ _ (T.setTop (mkF m 25 #[.val (.int v0)] [(.int v0)]))
      refine Runs.go (fun _ => XS.bipush X.here hx rfl (hb hby d2_25)) ?_
      show Runs p e below s _ _ _ (T.setTop (mkF m 27 #[.val (.int v0)] [(.int (94 : Int32)), (.int v0)]))
      by_cases hc27 : (94 : Int32) < v0
      · have hv := (if_pos hc27).symm.trans hv
        refine Runs.go (fun _ => XS.icmpNo X.here hx rfl (hb hby d2_27) rfl (tlt hc27).2.2.2) ?_
        show Runs p e below s _ _ _ (T.setTop (mkF m 30 #[.val (.int v0)] []))
        exact k_30 _ X eT v0 hv
      · have hv := (if_neg hc27).symm.trans hv
        refine Runs.go (fun _ => XS.icmpYes X.here hx rfl (pc0 := 27) (pc' := 182) rfl (hb hby d2_27) rfl (flt hc27).2.2.2 (by decide) (by decide)) ?_
        show Runs p e below s _ _ _ (T.setTop (mkF m 182 #[.val (.int v0)] []))
        exact k_182 _ X eT v0 hv
  have k_0 : ∀ (T : State) (X : Stand p l e ({ frames := 0, cells := 0, slots := 0, locals := 0 } : Room) s m #[(.int x0)] below meth c T [] 0 0) (eT : T.heap = h0), f2_0 x0 = r → Runs p e below s (QP (.int r) h0) ({ frames := 0, cells := 0, slots := 0, locals := 0 } : Room).cells ({ frames := 0, cells := 0, slots := 0, locals := 0 } : Room).slots (T.setTop (mkF m 0 #[.val (.int x0)] [])) := by
    intro T X eT  hv
    unfold f2_0 at hv
    refine Runs.go (fun _ => XS.iloadN X.here hx rfl (hb hby d2_0) rfl) ?_
    show Runs p e below s _ _ _ (T.setTop (mkF m 1 #[.val (.int x0)] [(.int x0)]))
    refine Runs.go (fun _ => XS.bipush X.here hx rfl (hb hby d2_1)) ?_
    show Runs p e below s _ _ _ (T.setTop (mkF m 3 #[.val (.int x0)] [(.int (58 : Int32)), (.int x0)]))
    by_cases hc3 : x0 < (58 : Int32)
    · have hv := (if_pos hc3).symm.trans hv
      refine Runs.go (fun _ => XS.icmpYes X.here hx rfl (pc0 := 3) (pc' := 182) rfl (hb hby d2_3) rfl (tlt hc3).1 (by decide) (by decide)) ?_
      show Runs p e below s _ _ _ (T.setTop (mkF m 182 #[.val (.int x0)] []))
      exact k_182 _ X eT x0 hv
    · have hv := (if_neg hc3).symm.trans hv
      refine Runs.go (fun _ => XS.icmpNo X.here hx rfl (hb hby d2_3) rfl (flt hc3).1) ?_
      show Runs p e below s _ _ _ (T.setTop (mkF m 6 #[.val (.int x0)] []))
      refine Runs.go (fun _ => XS.iloadN X.here hx rfl (hb hby d2_6) rfl) ?_
      show Runs p e below s _ _ _ (T.setTop (mkF m 7 #[.val (.int x0)] [(.int x0)]))
      refine Runs.go (fun _ => XS.bipush X.here hx rfl (hb hby d2_7)) ?_
      show Runs p e below s _ _ _ (T.setTop (mkF m 9 #[.val (.int x0)] [(.int (59 : Int32)), (.int x0)]))
      by_cases hc9 : x0 < (59 : Int32)
      · have hv := (if_pos hc9).symm.trans hv
        refine Runs.go (fun _ => XS.icmpYes X.here hx rfl (pc0 := 9) (pc' := 18) rfl (hb hby d2_9) rfl (tlt hc9).1 (by decide) (by decide)) ?_
        show Runs p e below s _ _ _ (T.setTop (mkF m 18 #[.val (.int x0)] []))
        exact k_18 _ X eT x0 hv
      · have hv := (if_neg hc9).symm.trans hv
        refine Runs.go (fun _ => XS.icmpNo X.here hx rfl (hb hby d2_9) rfl (flt hc9).1) ?_
        show Runs p e below s _ _ _ (T.setTop (mkF m 12 #[.val (.int x0)] []))
        refine Runs.go (fun _ => XS.iloadN X.here hx rfl (hb hby d2_12) rfl) ?_
        show Runs p e below s _ _ _ (T.setTop (mkF m 13 #[.val (.int x0)] [(.int x0)]))
        refine Runs.go (fun _ => XS.bipush X.here hx rfl (hb hby d2_13)) ?_
        show Runs p e below s _ _ _ (T.setTop (mkF m 15 #[.val (.int x0)] [(.int (64 : Int32)), (.int x0)]))
        by_cases hc15 : (64 : Int32) < x0
        · have hv := (if_pos hc15).symm.trans hv
          refine Runs.go (fun _ => XS.icmpNo X.here hx rfl (hb hby d2_15) rfl (tlt hc15).2.2.2) ?_
          show Runs p e below s _ _ _ (T.setTop (mkF m 18 #[.val (.int x0)] []))
          exact k_18 _ X eT x0 hv
        · have hv := (if_neg hc15).symm.trans hv
          refine Runs.go (fun _ => XS.icmpYes X.here hx rfl (pc0 := 15) (pc' := 182) rfl (hb hby d2_15) rfl (flt hc15).2.2.2 (by decide) (by decide)) ?_
          show Runs p e below s _ _ _ (T.setTop (mkF m 182 #[.val (.int x0)] []))
          exact k_182 _ X eT x0 hv
  exact k_0 _ X0 e0 hF
theorem pn_0 : plainName "com/example/interlinear/interlinear/xml/XmlTextIsNameStartPinLaw" = true := by first | (simp [plainName, overriddenIn]; done) | decide +kernel
theorem ef_0 (m : MethodId) (x0 : Int32) (x1 : Int32) : entryFrame m #[(.int x0), (.int x1)] maxLocals = mkF m 0 #[.val (.int x0), .val (.int x1), .unset, .unset, .unset, .unset] [] := by first | (simp [entryFrame, mkF, argsToLocals, Value.category, maxLocals]; done) | rfl
set_option maxRecDepth 65536 in
set_option maxHeartbeats 40000000 in
theorem rm0 (l : Launch) (Z : State) (a0 : Array Value) (hw : ∀ d ∈ tables_1, d.before a0 Z = true) (ws : List Jvm.Cond) (x0 : Int32) (x1 : Int32) (h0 : Heap) (n0 : Nat) (hn0 : n0 ≤ h0.size) :
    MetFree l x (head1 (Jvm.Cond.code x code maxLocals ret :: ws) room_1) (fun a U => a = #[(.int x0), (.int x1)] ∧ Z.Warmed39 U.vm ∧ U.heap = h0) (fun _ _ _ _ _ => True) (fun _ U o U' => ∃ v L, o = .returned v ∧ QH (.int (F0 x0 x1)) n0 v U'.heap L ∧ FrameEnd U o U' L room_1.cells room_1.slots) := by
  refine MetFree.of_bodySF (plainFor_of_name pn_0) hisR ?_
  intro p e s m args below meth c s₁ Bd hml0 hP hK
  obtain ⟨rfl, hZ, hh⟩ := hP
  have hx := Bd.exec
  have hby := Bd.bytes
  have hml : c.maxLocals = 6 := hml0
  have hown : s.vm.findClass "com/example/interlinear/interlinear/xml/XmlTextIsNameStartPinLaw" = some m.cls := findClass_of_methodNamed Bd.named
  have X0 : Stand p l e room_1 s m #[(.int x0), (.int x1)] below meth c s₁ [] 0 0 := Stand.of_body Bd
  have e0 : s₁.heap = h0 := by rw [← hh, Bd.state]; rfl
  show Runs p e below s (QH (.int (F0 x0 x1)) n0) room_1.cells room_1.slots (s₁.setTop (entryFrame m #[(.int x0), (.int x1)] maxLocals))
  rw [ef_0 m x0 x1]
  obtain ⟨r, hF⟩ : ∃ r, F0 x0 x1 = r := ⟨_, rfl⟩
  rw [hF]
  have k_266 : ∀ (T : State) (locs : List Loc) (h : Heap) (X : Stand p l e room_1 s m #[(.int x0), (.int x1)] below meth c T locs 1 33) (eT : T.heap = h) (N : Fr n0 locs) (v0 : Int32) (v1 : Int32) (v2 : Addr) (v3 : Int32) (sl4 : Slot) (sl5 : Slot) (t0 : Int32) (t1 : Int32), f0_266 t0 t1 = r → Runs p e below s (QH (.int r) n0) room_1.cells room_1.slots (T.setTop (mkF m 266 #[.val (.int v0), .val (.int v1), .val (.ref v2), .val (.int v3), sl4, sl5] [(.int t0), (.int t1)])) := by
    intro T locs h X eT N v0 v1 v2 v3 sl4 sl5 t0 t1 hv
    unfold f0_266 at hv
    by_cases hc266 : t1 = t0
    · have hv := (if_pos hc266).symm.trans hv
      refine Runs.go (fun _ => XS.icmpNo X.here hx rfl (hb hby at_266) rfl (teq hc266).2) ?_
      show Runs p e below s _ _ _ (T.setTop (mkF m 269 #[.val (.int v0), .val (.int v1), .val (.ref v2), .val (.int v3), sl4, sl5] []))
      refine Runs.go (fun _ => XS.iconst X.here hx rfl (hb hby at_269)) ?_
      show Runs p e below s _ _ _ (T.setTop (mkF m 270 #[.val (.int v0), .val (.int v1), .val (.ref v2), .val (.int v3), sl4, sl5] [(.int (1 : Int32))]))
      refine Runs.go (fun _ => XS.goto X.here hx rfl (pc0 := 270) (pc' := 274) rfl (hb hby at_270) (by decide) (by decide)) ?_
      show Runs p e below s _ _ _ (T.setTop (mkF m 274 #[.val (.int v0), .val (.int v1), .val (.ref v2), .val (.int v3), sl4, sl5] [(.int (1 : Int32))]))
      exact Runs.endN X hx (t := .boolean) Bd.returns (by simp) Bd.notSynchronized (hb hby at_274) ⟨congrArg (fun z => some (Value.int z)) hv, N⟩ (by decide) (by decide)
    · have hv := (if_neg hc266).symm.trans hv
      refine Runs.go (fun _ => XS.icmpYes X.here hx rfl (pc0 := 266) (pc' := 273) rfl (hb hby at_266) rfl (feq hc266).2 (by decide) (by decide)) ?_
      show Runs p e below s _ _ _ (T.setTop (mkF m 273 #[.val (.int v0), .val (.int v1), .val (.ref v2), .val (.int v3), sl4, sl5] []))
      refine Runs.go (fun _ => XS.iconst X.here hx rfl (hb hby at_273)) ?_
      show Runs p e below s _ _ _ (T.setTop (mkF m 274 #[.val (.int v0), .val (.int v1), .val (.ref v2), .val (.int v3), sl4, sl5] [(.int (0 : Int32))]))
      exact Runs.endN X hx (t := .boolean) Bd.returns (by simp) Bd.notSynchronized (hb hby at_274) ⟨congrArg (fun z => some (Value.int z)) hv, N⟩ (by decide) (by decide)
  have k_250 : ∀ (T : State) (locs : List Loc) (h : Heap) (X : Stand p l e room_1 s m #[(.int x0), (.int x1)] below meth c T locs 1 33) (eT : T.heap = h) (N : Fr n0 locs) (v0 : Int32) (v1 : Int32) (v2 : Addr) (v3 : Int32) (sl4 : Slot) (sl5 : Slot), f0_250 v3 = r → Runs p e below s (QH (.int r) n0) room_1.cells room_1.slots (T.setTop (mkF m 250 #[.val (.int v0), .val (.int v1), .val (.ref v2), .val (.int v3), sl4, sl5] [])) := by
    intro T locs h X eT N v0 v1 v2 v3 sl4 sl5 hv
    unfold f0_250 at hv
    refine Runs.go (fun _ => XS.iloadN X.here hx rfl (hb hby at_250) rfl) ?_
    show Runs p e below s _ _ _ (T.setTop (mkF m 251 #[.val (.int v0), .val (.int v1), .val (.ref v2), .val (.int v3), sl4, sl5] [(.int v3)]))
    obtain ⟨_, _, ⟨Tc251_2, Lc251_2, kc251_2, nc251_2⟩, -, Xc251_2, ⟨Lcc251_2, ⟨rfl, rfl, ec251_2⟩, lc251_2, yc251_2, zc251_2⟩, stc251_2⟩ := Jvm.LawKit.callS X hx (y := (⟨"com/example/interlinear/interlinear/xml/XmlText", "isNameStart", "(I)Z"⟩ : MethodName)) hown (mvT hZ (hw _ (List.mem_of_getElem? (i := 10) rfl))) (mvT hZ (hw _ (List.mem_of_getElem? (i := 11) rfl))) (mvT hZ (hw _ (List.mem_of_getElem? (i := 12) rfl))) (mvT hZ (hw _ (List.mem_of_getElem? (i := 13) rfl))) (by decide) (backOf (W := 0) (rm1 l Z a0 hw [] v3 h) hZ (hw _ (List.mem_of_getElem? (i := 13) rfl)) (hw _ (List.mem_of_getElem? (i := 12) rfl)) (by decide) (by decide)) (g := (mkF m 251 #[.val (.int v0), .val (.int v1), .val (.ref v2), .val (.int v3), sl4, sl5] [(.int v3)])) rfl (by rw [hml]; rfl) (argsL := [(.int v3)]) (rest := []) (lenOf pd_0 rfl) rfl (by show 2 * 0 + _ ≤ _; exact Nat.le_of_eq rfl) (hb hby at_251) (fun _ _ => ⟨rfl, eT, (by decide : 1 + 0 ≤ _), (by decide : 33 + 0 ≤ _)⟩)
    dsimp only [Pt.U, Pt.locs, Pt.cells, Pt.slots] at Xc251_2 lc251_2 yc251_2 zc251_2 stc251_2 ec251_2
    subst lc251_2 yc251_2 zc251_2
    refine Runs.go stc251_2 ?_
    have Nc251_2 := Fr.app N (Fr.nil n0)
    show Runs p e below s _ _ _ (Tc251_2.setTop (mkF m 254 #[.val (.int v0), .val (.int v1), .val (.ref v2), .val (.int v3), sl4, sl5] [(.int (F1 v3))]))
    refine Runs.go (fun _ => XS.iloadN Xc251_2.here hx rfl (hb hby at_254) rfl) ?_
    show Runs p e below s _ _ _ (Tc251_2.setTop (mkF m 255 #[.val (.int v0), .val (.int v1), .val (.ref v2), .val (.int v3), sl4, sl5] [(.int v3), (.int (F1 v3))]))
    obtain ⟨_, _, ⟨Tc255_3, Lc255_3, kc255_3, nc255_3⟩, -, Xc255_3, ⟨Lcc255_3, ⟨rfl, rfl, ec255_3⟩, lc255_3, yc255_3, zc255_3⟩, stc255_3⟩ := Jvm.LawKit.callS Xc251_2 hx (y := (⟨"com/example/interlinear/interlinear/xml/XmlTextIsNameStartPinLaw", "excluded", "(I)Z"⟩ : MethodName)) hown (mvT hZ (hw _ (List.mem_of_getElem? (i := 17) rfl))) (mvT hZ (hw _ (List.mem_of_getElem? (i := 18) rfl))) (mvT hZ (hw _ (List.mem_of_getElem? (i := 19) rfl))) (mvT hZ (hw _ (List.mem_of_getElem? (i := 20) rfl))) (by decide) (backOf (W := 1) (rm2 l Z a0 hw [] v3 h) hZ (hw _ (List.mem_of_getElem? (i := 20) rfl)) (hw _ (List.mem_of_getElem? (i := 19) rfl)) (by decide) (by decide)) (g := (mkF m 255 #[.val (.int v0), .val (.int v1), .val (.ref v2), .val (.int v3), sl4, sl5] [(.int v3), (.int (F1 v3))])) rfl (by rw [hml]; rfl) (argsL := [(.int v3)]) (rest := [(.int (F1 v3))]) (lenOf pd_0 rfl) rfl (by show 2 * 0 + _ ≤ _; exact Nat.le_of_eq rfl) (hb hby at_255) (fun _ _ => ⟨rfl, ec251_2, (by decide : 1 + 0 ≤ _), (by decide : 33 + 0 ≤ _)⟩)
    dsimp only [Pt.U, Pt.locs, Pt.cells, Pt.slots] at Xc255_3 lc255_3 yc255_3 zc255_3 stc255_3 ec255_3
    subst lc255_3 yc255_3 zc255_3
    refine Runs.go stc255_3 ?_
    have Nc255_3 := Fr.app Nc251_2 (Fr.nil n0)
    show Runs p e below s _ _ _ (Tc255_3.setTop (mkF m 258 #[.val (.int v0), .val (.int v1), .val (.ref v2), .val (.int v3), sl4, sl5] [(.int (F2 v3)), (.int (F1 v3))]))
    by_cases hc258 : (F2 v3) = (0 : Int32)
    · have hv := (if_pos hc258).symm.trans hv
      refine Runs.go (fun _ => XS.ifNo Xc255_3.here hx rfl (hb hby at_258) rfl ((if0 _ _).trans (teq hc258).2)) ?_
      show Runs p e below s _ _ _ (Tc255_3.setTop (mkF m 261 #[.val (.int v0), .val (.int v1), .val (.ref v2), .val (.int v3), sl4, sl5] [(.int (F1 v3))]))
      refine Runs.go (fun _ => XS.iconst Xc255_3.here hx rfl (hb hby at_261)) ?_
      show Runs p e below s _ _ _ (Tc255_3.setTop (mkF m 262 #[.val (.int v0), .val (.int v1), .val (.ref v2), .val (.int v3), sl4, sl5] [(.int (1 : Int32)), (.int (F1 v3))]))
      refine Runs.go (fun _ => XS.goto Xc255_3.here hx rfl (pc0 := 262) (pc' := 266) rfl (hb hby at_262) (by decide) (by decide)) ?_
      show Runs p e below s _ _ _ (Tc255_3.setTop (mkF m 266 #[.val (.int v0), .val (.int v1), .val (.ref v2), .val (.int v3), sl4, sl5] [(.int (1 : Int32)), (.int (F1 v3))]))
      exact k_266 _ _ _ Xc255_3 ec255_3 Nc255_3 v0 v1 v2 v3 sl4 sl5 (1 : Int32) (F1 v3) hv
    · have hv := (if_neg hc258).symm.trans hv
      refine Runs.go (fun _ => XS.ifYes Xc255_3.here hx rfl (pc0 := 258) (pc' := 265) rfl (hb hby at_258) rfl ((if0 _ _).trans (feq hc258).2) (by decide) (by decide)) ?_
      show Runs p e below s _ _ _ (Tc255_3.setTop (mkF m 265 #[.val (.int v0), .val (.int v1), .val (.ref v2), .val (.int v3), sl4, sl5] [(.int (F1 v3))]))
      refine Runs.go (fun _ => XS.iconst Xc255_3.here hx rfl (hb hby at_265)) ?_
      show Runs p e below s _ _ _ (Tc255_3.setTop (mkF m 266 #[.val (.int v0), .val (.int v1), .val (.ref v2), .val (.int v3), sl4, sl5] [(.int (0 : Int32)), (.int (F1 v3))]))
      exact k_266 _ _ _ Xc255_3 ec255_3 Nc255_3 v0 v1 v2 v3 sl4 sl5 (0 : Int32) (F1 v3) hv
  have k_0 : ∀ (T : State) (X : Stand p l e room_1 s m #[(.int x0), (.int x1)] below meth c T [] 0 0) (eT : T.heap = h0) (N : Fr n0 []), f0_0 x0 x1 = r → Runs p e below s (QH (.int r) n0) room_1.cells room_1.slots (T.setTop (mkF m 0 #[.val (.int x0), .val (.int x1), .unset, .unset, .unset, .unset] [])) := by
    intro T X eT N  hv
    unfold f0_0 at hv
    refine Runs.go (fun _ => XS.bipush X.here hx rfl (hb hby at_0)) ?_
    show Runs p e below s _ _ _ (T.setTop (mkF m 2 #[.val (.int x0), .val (.int x1), .unset, .unset, .unset, .unset] [(.int (33 : Int32))]))
    obtain ⟨Ta2, ha2, ka2, Xa2, ea2, Ea2, Aa2, sta2⟩ := newP X hx hZ (hw _ (List.mem_of_getElem? (i := 0) rfl)) eT (g := (mkF m 2 #[.val (.int x0), .val (.int x1), .unset, .unset, .unset, .unset] [(.int (33 : Int32))])) rfl (hb hby at_2) rfl (by decide) (cap := 33) (by decide) (by decide) (by decide) (by decide)
    obtain ⟨b2, ga2⟩ : ∃ z, z = h0.size := ⟨_, rfl⟩
    rw [← ga2] at Aa2 sta2
    refine Runs.go sta2 ?_
    have Va2 : Arv Z ha2 b2 ka2 .int (33 : Int32) [(.int (0 : Int32)), (.int (0 : Int32)), (.int (0 : Int32)), (.int (0 : Int32)), (.int (0 : Int32)), (.int (0 : Int32)), (.int (0 : Int32)), (.int (0 : Int32)), (.int (0 : Int32)), (.int (0 : Int32)), (.int (0 : Int32)), (.int (0 : Int32)), (.int (0 : Int32)), (.int (0 : Int32)), (.int (0 : Int32)), (.int (0 : Int32)), (.int (0 : Int32)), (.int (0 : Int32)), (.int (0 : Int32)), (.int (0 : Int32)), (.int (0 : Int32)), (.int (0 : Int32)), (.int (0 : Int32)), (.int (0 : Int32)), (.int (0 : Int32)), (.int (0 : Int32)), (.int (0 : Int32)), (.int (0 : Int32)), (.int (0 : Int32)), (.int (0 : Int32)), (.int (0 : Int32)), (.int (0 : Int32)), (.int (0 : Int32))] (.int (0 : Int32)) := (Arv.new Aa2 (by decide)).pad (pad_rep [] (.int (0 : Int32)) 33)
    have gbb2 : n0 ≤ b2 := Nat.le_trans hn0 (Nat.le_of_eq ga2.symm)
    show Runs p e below s _ _ _ (Ta2.setTop (mkF m 4 #[.val (.int x0), .val (.int x1), .unset, .unset, .unset, .unset] [(.ref b2)]))
    refine Runs.go (fun _ => XS.dup Xa2.here hx rfl (hb hby at_4) rfl rfl) ?_
    show Runs p e below s _ _ _ (Ta2.setTop (mkF m 5 #[.val (.int x0), .val (.int x1), .unset, .unset, .unset, .unset] [(.ref b2), (.ref b2)]))
    refine Runs.go (fun _ => XS.iconst Xa2.here hx rfl (hb hby at_5)) ?_
    show Runs p e below s _ _ _ (Ta2.setTop (mkF m 6 #[.val (.int x0), .val (.int x1), .unset, .unset, .unset, .unset] [(.int (0 : Int32)), (.ref b2), (.ref b2)]))
    refine Runs.go (fun _ => XS.bipush Xa2.here hx rfl (hb hby at_6)) ?_
    show Runs p e below s _ _ _ (Ta2.setTop (mkF m 8 #[.val (.int x0), .val (.int x1), .unset, .unset, .unset, .unset] [(.int (58 : Int32)), (.int (0 : Int32)), (.ref b2), (.ref b2)]))
    have VCw8 := Va2
    obtain ⟨clw8, Arw8, qw8, Sw8, Mw8, Hw8, Gw8⟩ := VCw8
    have hinw8 : ¬ ((0 : Int32) < 0 ∨ clw8.slots.size ≤ ((0 : Int32)).toNatClampNeg) := inb_of Sw8 ⟨by decide, by decide⟩
    obtain ⟨Tw8, hw8, Xw8, ew8, Ww8, stw8⟩ := stI Xa2 hx hZ ea2 Arw8 (j := (0 : Int32)) hinw8 (g := (mkF m 8 #[.val (.int x0), .val (.int x1), .unset, .unset, .unset, .unset] [(.int (58 : Int32)), (.int (0 : Int32)), (.ref b2), (.ref b2)])) rfl rfl (hb hby at_8)
    have Vw8 : Arv Z hw8 b2 ka2 .int (33 : Int32) [(.int (58 : Int32)), (.int (0 : Int32)), (.int (0 : Int32)), (.int (0 : Int32)), (.int (0 : Int32)), (.int (0 : Int32)), (.int (0 : Int32)), (.int (0 : Int32)), (.int (0 : Int32)), (.int (0 : Int32)), (.int (0 : Int32)), (.int (0 : Int32)), (.int (0 : Int32)), (.int (0 : Int32)), (.int (0 : Int32)), (.int (0 : Int32)), (.int (0 : Int32)), (.int (0 : Int32)), (.int (0 : Int32)), (.int (0 : Int32)), (.int (0 : Int32)), (.int (0 : Int32)), (.int (0 : Int32)), (.int (0 : Int32)), (.int (0 : Int32)), (.int (0 : Int32)), (.int (0 : Int32)), (.int (0 : Int32)), (.int (0 : Int32)), (.int (0 : Int32)), (.int (0 : Int32)), (.int (0 : Int32)), (.int (0 : Int32))] (.int (0 : Int32)) := Arv.set Arw8 qw8 Sw8 Mw8 Hw8 Gw8 rfl Ww8 0 rfl (Nat.le_of_ble_eq_true rfl)
    have Nw8 := Fr.snoc Xw8 N gbb2
    refine Runs.go stw8 ?_
    show Runs p e below s _ _ _ (Tw8.setTop (mkF m 9 #[.val (.int x0), .val (.int x1), .unset, .unset, .unset, .unset] [(.ref b2)]))
    refine Runs.go (fun _ => XS.dup Xw8.here hx rfl (hb hby at_9) rfl rfl) ?_
    show Runs p e below s _ _ _ (Tw8.setTop (mkF m 10 #[.val (.int x0), .val (.int x1), .unset, .unset, .unset, .unset] [(.ref b2), (.ref b2)]))
    refine Runs.go (fun _ => XS.iconst Xw8.here hx rfl (hb hby at_10)) ?_
    show Runs p e below s _ _ _ (Tw8.setTop (mkF m 11 #[.val (.int x0), .val (.int x1), .unset, .unset, .unset, .unset] [(.int (1 : Int32)), (.ref b2), (.ref b2)]))
    refine Runs.go (fun _ => XS.bipush Xw8.here hx rfl (hb hby at_11)) ?_
    show Runs p e below s _ _ _ (Tw8.setTop (mkF m 13 #[.val (.int x0), .val (.int x1), .unset, .unset, .unset, .unset] [(.int (65 : Int32)), (.int (1 : Int32)), (.ref b2), (.ref b2)]))
    have VCw13 := Vw8
    obtain ⟨clw13, Arw13, qw13, Sw13, Mw13, Hw13, Gw13⟩ := VCw13
    have hinw13 : ¬ ((1 : Int32) < 0 ∨ clw13.slots.size ≤ ((1 : Int32)).toNatClampNeg) := inb_of Sw13 ⟨by decide, by decide⟩
    obtain ⟨Tw13, hw13, Xw13, ew13, Ww13, stw13⟩ := stI Xw8 hx hZ ew8 Arw13 (j := (1 : Int32)) hinw13 (g := (mkF m 13 #[.val (.int x0), .val (.int x1), .unset, .unset, .unset, .unset] [(.int (65 : Int32)), (.int (1 : Int32)), (.ref b2), (.ref b2)])) rfl rfl (hb hby at_13)
    have Vw13 : Arv Z hw13 b2 ka2 .int (33 : Int32) [(.int (58 : Int32)), (.int (65 : Int32)), (.int (0 : Int32)), (.int (0 : Int32)), (.int (0 : Int32)), (.int (0 : Int32)), (.int (0 : Int32)), (.int (0 : Int32)), (.int (0 : Int32)), (.int (0 : Int32)), (.int (0 : Int32)), (.int (0 : Int32)), (.int (0 : Int32)), (.int (0 : Int32)), (.int (0 : Int32)), (.int (0 : Int32)), (.int (0 : Int32)), (.int (0 : Int32)), (.int (0 : Int32)), (.int (0 : Int32)), (.int (0 : Int32)), (.int (0 : Int32)), (.int (0 : Int32)), (.int (0 : Int32)), (.int (0 : Int32)), (.int (0 : Int32)), (.int (0 : Int32)), (.int (0 : Int32)), (.int (0 : Int32)), (.int (0 : Int32)), (.int (0 : Int32)), (.int (0 : Int32)), (.int (0 : Int32))] (.int (0 : Int32)) := Arv.set Arw13 qw13 Sw13 Mw13 Hw13 Gw13 rfl Ww13 1 rfl (Nat.le_of_ble_eq_true rfl)
    have Nw13 := Fr.snoc Xw13 Nw8 gbb2
    refine Runs.go stw13 ?_
    show Runs p e below s _ _ _ (Tw13.setTop (mkF m 14 #[.val (.int x0), .val (.int x1), .unset, .unset, .unset, .unset] [(.ref b2)]))
    refine Runs.go (fun _ => XS.dup Xw13.here hx rfl (hb hby at_14) rfl rfl) ?_
    show Runs p e below s _ _ _ (Tw13.setTop (mkF m 15 #[.val (.int x0), .val (.int x1), .unset, .unset, .unset, .unset] [(.ref b2), (.ref b2)]))
    refine Runs.go (fun _ => XS.iconst Xw13.here hx rfl (hb hby at_15)) ?_
    show Runs p e below s _ _ _ (Tw13.setTop (mkF m 16 #[.val (.int x0), .val (.int x1), .unset, .unset, .unset, .unset] [(.int (2 : Int32)), (.ref b2), (.ref b2)]))
    refine Runs.go (fun _ => XS.bipush Xw13.here hx rfl (hb hby at_16)) ?_
    show Runs p e below s _ _ _ (Tw13.setTop (mkF m 18 #[.val (.int x0), .val (.int x1), .unset, .unset, .unset, .unset] [(.int (90 : Int32)), (.int (2 : Int32)), (.ref b2), (.ref b2)]))
    have VCw18 := Vw13
    obtain ⟨clw18, Arw18, qw18, Sw18, Mw18, Hw18, Gw18⟩ := VCw18
    have hinw18 : ¬ ((2 : Int32) < 0 ∨ clw18.slots.size ≤ ((2 : Int32)).toNatClampNeg) := inb_of Sw18 ⟨by decide, by decide⟩
    obtain ⟨Tw18, hw18, Xw18, ew18, Ww18, stw18⟩ := stI Xw13 hx hZ ew13 Arw18 (j := (2 : Int32)) hinw18 (g := (mkF m 18 #[.val (.int x0), .val (.int x1), .unset, .unset, .unset, .unset] [(.int (90 : Int32)), (.int (2 : Int32)), (.ref b2), (.ref b2)])) rfl rfl (hb hby at_18)
    have Vw18 : Arv Z hw18 b2 ka2 .int (33 : Int32) [(.int (58 : Int32)), (.int (65 : Int32)), (.int (90 : Int32)), (.int (0 : Int32)), (.int (0 : Int32)), (.int (0 : Int32)), (.int (0 : Int32)), (.int (0 : Int32)), (.int (0 : Int32)), (.int (0 : Int32)), (.int (0 : Int32)), (.int (0 : Int32)), (.int (0 : Int32)), (.int (0 : Int32)), (.int (0 : Int32)), (.int (0 : Int32)), (.int (0 : Int32)), (.int (0 : Int32)), (.int (0 : Int32)), (.int (0 : Int32)), (.int (0 : Int32)), (.int (0 : Int32)), (.int (0 : Int32)), (.int (0 : Int32)), (.int (0 : Int32)), (.int (0 : Int32)), (.int (0 : Int32)), (.int (0 : Int32)), (.int (0 : Int32)), (.int (0 : Int32)), (.int (0 : Int32)), (.int (0 : Int32)), (.int (0 : Int32))] (.int (0 : Int32)) := Arv.set Arw18 qw18 Sw18 Mw18 Hw18 Gw18 rfl Ww18 2 rfl (Nat.le_of_ble_eq_true rfl)
    have Nw18 := Fr.snoc Xw18 Nw13 gbb2
    refine Runs.go stw18 ?_
    show Runs p e below s _ _ _ (Tw18.setTop (mkF m 19 #[.val (.int x0), .val (.int x1), .unset, .unset, .unset, .unset] [(.ref b2)]))
    refine Runs.go (fun _ => XS.dup Xw18.here hx rfl (hb hby at_19) rfl rfl) ?_
    show Runs p e below s _ _ _ (Tw18.setTop (mkF m 20 #[.val (.int x0), .val (.int x1), .unset, .unset, .unset, .unset] [(.ref b2), (.ref b2)]))
    refine Runs.go (fun _ => XS.iconst Xw18.here hx rfl (hb hby at_20)) ?_
    show Runs p e below s _ _ _ (Tw18.setTop (mkF m 21 #[.val (.int x0), .val (.int x1), .unset, .unset, .unset, .unset] [(.int (3 : Int32)), (.ref b2), (.ref b2)]))
    refine Runs.go (fun _ => XS.bipush Xw18.here hx rfl (hb hby at_21)) ?_
    show Runs p e below s _ _ _ (Tw18.setTop (mkF m 23 #[.val (.int x0), .val (.int x1), .unset, .unset, .unset, .unset] [(.int (95 : Int32)), (.int (3 : Int32)), (.ref b2), (.ref b2)]))
    have VCw23 := Vw18
    obtain ⟨clw23, Arw23, qw23, Sw23, Mw23, Hw23, Gw23⟩ := VCw23
    have hinw23 : ¬ ((3 : Int32) < 0 ∨ clw23.slots.size ≤ ((3 : Int32)).toNatClampNeg) := inb_of Sw23 ⟨by decide, by decide⟩
    obtain ⟨Tw23, hw23, Xw23, ew23, Ww23, stw23⟩ := stI Xw18 hx hZ ew18 Arw23 (j := (3 : Int32)) hinw23 (g := (mkF m 23 #[.val (.int x0), .val (.int x1), .unset, .unset, .unset, .unset] [(.int (95 : Int32)), (.int (3 : Int32)), (.ref b2), (.ref b2)])) rfl rfl (hb hby at_23)
    have Vw23 : Arv Z hw23 b2 ka2 .int (33 : Int32) [(.int (58 : Int32)), (.int (65 : Int32)), (.int (90 : Int32)), (.int (95 : Int32)), (.int (0 : Int32)), (.int (0 : Int32)), (.int (0 : Int32)), (.int (0 : Int32)), (.int (0 : Int32)), (.int (0 : Int32)), (.int (0 : Int32)), (.int (0 : Int32)), (.int (0 : Int32)), (.int (0 : Int32)), (.int (0 : Int32)), (.int (0 : Int32)), (.int (0 : Int32)), (.int (0 : Int32)), (.int (0 : Int32)), (.int (0 : Int32)), (.int (0 : Int32)), (.int (0 : Int32)), (.int (0 : Int32)), (.int (0 : Int32)), (.int (0 : Int32)), (.int (0 : Int32)), (.int (0 : Int32)), (.int (0 : Int32)), (.int (0 : Int32)), (.int (0 : Int32)), (.int (0 : Int32)), (.int (0 : Int32)), (.int (0 : Int32))] (.int (0 : Int32)) := Arv.set Arw23 qw23 Sw23 Mw23 Hw23 Gw23 rfl Ww23 3 rfl (Nat.le_of_ble_eq_true rfl)
    have Nw23 := Fr.snoc Xw23 Nw18 gbb2
    refine Runs.go stw23 ?_
    show Runs p e below s _ _ _ (Tw23.setTop (mkF m 24 #[.val (.int x0), .val (.int x1), .unset, .unset, .unset, .unset] [(.ref b2)]))
    refine Runs.go (fun _ => XS.dup Xw23.here hx rfl (hb hby at_24) rfl rfl) ?_
    show Runs p e below s _ _ _ (Tw23.setTop (mkF m 25 #[.val (.int x0), .val (.int x1), .unset, .unset, .unset, .unset] [(.ref b2), (.ref b2)]))
    refine Runs.go (fun _ => XS.iconst Xw23.here hx rfl (hb hby at_25)) ?_
    show Runs p e below s _ _ _ (Tw23.setTop (mkF m 26 #[.val (.int x0), .val (.int x1), .unset, .unset, .unset, .unset] [(.int (4 : Int32)), (.ref b2), (.ref b2)]))
    refine Runs.go (fun _ => XS.bipush Xw23.here hx rfl (hb hby at_26)) ?_
    show Runs p e below s _ _ _ (Tw23.setTop (mkF m 28 #[.val (.int x0), .val (.int x1), .unset, .unset, .unset, .unset] [(.int (97 : Int32)), (.int (4 : Int32)), (.ref b2), (.ref b2)]))
    have VCw28 := Vw23
    obtain ⟨clw28, Arw28, qw28, Sw28, Mw28, Hw28, Gw28⟩ := VCw28
    have hinw28 : ¬ ((4 : Int32) < 0 ∨ clw28.slots.size ≤ ((4 : Int32)).toNatClampNeg) := inb_of Sw28 ⟨by decide, by decide⟩
    obtain ⟨Tw28, hw28, Xw28, ew28, Ww28, stw28⟩ := stI Xw23 hx hZ ew23 Arw28 (j := (4 : Int32)) hinw28 (g := (mkF m 28 #[.val (.int x0), .val (.int x1), .unset, .unset, .unset, .unset] [(.int (97 : Int32)), (.int (4 : Int32)), (.ref b2), (.ref b2)])) rfl rfl (hb hby at_28)
    have Vw28 : Arv Z hw28 b2 ka2 .int (33 : Int32) [(.int (58 : Int32)), (.int (65 : Int32)), (.int (90 : Int32)), (.int (95 : Int32)), (.int (97 : Int32)), (.int (0 : Int32)), (.int (0 : Int32)), (.int (0 : Int32)), (.int (0 : Int32)), (.int (0 : Int32)), (.int (0 : Int32)), (.int (0 : Int32)), (.int (0 : Int32)), (.int (0 : Int32)), (.int (0 : Int32)), (.int (0 : Int32)), (.int (0 : Int32)), (.int (0 : Int32)), (.int (0 : Int32)), (.int (0 : Int32)), (.int (0 : Int32)), (.int (0 : Int32)), (.int (0 : Int32)), (.int (0 : Int32)), (.int (0 : Int32)), (.int (0 : Int32)), (.int (0 : Int32)), (.int (0 : Int32)), (.int (0 : Int32)), (.int (0 : Int32)), (.int (0 : Int32)), (.int (0 : Int32)), (.int (0 : Int32))] (.int (0 : Int32)) := Arv.set Arw28 qw28 Sw28 Mw28 Hw28 Gw28 rfl Ww28 4 rfl (Nat.le_of_ble_eq_true rfl)
    have Nw28 := Fr.snoc Xw28 Nw23 gbb2
    refine Runs.go stw28 ?_
    show Runs p e below s _ _ _ (Tw28.setTop (mkF m 29 #[.val (.int x0), .val (.int x1), .unset, .unset, .unset, .unset] [(.ref b2)]))
    refine Runs.go (fun _ => XS.dup Xw28.here hx rfl (hb hby at_29) rfl rfl) ?_
    show Runs p e below s _ _ _ (Tw28.setTop (mkF m 30 #[.val (.int x0), .val (.int x1), .unset, .unset, .unset, .unset] [(.ref b2), (.ref b2)]))
    refine Runs.go (fun _ => XS.iconst Xw28.here hx rfl (hb hby at_30)) ?_
    show Runs p e below s _ _ _ (Tw28.setTop (mkF m 31 #[.val (.int x0), .val (.int x1), .unset, .unset, .unset, .unset] [(.int (5 : Int32)), (.ref b2), (.ref b2)]))
    refine Runs.go (fun _ => XS.bipush Xw28.here hx rfl (hb hby at_31)) ?_
    show Runs p e below s _ _ _ (Tw28.setTop (mkF m 33 #[.val (.int x0), .val (.int x1), .unset, .unset, .unset, .unset] [(.int (122 : Int32)), (.int (5 : Int32)), (.ref b2), (.ref b2)]))
    have VCw33 := Vw28
    obtain ⟨clw33, Arw33, qw33, Sw33, Mw33, Hw33, Gw33⟩ := VCw33
    have hinw33 : ¬ ((5 : Int32) < 0 ∨ clw33.slots.size ≤ ((5 : Int32)).toNatClampNeg) := inb_of Sw33 ⟨by decide, by decide⟩
    obtain ⟨Tw33, hw33, Xw33, ew33, Ww33, stw33⟩ := stI Xw28 hx hZ ew28 Arw33 (j := (5 : Int32)) hinw33 (g := (mkF m 33 #[.val (.int x0), .val (.int x1), .unset, .unset, .unset, .unset] [(.int (122 : Int32)), (.int (5 : Int32)), (.ref b2), (.ref b2)])) rfl rfl (hb hby at_33)
    have Vw33 : Arv Z hw33 b2 ka2 .int (33 : Int32) [(.int (58 : Int32)), (.int (65 : Int32)), (.int (90 : Int32)), (.int (95 : Int32)), (.int (97 : Int32)), (.int (122 : Int32)), (.int (0 : Int32)), (.int (0 : Int32)), (.int (0 : Int32)), (.int (0 : Int32)), (.int (0 : Int32)), (.int (0 : Int32)), (.int (0 : Int32)), (.int (0 : Int32)), (.int (0 : Int32)), (.int (0 : Int32)), (.int (0 : Int32)), (.int (0 : Int32)), (.int (0 : Int32)), (.int (0 : Int32)), (.int (0 : Int32)), (.int (0 : Int32)), (.int (0 : Int32)), (.int (0 : Int32)), (.int (0 : Int32)), (.int (0 : Int32)), (.int (0 : Int32)), (.int (0 : Int32)), (.int (0 : Int32)), (.int (0 : Int32)), (.int (0 : Int32)), (.int (0 : Int32)), (.int (0 : Int32))] (.int (0 : Int32)) := Arv.set Arw33 qw33 Sw33 Mw33 Hw33 Gw33 rfl Ww33 5 rfl (Nat.le_of_ble_eq_true rfl)
    have Nw33 := Fr.snoc Xw33 Nw28 gbb2
    refine Runs.go stw33 ?_
    show Runs p e below s _ _ _ (Tw33.setTop (mkF m 34 #[.val (.int x0), .val (.int x1), .unset, .unset, .unset, .unset] [(.ref b2)]))
    refine Runs.go (fun _ => XS.dup Xw33.here hx rfl (hb hby at_34) rfl rfl) ?_
    show Runs p e below s _ _ _ (Tw33.setTop (mkF m 35 #[.val (.int x0), .val (.int x1), .unset, .unset, .unset, .unset] [(.ref b2), (.ref b2)]))
    refine Runs.go (fun _ => XS.bipush Xw33.here hx rfl (hb hby at_35)) ?_
    show Runs p e below s _ _ _ (Tw33.setTop (mkF m 37 #[.val (.int x0), .val (.int x1), .unset, .unset, .unset, .unset] [(.int (6 : Int32)), (.ref b2), (.ref b2)]))
    refine Runs.go (fun _ => XS.sipush Xw33.here hx rfl (hb hby at_37)) ?_
    show Runs p e below s _ _ _ (Tw33.setTop (mkF m 40 #[.val (.int x0), .val (.int x1), .unset, .unset, .unset, .unset] [(.int (192 : Int32)), (.int (6 : Int32)), (.ref b2), (.ref b2)]))
    have VCw40 := Vw33
    obtain ⟨clw40, Arw40, qw40, Sw40, Mw40, Hw40, Gw40⟩ := VCw40
    have hinw40 : ¬ ((6 : Int32) < 0 ∨ clw40.slots.size ≤ ((6 : Int32)).toNatClampNeg) := inb_of Sw40 ⟨by decide, by decide⟩
    obtain ⟨Tw40, hw40, Xw40, ew40, Ww40, stw40⟩ := stI Xw33 hx hZ ew33 Arw40 (j := (6 : Int32)) hinw40 (g := (mkF m 40 #[.val (.int x0), .val (.int x1), .unset, .unset, .unset, .unset] [(.int (192 : Int32)), (.int (6 : Int32)), (.ref b2), (.ref b2)])) rfl rfl (hb hby at_40)
    have Vw40 : Arv Z hw40 b2 ka2 .int (33 : Int32) [(.int (58 : Int32)), (.int (65 : Int32)), (.int (90 : Int32)), (.int (95 : Int32)), (.int (97 : Int32)), (.int (122 : Int32)), (.int (192 : Int32)), (.int (0 : Int32)), (.int (0 : Int32)), (.int (0 : Int32)), (.int (0 : Int32)), (.int (0 : Int32)), (.int (0 : Int32)), (.int (0 : Int32)), (.int (0 : Int32)), (.int (0 : Int32)), (.int (0 : Int32)), (.int (0 : Int32)), (.int (0 : Int32)), (.int (0 : Int32)), (.int (0 : Int32)), (.int (0 : Int32)), (.int (0 : Int32)), (.int (0 : Int32)), (.int (0 : Int32)), (.int (0 : Int32)), (.int (0 : Int32)), (.int (0 : Int32)), (.int (0 : Int32)), (.int (0 : Int32)), (.int (0 : Int32)), (.int (0 : Int32)), (.int (0 : Int32))] (.int (0 : Int32)) := Arv.set Arw40 qw40 Sw40 Mw40 Hw40 Gw40 rfl Ww40 6 rfl (Nat.le_of_ble_eq_true rfl)
    have Nw40 := Fr.snoc Xw40 Nw33 gbb2
    refine Runs.go stw40 ?_
    show Runs p e below s _ _ _ (Tw40.setTop (mkF m 41 #[.val (.int x0), .val (.int x1), .unset, .unset, .unset, .unset] [(.ref b2)]))
    refine Runs.go (fun _ => XS.dup Xw40.here hx rfl (hb hby at_41) rfl rfl) ?_
    show Runs p e below s _ _ _ (Tw40.setTop (mkF m 42 #[.val (.int x0), .val (.int x1), .unset, .unset, .unset, .unset] [(.ref b2), (.ref b2)]))
    refine Runs.go (fun _ => XS.bipush Xw40.here hx rfl (hb hby at_42)) ?_
    show Runs p e below s _ _ _ (Tw40.setTop (mkF m 44 #[.val (.int x0), .val (.int x1), .unset, .unset, .unset, .unset] [(.int (7 : Int32)), (.ref b2), (.ref b2)]))
    refine Runs.go (fun _ => XS.sipush Xw40.here hx rfl (hb hby at_44)) ?_
    show Runs p e below s _ _ _ (Tw40.setTop (mkF m 47 #[.val (.int x0), .val (.int x1), .unset, .unset, .unset, .unset] [(.int (214 : Int32)), (.int (7 : Int32)), (.ref b2), (.ref b2)]))
    have VCw47 := Vw40
    obtain ⟨clw47, Arw47, qw47, Sw47, Mw47, Hw47, Gw47⟩ := VCw47
    have hinw47 : ¬ ((7 : Int32) < 0 ∨ clw47.slots.size ≤ ((7 : Int32)).toNatClampNeg) := inb_of Sw47 ⟨by decide, by decide⟩
    obtain ⟨Tw47, hw47, Xw47, ew47, Ww47, stw47⟩ := stI Xw40 hx hZ ew40 Arw47 (j := (7 : Int32)) hinw47 (g := (mkF m 47 #[.val (.int x0), .val (.int x1), .unset, .unset, .unset, .unset] [(.int (214 : Int32)), (.int (7 : Int32)), (.ref b2), (.ref b2)])) rfl rfl (hb hby at_47)
    have Vw47 : Arv Z hw47 b2 ka2 .int (33 : Int32) [(.int (58 : Int32)), (.int (65 : Int32)), (.int (90 : Int32)), (.int (95 : Int32)), (.int (97 : Int32)), (.int (122 : Int32)), (.int (192 : Int32)), (.int (214 : Int32)), (.int (0 : Int32)), (.int (0 : Int32)), (.int (0 : Int32)), (.int (0 : Int32)), (.int (0 : Int32)), (.int (0 : Int32)), (.int (0 : Int32)), (.int (0 : Int32)), (.int (0 : Int32)), (.int (0 : Int32)), (.int (0 : Int32)), (.int (0 : Int32)), (.int (0 : Int32)), (.int (0 : Int32)), (.int (0 : Int32)), (.int (0 : Int32)), (.int (0 : Int32)), (.int (0 : Int32)), (.int (0 : Int32)), (.int (0 : Int32)), (.int (0 : Int32)), (.int (0 : Int32)), (.int (0 : Int32)), (.int (0 : Int32)), (.int (0 : Int32))] (.int (0 : Int32)) := Arv.set Arw47 qw47 Sw47 Mw47 Hw47 Gw47 rfl Ww47 7 rfl (Nat.le_of_ble_eq_true rfl)
    have Nw47 := Fr.snoc Xw47 Nw40 gbb2
    refine Runs.go stw47 ?_
    show Runs p e below s _ _ _ (Tw47.setTop (mkF m 48 #[.val (.int x0), .val (.int x1), .unset, .unset, .unset, .unset] [(.ref b2)]))
    refine Runs.go (fun _ => XS.dup Xw47.here hx rfl (hb hby at_48) rfl rfl) ?_
    show Runs p e below s _ _ _ (Tw47.setTop (mkF m 49 #[.val (.int x0), .val (.int x1), .unset, .unset, .unset, .unset] [(.ref b2), (.ref b2)]))
    refine Runs.go (fun _ => XS.bipush Xw47.here hx rfl (hb hby at_49)) ?_
    show Runs p e below s _ _ _ (Tw47.setTop (mkF m 51 #[.val (.int x0), .val (.int x1), .unset, .unset, .unset, .unset] [(.int (8 : Int32)), (.ref b2), (.ref b2)]))
    refine Runs.go (fun _ => XS.sipush Xw47.here hx rfl (hb hby at_51)) ?_
    show Runs p e below s _ _ _ (Tw47.setTop (mkF m 54 #[.val (.int x0), .val (.int x1), .unset, .unset, .unset, .unset] [(.int (216 : Int32)), (.int (8 : Int32)), (.ref b2), (.ref b2)]))
    have VCw54 := Vw47
    obtain ⟨clw54, Arw54, qw54, Sw54, Mw54, Hw54, Gw54⟩ := VCw54
    have hinw54 : ¬ ((8 : Int32) < 0 ∨ clw54.slots.size ≤ ((8 : Int32)).toNatClampNeg) := inb_of Sw54 ⟨by decide, by decide⟩
    obtain ⟨Tw54, hw54, Xw54, ew54, Ww54, stw54⟩ := stI Xw47 hx hZ ew47 Arw54 (j := (8 : Int32)) hinw54 (g := (mkF m 54 #[.val (.int x0), .val (.int x1), .unset, .unset, .unset, .unset] [(.int (216 : Int32)), (.int (8 : Int32)), (.ref b2), (.ref b2)])) rfl rfl (hb hby at_54)
    have Vw54 : Arv Z hw54 b2 ka2 .int (33 : Int32) [(.int (58 : Int32)), (.int (65 : Int32)), (.int (90 : Int32)), (.int (95 : Int32)), (.int (97 : Int32)), (.int (122 : Int32)), (.int (192 : Int32)), (.int (214 : Int32)), (.int (216 : Int32)), (.int (0 : Int32)), (.int (0 : Int32)), (.int (0 : Int32)), (.int (0 : Int32)), (.int (0 : Int32)), (.int (0 : Int32)), (.int (0 : Int32)), (.int (0 : Int32)), (.int (0 : Int32)), (.int (0 : Int32)), (.int (0 : Int32)), (.int (0 : Int32)), (.int (0 : Int32)), (.int (0 : Int32)), (.int (0 : Int32)), (.int (0 : Int32)), (.int (0 : Int32)), (.int (0 : Int32)), (.int (0 : Int32)), (.int (0 : Int32)), (.int (0 : Int32)), (.int (0 : Int32)), (.int (0 : Int32)), (.int (0 : Int32))] (.int (0 : Int32)) := Arv.set Arw54 qw54 Sw54 Mw54 Hw54 Gw54 rfl Ww54 8 rfl (Nat.le_of_ble_eq_true rfl)
    have Nw54 := Fr.snoc Xw54 Nw47 gbb2
    refine Runs.go stw54 ?_
    show Runs p e below s _ _ _ (Tw54.setTop (mkF m 55 #[.val (.int x0), .val (.int x1), .unset, .unset, .unset, .unset] [(.ref b2)]))
    refine Runs.go (fun _ => XS.dup Xw54.here hx rfl (hb hby at_55) rfl rfl) ?_
    show Runs p e below s _ _ _ (Tw54.setTop (mkF m 56 #[.val (.int x0), .val (.int x1), .unset, .unset, .unset, .unset] [(.ref b2), (.ref b2)]))
    refine Runs.go (fun _ => XS.bipush Xw54.here hx rfl (hb hby at_56)) ?_
    show Runs p e below s _ _ _ (Tw54.setTop (mkF m 58 #[.val (.int x0), .val (.int x1), .unset, .unset, .unset, .unset] [(.int (9 : Int32)), (.ref b2), (.ref b2)]))
    refine Runs.go (fun _ => XS.sipush Xw54.here hx rfl (hb hby at_58)) ?_
    show Runs p e below s _ _ _ (Tw54.setTop (mkF m 61 #[.val (.int x0), .val (.int x1), .unset, .unset, .unset, .unset] [(.int (246 : Int32)), (.int (9 : Int32)), (.ref b2), (.ref b2)]))
    have VCw61 := Vw54
    obtain ⟨clw61, Arw61, qw61, Sw61, Mw61, Hw61, Gw61⟩ := VCw61
    have hinw61 : ¬ ((9 : Int32) < 0 ∨ clw61.slots.size ≤ ((9 : Int32)).toNatClampNeg) := inb_of Sw61 ⟨by decide, by decide⟩
    obtain ⟨Tw61, hw61, Xw61, ew61, Ww61, stw61⟩ := stI Xw54 hx hZ ew54 Arw61 (j := (9 : Int32)) hinw61 (g := (mkF m 61 #[.val (.int x0), .val (.int x1), .unset, .unset, .unset, .unset] [(.int (246 : Int32)), (.int (9 : Int32)), (.ref b2), (.ref b2)])) rfl rfl (hb hby at_61)
    have Vw61 : Arv Z hw61 b2 ka2 .int (33 : Int32) [(.int (58 : Int32)), (.int (65 : Int32)), (.int (90 : Int32)), (.int (95 : Int32)), (.int (97 : Int32)), (.int (122 : Int32)), (.int (192 : Int32)), (.int (214 : Int32)), (.int (216 : Int32)), (.int (246 : Int32)), (.int (0 : Int32)), (.int (0 : Int32)), (.int (0 : Int32)), (.int (0 : Int32)), (.int (0 : Int32)), (.int (0 : Int32)), (.int (0 : Int32)), (.int (0 : Int32)), (.int (0 : Int32)), (.int (0 : Int32)), (.int (0 : Int32)), (.int (0 : Int32)), (.int (0 : Int32)), (.int (0 : Int32)), (.int (0 : Int32)), (.int (0 : Int32)), (.int (0 : Int32)), (.int (0 : Int32)), (.int (0 : Int32)), (.int (0 : Int32)), (.int (0 : Int32)), (.int (0 : Int32)), (.int (0 : Int32))] (.int (0 : Int32)) := Arv.set Arw61 qw61 Sw61 Mw61 Hw61 Gw61 rfl Ww61 9 rfl (Nat.le_of_ble_eq_true rfl)
    have Nw61 := Fr.snoc Xw61 Nw54 gbb2
    refine Runs.go stw61 ?_
    show Runs p e below s _ _ _ (Tw61.setTop (mkF m 62 #[.val (.int x0), .val (.int x1), .unset, .unset, .unset, .unset] [(.ref b2)]))
    refine Runs.go (fun _ => XS.dup Xw61.here hx rfl (hb hby at_62) rfl rfl) ?_
    show Runs p e below s _ _ _ (Tw61.setTop (mkF m 63 #[.val (.int x0), .val (.int x1), .unset, .unset, .unset, .unset] [(.ref b2), (.ref b2)]))
    refine Runs.go (fun _ => XS.bipush Xw61.here hx rfl (hb hby at_63)) ?_
    show Runs p e below s _ _ _ (Tw61.setTop (mkF m 65 #[.val (.int x0), .val (.int x1), .unset, .unset, .unset, .unset] [(.int (10 : Int32)), (.ref b2), (.ref b2)]))
    refine Runs.go (fun _ => XS.sipush Xw61.here hx rfl (hb hby at_65)) ?_
    show Runs p e below s _ _ _ (Tw61.setTop (mkF m 68 #[.val (.int x0), .val (.int x1), .unset, .unset, .unset, .unset] [(.int (248 : Int32)), (.int (10 : Int32)), (.ref b2), (.ref b2)]))
    have VCw68 := Vw61
    obtain ⟨clw68, Arw68, qw68, Sw68, Mw68, Hw68, Gw68⟩ := VCw68
    have hinw68 : ¬ ((10 : Int32) < 0 ∨ clw68.slots.size ≤ ((10 : Int32)).toNatClampNeg) := inb_of Sw68 ⟨by decide, by decide⟩
    obtain ⟨Tw68, hw68, Xw68, ew68, Ww68, stw68⟩ := stI Xw61 hx hZ ew61 Arw68 (j := (10 : Int32)) hinw68 (g := (mkF m 68 #[.val (.int x0), .val (.int x1), .unset, .unset, .unset, .unset] [(.int (248 : Int32)), (.int (10 : Int32)), (.ref b2), (.ref b2)])) rfl rfl (hb hby at_68)
    have Vw68 : Arv Z hw68 b2 ka2 .int (33 : Int32) [(.int (58 : Int32)), (.int (65 : Int32)), (.int (90 : Int32)), (.int (95 : Int32)), (.int (97 : Int32)), (.int (122 : Int32)), (.int (192 : Int32)), (.int (214 : Int32)), (.int (216 : Int32)), (.int (246 : Int32)), (.int (248 : Int32)), (.int (0 : Int32)), (.int (0 : Int32)), (.int (0 : Int32)), (.int (0 : Int32)), (.int (0 : Int32)), (.int (0 : Int32)), (.int (0 : Int32)), (.int (0 : Int32)), (.int (0 : Int32)), (.int (0 : Int32)), (.int (0 : Int32)), (.int (0 : Int32)), (.int (0 : Int32)), (.int (0 : Int32)), (.int (0 : Int32)), (.int (0 : Int32)), (.int (0 : Int32)), (.int (0 : Int32)), (.int (0 : Int32)), (.int (0 : Int32)), (.int (0 : Int32)), (.int (0 : Int32))] (.int (0 : Int32)) := Arv.set Arw68 qw68 Sw68 Mw68 Hw68 Gw68 rfl Ww68 10 rfl (Nat.le_of_ble_eq_true rfl)
    have Nw68 := Fr.snoc Xw68 Nw61 gbb2
    refine Runs.go stw68 ?_
    show Runs p e below s _ _ _ (Tw68.setTop (mkF m 69 #[.val (.int x0), .val (.int x1), .unset, .unset, .unset, .unset] [(.ref b2)]))
    refine Runs.go (fun _ => XS.dup Xw68.here hx rfl (hb hby at_69) rfl rfl) ?_
    show Runs p e below s _ _ _ (Tw68.setTop (mkF m 70 #[.val (.int x0), .val (.int x1), .unset, .unset, .unset, .unset] [(.ref b2), (.ref b2)]))
    refine Runs.go (fun _ => XS.bipush Xw68.here hx rfl (hb hby at_70)) ?_
    show Runs p e below s _ _ _ (Tw68.setTop (mkF m 72 #[.val (.int x0), .val (.int x1), .unset, .unset, .unset, .unset] [(.int (11 : Int32)), (.ref b2), (.ref b2)]))
    refine Runs.go (fun _ => XS.sipush Xw68.here hx rfl (hb hby at_72)) ?_
    show Runs p e below s _ _ _ (Tw68.setTop (mkF m 75 #[.val (.int x0), .val (.int x1), .unset, .unset, .unset, .unset] [(.int (767 : Int32)), (.int (11 : Int32)), (.ref b2), (.ref b2)]))
    have VCw75 := Vw68
    obtain ⟨clw75, Arw75, qw75, Sw75, Mw75, Hw75, Gw75⟩ := VCw75
    have hinw75 : ¬ ((11 : Int32) < 0 ∨ clw75.slots.size ≤ ((11 : Int32)).toNatClampNeg) := inb_of Sw75 ⟨by decide, by decide⟩
    obtain ⟨Tw75, hw75, Xw75, ew75, Ww75, stw75⟩ := stI Xw68 hx hZ ew68 Arw75 (j := (11 : Int32)) hinw75 (g := (mkF m 75 #[.val (.int x0), .val (.int x1), .unset, .unset, .unset, .unset] [(.int (767 : Int32)), (.int (11 : Int32)), (.ref b2), (.ref b2)])) rfl rfl (hb hby at_75)
    have Vw75 : Arv Z hw75 b2 ka2 .int (33 : Int32) [(.int (58 : Int32)), (.int (65 : Int32)), (.int (90 : Int32)), (.int (95 : Int32)), (.int (97 : Int32)), (.int (122 : Int32)), (.int (192 : Int32)), (.int (214 : Int32)), (.int (216 : Int32)), (.int (246 : Int32)), (.int (248 : Int32)), (.int (767 : Int32)), (.int (0 : Int32)), (.int (0 : Int32)), (.int (0 : Int32)), (.int (0 : Int32)), (.int (0 : Int32)), (.int (0 : Int32)), (.int (0 : Int32)), (.int (0 : Int32)), (.int (0 : Int32)), (.int (0 : Int32)), (.int (0 : Int32)), (.int (0 : Int32)), (.int (0 : Int32)), (.int (0 : Int32)), (.int (0 : Int32)), (.int (0 : Int32)), (.int (0 : Int32)), (.int (0 : Int32)), (.int (0 : Int32)), (.int (0 : Int32)), (.int (0 : Int32))] (.int (0 : Int32)) := Arv.set Arw75 qw75 Sw75 Mw75 Hw75 Gw75 rfl Ww75 11 rfl (Nat.le_of_ble_eq_true rfl)
    have Nw75 := Fr.snoc Xw75 Nw68 gbb2
    refine Runs.go stw75 ?_
    show Runs p e below s _ _ _ (Tw75.setTop (mkF m 76 #[.val (.int x0), .val (.int x1), .unset, .unset, .unset, .unset] [(.ref b2)]))
    refine Runs.go (fun _ => XS.dup Xw75.here hx rfl (hb hby at_76) rfl rfl) ?_
    show Runs p e below s _ _ _ (Tw75.setTop (mkF m 77 #[.val (.int x0), .val (.int x1), .unset, .unset, .unset, .unset] [(.ref b2), (.ref b2)]))
    refine Runs.go (fun _ => XS.bipush Xw75.here hx rfl (hb hby at_77)) ?_
    show Runs p e below s _ _ _ (Tw75.setTop (mkF m 79 #[.val (.int x0), .val (.int x1), .unset, .unset, .unset, .unset] [(.int (12 : Int32)), (.ref b2), (.ref b2)]))
    refine Runs.go (fun _ => XS.sipush Xw75.here hx rfl (hb hby at_79)) ?_
    show Runs p e below s _ _ _ (Tw75.setTop (mkF m 82 #[.val (.int x0), .val (.int x1), .unset, .unset, .unset, .unset] [(.int (880 : Int32)), (.int (12 : Int32)), (.ref b2), (.ref b2)]))
    have VCw82 := Vw75
    obtain ⟨clw82, Arw82, qw82, Sw82, Mw82, Hw82, Gw82⟩ := VCw82
    have hinw82 : ¬ ((12 : Int32) < 0 ∨ clw82.slots.size ≤ ((12 : Int32)).toNatClampNeg) := inb_of Sw82 ⟨by decide, by decide⟩
    obtain ⟨Tw82, hw82, Xw82, ew82, Ww82, stw82⟩ := stI Xw75 hx hZ ew75 Arw82 (j := (12 : Int32)) hinw82 (g := (mkF m 82 #[.val (.int x0), .val (.int x1), .unset, .unset, .unset, .unset] [(.int (880 : Int32)), (.int (12 : Int32)), (.ref b2), (.ref b2)])) rfl rfl (hb hby at_82)
    have Vw82 : Arv Z hw82 b2 ka2 .int (33 : Int32) [(.int (58 : Int32)), (.int (65 : Int32)), (.int (90 : Int32)), (.int (95 : Int32)), (.int (97 : Int32)), (.int (122 : Int32)), (.int (192 : Int32)), (.int (214 : Int32)), (.int (216 : Int32)), (.int (246 : Int32)), (.int (248 : Int32)), (.int (767 : Int32)), (.int (880 : Int32)), (.int (0 : Int32)), (.int (0 : Int32)), (.int (0 : Int32)), (.int (0 : Int32)), (.int (0 : Int32)), (.int (0 : Int32)), (.int (0 : Int32)), (.int (0 : Int32)), (.int (0 : Int32)), (.int (0 : Int32)), (.int (0 : Int32)), (.int (0 : Int32)), (.int (0 : Int32)), (.int (0 : Int32)), (.int (0 : Int32)), (.int (0 : Int32)), (.int (0 : Int32)), (.int (0 : Int32)), (.int (0 : Int32)), (.int (0 : Int32))] (.int (0 : Int32)) := Arv.set Arw82 qw82 Sw82 Mw82 Hw82 Gw82 rfl Ww82 12 rfl (Nat.le_of_ble_eq_true rfl)
    have Nw82 := Fr.snoc Xw82 Nw75 gbb2
    refine Runs.go stw82 ?_
    show Runs p e below s _ _ _ (Tw82.setTop (mkF m 83 #[.val (.int x0), .val (.int x1), .unset, .unset, .unset, .unset] [(.ref b2)]))
    refine Runs.go (fun _ => XS.dup Xw82.here hx rfl (hb hby at_83) rfl rfl) ?_
    show Runs p e below s _ _ _ (Tw82.setTop (mkF m 84 #[.val (.int x0), .val (.int x1), .unset, .unset, .unset, .unset] [(.ref b2), (.ref b2)]))
    refine Runs.go (fun _ => XS.bipush Xw82.here hx rfl (hb hby at_84)) ?_
    show Runs p e below s _ _ _ (Tw82.setTop (mkF m 86 #[.val (.int x0), .val (.int x1), .unset, .unset, .unset, .unset] [(.int (13 : Int32)), (.ref b2), (.ref b2)]))
    refine Runs.go (fun _ => XS.sipush Xw82.here hx rfl (hb hby at_86)) ?_
    show Runs p e below s _ _ _ (Tw82.setTop (mkF m 89 #[.val (.int x0), .val (.int x1), .unset, .unset, .unset, .unset] [(.int (893 : Int32)), (.int (13 : Int32)), (.ref b2), (.ref b2)]))
    have VCw89 := Vw82
    obtain ⟨clw89, Arw89, qw89, Sw89, Mw89, Hw89, Gw89⟩ := VCw89
    have hinw89 : ¬ ((13 : Int32) < 0 ∨ clw89.slots.size ≤ ((13 : Int32)).toNatClampNeg) := inb_of Sw89 ⟨by decide, by decide⟩
    obtain ⟨Tw89, hw89, Xw89, ew89, Ww89, stw89⟩ := stI Xw82 hx hZ ew82 Arw89 (j := (13 : Int32)) hinw89 (g := (mkF m 89 #[.val (.int x0), .val (.int x1), .unset, .unset, .unset, .unset] [(.int (893 : Int32)), (.int (13 : Int32)), (.ref b2), (.ref b2)])) rfl rfl (hb hby at_89)
    have Vw89 : Arv Z hw89 b2 ka2 .int (33 : Int32) [(.int (58 : Int32)), (.int (65 : Int32)), (.int (90 : Int32)), (.int (95 : Int32)), (.int (97 : Int32)), (.int (122 : Int32)), (.int (192 : Int32)), (.int (214 : Int32)), (.int (216 : Int32)), (.int (246 : Int32)), (.int (248 : Int32)), (.int (767 : Int32)), (.int (880 : Int32)), (.int (893 : Int32)), (.int (0 : Int32)), (.int (0 : Int32)), (.int (0 : Int32)), (.int (0 : Int32)), (.int (0 : Int32)), (.int (0 : Int32)), (.int (0 : Int32)), (.int (0 : Int32)), (.int (0 : Int32)), (.int (0 : Int32)), (.int (0 : Int32)), (.int (0 : Int32)), (.int (0 : Int32)), (.int (0 : Int32)), (.int (0 : Int32)), (.int (0 : Int32)), (.int (0 : Int32)), (.int (0 : Int32)), (.int (0 : Int32))] (.int (0 : Int32)) := Arv.set Arw89 qw89 Sw89 Mw89 Hw89 Gw89 rfl Ww89 13 rfl (Nat.le_of_ble_eq_true rfl)
    have Nw89 := Fr.snoc Xw89 Nw82 gbb2
    refine Runs.go stw89 ?_
    show Runs p e below s _ _ _ (Tw89.setTop (mkF m 90 #[.val (.int x0), .val (.int x1), .unset, .unset, .unset, .unset] [(.ref b2)]))
    refine Runs.go (fun _ => XS.dup Xw89.here hx rfl (hb hby at_90) rfl rfl) ?_
    show Runs p e below s _ _ _ (Tw89.setTop (mkF m 91 #[.val (.int x0), .val (.int x1), .unset, .unset, .unset, .unset] [(.ref b2), (.ref b2)]))
    refine Runs.go (fun _ => XS.bipush Xw89.here hx rfl (hb hby at_91)) ?_
    show Runs p e below s _ _ _ (Tw89.setTop (mkF m 93 #[.val (.int x0), .val (.int x1), .unset, .unset, .unset, .unset] [(.int (14 : Int32)), (.ref b2), (.ref b2)]))
    refine Runs.go (fun _ => XS.sipush Xw89.here hx rfl (hb hby at_93)) ?_
    show Runs p e below s _ _ _ (Tw89.setTop (mkF m 96 #[.val (.int x0), .val (.int x1), .unset, .unset, .unset, .unset] [(.int (895 : Int32)), (.int (14 : Int32)), (.ref b2), (.ref b2)]))
    have VCw96 := Vw89
    obtain ⟨clw96, Arw96, qw96, Sw96, Mw96, Hw96, Gw96⟩ := VCw96
    have hinw96 : ¬ ((14 : Int32) < 0 ∨ clw96.slots.size ≤ ((14 : Int32)).toNatClampNeg) := inb_of Sw96 ⟨by decide, by decide⟩
    obtain ⟨Tw96, hw96, Xw96, ew96, Ww96, stw96⟩ := stI Xw89 hx hZ ew89 Arw96 (j := (14 : Int32)) hinw96 (g := (mkF m 96 #[.val (.int x0), .val (.int x1), .unset, .unset, .unset, .unset] [(.int (895 : Int32)), (.int (14 : Int32)), (.ref b2), (.ref b2)])) rfl rfl (hb hby at_96)
    have Vw96 : Arv Z hw96 b2 ka2 .int (33 : Int32) [(.int (58 : Int32)), (.int (65 : Int32)), (.int (90 : Int32)), (.int (95 : Int32)), (.int (97 : Int32)), (.int (122 : Int32)), (.int (192 : Int32)), (.int (214 : Int32)), (.int (216 : Int32)), (.int (246 : Int32)), (.int (248 : Int32)), (.int (767 : Int32)), (.int (880 : Int32)), (.int (893 : Int32)), (.int (895 : Int32)), (.int (0 : Int32)), (.int (0 : Int32)), (.int (0 : Int32)), (.int (0 : Int32)), (.int (0 : Int32)), (.int (0 : Int32)), (.int (0 : Int32)), (.int (0 : Int32)), (.int (0 : Int32)), (.int (0 : Int32)), (.int (0 : Int32)), (.int (0 : Int32)), (.int (0 : Int32)), (.int (0 : Int32)), (.int (0 : Int32)), (.int (0 : Int32)), (.int (0 : Int32)), (.int (0 : Int32))] (.int (0 : Int32)) := Arv.set Arw96 qw96 Sw96 Mw96 Hw96 Gw96 rfl Ww96 14 rfl (Nat.le_of_ble_eq_true rfl)
    have Nw96 := Fr.snoc Xw96 Nw89 gbb2
    refine Runs.go stw96 ?_
    show Runs p e below s _ _ _ (Tw96.setTop (mkF m 97 #[.val (.int x0), .val (.int x1), .unset, .unset, .unset, .unset] [(.ref b2)]))
    refine Runs.go (fun _ => XS.dup Xw96.here hx rfl (hb hby at_97) rfl rfl) ?_
    show Runs p e below s _ _ _ (Tw96.setTop (mkF m 98 #[.val (.int x0), .val (.int x1), .unset, .unset, .unset, .unset] [(.ref b2), (.ref b2)]))
    refine Runs.go (fun _ => XS.bipush Xw96.here hx rfl (hb hby at_98)) ?_
    show Runs p e below s _ _ _ (Tw96.setTop (mkF m 100 #[.val (.int x0), .val (.int x1), .unset, .unset, .unset, .unset] [(.int (15 : Int32)), (.ref b2), (.ref b2)]))
    refine Runs.go (fun _ => XS.sipush Xw96.here hx rfl (hb hby at_100)) ?_
    show Runs p e below s _ _ _ (Tw96.setTop (mkF m 103 #[.val (.int x0), .val (.int x1), .unset, .unset, .unset, .unset] [(.int (8191 : Int32)), (.int (15 : Int32)), (.ref b2), (.ref b2)]))
    have VCw103 := Vw96
    obtain ⟨clw103, Arw103, qw103, Sw103, Mw103, Hw103, Gw103⟩ := VCw103
    have hinw103 : ¬ ((15 : Int32) < 0 ∨ clw103.slots.size ≤ ((15 : Int32)).toNatClampNeg) := inb_of Sw103 ⟨by decide, by decide⟩
    obtain ⟨Tw103, hw103, Xw103, ew103, Ww103, stw103⟩ := stI Xw96 hx hZ ew96 Arw103 (j := (15 : Int32)) hinw103 (g := (mkF m 103 #[.val (.int x0), .val (.int x1), .unset, .unset, .unset, .unset] [(.int (8191 : Int32)), (.int (15 : Int32)), (.ref b2), (.ref b2)])) rfl rfl (hb hby at_103)
    have Vw103 : Arv Z hw103 b2 ka2 .int (33 : Int32) [(.int (58 : Int32)), (.int (65 : Int32)), (.int (90 : Int32)), (.int (95 : Int32)), (.int (97 : Int32)), (.int (122 : Int32)), (.int (192 : Int32)), (.int (214 : Int32)), (.int (216 : Int32)), (.int (246 : Int32)), (.int (248 : Int32)), (.int (767 : Int32)), (.int (880 : Int32)), (.int (893 : Int32)), (.int (895 : Int32)), (.int (8191 : Int32)), (.int (0 : Int32)), (.int (0 : Int32)), (.int (0 : Int32)), (.int (0 : Int32)), (.int (0 : Int32)), (.int (0 : Int32)), (.int (0 : Int32)), (.int (0 : Int32)), (.int (0 : Int32)), (.int (0 : Int32)), (.int (0 : Int32)), (.int (0 : Int32)), (.int (0 : Int32)), (.int (0 : Int32)), (.int (0 : Int32)), (.int (0 : Int32)), (.int (0 : Int32))] (.int (0 : Int32)) := Arv.set Arw103 qw103 Sw103 Mw103 Hw103 Gw103 rfl Ww103 15 rfl (Nat.le_of_ble_eq_true rfl)
    have Nw103 := Fr.snoc Xw103 Nw96 gbb2
    refine Runs.go stw103 ?_
    show Runs p e below s _ _ _ (Tw103.setTop (mkF m 104 #[.val (.int x0), .val (.int x1), .unset, .unset, .unset, .unset] [(.ref b2)]))
    refine Runs.go (fun _ => XS.dup Xw103.here hx rfl (hb hby at_104) rfl rfl) ?_
    show Runs p e below s _ _ _ (Tw103.setTop (mkF m 105 #[.val (.int x0), .val (.int x1), .unset, .unset, .unset, .unset] [(.ref b2), (.ref b2)]))
    refine Runs.go (fun _ => XS.bipush Xw103.here hx rfl (hb hby at_105)) ?_
    show Runs p e below s _ _ _ (Tw103.setTop (mkF m 107 #[.val (.int x0), .val (.int x1), .unset, .unset, .unset, .unset] [(.int (16 : Int32)), (.ref b2), (.ref b2)]))
    refine Runs.go (fun _ => XS.sipush Xw103.here hx rfl (hb hby at_107)) ?_
    show Runs p e below s _ _ _ (Tw103.setTop (mkF m 110 #[.val (.int x0), .val (.int x1), .unset, .unset, .unset, .unset] [(.int (8204 : Int32)), (.int (16 : Int32)), (.ref b2), (.ref b2)]))
    have VCw110 := Vw103
    obtain ⟨clw110, Arw110, qw110, Sw110, Mw110, Hw110, Gw110⟩ := VCw110
    have hinw110 : ¬ ((16 : Int32) < 0 ∨ clw110.slots.size ≤ ((16 : Int32)).toNatClampNeg) := inb_of Sw110 ⟨by decide, by decide⟩
    obtain ⟨Tw110, hw110, Xw110, ew110, Ww110, stw110⟩ := stI Xw103 hx hZ ew103 Arw110 (j := (16 : Int32)) hinw110 (g := (mkF m 110 #[.val (.int x0), .val (.int x1), .unset, .unset, .unset, .unset] [(.int (8204 : Int32)), (.int (16 : Int32)), (.ref b2), (.ref b2)])) rfl rfl (hb hby at_110)
    have Vw110 : Arv Z hw110 b2 ka2 .int (33 : Int32) [(.int (58 : Int32)), (.int (65 : Int32)), (.int (90 : Int32)), (.int (95 : Int32)), (.int (97 : Int32)), (.int (122 : Int32)), (.int (192 : Int32)), (.int (214 : Int32)), (.int (216 : Int32)), (.int (246 : Int32)), (.int (248 : Int32)), (.int (767 : Int32)), (.int (880 : Int32)), (.int (893 : Int32)), (.int (895 : Int32)), (.int (8191 : Int32)), (.int (8204 : Int32)), (.int (0 : Int32)), (.int (0 : Int32)), (.int (0 : Int32)), (.int (0 : Int32)), (.int (0 : Int32)), (.int (0 : Int32)), (.int (0 : Int32)), (.int (0 : Int32)), (.int (0 : Int32)), (.int (0 : Int32)), (.int (0 : Int32)), (.int (0 : Int32)), (.int (0 : Int32)), (.int (0 : Int32)), (.int (0 : Int32)), (.int (0 : Int32))] (.int (0 : Int32)) := Arv.set Arw110 qw110 Sw110 Mw110 Hw110 Gw110 rfl Ww110 16 rfl (Nat.le_of_ble_eq_true rfl)
    have Nw110 := Fr.snoc Xw110 Nw103 gbb2
    refine Runs.go stw110 ?_
    show Runs p e below s _ _ _ (Tw110.setTop (mkF m 111 #[.val (.int x0), .val (.int x1), .unset, .unset, .unset, .unset] [(.ref b2)]))
    refine Runs.go (fun _ => XS.dup Xw110.here hx rfl (hb hby at_111) rfl rfl) ?_
    show Runs p e below s _ _ _ (Tw110.setTop (mkF m 112 #[.val (.int x0), .val (.int x1), .unset, .unset, .unset, .unset] [(.ref b2), (.ref b2)]))
    refine Runs.go (fun _ => XS.bipush Xw110.here hx rfl (hb hby at_112)) ?_
    show Runs p e below s _ _ _ (Tw110.setTop (mkF m 114 #[.val (.int x0), .val (.int x1), .unset, .unset, .unset, .unset] [(.int (17 : Int32)), (.ref b2), (.ref b2)]))
    refine Runs.go (fun _ => XS.sipush Xw110.here hx rfl (hb hby at_114)) ?_
    show Runs p e below s _ _ _ (Tw110.setTop (mkF m 117 #[.val (.int x0), .val (.int x1), .unset, .unset, .unset, .unset] [(.int (8205 : Int32)), (.int (17 : Int32)), (.ref b2), (.ref b2)]))
    have VCw117 := Vw110
    obtain ⟨clw117, Arw117, qw117, Sw117, Mw117, Hw117, Gw117⟩ := VCw117
    have hinw117 : ¬ ((17 : Int32) < 0 ∨ clw117.slots.size ≤ ((17 : Int32)).toNatClampNeg) := inb_of Sw117 ⟨by decide, by decide⟩
    obtain ⟨Tw117, hw117, Xw117, ew117, Ww117, stw117⟩ := stI Xw110 hx hZ ew110 Arw117 (j := (17 : Int32)) hinw117 (g := (mkF m 117 #[.val (.int x0), .val (.int x1), .unset, .unset, .unset, .unset] [(.int (8205 : Int32)), (.int (17 : Int32)), (.ref b2), (.ref b2)])) rfl rfl (hb hby at_117)
    have Vw117 : Arv Z hw117 b2 ka2 .int (33 : Int32) [(.int (58 : Int32)), (.int (65 : Int32)), (.int (90 : Int32)), (.int (95 : Int32)), (.int (97 : Int32)), (.int (122 : Int32)), (.int (192 : Int32)), (.int (214 : Int32)), (.int (216 : Int32)), (.int (246 : Int32)), (.int (248 : Int32)), (.int (767 : Int32)), (.int (880 : Int32)), (.int (893 : Int32)), (.int (895 : Int32)), (.int (8191 : Int32)), (.int (8204 : Int32)), (.int (8205 : Int32)), (.int (0 : Int32)), (.int (0 : Int32)), (.int (0 : Int32)), (.int (0 : Int32)), (.int (0 : Int32)), (.int (0 : Int32)), (.int (0 : Int32)), (.int (0 : Int32)), (.int (0 : Int32)), (.int (0 : Int32)), (.int (0 : Int32)), (.int (0 : Int32)), (.int (0 : Int32)), (.int (0 : Int32)), (.int (0 : Int32))] (.int (0 : Int32)) := Arv.set Arw117 qw117 Sw117 Mw117 Hw117 Gw117 rfl Ww117 17 rfl (Nat.le_of_ble_eq_true rfl)
    have Nw117 := Fr.snoc Xw117 Nw110 gbb2
    refine Runs.go stw117 ?_
    show Runs p e below s _ _ _ (Tw117.setTop (mkF m 118 #[.val (.int x0), .val (.int x1), .unset, .unset, .unset, .unset] [(.ref b2)]))
    refine Runs.go (fun _ => XS.dup Xw117.here hx rfl (hb hby at_118) rfl rfl) ?_
    show Runs p e below s _ _ _ (Tw117.setTop (mkF m 119 #[.val (.int x0), .val (.int x1), .unset, .unset, .unset, .unset] [(.ref b2), (.ref b2)]))
    refine Runs.go (fun _ => XS.bipush Xw117.here hx rfl (hb hby at_119)) ?_
    show Runs p e below s _ _ _ (Tw117.setTop (mkF m 121 #[.val (.int x0), .val (.int x1), .unset, .unset, .unset, .unset] [(.int (18 : Int32)), (.ref b2), (.ref b2)]))
    refine Runs.go (fun _ => XS.sipush Xw117.here hx rfl (hb hby at_121)) ?_
    show Runs p e below s _ _ _ (Tw117.setTop (mkF m 124 #[.val (.int x0), .val (.int x1), .unset, .unset, .unset, .unset] [(.int (8304 : Int32)), (.int (18 : Int32)), (.ref b2), (.ref b2)]))
    have VCw124 := Vw117
    obtain ⟨clw124, Arw124, qw124, Sw124, Mw124, Hw124, Gw124⟩ := VCw124
    have hinw124 : ¬ ((18 : Int32) < 0 ∨ clw124.slots.size ≤ ((18 : Int32)).toNatClampNeg) := inb_of Sw124 ⟨by decide, by decide⟩
    obtain ⟨Tw124, hw124, Xw124, ew124, Ww124, stw124⟩ := stI Xw117 hx hZ ew117 Arw124 (j := (18 : Int32)) hinw124 (g := (mkF m 124 #[.val (.int x0), .val (.int x1), .unset, .unset, .unset, .unset] [(.int (8304 : Int32)), (.int (18 : Int32)), (.ref b2), (.ref b2)])) rfl rfl (hb hby at_124)
    have Vw124 : Arv Z hw124 b2 ka2 .int (33 : Int32) [(.int (58 : Int32)), (.int (65 : Int32)), (.int (90 : Int32)), (.int (95 : Int32)), (.int (97 : Int32)), (.int (122 : Int32)), (.int (192 : Int32)), (.int (214 : Int32)), (.int (216 : Int32)), (.int (246 : Int32)), (.int (248 : Int32)), (.int (767 : Int32)), (.int (880 : Int32)), (.int (893 : Int32)), (.int (895 : Int32)), (.int (8191 : Int32)), (.int (8204 : Int32)), (.int (8205 : Int32)), (.int (8304 : Int32)), (.int (0 : Int32)), (.int (0 : Int32)), (.int (0 : Int32)), (.int (0 : Int32)), (.int (0 : Int32)), (.int (0 : Int32)), (.int (0 : Int32)), (.int (0 : Int32)), (.int (0 : Int32)), (.int (0 : Int32)), (.int (0 : Int32)), (.int (0 : Int32)), (.int (0 : Int32)), (.int (0 : Int32))] (.int (0 : Int32)) := Arv.set Arw124 qw124 Sw124 Mw124 Hw124 Gw124 rfl Ww124 18 rfl (Nat.le_of_ble_eq_true rfl)
    have Nw124 := Fr.snoc Xw124 Nw117 gbb2
    refine Runs.go stw124 ?_
    show Runs p e below s _ _ _ (Tw124.setTop (mkF m 125 #[.val (.int x0), .val (.int x1), .unset, .unset, .unset, .unset] [(.ref b2)]))
    refine Runs.go (fun _ => XS.dup Xw124.here hx rfl (hb hby at_125) rfl rfl) ?_
    show Runs p e below s _ _ _ (Tw124.setTop (mkF m 126 #[.val (.int x0), .val (.int x1), .unset, .unset, .unset, .unset] [(.ref b2), (.ref b2)]))
    refine Runs.go (fun _ => XS.bipush Xw124.here hx rfl (hb hby at_126)) ?_
    show Runs p e below s _ _ _ (Tw124.setTop (mkF m 128 #[.val (.int x0), .val (.int x1), .unset, .unset, .unset, .unset] [(.int (19 : Int32)), (.ref b2), (.ref b2)]))
    refine Runs.go (fun _ => XS.sipush Xw124.here hx rfl (hb hby at_128)) ?_
    show Runs p e below s _ _ _ (Tw124.setTop (mkF m 131 #[.val (.int x0), .val (.int x1), .unset, .unset, .unset, .unset] [(.int (8591 : Int32)), (.int (19 : Int32)), (.ref b2), (.ref b2)]))
    have VCw131 := Vw124
    obtain ⟨clw131, Arw131, qw131, Sw131, Mw131, Hw131, Gw131⟩ := VCw131
    have hinw131 : ¬ ((19 : Int32) < 0 ∨ clw131.slots.size ≤ ((19 : Int32)).toNatClampNeg) := inb_of Sw131 ⟨by decide, by decide⟩
    obtain ⟨Tw131, hw131, Xw131, ew131, Ww131, stw131⟩ := stI Xw124 hx hZ ew124 Arw131 (j := (19 : Int32)) hinw131 (g := (mkF m 131 #[.val (.int x0), .val (.int x1), .unset, .unset, .unset, .unset] [(.int (8591 : Int32)), (.int (19 : Int32)), (.ref b2), (.ref b2)])) rfl rfl (hb hby at_131)
    have Vw131 : Arv Z hw131 b2 ka2 .int (33 : Int32) [(.int (58 : Int32)), (.int (65 : Int32)), (.int (90 : Int32)), (.int (95 : Int32)), (.int (97 : Int32)), (.int (122 : Int32)), (.int (192 : Int32)), (.int (214 : Int32)), (.int (216 : Int32)), (.int (246 : Int32)), (.int (248 : Int32)), (.int (767 : Int32)), (.int (880 : Int32)), (.int (893 : Int32)), (.int (895 : Int32)), (.int (8191 : Int32)), (.int (8204 : Int32)), (.int (8205 : Int32)), (.int (8304 : Int32)), (.int (8591 : Int32)), (.int (0 : Int32)), (.int (0 : Int32)), (.int (0 : Int32)), (.int (0 : Int32)), (.int (0 : Int32)), (.int (0 : Int32)), (.int (0 : Int32)), (.int (0 : Int32)), (.int (0 : Int32)), (.int (0 : Int32)), (.int (0 : Int32)), (.int (0 : Int32)), (.int (0 : Int32))] (.int (0 : Int32)) := Arv.set Arw131 qw131 Sw131 Mw131 Hw131 Gw131 rfl Ww131 19 rfl (Nat.le_of_ble_eq_true rfl)
    have Nw131 := Fr.snoc Xw131 Nw124 gbb2
    refine Runs.go stw131 ?_
    show Runs p e below s _ _ _ (Tw131.setTop (mkF m 132 #[.val (.int x0), .val (.int x1), .unset, .unset, .unset, .unset] [(.ref b2)]))
    refine Runs.go (fun _ => XS.dup Xw131.here hx rfl (hb hby at_132) rfl rfl) ?_
    show Runs p e below s _ _ _ (Tw131.setTop (mkF m 133 #[.val (.int x0), .val (.int x1), .unset, .unset, .unset, .unset] [(.ref b2), (.ref b2)]))
    refine Runs.go (fun _ => XS.bipush Xw131.here hx rfl (hb hby at_133)) ?_
    show Runs p e below s _ _ _ (Tw131.setTop (mkF m 135 #[.val (.int x0), .val (.int x1), .unset, .unset, .unset, .unset] [(.int (20 : Int32)), (.ref b2), (.ref b2)]))
    refine Runs.go (fun _ => XS.sipush Xw131.here hx rfl (hb hby at_135)) ?_
    show Runs p e below s _ _ _ (Tw131.setTop (mkF m 138 #[.val (.int x0), .val (.int x1), .unset, .unset, .unset, .unset] [(.int (11264 : Int32)), (.int (20 : Int32)), (.ref b2), (.ref b2)]))
    have VCw138 := Vw131
    obtain ⟨clw138, Arw138, qw138, Sw138, Mw138, Hw138, Gw138⟩ := VCw138
    have hinw138 : ¬ ((20 : Int32) < 0 ∨ clw138.slots.size ≤ ((20 : Int32)).toNatClampNeg) := inb_of Sw138 ⟨by decide, by decide⟩
    obtain ⟨Tw138, hw138, Xw138, ew138, Ww138, stw138⟩ := stI Xw131 hx hZ ew131 Arw138 (j := (20 : Int32)) hinw138 (g := (mkF m 138 #[.val (.int x0), .val (.int x1), .unset, .unset, .unset, .unset] [(.int (11264 : Int32)), (.int (20 : Int32)), (.ref b2), (.ref b2)])) rfl rfl (hb hby at_138)
    have Vw138 : Arv Z hw138 b2 ka2 .int (33 : Int32) [(.int (58 : Int32)), (.int (65 : Int32)), (.int (90 : Int32)), (.int (95 : Int32)), (.int (97 : Int32)), (.int (122 : Int32)), (.int (192 : Int32)), (.int (214 : Int32)), (.int (216 : Int32)), (.int (246 : Int32)), (.int (248 : Int32)), (.int (767 : Int32)), (.int (880 : Int32)), (.int (893 : Int32)), (.int (895 : Int32)), (.int (8191 : Int32)), (.int (8204 : Int32)), (.int (8205 : Int32)), (.int (8304 : Int32)), (.int (8591 : Int32)), (.int (11264 : Int32)), (.int (0 : Int32)), (.int (0 : Int32)), (.int (0 : Int32)), (.int (0 : Int32)), (.int (0 : Int32)), (.int (0 : Int32)), (.int (0 : Int32)), (.int (0 : Int32)), (.int (0 : Int32)), (.int (0 : Int32)), (.int (0 : Int32)), (.int (0 : Int32))] (.int (0 : Int32)) := Arv.set Arw138 qw138 Sw138 Mw138 Hw138 Gw138 rfl Ww138 20 rfl (Nat.le_of_ble_eq_true rfl)
    have Nw138 := Fr.snoc Xw138 Nw131 gbb2
    refine Runs.go stw138 ?_
    show Runs p e below s _ _ _ (Tw138.setTop (mkF m 139 #[.val (.int x0), .val (.int x1), .unset, .unset, .unset, .unset] [(.ref b2)]))
    refine Runs.go (fun _ => XS.dup Xw138.here hx rfl (hb hby at_139) rfl rfl) ?_
    show Runs p e below s _ _ _ (Tw138.setTop (mkF m 140 #[.val (.int x0), .val (.int x1), .unset, .unset, .unset, .unset] [(.ref b2), (.ref b2)]))
    refine Runs.go (fun _ => XS.bipush Xw138.here hx rfl (hb hby at_140)) ?_
    show Runs p e below s _ _ _ (Tw138.setTop (mkF m 142 #[.val (.int x0), .val (.int x1), .unset, .unset, .unset, .unset] [(.int (21 : Int32)), (.ref b2), (.ref b2)]))
    refine Runs.go (fun _ => XS.sipush Xw138.here hx rfl (hb hby at_142)) ?_
    show Runs p e below s _ _ _ (Tw138.setTop (mkF m 145 #[.val (.int x0), .val (.int x1), .unset, .unset, .unset, .unset] [(.int (12271 : Int32)), (.int (21 : Int32)), (.ref b2), (.ref b2)]))
    have VCw145 := Vw138
    obtain ⟨clw145, Arw145, qw145, Sw145, Mw145, Hw145, Gw145⟩ := VCw145
    have hinw145 : ¬ ((21 : Int32) < 0 ∨ clw145.slots.size ≤ ((21 : Int32)).toNatClampNeg) := inb_of Sw145 ⟨by decide, by decide⟩
    obtain ⟨Tw145, hw145, Xw145, ew145, Ww145, stw145⟩ := stI Xw138 hx hZ ew138 Arw145 (j := (21 : Int32)) hinw145 (g := (mkF m 145 #[.val (.int x0), .val (.int x1), .unset, .unset, .unset, .unset] [(.int (12271 : Int32)), (.int (21 : Int32)), (.ref b2), (.ref b2)])) rfl rfl (hb hby at_145)
    have Vw145 : Arv Z hw145 b2 ka2 .int (33 : Int32) [(.int (58 : Int32)), (.int (65 : Int32)), (.int (90 : Int32)), (.int (95 : Int32)), (.int (97 : Int32)), (.int (122 : Int32)), (.int (192 : Int32)), (.int (214 : Int32)), (.int (216 : Int32)), (.int (246 : Int32)), (.int (248 : Int32)), (.int (767 : Int32)), (.int (880 : Int32)), (.int (893 : Int32)), (.int (895 : Int32)), (.int (8191 : Int32)), (.int (8204 : Int32)), (.int (8205 : Int32)), (.int (8304 : Int32)), (.int (8591 : Int32)), (.int (11264 : Int32)), (.int (12271 : Int32)), (.int (0 : Int32)), (.int (0 : Int32)), (.int (0 : Int32)), (.int (0 : Int32)), (.int (0 : Int32)), (.int (0 : Int32)), (.int (0 : Int32)), (.int (0 : Int32)), (.int (0 : Int32)), (.int (0 : Int32)), (.int (0 : Int32))] (.int (0 : Int32)) := Arv.set Arw145 qw145 Sw145 Mw145 Hw145 Gw145 rfl Ww145 21 rfl (Nat.le_of_ble_eq_true rfl)
    have Nw145 := Fr.snoc Xw145 Nw138 gbb2
    refine Runs.go stw145 ?_
    show Runs p e below s _ _ _ (Tw145.setTop (mkF m 146 #[.val (.int x0), .val (.int x1), .unset, .unset, .unset, .unset] [(.ref b2)]))
    refine Runs.go (fun _ => XS.dup Xw145.here hx rfl (hb hby at_146) rfl rfl) ?_
    show Runs p e below s _ _ _ (Tw145.setTop (mkF m 147 #[.val (.int x0), .val (.int x1), .unset, .unset, .unset, .unset] [(.ref b2), (.ref b2)]))
    refine Runs.go (fun _ => XS.bipush Xw145.here hx rfl (hb hby at_147)) ?_
    show Runs p e below s _ _ _ (Tw145.setTop (mkF m 149 #[.val (.int x0), .val (.int x1), .unset, .unset, .unset, .unset] [(.int (22 : Int32)), (.ref b2), (.ref b2)]))
    refine Runs.go (fun _ => XS.sipush Xw145.here hx rfl (hb hby at_149)) ?_
    show Runs p e below s _ _ _ (Tw145.setTop (mkF m 152 #[.val (.int x0), .val (.int x1), .unset, .unset, .unset, .unset] [(.int (12289 : Int32)), (.int (22 : Int32)), (.ref b2), (.ref b2)]))
    have VCw152 := Vw145
    obtain ⟨clw152, Arw152, qw152, Sw152, Mw152, Hw152, Gw152⟩ := VCw152
    have hinw152 : ¬ ((22 : Int32) < 0 ∨ clw152.slots.size ≤ ((22 : Int32)).toNatClampNeg) := inb_of Sw152 ⟨by decide, by decide⟩
    obtain ⟨Tw152, hw152, Xw152, ew152, Ww152, stw152⟩ := stI Xw145 hx hZ ew145 Arw152 (j := (22 : Int32)) hinw152 (g := (mkF m 152 #[.val (.int x0), .val (.int x1), .unset, .unset, .unset, .unset] [(.int (12289 : Int32)), (.int (22 : Int32)), (.ref b2), (.ref b2)])) rfl rfl (hb hby at_152)
    have Vw152 : Arv Z hw152 b2 ka2 .int (33 : Int32) [(.int (58 : Int32)), (.int (65 : Int32)), (.int (90 : Int32)), (.int (95 : Int32)), (.int (97 : Int32)), (.int (122 : Int32)), (.int (192 : Int32)), (.int (214 : Int32)), (.int (216 : Int32)), (.int (246 : Int32)), (.int (248 : Int32)), (.int (767 : Int32)), (.int (880 : Int32)), (.int (893 : Int32)), (.int (895 : Int32)), (.int (8191 : Int32)), (.int (8204 : Int32)), (.int (8205 : Int32)), (.int (8304 : Int32)), (.int (8591 : Int32)), (.int (11264 : Int32)), (.int (12271 : Int32)), (.int (12289 : Int32)), (.int (0 : Int32)), (.int (0 : Int32)), (.int (0 : Int32)), (.int (0 : Int32)), (.int (0 : Int32)), (.int (0 : Int32)), (.int (0 : Int32)), (.int (0 : Int32)), (.int (0 : Int32)), (.int (0 : Int32))] (.int (0 : Int32)) := Arv.set Arw152 qw152 Sw152 Mw152 Hw152 Gw152 rfl Ww152 22 rfl (Nat.le_of_ble_eq_true rfl)
    have Nw152 := Fr.snoc Xw152 Nw145 gbb2
    refine Runs.go stw152 ?_
    show Runs p e below s _ _ _ (Tw152.setTop (mkF m 153 #[.val (.int x0), .val (.int x1), .unset, .unset, .unset, .unset] [(.ref b2)]))
    refine Runs.go (fun _ => XS.dup Xw152.here hx rfl (hb hby at_153) rfl rfl) ?_
    show Runs p e below s _ _ _ (Tw152.setTop (mkF m 154 #[.val (.int x0), .val (.int x1), .unset, .unset, .unset, .unset] [(.ref b2), (.ref b2)]))
    refine Runs.go (fun _ => XS.bipush Xw152.here hx rfl (hb hby at_154)) ?_
    show Runs p e below s _ _ _ (Tw152.setTop (mkF m 156 #[.val (.int x0), .val (.int x1), .unset, .unset, .unset, .unset] [(.int (23 : Int32)), (.ref b2), (.ref b2)]))
    refine Runs.go (Xw152.ldcInt hx hown (mvT hZ (hw _ (List.mem_of_getElem? (i := 1) rfl))) (g := (mkF m 156 #[.val (.int x0), .val (.int x1), .unset, .unset, .unset, .unset] [(.int (23 : Int32)), (.ref b2), (.ref b2)])) rfl (hb hby at_156)) ?_
    show Runs p e below s _ _ _ (Tw152.setTop (mkF m 158 #[.val (.int x0), .val (.int x1), .unset, .unset, .unset, .unset] [(.int (55295 : Int32)), (.int (23 : Int32)), (.ref b2), (.ref b2)]))
    have VCw158 := Vw152
    obtain ⟨clw158, Arw158, qw158, Sw158, Mw158, Hw158, Gw158⟩ := VCw158
    have hinw158 : ¬ ((23 : Int32) < 0 ∨ clw158.slots.size ≤ ((23 : Int32)).toNatClampNeg) := inb_of Sw158 ⟨by decide, by decide⟩
    obtain ⟨Tw158, hw158, Xw158, ew158, Ww158, stw158⟩ := stI Xw152 hx hZ ew152 Arw158 (j := (23 : Int32)) hinw158 (g := (mkF m 158 #[.val (.int x0), .val (.int x1), .unset, .unset, .unset, .unset] [(.int (55295 : Int32)), (.int (23 : Int32)), (.ref b2), (.ref b2)])) rfl rfl (hb hby at_158)
    have Vw158 : Arv Z hw158 b2 ka2 .int (33 : Int32) [(.int (58 : Int32)), (.int (65 : Int32)), (.int (90 : Int32)), (.int (95 : Int32)), (.int (97 : Int32)), (.int (122 : Int32)), (.int (192 : Int32)), (.int (214 : Int32)), (.int (216 : Int32)), (.int (246 : Int32)), (.int (248 : Int32)), (.int (767 : Int32)), (.int (880 : Int32)), (.int (893 : Int32)), (.int (895 : Int32)), (.int (8191 : Int32)), (.int (8204 : Int32)), (.int (8205 : Int32)), (.int (8304 : Int32)), (.int (8591 : Int32)), (.int (11264 : Int32)), (.int (12271 : Int32)), (.int (12289 : Int32)), (.int (55295 : Int32)), (.int (0 : Int32)), (.int (0 : Int32)), (.int (0 : Int32)), (.int (0 : Int32)), (.int (0 : Int32)), (.int (0 : Int32)), (.int (0 : Int32)), (.int (0 : Int32)), (.int (0 : Int32))] (.int (0 : Int32)) := Arv.set Arw158 qw158 Sw158 Mw158 Hw158 Gw158 rfl Ww158 23 rfl (Nat.le_of_ble_eq_true rfl)
    have Nw158 := Fr.snoc Xw158 Nw152 gbb2
    refine Runs.go stw158 ?_
    show Runs p e below s _ _ _ (Tw158.setTop (mkF m 159 #[.val (.int x0), .val (.int x1), .unset, .unset, .unset, .unset] [(.ref b2)]))
    refine Runs.go (fun _ => XS.dup Xw158.here hx rfl (hb hby at_159) rfl rfl) ?_
    show Runs p e below s _ _ _ (Tw158.setTop (mkF m 160 #[.val (.int x0), .val (.int x1), .unset, .unset, .unset, .unset] [(.ref b2), (.ref b2)]))
    refine Runs.go (fun _ => XS.bipush Xw158.here hx rfl (hb hby at_160)) ?_
    show Runs p e below s _ _ _ (Tw158.setTop (mkF m 162 #[.val (.int x0), .val (.int x1), .unset, .unset, .unset, .unset] [(.int (24 : Int32)), (.ref b2), (.ref b2)]))
    refine Runs.go (Xw158.ldcInt hx hown (mvT hZ (hw _ (List.mem_of_getElem? (i := 2) rfl))) (g := (mkF m 162 #[.val (.int x0), .val (.int x1), .unset, .unset, .unset, .unset] [(.int (24 : Int32)), (.ref b2), (.ref b2)])) rfl (hb hby at_162)) ?_
    show Runs p e below s _ _ _ (Tw158.setTop (mkF m 164 #[.val (.int x0), .val (.int x1), .unset, .unset, .unset, .unset] [(.int (63744 : Int32)), (.int (24 : Int32)), (.ref b2), (.ref b2)]))
    have VCw164 := Vw158
    obtain ⟨clw164, Arw164, qw164, Sw164, Mw164, Hw164, Gw164⟩ := VCw164
    have hinw164 : ¬ ((24 : Int32) < 0 ∨ clw164.slots.size ≤ ((24 : Int32)).toNatClampNeg) := inb_of Sw164 ⟨by decide, by decide⟩
    obtain ⟨Tw164, hw164, Xw164, ew164, Ww164, stw164⟩ := stI Xw158 hx hZ ew158 Arw164 (j := (24 : Int32)) hinw164 (g := (mkF m 164 #[.val (.int x0), .val (.int x1), .unset, .unset, .unset, .unset] [(.int (63744 : Int32)), (.int (24 : Int32)), (.ref b2), (.ref b2)])) rfl rfl (hb hby at_164)
    have Vw164 : Arv Z hw164 b2 ka2 .int (33 : Int32) [(.int (58 : Int32)), (.int (65 : Int32)), (.int (90 : Int32)), (.int (95 : Int32)), (.int (97 : Int32)), (.int (122 : Int32)), (.int (192 : Int32)), (.int (214 : Int32)), (.int (216 : Int32)), (.int (246 : Int32)), (.int (248 : Int32)), (.int (767 : Int32)), (.int (880 : Int32)), (.int (893 : Int32)), (.int (895 : Int32)), (.int (8191 : Int32)), (.int (8204 : Int32)), (.int (8205 : Int32)), (.int (8304 : Int32)), (.int (8591 : Int32)), (.int (11264 : Int32)), (.int (12271 : Int32)), (.int (12289 : Int32)), (.int (55295 : Int32)), (.int (63744 : Int32)), (.int (0 : Int32)), (.int (0 : Int32)), (.int (0 : Int32)), (.int (0 : Int32)), (.int (0 : Int32)), (.int (0 : Int32)), (.int (0 : Int32)), (.int (0 : Int32))] (.int (0 : Int32)) := Arv.set Arw164 qw164 Sw164 Mw164 Hw164 Gw164 rfl Ww164 24 rfl (Nat.le_of_ble_eq_true rfl)
    have Nw164 := Fr.snoc Xw164 Nw158 gbb2
    refine Runs.go stw164 ?_
    show Runs p e below s _ _ _ (Tw164.setTop (mkF m 165 #[.val (.int x0), .val (.int x1), .unset, .unset, .unset, .unset] [(.ref b2)]))
    refine Runs.go (fun _ => XS.dup Xw164.here hx rfl (hb hby at_165) rfl rfl) ?_
    show Runs p e below s _ _ _ (Tw164.setTop (mkF m 166 #[.val (.int x0), .val (.int x1), .unset, .unset, .unset, .unset] [(.ref b2), (.ref b2)]))
    refine Runs.go (fun _ => XS.bipush Xw164.here hx rfl (hb hby at_166)) ?_
    show Runs p e below s _ _ _ (Tw164.setTop (mkF m 168 #[.val (.int x0), .val (.int x1), .unset, .unset, .unset, .unset] [(.int (25 : Int32)), (.ref b2), (.ref b2)]))
    refine Runs.go (Xw164.ldcInt hx hown (mvT hZ (hw _ (List.mem_of_getElem? (i := 3) rfl))) (g := (mkF m 168 #[.val (.int x0), .val (.int x1), .unset, .unset, .unset, .unset] [(.int (25 : Int32)), (.ref b2), (.ref b2)])) rfl (hb hby at_168)) ?_
    show Runs p e below s _ _ _ (Tw164.setTop (mkF m 170 #[.val (.int x0), .val (.int x1), .unset, .unset, .unset, .unset] [(.int (64975 : Int32)), (.int (25 : Int32)), (.ref b2), (.ref b2)]))
    have VCw170 := Vw164
    obtain ⟨clw170, Arw170, qw170, Sw170, Mw170, Hw170, Gw170⟩ := VCw170
    have hinw170 : ¬ ((25 : Int32) < 0 ∨ clw170.slots.size ≤ ((25 : Int32)).toNatClampNeg) := inb_of Sw170 ⟨by decide, by decide⟩
    obtain ⟨Tw170, hw170, Xw170, ew170, Ww170, stw170⟩ := stI Xw164 hx hZ ew164 Arw170 (j := (25 : Int32)) hinw170 (g := (mkF m 170 #[.val (.int x0), .val (.int x1), .unset, .unset, .unset, .unset] [(.int (64975 : Int32)), (.int (25 : Int32)), (.ref b2), (.ref b2)])) rfl rfl (hb hby at_170)
    have Vw170 : Arv Z hw170 b2 ka2 .int (33 : Int32) [(.int (58 : Int32)), (.int (65 : Int32)), (.int (90 : Int32)), (.int (95 : Int32)), (.int (97 : Int32)), (.int (122 : Int32)), (.int (192 : Int32)), (.int (214 : Int32)), (.int (216 : Int32)), (.int (246 : Int32)), (.int (248 : Int32)), (.int (767 : Int32)), (.int (880 : Int32)), (.int (893 : Int32)), (.int (895 : Int32)), (.int (8191 : Int32)), (.int (8204 : Int32)), (.int (8205 : Int32)), (.int (8304 : Int32)), (.int (8591 : Int32)), (.int (11264 : Int32)), (.int (12271 : Int32)), (.int (12289 : Int32)), (.int (55295 : Int32)), (.int (63744 : Int32)), (.int (64975 : Int32)), (.int (0 : Int32)), (.int (0 : Int32)), (.int (0 : Int32)), (.int (0 : Int32)), (.int (0 : Int32)), (.int (0 : Int32)), (.int (0 : Int32))] (.int (0 : Int32)) := Arv.set Arw170 qw170 Sw170 Mw170 Hw170 Gw170 rfl Ww170 25 rfl (Nat.le_of_ble_eq_true rfl)
    have Nw170 := Fr.snoc Xw170 Nw164 gbb2
    refine Runs.go stw170 ?_
    show Runs p e below s _ _ _ (Tw170.setTop (mkF m 171 #[.val (.int x0), .val (.int x1), .unset, .unset, .unset, .unset] [(.ref b2)]))
    refine Runs.go (fun _ => XS.dup Xw170.here hx rfl (hb hby at_171) rfl rfl) ?_
    show Runs p e below s _ _ _ (Tw170.setTop (mkF m 172 #[.val (.int x0), .val (.int x1), .unset, .unset, .unset, .unset] [(.ref b2), (.ref b2)]))
    refine Runs.go (fun _ => XS.bipush Xw170.here hx rfl (hb hby at_172)) ?_
    show Runs p e below s _ _ _ (Tw170.setTop (mkF m 174 #[.val (.int x0), .val (.int x1), .unset, .unset, .unset, .unset] [(.int (26 : Int32)), (.ref b2), (.ref b2)]))
    refine Runs.go (Xw170.ldcInt hx hown (mvT hZ (hw _ (List.mem_of_getElem? (i := 4) rfl))) (g := (mkF m 174 #[.val (.int x0), .val (.int x1), .unset, .unset, .unset, .unset] [(.int (26 : Int32)), (.ref b2), (.ref b2)])) rfl (hb hby at_174)) ?_
    show Runs p e below s _ _ _ (Tw170.setTop (mkF m 176 #[.val (.int x0), .val (.int x1), .unset, .unset, .unset, .unset] [(.int (65008 : Int32)), (.int (26 : Int32)), (.ref b2), (.ref b2)]))
    have VCw176 := Vw170
    obtain ⟨clw176, Arw176, qw176, Sw176, Mw176, Hw176, Gw176⟩ := VCw176
    have hinw176 : ¬ ((26 : Int32) < 0 ∨ clw176.slots.size ≤ ((26 : Int32)).toNatClampNeg) := inb_of Sw176 ⟨by decide, by decide⟩
    obtain ⟨Tw176, hw176, Xw176, ew176, Ww176, stw176⟩ := stI Xw170 hx hZ ew170 Arw176 (j := (26 : Int32)) hinw176 (g := (mkF m 176 #[.val (.int x0), .val (.int x1), .unset, .unset, .unset, .unset] [(.int (65008 : Int32)), (.int (26 : Int32)), (.ref b2), (.ref b2)])) rfl rfl (hb hby at_176)
    have Vw176 : Arv Z hw176 b2 ka2 .int (33 : Int32) [(.int (58 : Int32)), (.int (65 : Int32)), (.int (90 : Int32)), (.int (95 : Int32)), (.int (97 : Int32)), (.int (122 : Int32)), (.int (192 : Int32)), (.int (214 : Int32)), (.int (216 : Int32)), (.int (246 : Int32)), (.int (248 : Int32)), (.int (767 : Int32)), (.int (880 : Int32)), (.int (893 : Int32)), (.int (895 : Int32)), (.int (8191 : Int32)), (.int (8204 : Int32)), (.int (8205 : Int32)), (.int (8304 : Int32)), (.int (8591 : Int32)), (.int (11264 : Int32)), (.int (12271 : Int32)), (.int (12289 : Int32)), (.int (55295 : Int32)), (.int (63744 : Int32)), (.int (64975 : Int32)), (.int (65008 : Int32)), (.int (0 : Int32)), (.int (0 : Int32)), (.int (0 : Int32)), (.int (0 : Int32)), (.int (0 : Int32)), (.int (0 : Int32))] (.int (0 : Int32)) := Arv.set Arw176 qw176 Sw176 Mw176 Hw176 Gw176 rfl Ww176 26 rfl (Nat.le_of_ble_eq_true rfl)
    have Nw176 := Fr.snoc Xw176 Nw170 gbb2
    refine Runs.go stw176 ?_
    show Runs p e below s _ _ _ (Tw176.setTop (mkF m 177 #[.val (.int x0), .val (.int x1), .unset, .unset, .unset, .unset] [(.ref b2)]))
    refine Runs.go (fun _ => XS.dup Xw176.here hx rfl (hb hby at_177) rfl rfl) ?_
    show Runs p e below s _ _ _ (Tw176.setTop (mkF m 178 #[.val (.int x0), .val (.int x1), .unset, .unset, .unset, .unset] [(.ref b2), (.ref b2)]))
    refine Runs.go (fun _ => XS.bipush Xw176.here hx rfl (hb hby at_178)) ?_
    show Runs p e below s _ _ _ (Tw176.setTop (mkF m 180 #[.val (.int x0), .val (.int x1), .unset, .unset, .unset, .unset] [(.int (27 : Int32)), (.ref b2), (.ref b2)]))
    refine Runs.go (Xw176.ldcInt hx hown (mvT hZ (hw _ (List.mem_of_getElem? (i := 5) rfl))) (g := (mkF m 180 #[.val (.int x0), .val (.int x1), .unset, .unset, .unset, .unset] [(.int (27 : Int32)), (.ref b2), (.ref b2)])) rfl (hb hby at_180)) ?_
    show Runs p e below s _ _ _ (Tw176.setTop (mkF m 182 #[.val (.int x0), .val (.int x1), .unset, .unset, .unset, .unset] [(.int (65533 : Int32)), (.int (27 : Int32)), (.ref b2), (.ref b2)]))
    have VCw182 := Vw176
    obtain ⟨clw182, Arw182, qw182, Sw182, Mw182, Hw182, Gw182⟩ := VCw182
    have hinw182 : ¬ ((27 : Int32) < 0 ∨ clw182.slots.size ≤ ((27 : Int32)).toNatClampNeg) := inb_of Sw182 ⟨by decide, by decide⟩
    obtain ⟨Tw182, hw182, Xw182, ew182, Ww182, stw182⟩ := stI Xw176 hx hZ ew176 Arw182 (j := (27 : Int32)) hinw182 (g := (mkF m 182 #[.val (.int x0), .val (.int x1), .unset, .unset, .unset, .unset] [(.int (65533 : Int32)), (.int (27 : Int32)), (.ref b2), (.ref b2)])) rfl rfl (hb hby at_182)
    have Vw182 : Arv Z hw182 b2 ka2 .int (33 : Int32) [(.int (58 : Int32)), (.int (65 : Int32)), (.int (90 : Int32)), (.int (95 : Int32)), (.int (97 : Int32)), (.int (122 : Int32)), (.int (192 : Int32)), (.int (214 : Int32)), (.int (216 : Int32)), (.int (246 : Int32)), (.int (248 : Int32)), (.int (767 : Int32)), (.int (880 : Int32)), (.int (893 : Int32)), (.int (895 : Int32)), (.int (8191 : Int32)), (.int (8204 : Int32)), (.int (8205 : Int32)), (.int (8304 : Int32)), (.int (8591 : Int32)), (.int (11264 : Int32)), (.int (12271 : Int32)), (.int (12289 : Int32)), (.int (55295 : Int32)), (.int (63744 : Int32)), (.int (64975 : Int32)), (.int (65008 : Int32)), (.int (65533 : Int32)), (.int (0 : Int32)), (.int (0 : Int32)), (.int (0 : Int32)), (.int (0 : Int32)), (.int (0 : Int32))] (.int (0 : Int32)) := Arv.set Arw182 qw182 Sw182 Mw182 Hw182 Gw182 rfl Ww182 27 rfl (Nat.le_of_ble_eq_true rfl)
    have Nw182 := Fr.snoc Xw182 Nw176 gbb2
    refine Runs.go stw182 ?_
    show Runs p e below s _ _ _ (Tw182.setTop (mkF m 183 #[.val (.int x0), .val (.int x1), .unset, .unset, .unset, .unset] [(.ref b2)]))
    refine Runs.go (fun _ => XS.dup Xw182.here hx rfl (hb hby at_183) rfl rfl) ?_
    show Runs p e below s _ _ _ (Tw182.setTop (mkF m 184 #[.val (.int x0), .val (.int x1), .unset, .unset, .unset, .unset] [(.ref b2), (.ref b2)]))
    refine Runs.go (fun _ => XS.bipush Xw182.here hx rfl (hb hby at_184)) ?_
    show Runs p e below s _ _ _ (Tw182.setTop (mkF m 186 #[.val (.int x0), .val (.int x1), .unset, .unset, .unset, .unset] [(.int (28 : Int32)), (.ref b2), (.ref b2)]))
    refine Runs.go (Xw182.ldcInt hx hown (mvT hZ (hw _ (List.mem_of_getElem? (i := 6) rfl))) (g := (mkF m 186 #[.val (.int x0), .val (.int x1), .unset, .unset, .unset, .unset] [(.int (28 : Int32)), (.ref b2), (.ref b2)])) rfl (hb hby at_186)) ?_
    show Runs p e below s _ _ _ (Tw182.setTop (mkF m 188 #[.val (.int x0), .val (.int x1), .unset, .unset, .unset, .unset] [(.int (65536 : Int32)), (.int (28 : Int32)), (.ref b2), (.ref b2)]))
    have VCw188 := Vw182
    obtain ⟨clw188, Arw188, qw188, Sw188, Mw188, Hw188, Gw188⟩ := VCw188
    have hinw188 : ¬ ((28 : Int32) < 0 ∨ clw188.slots.size ≤ ((28 : Int32)).toNatClampNeg) := inb_of Sw188 ⟨by decide, by decide⟩
    obtain ⟨Tw188, hw188, Xw188, ew188, Ww188, stw188⟩ := stI Xw182 hx hZ ew182 Arw188 (j := (28 : Int32)) hinw188 (g := (mkF m 188 #[.val (.int x0), .val (.int x1), .unset, .unset, .unset, .unset] [(.int (65536 : Int32)), (.int (28 : Int32)), (.ref b2), (.ref b2)])) rfl rfl (hb hby at_188)
    have Vw188 : Arv Z hw188 b2 ka2 .int (33 : Int32) [(.int (58 : Int32)), (.int (65 : Int32)), (.int (90 : Int32)), (.int (95 : Int32)), (.int (97 : Int32)), (.int (122 : Int32)), (.int (192 : Int32)), (.int (214 : Int32)), (.int (216 : Int32)), (.int (246 : Int32)), (.int (248 : Int32)), (.int (767 : Int32)), (.int (880 : Int32)), (.int (893 : Int32)), (.int (895 : Int32)), (.int (8191 : Int32)), (.int (8204 : Int32)), (.int (8205 : Int32)), (.int (8304 : Int32)), (.int (8591 : Int32)), (.int (11264 : Int32)), (.int (12271 : Int32)), (.int (12289 : Int32)), (.int (55295 : Int32)), (.int (63744 : Int32)), (.int (64975 : Int32)), (.int (65008 : Int32)), (.int (65533 : Int32)), (.int (65536 : Int32)), (.int (0 : Int32)), (.int (0 : Int32)), (.int (0 : Int32)), (.int (0 : Int32))] (.int (0 : Int32)) := Arv.set Arw188 qw188 Sw188 Mw188 Hw188 Gw188 rfl Ww188 28 rfl (Nat.le_of_ble_eq_true rfl)
    have Nw188 := Fr.snoc Xw188 Nw182 gbb2
    refine Runs.go stw188 ?_
    show Runs p e below s _ _ _ (Tw188.setTop (mkF m 189 #[.val (.int x0), .val (.int x1), .unset, .unset, .unset, .unset] [(.ref b2)]))
    refine Runs.go (fun _ => XS.dup Xw188.here hx rfl (hb hby at_189) rfl rfl) ?_
    show Runs p e below s _ _ _ (Tw188.setTop (mkF m 190 #[.val (.int x0), .val (.int x1), .unset, .unset, .unset, .unset] [(.ref b2), (.ref b2)]))
    refine Runs.go (fun _ => XS.bipush Xw188.here hx rfl (hb hby at_190)) ?_
    show Runs p e below s _ _ _ (Tw188.setTop (mkF m 192 #[.val (.int x0), .val (.int x1), .unset, .unset, .unset, .unset] [(.int (29 : Int32)), (.ref b2), (.ref b2)]))
    refine Runs.go (Xw188.ldcInt hx hown (mvT hZ (hw _ (List.mem_of_getElem? (i := 7) rfl))) (g := (mkF m 192 #[.val (.int x0), .val (.int x1), .unset, .unset, .unset, .unset] [(.int (29 : Int32)), (.ref b2), (.ref b2)])) rfl (hb hby at_192)) ?_
    show Runs p e below s _ _ _ (Tw188.setTop (mkF m 194 #[.val (.int x0), .val (.int x1), .unset, .unset, .unset, .unset] [(.int (983039 : Int32)), (.int (29 : Int32)), (.ref b2), (.ref b2)]))
    have VCw194 := Vw188
    obtain ⟨clw194, Arw194, qw194, Sw194, Mw194, Hw194, Gw194⟩ := VCw194
    have hinw194 : ¬ ((29 : Int32) < 0 ∨ clw194.slots.size ≤ ((29 : Int32)).toNatClampNeg) := inb_of Sw194 ⟨by decide, by decide⟩
    obtain ⟨Tw194, hw194, Xw194, ew194, Ww194, stw194⟩ := stI Xw188 hx hZ ew188 Arw194 (j := (29 : Int32)) hinw194 (g := (mkF m 194 #[.val (.int x0), .val (.int x1), .unset, .unset, .unset, .unset] [(.int (983039 : Int32)), (.int (29 : Int32)), (.ref b2), (.ref b2)])) rfl rfl (hb hby at_194)
    have Vw194 : Arv Z hw194 b2 ka2 .int (33 : Int32) [(.int (58 : Int32)), (.int (65 : Int32)), (.int (90 : Int32)), (.int (95 : Int32)), (.int (97 : Int32)), (.int (122 : Int32)), (.int (192 : Int32)), (.int (214 : Int32)), (.int (216 : Int32)), (.int (246 : Int32)), (.int (248 : Int32)), (.int (767 : Int32)), (.int (880 : Int32)), (.int (893 : Int32)), (.int (895 : Int32)), (.int (8191 : Int32)), (.int (8204 : Int32)), (.int (8205 : Int32)), (.int (8304 : Int32)), (.int (8591 : Int32)), (.int (11264 : Int32)), (.int (12271 : Int32)), (.int (12289 : Int32)), (.int (55295 : Int32)), (.int (63744 : Int32)), (.int (64975 : Int32)), (.int (65008 : Int32)), (.int (65533 : Int32)), (.int (65536 : Int32)), (.int (983039 : Int32)), (.int (0 : Int32)), (.int (0 : Int32)), (.int (0 : Int32))] (.int (0 : Int32)) := Arv.set Arw194 qw194 Sw194 Mw194 Hw194 Gw194 rfl Ww194 29 rfl (Nat.le_of_ble_eq_true rfl)
    have Nw194 := Fr.snoc Xw194 Nw188 gbb2
    refine Runs.go stw194 ?_
    show Runs p e below s _ _ _ (Tw194.setTop (mkF m 195 #[.val (.int x0), .val (.int x1), .unset, .unset, .unset, .unset] [(.ref b2)]))
    refine Runs.go (fun _ => XS.dup Xw194.here hx rfl (hb hby at_195) rfl rfl) ?_
    show Runs p e below s _ _ _ (Tw194.setTop (mkF m 196 #[.val (.int x0), .val (.int x1), .unset, .unset, .unset, .unset] [(.ref b2), (.ref b2)]))
    refine Runs.go (fun _ => XS.bipush Xw194.here hx rfl (hb hby at_196)) ?_
    show Runs p e below s _ _ _ (Tw194.setTop (mkF m 198 #[.val (.int x0), .val (.int x1), .unset, .unset, .unset, .unset] [(.int (30 : Int32)), (.ref b2), (.ref b2)]))
    refine Runs.go (fun _ => XS.iconst Xw194.here hx rfl (hb hby at_198)) ?_
    show Runs p e below s _ _ _ (Tw194.setTop (mkF m 199 #[.val (.int x0), .val (.int x1), .unset, .unset, .unset, .unset] [(.int (0 : Int32)), (.int (30 : Int32)), (.ref b2), (.ref b2)]))
    have VCw199 := Vw194
    obtain ⟨clw199, Arw199, qw199, Sw199, Mw199, Hw199, Gw199⟩ := VCw199
    have hinw199 : ¬ ((30 : Int32) < 0 ∨ clw199.slots.size ≤ ((30 : Int32)).toNatClampNeg) := inb_of Sw199 ⟨by decide, by decide⟩
    obtain ⟨Tw199, hw199, Xw199, ew199, Ww199, stw199⟩ := stI Xw194 hx hZ ew194 Arw199 (j := (30 : Int32)) hinw199 (g := (mkF m 199 #[.val (.int x0), .val (.int x1), .unset, .unset, .unset, .unset] [(.int (0 : Int32)), (.int (30 : Int32)), (.ref b2), (.ref b2)])) rfl rfl (hb hby at_199)
    have Vw199 : Arv Z hw199 b2 ka2 .int (33 : Int32) [(.int (58 : Int32)), (.int (65 : Int32)), (.int (90 : Int32)), (.int (95 : Int32)), (.int (97 : Int32)), (.int (122 : Int32)), (.int (192 : Int32)), (.int (214 : Int32)), (.int (216 : Int32)), (.int (246 : Int32)), (.int (248 : Int32)), (.int (767 : Int32)), (.int (880 : Int32)), (.int (893 : Int32)), (.int (895 : Int32)), (.int (8191 : Int32)), (.int (8204 : Int32)), (.int (8205 : Int32)), (.int (8304 : Int32)), (.int (8591 : Int32)), (.int (11264 : Int32)), (.int (12271 : Int32)), (.int (12289 : Int32)), (.int (55295 : Int32)), (.int (63744 : Int32)), (.int (64975 : Int32)), (.int (65008 : Int32)), (.int (65533 : Int32)), (.int (65536 : Int32)), (.int (983039 : Int32)), (.int (0 : Int32)), (.int (0 : Int32)), (.int (0 : Int32))] (.int (0 : Int32)) := Arv.set Arw199 qw199 Sw199 Mw199 Hw199 Gw199 rfl Ww199 30 rfl (Nat.le_of_ble_eq_true rfl)
    have Nw199 := Fr.snoc Xw199 Nw194 gbb2
    refine Runs.go stw199 ?_
    show Runs p e below s _ _ _ (Tw199.setTop (mkF m 200 #[.val (.int x0), .val (.int x1), .unset, .unset, .unset, .unset] [(.ref b2)]))
    refine Runs.go (fun _ => XS.dup Xw199.here hx rfl (hb hby at_200) rfl rfl) ?_
    show Runs p e below s _ _ _ (Tw199.setTop (mkF m 201 #[.val (.int x0), .val (.int x1), .unset, .unset, .unset, .unset] [(.ref b2), (.ref b2)]))
    refine Runs.go (fun _ => XS.bipush Xw199.here hx rfl (hb hby at_201)) ?_
    show Runs p e below s _ _ _ (Tw199.setTop (mkF m 203 #[.val (.int x0), .val (.int x1), .unset, .unset, .unset, .unset] [(.int (31 : Int32)), (.ref b2), (.ref b2)]))
    refine Runs.go (Xw199.ldcInt hx hown (mvT hZ (hw _ (List.mem_of_getElem? (i := 8) rfl))) (g := (mkF m 203 #[.val (.int x0), .val (.int x1), .unset, .unset, .unset, .unset] [(.int (31 : Int32)), (.ref b2), (.ref b2)])) rfl (hb hby at_203)) ?_
    show Runs p e below s _ _ _ (Tw199.setTop (mkF m 205 #[.val (.int x0), .val (.int x1), .unset, .unset, .unset, .unset] [(.int (-2147483648 : Int32)), (.int (31 : Int32)), (.ref b2), (.ref b2)]))
    have VCw205 := Vw199
    obtain ⟨clw205, Arw205, qw205, Sw205, Mw205, Hw205, Gw205⟩ := VCw205
    have hinw205 : ¬ ((31 : Int32) < 0 ∨ clw205.slots.size ≤ ((31 : Int32)).toNatClampNeg) := inb_of Sw205 ⟨by decide, by decide⟩
    obtain ⟨Tw205, hw205, Xw205, ew205, Ww205, stw205⟩ := stI Xw199 hx hZ ew199 Arw205 (j := (31 : Int32)) hinw205 (g := (mkF m 205 #[.val (.int x0), .val (.int x1), .unset, .unset, .unset, .unset] [(.int (-2147483648 : Int32)), (.int (31 : Int32)), (.ref b2), (.ref b2)])) rfl rfl (hb hby at_205)
    have Vw205 : Arv Z hw205 b2 ka2 .int (33 : Int32) [(.int (58 : Int32)), (.int (65 : Int32)), (.int (90 : Int32)), (.int (95 : Int32)), (.int (97 : Int32)), (.int (122 : Int32)), (.int (192 : Int32)), (.int (214 : Int32)), (.int (216 : Int32)), (.int (246 : Int32)), (.int (248 : Int32)), (.int (767 : Int32)), (.int (880 : Int32)), (.int (893 : Int32)), (.int (895 : Int32)), (.int (8191 : Int32)), (.int (8204 : Int32)), (.int (8205 : Int32)), (.int (8304 : Int32)), (.int (8591 : Int32)), (.int (11264 : Int32)), (.int (12271 : Int32)), (.int (12289 : Int32)), (.int (55295 : Int32)), (.int (63744 : Int32)), (.int (64975 : Int32)), (.int (65008 : Int32)), (.int (65533 : Int32)), (.int (65536 : Int32)), (.int (983039 : Int32)), (.int (0 : Int32)), (.int (-2147483648 : Int32)), (.int (0 : Int32))] (.int (0 : Int32)) := Arv.set Arw205 qw205 Sw205 Mw205 Hw205 Gw205 rfl Ww205 31 rfl (Nat.le_of_ble_eq_true rfl)
    have Nw205 := Fr.snoc Xw205 Nw199 gbb2
    refine Runs.go stw205 ?_
    show Runs p e below s _ _ _ (Tw205.setTop (mkF m 206 #[.val (.int x0), .val (.int x1), .unset, .unset, .unset, .unset] [(.ref b2)]))
    refine Runs.go (fun _ => XS.dup Xw205.here hx rfl (hb hby at_206) rfl rfl) ?_
    show Runs p e below s _ _ _ (Tw205.setTop (mkF m 207 #[.val (.int x0), .val (.int x1), .unset, .unset, .unset, .unset] [(.ref b2), (.ref b2)]))
    refine Runs.go (fun _ => XS.bipush Xw205.here hx rfl (hb hby at_207)) ?_
    show Runs p e below s _ _ _ (Tw205.setTop (mkF m 209 #[.val (.int x0), .val (.int x1), .unset, .unset, .unset, .unset] [(.int (32 : Int32)), (.ref b2), (.ref b2)]))
    refine Runs.go (Xw205.ldcInt hx hown (mvT hZ (hw _ (List.mem_of_getElem? (i := 9) rfl))) (g := (mkF m 209 #[.val (.int x0), .val (.int x1), .unset, .unset, .unset, .unset] [(.int (32 : Int32)), (.ref b2), (.ref b2)])) rfl (hb hby at_209)) ?_
    show Runs p e below s _ _ _ (Tw205.setTop (mkF m 211 #[.val (.int x0), .val (.int x1), .unset, .unset, .unset, .unset] [(.int (2147483647 : Int32)), (.int (32 : Int32)), (.ref b2), (.ref b2)]))
    have VCw211 := Vw205
    obtain ⟨clw211, Arw211, qw211, Sw211, Mw211, Hw211, Gw211⟩ := VCw211
    have hinw211 : ¬ ((32 : Int32) < 0 ∨ clw211.slots.size ≤ ((32 : Int32)).toNatClampNeg) := inb_of Sw211 ⟨by decide, by decide⟩
    obtain ⟨Tw211, hw211, Xw211, ew211, Ww211, stw211⟩ := stI Xw205 hx hZ ew205 Arw211 (j := (32 : Int32)) hinw211 (g := (mkF m 211 #[.val (.int x0), .val (.int x1), .unset, .unset, .unset, .unset] [(.int (2147483647 : Int32)), (.int (32 : Int32)), (.ref b2), (.ref b2)])) rfl rfl (hb hby at_211)
    have Vw211 : Arv Z hw211 b2 ka2 .int (33 : Int32) [(.int (58 : Int32)), (.int (65 : Int32)), (.int (90 : Int32)), (.int (95 : Int32)), (.int (97 : Int32)), (.int (122 : Int32)), (.int (192 : Int32)), (.int (214 : Int32)), (.int (216 : Int32)), (.int (246 : Int32)), (.int (248 : Int32)), (.int (767 : Int32)), (.int (880 : Int32)), (.int (893 : Int32)), (.int (895 : Int32)), (.int (8191 : Int32)), (.int (8204 : Int32)), (.int (8205 : Int32)), (.int (8304 : Int32)), (.int (8591 : Int32)), (.int (11264 : Int32)), (.int (12271 : Int32)), (.int (12289 : Int32)), (.int (55295 : Int32)), (.int (63744 : Int32)), (.int (64975 : Int32)), (.int (65008 : Int32)), (.int (65533 : Int32)), (.int (65536 : Int32)), (.int (983039 : Int32)), (.int (0 : Int32)), (.int (-2147483648 : Int32)), (.int (2147483647 : Int32))] (.int (0 : Int32)) := Arv.set Arw211 qw211 Sw211 Mw211 Hw211 Gw211 rfl Ww211 32 rfl (Nat.le_of_ble_eq_true rfl)
    have Nw211 := Fr.snoc Xw211 Nw205 gbb2
    refine Runs.go stw211 ?_
    show Runs p e below s _ _ _ (Tw211.setTop (mkF m 212 #[.val (.int x0), .val (.int x1), .unset, .unset, .unset, .unset] [(.ref b2)]))
    refine Runs.go (fun _ => XS.astoreN Xw211.here hx rfl (hb hby at_212) rfl rfl (l' := #[.val (.int x0), .val (.int x1), .val (.ref b2), .unset, .unset, .unset]) rfl) ?_
    show Runs p e below s _ _ _ (Tw211.setTop (mkF m 213 #[.val (.int x0), .val (.int x1), .val (.ref b2), .unset, .unset, .unset] []))
    refine Runs.go (fun _ => XS.iloadN Xw211.here hx rfl (hb hby at_213) rfl) ?_
    show Runs p e below s _ _ _ (Tw211.setTop (mkF m 214 #[.val (.int x0), .val (.int x1), .val (.ref b2), .unset, .unset, .unset] [(.int x1)]))
    refine Runs.go (fun _ => XS.iconst Xw211.here hx rfl (hb hby at_214)) ?_
    show Runs p e below s _ _ _ (Tw211.setTop (mkF m 215 #[.val (.int x0), .val (.int x1), .val (.ref b2), .unset, .unset, .unset] [(.int (1 : Int32)), (.int x1)]))
    refine Runs.go (fun _ => XS.iand Xw211.here hx rfl (hb hby at_215) rfl) ?_
    show Runs p e below s _ _ _ (Tw211.setTop (mkF m 216 #[.val (.int x0), .val (.int x1), .val (.ref b2), .unset, .unset, .unset] [(.int (x1 &&& (1 : Int32)))]))
    by_cases hc216 : (x1 &&& (1 : Int32)) = (0 : Int32)
    · have hv := (if_pos hc216).symm.trans hv
      refine Runs.go (fun _ => XS.ifNo Xw211.here hx rfl (hb hby at_216) rfl ((if0 _ _).trans (teq hc216).2)) ?_
      show Runs p e below s _ _ _ (Tw211.setTop (mkF m 219 #[.val (.int x0), .val (.int x1), .val (.ref b2), .unset, .unset, .unset] []))
      refine Runs.go (fun _ => XS.iloadN Xw211.here hx rfl (hb hby at_219) rfl) ?_
      show Runs p e below s _ _ _ (Tw211.setTop (mkF m 220 #[.val (.int x0), .val (.int x1), .val (.ref b2), .unset, .unset, .unset] [(.int x0)]))
      refine Runs.go (fun _ => XS.istoreN Xw211.here hx rfl (hb hby at_220) rfl (l' := #[.val (.int x0), .val (.int x1), .val (.ref b2), .val (.int x0), .unset, .unset]) rfl) ?_
      show Runs p e below s _ _ _ (Tw211.setTop (mkF m 221 #[.val (.int x0), .val (.int x1), .val (.ref b2), .val (.int x0), .unset, .unset] []))
      refine Runs.go (fun _ => XS.goto Xw211.here hx rfl (pc0 := 221) (pc' := 250) rfl (hb hby at_221) (by decide) (by decide)) ?_
      show Runs p e below s _ _ _ (Tw211.setTop (mkF m 250 #[.val (.int x0), .val (.int x1), .val (.ref b2), .val (.int x0), .unset, .unset] []))
      exact k_250 _ _ _ Xw211 ew211 Nw211 x0 x1 b2 x0 (.unset) (.unset) hv
    · have hv := (if_neg hc216).symm.trans hv
      refine Runs.go (fun _ => XS.ifYes Xw211.here hx rfl (pc0 := 216) (pc' := 224) rfl (hb hby at_216) rfl ((if0 _ _).trans (feq hc216).2) (by decide) (by decide)) ?_
      show Runs p e below s _ _ _ (Tw211.setTop (mkF m 224 #[.val (.int x0), .val (.int x1), .val (.ref b2), .unset, .unset, .unset] []))
      refine Runs.go (fun _ => XS.iloadN Xw211.here hx rfl (hb hby at_224) rfl) ?_
      show Runs p e below s _ _ _ (Tw211.setTop (mkF m 225 #[.val (.int x0), .val (.int x1), .val (.ref b2), .unset, .unset, .unset] [(.int x1)]))
      refine Runs.go (fun _ => XS.iconst Xw211.here hx rfl (hb hby at_225)) ?_
      show Runs p e below s _ _ _ (Tw211.setTop (mkF m 226 #[.val (.int x0), .val (.int x1), .val (.ref b2), .unset, .unset, .unset] [(.int (1 : Int32)), (.int x1)]))
      refine Runs.go (fun _ => XS.iushr Xw211.here hx rfl (hb hby at_226) rfl) ?_
      show Runs p e below s _ _ _ (Tw211.setTop (mkF m 227 #[.val (.int x0), .val (.int x1), .val (.ref b2), .unset, .unset, .unset] [(.int ((x1.toUInt32 >>> ((1 : Int32) &&& 31).toUInt32).toInt32))]))
      refine Runs.go (fun _ => XS.aloadN Xw211.here hx rfl (hb hby at_227) rfl rfl) ?_
      show Runs p e below s _ _ _ (Tw211.setTop (mkF m 228 #[.val (.int x0), .val (.int x1), .val (.ref b2), .unset, .unset, .unset] [(.ref b2), (.int ((x1.toUInt32 >>> ((1 : Int32) &&& 31).toUInt32).toInt32))]))
      have VCl228 := Vw211
      obtain ⟨cll228, Arl228, -, Sl228, Ml228, -, -⟩ := VCl228
      refine Runs.go (Xw211.arraylength hx (by rw [ew211]; exact Arl228.1) (State.isArrayOf_alike hZ.alike Arl228.2.1) (g := (mkF m 228 #[.val (.int x0), .val (.int x1), .val (.ref b2), .unset, .unset, .unset] [(.ref b2), (.int ((x1.toUInt32 >>> ((1 : Int32) &&& 31).toUInt32).toInt32))])) rfl rfl (hb hby at_228)) ?_
      rw [len_of Sl228 Ml228]
      show Runs p e below s _ _ _ (Tw211.setTop (mkF m 229 #[.val (.int x0), .val (.int x1), .val (.ref b2), .unset, .unset, .unset] [(.int (33 : Int32)), (.int ((x1.toUInt32 >>> ((1 : Int32) &&& 31).toUInt32).toInt32))]))
      refine Runs.go (fun _ => XS.irem Xw211.here hx rfl (hb hby at_229) rfl (by decide)) ?_
      show Runs p e below s _ _ _ (Tw211.setTop (mkF m 230 #[.val (.int x0), .val (.int x1), .val (.ref b2), .unset, .unset, .unset] [(.int (((x1.toUInt32 >>> ((1 : Int32) &&& 31).toUInt32).toInt32) - (((x1.toUInt32 >>> ((1 : Int32) &&& 31).toUInt32).toInt32) / (33 : Int32)) * (33 : Int32)))]))
      refine Runs.go (fun _ => XS.istore Xw211.here hx rfl (hb hby at_230) rfl (l' := #[.val (.int x0), .val (.int x1), .val (.ref b2), .unset, .val (.int (((x1.toUInt32 >>> ((1 : Int32) &&& 31).toUInt32).toInt32) - (((x1.toUInt32 >>> ((1 : Int32) &&& 31).toUInt32).toInt32) / (33 : Int32)) * (33 : Int32))), .unset]) rfl) ?_
      show Runs p e below s _ _ _ (Tw211.setTop (mkF m 232 #[.val (.int x0), .val (.int x1), .val (.ref b2), .unset, .val (.int (((x1.toUInt32 >>> ((1 : Int32) &&& 31).toUInt32).toInt32) - (((x1.toUInt32 >>> ((1 : Int32) &&& 31).toUInt32).toInt32) / (33 : Int32)) * (33 : Int32))), .unset] []))
      refine Runs.go (fun _ => XS.iloadN Xw211.here hx rfl (hb hby at_232) rfl) ?_
      show Runs p e below s _ _ _ (Tw211.setTop (mkF m 233 #[.val (.int x0), .val (.int x1), .val (.ref b2), .unset, .val (.int (((x1.toUInt32 >>> ((1 : Int32) &&& 31).toUInt32).toInt32) - (((x1.toUInt32 >>> ((1 : Int32) &&& 31).toUInt32).toInt32) / (33 : Int32)) * (33 : Int32))), .unset] [(.int x1)]))
      refine Runs.go (fun _ => XS.bipush Xw211.here hx rfl (hb hby at_233)) ?_
      show Runs p e below s _ _ _ (Tw211.setTop (mkF m 235 #[.val (.int x0), .val (.int x1), .val (.ref b2), .unset, .val (.int (((x1.toUInt32 >>> ((1 : Int32) &&& 31).toUInt32).toInt32) - (((x1.toUInt32 >>> ((1 : Int32) &&& 31).toUInt32).toInt32) / (33 : Int32)) * (33 : Int32))), .unset] [(.int (8 : Int32)), (.int x1)]))
      refine Runs.go (fun _ => XS.iushr Xw211.here hx rfl (hb hby at_235) rfl) ?_
      show Runs p e below s _ _ _ (Tw211.setTop (mkF m 236 #[.val (.int x0), .val (.int x1), .val (.ref b2), .unset, .val (.int (((x1.toUInt32 >>> ((1 : Int32) &&& 31).toUInt32).toInt32) - (((x1.toUInt32 >>> ((1 : Int32) &&& 31).toUInt32).toInt32) / (33 : Int32)) * (33 : Int32))), .unset] [(.int ((x1.toUInt32 >>> ((8 : Int32) &&& 31).toUInt32).toInt32))]))
      refine Runs.go (fun _ => XS.iconst Xw211.here hx rfl (hb hby at_236)) ?_
      show Runs p e below s _ _ _ (Tw211.setTop (mkF m 237 #[.val (.int x0), .val (.int x1), .val (.ref b2), .unset, .val (.int (((x1.toUInt32 >>> ((1 : Int32) &&& 31).toUInt32).toInt32) - (((x1.toUInt32 >>> ((1 : Int32) &&& 31).toUInt32).toInt32) / (33 : Int32)) * (33 : Int32))), .unset] [(.int (3 : Int32)), (.int ((x1.toUInt32 >>> ((8 : Int32) &&& 31).toUInt32).toInt32))]))
      refine Runs.go (fun _ => XS.irem Xw211.here hx rfl (hb hby at_237) rfl (by decide)) ?_
      show Runs p e below s _ _ _ (Tw211.setTop (mkF m 238 #[.val (.int x0), .val (.int x1), .val (.ref b2), .unset, .val (.int (((x1.toUInt32 >>> ((1 : Int32) &&& 31).toUInt32).toInt32) - (((x1.toUInt32 >>> ((1 : Int32) &&& 31).toUInt32).toInt32) / (33 : Int32)) * (33 : Int32))), .unset] [(.int (((x1.toUInt32 >>> ((8 : Int32) &&& 31).toUInt32).toInt32) - (((x1.toUInt32 >>> ((8 : Int32) &&& 31).toUInt32).toInt32) / (3 : Int32)) * (3 : Int32)))]))
      refine Runs.go (fun _ => XS.iconst Xw211.here hx rfl (hb hby at_238)) ?_
      show Runs p e below s _ _ _ (Tw211.setTop (mkF m 239 #[.val (.int x0), .val (.int x1), .val (.ref b2), .unset, .val (.int (((x1.toUInt32 >>> ((1 : Int32) &&& 31).toUInt32).toInt32) - (((x1.toUInt32 >>> ((1 : Int32) &&& 31).toUInt32).toInt32) / (33 : Int32)) * (33 : Int32))), .unset] [(.int (1 : Int32)), (.int (((x1.toUInt32 >>> ((8 : Int32) &&& 31).toUInt32).toInt32) - (((x1.toUInt32 >>> ((8 : Int32) &&& 31).toUInt32).toInt32) / (3 : Int32)) * (3 : Int32)))]))
      refine Runs.go (fun _ => XS.isub Xw211.here hx rfl (hb hby at_239) rfl) ?_
      show Runs p e below s _ _ _ (Tw211.setTop (mkF m 240 #[.val (.int x0), .val (.int x1), .val (.ref b2), .unset, .val (.int (((x1.toUInt32 >>> ((1 : Int32) &&& 31).toUInt32).toInt32) - (((x1.toUInt32 >>> ((1 : Int32) &&& 31).toUInt32).toInt32) / (33 : Int32)) * (33 : Int32))), .unset] [(.int ((((x1.toUInt32 >>> ((8 : Int32) &&& 31).toUInt32).toInt32) - (((x1.toUInt32 >>> ((8 : Int32) &&& 31).toUInt32).toInt32) / (3 : Int32)) * (3 : Int32)) - (1 : Int32)))]))
      refine Runs.go (fun _ => XS.istore Xw211.here hx rfl (hb hby at_240) rfl (l' := #[.val (.int x0), .val (.int x1), .val (.ref b2), .unset, .val (.int (((x1.toUInt32 >>> ((1 : Int32) &&& 31).toUInt32).toInt32) - (((x1.toUInt32 >>> ((1 : Int32) &&& 31).toUInt32).toInt32) / (33 : Int32)) * (33 : Int32))), .val (.int ((((x1.toUInt32 >>> ((8 : Int32) &&& 31).toUInt32).toInt32) - (((x1.toUInt32 >>> ((8 : Int32) &&& 31).toUInt32).toInt32) / (3 : Int32)) * (3 : Int32)) - (1 : Int32)))]) rfl) ?_
      show Runs p e below s _ _ _ (Tw211.setTop (mkF m 242 #[.val (.int x0), .val (.int x1), .val (.ref b2), .unset, .val (.int (((x1.toUInt32 >>> ((1 : Int32) &&& 31).toUInt32).toInt32) - (((x1.toUInt32 >>> ((1 : Int32) &&& 31).toUInt32).toInt32) / (33 : Int32)) * (33 : Int32))), .val (.int ((((x1.toUInt32 >>> ((8 : Int32) &&& 31).toUInt32).toInt32) - (((x1.toUInt32 >>> ((8 : Int32) &&& 31).toUInt32).toInt32) / (3 : Int32)) * (3 : Int32)) - (1 : Int32)))] []))
      refine Runs.go (fun _ => XS.aloadN Xw211.here hx rfl (hb hby at_242) rfl rfl) ?_
      show Runs p e below s _ _ _ (Tw211.setTop (mkF m 243 #[.val (.int x0), .val (.int x1), .val (.ref b2), .unset, .val (.int (((x1.toUInt32 >>> ((1 : Int32) &&& 31).toUInt32).toInt32) - (((x1.toUInt32 >>> ((1 : Int32) &&& 31).toUInt32).toInt32) / (33 : Int32)) * (33 : Int32))), .val (.int ((((x1.toUInt32 >>> ((8 : Int32) &&& 31).toUInt32).toInt32) - (((x1.toUInt32 >>> ((8 : Int32) &&& 31).toUInt32).toInt32) / (3 : Int32)) * (3 : Int32)) - (1 : Int32)))] [(.ref b2)]))
      refine Runs.go (fun _ => XS.iload Xw211.here hx rfl (hb hby at_243) rfl) ?_
      show Runs p e below s _ _ _ (Tw211.setTop (mkF m 245 #[.val (.int x0), .val (.int x1), .val (.ref b2), .unset, .val (.int (((x1.toUInt32 >>> ((1 : Int32) &&& 31).toUInt32).toInt32) - (((x1.toUInt32 >>> ((1 : Int32) &&& 31).toUInt32).toInt32) / (33 : Int32)) * (33 : Int32))), .val (.int ((((x1.toUInt32 >>> ((8 : Int32) &&& 31).toUInt32).toInt32) - (((x1.toUInt32 >>> ((8 : Int32) &&& 31).toUInt32).toInt32) / (3 : Int32)) * (3 : Int32)) - (1 : Int32)))] [(.int (((x1.toUInt32 >>> ((1 : Int32) &&& 31).toUInt32).toInt32) - (((x1.toUInt32 >>> ((1 : Int32) &&& 31).toUInt32).toInt32) / (33 : Int32)) * (33 : Int32))), (.ref b2)]))
      have VVr245 : Arv Z hw211 b2 ka2 .int (33 : Int32) (List.map Value.int [(58 : Int32), (65 : Int32), (90 : Int32), (95 : Int32), (97 : Int32), (122 : Int32), (192 : Int32), (214 : Int32), (216 : Int32), (246 : Int32), (248 : Int32), (767 : Int32), (880 : Int32), (893 : Int32), (895 : Int32), (8191 : Int32), (8204 : Int32), (8205 : Int32), (8304 : Int32), (8591 : Int32), (11264 : Int32), (12271 : Int32), (12289 : Int32), (55295 : Int32), (63744 : Int32), (64975 : Int32), (65008 : Int32), (65533 : Int32), (65536 : Int32), (983039 : Int32), (0 : Int32), (-2147483648 : Int32), (2147483647 : Int32)]) (.int (0 : Int32)) := Vw211
      obtain ⟨clr245, Arr245, -, Sr245, Mr245, Hr245, -⟩ := VVr245
      have hinr245 : ¬ ((((x1.toUInt32 >>> ((1 : Int32) &&& 31).toUInt32).toInt32) - (((x1.toUInt32 >>> ((1 : Int32) &&& 31).toUInt32).toInt32) / (33 : Int32)) * (33 : Int32)) < 0 ∨ clr245.slots.size ≤ ((((x1.toUInt32 >>> ((1 : Int32) &&& 31).toUInt32).toInt32) - (((x1.toUInt32 >>> ((1 : Int32) &&& 31).toUInt32).toInt32) / (33 : Int32)) * (33 : Int32))).toNatClampNeg) := inb_of Sr245 (own_idx x1)
      have hatr245 : clr245.slots[((((x1.toUInt32 >>> ((1 : Int32) &&& 31).toUInt32).toInt32) - (((x1.toUInt32 >>> ((1 : Int32) &&& 31).toUInt32).toInt32) / (33 : Int32)) * (33 : Int32))).toNatClampNeg]? = some (.int (own_at [(58 : Int32), (65 : Int32), (90 : Int32), (95 : Int32), (97 : Int32), (122 : Int32), (192 : Int32), (214 : Int32), (216 : Int32), (246 : Int32), (248 : Int32), (767 : Int32), (880 : Int32), (893 : Int32), (895 : Int32), (8191 : Int32), (8204 : Int32), (8205 : Int32), (8304 : Int32), (8591 : Int32), (11264 : Int32), (12271 : Int32), (12289 : Int32), (55295 : Int32), (63744 : Int32), (64975 : Int32), (65008 : Int32), (65533 : Int32), (65536 : Int32), (983039 : Int32), (0 : Int32), (-2147483648 : Int32), (2147483647 : Int32)] (((x1.toUInt32 >>> ((1 : Int32) &&& 31).toUInt32).toInt32) - (((x1.toUInt32 >>> ((1 : Int32) &&& 31).toUInt32).toInt32) / (33 : Int32)) * (33 : Int32)))) := Has.at Hr245 hinr245 (own_getD _ _)
      refine Runs.go (Xw211.iaload hx (j := (((x1.toUInt32 >>> ((1 : Int32) &&& 31).toUInt32).toInt32) - (((x1.toUInt32 >>> ((1 : Int32) &&& 31).toUInt32).toInt32) / (33 : Int32)) * (33 : Int32))) (v := (.int (own_at [(58 : Int32), (65 : Int32), (90 : Int32), (95 : Int32), (97 : Int32), (122 : Int32), (192 : Int32), (214 : Int32), (216 : Int32), (246 : Int32), (248 : Int32), (767 : Int32), (880 : Int32), (893 : Int32), (895 : Int32), (8191 : Int32), (8204 : Int32), (8205 : Int32), (8304 : Int32), (8591 : Int32), (11264 : Int32), (12271 : Int32), (12289 : Int32), (55295 : Int32), (63744 : Int32), (64975 : Int32), (65008 : Int32), (65533 : Int32), (65536 : Int32), (983039 : Int32), (0 : Int32), (-2147483648 : Int32), (2147483647 : Int32)] (((x1.toUInt32 >>> ((1 : Int32) &&& 31).toUInt32).toInt32) - (((x1.toUInt32 >>> ((1 : Int32) &&& 31).toUInt32).toInt32) / (33 : Int32)) * (33 : Int32))))) (by rw [ew211]; exact Arr245.1) (State.isArrayOf_alike hZ.alike Arr245.2.1) Arr245.2.2 hinr245 hatr245 (g := (mkF m 245 #[.val (.int x0), .val (.int x1), .val (.ref b2), .unset, .val (.int (((x1.toUInt32 >>> ((1 : Int32) &&& 31).toUInt32).toInt32) - (((x1.toUInt32 >>> ((1 : Int32) &&& 31).toUInt32).toInt32) / (33 : Int32)) * (33 : Int32))), .val (.int ((((x1.toUInt32 >>> ((8 : Int32) &&& 31).toUInt32).toInt32) - (((x1.toUInt32 >>> ((8 : Int32) &&& 31).toUInt32).toInt32) / (3 : Int32)) * (3 : Int32)) - (1 : Int32)))] [(.int (((x1.toUInt32 >>> ((1 : Int32) &&& 31).toUInt32).toInt32) - (((x1.toUInt32 >>> ((1 : Int32) &&& 31).toUInt32).toInt32) / (33 : Int32)) * (33 : Int32))), (.ref b2)])) rfl rfl (hb hby at_245)) ?_
      show Runs p e below s _ _ _ (Tw211.setTop (mkF m 246 #[.val (.int x0), .val (.int x1), .val (.ref b2), .unset, .val (.int (((x1.toUInt32 >>> ((1 : Int32) &&& 31).toUInt32).toInt32) - (((x1.toUInt32 >>> ((1 : Int32) &&& 31).toUInt32).toInt32) / (33 : Int32)) * (33 : Int32))), .val (.int ((((x1.toUInt32 >>> ((8 : Int32) &&& 31).toUInt32).toInt32) - (((x1.toUInt32 >>> ((8 : Int32) &&& 31).toUInt32).toInt32) / (3 : Int32)) * (3 : Int32)) - (1 : Int32)))] [(.int (own_at [(58 : Int32), (65 : Int32), (90 : Int32), (95 : Int32), (97 : Int32), (122 : Int32), (192 : Int32), (214 : Int32), (216 : Int32), (246 : Int32), (248 : Int32), (767 : Int32), (880 : Int32), (893 : Int32), (895 : Int32), (8191 : Int32), (8204 : Int32), (8205 : Int32), (8304 : Int32), (8591 : Int32), (11264 : Int32), (12271 : Int32), (12289 : Int32), (55295 : Int32), (63744 : Int32), (64975 : Int32), (65008 : Int32), (65533 : Int32), (65536 : Int32), (983039 : Int32), (0 : Int32), (-2147483648 : Int32), (2147483647 : Int32)] (((x1.toUInt32 >>> ((1 : Int32) &&& 31).toUInt32).toInt32) - (((x1.toUInt32 >>> ((1 : Int32) &&& 31).toUInt32).toInt32) / (33 : Int32)) * (33 : Int32))))]))
      refine Runs.go (fun _ => XS.iload Xw211.here hx rfl (hb hby at_246) rfl) ?_
      show Runs p e below s _ _ _ (Tw211.setTop (mkF m 248 #[.val (.int x0), .val (.int x1), .val (.ref b2), .unset, .val (.int (((x1.toUInt32 >>> ((1 : Int32) &&& 31).toUInt32).toInt32) - (((x1.toUInt32 >>> ((1 : Int32) &&& 31).toUInt32).toInt32) / (33 : Int32)) * (33 : Int32))), .val (.int ((((x1.toUInt32 >>> ((8 : Int32) &&& 31).toUInt32).toInt32) - (((x1.toUInt32 >>> ((8 : Int32) &&& 31).toUInt32).toInt32) / (3 : Int32)) * (3 : Int32)) - (1 : Int32)))] [(.int ((((x1.toUInt32 >>> ((8 : Int32) &&& 31).toUInt32).toInt32) - (((x1.toUInt32 >>> ((8 : Int32) &&& 31).toUInt32).toInt32) / (3 : Int32)) * (3 : Int32)) - (1 : Int32))), (.int (own_at [(58 : Int32), (65 : Int32), (90 : Int32), (95 : Int32), (97 : Int32), (122 : Int32), (192 : Int32), (214 : Int32), (216 : Int32), (246 : Int32), (248 : Int32), (767 : Int32), (880 : Int32), (893 : Int32), (895 : Int32), (8191 : Int32), (8204 : Int32), (8205 : Int32), (8304 : Int32), (8591 : Int32), (11264 : Int32), (12271 : Int32), (12289 : Int32), (55295 : Int32), (63744 : Int32), (64975 : Int32), (65008 : Int32), (65533 : Int32), (65536 : Int32), (983039 : Int32), (0 : Int32), (-2147483648 : Int32), (2147483647 : Int32)] (((x1.toUInt32 >>> ((1 : Int32) &&& 31).toUInt32).toInt32) - (((x1.toUInt32 >>> ((1 : Int32) &&& 31).toUInt32).toInt32) / (33 : Int32)) * (33 : Int32))))]))
      refine Runs.go (fun _ => XS.iadd Xw211.here hx rfl (hb hby at_248) rfl) ?_
      show Runs p e below s _ _ _ (Tw211.setTop (mkF m 249 #[.val (.int x0), .val (.int x1), .val (.ref b2), .unset, .val (.int (((x1.toUInt32 >>> ((1 : Int32) &&& 31).toUInt32).toInt32) - (((x1.toUInt32 >>> ((1 : Int32) &&& 31).toUInt32).toInt32) / (33 : Int32)) * (33 : Int32))), .val (.int ((((x1.toUInt32 >>> ((8 : Int32) &&& 31).toUInt32).toInt32) - (((x1.toUInt32 >>> ((8 : Int32) &&& 31).toUInt32).toInt32) / (3 : Int32)) * (3 : Int32)) - (1 : Int32)))] [(.int ((own_at [(58 : Int32), (65 : Int32), (90 : Int32), (95 : Int32), (97 : Int32), (122 : Int32), (192 : Int32), (214 : Int32), (216 : Int32), (246 : Int32), (248 : Int32), (767 : Int32), (880 : Int32), (893 : Int32), (895 : Int32), (8191 : Int32), (8204 : Int32), (8205 : Int32), (8304 : Int32), (8591 : Int32), (11264 : Int32), (12271 : Int32), (12289 : Int32), (55295 : Int32), (63744 : Int32), (64975 : Int32), (65008 : Int32), (65533 : Int32), (65536 : Int32), (983039 : Int32), (0 : Int32), (-2147483648 : Int32), (2147483647 : Int32)] (((x1.toUInt32 >>> ((1 : Int32) &&& 31).toUInt32).toInt32) - (((x1.toUInt32 >>> ((1 : Int32) &&& 31).toUInt32).toInt32) / (33 : Int32)) * (33 : Int32))) + ((((x1.toUInt32 >>> ((8 : Int32) &&& 31).toUInt32).toInt32) - (((x1.toUInt32 >>> ((8 : Int32) &&& 31).toUInt32).toInt32) / (3 : Int32)) * (3 : Int32)) - (1 : Int32))))]))
      refine Runs.go (fun _ => XS.istoreN Xw211.here hx rfl (hb hby at_249) rfl (l' := #[.val (.int x0), .val (.int x1), .val (.ref b2), .val (.int ((own_at [(58 : Int32), (65 : Int32), (90 : Int32), (95 : Int32), (97 : Int32), (122 : Int32), (192 : Int32), (214 : Int32), (216 : Int32), (246 : Int32), (248 : Int32), (767 : Int32), (880 : Int32), (893 : Int32), (895 : Int32), (8191 : Int32), (8204 : Int32), (8205 : Int32), (8304 : Int32), (8591 : Int32), (11264 : Int32), (12271 : Int32), (12289 : Int32), (55295 : Int32), (63744 : Int32), (64975 : Int32), (65008 : Int32), (65533 : Int32), (65536 : Int32), (983039 : Int32), (0 : Int32), (-2147483648 : Int32), (2147483647 : Int32)] (((x1.toUInt32 >>> ((1 : Int32) &&& 31).toUInt32).toInt32) - (((x1.toUInt32 >>> ((1 : Int32) &&& 31).toUInt32).toInt32) / (33 : Int32)) * (33 : Int32))) + ((((x1.toUInt32 >>> ((8 : Int32) &&& 31).toUInt32).toInt32) - (((x1.toUInt32 >>> ((8 : Int32) &&& 31).toUInt32).toInt32) / (3 : Int32)) * (3 : Int32)) - (1 : Int32)))), .val (.int (((x1.toUInt32 >>> ((1 : Int32) &&& 31).toUInt32).toInt32) - (((x1.toUInt32 >>> ((1 : Int32) &&& 31).toUInt32).toInt32) / (33 : Int32)) * (33 : Int32))), .val (.int ((((x1.toUInt32 >>> ((8 : Int32) &&& 31).toUInt32).toInt32) - (((x1.toUInt32 >>> ((8 : Int32) &&& 31).toUInt32).toInt32) / (3 : Int32)) * (3 : Int32)) - (1 : Int32)))]) rfl) ?_
      show Runs p e below s _ _ _ (Tw211.setTop (mkF m 250 #[.val (.int x0), .val (.int x1), .val (.ref b2), .val (.int ((own_at [(58 : Int32), (65 : Int32), (90 : Int32), (95 : Int32), (97 : Int32), (122 : Int32), (192 : Int32), (214 : Int32), (216 : Int32), (246 : Int32), (248 : Int32), (767 : Int32), (880 : Int32), (893 : Int32), (895 : Int32), (8191 : Int32), (8204 : Int32), (8205 : Int32), (8304 : Int32), (8591 : Int32), (11264 : Int32), (12271 : Int32), (12289 : Int32), (55295 : Int32), (63744 : Int32), (64975 : Int32), (65008 : Int32), (65533 : Int32), (65536 : Int32), (983039 : Int32), (0 : Int32), (-2147483648 : Int32), (2147483647 : Int32)] (((x1.toUInt32 >>> ((1 : Int32) &&& 31).toUInt32).toInt32) - (((x1.toUInt32 >>> ((1 : Int32) &&& 31).toUInt32).toInt32) / (33 : Int32)) * (33 : Int32))) + ((((x1.toUInt32 >>> ((8 : Int32) &&& 31).toUInt32).toInt32) - (((x1.toUInt32 >>> ((8 : Int32) &&& 31).toUInt32).toInt32) / (3 : Int32)) * (3 : Int32)) - (1 : Int32)))), .val (.int (((x1.toUInt32 >>> ((1 : Int32) &&& 31).toUInt32).toInt32) - (((x1.toUInt32 >>> ((1 : Int32) &&& 31).toUInt32).toInt32) / (33 : Int32)) * (33 : Int32))), .val (.int ((((x1.toUInt32 >>> ((8 : Int32) &&& 31).toUInt32).toInt32) - (((x1.toUInt32 >>> ((8 : Int32) &&& 31).toUInt32).toInt32) / (3 : Int32)) * (3 : Int32)) - (1 : Int32)))] []))
      exact k_250 _ _ _ Xw211 ew211 Nw211 x0 x1 b2 ((own_at [(58 : Int32), (65 : Int32), (90 : Int32), (95 : Int32), (97 : Int32), (122 : Int32), (192 : Int32), (214 : Int32), (216 : Int32), (246 : Int32), (248 : Int32), (767 : Int32), (880 : Int32), (893 : Int32), (895 : Int32), (8191 : Int32), (8204 : Int32), (8205 : Int32), (8304 : Int32), (8591 : Int32), (11264 : Int32), (12271 : Int32), (12289 : Int32), (55295 : Int32), (63744 : Int32), (64975 : Int32), (65008 : Int32), (65533 : Int32), (65536 : Int32), (983039 : Int32), (0 : Int32), (-2147483648 : Int32), (2147483647 : Int32)] (((x1.toUInt32 >>> ((1 : Int32) &&& 31).toUInt32).toInt32) - (((x1.toUInt32 >>> ((1 : Int32) &&& 31).toUInt32).toInt32) / (33 : Int32)) * (33 : Int32))) + ((((x1.toUInt32 >>> ((8 : Int32) &&& 31).toUInt32).toInt32) - (((x1.toUInt32 >>> ((8 : Int32) &&& 31).toUInt32).toInt32) / (3 : Int32)) * (3 : Int32)) - (1 : Int32))) (.val (.int (((x1.toUInt32 >>> ((1 : Int32) &&& 31).toUInt32).toInt32) - (((x1.toUInt32 >>> ((1 : Int32) &&& 31).toUInt32).toInt32) / (33 : Int32)) * (33 : Int32)))) (.val (.int ((((x1.toUInt32 >>> ((8 : Int32) &&& 31).toUInt32).toInt32) - (((x1.toUInt32 >>> ((8 : Int32) &&& 31).toUInt32).toInt32) / (3 : Int32)) * (3 : Int32)) - (1 : Int32)))) hv
  exact k_0 _ X0 e0 (Fr.nil n0) hF
set_option maxRecDepth 65536 in
set_option maxHeartbeats 40000000 in
theorem comes_1 {Post : Tables → Env → Array Value → State → Outcome → State → Prop} (hpost : ∀ tb e args s v u, (limb_1_1.after args s (.returned v) u = true ∧ limb_1_2.after args s (.returned v) u = true ∧ True) → FrameEnd s (.returned v) u (Jvm.fieldLocs frame_1_writes args s ++ Jvm.arrayLocs frame_1_arrays args s ++ Jvm.staticLocs frame_1_statics s) 16 192 → Post tb e args s (.returned v) u) :
    ArmFor flags0 classFile x code maxLocals ret World_1 tables_1 room_1 Calls_1 rest_1 Pre_1 Post := by
  intro l hfl _ _ p e ha hc hk s m args below hf hA hF happ hP
  obtain ⟨hcalls, hrest, hpre⟩ := hP
  obtain ⟨-, -, -, hnamed, -, -, -, hat⟩ := (Spec.applies_iff hf).mp happ
  obtain ⟨hg, hn⟩ := and_e (Cond.before_iff.mp (show (Jvm.Cond.and given_1 narrow_1).before args s = true from hpre))
  obtain ⟨hcnt, hg⟩ := and_e hg
  obtain ⟨w0, w1, rfl⟩ : ∃ w0 w1 : Value, args = #[w0, w1] := by
    have hs : args.size = 2 := by simpa [Cond.value, given_1] using hcnt
    obtain ⟨L⟩ := args
    match L, hs with
    | [w0, w1], _ => exact ⟨w0, w1, rfl⟩
  obtain ⟨ga0, hg⟩ := and_e hg
  obtain ⟨i0, ei0⟩ := is_v ga0
  obtain rfl : w0 = (.int i0) := Option.some.inj ei0
  have ga1 := hg
  obtain ⟨i1, ei1⟩ := is_v ga1
  obtain rfl : w1 = (.int i1) := Option.some.inj ei1
  have hw := fun d (hd : d ∈ tables_1) => atoms_spec (ws := Jvm.Cond.code x code maxLocals ret :: tables_1) hat d (List.mem_cons_of_mem _ hd)
  obtain ⟨n, o, h1, h2, h3, _, L, rfl, ⟨rfl, N⟩, hq⟩ := rm0 l s _ hw tables_1 i0 i1 s.heap s.heap.size (Nat.le_refl _) p e ha hc hk s m _ below hf ((Spec.applies_iff_loose hf).mp happ).1 ⟨rfl, State.Warmed39.refl s, rfl⟩ trivial
  rw [law_true i0 i1] at hq h3
  exact ⟨n, _, h1, h2, h3, hpost _ _ _ _ _ _ ⟨Cond.after_iff.mpr rfl, Cond.after_iff.mpr (eq_i res_at (Term.int_eval (1)) rfl), trivial⟩ ⟨hq.1, hq.2.1, (hq.2.2.sift fun y hy => Or.inr (N y hy)).mono (by decide) (by decide)⟩⟩
theorem main_1_1 : Claimed_1_1 := comes_1 fun _ _ _ _ _ _ h hF => ⟨h.1, hF⟩
theorem main_1_2 : Claimed_1_2 := comes_1 fun _ _ _ _ _ _ h hF => ⟨h.2.1, hF⟩
end Jvm.Pilot.@@N@@
namespace Jvm.Pilot.@@N@@
open Jvm Jvm.ClassFile Sem Op Lib Jvm.Free Jvm.Stand Jvm.Pilot.@@N@@.Jvm.D
/-! MADE BY PROGRAM (witnessworld.py) out of the Statement's table words and the real class files: 9 classes; the members and pool entries that the words name. The judged class is class 1, her method 2. -/
namespace start1
open Jvm.ClassFile
def u (s : String) : CpInfo := .utf8 (stringToUtf16 s)
/-- a pool by its gaps: so many unusable entries, then the entry; so many at the end -/
def gap : Nat → List CpInfo → List CpInfo
  | 0, r => r
  | n + 1, r => .unusable :: gap n r
def poolList (es : List (Nat × CpInfo)) (last : Nat) : List CpInfo := es.foldr (fun e r => gap e.1 (e.2 :: r)) (gap last [])
def pool (es : List (Nat × CpInfo)) (last : Nat) : Array CpInfo := ⟨poolList es last⟩
def fileOf (pool : Array CpInfo) (this : Nat) (attrs : Array Attribute := #[]) (ms : Array MethodInfo := #[]) (fl : Nat := 33) (sup : Nat := 0) (ifs : Array Nat := #[]) (fds : Array FieldInfo := #[]) : ClassFile where
  minorVersion := 0
  majorVersion := 65
  constantPool := pool
  accessFlags := fl
  thisClass := this
  superClass := sup
  interfaces := ifs
  fields := fds
  methods := ms
  attributes := attrs
def plain (name : String) (sup : Option ClassId) : Class where
  name := name
  kind := .ordinary
  loader := none
  accessFlags := 33
  super := sup
  interfaces := #[]
  cf := none
  fields := #[]
  methods := #[]
  instanceTypes := #[]
  staticTypes := #[]
  resolved := #[]
  callSites := []
  init := .initialized
  statics := none
  mirror := none

def pool0 : Array CpInfo := pool [(5, u "<init>"), (0, u "()V"), (1, .class_ 10), (1, u "java/lang/Object")] 113

def k0m0 : Method := { name := "<init>", desc := "()V", sig := { parameters := [], returnType := none }, accessFlags := 1, code := none }
/-- java/lang/Object -/
def k0 : Class := { plain "java/lang/Object" none with
  accessFlags := 33
  interfaces := #[]
  cf := some (fileOf pool0 8 #[] #[{ accessFlags := 1, nameIndex := 5, descriptorIndex := 6, attributes := #[] }] 33 0 #[] #[])
  fields := #[]
  methods := #[k0m0]
  instanceTypes := #[]
  staticTypes := #[]
  resolved := Array.replicate 124 none
  statics := none }

def pool1 : Array CpInfo := pool [(2, .class_ 4), (1, u "java/lang/Object"), (0, u "<init>"), (0, u "()V"), (0, .integer 55296), (0, .integer 63743), (0, .integer 64976), (0, .integer 65007), (0, .integer 65534), (0, .integer 65535), (0, .integer 983040), (0, .integer 55295), (0, .integer 63744), (0, .integer 64975), (0, .integer 65008), (0, .integer 65533), (0, .integer 65536), (0, .integer 983039), (2, .integer 2147483648), (0, .integer 2147483647), (0, .methodref 26 27), (0, .class_ 28), (0, .nameAndType 29 30), (0, u "com/example/interlinear/interlinear/xml/XmlText"), (0, u "isNameStart"), (0, u "(I)Z"), (0, .methodref 32 33), (0, .class_ 34), (0, .nameAndType 35 30), (0, u "com/example/interlinear/interlinear/xml/XmlTextIsNameStartPinLaw"), (0, u "excluded"), (3, u "law"), (0, u "(II)Z")] 4

def k1m0 : Method := { name := "<init>", desc := "()V", sig := { parameters := [], returnType := none }, accessFlags := 2, code := none }
def k1c1 : Code := { maxStack := 2, maxLocals := 1, code := method_2_code, exceptionTable := #[], attributes := #[] }
def k1m1 : Method := { name := "excluded", desc := "(I)Z", sig := { parameters := [.int], returnType := some .boolean }, accessFlags := 10, code := some k1c1 }
def k1c2 : Code := { maxStack := 4, maxLocals := 6, code := code, exceptionTable := #[], attributes := #[] }
def k1m2 : Method := { name := "law", desc := "(II)Z", sig := { parameters := [.int, .int], returnType := some .boolean }, accessFlags := 9, code := some k1c2 }
/-- com/example/interlinear/interlinear/xml/XmlTextIsNameStartPinLaw -/
def k1 : Class := { plain "com/example/interlinear/interlinear/xml/XmlTextIsNameStartPinLaw" (some 0) with
  accessFlags := 49
  interfaces := #[]
  cf := some (fileOf pool1 32 #[] #[{ accessFlags := 2, nameIndex := 5, descriptorIndex := 6, attributes := #[] }, { accessFlags := 10, nameIndex := 35, descriptorIndex := 30, attributes := #[] }, { accessFlags := 9, nameIndex := 39, descriptorIndex := 40, attributes := #[] }] 49 2 #[] #[])
  fields := #[]
  methods := #[k1m0, k1m1, k1m2]
  instanceTypes := #[]
  staticTypes := #[]
  resolved := Array.replicate 45 none
  statics := none }

def pool2 : Array CpInfo := pool [(2, .class_ 4), (1, u "java/lang/Object"), (0, u "<init>"), (0, u "()V"), (0, .integer 55295), (1, .integer 65533), (0, .integer 65536), (12, .class_ 25), (1, u "com/example/interlinear/interlinear/xml/XmlText"), (1, u "(I)Z"), (8, .integer 63744), (0, .integer 64975), (0, .integer 65008), (0, .integer 983039), (2, u "isNameStart")] 89

def k2m0 : Method := { name := "<init>", desc := "()V", sig := { parameters := [], returnType := none }, accessFlags := 2, code := none }
def k2c1 : Code := { maxStack := 2, maxLocals := 1, code := prog_332_method_6_code, exceptionTable := #[], attributes := #[] }
def k2m1 : Method := { name := "isNameStart", desc := "(I)Z", sig := { parameters := [.int], returnType := some .boolean }, accessFlags := 8, code := some k2c1 }
/-- com/example/interlinear/interlinear/xml/XmlText -/
def k2 : Class := { plain "com/example/interlinear/interlinear/xml/XmlText" (some 0) with
  accessFlags := 49
  interfaces := #[]
  cf := some (fileOf pool2 23 #[] #[{ accessFlags := 2, nameIndex := 5, descriptorIndex := 6, attributes := #[] }, { accessFlags := 8, nameIndex := 42, descriptorIndex := 27, attributes := #[] }] 49 2 #[] #[])
  fields := #[]
  methods := #[k2m0, k2m1]
  instanceTypes := #[]
  staticTypes := #[]
  resolved := Array.replicate 132 none
  statics := none }

def pool3 : Array CpInfo := pool [(1, u "java/lang/Cloneable"), (0, .class_ 1), (0, u "java/lang/Object"), (0, .class_ 3)] 3

/-- java/lang/Cloneable -/
def k3 : Class := { plain "java/lang/Cloneable" (some 0) with
  accessFlags := 1537
  interfaces := #[]
  cf := some (fileOf pool3 2 #[] #[] 1537 4 #[] #[])
  fields := #[]
  methods := #[]
  instanceTypes := #[]
  staticTypes := #[]
  resolved := Array.replicate 8 none
  statics := none }

def pool4 : Array CpInfo := pool [(1, u "java/io/Serializable"), (0, .class_ 1), (0, u "java/lang/Object"), (0, .class_ 3)] 3

/-- java/io/Serializable -/
def k4 : Class := { plain "java/io/Serializable" (some 0) with
  accessFlags := 1537
  interfaces := #[]
  cf := some (fileOf pool4 2 #[] #[] 1537 4 #[] #[])
  fields := #[]
  methods := #[]
  instanceTypes := #[]
  staticTypes := #[]
  resolved := Array.replicate 8 none
  statics := none }

/-- the primitive byte -/
def k5 : Class := { plain "byte" none with kind := .primitive 'B', accessFlags := 0x411 }
/-- [B -/
def k6 : Class := { plain "[B" (some 0) with kind := .array 5 .byte, interfaces := #[3, 4], accessFlags := 1041 }

/-- the primitive int -/
def k7 : Class := { plain "int" none with kind := .primitive 'I', accessFlags := 0x411 }
/-- [I -/
def k8 : Class := { plain "[I" (some 0) with kind := .array 7 .int, interfaces := #[3, 4], accessFlags := 1041 }

def heap : Heap := #[]
def classes : Array Class := #[k0, k1, k2, k3, k4, k5, k6, k7, k8]
def interned : List (Array UInt16 × Addr) := []
def slotsUsed : Nat := 0
def theMethod : MethodId := ⟨1, 2⟩
def args0 : Array Value := #[.int 7, .int 8]
def aboutOver (below : List Frame) : State where
  vm := { classes := classes, interned := interned.toArray }
  heap := heap
  slotsUsed := slotsUsed
  threads := #[{ frames := .invoking theMethod args0 :: below }]
def below0 : List Frame := [.native { method := ⟨0, 0⟩, args := #[] }]
def about1 : State := aboutOver below0
def p0 : Program := .bare "" "" ""
def e0 : Env := launch0.env 0 0 0
theorem w_frames : about1.frames = Frame.invoking theMethod args0 :: below0 := rfl
set_option maxRecDepth 65536 in
theorem w_args : argsFit about1.vm theMethod args0 = true := by decide +kernel
set_option maxRecDepth 65536 in
theorem w_heap : heapFits about1 = true := by decide +kernel
set_option maxRecDepth 65536 in
theorem w_runnable : about1.curStatus? = some .runnable := by decide +kernel
set_option maxRecDepth 65536 in
theorem w_alone : about1.alone = true := by decide +kernel
set_option maxRecDepth 65536 in
theorem w_named : about1.methodNamed? x = some theMethod := by decide +kernel
set_option maxRecDepth 65536 in
theorem w_hears : about1.hears theMethod below0 = true := by decide +kernel
set_option maxRecDepth 65536 in
theorem w_ripe : about1.ripe theMethod args0 below0 = true := by decide +kernel
theorem w_running : about1.status = .running := rfl
set_option maxRecDepth 65536 in
theorem w_room : about1.hasRoom e0.platform room_1 = true :=
  launch0.hasRoom_least _ room_1 (by decide +kernel) (by decide +kernel) (by decide +kernel) (by decide +kernel) (by decide +kernel) (by decide +kernel)
theorem allAtoms_all (ts : List Jvm.Cond) (a : Array Jvm.Value) (st : Jvm.State) : (allAtoms ts).before a st = ts.all (fun c => c.before a st) := by
  induction ts with
  | nil => rfl
  | cons c t ih =>
    show (Jvm.Cond.and c (allAtoms t)).before a st = _
    rw [Jvm.Cond.before_and, ih, List.all_cons]
def words1 : List Jvm.Cond := Jvm.Cond.code x code maxLocals ret :: tables_1
/-- a 'code' word, met by the world's own term for the bytes: nothing is compared byte by byte -/
theorem code_word {y : MethodName} {bytes : ByteArray} {mx : Nat} {rt : Option FieldType} {a : Array Value} {s : State} {m : MethodId} {meth : Method} {c : Code} (h1 : s.methodNamed? y = some m) (h2 : s.vm.method? m = some meth) (h3 : meth.code = some c) (h4 : c.code = bytes)
    (h5 : (c.maxLocals == mx && c.exceptionTable.isEmpty && decide (c.maxStack ≤ mostOperands) && decide (meth.sig.returnType = rt) && !meth.locks && decide (parseMethodDescriptor y.desc = some meth.sig)) = true) : (Jvm.Cond.code y bytes mx rt).before a s = true := by
  simp only [Bool.and_eq_true, beq_iff_eq, Bool.not_eq_true', decide_eq_true_eq] at h5
  obtain ⟨⟨⟨⟨⟨g1, g2⟩, g3⟩, g4⟩, g5⟩, g6⟩ := h5
  simp [Cond.before, Cond.holds, Cond.value, h1, h2, h3, h4, g1, g2, g3, g4, g5, g6]
def isCode : Jvm.Cond → Bool
  | .code _ _ _ _ => true
  | _ => false
theorem all_split {L : List Jvm.Cond} {P : Jvm.Cond → Bool} (h1 : L.all (fun c => isCode c || P c) = true) (h2 : ∀ c ∈ L.filter isCode, P c = true) : L.all P = true := by
  refine List.all_eq_true.mpr fun c hc => ?_
  have h := List.all_eq_true.mp h1 c hc
  rcases Bool.eq_false_or_eq_true (isCode c) with hi | hi
  · exact h2 c (List.mem_filter.mpr ⟨hc, hi⟩)
  · simpa [hi] using h
set_option maxRecDepth 65536 in
theorem w_c0 : (Jvm.Cond.code x code maxLocals ret).before args0 about1 = true := code_word (m := ⟨1, 2⟩) (meth := k1m2) (c := k1c2) (by decide +kernel) rfl rfl rfl (by decide +kernel)
set_option maxRecDepth 65536 in
theorem w_c1 : (Jvm.Cond.code ({ cls := "com/example/interlinear/interlinear/xml/XmlText", name := "isNameStart", desc := "(I)Z" } : Jvm.MethodName) prog_332_method_6_code (1 : Nat) (Option.some Jvm.ClassFile.FieldType.boolean)).before args0 about1 = true := code_word (m := ⟨2, 1⟩) (meth := k2m1) (c := k2c1) (by decide +kernel) rfl rfl rfl (by decide +kernel)
set_option maxRecDepth 65536 in
theorem w_c2 : (Jvm.Cond.code ({ cls := "com/example/interlinear/interlinear/xml/XmlTextIsNameStartPinLaw", name := "excluded", desc := "(I)Z" } : Jvm.MethodName) method_2_code (1 : Nat) (Option.some Jvm.ClassFile.FieldType.boolean)).before args0 about1 = true := code_word (m := ⟨1, 1⟩) (meth := k1m1) (c := k1c1) (by decide +kernel) rfl rfl rfl (by decide +kernel)
def codes1 : List Jvm.Cond := [Jvm.Cond.code x code maxLocals ret, Jvm.Cond.code ({ cls := "com/example/interlinear/interlinear/xml/XmlText", name := "isNameStart", desc := "(I)Z" } : Jvm.MethodName) prog_332_method_6_code (1 : Nat) (Option.some Jvm.ClassFile.FieldType.boolean), Jvm.Cond.code ({ cls := "com/example/interlinear/interlinear/xml/XmlTextIsNameStartPinLaw", name := "excluded", desc := "(I)Z" } : Jvm.MethodName) method_2_code (1 : Nat) (Option.some Jvm.ClassFile.FieldType.boolean)]
set_option maxRecDepth 65536 in
theorem codes_eq : words1.filter isCode = codes1 := rfl
theorem w_codes : ∀ c ∈ words1.filter isCode, c.before args0 about1 = true := by
  rw [codes_eq]
  intro c hc
  simp only [codes1, List.mem_cons, List.not_mem_nil, or_false] at hc
  rcases hc with rfl | rfl | rfl
  · exact w_c0
  · exact w_c1
  · exact w_c2
set_option maxRecDepth 65536 in
theorem w_t1 : (words1.take 24).all (fun c => isCode c || c.before args0 about1) = true := by decide +kernel
set_option maxRecDepth 65536 in
theorem w_t2 : (words1.drop 24).all (fun c => isCode c || c.before args0 about1) = true := by decide +kernel
theorem w_tables : (allAtoms (Jvm.Cond.code x code maxLocals ret :: tables_1)).before args0 about1 = true := by
  rw [allAtoms_all]
  show words1.all (fun c => c.before args0 about1) = true
  refine all_split ?_ w_codes
  rw [← List.take_append_drop 24 words1, List.all_append, w_t1, w_t2]
  rfl
set_option maxRecDepth 65536 in
theorem w_case : (Jvm.Cond.and given_1 narrow_1).before args0 about1 = true := by decide +kernel
theorem w_applies : (headSpec (Jvm.Cond.code x code maxLocals ret :: tables_1) room_1).applies x e0.platform about1 = true :=
  (Spec.applies_iff w_frames).mpr ⟨w_running, w_runnable, w_alone, w_named, w_hears, w_ripe, w_room, w_tables⟩
theorem atStart : AtStart classFile x code maxLocals ret World_1 tables_1 room_1 Calls_1 rest_1 Pre_1 launch0 p0 e0 about1 theMethod args0 below0 :=
  ⟨lists_1, trivial, launch0.admits_env _ _ _, launch0.least_env, fairChoices_fair.cas, fairChoices_fair.clock, w_frames, w_args, w_heap, w_applies, trivial, trivial, w_case⟩
end start1
theorem witness_1 : WitnessClaimed_1 := ⟨start1.p0, start1.e0, start1.about1, start1.theMethod, start1.args0, start1.below0, start1.atStart⟩
end Jvm.Pilot.@@N@@
