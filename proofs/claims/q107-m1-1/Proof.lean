import JvmDerived
import JvmDerived.Pilot.@@N@@Statement
import JvmDerived.Pilot.@@N@@Code
set_option linter.unusedVariables false
set_option linter.unusedSimpArgs false

namespace Jvm.Pilot.@@N@@
open Jvm Jvm.ClassFile Sem Op Lib Jvm.Free Jvm.Stand Jvm.LawKit Jvm.RoadKit Bundle Jvm.Pilot.@@N@@.Jvm.D
def QH (w : Value) (n0 : Nat) (v : Option Value) (h : Heap) (L : List Loc) : Prop := v = some w ∧ Fr n0 L
def own_at (l : List Int32) (j : Int32) : Int32 := l.getD j.toNatClampNeg 0
theorem own_getD (l : List Int32) (j : Int32) : (List.map Value.int l).getD j.toNatClampNeg (.int (0 : Int32)) = .int (own_at l j) := by
  simp only [own_at, List.getD_eq_getElem?_getD, List.getElem?_map]
  cases l[j.toNatClampNeg]? <;> rfl
def own_atJ (l : List Int64) (j : Int32) : Int64 := l.getD j.toNatClampNeg 0
theorem own_getDJ (l : List Int64) (j : Int32) : (List.map Value.long l).getD j.toNatClampNeg (.long (0 : Int64)) = .long (own_atJ l j) := by
  simp only [own_atJ, List.getD_eq_getElem?_getD, List.getElem?_map]
  cases l[j.toNatClampNeg]? <;> rfl
def QP (w : Value) (h0 : Heap) (v : Option Value) (h : Heap) (L : List Loc) : Prop := v = some w ∧ L = [] ∧ h = h0
def Runs (p : Program) (e : Env) (below : List Frame) (s : State) (Q : Option Value → Heap → List Loc → Prop) (k n : Nat) (A : State) : Prop :=
  ∃ s₂ o, Steps p.tables e below A s₂ ∧ s₂.status = .running ∧ Ended s₂ below o ∧ ∃ v L, o = .returned v ∧ Q v s₂.heap L ∧ FrameEnd s o s₂ L k n
section Ends
variable {p : Program} {l : Launch} {e : Env} {R : Room} {s : State} {m : MethodId} {args : Array Value} {below : List Frame} {meth : Method} {c : Code} {T A B : State} {locs : List Loc} {cells slots : Nat} {Q : Option Value → Heap → List Loc → Prop} {k n pc : Nat} {Ls : Array Slot} {rest : List Value}
theorem Runs.go (h : ∀ t, Steps p.tables e below B t → Steps p.tables e below A t) (q : Runs p e below s Q k n B) : Runs p e below s Q k n A := by
  obtain ⟨s₂, o, h1, h2⟩ := q; exact ⟨s₂, o, h _ h1, h2⟩
theorem Runs.endI (X : Stand p l e R s m args below meth c T locs cells slots) (hx : p.tables.exec = Jvm.exec) {z : Int32} (hret : meth.sig.returnType = some .int) (hl : meth.locks = false) (hd : decode c.code pc = .ok (.ireturn, 1)) (hQ : Q (some (.int z)) T.heap locs) (hk : cells ≤ k) (hn : slots ≤ n) : Runs p e below s Q k n (T.setTop (mkF m pc Ls (.int z :: rest))) := by
  obtain ⟨fs, hr, hrun, hended, hW, hsame⟩ := X.leave (v := some (.int z)) (fun h => by rw [hret] at h; cases h) hl
  exact ⟨_, _, retOut X hx hret rfl (Or.inl ⟨rfl, Or.inl rfl, _, rfl⟩) hd hr, hrun, hended, _, _, rfl, hQ, ⟨_, rfl⟩, hW, hsame.mono hk hn⟩
theorem Runs.endJ (X : Stand p l e R s m args below meth c T locs cells slots) (hx : p.tables.exec = Jvm.exec) {z : Int64} (hret : meth.sig.returnType = some .long) (hl : meth.locks = false) (hd : decode c.code pc = .ok (.lreturn, 1)) (hQ : Q (some (.long z)) T.heap locs) (hk : cells ≤ k) (hn : slots ≤ n) : Runs p e below s Q k n (T.setTop (mkF m pc Ls (.long z :: rest))) := by
  obtain ⟨fs, hr, hrun, hended, hW, hsame⟩ := X.leave (v := some (.long z)) (fun h => by rw [hret] at h; cases h) hl
  exact ⟨_, _, retOut X hx hret rfl (Or.inr (Or.inl ⟨rfl, rfl, _, rfl⟩)) hd hr, hrun, hended, _, _, rfl, hQ, ⟨_, rfl⟩, hW, hsame.mono hk hn⟩
theorem Runs.endN (X : Stand p l e R s m args below meth c T locs cells slots) (hx : p.tables.exec = Jvm.exec) {z : Int32} {t : FieldType} (hret : meth.sig.returnType = some t) (ht : t = .boolean ∨ t = .byte ∨ t = .char ∨ t = .short) (hl : meth.locks = false) (hd : decode c.code pc = .ok (.ireturn, 1)) (hQ : Q (some (.int (nar t z))) T.heap locs) (hk : cells ≤ k) (hn : slots ≤ n) : Runs p e below s Q k n (T.setTop (mkF m pc Ls (.int z :: rest))) := by
  obtain ⟨fs, hr, hrun, hended, hW, hsame⟩ := X.leave (v := some (.int (nar t z))) (fun h => by rw [hret] at h; cases h) hl
  exact ⟨_, _, retN X hx hret ht hd hr, hrun, hended, _, _, rfl, hQ, ⟨_, rfl⟩, hW, hsame.mono hk hn⟩
theorem Runs.endV (X : Stand p l e R s m args below meth c T locs cells slots) (hx : p.tables.exec = Jvm.exec) (hret : meth.sig.returnType = none) (hl : meth.locks = false) (hd : decode c.code pc = .ok (.return_, 1)) (hQ : Q none T.heap locs) (hk : cells ≤ k) (hn : slots ≤ n) : Runs p e below s Q k n (T.setTop (mkF m pc Ls [])) := by
  obtain ⟨fs, hr, hrun, hended, hW, hsame⟩ := X.leave (v := none) (fun _ => rfl) hl
  exact ⟨_, _, X.returnOut hx hret hd hr, hrun, hended, _, _, rfl, hQ, ⟨_, rfl⟩, hW, hsame.mono hk hn⟩
theorem Runs.endR (X : Stand p l e R s m args below meth c T locs cells slots) (hx : p.tables.exec = Jvm.exec) {z : Addr} {t : FieldType} (hret : meth.sig.returnType = some t) (ht : t.isReference = true) (hl : meth.locks = false) (hd : decode c.code pc = .ok (.areturn, 1)) (hQ : Q (some (.ref z)) T.heap locs) (hk : cells ≤ k) (hn : slots ≤ n) : Runs p e below s Q k n (T.setTop (mkF m pc Ls (.ref z :: rest))) := by
  obtain ⟨fs, hr, hrun, hended, hW, hsame⟩ := X.leave (v := some (.ref z)) (fun h => by rw [hret] at h; cases h) hl
  exact ⟨_, _, retOut X hx hret (by cases t <;> first | rfl | cases ht) (Or.inr (Or.inr (Or.inr (Or.inr ⟨rfl, ht, rfl⟩)))) hd hr, hrun, hended, _, _, rfl, hQ, ⟨_, rfl⟩, hW, hsame.mono hk hn⟩
end Ends
def own_set (l : List Int32) (j p : Int32) : List Int32 := l.set j.toNatClampNeg p
def QV (Z : State) (n0 : Nat) (a : Addr) (k : ClassId) (r : Int32 × List Int32) (v : Option Value) (h : Heap) (L : List Loc) : Prop := v = some (.int r.1) ∧ Fr n0 L ∧ Arv Z h a k .byte (18 : Int32) (List.map Value.int r.2) (.int (0 : Int32))
def PInv : Nat → Int32 → Int64 → List Int32 → Prop
  | 0, _, _, _ => False
  | k + 1, p, v, l => v.toBitVec.toNat < 2 ^ (7 * (k + 1)) ∧ (0 ≤ p.toInt ∧ p.toInt + k ≤ 17) ∧ l.length = 18
theorem PInv.zero {p : Int32} {v : Int64} {l : List Int32} : ¬ PInv 0 p v l := fun h => h
theorem PInv.len {k : Nat} {p : Int32} {v : Int64} {l : List Int32} (h : PInv (k + 1) p v l) : p.toNatClampNeg < l.length := by
  have h : v.toBitVec.toNat < 2 ^ (7 * (k + 1)) ∧ (0 ≤ p.toInt ∧ p.toInt + k ≤ 17) ∧ l.length = 18 := h
  rw [h.2.2, Int32.toNatClampNeg]; omega
theorem PInv.inb {k : Nat} {p : Int32} {v : Int64} {l : List Int32} (h : PInv (k + 1) p v l) : ¬ p < 0 ∧ p < (18 : Int32) := by
  have h : v.toBitVec.toNat < 2 ^ (7 * (k + 1)) ∧ (0 ≤ p.toInt ∧ p.toInt + k ≤ 17) ∧ l.length = 18 := h
  have e0 : (0 : Int32).toInt = 0 := by decide
  have e18 : (18 : Int32).toInt = 18 := by decide
  rw [Int32.lt_iff_toInt_lt, Int32.lt_iff_toInt_lt]; omega
theorem own_shr (v : Int64) : ((v.toUInt64 >>> ((7 : Int32) &&& 0x3f).toInt64.toUInt64).toInt64).toBitVec.toNat = v.toBitVec.toNat / 128 := by
  show (v.toBitVec >>> (((7 : Int32) &&& 0x3f).toInt64.toBitVec % 64)).toNat = _
  rw [BitVec.ushiftRight_eq', BitVec.toNat_ushiftRight, Nat.shiftRight_eq_div_pow]
  have e : ((((7 : Int32) &&& 0x3f).toInt64.toBitVec % 64)).toNat = 7 := by decide
  rw [e]
theorem own_and127 (x : BitVec 64) : (x &&& 127#64).toNat = x.toNat % 128 := by
  rw [BitVec.toNat_and]; exact Nat.and_two_pow_sub_one_eq_mod _ 7
theorem own_high (v : Int64) : (v &&& (-128 : Int64)) = 0 ↔ v.toBitVec.toNat < 128 := by
  have e : (-128 : Int64).toBitVec = ~~~ 127#64 := by decide
  have e0 : (0 : Int64).toBitVec = 0#64 := by decide
  have a : (v &&& (-128 : Int64)) = 0 ↔ v.toBitVec &&& ~~~ 127#64 = 0#64 := by
    rw [← Int64.toBitVec_inj, e0, ← e]; rfl
  rw [a]
  generalize v.toBitVec = x
  have m := own_and127 x
  constructor
  · intro h
    have s : x = (x &&& 127#64) ||| (x &&& ~~~ 127#64) := by
      rw [← BitVec.and_or_distrib_left]
      have : (127#64 ||| ~~~ 127#64) = BitVec.allOnes 64 := by decide
      rw [this, BitVec.and_allOnes]
    rw [h, BitVec.or_zero] at s
    rw [s, m]; omega
  · intro h
    have s : x &&& 127#64 = x := BitVec.eq_of_toNat_eq (by rw [m]; omega)
    rw [← s, BitVec.and_assoc]
    have : (127#64 &&& ~~~ 127#64) = 0#64 := by decide
    rw [this, BitVec.and_zero]
theorem PInv.step {k : Nat} {p : Int32} {v : Int64} {l : List Int32} (h : PInv (k + 1) p v l) (hv : ¬ (v &&& (-128 : Int64)) = 0) (b : Int32) :
    PInv k (p + (1 : Int32)) ((v.toUInt64 >>> ((7 : Int32) &&& 0x3f).toInt64.toUInt64).toInt64) (own_set l p b) := by
  have h : v.toBitVec.toNat < 2 ^ (7 * (k + 1)) ∧ (0 ≤ p.toInt ∧ p.toInt + k ≤ 17) ∧ l.length = 18 := h
  rw [own_high] at hv
  have a := c_iadd p 1; have r := rng32 (p + 1); have e1 : (1 : Int32).toInt = 1 := by decide
  cases k with
  | zero => exact absurd h.1 (by simpa using hv)
  | succ k =>
    refine ⟨?_, ⟨by omega, by omega⟩, by rw [own_set, List.length_set]; exact h.2.2⟩
    rw [own_shr]
    have e : 2 ^ (7 * (k + 1 + 1)) = 2 ^ (7 * (k + 1)) * 128 := by rw [Nat.mul_add 7 (k + 1) 1, Nat.pow_add]
    rw [e] at h
    exact Nat.div_lt_of_lt_mul (by rw [Nat.mul_comm]; exact h.1)
theorem PInv.start (x : Int32) (v : Int64) (l : List Int32) (hl : l.length = 18) : PInv 10 (x &&& (7 : Int32)) v l := by
  have m0 : (x &&& (7 : Int32)).toInt = x.toInt % 8 := by have := c_mask x 7 3 (by decide) (by decide); simpa using this
  have hv := v.toBitVec.isLt
  have e : 2 ^ (7 * (9 + 1)) = 1180591620717411303424 := by decide
  have h : v.toBitVec.toNat < 2 ^ (7 * (9 + 1)) ∧ (0 ≤ (x &&& (7 : Int32)).toInt ∧ (x &&& (7 : Int32)).toInt + ((9 : Nat) : Int) ≤ 17) ∧ l.length = 18 := by
    refine ⟨by rw [e]; omega, ⟨by omega, by omega⟩, hl⟩
  exact h

def f1_0 (x0 : Int64) (x1 : Int32) : Int32 := (if (lcmpW ((x0.toUInt64 >>> (((7 : Int32) * x1) &&& 0x3f).toInt64.toUInt64).toInt64) (0 : Int64)) = (0 : Int32) then (0 : Int32) else (1 : Int32))
def F1 (x0 : Int64) (x1 : Int32) : Int32 := f1_0 x0 x1
def f2_6 : Nat → Int32 → Int64 → List Int32 → List Int32 → Int64 → Int32 → Int32 × List Int32
  | 0, _, _, _, _, _, _ => ((0 : Int32), [])
  | k + 1, x1, x2, ls, w_ls, v4, v6 => (if (lcmpW (v4 &&& (-128 : Int64)) (0 : Int64)) = (0 : Int32) then ((v6 + (1 : Int32)), (own_set w_ls v6 (nar .byte ((v4.toInt32).toInt8.toInt32)))) else (f2_6 k x1 x2 ls (own_set w_ls v6 (nar .byte ((((v4 &&& (127 : Int64)) ||| (128 : Int64)).toInt32).toInt8.toInt32))) ((v4.toUInt64 >>> ((7 : Int32) &&& 0x3f).toInt64.toUInt64).toInt64) (v6 + (1 : Int32))))
def f2_0 (x1 : Int32) (x2 : Int64) (ls : List Int32) : Int32 × List Int32 := (f2_6 10 x1 x2 ls ls x2 x1)
def F2 (x1 : Int32) (x2 : Int64) (ls : List Int32) : Int32 × List Int32 := f2_0 x1 x2 ls
def f3_64 (x1 : Int32) (x2 : Int32) (x3 : Int32) (x4 : Int64) (x5 : Int32) (ls : List Int32) (t0 : Int32) : Int32 := (if (own_at ls x1) = (t0.toInt8.toInt32) then (1 : Int32) else (0 : Int32))
def f3_16 (x1 : Int32) (x2 : Int32) (x3 : Int32) (x4 : Int64) (x5 : Int32) (ls : List Int32) : Int32 := (if (own_at ls x1) = x5 then (1 : Int32) else (0 : Int32))
def f3_0 (x1 : Int32) (x2 : Int32) (x3 : Int32) (x4 : Int64) (x5 : Int32) (ls : List Int32) : Int32 := (if (x1 - x2) < (0 : Int32) then (f3_16 x1 x2 x3 x4 x5 ls) else (if (x1 - x2) < x3 then (if (x1 - x2) < (x3 - (1 : Int32)) then (f3_64 x1 x2 x3 x4 x5 ls (((((x4.toUInt64 >>> (((7 : Int32) * (x1 - x2)) &&& 0x3f).toInt64.toUInt64).toInt64) &&& (127 : Int64)).toInt32) ||| (128 : Int32))) else (f3_64 x1 x2 x3 x4 x5 ls ((((x4.toUInt64 >>> (((7 : Int32) * (x1 - x2)) &&& 0x3f).toInt64.toUInt64).toInt64) &&& (127 : Int64)).toInt32))) else (f3_16 x1 x2 x3 x4 x5 ls)))
def F3 (x1 : Int32) (x2 : Int32) (x3 : Int32) (x4 : Int64) (x5 : Int32) (ls : List Int32) : Int32 := f3_0 x1 x2 x3 x4 x5 ls
def f0_157 (x0 : Int64) (x1 : Int32) (x2 : Int32) (x3 : Int32) (v5 : Int64) : Int32 := (1 : Int32)
def f0_18 (x0 : Int64) (x1 : Int32) (x2 : Int32) (x3 : Int32) (t0 : Int64) : Int32 := (f0_157 x0 x1 x2 x3 t0)
def f0_0 (x0 : Int64) (x1 : Int32) (x2 : Int32) (x3 : Int32) : Int32 := (if (x1 &&& (1 : Int32)) = (0 : Int32) then (f0_18 x0 x1 x2 x3 x0) else (f0_18 x0 x1 x2 x3 ((x0.toUInt64 >>> ((((x1.toUInt32 >>> ((1 : Int32) &&& 31).toUInt32).toInt32) &&& (63 : Int32)) &&& 0x3f).toInt64.toUInt64).toInt64)))
def F0 (x0 : Int64) (x1 : Int32) (x2 : Int32) (x3 : Int32) : Int32 := f0_0 x0 x1 x2 x3
theorem li32_0 : (0 : Int32).toInt = 0 := by decide
theorem li32_1 : (1 : Int32).toInt = 1 := by decide
theorem li32_2 : (2 : Int32).toInt = 2 := by decide
theorem li32_3 : (3 : Int32).toInt = 3 := by decide
theorem li32_4 : (4 : Int32).toInt = 4 := by decide
theorem li32_5 : (5 : Int32).toInt = 5 := by decide
theorem li32_6 : (6 : Int32).toInt = 6 := by decide
theorem li32_7 : (7 : Int32).toInt = 7 := by decide
theorem li32_8 : (8 : Int32).toInt = 8 := by decide
theorem li32_9 : (9 : Int32).toInt = 9 := by decide
theorem li32_18 : (18 : Int32).toInt = 18 := by decide
theorem li32_63 : (63 : Int32).toInt = 63 := by decide
theorem li32_128 : (128 : Int32).toInt = 128 := by decide
theorem li64_m128 : (-128 : Int64).toInt = -128 := by decide
theorem li64_0 : (0 : Int64).toInt = 0 := by decide
theorem li64_127 : (127 : Int64).toInt = 127 := by decide
theorem li64_128 : (128 : Int64).toInt = 128 := by decide

/-! bytes -/
def own_byte (m : Nat) : Int32 := (Int32.ofNat m).toInt8.toInt32
theorem own_beq {x y : Int32} (h : (x.toInt - y.toInt) % 256 = 0) : x.toInt8.toInt32 = y.toInt8.toInt32 := by
  apply Int32.toInt_inj.mp
  have a := c_i2b x; have b := c_i2b y
  omega
theorem own_twice (x : Int32) : nar .byte (x.toInt8.toInt32) = x.toInt8.toInt32 := own_beq (c_i2b x).1
theorem own_ofNat {m : Nat} (h : m < 2 ^ 31) : (Int32.ofNat m).toInt = m := Int32.toInt_ofNat_of_lt h
theorem own_u (v : Int64) : v.toInt % 18446744073709551616 = (v.toBitVec.toNat : Int) := by
  have e : v.toInt = v.toBitVec.toInt := rfl
  have := v.toBitVec.isLt
  rw [e, BitVec.toInt_eq_toNat_cond]; split <;> omega
theorem own_last (v : Int64) : nar .byte ((v.toInt32).toInt8.toInt32) = own_byte (v.toBitVec.toNat % 128 + v.toBitVec.toNat / 128 % 2 * 128) := by
  rw [own_twice]
  refine own_beq ?_
  have a := c_l2i v; have b := own_u v
  rw [own_ofNat (by omega)]
  omega
theorem own_or128 (x : BitVec 64) : ((x &&& 127#64) ||| 128#64).toNat = x.toNat % 128 + 128 := by
  rw [BitVec.toNat_or, own_and127, Nat.or_comm]
  have := Nat.two_pow_add_eq_or_of_lt (i := 7) (b := x.toNat % 128) (by omega) 1
  have e : (128#64).toNat = 2 ^ 7 * 1 := by decide
  rw [e, ← this]; omega
theorem own_small {v : Int64} (h : v.toBitVec.toNat < 2 ^ 63) : v.toInt = (v.toBitVec.toNat : Int) := by
  have e : v.toInt = v.toBitVec.toInt := rfl
  rw [e, BitVec.toInt_eq_toNat_cond, if_pos (by omega)]
theorem own_more (v : Int64) : nar .byte ((((v &&& (127 : Int64)) ||| (128 : Int64)).toInt32).toInt8.toInt32) = own_byte (v.toBitVec.toNat % 128 + 128) := by
  rw [own_twice]
  refine own_beq ?_
  have n : ((v &&& (127 : Int64)) ||| (128 : Int64)).toBitVec.toNat = v.toBitVec.toNat % 128 + 128 := own_or128 v.toBitVec
  have a := c_l2i ((v &&& (127 : Int64)) ||| (128 : Int64)); have b := own_small (v := (v &&& (127 : Int64)) ||| (128 : Int64)) (by omega)
  rw [own_ofNat (by omega)]
  omega
/-! what the checking method makes of the same number -/
theorem own_low (w : Int64) : ((w &&& (127 : Int64)).toInt32).toInt = (w.toBitVec.toNat % 128 : Nat) := by
  have n : (w &&& (127 : Int64)).toBitVec.toNat = w.toBitVec.toNat % 128 := own_and127 w.toBitVec
  have a := c_l2i (w &&& (127 : Int64)); have b := own_small (v := w &&& (127 : Int64)) (by omega); have r := rng32 ((w &&& (127 : Int64)).toInt32)
  omega
theorem own_lowb (w : Int64) : ((w &&& (127 : Int64)).toInt32).toInt8.toInt32 = own_byte (w.toBitVec.toNat % 128) :=
  own_beq (by rw [own_low, own_ofNat (by omega)]; omega)
theorem own_or128i (x : Int32) (h : 0 ≤ x.toInt) (h' : x.toInt < 128) : (x ||| (128 : Int32)).toInt = x.toInt + 128 := by
  have e0 : x.toInt = x.toBitVec.toInt := rfl
  have e1 : (x ||| (128 : Int32)).toInt = (x.toBitVec ||| 128#32).toInt := rfl
  have hl := x.toBitVec.isLt
  have e2 : x.toBitVec.toNat < 128 ∧ x.toInt = (x.toBitVec.toNat : Int) := by
    rw [e0, BitVec.toInt_eq_toNat_cond] at h h' ⊢
    split at h <;> split at h' <;> split <;> omega
  have n : (x.toBitVec ||| 128#32).toNat = x.toBitVec.toNat + 128 := by
    rw [BitVec.toNat_or, Nat.or_comm]
    have := Nat.two_pow_add_eq_or_of_lt (i := 7) (b := x.toBitVec.toNat) (by omega) 1
    have e : (128#32).toNat = 2 ^ 7 * 1 := by decide
    rw [e, ← this]; omega
  rw [e1, BitVec.toInt_eq_toNat_cond, n, if_pos (by omega), e2.2]; omega
theorem own_highb (w : Int64) : (((w &&& (127 : Int64)).toInt32) ||| (128 : Int32)).toInt8.toInt32 = own_byte (w.toBitVec.toNat % 128 + 128) :=
  own_beq (by rw [own_or128i _ (by rw [own_low]; omega) (by rw [own_low]; omega), own_low, own_ofNat (by omega)]; omega)
theorem own_shk (v : Int64) (q : Int32) (k : Nat) (hk : q.toInt = k) (h : k ≤ 9) : ((v.toUInt64 >>> (((7 : Int32) * q) &&& 0x3f).toInt64.toUInt64).toInt64).toBitVec.toNat = v.toBitVec.toNat / 128 ^ k := by
  have hq : q = Int32.ofNat k := Int32.toInt_inj.mp (by rw [hk, own_ofNat (by omega)])
  subst hq
  show (v.toBitVec >>> ((((7 : Int32) * Int32.ofNat k) &&& 0x3f).toInt64.toBitVec % 64)).toNat = _
  rw [BitVec.ushiftRight_eq', BitVec.toNat_ushiftRight, Nat.shiftRight_eq_div_pow]
  have e : ∀ j : Fin 10, (((((7 : Int32) * Int32.ofNat j.val) &&& 0x3f).toInt64.toBitVec % 64)).toNat = 7 * j.val := by decide
  rw [e ⟨k, by omega⟩, Nat.pow_mul]
/-! how many bytes -/
def own_M : Nat → Nat → Nat
  | 0, _ => 1
  | k + 1, u => if u < 128 then 1 else 1 + own_M k (u / 128)
theorem own_M_pos (k u : Nat) : 1 ≤ own_M k u := by
  cases k with
  | zero => exact Nat.le_refl _
  | succ k => simp only [own_M]; split <;> omega
theorem own_M_le : ∀ k u, own_M k u ≤ k + 1
  | 0, u => by simp [own_M]
  | k + 1, u => by simp only [own_M]; have := own_M_le k (u / 128); split <;> omega
def own_nth (l : List Int32) (i : Nat) : Int32 := l.getD i 0
theorem own_nth_set (l : List Int32) (p : Int32) (b : Int32) (i : Nat) (h : i < l.length) : own_nth (own_set l p b) i = if p.toNatClampNeg = i then b else own_nth l i := by
  simp only [own_nth, own_set, List.getD_eq_getElem?_getD, List.getElem?_set]
  split
  · rename_i q; rw [if_pos (by omega : p.toNatClampNeg < l.length)]; rfl
  · rfl
def own_val (u j M : Nat) : Int32 := if j + 1 < M then own_byte (u / 128 ^ j % 128 + 128) else own_byte (u / 128 ^ j % 128)
theorem own_put (x1 : Int32) (x2 : Int64) (l0 : List Int32) : ∀ (k : Nat) (p : Int32) (v : Int64) (l : List Int32), PInv k p v l →
    (f2_6 k x1 x2 l0 l v p).1.toInt = p.toInt + own_M (k - 1) v.toBitVec.toNat ∧ (f2_6 k x1 x2 l0 l v p).2.length = 18 ∧
    ∀ i, i < 18 → own_nth (f2_6 k x1 x2 l0 l v p).2 i = if i < p.toNatClampNeg ∨ p.toNatClampNeg + own_M (k - 1) v.toBitVec.toNat ≤ i then own_nth l i else own_val v.toBitVec.toNat (i - p.toNatClampNeg) (own_M (k - 1) v.toBitVec.toNat) := by
  intro k
  induction k with
  | zero => intro p v l h; exact absurd h PInv.zero
  | succ k ih =>
    intro p v l h
    have hp : 0 ≤ p.toInt ∧ p.toInt + k ≤ 17 := h.2.1
    have hlen : l.length = 18 := h.2.2
    have a := c_iadd p 1; have r := rng32 (p + 1); have e1 : (1 : Int32).toInt = 1 := by decide
    have pn : (p.toNatClampNeg : Int) = p.toInt := by rw [Int32.toNatClampNeg]; omega
    have p1n : (p + (1 : Int32)).toNatClampNeg = p.toNatClampNeg + 1 := by rw [Int32.toNatClampNeg, Int32.toNatClampNeg]; omega
    simp only [f2_6, lw_eq, Nat.add_sub_cancel]
    by_cases hc : (v &&& (-128 : Int64)) = 0
    · rw [if_pos hc]
      have hu := (own_high v).mp hc
      have M1 : own_M k v.toBitVec.toNat = 1 := by cases k with
        | zero => rfl
        | succ k => simp only [own_M]; rw [if_pos hu]
      refine ⟨?_, ?_, ?_⟩
      · show (p + (1 : Int32)).toInt = _
        rw [M1]; omega
      · show (own_set _ _ _).length = 18
        rw [own_set, List.length_set]; exact hlen
      · intro i hi
        show own_nth (own_set l p _) i = _
        rw [own_nth_set _ _ _ _ (by omega), M1, own_last]
        by_cases q : p.toNatClampNeg = i
        · rw [if_pos q, if_neg (by omega)]
          have : i - p.toNatClampNeg = 0 := by omega
          rw [this, own_val, if_neg (by omega)]
          congr 1
          simp only [Nat.pow_zero, Nat.div_one]
          omega
        · rw [if_neg q, if_pos (by omega)]
    · rw [if_neg hc]
      have hu : ¬ v.toBitVec.toNat < 128 := fun q => hc ((own_high v).mpr q)
      have h2 := h.step hc (nar .byte ((((v &&& (127 : Int64)) ||| (128 : Int64)).toInt32).toInt8.toInt32))
      obtain ⟨i1, i2, i3⟩ := ih _ _ _ h2
      rw [own_shr] at i1 i3
      have k0 : k ≠ 0 := fun q => by subst q; exact PInv.zero h2
      obtain ⟨k', rfl⟩ : ∃ k', k = k' + 1 := ⟨k - 1, by omega⟩
      have M1 : own_M (k' + 1) v.toBitVec.toNat = 1 + own_M k' (v.toBitVec.toNat / 128) := by simp only [own_M]; rw [if_neg hu]
      simp only [Nat.add_sub_cancel] at i1 i3
      have mp := own_M_pos k' (v.toBitVec.toNat / 128)
      refine ⟨?_, i2, ?_⟩
      · rw [i1, M1]; omega
      · intro i hi
        rw [i3 i hi, M1, p1n, own_nth_set _ _ _ _ (by omega)]
        by_cases q : i < p.toNatClampNeg
        · rw [if_pos (by omega), if_neg (by omega), if_pos (by omega)]
        · by_cases q2 : i = p.toNatClampNeg
          · rw [if_pos (by omega), if_pos (by omega), if_neg (by omega), own_more]
            have : i - p.toNatClampNeg = 0 := by omega
            rw [this, own_val, if_pos (by omega), Nat.pow_zero, Nat.div_one]
          · by_cases q3 : p.toNatClampNeg + 1 + own_M k' (v.toBitVec.toNat / 128) ≤ i
            · rw [if_pos (by omega), if_neg (by omega), if_pos (by omega)]
            · rw [if_neg (by omega), if_neg (by omega)]
              have : i - p.toNatClampNeg = i - (p.toNatClampNeg + 1) + 1 := by omega
              rw [this]
              generalize i - (p.toNatClampNeg + 1) = j
              have e : v.toBitVec.toNat / 128 / 128 ^ j = v.toBitVec.toNat / 128 ^ (j + 1) := by rw [Nat.div_div_eq_div_mul, Nat.pow_succ, Nat.mul_comm]
              simp only [own_val, e]
              by_cases q4 : j + 1 < own_M k' (v.toBitVec.toNat / 128)
              · rw [if_pos q4, if_pos (by omega)]
              · rw [if_neg q4, if_neg (by omega)]
/-! the count that the law makes -/
theorem own_F1 (v : Int64) (q : Int32) (k : Nat) (hk : q.toInt = k) (h : k ≤ 9) : F1 v q = if v.toBitVec.toNat < 128 ^ k then 0 else 1 := by
  have n := own_shk v q k hk h
  simp only [F1, f1_0, lw_eq]
  have hpos : 0 < 128 ^ k := Nat.pow_pos (by decide)
  have e : ((v.toUInt64 >>> (((7 : Int32) * q) &&& 0x3f).toInt64.toUInt64).toInt64) = 0 ↔ v.toBitVec.toNat < 128 ^ k := by
    rw [← Int64.toBitVec_inj]
    constructor
    · intro hh
      rw [hh] at n
      have : (0 : Int64).toBitVec.toNat = 0 := by decide
      rw [this] at n
      exact (Nat.div_eq_zero_iff_lt hpos).mp n.symm
    · intro hh
      refine BitVec.eq_of_toNat_eq ?_
      rw [n, Nat.div_eq_of_lt hh]; rfl
  by_cases q : v.toBitVec.toNat < 128 ^ k
  · rw [if_pos (e.mpr q), if_pos q]
  · rw [if_neg (fun z => q (e.mp z)), if_neg q]
def own_N (v : Int64) : Int32 := ((((((((((1 : Int32) + (F1 v (1 : Int32))) + (F1 v (2 : Int32))) + (F1 v (3 : Int32))) + (F1 v (4 : Int32))) + (F1 v (5 : Int32))) + (F1 v (6 : Int32))) + (F1 v (7 : Int32))) + (F1 v (8 : Int32))) + (F1 v (9 : Int32)))
theorem own_NM (v : Int64) : (own_N v).toInt = own_M 9 v.toBitVec.toNat := by
  have hl := v.toBitVec.isLt
  simp only [own_N, own_F1 v 1 1 (by decide) (by decide), own_F1 v 2 2 (by decide) (by decide), own_F1 v 3 3 (by decide) (by decide), own_F1 v 4 4 (by decide) (by decide), own_F1 v 5 5 (by decide) (by decide), own_F1 v 6 6 (by decide) (by decide), own_F1 v 7 7 (by decide) (by decide), own_F1 v 8 8 (by decide) (by decide), own_F1 v 9 9 (by decide) (by decide)]
  generalize v.toBitVec.toNat = u at *
  simp only [own_M]
  have p1 : (128 : Nat) ^ 1 = 128 := by decide
  have p2 : (128 : Nat) ^ 2 = 16384 := by decide
  have p3 : (128 : Nat) ^ 3 = 2097152 := by decide
  have p4 : (128 : Nat) ^ 4 = 268435456 := by decide
  have p5 : (128 : Nat) ^ 5 = 34359738368 := by decide
  have p6 : (128 : Nat) ^ 6 = 4398046511104 := by decide
  have p7 : (128 : Nat) ^ 7 = 562949953421312 := by decide
  have p8 : (128 : Nat) ^ 8 = 72057594037927936 := by decide
  have p9 : (128 : Nat) ^ 9 = 9223372036854775808 := by decide
  rw [p1, p2, p3, p4, p5, p6, p7, p8, p9]
  by_cases q1 : u < 128
  · rw [if_pos (by omega : u < 128), if_pos (by omega : u < 16384), if_pos (by omega : u < 2097152), if_pos (by omega : u < 268435456), if_pos (by omega : u < 34359738368), if_pos (by omega : u < 4398046511104), if_pos (by omega : u < 562949953421312), if_pos (by omega : u < 72057594037927936), if_pos (by omega : u < 9223372036854775808), if_pos (by omega : u < 128)]; decide
  by_cases q2 : u < 16384
  · rw [if_neg (by omega : ¬ u < 128), if_pos (by omega : u < 16384), if_pos (by omega : u < 2097152), if_pos (by omega : u < 268435456), if_pos (by omega : u < 34359738368), if_pos (by omega : u < 4398046511104), if_pos (by omega : u < 562949953421312), if_pos (by omega : u < 72057594037927936), if_pos (by omega : u < 9223372036854775808), if_neg (by omega : ¬ u < 128), if_pos (by omega : u / 128 < 128)]; decide
  by_cases q3 : u < 2097152
  · rw [if_neg (by omega : ¬ u < 128), if_neg (by omega : ¬ u < 16384), if_pos (by omega : u < 2097152), if_pos (by omega : u < 268435456), if_pos (by omega : u < 34359738368), if_pos (by omega : u < 4398046511104), if_pos (by omega : u < 562949953421312), if_pos (by omega : u < 72057594037927936), if_pos (by omega : u < 9223372036854775808), if_neg (by omega : ¬ u < 128), if_neg (by omega : ¬ u / 128 < 128), if_pos (by omega : u / 128 / 128 < 128)]; decide
  by_cases q4 : u < 268435456
  · rw [if_neg (by omega : ¬ u < 128), if_neg (by omega : ¬ u < 16384), if_neg (by omega : ¬ u < 2097152), if_pos (by omega : u < 268435456), if_pos (by omega : u < 34359738368), if_pos (by omega : u < 4398046511104), if_pos (by omega : u < 562949953421312), if_pos (by omega : u < 72057594037927936), if_pos (by omega : u < 9223372036854775808), if_neg (by omega : ¬ u < 128), if_neg (by omega : ¬ u / 128 < 128), if_neg (by omega : ¬ u / 128 / 128 < 128), if_pos (by omega : u / 128 / 128 / 128 < 128)]; decide
  by_cases q5 : u < 34359738368
  · rw [if_neg (by omega : ¬ u < 128), if_neg (by omega : ¬ u < 16384), if_neg (by omega : ¬ u < 2097152), if_neg (by omega : ¬ u < 268435456), if_pos (by omega : u < 34359738368), if_pos (by omega : u < 4398046511104), if_pos (by omega : u < 562949953421312), if_pos (by omega : u < 72057594037927936), if_pos (by omega : u < 9223372036854775808), if_neg (by omega : ¬ u < 128), if_neg (by omega : ¬ u / 128 < 128), if_neg (by omega : ¬ u / 128 / 128 < 128), if_neg (by omega : ¬ u / 128 / 128 / 128 < 128), if_pos (by omega : u / 128 / 128 / 128 / 128 < 128)]; decide
  by_cases q6 : u < 4398046511104
  · rw [if_neg (by omega : ¬ u < 128), if_neg (by omega : ¬ u < 16384), if_neg (by omega : ¬ u < 2097152), if_neg (by omega : ¬ u < 268435456), if_neg (by omega : ¬ u < 34359738368), if_pos (by omega : u < 4398046511104), if_pos (by omega : u < 562949953421312), if_pos (by omega : u < 72057594037927936), if_pos (by omega : u < 9223372036854775808), if_neg (by omega : ¬ u < 128), if_neg (by omega : ¬ u / 128 < 128), if_neg (by omega : ¬ u / 128 / 128 < 128), if_neg (by omega : ¬ u / 128 / 128 / 128 < 128), if_neg (by omega : ¬ u / 128 / 128 / 128 / 128 < 128), if_pos (by omega : u / 128 / 128 / 128 / 128 / 128 < 128)]; decide
  by_cases q7 : u < 562949953421312
  · rw [if_neg (by omega : ¬ u < 128), if_neg (by omega : ¬ u < 16384), if_neg (by omega : ¬ u < 2097152), if_neg (by omega : ¬ u < 268435456), if_neg (by omega : ¬ u < 34359738368), if_neg (by omega : ¬ u < 4398046511104), if_pos (by omega : u < 562949953421312), if_pos (by omega : u < 72057594037927936), if_pos (by omega : u < 9223372036854775808), if_neg (by omega : ¬ u < 128), if_neg (by omega : ¬ u / 128 < 128), if_neg (by omega : ¬ u / 128 / 128 < 128), if_neg (by omega : ¬ u / 128 / 128 / 128 < 128), if_neg (by omega : ¬ u / 128 / 128 / 128 / 128 < 128), if_neg (by omega : ¬ u / 128 / 128 / 128 / 128 / 128 < 128), if_pos (by omega : u / 128 / 128 / 128 / 128 / 128 / 128 < 128)]; decide
  by_cases q8 : u < 72057594037927936
  · rw [if_neg (by omega : ¬ u < 128), if_neg (by omega : ¬ u < 16384), if_neg (by omega : ¬ u < 2097152), if_neg (by omega : ¬ u < 268435456), if_neg (by omega : ¬ u < 34359738368), if_neg (by omega : ¬ u < 4398046511104), if_neg (by omega : ¬ u < 562949953421312), if_pos (by omega : u < 72057594037927936), if_pos (by omega : u < 9223372036854775808), if_neg (by omega : ¬ u < 128), if_neg (by omega : ¬ u / 128 < 128), if_neg (by omega : ¬ u / 128 / 128 < 128), if_neg (by omega : ¬ u / 128 / 128 / 128 < 128), if_neg (by omega : ¬ u / 128 / 128 / 128 / 128 < 128), if_neg (by omega : ¬ u / 128 / 128 / 128 / 128 / 128 < 128), if_neg (by omega : ¬ u / 128 / 128 / 128 / 128 / 128 / 128 < 128), if_pos (by omega : u / 128 / 128 / 128 / 128 / 128 / 128 / 128 < 128)]; decide
  by_cases q9 : u < 9223372036854775808
  · rw [if_neg (by omega : ¬ u < 128), if_neg (by omega : ¬ u < 16384), if_neg (by omega : ¬ u < 2097152), if_neg (by omega : ¬ u < 268435456), if_neg (by omega : ¬ u < 34359738368), if_neg (by omega : ¬ u < 4398046511104), if_neg (by omega : ¬ u < 562949953421312), if_neg (by omega : ¬ u < 72057594037927936), if_pos (by omega : u < 9223372036854775808), if_neg (by omega : ¬ u < 128), if_neg (by omega : ¬ u / 128 < 128), if_neg (by omega : ¬ u / 128 / 128 < 128), if_neg (by omega : ¬ u / 128 / 128 / 128 < 128), if_neg (by omega : ¬ u / 128 / 128 / 128 / 128 < 128), if_neg (by omega : ¬ u / 128 / 128 / 128 / 128 / 128 < 128), if_neg (by omega : ¬ u / 128 / 128 / 128 / 128 / 128 / 128 < 128), if_neg (by omega : ¬ u / 128 / 128 / 128 / 128 / 128 / 128 / 128 < 128), if_pos (by omega : u / 128 / 128 / 128 / 128 / 128 / 128 / 128 / 128 < 128)]; decide
  rw [if_neg (by omega : ¬ u < 128), if_neg (by omega : ¬ u < 16384), if_neg (by omega : ¬ u < 2097152), if_neg (by omega : ¬ u < 268435456), if_neg (by omega : ¬ u < 34359738368), if_neg (by omega : ¬ u < 4398046511104), if_neg (by omega : ¬ u < 562949953421312), if_neg (by omega : ¬ u < 72057594037927936), if_neg (by omega : ¬ u < 9223372036854775808), if_neg (by omega : ¬ u < 128), if_neg (by omega : ¬ u / 128 < 128), if_neg (by omega : ¬ u / 128 / 128 < 128), if_neg (by omega : ¬ u / 128 / 128 / 128 < 128), if_neg (by omega : ¬ u / 128 / 128 / 128 / 128 < 128), if_neg (by omega : ¬ u / 128 / 128 / 128 / 128 / 128 < 128), if_neg (by omega : ¬ u / 128 / 128 / 128 / 128 / 128 / 128 < 128), if_neg (by omega : ¬ u / 128 / 128 / 128 / 128 / 128 / 128 / 128 < 128), if_neg (by omega : ¬ u / 128 / 128 / 128 / 128 / 128 / 128 / 128 / 128 < 128)]; decide
theorem own_r (v : Int64) (x2 x3 : Int32) : (F2 (x2 &&& (7 : Int32)) v [(nar .byte (x3.toInt8.toInt32)), (nar .byte (x3.toInt8.toInt32)), (nar .byte (x3.toInt8.toInt32)), (nar .byte (x3.toInt8.toInt32)), (nar .byte (x3.toInt8.toInt32)), (nar .byte (x3.toInt8.toInt32)), (nar .byte (x3.toInt8.toInt32)), (nar .byte (x3.toInt8.toInt32)), (nar .byte (x3.toInt8.toInt32)), (nar .byte (x3.toInt8.toInt32)), (nar .byte (x3.toInt8.toInt32)), (nar .byte (x3.toInt8.toInt32)), (nar .byte (x3.toInt8.toInt32)), (nar .byte (x3.toInt8.toInt32)), (nar .byte (x3.toInt8.toInt32)), (nar .byte (x3.toInt8.toInt32)), (nar .byte (x3.toInt8.toInt32)), (nar .byte (x3.toInt8.toInt32))]).1 = ((x2 &&& (7 : Int32)) + own_N v) := by
  have h := own_put (x2 &&& (7 : Int32)) v [(nar .byte (x3.toInt8.toInt32)), (nar .byte (x3.toInt8.toInt32)), (nar .byte (x3.toInt8.toInt32)), (nar .byte (x3.toInt8.toInt32)), (nar .byte (x3.toInt8.toInt32)), (nar .byte (x3.toInt8.toInt32)), (nar .byte (x3.toInt8.toInt32)), (nar .byte (x3.toInt8.toInt32)), (nar .byte (x3.toInt8.toInt32)), (nar .byte (x3.toInt8.toInt32)), (nar .byte (x3.toInt8.toInt32)), (nar .byte (x3.toInt8.toInt32)), (nar .byte (x3.toInt8.toInt32)), (nar .byte (x3.toInt8.toInt32)), (nar .byte (x3.toInt8.toInt32)), (nar .byte (x3.toInt8.toInt32)), (nar .byte (x3.toInt8.toInt32)), (nar .byte (x3.toInt8.toInt32))] 10 (x2 &&& (7 : Int32)) v [(nar .byte (x3.toInt8.toInt32)), (nar .byte (x3.toInt8.toInt32)), (nar .byte (x3.toInt8.toInt32)), (nar .byte (x3.toInt8.toInt32)), (nar .byte (x3.toInt8.toInt32)), (nar .byte (x3.toInt8.toInt32)), (nar .byte (x3.toInt8.toInt32)), (nar .byte (x3.toInt8.toInt32)), (nar .byte (x3.toInt8.toInt32)), (nar .byte (x3.toInt8.toInt32)), (nar .byte (x3.toInt8.toInt32)), (nar .byte (x3.toInt8.toInt32)), (nar .byte (x3.toInt8.toInt32)), (nar .byte (x3.toInt8.toInt32)), (nar .byte (x3.toInt8.toInt32)), (nar .byte (x3.toInt8.toInt32)), (nar .byte (x3.toInt8.toInt32)), (nar .byte (x3.toInt8.toInt32))] (PInv.start _ _ _ rfl)
  have m0 : (x2 &&& (7 : Int32)).toInt = x2.toInt % 8 := by have := c_mask x2 7 3 (by decide) (by decide); simpa using this
  have a := c_iadd (x2 &&& (7 : Int32)) (own_N v); have r := rng32 ((x2 &&& (7 : Int32)) + own_N v); have b := own_NM v; have c := own_M_le 9 v.toBitVec.toNat
  apply Int32.toInt_inj.mp
  show (f2_6 10 _ _ _ _ _ _).1.toInt = _
  rw [h.1]
  show _ + ((own_M 9 v.toBitVec.toNat : Nat) : Int) = _
  omega
theorem own_fill (x3 : Int32) (i : Nat) (h : i < 18) : own_nth [(nar .byte (x3.toInt8.toInt32)), (nar .byte (x3.toInt8.toInt32)), (nar .byte (x3.toInt8.toInt32)), (nar .byte (x3.toInt8.toInt32)), (nar .byte (x3.toInt8.toInt32)), (nar .byte (x3.toInt8.toInt32)), (nar .byte (x3.toInt8.toInt32)), (nar .byte (x3.toInt8.toInt32)), (nar .byte (x3.toInt8.toInt32)), (nar .byte (x3.toInt8.toInt32)), (nar .byte (x3.toInt8.toInt32)), (nar .byte (x3.toInt8.toInt32)), (nar .byte (x3.toInt8.toInt32)), (nar .byte (x3.toInt8.toInt32)), (nar .byte (x3.toInt8.toInt32)), (nar .byte (x3.toInt8.toInt32)), (nar .byte (x3.toInt8.toInt32)), (nar .byte (x3.toInt8.toInt32))] i = x3.toInt8.toInt32 := by
  have : ∀ l : List Int32, l = List.replicate 18 (nar .byte (x3.toInt8.toInt32)) → own_nth l i = x3.toInt8.toInt32 := fun l hl => by
    rw [hl, own_nth, List.getD_eq_getElem?_getD, List.getElem?_replicate, if_pos h]; exact own_twice x3
  exact this _ rfl
theorem own_ok (v : Int64) (x2 x3 : Int32) (i : Nat) (hi : i < 18) (x1 : Int32) (hx : x1.toInt = i) : ¬ F3 x1 (x2 &&& (7 : Int32)) (own_N v) v (x3.toInt8.toInt32) (F2 (x2 &&& (7 : Int32)) v [(nar .byte (x3.toInt8.toInt32)), (nar .byte (x3.toInt8.toInt32)), (nar .byte (x3.toInt8.toInt32)), (nar .byte (x3.toInt8.toInt32)), (nar .byte (x3.toInt8.toInt32)), (nar .byte (x3.toInt8.toInt32)), (nar .byte (x3.toInt8.toInt32)), (nar .byte (x3.toInt8.toInt32)), (nar .byte (x3.toInt8.toInt32)), (nar .byte (x3.toInt8.toInt32)), (nar .byte (x3.toInt8.toInt32)), (nar .byte (x3.toInt8.toInt32)), (nar .byte (x3.toInt8.toInt32)), (nar .byte (x3.toInt8.toInt32)), (nar .byte (x3.toInt8.toInt32)), (nar .byte (x3.toInt8.toInt32)), (nar .byte (x3.toInt8.toInt32)), (nar .byte (x3.toInt8.toInt32))]).2 = (0 : Int32) := by
  have h := (own_put (x2 &&& (7 : Int32)) v [(nar .byte (x3.toInt8.toInt32)), (nar .byte (x3.toInt8.toInt32)), (nar .byte (x3.toInt8.toInt32)), (nar .byte (x3.toInt8.toInt32)), (nar .byte (x3.toInt8.toInt32)), (nar .byte (x3.toInt8.toInt32)), (nar .byte (x3.toInt8.toInt32)), (nar .byte (x3.toInt8.toInt32)), (nar .byte (x3.toInt8.toInt32)), (nar .byte (x3.toInt8.toInt32)), (nar .byte (x3.toInt8.toInt32)), (nar .byte (x3.toInt8.toInt32)), (nar .byte (x3.toInt8.toInt32)), (nar .byte (x3.toInt8.toInt32)), (nar .byte (x3.toInt8.toInt32)), (nar .byte (x3.toInt8.toInt32)), (nar .byte (x3.toInt8.toInt32)), (nar .byte (x3.toInt8.toInt32))] 10 (x2 &&& (7 : Int32)) v [(nar .byte (x3.toInt8.toInt32)), (nar .byte (x3.toInt8.toInt32)), (nar .byte (x3.toInt8.toInt32)), (nar .byte (x3.toInt8.toInt32)), (nar .byte (x3.toInt8.toInt32)), (nar .byte (x3.toInt8.toInt32)), (nar .byte (x3.toInt8.toInt32)), (nar .byte (x3.toInt8.toInt32)), (nar .byte (x3.toInt8.toInt32)), (nar .byte (x3.toInt8.toInt32)), (nar .byte (x3.toInt8.toInt32)), (nar .byte (x3.toInt8.toInt32)), (nar .byte (x3.toInt8.toInt32)), (nar .byte (x3.toInt8.toInt32)), (nar .byte (x3.toInt8.toInt32)), (nar .byte (x3.toInt8.toInt32)), (nar .byte (x3.toInt8.toInt32)), (nar .byte (x3.toInt8.toInt32))] (PInv.start _ _ _ rfl)).2.2 i hi
  have m0 : (x2 &&& (7 : Int32)).toInt = x2.toInt % 8 := by have := c_mask x2 7 3 (by decide) (by decide); simpa using this
  have hat : own_at (F2 (x2 &&& (7 : Int32)) v [(nar .byte (x3.toInt8.toInt32)), (nar .byte (x3.toInt8.toInt32)), (nar .byte (x3.toInt8.toInt32)), (nar .byte (x3.toInt8.toInt32)), (nar .byte (x3.toInt8.toInt32)), (nar .byte (x3.toInt8.toInt32)), (nar .byte (x3.toInt8.toInt32)), (nar .byte (x3.toInt8.toInt32)), (nar .byte (x3.toInt8.toInt32)), (nar .byte (x3.toInt8.toInt32)), (nar .byte (x3.toInt8.toInt32)), (nar .byte (x3.toInt8.toInt32)), (nar .byte (x3.toInt8.toInt32)), (nar .byte (x3.toInt8.toInt32)), (nar .byte (x3.toInt8.toInt32)), (nar .byte (x3.toInt8.toInt32)), (nar .byte (x3.toInt8.toInt32)), (nar .byte (x3.toInt8.toInt32))]).2 x1 = own_nth (f2_6 10 (x2 &&& (7 : Int32)) v [(nar .byte (x3.toInt8.toInt32)), (nar .byte (x3.toInt8.toInt32)), (nar .byte (x3.toInt8.toInt32)), (nar .byte (x3.toInt8.toInt32)), (nar .byte (x3.toInt8.toInt32)), (nar .byte (x3.toInt8.toInt32)), (nar .byte (x3.toInt8.toInt32)), (nar .byte (x3.toInt8.toInt32)), (nar .byte (x3.toInt8.toInt32)), (nar .byte (x3.toInt8.toInt32)), (nar .byte (x3.toInt8.toInt32)), (nar .byte (x3.toInt8.toInt32)), (nar .byte (x3.toInt8.toInt32)), (nar .byte (x3.toInt8.toInt32)), (nar .byte (x3.toInt8.toInt32)), (nar .byte (x3.toInt8.toInt32)), (nar .byte (x3.toInt8.toInt32)), (nar .byte (x3.toInt8.toInt32))] [(nar .byte (x3.toInt8.toInt32)), (nar .byte (x3.toInt8.toInt32)), (nar .byte (x3.toInt8.toInt32)), (nar .byte (x3.toInt8.toInt32)), (nar .byte (x3.toInt8.toInt32)), (nar .byte (x3.toInt8.toInt32)), (nar .byte (x3.toInt8.toInt32)), (nar .byte (x3.toInt8.toInt32)), (nar .byte (x3.toInt8.toInt32)), (nar .byte (x3.toInt8.toInt32)), (nar .byte (x3.toInt8.toInt32)), (nar .byte (x3.toInt8.toInt32)), (nar .byte (x3.toInt8.toInt32)), (nar .byte (x3.toInt8.toInt32)), (nar .byte (x3.toInt8.toInt32)), (nar .byte (x3.toInt8.toInt32)), (nar .byte (x3.toInt8.toInt32)), (nar .byte (x3.toInt8.toInt32))] v (x2 &&& (7 : Int32))).2 i := by
    have : x1.toNatClampNeg = i := by rw [Int32.toNatClampNeg]; omega
    show own_nth _ x1.toNatClampNeg = _
    rw [this]; rfl
  have b := own_NM v; have c := own_M_le 9 v.toBitVec.toNat; have c' := own_M_pos 9 v.toBitVec.toNat
  simp only [Nat.reduceSub] at h
  have pn : ((x2 &&& (7 : Int32)).toNatClampNeg : Int) = (x2 &&& (7 : Int32)).toInt := by rw [Int32.toNatClampNeg]; omega
  have d := c_isub x1 (x2 &&& (7 : Int32)); have dr := rng32 (x1 - (x2 &&& (7 : Int32)))
  have n1 := c_isub (own_N v) 1; have n1r := rng32 (own_N v - 1)
  have e1 : (1 : Int32).toInt = 1 := by decide
  have e0 : (0 : Int32).toInt = 0 := by decide
  have key : F3 x1 (x2 &&& (7 : Int32)) (own_N v) v (x3.toInt8.toInt32) (F2 (x2 &&& (7 : Int32)) v [(nar .byte (x3.toInt8.toInt32)), (nar .byte (x3.toInt8.toInt32)), (nar .byte (x3.toInt8.toInt32)), (nar .byte (x3.toInt8.toInt32)), (nar .byte (x3.toInt8.toInt32)), (nar .byte (x3.toInt8.toInt32)), (nar .byte (x3.toInt8.toInt32)), (nar .byte (x3.toInt8.toInt32)), (nar .byte (x3.toInt8.toInt32)), (nar .byte (x3.toInt8.toInt32)), (nar .byte (x3.toInt8.toInt32)), (nar .byte (x3.toInt8.toInt32)), (nar .byte (x3.toInt8.toInt32)), (nar .byte (x3.toInt8.toInt32)), (nar .byte (x3.toInt8.toInt32)), (nar .byte (x3.toInt8.toInt32)), (nar .byte (x3.toInt8.toInt32)), (nar .byte (x3.toInt8.toInt32))]).2 = 1 := by
    simp only [F3, f3_0, f3_16, f3_64, hat]
    rw [h]
    generalize (x2 &&& (7 : Int32)) = p at *
    by_cases q1 : (x1 - p) < (0 : Int32)
    · rw [if_pos q1]
      rw [Int32.lt_iff_toInt_lt] at q1
      have hM : i < p.toNatClampNeg ∨ p.toNatClampNeg + own_M 9 v.toBitVec.toNat ≤ i := by omega
      rw [if_pos hM, own_fill x3 i hi, if_pos rfl]
    · rw [if_neg q1]
      rw [Int32.lt_iff_toInt_lt] at q1
      by_cases q2 : (x1 - p) < own_N v
      · rw [if_pos q2]
        rw [Int32.lt_iff_toInt_lt] at q2
        have hM : ¬ (i < p.toNatClampNeg ∨ p.toNatClampNeg + own_M 9 v.toBitVec.toNat ≤ i) := by omega
        simp only [if_neg hM]
        have hk : (x1 - p).toInt = ((i - p.toNatClampNeg : Nat) : Int) := by omega
        have sh := own_shk v (x1 - p) (i - p.toNatClampNeg) hk (by omega)
        by_cases q3 : (x1 - p) < (own_N v - (1 : Int32))
        · rw [if_pos q3]
          rw [Int32.lt_iff_toInt_lt] at q3
          have hj : i - p.toNatClampNeg + 1 < own_M 9 v.toBitVec.toNat := by omega
          rw [own_highb, sh, own_val, if_pos hj, if_pos rfl]
        · rw [if_neg q3]
          rw [Int32.lt_iff_toInt_lt] at q3
          have hj : ¬ (i - p.toNatClampNeg + 1 < own_M 9 v.toBitVec.toNat) := by omega
          rw [own_lowb, sh, own_val, if_neg hj, if_pos rfl]
      · rw [if_neg q2]
        rw [Int32.lt_iff_toInt_lt] at q2
        have hM : i < p.toNatClampNeg ∨ p.toNatClampNeg + own_M 9 v.toBitVec.toNat ≤ i := by omega
        rw [if_pos hM, own_fill x3 i hi, if_pos rfl]
  rw [key]; decide
theorem law_true (x0 : Int64) (x1 x2 x3 : Int32) : F0 x0 x1 x2 x3 = 1 := by
  simp only [F0, f0_0, f0_18]
  split <;> rfl

theorem pd_0 : parseMethodDescriptor "(JI)I" = some ⟨[.long, .int], some .int⟩ := by decide +kernel
theorem pd_1 : parseMethodDescriptor "([BIJ)I" = some ⟨[(.array .byte), .int, .long], some .int⟩ := by decide +kernel
theorem pd_2 : parseMethodDescriptor "([BIIIJB)Z" = some ⟨[(.array .byte), .int, .int, .int, .long, .byte], some .boolean⟩ := by decide +kernel
theorem d1_0 : decode method_2_code 0 = .ok (.lload_n 0, 1) := by decide +kernel
theorem d1_1 : decode method_2_code 1 = .ok (.bipush 7, 2) := by decide +kernel
theorem d1_3 : decode method_2_code 3 = .ok (.iload_n 2, 1) := by decide +kernel
theorem d1_4 : decode method_2_code 4 = .ok (.imul, 1) := by decide +kernel
theorem d1_5 : decode method_2_code 5 = .ok (.lushr, 1) := by decide +kernel
theorem d1_6 : decode method_2_code 6 = .ok (.lconst 0, 1) := by decide +kernel
theorem d1_7 : decode method_2_code 7 = .ok (.lcmp, 1) := by decide +kernel
theorem d1_8 : decode method_2_code 8 = .ok (.ifCond .eq 7, 3) := by decide +kernel
theorem d1_11 : decode method_2_code 11 = .ok (.iconst 1, 1) := by decide +kernel
theorem d1_12 : decode method_2_code 12 = .ok (.goto 4, 3) := by decide +kernel
theorem d1_15 : decode method_2_code 15 = .ok (.iconst 0, 1) := by decide +kernel
theorem d1_16 : decode method_2_code 16 = .ok (.ireturn, 1) := by decide +kernel
theorem pn_1 : plainName "com/example/caddis/caddis/index/IndexFormatPutVarintPinLaw" = true := by first | (simp [plainName, overriddenIn]; done) | decide +kernel
theorem ef_1 (m : MethodId) (x0 : Int64) (x1 : Int32) : entryFrame m #[(.long x0), (.int x1)] 3 = mkF m 0 #[.val (.long x0), .second, .val (.int x1)] [] := by first | (simp [entryFrame, mkF, argsToLocals, Value.category]; done) | rfl
set_option maxRecDepth 65536 in
set_option maxHeartbeats 40000000 in
theorem rm1 (l : Launch) (Z : State) (a0 : Array Value) (hw : ∀ d ∈ tables_1, d.before a0 Z = true) (ws : List Jvm.Cond) (x0 : Int64) (x1 : Int32) (h0 : Heap) :
    MetFree l (⟨"com/example/caddis/caddis/index/IndexFormatPutVarintPinLaw", "nz", "(JI)I"⟩ : MethodName) (head1 (Jvm.Cond.code (⟨"com/example/caddis/caddis/index/IndexFormatPutVarintPinLaw", "nz", "(JI)I"⟩ : MethodName) method_2_code 3 (some .int) :: ws) ({ frames := 0, cells := 0, slots := 0, locals := 0 } : Room)) (fun a U => a = #[(.long x0), (.int x1)] ∧ Z.Warmed39 U.vm ∧ U.heap = h0) (fun _ _ _ _ _ => True) (fun _ U o U' => ∃ v L, o = .returned v ∧ QP (.int (F1 x0 x1)) h0 v U'.heap L ∧ FrameEnd U o U' L ({ frames := 0, cells := 0, slots := 0, locals := 0 } : Room).cells ({ frames := 0, cells := 0, slots := 0, locals := 0 } : Room).slots) := by
  refine MetFree.of_bodySF (plainFor_of_name pn_1) hisR ?_
  intro p e s m args below meth c s₁ Bd hml0 hP hK
  obtain ⟨rfl, hZ, hh⟩ := hP
  have hx := Bd.exec
  have hby := Bd.bytes
  have hml : c.maxLocals = 3 := hml0
  have hown : s.vm.findClass "com/example/caddis/caddis/index/IndexFormatPutVarintPinLaw" = some m.cls := findClass_of_methodNamed Bd.named
  have X0 : Stand p l e ({ frames := 0, cells := 0, slots := 0, locals := 0 } : Room) s m #[(.long x0), (.int x1)] below meth c s₁ [] 0 0 := Stand.of_body Bd
  have e0 : s₁.heap = h0 := by rw [← hh, Bd.state]; rfl
  show Runs p e below s (QP (.int (F1 x0 x1)) h0) ({ frames := 0, cells := 0, slots := 0, locals := 0 } : Room).cells ({ frames := 0, cells := 0, slots := 0, locals := 0 } : Room).slots (s₁.setTop (entryFrame m #[(.long x0), (.int x1)] 3))
  rw [ef_1 m x0 x1]
  obtain ⟨r, hF⟩ : ∃ r, F1 x0 x1 = r := ⟨_, rfl⟩
  rw [hF]
  have k_0 : ∀ (T : State) (X : Stand p l e ({ frames := 0, cells := 0, slots := 0, locals := 0 } : Room) s m #[(.long x0), (.int x1)] below meth c T [] 0 0) (eT : T.heap = h0), f1_0 x0 x1 = r → Runs p e below s (QP (.int r) h0) ({ frames := 0, cells := 0, slots := 0, locals := 0 } : Room).cells ({ frames := 0, cells := 0, slots := 0, locals := 0 } : Room).slots (T.setTop (mkF m 0 #[.val (.long x0), .second, .val (.int x1)] [])) := by
    intro T X eT  hv
    unfold f1_0 at hv
    refine Runs.go (fun _ => XS.lloadN X.here hx rfl (hb hby d1_0) rfl) ?_
    show Runs p e below s _ _ _ (T.setTop (mkF m 1 #[.val (.long x0), .second, .val (.int x1)] [(.long x0)]))
    refine Runs.go (fun _ => XS.bipush X.here hx rfl (hb hby d1_1)) ?_
    show Runs p e below s _ _ _ (T.setTop (mkF m 3 #[.val (.long x0), .second, .val (.int x1)] [(.int (7 : Int32)), (.long x0)]))
    refine Runs.go (fun _ => XS.iloadN X.here hx rfl (hb hby d1_3) rfl) ?_
    show Runs p e below s _ _ _ (T.setTop (mkF m 4 #[.val (.long x0), .second, .val (.int x1)] [(.int x1), (.int (7 : Int32)), (.long x0)]))
    refine Runs.go (fun _ => XS.imul X.here hx rfl (hb hby d1_4) rfl) ?_
    show Runs p e below s _ _ _ (T.setTop (mkF m 5 #[.val (.long x0), .second, .val (.int x1)] [(.int ((7 : Int32) * x1)), (.long x0)]))
    refine Runs.go (fun _ => XS.lushr X.here hx rfl (hb hby d1_5) rfl) ?_
    show Runs p e below s _ _ _ (T.setTop (mkF m 6 #[.val (.long x0), .second, .val (.int x1)] [(.long ((x0.toUInt64 >>> (((7 : Int32) * x1) &&& 0x3f).toInt64.toUInt64).toInt64))]))
    refine Runs.go (fun _ => XS.lconst X.here hx rfl (hb hby d1_6)) ?_
    show Runs p e below s _ _ _ (T.setTop (mkF m 7 #[.val (.long x0), .second, .val (.int x1)] [(.long (0 : Int64)), (.long ((x0.toUInt64 >>> (((7 : Int32) * x1) &&& 0x3f).toInt64.toUInt64).toInt64))]))
    refine Runs.go (fun _ => XS.lcmp X.here hx rfl (hb hby d1_7) rfl) ?_
    show Runs p e below s _ _ _ (T.setTop (mkF m 8 #[.val (.long x0), .second, .val (.int x1)] [(.int (lcmpW ((x0.toUInt64 >>> (((7 : Int32) * x1) &&& 0x3f).toInt64.toUInt64).toInt64) (0 : Int64)))]))
    by_cases hc8 : (lcmpW ((x0.toUInt64 >>> (((7 : Int32) * x1) &&& 0x3f).toInt64.toUInt64).toInt64) (0 : Int64)) = (0 : Int32)
    · have hv := (if_pos hc8).symm.trans hv
      refine Runs.go (fun _ => XS.ifYes X.here hx rfl (pc0 := 8) (pc' := 15) rfl (hb hby d1_8) rfl ((if0 _ _).trans (teq hc8).1) (by decide) (by decide)) ?_
      show Runs p e below s _ _ _ (T.setTop (mkF m 15 #[.val (.long x0), .second, .val (.int x1)] []))
      refine Runs.go (fun _ => XS.iconst X.here hx rfl (hb hby d1_15)) ?_
      show Runs p e below s _ _ _ (T.setTop (mkF m 16 #[.val (.long x0), .second, .val (.int x1)] [(.int (0 : Int32))]))
      exact Runs.endI X hx Bd.returns Bd.notSynchronized (hb hby d1_16) ⟨congrArg (fun z => some (Value.int z)) hv, rfl, eT⟩ (by decide) (by decide)
    · have hv := (if_neg hc8).symm.trans hv
      refine Runs.go (fun _ => XS.ifNo X.here hx rfl (hb hby d1_8) rfl ((if0 _ _).trans (feq hc8).1)) ?_
      show Runs p e below s _ _ _ (T.setTop (mkF m 11 #[.val (.long x0), .second, .val (.int x1)] []))
      refine Runs.go (fun _ => XS.iconst X.here hx rfl (hb hby d1_11)) ?_
      show Runs p e below s _ _ _ (T.setTop (mkF m 12 #[.val (.long x0), .second, .val (.int x1)] [(.int (1 : Int32))]))
      refine Runs.go (fun _ => XS.goto X.here hx rfl (pc0 := 12) (pc' := 16) rfl (hb hby d1_12) (by decide) (by decide)) ?_
      show Runs p e below s _ _ _ (T.setTop (mkF m 16 #[.val (.long x0), .second, .val (.int x1)] [(.int (1 : Int32))]))
      exact Runs.endI X hx Bd.returns Bd.notSynchronized (hb hby d1_16) ⟨congrArg (fun z => some (Value.int z)) hv, rfl, eT⟩ (by decide) (by decide)
  exact k_0 _ X0 e0 hF
theorem d2_0 : decode prog_24_method_2_code 0 = .ok (.lload_n 2, 1) := by decide +kernel
theorem d2_1 : decode prog_24_method_2_code 1 = .ok (.lstore 4, 2) := by decide +kernel
theorem d2_3 : decode prog_24_method_2_code 3 = .ok (.iload_n 1, 1) := by decide +kernel
theorem d2_4 : decode prog_24_method_2_code 4 = .ok (.istore 6, 2) := by decide +kernel
theorem d2_6 : decode prog_24_method_2_code 6 = .ok (.lload 4, 2) := by decide +kernel
theorem d2_8 : decode prog_24_method_2_code 8 = .ok (.ldc2_w 7, 3) := by decide +kernel
theorem d2_11 : decode prog_24_method_2_code 11 = .ok (.land, 1) := by decide +kernel
theorem d2_12 : decode prog_24_method_2_code 12 = .ok (.lconst 0, 1) := by decide +kernel
theorem d2_13 : decode prog_24_method_2_code 13 = .ok (.lcmp, 1) := by decide +kernel
theorem d2_14 : decode prog_24_method_2_code 14 = .ok (.ifCond .eq 32, 3) := by decide +kernel
theorem d2_17 : decode prog_24_method_2_code 17 = .ok (.aload_n 0, 1) := by decide +kernel
theorem d2_18 : decode prog_24_method_2_code 18 = .ok (.iload 6, 2) := by decide +kernel
theorem d2_20 : decode prog_24_method_2_code 20 = .ok (.iinc 6 1, 3) := by decide +kernel
theorem d2_23 : decode prog_24_method_2_code 23 = .ok (.lload 4, 2) := by decide +kernel
theorem d2_25 : decode prog_24_method_2_code 25 = .ok (.ldc2_w 9, 3) := by decide +kernel
theorem d2_28 : decode prog_24_method_2_code 28 = .ok (.land, 1) := by decide +kernel
theorem d2_29 : decode prog_24_method_2_code 29 = .ok (.ldc2_w 11, 3) := by decide +kernel
theorem d2_32 : decode prog_24_method_2_code 32 = .ok (.lor, 1) := by decide +kernel
theorem d2_33 : decode prog_24_method_2_code 33 = .ok (.l2i, 1) := by decide +kernel
theorem d2_34 : decode prog_24_method_2_code 34 = .ok (.i2b, 1) := by decide +kernel
theorem d2_35 : decode prog_24_method_2_code 35 = .ok (.bastore, 1) := by decide +kernel
theorem d2_36 : decode prog_24_method_2_code 36 = .ok (.lload 4, 2) := by decide +kernel
theorem d2_38 : decode prog_24_method_2_code 38 = .ok (.bipush 7, 2) := by decide +kernel
theorem d2_40 : decode prog_24_method_2_code 40 = .ok (.lushr, 1) := by decide +kernel
theorem d2_41 : decode prog_24_method_2_code 41 = .ok (.lstore 4, 2) := by decide +kernel
theorem d2_43 : decode prog_24_method_2_code 43 = .ok (.goto (-37), 3) := by decide +kernel
theorem d2_46 : decode prog_24_method_2_code 46 = .ok (.aload_n 0, 1) := by decide +kernel
theorem d2_47 : decode prog_24_method_2_code 47 = .ok (.iload 6, 2) := by decide +kernel
theorem d2_49 : decode prog_24_method_2_code 49 = .ok (.iinc 6 1, 3) := by decide +kernel
theorem d2_52 : decode prog_24_method_2_code 52 = .ok (.lload 4, 2) := by decide +kernel
theorem d2_54 : decode prog_24_method_2_code 54 = .ok (.l2i, 1) := by decide +kernel
theorem d2_55 : decode prog_24_method_2_code 55 = .ok (.i2b, 1) := by decide +kernel
theorem d2_56 : decode prog_24_method_2_code 56 = .ok (.bastore, 1) := by decide +kernel
theorem d2_57 : decode prog_24_method_2_code 57 = .ok (.iload 6, 2) := by decide +kernel
theorem d2_59 : decode prog_24_method_2_code 59 = .ok (.ireturn, 1) := by decide +kernel
theorem pn_2 : plainName "com/example/caddis/caddis/index/IndexFormat" = true := by first | (simp [plainName, overriddenIn]; done) | decide +kernel
theorem ef_2 (m : MethodId) (x0 : Addr) (x1 : Int32) (x2 : Int64) : entryFrame m #[(.ref x0), (.int x1), (.long x2)] 7 = mkF m 0 #[.val (.ref x0), .val (.int x1), .val (.long x2), .second, .unset, .unset, .unset] [] := by first | (simp [entryFrame, mkF, argsToLocals, Value.category]; done) | rfl
set_option maxRecDepth 65536 in
set_option maxHeartbeats 40000000 in
theorem rm2 (l : Launch) (Z : State) (a0 : Array Value) (hw : ∀ d ∈ tables_1, d.before a0 Z = true) (ws : List Jvm.Cond) (x0 : Addr) (x1 : Int32) (x2 : Int64) (ls : List Int32) (kk : ClassId) (h0 : Heap) (n0 : Nat) (hn0 : n0 ≤ h0.size) (V0 : Arv Z h0 x0 kk .byte (18 : Int32) (List.map Value.int ls) (.int (0 : Int32))) (ga : n0 ≤ x0) (hI0 : PInv 10 x1 x2 ls) :
    MetFree l (⟨"com/example/caddis/caddis/index/IndexFormat", "putVarint", "([BIJ)I"⟩ : MethodName) (head1 (Jvm.Cond.code (⟨"com/example/caddis/caddis/index/IndexFormat", "putVarint", "([BIJ)I"⟩ : MethodName) prog_24_method_2_code 7 (some .int) :: ws) ({ frames := 0, cells := 0, slots := 0, locals := 0 } : Room)) (fun a U => a = #[(.ref x0), (.int x1), (.long x2)] ∧ Z.Warmed39 U.vm ∧ U.heap = h0) (fun _ _ _ _ _ => True) (fun _ U o U' => ∃ v L, o = .returned v ∧ QV Z n0 x0 kk (F2 x1 x2 ls) v U'.heap L ∧ FrameEnd U o U' L ({ frames := 0, cells := 0, slots := 0, locals := 0 } : Room).cells ({ frames := 0, cells := 0, slots := 0, locals := 0 } : Room).slots) := by
  refine MetFree.of_bodySF (plainFor_of_name pn_2) hisR ?_
  intro p e s m args below meth c s₁ Bd hml0 hP hK
  obtain ⟨rfl, hZ, hh⟩ := hP
  have hx := Bd.exec
  have hby := Bd.bytes
  have hml : c.maxLocals = 7 := hml0
  have hown : s.vm.findClass "com/example/caddis/caddis/index/IndexFormat" = some m.cls := findClass_of_methodNamed Bd.named
  have hnm := (name_of_methodNamed Bd.named Bd.method).1
  have X0 : Stand p l e ({ frames := 0, cells := 0, slots := 0, locals := 0 } : Room) s m #[(.ref x0), (.int x1), (.long x2)] below meth c s₁ [] 0 0 := Stand.of_body Bd
  have e0 : s₁.heap = h0 := by rw [← hh, Bd.state]; rfl
  show Runs p e below s (QV Z n0 x0 kk (F2 x1 x2 ls)) ({ frames := 0, cells := 0, slots := 0, locals := 0 } : Room).cells ({ frames := 0, cells := 0, slots := 0, locals := 0 } : Room).slots (s₁.setTop (entryFrame m #[(.ref x0), (.int x1), (.long x2)] 7))
  rw [ef_2 m x0 x1 x2]
  obtain ⟨r, hF⟩ : ∃ r, F2 x1 x2 ls = r := ⟨_, rfl⟩
  rw [hF]
  have k_6 : ∀ (k : Nat) (T : State) (locs : List Loc) (h : Heap) (X : Stand p l e ({ frames := 0, cells := 0, slots := 0, locals := 0 } : Room) s m #[(.ref x0), (.int x1), (.long x2)] below meth c T locs 0 0) (eT : T.heap = h) (N : Fr n0 locs) (w_ls : List Int32) (v1 : Int32) (v2 : Int64) (v4 : Int64) (v6 : Int32) (G_V : Arv Z h x0 kk .byte (18 : Int32) (List.map Value.int w_ls) (.int (0 : Int32))) (hI : PInv k v6 v4 w_ls), f2_6 k x1 x2 ls w_ls v4 v6 = r → Runs p e below s (QV Z n0 x0 kk r) ({ frames := 0, cells := 0, slots := 0, locals := 0 } : Room).cells ({ frames := 0, cells := 0, slots := 0, locals := 0 } : Room).slots (T.setTop (mkF m 6 #[.val (.ref x0), .val (.int v1), .val (.long v2), .second, .val (.long v4), .second, .val (.int v6)] [])) := by
    intro k; induction k with
    | zero => intro T locs h X eT N w_ls v1 v2 v4 v6 G_V hI hv; exact absurd hI PInv.zero
    | succ k ih =>
      intro T locs h X eT N w_ls v1 v2 v4 v6 G_V hI hv
      unfold f2_6 at hv
      refine Runs.go (fun _ => XS.lload X.here hx rfl (hb hby d2_6) rfl) ?_
      show Runs p e below s _ _ _ (T.setTop (mkF m 8 #[.val (.ref x0), .val (.int v1), .val (.long v2), .second, .val (.long v4), .second, .val (.int v6)] [(.long v4)]))
      refine Runs.go (X.ldc2Long hx hown (mvT hZ (hw _ (List.mem_of_getElem? (i := 9) rfl))) (g := (mkF m 8 #[.val (.ref x0), .val (.int v1), .val (.long v2), .second, .val (.long v4), .second, .val (.int v6)] [(.long v4)])) rfl (hb hby d2_8)) ?_
      show Runs p e below s _ _ _ (T.setTop (mkF m 11 #[.val (.ref x0), .val (.int v1), .val (.long v2), .second, .val (.long v4), .second, .val (.int v6)] [(.long (-128 : Int64)), (.long v4)]))
      refine Runs.go (fun _ => XS.land X.here hx rfl (hb hby d2_11) rfl) ?_
      show Runs p e below s _ _ _ (T.setTop (mkF m 12 #[.val (.ref x0), .val (.int v1), .val (.long v2), .second, .val (.long v4), .second, .val (.int v6)] [(.long (v4 &&& (-128 : Int64)))]))
      refine Runs.go (fun _ => XS.lconst X.here hx rfl (hb hby d2_12)) ?_
      show Runs p e below s _ _ _ (T.setTop (mkF m 13 #[.val (.ref x0), .val (.int v1), .val (.long v2), .second, .val (.long v4), .second, .val (.int v6)] [(.long (0 : Int64)), (.long (v4 &&& (-128 : Int64)))]))
      refine Runs.go (fun _ => XS.lcmp X.here hx rfl (hb hby d2_13) rfl) ?_
      show Runs p e below s _ _ _ (T.setTop (mkF m 14 #[.val (.ref x0), .val (.int v1), .val (.long v2), .second, .val (.long v4), .second, .val (.int v6)] [(.int (lcmpW (v4 &&& (-128 : Int64)) (0 : Int64)))]))
      by_cases hc14 : (lcmpW (v4 &&& (-128 : Int64)) (0 : Int64)) = (0 : Int32)
      · have hv := (if_pos hc14).symm.trans hv
        refine Runs.go (fun _ => XS.ifYes X.here hx rfl (pc0 := 14) (pc' := 46) rfl (hb hby d2_14) rfl ((if0 _ _).trans (teq hc14).1) (by decide) (by decide)) ?_
        show Runs p e below s _ _ _ (T.setTop (mkF m 46 #[.val (.ref x0), .val (.int v1), .val (.long v2), .second, .val (.long v4), .second, .val (.int v6)] []))
        refine Runs.go (fun _ => XS.aloadN X.here hx rfl (hb hby d2_46) rfl rfl) ?_
        show Runs p e below s _ _ _ (T.setTop (mkF m 47 #[.val (.ref x0), .val (.int v1), .val (.long v2), .second, .val (.long v4), .second, .val (.int v6)] [(.ref x0)]))
        refine Runs.go (fun _ => XS.iload X.here hx rfl (hb hby d2_47) rfl) ?_
        show Runs p e below s _ _ _ (T.setTop (mkF m 49 #[.val (.ref x0), .val (.int v1), .val (.long v2), .second, .val (.long v4), .second, .val (.int v6)] [(.int v6), (.ref x0)]))
        refine Runs.go (fun _ => XS.iinc X.here hx rfl (hb hby d2_49) rfl (l' := #[.val (.ref x0), .val (.int v1), .val (.long v2), .second, .val (.long v4), .second, .val (.int (v6 + (1 : Int32)))]) rfl) ?_
        show Runs p e below s _ _ _ (T.setTop (mkF m 52 #[.val (.ref x0), .val (.int v1), .val (.long v2), .second, .val (.long v4), .second, .val (.int (v6 + (1 : Int32)))] [(.int v6), (.ref x0)]))
        refine Runs.go (fun _ => XS.lload X.here hx rfl (hb hby d2_52) rfl) ?_
        show Runs p e below s _ _ _ (T.setTop (mkF m 54 #[.val (.ref x0), .val (.int v1), .val (.long v2), .second, .val (.long v4), .second, .val (.int (v6 + (1 : Int32)))] [(.long v4), (.int v6), (.ref x0)]))
        refine Runs.go (fun _ => XS.l2i X.here hx rfl (hb hby d2_54) rfl) ?_
        show Runs p e below s _ _ _ (T.setTop (mkF m 55 #[.val (.ref x0), .val (.int v1), .val (.long v2), .second, .val (.long v4), .second, .val (.int (v6 + (1 : Int32)))] [(.int (v4.toInt32)), (.int v6), (.ref x0)]))
        refine Runs.go (fun _ => XS.i2b X.here hx rfl (hb hby d2_55) rfl) ?_
        show Runs p e below s _ _ _ (T.setTop (mkF m 56 #[.val (.ref x0), .val (.int v1), .val (.long v2), .second, .val (.long v4), .second, .val (.int (v6 + (1 : Int32)))] [(.int ((v4.toInt32).toInt8.toInt32)), (.int v6), (.ref x0)]))
        have VCw56_1 := G_V
        obtain ⟨clw56_1, Arw56_1, qw56_1, Sw56_1, Mw56_1, Hw56_1, Gw56_1⟩ := VCw56_1
        have hinw56_1 : ¬ (v6 < 0 ∨ clw56_1.slots.size ≤ (v6).toNatClampNeg) := inb_of Sw56_1 hI.inb
        obtain ⟨Tw56_1, hw56_1, Xw56_1, ew56_1, Ww56_1, stw56_1⟩ := stB X hx hZ eT Arw56_1 (j := v6) hinw56_1 (g := (mkF m 56 #[.val (.ref x0), .val (.int v1), .val (.long v2), .second, .val (.long v4), .second, .val (.int (v6 + (1 : Int32)))] [(.int ((v4.toInt32).toInt8.toInt32)), (.int v6), (.ref x0)])) rfl rfl (hb hby d2_56)
        refine Runs.go stw56_1 ?_
        have hnw56_1 : n0 ≤ hw56_1.size := by rw [Wr.size Ww56_1]; exact (Nat.le_trans ga (Nat.le_of_lt G_V.lt))
        have Vw56_1 : Arv Z hw56_1 x0 kk .byte (18 : Int32) (List.map Value.int (own_set w_ls v6 (nar .byte ((v4.toInt32).toInt8.toInt32)))) (.int (0 : Int32)) := by
          rw [own_set, List.map_set]; exact Arv.set Arw56_1 qw56_1 Sw56_1 Mw56_1 Hw56_1 Gw56_1 (fits_nar_byte _) Ww56_1 _ rfl (by rw [List.length_map]; exact hI.len)
        have Nw56_1 := Fr.snoc Xw56_1 N ga
        show Runs p e below s _ _ _ (Tw56_1.setTop (mkF m 57 #[.val (.ref x0), .val (.int v1), .val (.long v2), .second, .val (.long v4), .second, .val (.int (v6 + (1 : Int32)))] []))
        refine Runs.go (fun _ => XS.iload Xw56_1.here hx rfl (hb hby d2_57) rfl) ?_
        show Runs p e below s _ _ _ (Tw56_1.setTop (mkF m 59 #[.val (.ref x0), .val (.int v1), .val (.long v2), .second, .val (.long v4), .second, .val (.int (v6 + (1 : Int32)))] [(.int (v6 + (1 : Int32)))]))
        subst hv
        exact Runs.endI Xw56_1 hx Bd.returns Bd.notSynchronized (hb hby d2_59) ⟨rfl, Nw56_1, by rw [ew56_1]; exact Vw56_1⟩ (by decide) (by decide)
      · have hv := (if_neg hc14).symm.trans hv
        refine Runs.go (fun _ => XS.ifNo X.here hx rfl (hb hby d2_14) rfl ((if0 _ _).trans (feq hc14).1)) ?_
        show Runs p e below s _ _ _ (T.setTop (mkF m 17 #[.val (.ref x0), .val (.int v1), .val (.long v2), .second, .val (.long v4), .second, .val (.int v6)] []))
        refine Runs.go (fun _ => XS.aloadN X.here hx rfl (hb hby d2_17) rfl rfl) ?_
        show Runs p e below s _ _ _ (T.setTop (mkF m 18 #[.val (.ref x0), .val (.int v1), .val (.long v2), .second, .val (.long v4), .second, .val (.int v6)] [(.ref x0)]))
        refine Runs.go (fun _ => XS.iload X.here hx rfl (hb hby d2_18) rfl) ?_
        show Runs p e below s _ _ _ (T.setTop (mkF m 20 #[.val (.ref x0), .val (.int v1), .val (.long v2), .second, .val (.long v4), .second, .val (.int v6)] [(.int v6), (.ref x0)]))
        refine Runs.go (fun _ => XS.iinc X.here hx rfl (hb hby d2_20) rfl (l' := #[.val (.ref x0), .val (.int v1), .val (.long v2), .second, .val (.long v4), .second, .val (.int (v6 + (1 : Int32)))]) rfl) ?_
        show Runs p e below s _ _ _ (T.setTop (mkF m 23 #[.val (.ref x0), .val (.int v1), .val (.long v2), .second, .val (.long v4), .second, .val (.int (v6 + (1 : Int32)))] [(.int v6), (.ref x0)]))
        refine Runs.go (fun _ => XS.lload X.here hx rfl (hb hby d2_23) rfl) ?_
        show Runs p e below s _ _ _ (T.setTop (mkF m 25 #[.val (.ref x0), .val (.int v1), .val (.long v2), .second, .val (.long v4), .second, .val (.int (v6 + (1 : Int32)))] [(.long v4), (.int v6), (.ref x0)]))
        refine Runs.go (X.ldc2Long hx hown (mvT hZ (hw _ (List.mem_of_getElem? (i := 14) rfl))) (g := (mkF m 25 #[.val (.ref x0), .val (.int v1), .val (.long v2), .second, .val (.long v4), .second, .val (.int (v6 + (1 : Int32)))] [(.long v4), (.int v6), (.ref x0)])) rfl (hb hby d2_25)) ?_
        show Runs p e below s _ _ _ (T.setTop (mkF m 28 #[.val (.ref x0), .val (.int v1), .val (.long v2), .second, .val (.long v4), .second, .val (.int (v6 + (1 : Int32)))] [(.long (127 : Int64)), (.long v4), (.int v6), (.ref x0)]))
        refine Runs.go (fun _ => XS.land X.here hx rfl (hb hby d2_28) rfl) ?_
        show Runs p e below s _ _ _ (T.setTop (mkF m 29 #[.val (.ref x0), .val (.int v1), .val (.long v2), .second, .val (.long v4), .second, .val (.int (v6 + (1 : Int32)))] [(.long (v4 &&& (127 : Int64))), (.int v6), (.ref x0)]))
        refine Runs.go (X.ldc2Long hx hown (mvT hZ (hw _ (List.mem_of_getElem? (i := 15) rfl))) (g := (mkF m 29 #[.val (.ref x0), .val (.int v1), .val (.long v2), .second, .val (.long v4), .second, .val (.int (v6 + (1 : Int32)))] [(.long (v4 &&& (127 : Int64))), (.int v6), (.ref x0)])) rfl (hb hby d2_29)) ?_
        show Runs p e below s _ _ _ (T.setTop (mkF m 32 #[.val (.ref x0), .val (.int v1), .val (.long v2), .second, .val (.long v4), .second, .val (.int (v6 + (1 : Int32)))] [(.long (128 : Int64)), (.long (v4 &&& (127 : Int64))), (.int v6), (.ref x0)]))
        refine Runs.go (fun _ => XS.lor X.here hx rfl (hb hby d2_32) rfl) ?_
        show Runs p e below s _ _ _ (T.setTop (mkF m 33 #[.val (.ref x0), .val (.int v1), .val (.long v2), .second, .val (.long v4), .second, .val (.int (v6 + (1 : Int32)))] [(.long ((v4 &&& (127 : Int64)) ||| (128 : Int64))), (.int v6), (.ref x0)]))
        refine Runs.go (fun _ => XS.l2i X.here hx rfl (hb hby d2_33) rfl) ?_
        show Runs p e below s _ _ _ (T.setTop (mkF m 34 #[.val (.ref x0), .val (.int v1), .val (.long v2), .second, .val (.long v4), .second, .val (.int (v6 + (1 : Int32)))] [(.int (((v4 &&& (127 : Int64)) ||| (128 : Int64)).toInt32)), (.int v6), (.ref x0)]))
        refine Runs.go (fun _ => XS.i2b X.here hx rfl (hb hby d2_34) rfl) ?_
        show Runs p e below s _ _ _ (T.setTop (mkF m 35 #[.val (.ref x0), .val (.int v1), .val (.long v2), .second, .val (.long v4), .second, .val (.int (v6 + (1 : Int32)))] [(.int ((((v4 &&& (127 : Int64)) ||| (128 : Int64)).toInt32).toInt8.toInt32)), (.int v6), (.ref x0)]))
        have VCw35_2 := G_V
        obtain ⟨clw35_2, Arw35_2, qw35_2, Sw35_2, Mw35_2, Hw35_2, Gw35_2⟩ := VCw35_2
        have hinw35_2 : ¬ (v6 < 0 ∨ clw35_2.slots.size ≤ (v6).toNatClampNeg) := inb_of Sw35_2 hI.inb
        obtain ⟨Tw35_2, hw35_2, Xw35_2, ew35_2, Ww35_2, stw35_2⟩ := stB X hx hZ eT Arw35_2 (j := v6) hinw35_2 (g := (mkF m 35 #[.val (.ref x0), .val (.int v1), .val (.long v2), .second, .val (.long v4), .second, .val (.int (v6 + (1 : Int32)))] [(.int ((((v4 &&& (127 : Int64)) ||| (128 : Int64)).toInt32).toInt8.toInt32)), (.int v6), (.ref x0)])) rfl rfl (hb hby d2_35)
        refine Runs.go stw35_2 ?_
        have hnw35_2 : n0 ≤ hw35_2.size := by rw [Wr.size Ww35_2]; exact (Nat.le_trans ga (Nat.le_of_lt G_V.lt))
        have Vw35_2 : Arv Z hw35_2 x0 kk .byte (18 : Int32) (List.map Value.int (own_set w_ls v6 (nar .byte ((((v4 &&& (127 : Int64)) ||| (128 : Int64)).toInt32).toInt8.toInt32)))) (.int (0 : Int32)) := by
          rw [own_set, List.map_set]; exact Arv.set Arw35_2 qw35_2 Sw35_2 Mw35_2 Hw35_2 Gw35_2 (fits_nar_byte _) Ww35_2 _ rfl (by rw [List.length_map]; exact hI.len)
        have Nw35_2 := Fr.snoc Xw35_2 N ga
        show Runs p e below s _ _ _ (Tw35_2.setTop (mkF m 36 #[.val (.ref x0), .val (.int v1), .val (.long v2), .second, .val (.long v4), .second, .val (.int (v6 + (1 : Int32)))] []))
        refine Runs.go (fun _ => XS.lload Xw35_2.here hx rfl (hb hby d2_36) rfl) ?_
        show Runs p e below s _ _ _ (Tw35_2.setTop (mkF m 38 #[.val (.ref x0), .val (.int v1), .val (.long v2), .second, .val (.long v4), .second, .val (.int (v6 + (1 : Int32)))] [(.long v4)]))
        refine Runs.go (fun _ => XS.bipush Xw35_2.here hx rfl (hb hby d2_38)) ?_
        show Runs p e below s _ _ _ (Tw35_2.setTop (mkF m 40 #[.val (.ref x0), .val (.int v1), .val (.long v2), .second, .val (.long v4), .second, .val (.int (v6 + (1 : Int32)))] [(.int (7 : Int32)), (.long v4)]))
        refine Runs.go (fun _ => XS.lushr Xw35_2.here hx rfl (hb hby d2_40) rfl) ?_
        show Runs p e below s _ _ _ (Tw35_2.setTop (mkF m 41 #[.val (.ref x0), .val (.int v1), .val (.long v2), .second, .val (.long v4), .second, .val (.int (v6 + (1 : Int32)))] [(.long ((v4.toUInt64 >>> ((7 : Int32) &&& 0x3f).toInt64.toUInt64).toInt64))]))
        refine Runs.go (fun _ => XS.lstore Xw35_2.here hx rfl (hb hby d2_41) rfl (l' := #[.val (.ref x0), .val (.int v1), .val (.long v2), .second, .val (.long ((v4.toUInt64 >>> ((7 : Int32) &&& 0x3f).toInt64.toUInt64).toInt64)), .second, .val (.int (v6 + (1 : Int32)))]) rfl) ?_
        show Runs p e below s _ _ _ (Tw35_2.setTop (mkF m 43 #[.val (.ref x0), .val (.int v1), .val (.long v2), .second, .val (.long ((v4.toUInt64 >>> ((7 : Int32) &&& 0x3f).toInt64.toUInt64).toInt64)), .second, .val (.int (v6 + (1 : Int32)))] []))
        refine Runs.go (fun _ => XS.goto Xw35_2.here hx rfl (pc0 := 43) (pc' := 6) rfl (hb hby d2_43) (by decide) (by decide)) ?_
        show Runs p e below s _ _ _ (Tw35_2.setTop (mkF m 6 #[.val (.ref x0), .val (.int v1), .val (.long v2), .second, .val (.long ((v4.toUInt64 >>> ((7 : Int32) &&& 0x3f).toInt64.toUInt64).toInt64)), .second, .val (.int (v6 + (1 : Int32)))] []))
        exact ih _ _ _ Xw35_2 ew35_2 Nw35_2 (own_set w_ls v6 (nar .byte ((((v4 &&& (127 : Int64)) ||| (128 : Int64)).toInt32).toInt8.toInt32))) v1 v2 ((v4.toUInt64 >>> ((7 : Int32) &&& 0x3f).toInt64.toUInt64).toInt64) (v6 + (1 : Int32)) Vw35_2 (PInv.step hI (fun q => hc14 ((lw_eq _ _).mpr q)) _) hv
  have k_0 : ∀ (T : State) (X : Stand p l e ({ frames := 0, cells := 0, slots := 0, locals := 0 } : Room) s m #[(.ref x0), (.int x1), (.long x2)] below meth c T [] 0 0) (eT : T.heap = h0) (N : Fr n0 []), f2_0 x1 x2 ls = r → Runs p e below s (QV Z n0 x0 kk r) ({ frames := 0, cells := 0, slots := 0, locals := 0 } : Room).cells ({ frames := 0, cells := 0, slots := 0, locals := 0 } : Room).slots (T.setTop (mkF m 0 #[.val (.ref x0), .val (.int x1), .val (.long x2), .second, .unset, .unset, .unset] [])) := by
    intro T X eT N  hv
    unfold f2_0 at hv
    refine Runs.go (fun _ => XS.lloadN X.here hx rfl (hb hby d2_0) rfl) ?_
    show Runs p e below s _ _ _ (T.setTop (mkF m 1 #[.val (.ref x0), .val (.int x1), .val (.long x2), .second, .unset, .unset, .unset] [(.long x2)]))
    refine Runs.go (fun _ => XS.lstore X.here hx rfl (hb hby d2_1) rfl (l' := #[.val (.ref x0), .val (.int x1), .val (.long x2), .second, .val (.long x2), .second, .unset]) rfl) ?_
    show Runs p e below s _ _ _ (T.setTop (mkF m 3 #[.val (.ref x0), .val (.int x1), .val (.long x2), .second, .val (.long x2), .second, .unset] []))
    refine Runs.go (fun _ => XS.iloadN X.here hx rfl (hb hby d2_3) rfl) ?_
    show Runs p e below s _ _ _ (T.setTop (mkF m 4 #[.val (.ref x0), .val (.int x1), .val (.long x2), .second, .val (.long x2), .second, .unset] [(.int x1)]))
    refine Runs.go (fun _ => XS.istore X.here hx rfl (hb hby d2_4) rfl (l' := #[.val (.ref x0), .val (.int x1), .val (.long x2), .second, .val (.long x2), .second, .val (.int x1)]) rfl) ?_
    show Runs p e below s _ _ _ (T.setTop (mkF m 6 #[.val (.ref x0), .val (.int x1), .val (.long x2), .second, .val (.long x2), .second, .val (.int x1)] []))
    exact k_6 10 _ _ _ X eT N ls x1 x2 x2 x1 V0 hI0 hv
  exact k_0 _ X0 e0 (Fr.nil n0) hF
theorem d3_0 : decode method_3_code 0 = .ok (.iload_n 1, 1) := by decide +kernel
theorem d3_1 : decode method_3_code 1 = .ok (.iload_n 2, 1) := by decide +kernel
theorem d3_2 : decode method_3_code 2 = .ok (.isub, 1) := by decide +kernel
theorem d3_3 : decode method_3_code 3 = .ok (.istore 7, 2) := by decide +kernel
theorem d3_5 : decode method_3_code 5 = .ok (.iload 7, 2) := by decide +kernel
theorem d3_7 : decode method_3_code 7 = .ok (.ifCond .lt 9, 3) := by decide +kernel
theorem d3_10 : decode method_3_code 10 = .ok (.iload 7, 2) := by decide +kernel
theorem d3_12 : decode method_3_code 12 = .ok (.iload_n 3, 1) := by decide +kernel
theorem d3_13 : decode method_3_code 13 = .ok (.if_icmp .lt 17, 3) := by decide +kernel
theorem d3_16 : decode method_3_code 16 = .ok (.aload_n 0, 1) := by decide +kernel
theorem d3_17 : decode method_3_code 17 = .ok (.iload_n 1, 1) := by decide +kernel
theorem d3_18 : decode method_3_code 18 = .ok (.baload, 1) := by decide +kernel
theorem d3_19 : decode method_3_code 19 = .ok (.iload 6, 2) := by decide +kernel
theorem d3_21 : decode method_3_code 21 = .ok (.if_icmp .ne 7, 3) := by decide +kernel
theorem d3_24 : decode method_3_code 24 = .ok (.iconst 1, 1) := by decide +kernel
theorem d3_25 : decode method_3_code 25 = .ok (.goto 4, 3) := by decide +kernel
theorem d3_28 : decode method_3_code 28 = .ok (.iconst 0, 1) := by decide +kernel
theorem d3_29 : decode method_3_code 29 = .ok (.ireturn, 1) := by decide +kernel
theorem d3_30 : decode method_3_code 30 = .ok (.lload 4, 2) := by decide +kernel
theorem d3_32 : decode method_3_code 32 = .ok (.bipush 7, 2) := by decide +kernel
theorem d3_34 : decode method_3_code 34 = .ok (.iload 7, 2) := by decide +kernel
theorem d3_36 : decode method_3_code 36 = .ok (.imul, 1) := by decide +kernel
theorem d3_37 : decode method_3_code 37 = .ok (.lushr, 1) := by decide +kernel
theorem d3_38 : decode method_3_code 38 = .ok (.ldc2_w 7, 3) := by decide +kernel
theorem d3_41 : decode method_3_code 41 = .ok (.land, 1) := by decide +kernel
theorem d3_42 : decode method_3_code 42 = .ok (.l2i, 1) := by decide +kernel
theorem d3_43 : decode method_3_code 43 = .ok (.istore 8, 2) := by decide +kernel
theorem d3_45 : decode method_3_code 45 = .ok (.iload 7, 2) := by decide +kernel
theorem d3_47 : decode method_3_code 47 = .ok (.iload_n 3, 1) := by decide +kernel
theorem d3_48 : decode method_3_code 48 = .ok (.iconst 1, 1) := by decide +kernel
theorem d3_49 : decode method_3_code 49 = .ok (.isub, 1) := by decide +kernel
theorem d3_50 : decode method_3_code 50 = .ok (.if_icmp .ge 12, 3) := by decide +kernel
theorem d3_53 : decode method_3_code 53 = .ok (.iload 8, 2) := by decide +kernel
theorem d3_55 : decode method_3_code 55 = .ok (.sipush 128, 3) := by decide +kernel
theorem d3_58 : decode method_3_code 58 = .ok (.ior, 1) := by decide +kernel
theorem d3_59 : decode method_3_code 59 = .ok (.goto 5, 3) := by decide +kernel
theorem d3_62 : decode method_3_code 62 = .ok (.iload 8, 2) := by decide +kernel
theorem d3_64 : decode method_3_code 64 = .ok (.istore 9, 2) := by decide +kernel
theorem d3_66 : decode method_3_code 66 = .ok (.aload_n 0, 1) := by decide +kernel
theorem d3_67 : decode method_3_code 67 = .ok (.iload_n 1, 1) := by decide +kernel
theorem d3_68 : decode method_3_code 68 = .ok (.baload, 1) := by decide +kernel
theorem d3_69 : decode method_3_code 69 = .ok (.iload 9, 2) := by decide +kernel
theorem d3_71 : decode method_3_code 71 = .ok (.i2b, 1) := by decide +kernel
theorem d3_72 : decode method_3_code 72 = .ok (.if_icmp .ne 7, 3) := by decide +kernel
theorem d3_75 : decode method_3_code 75 = .ok (.iconst 1, 1) := by decide +kernel
theorem d3_76 : decode method_3_code 76 = .ok (.goto 4, 3) := by decide +kernel
theorem d3_79 : decode method_3_code 79 = .ok (.iconst 0, 1) := by decide +kernel
theorem d3_80 : decode method_3_code 80 = .ok (.ireturn, 1) := by decide +kernel
theorem pn_3 : plainName "com/example/caddis/caddis/index/IndexFormatPutVarintPinLaw" = true := by first | (simp [plainName, overriddenIn]; done) | decide +kernel
theorem ef_3 (m : MethodId) (x0 : Addr) (x1 : Int32) (x2 : Int32) (x3 : Int32) (x4 : Int64) (x5 : Int32) : entryFrame m #[(.ref x0), (.int x1), (.int x2), (.int x3), (.long x4), (.int x5)] 10 = mkF m 0 #[.val (.ref x0), .val (.int x1), .val (.int x2), .val (.int x3), .val (.long x4), .second, .val (.int x5), .unset, .unset, .unset] [] := by first | (simp [entryFrame, mkF, argsToLocals, Value.category]; done) | rfl
set_option maxRecDepth 65536 in
set_option maxHeartbeats 40000000 in
theorem rm3 (l : Launch) (Z : State) (a0 : Array Value) (hw : ∀ d ∈ tables_1, d.before a0 Z = true) (ws : List Jvm.Cond) (x0 : Addr) (x1 x2 x3 : Int32) (x4 : Int64) (x5 : Int32) (ls : List Int32) (kk : ClassId) (h0 : Heap) (n0 : Nat) (hn0 : n0 ≤ h0.size) (V0 : Arv Z h0 x0 kk .byte (18 : Int32) (List.map Value.int ls) (.int (0 : Int32))) (hT : ¬ x1 < 0 ∧ x1 < (18 : Int32)) :
    MetFree l (⟨"com/example/caddis/caddis/index/IndexFormatPutVarintPinLaw", "ok", "([BIIIJB)Z"⟩ : MethodName) (head1 (Jvm.Cond.code (⟨"com/example/caddis/caddis/index/IndexFormatPutVarintPinLaw", "ok", "([BIIIJB)Z"⟩ : MethodName) method_3_code 10 (some .boolean) :: ws) ({ frames := 0, cells := 0, slots := 0, locals := 0 } : Room)) (fun a U => a = #[(.ref x0), (.int x1), (.int x2), (.int x3), (.long x4), (.int x5)] ∧ Z.Warmed39 U.vm ∧ U.heap = h0) (fun _ _ _ _ _ => True) (fun _ U o U' => ∃ v L, o = .returned v ∧ QP (.int (F3 x1 x2 x3 x4 x5 ls)) h0 v U'.heap L ∧ FrameEnd U o U' L ({ frames := 0, cells := 0, slots := 0, locals := 0 } : Room).cells ({ frames := 0, cells := 0, slots := 0, locals := 0 } : Room).slots) := by
  refine MetFree.of_bodySF (plainFor_of_name pn_3) hisR ?_
  intro p e s m args below meth c s₁ Bd hml0 hP hK
  obtain ⟨rfl, hZ, hh⟩ := hP
  have hx := Bd.exec
  have hby := Bd.bytes
  have hml : c.maxLocals = 10 := hml0
  have hown : s.vm.findClass "com/example/caddis/caddis/index/IndexFormatPutVarintPinLaw" = some m.cls := findClass_of_methodNamed Bd.named
  have hnm := (name_of_methodNamed Bd.named Bd.method).1
  have X0 : Stand p l e ({ frames := 0, cells := 0, slots := 0, locals := 0 } : Room) s m #[(.ref x0), (.int x1), (.int x2), (.int x3), (.long x4), (.int x5)] below meth c s₁ [] 0 0 := Stand.of_body Bd
  have e0 : s₁.heap = h0 := by rw [← hh, Bd.state]; rfl
  show Runs p e below s (QP (.int (F3 x1 x2 x3 x4 x5 ls)) h0) ({ frames := 0, cells := 0, slots := 0, locals := 0 } : Room).cells ({ frames := 0, cells := 0, slots := 0, locals := 0 } : Room).slots (s₁.setTop (entryFrame m #[(.ref x0), (.int x1), (.int x2), (.int x3), (.long x4), (.int x5)] 10))
  rw [ef_3 m x0 x1 x2 x3 x4 x5]
  obtain ⟨r, hF⟩ : ∃ r, F3 x1 x2 x3 x4 x5 ls = r := ⟨_, rfl⟩
  rw [hF]
  have k_64 : ∀ (T : State) (X : Stand p l e ({ frames := 0, cells := 0, slots := 0, locals := 0 } : Room) s m #[(.ref x0), (.int x1), (.int x2), (.int x3), (.long x4), (.int x5)] below meth c T [] 0 0) (eT : T.heap = h0) (N : Fr n0 []) (v2 : Int32) (v3 : Int32) (v4 : Int64) (v6 : Int32) (v7 : Int32) (v8 : Int32) (t0 : Int32), f3_64 x1 x2 x3 x4 x5 ls t0 = r → Runs p e below s (QP (.int r) h0) ({ frames := 0, cells := 0, slots := 0, locals := 0 } : Room).cells ({ frames := 0, cells := 0, slots := 0, locals := 0 } : Room).slots (T.setTop (mkF m 64 #[.val (.ref x0), .val (.int x1), .val (.int v2), .val (.int v3), .val (.long v4), .second, .val (.int v6), .val (.int v7), .val (.int v8), .unset] [(.int t0)])) := by
    intro T X eT N v2 v3 v4 v6 v7 v8 t0 hv
    unfold f3_64 at hv
    refine Runs.go (fun _ => XS.istore X.here hx rfl (hb hby d3_64) rfl (l' := #[.val (.ref x0), .val (.int x1), .val (.int v2), .val (.int v3), .val (.long v4), .second, .val (.int v6), .val (.int v7), .val (.int v8), .val (.int t0)]) rfl) ?_
    show Runs p e below s _ _ _ (T.setTop (mkF m 66 #[.val (.ref x0), .val (.int x1), .val (.int v2), .val (.int v3), .val (.long v4), .second, .val (.int v6), .val (.int v7), .val (.int v8), .val (.int t0)] []))
    refine Runs.go (fun _ => XS.aloadN X.here hx rfl (hb hby d3_66) rfl rfl) ?_
    show Runs p e below s _ _ _ (T.setTop (mkF m 67 #[.val (.ref x0), .val (.int x1), .val (.int v2), .val (.int v3), .val (.long v4), .second, .val (.int v6), .val (.int v7), .val (.int v8), .val (.int t0)] [(.ref x0)]))
    refine Runs.go (fun _ => XS.iloadN X.here hx rfl (hb hby d3_67) rfl) ?_
    show Runs p e below s _ _ _ (T.setTop (mkF m 68 #[.val (.ref x0), .val (.int x1), .val (.int v2), .val (.int v3), .val (.long v4), .second, .val (.int v6), .val (.int v7), .val (.int v8), .val (.int t0)] [(.int x1), (.ref x0)]))
    have VCr68_2 := V0
    obtain ⟨clr68_2, Arr68_2, -, Sr68_2, Mr68_2, Hr68_2, -⟩ := VCr68_2
    have hinr68_2 : ¬ (x1 < 0 ∨ clr68_2.slots.size ≤ (x1).toNatClampNeg) := inb_of Sr68_2 hT
    have hatr68_2 : clr68_2.slots[(x1).toNatClampNeg]? = some (.int (own_at ls x1)) := Has.at Hr68_2 hinr68_2 (own_getD _ _)
    refine Runs.go (X.baloadBytes hx (j := x1) (v := (.int (own_at ls x1))) (by rw [eT]; exact Arr68_2.1) (State.isArrayOf_alike hZ.alike Arr68_2.2.1) Arr68_2.2.2 hinr68_2 hatr68_2 (g := (mkF m 68 #[.val (.ref x0), .val (.int x1), .val (.int v2), .val (.int v3), .val (.long v4), .second, .val (.int v6), .val (.int v7), .val (.int v8), .val (.int t0)] [(.int x1), (.ref x0)])) rfl rfl (hb hby d3_68)) ?_
    show Runs p e below s _ _ _ (T.setTop (mkF m 69 #[.val (.ref x0), .val (.int x1), .val (.int v2), .val (.int v3), .val (.long v4), .second, .val (.int v6), .val (.int v7), .val (.int v8), .val (.int t0)] [(.int (own_at ls x1))]))
    refine Runs.go (fun _ => XS.iload X.here hx rfl (hb hby d3_69) rfl) ?_
    show Runs p e below s _ _ _ (T.setTop (mkF m 71 #[.val (.ref x0), .val (.int x1), .val (.int v2), .val (.int v3), .val (.long v4), .second, .val (.int v6), .val (.int v7), .val (.int v8), .val (.int t0)] [(.int t0), (.int (own_at ls x1))]))
    refine Runs.go (fun _ => XS.i2b X.here hx rfl (hb hby d3_71) rfl) ?_
    show Runs p e below s _ _ _ (T.setTop (mkF m 72 #[.val (.ref x0), .val (.int x1), .val (.int v2), .val (.int v3), .val (.long v4), .second, .val (.int v6), .val (.int v7), .val (.int v8), .val (.int t0)] [(.int (t0.toInt8.toInt32)), (.int (own_at ls x1))]))
    by_cases hc72 : (own_at ls x1) = (t0.toInt8.toInt32)
    · have hv := (if_pos hc72).symm.trans hv
      refine Runs.go (fun _ => XS.icmpNo X.here hx rfl (hb hby d3_72) rfl (teq hc72).2) ?_
      show Runs p e below s _ _ _ (T.setTop (mkF m 75 #[.val (.ref x0), .val (.int x1), .val (.int v2), .val (.int v3), .val (.long v4), .second, .val (.int v6), .val (.int v7), .val (.int v8), .val (.int t0)] []))
      refine Runs.go (fun _ => XS.iconst X.here hx rfl (hb hby d3_75)) ?_
      show Runs p e below s _ _ _ (T.setTop (mkF m 76 #[.val (.ref x0), .val (.int x1), .val (.int v2), .val (.int v3), .val (.long v4), .second, .val (.int v6), .val (.int v7), .val (.int v8), .val (.int t0)] [(.int (1 : Int32))]))
      refine Runs.go (fun _ => XS.goto X.here hx rfl (pc0 := 76) (pc' := 80) rfl (hb hby d3_76) (by decide) (by decide)) ?_
      show Runs p e below s _ _ _ (T.setTop (mkF m 80 #[.val (.ref x0), .val (.int x1), .val (.int v2), .val (.int v3), .val (.long v4), .second, .val (.int v6), .val (.int v7), .val (.int v8), .val (.int t0)] [(.int (1 : Int32))]))
      exact Runs.endN X hx (t := .boolean) Bd.returns (by simp) Bd.notSynchronized (hb hby d3_80) ⟨congrArg (fun z => some (Value.int z)) hv, rfl, eT⟩ (by decide) (by decide)
    · have hv := (if_neg hc72).symm.trans hv
      refine Runs.go (fun _ => XS.icmpYes X.here hx rfl (pc0 := 72) (pc' := 79) rfl (hb hby d3_72) rfl (feq hc72).2 (by decide) (by decide)) ?_
      show Runs p e below s _ _ _ (T.setTop (mkF m 79 #[.val (.ref x0), .val (.int x1), .val (.int v2), .val (.int v3), .val (.long v4), .second, .val (.int v6), .val (.int v7), .val (.int v8), .val (.int t0)] []))
      refine Runs.go (fun _ => XS.iconst X.here hx rfl (hb hby d3_79)) ?_
      show Runs p e below s _ _ _ (T.setTop (mkF m 80 #[.val (.ref x0), .val (.int x1), .val (.int v2), .val (.int v3), .val (.long v4), .second, .val (.int v6), .val (.int v7), .val (.int v8), .val (.int t0)] [(.int (0 : Int32))]))
      exact Runs.endN X hx (t := .boolean) Bd.returns (by simp) Bd.notSynchronized (hb hby d3_80) ⟨congrArg (fun z => some (Value.int z)) hv, rfl, eT⟩ (by decide) (by decide)
  have k_16 : ∀ (T : State) (X : Stand p l e ({ frames := 0, cells := 0, slots := 0, locals := 0 } : Room) s m #[(.ref x0), (.int x1), (.int x2), (.int x3), (.long x4), (.int x5)] below meth c T [] 0 0) (eT : T.heap = h0) (N : Fr n0 []) (v2 : Int32) (v3 : Int32) (v4 : Int64) (v7 : Int32), f3_16 x1 x2 x3 x4 x5 ls = r → Runs p e below s (QP (.int r) h0) ({ frames := 0, cells := 0, slots := 0, locals := 0 } : Room).cells ({ frames := 0, cells := 0, slots := 0, locals := 0 } : Room).slots (T.setTop (mkF m 16 #[.val (.ref x0), .val (.int x1), .val (.int v2), .val (.int v3), .val (.long v4), .second, .val (.int x5), .val (.int v7), .unset, .unset] [])) := by
    intro T X eT N v2 v3 v4 v7 hv
    unfold f3_16 at hv
    refine Runs.go (fun _ => XS.aloadN X.here hx rfl (hb hby d3_16) rfl rfl) ?_
    show Runs p e below s _ _ _ (T.setTop (mkF m 17 #[.val (.ref x0), .val (.int x1), .val (.int v2), .val (.int v3), .val (.long v4), .second, .val (.int x5), .val (.int v7), .unset, .unset] [(.ref x0)]))
    refine Runs.go (fun _ => XS.iloadN X.here hx rfl (hb hby d3_17) rfl) ?_
    show Runs p e below s _ _ _ (T.setTop (mkF m 18 #[.val (.ref x0), .val (.int x1), .val (.int v2), .val (.int v3), .val (.long v4), .second, .val (.int x5), .val (.int v7), .unset, .unset] [(.int x1), (.ref x0)]))
    have VCr18_1 := V0
    obtain ⟨clr18_1, Arr18_1, -, Sr18_1, Mr18_1, Hr18_1, -⟩ := VCr18_1
    have hinr18_1 : ¬ (x1 < 0 ∨ clr18_1.slots.size ≤ (x1).toNatClampNeg) := inb_of Sr18_1 hT
    have hatr18_1 : clr18_1.slots[(x1).toNatClampNeg]? = some (.int (own_at ls x1)) := Has.at Hr18_1 hinr18_1 (own_getD _ _)
    refine Runs.go (X.baloadBytes hx (j := x1) (v := (.int (own_at ls x1))) (by rw [eT]; exact Arr18_1.1) (State.isArrayOf_alike hZ.alike Arr18_1.2.1) Arr18_1.2.2 hinr18_1 hatr18_1 (g := (mkF m 18 #[.val (.ref x0), .val (.int x1), .val (.int v2), .val (.int v3), .val (.long v4), .second, .val (.int x5), .val (.int v7), .unset, .unset] [(.int x1), (.ref x0)])) rfl rfl (hb hby d3_18)) ?_
    show Runs p e below s _ _ _ (T.setTop (mkF m 19 #[.val (.ref x0), .val (.int x1), .val (.int v2), .val (.int v3), .val (.long v4), .second, .val (.int x5), .val (.int v7), .unset, .unset] [(.int (own_at ls x1))]))
    refine Runs.go (fun _ => XS.iload X.here hx rfl (hb hby d3_19) rfl) ?_
    show Runs p e below s _ _ _ (T.setTop (mkF m 21 #[.val (.ref x0), .val (.int x1), .val (.int v2), .val (.int v3), .val (.long v4), .second, .val (.int x5), .val (.int v7), .unset, .unset] [(.int x5), (.int (own_at ls x1))]))
    by_cases hc21 : (own_at ls x1) = x5
    · have hv := (if_pos hc21).symm.trans hv
      refine Runs.go (fun _ => XS.icmpNo X.here hx rfl (hb hby d3_21) rfl (teq hc21).2) ?_
      show Runs p e below s _ _ _ (T.setTop (mkF m 24 #[.val (.ref x0), .val (.int x1), .val (.int v2), .val (.int v3), .val (.long v4), .second, .val (.int x5), .val (.int v7), .unset, .unset] []))
      refine Runs.go (fun _ => XS.iconst X.here hx rfl (hb hby d3_24)) ?_
      show Runs p e below s _ _ _ (T.setTop (mkF m 25 #[.val (.ref x0), .val (.int x1), .val (.int v2), .val (.int v3), .val (.long v4), .second, .val (.int x5), .val (.int v7), .unset, .unset] [(.int (1 : Int32))]))
      refine Runs.go (fun _ => XS.goto X.here hx rfl (pc0 := 25) (pc' := 29) rfl (hb hby d3_25) (by decide) (by decide)) ?_
      show Runs p e below s _ _ _ (T.setTop (mkF m 29 #[.val (.ref x0), .val (.int x1), .val (.int v2), .val (.int v3), .val (.long v4), .second, .val (.int x5), .val (.int v7), .unset, .unset] [(.int (1 : Int32))]))
      exact Runs.endN X hx (t := .boolean) Bd.returns (by simp) Bd.notSynchronized (hb hby d3_29) ⟨congrArg (fun z => some (Value.int z)) hv, rfl, eT⟩ (by decide) (by decide)
    · have hv := (if_neg hc21).symm.trans hv
      refine Runs.go (fun _ => XS.icmpYes X.here hx rfl (pc0 := 21) (pc' := 28) rfl (hb hby d3_21) rfl (feq hc21).2 (by decide) (by decide)) ?_
      show Runs p e below s _ _ _ (T.setTop (mkF m 28 #[.val (.ref x0), .val (.int x1), .val (.int v2), .val (.int v3), .val (.long v4), .second, .val (.int x5), .val (.int v7), .unset, .unset] []))
      refine Runs.go (fun _ => XS.iconst X.here hx rfl (hb hby d3_28)) ?_
      show Runs p e below s _ _ _ (T.setTop (mkF m 29 #[.val (.ref x0), .val (.int x1), .val (.int v2), .val (.int v3), .val (.long v4), .second, .val (.int x5), .val (.int v7), .unset, .unset] [(.int (0 : Int32))]))
      exact Runs.endN X hx (t := .boolean) Bd.returns (by simp) Bd.notSynchronized (hb hby d3_29) ⟨congrArg (fun z => some (Value.int z)) hv, rfl, eT⟩ (by decide) (by decide)
  have k_0 : ∀ (T : State) (X : Stand p l e ({ frames := 0, cells := 0, slots := 0, locals := 0 } : Room) s m #[(.ref x0), (.int x1), (.int x2), (.int x3), (.long x4), (.int x5)] below meth c T [] 0 0) (eT : T.heap = h0) (N : Fr n0 []), f3_0 x1 x2 x3 x4 x5 ls = r → Runs p e below s (QP (.int r) h0) ({ frames := 0, cells := 0, slots := 0, locals := 0 } : Room).cells ({ frames := 0, cells := 0, slots := 0, locals := 0 } : Room).slots (T.setTop (mkF m 0 #[.val (.ref x0), .val (.int x1), .val (.int x2), .val (.int x3), .val (.long x4), .second, .val (.int x5), .unset, .unset, .unset] [])) := by
    intro T X eT N  hv
    unfold f3_0 at hv
    refine Runs.go (fun _ => XS.iloadN X.here hx rfl (hb hby d3_0) rfl) ?_
    show Runs p e below s _ _ _ (T.setTop (mkF m 1 #[.val (.ref x0), .val (.int x1), .val (.int x2), .val (.int x3), .val (.long x4), .second, .val (.int x5), .unset, .unset, .unset] [(.int x1)]))
    refine Runs.go (fun _ => XS.iloadN X.here hx rfl (hb hby d3_1) rfl) ?_
    show Runs p e below s _ _ _ (T.setTop (mkF m 2 #[.val (.ref x0), .val (.int x1), .val (.int x2), .val (.int x3), .val (.long x4), .second, .val (.int x5), .unset, .unset, .unset] [(.int x2), (.int x1)]))
    refine Runs.go (fun _ => XS.isub X.here hx rfl (hb hby d3_2) rfl) ?_
    show Runs p e below s _ _ _ (T.setTop (mkF m 3 #[.val (.ref x0), .val (.int x1), .val (.int x2), .val (.int x3), .val (.long x4), .second, .val (.int x5), .unset, .unset, .unset] [(.int (x1 - x2))]))
    refine Runs.go (fun _ => XS.istore X.here hx rfl (hb hby d3_3) rfl (l' := #[.val (.ref x0), .val (.int x1), .val (.int x2), .val (.int x3), .val (.long x4), .second, .val (.int x5), .val (.int (x1 - x2)), .unset, .unset]) rfl) ?_
    show Runs p e below s _ _ _ (T.setTop (mkF m 5 #[.val (.ref x0), .val (.int x1), .val (.int x2), .val (.int x3), .val (.long x4), .second, .val (.int x5), .val (.int (x1 - x2)), .unset, .unset] []))
    refine Runs.go (fun _ => XS.iload X.here hx rfl (hb hby d3_5) rfl) ?_
    show Runs p e below s _ _ _ (T.setTop (mkF m 7 #[.val (.ref x0), .val (.int x1), .val (.int x2), .val (.int x3), .val (.long x4), .second, .val (.int x5), .val (.int (x1 - x2)), .unset, .unset] [(.int (x1 - x2))]))
    by_cases hc7 : (x1 - x2) < (0 : Int32)
    · have hv := (if_pos hc7).symm.trans hv
      refine Runs.go (fun _ => XS.ifYes X.here hx rfl (pc0 := 7) (pc' := 16) rfl (hb hby d3_7) rfl ((if0 _ _).trans (tlt hc7).1) (by decide) (by decide)) ?_
      show Runs p e below s _ _ _ (T.setTop (mkF m 16 #[.val (.ref x0), .val (.int x1), .val (.int x2), .val (.int x3), .val (.long x4), .second, .val (.int x5), .val (.int (x1 - x2)), .unset, .unset] []))
      exact k_16 _ X eT N x2 x3 x4 (x1 - x2) hv
    · have hv := (if_neg hc7).symm.trans hv
      refine Runs.go (fun _ => XS.ifNo X.here hx rfl (hb hby d3_7) rfl ((if0 _ _).trans (flt hc7).1)) ?_
      show Runs p e below s _ _ _ (T.setTop (mkF m 10 #[.val (.ref x0), .val (.int x1), .val (.int x2), .val (.int x3), .val (.long x4), .second, .val (.int x5), .val (.int (x1 - x2)), .unset, .unset] []))
      refine Runs.go (fun _ => XS.iload X.here hx rfl (hb hby d3_10) rfl) ?_
      show Runs p e below s _ _ _ (T.setTop (mkF m 12 #[.val (.ref x0), .val (.int x1), .val (.int x2), .val (.int x3), .val (.long x4), .second, .val (.int x5), .val (.int (x1 - x2)), .unset, .unset] [(.int (x1 - x2))]))
      refine Runs.go (fun _ => XS.iloadN X.here hx rfl (hb hby d3_12) rfl) ?_
      show Runs p e below s _ _ _ (T.setTop (mkF m 13 #[.val (.ref x0), .val (.int x1), .val (.int x2), .val (.int x3), .val (.long x4), .second, .val (.int x5), .val (.int (x1 - x2)), .unset, .unset] [(.int x3), (.int (x1 - x2))]))
      by_cases hc13 : (x1 - x2) < x3
      · have hv := (if_pos hc13).symm.trans hv
        refine Runs.go (fun _ => XS.icmpYes X.here hx rfl (pc0 := 13) (pc' := 30) rfl (hb hby d3_13) rfl (tlt hc13).1 (by decide) (by decide)) ?_
        show Runs p e below s _ _ _ (T.setTop (mkF m 30 #[.val (.ref x0), .val (.int x1), .val (.int x2), .val (.int x3), .val (.long x4), .second, .val (.int x5), .val (.int (x1 - x2)), .unset, .unset] []))
        refine Runs.go (fun _ => XS.lload X.here hx rfl (hb hby d3_30) rfl) ?_
        show Runs p e below s _ _ _ (T.setTop (mkF m 32 #[.val (.ref x0), .val (.int x1), .val (.int x2), .val (.int x3), .val (.long x4), .second, .val (.int x5), .val (.int (x1 - x2)), .unset, .unset] [(.long x4)]))
        refine Runs.go (fun _ => XS.bipush X.here hx rfl (hb hby d3_32)) ?_
        show Runs p e below s _ _ _ (T.setTop (mkF m 34 #[.val (.ref x0), .val (.int x1), .val (.int x2), .val (.int x3), .val (.long x4), .second, .val (.int x5), .val (.int (x1 - x2)), .unset, .unset] [(.int (7 : Int32)), (.long x4)]))
        refine Runs.go (fun _ => XS.iload X.here hx rfl (hb hby d3_34) rfl) ?_
        show Runs p e below s _ _ _ (T.setTop (mkF m 36 #[.val (.ref x0), .val (.int x1), .val (.int x2), .val (.int x3), .val (.long x4), .second, .val (.int x5), .val (.int (x1 - x2)), .unset, .unset] [(.int (x1 - x2)), (.int (7 : Int32)), (.long x4)]))
        refine Runs.go (fun _ => XS.imul X.here hx rfl (hb hby d3_36) rfl) ?_
        show Runs p e below s _ _ _ (T.setTop (mkF m 37 #[.val (.ref x0), .val (.int x1), .val (.int x2), .val (.int x3), .val (.long x4), .second, .val (.int x5), .val (.int (x1 - x2)), .unset, .unset] [(.int ((7 : Int32) * (x1 - x2))), (.long x4)]))
        refine Runs.go (fun _ => XS.lushr X.here hx rfl (hb hby d3_37) rfl) ?_
        show Runs p e below s _ _ _ (T.setTop (mkF m 38 #[.val (.ref x0), .val (.int x1), .val (.int x2), .val (.int x3), .val (.long x4), .second, .val (.int x5), .val (.int (x1 - x2)), .unset, .unset] [(.long ((x4.toUInt64 >>> (((7 : Int32) * (x1 - x2)) &&& 0x3f).toInt64.toUInt64).toInt64))]))
        refine Runs.go (X.ldc2Long hx hown (mvT hZ (hw _ (List.mem_of_getElem? (i := 13) rfl))) (g := (mkF m 38 #[.val (.ref x0), .val (.int x1), .val (.int x2), .val (.int x3), .val (.long x4), .second, .val (.int x5), .val (.int (x1 - x2)), .unset, .unset] [(.long ((x4.toUInt64 >>> (((7 : Int32) * (x1 - x2)) &&& 0x3f).toInt64.toUInt64).toInt64))])) rfl (hb hby d3_38)) ?_
        show Runs p e below s _ _ _ (T.setTop (mkF m 41 #[.val (.ref x0), .val (.int x1), .val (.int x2), .val (.int x3), .val (.long x4), .second, .val (.int x5), .val (.int (x1 - x2)), .unset, .unset] [(.long (127 : Int64)), (.long ((x4.toUInt64 >>> (((7 : Int32) * (x1 - x2)) &&& 0x3f).toInt64.toUInt64).toInt64))]))
        refine Runs.go (fun _ => XS.land X.here hx rfl (hb hby d3_41) rfl) ?_
        show Runs p e below s _ _ _ (T.setTop (mkF m 42 #[.val (.ref x0), .val (.int x1), .val (.int x2), .val (.int x3), .val (.long x4), .second, .val (.int x5), .val (.int (x1 - x2)), .unset, .unset] [(.long (((x4.toUInt64 >>> (((7 : Int32) * (x1 - x2)) &&& 0x3f).toInt64.toUInt64).toInt64) &&& (127 : Int64)))]))
        refine Runs.go (fun _ => XS.l2i X.here hx rfl (hb hby d3_42) rfl) ?_
        show Runs p e below s _ _ _ (T.setTop (mkF m 43 #[.val (.ref x0), .val (.int x1), .val (.int x2), .val (.int x3), .val (.long x4), .second, .val (.int x5), .val (.int (x1 - x2)), .unset, .unset] [(.int ((((x4.toUInt64 >>> (((7 : Int32) * (x1 - x2)) &&& 0x3f).toInt64.toUInt64).toInt64) &&& (127 : Int64)).toInt32))]))
        refine Runs.go (fun _ => XS.istore X.here hx rfl (hb hby d3_43) rfl (l' := #[.val (.ref x0), .val (.int x1), .val (.int x2), .val (.int x3), .val (.long x4), .second, .val (.int x5), .val (.int (x1 - x2)), .val (.int ((((x4.toUInt64 >>> (((7 : Int32) * (x1 - x2)) &&& 0x3f).toInt64.toUInt64).toInt64) &&& (127 : Int64)).toInt32)), .unset]) rfl) ?_
        show Runs p e below s _ _ _ (T.setTop (mkF m 45 #[.val (.ref x0), .val (.int x1), .val (.int x2), .val (.int x3), .val (.long x4), .second, .val (.int x5), .val (.int (x1 - x2)), .val (.int ((((x4.toUInt64 >>> (((7 : Int32) * (x1 - x2)) &&& 0x3f).toInt64.toUInt64).toInt64) &&& (127 : Int64)).toInt32)), .unset] []))
        refine Runs.go (fun _ => XS.iload X.here hx rfl (hb hby d3_45) rfl) ?_
        show Runs p e below s _ _ _ (T.setTop (mkF m 47 #[.val (.ref x0), .val (.int x1), .val (.int x2), .val (.int x3), .val (.long x4), .second, .val (.int x5), .val (.int (x1 - x2)), .val (.int ((((x4.toUInt64 >>> (((7 : Int32) * (x1 - x2)) &&& 0x3f).toInt64.toUInt64).toInt64) &&& (127 : Int64)).toInt32)), .unset] [(.int (x1 - x2))]))
        refine Runs.go (fun _ => XS.iloadN X.here hx rfl (hb hby d3_47) rfl) ?_
        show Runs p e below s _ _ _ (T.setTop (mkF m 48 #[.val (.ref x0), .val (.int x1), .val (.int x2), .val (.int x3), .val (.long x4), .second, .val (.int x5), .val (.int (x1 - x2)), .val (.int ((((x4.toUInt64 >>> (((7 : Int32) * (x1 - x2)) &&& 0x3f).toInt64.toUInt64).toInt64) &&& (127 : Int64)).toInt32)), .unset] [(.int x3), (.int (x1 - x2))]))
        refine Runs.go (fun _ => XS.iconst X.here hx rfl (hb hby d3_48)) ?_
        show Runs p e below s _ _ _ (T.setTop (mkF m 49 #[.val (.ref x0), .val (.int x1), .val (.int x2), .val (.int x3), .val (.long x4), .second, .val (.int x5), .val (.int (x1 - x2)), .val (.int ((((x4.toUInt64 >>> (((7 : Int32) * (x1 - x2)) &&& 0x3f).toInt64.toUInt64).toInt64) &&& (127 : Int64)).toInt32)), .unset] [(.int (1 : Int32)), (.int x3), (.int (x1 - x2))]))
        refine Runs.go (fun _ => XS.isub X.here hx rfl (hb hby d3_49) rfl) ?_
        show Runs p e below s _ _ _ (T.setTop (mkF m 50 #[.val (.ref x0), .val (.int x1), .val (.int x2), .val (.int x3), .val (.long x4), .second, .val (.int x5), .val (.int (x1 - x2)), .val (.int ((((x4.toUInt64 >>> (((7 : Int32) * (x1 - x2)) &&& 0x3f).toInt64.toUInt64).toInt64) &&& (127 : Int64)).toInt32)), .unset] [(.int (x3 - (1 : Int32))), (.int (x1 - x2))]))
        by_cases hc50 : (x1 - x2) < (x3 - (1 : Int32))
        · have hv := (if_pos hc50).symm.trans hv
          refine Runs.go (fun _ => XS.icmpNo X.here hx rfl (hb hby d3_50) rfl (tlt hc50).2.1) ?_
          show Runs p e below s _ _ _ (T.setTop (mkF m 53 #[.val (.ref x0), .val (.int x1), .val (.int x2), .val (.int x3), .val (.long x4), .second, .val (.int x5), .val (.int (x1 - x2)), .val (.int ((((x4.toUInt64 >>> (((7 : Int32) * (x1 - x2)) &&& 0x3f).toInt64.toUInt64).toInt64) &&& (127 : Int64)).toInt32)), .unset] []))
          refine Runs.go (fun _ => XS.iload X.here hx rfl (hb hby d3_53) rfl) ?_
          show Runs p e below s _ _ _ (T.setTop (mkF m 55 #[.val (.ref x0), .val (.int x1), .val (.int x2), .val (.int x3), .val (.long x4), .second, .val (.int x5), .val (.int (x1 - x2)), .val (.int ((((x4.toUInt64 >>> (((7 : Int32) * (x1 - x2)) &&& 0x3f).toInt64.toUInt64).toInt64) &&& (127 : Int64)).toInt32)), .unset] [(.int ((((x4.toUInt64 >>> (((7 : Int32) * (x1 - x2)) &&& 0x3f).toInt64.toUInt64).toInt64) &&& (127 : Int64)).toInt32))]))
          refine Runs.go (fun _ => XS.sipush X.here hx rfl (hb hby d3_55)) ?_
          show Runs p e below s _ _ _ (T.setTop (mkF m 58 #[.val (.ref x0), .val (.int x1), .val (.int x2), .val (.int x3), .val (.long x4), .second, .val (.int x5), .val (.int (x1 - x2)), .val (.int ((((x4.toUInt64 >>> (((7 : Int32) * (x1 - x2)) &&& 0x3f).toInt64.toUInt64).toInt64) &&& (127 : Int64)).toInt32)), .unset] [(.int (128 : Int32)), (.int ((((x4.toUInt64 >>> (((7 : Int32) * (x1 - x2)) &&& 0x3f).toInt64.toUInt64).toInt64) &&& (127 : Int64)).toInt32))]))
          refine Runs.go (fun _ => XS.ior X.here hx rfl (hb hby d3_58) rfl) ?_
          show Runs p e below s _ _ _ (T.setTop (mkF m 59 #[.val (.ref x0), .val (.int x1), .val (.int x2), .val (.int x3), .val (.long x4), .second, .val (.int x5), .val (.int (x1 - x2)), .val (.int ((((x4.toUInt64 >>> (((7 : Int32) * (x1 - x2)) &&& 0x3f).toInt64.toUInt64).toInt64) &&& (127 : Int64)).toInt32)), .unset] [(.int (((((x4.toUInt64 >>> (((7 : Int32) * (x1 - x2)) &&& 0x3f).toInt64.toUInt64).toInt64) &&& (127 : Int64)).toInt32) ||| (128 : Int32)))]))
          refine Runs.go (fun _ => XS.goto X.here hx rfl (pc0 := 59) (pc' := 64) rfl (hb hby d3_59) (by decide) (by decide)) ?_
          show Runs p e below s _ _ _ (T.setTop (mkF m 64 #[.val (.ref x0), .val (.int x1), .val (.int x2), .val (.int x3), .val (.long x4), .second, .val (.int x5), .val (.int (x1 - x2)), .val (.int ((((x4.toUInt64 >>> (((7 : Int32) * (x1 - x2)) &&& 0x3f).toInt64.toUInt64).toInt64) &&& (127 : Int64)).toInt32)), .unset] [(.int (((((x4.toUInt64 >>> (((7 : Int32) * (x1 - x2)) &&& 0x3f).toInt64.toUInt64).toInt64) &&& (127 : Int64)).toInt32) ||| (128 : Int32)))]))
          exact k_64 _ X eT N x2 x3 x4 x5 (x1 - x2) ((((x4.toUInt64 >>> (((7 : Int32) * (x1 - x2)) &&& 0x3f).toInt64.toUInt64).toInt64) &&& (127 : Int64)).toInt32) (((((x4.toUInt64 >>> (((7 : Int32) * (x1 - x2)) &&& 0x3f).toInt64.toUInt64).toInt64) &&& (127 : Int64)).toInt32) ||| (128 : Int32)) hv
        · have hv := (if_neg hc50).symm.trans hv
          refine Runs.go (fun _ => XS.icmpYes X.here hx rfl (pc0 := 50) (pc' := 62) rfl (hb hby d3_50) rfl (flt hc50).2.1 (by decide) (by decide)) ?_
          show Runs p e below s _ _ _ (T.setTop (mkF m 62 #[.val (.ref x0), .val (.int x1), .val (.int x2), .val (.int x3), .val (.long x4), .second, .val (.int x5), .val (.int (x1 - x2)), .val (.int ((((x4.toUInt64 >>> (((7 : Int32) * (x1 - x2)) &&& 0x3f).toInt64.toUInt64).toInt64) &&& (127 : Int64)).toInt32)), .unset] []))
          refine Runs.go (fun _ => XS.iload X.here hx rfl (hb hby d3_62) rfl) ?_
          show Runs p e below s _ _ _ (T.setTop (mkF m 64 #[.val (.ref x0), .val (.int x1), .val (.int x2), .val (.int x3), .val (.long x4), .second, .val (.int x5), .val (.int (x1 - x2)), .val (.int ((((x4.toUInt64 >>> (((7 : Int32) * (x1 - x2)) &&& 0x3f).toInt64.toUInt64).toInt64) &&& (127 : Int64)).toInt32)), .unset] [(.int ((((x4.toUInt64 >>> (((7 : Int32) * (x1 - x2)) &&& 0x3f).toInt64.toUInt64).toInt64) &&& (127 : Int64)).toInt32))]))
          exact k_64 _ X eT N x2 x3 x4 x5 (x1 - x2) ((((x4.toUInt64 >>> (((7 : Int32) * (x1 - x2)) &&& 0x3f).toInt64.toUInt64).toInt64) &&& (127 : Int64)).toInt32) ((((x4.toUInt64 >>> (((7 : Int32) * (x1 - x2)) &&& 0x3f).toInt64.toUInt64).toInt64) &&& (127 : Int64)).toInt32) hv
      · have hv := (if_neg hc13).symm.trans hv
        refine Runs.go (fun _ => XS.icmpNo X.here hx rfl (hb hby d3_13) rfl (flt hc13).1) ?_
        show Runs p e below s _ _ _ (T.setTop (mkF m 16 #[.val (.ref x0), .val (.int x1), .val (.int x2), .val (.int x3), .val (.long x4), .second, .val (.int x5), .val (.int (x1 - x2)), .unset, .unset] []))
        exact k_16 _ X eT N x2 x3 x4 (x1 - x2) hv
  exact k_0 _ X0 e0 (Fr.nil n0) hF
theorem pn_0 : plainName "com/example/caddis/caddis/index/IndexFormatPutVarintPinLaw" = true := by first | (simp [plainName, overriddenIn]; done) | decide +kernel
theorem ef_0 (m : MethodId) (x0 : Int64) (x1 : Int32) (x2 : Int32) (x3 : Int32) : entryFrame m #[(.long x0), (.int x1), (.int x2), (.int x3)] maxLocals = mkF m 0 #[.val (.long x0), .second, .val (.int x1), .val (.int x2), .val (.int x3), .unset, .unset, .unset, .unset, .unset, .unset, .unset, .unset] [] := by first | (simp [entryFrame, mkF, argsToLocals, Value.category, maxLocals]; done) | rfl
set_option maxRecDepth 65536 in
set_option maxHeartbeats 40000000 in
theorem rm0 (l : Launch) (Z : State) (a0 : Array Value) (hw : ∀ d ∈ tables_1, d.before a0 Z = true) (ws : List Jvm.Cond) (x0 : Int64) (x1 : Int32) (x2 : Int32) (x3 : Int32) (h0 : Heap) (n0 : Nat) (hn0 : n0 ≤ h0.size) :
    MetFree l x (head1 (Jvm.Cond.code x code maxLocals ret :: ws) room_1) (fun a U => a = #[(.long x0), (.int x1), (.int x2), (.int x3)] ∧ Z.Warmed39 U.vm ∧ U.heap = h0) (fun _ _ _ _ _ => True) (fun _ U o U' => ∃ v L, o = .returned v ∧ QH (.int (F0 x0 x1 x2 x3)) n0 v U'.heap L ∧ FrameEnd U o U' L room_1.cells room_1.slots) := by
  refine MetFree.of_bodySF (plainFor_of_name pn_0) hisR ?_
  intro p e s m args below meth c s₁ Bd hml0 hP hK
  obtain ⟨rfl, hZ, hh⟩ := hP
  have hx := Bd.exec
  have hby := Bd.bytes
  have hml : c.maxLocals = 13 := hml0
  have hown : s.vm.findClass "com/example/caddis/caddis/index/IndexFormatPutVarintPinLaw" = some m.cls := findClass_of_methodNamed Bd.named
  have X0 : Stand p l e room_1 s m #[(.long x0), (.int x1), (.int x2), (.int x3)] below meth c s₁ [] 0 0 := Stand.of_body Bd
  have e0 : s₁.heap = h0 := by rw [← hh, Bd.state]; rfl
  show Runs p e below s (QH (.int (F0 x0 x1 x2 x3)) n0) room_1.cells room_1.slots (s₁.setTop (entryFrame m #[(.long x0), (.int x1), (.int x2), (.int x3)] maxLocals))
  rw [ef_0 m x0 x1 x2 x3]
  obtain ⟨r, hF⟩ : ∃ r, F0 x0 x1 x2 x3 = r := ⟨_, rfl⟩
  rw [hF]
  have k_157 : ∀ (T : State) (locs : List Loc) (h : Heap) (X : Stand p l e room_1 s m #[(.long x0), (.int x1), (.int x2), (.int x3)] below meth c T locs 1 18) (eT : T.heap = h) (N : Fr n0 locs) (w_ba : Addr) (w_kk : ClassId) (v0 : Int64) (v2 : Int32) (v3 : Int32) (v4 : Int32) (v5 : Int64) (G_G : n0 ≤ w_ba) (G_V : Arv Z h w_ba w_kk .byte (18 : Int32) [(.int (nar .byte (x3.toInt8.toInt32))), (.int (nar .byte (x3.toInt8.toInt32))), (.int (nar .byte (x3.toInt8.toInt32))), (.int (nar .byte (x3.toInt8.toInt32))), (.int (nar .byte (x3.toInt8.toInt32))), (.int (nar .byte (x3.toInt8.toInt32))), (.int (nar .byte (x3.toInt8.toInt32))), (.int (nar .byte (x3.toInt8.toInt32))), (.int (nar .byte (x3.toInt8.toInt32))), (.int (nar .byte (x3.toInt8.toInt32))), (.int (nar .byte (x3.toInt8.toInt32))), (.int (nar .byte (x3.toInt8.toInt32))), (.int (nar .byte (x3.toInt8.toInt32))), (.int (nar .byte (x3.toInt8.toInt32))), (.int (nar .byte (x3.toInt8.toInt32))), (.int (nar .byte (x3.toInt8.toInt32))), (.int (nar .byte (x3.toInt8.toInt32))), (.int (nar .byte (x3.toInt8.toInt32)))] (.int (0 : Int32))), f0_157 x0 x1 x2 x3 v5 = r → Runs p e below s (QH (.int r) n0) room_1.cells room_1.slots (T.setTop (mkF m 157 #[.val (.long v0), .second, .val (.int v2), .val (.int v3), .val (.int v4), .val (.long v5), .second, .val (.int (x2 &&& (7 : Int32))), .val (.int (x3.toInt8.toInt32)), .val (.ref w_ba), .unset, .unset, .unset] [])) := by
    intro T locs h X eT N w_ba w_kk v0 v2 v3 v4 v5 G_G G_V hv
    unfold f0_157 at hv
    refine Runs.go (fun _ => XS.iconst X.here hx rfl (hb hby at_157)) ?_
    show Runs p e below s _ _ _ (T.setTop (mkF m 158 #[.val (.long v0), .second, .val (.int v2), .val (.int v3), .val (.int v4), .val (.long v5), .second, .val (.int (x2 &&& (7 : Int32))), .val (.int (x3.toInt8.toInt32)), .val (.ref w_ba), .unset, .unset, .unset] [(.int (1 : Int32))]))
    refine Runs.go (fun _ => XS.lload X.here hx rfl (hb hby at_158) rfl) ?_
    show Runs p e below s _ _ _ (T.setTop (mkF m 160 #[.val (.long v0), .second, .val (.int v2), .val (.int v3), .val (.int v4), .val (.long v5), .second, .val (.int (x2 &&& (7 : Int32))), .val (.int (x3.toInt8.toInt32)), .val (.ref w_ba), .unset, .unset, .unset] [(.long v5), (.int (1 : Int32))]))
    refine Runs.go (fun _ => XS.iconst X.here hx rfl (hb hby at_160)) ?_
    show Runs p e below s _ _ _ (T.setTop (mkF m 161 #[.val (.long v0), .second, .val (.int v2), .val (.int v3), .val (.int v4), .val (.long v5), .second, .val (.int (x2 &&& (7 : Int32))), .val (.int (x3.toInt8.toInt32)), .val (.ref w_ba), .unset, .unset, .unset] [(.int (1 : Int32)), (.long v5), (.int (1 : Int32))]))
    obtain ⟨zq1, hzq1⟩ : ∃ z, F1 v5 (1 : Int32) = z := ⟨_, rfl⟩
    have rmq1 := rm1 l Z a0 hw [] v5 (1 : Int32) h
    rw [hzq1] at rmq1
    obtain ⟨_, _, ⟨Tc161_20, Lc161_20, kc161_20, nc161_20⟩, -, Xc161_20, ⟨Lcc161_20, hQc161_20, lc161_20, yc161_20, zc161_20⟩, stc161_20⟩ := Jvm.LawKit.callS X hx (y := (⟨"com/example/caddis/caddis/index/IndexFormatPutVarintPinLaw", "nz", "(JI)I"⟩ : MethodName)) hown (mvT hZ (hw _ (List.mem_of_getElem? (i := 1) rfl))) (mvT hZ (hw _ (List.mem_of_getElem? (i := 2) rfl))) (mvT hZ (hw _ (List.mem_of_getElem? (i := 3) rfl))) (mvT hZ (hw _ (List.mem_of_getElem? (i := 4) rfl))) (by decide) (backOf (W := 1) (rmq1) hZ (hw _ (List.mem_of_getElem? (i := 4) rfl)) (hw _ (List.mem_of_getElem? (i := 3) rfl)) (by decide) (by decide)) (g := (mkF m 161 #[.val (.long v0), .second, .val (.int v2), .val (.int v3), .val (.int v4), .val (.long v5), .second, .val (.int (x2 &&& (7 : Int32))), .val (.int (x3.toInt8.toInt32)), .val (.ref w_ba), .unset, .unset, .unset] [(.int (1 : Int32)), (.long v5), (.int (1 : Int32))])) rfl (by rw [hml]; rfl) (argsL := [(.long v5), (.int (1 : Int32))]) (rest := [(.int (1 : Int32))]) (lenOf pd_0 rfl) rfl (by show 2 * 0 + _ ≤ _; exact Nat.le_of_eq rfl) (hb hby at_161) (fun _ _ => ⟨rfl, eT, (by decide : 1 + 0 ≤ _), (by decide : 18 + 0 ≤ _)⟩)
    dsimp only [Pt.U, Pt.locs, Pt.cells, Pt.slots] at Xc161_20 lc161_20 yc161_20 zc161_20 stc161_20 hQc161_20
    subst lc161_20 yc161_20 zc161_20
    obtain ⟨rfl, rfl, ec161_20⟩ := hQc161_20
    refine Runs.go stc161_20 ?_
    simp only [List.append_nil, Nat.add_zero] at Xc161_20
    have Nc161_20 := N
    show Runs p e below s _ _ _ (Tc161_20.setTop (mkF m 164 #[.val (.long v0), .second, .val (.int v2), .val (.int v3), .val (.int v4), .val (.long v5), .second, .val (.int (x2 &&& (7 : Int32))), .val (.int (x3.toInt8.toInt32)), .val (.ref w_ba), .unset, .unset, .unset] [(.int zq1), (.int (1 : Int32))]))
    refine Runs.go (fun _ => XS.iadd Xc161_20.here hx rfl (hb hby at_164) rfl) ?_
    show Runs p e below s _ _ _ (Tc161_20.setTop (mkF m 165 #[.val (.long v0), .second, .val (.int v2), .val (.int v3), .val (.int v4), .val (.long v5), .second, .val (.int (x2 &&& (7 : Int32))), .val (.int (x3.toInt8.toInt32)), .val (.ref w_ba), .unset, .unset, .unset] [(.int ((1 : Int32) + zq1))]))
    refine Runs.go (fun _ => XS.lload Xc161_20.here hx rfl (hb hby at_165) rfl) ?_
    show Runs p e below s _ _ _ (Tc161_20.setTop (mkF m 167 #[.val (.long v0), .second, .val (.int v2), .val (.int v3), .val (.int v4), .val (.long v5), .second, .val (.int (x2 &&& (7 : Int32))), .val (.int (x3.toInt8.toInt32)), .val (.ref w_ba), .unset, .unset, .unset] [(.long v5), (.int ((1 : Int32) + zq1))]))
    refine Runs.go (fun _ => XS.iconst Xc161_20.here hx rfl (hb hby at_167)) ?_
    show Runs p e below s _ _ _ (Tc161_20.setTop (mkF m 168 #[.val (.long v0), .second, .val (.int v2), .val (.int v3), .val (.int v4), .val (.long v5), .second, .val (.int (x2 &&& (7 : Int32))), .val (.int (x3.toInt8.toInt32)), .val (.ref w_ba), .unset, .unset, .unset] [(.int (2 : Int32)), (.long v5), (.int ((1 : Int32) + zq1))]))
    obtain ⟨zq2, hzq2⟩ : ∃ z, F1 v5 (2 : Int32) = z := ⟨_, rfl⟩
    have rmq2 := rm1 l Z a0 hw [] v5 (2 : Int32) h
    rw [hzq2] at rmq2
    obtain ⟨_, _, ⟨Tc168_21, Lc168_21, kc168_21, nc168_21⟩, -, Xc168_21, ⟨Lcc168_21, hQc168_21, lc168_21, yc168_21, zc168_21⟩, stc168_21⟩ := Jvm.LawKit.callS Xc161_20 hx (y := (⟨"com/example/caddis/caddis/index/IndexFormatPutVarintPinLaw", "nz", "(JI)I"⟩ : MethodName)) hown (mvT hZ (hw _ (List.mem_of_getElem? (i := 1) rfl))) (mvT hZ (hw _ (List.mem_of_getElem? (i := 2) rfl))) (mvT hZ (hw _ (List.mem_of_getElem? (i := 3) rfl))) (mvT hZ (hw _ (List.mem_of_getElem? (i := 4) rfl))) (by decide) (backOf (W := 1) (rmq2) hZ (hw _ (List.mem_of_getElem? (i := 4) rfl)) (hw _ (List.mem_of_getElem? (i := 3) rfl)) (by decide) (by decide)) (g := (mkF m 168 #[.val (.long v0), .second, .val (.int v2), .val (.int v3), .val (.int v4), .val (.long v5), .second, .val (.int (x2 &&& (7 : Int32))), .val (.int (x3.toInt8.toInt32)), .val (.ref w_ba), .unset, .unset, .unset] [(.int (2 : Int32)), (.long v5), (.int ((1 : Int32) + zq1))])) rfl (by rw [hml]; rfl) (argsL := [(.long v5), (.int (2 : Int32))]) (rest := [(.int ((1 : Int32) + zq1))]) (lenOf pd_0 rfl) rfl (by show 2 * 0 + _ ≤ _; exact Nat.le_of_eq rfl) (hb hby at_168) (fun _ _ => ⟨rfl, ec161_20, (by decide : 1 + 0 ≤ _), (by decide : 18 + 0 ≤ _)⟩)
    dsimp only [Pt.U, Pt.locs, Pt.cells, Pt.slots] at Xc168_21 lc168_21 yc168_21 zc168_21 stc168_21 hQc168_21
    subst lc168_21 yc168_21 zc168_21
    obtain ⟨rfl, rfl, ec168_21⟩ := hQc168_21
    refine Runs.go stc168_21 ?_
    simp only [List.append_nil, Nat.add_zero] at Xc168_21
    have Nc168_21 := Nc161_20
    show Runs p e below s _ _ _ (Tc168_21.setTop (mkF m 171 #[.val (.long v0), .second, .val (.int v2), .val (.int v3), .val (.int v4), .val (.long v5), .second, .val (.int (x2 &&& (7 : Int32))), .val (.int (x3.toInt8.toInt32)), .val (.ref w_ba), .unset, .unset, .unset] [(.int zq2), (.int ((1 : Int32) + zq1))]))
    refine Runs.go (fun _ => XS.iadd Xc168_21.here hx rfl (hb hby at_171) rfl) ?_
    show Runs p e below s _ _ _ (Tc168_21.setTop (mkF m 172 #[.val (.long v0), .second, .val (.int v2), .val (.int v3), .val (.int v4), .val (.long v5), .second, .val (.int (x2 &&& (7 : Int32))), .val (.int (x3.toInt8.toInt32)), .val (.ref w_ba), .unset, .unset, .unset] [(.int (((1 : Int32) + zq1) + zq2))]))
    refine Runs.go (fun _ => XS.lload Xc168_21.here hx rfl (hb hby at_172) rfl) ?_
    show Runs p e below s _ _ _ (Tc168_21.setTop (mkF m 174 #[.val (.long v0), .second, .val (.int v2), .val (.int v3), .val (.int v4), .val (.long v5), .second, .val (.int (x2 &&& (7 : Int32))), .val (.int (x3.toInt8.toInt32)), .val (.ref w_ba), .unset, .unset, .unset] [(.long v5), (.int (((1 : Int32) + zq1) + zq2))]))
    refine Runs.go (fun _ => XS.iconst Xc168_21.here hx rfl (hb hby at_174)) ?_
    show Runs p e below s _ _ _ (Tc168_21.setTop (mkF m 175 #[.val (.long v0), .second, .val (.int v2), .val (.int v3), .val (.int v4), .val (.long v5), .second, .val (.int (x2 &&& (7 : Int32))), .val (.int (x3.toInt8.toInt32)), .val (.ref w_ba), .unset, .unset, .unset] [(.int (3 : Int32)), (.long v5), (.int (((1 : Int32) + zq1) + zq2))]))
    obtain ⟨zq3, hzq3⟩ : ∃ z, F1 v5 (3 : Int32) = z := ⟨_, rfl⟩
    have rmq3 := rm1 l Z a0 hw [] v5 (3 : Int32) h
    rw [hzq3] at rmq3
    obtain ⟨_, _, ⟨Tc175_22, Lc175_22, kc175_22, nc175_22⟩, -, Xc175_22, ⟨Lcc175_22, hQc175_22, lc175_22, yc175_22, zc175_22⟩, stc175_22⟩ := Jvm.LawKit.callS Xc168_21 hx (y := (⟨"com/example/caddis/caddis/index/IndexFormatPutVarintPinLaw", "nz", "(JI)I"⟩ : MethodName)) hown (mvT hZ (hw _ (List.mem_of_getElem? (i := 1) rfl))) (mvT hZ (hw _ (List.mem_of_getElem? (i := 2) rfl))) (mvT hZ (hw _ (List.mem_of_getElem? (i := 3) rfl))) (mvT hZ (hw _ (List.mem_of_getElem? (i := 4) rfl))) (by decide) (backOf (W := 1) (rmq3) hZ (hw _ (List.mem_of_getElem? (i := 4) rfl)) (hw _ (List.mem_of_getElem? (i := 3) rfl)) (by decide) (by decide)) (g := (mkF m 175 #[.val (.long v0), .second, .val (.int v2), .val (.int v3), .val (.int v4), .val (.long v5), .second, .val (.int (x2 &&& (7 : Int32))), .val (.int (x3.toInt8.toInt32)), .val (.ref w_ba), .unset, .unset, .unset] [(.int (3 : Int32)), (.long v5), (.int (((1 : Int32) + zq1) + zq2))])) rfl (by rw [hml]; rfl) (argsL := [(.long v5), (.int (3 : Int32))]) (rest := [(.int (((1 : Int32) + zq1) + zq2))]) (lenOf pd_0 rfl) rfl (by show 2 * 0 + _ ≤ _; exact Nat.le_of_eq rfl) (hb hby at_175) (fun _ _ => ⟨rfl, ec168_21, (by decide : 1 + 0 ≤ _), (by decide : 18 + 0 ≤ _)⟩)
    dsimp only [Pt.U, Pt.locs, Pt.cells, Pt.slots] at Xc175_22 lc175_22 yc175_22 zc175_22 stc175_22 hQc175_22
    subst lc175_22 yc175_22 zc175_22
    obtain ⟨rfl, rfl, ec175_22⟩ := hQc175_22
    refine Runs.go stc175_22 ?_
    simp only [List.append_nil, Nat.add_zero] at Xc175_22
    have Nc175_22 := Nc168_21
    show Runs p e below s _ _ _ (Tc175_22.setTop (mkF m 178 #[.val (.long v0), .second, .val (.int v2), .val (.int v3), .val (.int v4), .val (.long v5), .second, .val (.int (x2 &&& (7 : Int32))), .val (.int (x3.toInt8.toInt32)), .val (.ref w_ba), .unset, .unset, .unset] [(.int zq3), (.int (((1 : Int32) + zq1) + zq2))]))
    refine Runs.go (fun _ => XS.iadd Xc175_22.here hx rfl (hb hby at_178) rfl) ?_
    show Runs p e below s _ _ _ (Tc175_22.setTop (mkF m 179 #[.val (.long v0), .second, .val (.int v2), .val (.int v3), .val (.int v4), .val (.long v5), .second, .val (.int (x2 &&& (7 : Int32))), .val (.int (x3.toInt8.toInt32)), .val (.ref w_ba), .unset, .unset, .unset] [(.int ((((1 : Int32) + zq1) + zq2) + zq3))]))
    refine Runs.go (fun _ => XS.lload Xc175_22.here hx rfl (hb hby at_179) rfl) ?_
    show Runs p e below s _ _ _ (Tc175_22.setTop (mkF m 181 #[.val (.long v0), .second, .val (.int v2), .val (.int v3), .val (.int v4), .val (.long v5), .second, .val (.int (x2 &&& (7 : Int32))), .val (.int (x3.toInt8.toInt32)), .val (.ref w_ba), .unset, .unset, .unset] [(.long v5), (.int ((((1 : Int32) + zq1) + zq2) + zq3))]))
    refine Runs.go (fun _ => XS.iconst Xc175_22.here hx rfl (hb hby at_181)) ?_
    show Runs p e below s _ _ _ (Tc175_22.setTop (mkF m 182 #[.val (.long v0), .second, .val (.int v2), .val (.int v3), .val (.int v4), .val (.long v5), .second, .val (.int (x2 &&& (7 : Int32))), .val (.int (x3.toInt8.toInt32)), .val (.ref w_ba), .unset, .unset, .unset] [(.int (4 : Int32)), (.long v5), (.int ((((1 : Int32) + zq1) + zq2) + zq3))]))
    obtain ⟨zq4, hzq4⟩ : ∃ z, F1 v5 (4 : Int32) = z := ⟨_, rfl⟩
    have rmq4 := rm1 l Z a0 hw [] v5 (4 : Int32) h
    rw [hzq4] at rmq4
    obtain ⟨_, _, ⟨Tc182_23, Lc182_23, kc182_23, nc182_23⟩, -, Xc182_23, ⟨Lcc182_23, hQc182_23, lc182_23, yc182_23, zc182_23⟩, stc182_23⟩ := Jvm.LawKit.callS Xc175_22 hx (y := (⟨"com/example/caddis/caddis/index/IndexFormatPutVarintPinLaw", "nz", "(JI)I"⟩ : MethodName)) hown (mvT hZ (hw _ (List.mem_of_getElem? (i := 1) rfl))) (mvT hZ (hw _ (List.mem_of_getElem? (i := 2) rfl))) (mvT hZ (hw _ (List.mem_of_getElem? (i := 3) rfl))) (mvT hZ (hw _ (List.mem_of_getElem? (i := 4) rfl))) (by decide) (backOf (W := 1) (rmq4) hZ (hw _ (List.mem_of_getElem? (i := 4) rfl)) (hw _ (List.mem_of_getElem? (i := 3) rfl)) (by decide) (by decide)) (g := (mkF m 182 #[.val (.long v0), .second, .val (.int v2), .val (.int v3), .val (.int v4), .val (.long v5), .second, .val (.int (x2 &&& (7 : Int32))), .val (.int (x3.toInt8.toInt32)), .val (.ref w_ba), .unset, .unset, .unset] [(.int (4 : Int32)), (.long v5), (.int ((((1 : Int32) + zq1) + zq2) + zq3))])) rfl (by rw [hml]; rfl) (argsL := [(.long v5), (.int (4 : Int32))]) (rest := [(.int ((((1 : Int32) + zq1) + zq2) + zq3))]) (lenOf pd_0 rfl) rfl (by show 2 * 0 + _ ≤ _; exact Nat.le_of_eq rfl) (hb hby at_182) (fun _ _ => ⟨rfl, ec175_22, (by decide : 1 + 0 ≤ _), (by decide : 18 + 0 ≤ _)⟩)
    dsimp only [Pt.U, Pt.locs, Pt.cells, Pt.slots] at Xc182_23 lc182_23 yc182_23 zc182_23 stc182_23 hQc182_23
    subst lc182_23 yc182_23 zc182_23
    obtain ⟨rfl, rfl, ec182_23⟩ := hQc182_23
    refine Runs.go stc182_23 ?_
    simp only [List.append_nil, Nat.add_zero] at Xc182_23
    have Nc182_23 := Nc175_22
    show Runs p e below s _ _ _ (Tc182_23.setTop (mkF m 185 #[.val (.long v0), .second, .val (.int v2), .val (.int v3), .val (.int v4), .val (.long v5), .second, .val (.int (x2 &&& (7 : Int32))), .val (.int (x3.toInt8.toInt32)), .val (.ref w_ba), .unset, .unset, .unset] [(.int zq4), (.int ((((1 : Int32) + zq1) + zq2) + zq3))]))
    refine Runs.go (fun _ => XS.iadd Xc182_23.here hx rfl (hb hby at_185) rfl) ?_
    show Runs p e below s _ _ _ (Tc182_23.setTop (mkF m 186 #[.val (.long v0), .second, .val (.int v2), .val (.int v3), .val (.int v4), .val (.long v5), .second, .val (.int (x2 &&& (7 : Int32))), .val (.int (x3.toInt8.toInt32)), .val (.ref w_ba), .unset, .unset, .unset] [(.int (((((1 : Int32) + zq1) + zq2) + zq3) + zq4))]))
    refine Runs.go (fun _ => XS.lload Xc182_23.here hx rfl (hb hby at_186) rfl) ?_
    show Runs p e below s _ _ _ (Tc182_23.setTop (mkF m 188 #[.val (.long v0), .second, .val (.int v2), .val (.int v3), .val (.int v4), .val (.long v5), .second, .val (.int (x2 &&& (7 : Int32))), .val (.int (x3.toInt8.toInt32)), .val (.ref w_ba), .unset, .unset, .unset] [(.long v5), (.int (((((1 : Int32) + zq1) + zq2) + zq3) + zq4))]))
    refine Runs.go (fun _ => XS.iconst Xc182_23.here hx rfl (hb hby at_188)) ?_
    show Runs p e below s _ _ _ (Tc182_23.setTop (mkF m 189 #[.val (.long v0), .second, .val (.int v2), .val (.int v3), .val (.int v4), .val (.long v5), .second, .val (.int (x2 &&& (7 : Int32))), .val (.int (x3.toInt8.toInt32)), .val (.ref w_ba), .unset, .unset, .unset] [(.int (5 : Int32)), (.long v5), (.int (((((1 : Int32) + zq1) + zq2) + zq3) + zq4))]))
    obtain ⟨zq5, hzq5⟩ : ∃ z, F1 v5 (5 : Int32) = z := ⟨_, rfl⟩
    have rmq5 := rm1 l Z a0 hw [] v5 (5 : Int32) h
    rw [hzq5] at rmq5
    obtain ⟨_, _, ⟨Tc189_24, Lc189_24, kc189_24, nc189_24⟩, -, Xc189_24, ⟨Lcc189_24, hQc189_24, lc189_24, yc189_24, zc189_24⟩, stc189_24⟩ := Jvm.LawKit.callS Xc182_23 hx (y := (⟨"com/example/caddis/caddis/index/IndexFormatPutVarintPinLaw", "nz", "(JI)I"⟩ : MethodName)) hown (mvT hZ (hw _ (List.mem_of_getElem? (i := 1) rfl))) (mvT hZ (hw _ (List.mem_of_getElem? (i := 2) rfl))) (mvT hZ (hw _ (List.mem_of_getElem? (i := 3) rfl))) (mvT hZ (hw _ (List.mem_of_getElem? (i := 4) rfl))) (by decide) (backOf (W := 1) (rmq5) hZ (hw _ (List.mem_of_getElem? (i := 4) rfl)) (hw _ (List.mem_of_getElem? (i := 3) rfl)) (by decide) (by decide)) (g := (mkF m 189 #[.val (.long v0), .second, .val (.int v2), .val (.int v3), .val (.int v4), .val (.long v5), .second, .val (.int (x2 &&& (7 : Int32))), .val (.int (x3.toInt8.toInt32)), .val (.ref w_ba), .unset, .unset, .unset] [(.int (5 : Int32)), (.long v5), (.int (((((1 : Int32) + zq1) + zq2) + zq3) + zq4))])) rfl (by rw [hml]; rfl) (argsL := [(.long v5), (.int (5 : Int32))]) (rest := [(.int (((((1 : Int32) + zq1) + zq2) + zq3) + zq4))]) (lenOf pd_0 rfl) rfl (by show 2 * 0 + _ ≤ _; exact Nat.le_of_eq rfl) (hb hby at_189) (fun _ _ => ⟨rfl, ec182_23, (by decide : 1 + 0 ≤ _), (by decide : 18 + 0 ≤ _)⟩)
    dsimp only [Pt.U, Pt.locs, Pt.cells, Pt.slots] at Xc189_24 lc189_24 yc189_24 zc189_24 stc189_24 hQc189_24
    subst lc189_24 yc189_24 zc189_24
    obtain ⟨rfl, rfl, ec189_24⟩ := hQc189_24
    refine Runs.go stc189_24 ?_
    simp only [List.append_nil, Nat.add_zero] at Xc189_24
    have Nc189_24 := Nc182_23
    show Runs p e below s _ _ _ (Tc189_24.setTop (mkF m 192 #[.val (.long v0), .second, .val (.int v2), .val (.int v3), .val (.int v4), .val (.long v5), .second, .val (.int (x2 &&& (7 : Int32))), .val (.int (x3.toInt8.toInt32)), .val (.ref w_ba), .unset, .unset, .unset] [(.int zq5), (.int (((((1 : Int32) + zq1) + zq2) + zq3) + zq4))]))
    refine Runs.go (fun _ => XS.iadd Xc189_24.here hx rfl (hb hby at_192) rfl) ?_
    show Runs p e below s _ _ _ (Tc189_24.setTop (mkF m 193 #[.val (.long v0), .second, .val (.int v2), .val (.int v3), .val (.int v4), .val (.long v5), .second, .val (.int (x2 &&& (7 : Int32))), .val (.int (x3.toInt8.toInt32)), .val (.ref w_ba), .unset, .unset, .unset] [(.int ((((((1 : Int32) + zq1) + zq2) + zq3) + zq4) + zq5))]))
    refine Runs.go (fun _ => XS.lload Xc189_24.here hx rfl (hb hby at_193) rfl) ?_
    show Runs p e below s _ _ _ (Tc189_24.setTop (mkF m 195 #[.val (.long v0), .second, .val (.int v2), .val (.int v3), .val (.int v4), .val (.long v5), .second, .val (.int (x2 &&& (7 : Int32))), .val (.int (x3.toInt8.toInt32)), .val (.ref w_ba), .unset, .unset, .unset] [(.long v5), (.int ((((((1 : Int32) + zq1) + zq2) + zq3) + zq4) + zq5))]))
    refine Runs.go (fun _ => XS.bipush Xc189_24.here hx rfl (hb hby at_195)) ?_
    show Runs p e below s _ _ _ (Tc189_24.setTop (mkF m 197 #[.val (.long v0), .second, .val (.int v2), .val (.int v3), .val (.int v4), .val (.long v5), .second, .val (.int (x2 &&& (7 : Int32))), .val (.int (x3.toInt8.toInt32)), .val (.ref w_ba), .unset, .unset, .unset] [(.int (6 : Int32)), (.long v5), (.int ((((((1 : Int32) + zq1) + zq2) + zq3) + zq4) + zq5))]))
    obtain ⟨zq6, hzq6⟩ : ∃ z, F1 v5 (6 : Int32) = z := ⟨_, rfl⟩
    have rmq6 := rm1 l Z a0 hw [] v5 (6 : Int32) h
    rw [hzq6] at rmq6
    obtain ⟨_, _, ⟨Tc197_25, Lc197_25, kc197_25, nc197_25⟩, -, Xc197_25, ⟨Lcc197_25, hQc197_25, lc197_25, yc197_25, zc197_25⟩, stc197_25⟩ := Jvm.LawKit.callS Xc189_24 hx (y := (⟨"com/example/caddis/caddis/index/IndexFormatPutVarintPinLaw", "nz", "(JI)I"⟩ : MethodName)) hown (mvT hZ (hw _ (List.mem_of_getElem? (i := 1) rfl))) (mvT hZ (hw _ (List.mem_of_getElem? (i := 2) rfl))) (mvT hZ (hw _ (List.mem_of_getElem? (i := 3) rfl))) (mvT hZ (hw _ (List.mem_of_getElem? (i := 4) rfl))) (by decide) (backOf (W := 1) (rmq6) hZ (hw _ (List.mem_of_getElem? (i := 4) rfl)) (hw _ (List.mem_of_getElem? (i := 3) rfl)) (by decide) (by decide)) (g := (mkF m 197 #[.val (.long v0), .second, .val (.int v2), .val (.int v3), .val (.int v4), .val (.long v5), .second, .val (.int (x2 &&& (7 : Int32))), .val (.int (x3.toInt8.toInt32)), .val (.ref w_ba), .unset, .unset, .unset] [(.int (6 : Int32)), (.long v5), (.int ((((((1 : Int32) + zq1) + zq2) + zq3) + zq4) + zq5))])) rfl (by rw [hml]; rfl) (argsL := [(.long v5), (.int (6 : Int32))]) (rest := [(.int ((((((1 : Int32) + zq1) + zq2) + zq3) + zq4) + zq5))]) (lenOf pd_0 rfl) rfl (by show 2 * 0 + _ ≤ _; exact Nat.le_of_eq rfl) (hb hby at_197) (fun _ _ => ⟨rfl, ec189_24, (by decide : 1 + 0 ≤ _), (by decide : 18 + 0 ≤ _)⟩)
    dsimp only [Pt.U, Pt.locs, Pt.cells, Pt.slots] at Xc197_25 lc197_25 yc197_25 zc197_25 stc197_25 hQc197_25
    subst lc197_25 yc197_25 zc197_25
    obtain ⟨rfl, rfl, ec197_25⟩ := hQc197_25
    refine Runs.go stc197_25 ?_
    simp only [List.append_nil, Nat.add_zero] at Xc197_25
    have Nc197_25 := Nc189_24
    show Runs p e below s _ _ _ (Tc197_25.setTop (mkF m 200 #[.val (.long v0), .second, .val (.int v2), .val (.int v3), .val (.int v4), .val (.long v5), .second, .val (.int (x2 &&& (7 : Int32))), .val (.int (x3.toInt8.toInt32)), .val (.ref w_ba), .unset, .unset, .unset] [(.int zq6), (.int ((((((1 : Int32) + zq1) + zq2) + zq3) + zq4) + zq5))]))
    refine Runs.go (fun _ => XS.iadd Xc197_25.here hx rfl (hb hby at_200) rfl) ?_
    show Runs p e below s _ _ _ (Tc197_25.setTop (mkF m 201 #[.val (.long v0), .second, .val (.int v2), .val (.int v3), .val (.int v4), .val (.long v5), .second, .val (.int (x2 &&& (7 : Int32))), .val (.int (x3.toInt8.toInt32)), .val (.ref w_ba), .unset, .unset, .unset] [(.int (((((((1 : Int32) + zq1) + zq2) + zq3) + zq4) + zq5) + zq6))]))
    refine Runs.go (fun _ => XS.lload Xc197_25.here hx rfl (hb hby at_201) rfl) ?_
    show Runs p e below s _ _ _ (Tc197_25.setTop (mkF m 203 #[.val (.long v0), .second, .val (.int v2), .val (.int v3), .val (.int v4), .val (.long v5), .second, .val (.int (x2 &&& (7 : Int32))), .val (.int (x3.toInt8.toInt32)), .val (.ref w_ba), .unset, .unset, .unset] [(.long v5), (.int (((((((1 : Int32) + zq1) + zq2) + zq3) + zq4) + zq5) + zq6))]))
    refine Runs.go (fun _ => XS.bipush Xc197_25.here hx rfl (hb hby at_203)) ?_
    show Runs p e below s _ _ _ (Tc197_25.setTop (mkF m 205 #[.val (.long v0), .second, .val (.int v2), .val (.int v3), .val (.int v4), .val (.long v5), .second, .val (.int (x2 &&& (7 : Int32))), .val (.int (x3.toInt8.toInt32)), .val (.ref w_ba), .unset, .unset, .unset] [(.int (7 : Int32)), (.long v5), (.int (((((((1 : Int32) + zq1) + zq2) + zq3) + zq4) + zq5) + zq6))]))
    obtain ⟨zq7, hzq7⟩ : ∃ z, F1 v5 (7 : Int32) = z := ⟨_, rfl⟩
    have rmq7 := rm1 l Z a0 hw [] v5 (7 : Int32) h
    rw [hzq7] at rmq7
    obtain ⟨_, _, ⟨Tc205_26, Lc205_26, kc205_26, nc205_26⟩, -, Xc205_26, ⟨Lcc205_26, hQc205_26, lc205_26, yc205_26, zc205_26⟩, stc205_26⟩ := Jvm.LawKit.callS Xc197_25 hx (y := (⟨"com/example/caddis/caddis/index/IndexFormatPutVarintPinLaw", "nz", "(JI)I"⟩ : MethodName)) hown (mvT hZ (hw _ (List.mem_of_getElem? (i := 1) rfl))) (mvT hZ (hw _ (List.mem_of_getElem? (i := 2) rfl))) (mvT hZ (hw _ (List.mem_of_getElem? (i := 3) rfl))) (mvT hZ (hw _ (List.mem_of_getElem? (i := 4) rfl))) (by decide) (backOf (W := 1) (rmq7) hZ (hw _ (List.mem_of_getElem? (i := 4) rfl)) (hw _ (List.mem_of_getElem? (i := 3) rfl)) (by decide) (by decide)) (g := (mkF m 205 #[.val (.long v0), .second, .val (.int v2), .val (.int v3), .val (.int v4), .val (.long v5), .second, .val (.int (x2 &&& (7 : Int32))), .val (.int (x3.toInt8.toInt32)), .val (.ref w_ba), .unset, .unset, .unset] [(.int (7 : Int32)), (.long v5), (.int (((((((1 : Int32) + zq1) + zq2) + zq3) + zq4) + zq5) + zq6))])) rfl (by rw [hml]; rfl) (argsL := [(.long v5), (.int (7 : Int32))]) (rest := [(.int (((((((1 : Int32) + zq1) + zq2) + zq3) + zq4) + zq5) + zq6))]) (lenOf pd_0 rfl) rfl (by show 2 * 0 + _ ≤ _; exact Nat.le_of_eq rfl) (hb hby at_205) (fun _ _ => ⟨rfl, ec197_25, (by decide : 1 + 0 ≤ _), (by decide : 18 + 0 ≤ _)⟩)
    dsimp only [Pt.U, Pt.locs, Pt.cells, Pt.slots] at Xc205_26 lc205_26 yc205_26 zc205_26 stc205_26 hQc205_26
    subst lc205_26 yc205_26 zc205_26
    obtain ⟨rfl, rfl, ec205_26⟩ := hQc205_26
    refine Runs.go stc205_26 ?_
    simp only [List.append_nil, Nat.add_zero] at Xc205_26
    have Nc205_26 := Nc197_25
    show Runs p e below s _ _ _ (Tc205_26.setTop (mkF m 208 #[.val (.long v0), .second, .val (.int v2), .val (.int v3), .val (.int v4), .val (.long v5), .second, .val (.int (x2 &&& (7 : Int32))), .val (.int (x3.toInt8.toInt32)), .val (.ref w_ba), .unset, .unset, .unset] [(.int zq7), (.int (((((((1 : Int32) + zq1) + zq2) + zq3) + zq4) + zq5) + zq6))]))
    refine Runs.go (fun _ => XS.iadd Xc205_26.here hx rfl (hb hby at_208) rfl) ?_
    show Runs p e below s _ _ _ (Tc205_26.setTop (mkF m 209 #[.val (.long v0), .second, .val (.int v2), .val (.int v3), .val (.int v4), .val (.long v5), .second, .val (.int (x2 &&& (7 : Int32))), .val (.int (x3.toInt8.toInt32)), .val (.ref w_ba), .unset, .unset, .unset] [(.int ((((((((1 : Int32) + zq1) + zq2) + zq3) + zq4) + zq5) + zq6) + zq7))]))
    refine Runs.go (fun _ => XS.lload Xc205_26.here hx rfl (hb hby at_209) rfl) ?_
    show Runs p e below s _ _ _ (Tc205_26.setTop (mkF m 211 #[.val (.long v0), .second, .val (.int v2), .val (.int v3), .val (.int v4), .val (.long v5), .second, .val (.int (x2 &&& (7 : Int32))), .val (.int (x3.toInt8.toInt32)), .val (.ref w_ba), .unset, .unset, .unset] [(.long v5), (.int ((((((((1 : Int32) + zq1) + zq2) + zq3) + zq4) + zq5) + zq6) + zq7))]))
    refine Runs.go (fun _ => XS.bipush Xc205_26.here hx rfl (hb hby at_211)) ?_
    show Runs p e below s _ _ _ (Tc205_26.setTop (mkF m 213 #[.val (.long v0), .second, .val (.int v2), .val (.int v3), .val (.int v4), .val (.long v5), .second, .val (.int (x2 &&& (7 : Int32))), .val (.int (x3.toInt8.toInt32)), .val (.ref w_ba), .unset, .unset, .unset] [(.int (8 : Int32)), (.long v5), (.int ((((((((1 : Int32) + zq1) + zq2) + zq3) + zq4) + zq5) + zq6) + zq7))]))
    obtain ⟨zq8, hzq8⟩ : ∃ z, F1 v5 (8 : Int32) = z := ⟨_, rfl⟩
    have rmq8 := rm1 l Z a0 hw [] v5 (8 : Int32) h
    rw [hzq8] at rmq8
    obtain ⟨_, _, ⟨Tc213_27, Lc213_27, kc213_27, nc213_27⟩, -, Xc213_27, ⟨Lcc213_27, hQc213_27, lc213_27, yc213_27, zc213_27⟩, stc213_27⟩ := Jvm.LawKit.callS Xc205_26 hx (y := (⟨"com/example/caddis/caddis/index/IndexFormatPutVarintPinLaw", "nz", "(JI)I"⟩ : MethodName)) hown (mvT hZ (hw _ (List.mem_of_getElem? (i := 1) rfl))) (mvT hZ (hw _ (List.mem_of_getElem? (i := 2) rfl))) (mvT hZ (hw _ (List.mem_of_getElem? (i := 3) rfl))) (mvT hZ (hw _ (List.mem_of_getElem? (i := 4) rfl))) (by decide) (backOf (W := 1) (rmq8) hZ (hw _ (List.mem_of_getElem? (i := 4) rfl)) (hw _ (List.mem_of_getElem? (i := 3) rfl)) (by decide) (by decide)) (g := (mkF m 213 #[.val (.long v0), .second, .val (.int v2), .val (.int v3), .val (.int v4), .val (.long v5), .second, .val (.int (x2 &&& (7 : Int32))), .val (.int (x3.toInt8.toInt32)), .val (.ref w_ba), .unset, .unset, .unset] [(.int (8 : Int32)), (.long v5), (.int ((((((((1 : Int32) + zq1) + zq2) + zq3) + zq4) + zq5) + zq6) + zq7))])) rfl (by rw [hml]; rfl) (argsL := [(.long v5), (.int (8 : Int32))]) (rest := [(.int ((((((((1 : Int32) + zq1) + zq2) + zq3) + zq4) + zq5) + zq6) + zq7))]) (lenOf pd_0 rfl) rfl (by show 2 * 0 + _ ≤ _; exact Nat.le_of_eq rfl) (hb hby at_213) (fun _ _ => ⟨rfl, ec205_26, (by decide : 1 + 0 ≤ _), (by decide : 18 + 0 ≤ _)⟩)
    dsimp only [Pt.U, Pt.locs, Pt.cells, Pt.slots] at Xc213_27 lc213_27 yc213_27 zc213_27 stc213_27 hQc213_27
    subst lc213_27 yc213_27 zc213_27
    obtain ⟨rfl, rfl, ec213_27⟩ := hQc213_27
    refine Runs.go stc213_27 ?_
    simp only [List.append_nil, Nat.add_zero] at Xc213_27
    have Nc213_27 := Nc205_26
    show Runs p e below s _ _ _ (Tc213_27.setTop (mkF m 216 #[.val (.long v0), .second, .val (.int v2), .val (.int v3), .val (.int v4), .val (.long v5), .second, .val (.int (x2 &&& (7 : Int32))), .val (.int (x3.toInt8.toInt32)), .val (.ref w_ba), .unset, .unset, .unset] [(.int zq8), (.int ((((((((1 : Int32) + zq1) + zq2) + zq3) + zq4) + zq5) + zq6) + zq7))]))
    refine Runs.go (fun _ => XS.iadd Xc213_27.here hx rfl (hb hby at_216) rfl) ?_
    show Runs p e below s _ _ _ (Tc213_27.setTop (mkF m 217 #[.val (.long v0), .second, .val (.int v2), .val (.int v3), .val (.int v4), .val (.long v5), .second, .val (.int (x2 &&& (7 : Int32))), .val (.int (x3.toInt8.toInt32)), .val (.ref w_ba), .unset, .unset, .unset] [(.int (((((((((1 : Int32) + zq1) + zq2) + zq3) + zq4) + zq5) + zq6) + zq7) + zq8))]))
    refine Runs.go (fun _ => XS.lload Xc213_27.here hx rfl (hb hby at_217) rfl) ?_
    show Runs p e below s _ _ _ (Tc213_27.setTop (mkF m 219 #[.val (.long v0), .second, .val (.int v2), .val (.int v3), .val (.int v4), .val (.long v5), .second, .val (.int (x2 &&& (7 : Int32))), .val (.int (x3.toInt8.toInt32)), .val (.ref w_ba), .unset, .unset, .unset] [(.long v5), (.int (((((((((1 : Int32) + zq1) + zq2) + zq3) + zq4) + zq5) + zq6) + zq7) + zq8))]))
    refine Runs.go (fun _ => XS.bipush Xc213_27.here hx rfl (hb hby at_219)) ?_
    show Runs p e below s _ _ _ (Tc213_27.setTop (mkF m 221 #[.val (.long v0), .second, .val (.int v2), .val (.int v3), .val (.int v4), .val (.long v5), .second, .val (.int (x2 &&& (7 : Int32))), .val (.int (x3.toInt8.toInt32)), .val (.ref w_ba), .unset, .unset, .unset] [(.int (9 : Int32)), (.long v5), (.int (((((((((1 : Int32) + zq1) + zq2) + zq3) + zq4) + zq5) + zq6) + zq7) + zq8))]))
    obtain ⟨zq9, hzq9⟩ : ∃ z, F1 v5 (9 : Int32) = z := ⟨_, rfl⟩
    have rmq9 := rm1 l Z a0 hw [] v5 (9 : Int32) h
    rw [hzq9] at rmq9
    obtain ⟨_, _, ⟨Tc221_28, Lc221_28, kc221_28, nc221_28⟩, -, Xc221_28, ⟨Lcc221_28, hQc221_28, lc221_28, yc221_28, zc221_28⟩, stc221_28⟩ := Jvm.LawKit.callS Xc213_27 hx (y := (⟨"com/example/caddis/caddis/index/IndexFormatPutVarintPinLaw", "nz", "(JI)I"⟩ : MethodName)) hown (mvT hZ (hw _ (List.mem_of_getElem? (i := 1) rfl))) (mvT hZ (hw _ (List.mem_of_getElem? (i := 2) rfl))) (mvT hZ (hw _ (List.mem_of_getElem? (i := 3) rfl))) (mvT hZ (hw _ (List.mem_of_getElem? (i := 4) rfl))) (by decide) (backOf (W := 1) (rmq9) hZ (hw _ (List.mem_of_getElem? (i := 4) rfl)) (hw _ (List.mem_of_getElem? (i := 3) rfl)) (by decide) (by decide)) (g := (mkF m 221 #[.val (.long v0), .second, .val (.int v2), .val (.int v3), .val (.int v4), .val (.long v5), .second, .val (.int (x2 &&& (7 : Int32))), .val (.int (x3.toInt8.toInt32)), .val (.ref w_ba), .unset, .unset, .unset] [(.int (9 : Int32)), (.long v5), (.int (((((((((1 : Int32) + zq1) + zq2) + zq3) + zq4) + zq5) + zq6) + zq7) + zq8))])) rfl (by rw [hml]; rfl) (argsL := [(.long v5), (.int (9 : Int32))]) (rest := [(.int (((((((((1 : Int32) + zq1) + zq2) + zq3) + zq4) + zq5) + zq6) + zq7) + zq8))]) (lenOf pd_0 rfl) rfl (by show 2 * 0 + _ ≤ _; exact Nat.le_of_eq rfl) (hb hby at_221) (fun _ _ => ⟨rfl, ec213_27, (by decide : 1 + 0 ≤ _), (by decide : 18 + 0 ≤ _)⟩)
    dsimp only [Pt.U, Pt.locs, Pt.cells, Pt.slots] at Xc221_28 lc221_28 yc221_28 zc221_28 stc221_28 hQc221_28
    subst lc221_28 yc221_28 zc221_28
    obtain ⟨rfl, rfl, ec221_28⟩ := hQc221_28
    refine Runs.go stc221_28 ?_
    simp only [List.append_nil, Nat.add_zero] at Xc221_28
    have Nc221_28 := Nc213_27
    show Runs p e below s _ _ _ (Tc221_28.setTop (mkF m 224 #[.val (.long v0), .second, .val (.int v2), .val (.int v3), .val (.int v4), .val (.long v5), .second, .val (.int (x2 &&& (7 : Int32))), .val (.int (x3.toInt8.toInt32)), .val (.ref w_ba), .unset, .unset, .unset] [(.int zq9), (.int (((((((((1 : Int32) + zq1) + zq2) + zq3) + zq4) + zq5) + zq6) + zq7) + zq8))]))
    refine Runs.go (fun _ => XS.iadd Xc221_28.here hx rfl (hb hby at_224) rfl) ?_
    show Runs p e below s _ _ _ (Tc221_28.setTop (mkF m 225 #[.val (.long v0), .second, .val (.int v2), .val (.int v3), .val (.int v4), .val (.long v5), .second, .val (.int (x2 &&& (7 : Int32))), .val (.int (x3.toInt8.toInt32)), .val (.ref w_ba), .unset, .unset, .unset] [(.int ((((((((((1 : Int32) + zq1) + zq2) + zq3) + zq4) + zq5) + zq6) + zq7) + zq8) + zq9))]))
    obtain ⟨nN, hN⟩ : ∃ n, own_N v5 = n := ⟨_, rfl⟩
    have hsum := hN
    unfold own_N at hsum
    rw [hzq1, hzq2, hzq3, hzq4, hzq5, hzq6, hzq7, hzq8, hzq9] at hsum
    rw [hsum]
    refine Runs.go (fun _ => XS.istore Xc221_28.here hx rfl (hb hby at_225) rfl (l' := #[.val (.long v0), .second, .val (.int v2), .val (.int v3), .val (.int v4), .val (.long v5), .second, .val (.int (x2 &&& (7 : Int32))), .val (.int (x3.toInt8.toInt32)), .val (.ref w_ba), .val (.int nN), .unset, .unset]) rfl) ?_
    show Runs p e below s _ _ _ (Tc221_28.setTop (mkF m 227 #[.val (.long v0), .second, .val (.int v2), .val (.int v3), .val (.int v4), .val (.long v5), .second, .val (.int (x2 &&& (7 : Int32))), .val (.int (x3.toInt8.toInt32)), .val (.ref w_ba), .val (.int nN), .unset, .unset] []))
    refine Runs.go (fun _ => XS.aload Xc221_28.here hx rfl (hb hby at_227) rfl rfl) ?_
    show Runs p e below s _ _ _ (Tc221_28.setTop (mkF m 229 #[.val (.long v0), .second, .val (.int v2), .val (.int v3), .val (.int v4), .val (.long v5), .second, .val (.int (x2 &&& (7 : Int32))), .val (.int (x3.toInt8.toInt32)), .val (.ref w_ba), .val (.int nN), .unset, .unset] [(.ref w_ba)]))
    refine Runs.go (fun _ => XS.iload Xc221_28.here hx rfl (hb hby at_229) rfl) ?_
    show Runs p e below s _ _ _ (Tc221_28.setTop (mkF m 231 #[.val (.long v0), .second, .val (.int v2), .val (.int v3), .val (.int v4), .val (.long v5), .second, .val (.int (x2 &&& (7 : Int32))), .val (.int (x3.toInt8.toInt32)), .val (.ref w_ba), .val (.int nN), .unset, .unset] [(.int (x2 &&& (7 : Int32))), (.ref w_ba)]))
    refine Runs.go (fun _ => XS.lload Xc221_28.here hx rfl (hb hby at_231) rfl) ?_
    show Runs p e below s _ _ _ (Tc221_28.setTop (mkF m 233 #[.val (.long v0), .second, .val (.int v2), .val (.int v3), .val (.int v4), .val (.long v5), .second, .val (.int (x2 &&& (7 : Int32))), .val (.int (x3.toInt8.toInt32)), .val (.ref w_ba), .val (.int nN), .unset, .unset] [(.long v5), (.int (x2 &&& (7 : Int32))), (.ref w_ba)]))
    obtain ⟨rq, hrq⟩ : ∃ z, F2 (x2 &&& (7 : Int32)) v5 [(nar .byte (x3.toInt8.toInt32)), (nar .byte (x3.toInt8.toInt32)), (nar .byte (x3.toInt8.toInt32)), (nar .byte (x3.toInt8.toInt32)), (nar .byte (x3.toInt8.toInt32)), (nar .byte (x3.toInt8.toInt32)), (nar .byte (x3.toInt8.toInt32)), (nar .byte (x3.toInt8.toInt32)), (nar .byte (x3.toInt8.toInt32)), (nar .byte (x3.toInt8.toInt32)), (nar .byte (x3.toInt8.toInt32)), (nar .byte (x3.toInt8.toInt32)), (nar .byte (x3.toInt8.toInt32)), (nar .byte (x3.toInt8.toInt32)), (nar .byte (x3.toInt8.toInt32)), (nar .byte (x3.toInt8.toInt32)), (nar .byte (x3.toInt8.toInt32)), (nar .byte (x3.toInt8.toInt32))] = z := ⟨_, rfl⟩
    have rmq10 := rm2 l Z a0 hw [] w_ba (x2 &&& (7 : Int32)) v5 [(nar .byte (x3.toInt8.toInt32)), (nar .byte (x3.toInt8.toInt32)), (nar .byte (x3.toInt8.toInt32)), (nar .byte (x3.toInt8.toInt32)), (nar .byte (x3.toInt8.toInt32)), (nar .byte (x3.toInt8.toInt32)), (nar .byte (x3.toInt8.toInt32)), (nar .byte (x3.toInt8.toInt32)), (nar .byte (x3.toInt8.toInt32)), (nar .byte (x3.toInt8.toInt32)), (nar .byte (x3.toInt8.toInt32)), (nar .byte (x3.toInt8.toInt32)), (nar .byte (x3.toInt8.toInt32)), (nar .byte (x3.toInt8.toInt32)), (nar .byte (x3.toInt8.toInt32)), (nar .byte (x3.toInt8.toInt32)), (nar .byte (x3.toInt8.toInt32)), (nar .byte (x3.toInt8.toInt32))] w_kk h n0 (Nat.le_trans G_G (Nat.le_of_lt G_V.lt)) G_V G_G (PInv.start _ _ _ rfl)
    rw [hrq] at rmq10
    have hor : rq.1 = (x2 &&& (7 : Int32)) + nN := by rw [← hrq, ← hN]; exact own_r v5 x2 x3
    obtain ⟨_, _, ⟨Tc233_29, Lc233_29, kc233_29, nc233_29⟩, -, Xc233_29, ⟨Lcc233_29, hQc233_29, lc233_29, yc233_29, zc233_29⟩, stc233_29⟩ := Jvm.LawKit.callS Xc221_28 hx (y := (⟨"com/example/caddis/caddis/index/IndexFormat", "putVarint", "([BIJ)I"⟩ : MethodName)) hown (mvT hZ (hw _ (List.mem_of_getElem? (i := 5) rfl))) (mvT hZ (hw _ (List.mem_of_getElem? (i := 6) rfl))) (mvT hZ (hw _ (List.mem_of_getElem? (i := 7) rfl))) (mvT hZ (hw _ (List.mem_of_getElem? (i := 8) rfl))) (by decide) (backOf (W := 0) (rmq10) hZ (hw _ (List.mem_of_getElem? (i := 8) rfl)) (hw _ (List.mem_of_getElem? (i := 7) rfl)) (by decide) (by decide)) (g := (mkF m 233 #[.val (.long v0), .second, .val (.int v2), .val (.int v3), .val (.int v4), .val (.long v5), .second, .val (.int (x2 &&& (7 : Int32))), .val (.int (x3.toInt8.toInt32)), .val (.ref w_ba), .val (.int nN), .unset, .unset] [(.long v5), (.int (x2 &&& (7 : Int32))), (.ref w_ba)])) rfl (by rw [hml]; rfl) (argsL := [(.ref w_ba), (.int (x2 &&& (7 : Int32))), (.long v5)]) (rest := []) (lenOf pd_1 rfl) rfl (by show 2 * 0 + _ ≤ _; exact Nat.le_of_eq rfl) (hb hby at_233) (fun _ _ => ⟨rfl, ec221_28, (by decide : 1 + 0 ≤ _), (by decide : 18 + 0 ≤ _)⟩)
    dsimp only [Pt.U, Pt.locs, Pt.cells, Pt.slots] at Xc233_29 lc233_29 yc233_29 zc233_29 stc233_29 hQc233_29
    subst lc233_29 yc233_29 zc233_29
    obtain ⟨rfl, Nc233_29q, Vc233_29⟩ := hQc233_29
    refine Runs.go stc233_29 ?_
    have Nc233_29 := Fr.app Nc221_28 Nc233_29q
    have hzc233_29 : n0 ≤ Tc233_29.heap.size := Nat.le_trans G_G (Nat.le_of_lt Vc233_29.lt)
    show Runs p e below s _ _ _ (Tc233_29.setTop (mkF m 236 #[.val (.long v0), .second, .val (.int v2), .val (.int v3), .val (.int v4), .val (.long v5), .second, .val (.int (x2 &&& (7 : Int32))), .val (.int (x3.toInt8.toInt32)), .val (.ref w_ba), .val (.int nN), .unset, .unset] [(.int rq.1)]))
    refine Runs.go (fun _ => XS.istore Xc233_29.here hx rfl (hb hby at_236) rfl (l' := #[.val (.long v0), .second, .val (.int v2), .val (.int v3), .val (.int v4), .val (.long v5), .second, .val (.int (x2 &&& (7 : Int32))), .val (.int (x3.toInt8.toInt32)), .val (.ref w_ba), .val (.int nN), .val (.int rq.1), .unset]) rfl) ?_
    show Runs p e below s _ _ _ (Tc233_29.setTop (mkF m 238 #[.val (.long v0), .second, .val (.int v2), .val (.int v3), .val (.int v4), .val (.long v5), .second, .val (.int (x2 &&& (7 : Int32))), .val (.int (x3.toInt8.toInt32)), .val (.ref w_ba), .val (.int nN), .val (.int rq.1), .unset] []))
    refine Runs.go (fun _ => XS.iload Xc233_29.here hx rfl (hb hby at_238) rfl) ?_
    show Runs p e below s _ _ _ (Tc233_29.setTop (mkF m 240 #[.val (.long v0), .second, .val (.int v2), .val (.int v3), .val (.int v4), .val (.long v5), .second, .val (.int (x2 &&& (7 : Int32))), .val (.int (x3.toInt8.toInt32)), .val (.ref w_ba), .val (.int nN), .val (.int rq.1), .unset] [(.int rq.1)]))
    refine Runs.go (fun _ => XS.iload Xc233_29.here hx rfl (hb hby at_240) rfl) ?_
    show Runs p e below s _ _ _ (Tc233_29.setTop (mkF m 242 #[.val (.long v0), .second, .val (.int v2), .val (.int v3), .val (.int v4), .val (.long v5), .second, .val (.int (x2 &&& (7 : Int32))), .val (.int (x3.toInt8.toInt32)), .val (.ref w_ba), .val (.int nN), .val (.int rq.1), .unset] [(.int (x2 &&& (7 : Int32))), (.int rq.1)]))
    refine Runs.go (fun _ => XS.iload Xc233_29.here hx rfl (hb hby at_242) rfl) ?_
    show Runs p e below s _ _ _ (Tc233_29.setTop (mkF m 244 #[.val (.long v0), .second, .val (.int v2), .val (.int v3), .val (.int v4), .val (.long v5), .second, .val (.int (x2 &&& (7 : Int32))), .val (.int (x3.toInt8.toInt32)), .val (.ref w_ba), .val (.int nN), .val (.int rq.1), .unset] [(.int nN), (.int (x2 &&& (7 : Int32))), (.int rq.1)]))
    refine Runs.go (fun _ => XS.iadd Xc233_29.here hx rfl (hb hby at_244) rfl) ?_
    show Runs p e below s _ _ _ (Tc233_29.setTop (mkF m 245 #[.val (.long v0), .second, .val (.int v2), .val (.int v3), .val (.int v4), .val (.long v5), .second, .val (.int (x2 &&& (7 : Int32))), .val (.int (x3.toInt8.toInt32)), .val (.ref w_ba), .val (.int nN), .val (.int rq.1), .unset] [(.int ((x2 &&& (7 : Int32)) + nN)), (.int rq.1)]))
    refine Runs.go (fun _ => XS.icmpNo Xc233_29.here hx rfl (hb hby at_245) rfl (teq (hor : rq.1 = ((x2 &&& (7 : Int32)) + nN))).2) ?_
    show Runs p e below s _ _ _ (Tc233_29.setTop (mkF m 248 #[.val (.long v0), .second, .val (.int v2), .val (.int v3), .val (.int v4), .val (.long v5), .second, .val (.int (x2 &&& (7 : Int32))), .val (.int (x3.toInt8.toInt32)), .val (.ref w_ba), .val (.int nN), .val (.int rq.1), .unset] []))
    refine Runs.go (fun _ => XS.iconst Xc233_29.here hx rfl (hb hby at_248)) ?_
    show Runs p e below s _ _ _ (Tc233_29.setTop (mkF m 249 #[.val (.long v0), .second, .val (.int v2), .val (.int v3), .val (.int v4), .val (.long v5), .second, .val (.int (x2 &&& (7 : Int32))), .val (.int (x3.toInt8.toInt32)), .val (.ref w_ba), .val (.int nN), .val (.int rq.1), .unset] [(.int (1 : Int32))]))
    refine Runs.go (fun _ => XS.goto Xc233_29.here hx rfl (pc0 := 249) (pc' := 253) rfl (hb hby at_249) (by decide) (by decide)) ?_
    show Runs p e below s _ _ _ (Tc233_29.setTop (mkF m 253 #[.val (.long v0), .second, .val (.int v2), .val (.int v3), .val (.int v4), .val (.long v5), .second, .val (.int (x2 &&& (7 : Int32))), .val (.int (x3.toInt8.toInt32)), .val (.ref w_ba), .val (.int nN), .val (.int rq.1), .unset] [(.int (1 : Int32))]))
    refine Runs.go (fun _ => XS.istore Xc233_29.here hx rfl (hb hby at_253) rfl (l' := #[.val (.long v0), .second, .val (.int v2), .val (.int v3), .val (.int v4), .val (.long v5), .second, .val (.int (x2 &&& (7 : Int32))), .val (.int (x3.toInt8.toInt32)), .val (.ref w_ba), .val (.int nN), .val (.int rq.1), .val (.int (1 : Int32))]) rfl) ?_
    show Runs p e below s _ _ _ (Tc233_29.setTop (mkF m 255 #[.val (.long v0), .second, .val (.int v2), .val (.int v3), .val (.int v4), .val (.long v5), .second, .val (.int (x2 &&& (7 : Int32))), .val (.int (x3.toInt8.toInt32)), .val (.ref w_ba), .val (.int nN), .val (.int rq.1), .val (.int (1 : Int32))] []))
    refine Runs.go (fun _ => XS.iload Xc233_29.here hx rfl (hb hby at_255) rfl) ?_
    show Runs p e below s _ _ _ (Tc233_29.setTop (mkF m 257 #[.val (.long v0), .second, .val (.int v2), .val (.int v3), .val (.int v4), .val (.long v5), .second, .val (.int (x2 &&& (7 : Int32))), .val (.int (x3.toInt8.toInt32)), .val (.ref w_ba), .val (.int nN), .val (.int rq.1), .val (.int (1 : Int32))] [(.int (1 : Int32))]))
    refine Runs.go (fun _ => XS.ifNo Xc233_29.here hx rfl (hb hby at_257) rfl ((if0 _ _).trans (feq ((by decide) : ¬ ((1 : Int32) = (0 : Int32)))).1)) ?_
    show Runs p e below s _ _ _ (Tc233_29.setTop (mkF m 260 #[.val (.long v0), .second, .val (.int v2), .val (.int v3), .val (.int v4), .val (.long v5), .second, .val (.int (x2 &&& (7 : Int32))), .val (.int (x3.toInt8.toInt32)), .val (.ref w_ba), .val (.int nN), .val (.int rq.1), .val (.int (1 : Int32))] []))
    refine Runs.go (fun _ => XS.aload Xc233_29.here hx rfl (hb hby at_260) rfl rfl) ?_
    show Runs p e below s _ _ _ (Tc233_29.setTop (mkF m 262 #[.val (.long v0), .second, .val (.int v2), .val (.int v3), .val (.int v4), .val (.long v5), .second, .val (.int (x2 &&& (7 : Int32))), .val (.int (x3.toInt8.toInt32)), .val (.ref w_ba), .val (.int nN), .val (.int rq.1), .val (.int (1 : Int32))] [(.ref w_ba)]))
    refine Runs.go (fun _ => XS.iconst Xc233_29.here hx rfl (hb hby at_262)) ?_
    show Runs p e below s _ _ _ (Tc233_29.setTop (mkF m 263 #[.val (.long v0), .second, .val (.int v2), .val (.int v3), .val (.int v4), .val (.long v5), .second, .val (.int (x2 &&& (7 : Int32))), .val (.int (x3.toInt8.toInt32)), .val (.ref w_ba), .val (.int nN), .val (.int rq.1), .val (.int (1 : Int32))] [(.int (0 : Int32)), (.ref w_ba)]))
    refine Runs.go (fun _ => XS.iload Xc233_29.here hx rfl (hb hby at_263) rfl) ?_
    show Runs p e below s _ _ _ (Tc233_29.setTop (mkF m 265 #[.val (.long v0), .second, .val (.int v2), .val (.int v3), .val (.int v4), .val (.long v5), .second, .val (.int (x2 &&& (7 : Int32))), .val (.int (x3.toInt8.toInt32)), .val (.ref w_ba), .val (.int nN), .val (.int rq.1), .val (.int (1 : Int32))] [(.int (x2 &&& (7 : Int32))), (.int (0 : Int32)), (.ref w_ba)]))
    refine Runs.go (fun _ => XS.iload Xc233_29.here hx rfl (hb hby at_265) rfl) ?_
    show Runs p e below s _ _ _ (Tc233_29.setTop (mkF m 267 #[.val (.long v0), .second, .val (.int v2), .val (.int v3), .val (.int v4), .val (.long v5), .second, .val (.int (x2 &&& (7 : Int32))), .val (.int (x3.toInt8.toInt32)), .val (.ref w_ba), .val (.int nN), .val (.int rq.1), .val (.int (1 : Int32))] [(.int nN), (.int (x2 &&& (7 : Int32))), (.int (0 : Int32)), (.ref w_ba)]))
    refine Runs.go (fun _ => XS.lload Xc233_29.here hx rfl (hb hby at_267) rfl) ?_
    show Runs p e below s _ _ _ (Tc233_29.setTop (mkF m 269 #[.val (.long v0), .second, .val (.int v2), .val (.int v3), .val (.int v4), .val (.long v5), .second, .val (.int (x2 &&& (7 : Int32))), .val (.int (x3.toInt8.toInt32)), .val (.ref w_ba), .val (.int nN), .val (.int rq.1), .val (.int (1 : Int32))] [(.long v5), (.int nN), (.int (x2 &&& (7 : Int32))), (.int (0 : Int32)), (.ref w_ba)]))
    refine Runs.go (fun _ => XS.iload Xc233_29.here hx rfl (hb hby at_269) rfl) ?_
    show Runs p e below s _ _ _ (Tc233_29.setTop (mkF m 271 #[.val (.long v0), .second, .val (.int v2), .val (.int v3), .val (.int v4), .val (.long v5), .second, .val (.int (x2 &&& (7 : Int32))), .val (.int (x3.toInt8.toInt32)), .val (.ref w_ba), .val (.int nN), .val (.int rq.1), .val (.int (1 : Int32))] [(.int (x3.toInt8.toInt32)), (.long v5), (.int nN), (.int (x2 &&& (7 : Int32))), (.int (0 : Int32)), (.ref w_ba)]))
    obtain ⟨zq11, hzq11⟩ : ∃ z, F3 (0 : Int32) (x2 &&& (7 : Int32)) nN v5 (x3.toInt8.toInt32) rq.2 = z := ⟨_, rfl⟩
    have hne11 : ¬ zq11 = (0 : Int32) := by rw [← hzq11, ← hrq, ← hN]; exact own_ok v5 x2 x3 0 (by decide) _ (by decide)
    have rmq11 := rm3 l Z a0 hw [] w_ba (0 : Int32) (x2 &&& (7 : Int32)) nN v5 (x3.toInt8.toInt32) rq.2 w_kk Tc233_29.heap n0 hzc233_29 Vc233_29 ⟨by decide, by decide⟩
    rw [hzq11] at rmq11
    obtain ⟨_, _, ⟨Tc271_30, Lc271_30, kc271_30, nc271_30⟩, -, Xc271_30, ⟨Lcc271_30, hQc271_30, lc271_30, yc271_30, zc271_30⟩, stc271_30⟩ := Jvm.LawKit.callS Xc233_29 hx (y := (⟨"com/example/caddis/caddis/index/IndexFormatPutVarintPinLaw", "ok", "([BIIIJB)Z"⟩ : MethodName)) hown (mvT hZ (hw _ (List.mem_of_getElem? (i := 10) rfl))) (mvT hZ (hw _ (List.mem_of_getElem? (i := 11) rfl))) (mvT hZ (hw _ (List.mem_of_getElem? (i := 3) rfl))) (mvT hZ (hw _ (List.mem_of_getElem? (i := 12) rfl))) (by decide) (backOf (W := 0) (rmq11) hZ (hw _ (List.mem_of_getElem? (i := 12) rfl)) (hw _ (List.mem_of_getElem? (i := 3) rfl)) (by decide) (by decide)) (g := (mkF m 271 #[.val (.long v0), .second, .val (.int v2), .val (.int v3), .val (.int v4), .val (.long v5), .second, .val (.int (x2 &&& (7 : Int32))), .val (.int (x3.toInt8.toInt32)), .val (.ref w_ba), .val (.int nN), .val (.int rq.1), .val (.int (1 : Int32))] [(.int (x3.toInt8.toInt32)), (.long v5), (.int nN), (.int (x2 &&& (7 : Int32))), (.int (0 : Int32)), (.ref w_ba)])) rfl (by rw [hml]; rfl) (argsL := [(.ref w_ba), (.int (0 : Int32)), (.int (x2 &&& (7 : Int32))), (.int nN), (.long v5), (.int (x3.toInt8.toInt32))]) (rest := []) (lenOf pd_2 rfl) rfl (by show 2 * 0 + _ ≤ _; exact Nat.le_of_eq rfl) (hb hby at_271) (fun _ _ => ⟨rfl, rfl, (by decide : 1 + 0 ≤ _), (by decide : 18 + 0 ≤ _)⟩)
    dsimp only [Pt.U, Pt.locs, Pt.cells, Pt.slots] at Xc271_30 lc271_30 yc271_30 zc271_30 stc271_30 hQc271_30
    subst lc271_30 yc271_30 zc271_30
    obtain ⟨rfl, rfl, ec271_30⟩ := hQc271_30
    refine Runs.go stc271_30 ?_
    simp only [List.append_nil, Nat.add_zero] at Xc271_30
    have Nc271_30 := Nc233_29
    show Runs p e below s _ _ _ (Tc271_30.setTop (mkF m 274 #[.val (.long v0), .second, .val (.int v2), .val (.int v3), .val (.int v4), .val (.long v5), .second, .val (.int (x2 &&& (7 : Int32))), .val (.int (x3.toInt8.toInt32)), .val (.ref w_ba), .val (.int nN), .val (.int rq.1), .val (.int (1 : Int32))] [(.int zq11)]))
    refine Runs.go (fun _ => XS.ifNo Xc271_30.here hx rfl (hb hby at_274) rfl ((if0 _ _).trans (feq (hne11 : ¬ (zq11 = (0 : Int32)))).1)) ?_
    show Runs p e below s _ _ _ (Tc271_30.setTop (mkF m 277 #[.val (.long v0), .second, .val (.int v2), .val (.int v3), .val (.int v4), .val (.long v5), .second, .val (.int (x2 &&& (7 : Int32))), .val (.int (x3.toInt8.toInt32)), .val (.ref w_ba), .val (.int nN), .val (.int rq.1), .val (.int (1 : Int32))] []))
    refine Runs.go (fun _ => XS.aload Xc271_30.here hx rfl (hb hby at_277) rfl rfl) ?_
    show Runs p e below s _ _ _ (Tc271_30.setTop (mkF m 279 #[.val (.long v0), .second, .val (.int v2), .val (.int v3), .val (.int v4), .val (.long v5), .second, .val (.int (x2 &&& (7 : Int32))), .val (.int (x3.toInt8.toInt32)), .val (.ref w_ba), .val (.int nN), .val (.int rq.1), .val (.int (1 : Int32))] [(.ref w_ba)]))
    refine Runs.go (fun _ => XS.iconst Xc271_30.here hx rfl (hb hby at_279)) ?_
    show Runs p e below s _ _ _ (Tc271_30.setTop (mkF m 280 #[.val (.long v0), .second, .val (.int v2), .val (.int v3), .val (.int v4), .val (.long v5), .second, .val (.int (x2 &&& (7 : Int32))), .val (.int (x3.toInt8.toInt32)), .val (.ref w_ba), .val (.int nN), .val (.int rq.1), .val (.int (1 : Int32))] [(.int (1 : Int32)), (.ref w_ba)]))
    refine Runs.go (fun _ => XS.iload Xc271_30.here hx rfl (hb hby at_280) rfl) ?_
    show Runs p e below s _ _ _ (Tc271_30.setTop (mkF m 282 #[.val (.long v0), .second, .val (.int v2), .val (.int v3), .val (.int v4), .val (.long v5), .second, .val (.int (x2 &&& (7 : Int32))), .val (.int (x3.toInt8.toInt32)), .val (.ref w_ba), .val (.int nN), .val (.int rq.1), .val (.int (1 : Int32))] [(.int (x2 &&& (7 : Int32))), (.int (1 : Int32)), (.ref w_ba)]))
    refine Runs.go (fun _ => XS.iload Xc271_30.here hx rfl (hb hby at_282) rfl) ?_
    show Runs p e below s _ _ _ (Tc271_30.setTop (mkF m 284 #[.val (.long v0), .second, .val (.int v2), .val (.int v3), .val (.int v4), .val (.long v5), .second, .val (.int (x2 &&& (7 : Int32))), .val (.int (x3.toInt8.toInt32)), .val (.ref w_ba), .val (.int nN), .val (.int rq.1), .val (.int (1 : Int32))] [(.int nN), (.int (x2 &&& (7 : Int32))), (.int (1 : Int32)), (.ref w_ba)]))
    refine Runs.go (fun _ => XS.lload Xc271_30.here hx rfl (hb hby at_284) rfl) ?_
    show Runs p e below s _ _ _ (Tc271_30.setTop (mkF m 286 #[.val (.long v0), .second, .val (.int v2), .val (.int v3), .val (.int v4), .val (.long v5), .second, .val (.int (x2 &&& (7 : Int32))), .val (.int (x3.toInt8.toInt32)), .val (.ref w_ba), .val (.int nN), .val (.int rq.1), .val (.int (1 : Int32))] [(.long v5), (.int nN), (.int (x2 &&& (7 : Int32))), (.int (1 : Int32)), (.ref w_ba)]))
    refine Runs.go (fun _ => XS.iload Xc271_30.here hx rfl (hb hby at_286) rfl) ?_
    show Runs p e below s _ _ _ (Tc271_30.setTop (mkF m 288 #[.val (.long v0), .second, .val (.int v2), .val (.int v3), .val (.int v4), .val (.long v5), .second, .val (.int (x2 &&& (7 : Int32))), .val (.int (x3.toInt8.toInt32)), .val (.ref w_ba), .val (.int nN), .val (.int rq.1), .val (.int (1 : Int32))] [(.int (x3.toInt8.toInt32)), (.long v5), (.int nN), (.int (x2 &&& (7 : Int32))), (.int (1 : Int32)), (.ref w_ba)]))
    obtain ⟨zq12, hzq12⟩ : ∃ z, F3 (1 : Int32) (x2 &&& (7 : Int32)) nN v5 (x3.toInt8.toInt32) rq.2 = z := ⟨_, rfl⟩
    have hne12 : ¬ zq12 = (0 : Int32) := by rw [← hzq12, ← hrq, ← hN]; exact own_ok v5 x2 x3 1 (by decide) _ (by decide)
    have rmq12 := rm3 l Z a0 hw [] w_ba (1 : Int32) (x2 &&& (7 : Int32)) nN v5 (x3.toInt8.toInt32) rq.2 w_kk Tc233_29.heap n0 hzc233_29 Vc233_29 ⟨by decide, by decide⟩
    rw [hzq12] at rmq12
    obtain ⟨_, _, ⟨Tc288_31, Lc288_31, kc288_31, nc288_31⟩, -, Xc288_31, ⟨Lcc288_31, hQc288_31, lc288_31, yc288_31, zc288_31⟩, stc288_31⟩ := Jvm.LawKit.callS Xc271_30 hx (y := (⟨"com/example/caddis/caddis/index/IndexFormatPutVarintPinLaw", "ok", "([BIIIJB)Z"⟩ : MethodName)) hown (mvT hZ (hw _ (List.mem_of_getElem? (i := 10) rfl))) (mvT hZ (hw _ (List.mem_of_getElem? (i := 11) rfl))) (mvT hZ (hw _ (List.mem_of_getElem? (i := 3) rfl))) (mvT hZ (hw _ (List.mem_of_getElem? (i := 12) rfl))) (by decide) (backOf (W := 0) (rmq12) hZ (hw _ (List.mem_of_getElem? (i := 12) rfl)) (hw _ (List.mem_of_getElem? (i := 3) rfl)) (by decide) (by decide)) (g := (mkF m 288 #[.val (.long v0), .second, .val (.int v2), .val (.int v3), .val (.int v4), .val (.long v5), .second, .val (.int (x2 &&& (7 : Int32))), .val (.int (x3.toInt8.toInt32)), .val (.ref w_ba), .val (.int nN), .val (.int rq.1), .val (.int (1 : Int32))] [(.int (x3.toInt8.toInt32)), (.long v5), (.int nN), (.int (x2 &&& (7 : Int32))), (.int (1 : Int32)), (.ref w_ba)])) rfl (by rw [hml]; rfl) (argsL := [(.ref w_ba), (.int (1 : Int32)), (.int (x2 &&& (7 : Int32))), (.int nN), (.long v5), (.int (x3.toInt8.toInt32))]) (rest := []) (lenOf pd_2 rfl) rfl (by show 2 * 0 + _ ≤ _; exact Nat.le_of_eq rfl) (hb hby at_288) (fun _ _ => ⟨rfl, ec271_30, (by decide : 1 + 0 ≤ _), (by decide : 18 + 0 ≤ _)⟩)
    dsimp only [Pt.U, Pt.locs, Pt.cells, Pt.slots] at Xc288_31 lc288_31 yc288_31 zc288_31 stc288_31 hQc288_31
    subst lc288_31 yc288_31 zc288_31
    obtain ⟨rfl, rfl, ec288_31⟩ := hQc288_31
    refine Runs.go stc288_31 ?_
    simp only [List.append_nil, Nat.add_zero] at Xc288_31
    have Nc288_31 := Nc271_30
    show Runs p e below s _ _ _ (Tc288_31.setTop (mkF m 291 #[.val (.long v0), .second, .val (.int v2), .val (.int v3), .val (.int v4), .val (.long v5), .second, .val (.int (x2 &&& (7 : Int32))), .val (.int (x3.toInt8.toInt32)), .val (.ref w_ba), .val (.int nN), .val (.int rq.1), .val (.int (1 : Int32))] [(.int zq12)]))
    refine Runs.go (fun _ => XS.ifNo Xc288_31.here hx rfl (hb hby at_291) rfl ((if0 _ _).trans (feq (hne12 : ¬ (zq12 = (0 : Int32)))).1)) ?_
    show Runs p e below s _ _ _ (Tc288_31.setTop (mkF m 294 #[.val (.long v0), .second, .val (.int v2), .val (.int v3), .val (.int v4), .val (.long v5), .second, .val (.int (x2 &&& (7 : Int32))), .val (.int (x3.toInt8.toInt32)), .val (.ref w_ba), .val (.int nN), .val (.int rq.1), .val (.int (1 : Int32))] []))
    refine Runs.go (fun _ => XS.aload Xc288_31.here hx rfl (hb hby at_294) rfl rfl) ?_
    show Runs p e below s _ _ _ (Tc288_31.setTop (mkF m 296 #[.val (.long v0), .second, .val (.int v2), .val (.int v3), .val (.int v4), .val (.long v5), .second, .val (.int (x2 &&& (7 : Int32))), .val (.int (x3.toInt8.toInt32)), .val (.ref w_ba), .val (.int nN), .val (.int rq.1), .val (.int (1 : Int32))] [(.ref w_ba)]))
    refine Runs.go (fun _ => XS.iconst Xc288_31.here hx rfl (hb hby at_296)) ?_
    show Runs p e below s _ _ _ (Tc288_31.setTop (mkF m 297 #[.val (.long v0), .second, .val (.int v2), .val (.int v3), .val (.int v4), .val (.long v5), .second, .val (.int (x2 &&& (7 : Int32))), .val (.int (x3.toInt8.toInt32)), .val (.ref w_ba), .val (.int nN), .val (.int rq.1), .val (.int (1 : Int32))] [(.int (2 : Int32)), (.ref w_ba)]))
    refine Runs.go (fun _ => XS.iload Xc288_31.here hx rfl (hb hby at_297) rfl) ?_
    show Runs p e below s _ _ _ (Tc288_31.setTop (mkF m 299 #[.val (.long v0), .second, .val (.int v2), .val (.int v3), .val (.int v4), .val (.long v5), .second, .val (.int (x2 &&& (7 : Int32))), .val (.int (x3.toInt8.toInt32)), .val (.ref w_ba), .val (.int nN), .val (.int rq.1), .val (.int (1 : Int32))] [(.int (x2 &&& (7 : Int32))), (.int (2 : Int32)), (.ref w_ba)]))
    refine Runs.go (fun _ => XS.iload Xc288_31.here hx rfl (hb hby at_299) rfl) ?_
    show Runs p e below s _ _ _ (Tc288_31.setTop (mkF m 301 #[.val (.long v0), .second, .val (.int v2), .val (.int v3), .val (.int v4), .val (.long v5), .second, .val (.int (x2 &&& (7 : Int32))), .val (.int (x3.toInt8.toInt32)), .val (.ref w_ba), .val (.int nN), .val (.int rq.1), .val (.int (1 : Int32))] [(.int nN), (.int (x2 &&& (7 : Int32))), (.int (2 : Int32)), (.ref w_ba)]))
    refine Runs.go (fun _ => XS.lload Xc288_31.here hx rfl (hb hby at_301) rfl) ?_
    show Runs p e below s _ _ _ (Tc288_31.setTop (mkF m 303 #[.val (.long v0), .second, .val (.int v2), .val (.int v3), .val (.int v4), .val (.long v5), .second, .val (.int (x2 &&& (7 : Int32))), .val (.int (x3.toInt8.toInt32)), .val (.ref w_ba), .val (.int nN), .val (.int rq.1), .val (.int (1 : Int32))] [(.long v5), (.int nN), (.int (x2 &&& (7 : Int32))), (.int (2 : Int32)), (.ref w_ba)]))
    refine Runs.go (fun _ => XS.iload Xc288_31.here hx rfl (hb hby at_303) rfl) ?_
    show Runs p e below s _ _ _ (Tc288_31.setTop (mkF m 305 #[.val (.long v0), .second, .val (.int v2), .val (.int v3), .val (.int v4), .val (.long v5), .second, .val (.int (x2 &&& (7 : Int32))), .val (.int (x3.toInt8.toInt32)), .val (.ref w_ba), .val (.int nN), .val (.int rq.1), .val (.int (1 : Int32))] [(.int (x3.toInt8.toInt32)), (.long v5), (.int nN), (.int (x2 &&& (7 : Int32))), (.int (2 : Int32)), (.ref w_ba)]))
    obtain ⟨zq13, hzq13⟩ : ∃ z, F3 (2 : Int32) (x2 &&& (7 : Int32)) nN v5 (x3.toInt8.toInt32) rq.2 = z := ⟨_, rfl⟩
    have hne13 : ¬ zq13 = (0 : Int32) := by rw [← hzq13, ← hrq, ← hN]; exact own_ok v5 x2 x3 2 (by decide) _ (by decide)
    have rmq13 := rm3 l Z a0 hw [] w_ba (2 : Int32) (x2 &&& (7 : Int32)) nN v5 (x3.toInt8.toInt32) rq.2 w_kk Tc233_29.heap n0 hzc233_29 Vc233_29 ⟨by decide, by decide⟩
    rw [hzq13] at rmq13
    obtain ⟨_, _, ⟨Tc305_32, Lc305_32, kc305_32, nc305_32⟩, -, Xc305_32, ⟨Lcc305_32, hQc305_32, lc305_32, yc305_32, zc305_32⟩, stc305_32⟩ := Jvm.LawKit.callS Xc288_31 hx (y := (⟨"com/example/caddis/caddis/index/IndexFormatPutVarintPinLaw", "ok", "([BIIIJB)Z"⟩ : MethodName)) hown (mvT hZ (hw _ (List.mem_of_getElem? (i := 10) rfl))) (mvT hZ (hw _ (List.mem_of_getElem? (i := 11) rfl))) (mvT hZ (hw _ (List.mem_of_getElem? (i := 3) rfl))) (mvT hZ (hw _ (List.mem_of_getElem? (i := 12) rfl))) (by decide) (backOf (W := 0) (rmq13) hZ (hw _ (List.mem_of_getElem? (i := 12) rfl)) (hw _ (List.mem_of_getElem? (i := 3) rfl)) (by decide) (by decide)) (g := (mkF m 305 #[.val (.long v0), .second, .val (.int v2), .val (.int v3), .val (.int v4), .val (.long v5), .second, .val (.int (x2 &&& (7 : Int32))), .val (.int (x3.toInt8.toInt32)), .val (.ref w_ba), .val (.int nN), .val (.int rq.1), .val (.int (1 : Int32))] [(.int (x3.toInt8.toInt32)), (.long v5), (.int nN), (.int (x2 &&& (7 : Int32))), (.int (2 : Int32)), (.ref w_ba)])) rfl (by rw [hml]; rfl) (argsL := [(.ref w_ba), (.int (2 : Int32)), (.int (x2 &&& (7 : Int32))), (.int nN), (.long v5), (.int (x3.toInt8.toInt32))]) (rest := []) (lenOf pd_2 rfl) rfl (by show 2 * 0 + _ ≤ _; exact Nat.le_of_eq rfl) (hb hby at_305) (fun _ _ => ⟨rfl, ec288_31, (by decide : 1 + 0 ≤ _), (by decide : 18 + 0 ≤ _)⟩)
    dsimp only [Pt.U, Pt.locs, Pt.cells, Pt.slots] at Xc305_32 lc305_32 yc305_32 zc305_32 stc305_32 hQc305_32
    subst lc305_32 yc305_32 zc305_32
    obtain ⟨rfl, rfl, ec305_32⟩ := hQc305_32
    refine Runs.go stc305_32 ?_
    simp only [List.append_nil, Nat.add_zero] at Xc305_32
    have Nc305_32 := Nc288_31
    show Runs p e below s _ _ _ (Tc305_32.setTop (mkF m 308 #[.val (.long v0), .second, .val (.int v2), .val (.int v3), .val (.int v4), .val (.long v5), .second, .val (.int (x2 &&& (7 : Int32))), .val (.int (x3.toInt8.toInt32)), .val (.ref w_ba), .val (.int nN), .val (.int rq.1), .val (.int (1 : Int32))] [(.int zq13)]))
    refine Runs.go (fun _ => XS.ifNo Xc305_32.here hx rfl (hb hby at_308) rfl ((if0 _ _).trans (feq (hne13 : ¬ (zq13 = (0 : Int32)))).1)) ?_
    show Runs p e below s _ _ _ (Tc305_32.setTop (mkF m 311 #[.val (.long v0), .second, .val (.int v2), .val (.int v3), .val (.int v4), .val (.long v5), .second, .val (.int (x2 &&& (7 : Int32))), .val (.int (x3.toInt8.toInt32)), .val (.ref w_ba), .val (.int nN), .val (.int rq.1), .val (.int (1 : Int32))] []))
    refine Runs.go (fun _ => XS.iconst Xc305_32.here hx rfl (hb hby at_311)) ?_
    show Runs p e below s _ _ _ (Tc305_32.setTop (mkF m 312 #[.val (.long v0), .second, .val (.int v2), .val (.int v3), .val (.int v4), .val (.long v5), .second, .val (.int (x2 &&& (7 : Int32))), .val (.int (x3.toInt8.toInt32)), .val (.ref w_ba), .val (.int nN), .val (.int rq.1), .val (.int (1 : Int32))] [(.int (1 : Int32))]))
    refine Runs.go (fun _ => XS.goto Xc305_32.here hx rfl (pc0 := 312) (pc' := 316) rfl (hb hby at_312) (by decide) (by decide)) ?_
    show Runs p e below s _ _ _ (Tc305_32.setTop (mkF m 316 #[.val (.long v0), .second, .val (.int v2), .val (.int v3), .val (.int v4), .val (.long v5), .second, .val (.int (x2 &&& (7 : Int32))), .val (.int (x3.toInt8.toInt32)), .val (.ref w_ba), .val (.int nN), .val (.int rq.1), .val (.int (1 : Int32))] [(.int (1 : Int32))]))
    refine Runs.go (fun _ => XS.istore Xc305_32.here hx rfl (hb hby at_316) rfl (l' := #[.val (.long v0), .second, .val (.int v2), .val (.int v3), .val (.int v4), .val (.long v5), .second, .val (.int (x2 &&& (7 : Int32))), .val (.int (x3.toInt8.toInt32)), .val (.ref w_ba), .val (.int nN), .val (.int rq.1), .val (.int (1 : Int32))]) rfl) ?_
    show Runs p e below s _ _ _ (Tc305_32.setTop (mkF m 318 #[.val (.long v0), .second, .val (.int v2), .val (.int v3), .val (.int v4), .val (.long v5), .second, .val (.int (x2 &&& (7 : Int32))), .val (.int (x3.toInt8.toInt32)), .val (.ref w_ba), .val (.int nN), .val (.int rq.1), .val (.int (1 : Int32))] []))
    refine Runs.go (fun _ => XS.iload Xc305_32.here hx rfl (hb hby at_318) rfl) ?_
    show Runs p e below s _ _ _ (Tc305_32.setTop (mkF m 320 #[.val (.long v0), .second, .val (.int v2), .val (.int v3), .val (.int v4), .val (.long v5), .second, .val (.int (x2 &&& (7 : Int32))), .val (.int (x3.toInt8.toInt32)), .val (.ref w_ba), .val (.int nN), .val (.int rq.1), .val (.int (1 : Int32))] [(.int (1 : Int32))]))
    refine Runs.go (fun _ => XS.ifNo Xc305_32.here hx rfl (hb hby at_320) rfl ((if0 _ _).trans (feq ((by decide) : ¬ ((1 : Int32) = (0 : Int32)))).1)) ?_
    show Runs p e below s _ _ _ (Tc305_32.setTop (mkF m 323 #[.val (.long v0), .second, .val (.int v2), .val (.int v3), .val (.int v4), .val (.long v5), .second, .val (.int (x2 &&& (7 : Int32))), .val (.int (x3.toInt8.toInt32)), .val (.ref w_ba), .val (.int nN), .val (.int rq.1), .val (.int (1 : Int32))] []))
    refine Runs.go (fun _ => XS.aload Xc305_32.here hx rfl (hb hby at_323) rfl rfl) ?_
    show Runs p e below s _ _ _ (Tc305_32.setTop (mkF m 325 #[.val (.long v0), .second, .val (.int v2), .val (.int v3), .val (.int v4), .val (.long v5), .second, .val (.int (x2 &&& (7 : Int32))), .val (.int (x3.toInt8.toInt32)), .val (.ref w_ba), .val (.int nN), .val (.int rq.1), .val (.int (1 : Int32))] [(.ref w_ba)]))
    refine Runs.go (fun _ => XS.iconst Xc305_32.here hx rfl (hb hby at_325)) ?_
    show Runs p e below s _ _ _ (Tc305_32.setTop (mkF m 326 #[.val (.long v0), .second, .val (.int v2), .val (.int v3), .val (.int v4), .val (.long v5), .second, .val (.int (x2 &&& (7 : Int32))), .val (.int (x3.toInt8.toInt32)), .val (.ref w_ba), .val (.int nN), .val (.int rq.1), .val (.int (1 : Int32))] [(.int (3 : Int32)), (.ref w_ba)]))
    refine Runs.go (fun _ => XS.iload Xc305_32.here hx rfl (hb hby at_326) rfl) ?_
    show Runs p e below s _ _ _ (Tc305_32.setTop (mkF m 328 #[.val (.long v0), .second, .val (.int v2), .val (.int v3), .val (.int v4), .val (.long v5), .second, .val (.int (x2 &&& (7 : Int32))), .val (.int (x3.toInt8.toInt32)), .val (.ref w_ba), .val (.int nN), .val (.int rq.1), .val (.int (1 : Int32))] [(.int (x2 &&& (7 : Int32))), (.int (3 : Int32)), (.ref w_ba)]))
    refine Runs.go (fun _ => XS.iload Xc305_32.here hx rfl (hb hby at_328) rfl) ?_
    show Runs p e below s _ _ _ (Tc305_32.setTop (mkF m 330 #[.val (.long v0), .second, .val (.int v2), .val (.int v3), .val (.int v4), .val (.long v5), .second, .val (.int (x2 &&& (7 : Int32))), .val (.int (x3.toInt8.toInt32)), .val (.ref w_ba), .val (.int nN), .val (.int rq.1), .val (.int (1 : Int32))] [(.int nN), (.int (x2 &&& (7 : Int32))), (.int (3 : Int32)), (.ref w_ba)]))
    refine Runs.go (fun _ => XS.lload Xc305_32.here hx rfl (hb hby at_330) rfl) ?_
    show Runs p e below s _ _ _ (Tc305_32.setTop (mkF m 332 #[.val (.long v0), .second, .val (.int v2), .val (.int v3), .val (.int v4), .val (.long v5), .second, .val (.int (x2 &&& (7 : Int32))), .val (.int (x3.toInt8.toInt32)), .val (.ref w_ba), .val (.int nN), .val (.int rq.1), .val (.int (1 : Int32))] [(.long v5), (.int nN), (.int (x2 &&& (7 : Int32))), (.int (3 : Int32)), (.ref w_ba)]))
    refine Runs.go (fun _ => XS.iload Xc305_32.here hx rfl (hb hby at_332) rfl) ?_
    show Runs p e below s _ _ _ (Tc305_32.setTop (mkF m 334 #[.val (.long v0), .second, .val (.int v2), .val (.int v3), .val (.int v4), .val (.long v5), .second, .val (.int (x2 &&& (7 : Int32))), .val (.int (x3.toInt8.toInt32)), .val (.ref w_ba), .val (.int nN), .val (.int rq.1), .val (.int (1 : Int32))] [(.int (x3.toInt8.toInt32)), (.long v5), (.int nN), (.int (x2 &&& (7 : Int32))), (.int (3 : Int32)), (.ref w_ba)]))
    obtain ⟨zq14, hzq14⟩ : ∃ z, F3 (3 : Int32) (x2 &&& (7 : Int32)) nN v5 (x3.toInt8.toInt32) rq.2 = z := ⟨_, rfl⟩
    have hne14 : ¬ zq14 = (0 : Int32) := by rw [← hzq14, ← hrq, ← hN]; exact own_ok v5 x2 x3 3 (by decide) _ (by decide)
    have rmq14 := rm3 l Z a0 hw [] w_ba (3 : Int32) (x2 &&& (7 : Int32)) nN v5 (x3.toInt8.toInt32) rq.2 w_kk Tc233_29.heap n0 hzc233_29 Vc233_29 ⟨by decide, by decide⟩
    rw [hzq14] at rmq14
    obtain ⟨_, _, ⟨Tc334_33, Lc334_33, kc334_33, nc334_33⟩, -, Xc334_33, ⟨Lcc334_33, hQc334_33, lc334_33, yc334_33, zc334_33⟩, stc334_33⟩ := Jvm.LawKit.callS Xc305_32 hx (y := (⟨"com/example/caddis/caddis/index/IndexFormatPutVarintPinLaw", "ok", "([BIIIJB)Z"⟩ : MethodName)) hown (mvT hZ (hw _ (List.mem_of_getElem? (i := 10) rfl))) (mvT hZ (hw _ (List.mem_of_getElem? (i := 11) rfl))) (mvT hZ (hw _ (List.mem_of_getElem? (i := 3) rfl))) (mvT hZ (hw _ (List.mem_of_getElem? (i := 12) rfl))) (by decide) (backOf (W := 0) (rmq14) hZ (hw _ (List.mem_of_getElem? (i := 12) rfl)) (hw _ (List.mem_of_getElem? (i := 3) rfl)) (by decide) (by decide)) (g := (mkF m 334 #[.val (.long v0), .second, .val (.int v2), .val (.int v3), .val (.int v4), .val (.long v5), .second, .val (.int (x2 &&& (7 : Int32))), .val (.int (x3.toInt8.toInt32)), .val (.ref w_ba), .val (.int nN), .val (.int rq.1), .val (.int (1 : Int32))] [(.int (x3.toInt8.toInt32)), (.long v5), (.int nN), (.int (x2 &&& (7 : Int32))), (.int (3 : Int32)), (.ref w_ba)])) rfl (by rw [hml]; rfl) (argsL := [(.ref w_ba), (.int (3 : Int32)), (.int (x2 &&& (7 : Int32))), (.int nN), (.long v5), (.int (x3.toInt8.toInt32))]) (rest := []) (lenOf pd_2 rfl) rfl (by show 2 * 0 + _ ≤ _; exact Nat.le_of_eq rfl) (hb hby at_334) (fun _ _ => ⟨rfl, ec305_32, (by decide : 1 + 0 ≤ _), (by decide : 18 + 0 ≤ _)⟩)
    dsimp only [Pt.U, Pt.locs, Pt.cells, Pt.slots] at Xc334_33 lc334_33 yc334_33 zc334_33 stc334_33 hQc334_33
    subst lc334_33 yc334_33 zc334_33
    obtain ⟨rfl, rfl, ec334_33⟩ := hQc334_33
    refine Runs.go stc334_33 ?_
    simp only [List.append_nil, Nat.add_zero] at Xc334_33
    have Nc334_33 := Nc305_32
    show Runs p e below s _ _ _ (Tc334_33.setTop (mkF m 337 #[.val (.long v0), .second, .val (.int v2), .val (.int v3), .val (.int v4), .val (.long v5), .second, .val (.int (x2 &&& (7 : Int32))), .val (.int (x3.toInt8.toInt32)), .val (.ref w_ba), .val (.int nN), .val (.int rq.1), .val (.int (1 : Int32))] [(.int zq14)]))
    refine Runs.go (fun _ => XS.ifNo Xc334_33.here hx rfl (hb hby at_337) rfl ((if0 _ _).trans (feq (hne14 : ¬ (zq14 = (0 : Int32)))).1)) ?_
    show Runs p e below s _ _ _ (Tc334_33.setTop (mkF m 340 #[.val (.long v0), .second, .val (.int v2), .val (.int v3), .val (.int v4), .val (.long v5), .second, .val (.int (x2 &&& (7 : Int32))), .val (.int (x3.toInt8.toInt32)), .val (.ref w_ba), .val (.int nN), .val (.int rq.1), .val (.int (1 : Int32))] []))
    refine Runs.go (fun _ => XS.aload Xc334_33.here hx rfl (hb hby at_340) rfl rfl) ?_
    show Runs p e below s _ _ _ (Tc334_33.setTop (mkF m 342 #[.val (.long v0), .second, .val (.int v2), .val (.int v3), .val (.int v4), .val (.long v5), .second, .val (.int (x2 &&& (7 : Int32))), .val (.int (x3.toInt8.toInt32)), .val (.ref w_ba), .val (.int nN), .val (.int rq.1), .val (.int (1 : Int32))] [(.ref w_ba)]))
    refine Runs.go (fun _ => XS.iconst Xc334_33.here hx rfl (hb hby at_342)) ?_
    show Runs p e below s _ _ _ (Tc334_33.setTop (mkF m 343 #[.val (.long v0), .second, .val (.int v2), .val (.int v3), .val (.int v4), .val (.long v5), .second, .val (.int (x2 &&& (7 : Int32))), .val (.int (x3.toInt8.toInt32)), .val (.ref w_ba), .val (.int nN), .val (.int rq.1), .val (.int (1 : Int32))] [(.int (4 : Int32)), (.ref w_ba)]))
    refine Runs.go (fun _ => XS.iload Xc334_33.here hx rfl (hb hby at_343) rfl) ?_
    show Runs p e below s _ _ _ (Tc334_33.setTop (mkF m 345 #[.val (.long v0), .second, .val (.int v2), .val (.int v3), .val (.int v4), .val (.long v5), .second, .val (.int (x2 &&& (7 : Int32))), .val (.int (x3.toInt8.toInt32)), .val (.ref w_ba), .val (.int nN), .val (.int rq.1), .val (.int (1 : Int32))] [(.int (x2 &&& (7 : Int32))), (.int (4 : Int32)), (.ref w_ba)]))
    refine Runs.go (fun _ => XS.iload Xc334_33.here hx rfl (hb hby at_345) rfl) ?_
    show Runs p e below s _ _ _ (Tc334_33.setTop (mkF m 347 #[.val (.long v0), .second, .val (.int v2), .val (.int v3), .val (.int v4), .val (.long v5), .second, .val (.int (x2 &&& (7 : Int32))), .val (.int (x3.toInt8.toInt32)), .val (.ref w_ba), .val (.int nN), .val (.int rq.1), .val (.int (1 : Int32))] [(.int nN), (.int (x2 &&& (7 : Int32))), (.int (4 : Int32)), (.ref w_ba)]))
    refine Runs.go (fun _ => XS.lload Xc334_33.here hx rfl (hb hby at_347) rfl) ?_
    show Runs p e below s _ _ _ (Tc334_33.setTop (mkF m 349 #[.val (.long v0), .second, .val (.int v2), .val (.int v3), .val (.int v4), .val (.long v5), .second, .val (.int (x2 &&& (7 : Int32))), .val (.int (x3.toInt8.toInt32)), .val (.ref w_ba), .val (.int nN), .val (.int rq.1), .val (.int (1 : Int32))] [(.long v5), (.int nN), (.int (x2 &&& (7 : Int32))), (.int (4 : Int32)), (.ref w_ba)]))
    refine Runs.go (fun _ => XS.iload Xc334_33.here hx rfl (hb hby at_349) rfl) ?_
    show Runs p e below s _ _ _ (Tc334_33.setTop (mkF m 351 #[.val (.long v0), .second, .val (.int v2), .val (.int v3), .val (.int v4), .val (.long v5), .second, .val (.int (x2 &&& (7 : Int32))), .val (.int (x3.toInt8.toInt32)), .val (.ref w_ba), .val (.int nN), .val (.int rq.1), .val (.int (1 : Int32))] [(.int (x3.toInt8.toInt32)), (.long v5), (.int nN), (.int (x2 &&& (7 : Int32))), (.int (4 : Int32)), (.ref w_ba)]))
    obtain ⟨zq15, hzq15⟩ : ∃ z, F3 (4 : Int32) (x2 &&& (7 : Int32)) nN v5 (x3.toInt8.toInt32) rq.2 = z := ⟨_, rfl⟩
    have hne15 : ¬ zq15 = (0 : Int32) := by rw [← hzq15, ← hrq, ← hN]; exact own_ok v5 x2 x3 4 (by decide) _ (by decide)
    have rmq15 := rm3 l Z a0 hw [] w_ba (4 : Int32) (x2 &&& (7 : Int32)) nN v5 (x3.toInt8.toInt32) rq.2 w_kk Tc233_29.heap n0 hzc233_29 Vc233_29 ⟨by decide, by decide⟩
    rw [hzq15] at rmq15
    obtain ⟨_, _, ⟨Tc351_34, Lc351_34, kc351_34, nc351_34⟩, -, Xc351_34, ⟨Lcc351_34, hQc351_34, lc351_34, yc351_34, zc351_34⟩, stc351_34⟩ := Jvm.LawKit.callS Xc334_33 hx (y := (⟨"com/example/caddis/caddis/index/IndexFormatPutVarintPinLaw", "ok", "([BIIIJB)Z"⟩ : MethodName)) hown (mvT hZ (hw _ (List.mem_of_getElem? (i := 10) rfl))) (mvT hZ (hw _ (List.mem_of_getElem? (i := 11) rfl))) (mvT hZ (hw _ (List.mem_of_getElem? (i := 3) rfl))) (mvT hZ (hw _ (List.mem_of_getElem? (i := 12) rfl))) (by decide) (backOf (W := 0) (rmq15) hZ (hw _ (List.mem_of_getElem? (i := 12) rfl)) (hw _ (List.mem_of_getElem? (i := 3) rfl)) (by decide) (by decide)) (g := (mkF m 351 #[.val (.long v0), .second, .val (.int v2), .val (.int v3), .val (.int v4), .val (.long v5), .second, .val (.int (x2 &&& (7 : Int32))), .val (.int (x3.toInt8.toInt32)), .val (.ref w_ba), .val (.int nN), .val (.int rq.1), .val (.int (1 : Int32))] [(.int (x3.toInt8.toInt32)), (.long v5), (.int nN), (.int (x2 &&& (7 : Int32))), (.int (4 : Int32)), (.ref w_ba)])) rfl (by rw [hml]; rfl) (argsL := [(.ref w_ba), (.int (4 : Int32)), (.int (x2 &&& (7 : Int32))), (.int nN), (.long v5), (.int (x3.toInt8.toInt32))]) (rest := []) (lenOf pd_2 rfl) rfl (by show 2 * 0 + _ ≤ _; exact Nat.le_of_eq rfl) (hb hby at_351) (fun _ _ => ⟨rfl, ec334_33, (by decide : 1 + 0 ≤ _), (by decide : 18 + 0 ≤ _)⟩)
    dsimp only [Pt.U, Pt.locs, Pt.cells, Pt.slots] at Xc351_34 lc351_34 yc351_34 zc351_34 stc351_34 hQc351_34
    subst lc351_34 yc351_34 zc351_34
    obtain ⟨rfl, rfl, ec351_34⟩ := hQc351_34
    refine Runs.go stc351_34 ?_
    simp only [List.append_nil, Nat.add_zero] at Xc351_34
    have Nc351_34 := Nc334_33
    show Runs p e below s _ _ _ (Tc351_34.setTop (mkF m 354 #[.val (.long v0), .second, .val (.int v2), .val (.int v3), .val (.int v4), .val (.long v5), .second, .val (.int (x2 &&& (7 : Int32))), .val (.int (x3.toInt8.toInt32)), .val (.ref w_ba), .val (.int nN), .val (.int rq.1), .val (.int (1 : Int32))] [(.int zq15)]))
    refine Runs.go (fun _ => XS.ifNo Xc351_34.here hx rfl (hb hby at_354) rfl ((if0 _ _).trans (feq (hne15 : ¬ (zq15 = (0 : Int32)))).1)) ?_
    show Runs p e below s _ _ _ (Tc351_34.setTop (mkF m 357 #[.val (.long v0), .second, .val (.int v2), .val (.int v3), .val (.int v4), .val (.long v5), .second, .val (.int (x2 &&& (7 : Int32))), .val (.int (x3.toInt8.toInt32)), .val (.ref w_ba), .val (.int nN), .val (.int rq.1), .val (.int (1 : Int32))] []))
    refine Runs.go (fun _ => XS.aload Xc351_34.here hx rfl (hb hby at_357) rfl rfl) ?_
    show Runs p e below s _ _ _ (Tc351_34.setTop (mkF m 359 #[.val (.long v0), .second, .val (.int v2), .val (.int v3), .val (.int v4), .val (.long v5), .second, .val (.int (x2 &&& (7 : Int32))), .val (.int (x3.toInt8.toInt32)), .val (.ref w_ba), .val (.int nN), .val (.int rq.1), .val (.int (1 : Int32))] [(.ref w_ba)]))
    refine Runs.go (fun _ => XS.iconst Xc351_34.here hx rfl (hb hby at_359)) ?_
    show Runs p e below s _ _ _ (Tc351_34.setTop (mkF m 360 #[.val (.long v0), .second, .val (.int v2), .val (.int v3), .val (.int v4), .val (.long v5), .second, .val (.int (x2 &&& (7 : Int32))), .val (.int (x3.toInt8.toInt32)), .val (.ref w_ba), .val (.int nN), .val (.int rq.1), .val (.int (1 : Int32))] [(.int (5 : Int32)), (.ref w_ba)]))
    refine Runs.go (fun _ => XS.iload Xc351_34.here hx rfl (hb hby at_360) rfl) ?_
    show Runs p e below s _ _ _ (Tc351_34.setTop (mkF m 362 #[.val (.long v0), .second, .val (.int v2), .val (.int v3), .val (.int v4), .val (.long v5), .second, .val (.int (x2 &&& (7 : Int32))), .val (.int (x3.toInt8.toInt32)), .val (.ref w_ba), .val (.int nN), .val (.int rq.1), .val (.int (1 : Int32))] [(.int (x2 &&& (7 : Int32))), (.int (5 : Int32)), (.ref w_ba)]))
    refine Runs.go (fun _ => XS.iload Xc351_34.here hx rfl (hb hby at_362) rfl) ?_
    show Runs p e below s _ _ _ (Tc351_34.setTop (mkF m 364 #[.val (.long v0), .second, .val (.int v2), .val (.int v3), .val (.int v4), .val (.long v5), .second, .val (.int (x2 &&& (7 : Int32))), .val (.int (x3.toInt8.toInt32)), .val (.ref w_ba), .val (.int nN), .val (.int rq.1), .val (.int (1 : Int32))] [(.int nN), (.int (x2 &&& (7 : Int32))), (.int (5 : Int32)), (.ref w_ba)]))
    refine Runs.go (fun _ => XS.lload Xc351_34.here hx rfl (hb hby at_364) rfl) ?_
    show Runs p e below s _ _ _ (Tc351_34.setTop (mkF m 366 #[.val (.long v0), .second, .val (.int v2), .val (.int v3), .val (.int v4), .val (.long v5), .second, .val (.int (x2 &&& (7 : Int32))), .val (.int (x3.toInt8.toInt32)), .val (.ref w_ba), .val (.int nN), .val (.int rq.1), .val (.int (1 : Int32))] [(.long v5), (.int nN), (.int (x2 &&& (7 : Int32))), (.int (5 : Int32)), (.ref w_ba)]))
    refine Runs.go (fun _ => XS.iload Xc351_34.here hx rfl (hb hby at_366) rfl) ?_
    show Runs p e below s _ _ _ (Tc351_34.setTop (mkF m 368 #[.val (.long v0), .second, .val (.int v2), .val (.int v3), .val (.int v4), .val (.long v5), .second, .val (.int (x2 &&& (7 : Int32))), .val (.int (x3.toInt8.toInt32)), .val (.ref w_ba), .val (.int nN), .val (.int rq.1), .val (.int (1 : Int32))] [(.int (x3.toInt8.toInt32)), (.long v5), (.int nN), (.int (x2 &&& (7 : Int32))), (.int (5 : Int32)), (.ref w_ba)]))
    obtain ⟨zq16, hzq16⟩ : ∃ z, F3 (5 : Int32) (x2 &&& (7 : Int32)) nN v5 (x3.toInt8.toInt32) rq.2 = z := ⟨_, rfl⟩
    have hne16 : ¬ zq16 = (0 : Int32) := by rw [← hzq16, ← hrq, ← hN]; exact own_ok v5 x2 x3 5 (by decide) _ (by decide)
    have rmq16 := rm3 l Z a0 hw [] w_ba (5 : Int32) (x2 &&& (7 : Int32)) nN v5 (x3.toInt8.toInt32) rq.2 w_kk Tc233_29.heap n0 hzc233_29 Vc233_29 ⟨by decide, by decide⟩
    rw [hzq16] at rmq16
    obtain ⟨_, _, ⟨Tc368_35, Lc368_35, kc368_35, nc368_35⟩, -, Xc368_35, ⟨Lcc368_35, hQc368_35, lc368_35, yc368_35, zc368_35⟩, stc368_35⟩ := Jvm.LawKit.callS Xc351_34 hx (y := (⟨"com/example/caddis/caddis/index/IndexFormatPutVarintPinLaw", "ok", "([BIIIJB)Z"⟩ : MethodName)) hown (mvT hZ (hw _ (List.mem_of_getElem? (i := 10) rfl))) (mvT hZ (hw _ (List.mem_of_getElem? (i := 11) rfl))) (mvT hZ (hw _ (List.mem_of_getElem? (i := 3) rfl))) (mvT hZ (hw _ (List.mem_of_getElem? (i := 12) rfl))) (by decide) (backOf (W := 0) (rmq16) hZ (hw _ (List.mem_of_getElem? (i := 12) rfl)) (hw _ (List.mem_of_getElem? (i := 3) rfl)) (by decide) (by decide)) (g := (mkF m 368 #[.val (.long v0), .second, .val (.int v2), .val (.int v3), .val (.int v4), .val (.long v5), .second, .val (.int (x2 &&& (7 : Int32))), .val (.int (x3.toInt8.toInt32)), .val (.ref w_ba), .val (.int nN), .val (.int rq.1), .val (.int (1 : Int32))] [(.int (x3.toInt8.toInt32)), (.long v5), (.int nN), (.int (x2 &&& (7 : Int32))), (.int (5 : Int32)), (.ref w_ba)])) rfl (by rw [hml]; rfl) (argsL := [(.ref w_ba), (.int (5 : Int32)), (.int (x2 &&& (7 : Int32))), (.int nN), (.long v5), (.int (x3.toInt8.toInt32))]) (rest := []) (lenOf pd_2 rfl) rfl (by show 2 * 0 + _ ≤ _; exact Nat.le_of_eq rfl) (hb hby at_368) (fun _ _ => ⟨rfl, ec351_34, (by decide : 1 + 0 ≤ _), (by decide : 18 + 0 ≤ _)⟩)
    dsimp only [Pt.U, Pt.locs, Pt.cells, Pt.slots] at Xc368_35 lc368_35 yc368_35 zc368_35 stc368_35 hQc368_35
    subst lc368_35 yc368_35 zc368_35
    obtain ⟨rfl, rfl, ec368_35⟩ := hQc368_35
    refine Runs.go stc368_35 ?_
    simp only [List.append_nil, Nat.add_zero] at Xc368_35
    have Nc368_35 := Nc351_34
    show Runs p e below s _ _ _ (Tc368_35.setTop (mkF m 371 #[.val (.long v0), .second, .val (.int v2), .val (.int v3), .val (.int v4), .val (.long v5), .second, .val (.int (x2 &&& (7 : Int32))), .val (.int (x3.toInt8.toInt32)), .val (.ref w_ba), .val (.int nN), .val (.int rq.1), .val (.int (1 : Int32))] [(.int zq16)]))
    refine Runs.go (fun _ => XS.ifNo Xc368_35.here hx rfl (hb hby at_371) rfl ((if0 _ _).trans (feq (hne16 : ¬ (zq16 = (0 : Int32)))).1)) ?_
    show Runs p e below s _ _ _ (Tc368_35.setTop (mkF m 374 #[.val (.long v0), .second, .val (.int v2), .val (.int v3), .val (.int v4), .val (.long v5), .second, .val (.int (x2 &&& (7 : Int32))), .val (.int (x3.toInt8.toInt32)), .val (.ref w_ba), .val (.int nN), .val (.int rq.1), .val (.int (1 : Int32))] []))
    refine Runs.go (fun _ => XS.iconst Xc368_35.here hx rfl (hb hby at_374)) ?_
    show Runs p e below s _ _ _ (Tc368_35.setTop (mkF m 375 #[.val (.long v0), .second, .val (.int v2), .val (.int v3), .val (.int v4), .val (.long v5), .second, .val (.int (x2 &&& (7 : Int32))), .val (.int (x3.toInt8.toInt32)), .val (.ref w_ba), .val (.int nN), .val (.int rq.1), .val (.int (1 : Int32))] [(.int (1 : Int32))]))
    refine Runs.go (fun _ => XS.goto Xc368_35.here hx rfl (pc0 := 375) (pc' := 379) rfl (hb hby at_375) (by decide) (by decide)) ?_
    show Runs p e below s _ _ _ (Tc368_35.setTop (mkF m 379 #[.val (.long v0), .second, .val (.int v2), .val (.int v3), .val (.int v4), .val (.long v5), .second, .val (.int (x2 &&& (7 : Int32))), .val (.int (x3.toInt8.toInt32)), .val (.ref w_ba), .val (.int nN), .val (.int rq.1), .val (.int (1 : Int32))] [(.int (1 : Int32))]))
    refine Runs.go (fun _ => XS.istore Xc368_35.here hx rfl (hb hby at_379) rfl (l' := #[.val (.long v0), .second, .val (.int v2), .val (.int v3), .val (.int v4), .val (.long v5), .second, .val (.int (x2 &&& (7 : Int32))), .val (.int (x3.toInt8.toInt32)), .val (.ref w_ba), .val (.int nN), .val (.int rq.1), .val (.int (1 : Int32))]) rfl) ?_
    show Runs p e below s _ _ _ (Tc368_35.setTop (mkF m 381 #[.val (.long v0), .second, .val (.int v2), .val (.int v3), .val (.int v4), .val (.long v5), .second, .val (.int (x2 &&& (7 : Int32))), .val (.int (x3.toInt8.toInt32)), .val (.ref w_ba), .val (.int nN), .val (.int rq.1), .val (.int (1 : Int32))] []))
    refine Runs.go (fun _ => XS.iload Xc368_35.here hx rfl (hb hby at_381) rfl) ?_
    show Runs p e below s _ _ _ (Tc368_35.setTop (mkF m 383 #[.val (.long v0), .second, .val (.int v2), .val (.int v3), .val (.int v4), .val (.long v5), .second, .val (.int (x2 &&& (7 : Int32))), .val (.int (x3.toInt8.toInt32)), .val (.ref w_ba), .val (.int nN), .val (.int rq.1), .val (.int (1 : Int32))] [(.int (1 : Int32))]))
    refine Runs.go (fun _ => XS.ifNo Xc368_35.here hx rfl (hb hby at_383) rfl ((if0 _ _).trans (feq ((by decide) : ¬ ((1 : Int32) = (0 : Int32)))).1)) ?_
    show Runs p e below s _ _ _ (Tc368_35.setTop (mkF m 386 #[.val (.long v0), .second, .val (.int v2), .val (.int v3), .val (.int v4), .val (.long v5), .second, .val (.int (x2 &&& (7 : Int32))), .val (.int (x3.toInt8.toInt32)), .val (.ref w_ba), .val (.int nN), .val (.int rq.1), .val (.int (1 : Int32))] []))
    refine Runs.go (fun _ => XS.aload Xc368_35.here hx rfl (hb hby at_386) rfl rfl) ?_
    show Runs p e below s _ _ _ (Tc368_35.setTop (mkF m 388 #[.val (.long v0), .second, .val (.int v2), .val (.int v3), .val (.int v4), .val (.long v5), .second, .val (.int (x2 &&& (7 : Int32))), .val (.int (x3.toInt8.toInt32)), .val (.ref w_ba), .val (.int nN), .val (.int rq.1), .val (.int (1 : Int32))] [(.ref w_ba)]))
    refine Runs.go (fun _ => XS.bipush Xc368_35.here hx rfl (hb hby at_388)) ?_
    show Runs p e below s _ _ _ (Tc368_35.setTop (mkF m 390 #[.val (.long v0), .second, .val (.int v2), .val (.int v3), .val (.int v4), .val (.long v5), .second, .val (.int (x2 &&& (7 : Int32))), .val (.int (x3.toInt8.toInt32)), .val (.ref w_ba), .val (.int nN), .val (.int rq.1), .val (.int (1 : Int32))] [(.int (6 : Int32)), (.ref w_ba)]))
    refine Runs.go (fun _ => XS.iload Xc368_35.here hx rfl (hb hby at_390) rfl) ?_
    show Runs p e below s _ _ _ (Tc368_35.setTop (mkF m 392 #[.val (.long v0), .second, .val (.int v2), .val (.int v3), .val (.int v4), .val (.long v5), .second, .val (.int (x2 &&& (7 : Int32))), .val (.int (x3.toInt8.toInt32)), .val (.ref w_ba), .val (.int nN), .val (.int rq.1), .val (.int (1 : Int32))] [(.int (x2 &&& (7 : Int32))), (.int (6 : Int32)), (.ref w_ba)]))
    refine Runs.go (fun _ => XS.iload Xc368_35.here hx rfl (hb hby at_392) rfl) ?_
    show Runs p e below s _ _ _ (Tc368_35.setTop (mkF m 394 #[.val (.long v0), .second, .val (.int v2), .val (.int v3), .val (.int v4), .val (.long v5), .second, .val (.int (x2 &&& (7 : Int32))), .val (.int (x3.toInt8.toInt32)), .val (.ref w_ba), .val (.int nN), .val (.int rq.1), .val (.int (1 : Int32))] [(.int nN), (.int (x2 &&& (7 : Int32))), (.int (6 : Int32)), (.ref w_ba)]))
    refine Runs.go (fun _ => XS.lload Xc368_35.here hx rfl (hb hby at_394) rfl) ?_
    show Runs p e below s _ _ _ (Tc368_35.setTop (mkF m 396 #[.val (.long v0), .second, .val (.int v2), .val (.int v3), .val (.int v4), .val (.long v5), .second, .val (.int (x2 &&& (7 : Int32))), .val (.int (x3.toInt8.toInt32)), .val (.ref w_ba), .val (.int nN), .val (.int rq.1), .val (.int (1 : Int32))] [(.long v5), (.int nN), (.int (x2 &&& (7 : Int32))), (.int (6 : Int32)), (.ref w_ba)]))
    refine Runs.go (fun _ => XS.iload Xc368_35.here hx rfl (hb hby at_396) rfl) ?_
    show Runs p e below s _ _ _ (Tc368_35.setTop (mkF m 398 #[.val (.long v0), .second, .val (.int v2), .val (.int v3), .val (.int v4), .val (.long v5), .second, .val (.int (x2 &&& (7 : Int32))), .val (.int (x3.toInt8.toInt32)), .val (.ref w_ba), .val (.int nN), .val (.int rq.1), .val (.int (1 : Int32))] [(.int (x3.toInt8.toInt32)), (.long v5), (.int nN), (.int (x2 &&& (7 : Int32))), (.int (6 : Int32)), (.ref w_ba)]))
    obtain ⟨zq17, hzq17⟩ : ∃ z, F3 (6 : Int32) (x2 &&& (7 : Int32)) nN v5 (x3.toInt8.toInt32) rq.2 = z := ⟨_, rfl⟩
    have hne17 : ¬ zq17 = (0 : Int32) := by rw [← hzq17, ← hrq, ← hN]; exact own_ok v5 x2 x3 6 (by decide) _ (by decide)
    have rmq17 := rm3 l Z a0 hw [] w_ba (6 : Int32) (x2 &&& (7 : Int32)) nN v5 (x3.toInt8.toInt32) rq.2 w_kk Tc233_29.heap n0 hzc233_29 Vc233_29 ⟨by decide, by decide⟩
    rw [hzq17] at rmq17
    obtain ⟨_, _, ⟨Tc398_36, Lc398_36, kc398_36, nc398_36⟩, -, Xc398_36, ⟨Lcc398_36, hQc398_36, lc398_36, yc398_36, zc398_36⟩, stc398_36⟩ := Jvm.LawKit.callS Xc368_35 hx (y := (⟨"com/example/caddis/caddis/index/IndexFormatPutVarintPinLaw", "ok", "([BIIIJB)Z"⟩ : MethodName)) hown (mvT hZ (hw _ (List.mem_of_getElem? (i := 10) rfl))) (mvT hZ (hw _ (List.mem_of_getElem? (i := 11) rfl))) (mvT hZ (hw _ (List.mem_of_getElem? (i := 3) rfl))) (mvT hZ (hw _ (List.mem_of_getElem? (i := 12) rfl))) (by decide) (backOf (W := 0) (rmq17) hZ (hw _ (List.mem_of_getElem? (i := 12) rfl)) (hw _ (List.mem_of_getElem? (i := 3) rfl)) (by decide) (by decide)) (g := (mkF m 398 #[.val (.long v0), .second, .val (.int v2), .val (.int v3), .val (.int v4), .val (.long v5), .second, .val (.int (x2 &&& (7 : Int32))), .val (.int (x3.toInt8.toInt32)), .val (.ref w_ba), .val (.int nN), .val (.int rq.1), .val (.int (1 : Int32))] [(.int (x3.toInt8.toInt32)), (.long v5), (.int nN), (.int (x2 &&& (7 : Int32))), (.int (6 : Int32)), (.ref w_ba)])) rfl (by rw [hml]; rfl) (argsL := [(.ref w_ba), (.int (6 : Int32)), (.int (x2 &&& (7 : Int32))), (.int nN), (.long v5), (.int (x3.toInt8.toInt32))]) (rest := []) (lenOf pd_2 rfl) rfl (by show 2 * 0 + _ ≤ _; exact Nat.le_of_eq rfl) (hb hby at_398) (fun _ _ => ⟨rfl, ec368_35, (by decide : 1 + 0 ≤ _), (by decide : 18 + 0 ≤ _)⟩)
    dsimp only [Pt.U, Pt.locs, Pt.cells, Pt.slots] at Xc398_36 lc398_36 yc398_36 zc398_36 stc398_36 hQc398_36
    subst lc398_36 yc398_36 zc398_36
    obtain ⟨rfl, rfl, ec398_36⟩ := hQc398_36
    refine Runs.go stc398_36 ?_
    simp only [List.append_nil, Nat.add_zero] at Xc398_36
    have Nc398_36 := Nc368_35
    show Runs p e below s _ _ _ (Tc398_36.setTop (mkF m 401 #[.val (.long v0), .second, .val (.int v2), .val (.int v3), .val (.int v4), .val (.long v5), .second, .val (.int (x2 &&& (7 : Int32))), .val (.int (x3.toInt8.toInt32)), .val (.ref w_ba), .val (.int nN), .val (.int rq.1), .val (.int (1 : Int32))] [(.int zq17)]))
    refine Runs.go (fun _ => XS.ifNo Xc398_36.here hx rfl (hb hby at_401) rfl ((if0 _ _).trans (feq (hne17 : ¬ (zq17 = (0 : Int32)))).1)) ?_
    show Runs p e below s _ _ _ (Tc398_36.setTop (mkF m 404 #[.val (.long v0), .second, .val (.int v2), .val (.int v3), .val (.int v4), .val (.long v5), .second, .val (.int (x2 &&& (7 : Int32))), .val (.int (x3.toInt8.toInt32)), .val (.ref w_ba), .val (.int nN), .val (.int rq.1), .val (.int (1 : Int32))] []))
    refine Runs.go (fun _ => XS.aload Xc398_36.here hx rfl (hb hby at_404) rfl rfl) ?_
    show Runs p e below s _ _ _ (Tc398_36.setTop (mkF m 406 #[.val (.long v0), .second, .val (.int v2), .val (.int v3), .val (.int v4), .val (.long v5), .second, .val (.int (x2 &&& (7 : Int32))), .val (.int (x3.toInt8.toInt32)), .val (.ref w_ba), .val (.int nN), .val (.int rq.1), .val (.int (1 : Int32))] [(.ref w_ba)]))
    refine Runs.go (fun _ => XS.bipush Xc398_36.here hx rfl (hb hby at_406)) ?_
    show Runs p e below s _ _ _ (Tc398_36.setTop (mkF m 408 #[.val (.long v0), .second, .val (.int v2), .val (.int v3), .val (.int v4), .val (.long v5), .second, .val (.int (x2 &&& (7 : Int32))), .val (.int (x3.toInt8.toInt32)), .val (.ref w_ba), .val (.int nN), .val (.int rq.1), .val (.int (1 : Int32))] [(.int (7 : Int32)), (.ref w_ba)]))
    refine Runs.go (fun _ => XS.iload Xc398_36.here hx rfl (hb hby at_408) rfl) ?_
    show Runs p e below s _ _ _ (Tc398_36.setTop (mkF m 410 #[.val (.long v0), .second, .val (.int v2), .val (.int v3), .val (.int v4), .val (.long v5), .second, .val (.int (x2 &&& (7 : Int32))), .val (.int (x3.toInt8.toInt32)), .val (.ref w_ba), .val (.int nN), .val (.int rq.1), .val (.int (1 : Int32))] [(.int (x2 &&& (7 : Int32))), (.int (7 : Int32)), (.ref w_ba)]))
    refine Runs.go (fun _ => XS.iload Xc398_36.here hx rfl (hb hby at_410) rfl) ?_
    show Runs p e below s _ _ _ (Tc398_36.setTop (mkF m 412 #[.val (.long v0), .second, .val (.int v2), .val (.int v3), .val (.int v4), .val (.long v5), .second, .val (.int (x2 &&& (7 : Int32))), .val (.int (x3.toInt8.toInt32)), .val (.ref w_ba), .val (.int nN), .val (.int rq.1), .val (.int (1 : Int32))] [(.int nN), (.int (x2 &&& (7 : Int32))), (.int (7 : Int32)), (.ref w_ba)]))
    refine Runs.go (fun _ => XS.lload Xc398_36.here hx rfl (hb hby at_412) rfl) ?_
    show Runs p e below s _ _ _ (Tc398_36.setTop (mkF m 414 #[.val (.long v0), .second, .val (.int v2), .val (.int v3), .val (.int v4), .val (.long v5), .second, .val (.int (x2 &&& (7 : Int32))), .val (.int (x3.toInt8.toInt32)), .val (.ref w_ba), .val (.int nN), .val (.int rq.1), .val (.int (1 : Int32))] [(.long v5), (.int nN), (.int (x2 &&& (7 : Int32))), (.int (7 : Int32)), (.ref w_ba)]))
    refine Runs.go (fun _ => XS.iload Xc398_36.here hx rfl (hb hby at_414) rfl) ?_
    show Runs p e below s _ _ _ (Tc398_36.setTop (mkF m 416 #[.val (.long v0), .second, .val (.int v2), .val (.int v3), .val (.int v4), .val (.long v5), .second, .val (.int (x2 &&& (7 : Int32))), .val (.int (x3.toInt8.toInt32)), .val (.ref w_ba), .val (.int nN), .val (.int rq.1), .val (.int (1 : Int32))] [(.int (x3.toInt8.toInt32)), (.long v5), (.int nN), (.int (x2 &&& (7 : Int32))), (.int (7 : Int32)), (.ref w_ba)]))
    obtain ⟨zq18, hzq18⟩ : ∃ z, F3 (7 : Int32) (x2 &&& (7 : Int32)) nN v5 (x3.toInt8.toInt32) rq.2 = z := ⟨_, rfl⟩
    have hne18 : ¬ zq18 = (0 : Int32) := by rw [← hzq18, ← hrq, ← hN]; exact own_ok v5 x2 x3 7 (by decide) _ (by decide)
    have rmq18 := rm3 l Z a0 hw [] w_ba (7 : Int32) (x2 &&& (7 : Int32)) nN v5 (x3.toInt8.toInt32) rq.2 w_kk Tc233_29.heap n0 hzc233_29 Vc233_29 ⟨by decide, by decide⟩
    rw [hzq18] at rmq18
    obtain ⟨_, _, ⟨Tc416_37, Lc416_37, kc416_37, nc416_37⟩, -, Xc416_37, ⟨Lcc416_37, hQc416_37, lc416_37, yc416_37, zc416_37⟩, stc416_37⟩ := Jvm.LawKit.callS Xc398_36 hx (y := (⟨"com/example/caddis/caddis/index/IndexFormatPutVarintPinLaw", "ok", "([BIIIJB)Z"⟩ : MethodName)) hown (mvT hZ (hw _ (List.mem_of_getElem? (i := 10) rfl))) (mvT hZ (hw _ (List.mem_of_getElem? (i := 11) rfl))) (mvT hZ (hw _ (List.mem_of_getElem? (i := 3) rfl))) (mvT hZ (hw _ (List.mem_of_getElem? (i := 12) rfl))) (by decide) (backOf (W := 0) (rmq18) hZ (hw _ (List.mem_of_getElem? (i := 12) rfl)) (hw _ (List.mem_of_getElem? (i := 3) rfl)) (by decide) (by decide)) (g := (mkF m 416 #[.val (.long v0), .second, .val (.int v2), .val (.int v3), .val (.int v4), .val (.long v5), .second, .val (.int (x2 &&& (7 : Int32))), .val (.int (x3.toInt8.toInt32)), .val (.ref w_ba), .val (.int nN), .val (.int rq.1), .val (.int (1 : Int32))] [(.int (x3.toInt8.toInt32)), (.long v5), (.int nN), (.int (x2 &&& (7 : Int32))), (.int (7 : Int32)), (.ref w_ba)])) rfl (by rw [hml]; rfl) (argsL := [(.ref w_ba), (.int (7 : Int32)), (.int (x2 &&& (7 : Int32))), (.int nN), (.long v5), (.int (x3.toInt8.toInt32))]) (rest := []) (lenOf pd_2 rfl) rfl (by show 2 * 0 + _ ≤ _; exact Nat.le_of_eq rfl) (hb hby at_416) (fun _ _ => ⟨rfl, ec398_36, (by decide : 1 + 0 ≤ _), (by decide : 18 + 0 ≤ _)⟩)
    dsimp only [Pt.U, Pt.locs, Pt.cells, Pt.slots] at Xc416_37 lc416_37 yc416_37 zc416_37 stc416_37 hQc416_37
    subst lc416_37 yc416_37 zc416_37
    obtain ⟨rfl, rfl, ec416_37⟩ := hQc416_37
    refine Runs.go stc416_37 ?_
    simp only [List.append_nil, Nat.add_zero] at Xc416_37
    have Nc416_37 := Nc398_36
    show Runs p e below s _ _ _ (Tc416_37.setTop (mkF m 419 #[.val (.long v0), .second, .val (.int v2), .val (.int v3), .val (.int v4), .val (.long v5), .second, .val (.int (x2 &&& (7 : Int32))), .val (.int (x3.toInt8.toInt32)), .val (.ref w_ba), .val (.int nN), .val (.int rq.1), .val (.int (1 : Int32))] [(.int zq18)]))
    refine Runs.go (fun _ => XS.ifNo Xc416_37.here hx rfl (hb hby at_419) rfl ((if0 _ _).trans (feq (hne18 : ¬ (zq18 = (0 : Int32)))).1)) ?_
    show Runs p e below s _ _ _ (Tc416_37.setTop (mkF m 422 #[.val (.long v0), .second, .val (.int v2), .val (.int v3), .val (.int v4), .val (.long v5), .second, .val (.int (x2 &&& (7 : Int32))), .val (.int (x3.toInt8.toInt32)), .val (.ref w_ba), .val (.int nN), .val (.int rq.1), .val (.int (1 : Int32))] []))
    refine Runs.go (fun _ => XS.aload Xc416_37.here hx rfl (hb hby at_422) rfl rfl) ?_
    show Runs p e below s _ _ _ (Tc416_37.setTop (mkF m 424 #[.val (.long v0), .second, .val (.int v2), .val (.int v3), .val (.int v4), .val (.long v5), .second, .val (.int (x2 &&& (7 : Int32))), .val (.int (x3.toInt8.toInt32)), .val (.ref w_ba), .val (.int nN), .val (.int rq.1), .val (.int (1 : Int32))] [(.ref w_ba)]))
    refine Runs.go (fun _ => XS.bipush Xc416_37.here hx rfl (hb hby at_424)) ?_
    show Runs p e below s _ _ _ (Tc416_37.setTop (mkF m 426 #[.val (.long v0), .second, .val (.int v2), .val (.int v3), .val (.int v4), .val (.long v5), .second, .val (.int (x2 &&& (7 : Int32))), .val (.int (x3.toInt8.toInt32)), .val (.ref w_ba), .val (.int nN), .val (.int rq.1), .val (.int (1 : Int32))] [(.int (8 : Int32)), (.ref w_ba)]))
    refine Runs.go (fun _ => XS.iload Xc416_37.here hx rfl (hb hby at_426) rfl) ?_
    show Runs p e below s _ _ _ (Tc416_37.setTop (mkF m 428 #[.val (.long v0), .second, .val (.int v2), .val (.int v3), .val (.int v4), .val (.long v5), .second, .val (.int (x2 &&& (7 : Int32))), .val (.int (x3.toInt8.toInt32)), .val (.ref w_ba), .val (.int nN), .val (.int rq.1), .val (.int (1 : Int32))] [(.int (x2 &&& (7 : Int32))), (.int (8 : Int32)), (.ref w_ba)]))
    refine Runs.go (fun _ => XS.iload Xc416_37.here hx rfl (hb hby at_428) rfl) ?_
    show Runs p e below s _ _ _ (Tc416_37.setTop (mkF m 430 #[.val (.long v0), .second, .val (.int v2), .val (.int v3), .val (.int v4), .val (.long v5), .second, .val (.int (x2 &&& (7 : Int32))), .val (.int (x3.toInt8.toInt32)), .val (.ref w_ba), .val (.int nN), .val (.int rq.1), .val (.int (1 : Int32))] [(.int nN), (.int (x2 &&& (7 : Int32))), (.int (8 : Int32)), (.ref w_ba)]))
    refine Runs.go (fun _ => XS.lload Xc416_37.here hx rfl (hb hby at_430) rfl) ?_
    show Runs p e below s _ _ _ (Tc416_37.setTop (mkF m 432 #[.val (.long v0), .second, .val (.int v2), .val (.int v3), .val (.int v4), .val (.long v5), .second, .val (.int (x2 &&& (7 : Int32))), .val (.int (x3.toInt8.toInt32)), .val (.ref w_ba), .val (.int nN), .val (.int rq.1), .val (.int (1 : Int32))] [(.long v5), (.int nN), (.int (x2 &&& (7 : Int32))), (.int (8 : Int32)), (.ref w_ba)]))
    refine Runs.go (fun _ => XS.iload Xc416_37.here hx rfl (hb hby at_432) rfl) ?_
    show Runs p e below s _ _ _ (Tc416_37.setTop (mkF m 434 #[.val (.long v0), .second, .val (.int v2), .val (.int v3), .val (.int v4), .val (.long v5), .second, .val (.int (x2 &&& (7 : Int32))), .val (.int (x3.toInt8.toInt32)), .val (.ref w_ba), .val (.int nN), .val (.int rq.1), .val (.int (1 : Int32))] [(.int (x3.toInt8.toInt32)), (.long v5), (.int nN), (.int (x2 &&& (7 : Int32))), (.int (8 : Int32)), (.ref w_ba)]))
    obtain ⟨zq19, hzq19⟩ : ∃ z, F3 (8 : Int32) (x2 &&& (7 : Int32)) nN v5 (x3.toInt8.toInt32) rq.2 = z := ⟨_, rfl⟩
    have hne19 : ¬ zq19 = (0 : Int32) := by rw [← hzq19, ← hrq, ← hN]; exact own_ok v5 x2 x3 8 (by decide) _ (by decide)
    have rmq19 := rm3 l Z a0 hw [] w_ba (8 : Int32) (x2 &&& (7 : Int32)) nN v5 (x3.toInt8.toInt32) rq.2 w_kk Tc233_29.heap n0 hzc233_29 Vc233_29 ⟨by decide, by decide⟩
    rw [hzq19] at rmq19
    obtain ⟨_, _, ⟨Tc434_38, Lc434_38, kc434_38, nc434_38⟩, -, Xc434_38, ⟨Lcc434_38, hQc434_38, lc434_38, yc434_38, zc434_38⟩, stc434_38⟩ := Jvm.LawKit.callS Xc416_37 hx (y := (⟨"com/example/caddis/caddis/index/IndexFormatPutVarintPinLaw", "ok", "([BIIIJB)Z"⟩ : MethodName)) hown (mvT hZ (hw _ (List.mem_of_getElem? (i := 10) rfl))) (mvT hZ (hw _ (List.mem_of_getElem? (i := 11) rfl))) (mvT hZ (hw _ (List.mem_of_getElem? (i := 3) rfl))) (mvT hZ (hw _ (List.mem_of_getElem? (i := 12) rfl))) (by decide) (backOf (W := 0) (rmq19) hZ (hw _ (List.mem_of_getElem? (i := 12) rfl)) (hw _ (List.mem_of_getElem? (i := 3) rfl)) (by decide) (by decide)) (g := (mkF m 434 #[.val (.long v0), .second, .val (.int v2), .val (.int v3), .val (.int v4), .val (.long v5), .second, .val (.int (x2 &&& (7 : Int32))), .val (.int (x3.toInt8.toInt32)), .val (.ref w_ba), .val (.int nN), .val (.int rq.1), .val (.int (1 : Int32))] [(.int (x3.toInt8.toInt32)), (.long v5), (.int nN), (.int (x2 &&& (7 : Int32))), (.int (8 : Int32)), (.ref w_ba)])) rfl (by rw [hml]; rfl) (argsL := [(.ref w_ba), (.int (8 : Int32)), (.int (x2 &&& (7 : Int32))), (.int nN), (.long v5), (.int (x3.toInt8.toInt32))]) (rest := []) (lenOf pd_2 rfl) rfl (by show 2 * 0 + _ ≤ _; exact Nat.le_of_eq rfl) (hb hby at_434) (fun _ _ => ⟨rfl, ec416_37, (by decide : 1 + 0 ≤ _), (by decide : 18 + 0 ≤ _)⟩)
    dsimp only [Pt.U, Pt.locs, Pt.cells, Pt.slots] at Xc434_38 lc434_38 yc434_38 zc434_38 stc434_38 hQc434_38
    subst lc434_38 yc434_38 zc434_38
    obtain ⟨rfl, rfl, ec434_38⟩ := hQc434_38
    refine Runs.go stc434_38 ?_
    simp only [List.append_nil, Nat.add_zero] at Xc434_38
    have Nc434_38 := Nc416_37
    show Runs p e below s _ _ _ (Tc434_38.setTop (mkF m 437 #[.val (.long v0), .second, .val (.int v2), .val (.int v3), .val (.int v4), .val (.long v5), .second, .val (.int (x2 &&& (7 : Int32))), .val (.int (x3.toInt8.toInt32)), .val (.ref w_ba), .val (.int nN), .val (.int rq.1), .val (.int (1 : Int32))] [(.int zq19)]))
    refine Runs.go (fun _ => XS.ifNo Xc434_38.here hx rfl (hb hby at_437) rfl ((if0 _ _).trans (feq (hne19 : ¬ (zq19 = (0 : Int32)))).1)) ?_
    show Runs p e below s _ _ _ (Tc434_38.setTop (mkF m 440 #[.val (.long v0), .second, .val (.int v2), .val (.int v3), .val (.int v4), .val (.long v5), .second, .val (.int (x2 &&& (7 : Int32))), .val (.int (x3.toInt8.toInt32)), .val (.ref w_ba), .val (.int nN), .val (.int rq.1), .val (.int (1 : Int32))] []))
    refine Runs.go (fun _ => XS.iconst Xc434_38.here hx rfl (hb hby at_440)) ?_
    show Runs p e below s _ _ _ (Tc434_38.setTop (mkF m 441 #[.val (.long v0), .second, .val (.int v2), .val (.int v3), .val (.int v4), .val (.long v5), .second, .val (.int (x2 &&& (7 : Int32))), .val (.int (x3.toInt8.toInt32)), .val (.ref w_ba), .val (.int nN), .val (.int rq.1), .val (.int (1 : Int32))] [(.int (1 : Int32))]))
    refine Runs.go (fun _ => XS.goto Xc434_38.here hx rfl (pc0 := 441) (pc' := 445) rfl (hb hby at_441) (by decide) (by decide)) ?_
    show Runs p e below s _ _ _ (Tc434_38.setTop (mkF m 445 #[.val (.long v0), .second, .val (.int v2), .val (.int v3), .val (.int v4), .val (.long v5), .second, .val (.int (x2 &&& (7 : Int32))), .val (.int (x3.toInt8.toInt32)), .val (.ref w_ba), .val (.int nN), .val (.int rq.1), .val (.int (1 : Int32))] [(.int (1 : Int32))]))
    refine Runs.go (fun _ => XS.istore Xc434_38.here hx rfl (hb hby at_445) rfl (l' := #[.val (.long v0), .second, .val (.int v2), .val (.int v3), .val (.int v4), .val (.long v5), .second, .val (.int (x2 &&& (7 : Int32))), .val (.int (x3.toInt8.toInt32)), .val (.ref w_ba), .val (.int nN), .val (.int rq.1), .val (.int (1 : Int32))]) rfl) ?_
    show Runs p e below s _ _ _ (Tc434_38.setTop (mkF m 447 #[.val (.long v0), .second, .val (.int v2), .val (.int v3), .val (.int v4), .val (.long v5), .second, .val (.int (x2 &&& (7 : Int32))), .val (.int (x3.toInt8.toInt32)), .val (.ref w_ba), .val (.int nN), .val (.int rq.1), .val (.int (1 : Int32))] []))
    refine Runs.go (fun _ => XS.iload Xc434_38.here hx rfl (hb hby at_447) rfl) ?_
    show Runs p e below s _ _ _ (Tc434_38.setTop (mkF m 449 #[.val (.long v0), .second, .val (.int v2), .val (.int v3), .val (.int v4), .val (.long v5), .second, .val (.int (x2 &&& (7 : Int32))), .val (.int (x3.toInt8.toInt32)), .val (.ref w_ba), .val (.int nN), .val (.int rq.1), .val (.int (1 : Int32))] [(.int (1 : Int32))]))
    refine Runs.go (fun _ => XS.ifNo Xc434_38.here hx rfl (hb hby at_449) rfl ((if0 _ _).trans (feq ((by decide) : ¬ ((1 : Int32) = (0 : Int32)))).1)) ?_
    show Runs p e below s _ _ _ (Tc434_38.setTop (mkF m 452 #[.val (.long v0), .second, .val (.int v2), .val (.int v3), .val (.int v4), .val (.long v5), .second, .val (.int (x2 &&& (7 : Int32))), .val (.int (x3.toInt8.toInt32)), .val (.ref w_ba), .val (.int nN), .val (.int rq.1), .val (.int (1 : Int32))] []))
    refine Runs.go (fun _ => XS.aload Xc434_38.here hx rfl (hb hby at_452) rfl rfl) ?_
    show Runs p e below s _ _ _ (Tc434_38.setTop (mkF m 454 #[.val (.long v0), .second, .val (.int v2), .val (.int v3), .val (.int v4), .val (.long v5), .second, .val (.int (x2 &&& (7 : Int32))), .val (.int (x3.toInt8.toInt32)), .val (.ref w_ba), .val (.int nN), .val (.int rq.1), .val (.int (1 : Int32))] [(.ref w_ba)]))
    refine Runs.go (fun _ => XS.bipush Xc434_38.here hx rfl (hb hby at_454)) ?_
    show Runs p e below s _ _ _ (Tc434_38.setTop (mkF m 456 #[.val (.long v0), .second, .val (.int v2), .val (.int v3), .val (.int v4), .val (.long v5), .second, .val (.int (x2 &&& (7 : Int32))), .val (.int (x3.toInt8.toInt32)), .val (.ref w_ba), .val (.int nN), .val (.int rq.1), .val (.int (1 : Int32))] [(.int (9 : Int32)), (.ref w_ba)]))
    refine Runs.go (fun _ => XS.iload Xc434_38.here hx rfl (hb hby at_456) rfl) ?_
    show Runs p e below s _ _ _ (Tc434_38.setTop (mkF m 458 #[.val (.long v0), .second, .val (.int v2), .val (.int v3), .val (.int v4), .val (.long v5), .second, .val (.int (x2 &&& (7 : Int32))), .val (.int (x3.toInt8.toInt32)), .val (.ref w_ba), .val (.int nN), .val (.int rq.1), .val (.int (1 : Int32))] [(.int (x2 &&& (7 : Int32))), (.int (9 : Int32)), (.ref w_ba)]))
    refine Runs.go (fun _ => XS.iload Xc434_38.here hx rfl (hb hby at_458) rfl) ?_
    show Runs p e below s _ _ _ (Tc434_38.setTop (mkF m 460 #[.val (.long v0), .second, .val (.int v2), .val (.int v3), .val (.int v4), .val (.long v5), .second, .val (.int (x2 &&& (7 : Int32))), .val (.int (x3.toInt8.toInt32)), .val (.ref w_ba), .val (.int nN), .val (.int rq.1), .val (.int (1 : Int32))] [(.int nN), (.int (x2 &&& (7 : Int32))), (.int (9 : Int32)), (.ref w_ba)]))
    refine Runs.go (fun _ => XS.lload Xc434_38.here hx rfl (hb hby at_460) rfl) ?_
    show Runs p e below s _ _ _ (Tc434_38.setTop (mkF m 462 #[.val (.long v0), .second, .val (.int v2), .val (.int v3), .val (.int v4), .val (.long v5), .second, .val (.int (x2 &&& (7 : Int32))), .val (.int (x3.toInt8.toInt32)), .val (.ref w_ba), .val (.int nN), .val (.int rq.1), .val (.int (1 : Int32))] [(.long v5), (.int nN), (.int (x2 &&& (7 : Int32))), (.int (9 : Int32)), (.ref w_ba)]))
    refine Runs.go (fun _ => XS.iload Xc434_38.here hx rfl (hb hby at_462) rfl) ?_
    show Runs p e below s _ _ _ (Tc434_38.setTop (mkF m 464 #[.val (.long v0), .second, .val (.int v2), .val (.int v3), .val (.int v4), .val (.long v5), .second, .val (.int (x2 &&& (7 : Int32))), .val (.int (x3.toInt8.toInt32)), .val (.ref w_ba), .val (.int nN), .val (.int rq.1), .val (.int (1 : Int32))] [(.int (x3.toInt8.toInt32)), (.long v5), (.int nN), (.int (x2 &&& (7 : Int32))), (.int (9 : Int32)), (.ref w_ba)]))
    obtain ⟨zq20, hzq20⟩ : ∃ z, F3 (9 : Int32) (x2 &&& (7 : Int32)) nN v5 (x3.toInt8.toInt32) rq.2 = z := ⟨_, rfl⟩
    have hne20 : ¬ zq20 = (0 : Int32) := by rw [← hzq20, ← hrq, ← hN]; exact own_ok v5 x2 x3 9 (by decide) _ (by decide)
    have rmq20 := rm3 l Z a0 hw [] w_ba (9 : Int32) (x2 &&& (7 : Int32)) nN v5 (x3.toInt8.toInt32) rq.2 w_kk Tc233_29.heap n0 hzc233_29 Vc233_29 ⟨by decide, by decide⟩
    rw [hzq20] at rmq20
    obtain ⟨_, _, ⟨Tc464_39, Lc464_39, kc464_39, nc464_39⟩, -, Xc464_39, ⟨Lcc464_39, hQc464_39, lc464_39, yc464_39, zc464_39⟩, stc464_39⟩ := Jvm.LawKit.callS Xc434_38 hx (y := (⟨"com/example/caddis/caddis/index/IndexFormatPutVarintPinLaw", "ok", "([BIIIJB)Z"⟩ : MethodName)) hown (mvT hZ (hw _ (List.mem_of_getElem? (i := 10) rfl))) (mvT hZ (hw _ (List.mem_of_getElem? (i := 11) rfl))) (mvT hZ (hw _ (List.mem_of_getElem? (i := 3) rfl))) (mvT hZ (hw _ (List.mem_of_getElem? (i := 12) rfl))) (by decide) (backOf (W := 0) (rmq20) hZ (hw _ (List.mem_of_getElem? (i := 12) rfl)) (hw _ (List.mem_of_getElem? (i := 3) rfl)) (by decide) (by decide)) (g := (mkF m 464 #[.val (.long v0), .second, .val (.int v2), .val (.int v3), .val (.int v4), .val (.long v5), .second, .val (.int (x2 &&& (7 : Int32))), .val (.int (x3.toInt8.toInt32)), .val (.ref w_ba), .val (.int nN), .val (.int rq.1), .val (.int (1 : Int32))] [(.int (x3.toInt8.toInt32)), (.long v5), (.int nN), (.int (x2 &&& (7 : Int32))), (.int (9 : Int32)), (.ref w_ba)])) rfl (by rw [hml]; rfl) (argsL := [(.ref w_ba), (.int (9 : Int32)), (.int (x2 &&& (7 : Int32))), (.int nN), (.long v5), (.int (x3.toInt8.toInt32))]) (rest := []) (lenOf pd_2 rfl) rfl (by show 2 * 0 + _ ≤ _; exact Nat.le_of_eq rfl) (hb hby at_464) (fun _ _ => ⟨rfl, ec434_38, (by decide : 1 + 0 ≤ _), (by decide : 18 + 0 ≤ _)⟩)
    dsimp only [Pt.U, Pt.locs, Pt.cells, Pt.slots] at Xc464_39 lc464_39 yc464_39 zc464_39 stc464_39 hQc464_39
    subst lc464_39 yc464_39 zc464_39
    obtain ⟨rfl, rfl, ec464_39⟩ := hQc464_39
    refine Runs.go stc464_39 ?_
    simp only [List.append_nil, Nat.add_zero] at Xc464_39
    have Nc464_39 := Nc434_38
    show Runs p e below s _ _ _ (Tc464_39.setTop (mkF m 467 #[.val (.long v0), .second, .val (.int v2), .val (.int v3), .val (.int v4), .val (.long v5), .second, .val (.int (x2 &&& (7 : Int32))), .val (.int (x3.toInt8.toInt32)), .val (.ref w_ba), .val (.int nN), .val (.int rq.1), .val (.int (1 : Int32))] [(.int zq20)]))
    refine Runs.go (fun _ => XS.ifNo Xc464_39.here hx rfl (hb hby at_467) rfl ((if0 _ _).trans (feq (hne20 : ¬ (zq20 = (0 : Int32)))).1)) ?_
    show Runs p e below s _ _ _ (Tc464_39.setTop (mkF m 470 #[.val (.long v0), .second, .val (.int v2), .val (.int v3), .val (.int v4), .val (.long v5), .second, .val (.int (x2 &&& (7 : Int32))), .val (.int (x3.toInt8.toInt32)), .val (.ref w_ba), .val (.int nN), .val (.int rq.1), .val (.int (1 : Int32))] []))
    refine Runs.go (fun _ => XS.aload Xc464_39.here hx rfl (hb hby at_470) rfl rfl) ?_
    show Runs p e below s _ _ _ (Tc464_39.setTop (mkF m 472 #[.val (.long v0), .second, .val (.int v2), .val (.int v3), .val (.int v4), .val (.long v5), .second, .val (.int (x2 &&& (7 : Int32))), .val (.int (x3.toInt8.toInt32)), .val (.ref w_ba), .val (.int nN), .val (.int rq.1), .val (.int (1 : Int32))] [(.ref w_ba)]))
    refine Runs.go (fun _ => XS.bipush Xc464_39.here hx rfl (hb hby at_472)) ?_
    show Runs p e below s _ _ _ (Tc464_39.setTop (mkF m 474 #[.val (.long v0), .second, .val (.int v2), .val (.int v3), .val (.int v4), .val (.long v5), .second, .val (.int (x2 &&& (7 : Int32))), .val (.int (x3.toInt8.toInt32)), .val (.ref w_ba), .val (.int nN), .val (.int rq.1), .val (.int (1 : Int32))] [(.int (10 : Int32)), (.ref w_ba)]))
    refine Runs.go (fun _ => XS.iload Xc464_39.here hx rfl (hb hby at_474) rfl) ?_
    show Runs p e below s _ _ _ (Tc464_39.setTop (mkF m 476 #[.val (.long v0), .second, .val (.int v2), .val (.int v3), .val (.int v4), .val (.long v5), .second, .val (.int (x2 &&& (7 : Int32))), .val (.int (x3.toInt8.toInt32)), .val (.ref w_ba), .val (.int nN), .val (.int rq.1), .val (.int (1 : Int32))] [(.int (x2 &&& (7 : Int32))), (.int (10 : Int32)), (.ref w_ba)]))
    refine Runs.go (fun _ => XS.iload Xc464_39.here hx rfl (hb hby at_476) rfl) ?_
    show Runs p e below s _ _ _ (Tc464_39.setTop (mkF m 478 #[.val (.long v0), .second, .val (.int v2), .val (.int v3), .val (.int v4), .val (.long v5), .second, .val (.int (x2 &&& (7 : Int32))), .val (.int (x3.toInt8.toInt32)), .val (.ref w_ba), .val (.int nN), .val (.int rq.1), .val (.int (1 : Int32))] [(.int nN), (.int (x2 &&& (7 : Int32))), (.int (10 : Int32)), (.ref w_ba)]))
    refine Runs.go (fun _ => XS.lload Xc464_39.here hx rfl (hb hby at_478) rfl) ?_
    show Runs p e below s _ _ _ (Tc464_39.setTop (mkF m 480 #[.val (.long v0), .second, .val (.int v2), .val (.int v3), .val (.int v4), .val (.long v5), .second, .val (.int (x2 &&& (7 : Int32))), .val (.int (x3.toInt8.toInt32)), .val (.ref w_ba), .val (.int nN), .val (.int rq.1), .val (.int (1 : Int32))] [(.long v5), (.int nN), (.int (x2 &&& (7 : Int32))), (.int (10 : Int32)), (.ref w_ba)]))
    refine Runs.go (fun _ => XS.iload Xc464_39.here hx rfl (hb hby at_480) rfl) ?_
    show Runs p e below s _ _ _ (Tc464_39.setTop (mkF m 482 #[.val (.long v0), .second, .val (.int v2), .val (.int v3), .val (.int v4), .val (.long v5), .second, .val (.int (x2 &&& (7 : Int32))), .val (.int (x3.toInt8.toInt32)), .val (.ref w_ba), .val (.int nN), .val (.int rq.1), .val (.int (1 : Int32))] [(.int (x3.toInt8.toInt32)), (.long v5), (.int nN), (.int (x2 &&& (7 : Int32))), (.int (10 : Int32)), (.ref w_ba)]))
    obtain ⟨zq21, hzq21⟩ : ∃ z, F3 (10 : Int32) (x2 &&& (7 : Int32)) nN v5 (x3.toInt8.toInt32) rq.2 = z := ⟨_, rfl⟩
    have hne21 : ¬ zq21 = (0 : Int32) := by rw [← hzq21, ← hrq, ← hN]; exact own_ok v5 x2 x3 10 (by decide) _ (by decide)
    have rmq21 := rm3 l Z a0 hw [] w_ba (10 : Int32) (x2 &&& (7 : Int32)) nN v5 (x3.toInt8.toInt32) rq.2 w_kk Tc233_29.heap n0 hzc233_29 Vc233_29 ⟨by decide, by decide⟩
    rw [hzq21] at rmq21
    obtain ⟨_, _, ⟨Tc482_40, Lc482_40, kc482_40, nc482_40⟩, -, Xc482_40, ⟨Lcc482_40, hQc482_40, lc482_40, yc482_40, zc482_40⟩, stc482_40⟩ := Jvm.LawKit.callS Xc464_39 hx (y := (⟨"com/example/caddis/caddis/index/IndexFormatPutVarintPinLaw", "ok", "([BIIIJB)Z"⟩ : MethodName)) hown (mvT hZ (hw _ (List.mem_of_getElem? (i := 10) rfl))) (mvT hZ (hw _ (List.mem_of_getElem? (i := 11) rfl))) (mvT hZ (hw _ (List.mem_of_getElem? (i := 3) rfl))) (mvT hZ (hw _ (List.mem_of_getElem? (i := 12) rfl))) (by decide) (backOf (W := 0) (rmq21) hZ (hw _ (List.mem_of_getElem? (i := 12) rfl)) (hw _ (List.mem_of_getElem? (i := 3) rfl)) (by decide) (by decide)) (g := (mkF m 482 #[.val (.long v0), .second, .val (.int v2), .val (.int v3), .val (.int v4), .val (.long v5), .second, .val (.int (x2 &&& (7 : Int32))), .val (.int (x3.toInt8.toInt32)), .val (.ref w_ba), .val (.int nN), .val (.int rq.1), .val (.int (1 : Int32))] [(.int (x3.toInt8.toInt32)), (.long v5), (.int nN), (.int (x2 &&& (7 : Int32))), (.int (10 : Int32)), (.ref w_ba)])) rfl (by rw [hml]; rfl) (argsL := [(.ref w_ba), (.int (10 : Int32)), (.int (x2 &&& (7 : Int32))), (.int nN), (.long v5), (.int (x3.toInt8.toInt32))]) (rest := []) (lenOf pd_2 rfl) rfl (by show 2 * 0 + _ ≤ _; exact Nat.le_of_eq rfl) (hb hby at_482) (fun _ _ => ⟨rfl, ec464_39, (by decide : 1 + 0 ≤ _), (by decide : 18 + 0 ≤ _)⟩)
    dsimp only [Pt.U, Pt.locs, Pt.cells, Pt.slots] at Xc482_40 lc482_40 yc482_40 zc482_40 stc482_40 hQc482_40
    subst lc482_40 yc482_40 zc482_40
    obtain ⟨rfl, rfl, ec482_40⟩ := hQc482_40
    refine Runs.go stc482_40 ?_
    simp only [List.append_nil, Nat.add_zero] at Xc482_40
    have Nc482_40 := Nc464_39
    show Runs p e below s _ _ _ (Tc482_40.setTop (mkF m 485 #[.val (.long v0), .second, .val (.int v2), .val (.int v3), .val (.int v4), .val (.long v5), .second, .val (.int (x2 &&& (7 : Int32))), .val (.int (x3.toInt8.toInt32)), .val (.ref w_ba), .val (.int nN), .val (.int rq.1), .val (.int (1 : Int32))] [(.int zq21)]))
    refine Runs.go (fun _ => XS.ifNo Xc482_40.here hx rfl (hb hby at_485) rfl ((if0 _ _).trans (feq (hne21 : ¬ (zq21 = (0 : Int32)))).1)) ?_
    show Runs p e below s _ _ _ (Tc482_40.setTop (mkF m 488 #[.val (.long v0), .second, .val (.int v2), .val (.int v3), .val (.int v4), .val (.long v5), .second, .val (.int (x2 &&& (7 : Int32))), .val (.int (x3.toInt8.toInt32)), .val (.ref w_ba), .val (.int nN), .val (.int rq.1), .val (.int (1 : Int32))] []))
    refine Runs.go (fun _ => XS.aload Xc482_40.here hx rfl (hb hby at_488) rfl rfl) ?_
    show Runs p e below s _ _ _ (Tc482_40.setTop (mkF m 490 #[.val (.long v0), .second, .val (.int v2), .val (.int v3), .val (.int v4), .val (.long v5), .second, .val (.int (x2 &&& (7 : Int32))), .val (.int (x3.toInt8.toInt32)), .val (.ref w_ba), .val (.int nN), .val (.int rq.1), .val (.int (1 : Int32))] [(.ref w_ba)]))
    refine Runs.go (fun _ => XS.bipush Xc482_40.here hx rfl (hb hby at_490)) ?_
    show Runs p e below s _ _ _ (Tc482_40.setTop (mkF m 492 #[.val (.long v0), .second, .val (.int v2), .val (.int v3), .val (.int v4), .val (.long v5), .second, .val (.int (x2 &&& (7 : Int32))), .val (.int (x3.toInt8.toInt32)), .val (.ref w_ba), .val (.int nN), .val (.int rq.1), .val (.int (1 : Int32))] [(.int (11 : Int32)), (.ref w_ba)]))
    refine Runs.go (fun _ => XS.iload Xc482_40.here hx rfl (hb hby at_492) rfl) ?_
    show Runs p e below s _ _ _ (Tc482_40.setTop (mkF m 494 #[.val (.long v0), .second, .val (.int v2), .val (.int v3), .val (.int v4), .val (.long v5), .second, .val (.int (x2 &&& (7 : Int32))), .val (.int (x3.toInt8.toInt32)), .val (.ref w_ba), .val (.int nN), .val (.int rq.1), .val (.int (1 : Int32))] [(.int (x2 &&& (7 : Int32))), (.int (11 : Int32)), (.ref w_ba)]))
    refine Runs.go (fun _ => XS.iload Xc482_40.here hx rfl (hb hby at_494) rfl) ?_
    show Runs p e below s _ _ _ (Tc482_40.setTop (mkF m 496 #[.val (.long v0), .second, .val (.int v2), .val (.int v3), .val (.int v4), .val (.long v5), .second, .val (.int (x2 &&& (7 : Int32))), .val (.int (x3.toInt8.toInt32)), .val (.ref w_ba), .val (.int nN), .val (.int rq.1), .val (.int (1 : Int32))] [(.int nN), (.int (x2 &&& (7 : Int32))), (.int (11 : Int32)), (.ref w_ba)]))
    refine Runs.go (fun _ => XS.lload Xc482_40.here hx rfl (hb hby at_496) rfl) ?_
    show Runs p e below s _ _ _ (Tc482_40.setTop (mkF m 498 #[.val (.long v0), .second, .val (.int v2), .val (.int v3), .val (.int v4), .val (.long v5), .second, .val (.int (x2 &&& (7 : Int32))), .val (.int (x3.toInt8.toInt32)), .val (.ref w_ba), .val (.int nN), .val (.int rq.1), .val (.int (1 : Int32))] [(.long v5), (.int nN), (.int (x2 &&& (7 : Int32))), (.int (11 : Int32)), (.ref w_ba)]))
    refine Runs.go (fun _ => XS.iload Xc482_40.here hx rfl (hb hby at_498) rfl) ?_
    show Runs p e below s _ _ _ (Tc482_40.setTop (mkF m 500 #[.val (.long v0), .second, .val (.int v2), .val (.int v3), .val (.int v4), .val (.long v5), .second, .val (.int (x2 &&& (7 : Int32))), .val (.int (x3.toInt8.toInt32)), .val (.ref w_ba), .val (.int nN), .val (.int rq.1), .val (.int (1 : Int32))] [(.int (x3.toInt8.toInt32)), (.long v5), (.int nN), (.int (x2 &&& (7 : Int32))), (.int (11 : Int32)), (.ref w_ba)]))
    obtain ⟨zq22, hzq22⟩ : ∃ z, F3 (11 : Int32) (x2 &&& (7 : Int32)) nN v5 (x3.toInt8.toInt32) rq.2 = z := ⟨_, rfl⟩
    have hne22 : ¬ zq22 = (0 : Int32) := by rw [← hzq22, ← hrq, ← hN]; exact own_ok v5 x2 x3 11 (by decide) _ (by decide)
    have rmq22 := rm3 l Z a0 hw [] w_ba (11 : Int32) (x2 &&& (7 : Int32)) nN v5 (x3.toInt8.toInt32) rq.2 w_kk Tc233_29.heap n0 hzc233_29 Vc233_29 ⟨by decide, by decide⟩
    rw [hzq22] at rmq22
    obtain ⟨_, _, ⟨Tc500_41, Lc500_41, kc500_41, nc500_41⟩, -, Xc500_41, ⟨Lcc500_41, hQc500_41, lc500_41, yc500_41, zc500_41⟩, stc500_41⟩ := Jvm.LawKit.callS Xc482_40 hx (y := (⟨"com/example/caddis/caddis/index/IndexFormatPutVarintPinLaw", "ok", "([BIIIJB)Z"⟩ : MethodName)) hown (mvT hZ (hw _ (List.mem_of_getElem? (i := 10) rfl))) (mvT hZ (hw _ (List.mem_of_getElem? (i := 11) rfl))) (mvT hZ (hw _ (List.mem_of_getElem? (i := 3) rfl))) (mvT hZ (hw _ (List.mem_of_getElem? (i := 12) rfl))) (by decide) (backOf (W := 0) (rmq22) hZ (hw _ (List.mem_of_getElem? (i := 12) rfl)) (hw _ (List.mem_of_getElem? (i := 3) rfl)) (by decide) (by decide)) (g := (mkF m 500 #[.val (.long v0), .second, .val (.int v2), .val (.int v3), .val (.int v4), .val (.long v5), .second, .val (.int (x2 &&& (7 : Int32))), .val (.int (x3.toInt8.toInt32)), .val (.ref w_ba), .val (.int nN), .val (.int rq.1), .val (.int (1 : Int32))] [(.int (x3.toInt8.toInt32)), (.long v5), (.int nN), (.int (x2 &&& (7 : Int32))), (.int (11 : Int32)), (.ref w_ba)])) rfl (by rw [hml]; rfl) (argsL := [(.ref w_ba), (.int (11 : Int32)), (.int (x2 &&& (7 : Int32))), (.int nN), (.long v5), (.int (x3.toInt8.toInt32))]) (rest := []) (lenOf pd_2 rfl) rfl (by show 2 * 0 + _ ≤ _; exact Nat.le_of_eq rfl) (hb hby at_500) (fun _ _ => ⟨rfl, ec482_40, (by decide : 1 + 0 ≤ _), (by decide : 18 + 0 ≤ _)⟩)
    dsimp only [Pt.U, Pt.locs, Pt.cells, Pt.slots] at Xc500_41 lc500_41 yc500_41 zc500_41 stc500_41 hQc500_41
    subst lc500_41 yc500_41 zc500_41
    obtain ⟨rfl, rfl, ec500_41⟩ := hQc500_41
    refine Runs.go stc500_41 ?_
    simp only [List.append_nil, Nat.add_zero] at Xc500_41
    have Nc500_41 := Nc482_40
    show Runs p e below s _ _ _ (Tc500_41.setTop (mkF m 503 #[.val (.long v0), .second, .val (.int v2), .val (.int v3), .val (.int v4), .val (.long v5), .second, .val (.int (x2 &&& (7 : Int32))), .val (.int (x3.toInt8.toInt32)), .val (.ref w_ba), .val (.int nN), .val (.int rq.1), .val (.int (1 : Int32))] [(.int zq22)]))
    refine Runs.go (fun _ => XS.ifNo Xc500_41.here hx rfl (hb hby at_503) rfl ((if0 _ _).trans (feq (hne22 : ¬ (zq22 = (0 : Int32)))).1)) ?_
    show Runs p e below s _ _ _ (Tc500_41.setTop (mkF m 506 #[.val (.long v0), .second, .val (.int v2), .val (.int v3), .val (.int v4), .val (.long v5), .second, .val (.int (x2 &&& (7 : Int32))), .val (.int (x3.toInt8.toInt32)), .val (.ref w_ba), .val (.int nN), .val (.int rq.1), .val (.int (1 : Int32))] []))
    refine Runs.go (fun _ => XS.iconst Xc500_41.here hx rfl (hb hby at_506)) ?_
    show Runs p e below s _ _ _ (Tc500_41.setTop (mkF m 507 #[.val (.long v0), .second, .val (.int v2), .val (.int v3), .val (.int v4), .val (.long v5), .second, .val (.int (x2 &&& (7 : Int32))), .val (.int (x3.toInt8.toInt32)), .val (.ref w_ba), .val (.int nN), .val (.int rq.1), .val (.int (1 : Int32))] [(.int (1 : Int32))]))
    refine Runs.go (fun _ => XS.goto Xc500_41.here hx rfl (pc0 := 507) (pc' := 511) rfl (hb hby at_507) (by decide) (by decide)) ?_
    show Runs p e below s _ _ _ (Tc500_41.setTop (mkF m 511 #[.val (.long v0), .second, .val (.int v2), .val (.int v3), .val (.int v4), .val (.long v5), .second, .val (.int (x2 &&& (7 : Int32))), .val (.int (x3.toInt8.toInt32)), .val (.ref w_ba), .val (.int nN), .val (.int rq.1), .val (.int (1 : Int32))] [(.int (1 : Int32))]))
    refine Runs.go (fun _ => XS.istore Xc500_41.here hx rfl (hb hby at_511) rfl (l' := #[.val (.long v0), .second, .val (.int v2), .val (.int v3), .val (.int v4), .val (.long v5), .second, .val (.int (x2 &&& (7 : Int32))), .val (.int (x3.toInt8.toInt32)), .val (.ref w_ba), .val (.int nN), .val (.int rq.1), .val (.int (1 : Int32))]) rfl) ?_
    show Runs p e below s _ _ _ (Tc500_41.setTop (mkF m 513 #[.val (.long v0), .second, .val (.int v2), .val (.int v3), .val (.int v4), .val (.long v5), .second, .val (.int (x2 &&& (7 : Int32))), .val (.int (x3.toInt8.toInt32)), .val (.ref w_ba), .val (.int nN), .val (.int rq.1), .val (.int (1 : Int32))] []))
    refine Runs.go (fun _ => XS.iload Xc500_41.here hx rfl (hb hby at_513) rfl) ?_
    show Runs p e below s _ _ _ (Tc500_41.setTop (mkF m 515 #[.val (.long v0), .second, .val (.int v2), .val (.int v3), .val (.int v4), .val (.long v5), .second, .val (.int (x2 &&& (7 : Int32))), .val (.int (x3.toInt8.toInt32)), .val (.ref w_ba), .val (.int nN), .val (.int rq.1), .val (.int (1 : Int32))] [(.int (1 : Int32))]))
    refine Runs.go (fun _ => XS.ifNo Xc500_41.here hx rfl (hb hby at_515) rfl ((if0 _ _).trans (feq ((by decide) : ¬ ((1 : Int32) = (0 : Int32)))).1)) ?_
    show Runs p e below s _ _ _ (Tc500_41.setTop (mkF m 518 #[.val (.long v0), .second, .val (.int v2), .val (.int v3), .val (.int v4), .val (.long v5), .second, .val (.int (x2 &&& (7 : Int32))), .val (.int (x3.toInt8.toInt32)), .val (.ref w_ba), .val (.int nN), .val (.int rq.1), .val (.int (1 : Int32))] []))
    refine Runs.go (fun _ => XS.aload Xc500_41.here hx rfl (hb hby at_518) rfl rfl) ?_
    show Runs p e below s _ _ _ (Tc500_41.setTop (mkF m 520 #[.val (.long v0), .second, .val (.int v2), .val (.int v3), .val (.int v4), .val (.long v5), .second, .val (.int (x2 &&& (7 : Int32))), .val (.int (x3.toInt8.toInt32)), .val (.ref w_ba), .val (.int nN), .val (.int rq.1), .val (.int (1 : Int32))] [(.ref w_ba)]))
    refine Runs.go (fun _ => XS.bipush Xc500_41.here hx rfl (hb hby at_520)) ?_
    show Runs p e below s _ _ _ (Tc500_41.setTop (mkF m 522 #[.val (.long v0), .second, .val (.int v2), .val (.int v3), .val (.int v4), .val (.long v5), .second, .val (.int (x2 &&& (7 : Int32))), .val (.int (x3.toInt8.toInt32)), .val (.ref w_ba), .val (.int nN), .val (.int rq.1), .val (.int (1 : Int32))] [(.int (12 : Int32)), (.ref w_ba)]))
    refine Runs.go (fun _ => XS.iload Xc500_41.here hx rfl (hb hby at_522) rfl) ?_
    show Runs p e below s _ _ _ (Tc500_41.setTop (mkF m 524 #[.val (.long v0), .second, .val (.int v2), .val (.int v3), .val (.int v4), .val (.long v5), .second, .val (.int (x2 &&& (7 : Int32))), .val (.int (x3.toInt8.toInt32)), .val (.ref w_ba), .val (.int nN), .val (.int rq.1), .val (.int (1 : Int32))] [(.int (x2 &&& (7 : Int32))), (.int (12 : Int32)), (.ref w_ba)]))
    refine Runs.go (fun _ => XS.iload Xc500_41.here hx rfl (hb hby at_524) rfl) ?_
    show Runs p e below s _ _ _ (Tc500_41.setTop (mkF m 526 #[.val (.long v0), .second, .val (.int v2), .val (.int v3), .val (.int v4), .val (.long v5), .second, .val (.int (x2 &&& (7 : Int32))), .val (.int (x3.toInt8.toInt32)), .val (.ref w_ba), .val (.int nN), .val (.int rq.1), .val (.int (1 : Int32))] [(.int nN), (.int (x2 &&& (7 : Int32))), (.int (12 : Int32)), (.ref w_ba)]))
    refine Runs.go (fun _ => XS.lload Xc500_41.here hx rfl (hb hby at_526) rfl) ?_
    show Runs p e below s _ _ _ (Tc500_41.setTop (mkF m 528 #[.val (.long v0), .second, .val (.int v2), .val (.int v3), .val (.int v4), .val (.long v5), .second, .val (.int (x2 &&& (7 : Int32))), .val (.int (x3.toInt8.toInt32)), .val (.ref w_ba), .val (.int nN), .val (.int rq.1), .val (.int (1 : Int32))] [(.long v5), (.int nN), (.int (x2 &&& (7 : Int32))), (.int (12 : Int32)), (.ref w_ba)]))
    refine Runs.go (fun _ => XS.iload Xc500_41.here hx rfl (hb hby at_528) rfl) ?_
    show Runs p e below s _ _ _ (Tc500_41.setTop (mkF m 530 #[.val (.long v0), .second, .val (.int v2), .val (.int v3), .val (.int v4), .val (.long v5), .second, .val (.int (x2 &&& (7 : Int32))), .val (.int (x3.toInt8.toInt32)), .val (.ref w_ba), .val (.int nN), .val (.int rq.1), .val (.int (1 : Int32))] [(.int (x3.toInt8.toInt32)), (.long v5), (.int nN), (.int (x2 &&& (7 : Int32))), (.int (12 : Int32)), (.ref w_ba)]))
    obtain ⟨zq23, hzq23⟩ : ∃ z, F3 (12 : Int32) (x2 &&& (7 : Int32)) nN v5 (x3.toInt8.toInt32) rq.2 = z := ⟨_, rfl⟩
    have hne23 : ¬ zq23 = (0 : Int32) := by rw [← hzq23, ← hrq, ← hN]; exact own_ok v5 x2 x3 12 (by decide) _ (by decide)
    have rmq23 := rm3 l Z a0 hw [] w_ba (12 : Int32) (x2 &&& (7 : Int32)) nN v5 (x3.toInt8.toInt32) rq.2 w_kk Tc233_29.heap n0 hzc233_29 Vc233_29 ⟨by decide, by decide⟩
    rw [hzq23] at rmq23
    obtain ⟨_, _, ⟨Tc530_42, Lc530_42, kc530_42, nc530_42⟩, -, Xc530_42, ⟨Lcc530_42, hQc530_42, lc530_42, yc530_42, zc530_42⟩, stc530_42⟩ := Jvm.LawKit.callS Xc500_41 hx (y := (⟨"com/example/caddis/caddis/index/IndexFormatPutVarintPinLaw", "ok", "([BIIIJB)Z"⟩ : MethodName)) hown (mvT hZ (hw _ (List.mem_of_getElem? (i := 10) rfl))) (mvT hZ (hw _ (List.mem_of_getElem? (i := 11) rfl))) (mvT hZ (hw _ (List.mem_of_getElem? (i := 3) rfl))) (mvT hZ (hw _ (List.mem_of_getElem? (i := 12) rfl))) (by decide) (backOf (W := 0) (rmq23) hZ (hw _ (List.mem_of_getElem? (i := 12) rfl)) (hw _ (List.mem_of_getElem? (i := 3) rfl)) (by decide) (by decide)) (g := (mkF m 530 #[.val (.long v0), .second, .val (.int v2), .val (.int v3), .val (.int v4), .val (.long v5), .second, .val (.int (x2 &&& (7 : Int32))), .val (.int (x3.toInt8.toInt32)), .val (.ref w_ba), .val (.int nN), .val (.int rq.1), .val (.int (1 : Int32))] [(.int (x3.toInt8.toInt32)), (.long v5), (.int nN), (.int (x2 &&& (7 : Int32))), (.int (12 : Int32)), (.ref w_ba)])) rfl (by rw [hml]; rfl) (argsL := [(.ref w_ba), (.int (12 : Int32)), (.int (x2 &&& (7 : Int32))), (.int nN), (.long v5), (.int (x3.toInt8.toInt32))]) (rest := []) (lenOf pd_2 rfl) rfl (by show 2 * 0 + _ ≤ _; exact Nat.le_of_eq rfl) (hb hby at_530) (fun _ _ => ⟨rfl, ec500_41, (by decide : 1 + 0 ≤ _), (by decide : 18 + 0 ≤ _)⟩)
    dsimp only [Pt.U, Pt.locs, Pt.cells, Pt.slots] at Xc530_42 lc530_42 yc530_42 zc530_42 stc530_42 hQc530_42
    subst lc530_42 yc530_42 zc530_42
    obtain ⟨rfl, rfl, ec530_42⟩ := hQc530_42
    refine Runs.go stc530_42 ?_
    simp only [List.append_nil, Nat.add_zero] at Xc530_42
    have Nc530_42 := Nc500_41
    show Runs p e below s _ _ _ (Tc530_42.setTop (mkF m 533 #[.val (.long v0), .second, .val (.int v2), .val (.int v3), .val (.int v4), .val (.long v5), .second, .val (.int (x2 &&& (7 : Int32))), .val (.int (x3.toInt8.toInt32)), .val (.ref w_ba), .val (.int nN), .val (.int rq.1), .val (.int (1 : Int32))] [(.int zq23)]))
    refine Runs.go (fun _ => XS.ifNo Xc530_42.here hx rfl (hb hby at_533) rfl ((if0 _ _).trans (feq (hne23 : ¬ (zq23 = (0 : Int32)))).1)) ?_
    show Runs p e below s _ _ _ (Tc530_42.setTop (mkF m 536 #[.val (.long v0), .second, .val (.int v2), .val (.int v3), .val (.int v4), .val (.long v5), .second, .val (.int (x2 &&& (7 : Int32))), .val (.int (x3.toInt8.toInt32)), .val (.ref w_ba), .val (.int nN), .val (.int rq.1), .val (.int (1 : Int32))] []))
    refine Runs.go (fun _ => XS.aload Xc530_42.here hx rfl (hb hby at_536) rfl rfl) ?_
    show Runs p e below s _ _ _ (Tc530_42.setTop (mkF m 538 #[.val (.long v0), .second, .val (.int v2), .val (.int v3), .val (.int v4), .val (.long v5), .second, .val (.int (x2 &&& (7 : Int32))), .val (.int (x3.toInt8.toInt32)), .val (.ref w_ba), .val (.int nN), .val (.int rq.1), .val (.int (1 : Int32))] [(.ref w_ba)]))
    refine Runs.go (fun _ => XS.bipush Xc530_42.here hx rfl (hb hby at_538)) ?_
    show Runs p e below s _ _ _ (Tc530_42.setTop (mkF m 540 #[.val (.long v0), .second, .val (.int v2), .val (.int v3), .val (.int v4), .val (.long v5), .second, .val (.int (x2 &&& (7 : Int32))), .val (.int (x3.toInt8.toInt32)), .val (.ref w_ba), .val (.int nN), .val (.int rq.1), .val (.int (1 : Int32))] [(.int (13 : Int32)), (.ref w_ba)]))
    refine Runs.go (fun _ => XS.iload Xc530_42.here hx rfl (hb hby at_540) rfl) ?_
    show Runs p e below s _ _ _ (Tc530_42.setTop (mkF m 542 #[.val (.long v0), .second, .val (.int v2), .val (.int v3), .val (.int v4), .val (.long v5), .second, .val (.int (x2 &&& (7 : Int32))), .val (.int (x3.toInt8.toInt32)), .val (.ref w_ba), .val (.int nN), .val (.int rq.1), .val (.int (1 : Int32))] [(.int (x2 &&& (7 : Int32))), (.int (13 : Int32)), (.ref w_ba)]))
    refine Runs.go (fun _ => XS.iload Xc530_42.here hx rfl (hb hby at_542) rfl) ?_
    show Runs p e below s _ _ _ (Tc530_42.setTop (mkF m 544 #[.val (.long v0), .second, .val (.int v2), .val (.int v3), .val (.int v4), .val (.long v5), .second, .val (.int (x2 &&& (7 : Int32))), .val (.int (x3.toInt8.toInt32)), .val (.ref w_ba), .val (.int nN), .val (.int rq.1), .val (.int (1 : Int32))] [(.int nN), (.int (x2 &&& (7 : Int32))), (.int (13 : Int32)), (.ref w_ba)]))
    refine Runs.go (fun _ => XS.lload Xc530_42.here hx rfl (hb hby at_544) rfl) ?_
    show Runs p e below s _ _ _ (Tc530_42.setTop (mkF m 546 #[.val (.long v0), .second, .val (.int v2), .val (.int v3), .val (.int v4), .val (.long v5), .second, .val (.int (x2 &&& (7 : Int32))), .val (.int (x3.toInt8.toInt32)), .val (.ref w_ba), .val (.int nN), .val (.int rq.1), .val (.int (1 : Int32))] [(.long v5), (.int nN), (.int (x2 &&& (7 : Int32))), (.int (13 : Int32)), (.ref w_ba)]))
    refine Runs.go (fun _ => XS.iload Xc530_42.here hx rfl (hb hby at_546) rfl) ?_
    show Runs p e below s _ _ _ (Tc530_42.setTop (mkF m 548 #[.val (.long v0), .second, .val (.int v2), .val (.int v3), .val (.int v4), .val (.long v5), .second, .val (.int (x2 &&& (7 : Int32))), .val (.int (x3.toInt8.toInt32)), .val (.ref w_ba), .val (.int nN), .val (.int rq.1), .val (.int (1 : Int32))] [(.int (x3.toInt8.toInt32)), (.long v5), (.int nN), (.int (x2 &&& (7 : Int32))), (.int (13 : Int32)), (.ref w_ba)]))
    obtain ⟨zq24, hzq24⟩ : ∃ z, F3 (13 : Int32) (x2 &&& (7 : Int32)) nN v5 (x3.toInt8.toInt32) rq.2 = z := ⟨_, rfl⟩
    have hne24 : ¬ zq24 = (0 : Int32) := by rw [← hzq24, ← hrq, ← hN]; exact own_ok v5 x2 x3 13 (by decide) _ (by decide)
    have rmq24 := rm3 l Z a0 hw [] w_ba (13 : Int32) (x2 &&& (7 : Int32)) nN v5 (x3.toInt8.toInt32) rq.2 w_kk Tc233_29.heap n0 hzc233_29 Vc233_29 ⟨by decide, by decide⟩
    rw [hzq24] at rmq24
    obtain ⟨_, _, ⟨Tc548_43, Lc548_43, kc548_43, nc548_43⟩, -, Xc548_43, ⟨Lcc548_43, hQc548_43, lc548_43, yc548_43, zc548_43⟩, stc548_43⟩ := Jvm.LawKit.callS Xc530_42 hx (y := (⟨"com/example/caddis/caddis/index/IndexFormatPutVarintPinLaw", "ok", "([BIIIJB)Z"⟩ : MethodName)) hown (mvT hZ (hw _ (List.mem_of_getElem? (i := 10) rfl))) (mvT hZ (hw _ (List.mem_of_getElem? (i := 11) rfl))) (mvT hZ (hw _ (List.mem_of_getElem? (i := 3) rfl))) (mvT hZ (hw _ (List.mem_of_getElem? (i := 12) rfl))) (by decide) (backOf (W := 0) (rmq24) hZ (hw _ (List.mem_of_getElem? (i := 12) rfl)) (hw _ (List.mem_of_getElem? (i := 3) rfl)) (by decide) (by decide)) (g := (mkF m 548 #[.val (.long v0), .second, .val (.int v2), .val (.int v3), .val (.int v4), .val (.long v5), .second, .val (.int (x2 &&& (7 : Int32))), .val (.int (x3.toInt8.toInt32)), .val (.ref w_ba), .val (.int nN), .val (.int rq.1), .val (.int (1 : Int32))] [(.int (x3.toInt8.toInt32)), (.long v5), (.int nN), (.int (x2 &&& (7 : Int32))), (.int (13 : Int32)), (.ref w_ba)])) rfl (by rw [hml]; rfl) (argsL := [(.ref w_ba), (.int (13 : Int32)), (.int (x2 &&& (7 : Int32))), (.int nN), (.long v5), (.int (x3.toInt8.toInt32))]) (rest := []) (lenOf pd_2 rfl) rfl (by show 2 * 0 + _ ≤ _; exact Nat.le_of_eq rfl) (hb hby at_548) (fun _ _ => ⟨rfl, ec530_42, (by decide : 1 + 0 ≤ _), (by decide : 18 + 0 ≤ _)⟩)
    dsimp only [Pt.U, Pt.locs, Pt.cells, Pt.slots] at Xc548_43 lc548_43 yc548_43 zc548_43 stc548_43 hQc548_43
    subst lc548_43 yc548_43 zc548_43
    obtain ⟨rfl, rfl, ec548_43⟩ := hQc548_43
    refine Runs.go stc548_43 ?_
    simp only [List.append_nil, Nat.add_zero] at Xc548_43
    have Nc548_43 := Nc530_42
    show Runs p e below s _ _ _ (Tc548_43.setTop (mkF m 551 #[.val (.long v0), .second, .val (.int v2), .val (.int v3), .val (.int v4), .val (.long v5), .second, .val (.int (x2 &&& (7 : Int32))), .val (.int (x3.toInt8.toInt32)), .val (.ref w_ba), .val (.int nN), .val (.int rq.1), .val (.int (1 : Int32))] [(.int zq24)]))
    refine Runs.go (fun _ => XS.ifNo Xc548_43.here hx rfl (hb hby at_551) rfl ((if0 _ _).trans (feq (hne24 : ¬ (zq24 = (0 : Int32)))).1)) ?_
    show Runs p e below s _ _ _ (Tc548_43.setTop (mkF m 554 #[.val (.long v0), .second, .val (.int v2), .val (.int v3), .val (.int v4), .val (.long v5), .second, .val (.int (x2 &&& (7 : Int32))), .val (.int (x3.toInt8.toInt32)), .val (.ref w_ba), .val (.int nN), .val (.int rq.1), .val (.int (1 : Int32))] []))
    refine Runs.go (fun _ => XS.aload Xc548_43.here hx rfl (hb hby at_554) rfl rfl) ?_
    show Runs p e below s _ _ _ (Tc548_43.setTop (mkF m 556 #[.val (.long v0), .second, .val (.int v2), .val (.int v3), .val (.int v4), .val (.long v5), .second, .val (.int (x2 &&& (7 : Int32))), .val (.int (x3.toInt8.toInt32)), .val (.ref w_ba), .val (.int nN), .val (.int rq.1), .val (.int (1 : Int32))] [(.ref w_ba)]))
    refine Runs.go (fun _ => XS.bipush Xc548_43.here hx rfl (hb hby at_556)) ?_
    show Runs p e below s _ _ _ (Tc548_43.setTop (mkF m 558 #[.val (.long v0), .second, .val (.int v2), .val (.int v3), .val (.int v4), .val (.long v5), .second, .val (.int (x2 &&& (7 : Int32))), .val (.int (x3.toInt8.toInt32)), .val (.ref w_ba), .val (.int nN), .val (.int rq.1), .val (.int (1 : Int32))] [(.int (14 : Int32)), (.ref w_ba)]))
    refine Runs.go (fun _ => XS.iload Xc548_43.here hx rfl (hb hby at_558) rfl) ?_
    show Runs p e below s _ _ _ (Tc548_43.setTop (mkF m 560 #[.val (.long v0), .second, .val (.int v2), .val (.int v3), .val (.int v4), .val (.long v5), .second, .val (.int (x2 &&& (7 : Int32))), .val (.int (x3.toInt8.toInt32)), .val (.ref w_ba), .val (.int nN), .val (.int rq.1), .val (.int (1 : Int32))] [(.int (x2 &&& (7 : Int32))), (.int (14 : Int32)), (.ref w_ba)]))
    refine Runs.go (fun _ => XS.iload Xc548_43.here hx rfl (hb hby at_560) rfl) ?_
    show Runs p e below s _ _ _ (Tc548_43.setTop (mkF m 562 #[.val (.long v0), .second, .val (.int v2), .val (.int v3), .val (.int v4), .val (.long v5), .second, .val (.int (x2 &&& (7 : Int32))), .val (.int (x3.toInt8.toInt32)), .val (.ref w_ba), .val (.int nN), .val (.int rq.1), .val (.int (1 : Int32))] [(.int nN), (.int (x2 &&& (7 : Int32))), (.int (14 : Int32)), (.ref w_ba)]))
    refine Runs.go (fun _ => XS.lload Xc548_43.here hx rfl (hb hby at_562) rfl) ?_
    show Runs p e below s _ _ _ (Tc548_43.setTop (mkF m 564 #[.val (.long v0), .second, .val (.int v2), .val (.int v3), .val (.int v4), .val (.long v5), .second, .val (.int (x2 &&& (7 : Int32))), .val (.int (x3.toInt8.toInt32)), .val (.ref w_ba), .val (.int nN), .val (.int rq.1), .val (.int (1 : Int32))] [(.long v5), (.int nN), (.int (x2 &&& (7 : Int32))), (.int (14 : Int32)), (.ref w_ba)]))
    refine Runs.go (fun _ => XS.iload Xc548_43.here hx rfl (hb hby at_564) rfl) ?_
    show Runs p e below s _ _ _ (Tc548_43.setTop (mkF m 566 #[.val (.long v0), .second, .val (.int v2), .val (.int v3), .val (.int v4), .val (.long v5), .second, .val (.int (x2 &&& (7 : Int32))), .val (.int (x3.toInt8.toInt32)), .val (.ref w_ba), .val (.int nN), .val (.int rq.1), .val (.int (1 : Int32))] [(.int (x3.toInt8.toInt32)), (.long v5), (.int nN), (.int (x2 &&& (7 : Int32))), (.int (14 : Int32)), (.ref w_ba)]))
    obtain ⟨zq25, hzq25⟩ : ∃ z, F3 (14 : Int32) (x2 &&& (7 : Int32)) nN v5 (x3.toInt8.toInt32) rq.2 = z := ⟨_, rfl⟩
    have hne25 : ¬ zq25 = (0 : Int32) := by rw [← hzq25, ← hrq, ← hN]; exact own_ok v5 x2 x3 14 (by decide) _ (by decide)
    have rmq25 := rm3 l Z a0 hw [] w_ba (14 : Int32) (x2 &&& (7 : Int32)) nN v5 (x3.toInt8.toInt32) rq.2 w_kk Tc233_29.heap n0 hzc233_29 Vc233_29 ⟨by decide, by decide⟩
    rw [hzq25] at rmq25
    obtain ⟨_, _, ⟨Tc566_44, Lc566_44, kc566_44, nc566_44⟩, -, Xc566_44, ⟨Lcc566_44, hQc566_44, lc566_44, yc566_44, zc566_44⟩, stc566_44⟩ := Jvm.LawKit.callS Xc548_43 hx (y := (⟨"com/example/caddis/caddis/index/IndexFormatPutVarintPinLaw", "ok", "([BIIIJB)Z"⟩ : MethodName)) hown (mvT hZ (hw _ (List.mem_of_getElem? (i := 10) rfl))) (mvT hZ (hw _ (List.mem_of_getElem? (i := 11) rfl))) (mvT hZ (hw _ (List.mem_of_getElem? (i := 3) rfl))) (mvT hZ (hw _ (List.mem_of_getElem? (i := 12) rfl))) (by decide) (backOf (W := 0) (rmq25) hZ (hw _ (List.mem_of_getElem? (i := 12) rfl)) (hw _ (List.mem_of_getElem? (i := 3) rfl)) (by decide) (by decide)) (g := (mkF m 566 #[.val (.long v0), .second, .val (.int v2), .val (.int v3), .val (.int v4), .val (.long v5), .second, .val (.int (x2 &&& (7 : Int32))), .val (.int (x3.toInt8.toInt32)), .val (.ref w_ba), .val (.int nN), .val (.int rq.1), .val (.int (1 : Int32))] [(.int (x3.toInt8.toInt32)), (.long v5), (.int nN), (.int (x2 &&& (7 : Int32))), (.int (14 : Int32)), (.ref w_ba)])) rfl (by rw [hml]; rfl) (argsL := [(.ref w_ba), (.int (14 : Int32)), (.int (x2 &&& (7 : Int32))), (.int nN), (.long v5), (.int (x3.toInt8.toInt32))]) (rest := []) (lenOf pd_2 rfl) rfl (by show 2 * 0 + _ ≤ _; exact Nat.le_of_eq rfl) (hb hby at_566) (fun _ _ => ⟨rfl, ec548_43, (by decide : 1 + 0 ≤ _), (by decide : 18 + 0 ≤ _)⟩)
    dsimp only [Pt.U, Pt.locs, Pt.cells, Pt.slots] at Xc566_44 lc566_44 yc566_44 zc566_44 stc566_44 hQc566_44
    subst lc566_44 yc566_44 zc566_44
    obtain ⟨rfl, rfl, ec566_44⟩ := hQc566_44
    refine Runs.go stc566_44 ?_
    simp only [List.append_nil, Nat.add_zero] at Xc566_44
    have Nc566_44 := Nc548_43
    show Runs p e below s _ _ _ (Tc566_44.setTop (mkF m 569 #[.val (.long v0), .second, .val (.int v2), .val (.int v3), .val (.int v4), .val (.long v5), .second, .val (.int (x2 &&& (7 : Int32))), .val (.int (x3.toInt8.toInt32)), .val (.ref w_ba), .val (.int nN), .val (.int rq.1), .val (.int (1 : Int32))] [(.int zq25)]))
    refine Runs.go (fun _ => XS.ifNo Xc566_44.here hx rfl (hb hby at_569) rfl ((if0 _ _).trans (feq (hne25 : ¬ (zq25 = (0 : Int32)))).1)) ?_
    show Runs p e below s _ _ _ (Tc566_44.setTop (mkF m 572 #[.val (.long v0), .second, .val (.int v2), .val (.int v3), .val (.int v4), .val (.long v5), .second, .val (.int (x2 &&& (7 : Int32))), .val (.int (x3.toInt8.toInt32)), .val (.ref w_ba), .val (.int nN), .val (.int rq.1), .val (.int (1 : Int32))] []))
    refine Runs.go (fun _ => XS.iconst Xc566_44.here hx rfl (hb hby at_572)) ?_
    show Runs p e below s _ _ _ (Tc566_44.setTop (mkF m 573 #[.val (.long v0), .second, .val (.int v2), .val (.int v3), .val (.int v4), .val (.long v5), .second, .val (.int (x2 &&& (7 : Int32))), .val (.int (x3.toInt8.toInt32)), .val (.ref w_ba), .val (.int nN), .val (.int rq.1), .val (.int (1 : Int32))] [(.int (1 : Int32))]))
    refine Runs.go (fun _ => XS.goto Xc566_44.here hx rfl (pc0 := 573) (pc' := 577) rfl (hb hby at_573) (by decide) (by decide)) ?_
    show Runs p e below s _ _ _ (Tc566_44.setTop (mkF m 577 #[.val (.long v0), .second, .val (.int v2), .val (.int v3), .val (.int v4), .val (.long v5), .second, .val (.int (x2 &&& (7 : Int32))), .val (.int (x3.toInt8.toInt32)), .val (.ref w_ba), .val (.int nN), .val (.int rq.1), .val (.int (1 : Int32))] [(.int (1 : Int32))]))
    refine Runs.go (fun _ => XS.istore Xc566_44.here hx rfl (hb hby at_577) rfl (l' := #[.val (.long v0), .second, .val (.int v2), .val (.int v3), .val (.int v4), .val (.long v5), .second, .val (.int (x2 &&& (7 : Int32))), .val (.int (x3.toInt8.toInt32)), .val (.ref w_ba), .val (.int nN), .val (.int rq.1), .val (.int (1 : Int32))]) rfl) ?_
    show Runs p e below s _ _ _ (Tc566_44.setTop (mkF m 579 #[.val (.long v0), .second, .val (.int v2), .val (.int v3), .val (.int v4), .val (.long v5), .second, .val (.int (x2 &&& (7 : Int32))), .val (.int (x3.toInt8.toInt32)), .val (.ref w_ba), .val (.int nN), .val (.int rq.1), .val (.int (1 : Int32))] []))
    refine Runs.go (fun _ => XS.iload Xc566_44.here hx rfl (hb hby at_579) rfl) ?_
    show Runs p e below s _ _ _ (Tc566_44.setTop (mkF m 581 #[.val (.long v0), .second, .val (.int v2), .val (.int v3), .val (.int v4), .val (.long v5), .second, .val (.int (x2 &&& (7 : Int32))), .val (.int (x3.toInt8.toInt32)), .val (.ref w_ba), .val (.int nN), .val (.int rq.1), .val (.int (1 : Int32))] [(.int (1 : Int32))]))
    refine Runs.go (fun _ => XS.ifNo Xc566_44.here hx rfl (hb hby at_581) rfl ((if0 _ _).trans (feq ((by decide) : ¬ ((1 : Int32) = (0 : Int32)))).1)) ?_
    show Runs p e below s _ _ _ (Tc566_44.setTop (mkF m 584 #[.val (.long v0), .second, .val (.int v2), .val (.int v3), .val (.int v4), .val (.long v5), .second, .val (.int (x2 &&& (7 : Int32))), .val (.int (x3.toInt8.toInt32)), .val (.ref w_ba), .val (.int nN), .val (.int rq.1), .val (.int (1 : Int32))] []))
    refine Runs.go (fun _ => XS.aload Xc566_44.here hx rfl (hb hby at_584) rfl rfl) ?_
    show Runs p e below s _ _ _ (Tc566_44.setTop (mkF m 586 #[.val (.long v0), .second, .val (.int v2), .val (.int v3), .val (.int v4), .val (.long v5), .second, .val (.int (x2 &&& (7 : Int32))), .val (.int (x3.toInt8.toInt32)), .val (.ref w_ba), .val (.int nN), .val (.int rq.1), .val (.int (1 : Int32))] [(.ref w_ba)]))
    refine Runs.go (fun _ => XS.bipush Xc566_44.here hx rfl (hb hby at_586)) ?_
    show Runs p e below s _ _ _ (Tc566_44.setTop (mkF m 588 #[.val (.long v0), .second, .val (.int v2), .val (.int v3), .val (.int v4), .val (.long v5), .second, .val (.int (x2 &&& (7 : Int32))), .val (.int (x3.toInt8.toInt32)), .val (.ref w_ba), .val (.int nN), .val (.int rq.1), .val (.int (1 : Int32))] [(.int (15 : Int32)), (.ref w_ba)]))
    refine Runs.go (fun _ => XS.iload Xc566_44.here hx rfl (hb hby at_588) rfl) ?_
    show Runs p e below s _ _ _ (Tc566_44.setTop (mkF m 590 #[.val (.long v0), .second, .val (.int v2), .val (.int v3), .val (.int v4), .val (.long v5), .second, .val (.int (x2 &&& (7 : Int32))), .val (.int (x3.toInt8.toInt32)), .val (.ref w_ba), .val (.int nN), .val (.int rq.1), .val (.int (1 : Int32))] [(.int (x2 &&& (7 : Int32))), (.int (15 : Int32)), (.ref w_ba)]))
    refine Runs.go (fun _ => XS.iload Xc566_44.here hx rfl (hb hby at_590) rfl) ?_
    show Runs p e below s _ _ _ (Tc566_44.setTop (mkF m 592 #[.val (.long v0), .second, .val (.int v2), .val (.int v3), .val (.int v4), .val (.long v5), .second, .val (.int (x2 &&& (7 : Int32))), .val (.int (x3.toInt8.toInt32)), .val (.ref w_ba), .val (.int nN), .val (.int rq.1), .val (.int (1 : Int32))] [(.int nN), (.int (x2 &&& (7 : Int32))), (.int (15 : Int32)), (.ref w_ba)]))
    refine Runs.go (fun _ => XS.lload Xc566_44.here hx rfl (hb hby at_592) rfl) ?_
    show Runs p e below s _ _ _ (Tc566_44.setTop (mkF m 594 #[.val (.long v0), .second, .val (.int v2), .val (.int v3), .val (.int v4), .val (.long v5), .second, .val (.int (x2 &&& (7 : Int32))), .val (.int (x3.toInt8.toInt32)), .val (.ref w_ba), .val (.int nN), .val (.int rq.1), .val (.int (1 : Int32))] [(.long v5), (.int nN), (.int (x2 &&& (7 : Int32))), (.int (15 : Int32)), (.ref w_ba)]))
    refine Runs.go (fun _ => XS.iload Xc566_44.here hx rfl (hb hby at_594) rfl) ?_
    show Runs p e below s _ _ _ (Tc566_44.setTop (mkF m 596 #[.val (.long v0), .second, .val (.int v2), .val (.int v3), .val (.int v4), .val (.long v5), .second, .val (.int (x2 &&& (7 : Int32))), .val (.int (x3.toInt8.toInt32)), .val (.ref w_ba), .val (.int nN), .val (.int rq.1), .val (.int (1 : Int32))] [(.int (x3.toInt8.toInt32)), (.long v5), (.int nN), (.int (x2 &&& (7 : Int32))), (.int (15 : Int32)), (.ref w_ba)]))
    obtain ⟨zq26, hzq26⟩ : ∃ z, F3 (15 : Int32) (x2 &&& (7 : Int32)) nN v5 (x3.toInt8.toInt32) rq.2 = z := ⟨_, rfl⟩
    have hne26 : ¬ zq26 = (0 : Int32) := by rw [← hzq26, ← hrq, ← hN]; exact own_ok v5 x2 x3 15 (by decide) _ (by decide)
    have rmq26 := rm3 l Z a0 hw [] w_ba (15 : Int32) (x2 &&& (7 : Int32)) nN v5 (x3.toInt8.toInt32) rq.2 w_kk Tc233_29.heap n0 hzc233_29 Vc233_29 ⟨by decide, by decide⟩
    rw [hzq26] at rmq26
    obtain ⟨_, _, ⟨Tc596_45, Lc596_45, kc596_45, nc596_45⟩, -, Xc596_45, ⟨Lcc596_45, hQc596_45, lc596_45, yc596_45, zc596_45⟩, stc596_45⟩ := Jvm.LawKit.callS Xc566_44 hx (y := (⟨"com/example/caddis/caddis/index/IndexFormatPutVarintPinLaw", "ok", "([BIIIJB)Z"⟩ : MethodName)) hown (mvT hZ (hw _ (List.mem_of_getElem? (i := 10) rfl))) (mvT hZ (hw _ (List.mem_of_getElem? (i := 11) rfl))) (mvT hZ (hw _ (List.mem_of_getElem? (i := 3) rfl))) (mvT hZ (hw _ (List.mem_of_getElem? (i := 12) rfl))) (by decide) (backOf (W := 0) (rmq26) hZ (hw _ (List.mem_of_getElem? (i := 12) rfl)) (hw _ (List.mem_of_getElem? (i := 3) rfl)) (by decide) (by decide)) (g := (mkF m 596 #[.val (.long v0), .second, .val (.int v2), .val (.int v3), .val (.int v4), .val (.long v5), .second, .val (.int (x2 &&& (7 : Int32))), .val (.int (x3.toInt8.toInt32)), .val (.ref w_ba), .val (.int nN), .val (.int rq.1), .val (.int (1 : Int32))] [(.int (x3.toInt8.toInt32)), (.long v5), (.int nN), (.int (x2 &&& (7 : Int32))), (.int (15 : Int32)), (.ref w_ba)])) rfl (by rw [hml]; rfl) (argsL := [(.ref w_ba), (.int (15 : Int32)), (.int (x2 &&& (7 : Int32))), (.int nN), (.long v5), (.int (x3.toInt8.toInt32))]) (rest := []) (lenOf pd_2 rfl) rfl (by show 2 * 0 + _ ≤ _; exact Nat.le_of_eq rfl) (hb hby at_596) (fun _ _ => ⟨rfl, ec566_44, (by decide : 1 + 0 ≤ _), (by decide : 18 + 0 ≤ _)⟩)
    dsimp only [Pt.U, Pt.locs, Pt.cells, Pt.slots] at Xc596_45 lc596_45 yc596_45 zc596_45 stc596_45 hQc596_45
    subst lc596_45 yc596_45 zc596_45
    obtain ⟨rfl, rfl, ec596_45⟩ := hQc596_45
    refine Runs.go stc596_45 ?_
    simp only [List.append_nil, Nat.add_zero] at Xc596_45
    have Nc596_45 := Nc566_44
    show Runs p e below s _ _ _ (Tc596_45.setTop (mkF m 599 #[.val (.long v0), .second, .val (.int v2), .val (.int v3), .val (.int v4), .val (.long v5), .second, .val (.int (x2 &&& (7 : Int32))), .val (.int (x3.toInt8.toInt32)), .val (.ref w_ba), .val (.int nN), .val (.int rq.1), .val (.int (1 : Int32))] [(.int zq26)]))
    refine Runs.go (fun _ => XS.ifNo Xc596_45.here hx rfl (hb hby at_599) rfl ((if0 _ _).trans (feq (hne26 : ¬ (zq26 = (0 : Int32)))).1)) ?_
    show Runs p e below s _ _ _ (Tc596_45.setTop (mkF m 602 #[.val (.long v0), .second, .val (.int v2), .val (.int v3), .val (.int v4), .val (.long v5), .second, .val (.int (x2 &&& (7 : Int32))), .val (.int (x3.toInt8.toInt32)), .val (.ref w_ba), .val (.int nN), .val (.int rq.1), .val (.int (1 : Int32))] []))
    refine Runs.go (fun _ => XS.aload Xc596_45.here hx rfl (hb hby at_602) rfl rfl) ?_
    show Runs p e below s _ _ _ (Tc596_45.setTop (mkF m 604 #[.val (.long v0), .second, .val (.int v2), .val (.int v3), .val (.int v4), .val (.long v5), .second, .val (.int (x2 &&& (7 : Int32))), .val (.int (x3.toInt8.toInt32)), .val (.ref w_ba), .val (.int nN), .val (.int rq.1), .val (.int (1 : Int32))] [(.ref w_ba)]))
    refine Runs.go (fun _ => XS.bipush Xc596_45.here hx rfl (hb hby at_604)) ?_
    show Runs p e below s _ _ _ (Tc596_45.setTop (mkF m 606 #[.val (.long v0), .second, .val (.int v2), .val (.int v3), .val (.int v4), .val (.long v5), .second, .val (.int (x2 &&& (7 : Int32))), .val (.int (x3.toInt8.toInt32)), .val (.ref w_ba), .val (.int nN), .val (.int rq.1), .val (.int (1 : Int32))] [(.int (16 : Int32)), (.ref w_ba)]))
    refine Runs.go (fun _ => XS.iload Xc596_45.here hx rfl (hb hby at_606) rfl) ?_
    show Runs p e below s _ _ _ (Tc596_45.setTop (mkF m 608 #[.val (.long v0), .second, .val (.int v2), .val (.int v3), .val (.int v4), .val (.long v5), .second, .val (.int (x2 &&& (7 : Int32))), .val (.int (x3.toInt8.toInt32)), .val (.ref w_ba), .val (.int nN), .val (.int rq.1), .val (.int (1 : Int32))] [(.int (x2 &&& (7 : Int32))), (.int (16 : Int32)), (.ref w_ba)]))
    refine Runs.go (fun _ => XS.iload Xc596_45.here hx rfl (hb hby at_608) rfl) ?_
    show Runs p e below s _ _ _ (Tc596_45.setTop (mkF m 610 #[.val (.long v0), .second, .val (.int v2), .val (.int v3), .val (.int v4), .val (.long v5), .second, .val (.int (x2 &&& (7 : Int32))), .val (.int (x3.toInt8.toInt32)), .val (.ref w_ba), .val (.int nN), .val (.int rq.1), .val (.int (1 : Int32))] [(.int nN), (.int (x2 &&& (7 : Int32))), (.int (16 : Int32)), (.ref w_ba)]))
    refine Runs.go (fun _ => XS.lload Xc596_45.here hx rfl (hb hby at_610) rfl) ?_
    show Runs p e below s _ _ _ (Tc596_45.setTop (mkF m 612 #[.val (.long v0), .second, .val (.int v2), .val (.int v3), .val (.int v4), .val (.long v5), .second, .val (.int (x2 &&& (7 : Int32))), .val (.int (x3.toInt8.toInt32)), .val (.ref w_ba), .val (.int nN), .val (.int rq.1), .val (.int (1 : Int32))] [(.long v5), (.int nN), (.int (x2 &&& (7 : Int32))), (.int (16 : Int32)), (.ref w_ba)]))
    refine Runs.go (fun _ => XS.iload Xc596_45.here hx rfl (hb hby at_612) rfl) ?_
    show Runs p e below s _ _ _ (Tc596_45.setTop (mkF m 614 #[.val (.long v0), .second, .val (.int v2), .val (.int v3), .val (.int v4), .val (.long v5), .second, .val (.int (x2 &&& (7 : Int32))), .val (.int (x3.toInt8.toInt32)), .val (.ref w_ba), .val (.int nN), .val (.int rq.1), .val (.int (1 : Int32))] [(.int (x3.toInt8.toInt32)), (.long v5), (.int nN), (.int (x2 &&& (7 : Int32))), (.int (16 : Int32)), (.ref w_ba)]))
    obtain ⟨zq27, hzq27⟩ : ∃ z, F3 (16 : Int32) (x2 &&& (7 : Int32)) nN v5 (x3.toInt8.toInt32) rq.2 = z := ⟨_, rfl⟩
    have hne27 : ¬ zq27 = (0 : Int32) := by rw [← hzq27, ← hrq, ← hN]; exact own_ok v5 x2 x3 16 (by decide) _ (by decide)
    have rmq27 := rm3 l Z a0 hw [] w_ba (16 : Int32) (x2 &&& (7 : Int32)) nN v5 (x3.toInt8.toInt32) rq.2 w_kk Tc233_29.heap n0 hzc233_29 Vc233_29 ⟨by decide, by decide⟩
    rw [hzq27] at rmq27
    obtain ⟨_, _, ⟨Tc614_46, Lc614_46, kc614_46, nc614_46⟩, -, Xc614_46, ⟨Lcc614_46, hQc614_46, lc614_46, yc614_46, zc614_46⟩, stc614_46⟩ := Jvm.LawKit.callS Xc596_45 hx (y := (⟨"com/example/caddis/caddis/index/IndexFormatPutVarintPinLaw", "ok", "([BIIIJB)Z"⟩ : MethodName)) hown (mvT hZ (hw _ (List.mem_of_getElem? (i := 10) rfl))) (mvT hZ (hw _ (List.mem_of_getElem? (i := 11) rfl))) (mvT hZ (hw _ (List.mem_of_getElem? (i := 3) rfl))) (mvT hZ (hw _ (List.mem_of_getElem? (i := 12) rfl))) (by decide) (backOf (W := 0) (rmq27) hZ (hw _ (List.mem_of_getElem? (i := 12) rfl)) (hw _ (List.mem_of_getElem? (i := 3) rfl)) (by decide) (by decide)) (g := (mkF m 614 #[.val (.long v0), .second, .val (.int v2), .val (.int v3), .val (.int v4), .val (.long v5), .second, .val (.int (x2 &&& (7 : Int32))), .val (.int (x3.toInt8.toInt32)), .val (.ref w_ba), .val (.int nN), .val (.int rq.1), .val (.int (1 : Int32))] [(.int (x3.toInt8.toInt32)), (.long v5), (.int nN), (.int (x2 &&& (7 : Int32))), (.int (16 : Int32)), (.ref w_ba)])) rfl (by rw [hml]; rfl) (argsL := [(.ref w_ba), (.int (16 : Int32)), (.int (x2 &&& (7 : Int32))), (.int nN), (.long v5), (.int (x3.toInt8.toInt32))]) (rest := []) (lenOf pd_2 rfl) rfl (by show 2 * 0 + _ ≤ _; exact Nat.le_of_eq rfl) (hb hby at_614) (fun _ _ => ⟨rfl, ec596_45, (by decide : 1 + 0 ≤ _), (by decide : 18 + 0 ≤ _)⟩)
    dsimp only [Pt.U, Pt.locs, Pt.cells, Pt.slots] at Xc614_46 lc614_46 yc614_46 zc614_46 stc614_46 hQc614_46
    subst lc614_46 yc614_46 zc614_46
    obtain ⟨rfl, rfl, ec614_46⟩ := hQc614_46
    refine Runs.go stc614_46 ?_
    simp only [List.append_nil, Nat.add_zero] at Xc614_46
    have Nc614_46 := Nc596_45
    show Runs p e below s _ _ _ (Tc614_46.setTop (mkF m 617 #[.val (.long v0), .second, .val (.int v2), .val (.int v3), .val (.int v4), .val (.long v5), .second, .val (.int (x2 &&& (7 : Int32))), .val (.int (x3.toInt8.toInt32)), .val (.ref w_ba), .val (.int nN), .val (.int rq.1), .val (.int (1 : Int32))] [(.int zq27)]))
    refine Runs.go (fun _ => XS.ifNo Xc614_46.here hx rfl (hb hby at_617) rfl ((if0 _ _).trans (feq (hne27 : ¬ (zq27 = (0 : Int32)))).1)) ?_
    show Runs p e below s _ _ _ (Tc614_46.setTop (mkF m 620 #[.val (.long v0), .second, .val (.int v2), .val (.int v3), .val (.int v4), .val (.long v5), .second, .val (.int (x2 &&& (7 : Int32))), .val (.int (x3.toInt8.toInt32)), .val (.ref w_ba), .val (.int nN), .val (.int rq.1), .val (.int (1 : Int32))] []))
    refine Runs.go (fun _ => XS.aload Xc614_46.here hx rfl (hb hby at_620) rfl rfl) ?_
    show Runs p e below s _ _ _ (Tc614_46.setTop (mkF m 622 #[.val (.long v0), .second, .val (.int v2), .val (.int v3), .val (.int v4), .val (.long v5), .second, .val (.int (x2 &&& (7 : Int32))), .val (.int (x3.toInt8.toInt32)), .val (.ref w_ba), .val (.int nN), .val (.int rq.1), .val (.int (1 : Int32))] [(.ref w_ba)]))
    refine Runs.go (fun _ => XS.bipush Xc614_46.here hx rfl (hb hby at_622)) ?_
    show Runs p e below s _ _ _ (Tc614_46.setTop (mkF m 624 #[.val (.long v0), .second, .val (.int v2), .val (.int v3), .val (.int v4), .val (.long v5), .second, .val (.int (x2 &&& (7 : Int32))), .val (.int (x3.toInt8.toInt32)), .val (.ref w_ba), .val (.int nN), .val (.int rq.1), .val (.int (1 : Int32))] [(.int (17 : Int32)), (.ref w_ba)]))
    refine Runs.go (fun _ => XS.iload Xc614_46.here hx rfl (hb hby at_624) rfl) ?_
    show Runs p e below s _ _ _ (Tc614_46.setTop (mkF m 626 #[.val (.long v0), .second, .val (.int v2), .val (.int v3), .val (.int v4), .val (.long v5), .second, .val (.int (x2 &&& (7 : Int32))), .val (.int (x3.toInt8.toInt32)), .val (.ref w_ba), .val (.int nN), .val (.int rq.1), .val (.int (1 : Int32))] [(.int (x2 &&& (7 : Int32))), (.int (17 : Int32)), (.ref w_ba)]))
    refine Runs.go (fun _ => XS.iload Xc614_46.here hx rfl (hb hby at_626) rfl) ?_
    show Runs p e below s _ _ _ (Tc614_46.setTop (mkF m 628 #[.val (.long v0), .second, .val (.int v2), .val (.int v3), .val (.int v4), .val (.long v5), .second, .val (.int (x2 &&& (7 : Int32))), .val (.int (x3.toInt8.toInt32)), .val (.ref w_ba), .val (.int nN), .val (.int rq.1), .val (.int (1 : Int32))] [(.int nN), (.int (x2 &&& (7 : Int32))), (.int (17 : Int32)), (.ref w_ba)]))
    refine Runs.go (fun _ => XS.lload Xc614_46.here hx rfl (hb hby at_628) rfl) ?_
    show Runs p e below s _ _ _ (Tc614_46.setTop (mkF m 630 #[.val (.long v0), .second, .val (.int v2), .val (.int v3), .val (.int v4), .val (.long v5), .second, .val (.int (x2 &&& (7 : Int32))), .val (.int (x3.toInt8.toInt32)), .val (.ref w_ba), .val (.int nN), .val (.int rq.1), .val (.int (1 : Int32))] [(.long v5), (.int nN), (.int (x2 &&& (7 : Int32))), (.int (17 : Int32)), (.ref w_ba)]))
    refine Runs.go (fun _ => XS.iload Xc614_46.here hx rfl (hb hby at_630) rfl) ?_
    show Runs p e below s _ _ _ (Tc614_46.setTop (mkF m 632 #[.val (.long v0), .second, .val (.int v2), .val (.int v3), .val (.int v4), .val (.long v5), .second, .val (.int (x2 &&& (7 : Int32))), .val (.int (x3.toInt8.toInt32)), .val (.ref w_ba), .val (.int nN), .val (.int rq.1), .val (.int (1 : Int32))] [(.int (x3.toInt8.toInt32)), (.long v5), (.int nN), (.int (x2 &&& (7 : Int32))), (.int (17 : Int32)), (.ref w_ba)]))
    obtain ⟨zq28, hzq28⟩ : ∃ z, F3 (17 : Int32) (x2 &&& (7 : Int32)) nN v5 (x3.toInt8.toInt32) rq.2 = z := ⟨_, rfl⟩
    have hne28 : ¬ zq28 = (0 : Int32) := by rw [← hzq28, ← hrq, ← hN]; exact own_ok v5 x2 x3 17 (by decide) _ (by decide)
    have rmq28 := rm3 l Z a0 hw [] w_ba (17 : Int32) (x2 &&& (7 : Int32)) nN v5 (x3.toInt8.toInt32) rq.2 w_kk Tc233_29.heap n0 hzc233_29 Vc233_29 ⟨by decide, by decide⟩
    rw [hzq28] at rmq28
    obtain ⟨_, _, ⟨Tc632_47, Lc632_47, kc632_47, nc632_47⟩, -, Xc632_47, ⟨Lcc632_47, hQc632_47, lc632_47, yc632_47, zc632_47⟩, stc632_47⟩ := Jvm.LawKit.callS Xc614_46 hx (y := (⟨"com/example/caddis/caddis/index/IndexFormatPutVarintPinLaw", "ok", "([BIIIJB)Z"⟩ : MethodName)) hown (mvT hZ (hw _ (List.mem_of_getElem? (i := 10) rfl))) (mvT hZ (hw _ (List.mem_of_getElem? (i := 11) rfl))) (mvT hZ (hw _ (List.mem_of_getElem? (i := 3) rfl))) (mvT hZ (hw _ (List.mem_of_getElem? (i := 12) rfl))) (by decide) (backOf (W := 0) (rmq28) hZ (hw _ (List.mem_of_getElem? (i := 12) rfl)) (hw _ (List.mem_of_getElem? (i := 3) rfl)) (by decide) (by decide)) (g := (mkF m 632 #[.val (.long v0), .second, .val (.int v2), .val (.int v3), .val (.int v4), .val (.long v5), .second, .val (.int (x2 &&& (7 : Int32))), .val (.int (x3.toInt8.toInt32)), .val (.ref w_ba), .val (.int nN), .val (.int rq.1), .val (.int (1 : Int32))] [(.int (x3.toInt8.toInt32)), (.long v5), (.int nN), (.int (x2 &&& (7 : Int32))), (.int (17 : Int32)), (.ref w_ba)])) rfl (by rw [hml]; rfl) (argsL := [(.ref w_ba), (.int (17 : Int32)), (.int (x2 &&& (7 : Int32))), (.int nN), (.long v5), (.int (x3.toInt8.toInt32))]) (rest := []) (lenOf pd_2 rfl) rfl (by show 2 * 0 + _ ≤ _; exact Nat.le_of_eq rfl) (hb hby at_632) (fun _ _ => ⟨rfl, ec614_46, (by decide : 1 + 0 ≤ _), (by decide : 18 + 0 ≤ _)⟩)
    dsimp only [Pt.U, Pt.locs, Pt.cells, Pt.slots] at Xc632_47 lc632_47 yc632_47 zc632_47 stc632_47 hQc632_47
    subst lc632_47 yc632_47 zc632_47
    obtain ⟨rfl, rfl, ec632_47⟩ := hQc632_47
    refine Runs.go stc632_47 ?_
    simp only [List.append_nil, Nat.add_zero] at Xc632_47
    have Nc632_47 := Nc614_46
    show Runs p e below s _ _ _ (Tc632_47.setTop (mkF m 635 #[.val (.long v0), .second, .val (.int v2), .val (.int v3), .val (.int v4), .val (.long v5), .second, .val (.int (x2 &&& (7 : Int32))), .val (.int (x3.toInt8.toInt32)), .val (.ref w_ba), .val (.int nN), .val (.int rq.1), .val (.int (1 : Int32))] [(.int zq28)]))
    refine Runs.go (fun _ => XS.ifNo Xc632_47.here hx rfl (hb hby at_635) rfl ((if0 _ _).trans (feq (hne28 : ¬ (zq28 = (0 : Int32)))).1)) ?_
    show Runs p e below s _ _ _ (Tc632_47.setTop (mkF m 638 #[.val (.long v0), .second, .val (.int v2), .val (.int v3), .val (.int v4), .val (.long v5), .second, .val (.int (x2 &&& (7 : Int32))), .val (.int (x3.toInt8.toInt32)), .val (.ref w_ba), .val (.int nN), .val (.int rq.1), .val (.int (1 : Int32))] []))
    refine Runs.go (fun _ => XS.iconst Xc632_47.here hx rfl (hb hby at_638)) ?_
    show Runs p e below s _ _ _ (Tc632_47.setTop (mkF m 639 #[.val (.long v0), .second, .val (.int v2), .val (.int v3), .val (.int v4), .val (.long v5), .second, .val (.int (x2 &&& (7 : Int32))), .val (.int (x3.toInt8.toInt32)), .val (.ref w_ba), .val (.int nN), .val (.int rq.1), .val (.int (1 : Int32))] [(.int (1 : Int32))]))
    refine Runs.go (fun _ => XS.goto Xc632_47.here hx rfl (pc0 := 639) (pc' := 643) rfl (hb hby at_639) (by decide) (by decide)) ?_
    show Runs p e below s _ _ _ (Tc632_47.setTop (mkF m 643 #[.val (.long v0), .second, .val (.int v2), .val (.int v3), .val (.int v4), .val (.long v5), .second, .val (.int (x2 &&& (7 : Int32))), .val (.int (x3.toInt8.toInt32)), .val (.ref w_ba), .val (.int nN), .val (.int rq.1), .val (.int (1 : Int32))] [(.int (1 : Int32))]))
    refine Runs.go (fun _ => XS.istore Xc632_47.here hx rfl (hb hby at_643) rfl (l' := #[.val (.long v0), .second, .val (.int v2), .val (.int v3), .val (.int v4), .val (.long v5), .second, .val (.int (x2 &&& (7 : Int32))), .val (.int (x3.toInt8.toInt32)), .val (.ref w_ba), .val (.int nN), .val (.int rq.1), .val (.int (1 : Int32))]) rfl) ?_
    show Runs p e below s _ _ _ (Tc632_47.setTop (mkF m 645 #[.val (.long v0), .second, .val (.int v2), .val (.int v3), .val (.int v4), .val (.long v5), .second, .val (.int (x2 &&& (7 : Int32))), .val (.int (x3.toInt8.toInt32)), .val (.ref w_ba), .val (.int nN), .val (.int rq.1), .val (.int (1 : Int32))] []))
    refine Runs.go (fun _ => XS.iload Xc632_47.here hx rfl (hb hby at_645) rfl) ?_
    show Runs p e below s _ _ _ (Tc632_47.setTop (mkF m 647 #[.val (.long v0), .second, .val (.int v2), .val (.int v3), .val (.int v4), .val (.long v5), .second, .val (.int (x2 &&& (7 : Int32))), .val (.int (x3.toInt8.toInt32)), .val (.ref w_ba), .val (.int nN), .val (.int rq.1), .val (.int (1 : Int32))] [(.int (1 : Int32))]))
    exact Runs.endN Xc632_47 hx (t := .boolean) Bd.returns (by simp) Bd.notSynchronized (hb hby at_647) ⟨congrArg (fun z => some (Value.int z)) hv, Nc632_47⟩ (by decide) (by decide)
  have k_18 : ∀ (T : State) (locs : List Loc) (h : Heap) (X : Stand p l e room_1 s m #[(.long x0), (.int x1), (.int x2), (.int x3)] below meth c T locs 0 0) (eT : T.heap = h) (N : Fr n0 locs) (v0 : Int64) (v2 : Int32) (t0 : Int64) (G_Z0 : n0 ≤ h.size), f0_18 x0 x1 x2 x3 t0 = r → Runs p e below s (QH (.int r) n0) room_1.cells room_1.slots (T.setTop (mkF m 18 #[.val (.long v0), .second, .val (.int v2), .val (.int x2), .val (.int x3), .unset, .unset, .unset, .unset, .unset, .unset, .unset, .unset] [(.long t0)])) := by
    intro T locs h X eT N v0 v2 t0 G_Z0 hv
    unfold f0_18 at hv
    refine Runs.go (fun _ => XS.lstore X.here hx rfl (hb hby at_18) rfl (l' := #[.val (.long v0), .second, .val (.int v2), .val (.int x2), .val (.int x3), .val (.long t0), .second, .unset, .unset, .unset, .unset, .unset, .unset]) rfl) ?_
    show Runs p e below s _ _ _ (T.setTop (mkF m 20 #[.val (.long v0), .second, .val (.int v2), .val (.int x2), .val (.int x3), .val (.long t0), .second, .unset, .unset, .unset, .unset, .unset, .unset] []))
    refine Runs.go (fun _ => XS.iloadN X.here hx rfl (hb hby at_20) rfl) ?_
    show Runs p e below s _ _ _ (T.setTop (mkF m 21 #[.val (.long v0), .second, .val (.int v2), .val (.int x2), .val (.int x3), .val (.long t0), .second, .unset, .unset, .unset, .unset, .unset, .unset] [(.int x2)]))
    refine Runs.go (fun _ => XS.bipush X.here hx rfl (hb hby at_21)) ?_
    show Runs p e below s _ _ _ (T.setTop (mkF m 23 #[.val (.long v0), .second, .val (.int v2), .val (.int x2), .val (.int x3), .val (.long t0), .second, .unset, .unset, .unset, .unset, .unset, .unset] [(.int (7 : Int32)), (.int x2)]))
    refine Runs.go (fun _ => XS.iand X.here hx rfl (hb hby at_23) rfl) ?_
    show Runs p e below s _ _ _ (T.setTop (mkF m 24 #[.val (.long v0), .second, .val (.int v2), .val (.int x2), .val (.int x3), .val (.long t0), .second, .unset, .unset, .unset, .unset, .unset, .unset] [(.int (x2 &&& (7 : Int32)))]))
    refine Runs.go (fun _ => XS.istore X.here hx rfl (hb hby at_24) rfl (l' := #[.val (.long v0), .second, .val (.int v2), .val (.int x2), .val (.int x3), .val (.long t0), .second, .val (.int (x2 &&& (7 : Int32))), .unset, .unset, .unset, .unset, .unset]) rfl) ?_
    show Runs p e below s _ _ _ (T.setTop (mkF m 26 #[.val (.long v0), .second, .val (.int v2), .val (.int x2), .val (.int x3), .val (.long t0), .second, .val (.int (x2 &&& (7 : Int32))), .unset, .unset, .unset, .unset, .unset] []))
    refine Runs.go (fun _ => XS.iload X.here hx rfl (hb hby at_26) rfl) ?_
    show Runs p e below s _ _ _ (T.setTop (mkF m 28 #[.val (.long v0), .second, .val (.int v2), .val (.int x2), .val (.int x3), .val (.long t0), .second, .val (.int (x2 &&& (7 : Int32))), .unset, .unset, .unset, .unset, .unset] [(.int x3)]))
    refine Runs.go (fun _ => XS.i2b X.here hx rfl (hb hby at_28) rfl) ?_
    show Runs p e below s _ _ _ (T.setTop (mkF m 29 #[.val (.long v0), .second, .val (.int v2), .val (.int x2), .val (.int x3), .val (.long t0), .second, .val (.int (x2 &&& (7 : Int32))), .unset, .unset, .unset, .unset, .unset] [(.int (x3.toInt8.toInt32))]))
    refine Runs.go (fun _ => XS.istore X.here hx rfl (hb hby at_29) rfl (l' := #[.val (.long v0), .second, .val (.int v2), .val (.int x2), .val (.int x3), .val (.long t0), .second, .val (.int (x2 &&& (7 : Int32))), .val (.int (x3.toInt8.toInt32)), .unset, .unset, .unset, .unset]) rfl) ?_
    show Runs p e below s _ _ _ (T.setTop (mkF m 31 #[.val (.long v0), .second, .val (.int v2), .val (.int x2), .val (.int x3), .val (.long t0), .second, .val (.int (x2 &&& (7 : Int32))), .val (.int (x3.toInt8.toInt32)), .unset, .unset, .unset, .unset] []))
    refine Runs.go (fun _ => XS.bipush X.here hx rfl (hb hby at_31)) ?_
    show Runs p e below s _ _ _ (T.setTop (mkF m 33 #[.val (.long v0), .second, .val (.int v2), .val (.int x2), .val (.int x3), .val (.long t0), .second, .val (.int (x2 &&& (7 : Int32))), .val (.int (x3.toInt8.toInt32)), .unset, .unset, .unset, .unset] [(.int (18 : Int32))]))
    obtain ⟨Ta33_1, ha33_1, ka33_1, Xa33_1, ea33_1, Ea33_1, Aa33_1, sta33_1⟩ := newP X hx hZ (hw _ (List.mem_of_getElem? (i := 0) rfl)) eT (g := (mkF m 33 #[.val (.long v0), .second, .val (.int v2), .val (.int x2), .val (.int x3), .val (.long t0), .second, .val (.int (x2 &&& (7 : Int32))), .val (.int (x3.toInt8.toInt32)), .unset, .unset, .unset, .unset] [(.int (18 : Int32))])) rfl (hb hby at_33) rfl (by decide) (cap := 18) (by decide) (by decide) (by decide) (by decide)
    obtain ⟨ba33_1, ga33_1⟩ : ∃ z, z = h.size := ⟨_, rfl⟩
    have gb_ba33_1 : n0 ≤ ba33_1 := Nat.le_trans G_Z0 (Nat.le_of_eq ga33_1.symm)
    rw [← ga33_1] at Aa33_1 sta33_1
    refine Runs.go sta33_1 ?_
    have hna33_1 : n0 ≤ ha33_1.size := Nat.le_trans G_Z0 Ea33_1.1
    have Va33_1 : Arv Z ha33_1 ba33_1 ka33_1 .byte (18 : Int32) [(.int (0 : Int32)), (.int (0 : Int32)), (.int (0 : Int32)), (.int (0 : Int32)), (.int (0 : Int32)), (.int (0 : Int32)), (.int (0 : Int32)), (.int (0 : Int32)), (.int (0 : Int32)), (.int (0 : Int32)), (.int (0 : Int32)), (.int (0 : Int32)), (.int (0 : Int32)), (.int (0 : Int32)), (.int (0 : Int32)), (.int (0 : Int32)), (.int (0 : Int32)), (.int (0 : Int32))] (.int (0 : Int32)) := (Arv.new Aa33_1 (by decide)).pad (pad_rep [] (.int (0 : Int32)) 18)
    show Runs p e below s _ _ _ (Ta33_1.setTop (mkF m 35 #[.val (.long v0), .second, .val (.int v2), .val (.int x2), .val (.int x3), .val (.long t0), .second, .val (.int (x2 &&& (7 : Int32))), .val (.int (x3.toInt8.toInt32)), .unset, .unset, .unset, .unset] [(.ref ba33_1)]))
    refine Runs.go (fun _ => XS.astore Xa33_1.here hx rfl (hb hby at_35) rfl rfl (l' := #[.val (.long v0), .second, .val (.int v2), .val (.int x2), .val (.int x3), .val (.long t0), .second, .val (.int (x2 &&& (7 : Int32))), .val (.int (x3.toInt8.toInt32)), .val (.ref ba33_1), .unset, .unset, .unset]) rfl) ?_
    show Runs p e below s _ _ _ (Ta33_1.setTop (mkF m 37 #[.val (.long v0), .second, .val (.int v2), .val (.int x2), .val (.int x3), .val (.long t0), .second, .val (.int (x2 &&& (7 : Int32))), .val (.int (x3.toInt8.toInt32)), .val (.ref ba33_1), .unset, .unset, .unset] []))
    refine Runs.go (fun _ => XS.aload Xa33_1.here hx rfl (hb hby at_37) rfl rfl) ?_
    show Runs p e below s _ _ _ (Ta33_1.setTop (mkF m 39 #[.val (.long v0), .second, .val (.int v2), .val (.int x2), .val (.int x3), .val (.long t0), .second, .val (.int (x2 &&& (7 : Int32))), .val (.int (x3.toInt8.toInt32)), .val (.ref ba33_1), .unset, .unset, .unset] [(.ref ba33_1)]))
    refine Runs.go (fun _ => XS.iconst Xa33_1.here hx rfl (hb hby at_39)) ?_
    show Runs p e below s _ _ _ (Ta33_1.setTop (mkF m 40 #[.val (.long v0), .second, .val (.int v2), .val (.int x2), .val (.int x3), .val (.long t0), .second, .val (.int (x2 &&& (7 : Int32))), .val (.int (x3.toInt8.toInt32)), .val (.ref ba33_1), .unset, .unset, .unset] [(.int (0 : Int32)), (.ref ba33_1)]))
    refine Runs.go (fun _ => XS.iload Xa33_1.here hx rfl (hb hby at_40) rfl) ?_
    show Runs p e below s _ _ _ (Ta33_1.setTop (mkF m 42 #[.val (.long v0), .second, .val (.int v2), .val (.int x2), .val (.int x3), .val (.long t0), .second, .val (.int (x2 &&& (7 : Int32))), .val (.int (x3.toInt8.toInt32)), .val (.ref ba33_1), .unset, .unset, .unset] [(.int (x3.toInt8.toInt32)), (.int (0 : Int32)), (.ref ba33_1)]))
    have VCw42_2 := Va33_1
    obtain ⟨clw42_2, Arw42_2, qw42_2, Sw42_2, Mw42_2, Hw42_2, Gw42_2⟩ := VCw42_2
    have hinw42_2 : ¬ ((0 : Int32) < 0 ∨ clw42_2.slots.size ≤ ((0 : Int32)).toNatClampNeg) := inb_of Sw42_2 ⟨by decide, by decide⟩
    obtain ⟨Tw42_2, hw42_2, Xw42_2, ew42_2, Ww42_2, stw42_2⟩ := stB Xa33_1 hx hZ ea33_1 Arw42_2 (j := (0 : Int32)) hinw42_2 (g := (mkF m 42 #[.val (.long v0), .second, .val (.int v2), .val (.int x2), .val (.int x3), .val (.long t0), .second, .val (.int (x2 &&& (7 : Int32))), .val (.int (x3.toInt8.toInt32)), .val (.ref ba33_1), .unset, .unset, .unset] [(.int (x3.toInt8.toInt32)), (.int (0 : Int32)), (.ref ba33_1)])) rfl rfl (hb hby at_42)
    refine Runs.go stw42_2 ?_
    have hnw42_2 : n0 ≤ hw42_2.size := by rw [Wr.size Ww42_2]; exact hna33_1
    have Vw42_2 : Arv Z hw42_2 ba33_1 ka33_1 .byte (18 : Int32) [(.int (nar .byte (x3.toInt8.toInt32))), (.int (0 : Int32)), (.int (0 : Int32)), (.int (0 : Int32)), (.int (0 : Int32)), (.int (0 : Int32)), (.int (0 : Int32)), (.int (0 : Int32)), (.int (0 : Int32)), (.int (0 : Int32)), (.int (0 : Int32)), (.int (0 : Int32)), (.int (0 : Int32)), (.int (0 : Int32)), (.int (0 : Int32)), (.int (0 : Int32)), (.int (0 : Int32)), (.int (0 : Int32))] (.int (0 : Int32)) := Arv.set Arw42_2 qw42_2 Sw42_2 Mw42_2 Hw42_2 Gw42_2 (fits_nar_byte _) Ww42_2 0 rfl (Nat.le_of_ble_eq_true rfl)
    have Nw42_2 := Fr.snoc Xw42_2 N gb_ba33_1
    show Runs p e below s _ _ _ (Tw42_2.setTop (mkF m 43 #[.val (.long v0), .second, .val (.int v2), .val (.int x2), .val (.int x3), .val (.long t0), .second, .val (.int (x2 &&& (7 : Int32))), .val (.int (x3.toInt8.toInt32)), .val (.ref ba33_1), .unset, .unset, .unset] []))
    refine Runs.go (fun _ => XS.aload Xw42_2.here hx rfl (hb hby at_43) rfl rfl) ?_
    show Runs p e below s _ _ _ (Tw42_2.setTop (mkF m 45 #[.val (.long v0), .second, .val (.int v2), .val (.int x2), .val (.int x3), .val (.long t0), .second, .val (.int (x2 &&& (7 : Int32))), .val (.int (x3.toInt8.toInt32)), .val (.ref ba33_1), .unset, .unset, .unset] [(.ref ba33_1)]))
    refine Runs.go (fun _ => XS.iconst Xw42_2.here hx rfl (hb hby at_45)) ?_
    show Runs p e below s _ _ _ (Tw42_2.setTop (mkF m 46 #[.val (.long v0), .second, .val (.int v2), .val (.int x2), .val (.int x3), .val (.long t0), .second, .val (.int (x2 &&& (7 : Int32))), .val (.int (x3.toInt8.toInt32)), .val (.ref ba33_1), .unset, .unset, .unset] [(.int (1 : Int32)), (.ref ba33_1)]))
    refine Runs.go (fun _ => XS.iload Xw42_2.here hx rfl (hb hby at_46) rfl) ?_
    show Runs p e below s _ _ _ (Tw42_2.setTop (mkF m 48 #[.val (.long v0), .second, .val (.int v2), .val (.int x2), .val (.int x3), .val (.long t0), .second, .val (.int (x2 &&& (7 : Int32))), .val (.int (x3.toInt8.toInt32)), .val (.ref ba33_1), .unset, .unset, .unset] [(.int (x3.toInt8.toInt32)), (.int (1 : Int32)), (.ref ba33_1)]))
    have VCw48_3 := Vw42_2
    obtain ⟨clw48_3, Arw48_3, qw48_3, Sw48_3, Mw48_3, Hw48_3, Gw48_3⟩ := VCw48_3
    have hinw48_3 : ¬ ((1 : Int32) < 0 ∨ clw48_3.slots.size ≤ ((1 : Int32)).toNatClampNeg) := inb_of Sw48_3 ⟨by decide, by decide⟩
    obtain ⟨Tw48_3, hw48_3, Xw48_3, ew48_3, Ww48_3, stw48_3⟩ := stB Xw42_2 hx hZ ew42_2 Arw48_3 (j := (1 : Int32)) hinw48_3 (g := (mkF m 48 #[.val (.long v0), .second, .val (.int v2), .val (.int x2), .val (.int x3), .val (.long t0), .second, .val (.int (x2 &&& (7 : Int32))), .val (.int (x3.toInt8.toInt32)), .val (.ref ba33_1), .unset, .unset, .unset] [(.int (x3.toInt8.toInt32)), (.int (1 : Int32)), (.ref ba33_1)])) rfl rfl (hb hby at_48)
    refine Runs.go stw48_3 ?_
    have hnw48_3 : n0 ≤ hw48_3.size := by rw [Wr.size Ww48_3]; exact hnw42_2
    have Vw48_3 : Arv Z hw48_3 ba33_1 ka33_1 .byte (18 : Int32) [(.int (nar .byte (x3.toInt8.toInt32))), (.int (nar .byte (x3.toInt8.toInt32))), (.int (0 : Int32)), (.int (0 : Int32)), (.int (0 : Int32)), (.int (0 : Int32)), (.int (0 : Int32)), (.int (0 : Int32)), (.int (0 : Int32)), (.int (0 : Int32)), (.int (0 : Int32)), (.int (0 : Int32)), (.int (0 : Int32)), (.int (0 : Int32)), (.int (0 : Int32)), (.int (0 : Int32)), (.int (0 : Int32)), (.int (0 : Int32))] (.int (0 : Int32)) := Arv.set Arw48_3 qw48_3 Sw48_3 Mw48_3 Hw48_3 Gw48_3 (fits_nar_byte _) Ww48_3 1 rfl (Nat.le_of_ble_eq_true rfl)
    have Nw48_3 := Fr.snoc Xw48_3 Nw42_2 gb_ba33_1
    show Runs p e below s _ _ _ (Tw48_3.setTop (mkF m 49 #[.val (.long v0), .second, .val (.int v2), .val (.int x2), .val (.int x3), .val (.long t0), .second, .val (.int (x2 &&& (7 : Int32))), .val (.int (x3.toInt8.toInt32)), .val (.ref ba33_1), .unset, .unset, .unset] []))
    refine Runs.go (fun _ => XS.aload Xw48_3.here hx rfl (hb hby at_49) rfl rfl) ?_
    show Runs p e below s _ _ _ (Tw48_3.setTop (mkF m 51 #[.val (.long v0), .second, .val (.int v2), .val (.int x2), .val (.int x3), .val (.long t0), .second, .val (.int (x2 &&& (7 : Int32))), .val (.int (x3.toInt8.toInt32)), .val (.ref ba33_1), .unset, .unset, .unset] [(.ref ba33_1)]))
    refine Runs.go (fun _ => XS.iconst Xw48_3.here hx rfl (hb hby at_51)) ?_
    show Runs p e below s _ _ _ (Tw48_3.setTop (mkF m 52 #[.val (.long v0), .second, .val (.int v2), .val (.int x2), .val (.int x3), .val (.long t0), .second, .val (.int (x2 &&& (7 : Int32))), .val (.int (x3.toInt8.toInt32)), .val (.ref ba33_1), .unset, .unset, .unset] [(.int (2 : Int32)), (.ref ba33_1)]))
    refine Runs.go (fun _ => XS.iload Xw48_3.here hx rfl (hb hby at_52) rfl) ?_
    show Runs p e below s _ _ _ (Tw48_3.setTop (mkF m 54 #[.val (.long v0), .second, .val (.int v2), .val (.int x2), .val (.int x3), .val (.long t0), .second, .val (.int (x2 &&& (7 : Int32))), .val (.int (x3.toInt8.toInt32)), .val (.ref ba33_1), .unset, .unset, .unset] [(.int (x3.toInt8.toInt32)), (.int (2 : Int32)), (.ref ba33_1)]))
    have VCw54_4 := Vw48_3
    obtain ⟨clw54_4, Arw54_4, qw54_4, Sw54_4, Mw54_4, Hw54_4, Gw54_4⟩ := VCw54_4
    have hinw54_4 : ¬ ((2 : Int32) < 0 ∨ clw54_4.slots.size ≤ ((2 : Int32)).toNatClampNeg) := inb_of Sw54_4 ⟨by decide, by decide⟩
    obtain ⟨Tw54_4, hw54_4, Xw54_4, ew54_4, Ww54_4, stw54_4⟩ := stB Xw48_3 hx hZ ew48_3 Arw54_4 (j := (2 : Int32)) hinw54_4 (g := (mkF m 54 #[.val (.long v0), .second, .val (.int v2), .val (.int x2), .val (.int x3), .val (.long t0), .second, .val (.int (x2 &&& (7 : Int32))), .val (.int (x3.toInt8.toInt32)), .val (.ref ba33_1), .unset, .unset, .unset] [(.int (x3.toInt8.toInt32)), (.int (2 : Int32)), (.ref ba33_1)])) rfl rfl (hb hby at_54)
    refine Runs.go stw54_4 ?_
    have hnw54_4 : n0 ≤ hw54_4.size := by rw [Wr.size Ww54_4]; exact hnw48_3
    have Vw54_4 : Arv Z hw54_4 ba33_1 ka33_1 .byte (18 : Int32) [(.int (nar .byte (x3.toInt8.toInt32))), (.int (nar .byte (x3.toInt8.toInt32))), (.int (nar .byte (x3.toInt8.toInt32))), (.int (0 : Int32)), (.int (0 : Int32)), (.int (0 : Int32)), (.int (0 : Int32)), (.int (0 : Int32)), (.int (0 : Int32)), (.int (0 : Int32)), (.int (0 : Int32)), (.int (0 : Int32)), (.int (0 : Int32)), (.int (0 : Int32)), (.int (0 : Int32)), (.int (0 : Int32)), (.int (0 : Int32)), (.int (0 : Int32))] (.int (0 : Int32)) := Arv.set Arw54_4 qw54_4 Sw54_4 Mw54_4 Hw54_4 Gw54_4 (fits_nar_byte _) Ww54_4 2 rfl (Nat.le_of_ble_eq_true rfl)
    have Nw54_4 := Fr.snoc Xw54_4 Nw48_3 gb_ba33_1
    show Runs p e below s _ _ _ (Tw54_4.setTop (mkF m 55 #[.val (.long v0), .second, .val (.int v2), .val (.int x2), .val (.int x3), .val (.long t0), .second, .val (.int (x2 &&& (7 : Int32))), .val (.int (x3.toInt8.toInt32)), .val (.ref ba33_1), .unset, .unset, .unset] []))
    refine Runs.go (fun _ => XS.aload Xw54_4.here hx rfl (hb hby at_55) rfl rfl) ?_
    show Runs p e below s _ _ _ (Tw54_4.setTop (mkF m 57 #[.val (.long v0), .second, .val (.int v2), .val (.int x2), .val (.int x3), .val (.long t0), .second, .val (.int (x2 &&& (7 : Int32))), .val (.int (x3.toInt8.toInt32)), .val (.ref ba33_1), .unset, .unset, .unset] [(.ref ba33_1)]))
    refine Runs.go (fun _ => XS.iconst Xw54_4.here hx rfl (hb hby at_57)) ?_
    show Runs p e below s _ _ _ (Tw54_4.setTop (mkF m 58 #[.val (.long v0), .second, .val (.int v2), .val (.int x2), .val (.int x3), .val (.long t0), .second, .val (.int (x2 &&& (7 : Int32))), .val (.int (x3.toInt8.toInt32)), .val (.ref ba33_1), .unset, .unset, .unset] [(.int (3 : Int32)), (.ref ba33_1)]))
    refine Runs.go (fun _ => XS.iload Xw54_4.here hx rfl (hb hby at_58) rfl) ?_
    show Runs p e below s _ _ _ (Tw54_4.setTop (mkF m 60 #[.val (.long v0), .second, .val (.int v2), .val (.int x2), .val (.int x3), .val (.long t0), .second, .val (.int (x2 &&& (7 : Int32))), .val (.int (x3.toInt8.toInt32)), .val (.ref ba33_1), .unset, .unset, .unset] [(.int (x3.toInt8.toInt32)), (.int (3 : Int32)), (.ref ba33_1)]))
    have VCw60_5 := Vw54_4
    obtain ⟨clw60_5, Arw60_5, qw60_5, Sw60_5, Mw60_5, Hw60_5, Gw60_5⟩ := VCw60_5
    have hinw60_5 : ¬ ((3 : Int32) < 0 ∨ clw60_5.slots.size ≤ ((3 : Int32)).toNatClampNeg) := inb_of Sw60_5 ⟨by decide, by decide⟩
    obtain ⟨Tw60_5, hw60_5, Xw60_5, ew60_5, Ww60_5, stw60_5⟩ := stB Xw54_4 hx hZ ew54_4 Arw60_5 (j := (3 : Int32)) hinw60_5 (g := (mkF m 60 #[.val (.long v0), .second, .val (.int v2), .val (.int x2), .val (.int x3), .val (.long t0), .second, .val (.int (x2 &&& (7 : Int32))), .val (.int (x3.toInt8.toInt32)), .val (.ref ba33_1), .unset, .unset, .unset] [(.int (x3.toInt8.toInt32)), (.int (3 : Int32)), (.ref ba33_1)])) rfl rfl (hb hby at_60)
    refine Runs.go stw60_5 ?_
    have hnw60_5 : n0 ≤ hw60_5.size := by rw [Wr.size Ww60_5]; exact hnw54_4
    have Vw60_5 : Arv Z hw60_5 ba33_1 ka33_1 .byte (18 : Int32) [(.int (nar .byte (x3.toInt8.toInt32))), (.int (nar .byte (x3.toInt8.toInt32))), (.int (nar .byte (x3.toInt8.toInt32))), (.int (nar .byte (x3.toInt8.toInt32))), (.int (0 : Int32)), (.int (0 : Int32)), (.int (0 : Int32)), (.int (0 : Int32)), (.int (0 : Int32)), (.int (0 : Int32)), (.int (0 : Int32)), (.int (0 : Int32)), (.int (0 : Int32)), (.int (0 : Int32)), (.int (0 : Int32)), (.int (0 : Int32)), (.int (0 : Int32)), (.int (0 : Int32))] (.int (0 : Int32)) := Arv.set Arw60_5 qw60_5 Sw60_5 Mw60_5 Hw60_5 Gw60_5 (fits_nar_byte _) Ww60_5 3 rfl (Nat.le_of_ble_eq_true rfl)
    have Nw60_5 := Fr.snoc Xw60_5 Nw54_4 gb_ba33_1
    show Runs p e below s _ _ _ (Tw60_5.setTop (mkF m 61 #[.val (.long v0), .second, .val (.int v2), .val (.int x2), .val (.int x3), .val (.long t0), .second, .val (.int (x2 &&& (7 : Int32))), .val (.int (x3.toInt8.toInt32)), .val (.ref ba33_1), .unset, .unset, .unset] []))
    refine Runs.go (fun _ => XS.aload Xw60_5.here hx rfl (hb hby at_61) rfl rfl) ?_
    show Runs p e below s _ _ _ (Tw60_5.setTop (mkF m 63 #[.val (.long v0), .second, .val (.int v2), .val (.int x2), .val (.int x3), .val (.long t0), .second, .val (.int (x2 &&& (7 : Int32))), .val (.int (x3.toInt8.toInt32)), .val (.ref ba33_1), .unset, .unset, .unset] [(.ref ba33_1)]))
    refine Runs.go (fun _ => XS.iconst Xw60_5.here hx rfl (hb hby at_63)) ?_
    show Runs p e below s _ _ _ (Tw60_5.setTop (mkF m 64 #[.val (.long v0), .second, .val (.int v2), .val (.int x2), .val (.int x3), .val (.long t0), .second, .val (.int (x2 &&& (7 : Int32))), .val (.int (x3.toInt8.toInt32)), .val (.ref ba33_1), .unset, .unset, .unset] [(.int (4 : Int32)), (.ref ba33_1)]))
    refine Runs.go (fun _ => XS.iload Xw60_5.here hx rfl (hb hby at_64) rfl) ?_
    show Runs p e below s _ _ _ (Tw60_5.setTop (mkF m 66 #[.val (.long v0), .second, .val (.int v2), .val (.int x2), .val (.int x3), .val (.long t0), .second, .val (.int (x2 &&& (7 : Int32))), .val (.int (x3.toInt8.toInt32)), .val (.ref ba33_1), .unset, .unset, .unset] [(.int (x3.toInt8.toInt32)), (.int (4 : Int32)), (.ref ba33_1)]))
    have VCw66_6 := Vw60_5
    obtain ⟨clw66_6, Arw66_6, qw66_6, Sw66_6, Mw66_6, Hw66_6, Gw66_6⟩ := VCw66_6
    have hinw66_6 : ¬ ((4 : Int32) < 0 ∨ clw66_6.slots.size ≤ ((4 : Int32)).toNatClampNeg) := inb_of Sw66_6 ⟨by decide, by decide⟩
    obtain ⟨Tw66_6, hw66_6, Xw66_6, ew66_6, Ww66_6, stw66_6⟩ := stB Xw60_5 hx hZ ew60_5 Arw66_6 (j := (4 : Int32)) hinw66_6 (g := (mkF m 66 #[.val (.long v0), .second, .val (.int v2), .val (.int x2), .val (.int x3), .val (.long t0), .second, .val (.int (x2 &&& (7 : Int32))), .val (.int (x3.toInt8.toInt32)), .val (.ref ba33_1), .unset, .unset, .unset] [(.int (x3.toInt8.toInt32)), (.int (4 : Int32)), (.ref ba33_1)])) rfl rfl (hb hby at_66)
    refine Runs.go stw66_6 ?_
    have hnw66_6 : n0 ≤ hw66_6.size := by rw [Wr.size Ww66_6]; exact hnw60_5
    have Vw66_6 : Arv Z hw66_6 ba33_1 ka33_1 .byte (18 : Int32) [(.int (nar .byte (x3.toInt8.toInt32))), (.int (nar .byte (x3.toInt8.toInt32))), (.int (nar .byte (x3.toInt8.toInt32))), (.int (nar .byte (x3.toInt8.toInt32))), (.int (nar .byte (x3.toInt8.toInt32))), (.int (0 : Int32)), (.int (0 : Int32)), (.int (0 : Int32)), (.int (0 : Int32)), (.int (0 : Int32)), (.int (0 : Int32)), (.int (0 : Int32)), (.int (0 : Int32)), (.int (0 : Int32)), (.int (0 : Int32)), (.int (0 : Int32)), (.int (0 : Int32)), (.int (0 : Int32))] (.int (0 : Int32)) := Arv.set Arw66_6 qw66_6 Sw66_6 Mw66_6 Hw66_6 Gw66_6 (fits_nar_byte _) Ww66_6 4 rfl (Nat.le_of_ble_eq_true rfl)
    have Nw66_6 := Fr.snoc Xw66_6 Nw60_5 gb_ba33_1
    show Runs p e below s _ _ _ (Tw66_6.setTop (mkF m 67 #[.val (.long v0), .second, .val (.int v2), .val (.int x2), .val (.int x3), .val (.long t0), .second, .val (.int (x2 &&& (7 : Int32))), .val (.int (x3.toInt8.toInt32)), .val (.ref ba33_1), .unset, .unset, .unset] []))
    refine Runs.go (fun _ => XS.aload Xw66_6.here hx rfl (hb hby at_67) rfl rfl) ?_
    show Runs p e below s _ _ _ (Tw66_6.setTop (mkF m 69 #[.val (.long v0), .second, .val (.int v2), .val (.int x2), .val (.int x3), .val (.long t0), .second, .val (.int (x2 &&& (7 : Int32))), .val (.int (x3.toInt8.toInt32)), .val (.ref ba33_1), .unset, .unset, .unset] [(.ref ba33_1)]))
    refine Runs.go (fun _ => XS.iconst Xw66_6.here hx rfl (hb hby at_69)) ?_
    show Runs p e below s _ _ _ (Tw66_6.setTop (mkF m 70 #[.val (.long v0), .second, .val (.int v2), .val (.int x2), .val (.int x3), .val (.long t0), .second, .val (.int (x2 &&& (7 : Int32))), .val (.int (x3.toInt8.toInt32)), .val (.ref ba33_1), .unset, .unset, .unset] [(.int (5 : Int32)), (.ref ba33_1)]))
    refine Runs.go (fun _ => XS.iload Xw66_6.here hx rfl (hb hby at_70) rfl) ?_
    show Runs p e below s _ _ _ (Tw66_6.setTop (mkF m 72 #[.val (.long v0), .second, .val (.int v2), .val (.int x2), .val (.int x3), .val (.long t0), .second, .val (.int (x2 &&& (7 : Int32))), .val (.int (x3.toInt8.toInt32)), .val (.ref ba33_1), .unset, .unset, .unset] [(.int (x3.toInt8.toInt32)), (.int (5 : Int32)), (.ref ba33_1)]))
    have VCw72_7 := Vw66_6
    obtain ⟨clw72_7, Arw72_7, qw72_7, Sw72_7, Mw72_7, Hw72_7, Gw72_7⟩ := VCw72_7
    have hinw72_7 : ¬ ((5 : Int32) < 0 ∨ clw72_7.slots.size ≤ ((5 : Int32)).toNatClampNeg) := inb_of Sw72_7 ⟨by decide, by decide⟩
    obtain ⟨Tw72_7, hw72_7, Xw72_7, ew72_7, Ww72_7, stw72_7⟩ := stB Xw66_6 hx hZ ew66_6 Arw72_7 (j := (5 : Int32)) hinw72_7 (g := (mkF m 72 #[.val (.long v0), .second, .val (.int v2), .val (.int x2), .val (.int x3), .val (.long t0), .second, .val (.int (x2 &&& (7 : Int32))), .val (.int (x3.toInt8.toInt32)), .val (.ref ba33_1), .unset, .unset, .unset] [(.int (x3.toInt8.toInt32)), (.int (5 : Int32)), (.ref ba33_1)])) rfl rfl (hb hby at_72)
    refine Runs.go stw72_7 ?_
    have hnw72_7 : n0 ≤ hw72_7.size := by rw [Wr.size Ww72_7]; exact hnw66_6
    have Vw72_7 : Arv Z hw72_7 ba33_1 ka33_1 .byte (18 : Int32) [(.int (nar .byte (x3.toInt8.toInt32))), (.int (nar .byte (x3.toInt8.toInt32))), (.int (nar .byte (x3.toInt8.toInt32))), (.int (nar .byte (x3.toInt8.toInt32))), (.int (nar .byte (x3.toInt8.toInt32))), (.int (nar .byte (x3.toInt8.toInt32))), (.int (0 : Int32)), (.int (0 : Int32)), (.int (0 : Int32)), (.int (0 : Int32)), (.int (0 : Int32)), (.int (0 : Int32)), (.int (0 : Int32)), (.int (0 : Int32)), (.int (0 : Int32)), (.int (0 : Int32)), (.int (0 : Int32)), (.int (0 : Int32))] (.int (0 : Int32)) := Arv.set Arw72_7 qw72_7 Sw72_7 Mw72_7 Hw72_7 Gw72_7 (fits_nar_byte _) Ww72_7 5 rfl (Nat.le_of_ble_eq_true rfl)
    have Nw72_7 := Fr.snoc Xw72_7 Nw66_6 gb_ba33_1
    show Runs p e below s _ _ _ (Tw72_7.setTop (mkF m 73 #[.val (.long v0), .second, .val (.int v2), .val (.int x2), .val (.int x3), .val (.long t0), .second, .val (.int (x2 &&& (7 : Int32))), .val (.int (x3.toInt8.toInt32)), .val (.ref ba33_1), .unset, .unset, .unset] []))
    refine Runs.go (fun _ => XS.aload Xw72_7.here hx rfl (hb hby at_73) rfl rfl) ?_
    show Runs p e below s _ _ _ (Tw72_7.setTop (mkF m 75 #[.val (.long v0), .second, .val (.int v2), .val (.int x2), .val (.int x3), .val (.long t0), .second, .val (.int (x2 &&& (7 : Int32))), .val (.int (x3.toInt8.toInt32)), .val (.ref ba33_1), .unset, .unset, .unset] [(.ref ba33_1)]))
    refine Runs.go (fun _ => XS.bipush Xw72_7.here hx rfl (hb hby at_75)) ?_
    show Runs p e below s _ _ _ (Tw72_7.setTop (mkF m 77 #[.val (.long v0), .second, .val (.int v2), .val (.int x2), .val (.int x3), .val (.long t0), .second, .val (.int (x2 &&& (7 : Int32))), .val (.int (x3.toInt8.toInt32)), .val (.ref ba33_1), .unset, .unset, .unset] [(.int (6 : Int32)), (.ref ba33_1)]))
    refine Runs.go (fun _ => XS.iload Xw72_7.here hx rfl (hb hby at_77) rfl) ?_
    show Runs p e below s _ _ _ (Tw72_7.setTop (mkF m 79 #[.val (.long v0), .second, .val (.int v2), .val (.int x2), .val (.int x3), .val (.long t0), .second, .val (.int (x2 &&& (7 : Int32))), .val (.int (x3.toInt8.toInt32)), .val (.ref ba33_1), .unset, .unset, .unset] [(.int (x3.toInt8.toInt32)), (.int (6 : Int32)), (.ref ba33_1)]))
    have VCw79_8 := Vw72_7
    obtain ⟨clw79_8, Arw79_8, qw79_8, Sw79_8, Mw79_8, Hw79_8, Gw79_8⟩ := VCw79_8
    have hinw79_8 : ¬ ((6 : Int32) < 0 ∨ clw79_8.slots.size ≤ ((6 : Int32)).toNatClampNeg) := inb_of Sw79_8 ⟨by decide, by decide⟩
    obtain ⟨Tw79_8, hw79_8, Xw79_8, ew79_8, Ww79_8, stw79_8⟩ := stB Xw72_7 hx hZ ew72_7 Arw79_8 (j := (6 : Int32)) hinw79_8 (g := (mkF m 79 #[.val (.long v0), .second, .val (.int v2), .val (.int x2), .val (.int x3), .val (.long t0), .second, .val (.int (x2 &&& (7 : Int32))), .val (.int (x3.toInt8.toInt32)), .val (.ref ba33_1), .unset, .unset, .unset] [(.int (x3.toInt8.toInt32)), (.int (6 : Int32)), (.ref ba33_1)])) rfl rfl (hb hby at_79)
    refine Runs.go stw79_8 ?_
    have hnw79_8 : n0 ≤ hw79_8.size := by rw [Wr.size Ww79_8]; exact hnw72_7
    have Vw79_8 : Arv Z hw79_8 ba33_1 ka33_1 .byte (18 : Int32) [(.int (nar .byte (x3.toInt8.toInt32))), (.int (nar .byte (x3.toInt8.toInt32))), (.int (nar .byte (x3.toInt8.toInt32))), (.int (nar .byte (x3.toInt8.toInt32))), (.int (nar .byte (x3.toInt8.toInt32))), (.int (nar .byte (x3.toInt8.toInt32))), (.int (nar .byte (x3.toInt8.toInt32))), (.int (0 : Int32)), (.int (0 : Int32)), (.int (0 : Int32)), (.int (0 : Int32)), (.int (0 : Int32)), (.int (0 : Int32)), (.int (0 : Int32)), (.int (0 : Int32)), (.int (0 : Int32)), (.int (0 : Int32)), (.int (0 : Int32))] (.int (0 : Int32)) := Arv.set Arw79_8 qw79_8 Sw79_8 Mw79_8 Hw79_8 Gw79_8 (fits_nar_byte _) Ww79_8 6 rfl (Nat.le_of_ble_eq_true rfl)
    have Nw79_8 := Fr.snoc Xw79_8 Nw72_7 gb_ba33_1
    show Runs p e below s _ _ _ (Tw79_8.setTop (mkF m 80 #[.val (.long v0), .second, .val (.int v2), .val (.int x2), .val (.int x3), .val (.long t0), .second, .val (.int (x2 &&& (7 : Int32))), .val (.int (x3.toInt8.toInt32)), .val (.ref ba33_1), .unset, .unset, .unset] []))
    refine Runs.go (fun _ => XS.aload Xw79_8.here hx rfl (hb hby at_80) rfl rfl) ?_
    show Runs p e below s _ _ _ (Tw79_8.setTop (mkF m 82 #[.val (.long v0), .second, .val (.int v2), .val (.int x2), .val (.int x3), .val (.long t0), .second, .val (.int (x2 &&& (7 : Int32))), .val (.int (x3.toInt8.toInt32)), .val (.ref ba33_1), .unset, .unset, .unset] [(.ref ba33_1)]))
    refine Runs.go (fun _ => XS.bipush Xw79_8.here hx rfl (hb hby at_82)) ?_
    show Runs p e below s _ _ _ (Tw79_8.setTop (mkF m 84 #[.val (.long v0), .second, .val (.int v2), .val (.int x2), .val (.int x3), .val (.long t0), .second, .val (.int (x2 &&& (7 : Int32))), .val (.int (x3.toInt8.toInt32)), .val (.ref ba33_1), .unset, .unset, .unset] [(.int (7 : Int32)), (.ref ba33_1)]))
    refine Runs.go (fun _ => XS.iload Xw79_8.here hx rfl (hb hby at_84) rfl) ?_
    show Runs p e below s _ _ _ (Tw79_8.setTop (mkF m 86 #[.val (.long v0), .second, .val (.int v2), .val (.int x2), .val (.int x3), .val (.long t0), .second, .val (.int (x2 &&& (7 : Int32))), .val (.int (x3.toInt8.toInt32)), .val (.ref ba33_1), .unset, .unset, .unset] [(.int (x3.toInt8.toInt32)), (.int (7 : Int32)), (.ref ba33_1)]))
    have VCw86_9 := Vw79_8
    obtain ⟨clw86_9, Arw86_9, qw86_9, Sw86_9, Mw86_9, Hw86_9, Gw86_9⟩ := VCw86_9
    have hinw86_9 : ¬ ((7 : Int32) < 0 ∨ clw86_9.slots.size ≤ ((7 : Int32)).toNatClampNeg) := inb_of Sw86_9 ⟨by decide, by decide⟩
    obtain ⟨Tw86_9, hw86_9, Xw86_9, ew86_9, Ww86_9, stw86_9⟩ := stB Xw79_8 hx hZ ew79_8 Arw86_9 (j := (7 : Int32)) hinw86_9 (g := (mkF m 86 #[.val (.long v0), .second, .val (.int v2), .val (.int x2), .val (.int x3), .val (.long t0), .second, .val (.int (x2 &&& (7 : Int32))), .val (.int (x3.toInt8.toInt32)), .val (.ref ba33_1), .unset, .unset, .unset] [(.int (x3.toInt8.toInt32)), (.int (7 : Int32)), (.ref ba33_1)])) rfl rfl (hb hby at_86)
    refine Runs.go stw86_9 ?_
    have hnw86_9 : n0 ≤ hw86_9.size := by rw [Wr.size Ww86_9]; exact hnw79_8
    have Vw86_9 : Arv Z hw86_9 ba33_1 ka33_1 .byte (18 : Int32) [(.int (nar .byte (x3.toInt8.toInt32))), (.int (nar .byte (x3.toInt8.toInt32))), (.int (nar .byte (x3.toInt8.toInt32))), (.int (nar .byte (x3.toInt8.toInt32))), (.int (nar .byte (x3.toInt8.toInt32))), (.int (nar .byte (x3.toInt8.toInt32))), (.int (nar .byte (x3.toInt8.toInt32))), (.int (nar .byte (x3.toInt8.toInt32))), (.int (0 : Int32)), (.int (0 : Int32)), (.int (0 : Int32)), (.int (0 : Int32)), (.int (0 : Int32)), (.int (0 : Int32)), (.int (0 : Int32)), (.int (0 : Int32)), (.int (0 : Int32)), (.int (0 : Int32))] (.int (0 : Int32)) := Arv.set Arw86_9 qw86_9 Sw86_9 Mw86_9 Hw86_9 Gw86_9 (fits_nar_byte _) Ww86_9 7 rfl (Nat.le_of_ble_eq_true rfl)
    have Nw86_9 := Fr.snoc Xw86_9 Nw79_8 gb_ba33_1
    show Runs p e below s _ _ _ (Tw86_9.setTop (mkF m 87 #[.val (.long v0), .second, .val (.int v2), .val (.int x2), .val (.int x3), .val (.long t0), .second, .val (.int (x2 &&& (7 : Int32))), .val (.int (x3.toInt8.toInt32)), .val (.ref ba33_1), .unset, .unset, .unset] []))
    refine Runs.go (fun _ => XS.aload Xw86_9.here hx rfl (hb hby at_87) rfl rfl) ?_
    show Runs p e below s _ _ _ (Tw86_9.setTop (mkF m 89 #[.val (.long v0), .second, .val (.int v2), .val (.int x2), .val (.int x3), .val (.long t0), .second, .val (.int (x2 &&& (7 : Int32))), .val (.int (x3.toInt8.toInt32)), .val (.ref ba33_1), .unset, .unset, .unset] [(.ref ba33_1)]))
    refine Runs.go (fun _ => XS.bipush Xw86_9.here hx rfl (hb hby at_89)) ?_
    show Runs p e below s _ _ _ (Tw86_9.setTop (mkF m 91 #[.val (.long v0), .second, .val (.int v2), .val (.int x2), .val (.int x3), .val (.long t0), .second, .val (.int (x2 &&& (7 : Int32))), .val (.int (x3.toInt8.toInt32)), .val (.ref ba33_1), .unset, .unset, .unset] [(.int (8 : Int32)), (.ref ba33_1)]))
    refine Runs.go (fun _ => XS.iload Xw86_9.here hx rfl (hb hby at_91) rfl) ?_
    show Runs p e below s _ _ _ (Tw86_9.setTop (mkF m 93 #[.val (.long v0), .second, .val (.int v2), .val (.int x2), .val (.int x3), .val (.long t0), .second, .val (.int (x2 &&& (7 : Int32))), .val (.int (x3.toInt8.toInt32)), .val (.ref ba33_1), .unset, .unset, .unset] [(.int (x3.toInt8.toInt32)), (.int (8 : Int32)), (.ref ba33_1)]))
    have VCw93_10 := Vw86_9
    obtain ⟨clw93_10, Arw93_10, qw93_10, Sw93_10, Mw93_10, Hw93_10, Gw93_10⟩ := VCw93_10
    have hinw93_10 : ¬ ((8 : Int32) < 0 ∨ clw93_10.slots.size ≤ ((8 : Int32)).toNatClampNeg) := inb_of Sw93_10 ⟨by decide, by decide⟩
    obtain ⟨Tw93_10, hw93_10, Xw93_10, ew93_10, Ww93_10, stw93_10⟩ := stB Xw86_9 hx hZ ew86_9 Arw93_10 (j := (8 : Int32)) hinw93_10 (g := (mkF m 93 #[.val (.long v0), .second, .val (.int v2), .val (.int x2), .val (.int x3), .val (.long t0), .second, .val (.int (x2 &&& (7 : Int32))), .val (.int (x3.toInt8.toInt32)), .val (.ref ba33_1), .unset, .unset, .unset] [(.int (x3.toInt8.toInt32)), (.int (8 : Int32)), (.ref ba33_1)])) rfl rfl (hb hby at_93)
    refine Runs.go stw93_10 ?_
    have hnw93_10 : n0 ≤ hw93_10.size := by rw [Wr.size Ww93_10]; exact hnw86_9
    have Vw93_10 : Arv Z hw93_10 ba33_1 ka33_1 .byte (18 : Int32) [(.int (nar .byte (x3.toInt8.toInt32))), (.int (nar .byte (x3.toInt8.toInt32))), (.int (nar .byte (x3.toInt8.toInt32))), (.int (nar .byte (x3.toInt8.toInt32))), (.int (nar .byte (x3.toInt8.toInt32))), (.int (nar .byte (x3.toInt8.toInt32))), (.int (nar .byte (x3.toInt8.toInt32))), (.int (nar .byte (x3.toInt8.toInt32))), (.int (nar .byte (x3.toInt8.toInt32))), (.int (0 : Int32)), (.int (0 : Int32)), (.int (0 : Int32)), (.int (0 : Int32)), (.int (0 : Int32)), (.int (0 : Int32)), (.int (0 : Int32)), (.int (0 : Int32)), (.int (0 : Int32))] (.int (0 : Int32)) := Arv.set Arw93_10 qw93_10 Sw93_10 Mw93_10 Hw93_10 Gw93_10 (fits_nar_byte _) Ww93_10 8 rfl (Nat.le_of_ble_eq_true rfl)
    have Nw93_10 := Fr.snoc Xw93_10 Nw86_9 gb_ba33_1
    show Runs p e below s _ _ _ (Tw93_10.setTop (mkF m 94 #[.val (.long v0), .second, .val (.int v2), .val (.int x2), .val (.int x3), .val (.long t0), .second, .val (.int (x2 &&& (7 : Int32))), .val (.int (x3.toInt8.toInt32)), .val (.ref ba33_1), .unset, .unset, .unset] []))
    refine Runs.go (fun _ => XS.aload Xw93_10.here hx rfl (hb hby at_94) rfl rfl) ?_
    show Runs p e below s _ _ _ (Tw93_10.setTop (mkF m 96 #[.val (.long v0), .second, .val (.int v2), .val (.int x2), .val (.int x3), .val (.long t0), .second, .val (.int (x2 &&& (7 : Int32))), .val (.int (x3.toInt8.toInt32)), .val (.ref ba33_1), .unset, .unset, .unset] [(.ref ba33_1)]))
    refine Runs.go (fun _ => XS.bipush Xw93_10.here hx rfl (hb hby at_96)) ?_
    show Runs p e below s _ _ _ (Tw93_10.setTop (mkF m 98 #[.val (.long v0), .second, .val (.int v2), .val (.int x2), .val (.int x3), .val (.long t0), .second, .val (.int (x2 &&& (7 : Int32))), .val (.int (x3.toInt8.toInt32)), .val (.ref ba33_1), .unset, .unset, .unset] [(.int (9 : Int32)), (.ref ba33_1)]))
    refine Runs.go (fun _ => XS.iload Xw93_10.here hx rfl (hb hby at_98) rfl) ?_
    show Runs p e below s _ _ _ (Tw93_10.setTop (mkF m 100 #[.val (.long v0), .second, .val (.int v2), .val (.int x2), .val (.int x3), .val (.long t0), .second, .val (.int (x2 &&& (7 : Int32))), .val (.int (x3.toInt8.toInt32)), .val (.ref ba33_1), .unset, .unset, .unset] [(.int (x3.toInt8.toInt32)), (.int (9 : Int32)), (.ref ba33_1)]))
    have VCw100_11 := Vw93_10
    obtain ⟨clw100_11, Arw100_11, qw100_11, Sw100_11, Mw100_11, Hw100_11, Gw100_11⟩ := VCw100_11
    have hinw100_11 : ¬ ((9 : Int32) < 0 ∨ clw100_11.slots.size ≤ ((9 : Int32)).toNatClampNeg) := inb_of Sw100_11 ⟨by decide, by decide⟩
    obtain ⟨Tw100_11, hw100_11, Xw100_11, ew100_11, Ww100_11, stw100_11⟩ := stB Xw93_10 hx hZ ew93_10 Arw100_11 (j := (9 : Int32)) hinw100_11 (g := (mkF m 100 #[.val (.long v0), .second, .val (.int v2), .val (.int x2), .val (.int x3), .val (.long t0), .second, .val (.int (x2 &&& (7 : Int32))), .val (.int (x3.toInt8.toInt32)), .val (.ref ba33_1), .unset, .unset, .unset] [(.int (x3.toInt8.toInt32)), (.int (9 : Int32)), (.ref ba33_1)])) rfl rfl (hb hby at_100)
    refine Runs.go stw100_11 ?_
    have hnw100_11 : n0 ≤ hw100_11.size := by rw [Wr.size Ww100_11]; exact hnw93_10
    have Vw100_11 : Arv Z hw100_11 ba33_1 ka33_1 .byte (18 : Int32) [(.int (nar .byte (x3.toInt8.toInt32))), (.int (nar .byte (x3.toInt8.toInt32))), (.int (nar .byte (x3.toInt8.toInt32))), (.int (nar .byte (x3.toInt8.toInt32))), (.int (nar .byte (x3.toInt8.toInt32))), (.int (nar .byte (x3.toInt8.toInt32))), (.int (nar .byte (x3.toInt8.toInt32))), (.int (nar .byte (x3.toInt8.toInt32))), (.int (nar .byte (x3.toInt8.toInt32))), (.int (nar .byte (x3.toInt8.toInt32))), (.int (0 : Int32)), (.int (0 : Int32)), (.int (0 : Int32)), (.int (0 : Int32)), (.int (0 : Int32)), (.int (0 : Int32)), (.int (0 : Int32)), (.int (0 : Int32))] (.int (0 : Int32)) := Arv.set Arw100_11 qw100_11 Sw100_11 Mw100_11 Hw100_11 Gw100_11 (fits_nar_byte _) Ww100_11 9 rfl (Nat.le_of_ble_eq_true rfl)
    have Nw100_11 := Fr.snoc Xw100_11 Nw93_10 gb_ba33_1
    show Runs p e below s _ _ _ (Tw100_11.setTop (mkF m 101 #[.val (.long v0), .second, .val (.int v2), .val (.int x2), .val (.int x3), .val (.long t0), .second, .val (.int (x2 &&& (7 : Int32))), .val (.int (x3.toInt8.toInt32)), .val (.ref ba33_1), .unset, .unset, .unset] []))
    refine Runs.go (fun _ => XS.aload Xw100_11.here hx rfl (hb hby at_101) rfl rfl) ?_
    show Runs p e below s _ _ _ (Tw100_11.setTop (mkF m 103 #[.val (.long v0), .second, .val (.int v2), .val (.int x2), .val (.int x3), .val (.long t0), .second, .val (.int (x2 &&& (7 : Int32))), .val (.int (x3.toInt8.toInt32)), .val (.ref ba33_1), .unset, .unset, .unset] [(.ref ba33_1)]))
    refine Runs.go (fun _ => XS.bipush Xw100_11.here hx rfl (hb hby at_103)) ?_
    show Runs p e below s _ _ _ (Tw100_11.setTop (mkF m 105 #[.val (.long v0), .second, .val (.int v2), .val (.int x2), .val (.int x3), .val (.long t0), .second, .val (.int (x2 &&& (7 : Int32))), .val (.int (x3.toInt8.toInt32)), .val (.ref ba33_1), .unset, .unset, .unset] [(.int (10 : Int32)), (.ref ba33_1)]))
    refine Runs.go (fun _ => XS.iload Xw100_11.here hx rfl (hb hby at_105) rfl) ?_
    show Runs p e below s _ _ _ (Tw100_11.setTop (mkF m 107 #[.val (.long v0), .second, .val (.int v2), .val (.int x2), .val (.int x3), .val (.long t0), .second, .val (.int (x2 &&& (7 : Int32))), .val (.int (x3.toInt8.toInt32)), .val (.ref ba33_1), .unset, .unset, .unset] [(.int (x3.toInt8.toInt32)), (.int (10 : Int32)), (.ref ba33_1)]))
    have VCw107_12 := Vw100_11
    obtain ⟨clw107_12, Arw107_12, qw107_12, Sw107_12, Mw107_12, Hw107_12, Gw107_12⟩ := VCw107_12
    have hinw107_12 : ¬ ((10 : Int32) < 0 ∨ clw107_12.slots.size ≤ ((10 : Int32)).toNatClampNeg) := inb_of Sw107_12 ⟨by decide, by decide⟩
    obtain ⟨Tw107_12, hw107_12, Xw107_12, ew107_12, Ww107_12, stw107_12⟩ := stB Xw100_11 hx hZ ew100_11 Arw107_12 (j := (10 : Int32)) hinw107_12 (g := (mkF m 107 #[.val (.long v0), .second, .val (.int v2), .val (.int x2), .val (.int x3), .val (.long t0), .second, .val (.int (x2 &&& (7 : Int32))), .val (.int (x3.toInt8.toInt32)), .val (.ref ba33_1), .unset, .unset, .unset] [(.int (x3.toInt8.toInt32)), (.int (10 : Int32)), (.ref ba33_1)])) rfl rfl (hb hby at_107)
    refine Runs.go stw107_12 ?_
    have hnw107_12 : n0 ≤ hw107_12.size := by rw [Wr.size Ww107_12]; exact hnw100_11
    have Vw107_12 : Arv Z hw107_12 ba33_1 ka33_1 .byte (18 : Int32) [(.int (nar .byte (x3.toInt8.toInt32))), (.int (nar .byte (x3.toInt8.toInt32))), (.int (nar .byte (x3.toInt8.toInt32))), (.int (nar .byte (x3.toInt8.toInt32))), (.int (nar .byte (x3.toInt8.toInt32))), (.int (nar .byte (x3.toInt8.toInt32))), (.int (nar .byte (x3.toInt8.toInt32))), (.int (nar .byte (x3.toInt8.toInt32))), (.int (nar .byte (x3.toInt8.toInt32))), (.int (nar .byte (x3.toInt8.toInt32))), (.int (nar .byte (x3.toInt8.toInt32))), (.int (0 : Int32)), (.int (0 : Int32)), (.int (0 : Int32)), (.int (0 : Int32)), (.int (0 : Int32)), (.int (0 : Int32)), (.int (0 : Int32))] (.int (0 : Int32)) := Arv.set Arw107_12 qw107_12 Sw107_12 Mw107_12 Hw107_12 Gw107_12 (fits_nar_byte _) Ww107_12 10 rfl (Nat.le_of_ble_eq_true rfl)
    have Nw107_12 := Fr.snoc Xw107_12 Nw100_11 gb_ba33_1
    show Runs p e below s _ _ _ (Tw107_12.setTop (mkF m 108 #[.val (.long v0), .second, .val (.int v2), .val (.int x2), .val (.int x3), .val (.long t0), .second, .val (.int (x2 &&& (7 : Int32))), .val (.int (x3.toInt8.toInt32)), .val (.ref ba33_1), .unset, .unset, .unset] []))
    refine Runs.go (fun _ => XS.aload Xw107_12.here hx rfl (hb hby at_108) rfl rfl) ?_
    show Runs p e below s _ _ _ (Tw107_12.setTop (mkF m 110 #[.val (.long v0), .second, .val (.int v2), .val (.int x2), .val (.int x3), .val (.long t0), .second, .val (.int (x2 &&& (7 : Int32))), .val (.int (x3.toInt8.toInt32)), .val (.ref ba33_1), .unset, .unset, .unset] [(.ref ba33_1)]))
    refine Runs.go (fun _ => XS.bipush Xw107_12.here hx rfl (hb hby at_110)) ?_
    show Runs p e below s _ _ _ (Tw107_12.setTop (mkF m 112 #[.val (.long v0), .second, .val (.int v2), .val (.int x2), .val (.int x3), .val (.long t0), .second, .val (.int (x2 &&& (7 : Int32))), .val (.int (x3.toInt8.toInt32)), .val (.ref ba33_1), .unset, .unset, .unset] [(.int (11 : Int32)), (.ref ba33_1)]))
    refine Runs.go (fun _ => XS.iload Xw107_12.here hx rfl (hb hby at_112) rfl) ?_
    show Runs p e below s _ _ _ (Tw107_12.setTop (mkF m 114 #[.val (.long v0), .second, .val (.int v2), .val (.int x2), .val (.int x3), .val (.long t0), .second, .val (.int (x2 &&& (7 : Int32))), .val (.int (x3.toInt8.toInt32)), .val (.ref ba33_1), .unset, .unset, .unset] [(.int (x3.toInt8.toInt32)), (.int (11 : Int32)), (.ref ba33_1)]))
    have VCw114_13 := Vw107_12
    obtain ⟨clw114_13, Arw114_13, qw114_13, Sw114_13, Mw114_13, Hw114_13, Gw114_13⟩ := VCw114_13
    have hinw114_13 : ¬ ((11 : Int32) < 0 ∨ clw114_13.slots.size ≤ ((11 : Int32)).toNatClampNeg) := inb_of Sw114_13 ⟨by decide, by decide⟩
    obtain ⟨Tw114_13, hw114_13, Xw114_13, ew114_13, Ww114_13, stw114_13⟩ := stB Xw107_12 hx hZ ew107_12 Arw114_13 (j := (11 : Int32)) hinw114_13 (g := (mkF m 114 #[.val (.long v0), .second, .val (.int v2), .val (.int x2), .val (.int x3), .val (.long t0), .second, .val (.int (x2 &&& (7 : Int32))), .val (.int (x3.toInt8.toInt32)), .val (.ref ba33_1), .unset, .unset, .unset] [(.int (x3.toInt8.toInt32)), (.int (11 : Int32)), (.ref ba33_1)])) rfl rfl (hb hby at_114)
    refine Runs.go stw114_13 ?_
    have hnw114_13 : n0 ≤ hw114_13.size := by rw [Wr.size Ww114_13]; exact hnw107_12
    have Vw114_13 : Arv Z hw114_13 ba33_1 ka33_1 .byte (18 : Int32) [(.int (nar .byte (x3.toInt8.toInt32))), (.int (nar .byte (x3.toInt8.toInt32))), (.int (nar .byte (x3.toInt8.toInt32))), (.int (nar .byte (x3.toInt8.toInt32))), (.int (nar .byte (x3.toInt8.toInt32))), (.int (nar .byte (x3.toInt8.toInt32))), (.int (nar .byte (x3.toInt8.toInt32))), (.int (nar .byte (x3.toInt8.toInt32))), (.int (nar .byte (x3.toInt8.toInt32))), (.int (nar .byte (x3.toInt8.toInt32))), (.int (nar .byte (x3.toInt8.toInt32))), (.int (nar .byte (x3.toInt8.toInt32))), (.int (0 : Int32)), (.int (0 : Int32)), (.int (0 : Int32)), (.int (0 : Int32)), (.int (0 : Int32)), (.int (0 : Int32))] (.int (0 : Int32)) := Arv.set Arw114_13 qw114_13 Sw114_13 Mw114_13 Hw114_13 Gw114_13 (fits_nar_byte _) Ww114_13 11 rfl (Nat.le_of_ble_eq_true rfl)
    have Nw114_13 := Fr.snoc Xw114_13 Nw107_12 gb_ba33_1
    show Runs p e below s _ _ _ (Tw114_13.setTop (mkF m 115 #[.val (.long v0), .second, .val (.int v2), .val (.int x2), .val (.int x3), .val (.long t0), .second, .val (.int (x2 &&& (7 : Int32))), .val (.int (x3.toInt8.toInt32)), .val (.ref ba33_1), .unset, .unset, .unset] []))
    refine Runs.go (fun _ => XS.aload Xw114_13.here hx rfl (hb hby at_115) rfl rfl) ?_
    show Runs p e below s _ _ _ (Tw114_13.setTop (mkF m 117 #[.val (.long v0), .second, .val (.int v2), .val (.int x2), .val (.int x3), .val (.long t0), .second, .val (.int (x2 &&& (7 : Int32))), .val (.int (x3.toInt8.toInt32)), .val (.ref ba33_1), .unset, .unset, .unset] [(.ref ba33_1)]))
    refine Runs.go (fun _ => XS.bipush Xw114_13.here hx rfl (hb hby at_117)) ?_
    show Runs p e below s _ _ _ (Tw114_13.setTop (mkF m 119 #[.val (.long v0), .second, .val (.int v2), .val (.int x2), .val (.int x3), .val (.long t0), .second, .val (.int (x2 &&& (7 : Int32))), .val (.int (x3.toInt8.toInt32)), .val (.ref ba33_1), .unset, .unset, .unset] [(.int (12 : Int32)), (.ref ba33_1)]))
    refine Runs.go (fun _ => XS.iload Xw114_13.here hx rfl (hb hby at_119) rfl) ?_
    show Runs p e below s _ _ _ (Tw114_13.setTop (mkF m 121 #[.val (.long v0), .second, .val (.int v2), .val (.int x2), .val (.int x3), .val (.long t0), .second, .val (.int (x2 &&& (7 : Int32))), .val (.int (x3.toInt8.toInt32)), .val (.ref ba33_1), .unset, .unset, .unset] [(.int (x3.toInt8.toInt32)), (.int (12 : Int32)), (.ref ba33_1)]))
    have VCw121_14 := Vw114_13
    obtain ⟨clw121_14, Arw121_14, qw121_14, Sw121_14, Mw121_14, Hw121_14, Gw121_14⟩ := VCw121_14
    have hinw121_14 : ¬ ((12 : Int32) < 0 ∨ clw121_14.slots.size ≤ ((12 : Int32)).toNatClampNeg) := inb_of Sw121_14 ⟨by decide, by decide⟩
    obtain ⟨Tw121_14, hw121_14, Xw121_14, ew121_14, Ww121_14, stw121_14⟩ := stB Xw114_13 hx hZ ew114_13 Arw121_14 (j := (12 : Int32)) hinw121_14 (g := (mkF m 121 #[.val (.long v0), .second, .val (.int v2), .val (.int x2), .val (.int x3), .val (.long t0), .second, .val (.int (x2 &&& (7 : Int32))), .val (.int (x3.toInt8.toInt32)), .val (.ref ba33_1), .unset, .unset, .unset] [(.int (x3.toInt8.toInt32)), (.int (12 : Int32)), (.ref ba33_1)])) rfl rfl (hb hby at_121)
    refine Runs.go stw121_14 ?_
    have hnw121_14 : n0 ≤ hw121_14.size := by rw [Wr.size Ww121_14]; exact hnw114_13
    have Vw121_14 : Arv Z hw121_14 ba33_1 ka33_1 .byte (18 : Int32) [(.int (nar .byte (x3.toInt8.toInt32))), (.int (nar .byte (x3.toInt8.toInt32))), (.int (nar .byte (x3.toInt8.toInt32))), (.int (nar .byte (x3.toInt8.toInt32))), (.int (nar .byte (x3.toInt8.toInt32))), (.int (nar .byte (x3.toInt8.toInt32))), (.int (nar .byte (x3.toInt8.toInt32))), (.int (nar .byte (x3.toInt8.toInt32))), (.int (nar .byte (x3.toInt8.toInt32))), (.int (nar .byte (x3.toInt8.toInt32))), (.int (nar .byte (x3.toInt8.toInt32))), (.int (nar .byte (x3.toInt8.toInt32))), (.int (nar .byte (x3.toInt8.toInt32))), (.int (0 : Int32)), (.int (0 : Int32)), (.int (0 : Int32)), (.int (0 : Int32)), (.int (0 : Int32))] (.int (0 : Int32)) := Arv.set Arw121_14 qw121_14 Sw121_14 Mw121_14 Hw121_14 Gw121_14 (fits_nar_byte _) Ww121_14 12 rfl (Nat.le_of_ble_eq_true rfl)
    have Nw121_14 := Fr.snoc Xw121_14 Nw114_13 gb_ba33_1
    show Runs p e below s _ _ _ (Tw121_14.setTop (mkF m 122 #[.val (.long v0), .second, .val (.int v2), .val (.int x2), .val (.int x3), .val (.long t0), .second, .val (.int (x2 &&& (7 : Int32))), .val (.int (x3.toInt8.toInt32)), .val (.ref ba33_1), .unset, .unset, .unset] []))
    refine Runs.go (fun _ => XS.aload Xw121_14.here hx rfl (hb hby at_122) rfl rfl) ?_
    show Runs p e below s _ _ _ (Tw121_14.setTop (mkF m 124 #[.val (.long v0), .second, .val (.int v2), .val (.int x2), .val (.int x3), .val (.long t0), .second, .val (.int (x2 &&& (7 : Int32))), .val (.int (x3.toInt8.toInt32)), .val (.ref ba33_1), .unset, .unset, .unset] [(.ref ba33_1)]))
    refine Runs.go (fun _ => XS.bipush Xw121_14.here hx rfl (hb hby at_124)) ?_
    show Runs p e below s _ _ _ (Tw121_14.setTop (mkF m 126 #[.val (.long v0), .second, .val (.int v2), .val (.int x2), .val (.int x3), .val (.long t0), .second, .val (.int (x2 &&& (7 : Int32))), .val (.int (x3.toInt8.toInt32)), .val (.ref ba33_1), .unset, .unset, .unset] [(.int (13 : Int32)), (.ref ba33_1)]))
    refine Runs.go (fun _ => XS.iload Xw121_14.here hx rfl (hb hby at_126) rfl) ?_
    show Runs p e below s _ _ _ (Tw121_14.setTop (mkF m 128 #[.val (.long v0), .second, .val (.int v2), .val (.int x2), .val (.int x3), .val (.long t0), .second, .val (.int (x2 &&& (7 : Int32))), .val (.int (x3.toInt8.toInt32)), .val (.ref ba33_1), .unset, .unset, .unset] [(.int (x3.toInt8.toInt32)), (.int (13 : Int32)), (.ref ba33_1)]))
    have VCw128_15 := Vw121_14
    obtain ⟨clw128_15, Arw128_15, qw128_15, Sw128_15, Mw128_15, Hw128_15, Gw128_15⟩ := VCw128_15
    have hinw128_15 : ¬ ((13 : Int32) < 0 ∨ clw128_15.slots.size ≤ ((13 : Int32)).toNatClampNeg) := inb_of Sw128_15 ⟨by decide, by decide⟩
    obtain ⟨Tw128_15, hw128_15, Xw128_15, ew128_15, Ww128_15, stw128_15⟩ := stB Xw121_14 hx hZ ew121_14 Arw128_15 (j := (13 : Int32)) hinw128_15 (g := (mkF m 128 #[.val (.long v0), .second, .val (.int v2), .val (.int x2), .val (.int x3), .val (.long t0), .second, .val (.int (x2 &&& (7 : Int32))), .val (.int (x3.toInt8.toInt32)), .val (.ref ba33_1), .unset, .unset, .unset] [(.int (x3.toInt8.toInt32)), (.int (13 : Int32)), (.ref ba33_1)])) rfl rfl (hb hby at_128)
    refine Runs.go stw128_15 ?_
    have hnw128_15 : n0 ≤ hw128_15.size := by rw [Wr.size Ww128_15]; exact hnw121_14
    have Vw128_15 : Arv Z hw128_15 ba33_1 ka33_1 .byte (18 : Int32) [(.int (nar .byte (x3.toInt8.toInt32))), (.int (nar .byte (x3.toInt8.toInt32))), (.int (nar .byte (x3.toInt8.toInt32))), (.int (nar .byte (x3.toInt8.toInt32))), (.int (nar .byte (x3.toInt8.toInt32))), (.int (nar .byte (x3.toInt8.toInt32))), (.int (nar .byte (x3.toInt8.toInt32))), (.int (nar .byte (x3.toInt8.toInt32))), (.int (nar .byte (x3.toInt8.toInt32))), (.int (nar .byte (x3.toInt8.toInt32))), (.int (nar .byte (x3.toInt8.toInt32))), (.int (nar .byte (x3.toInt8.toInt32))), (.int (nar .byte (x3.toInt8.toInt32))), (.int (nar .byte (x3.toInt8.toInt32))), (.int (0 : Int32)), (.int (0 : Int32)), (.int (0 : Int32)), (.int (0 : Int32))] (.int (0 : Int32)) := Arv.set Arw128_15 qw128_15 Sw128_15 Mw128_15 Hw128_15 Gw128_15 (fits_nar_byte _) Ww128_15 13 rfl (Nat.le_of_ble_eq_true rfl)
    have Nw128_15 := Fr.snoc Xw128_15 Nw121_14 gb_ba33_1
    show Runs p e below s _ _ _ (Tw128_15.setTop (mkF m 129 #[.val (.long v0), .second, .val (.int v2), .val (.int x2), .val (.int x3), .val (.long t0), .second, .val (.int (x2 &&& (7 : Int32))), .val (.int (x3.toInt8.toInt32)), .val (.ref ba33_1), .unset, .unset, .unset] []))
    refine Runs.go (fun _ => XS.aload Xw128_15.here hx rfl (hb hby at_129) rfl rfl) ?_
    show Runs p e below s _ _ _ (Tw128_15.setTop (mkF m 131 #[.val (.long v0), .second, .val (.int v2), .val (.int x2), .val (.int x3), .val (.long t0), .second, .val (.int (x2 &&& (7 : Int32))), .val (.int (x3.toInt8.toInt32)), .val (.ref ba33_1), .unset, .unset, .unset] [(.ref ba33_1)]))
    refine Runs.go (fun _ => XS.bipush Xw128_15.here hx rfl (hb hby at_131)) ?_
    show Runs p e below s _ _ _ (Tw128_15.setTop (mkF m 133 #[.val (.long v0), .second, .val (.int v2), .val (.int x2), .val (.int x3), .val (.long t0), .second, .val (.int (x2 &&& (7 : Int32))), .val (.int (x3.toInt8.toInt32)), .val (.ref ba33_1), .unset, .unset, .unset] [(.int (14 : Int32)), (.ref ba33_1)]))
    refine Runs.go (fun _ => XS.iload Xw128_15.here hx rfl (hb hby at_133) rfl) ?_
    show Runs p e below s _ _ _ (Tw128_15.setTop (mkF m 135 #[.val (.long v0), .second, .val (.int v2), .val (.int x2), .val (.int x3), .val (.long t0), .second, .val (.int (x2 &&& (7 : Int32))), .val (.int (x3.toInt8.toInt32)), .val (.ref ba33_1), .unset, .unset, .unset] [(.int (x3.toInt8.toInt32)), (.int (14 : Int32)), (.ref ba33_1)]))
    have VCw135_16 := Vw128_15
    obtain ⟨clw135_16, Arw135_16, qw135_16, Sw135_16, Mw135_16, Hw135_16, Gw135_16⟩ := VCw135_16
    have hinw135_16 : ¬ ((14 : Int32) < 0 ∨ clw135_16.slots.size ≤ ((14 : Int32)).toNatClampNeg) := inb_of Sw135_16 ⟨by decide, by decide⟩
    obtain ⟨Tw135_16, hw135_16, Xw135_16, ew135_16, Ww135_16, stw135_16⟩ := stB Xw128_15 hx hZ ew128_15 Arw135_16 (j := (14 : Int32)) hinw135_16 (g := (mkF m 135 #[.val (.long v0), .second, .val (.int v2), .val (.int x2), .val (.int x3), .val (.long t0), .second, .val (.int (x2 &&& (7 : Int32))), .val (.int (x3.toInt8.toInt32)), .val (.ref ba33_1), .unset, .unset, .unset] [(.int (x3.toInt8.toInt32)), (.int (14 : Int32)), (.ref ba33_1)])) rfl rfl (hb hby at_135)
    refine Runs.go stw135_16 ?_
    have hnw135_16 : n0 ≤ hw135_16.size := by rw [Wr.size Ww135_16]; exact hnw128_15
    have Vw135_16 : Arv Z hw135_16 ba33_1 ka33_1 .byte (18 : Int32) [(.int (nar .byte (x3.toInt8.toInt32))), (.int (nar .byte (x3.toInt8.toInt32))), (.int (nar .byte (x3.toInt8.toInt32))), (.int (nar .byte (x3.toInt8.toInt32))), (.int (nar .byte (x3.toInt8.toInt32))), (.int (nar .byte (x3.toInt8.toInt32))), (.int (nar .byte (x3.toInt8.toInt32))), (.int (nar .byte (x3.toInt8.toInt32))), (.int (nar .byte (x3.toInt8.toInt32))), (.int (nar .byte (x3.toInt8.toInt32))), (.int (nar .byte (x3.toInt8.toInt32))), (.int (nar .byte (x3.toInt8.toInt32))), (.int (nar .byte (x3.toInt8.toInt32))), (.int (nar .byte (x3.toInt8.toInt32))), (.int (nar .byte (x3.toInt8.toInt32))), (.int (0 : Int32)), (.int (0 : Int32)), (.int (0 : Int32))] (.int (0 : Int32)) := Arv.set Arw135_16 qw135_16 Sw135_16 Mw135_16 Hw135_16 Gw135_16 (fits_nar_byte _) Ww135_16 14 rfl (Nat.le_of_ble_eq_true rfl)
    have Nw135_16 := Fr.snoc Xw135_16 Nw128_15 gb_ba33_1
    show Runs p e below s _ _ _ (Tw135_16.setTop (mkF m 136 #[.val (.long v0), .second, .val (.int v2), .val (.int x2), .val (.int x3), .val (.long t0), .second, .val (.int (x2 &&& (7 : Int32))), .val (.int (x3.toInt8.toInt32)), .val (.ref ba33_1), .unset, .unset, .unset] []))
    refine Runs.go (fun _ => XS.aload Xw135_16.here hx rfl (hb hby at_136) rfl rfl) ?_
    show Runs p e below s _ _ _ (Tw135_16.setTop (mkF m 138 #[.val (.long v0), .second, .val (.int v2), .val (.int x2), .val (.int x3), .val (.long t0), .second, .val (.int (x2 &&& (7 : Int32))), .val (.int (x3.toInt8.toInt32)), .val (.ref ba33_1), .unset, .unset, .unset] [(.ref ba33_1)]))
    refine Runs.go (fun _ => XS.bipush Xw135_16.here hx rfl (hb hby at_138)) ?_
    show Runs p e below s _ _ _ (Tw135_16.setTop (mkF m 140 #[.val (.long v0), .second, .val (.int v2), .val (.int x2), .val (.int x3), .val (.long t0), .second, .val (.int (x2 &&& (7 : Int32))), .val (.int (x3.toInt8.toInt32)), .val (.ref ba33_1), .unset, .unset, .unset] [(.int (15 : Int32)), (.ref ba33_1)]))
    refine Runs.go (fun _ => XS.iload Xw135_16.here hx rfl (hb hby at_140) rfl) ?_
    show Runs p e below s _ _ _ (Tw135_16.setTop (mkF m 142 #[.val (.long v0), .second, .val (.int v2), .val (.int x2), .val (.int x3), .val (.long t0), .second, .val (.int (x2 &&& (7 : Int32))), .val (.int (x3.toInt8.toInt32)), .val (.ref ba33_1), .unset, .unset, .unset] [(.int (x3.toInt8.toInt32)), (.int (15 : Int32)), (.ref ba33_1)]))
    have VCw142_17 := Vw135_16
    obtain ⟨clw142_17, Arw142_17, qw142_17, Sw142_17, Mw142_17, Hw142_17, Gw142_17⟩ := VCw142_17
    have hinw142_17 : ¬ ((15 : Int32) < 0 ∨ clw142_17.slots.size ≤ ((15 : Int32)).toNatClampNeg) := inb_of Sw142_17 ⟨by decide, by decide⟩
    obtain ⟨Tw142_17, hw142_17, Xw142_17, ew142_17, Ww142_17, stw142_17⟩ := stB Xw135_16 hx hZ ew135_16 Arw142_17 (j := (15 : Int32)) hinw142_17 (g := (mkF m 142 #[.val (.long v0), .second, .val (.int v2), .val (.int x2), .val (.int x3), .val (.long t0), .second, .val (.int (x2 &&& (7 : Int32))), .val (.int (x3.toInt8.toInt32)), .val (.ref ba33_1), .unset, .unset, .unset] [(.int (x3.toInt8.toInt32)), (.int (15 : Int32)), (.ref ba33_1)])) rfl rfl (hb hby at_142)
    refine Runs.go stw142_17 ?_
    have hnw142_17 : n0 ≤ hw142_17.size := by rw [Wr.size Ww142_17]; exact hnw135_16
    have Vw142_17 : Arv Z hw142_17 ba33_1 ka33_1 .byte (18 : Int32) [(.int (nar .byte (x3.toInt8.toInt32))), (.int (nar .byte (x3.toInt8.toInt32))), (.int (nar .byte (x3.toInt8.toInt32))), (.int (nar .byte (x3.toInt8.toInt32))), (.int (nar .byte (x3.toInt8.toInt32))), (.int (nar .byte (x3.toInt8.toInt32))), (.int (nar .byte (x3.toInt8.toInt32))), (.int (nar .byte (x3.toInt8.toInt32))), (.int (nar .byte (x3.toInt8.toInt32))), (.int (nar .byte (x3.toInt8.toInt32))), (.int (nar .byte (x3.toInt8.toInt32))), (.int (nar .byte (x3.toInt8.toInt32))), (.int (nar .byte (x3.toInt8.toInt32))), (.int (nar .byte (x3.toInt8.toInt32))), (.int (nar .byte (x3.toInt8.toInt32))), (.int (nar .byte (x3.toInt8.toInt32))), (.int (0 : Int32)), (.int (0 : Int32))] (.int (0 : Int32)) := Arv.set Arw142_17 qw142_17 Sw142_17 Mw142_17 Hw142_17 Gw142_17 (fits_nar_byte _) Ww142_17 15 rfl (Nat.le_of_ble_eq_true rfl)
    have Nw142_17 := Fr.snoc Xw142_17 Nw135_16 gb_ba33_1
    show Runs p e below s _ _ _ (Tw142_17.setTop (mkF m 143 #[.val (.long v0), .second, .val (.int v2), .val (.int x2), .val (.int x3), .val (.long t0), .second, .val (.int (x2 &&& (7 : Int32))), .val (.int (x3.toInt8.toInt32)), .val (.ref ba33_1), .unset, .unset, .unset] []))
    refine Runs.go (fun _ => XS.aload Xw142_17.here hx rfl (hb hby at_143) rfl rfl) ?_
    show Runs p e below s _ _ _ (Tw142_17.setTop (mkF m 145 #[.val (.long v0), .second, .val (.int v2), .val (.int x2), .val (.int x3), .val (.long t0), .second, .val (.int (x2 &&& (7 : Int32))), .val (.int (x3.toInt8.toInt32)), .val (.ref ba33_1), .unset, .unset, .unset] [(.ref ba33_1)]))
    refine Runs.go (fun _ => XS.bipush Xw142_17.here hx rfl (hb hby at_145)) ?_
    show Runs p e below s _ _ _ (Tw142_17.setTop (mkF m 147 #[.val (.long v0), .second, .val (.int v2), .val (.int x2), .val (.int x3), .val (.long t0), .second, .val (.int (x2 &&& (7 : Int32))), .val (.int (x3.toInt8.toInt32)), .val (.ref ba33_1), .unset, .unset, .unset] [(.int (16 : Int32)), (.ref ba33_1)]))
    refine Runs.go (fun _ => XS.iload Xw142_17.here hx rfl (hb hby at_147) rfl) ?_
    show Runs p e below s _ _ _ (Tw142_17.setTop (mkF m 149 #[.val (.long v0), .second, .val (.int v2), .val (.int x2), .val (.int x3), .val (.long t0), .second, .val (.int (x2 &&& (7 : Int32))), .val (.int (x3.toInt8.toInt32)), .val (.ref ba33_1), .unset, .unset, .unset] [(.int (x3.toInt8.toInt32)), (.int (16 : Int32)), (.ref ba33_1)]))
    have VCw149_18 := Vw142_17
    obtain ⟨clw149_18, Arw149_18, qw149_18, Sw149_18, Mw149_18, Hw149_18, Gw149_18⟩ := VCw149_18
    have hinw149_18 : ¬ ((16 : Int32) < 0 ∨ clw149_18.slots.size ≤ ((16 : Int32)).toNatClampNeg) := inb_of Sw149_18 ⟨by decide, by decide⟩
    obtain ⟨Tw149_18, hw149_18, Xw149_18, ew149_18, Ww149_18, stw149_18⟩ := stB Xw142_17 hx hZ ew142_17 Arw149_18 (j := (16 : Int32)) hinw149_18 (g := (mkF m 149 #[.val (.long v0), .second, .val (.int v2), .val (.int x2), .val (.int x3), .val (.long t0), .second, .val (.int (x2 &&& (7 : Int32))), .val (.int (x3.toInt8.toInt32)), .val (.ref ba33_1), .unset, .unset, .unset] [(.int (x3.toInt8.toInt32)), (.int (16 : Int32)), (.ref ba33_1)])) rfl rfl (hb hby at_149)
    refine Runs.go stw149_18 ?_
    have hnw149_18 : n0 ≤ hw149_18.size := by rw [Wr.size Ww149_18]; exact hnw142_17
    have Vw149_18 : Arv Z hw149_18 ba33_1 ka33_1 .byte (18 : Int32) [(.int (nar .byte (x3.toInt8.toInt32))), (.int (nar .byte (x3.toInt8.toInt32))), (.int (nar .byte (x3.toInt8.toInt32))), (.int (nar .byte (x3.toInt8.toInt32))), (.int (nar .byte (x3.toInt8.toInt32))), (.int (nar .byte (x3.toInt8.toInt32))), (.int (nar .byte (x3.toInt8.toInt32))), (.int (nar .byte (x3.toInt8.toInt32))), (.int (nar .byte (x3.toInt8.toInt32))), (.int (nar .byte (x3.toInt8.toInt32))), (.int (nar .byte (x3.toInt8.toInt32))), (.int (nar .byte (x3.toInt8.toInt32))), (.int (nar .byte (x3.toInt8.toInt32))), (.int (nar .byte (x3.toInt8.toInt32))), (.int (nar .byte (x3.toInt8.toInt32))), (.int (nar .byte (x3.toInt8.toInt32))), (.int (nar .byte (x3.toInt8.toInt32))), (.int (0 : Int32))] (.int (0 : Int32)) := Arv.set Arw149_18 qw149_18 Sw149_18 Mw149_18 Hw149_18 Gw149_18 (fits_nar_byte _) Ww149_18 16 rfl (Nat.le_of_ble_eq_true rfl)
    have Nw149_18 := Fr.snoc Xw149_18 Nw142_17 gb_ba33_1
    show Runs p e below s _ _ _ (Tw149_18.setTop (mkF m 150 #[.val (.long v0), .second, .val (.int v2), .val (.int x2), .val (.int x3), .val (.long t0), .second, .val (.int (x2 &&& (7 : Int32))), .val (.int (x3.toInt8.toInt32)), .val (.ref ba33_1), .unset, .unset, .unset] []))
    refine Runs.go (fun _ => XS.aload Xw149_18.here hx rfl (hb hby at_150) rfl rfl) ?_
    show Runs p e below s _ _ _ (Tw149_18.setTop (mkF m 152 #[.val (.long v0), .second, .val (.int v2), .val (.int x2), .val (.int x3), .val (.long t0), .second, .val (.int (x2 &&& (7 : Int32))), .val (.int (x3.toInt8.toInt32)), .val (.ref ba33_1), .unset, .unset, .unset] [(.ref ba33_1)]))
    refine Runs.go (fun _ => XS.bipush Xw149_18.here hx rfl (hb hby at_152)) ?_
    show Runs p e below s _ _ _ (Tw149_18.setTop (mkF m 154 #[.val (.long v0), .second, .val (.int v2), .val (.int x2), .val (.int x3), .val (.long t0), .second, .val (.int (x2 &&& (7 : Int32))), .val (.int (x3.toInt8.toInt32)), .val (.ref ba33_1), .unset, .unset, .unset] [(.int (17 : Int32)), (.ref ba33_1)]))
    refine Runs.go (fun _ => XS.iload Xw149_18.here hx rfl (hb hby at_154) rfl) ?_
    show Runs p e below s _ _ _ (Tw149_18.setTop (mkF m 156 #[.val (.long v0), .second, .val (.int v2), .val (.int x2), .val (.int x3), .val (.long t0), .second, .val (.int (x2 &&& (7 : Int32))), .val (.int (x3.toInt8.toInt32)), .val (.ref ba33_1), .unset, .unset, .unset] [(.int (x3.toInt8.toInt32)), (.int (17 : Int32)), (.ref ba33_1)]))
    have VCw156_19 := Vw149_18
    obtain ⟨clw156_19, Arw156_19, qw156_19, Sw156_19, Mw156_19, Hw156_19, Gw156_19⟩ := VCw156_19
    have hinw156_19 : ¬ ((17 : Int32) < 0 ∨ clw156_19.slots.size ≤ ((17 : Int32)).toNatClampNeg) := inb_of Sw156_19 ⟨by decide, by decide⟩
    obtain ⟨Tw156_19, hw156_19, Xw156_19, ew156_19, Ww156_19, stw156_19⟩ := stB Xw149_18 hx hZ ew149_18 Arw156_19 (j := (17 : Int32)) hinw156_19 (g := (mkF m 156 #[.val (.long v0), .second, .val (.int v2), .val (.int x2), .val (.int x3), .val (.long t0), .second, .val (.int (x2 &&& (7 : Int32))), .val (.int (x3.toInt8.toInt32)), .val (.ref ba33_1), .unset, .unset, .unset] [(.int (x3.toInt8.toInt32)), (.int (17 : Int32)), (.ref ba33_1)])) rfl rfl (hb hby at_156)
    refine Runs.go stw156_19 ?_
    have hnw156_19 : n0 ≤ hw156_19.size := by rw [Wr.size Ww156_19]; exact hnw149_18
    have Vw156_19 : Arv Z hw156_19 ba33_1 ka33_1 .byte (18 : Int32) [(.int (nar .byte (x3.toInt8.toInt32))), (.int (nar .byte (x3.toInt8.toInt32))), (.int (nar .byte (x3.toInt8.toInt32))), (.int (nar .byte (x3.toInt8.toInt32))), (.int (nar .byte (x3.toInt8.toInt32))), (.int (nar .byte (x3.toInt8.toInt32))), (.int (nar .byte (x3.toInt8.toInt32))), (.int (nar .byte (x3.toInt8.toInt32))), (.int (nar .byte (x3.toInt8.toInt32))), (.int (nar .byte (x3.toInt8.toInt32))), (.int (nar .byte (x3.toInt8.toInt32))), (.int (nar .byte (x3.toInt8.toInt32))), (.int (nar .byte (x3.toInt8.toInt32))), (.int (nar .byte (x3.toInt8.toInt32))), (.int (nar .byte (x3.toInt8.toInt32))), (.int (nar .byte (x3.toInt8.toInt32))), (.int (nar .byte (x3.toInt8.toInt32))), (.int (nar .byte (x3.toInt8.toInt32)))] (.int (0 : Int32)) := Arv.set Arw156_19 qw156_19 Sw156_19 Mw156_19 Hw156_19 Gw156_19 (fits_nar_byte _) Ww156_19 17 rfl (Nat.le_of_ble_eq_true rfl)
    have Nw156_19 := Fr.snoc Xw156_19 Nw149_18 gb_ba33_1
    show Runs p e below s _ _ _ (Tw156_19.setTop (mkF m 157 #[.val (.long v0), .second, .val (.int v2), .val (.int x2), .val (.int x3), .val (.long t0), .second, .val (.int (x2 &&& (7 : Int32))), .val (.int (x3.toInt8.toInt32)), .val (.ref ba33_1), .unset, .unset, .unset] []))
    exact k_157 _ _ _ Xw156_19 ew156_19 Nw156_19 ba33_1 ka33_1 v0 v2 x2 x3 t0 gb_ba33_1 Vw156_19 hv
  have k_0 : ∀ (T : State) (X : Stand p l e room_1 s m #[(.long x0), (.int x1), (.int x2), (.int x3)] below meth c T [] 0 0) (eT : T.heap = h0) (N : Fr n0 []), f0_0 x0 x1 x2 x3 = r → Runs p e below s (QH (.int r) n0) room_1.cells room_1.slots (T.setTop (mkF m 0 #[.val (.long x0), .second, .val (.int x1), .val (.int x2), .val (.int x3), .unset, .unset, .unset, .unset, .unset, .unset, .unset, .unset] [])) := by
    intro T X eT N  hv
    unfold f0_0 at hv
    refine Runs.go (fun _ => XS.iloadN X.here hx rfl (hb hby at_0) rfl) ?_
    show Runs p e below s _ _ _ (T.setTop (mkF m 1 #[.val (.long x0), .second, .val (.int x1), .val (.int x2), .val (.int x3), .unset, .unset, .unset, .unset, .unset, .unset, .unset, .unset] [(.int x1)]))
    refine Runs.go (fun _ => XS.iconst X.here hx rfl (hb hby at_1)) ?_
    show Runs p e below s _ _ _ (T.setTop (mkF m 2 #[.val (.long x0), .second, .val (.int x1), .val (.int x2), .val (.int x3), .unset, .unset, .unset, .unset, .unset, .unset, .unset, .unset] [(.int (1 : Int32)), (.int x1)]))
    refine Runs.go (fun _ => XS.iand X.here hx rfl (hb hby at_2) rfl) ?_
    show Runs p e below s _ _ _ (T.setTop (mkF m 3 #[.val (.long x0), .second, .val (.int x1), .val (.int x2), .val (.int x3), .unset, .unset, .unset, .unset, .unset, .unset, .unset, .unset] [(.int (x1 &&& (1 : Int32)))]))
    by_cases hc3 : (x1 &&& (1 : Int32)) = (0 : Int32)
    · have hv := (if_pos hc3).symm.trans hv
      refine Runs.go (fun _ => XS.ifNo X.here hx rfl (hb hby at_3) rfl ((if0 _ _).trans (teq hc3).2)) ?_
      show Runs p e below s _ _ _ (T.setTop (mkF m 6 #[.val (.long x0), .second, .val (.int x1), .val (.int x2), .val (.int x3), .unset, .unset, .unset, .unset, .unset, .unset, .unset, .unset] []))
      refine Runs.go (fun _ => XS.lloadN X.here hx rfl (hb hby at_6) rfl) ?_
      show Runs p e below s _ _ _ (T.setTop (mkF m 7 #[.val (.long x0), .second, .val (.int x1), .val (.int x2), .val (.int x3), .unset, .unset, .unset, .unset, .unset, .unset, .unset, .unset] [(.long x0)]))
      refine Runs.go (fun _ => XS.goto X.here hx rfl (pc0 := 7) (pc' := 18) rfl (hb hby at_7) (by decide) (by decide)) ?_
      show Runs p e below s _ _ _ (T.setTop (mkF m 18 #[.val (.long x0), .second, .val (.int x1), .val (.int x2), .val (.int x3), .unset, .unset, .unset, .unset, .unset, .unset, .unset, .unset] [(.long x0)]))
      exact k_18 _ _ _ X eT N x0 x1 x0 hn0 hv
    · have hv := (if_neg hc3).symm.trans hv
      refine Runs.go (fun _ => XS.ifYes X.here hx rfl (pc0 := 3) (pc' := 10) rfl (hb hby at_3) rfl ((if0 _ _).trans (feq hc3).2) (by decide) (by decide)) ?_
      show Runs p e below s _ _ _ (T.setTop (mkF m 10 #[.val (.long x0), .second, .val (.int x1), .val (.int x2), .val (.int x3), .unset, .unset, .unset, .unset, .unset, .unset, .unset, .unset] []))
      refine Runs.go (fun _ => XS.lloadN X.here hx rfl (hb hby at_10) rfl) ?_
      show Runs p e below s _ _ _ (T.setTop (mkF m 11 #[.val (.long x0), .second, .val (.int x1), .val (.int x2), .val (.int x3), .unset, .unset, .unset, .unset, .unset, .unset, .unset, .unset] [(.long x0)]))
      refine Runs.go (fun _ => XS.iloadN X.here hx rfl (hb hby at_11) rfl) ?_
      show Runs p e below s _ _ _ (T.setTop (mkF m 12 #[.val (.long x0), .second, .val (.int x1), .val (.int x2), .val (.int x3), .unset, .unset, .unset, .unset, .unset, .unset, .unset, .unset] [(.int x1), (.long x0)]))
      refine Runs.go (fun _ => XS.iconst X.here hx rfl (hb hby at_12)) ?_
      show Runs p e below s _ _ _ (T.setTop (mkF m 13 #[.val (.long x0), .second, .val (.int x1), .val (.int x2), .val (.int x3), .unset, .unset, .unset, .unset, .unset, .unset, .unset, .unset] [(.int (1 : Int32)), (.int x1), (.long x0)]))
      refine Runs.go (fun _ => XS.iushr X.here hx rfl (hb hby at_13) rfl) ?_
      show Runs p e below s _ _ _ (T.setTop (mkF m 14 #[.val (.long x0), .second, .val (.int x1), .val (.int x2), .val (.int x3), .unset, .unset, .unset, .unset, .unset, .unset, .unset, .unset] [(.int ((x1.toUInt32 >>> ((1 : Int32) &&& 31).toUInt32).toInt32)), (.long x0)]))
      refine Runs.go (fun _ => XS.bipush X.here hx rfl (hb hby at_14)) ?_
      show Runs p e below s _ _ _ (T.setTop (mkF m 16 #[.val (.long x0), .second, .val (.int x1), .val (.int x2), .val (.int x3), .unset, .unset, .unset, .unset, .unset, .unset, .unset, .unset] [(.int (63 : Int32)), (.int ((x1.toUInt32 >>> ((1 : Int32) &&& 31).toUInt32).toInt32)), (.long x0)]))
      refine Runs.go (fun _ => XS.iand X.here hx rfl (hb hby at_16) rfl) ?_
      show Runs p e below s _ _ _ (T.setTop (mkF m 17 #[.val (.long x0), .second, .val (.int x1), .val (.int x2), .val (.int x3), .unset, .unset, .unset, .unset, .unset, .unset, .unset, .unset] [(.int (((x1.toUInt32 >>> ((1 : Int32) &&& 31).toUInt32).toInt32) &&& (63 : Int32))), (.long x0)]))
      refine Runs.go (fun _ => XS.lushr X.here hx rfl (hb hby at_17) rfl) ?_
      show Runs p e below s _ _ _ (T.setTop (mkF m 18 #[.val (.long x0), .second, .val (.int x1), .val (.int x2), .val (.int x3), .unset, .unset, .unset, .unset, .unset, .unset, .unset, .unset] [(.long ((x0.toUInt64 >>> ((((x1.toUInt32 >>> ((1 : Int32) &&& 31).toUInt32).toInt32) &&& (63 : Int32)) &&& 0x3f).toInt64.toUInt64).toInt64))]))
      exact k_18 _ _ _ X eT N x0 x1 ((x0.toUInt64 >>> ((((x1.toUInt32 >>> ((1 : Int32) &&& 31).toUInt32).toInt32) &&& (63 : Int32)) &&& 0x3f).toInt64.toUInt64).toInt64) hn0 hv
  exact k_0 _ X0 e0 (Fr.nil n0) hF
set_option maxRecDepth 65536 in
set_option maxHeartbeats 40000000 in
theorem comes_1 {Post : Tables → Env → Array Value → State → Outcome → State → Prop} (hpost : ∀ tb e args s v u, (limb_1_1.after args s (.returned v) u = true ∧ limb_1_2.after args s (.returned v) u = true ∧ True) → FrameEnd s (.returned v) u (Jvm.fieldLocs frame_1_writes args s ++ Jvm.arrayLocs frame_1_arrays args s ++ Jvm.staticLocs frame_1_statics s) 16 128 → Post tb e args s (.returned v) u) :
    ArmFor flags0 classFile x code maxLocals ret World_1 tables_1 room_1 Calls_1 rest_1 Pre_1 Post := by
  intro l hfl _ _ p e ha hc hk s m args below hf hA hF happ hP
  obtain ⟨hcalls, hrest, hpre⟩ := hP
  obtain ⟨-, -, -, hnamed, -, -, -, hat⟩ := (Spec.applies_iff hf).mp happ
  obtain ⟨hg, hn⟩ := and_e (Cond.before_iff.mp (show (Jvm.Cond.and given_1 narrow_1).before args s = true from hpre))
  obtain ⟨hcnt, hg⟩ := and_e hg
  obtain ⟨w0, w1, w2, w3, rfl⟩ : ∃ w0 w1 w2 w3 : Value, args = #[w0, w1, w2, w3] := by
    have hs : args.size = 4 := by simpa [Cond.value, given_1] using hcnt
    obtain ⟨L⟩ := args
    match L, hs with
    | [w0, w1, w2, w3], _ => exact ⟨w0, w1, w2, w3, rfl⟩
  obtain ⟨ga0, hg⟩ := and_e hg
  obtain ⟨i0, ei0⟩ := isL_v ga0
  obtain rfl : w0 = (.long i0) := Option.some.inj ei0
  obtain ⟨ga1, hg⟩ := and_e hg
  obtain ⟨i1, ei1⟩ := is_v ga1
  obtain rfl : w1 = (.int i1) := Option.some.inj ei1
  obtain ⟨ga2, hg⟩ := and_e hg
  obtain ⟨i2, ei2⟩ := is_v ga2
  obtain rfl : w2 = (.int i2) := Option.some.inj ei2
  have ga3 := hg
  obtain ⟨i3, ei3⟩ := is_v ga3
  obtain rfl : w3 = (.int i3) := Option.some.inj ei3
  have hw := fun d (hd : d ∈ tables_1) => atoms_spec (ws := Jvm.Cond.code x code maxLocals ret :: tables_1) hat d (List.mem_cons_of_mem _ hd)
  obtain ⟨n, o, h1, h2, h3, _, L, rfl, ⟨rfl, N⟩, hq⟩ := rm0 l s _ hw tables_1 i0 i1 i2 i3 s.heap s.heap.size (Nat.le_refl _) p e ha hc hk s m _ below hf ((Spec.applies_iff_loose hf).mp happ).1 ⟨rfl, State.Warmed39.refl s, rfl⟩ trivial
  rw [law_true i0 i1 i2 i3] at hq h3
  exact ⟨n, _, h1, h2, h3, hpost _ _ _ _ _ _ ⟨Cond.after_iff.mpr rfl, Cond.after_iff.mpr (eq_i res_at (Term.int_eval (1)) rfl), trivial⟩ ⟨hq.1, hq.2.1, (hq.2.2.sift fun y hy => Or.inr (N y hy)).mono (by decide) (by decide)⟩⟩
theorem main_1_1 : Claimed_1_1 := comes_1 fun _ _ _ _ _ _ h hF => ⟨h.1, hF⟩
theorem main_1_2 : Claimed_1_2 := comes_1 fun _ _ _ _ _ _ h hF => ⟨h.2.1, hF⟩
end Jvm.Pilot.@@N@@
namespace Jvm.Pilot.@@N@@
open Jvm Jvm.ClassFile Sem Op Lib Jvm.Free Jvm.Stand Jvm.Pilot.@@N@@.Jvm.D
/-! MADE BY PROGRAM (witnessworld.py) out of the Statement's table words and the real class files: 9 classes; the members and pool entries that the words name. The judged class is class 1, her method 3. -/
namespace start1
open Jvm.ClassFile
def u (s : String) : CpInfo := .utf8 (stringToUtf16 s)
/-- a pool by its gaps: so many unusable entries, then the entry; so many at the end -/
def gap : Nat → List CpInfo → List CpInfo
  | 0, r => r
  | n + 1, r => .unusable :: gap n r
def poolList (es : List (Nat × CpInfo)) (last : Nat) : List CpInfo := es.foldr (fun e r => gap e.1 (e.2 :: r)) (gap last [])
def pool (es : List (Nat × CpInfo)) (last : Nat) : Array CpInfo := ⟨poolList es last⟩
def fileOf (pool : Array CpInfo) (this : Nat) (attrs : Array Attribute := #[]) (ms : Array MethodInfo := #[]) (fl : Nat := 33) (sup : Nat := 0) (ifs : Array Nat := #[]) (fds : Array FieldInfo := #[]) : ClassFile where
  minorVersion := 0
  majorVersion := 65
  constantPool := pool
  accessFlags := fl
  thisClass := this
  superClass := sup
  interfaces := ifs
  fields := fds
  methods := ms
  attributes := attrs
def plain (name : String) (sup : Option ClassId) : Class where
  name := name
  kind := .ordinary
  loader := none
  accessFlags := 33
  super := sup
  interfaces := #[]
  cf := none
  fields := #[]
  methods := #[]
  instanceTypes := #[]
  staticTypes := #[]
  resolved := #[]
  callSites := []
  init := .initialized
  statics := none
  mirror := none

def pool0 : Array CpInfo := pool [(5, u "<init>"), (0, u "()V"), (1, .class_ 10), (1, u "java/lang/Object")] 113

def k0m0 : Method := { name := "<init>", desc := "()V", sig := { parameters := [], returnType := none }, accessFlags := 1, code := none }
/-- java/lang/Object -/
def k0 : Class := { plain "java/lang/Object" none with
  accessFlags := 33
  interfaces := #[]
  cf := some (fileOf pool0 8 #[] #[{ accessFlags := 1, nameIndex := 5, descriptorIndex := 6, attributes := #[] }] 33 0 #[] #[])
  fields := #[]
  methods := #[k0m0]
  instanceTypes := #[]
  staticTypes := #[]
  resolved := Array.replicate 124 none
  statics := none }

def pool1 : Array CpInfo := pool [(2, .class_ 4), (1, u "java/lang/Object"), (0, u "<init>"), (0, u "()V"), (0, .long 127), (1, .methodref 10 11), (0, .class_ 12), (0, .nameAndType 13 14), (0, u "com/example/caddis/caddis/index/IndexFormatPutVarintPinLaw"), (0, u "nz"), (0, u "(JI)I"), (0, .methodref 16 17), (0, .class_ 18), (0, .nameAndType 19 20), (0, u "com/example/caddis/caddis/index/IndexFormat"), (0, u "putVarint"), (0, u "([BIJ)I"), (0, .methodref 10 22), (0, .nameAndType 23 24), (0, u "ok"), (0, u "([BIIIJB)Z"), (3, u "law"), (0, u "(JIII)Z")] 4

def k1m0 : Method := { name := "<init>", desc := "()V", sig := { parameters := [], returnType := none }, accessFlags := 1, code := none }
def k1c1 : Code := { maxStack := 4, maxLocals := 3, code := method_2_code, exceptionTable := #[], attributes := #[] }
def k1m1 : Method := { name := "nz", desc := "(JI)I", sig := { parameters := [.long, .int], returnType := some .int }, accessFlags := 10, code := some k1c1 }
def k1c2 : Code := { maxStack := 4, maxLocals := 10, code := method_3_code, exceptionTable := #[], attributes := #[] }
def k1m2 : Method := { name := "ok", desc := "([BIIIJB)Z", sig := { parameters := [(.array .byte), .int, .int, .int, .long, .byte], returnType := some .boolean }, accessFlags := 10, code := some k1c2 }
def k1c3 : Code := { maxStack := 7, maxLocals := 13, code := code, exceptionTable := #[], attributes := #[] }
def k1m3 : Method := { name := "law", desc := "(JIII)Z", sig := { parameters := [.long, .int, .int, .int], returnType := some .boolean }, accessFlags := 9, code := some k1c3 }
/-- com/example/caddis/caddis/index/IndexFormatPutVarintPinLaw -/
def k1 : Class := { plain "com/example/caddis/caddis/index/IndexFormatPutVarintPinLaw" (some 0) with
  accessFlags := 49
  interfaces := #[]
  cf := some (fileOf pool1 10 #[] #[{ accessFlags := 1, nameIndex := 5, descriptorIndex := 6, attributes := #[] }, { accessFlags := 10, nameIndex := 13, descriptorIndex := 14, attributes := #[] }, { accessFlags := 10, nameIndex := 23, descriptorIndex := 24, attributes := #[] }, { accessFlags := 9, nameIndex := 28, descriptorIndex := 29, attributes := #[] }] 49 2 #[] #[])
  fields := #[]
  methods := #[k1m0, k1m1, k1m2, k1m3]
  instanceTypes := #[]
  staticTypes := #[]
  resolved := Array.replicate 34 none
  statics := none }

def pool2 : Array CpInfo := pool [(2, .class_ 4), (1, u "java/lang/Object"), (0, u "<init>"), (0, u "()V"), (0, .long 18446744073709551488), (1, .long 127), (1, .long 128), (1, .class_ 14), (0, u "com/example/caddis/caddis/index/IndexFormat"), (2, u "putVarint"), (0, u "([BIJ)I"), (80, u "HEADER"), (0, u "Ljava/lang/String;"), (3, u "DOCUMENTS"), (2, u "FIELDS"), (2, u "FIELD_OFFSETS"), (2, u "POSTINGS"), (2, u "LEXICON"), (2, u "LEXICON_BLOCKS"), (2, u "DOCUMENT_TERMS"), (2, u "DOCUMENT_TERM_OFFSETS"), (2, u "MAGIC"), (0, u "I"), (1, u "VERSION"), (1, u "BLOCK_TERMS"), (1, u "MAX_VARINT_BYTES")] 22

def k2m0 : Method := { name := "<init>", desc := "()V", sig := { parameters := [], returnType := none }, accessFlags := 2, code := none }
def k2c1 : Code := { maxStack := 6, maxLocals := 7, code := prog_24_method_2_code, exceptionTable := #[], attributes := #[] }
def k2m1 : Method := { name := "putVarint", desc := "([BIJ)I", sig := { parameters := [(.array .byte), .int, .long], returnType := some .int }, accessFlags := 8, code := some k2c1 }
/-- com/example/caddis/caddis/index/IndexFormat -/
def k2 : Class := { plain "com/example/caddis/caddis/index/IndexFormat" (some 0) with
  accessFlags := 32
  interfaces := #[]
  cf := some (fileOf pool2 13 #[] #[{ accessFlags := 2, nameIndex := 5, descriptorIndex := 6, attributes := #[] }, { accessFlags := 8, nameIndex := 17, descriptorIndex := 18, attributes := #[] }] 32 2 #[] #[{ accessFlags := 24, nameIndex := 99, descriptorIndex := 100, attributes := #[] }, { accessFlags := 24, nameIndex := 104, descriptorIndex := 100, attributes := #[] }, { accessFlags := 24, nameIndex := 107, descriptorIndex := 100, attributes := #[] }, { accessFlags := 24, nameIndex := 110, descriptorIndex := 100, attributes := #[] }, { accessFlags := 24, nameIndex := 113, descriptorIndex := 100, attributes := #[] }, { accessFlags := 24, nameIndex := 116, descriptorIndex := 100, attributes := #[] }, { accessFlags := 24, nameIndex := 119, descriptorIndex := 100, attributes := #[] }, { accessFlags := 24, nameIndex := 122, descriptorIndex := 100, attributes := #[] }, { accessFlags := 24, nameIndex := 125, descriptorIndex := 100, attributes := #[] }, { accessFlags := 24, nameIndex := 128, descriptorIndex := 129, attributes := #[] }, { accessFlags := 24, nameIndex := 131, descriptorIndex := 129, attributes := #[] }, { accessFlags := 24, nameIndex := 133, descriptorIndex := 129, attributes := #[] }, { accessFlags := 24, nameIndex := 135, descriptorIndex := 129, attributes := #[] }])
  fields := #[{ name := "HEADER", type := (.object "java/lang/String"), accessFlags := 24, slot := 0, constantValue := 0 }, { name := "DOCUMENTS", type := (.object "java/lang/String"), accessFlags := 24, slot := 1, constantValue := 0 }, { name := "FIELDS", type := (.object "java/lang/String"), accessFlags := 24, slot := 2, constantValue := 0 }, { name := "FIELD_OFFSETS", type := (.object "java/lang/String"), accessFlags := 24, slot := 3, constantValue := 0 }, { name := "POSTINGS", type := (.object "java/lang/String"), accessFlags := 24, slot := 4, constantValue := 0 }, { name := "LEXICON", type := (.object "java/lang/String"), accessFlags := 24, slot := 5, constantValue := 0 }, { name := "LEXICON_BLOCKS", type := (.object "java/lang/String"), accessFlags := 24, slot := 6, constantValue := 0 }, { name := "DOCUMENT_TERMS", type := (.object "java/lang/String"), accessFlags := 24, slot := 7, constantValue := 0 }, { name := "DOCUMENT_TERM_OFFSETS", type := (.object "java/lang/String"), accessFlags := 24, slot := 8, constantValue := 0 }, { name := "MAGIC", type := .int, accessFlags := 24, slot := 9, constantValue := 0 }, { name := "VERSION", type := .int, accessFlags := 24, slot := 10, constantValue := 0 }, { name := "BLOCK_TERMS", type := .int, accessFlags := 24, slot := 11, constantValue := 0 }, { name := "MAX_VARINT_BYTES", type := .int, accessFlags := 24, slot := 12, constantValue := 0 }]
  methods := #[k2m0, k2m1]
  instanceTypes := #[]
  staticTypes := #[(.object "java/lang/String"), (.object "java/lang/String"), (.object "java/lang/String"), (.object "java/lang/String"), (.object "java/lang/String"), (.object "java/lang/String"), (.object "java/lang/String"), (.object "java/lang/String"), (.object "java/lang/String"), .int, .int, .int, .int]
  resolved := Array.replicate 158 none
  statics := none }

def pool3 : Array CpInfo := pool [(1, u "java/lang/Cloneable"), (0, .class_ 1), (0, u "java/lang/Object"), (0, .class_ 3)] 3

/-- java/lang/Cloneable -/
def k3 : Class := { plain "java/lang/Cloneable" (some 0) with
  accessFlags := 1537
  interfaces := #[]
  cf := some (fileOf pool3 2 #[] #[] 1537 4 #[] #[])
  fields := #[]
  methods := #[]
  instanceTypes := #[]
  staticTypes := #[]
  resolved := Array.replicate 8 none
  statics := none }

def pool4 : Array CpInfo := pool [(1, u "java/io/Serializable"), (0, .class_ 1), (0, u "java/lang/Object"), (0, .class_ 3)] 3

/-- java/io/Serializable -/
def k4 : Class := { plain "java/io/Serializable" (some 0) with
  accessFlags := 1537
  interfaces := #[]
  cf := some (fileOf pool4 2 #[] #[] 1537 4 #[] #[])
  fields := #[]
  methods := #[]
  instanceTypes := #[]
  staticTypes := #[]
  resolved := Array.replicate 8 none
  statics := none }

/-- the primitive byte -/
def k5 : Class := { plain "byte" none with kind := .primitive 'B', accessFlags := 0x411 }
/-- [B -/
def k6 : Class := { plain "[B" (some 0) with kind := .array 5 .byte, interfaces := #[3, 4], accessFlags := 1041 }

/-- the primitive int -/
def k7 : Class := { plain "int" none with kind := .primitive 'I', accessFlags := 0x411 }
/-- [I -/
def k8 : Class := { plain "[I" (some 0) with kind := .array 7 .int, interfaces := #[3, 4], accessFlags := 1041 }

def heap : Heap := #[]
def classes : Array Class := #[k0, k1, k2, k3, k4, k5, k6, k7, k8]
def interned : List (Array UInt16 × Addr) := []
def slotsUsed : Nat := 0
def theMethod : MethodId := ⟨1, 3⟩
def args0 : Array Value := #[.long 700, .int 8, .int 9, .int 10]
def aboutOver (below : List Frame) : State where
  vm := { classes := classes, interned := interned.toArray }
  heap := heap
  slotsUsed := slotsUsed
  threads := #[{ frames := .invoking theMethod args0 :: below }]
def below0 : List Frame := [.native { method := ⟨0, 0⟩, args := #[] }]
def about1 : State := aboutOver below0
def p0 : Program := .bare "" "" ""
def e0 : Env := launch0.env 0 0 0
theorem w_frames : about1.frames = Frame.invoking theMethod args0 :: below0 := rfl
set_option maxRecDepth 65536 in
theorem w_args : argsFit about1.vm theMethod args0 = true := by decide +kernel
set_option maxRecDepth 65536 in
theorem w_heap : heapFits about1 = true := by decide +kernel
set_option maxRecDepth 65536 in
theorem w_runnable : about1.curStatus? = some .runnable := by decide +kernel
set_option maxRecDepth 65536 in
theorem w_alone : about1.alone = true := by decide +kernel
set_option maxRecDepth 65536 in
theorem w_named : about1.methodNamed? x = some theMethod := by decide +kernel
set_option maxRecDepth 65536 in
theorem w_hears : about1.hears theMethod below0 = true := by decide +kernel
set_option maxRecDepth 65536 in
theorem w_ripe : about1.ripe theMethod args0 below0 = true := by decide +kernel
theorem w_running : about1.status = .running := rfl
set_option maxRecDepth 65536 in
theorem w_room : about1.hasRoom e0.platform room_1 = true :=
  launch0.hasRoom_least _ room_1 (by decide +kernel) (by decide +kernel) (by decide +kernel) (by decide +kernel) (by decide +kernel) (by decide +kernel)
theorem allAtoms_all (ts : List Jvm.Cond) (a : Array Jvm.Value) (st : Jvm.State) : (allAtoms ts).before a st = ts.all (fun c => c.before a st) := by
  induction ts with
  | nil => rfl
  | cons c t ih =>
    show (Jvm.Cond.and c (allAtoms t)).before a st = _
    rw [Jvm.Cond.before_and, ih, List.all_cons]
def words1 : List Jvm.Cond := Jvm.Cond.code x code maxLocals ret :: tables_1
/-- a 'code' word, met by the world's own term for the bytes: nothing is compared byte by byte -/
theorem code_word {y : MethodName} {bytes : ByteArray} {mx : Nat} {rt : Option FieldType} {a : Array Value} {s : State} {m : MethodId} {meth : Method} {c : Code} (h1 : s.methodNamed? y = some m) (h2 : s.vm.method? m = some meth) (h3 : meth.code = some c) (h4 : c.code = bytes)
    (h5 : (c.maxLocals == mx && c.exceptionTable.isEmpty && decide (c.maxStack ≤ mostOperands) && decide (meth.sig.returnType = rt) && !meth.locks && decide (parseMethodDescriptor y.desc = some meth.sig)) = true) : (Jvm.Cond.code y bytes mx rt).before a s = true := by
  simp only [Bool.and_eq_true, beq_iff_eq, Bool.not_eq_true', decide_eq_true_eq] at h5
  obtain ⟨⟨⟨⟨⟨g1, g2⟩, g3⟩, g4⟩, g5⟩, g6⟩ := h5
  simp [Cond.before, Cond.holds, Cond.value, h1, h2, h3, h4, g1, g2, g3, g4, g5, g6]
def isCode : Jvm.Cond → Bool
  | .code _ _ _ _ => true
  | _ => false
theorem all_split {L : List Jvm.Cond} {P : Jvm.Cond → Bool} (h1 : L.all (fun c => isCode c || P c) = true) (h2 : ∀ c ∈ L.filter isCode, P c = true) : L.all P = true := by
  refine List.all_eq_true.mpr fun c hc => ?_
  have h := List.all_eq_true.mp h1 c hc
  rcases Bool.eq_false_or_eq_true (isCode c) with hi | hi
  · exact h2 c (List.mem_filter.mpr ⟨hc, hi⟩)
  · simpa [hi] using h
set_option maxRecDepth 65536 in
theorem w_c0 : (Jvm.Cond.code x code maxLocals ret).before args0 about1 = true := code_word (m := ⟨1, 3⟩) (meth := k1m3) (c := k1c3) (by decide +kernel) rfl rfl rfl (by decide +kernel)
set_option maxRecDepth 65536 in
theorem w_c1 : (Jvm.Cond.code ({ cls := "com/example/caddis/caddis/index/IndexFormatPutVarintPinLaw", name := "nz", desc := "(JI)I" } : Jvm.MethodName) method_2_code (3 : Nat) (Option.some Jvm.ClassFile.FieldType.int)).before args0 about1 = true := code_word (m := ⟨1, 1⟩) (meth := k1m1) (c := k1c1) (by decide +kernel) rfl rfl rfl (by decide +kernel)
set_option maxRecDepth 65536 in
theorem w_c2 : (Jvm.Cond.code ({ cls := "com/example/caddis/caddis/index/IndexFormat", name := "putVarint", desc := "([BIJ)I" } : Jvm.MethodName) prog_24_method_2_code (7 : Nat) (Option.some Jvm.ClassFile.FieldType.int)).before args0 about1 = true := code_word (m := ⟨2, 1⟩) (meth := k2m1) (c := k2c1) (by decide +kernel) rfl rfl rfl (by decide +kernel)
set_option maxRecDepth 65536 in
theorem w_c3 : (Jvm.Cond.code ({ cls := "com/example/caddis/caddis/index/IndexFormatPutVarintPinLaw", name := "ok", desc := "([BIIIJB)Z" } : Jvm.MethodName) method_3_code (10 : Nat) (Option.some Jvm.ClassFile.FieldType.boolean)).before args0 about1 = true := code_word (m := ⟨1, 2⟩) (meth := k1m2) (c := k1c2) (by decide +kernel) rfl rfl rfl (by decide +kernel)
def codes1 : List Jvm.Cond := [Jvm.Cond.code x code maxLocals ret, Jvm.Cond.code ({ cls := "com/example/caddis/caddis/index/IndexFormatPutVarintPinLaw", name := "nz", desc := "(JI)I" } : Jvm.MethodName) method_2_code (3 : Nat) (Option.some Jvm.ClassFile.FieldType.int), Jvm.Cond.code ({ cls := "com/example/caddis/caddis/index/IndexFormat", name := "putVarint", desc := "([BIJ)I" } : Jvm.MethodName) prog_24_method_2_code (7 : Nat) (Option.some Jvm.ClassFile.FieldType.int), Jvm.Cond.code ({ cls := "com/example/caddis/caddis/index/IndexFormatPutVarintPinLaw", name := "ok", desc := "([BIIIJB)Z" } : Jvm.MethodName) method_3_code (10 : Nat) (Option.some Jvm.ClassFile.FieldType.boolean)]
set_option maxRecDepth 65536 in
theorem codes_eq : words1.filter isCode = codes1 := rfl
theorem w_codes : ∀ c ∈ words1.filter isCode, c.before args0 about1 = true := by
  rw [codes_eq]
  intro c hc
  simp only [codes1, List.mem_cons, List.not_mem_nil, or_false] at hc
  rcases hc with rfl | rfl | rfl | rfl
  · exact w_c0
  · exact w_c1
  · exact w_c2
  · exact w_c3
set_option maxRecDepth 65536 in
theorem w_t1 : words1.all (fun c => isCode c || c.before args0 about1) = true := by decide +kernel
theorem w_tables : (allAtoms (Jvm.Cond.code x code maxLocals ret :: tables_1)).before args0 about1 = true := by
  rw [allAtoms_all]
  show words1.all (fun c => c.before args0 about1) = true
  refine all_split ?_ w_codes
  rw [w_t1]
set_option maxRecDepth 65536 in
theorem w_case : (Jvm.Cond.and given_1 narrow_1).before args0 about1 = true := by decide +kernel
theorem w_applies : (headSpec (Jvm.Cond.code x code maxLocals ret :: tables_1) room_1).applies x e0.platform about1 = true :=
  (Spec.applies_iff w_frames).mpr ⟨w_running, w_runnable, w_alone, w_named, w_hears, w_ripe, w_room, w_tables⟩
theorem atStart : AtStart classFile x code maxLocals ret World_1 tables_1 room_1 Calls_1 rest_1 Pre_1 launch0 p0 e0 about1 theMethod args0 below0 :=
  ⟨lists_1, trivial, launch0.admits_env _ _ _, launch0.least_env, fairChoices_fair.cas, fairChoices_fair.clock, w_frames, w_args, w_heap, w_applies, trivial, trivial, w_case⟩
end start1
theorem witness_1 : WitnessClaimed_1 := ⟨start1.p0, start1.e0, start1.about1, start1.theMethod, start1.args0, start1.below0, start1.atStart⟩
end Jvm.Pilot.@@N@@
