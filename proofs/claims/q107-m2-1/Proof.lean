import JvmDerived
import JvmDerived.Pilot.@@N@@Statement
import JvmDerived.Pilot.@@N@@Code
set_option linter.unusedVariables false
set_option linter.unusedSimpArgs false

namespace Jvm.Pilot.@@N@@
open Jvm Jvm.ClassFile Sem Op Lib Jvm.Free Jvm.Stand Jvm.LawKit Jvm.RoadKit Bundle Jvm.Pilot.@@N@@.Jvm.D
def QH (w : Value) (n0 : Nat) (v : Option Value) (h : Heap) (L : List Loc) : Prop := v = some w ∧ Fr n0 L
def own_at (l : List Int32) (j : Int32) : Int32 := l.getD j.toNatClampNeg 0
theorem own_getD (l : List Int32) (j : Int32) : (List.map Value.int l).getD j.toNatClampNeg (.int (0 : Int32)) = .int (own_at l j) := by
  simp only [own_at, List.getD_eq_getElem?_getD, List.getElem?_map]
  cases l[j.toNatClampNeg]? <;> rfl
def own_atJ (l : List Int64) (j : Int32) : Int64 := l.getD j.toNatClampNeg 0
theorem own_getDJ (l : List Int64) (j : Int32) : (List.map Value.long l).getD j.toNatClampNeg (.long (0 : Int64)) = .long (own_atJ l j) := by
  simp only [own_atJ, List.getD_eq_getElem?_getD, List.getElem?_map]
  cases l[j.toNatClampNeg]? <;> rfl
def QP (w : Value) (h0 : Heap) (v : Option Value) (h : Heap) (L : List Loc) : Prop := v = some w ∧ L = [] ∧ h = h0
def Runs (p : Program) (e : Env) (below : List Frame) (s : State) (Q : Option Value → Heap → List Loc → Prop) (k n : Nat) (A : State) : Prop :=
  ∃ s₂ o, Steps p.tables e below A s₂ ∧ s₂.status = .running ∧ Ended s₂ below o ∧ ∃ v L, o = .returned v ∧ Q v s₂.heap L ∧ FrameEnd s o s₂ L k n
section Ends
variable {p : Program} {l : Launch} {e : Env} {R : Room} {s : State} {m : MethodId} {args : Array Value} {below : List Frame} {meth : Method} {c : Code} {T A B : State} {locs : List Loc} {cells slots : Nat} {Q : Option Value → Heap → List Loc → Prop} {k n pc : Nat} {Ls : Array Slot} {rest : List Value}
theorem Runs.go (h : ∀ t, Steps p.tables e below B t → Steps p.tables e below A t) (q : Runs p e below s Q k n B) : Runs p e below s Q k n A := by
  obtain ⟨s₂, o, h1, h2⟩ := q; exact ⟨s₂, o, h _ h1, h2⟩
theorem Runs.endI (X : Stand p l e R s m args below meth c T locs cells slots) (hx : p.tables.exec = Jvm.exec) {z : Int32} (hret : meth.sig.returnType = some .int) (hl : meth.locks = false) (hd : decode c.code pc = .ok (.ireturn, 1)) (hQ : Q (some (.int z)) T.heap locs) (hk : cells ≤ k) (hn : slots ≤ n) : Runs p e below s Q k n (T.setTop (mkF m pc Ls (.int z :: rest))) := by
  obtain ⟨fs, hr, hrun, hended, hW, hsame⟩ := X.leave (v := some (.int z)) (fun h => by rw [hret] at h; cases h) hl
  exact ⟨_, _, retOut X hx hret rfl (Or.inl ⟨rfl, Or.inl rfl, _, rfl⟩) hd hr, hrun, hended, _, _, rfl, hQ, ⟨_, rfl⟩, hW, hsame.mono hk hn⟩
theorem Runs.endJ (X : Stand p l e R s m args below meth c T locs cells slots) (hx : p.tables.exec = Jvm.exec) {z : Int64} (hret : meth.sig.returnType = some .long) (hl : meth.locks = false) (hd : decode c.code pc = .ok (.lreturn, 1)) (hQ : Q (some (.long z)) T.heap locs) (hk : cells ≤ k) (hn : slots ≤ n) : Runs p e below s Q k n (T.setTop (mkF m pc Ls (.long z :: rest))) := by
  obtain ⟨fs, hr, hrun, hended, hW, hsame⟩ := X.leave (v := some (.long z)) (fun h => by rw [hret] at h; cases h) hl
  exact ⟨_, _, retOut X hx hret rfl (Or.inr (Or.inl ⟨rfl, rfl, _, rfl⟩)) hd hr, hrun, hended, _, _, rfl, hQ, ⟨_, rfl⟩, hW, hsame.mono hk hn⟩
theorem Runs.endN (X : Stand p l e R s m args below meth c T locs cells slots) (hx : p.tables.exec = Jvm.exec) {z : Int32} {t : FieldType} (hret : meth.sig.returnType = some t) (ht : t = .boolean ∨ t = .byte ∨ t = .char ∨ t = .short) (hl : meth.locks = false) (hd : decode c.code pc = .ok (.ireturn, 1)) (hQ : Q (some (.int (nar t z))) T.heap locs) (hk : cells ≤ k) (hn : slots ≤ n) : Runs p e below s Q k n (T.setTop (mkF m pc Ls (.int z :: rest))) := by
  obtain ⟨fs, hr, hrun, hended, hW, hsame⟩ := X.leave (v := some (.int (nar t z))) (fun h => by rw [hret] at h; cases h) hl
  exact ⟨_, _, retN X hx hret ht hd hr, hrun, hended, _, _, rfl, hQ, ⟨_, rfl⟩, hW, hsame.mono hk hn⟩
theorem Runs.endV (X : Stand p l e R s m args below meth c T locs cells slots) (hx : p.tables.exec = Jvm.exec) (hret : meth.sig.returnType = none) (hl : meth.locks = false) (hd : decode c.code pc = .ok (.return_, 1)) (hQ : Q none T.heap locs) (hk : cells ≤ k) (hn : slots ≤ n) : Runs p e below s Q k n (T.setTop (mkF m pc Ls [])) := by
  obtain ⟨fs, hr, hrun, hended, hW, hsame⟩ := X.leave (v := none) (fun _ => rfl) hl
  exact ⟨_, _, X.returnOut hx hret hd hr, hrun, hended, _, _, rfl, hQ, ⟨_, rfl⟩, hW, hsame.mono hk hn⟩
theorem Runs.endR (X : Stand p l e R s m args below meth c T locs cells slots) (hx : p.tables.exec = Jvm.exec) {z : Addr} {t : FieldType} (hret : meth.sig.returnType = some t) (ht : t.isReference = true) (hl : meth.locks = false) (hd : decode c.code pc = .ok (.areturn, 1)) (hQ : Q (some (.ref z)) T.heap locs) (hk : cells ≤ k) (hn : slots ≤ n) : Runs p e below s Q k n (T.setTop (mkF m pc Ls (.ref z :: rest))) := by
  obtain ⟨fs, hr, hrun, hended, hW, hsame⟩ := X.leave (v := some (.ref z)) (fun h => by rw [hret] at h; cases h) hl
  exact ⟨_, _, retOut X hx hret (by cases t <;> first | rfl | cases ht) (Or.inr (Or.inr (Or.inr (Or.inr ⟨rfl, ht, rfl⟩)))) hd hr, hrun, hended, _, _, rfl, hQ, ⟨_, rfl⟩, hW, hsame.mono hk hn⟩
end Ends
def LInv : Nat → Int64 → Prop
  | 0, _ => False
  | k + 1, v => v.toBitVec.toNat < 2 ^ (7 * k)
theorem LInv.zero {v : Int64} : ¬ LInv 0 v := fun h => h
theorem own_shr (v : Int64) : ((v.toUInt64 >>> ((7 : Int32) &&& 0x3f).toInt64.toUInt64).toInt64).toBitVec.toNat = v.toBitVec.toNat / 128 := by
  show (v.toBitVec >>> (((7 : Int32) &&& 0x3f).toInt64.toBitVec % 64)).toNat = _
  rw [BitVec.ushiftRight_eq', BitVec.toNat_ushiftRight, Nat.shiftRight_eq_div_pow]
  have e : ((((7 : Int32) &&& 0x3f).toInt64.toBitVec % 64)).toNat = 7 := by decide
  rw [e]
theorem LInv.start (v : Int64) : LInv 10 ((v.toUInt64 >>> ((7 : Int32) &&& 0x3f).toInt64.toUInt64).toInt64) := by
  show _ < 2 ^ (7 * 9)
  rw [own_shr]; have := v.toBitVec.isLt; omega
theorem LInv.step {k : Nat} {v : Int64} (h : LInv (k + 1) v) (hv : ¬ v = 0) : LInv k ((v.toUInt64 >>> ((7 : Int32) &&& 0x3f).toInt64.toUInt64).toInt64) := by
  have h : v.toBitVec.toNat < 2 ^ (7 * k) := h
  cases k with
  | zero =>
    have e : v.toBitVec.toNat = 0 := by simpa using h
    exact absurd (Int64.toBitVec_inj.mp (BitVec.eq_of_toNat_eq (by rw [e]; rfl))) hv
  | succ k =>
    show _ < 2 ^ (7 * k)
    rw [own_shr]
    have e : 2 ^ (7 * (k + 1)) = 2 ^ (7 * k) * 128 := by rw [Nat.mul_add, Nat.pow_add]
    rw [e] at h
    exact Nat.div_lt_of_lt_mul (by rw [Nat.mul_comm]; exact h)
def own_len : Nat → Int32 → Int → Int32
  | 0, n, _ => n
  | k + 1, n, r => if r = 0 then n else own_len k (n + (1 : Int32)) (r / 128)

def f1_7 : Nat → Int32 → Int64 → Int32
  | 0, _, _ => 0
  | k + 1, v2, v3 => (if (lcmpW v3 (0 : Int64)) = (0 : Int32) then v2 else (f1_7 k (v2 + (1 : Int32)) ((v3.toUInt64 >>> ((7 : Int32) &&& 0x3f).toInt64.toUInt64).toInt64)))
def f1_0 (x0 : Int64) : Int32 := (f1_7 10 (1 : Int32) ((x0.toUInt64 >>> ((7 : Int32) &&& 0x3f).toInt64.toUInt64).toInt64))
def F1 (x0 : Int64) : Int32 := f1_0 x0
def f2_0 (x0 : Int64) : Int32 := (if (lcmpW x0 (0 : Int64)) < (0 : Int32) then (10 : Int32) else (if (lcmpW x0 (128 : Int64)) < (0 : Int32) then (1 : Int32) else (if (lcmpW x0 (16384 : Int64)) < (0 : Int32) then (2 : Int32) else (if (lcmpW x0 (2097152 : Int64)) < (0 : Int32) then (3 : Int32) else (if (lcmpW x0 (268435456 : Int64)) < (0 : Int32) then (4 : Int32) else (if (lcmpW x0 (34359738368 : Int64)) < (0 : Int32) then (5 : Int32) else (if (lcmpW x0 (4398046511104 : Int64)) < (0 : Int32) then (6 : Int32) else (if (lcmpW x0 (562949953421312 : Int64)) < (0 : Int32) then (7 : Int32) else (if (lcmpW x0 (72057594037927936 : Int64)) < (0 : Int32) then (8 : Int32) else (9 : Int32))))))))))
def F2 (x0 : Int64) : Int32 := f2_0 x0
def f0_0 (x0 : Int64) (x1 : Int32) : Int32 := (if (F1 ((x0.toUInt64 >>> ((x1 &&& (63 : Int32)) &&& 0x3f).toInt64.toUInt64).toInt64)) = (F2 ((x0.toUInt64 >>> ((x1 &&& (63 : Int32)) &&& 0x3f).toInt64.toUInt64).toInt64)) then (1 : Int32) else (0 : Int32))
def F0 (x0 : Int64) (x1 : Int32) : Int32 := f0_0 x0 x1
theorem li32_0 : (0 : Int32).toInt = 0 := by decide
theorem li32_1 : (1 : Int32).toInt = 1 := by decide
theorem li32_2 : (2 : Int32).toInt = 2 := by decide
theorem li32_3 : (3 : Int32).toInt = 3 := by decide
theorem li32_4 : (4 : Int32).toInt = 4 := by decide
theorem li32_5 : (5 : Int32).toInt = 5 := by decide
theorem li32_6 : (6 : Int32).toInt = 6 := by decide
theorem li32_7 : (7 : Int32).toInt = 7 := by decide
theorem li32_8 : (8 : Int32).toInt = 8 := by decide
theorem li32_9 : (9 : Int32).toInt = 9 := by decide
theorem li32_10 : (10 : Int32).toInt = 10 := by decide
theorem li32_63 : (63 : Int32).toInt = 63 := by decide
theorem li64_0 : (0 : Int64).toInt = 0 := by decide
theorem li64_128 : (128 : Int64).toInt = 128 := by decide
theorem li64_16384 : (16384 : Int64).toInt = 16384 := by decide
theorem li64_2097152 : (2097152 : Int64).toInt = 2097152 := by decide
theorem li64_268435456 : (268435456 : Int64).toInt = 268435456 := by decide
theorem li64_34359738368 : (34359738368 : Int64).toInt = 34359738368 := by decide
theorem li64_4398046511104 : (4398046511104 : Int64).toInt = 4398046511104 := by decide
theorem li64_562949953421312 : (562949953421312 : Int64).toInt = 562949953421312 := by decide
theorem li64_72057594037927936 : (72057594037927936 : Int64).toInt = 72057594037927936 := by decide

theorem own_F2 (v : Int64) : F2 v = if v.toInt < 0 then 10 else if v.toInt < 128 then 1 else if v.toInt < 16384 then 2 else if v.toInt < 2097152 then 3 else if v.toInt < 268435456 then 4 else if v.toInt < 34359738368 then 5 else if v.toInt < 4398046511104 then 6 else if v.toInt < 562949953421312 then 7 else if v.toInt < 72057594037927936 then 8 else 9 := by
  simp only [F2, f2_0, lw_lt, Int64.lt_iff_toInt_lt, li32_0, li32_1, li32_2, li32_3, li32_4, li32_5, li32_6, li32_7, li32_8, li32_9, li32_10, li32_63, li64_0, li64_128, li64_16384, li64_2097152, li64_268435456, li64_34359738368, li64_4398046511104, li64_562949953421312, li64_72057594037927936]
theorem own_z (r : Int64) : r = 0 ↔ r.toInt = 0 := by
  rw [← Int64.toInt_inj]; have : (0 : Int64).toInt = 0 := by decide
  rw [this]
/-- one turn: the loop's value from r on is n + 1 + (that of r / 128), or n -/
theorem own_go : ∀ (k : Nat) (n : Int32) (r : Int64), 0 ≤ r.toInt → r.toInt < 128 ^ k → f1_7 (k + 1) n r = own_len k n r.toInt := by
  intro k
  induction k with
  | zero =>
    intro n r h0 h1
    have : r.toInt = 0 := by omega
    unfold f1_7
    rw [if_pos ((lw_eq _ _).mpr ((own_z r).mpr this))]; rfl
  | succ k ih =>
    intro n r h0 h1
    unfold f1_7
    rw [own_len]
    by_cases hz : r.toInt = 0
    · rw [if_pos ((lw_eq _ _).mpr ((own_z r).mpr hz)), if_pos hz]
    · rw [if_neg (fun q => hz ((own_z r).mp ((lw_eq _ _).mp q))), if_neg hz]
      have nx : ((r.toUInt64 >>> ((7 : Int32) &&& 0x3f).toInt64.toUInt64).toInt64).toInt = r.toInt / 128 := by
        have := c_lushr r 7 7 (by decide) (by decide)
        rw [this]
        have e : r.toInt % 18446744073709551616 = r.toInt := by have := rng64 r; omega
        rw [e]; rfl
      rw [ih _ _ (by rw [nx]; omega) (by rw [nx]; rw [Int.pow_succ] at h1; omega), nx]
theorem own_start (v : Int64) : ((v.toUInt64 >>> ((7 : Int32) &&& 0x3f).toInt64.toUInt64).toInt64).toInt = (v.toInt % 18446744073709551616) / 128 := by
  have := c_lushr v 7 7 (by decide) (by decide); simpa using this
theorem own_F12 (v : Int64) : F1 v = F2 v := by
  have r0 := rng64 v
  have st := own_start v
  have e9 : (128 : Int) ^ 9 = 9223372036854775808 := by decide
  rw [own_F2]
  simp only [F1, f1_0]
  rw [own_go 9 _ _ (by omega) (by rw [e9]; omega), st]
  generalize v.toInt = u at *
  by_cases h : u < 0
  · rw [if_pos h]
    have : u % 18446744073709551616 / 128 = (u + 18446744073709551616) / 128 := by omega
    rw [this]
    have hw : 72057594037927936 ≤ (u + 18446744073709551616) / 128 ∧ (u + 18446744073709551616) / 128 < 144115188075855872 := by omega
    generalize (u + 18446744073709551616) / 128 = w at *
    clear st r0
    simp only [own_len]
    rw [if_neg (by omega : ¬ w = 0), if_neg (by omega : ¬ w / 128 = 0), if_neg (by omega : ¬ w / 128 / 128 = 0), if_neg (by omega : ¬ w / 128 / 128 / 128 = 0), if_neg (by omega : ¬ w / 128 / 128 / 128 / 128 = 0), if_neg (by omega : ¬ w / 128 / 128 / 128 / 128 / 128 = 0), if_neg (by omega : ¬ w / 128 / 128 / 128 / 128 / 128 / 128 = 0), if_neg (by omega : ¬ w / 128 / 128 / 128 / 128 / 128 / 128 / 128 = 0), if_neg (by omega : ¬ w / 128 / 128 / 128 / 128 / 128 / 128 / 128 / 128 = 0)]
    rfl
  · rw [if_neg h]
    have : u % 18446744073709551616 / 128 = u / 128 := by omega
    rw [this]
    clear st
    simp only [own_len]
    have d : ∀ a : Int, a / 128 = 0 ↔ (0 ≤ a ∧ a < 128) := fun a => by omega
    by_cases q1 : u < 128
    · rw [if_pos q1, if_pos (by omega : u / 128 = 0)]
    rw [if_neg q1, if_neg (by omega : ¬ u / 128 = 0)]
    by_cases q2 : u < 16384
    · rw [if_pos q2, if_pos (by omega : u / 128 / 128 = 0)]; rfl
    rw [if_neg q2, if_neg (by omega : ¬ u / 128 / 128 = 0)]
    by_cases q3 : u < 2097152
    · rw [if_pos q3, if_pos (by omega : u / 128 / 128 / 128 = 0)]; rfl
    rw [if_neg q3, if_neg (by omega : ¬ u / 128 / 128 / 128 = 0)]
    by_cases q4 : u < 268435456
    · rw [if_pos q4, if_pos (by omega : u / 128 / 128 / 128 / 128 = 0)]; rfl
    rw [if_neg q4, if_neg (by omega : ¬ u / 128 / 128 / 128 / 128 = 0)]
    by_cases q5 : u < 34359738368
    · rw [if_pos q5, if_pos (by omega : u / 128 / 128 / 128 / 128 / 128 = 0)]; rfl
    rw [if_neg q5, if_neg (by omega : ¬ u / 128 / 128 / 128 / 128 / 128 = 0)]
    by_cases q6 : u < 4398046511104
    · rw [if_pos q6, if_pos (by omega : u / 128 / 128 / 128 / 128 / 128 / 128 = 0)]; rfl
    rw [if_neg q6, if_neg (by omega : ¬ u / 128 / 128 / 128 / 128 / 128 / 128 = 0)]
    by_cases q7 : u < 562949953421312
    · rw [if_pos q7, if_pos (by omega : u / 128 / 128 / 128 / 128 / 128 / 128 / 128 = 0)]; rfl
    rw [if_neg q7, if_neg (by omega : ¬ u / 128 / 128 / 128 / 128 / 128 / 128 / 128 = 0)]
    by_cases q8 : u < 72057594037927936
    · rw [if_pos q8, if_pos (by omega : u / 128 / 128 / 128 / 128 / 128 / 128 / 128 / 128 = 0)]; rfl
    rw [if_neg q8, if_neg (by omega : ¬ u / 128 / 128 / 128 / 128 / 128 / 128 / 128 / 128 = 0), if_pos (by omega : u / 128 / 128 / 128 / 128 / 128 / 128 / 128 / 128 / 128 = 0)]
    rfl
theorem law_true (x0 : Int64) (x1 : Int32) : F0 x0 x1 = 1 := by
  simp only [F0, f0_0, own_F12, if_true]

theorem pd_0 : parseMethodDescriptor "(J)I" = some ⟨[.long], some .int⟩ := by decide +kernel
theorem d1_0 : decode prog_24_method_3_code 0 = .ok (.iconst 1, 1) := by decide +kernel
theorem d1_1 : decode prog_24_method_3_code 1 = .ok (.istore_n 2, 1) := by decide +kernel
theorem d1_2 : decode prog_24_method_3_code 2 = .ok (.lload_n 0, 1) := by decide +kernel
theorem d1_3 : decode prog_24_method_3_code 3 = .ok (.bipush 7, 2) := by decide +kernel
theorem d1_5 : decode prog_24_method_3_code 5 = .ok (.lushr, 1) := by decide +kernel
theorem d1_6 : decode prog_24_method_3_code 6 = .ok (.lstore_n 3, 1) := by decide +kernel
theorem d1_7 : decode prog_24_method_3_code 7 = .ok (.lload_n 3, 1) := by decide +kernel
theorem d1_8 : decode prog_24_method_3_code 8 = .ok (.lconst 0, 1) := by decide +kernel
theorem d1_9 : decode prog_24_method_3_code 9 = .ok (.lcmp, 1) := by decide +kernel
theorem d1_10 : decode prog_24_method_3_code 10 = .ok (.ifCond .eq 14, 3) := by decide +kernel
theorem d1_13 : decode prog_24_method_3_code 13 = .ok (.iinc 2 1, 3) := by decide +kernel
theorem d1_16 : decode prog_24_method_3_code 16 = .ok (.lload_n 3, 1) := by decide +kernel
theorem d1_17 : decode prog_24_method_3_code 17 = .ok (.bipush 7, 2) := by decide +kernel
theorem d1_19 : decode prog_24_method_3_code 19 = .ok (.lushr, 1) := by decide +kernel
theorem d1_20 : decode prog_24_method_3_code 20 = .ok (.lstore_n 3, 1) := by decide +kernel
theorem d1_21 : decode prog_24_method_3_code 21 = .ok (.goto (-14), 3) := by decide +kernel
theorem d1_24 : decode prog_24_method_3_code 24 = .ok (.iload_n 2, 1) := by decide +kernel
theorem d1_25 : decode prog_24_method_3_code 25 = .ok (.ireturn, 1) := by decide +kernel
theorem pn_1 : plainName "com/example/caddis/caddis/index/IndexFormat" = true := by first | (simp [plainName, overriddenIn]; done) | decide +kernel
theorem ef_1 (m : MethodId) (x0 : Int64) : entryFrame m #[(.long x0)] 5 = mkF m 0 #[.val (.long x0), .second, .unset, .unset, .unset] [] := by first | (simp [entryFrame, mkF, argsToLocals, Value.category]; done) | rfl
set_option maxRecDepth 65536 in
set_option maxHeartbeats 40000000 in
theorem rm1 (l : Launch) (Z : State) (a0 : Array Value) (hw : ∀ d ∈ tables_1, d.before a0 Z = true) (ws : List Jvm.Cond) (x0 : Int64) (h0 : Heap) :
    MetFree l (⟨"com/example/caddis/caddis/index/IndexFormat", "varintLength", "(J)I"⟩ : MethodName) (head1 (Jvm.Cond.code (⟨"com/example/caddis/caddis/index/IndexFormat", "varintLength", "(J)I"⟩ : MethodName) prog_24_method_3_code 5 (some .int) :: ws) ({ frames := 0, cells := 0, slots := 0, locals := 0 } : Room)) (fun a U => a = #[(.long x0)] ∧ Z.Warmed39 U.vm ∧ U.heap = h0) (fun _ _ _ _ _ => True) (fun _ U o U' => ∃ v L, o = .returned v ∧ QP (.int (F1 x0)) h0 v U'.heap L ∧ FrameEnd U o U' L ({ frames := 0, cells := 0, slots := 0, locals := 0 } : Room).cells ({ frames := 0, cells := 0, slots := 0, locals := 0 } : Room).slots) := by
  refine MetFree.of_bodySF (plainFor_of_name pn_1) hisR ?_
  intro p e s m args below meth c s₁ Bd hml0 hP hK
  obtain ⟨rfl, hZ, hh⟩ := hP
  have hx := Bd.exec
  have hby := Bd.bytes
  have hml : c.maxLocals = 5 := hml0
  have hown : s.vm.findClass "com/example/caddis/caddis/index/IndexFormat" = some m.cls := findClass_of_methodNamed Bd.named
  have X0 : Stand p l e ({ frames := 0, cells := 0, slots := 0, locals := 0 } : Room) s m #[(.long x0)] below meth c s₁ [] 0 0 := Stand.of_body Bd
  have e0 : s₁.heap = h0 := by rw [← hh, Bd.state]; rfl
  show Runs p e below s (QP (.int (F1 x0)) h0) ({ frames := 0, cells := 0, slots := 0, locals := 0 } : Room).cells ({ frames := 0, cells := 0, slots := 0, locals := 0 } : Room).slots (s₁.setTop (entryFrame m #[(.long x0)] 5))
  rw [ef_1 m x0]
  obtain ⟨r, hF⟩ : ∃ r, F1 x0 = r := ⟨_, rfl⟩
  rw [hF]
  have k_7 : ∀ (k : Nat) (T : State) (X : Stand p l e ({ frames := 0, cells := 0, slots := 0, locals := 0 } : Room) s m #[(.long x0)] below meth c T [] 0 0) (eT : T.heap = h0) (v0 : Int64) (v2 : Int32) (v3 : Int64) (hI : LInv k v3), f1_7 k v2 v3 = r → Runs p e below s (QP (.int r) h0) ({ frames := 0, cells := 0, slots := 0, locals := 0 } : Room).cells ({ frames := 0, cells := 0, slots := 0, locals := 0 } : Room).slots (T.setTop (mkF m 7 #[.val (.long v0), .second, .val (.int v2), .val (.long v3), .second] [])) := by
    intro k; induction k with
    | zero => intro T X eT v0 v2 v3 hI hv; exact absurd hI LInv.zero
    | succ k ih =>
      intro T X eT v0 v2 v3 hI hv
      unfold f1_7 at hv
      refine Runs.go (fun _ => XS.lloadN X.here hx rfl (hb hby d1_7) rfl) ?_
      show Runs p e below s _ _ _ (T.setTop (mkF m 8 #[.val (.long v0), .second, .val (.int v2), .val (.long v3), .second] [(.long v3)]))
      refine Runs.go (fun _ => XS.lconst X.here hx rfl (hb hby d1_8)) ?_
      show Runs p e below s _ _ _ (T.setTop (mkF m 9 #[.val (.long v0), .second, .val (.int v2), .val (.long v3), .second] [(.long (0 : Int64)), (.long v3)]))
      refine Runs.go (fun _ => XS.lcmp X.here hx rfl (hb hby d1_9) rfl) ?_
      show Runs p e below s _ _ _ (T.setTop (mkF m 10 #[.val (.long v0), .second, .val (.int v2), .val (.long v3), .second] [(.int (lcmpW v3 (0 : Int64)))]))
      by_cases hc10 : (lcmpW v3 (0 : Int64)) = (0 : Int32)
      · have hv := (if_pos hc10).symm.trans hv
        refine Runs.go (fun _ => XS.ifYes X.here hx rfl (pc0 := 10) (pc' := 24) rfl (hb hby d1_10) rfl ((if0 _ _).trans (teq hc10).1) (by decide) (by decide)) ?_
        show Runs p e below s _ _ _ (T.setTop (mkF m 24 #[.val (.long v0), .second, .val (.int v2), .val (.long v3), .second] []))
        refine Runs.go (fun _ => XS.iloadN X.here hx rfl (hb hby d1_24) rfl) ?_
        show Runs p e below s _ _ _ (T.setTop (mkF m 25 #[.val (.long v0), .second, .val (.int v2), .val (.long v3), .second] [(.int v2)]))
        exact Runs.endI X hx Bd.returns Bd.notSynchronized (hb hby d1_25) ⟨congrArg (fun z => some (Value.int z)) hv, rfl, eT⟩ (by decide) (by decide)
      · have hv := (if_neg hc10).symm.trans hv
        refine Runs.go (fun _ => XS.ifNo X.here hx rfl (hb hby d1_10) rfl ((if0 _ _).trans (feq hc10).1)) ?_
        show Runs p e below s _ _ _ (T.setTop (mkF m 13 #[.val (.long v0), .second, .val (.int v2), .val (.long v3), .second] []))
        refine Runs.go (fun _ => XS.iinc X.here hx rfl (hb hby d1_13) rfl (l' := #[.val (.long v0), .second, .val (.int (v2 + (1 : Int32))), .val (.long v3), .second]) rfl) ?_
        show Runs p e below s _ _ _ (T.setTop (mkF m 16 #[.val (.long v0), .second, .val (.int (v2 + (1 : Int32))), .val (.long v3), .second] []))
        refine Runs.go (fun _ => XS.lloadN X.here hx rfl (hb hby d1_16) rfl) ?_
        show Runs p e below s _ _ _ (T.setTop (mkF m 17 #[.val (.long v0), .second, .val (.int (v2 + (1 : Int32))), .val (.long v3), .second] [(.long v3)]))
        refine Runs.go (fun _ => XS.bipush X.here hx rfl (hb hby d1_17)) ?_
        show Runs p e below s _ _ _ (T.setTop (mkF m 19 #[.val (.long v0), .second, .val (.int (v2 + (1 : Int32))), .val (.long v3), .second] [(.int (7 : Int32)), (.long v3)]))
        refine Runs.go (fun _ => XS.lushr X.here hx rfl (hb hby d1_19) rfl) ?_
        show Runs p e below s _ _ _ (T.setTop (mkF m 20 #[.val (.long v0), .second, .val (.int (v2 + (1 : Int32))), .val (.long v3), .second] [(.long ((v3.toUInt64 >>> ((7 : Int32) &&& 0x3f).toInt64.toUInt64).toInt64))]))
        refine Runs.go (fun _ => XS.lstoreN X.here hx rfl (hb hby d1_20) rfl (l' := #[.val (.long v0), .second, .val (.int (v2 + (1 : Int32))), .val (.long ((v3.toUInt64 >>> ((7 : Int32) &&& 0x3f).toInt64.toUInt64).toInt64)), .second]) rfl) ?_
        show Runs p e below s _ _ _ (T.setTop (mkF m 21 #[.val (.long v0), .second, .val (.int (v2 + (1 : Int32))), .val (.long ((v3.toUInt64 >>> ((7 : Int32) &&& 0x3f).toInt64.toUInt64).toInt64)), .second] []))
        refine Runs.go (fun _ => XS.goto X.here hx rfl (pc0 := 21) (pc' := 7) rfl (hb hby d1_21) (by decide) (by decide)) ?_
        show Runs p e below s _ _ _ (T.setTop (mkF m 7 #[.val (.long v0), .second, .val (.int (v2 + (1 : Int32))), .val (.long ((v3.toUInt64 >>> ((7 : Int32) &&& 0x3f).toInt64.toUInt64).toInt64)), .second] []))
        exact ih _ X eT v0 (v2 + (1 : Int32)) ((v3.toUInt64 >>> ((7 : Int32) &&& 0x3f).toInt64.toUInt64).toInt64) (LInv.step hI (fun q => hc10 ((lw_eq _ _).mpr q))) hv
  have k_0 : ∀ (T : State) (X : Stand p l e ({ frames := 0, cells := 0, slots := 0, locals := 0 } : Room) s m #[(.long x0)] below meth c T [] 0 0) (eT : T.heap = h0), f1_0 x0 = r → Runs p e below s (QP (.int r) h0) ({ frames := 0, cells := 0, slots := 0, locals := 0 } : Room).cells ({ frames := 0, cells := 0, slots := 0, locals := 0 } : Room).slots (T.setTop (mkF m 0 #[.val (.long x0), .second, .unset, .unset, .unset] [])) := by
    intro T X eT  hv
    unfold f1_0 at hv
    refine Runs.go (fun _ => XS.iconst X.here hx rfl (hb hby d1_0)) ?_
    show Runs p e below s _ _ _ (T.setTop (mkF m 1 #[.val (.long x0), .second, .unset, .unset, .unset] [(.int (1 : Int32))]))
    refine Runs.go (fun _ => XS.istoreN X.here hx rfl (hb hby d1_1) rfl (l' := #[.val (.long x0), .second, .val (.int (1 : Int32)), .unset, .unset]) rfl) ?_
    show Runs p e below s _ _ _ (T.setTop (mkF m 2 #[.val (.long x0), .second, .val (.int (1 : Int32)), .unset, .unset] []))
    refine Runs.go (fun _ => XS.lloadN X.here hx rfl (hb hby d1_2) rfl) ?_
    show Runs p e below s _ _ _ (T.setTop (mkF m 3 #[.val (.long x0), .second, .val (.int (1 : Int32)), .unset, .unset] [(.long x0)]))
    refine Runs.go (fun _ => XS.bipush X.here hx rfl (hb hby d1_3)) ?_
    show Runs p e below s _ _ _ (T.setTop (mkF m 5 #[.val (.long x0), .second, .val (.int (1 : Int32)), .unset, .unset] [(.int (7 : Int32)), (.long x0)]))
    refine Runs.go (fun _ => XS.lushr X.here hx rfl (hb hby d1_5) rfl) ?_
    show Runs p e below s _ _ _ (T.setTop (mkF m 6 #[.val (.long x0), .second, .val (.int (1 : Int32)), .unset, .unset] [(.long ((x0.toUInt64 >>> ((7 : Int32) &&& 0x3f).toInt64.toUInt64).toInt64))]))
    refine Runs.go (fun _ => XS.lstoreN X.here hx rfl (hb hby d1_6) rfl (l' := #[.val (.long x0), .second, .val (.int (1 : Int32)), .val (.long ((x0.toUInt64 >>> ((7 : Int32) &&& 0x3f).toInt64.toUInt64).toInt64)), .second]) rfl) ?_
    show Runs p e below s _ _ _ (T.setTop (mkF m 7 #[.val (.long x0), .second, .val (.int (1 : Int32)), .val (.long ((x0.toUInt64 >>> ((7 : Int32) &&& 0x3f).toInt64.toUInt64).toInt64)), .second] []))
    exact k_7 10 _ X eT x0 (1 : Int32) ((x0.toUInt64 >>> ((7 : Int32) &&& 0x3f).toInt64.toUInt64).toInt64) (LInv.start _) hv
  exact k_0 _ X0 e0 hF
theorem d2_0 : decode method_2_code 0 = .ok (.lload_n 0, 1) := by decide +kernel
theorem d2_1 : decode method_2_code 1 = .ok (.lconst 0, 1) := by decide +kernel
theorem d2_2 : decode method_2_code 2 = .ok (.lcmp, 1) := by decide +kernel
theorem d2_3 : decode method_2_code 3 = .ok (.ifCond .ge 6, 3) := by decide +kernel
theorem d2_6 : decode method_2_code 6 = .ok (.bipush 10, 2) := by decide +kernel
theorem d2_8 : decode method_2_code 8 = .ok (.ireturn, 1) := by decide +kernel
theorem d2_9 : decode method_2_code 9 = .ok (.lload_n 0, 1) := by decide +kernel
theorem d2_10 : decode method_2_code 10 = .ok (.ldc2_w 7, 3) := by decide +kernel
theorem d2_13 : decode method_2_code 13 = .ok (.lcmp, 1) := by decide +kernel
theorem d2_14 : decode method_2_code 14 = .ok (.ifCond .ge 5, 3) := by decide +kernel
theorem d2_17 : decode method_2_code 17 = .ok (.iconst 1, 1) := by decide +kernel
theorem d2_18 : decode method_2_code 18 = .ok (.ireturn, 1) := by decide +kernel
theorem d2_19 : decode method_2_code 19 = .ok (.lload_n 0, 1) := by decide +kernel
theorem d2_20 : decode method_2_code 20 = .ok (.ldc2_w 9, 3) := by decide +kernel
theorem d2_23 : decode method_2_code 23 = .ok (.lcmp, 1) := by decide +kernel
theorem d2_24 : decode method_2_code 24 = .ok (.ifCond .ge 5, 3) := by decide +kernel
theorem d2_27 : decode method_2_code 27 = .ok (.iconst 2, 1) := by decide +kernel
theorem d2_28 : decode method_2_code 28 = .ok (.ireturn, 1) := by decide +kernel
theorem d2_29 : decode method_2_code 29 = .ok (.lload_n 0, 1) := by decide +kernel
theorem d2_30 : decode method_2_code 30 = .ok (.ldc2_w 11, 3) := by decide +kernel
theorem d2_33 : decode method_2_code 33 = .ok (.lcmp, 1) := by decide +kernel
theorem d2_34 : decode method_2_code 34 = .ok (.ifCond .ge 5, 3) := by decide +kernel
theorem d2_37 : decode method_2_code 37 = .ok (.iconst 3, 1) := by decide +kernel
theorem d2_38 : decode method_2_code 38 = .ok (.ireturn, 1) := by decide +kernel
theorem d2_39 : decode method_2_code 39 = .ok (.lload_n 0, 1) := by decide +kernel
theorem d2_40 : decode method_2_code 40 = .ok (.ldc2_w 13, 3) := by decide +kernel
theorem d2_43 : decode method_2_code 43 = .ok (.lcmp, 1) := by decide +kernel
theorem d2_44 : decode method_2_code 44 = .ok (.ifCond .ge 5, 3) := by decide +kernel
theorem d2_47 : decode method_2_code 47 = .ok (.iconst 4, 1) := by decide +kernel
theorem d2_48 : decode method_2_code 48 = .ok (.ireturn, 1) := by decide +kernel
theorem d2_49 : decode method_2_code 49 = .ok (.lload_n 0, 1) := by decide +kernel
theorem d2_50 : decode method_2_code 50 = .ok (.ldc2_w 15, 3) := by decide +kernel
theorem d2_53 : decode method_2_code 53 = .ok (.lcmp, 1) := by decide +kernel
theorem d2_54 : decode method_2_code 54 = .ok (.ifCond .ge 5, 3) := by decide +kernel
theorem d2_57 : decode method_2_code 57 = .ok (.iconst 5, 1) := by decide +kernel
theorem d2_58 : decode method_2_code 58 = .ok (.ireturn, 1) := by decide +kernel
theorem d2_59 : decode method_2_code 59 = .ok (.lload_n 0, 1) := by decide +kernel
theorem d2_60 : decode method_2_code 60 = .ok (.ldc2_w 17, 3) := by decide +kernel
theorem d2_63 : decode method_2_code 63 = .ok (.lcmp, 1) := by decide +kernel
theorem d2_64 : decode method_2_code 64 = .ok (.ifCond .ge 6, 3) := by decide +kernel
theorem d2_67 : decode method_2_code 67 = .ok (.bipush 6, 2) := by decide +kernel
theorem d2_69 : decode method_2_code 69 = .ok (.ireturn, 1) := by decide +kernel
theorem d2_70 : decode method_2_code 70 = .ok (.lload_n 0, 1) := by decide +kernel
theorem d2_71 : decode method_2_code 71 = .ok (.ldc2_w 19, 3) := by decide +kernel
theorem d2_74 : decode method_2_code 74 = .ok (.lcmp, 1) := by decide +kernel
theorem d2_75 : decode method_2_code 75 = .ok (.ifCond .ge 6, 3) := by decide +kernel
theorem d2_78 : decode method_2_code 78 = .ok (.bipush 7, 2) := by decide +kernel
theorem d2_80 : decode method_2_code 80 = .ok (.ireturn, 1) := by decide +kernel
theorem d2_81 : decode method_2_code 81 = .ok (.lload_n 0, 1) := by decide +kernel
theorem d2_82 : decode method_2_code 82 = .ok (.ldc2_w 21, 3) := by decide +kernel
theorem d2_85 : decode method_2_code 85 = .ok (.lcmp, 1) := by decide +kernel
theorem d2_86 : decode method_2_code 86 = .ok (.ifCond .ge 6, 3) := by decide +kernel
theorem d2_89 : decode method_2_code 89 = .ok (.bipush 8, 2) := by decide +kernel
theorem d2_91 : decode method_2_code 91 = .ok (.ireturn, 1) := by decide +kernel
theorem d2_92 : decode method_2_code 92 = .ok (.bipush 9, 2) := by decide +kernel
theorem d2_94 : decode method_2_code 94 = .ok (.ireturn, 1) := by decide +kernel
theorem pn_2 : plainName "com/example/caddis/caddis/index/IndexFormatVarintLengthPinLaw" = true := by first | (simp [plainName, overriddenIn]; done) | decide +kernel
theorem ef_2 (m : MethodId) (x0 : Int64) : entryFrame m #[(.long x0)] 2 = mkF m 0 #[.val (.long x0), .second] [] := by first | (simp [entryFrame, mkF, argsToLocals, Value.category]; done) | rfl
set_option maxRecDepth 65536 in
set_option maxHeartbeats 40000000 in
theorem rm2 (l : Launch) (Z : State) (a0 : Array Value) (hw : ∀ d ∈ tables_1, d.before a0 Z = true) (ws : List Jvm.Cond) (x0 : Int64) (h0 : Heap) :
    MetFree l (⟨"com/example/caddis/caddis/index/IndexFormatVarintLengthPinLaw", "expected", "(J)I"⟩ : MethodName) (head1 (Jvm.Cond.code (⟨"com/example/caddis/caddis/index/IndexFormatVarintLengthPinLaw", "expected", "(J)I"⟩ : MethodName) method_2_code 2 (some .int) :: ws) ({ frames := 0, cells := 0, slots := 0, locals := 0 } : Room)) (fun a U => a = #[(.long x0)] ∧ Z.Warmed39 U.vm ∧ U.heap = h0) (fun _ _ _ _ _ => True) (fun _ U o U' => ∃ v L, o = .returned v ∧ QP (.int (F2 x0)) h0 v U'.heap L ∧ FrameEnd U o U' L ({ frames := 0, cells := 0, slots := 0, locals := 0 } : Room).cells ({ frames := 0, cells := 0, slots := 0, locals := 0 } : Room).slots) := by
  refine MetFree.of_bodySF (plainFor_of_name pn_2) hisR ?_
  intro p e s m args below meth c s₁ Bd hml0 hP hK
  obtain ⟨rfl, hZ, hh⟩ := hP
  have hx := Bd.exec
  have hby := Bd.bytes
  have hml : c.maxLocals = 2 := hml0
  have hown : s.vm.findClass "com/example/caddis/caddis/index/IndexFormatVarintLengthPinLaw" = some m.cls := findClass_of_methodNamed Bd.named
  have X0 : Stand p l e ({ frames := 0, cells := 0, slots := 0, locals := 0 } : Room) s m #[(.long x0)] below meth c s₁ [] 0 0 := Stand.of_body Bd
  have e0 : s₁.heap = h0 := by rw [← hh, Bd.state]; rfl
  show Runs p e below s (QP (.int (F2 x0)) h0) ({ frames := 0, cells := 0, slots := 0, locals := 0 } : Room).cells ({ frames := 0, cells := 0, slots := 0, locals := 0 } : Room).slots (s₁.setTop (entryFrame m #[(.long x0)] 2))
  rw [ef_2 m x0]
  obtain ⟨r, hF⟩ : ∃ r, F2 x0 = r := ⟨_, rfl⟩
  rw [hF]
  have k_0 : ∀ (T : State) (X : Stand p l e ({ frames := 0, cells := 0, slots := 0, locals := 0 } : Room) s m #[(.long x0)] below meth c T [] 0 0) (eT : T.heap = h0), f2_0 x0 = r → Runs p e below s (QP (.int r) h0) ({ frames := 0, cells := 0, slots := 0, locals := 0 } : Room).cells ({ frames := 0, cells := 0, slots := 0, locals := 0 } : Room).slots (T.setTop (mkF m 0 #[.val (.long x0), .second] [])) := by
    intro T X eT  hv
    unfold f2_0 at hv
    refine Runs.go (fun _ => XS.lloadN X.here hx rfl (hb hby d2_0) rfl) ?_
    show Runs p e below s _ _ _ (T.setTop (mkF m 1 #[.val (.long x0), .second] [(.long x0)]))
    refine Runs.go (fun _ => XS.lconst X.here hx rfl (hb hby d2_1)) ?_
    show Runs p e below s _ _ _ (T.setTop (mkF m 2 #[.val (.long x0), .second] [(.long (0 : Int64)), (.long x0)]))
    refine Runs.go (fun _ => XS.lcmp X.here hx rfl (hb hby d2_2) rfl) ?_
    show Runs p e below s _ _ _ (T.setTop (mkF m 3 #[.val (.long x0), .second] [(.int (lcmpW x0 (0 : Int64)))]))
    by_cases hc3 : (lcmpW x0 (0 : Int64)) < (0 : Int32)
    · have hv := (if_pos hc3).symm.trans hv
      refine Runs.go (fun _ => XS.ifNo X.here hx rfl (hb hby d2_3) rfl ((if0 _ _).trans (tlt hc3).2.1)) ?_
      show Runs p e below s _ _ _ (T.setTop (mkF m 6 #[.val (.long x0), .second] []))
      refine Runs.go (fun _ => XS.bipush X.here hx rfl (hb hby d2_6)) ?_
      show Runs p e below s _ _ _ (T.setTop (mkF m 8 #[.val (.long x0), .second] [(.int (10 : Int32))]))
      exact Runs.endI X hx Bd.returns Bd.notSynchronized (hb hby d2_8) ⟨congrArg (fun z => some (Value.int z)) hv, rfl, eT⟩ (by decide) (by decide)
    · have hv := (if_neg hc3).symm.trans hv
      refine Runs.go (fun _ => XS.ifYes X.here hx rfl (pc0 := 3) (pc' := 9) rfl (hb hby d2_3) rfl ((if0 _ _).trans (flt hc3).2.1) (by decide) (by decide)) ?_
      show Runs p e below s _ _ _ (T.setTop (mkF m 9 #[.val (.long x0), .second] []))
      refine Runs.go (fun _ => XS.lloadN X.here hx rfl (hb hby d2_9) rfl) ?_
      show Runs p e below s _ _ _ (T.setTop (mkF m 10 #[.val (.long x0), .second] [(.long x0)]))
      refine Runs.go (X.ldc2Long hx hown (mvT hZ (hw _ (List.mem_of_getElem? (i := 8) rfl))) (g := (mkF m 10 #[.val (.long x0), .second] [(.long x0)])) rfl (hb hby d2_10)) ?_
      show Runs p e below s _ _ _ (T.setTop (mkF m 13 #[.val (.long x0), .second] [(.long (128 : Int64)), (.long x0)]))
      refine Runs.go (fun _ => XS.lcmp X.here hx rfl (hb hby d2_13) rfl) ?_
      show Runs p e below s _ _ _ (T.setTop (mkF m 14 #[.val (.long x0), .second] [(.int (lcmpW x0 (128 : Int64)))]))
      by_cases hc14 : (lcmpW x0 (128 : Int64)) < (0 : Int32)
      · have hv := (if_pos hc14).symm.trans hv
        refine Runs.go (fun _ => XS.ifNo X.here hx rfl (hb hby d2_14) rfl ((if0 _ _).trans (tlt hc14).2.1)) ?_
        show Runs p e below s _ _ _ (T.setTop (mkF m 17 #[.val (.long x0), .second] []))
        refine Runs.go (fun _ => XS.iconst X.here hx rfl (hb hby d2_17)) ?_
        show Runs p e below s _ _ _ (T.setTop (mkF m 18 #[.val (.long x0), .second] [(.int (1 : Int32))]))
        exact Runs.endI X hx Bd.returns Bd.notSynchronized (hb hby d2_18) ⟨congrArg (fun z => some (Value.int z)) hv, rfl, eT⟩ (by decide) (by decide)
      · have hv := (if_neg hc14).symm.trans hv
        refine Runs.go (fun _ => XS.ifYes X.here hx rfl (pc0 := 14) (pc' := 19) rfl (hb hby d2_14) rfl ((if0 _ _).trans (flt hc14).2.1) (by decide) (by decide)) ?_
        show Runs p e below s _ _ _ (T.setTop (mkF m 19 #[.val (.long x0), .second] []))
        refine Runs.go (fun _ => XS.lloadN X.here hx rfl (hb hby d2_19) rfl) ?_
        show Runs p e below s _ _ _ (T.setTop (mkF m 20 #[.val (.long x0), .second] [(.long x0)]))
        refine Runs.go (X.ldc2Long hx hown (mvT hZ (hw _ (List.mem_of_getElem? (i := 9) rfl))) (g := (mkF m 20 #[.val (.long x0), .second] [(.long x0)])) rfl (hb hby d2_20)) ?_
        show Runs p e below s _ _ _ (T.setTop (mkF m 23 #[.val (.long x0), .second] [(.long (16384 : Int64)), (.long x0)]))
        refine Runs.go (fun _ => XS.lcmp X.here hx rfl (hb hby d2_23) rfl) ?_
        show Runs p e below s _ _ _ (T.setTop (mkF m 24 #[.val (.long x0), .second] [(.int (lcmpW x0 (16384 : Int64)))]))
        by_cases hc24 : (lcmpW x0 (16384 : Int64)) < (0 : Int32)
        · have hv := (if_pos hc24).symm.trans hv
          refine Runs.go (fun _ => XS.ifNo X.here hx rfl (hb hby d2_24) rfl ((if0 _ _).trans (tlt hc24).2.1)) ?_
          show Runs p e below s _ _ _ (T.setTop (mkF m 27 #[.val (.long x0), .second] []))
          refine Runs.go (fun _ => XS.iconst X.here hx rfl (hb hby d2_27)) ?_
          show Runs p e below s _ _ _ (T.setTop (mkF m 28 #[.val (.long x0), .second] [(.int (2 : Int32))]))
          exact Runs.endI X hx Bd.returns Bd.notSynchronized (hb hby d2_28) ⟨congrArg (fun z => some (Value.int z)) hv, rfl, eT⟩ (by decide) (by decide)
        · have hv := (if_neg hc24).symm.trans hv
          refine Runs.go (fun _ => XS.ifYes X.here hx rfl (pc0 := 24) (pc' := 29) rfl (hb hby d2_24) rfl ((if0 _ _).trans (flt hc24).2.1) (by decide) (by decide)) ?_
          show Runs p e below s _ _ _ (T.setTop (mkF m 29 #[.val (.long x0), .second] []))
          refine Runs.go (fun _ => XS.lloadN X.here hx rfl (hb hby d2_29) rfl) ?_
          show Runs p e below s _ _ _ (T.setTop (mkF m 30 #[.val (.long x0), .second] [(.long x0)]))
          refine Runs.go (X.ldc2Long hx hown (mvT hZ (hw _ (List.mem_of_getElem? (i := 10) rfl))) (g := (mkF m 30 #[.val (.long x0), .second] [(.long x0)])) rfl (hb hby d2_30)) ?_
          show Runs p e below s _ _ _ (T.setTop (mkF m 33 #[.val (.long x0), .second] [(.long (2097152 : Int64)), (.long x0)]))
          refine Runs.go (fun _ => XS.lcmp X.here hx rfl (hb hby d2_33) rfl) ?_
          show Runs p e below s _ _ _ (T.setTop (mkF m 34 #[.val (.long x0), .second] [(.int (lcmpW x0 (2097152 : Int64)))]))
          by_cases hc34 : (lcmpW x0 (2097152 : Int64)) < (0 : Int32)
          · have hv := (if_pos hc34).symm.trans hv
            refine Runs.go (fun _ => XS.ifNo X.here hx rfl (hb hby d2_34) rfl ((if0 _ _).trans (tlt hc34).2.1)) ?_
            show Runs p e below s _ _ _ (T.setTop (mkF m 37 #[.val (.long x0), .second] []))
            refine Runs.go (fun _ => XS.iconst X.here hx rfl (hb hby d2_37)) ?_
            show Runs p e below s _ _ _ (T.setTop (mkF m 38 #[.val (.long x0), .second] [(.int (3 : Int32))]))
            exact Runs.endI X hx Bd.returns Bd.notSynchronized (hb hby d2_38) ⟨congrArg (fun z => some (Value.int z)) hv, rfl, eT⟩ (by decide) (by decide)
          · have hv := (if_neg hc34).symm.trans hv
            refine Runs.go (fun _ => XS.ifYes X.here hx rfl (pc0 := 34) (pc' := 39) rfl (hb hby d2_34) rfl ((if0 _ _).trans (flt hc34).2.1) (by decide) (by decide)) ?_
            show Runs p e below s _ _ _ (T.setTop (mkF m 39 #[.val (.long x0), .second] []))
            refine Runs.go (fun _ => XS.lloadN X.here hx rfl (hb hby d2_39) rfl) ?_
            show Runs p e below s _ _ _ (T.setTop (mkF m 40 #[.val (.long x0), .second] [(.long x0)]))
            refine Runs.go (X.ldc2Long hx hown (mvT hZ (hw _ (List.mem_of_getElem? (i := 11) rfl))) (g := (mkF m 40 #[.val (.long x0), .second] [(.long x0)])) rfl (hb hby d2_40)) ?_
            show Runs p e below s _ _ _ (T.setTop (mkF m 43 #[.val (.long x0), .second] [(.long (268435456 : Int64)), (.long x0)]))
            refine Runs.go (fun _ => XS.lcmp X.here hx rfl (hb hby d2_43) rfl) ?_
            show Runs p e below s _ _ _ (T.setTop (mkF m 44 #[.val (.long x0), .second] [(.int (lcmpW x0 (268435456 : Int64)))]))
            by_cases hc44 : (lcmpW x0 (268435456 : Int64)) < (0 : Int32)
            · have hv := (if_pos hc44).symm.trans hv
              refine Runs.go (fun _ => XS.ifNo X.here hx rfl (hb hby d2_44) rfl ((if0 _ _).trans (tlt hc44).2.1)) ?_
              show Runs p e below s _ _ _ (T.setTop (mkF m 47 #[.val (.long x0), .second] []))
              refine Runs.go (fun _ => XS.iconst X.here hx rfl (hb hby d2_47)) ?_
              show Runs p e below s _ _ _ (T.setTop (mkF m 48 #[.val (.long x0), .second] [(.int (4 : Int32))]))
              exact Runs.endI X hx Bd.returns Bd.notSynchronized (hb hby d2_48) ⟨congrArg (fun z => some (Value.int z)) hv, rfl, eT⟩ (by decide) (by decide)
            · have hv := (if_neg hc44).symm.trans hv
              refine Runs.go (fun _ => XS.ifYes X.here hx rfl (pc0 := 44) (pc' := 49) rfl (hb hby d2_44) rfl ((if0 _ _).trans (flt hc44).2.1) (by decide) (by decide)) ?_
              show Runs p e below s _ _ _ (T.setTop (mkF m 49 #[.val (.long x0), .second] []))
              refine Runs.go (fun _ => XS.lloadN X.here hx rfl (hb hby d2_49) rfl) ?_
              show Runs p e below s _ _ _ (T.setTop (mkF m 50 #[.val (.long x0), .second] [(.long x0)]))
              refine Runs.go (X.ldc2Long hx hown (mvT hZ (hw _ (List.mem_of_getElem? (i := 12) rfl))) (g := (mkF m 50 #[.val (.long x0), .second] [(.long x0)])) rfl (hb hby d2_50)) ?_
              show Runs p e below s _ _ _ (T.setTop (mkF m 53 #[.val (.long x0), .second] [(.long (34359738368 : Int64)), (.long x0)]))
              refine Runs.go (fun _ => XS.lcmp X.here hx rfl (hb hby d2_53) rfl) ?_
              show Runs p e below s _ _ _ (T.setTop (mkF m 54 #[.val (.long x0), .second] [(.int (lcmpW x0 (34359738368 : Int64)))]))
              by_cases hc54 : (lcmpW x0 (34359738368 : Int64)) < (0 : Int32)
              · have hv := (if_pos hc54).symm.trans hv
                refine Runs.go (fun _ => XS.ifNo X.here hx rfl (hb hby d2_54) rfl ((if0 _ _).trans (tlt hc54).2.1)) ?_
                show Runs p e below s _ _ _ (T.setTop (mkF m 57 #[.val (.long x0), .second] []))
                refine Runs.go (fun _ => XS.iconst X.here hx rfl (hb hby d2_57)) ?_
                show Runs p e below s _ _ _ (T.setTop (mkF m 58 #[.val (.long x0), .second] [(.int (5 : Int32))]))
                exact Runs.endI X hx Bd.returns Bd.notSynchronized (hb hby d2_58) ⟨congrArg (fun z => some (Value.int z)) hv, rfl, eT⟩ (by decide) (by decide)
              · have hv := (if_neg hc54).symm.trans hv
                refine Runs.go (fun _ => XS.ifYes X.here hx rfl (pc0 := 54) (pc' := 59) rfl (hb hby d2_54) rfl ((if0 _ _).trans (flt hc54).2.1) (by decide) (by decide)) ?_
                show Runs p e below s _ _ _ (T.setTop (mkF m 59 #[.val (.long x0), .second] []))
                refine Runs.go (fun _ => XS.lloadN X.here hx rfl (hb hby d2_59) rfl) ?_
                show Runs p e below s _ _ _ (T.setTop (mkF m 60 #[.val (.long x0), .second] [(.long x0)]))
                refine Runs.go (X.ldc2Long hx hown (mvT hZ (hw _ (List.mem_of_getElem? (i := 13) rfl))) (g := (mkF m 60 #[.val (.long x0), .second] [(.long x0)])) rfl (hb hby d2_60)) ?_
                show Runs p e below s _ _ _ (T.setTop (mkF m 63 #[.val (.long x0), .second] [(.long (4398046511104 : Int64)), (.long x0)]))
                refine Runs.go (fun _ => XS.lcmp X.here hx rfl (hb hby d2_63) rfl) ?_
                show Runs p e below s _ _ _ (T.setTop (mkF m 64 #[.val (.long x0), .second] [(.int (lcmpW x0 (4398046511104 : Int64)))]))
                by_cases hc64 : (lcmpW x0 (4398046511104 : Int64)) < (0 : Int32)
                · have hv := (if_pos hc64).symm.trans hv
                  refine Runs.go (fun _ => XS.ifNo X.here hx rfl (hb hby d2_64) rfl ((if0 _ _).trans (tlt hc64).2.1)) ?_
                  show Runs p e below s _ _ _ (T.setTop (mkF m 67 #[.val (.long x0), .second] []))
                  refine Runs.go (fun _ => XS.bipush X.here hx rfl (hb hby d2_67)) ?_
                  show Runs p e below s _ _ _ (T.setTop (mkF m 69 #[.val (.long x0), .second] [(.int (6 : Int32))]))
                  exact Runs.endI X hx Bd.returns Bd.notSynchronized (hb hby d2_69) ⟨congrArg (fun z => some (Value.int z)) hv, rfl, eT⟩ (by decide) (by decide)
                · have hv := (if_neg hc64).symm.trans hv
                  refine Runs.go (fun _ => XS.ifYes X.here hx rfl (pc0 := 64) (pc' := 70) rfl (hb hby d2_64) rfl ((if0 _ _).trans (flt hc64).2.1) (by decide) (by decide)) ?_
                  show Runs p e below s _ _ _ (T.setTop (mkF m 70 #[.val (.long x0), .second] []))
                  refine Runs.go (fun _ => XS.lloadN X.here hx rfl (hb hby d2_70) rfl) ?_
                  show Runs p e below s _ _ _ (T.setTop (mkF m 71 #[.val (.long x0), .second] [(.long x0)]))
                  refine Runs.go (X.ldc2Long hx hown (mvT hZ (hw _ (List.mem_of_getElem? (i := 14) rfl))) (g := (mkF m 71 #[.val (.long x0), .second] [(.long x0)])) rfl (hb hby d2_71)) ?_
                  show Runs p e below s _ _ _ (T.setTop (mkF m 74 #[.val (.long x0), .second] [(.long (562949953421312 : Int64)), (.long x0)]))
                  refine Runs.go (fun _ => XS.lcmp X.here hx rfl (hb hby d2_74) rfl) ?_
                  show Runs p e below s _ _ _ (T.setTop (mkF m 75 #[.val (.long x0), .second] [(.int (lcmpW x0 (562949953421312 : Int64)))]))
                  by_cases hc75 : (lcmpW x0 (562949953421312 : Int64)) < (0 : Int32)
                  · have hv := (if_pos hc75).symm.trans hv
                    refine Runs.go (fun _ => XS.ifNo X.here hx rfl (hb hby d2_75) rfl ((if0 _ _).trans (tlt hc75).2.1)) ?_
                    show Runs p e below s _ _ _ (T.setTop (mkF m 78 #[.val (.long x0), .second] []))
                    refine Runs.go (fun _ => XS.bipush X.here hx rfl (hb hby d2_78)) ?_
                    show Runs p e below s _ _ _ (T.setTop (mkF m 80 #[.val (.long x0), .second] [(.int (7 : Int32))]))
                    exact Runs.endI X hx Bd.returns Bd.notSynchronized (hb hby d2_80) ⟨congrArg (fun z => some (Value.int z)) hv, rfl, eT⟩ (by decide) (by decide)
                  · have hv := (if_neg hc75).symm.trans hv
                    refine Runs.go (fun _ => XS.ifYes X.here hx rfl (pc0 := 75) (pc' := 81) rfl (hb hby d2_75) rfl ((if0 _ _).trans (flt hc75).2.1) (by decide) (by decide)) ?_
                    show Runs p e below s _ _ _ (T.setTop (mkF m 81 #[.val (.long x0), .second] []))
                    refine Runs.go (fun _ => XS.lloadN X.here hx rfl (hb hby d2_81) rfl) ?_
                    show Runs p e below s _ _ _ (T.setTop (mkF m 82 #[.val (.long x0), .second] [(.long x0)]))
                    refine Runs.go (X.ldc2Long hx hown (mvT hZ (hw _ (List.mem_of_getElem? (i := 15) rfl))) (g := (mkF m 82 #[.val (.long x0), .second] [(.long x0)])) rfl (hb hby d2_82)) ?_
                    show Runs p e below s _ _ _ (T.setTop (mkF m 85 #[.val (.long x0), .second] [(.long (72057594037927936 : Int64)), (.long x0)]))
                    refine Runs.go (fun _ => XS.lcmp X.here hx rfl (hb hby d2_85) rfl) ?_
                    show Runs p e below s _ _ _ (T.setTop (mkF m 86 #[.val (.long x0), .second] [(.int (lcmpW x0 (72057594037927936 : Int64)))]))
                    by_cases hc86 : (lcmpW x0 (72057594037927936 : Int64)) < (0 : Int32)
                    · have hv := (if_pos hc86).symm.trans hv
                      refine Runs.go (fun _ => XS.ifNo X.here hx rfl (hb hby d2_86) rfl ((if0 _ _).trans (tlt hc86).2.1)) ?_
                      show Runs p e below s _ _ _ (T.setTop (mkF m 89 #[.val (.long x0), .second] []))
                      refine Runs.go (fun _ => XS.bipush X.here hx rfl (hb hby d2_89)) ?_
                      show Runs p e below s _ _ _ (T.setTop (mkF m 91 #[.val (.long x0), .second] [(.int (8 : Int32))]))
                      exact Runs.endI X hx Bd.returns Bd.notSynchronized (hb hby d2_91) ⟨congrArg (fun z => some (Value.int z)) hv, rfl, eT⟩ (by decide) (by decide)
                    · have hv := (if_neg hc86).symm.trans hv
                      refine Runs.go (fun _ => XS.ifYes X.here hx rfl (pc0 := 86) (pc' := 92) rfl (hb hby d2_86) rfl ((if0 _ _).trans (flt hc86).2.1) (by decide) (by decide)) ?_
                      show Runs p e below s _ _ _ (T.setTop (mkF m 92 #[.val (.long x0), .second] []))
                      refine Runs.go (fun _ => XS.bipush X.here hx rfl (hb hby d2_92)) ?_
                      show Runs p e below s _ _ _ (T.setTop (mkF m 94 #[.val (.long x0), .second] [(.int (9 : Int32))]))
                      exact Runs.endI X hx Bd.returns Bd.notSynchronized (hb hby d2_94) ⟨congrArg (fun z => some (Value.int z)) hv, rfl, eT⟩ (by decide) (by decide)
  exact k_0 _ X0 e0 hF
theorem pn_0 : plainName "com/example/caddis/caddis/index/IndexFormatVarintLengthPinLaw" = true := by first | (simp [plainName, overriddenIn]; done) | decide +kernel
theorem ef_0 (m : MethodId) (x0 : Int64) (x1 : Int32) : entryFrame m #[(.long x0), (.int x1)] maxLocals = mkF m 0 #[.val (.long x0), .second, .val (.int x1), .unset, .unset, .unset] [] := by first | (simp [entryFrame, mkF, argsToLocals, Value.category, maxLocals]; done) | rfl
set_option maxRecDepth 65536 in
set_option maxHeartbeats 40000000 in
theorem rm0 (l : Launch) (Z : State) (a0 : Array Value) (hw : ∀ d ∈ tables_1, d.before a0 Z = true) (ws : List Jvm.Cond) (x0 : Int64) (x1 : Int32) (h0 : Heap) :
    MetFree l x (head1 (Jvm.Cond.code x code maxLocals ret :: ws) room_1) (fun a U => a = #[(.long x0), (.int x1)] ∧ Z.Warmed39 U.vm ∧ U.heap = h0) (fun _ _ _ _ _ => True) (fun _ U o U' => ∃ v L, o = .returned v ∧ QP (.int (F0 x0 x1)) h0 v U'.heap L ∧ FrameEnd U o U' L 0 0) := by
  refine MetFree.of_bodySF (plainFor_of_name pn_0) hisR ?_
  intro p e s m args below meth c s₁ Bd hml0 hP hK
  obtain ⟨rfl, hZ, hh⟩ := hP
  have hx := Bd.exec
  have hby := Bd.bytes
  have hml : c.maxLocals = 6 := hml0
  have hown : s.vm.findClass "com/example/caddis/caddis/index/IndexFormatVarintLengthPinLaw" = some m.cls := findClass_of_methodNamed Bd.named
  have X0 : Stand p l e room_1 s m #[(.long x0), (.int x1)] below meth c s₁ [] 0 0 := Stand.of_body Bd
  have e0 : s₁.heap = h0 := by rw [← hh, Bd.state]; rfl
  show Runs p e below s (QP (.int (F0 x0 x1)) h0) 0 0 (s₁.setTop (entryFrame m #[(.long x0), (.int x1)] maxLocals))
  rw [ef_0 m x0 x1]
  obtain ⟨r, hF⟩ : ∃ r, F0 x0 x1 = r := ⟨_, rfl⟩
  rw [hF]
  have k_0 : ∀ (T : State) (X : Stand p l e room_1 s m #[(.long x0), (.int x1)] below meth c T [] 0 0) (eT : T.heap = h0), f0_0 x0 x1 = r → Runs p e below s (QP (.int r) h0) 0 0 (T.setTop (mkF m 0 #[.val (.long x0), .second, .val (.int x1), .unset, .unset, .unset] [])) := by
    intro T X eT  hv
    unfold f0_0 at hv
    refine Runs.go (fun _ => XS.lloadN X.here hx rfl (hb hby at_0) rfl) ?_
    show Runs p e below s _ _ _ (T.setTop (mkF m 1 #[.val (.long x0), .second, .val (.int x1), .unset, .unset, .unset] [(.long x0)]))
    refine Runs.go (fun _ => XS.iloadN X.here hx rfl (hb hby at_1) rfl) ?_
    show Runs p e below s _ _ _ (T.setTop (mkF m 2 #[.val (.long x0), .second, .val (.int x1), .unset, .unset, .unset] [(.int x1), (.long x0)]))
    refine Runs.go (fun _ => XS.bipush X.here hx rfl (hb hby at_2)) ?_
    show Runs p e below s _ _ _ (T.setTop (mkF m 4 #[.val (.long x0), .second, .val (.int x1), .unset, .unset, .unset] [(.int (63 : Int32)), (.int x1), (.long x0)]))
    refine Runs.go (fun _ => XS.iand X.here hx rfl (hb hby at_4) rfl) ?_
    show Runs p e below s _ _ _ (T.setTop (mkF m 5 #[.val (.long x0), .second, .val (.int x1), .unset, .unset, .unset] [(.int (x1 &&& (63 : Int32))), (.long x0)]))
    refine Runs.go (fun _ => XS.lushr X.here hx rfl (hb hby at_5) rfl) ?_
    show Runs p e below s _ _ _ (T.setTop (mkF m 6 #[.val (.long x0), .second, .val (.int x1), .unset, .unset, .unset] [(.long ((x0.toUInt64 >>> ((x1 &&& (63 : Int32)) &&& 0x3f).toInt64.toUInt64).toInt64))]))
    refine Runs.go (fun _ => XS.lstoreN X.here hx rfl (hb hby at_6) rfl (l' := #[.val (.long x0), .second, .val (.int x1), .val (.long ((x0.toUInt64 >>> ((x1 &&& (63 : Int32)) &&& 0x3f).toInt64.toUInt64).toInt64)), .second, .unset]) rfl) ?_
    show Runs p e below s _ _ _ (T.setTop (mkF m 7 #[.val (.long x0), .second, .val (.int x1), .val (.long ((x0.toUInt64 >>> ((x1 &&& (63 : Int32)) &&& 0x3f).toInt64.toUInt64).toInt64)), .second, .unset] []))
    refine Runs.go (fun _ => XS.lloadN X.here hx rfl (hb hby at_7) rfl) ?_
    show Runs p e below s _ _ _ (T.setTop (mkF m 8 #[.val (.long x0), .second, .val (.int x1), .val (.long ((x0.toUInt64 >>> ((x1 &&& (63 : Int32)) &&& 0x3f).toInt64.toUInt64).toInt64)), .second, .unset] [(.long ((x0.toUInt64 >>> ((x1 &&& (63 : Int32)) &&& 0x3f).toInt64.toUInt64).toInt64))]))
    obtain ⟨_, _, ⟨Tc8_1, Lc8_1, kc8_1, nc8_1⟩, -, Xc8_1, ⟨Lcc8_1, ⟨rfl, rfl, ec8_1⟩, lc8_1, yc8_1, zc8_1⟩, stc8_1⟩ := Jvm.LawKit.callS X hx (y := (⟨"com/example/caddis/caddis/index/IndexFormat", "varintLength", "(J)I"⟩ : MethodName)) hown (mvT hZ (hw _ (List.mem_of_getElem? (i := 0) rfl))) (mvT hZ (hw _ (List.mem_of_getElem? (i := 1) rfl))) (mvT hZ (hw _ (List.mem_of_getElem? (i := 2) rfl))) (mvT hZ (hw _ (List.mem_of_getElem? (i := 3) rfl))) (by decide) (backOf (W := 0) (rm1 l Z a0 hw [] ((x0.toUInt64 >>> ((x1 &&& (63 : Int32)) &&& 0x3f).toInt64.toUInt64).toInt64) h0) hZ (hw _ (List.mem_of_getElem? (i := 3) rfl)) (hw _ (List.mem_of_getElem? (i := 2) rfl)) (by decide) (by decide)) (g := (mkF m 8 #[.val (.long x0), .second, .val (.int x1), .val (.long ((x0.toUInt64 >>> ((x1 &&& (63 : Int32)) &&& 0x3f).toInt64.toUInt64).toInt64)), .second, .unset] [(.long ((x0.toUInt64 >>> ((x1 &&& (63 : Int32)) &&& 0x3f).toInt64.toUInt64).toInt64))])) rfl (by rw [hml]; rfl) (argsL := [(.long ((x0.toUInt64 >>> ((x1 &&& (63 : Int32)) &&& 0x3f).toInt64.toUInt64).toInt64))]) (rest := []) (lenOf pd_0 rfl) rfl (by show 2 * 0 + _ ≤ _; exact Nat.le_of_eq rfl) (hb hby at_8) (fun _ _ => ⟨rfl, eT, (by decide : 0 + 0 ≤ _), (by decide : 0 + 0 ≤ _)⟩)
    dsimp only [Pt.U, Pt.locs, Pt.cells, Pt.slots] at Xc8_1 lc8_1 yc8_1 zc8_1 stc8_1 ec8_1
    subst lc8_1 yc8_1 zc8_1
    refine Runs.go stc8_1 ?_
    show Runs p e below s _ _ _ (Tc8_1.setTop (mkF m 11 #[.val (.long x0), .second, .val (.int x1), .val (.long ((x0.toUInt64 >>> ((x1 &&& (63 : Int32)) &&& 0x3f).toInt64.toUInt64).toInt64)), .second, .unset] [(.int (F1 ((x0.toUInt64 >>> ((x1 &&& (63 : Int32)) &&& 0x3f).toInt64.toUInt64).toInt64)))]))
    refine Runs.go (fun _ => XS.istore Xc8_1.here hx rfl (hb hby at_11) rfl (l' := #[.val (.long x0), .second, .val (.int x1), .val (.long ((x0.toUInt64 >>> ((x1 &&& (63 : Int32)) &&& 0x3f).toInt64.toUInt64).toInt64)), .second, .val (.int (F1 ((x0.toUInt64 >>> ((x1 &&& (63 : Int32)) &&& 0x3f).toInt64.toUInt64).toInt64)))]) rfl) ?_
    show Runs p e below s _ _ _ (Tc8_1.setTop (mkF m 13 #[.val (.long x0), .second, .val (.int x1), .val (.long ((x0.toUInt64 >>> ((x1 &&& (63 : Int32)) &&& 0x3f).toInt64.toUInt64).toInt64)), .second, .val (.int (F1 ((x0.toUInt64 >>> ((x1 &&& (63 : Int32)) &&& 0x3f).toInt64.toUInt64).toInt64)))] []))
    refine Runs.go (fun _ => XS.iload Xc8_1.here hx rfl (hb hby at_13) rfl) ?_
    show Runs p e below s _ _ _ (Tc8_1.setTop (mkF m 15 #[.val (.long x0), .second, .val (.int x1), .val (.long ((x0.toUInt64 >>> ((x1 &&& (63 : Int32)) &&& 0x3f).toInt64.toUInt64).toInt64)), .second, .val (.int (F1 ((x0.toUInt64 >>> ((x1 &&& (63 : Int32)) &&& 0x3f).toInt64.toUInt64).toInt64)))] [(.int (F1 ((x0.toUInt64 >>> ((x1 &&& (63 : Int32)) &&& 0x3f).toInt64.toUInt64).toInt64)))]))
    refine Runs.go (fun _ => XS.lloadN Xc8_1.here hx rfl (hb hby at_15) rfl) ?_
    show Runs p e below s _ _ _ (Tc8_1.setTop (mkF m 16 #[.val (.long x0), .second, .val (.int x1), .val (.long ((x0.toUInt64 >>> ((x1 &&& (63 : Int32)) &&& 0x3f).toInt64.toUInt64).toInt64)), .second, .val (.int (F1 ((x0.toUInt64 >>> ((x1 &&& (63 : Int32)) &&& 0x3f).toInt64.toUInt64).toInt64)))] [(.long ((x0.toUInt64 >>> ((x1 &&& (63 : Int32)) &&& 0x3f).toInt64.toUInt64).toInt64)), (.int (F1 ((x0.toUInt64 >>> ((x1 &&& (63 : Int32)) &&& 0x3f).toInt64.toUInt64).toInt64)))]))
    obtain ⟨_, _, ⟨Tc16_2, Lc16_2, kc16_2, nc16_2⟩, -, Xc16_2, ⟨Lcc16_2, ⟨rfl, rfl, ec16_2⟩, lc16_2, yc16_2, zc16_2⟩, stc16_2⟩ := Jvm.LawKit.callS Xc8_1 hx (y := (⟨"com/example/caddis/caddis/index/IndexFormatVarintLengthPinLaw", "expected", "(J)I"⟩ : MethodName)) hown (mvT hZ (hw _ (List.mem_of_getElem? (i := 4) rfl))) (mvT hZ (hw _ (List.mem_of_getElem? (i := 5) rfl))) (mvT hZ (hw _ (List.mem_of_getElem? (i := 6) rfl))) (mvT hZ (hw _ (List.mem_of_getElem? (i := 7) rfl))) (by decide) (backOf (W := 1) (rm2 l Z a0 hw [] ((x0.toUInt64 >>> ((x1 &&& (63 : Int32)) &&& 0x3f).toInt64.toUInt64).toInt64) h0) hZ (hw _ (List.mem_of_getElem? (i := 7) rfl)) (hw _ (List.mem_of_getElem? (i := 6) rfl)) (by decide) (by decide)) (g := (mkF m 16 #[.val (.long x0), .second, .val (.int x1), .val (.long ((x0.toUInt64 >>> ((x1 &&& (63 : Int32)) &&& 0x3f).toInt64.toUInt64).toInt64)), .second, .val (.int (F1 ((x0.toUInt64 >>> ((x1 &&& (63 : Int32)) &&& 0x3f).toInt64.toUInt64).toInt64)))] [(.long ((x0.toUInt64 >>> ((x1 &&& (63 : Int32)) &&& 0x3f).toInt64.toUInt64).toInt64)), (.int (F1 ((x0.toUInt64 >>> ((x1 &&& (63 : Int32)) &&& 0x3f).toInt64.toUInt64).toInt64)))])) rfl (by rw [hml]; rfl) (argsL := [(.long ((x0.toUInt64 >>> ((x1 &&& (63 : Int32)) &&& 0x3f).toInt64.toUInt64).toInt64))]) (rest := [(.int (F1 ((x0.toUInt64 >>> ((x1 &&& (63 : Int32)) &&& 0x3f).toInt64.toUInt64).toInt64)))]) (lenOf pd_0 rfl) rfl (by show 2 * 0 + _ ≤ _; exact Nat.le_of_eq rfl) (hb hby at_16) (fun _ _ => ⟨rfl, ec8_1, (by decide : 0 + 0 ≤ _), (by decide : 0 + 0 ≤ _)⟩)
    dsimp only [Pt.U, Pt.locs, Pt.cells, Pt.slots] at Xc16_2 lc16_2 yc16_2 zc16_2 stc16_2 ec16_2
    subst lc16_2 yc16_2 zc16_2
    refine Runs.go stc16_2 ?_
    show Runs p e below s _ _ _ (Tc16_2.setTop (mkF m 19 #[.val (.long x0), .second, .val (.int x1), .val (.long ((x0.toUInt64 >>> ((x1 &&& (63 : Int32)) &&& 0x3f).toInt64.toUInt64).toInt64)), .second, .val (.int (F1 ((x0.toUInt64 >>> ((x1 &&& (63 : Int32)) &&& 0x3f).toInt64.toUInt64).toInt64)))] [(.int (F2 ((x0.toUInt64 >>> ((x1 &&& (63 : Int32)) &&& 0x3f).toInt64.toUInt64).toInt64))), (.int (F1 ((x0.toUInt64 >>> ((x1 &&& (63 : Int32)) &&& 0x3f).toInt64.toUInt64).toInt64)))]))
    by_cases hc19 : (F1 ((x0.toUInt64 >>> ((x1 &&& (63 : Int32)) &&& 0x3f).toInt64.toUInt64).toInt64)) = (F2 ((x0.toUInt64 >>> ((x1 &&& (63 : Int32)) &&& 0x3f).toInt64.toUInt64).toInt64))
    · have hv := (if_pos hc19).symm.trans hv
      refine Runs.go (fun _ => XS.icmpNo Xc16_2.here hx rfl (hb hby at_19) rfl (teq hc19).2) ?_
      show Runs p e below s _ _ _ (Tc16_2.setTop (mkF m 22 #[.val (.long x0), .second, .val (.int x1), .val (.long ((x0.toUInt64 >>> ((x1 &&& (63 : Int32)) &&& 0x3f).toInt64.toUInt64).toInt64)), .second, .val (.int (F1 ((x0.toUInt64 >>> ((x1 &&& (63 : Int32)) &&& 0x3f).toInt64.toUInt64).toInt64)))] []))
      refine Runs.go (fun _ => XS.iconst Xc16_2.here hx rfl (hb hby at_22)) ?_
      show Runs p e below s _ _ _ (Tc16_2.setTop (mkF m 23 #[.val (.long x0), .second, .val (.int x1), .val (.long ((x0.toUInt64 >>> ((x1 &&& (63 : Int32)) &&& 0x3f).toInt64.toUInt64).toInt64)), .second, .val (.int (F1 ((x0.toUInt64 >>> ((x1 &&& (63 : Int32)) &&& 0x3f).toInt64.toUInt64).toInt64)))] [(.int (1 : Int32))]))
      refine Runs.go (fun _ => XS.goto Xc16_2.here hx rfl (pc0 := 23) (pc' := 27) rfl (hb hby at_23) (by decide) (by decide)) ?_
      show Runs p e below s _ _ _ (Tc16_2.setTop (mkF m 27 #[.val (.long x0), .second, .val (.int x1), .val (.long ((x0.toUInt64 >>> ((x1 &&& (63 : Int32)) &&& 0x3f).toInt64.toUInt64).toInt64)), .second, .val (.int (F1 ((x0.toUInt64 >>> ((x1 &&& (63 : Int32)) &&& 0x3f).toInt64.toUInt64).toInt64)))] [(.int (1 : Int32))]))
      exact Runs.endN Xc16_2 hx (t := .boolean) Bd.returns (by simp) Bd.notSynchronized (hb hby at_27) ⟨congrArg (fun z => some (Value.int z)) hv, rfl, ec16_2⟩ (by decide) (by decide)
    · have hv := (if_neg hc19).symm.trans hv
      refine Runs.go (fun _ => XS.icmpYes Xc16_2.here hx rfl (pc0 := 19) (pc' := 26) rfl (hb hby at_19) rfl (feq hc19).2 (by decide) (by decide)) ?_
      show Runs p e below s _ _ _ (Tc16_2.setTop (mkF m 26 #[.val (.long x0), .second, .val (.int x1), .val (.long ((x0.toUInt64 >>> ((x1 &&& (63 : Int32)) &&& 0x3f).toInt64.toUInt64).toInt64)), .second, .val (.int (F1 ((x0.toUInt64 >>> ((x1 &&& (63 : Int32)) &&& 0x3f).toInt64.toUInt64).toInt64)))] []))
      refine Runs.go (fun _ => XS.iconst Xc16_2.here hx rfl (hb hby at_26)) ?_
      show Runs p e below s _ _ _ (Tc16_2.setTop (mkF m 27 #[.val (.long x0), .second, .val (.int x1), .val (.long ((x0.toUInt64 >>> ((x1 &&& (63 : Int32)) &&& 0x3f).toInt64.toUInt64).toInt64)), .second, .val (.int (F1 ((x0.toUInt64 >>> ((x1 &&& (63 : Int32)) &&& 0x3f).toInt64.toUInt64).toInt64)))] [(.int (0 : Int32))]))
      exact Runs.endN Xc16_2 hx (t := .boolean) Bd.returns (by simp) Bd.notSynchronized (hb hby at_27) ⟨congrArg (fun z => some (Value.int z)) hv, rfl, ec16_2⟩ (by decide) (by decide)
  exact k_0 _ X0 e0 hF
set_option maxRecDepth 65536 in
set_option maxHeartbeats 40000000 in
theorem comes_1 {Post : Tables → Env → Array Value → State → Outcome → State → Prop} (hpost : ∀ tb e args s v u, (limb_1_1.after args s (.returned v) u = true ∧ limb_1_2.after args s (.returned v) u = true ∧ True) → FrameEnd s (.returned v) u (Jvm.fieldLocs frame_1_writes args s ++ Jvm.arrayLocs frame_1_arrays args s ++ Jvm.staticLocs frame_1_statics s) 0 0 → Post tb e args s (.returned v) u) :
    ArmFor flags0 classFile x code maxLocals ret World_1 tables_1 room_1 Calls_1 rest_1 Pre_1 Post := by
  intro l hfl _ _ p e ha hc hk s m args below hf hA hF happ hP
  obtain ⟨hcalls, hrest, hpre⟩ := hP
  obtain ⟨-, -, -, hnamed, -, -, -, hat⟩ := (Spec.applies_iff hf).mp happ
  obtain ⟨hg, hn⟩ := and_e (Cond.before_iff.mp (show (Jvm.Cond.and given_1 narrow_1).before args s = true from hpre))
  obtain ⟨hcnt, hg⟩ := and_e hg
  obtain ⟨w0, w1, rfl⟩ : ∃ w0 w1 : Value, args = #[w0, w1] := by
    have hs : args.size = 2 := by simpa [Cond.value, given_1] using hcnt
    obtain ⟨L⟩ := args
    match L, hs with
    | [w0, w1], _ => exact ⟨w0, w1, rfl⟩
  obtain ⟨ga0, hg⟩ := and_e hg
  obtain ⟨i0, ei0⟩ := isL_v ga0
  obtain rfl : w0 = (.long i0) := Option.some.inj ei0
  have ga1 := hg
  obtain ⟨i1, ei1⟩ := is_v ga1
  obtain rfl : w1 = (.int i1) := Option.some.inj ei1
  have hw := fun d (hd : d ∈ tables_1) => atoms_spec (ws := Jvm.Cond.code x code maxLocals ret :: tables_1) hat d (List.mem_cons_of_mem _ hd)
  obtain ⟨n, o, h1, h2, h3, _, L, rfl, ⟨rfl, rfl, hheap⟩, hq⟩ := rm0 l s _ hw tables_1 i0 i1 s.heap p e ha hc hk s m _ below hf ((Spec.applies_iff_loose hf).mp happ).1 ⟨rfl, State.Warmed39.refl s, rfl⟩ trivial
  rw [law_true i0 i1] at hq h3
  exact ⟨n, _, h1, h2, h3, hpost _ _ _ _ _ _ ⟨Cond.after_iff.mpr rfl, Cond.after_iff.mpr (eq_i res_at (Term.int_eval (1)) rfl), trivial⟩ ⟨hq.1, hq.2.1, (hq.2.2.sift fun y hy => nomatch hy).mono (by decide) (by decide)⟩⟩
theorem main_1_1 : Claimed_1_1 := comes_1 fun _ _ _ _ _ _ h hF => ⟨h.1, hF⟩
theorem main_1_2 : Claimed_1_2 := comes_1 fun _ _ _ _ _ _ h hF => ⟨h.2.1, hF⟩
end Jvm.Pilot.@@N@@
namespace Jvm.Pilot.@@N@@
open Jvm Jvm.ClassFile Sem Op Lib Jvm.Free Jvm.Stand Jvm.Pilot.@@N@@.Jvm.D
/-! MADE BY PROGRAM (witnessworld.py) out of the Statement's table words and the real class files: 9 classes; the members and pool entries that the words name. The judged class is class 1, her method 2. -/
namespace start1
open Jvm.ClassFile
def u (s : String) : CpInfo := .utf8 (stringToUtf16 s)
/-- a pool by its gaps: so many unusable entries, then the entry; so many at the end -/
def gap : Nat → List CpInfo → List CpInfo
  | 0, r => r
  | n + 1, r => .unusable :: gap n r
def poolList (es : List (Nat × CpInfo)) (last : Nat) : List CpInfo := es.foldr (fun e r => gap e.1 (e.2 :: r)) (gap last [])
def pool (es : List (Nat × CpInfo)) (last : Nat) : Array CpInfo := ⟨poolList es last⟩
def fileOf (pool : Array CpInfo) (this : Nat) (attrs : Array Attribute := #[]) (ms : Array MethodInfo := #[]) (fl : Nat := 33) (sup : Nat := 0) (ifs : Array Nat := #[]) (fds : Array FieldInfo := #[]) : ClassFile where
  minorVersion := 0
  majorVersion := 65
  constantPool := pool
  accessFlags := fl
  thisClass := this
  superClass := sup
  interfaces := ifs
  fields := fds
  methods := ms
  attributes := attrs
def plain (name : String) (sup : Option ClassId) : Class where
  name := name
  kind := .ordinary
  loader := none
  accessFlags := 33
  super := sup
  interfaces := #[]
  cf := none
  fields := #[]
  methods := #[]
  instanceTypes := #[]
  staticTypes := #[]
  resolved := #[]
  callSites := []
  init := .initialized
  statics := none
  mirror := none

def pool0 : Array CpInfo := pool [(5, u "<init>"), (0, u "()V"), (1, .class_ 10), (1, u "java/lang/Object")] 113

def k0m0 : Method := { name := "<init>", desc := "()V", sig := { parameters := [], returnType := none }, accessFlags := 1, code := none }
/-- java/lang/Object -/
def k0 : Class := { plain "java/lang/Object" none with
  accessFlags := 33
  interfaces := #[]
  cf := some (fileOf pool0 8 #[] #[{ accessFlags := 1, nameIndex := 5, descriptorIndex := 6, attributes := #[] }] 33 0 #[] #[])
  fields := #[]
  methods := #[k0m0]
  instanceTypes := #[]
  staticTypes := #[]
  resolved := Array.replicate 124 none
  statics := none }

def pool1 : Array CpInfo := pool [(2, .class_ 4), (1, u "java/lang/Object"), (0, u "<init>"), (0, u "()V"), (0, .long 128), (1, .long 16384), (1, .long 2097152), (1, .long 268435456), (1, .long 34359738368), (1, .long 4398046511104), (1, .long 562949953421312), (1, .long 72057594037927936), (1, .methodref 24 25), (0, .class_ 26), (0, .nameAndType 27 28), (0, u "com/example/caddis/caddis/index/IndexFormat"), (0, u "varintLength"), (0, u "(J)I"), (0, .methodref 30 31), (0, .class_ 32), (0, .nameAndType 33 28), (0, u "com/example/caddis/caddis/index/IndexFormatVarintLengthPinLaw"), (0, u "expected"), (3, u "law"), (0, u "(JI)Z")] 2

def k1m0 : Method := { name := "<init>", desc := "()V", sig := { parameters := [], returnType := none }, accessFlags := 2, code := none }
def k1c1 : Code := { maxStack := 4, maxLocals := 2, code := method_2_code, exceptionTable := #[], attributes := #[] }
def k1m1 : Method := { name := "expected", desc := "(J)I", sig := { parameters := [.long], returnType := some .int }, accessFlags := 10, code := some k1c1 }
def k1c2 : Code := { maxStack := 4, maxLocals := 6, code := code, exceptionTable := #[], attributes := #[] }
def k1m2 : Method := { name := "law", desc := "(JI)Z", sig := { parameters := [.long, .int], returnType := some .boolean }, accessFlags := 9, code := some k1c2 }
/-- com/example/caddis/caddis/index/IndexFormatVarintLengthPinLaw -/
def k1 : Class := { plain "com/example/caddis/caddis/index/IndexFormatVarintLengthPinLaw" (some 0) with
  accessFlags := 49
  interfaces := #[]
  cf := some (fileOf pool1 30 #[] #[{ accessFlags := 2, nameIndex := 5, descriptorIndex := 6, attributes := #[] }, { accessFlags := 10, nameIndex := 33, descriptorIndex := 28, attributes := #[] }, { accessFlags := 9, nameIndex := 37, descriptorIndex := 38, attributes := #[] }] 49 2 #[] #[])
  fields := #[]
  methods := #[k1m0, k1m1, k1m2]
  instanceTypes := #[]
  staticTypes := #[]
  resolved := Array.replicate 41 none
  statics := none }

def pool2 : Array CpInfo := pool [(2, .class_ 4), (1, u "java/lang/Object"), (0, u "<init>"), (0, u "()V"), (6, .class_ 14), (0, u "com/example/caddis/caddis/index/IndexFormat"), (63, u "(J)I"), (20, u "HEADER"), (0, u "Ljava/lang/String;"), (3, u "DOCUMENTS"), (2, u "FIELDS"), (2, u "FIELD_OFFSETS"), (2, u "POSTINGS"), (2, u "LEXICON"), (2, u "LEXICON_BLOCKS"), (2, u "DOCUMENT_TERMS"), (2, u "DOCUMENT_TERM_OFFSETS"), (2, u "MAGIC"), (0, u "I"), (1, u "VERSION"), (1, u "BLOCK_TERMS"), (1, u "MAX_VARINT_BYTES"), (4, u "varintLength")] 17

def k2m0 : Method := { name := "<init>", desc := "()V", sig := { parameters := [], returnType := none }, accessFlags := 2, code := none }
def k2c1 : Code := { maxStack := 4, maxLocals := 5, code := prog_24_method_3_code, exceptionTable := #[], attributes := #[] }
def k2m1 : Method := { name := "varintLength", desc := "(J)I", sig := { parameters := [.long], returnType := some .int }, accessFlags := 8, code := some k2c1 }
/-- com/example/caddis/caddis/index/IndexFormat -/
def k2 : Class := { plain "com/example/caddis/caddis/index/IndexFormat" (some 0) with
  accessFlags := 32
  interfaces := #[]
  cf := some (fileOf pool2 13 #[] #[{ accessFlags := 2, nameIndex := 5, descriptorIndex := 6, attributes := #[] }, { accessFlags := 8, nameIndex := 140, descriptorIndex := 78, attributes := #[] }] 32 2 #[] #[{ accessFlags := 24, nameIndex := 99, descriptorIndex := 100, attributes := #[] }, { accessFlags := 24, nameIndex := 104, descriptorIndex := 100, attributes := #[] }, { accessFlags := 24, nameIndex := 107, descriptorIndex := 100, attributes := #[] }, { accessFlags := 24, nameIndex := 110, descriptorIndex := 100, attributes := #[] }, { accessFlags := 24, nameIndex := 113, descriptorIndex := 100, attributes := #[] }, { accessFlags := 24, nameIndex := 116, descriptorIndex := 100, attributes := #[] }, { accessFlags := 24, nameIndex := 119, descriptorIndex := 100, attributes := #[] }, { accessFlags := 24, nameIndex := 122, descriptorIndex := 100, attributes := #[] }, { accessFlags := 24, nameIndex := 125, descriptorIndex := 100, attributes := #[] }, { accessFlags := 24, nameIndex := 128, descriptorIndex := 129, attributes := #[] }, { accessFlags := 24, nameIndex := 131, descriptorIndex := 129, attributes := #[] }, { accessFlags := 24, nameIndex := 133, descriptorIndex := 129, attributes := #[] }, { accessFlags := 24, nameIndex := 135, descriptorIndex := 129, attributes := #[] }])
  fields := #[{ name := "HEADER", type := (.object "java/lang/String"), accessFlags := 24, slot := 0, constantValue := 0 }, { name := "DOCUMENTS", type := (.object "java/lang/String"), accessFlags := 24, slot := 1, constantValue := 0 }, { name := "FIELDS", type := (.object "java/lang/String"), accessFlags := 24, slot := 2, constantValue := 0 }, { name := "FIELD_OFFSETS", type := (.object "java/lang/String"), accessFlags := 24, slot := 3, constantValue := 0 }, { name := "POSTINGS", type := (.object "java/lang/String"), accessFlags := 24, slot := 4, constantValue := 0 }, { name := "LEXICON", type := (.object "java/lang/String"), accessFlags := 24, slot := 5, constantValue := 0 }, { name := "LEXICON_BLOCKS", type := (.object "java/lang/String"), accessFlags := 24, slot := 6, constantValue := 0 }, { name := "DOCUMENT_TERMS", type := (.object "java/lang/String"), accessFlags := 24, slot := 7, constantValue := 0 }, { name := "DOCUMENT_TERM_OFFSETS", type := (.object "java/lang/String"), accessFlags := 24, slot := 8, constantValue := 0 }, { name := "MAGIC", type := .int, accessFlags := 24, slot := 9, constantValue := 0 }, { name := "VERSION", type := .int, accessFlags := 24, slot := 10, constantValue := 0 }, { name := "BLOCK_TERMS", type := .int, accessFlags := 24, slot := 11, constantValue := 0 }, { name := "MAX_VARINT_BYTES", type := .int, accessFlags := 24, slot := 12, constantValue := 0 }]
  methods := #[k2m0, k2m1]
  instanceTypes := #[]
  staticTypes := #[(.object "java/lang/String"), (.object "java/lang/String"), (.object "java/lang/String"), (.object "java/lang/String"), (.object "java/lang/String"), (.object "java/lang/String"), (.object "java/lang/String"), (.object "java/lang/String"), (.object "java/lang/String"), .int, .int, .int, .int]
  resolved := Array.replicate 158 none
  statics := none }

def pool3 : Array CpInfo := pool [(1, u "java/lang/Cloneable"), (0, .class_ 1), (0, u "java/lang/Object"), (0, .class_ 3)] 3

/-- java/lang/Cloneable -/
def k3 : Class := { plain "java/lang/Cloneable" (some 0) with
  accessFlags := 1537
  interfaces := #[]
  cf := some (fileOf pool3 2 #[] #[] 1537 4 #[] #[])
  fields := #[]
  methods := #[]
  instanceTypes := #[]
  staticTypes := #[]
  resolved := Array.replicate 8 none
  statics := none }

def pool4 : Array CpInfo := pool [(1, u "java/io/Serializable"), (0, .class_ 1), (0, u "java/lang/Object"), (0, .class_ 3)] 3

/-- java/io/Serializable -/
def k4 : Class := { plain "java/io/Serializable" (some 0) with
  accessFlags := 1537
  interfaces := #[]
  cf := some (fileOf pool4 2 #[] #[] 1537 4 #[] #[])
  fields := #[]
  methods := #[]
  instanceTypes := #[]
  staticTypes := #[]
  resolved := Array.replicate 8 none
  statics := none }

/-- the primitive byte -/
def k5 : Class := { plain "byte" none with kind := .primitive 'B', accessFlags := 0x411 }
/-- [B -/
def k6 : Class := { plain "[B" (some 0) with kind := .array 5 .byte, interfaces := #[3, 4], accessFlags := 1041 }

/-- the primitive int -/
def k7 : Class := { plain "int" none with kind := .primitive 'I', accessFlags := 0x411 }
/-- [I -/
def k8 : Class := { plain "[I" (some 0) with kind := .array 7 .int, interfaces := #[3, 4], accessFlags := 1041 }

def heap : Heap := #[]
def classes : Array Class := #[k0, k1, k2, k3, k4, k5, k6, k7, k8]
def interned : List (Array UInt16 × Addr) := []
def slotsUsed : Nat := 0
def theMethod : MethodId := ⟨1, 2⟩
def args0 : Array Value := #[.long 7, .int 8]
def aboutOver (below : List Frame) : State where
  vm := { classes := classes, interned := interned.toArray }
  heap := heap
  slotsUsed := slotsUsed
  threads := #[{ frames := .invoking theMethod args0 :: below }]
def below0 : List Frame := [.native { method := ⟨0, 0⟩, args := #[] }]
def about1 : State := aboutOver below0
def p0 : Program := .bare "" "" ""
def e0 : Env := launch0.env 0 0 0
theorem w_frames : about1.frames = Frame.invoking theMethod args0 :: below0 := rfl
set_option maxRecDepth 65536 in
theorem w_args : argsFit about1.vm theMethod args0 = true := by decide +kernel
set_option maxRecDepth 65536 in
theorem w_heap : heapFits about1 = true := by decide +kernel
set_option maxRecDepth 65536 in
theorem w_runnable : about1.curStatus? = some .runnable := by decide +kernel
set_option maxRecDepth 65536 in
theorem w_alone : about1.alone = true := by decide +kernel
set_option maxRecDepth 65536 in
theorem w_named : about1.methodNamed? x = some theMethod := by decide +kernel
set_option maxRecDepth 65536 in
theorem w_hears : about1.hears theMethod below0 = true := by decide +kernel
set_option maxRecDepth 65536 in
theorem w_ripe : about1.ripe theMethod args0 below0 = true := by decide +kernel
theorem w_running : about1.status = .running := rfl
set_option maxRecDepth 65536 in
theorem w_room : about1.hasRoom e0.platform room_1 = true :=
  launch0.hasRoom_least _ room_1 (by decide +kernel) (by decide +kernel) (by decide +kernel) (by decide +kernel) (by decide +kernel) (by decide +kernel)
theorem allAtoms_all (ts : List Jvm.Cond) (a : Array Jvm.Value) (st : Jvm.State) : (allAtoms ts).before a st = ts.all (fun c => c.before a st) := by
  induction ts with
  | nil => rfl
  | cons c t ih =>
    show (Jvm.Cond.and c (allAtoms t)).before a st = _
    rw [Jvm.Cond.before_and, ih, List.all_cons]
def words1 : List Jvm.Cond := Jvm.Cond.code x code maxLocals ret :: tables_1
/-- a 'code' word, met by the world's own term for the bytes: nothing is compared byte by byte -/
theorem code_word {y : MethodName} {bytes : ByteArray} {mx : Nat} {rt : Option FieldType} {a : Array Value} {s : State} {m : MethodId} {meth : Method} {c : Code} (h1 : s.methodNamed? y = some m) (h2 : s.vm.method? m = some meth) (h3 : meth.code = some c) (h4 : c.code = bytes)
    (h5 : (c.maxLocals == mx && c.exceptionTable.isEmpty && decide (c.maxStack ≤ mostOperands) && decide (meth.sig.returnType = rt) && !meth.locks && decide (parseMethodDescriptor y.desc = some meth.sig)) = true) : (Jvm.Cond.code y bytes mx rt).before a s = true := by
  simp only [Bool.and_eq_true, beq_iff_eq, Bool.not_eq_true', decide_eq_true_eq] at h5
  obtain ⟨⟨⟨⟨⟨g1, g2⟩, g3⟩, g4⟩, g5⟩, g6⟩ := h5
  simp [Cond.before, Cond.holds, Cond.value, h1, h2, h3, h4, g1, g2, g3, g4, g5, g6]
def isCode : Jvm.Cond → Bool
  | .code _ _ _ _ => true
  | _ => false
theorem all_split {L : List Jvm.Cond} {P : Jvm.Cond → Bool} (h1 : L.all (fun c => isCode c || P c) = true) (h2 : ∀ c ∈ L.filter isCode, P c = true) : L.all P = true := by
  refine List.all_eq_true.mpr fun c hc => ?_
  have h := List.all_eq_true.mp h1 c hc
  rcases Bool.eq_false_or_eq_true (isCode c) with hi | hi
  · exact h2 c (List.mem_filter.mpr ⟨hc, hi⟩)
  · simpa [hi] using h
set_option maxRecDepth 65536 in
theorem w_c0 : (Jvm.Cond.code x code maxLocals ret).before args0 about1 = true := code_word (m := ⟨1, 2⟩) (meth := k1m2) (c := k1c2) (by decide +kernel) rfl rfl rfl (by decide +kernel)
set_option maxRecDepth 65536 in
theorem w_c1 : (Jvm.Cond.code ({ cls := "com/example/caddis/caddis/index/IndexFormat", name := "varintLength", desc := "(J)I" } : Jvm.MethodName) prog_24_method_3_code (5 : Nat) (Option.some Jvm.ClassFile.FieldType.int)).before args0 about1 = true := code_word (m := ⟨2, 1⟩) (meth := k2m1) (c := k2c1) (by decide +kernel) rfl rfl rfl (by decide +kernel)
set_option maxRecDepth 65536 in
theorem w_c2 : (Jvm.Cond.code ({ cls := "com/example/caddis/caddis/index/IndexFormatVarintLengthPinLaw", name := "expected", desc := "(J)I" } : Jvm.MethodName) method_2_code (2 : Nat) (Option.some Jvm.ClassFile.FieldType.int)).before args0 about1 = true := code_word (m := ⟨1, 1⟩) (meth := k1m1) (c := k1c1) (by decide +kernel) rfl rfl rfl (by decide +kernel)
def codes1 : List Jvm.Cond := [Jvm.Cond.code x code maxLocals ret, Jvm.Cond.code ({ cls := "com/example/caddis/caddis/index/IndexFormat", name := "varintLength", desc := "(J)I" } : Jvm.MethodName) prog_24_method_3_code (5 : Nat) (Option.some Jvm.ClassFile.FieldType.int), Jvm.Cond.code ({ cls := "com/example/caddis/caddis/index/IndexFormatVarintLengthPinLaw", name := "expected", desc := "(J)I" } : Jvm.MethodName) method_2_code (2 : Nat) (Option.some Jvm.ClassFile.FieldType.int)]
set_option maxRecDepth 65536 in
theorem codes_eq : words1.filter isCode = codes1 := rfl
theorem w_codes : ∀ c ∈ words1.filter isCode, c.before args0 about1 = true := by
  rw [codes_eq]
  intro c hc
  simp only [codes1, List.mem_cons, List.not_mem_nil, or_false] at hc
  rcases hc with rfl | rfl | rfl
  · exact w_c0
  · exact w_c1
  · exact w_c2
set_option maxRecDepth 65536 in
theorem w_t1 : words1.all (fun c => isCode c || c.before args0 about1) = true := by decide +kernel
theorem w_tables : (allAtoms (Jvm.Cond.code x code maxLocals ret :: tables_1)).before args0 about1 = true := by
  rw [allAtoms_all]
  show words1.all (fun c => c.before args0 about1) = true
  refine all_split ?_ w_codes
  rw [w_t1]
set_option maxRecDepth 65536 in
theorem w_case : (Jvm.Cond.and given_1 narrow_1).before args0 about1 = true := by decide +kernel
theorem w_applies : (headSpec (Jvm.Cond.code x code maxLocals ret :: tables_1) room_1).applies x e0.platform about1 = true :=
  (Spec.applies_iff w_frames).mpr ⟨w_running, w_runnable, w_alone, w_named, w_hears, w_ripe, w_room, w_tables⟩
theorem atStart : AtStart classFile x code maxLocals ret World_1 tables_1 room_1 Calls_1 rest_1 Pre_1 launch0 p0 e0 about1 theMethod args0 below0 :=
  ⟨lists_1, trivial, launch0.admits_env _ _ _, launch0.least_env, fairChoices_fair.cas, fairChoices_fair.clock, w_frames, w_args, w_heap, w_applies, trivial, trivial, w_case⟩
end start1
theorem witness_1 : WitnessClaimed_1 := ⟨start1.p0, start1.e0, start1.about1, start1.theMethod, start1.args0, start1.below0, start1.atStart⟩
end Jvm.Pilot.@@N@@
