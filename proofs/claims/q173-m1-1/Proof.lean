import JvmDerived
import JvmDerived.Pilot.@@N@@Statement
import JvmDerived.Pilot.@@N@@Code
set_option linter.unusedVariables false
set_option linter.unusedSimpArgs false

namespace Jvm.Pilot.@@N@@
open Jvm Jvm.ClassFile Sem Op Lib Jvm.Free Jvm.Stand Jvm.LawKit Jvm.RoadKit Bundle Jvm.Pilot.@@N@@.Jvm.D
def QH (w : Value) (n0 : Nat) (v : Option Value) (h : Heap) (L : List Loc) : Prop := v = some w ∧ Fr n0 L
def own_at (l : List Int32) (j : Int32) : Int32 := l.getD j.toNatClampNeg 0
theorem own_getD (l : List Int32) (j : Int32) : (List.map Value.int l).getD j.toNatClampNeg (.int (0 : Int32)) = .int (own_at l j) := by
  simp only [own_at, List.getD_eq_getElem?_getD, List.getElem?_map]
  cases l[j.toNatClampNeg]? <;> rfl
def own_atJ (l : List Int64) (j : Int32) : Int64 := l.getD j.toNatClampNeg 0
theorem own_getDJ (l : List Int64) (j : Int32) : (List.map Value.long l).getD j.toNatClampNeg (.long (0 : Int64)) = .long (own_atJ l j) := by
  simp only [own_atJ, List.getD_eq_getElem?_getD, List.getElem?_map]
  cases l[j.toNatClampNeg]? <;> rfl
def QP (w : Value) (h0 : Heap) (v : Option Value) (h : Heap) (L : List Loc) : Prop := v = some w ∧ L = [] ∧ h = h0
def Runs (p : Program) (e : Env) (below : List Frame) (s : State) (Q : Option Value → Heap → List Loc → Prop) (k n : Nat) (A : State) : Prop :=
  ∃ s₂ o, Steps p.tables e below A s₂ ∧ s₂.status = .running ∧ Ended s₂ below o ∧ ∃ v L, o = .returned v ∧ Q v s₂.heap L ∧ FrameEnd s o s₂ L k n
section Ends
variable {p : Program} {l : Launch} {e : Env} {R : Room} {s : State} {m : MethodId} {args : Array Value} {below : List Frame} {meth : Method} {c : Code} {T A B : State} {locs : List Loc} {cells slots : Nat} {Q : Option Value → Heap → List Loc → Prop} {k n pc : Nat} {Ls : Array Slot} {rest : List Value}
theorem Runs.go (h : ∀ t, Steps p.tables e below B t → Steps p.tables e below A t) (q : Runs p e below s Q k n B) : Runs p e below s Q k n A := by
  obtain ⟨s₂, o, h1, h2⟩ := q; exact ⟨s₂, o, h _ h1, h2⟩
theorem Runs.endI (X : Stand p l e R s m args below meth c T locs cells slots) (hx : p.tables.exec = Jvm.exec) {z : Int32} (hret : meth.sig.returnType = some .int) (hl : meth.locks = false) (hd : decode c.code pc = .ok (.ireturn, 1)) (hQ : Q (some (.int z)) T.heap locs) (hk : cells ≤ k) (hn : slots ≤ n) : Runs p e below s Q k n (T.setTop (mkF m pc Ls (.int z :: rest))) := by
  obtain ⟨fs, hr, hrun, hended, hW, hsame⟩ := X.leave (v := some (.int z)) (fun h => by rw [hret] at h; cases h) hl
  exact ⟨_, _, retOut X hx hret rfl (Or.inl ⟨rfl, Or.inl rfl, _, rfl⟩) hd hr, hrun, hended, _, _, rfl, hQ, ⟨_, rfl⟩, hW, hsame.mono hk hn⟩
theorem Runs.endJ (X : Stand p l e R s m args below meth c T locs cells slots) (hx : p.tables.exec = Jvm.exec) {z : Int64} (hret : meth.sig.returnType = some .long) (hl : meth.locks = false) (hd : decode c.code pc = .ok (.lreturn, 1)) (hQ : Q (some (.long z)) T.heap locs) (hk : cells ≤ k) (hn : slots ≤ n) : Runs p e below s Q k n (T.setTop (mkF m pc Ls (.long z :: rest))) := by
  obtain ⟨fs, hr, hrun, hended, hW, hsame⟩ := X.leave (v := some (.long z)) (fun h => by rw [hret] at h; cases h) hl
  exact ⟨_, _, retOut X hx hret rfl (Or.inr (Or.inl ⟨rfl, rfl, _, rfl⟩)) hd hr, hrun, hended, _, _, rfl, hQ, ⟨_, rfl⟩, hW, hsame.mono hk hn⟩
theorem Runs.endN (X : Stand p l e R s m args below meth c T locs cells slots) (hx : p.tables.exec = Jvm.exec) {z : Int32} {t : FieldType} (hret : meth.sig.returnType = some t) (ht : t = .boolean ∨ t = .byte ∨ t = .char ∨ t = .short) (hl : meth.locks = false) (hd : decode c.code pc = .ok (.ireturn, 1)) (hQ : Q (some (.int (nar t z))) T.heap locs) (hk : cells ≤ k) (hn : slots ≤ n) : Runs p e below s Q k n (T.setTop (mkF m pc Ls (.int z :: rest))) := by
  obtain ⟨fs, hr, hrun, hended, hW, hsame⟩ := X.leave (v := some (.int (nar t z))) (fun h => by rw [hret] at h; cases h) hl
  exact ⟨_, _, retN X hx hret ht hd hr, hrun, hended, _, _, rfl, hQ, ⟨_, rfl⟩, hW, hsame.mono hk hn⟩
theorem Runs.endV (X : Stand p l e R s m args below meth c T locs cells slots) (hx : p.tables.exec = Jvm.exec) (hret : meth.sig.returnType = none) (hl : meth.locks = false) (hd : decode c.code pc = .ok (.return_, 1)) (hQ : Q none T.heap locs) (hk : cells ≤ k) (hn : slots ≤ n) : Runs p e below s Q k n (T.setTop (mkF m pc Ls [])) := by
  obtain ⟨fs, hr, hrun, hended, hW, hsame⟩ := X.leave (v := none) (fun _ => rfl) hl
  exact ⟨_, _, X.returnOut hx hret hd hr, hrun, hended, _, _, rfl, hQ, ⟨_, rfl⟩, hW, hsame.mono hk hn⟩
theorem Runs.endR (X : Stand p l e R s m args below meth c T locs cells slots) (hx : p.tables.exec = Jvm.exec) {z : Addr} {t : FieldType} (hret : meth.sig.returnType = some t) (ht : t.isReference = true) (hl : meth.locks = false) (hd : decode c.code pc = .ok (.areturn, 1)) (hQ : Q (some (.ref z)) T.heap locs) (hk : cells ≤ k) (hn : slots ≤ n) : Runs p e below s Q k n (T.setTop (mkF m pc Ls (.ref z :: rest))) := by
  obtain ⟨fs, hr, hrun, hended, hW, hsame⟩ := X.leave (v := some (.ref z)) (fun h => by rw [hret] at h; cases h) hl
  exact ⟨_, _, retOut X hx hret (by cases t <;> first | rfl | cases ht) (Or.inr (Or.inr (Or.inr (Or.inr ⟨rfl, ht, rfl⟩)))) hd hr, hrun, hended, _, _, rfl, hQ, ⟨_, rfl⟩, hW, hsame.mono hk hn⟩
end Ends

def f1_30  : Int32 := (0 : Int32)
def f1_0 (x0 : Int64) (x1 : Int32) : Int32 := (if x1 = (0 : Int32) then (if (lcmpW (x0 &&& (2097151 : Int64)) (0 : Int64)) = (0 : Int32) then (1 : Int32) else (0 : Int32)) else (if (lcmpW (x0 &&& (1048576 : Int64)) (0 : Int64)) = (0 : Int32) then (if (lcmpW (x0 &&& (1048575 : Int64)) (1048575 : Int64)) < (0 : Int32) then (1 : Int32) else (f1_30)) else (f1_30)))
def F1 (x0 : Int64) (x1 : Int32) : Int32 := f1_0 x0 x1
def f0_116 (v3 : Int32) (v7 : Int64) (t0 : Int32) : Int32 := (if (F1 v7 v3) = t0 then (1 : Int32) else (0 : Int32))
def f0_75 (v3 : Int32) (v7 : Int64) : Int32 := (if v3 = (0 : Int32) then (if (lcmpW (v7 &&& (2097151 : Int64)) (0 : Int64)) = (0 : Int32) then (f0_116 v3 v7 (1 : Int32)) else (f0_116 v3 v7 (0 : Int32))) else (if (lcmpW (v7 &&& (2097151 : Int64)) (1048575 : Int64)) < (0 : Int32) then (f0_116 v3 v7 (1 : Int32)) else (f0_116 v3 v7 (0 : Int32))))
def f0_11 (v0 : Int64) (v2 : Int32) (t0 : Int32) : Int32 := (if (((v2.toUInt32 >>> ((1 : Int32) &&& 31).toUInt32).toInt32) &&& (3 : Int32)) = (0 : Int32) then (f0_75 t0 v0) else (if (((v2.toUInt32 >>> ((1 : Int32) &&& 31).toUInt32).toInt32) &&& (3 : Int32)) = (1 : Int32) then (f0_75 t0 (v0 &&& (-2097152 : Int64))) else (if (((v2.toUInt32 >>> ((1 : Int32) &&& 31).toUInt32).toInt32) &&& (3 : Int32)) = (2 : Int32) then (f0_75 t0 ((v0 &&& (-2097152 : Int64)) ||| (1048575 : Int64))) else (f0_75 t0 ((v0 &&& (-2097152 : Int64)) ||| (1048574 : Int64))))))
def f0_0 (x0 : Int64) (x1 : Int32) : Int32 := (if (x1 &&& (1 : Int32)) = (0 : Int32) then (f0_11 x0 x1 (0 : Int32)) else (f0_11 x0 x1 (1 : Int32)))
def F0 (x0 : Int64) (x1 : Int32) : Int32 := f0_0 x0 x1
theorem li32_0 : (0 : Int32).toInt = 0 := by decide
theorem li32_1 : (1 : Int32).toInt = 1 := by decide
theorem li32_2 : (2 : Int32).toInt = 2 := by decide
theorem li32_3 : (3 : Int32).toInt = 3 := by decide
theorem li64_m2097152 : (-2097152 : Int64).toInt = -2097152 := by decide
theorem li64_0 : (0 : Int64).toInt = 0 := by decide
theorem li64_1048574 : (1048574 : Int64).toInt = 1048574 := by decide
theorem li64_1048575 : (1048575 : Int64).toInt = 1048575 := by decide
theorem li64_1048576 : (1048576 : Int64).toInt = 1048576 := by decide
theorem li64_2097151 : (2097151 : Int64).toInt = 2097151 := by decide
theorem own_bit (n : Nat) : n &&& 1048576 = n / 1048576 % 2 * 1048576 := by
  -- n &&& 2^20 = (n % 2^21) - (n % 2^20)
  have a1 : n &&& (2 ^ 21 - 1) = n % 2 ^ 21 := Nat.and_two_pow_sub_one_eq_mod n 21
  have s1 : (2097151 : Nat) = 2 ^ 20 * 1 ||| 1048575 := by decide
  have e1 : n &&& 1048576 = (n % 2097152) &&& 1048576 := by
    have : (1048576 : Nat) = (2 ^ 21 - 1) &&& 1048576 := by decide
    rw [this, ← Nat.and_assoc, a1, ← this]
  rw [e1]
  have hm : n % 2097152 < 2097152 := Nat.mod_lt _ (by decide)
  have q : n / 1048576 % 2 = n % 2097152 / 1048576 := by omega
  rw [q]
  generalize n % 2097152 = m at *
  by_cases h : m < 1048576
  · have e2 : m &&& 1048576 = 0 := by
      have a2 : m &&& (2 ^ 20 - 1) = m % 2 ^ 20 := Nat.and_two_pow_sub_one_eq_mod m 20
      have a3 : m &&& (2 ^ 20 - 1) = m := by rw [a2]; omega
      rw [← a3, Nat.and_assoc]
      have : (2 ^ 20 - 1 : Nat) &&& 1048576 = 0 := by decide
      rw [this, Nat.and_zero]
    rw [e2]; omega
  · have e3 : m = 2 ^ 20 * 1 ||| (m - 1048576) := by
      rw [← Nat.two_pow_add_eq_or_of_lt (by omega)]; omega
    have e2 : m &&& 1048576 = 1048576 := by
      rw [e3, Nat.and_or_distrib_right]
      have a2 : (m - 1048576) &&& (2 ^ 20 - 1) = (m - 1048576) % 2 ^ 20 := Nat.and_two_pow_sub_one_eq_mod _ 20
      have a3 : (m - 1048576) &&& (2 ^ 20 - 1) = m - 1048576 := by rw [a2]; omega
      have a4 : (m - 1048576) &&& 1048576 = 0 := by
        rw [← a3, Nat.and_assoc]
        have : (2 ^ 20 - 1 : Nat) &&& 1048576 = 0 := by decide
        rw [this, Nat.and_zero]
      rw [a4]
      decide
    rw [e2]; omega
theorem own_and (t : Int64) : (t &&& 1048576).toInt = t.toInt / 1048576 % 2 * 1048576 := by
  have hl := t.toBitVec.isLt
  have e0 : t.toInt = t.toBitVec.toInt := rfl
  have e1 : (t &&& 1048576).toInt = (t.toBitVec &&& (1048576 : Int64).toBitVec).toInt := rfl
  have e2 : (t.toBitVec &&& (1048576 : Int64).toBitVec).toNat = t.toBitVec.toNat / 1048576 % 2 * 1048576 := by rw [BitVec.toNat_and, ← own_bit]; rfl
  rw [e1, BitVec.toInt_eq_toNat_cond, e2, e0, BitVec.toInt_eq_toNat_cond]
  generalize t.toBitVec.toNat = n at *
  split <;> split <;> omega
theorem own_core (v3 : Int32) (t : Int64) : f0_75 v3 t = 1 := by
  have m1 : (t &&& (2097151 : Int64)).toInt = t.toInt % 2097152 := by have := c_maskL t 2097151 21 (by decide) (by decide); simpa using this
  have m2 : (t &&& (1048575 : Int64)).toInt = t.toInt % 1048576 := by have := c_maskL t 1048575 20 (by decide) (by decide); simpa using this
  have m3 := own_and t
  have z64 : (0 : Int64).toInt = 0 := by decide
  have k64 : (1048575 : Int64).toInt = 1048575 := by decide
  simp only [f0_75, f0_116, F1, f1_0, f1_30, lw_lt, lw_eq]
  by_cases h : v3 = (0 : Int32)
  · simp only [if_pos h]
    split <;> rfl
  · simp only [if_neg h, Int64.lt_iff_toInt_lt, ← Int64.toInt_inj, m1, m2, m3, z64, k64]
    generalize t.toInt = z
    clear m1 m2 m3
    by_cases h1 : z % 2097152 < 1048575
    · have h2 : z / 1048576 % 2 * 1048576 = 0 := by omega
      have h3 : z % 1048576 < 1048575 := by omega
      rw [if_pos h1, if_pos h2, if_pos h3]; rfl
    · rw [if_neg h1]
      by_cases h2 : z / 1048576 % 2 * 1048576 = 0
      · have h3 : ¬ z % 1048576 < 1048575 := by omega
        rw [if_pos h2, if_neg h3]; rfl
      · rw [if_neg h2]; rfl
theorem law_true (x0 : Int64) (x1 : Int32) : F0 x0 x1 = 1 := by
  simp only [F0, f0_0, f0_11, own_core]
  repeat' split
  all_goals rfl

theorem pd_0 : parseMethodDescriptor "(JZ)Z" = some ⟨[.long, .boolean], some .boolean⟩ := by decide +kernel
theorem d1_0 : decode prog_5_method_10_code 0 = .ok (.iload_n 2, 1) := by decide +kernel
theorem d1_1 : decode prog_5_method_10_code 1 = .ok (.ifCond .eq 33, 3) := by decide +kernel
theorem d1_4 : decode prog_5_method_10_code 4 = .ok (.lload_n 0, 1) := by decide +kernel
theorem d1_5 : decode prog_5_method_10_code 5 = .ok (.ldc2_w 24, 3) := by decide +kernel
theorem d1_8 : decode prog_5_method_10_code 8 = .ok (.land, 1) := by decide +kernel
theorem d1_9 : decode prog_5_method_10_code 9 = .ok (.lconst 0, 1) := by decide +kernel
theorem d1_10 : decode prog_5_method_10_code 10 = .ok (.lcmp, 1) := by decide +kernel
theorem d1_11 : decode prog_5_method_10_code 11 = .ok (.ifCond .ne 19, 3) := by decide +kernel
theorem d1_14 : decode prog_5_method_10_code 14 = .ok (.lload_n 0, 1) := by decide +kernel
theorem d1_15 : decode prog_5_method_10_code 15 = .ok (.ldc2_w 22, 3) := by decide +kernel
theorem d1_18 : decode prog_5_method_10_code 18 = .ok (.land, 1) := by decide +kernel
theorem d1_19 : decode prog_5_method_10_code 19 = .ok (.ldc2_w 22, 3) := by decide +kernel
theorem d1_22 : decode prog_5_method_10_code 22 = .ok (.lcmp, 1) := by decide +kernel
theorem d1_23 : decode prog_5_method_10_code 23 = .ok (.ifCond .ge 7, 3) := by decide +kernel
theorem d1_26 : decode prog_5_method_10_code 26 = .ok (.iconst 1, 1) := by decide +kernel
theorem d1_27 : decode prog_5_method_10_code 27 = .ok (.goto 22, 3) := by decide +kernel
theorem d1_30 : decode prog_5_method_10_code 30 = .ok (.iconst 0, 1) := by decide +kernel
theorem d1_31 : decode prog_5_method_10_code 31 = .ok (.goto 18, 3) := by decide +kernel
theorem d1_34 : decode prog_5_method_10_code 34 = .ok (.lload_n 0, 1) := by decide +kernel
theorem d1_35 : decode prog_5_method_10_code 35 = .ok (.ldc2_w 50, 3) := by decide +kernel
theorem d1_38 : decode prog_5_method_10_code 38 = .ok (.land, 1) := by decide +kernel
theorem d1_39 : decode prog_5_method_10_code 39 = .ok (.lconst 0, 1) := by decide +kernel
theorem d1_40 : decode prog_5_method_10_code 40 = .ok (.lcmp, 1) := by decide +kernel
theorem d1_41 : decode prog_5_method_10_code 41 = .ok (.ifCond .ne 7, 3) := by decide +kernel
theorem d1_44 : decode prog_5_method_10_code 44 = .ok (.iconst 1, 1) := by decide +kernel
theorem d1_45 : decode prog_5_method_10_code 45 = .ok (.goto 4, 3) := by decide +kernel
theorem d1_48 : decode prog_5_method_10_code 48 = .ok (.iconst 0, 1) := by decide +kernel
theorem d1_49 : decode prog_5_method_10_code 49 = .ok (.ireturn, 1) := by decide +kernel
theorem pn_1 : plainName "evenhand/QueuedLock" = true := by first | (simp [plainName, overriddenIn]; done) | decide +kernel
theorem ef_1 (m : MethodId) (x0 : Int64) (x1 : Int32) : entryFrame m #[(.long x0), (.int x1)] 3 = mkF m 0 #[.val (.long x0), .second, .val (.int x1)] [] := by first | (simp [entryFrame, mkF, argsToLocals, Value.category]; done) | rfl
set_option maxRecDepth 65536 in
set_option maxHeartbeats 40000000 in
theorem rm1 (l : Launch) (Z : State) (a0 : Array Value) (hw : ∀ d ∈ tables_1, d.before a0 Z = true) (ws : List Jvm.Cond) (x0 : Int64) (x1 : Int32) (h0 : Heap) :
    MetFree l (⟨"evenhand/QueuedLock", "holdsAdmit", "(JZ)Z"⟩ : MethodName) (head1 (Jvm.Cond.code (⟨"evenhand/QueuedLock", "holdsAdmit", "(JZ)Z"⟩ : MethodName) prog_5_method_10_code 3 (some .boolean) :: ws) ({ frames := 0, cells := 0, slots := 0, locals := 0 } : Room)) (fun a U => a = #[(.long x0), (.int x1)] ∧ Z.Warmed39 U.vm ∧ U.heap = h0) (fun _ _ _ _ _ => True) (fun _ U o U' => ∃ v L, o = .returned v ∧ QP (.int (F1 x0 x1)) h0 v U'.heap L ∧ FrameEnd U o U' L ({ frames := 0, cells := 0, slots := 0, locals := 0 } : Room).cells ({ frames := 0, cells := 0, slots := 0, locals := 0 } : Room).slots) := by
  refine MetFree.of_bodySF (plainFor_of_name pn_1) hisR ?_
  intro p e s m args below meth c s₁ Bd hml0 hP hK
  obtain ⟨rfl, hZ, hh⟩ := hP
  have hx := Bd.exec
  have hby := Bd.bytes
  have hml : c.maxLocals = 3 := hml0
  have hown : s.vm.findClass "evenhand/QueuedLock" = some m.cls := findClass_of_methodNamed Bd.named
  have X0 : Stand p l e ({ frames := 0, cells := 0, slots := 0, locals := 0 } : Room) s m #[(.long x0), (.int x1)] below meth c s₁ [] 0 0 := Stand.of_body Bd
  have e0 : s₁.heap = h0 := by rw [← hh, Bd.state]; rfl
  show Runs p e below s (QP (.int (F1 x0 x1)) h0) ({ frames := 0, cells := 0, slots := 0, locals := 0 } : Room).cells ({ frames := 0, cells := 0, slots := 0, locals := 0 } : Room).slots (s₁.setTop (entryFrame m #[(.long x0), (.int x1)] 3))
  rw [ef_1 m x0 x1]
  obtain ⟨r, hF⟩ : ∃ r, F1 x0 x1 = r := ⟨_, rfl⟩
  rw [hF]
  have k_30 : ∀ (T : State) (X : Stand p l e ({ frames := 0, cells := 0, slots := 0, locals := 0 } : Room) s m #[(.long x0), (.int x1)] below meth c T [] 0 0) (eT : T.heap = h0) (v0 : Int64) (v2 : Int32), f1_30 = r → Runs p e below s (QP (.int r) h0) ({ frames := 0, cells := 0, slots := 0, locals := 0 } : Room).cells ({ frames := 0, cells := 0, slots := 0, locals := 0 } : Room).slots (T.setTop (mkF m 30 #[.val (.long v0), .second, .val (.int v2)] [])) := by
    intro T X eT v0 v2 hv
    unfold f1_30 at hv
    refine Runs.go (fun _ => XS.iconst X.here hx rfl (hb hby d1_30)) ?_
    show Runs p e below s _ _ _ (T.setTop (mkF m 31 #[.val (.long v0), .second, .val (.int v2)] [(.int (0 : Int32))]))
    refine Runs.go (fun _ => XS.goto X.here hx rfl (pc0 := 31) (pc' := 49) rfl (hb hby d1_31) (by decide) (by decide)) ?_
    show Runs p e below s _ _ _ (T.setTop (mkF m 49 #[.val (.long v0), .second, .val (.int v2)] [(.int (0 : Int32))]))
    exact Runs.endN X hx (t := .boolean) Bd.returns (by simp) Bd.notSynchronized (hb hby d1_49) ⟨congrArg (fun z => some (Value.int z)) hv, rfl, eT⟩ (by decide) (by decide)
  have k_0 : ∀ (T : State) (X : Stand p l e ({ frames := 0, cells := 0, slots := 0, locals := 0 } : Room) s m #[(.long x0), (.int x1)] below meth c T [] 0 0) (eT : T.heap = h0), f1_0 x0 x1 = r → Runs p e below s (QP (.int r) h0) ({ frames := 0, cells := 0, slots := 0, locals := 0 } : Room).cells ({ frames := 0, cells := 0, slots := 0, locals := 0 } : Room).slots (T.setTop (mkF m 0 #[.val (.long x0), .second, .val (.int x1)] [])) := by
    intro T X eT  hv
    unfold f1_0 at hv
    refine Runs.go (fun _ => XS.iloadN X.here hx rfl (hb hby d1_0) rfl) ?_
    show Runs p e below s _ _ _ (T.setTop (mkF m 1 #[.val (.long x0), .second, .val (.int x1)] [(.int x1)]))
    by_cases hc1 : x1 = (0 : Int32)
    · have hv := (if_pos hc1).symm.trans hv
      refine Runs.go (fun _ => XS.ifYes X.here hx rfl (pc0 := 1) (pc' := 34) rfl (hb hby d1_1) rfl ((if0 _ _).trans (teq hc1).1) (by decide) (by decide)) ?_
      show Runs p e below s _ _ _ (T.setTop (mkF m 34 #[.val (.long x0), .second, .val (.int x1)] []))
      refine Runs.go (fun _ => XS.lloadN X.here hx rfl (hb hby d1_34) rfl) ?_
      show Runs p e below s _ _ _ (T.setTop (mkF m 35 #[.val (.long x0), .second, .val (.int x1)] [(.long x0)]))
      refine Runs.go (X.ldc2Long hx hown (mvT hZ (hw _ (List.mem_of_getElem? (i := 6) rfl))) (g := (mkF m 35 #[.val (.long x0), .second, .val (.int x1)] [(.long x0)])) rfl (hb hby d1_35)) ?_
      show Runs p e below s _ _ _ (T.setTop (mkF m 38 #[.val (.long x0), .second, .val (.int x1)] [(.long (2097151 : Int64)), (.long x0)]))
      refine Runs.go (fun _ => XS.land X.here hx rfl (hb hby d1_38) rfl) ?_
      show Runs p e below s _ _ _ (T.setTop (mkF m 39 #[.val (.long x0), .second, .val (.int x1)] [(.long (x0 &&& (2097151 : Int64)))]))
      refine Runs.go (fun _ => XS.lconst X.here hx rfl (hb hby d1_39)) ?_
      show Runs p e below s _ _ _ (T.setTop (mkF m 40 #[.val (.long x0), .second, .val (.int x1)] [(.long (0 : Int64)), (.long (x0 &&& (2097151 : Int64)))]))
      refine Runs.go (fun _ => XS.lcmp X.here hx rfl (hb hby d1_40) rfl) ?_
      show Runs p e below s _ _ _ (T.setTop (mkF m 41 #[.val (.long x0), .second, .val (.int x1)] [(.int (lcmpW (x0 &&& (2097151 : Int64)) (0 : Int64)))]))
      by_cases hc41 : (lcmpW (x0 &&& (2097151 : Int64)) (0 : Int64)) = (0 : Int32)
      · have hv := (if_pos hc41).symm.trans hv
        refine Runs.go (fun _ => XS.ifNo X.here hx rfl (hb hby d1_41) rfl ((if0 _ _).trans (teq hc41).2)) ?_
        show Runs p e below s _ _ _ (T.setTop (mkF m 44 #[.val (.long x0), .second, .val (.int x1)] []))
        refine Runs.go (fun _ => XS.iconst X.here hx rfl (hb hby d1_44)) ?_
        show Runs p e below s _ _ _ (T.setTop (mkF m 45 #[.val (.long x0), .second, .val (.int x1)] [(.int (1 : Int32))]))
        refine Runs.go (fun _ => XS.goto X.here hx rfl (pc0 := 45) (pc' := 49) rfl (hb hby d1_45) (by decide) (by decide)) ?_
        show Runs p e below s _ _ _ (T.setTop (mkF m 49 #[.val (.long x0), .second, .val (.int x1)] [(.int (1 : Int32))]))
        exact Runs.endN X hx (t := .boolean) Bd.returns (by simp) Bd.notSynchronized (hb hby d1_49) ⟨congrArg (fun z => some (Value.int z)) hv, rfl, eT⟩ (by decide) (by decide)
      · have hv := (if_neg hc41).symm.trans hv
        refine Runs.go (fun _ => XS.ifYes X.here hx rfl (pc0 := 41) (pc' := 48) rfl (hb hby d1_41) rfl ((if0 _ _).trans (feq hc41).2) (by decide) (by decide)) ?_
        show Runs p e below s _ _ _ (T.setTop (mkF m 48 #[.val (.long x0), .second, .val (.int x1)] []))
        refine Runs.go (fun _ => XS.iconst X.here hx rfl (hb hby d1_48)) ?_
        show Runs p e below s _ _ _ (T.setTop (mkF m 49 #[.val (.long x0), .second, .val (.int x1)] [(.int (0 : Int32))]))
        exact Runs.endN X hx (t := .boolean) Bd.returns (by simp) Bd.notSynchronized (hb hby d1_49) ⟨congrArg (fun z => some (Value.int z)) hv, rfl, eT⟩ (by decide) (by decide)
    · have hv := (if_neg hc1).symm.trans hv
      refine Runs.go (fun _ => XS.ifNo X.here hx rfl (hb hby d1_1) rfl ((if0 _ _).trans (feq hc1).1)) ?_
      show Runs p e below s _ _ _ (T.setTop (mkF m 4 #[.val (.long x0), .second, .val (.int x1)] []))
      refine Runs.go (fun _ => XS.lloadN X.here hx rfl (hb hby d1_4) rfl) ?_
      show Runs p e below s _ _ _ (T.setTop (mkF m 5 #[.val (.long x0), .second, .val (.int x1)] [(.long x0)]))
      refine Runs.go (X.ldc2Long hx hown (mvT hZ (hw _ (List.mem_of_getElem? (i := 9) rfl))) (g := (mkF m 5 #[.val (.long x0), .second, .val (.int x1)] [(.long x0)])) rfl (hb hby d1_5)) ?_
      show Runs p e below s _ _ _ (T.setTop (mkF m 8 #[.val (.long x0), .second, .val (.int x1)] [(.long (1048576 : Int64)), (.long x0)]))
      refine Runs.go (fun _ => XS.land X.here hx rfl (hb hby d1_8) rfl) ?_
      show Runs p e below s _ _ _ (T.setTop (mkF m 9 #[.val (.long x0), .second, .val (.int x1)] [(.long (x0 &&& (1048576 : Int64)))]))
      refine Runs.go (fun _ => XS.lconst X.here hx rfl (hb hby d1_9)) ?_
      show Runs p e below s _ _ _ (T.setTop (mkF m 10 #[.val (.long x0), .second, .val (.int x1)] [(.long (0 : Int64)), (.long (x0 &&& (1048576 : Int64)))]))
      refine Runs.go (fun _ => XS.lcmp X.here hx rfl (hb hby d1_10) rfl) ?_
      show Runs p e below s _ _ _ (T.setTop (mkF m 11 #[.val (.long x0), .second, .val (.int x1)] [(.int (lcmpW (x0 &&& (1048576 : Int64)) (0 : Int64)))]))
      by_cases hc11 : (lcmpW (x0 &&& (1048576 : Int64)) (0 : Int64)) = (0 : Int32)
      · have hv := (if_pos hc11).symm.trans hv
        refine Runs.go (fun _ => XS.ifNo X.here hx rfl (hb hby d1_11) rfl ((if0 _ _).trans (teq hc11).2)) ?_
        show Runs p e below s _ _ _ (T.setTop (mkF m 14 #[.val (.long x0), .second, .val (.int x1)] []))
        refine Runs.go (fun _ => XS.lloadN X.here hx rfl (hb hby d1_14) rfl) ?_
        show Runs p e below s _ _ _ (T.setTop (mkF m 15 #[.val (.long x0), .second, .val (.int x1)] [(.long x0)]))
        refine Runs.go (X.ldc2Long hx hown (mvT hZ (hw _ (List.mem_of_getElem? (i := 10) rfl))) (g := (mkF m 15 #[.val (.long x0), .second, .val (.int x1)] [(.long x0)])) rfl (hb hby d1_15)) ?_
        show Runs p e below s _ _ _ (T.setTop (mkF m 18 #[.val (.long x0), .second, .val (.int x1)] [(.long (1048575 : Int64)), (.long x0)]))
        refine Runs.go (fun _ => XS.land X.here hx rfl (hb hby d1_18) rfl) ?_
        show Runs p e below s _ _ _ (T.setTop (mkF m 19 #[.val (.long x0), .second, .val (.int x1)] [(.long (x0 &&& (1048575 : Int64)))]))
        refine Runs.go (X.ldc2Long hx hown (mvT hZ (hw _ (List.mem_of_getElem? (i := 10) rfl))) (g := (mkF m 19 #[.val (.long x0), .second, .val (.int x1)] [(.long (x0 &&& (1048575 : Int64)))])) rfl (hb hby d1_19)) ?_
        show Runs p e below s _ _ _ (T.setTop (mkF m 22 #[.val (.long x0), .second, .val (.int x1)] [(.long (1048575 : Int64)), (.long (x0 &&& (1048575 : Int64)))]))
        refine Runs.go (fun _ => XS.lcmp X.here hx rfl (hb hby d1_22) rfl) ?_
        show Runs p e below s _ _ _ (T.setTop (mkF m 23 #[.val (.long x0), .second, .val (.int x1)] [(.int (lcmpW (x0 &&& (1048575 : Int64)) (1048575 : Int64)))]))
        by_cases hc23 : (lcmpW (x0 &&& (1048575 : Int64)) (1048575 : Int64)) < (0 : Int32)
        · have hv := (if_pos hc23).symm.trans hv
          refine Runs.go (fun _ => XS.ifNo X.here hx rfl (hb hby d1_23) rfl ((if0 _ _).trans (tlt hc23).2.1)) ?_
          show Runs p e below s _ _ _ (T.setTop (mkF m 26 #[.val (.long x0), .second, .val (.int x1)] []))
          refine Runs.go (fun _ => XS.iconst X.here hx rfl (hb hby d1_26)) ?_
          show Runs p e below s _ _ _ (T.setTop (mkF m 27 #[.val (.long x0), .second, .val (.int x1)] [(.int (1 : Int32))]))
          refine Runs.go (fun _ => XS.goto X.here hx rfl (pc0 := 27) (pc' := 49) rfl (hb hby d1_27) (by decide) (by decide)) ?_
          show Runs p e below s _ _ _ (T.setTop (mkF m 49 #[.val (.long x0), .second, .val (.int x1)] [(.int (1 : Int32))]))
          exact Runs.endN X hx (t := .boolean) Bd.returns (by simp) Bd.notSynchronized (hb hby d1_49) ⟨congrArg (fun z => some (Value.int z)) hv, rfl, eT⟩ (by decide) (by decide)
        · have hv := (if_neg hc23).symm.trans hv
          refine Runs.go (fun _ => XS.ifYes X.here hx rfl (pc0 := 23) (pc' := 30) rfl (hb hby d1_23) rfl ((if0 _ _).trans (flt hc23).2.1) (by decide) (by decide)) ?_
          show Runs p e below s _ _ _ (T.setTop (mkF m 30 #[.val (.long x0), .second, .val (.int x1)] []))
          exact k_30 _ X eT x0 x1 hv
      · have hv := (if_neg hc11).symm.trans hv
        refine Runs.go (fun _ => XS.ifYes X.here hx rfl (pc0 := 11) (pc' := 30) rfl (hb hby d1_11) rfl ((if0 _ _).trans (feq hc11).2) (by decide) (by decide)) ?_
        show Runs p e below s _ _ _ (T.setTop (mkF m 30 #[.val (.long x0), .second, .val (.int x1)] []))
        exact k_30 _ X eT x0 x1 hv
  exact k_0 _ X0 e0 hF
theorem pn_0 : plainName "evenhand/QueuedLockHoldsAdmitPinLaw" = true := by first | (simp [plainName, overriddenIn]; done) | decide +kernel
theorem ef_0 (m : MethodId) (x0 : Int64) (x1 : Int32) : entryFrame m #[(.long x0), (.int x1)] maxLocals = mkF m 0 #[.val (.long x0), .second, .val (.int x1), .unset, .unset, .unset, .unset, .unset, .unset, .unset, .unset, .unset] [] := by first | (simp [entryFrame, mkF, argsToLocals, Value.category, maxLocals]; done) | rfl
set_option maxRecDepth 65536 in
set_option maxHeartbeats 40000000 in
theorem rm0 (l : Launch) (Z : State) (a0 : Array Value) (hw : ∀ d ∈ tables_1, d.before a0 Z = true) (ws : List Jvm.Cond) (x0 : Int64) (x1 : Int32) (h0 : Heap) :
    MetFree l x (head1 (Jvm.Cond.code x code maxLocals ret :: ws) room_1) (fun a U => a = #[(.long x0), (.int x1)] ∧ Z.Warmed39 U.vm ∧ U.heap = h0) (fun _ _ _ _ _ => True) (fun _ U o U' => ∃ v L, o = .returned v ∧ QP (.int (F0 x0 x1)) h0 v U'.heap L ∧ FrameEnd U o U' L 0 0) := by
  refine MetFree.of_bodySF (plainFor_of_name pn_0) hisR ?_
  intro p e s m args below meth c s₁ Bd hml0 hP hK
  obtain ⟨rfl, hZ, hh⟩ := hP
  have hx := Bd.exec
  have hby := Bd.bytes
  have hml : c.maxLocals = 12 := hml0
  have hown : s.vm.findClass "evenhand/QueuedLockHoldsAdmitPinLaw" = some m.cls := findClass_of_methodNamed Bd.named
  have X0 : Stand p l e room_1 s m #[(.long x0), (.int x1)] below meth c s₁ [] 0 0 := Stand.of_body Bd
  have e0 : s₁.heap = h0 := by rw [← hh, Bd.state]; rfl
  show Runs p e below s (QP (.int (F0 x0 x1)) h0) 0 0 (s₁.setTop (entryFrame m #[(.long x0), (.int x1)] maxLocals))
  rw [ef_0 m x0 x1]
  obtain ⟨r, hF⟩ : ∃ r, F0 x0 x1 = r := ⟨_, rfl⟩
  rw [hF]
  have k_116 : ∀ (T : State) (X : Stand p l e room_1 s m #[(.long x0), (.int x1)] below meth c T [] 0 0) (eT : T.heap = h0) (v0 : Int64) (v2 : Int32) (v3 : Int32) (v4 : Int32) (v5 : Int64) (v7 : Int64) (v9 : Int64) (t0 : Int32), f0_116 v3 v7 t0 = r → Runs p e below s (QP (.int r) h0) 0 0 (T.setTop (mkF m 116 #[.val (.long v0), .second, .val (.int v2), .val (.int v3), .val (.int v4), .val (.long v5), .second, .val (.long v7), .second, .val (.long v9), .second, .unset] [(.int t0)])) := by
    intro T X eT v0 v2 v3 v4 v5 v7 v9 t0 hv
    unfold f0_116 at hv
    refine Runs.go (fun _ => XS.istore X.here hx rfl (hb hby at_116) rfl (l' := #[.val (.long v0), .second, .val (.int v2), .val (.int v3), .val (.int v4), .val (.long v5), .second, .val (.long v7), .second, .val (.long v9), .second, .val (.int t0)]) rfl) ?_
    show Runs p e below s _ _ _ (T.setTop (mkF m 118 #[.val (.long v0), .second, .val (.int v2), .val (.int v3), .val (.int v4), .val (.long v5), .second, .val (.long v7), .second, .val (.long v9), .second, .val (.int t0)] []))
    refine Runs.go (fun _ => XS.lload X.here hx rfl (hb hby at_118) rfl) ?_
    show Runs p e below s _ _ _ (T.setTop (mkF m 120 #[.val (.long v0), .second, .val (.int v2), .val (.int v3), .val (.int v4), .val (.long v5), .second, .val (.long v7), .second, .val (.long v9), .second, .val (.int t0)] [(.long v7)]))
    refine Runs.go (fun _ => XS.iloadN X.here hx rfl (hb hby at_120) rfl) ?_
    show Runs p e below s _ _ _ (T.setTop (mkF m 121 #[.val (.long v0), .second, .val (.int v2), .val (.int v3), .val (.int v4), .val (.long v5), .second, .val (.long v7), .second, .val (.long v9), .second, .val (.int t0)] [(.int v3), (.long v7)]))
    obtain ⟨_, _, ⟨Tc121_1, Lc121_1, kc121_1, nc121_1⟩, -, Xc121_1, ⟨Lcc121_1, ⟨rfl, rfl, ec121_1⟩, lc121_1, yc121_1, zc121_1⟩, stc121_1⟩ := Jvm.LawKit.callS X hx (y := (⟨"evenhand/QueuedLock", "holdsAdmit", "(JZ)Z"⟩ : MethodName)) hown (mvT hZ (hw _ (List.mem_of_getElem? (i := 2) rfl))) (mvT hZ (hw _ (List.mem_of_getElem? (i := 3) rfl))) (mvT hZ (hw _ (List.mem_of_getElem? (i := 4) rfl))) (mvT hZ (hw _ (List.mem_of_getElem? (i := 5) rfl))) (by decide) (backOf (W := 0) (rm1 l Z a0 hw [] v7 v3 h0) hZ (hw _ (List.mem_of_getElem? (i := 5) rfl)) (hw _ (List.mem_of_getElem? (i := 4) rfl)) (by decide) (by decide)) (g := (mkF m 121 #[.val (.long v0), .second, .val (.int v2), .val (.int v3), .val (.int v4), .val (.long v5), .second, .val (.long v7), .second, .val (.long v9), .second, .val (.int t0)] [(.int v3), (.long v7)])) rfl (by rw [hml]; rfl) (argsL := [(.long v7), (.int v3)]) (rest := []) (lenOf pd_0 rfl) rfl (by show 2 * 0 + _ ≤ _; exact Nat.le_of_eq rfl) (hb hby at_121) (fun _ _ => ⟨rfl, eT, (by decide : 0 + 0 ≤ _), (by decide : 0 + 0 ≤ _)⟩)
    dsimp only [Pt.U, Pt.locs, Pt.cells, Pt.slots] at Xc121_1 lc121_1 yc121_1 zc121_1 stc121_1 ec121_1
    subst lc121_1 yc121_1 zc121_1
    refine Runs.go stc121_1 ?_
    show Runs p e below s _ _ _ (Tc121_1.setTop (mkF m 124 #[.val (.long v0), .second, .val (.int v2), .val (.int v3), .val (.int v4), .val (.long v5), .second, .val (.long v7), .second, .val (.long v9), .second, .val (.int t0)] [(.int (F1 v7 v3))]))
    refine Runs.go (fun _ => XS.iload Xc121_1.here hx rfl (hb hby at_124) rfl) ?_
    show Runs p e below s _ _ _ (Tc121_1.setTop (mkF m 126 #[.val (.long v0), .second, .val (.int v2), .val (.int v3), .val (.int v4), .val (.long v5), .second, .val (.long v7), .second, .val (.long v9), .second, .val (.int t0)] [(.int t0), (.int (F1 v7 v3))]))
    by_cases hc126 : (F1 v7 v3) = t0
    · have hv := (if_pos hc126).symm.trans hv
      refine Runs.go (fun _ => XS.icmpNo Xc121_1.here hx rfl (hb hby at_126) rfl (teq hc126).2) ?_
      show Runs p e below s _ _ _ (Tc121_1.setTop (mkF m 129 #[.val (.long v0), .second, .val (.int v2), .val (.int v3), .val (.int v4), .val (.long v5), .second, .val (.long v7), .second, .val (.long v9), .second, .val (.int t0)] []))
      refine Runs.go (fun _ => XS.iconst Xc121_1.here hx rfl (hb hby at_129)) ?_
      show Runs p e below s _ _ _ (Tc121_1.setTop (mkF m 130 #[.val (.long v0), .second, .val (.int v2), .val (.int v3), .val (.int v4), .val (.long v5), .second, .val (.long v7), .second, .val (.long v9), .second, .val (.int t0)] [(.int (1 : Int32))]))
      refine Runs.go (fun _ => XS.goto Xc121_1.here hx rfl (pc0 := 130) (pc' := 134) rfl (hb hby at_130) (by decide) (by decide)) ?_
      show Runs p e below s _ _ _ (Tc121_1.setTop (mkF m 134 #[.val (.long v0), .second, .val (.int v2), .val (.int v3), .val (.int v4), .val (.long v5), .second, .val (.long v7), .second, .val (.long v9), .second, .val (.int t0)] [(.int (1 : Int32))]))
      exact Runs.endN Xc121_1 hx (t := .boolean) Bd.returns (by simp) Bd.notSynchronized (hb hby at_134) ⟨congrArg (fun z => some (Value.int z)) hv, rfl, ec121_1⟩ (by decide) (by decide)
    · have hv := (if_neg hc126).symm.trans hv
      refine Runs.go (fun _ => XS.icmpYes Xc121_1.here hx rfl (pc0 := 126) (pc' := 133) rfl (hb hby at_126) rfl (feq hc126).2 (by decide) (by decide)) ?_
      show Runs p e below s _ _ _ (Tc121_1.setTop (mkF m 133 #[.val (.long v0), .second, .val (.int v2), .val (.int v3), .val (.int v4), .val (.long v5), .second, .val (.long v7), .second, .val (.long v9), .second, .val (.int t0)] []))
      refine Runs.go (fun _ => XS.iconst Xc121_1.here hx rfl (hb hby at_133)) ?_
      show Runs p e below s _ _ _ (Tc121_1.setTop (mkF m 134 #[.val (.long v0), .second, .val (.int v2), .val (.int v3), .val (.int v4), .val (.long v5), .second, .val (.long v7), .second, .val (.long v9), .second, .val (.int t0)] [(.int (0 : Int32))]))
      exact Runs.endN Xc121_1 hx (t := .boolean) Bd.returns (by simp) Bd.notSynchronized (hb hby at_134) ⟨congrArg (fun z => some (Value.int z)) hv, rfl, ec121_1⟩ (by decide) (by decide)
  have k_75 : ∀ (T : State) (X : Stand p l e room_1 s m #[(.long x0), (.int x1)] below meth c T [] 0 0) (eT : T.heap = h0) (v0 : Int64) (v2 : Int32) (v3 : Int32) (v4 : Int32) (v5 : Int64) (v7 : Int64), f0_75 v3 v7 = r → Runs p e below s (QP (.int r) h0) 0 0 (T.setTop (mkF m 75 #[.val (.long v0), .second, .val (.int v2), .val (.int v3), .val (.int v4), .val (.long v5), .second, .val (.long v7), .second, .unset, .unset, .unset] [])) := by
    intro T X eT v0 v2 v3 v4 v5 v7 hv
    unfold f0_75 at hv
    refine Runs.go (fun _ => XS.lload X.here hx rfl (hb hby at_75) rfl) ?_
    show Runs p e below s _ _ _ (T.setTop (mkF m 77 #[.val (.long v0), .second, .val (.int v2), .val (.int v3), .val (.int v4), .val (.long v5), .second, .val (.long v7), .second, .unset, .unset, .unset] [(.long v7)]))
    refine Runs.go (X.ldc2Long hx hown (mvT hZ (hw _ (List.mem_of_getElem? (i := 1) rfl))) (g := (mkF m 77 #[.val (.long v0), .second, .val (.int v2), .val (.int v3), .val (.int v4), .val (.long v5), .second, .val (.long v7), .second, .unset, .unset, .unset] [(.long v7)])) rfl (hb hby at_77)) ?_
    show Runs p e below s _ _ _ (T.setTop (mkF m 80 #[.val (.long v0), .second, .val (.int v2), .val (.int v3), .val (.int v4), .val (.long v5), .second, .val (.long v7), .second, .unset, .unset, .unset] [(.long (2097151 : Int64)), (.long v7)]))
    refine Runs.go (fun _ => XS.land X.here hx rfl (hb hby at_80) rfl) ?_
    show Runs p e below s _ _ _ (T.setTop (mkF m 81 #[.val (.long v0), .second, .val (.int v2), .val (.int v3), .val (.int v4), .val (.long v5), .second, .val (.long v7), .second, .unset, .unset, .unset] [(.long (v7 &&& (2097151 : Int64)))]))
    refine Runs.go (fun _ => XS.lstore X.here hx rfl (hb hby at_81) rfl (l' := #[.val (.long v0), .second, .val (.int v2), .val (.int v3), .val (.int v4), .val (.long v5), .second, .val (.long v7), .second, .val (.long (v7 &&& (2097151 : Int64))), .second, .unset]) rfl) ?_
    show Runs p e below s _ _ _ (T.setTop (mkF m 83 #[.val (.long v0), .second, .val (.int v2), .val (.int v3), .val (.int v4), .val (.long v5), .second, .val (.long v7), .second, .val (.long (v7 &&& (2097151 : Int64))), .second, .unset] []))
    refine Runs.go (fun _ => XS.iloadN X.here hx rfl (hb hby at_83) rfl) ?_
    show Runs p e below s _ _ _ (T.setTop (mkF m 84 #[.val (.long v0), .second, .val (.int v2), .val (.int v3), .val (.int v4), .val (.long v5), .second, .val (.long v7), .second, .val (.long (v7 &&& (2097151 : Int64))), .second, .unset] [(.int v3)]))
    by_cases hc84 : v3 = (0 : Int32)
    · have hv := (if_pos hc84).symm.trans hv
      refine Runs.go (fun _ => XS.ifYes X.here hx rfl (pc0 := 84) (pc' := 104) rfl (hb hby at_84) rfl ((if0 _ _).trans (teq hc84).1) (by decide) (by decide)) ?_
      show Runs p e below s _ _ _ (T.setTop (mkF m 104 #[.val (.long v0), .second, .val (.int v2), .val (.int v3), .val (.int v4), .val (.long v5), .second, .val (.long v7), .second, .val (.long (v7 &&& (2097151 : Int64))), .second, .unset] []))
      refine Runs.go (fun _ => XS.lload X.here hx rfl (hb hby at_104) rfl) ?_
      show Runs p e below s _ _ _ (T.setTop (mkF m 106 #[.val (.long v0), .second, .val (.int v2), .val (.int v3), .val (.int v4), .val (.long v5), .second, .val (.long v7), .second, .val (.long (v7 &&& (2097151 : Int64))), .second, .unset] [(.long (v7 &&& (2097151 : Int64)))]))
      refine Runs.go (fun _ => XS.lconst X.here hx rfl (hb hby at_106)) ?_
      show Runs p e below s _ _ _ (T.setTop (mkF m 107 #[.val (.long v0), .second, .val (.int v2), .val (.int v3), .val (.int v4), .val (.long v5), .second, .val (.long v7), .second, .val (.long (v7 &&& (2097151 : Int64))), .second, .unset] [(.long (0 : Int64)), (.long (v7 &&& (2097151 : Int64)))]))
      refine Runs.go (fun _ => XS.lcmp X.here hx rfl (hb hby at_107) rfl) ?_
      show Runs p e below s _ _ _ (T.setTop (mkF m 108 #[.val (.long v0), .second, .val (.int v2), .val (.int v3), .val (.int v4), .val (.long v5), .second, .val (.long v7), .second, .val (.long (v7 &&& (2097151 : Int64))), .second, .unset] [(.int (lcmpW (v7 &&& (2097151 : Int64)) (0 : Int64)))]))
      by_cases hc108 : (lcmpW (v7 &&& (2097151 : Int64)) (0 : Int64)) = (0 : Int32)
      · have hv := (if_pos hc108).symm.trans hv
        refine Runs.go (fun _ => XS.ifNo X.here hx rfl (hb hby at_108) rfl ((if0 _ _).trans (teq hc108).2)) ?_
        show Runs p e below s _ _ _ (T.setTop (mkF m 111 #[.val (.long v0), .second, .val (.int v2), .val (.int v3), .val (.int v4), .val (.long v5), .second, .val (.long v7), .second, .val (.long (v7 &&& (2097151 : Int64))), .second, .unset] []))
        refine Runs.go (fun _ => XS.iconst X.here hx rfl (hb hby at_111)) ?_
        show Runs p e below s _ _ _ (T.setTop (mkF m 112 #[.val (.long v0), .second, .val (.int v2), .val (.int v3), .val (.int v4), .val (.long v5), .second, .val (.long v7), .second, .val (.long (v7 &&& (2097151 : Int64))), .second, .unset] [(.int (1 : Int32))]))
        refine Runs.go (fun _ => XS.goto X.here hx rfl (pc0 := 112) (pc' := 116) rfl (hb hby at_112) (by decide) (by decide)) ?_
        show Runs p e below s _ _ _ (T.setTop (mkF m 116 #[.val (.long v0), .second, .val (.int v2), .val (.int v3), .val (.int v4), .val (.long v5), .second, .val (.long v7), .second, .val (.long (v7 &&& (2097151 : Int64))), .second, .unset] [(.int (1 : Int32))]))
        exact k_116 _ X eT v0 v2 v3 v4 v5 v7 (v7 &&& (2097151 : Int64)) (1 : Int32) hv
      · have hv := (if_neg hc108).symm.trans hv
        refine Runs.go (fun _ => XS.ifYes X.here hx rfl (pc0 := 108) (pc' := 115) rfl (hb hby at_108) rfl ((if0 _ _).trans (feq hc108).2) (by decide) (by decide)) ?_
        show Runs p e below s _ _ _ (T.setTop (mkF m 115 #[.val (.long v0), .second, .val (.int v2), .val (.int v3), .val (.int v4), .val (.long v5), .second, .val (.long v7), .second, .val (.long (v7 &&& (2097151 : Int64))), .second, .unset] []))
        refine Runs.go (fun _ => XS.iconst X.here hx rfl (hb hby at_115)) ?_
        show Runs p e below s _ _ _ (T.setTop (mkF m 116 #[.val (.long v0), .second, .val (.int v2), .val (.int v3), .val (.int v4), .val (.long v5), .second, .val (.long v7), .second, .val (.long (v7 &&& (2097151 : Int64))), .second, .unset] [(.int (0 : Int32))]))
        exact k_116 _ X eT v0 v2 v3 v4 v5 v7 (v7 &&& (2097151 : Int64)) (0 : Int32) hv
    · have hv := (if_neg hc84).symm.trans hv
      refine Runs.go (fun _ => XS.ifNo X.here hx rfl (hb hby at_84) rfl ((if0 _ _).trans (feq hc84).1)) ?_
      show Runs p e below s _ _ _ (T.setTop (mkF m 87 #[.val (.long v0), .second, .val (.int v2), .val (.int v3), .val (.int v4), .val (.long v5), .second, .val (.long v7), .second, .val (.long (v7 &&& (2097151 : Int64))), .second, .unset] []))
      refine Runs.go (fun _ => XS.lload X.here hx rfl (hb hby at_87) rfl) ?_
      show Runs p e below s _ _ _ (T.setTop (mkF m 89 #[.val (.long v0), .second, .val (.int v2), .val (.int v3), .val (.int v4), .val (.long v5), .second, .val (.long v7), .second, .val (.long (v7 &&& (2097151 : Int64))), .second, .unset] [(.long (v7 &&& (2097151 : Int64)))]))
      refine Runs.go (X.ldc2Long hx hown (mvT hZ (hw _ (List.mem_of_getElem? (i := 7) rfl))) (g := (mkF m 89 #[.val (.long v0), .second, .val (.int v2), .val (.int v3), .val (.int v4), .val (.long v5), .second, .val (.long v7), .second, .val (.long (v7 &&& (2097151 : Int64))), .second, .unset] [(.long (v7 &&& (2097151 : Int64)))])) rfl (hb hby at_89)) ?_
      show Runs p e below s _ _ _ (T.setTop (mkF m 92 #[.val (.long v0), .second, .val (.int v2), .val (.int v3), .val (.int v4), .val (.long v5), .second, .val (.long v7), .second, .val (.long (v7 &&& (2097151 : Int64))), .second, .unset] [(.long (1048575 : Int64)), (.long (v7 &&& (2097151 : Int64)))]))
      refine Runs.go (fun _ => XS.lcmp X.here hx rfl (hb hby at_92) rfl) ?_
      show Runs p e below s _ _ _ (T.setTop (mkF m 93 #[.val (.long v0), .second, .val (.int v2), .val (.int v3), .val (.int v4), .val (.long v5), .second, .val (.long v7), .second, .val (.long (v7 &&& (2097151 : Int64))), .second, .unset] [(.int (lcmpW (v7 &&& (2097151 : Int64)) (1048575 : Int64)))]))
      by_cases hc93 : (lcmpW (v7 &&& (2097151 : Int64)) (1048575 : Int64)) < (0 : Int32)
      · have hv := (if_pos hc93).symm.trans hv
        refine Runs.go (fun _ => XS.ifNo X.here hx rfl (hb hby at_93) rfl ((if0 _ _).trans (tlt hc93).2.1)) ?_
        show Runs p e below s _ _ _ (T.setTop (mkF m 96 #[.val (.long v0), .second, .val (.int v2), .val (.int v3), .val (.int v4), .val (.long v5), .second, .val (.long v7), .second, .val (.long (v7 &&& (2097151 : Int64))), .second, .unset] []))
        refine Runs.go (fun _ => XS.iconst X.here hx rfl (hb hby at_96)) ?_
        show Runs p e below s _ _ _ (T.setTop (mkF m 97 #[.val (.long v0), .second, .val (.int v2), .val (.int v3), .val (.int v4), .val (.long v5), .second, .val (.long v7), .second, .val (.long (v7 &&& (2097151 : Int64))), .second, .unset] [(.int (1 : Int32))]))
        refine Runs.go (fun _ => XS.goto X.here hx rfl (pc0 := 97) (pc' := 116) rfl (hb hby at_97) (by decide) (by decide)) ?_
        show Runs p e below s _ _ _ (T.setTop (mkF m 116 #[.val (.long v0), .second, .val (.int v2), .val (.int v3), .val (.int v4), .val (.long v5), .second, .val (.long v7), .second, .val (.long (v7 &&& (2097151 : Int64))), .second, .unset] [(.int (1 : Int32))]))
        exact k_116 _ X eT v0 v2 v3 v4 v5 v7 (v7 &&& (2097151 : Int64)) (1 : Int32) hv
      · have hv := (if_neg hc93).symm.trans hv
        refine Runs.go (fun _ => XS.ifYes X.here hx rfl (pc0 := 93) (pc' := 100) rfl (hb hby at_93) rfl ((if0 _ _).trans (flt hc93).2.1) (by decide) (by decide)) ?_
        show Runs p e below s _ _ _ (T.setTop (mkF m 100 #[.val (.long v0), .second, .val (.int v2), .val (.int v3), .val (.int v4), .val (.long v5), .second, .val (.long v7), .second, .val (.long (v7 &&& (2097151 : Int64))), .second, .unset] []))
        refine Runs.go (fun _ => XS.iconst X.here hx rfl (hb hby at_100)) ?_
        show Runs p e below s _ _ _ (T.setTop (mkF m 101 #[.val (.long v0), .second, .val (.int v2), .val (.int v3), .val (.int v4), .val (.long v5), .second, .val (.long v7), .second, .val (.long (v7 &&& (2097151 : Int64))), .second, .unset] [(.int (0 : Int32))]))
        refine Runs.go (fun _ => XS.goto X.here hx rfl (pc0 := 101) (pc' := 116) rfl (hb hby at_101) (by decide) (by decide)) ?_
        show Runs p e below s _ _ _ (T.setTop (mkF m 116 #[.val (.long v0), .second, .val (.int v2), .val (.int v3), .val (.int v4), .val (.long v5), .second, .val (.long v7), .second, .val (.long (v7 &&& (2097151 : Int64))), .second, .unset] [(.int (0 : Int32))]))
        exact k_116 _ X eT v0 v2 v3 v4 v5 v7 (v7 &&& (2097151 : Int64)) (0 : Int32) hv
  have k_11 : ∀ (T : State) (X : Stand p l e room_1 s m #[(.long x0), (.int x1)] below meth c T [] 0 0) (eT : T.heap = h0) (v0 : Int64) (v2 : Int32) (t0 : Int32), f0_11 v0 v2 t0 = r → Runs p e below s (QP (.int r) h0) 0 0 (T.setTop (mkF m 11 #[.val (.long v0), .second, .val (.int v2), .unset, .unset, .unset, .unset, .unset, .unset, .unset, .unset, .unset] [(.int t0)])) := by
    intro T X eT v0 v2 t0 hv
    unfold f0_11 at hv
    refine Runs.go (fun _ => XS.istoreN X.here hx rfl (hb hby at_11) rfl (l' := #[.val (.long v0), .second, .val (.int v2), .val (.int t0), .unset, .unset, .unset, .unset, .unset, .unset, .unset, .unset]) rfl) ?_
    show Runs p e below s _ _ _ (T.setTop (mkF m 12 #[.val (.long v0), .second, .val (.int v2), .val (.int t0), .unset, .unset, .unset, .unset, .unset, .unset, .unset, .unset] []))
    refine Runs.go (fun _ => XS.iloadN X.here hx rfl (hb hby at_12) rfl) ?_
    show Runs p e below s _ _ _ (T.setTop (mkF m 13 #[.val (.long v0), .second, .val (.int v2), .val (.int t0), .unset, .unset, .unset, .unset, .unset, .unset, .unset, .unset] [(.int v2)]))
    refine Runs.go (fun _ => XS.iconst X.here hx rfl (hb hby at_13)) ?_
    show Runs p e below s _ _ _ (T.setTop (mkF m 14 #[.val (.long v0), .second, .val (.int v2), .val (.int t0), .unset, .unset, .unset, .unset, .unset, .unset, .unset, .unset] [(.int (1 : Int32)), (.int v2)]))
    refine Runs.go (fun _ => XS.iushr X.here hx rfl (hb hby at_14) rfl) ?_
    show Runs p e below s _ _ _ (T.setTop (mkF m 15 #[.val (.long v0), .second, .val (.int v2), .val (.int t0), .unset, .unset, .unset, .unset, .unset, .unset, .unset, .unset] [(.int ((v2.toUInt32 >>> ((1 : Int32) &&& 31).toUInt32).toInt32))]))
    refine Runs.go (fun _ => XS.iconst X.here hx rfl (hb hby at_15)) ?_
    show Runs p e below s _ _ _ (T.setTop (mkF m 16 #[.val (.long v0), .second, .val (.int v2), .val (.int t0), .unset, .unset, .unset, .unset, .unset, .unset, .unset, .unset] [(.int (3 : Int32)), (.int ((v2.toUInt32 >>> ((1 : Int32) &&& 31).toUInt32).toInt32))]))
    refine Runs.go (fun _ => XS.iand X.here hx rfl (hb hby at_16) rfl) ?_
    show Runs p e below s _ _ _ (T.setTop (mkF m 17 #[.val (.long v0), .second, .val (.int v2), .val (.int t0), .unset, .unset, .unset, .unset, .unset, .unset, .unset, .unset] [(.int (((v2.toUInt32 >>> ((1 : Int32) &&& 31).toUInt32).toInt32) &&& (3 : Int32)))]))
    refine Runs.go (fun _ => XS.istore X.here hx rfl (hb hby at_17) rfl (l' := #[.val (.long v0), .second, .val (.int v2), .val (.int t0), .val (.int (((v2.toUInt32 >>> ((1 : Int32) &&& 31).toUInt32).toInt32) &&& (3 : Int32))), .unset, .unset, .unset, .unset, .unset, .unset, .unset]) rfl) ?_
    show Runs p e below s _ _ _ (T.setTop (mkF m 19 #[.val (.long v0), .second, .val (.int v2), .val (.int t0), .val (.int (((v2.toUInt32 >>> ((1 : Int32) &&& 31).toUInt32).toInt32) &&& (3 : Int32))), .unset, .unset, .unset, .unset, .unset, .unset, .unset] []))
    refine Runs.go (fun _ => XS.lloadN X.here hx rfl (hb hby at_19) rfl) ?_
    show Runs p e below s _ _ _ (T.setTop (mkF m 20 #[.val (.long v0), .second, .val (.int v2), .val (.int t0), .val (.int (((v2.toUInt32 >>> ((1 : Int32) &&& 31).toUInt32).toInt32) &&& (3 : Int32))), .unset, .unset, .unset, .unset, .unset, .unset, .unset] [(.long v0)]))
    refine Runs.go (X.ldc2Long hx hown (mvT hZ (hw _ (List.mem_of_getElem? (i := 0) rfl))) (g := (mkF m 20 #[.val (.long v0), .second, .val (.int v2), .val (.int t0), .val (.int (((v2.toUInt32 >>> ((1 : Int32) &&& 31).toUInt32).toInt32) &&& (3 : Int32))), .unset, .unset, .unset, .unset, .unset, .unset, .unset] [(.long v0)])) rfl (hb hby at_20)) ?_
    show Runs p e below s _ _ _ (T.setTop (mkF m 23 #[.val (.long v0), .second, .val (.int v2), .val (.int t0), .val (.int (((v2.toUInt32 >>> ((1 : Int32) &&& 31).toUInt32).toInt32) &&& (3 : Int32))), .unset, .unset, .unset, .unset, .unset, .unset, .unset] [(.long (-2097152 : Int64)), (.long v0)]))
    refine Runs.go (fun _ => XS.land X.here hx rfl (hb hby at_23) rfl) ?_
    show Runs p e below s _ _ _ (T.setTop (mkF m 24 #[.val (.long v0), .second, .val (.int v2), .val (.int t0), .val (.int (((v2.toUInt32 >>> ((1 : Int32) &&& 31).toUInt32).toInt32) &&& (3 : Int32))), .unset, .unset, .unset, .unset, .unset, .unset, .unset] [(.long (v0 &&& (-2097152 : Int64)))]))
    refine Runs.go (fun _ => XS.lstore X.here hx rfl (hb hby at_24) rfl (l' := #[.val (.long v0), .second, .val (.int v2), .val (.int t0), .val (.int (((v2.toUInt32 >>> ((1 : Int32) &&& 31).toUInt32).toInt32) &&& (3 : Int32))), .val (.long (v0 &&& (-2097152 : Int64))), .second, .unset, .unset, .unset, .unset, .unset]) rfl) ?_
    show Runs p e below s _ _ _ (T.setTop (mkF m 26 #[.val (.long v0), .second, .val (.int v2), .val (.int t0), .val (.int (((v2.toUInt32 >>> ((1 : Int32) &&& 31).toUInt32).toInt32) &&& (3 : Int32))), .val (.long (v0 &&& (-2097152 : Int64))), .second, .unset, .unset, .unset, .unset, .unset] []))
    refine Runs.go (fun _ => XS.iload X.here hx rfl (hb hby at_26) rfl) ?_
    show Runs p e below s _ _ _ (T.setTop (mkF m 28 #[.val (.long v0), .second, .val (.int v2), .val (.int t0), .val (.int (((v2.toUInt32 >>> ((1 : Int32) &&& 31).toUInt32).toInt32) &&& (3 : Int32))), .val (.long (v0 &&& (-2097152 : Int64))), .second, .unset, .unset, .unset, .unset, .unset] [(.int (((v2.toUInt32 >>> ((1 : Int32) &&& 31).toUInt32).toInt32) &&& (3 : Int32)))]))
    by_cases hc28 : (((v2.toUInt32 >>> ((1 : Int32) &&& 31).toUInt32).toInt32) &&& (3 : Int32)) = (0 : Int32)
    · have hv := (if_pos hc28).symm.trans hv
      refine Runs.go (fun _ => XS.ifNo X.here hx rfl (hb hby at_28) rfl ((if0 _ _).trans (teq hc28).2)) ?_
      show Runs p e below s _ _ _ (T.setTop (mkF m 31 #[.val (.long v0), .second, .val (.int v2), .val (.int t0), .val (.int (((v2.toUInt32 >>> ((1 : Int32) &&& 31).toUInt32).toInt32) &&& (3 : Int32))), .val (.long (v0 &&& (-2097152 : Int64))), .second, .unset, .unset, .unset, .unset, .unset] []))
      refine Runs.go (fun _ => XS.lloadN X.here hx rfl (hb hby at_31) rfl) ?_
      show Runs p e below s _ _ _ (T.setTop (mkF m 32 #[.val (.long v0), .second, .val (.int v2), .val (.int t0), .val (.int (((v2.toUInt32 >>> ((1 : Int32) &&& 31).toUInt32).toInt32) &&& (3 : Int32))), .val (.long (v0 &&& (-2097152 : Int64))), .second, .unset, .unset, .unset, .unset, .unset] [(.long v0)]))
      refine Runs.go (fun _ => XS.lstore X.here hx rfl (hb hby at_32) rfl (l' := #[.val (.long v0), .second, .val (.int v2), .val (.int t0), .val (.int (((v2.toUInt32 >>> ((1 : Int32) &&& 31).toUInt32).toInt32) &&& (3 : Int32))), .val (.long (v0 &&& (-2097152 : Int64))), .second, .val (.long v0), .second, .unset, .unset, .unset]) rfl) ?_
      show Runs p e below s _ _ _ (T.setTop (mkF m 34 #[.val (.long v0), .second, .val (.int v2), .val (.int t0), .val (.int (((v2.toUInt32 >>> ((1 : Int32) &&& 31).toUInt32).toInt32) &&& (3 : Int32))), .val (.long (v0 &&& (-2097152 : Int64))), .second, .val (.long v0), .second, .unset, .unset, .unset] []))
      refine Runs.go (fun _ => XS.goto X.here hx rfl (pc0 := 34) (pc' := 75) rfl (hb hby at_34) (by decide) (by decide)) ?_
      show Runs p e below s _ _ _ (T.setTop (mkF m 75 #[.val (.long v0), .second, .val (.int v2), .val (.int t0), .val (.int (((v2.toUInt32 >>> ((1 : Int32) &&& 31).toUInt32).toInt32) &&& (3 : Int32))), .val (.long (v0 &&& (-2097152 : Int64))), .second, .val (.long v0), .second, .unset, .unset, .unset] []))
      exact k_75 _ X eT v0 v2 t0 (((v2.toUInt32 >>> ((1 : Int32) &&& 31).toUInt32).toInt32) &&& (3 : Int32)) (v0 &&& (-2097152 : Int64)) v0 hv
    · have hv := (if_neg hc28).symm.trans hv
      refine Runs.go (fun _ => XS.ifYes X.here hx rfl (pc0 := 28) (pc' := 37) rfl (hb hby at_28) rfl ((if0 _ _).trans (feq hc28).2) (by decide) (by decide)) ?_
      show Runs p e below s _ _ _ (T.setTop (mkF m 37 #[.val (.long v0), .second, .val (.int v2), .val (.int t0), .val (.int (((v2.toUInt32 >>> ((1 : Int32) &&& 31).toUInt32).toInt32) &&& (3 : Int32))), .val (.long (v0 &&& (-2097152 : Int64))), .second, .unset, .unset, .unset, .unset, .unset] []))
      refine Runs.go (fun _ => XS.iload X.here hx rfl (hb hby at_37) rfl) ?_
      show Runs p e below s _ _ _ (T.setTop (mkF m 39 #[.val (.long v0), .second, .val (.int v2), .val (.int t0), .val (.int (((v2.toUInt32 >>> ((1 : Int32) &&& 31).toUInt32).toInt32) &&& (3 : Int32))), .val (.long (v0 &&& (-2097152 : Int64))), .second, .unset, .unset, .unset, .unset, .unset] [(.int (((v2.toUInt32 >>> ((1 : Int32) &&& 31).toUInt32).toInt32) &&& (3 : Int32)))]))
      refine Runs.go (fun _ => XS.iconst X.here hx rfl (hb hby at_39)) ?_
      show Runs p e below s _ _ _ (T.setTop (mkF m 40 #[.val (.long v0), .second, .val (.int v2), .val (.int t0), .val (.int (((v2.toUInt32 >>> ((1 : Int32) &&& 31).toUInt32).toInt32) &&& (3 : Int32))), .val (.long (v0 &&& (-2097152 : Int64))), .second, .unset, .unset, .unset, .unset, .unset] [(.int (1 : Int32)), (.int (((v2.toUInt32 >>> ((1 : Int32) &&& 31).toUInt32).toInt32) &&& (3 : Int32)))]))
      by_cases hc40 : (((v2.toUInt32 >>> ((1 : Int32) &&& 31).toUInt32).toInt32) &&& (3 : Int32)) = (1 : Int32)
      · have hv := (if_pos hc40).symm.trans hv
        refine Runs.go (fun _ => XS.icmpNo X.here hx rfl (hb hby at_40) rfl (teq hc40).2) ?_
        show Runs p e below s _ _ _ (T.setTop (mkF m 43 #[.val (.long v0), .second, .val (.int v2), .val (.int t0), .val (.int (((v2.toUInt32 >>> ((1 : Int32) &&& 31).toUInt32).toInt32) &&& (3 : Int32))), .val (.long (v0 &&& (-2097152 : Int64))), .second, .unset, .unset, .unset, .unset, .unset] []))
        refine Runs.go (fun _ => XS.lload X.here hx rfl (hb hby at_43) rfl) ?_
        show Runs p e below s _ _ _ (T.setTop (mkF m 45 #[.val (.long v0), .second, .val (.int v2), .val (.int t0), .val (.int (((v2.toUInt32 >>> ((1 : Int32) &&& 31).toUInt32).toInt32) &&& (3 : Int32))), .val (.long (v0 &&& (-2097152 : Int64))), .second, .unset, .unset, .unset, .unset, .unset] [(.long (v0 &&& (-2097152 : Int64)))]))
        refine Runs.go (fun _ => XS.lstore X.here hx rfl (hb hby at_45) rfl (l' := #[.val (.long v0), .second, .val (.int v2), .val (.int t0), .val (.int (((v2.toUInt32 >>> ((1 : Int32) &&& 31).toUInt32).toInt32) &&& (3 : Int32))), .val (.long (v0 &&& (-2097152 : Int64))), .second, .val (.long (v0 &&& (-2097152 : Int64))), .second, .unset, .unset, .unset]) rfl) ?_
        show Runs p e below s _ _ _ (T.setTop (mkF m 47 #[.val (.long v0), .second, .val (.int v2), .val (.int t0), .val (.int (((v2.toUInt32 >>> ((1 : Int32) &&& 31).toUInt32).toInt32) &&& (3 : Int32))), .val (.long (v0 &&& (-2097152 : Int64))), .second, .val (.long (v0 &&& (-2097152 : Int64))), .second, .unset, .unset, .unset] []))
        refine Runs.go (fun _ => XS.goto X.here hx rfl (pc0 := 47) (pc' := 75) rfl (hb hby at_47) (by decide) (by decide)) ?_
        show Runs p e below s _ _ _ (T.setTop (mkF m 75 #[.val (.long v0), .second, .val (.int v2), .val (.int t0), .val (.int (((v2.toUInt32 >>> ((1 : Int32) &&& 31).toUInt32).toInt32) &&& (3 : Int32))), .val (.long (v0 &&& (-2097152 : Int64))), .second, .val (.long (v0 &&& (-2097152 : Int64))), .second, .unset, .unset, .unset] []))
        exact k_75 _ X eT v0 v2 t0 (((v2.toUInt32 >>> ((1 : Int32) &&& 31).toUInt32).toInt32) &&& (3 : Int32)) (v0 &&& (-2097152 : Int64)) (v0 &&& (-2097152 : Int64)) hv
      · have hv := (if_neg hc40).symm.trans hv
        refine Runs.go (fun _ => XS.icmpYes X.here hx rfl (pc0 := 40) (pc' := 50) rfl (hb hby at_40) rfl (feq hc40).2 (by decide) (by decide)) ?_
        show Runs p e below s _ _ _ (T.setTop (mkF m 50 #[.val (.long v0), .second, .val (.int v2), .val (.int t0), .val (.int (((v2.toUInt32 >>> ((1 : Int32) &&& 31).toUInt32).toInt32) &&& (3 : Int32))), .val (.long (v0 &&& (-2097152 : Int64))), .second, .unset, .unset, .unset, .unset, .unset] []))
        refine Runs.go (fun _ => XS.iload X.here hx rfl (hb hby at_50) rfl) ?_
        show Runs p e below s _ _ _ (T.setTop (mkF m 52 #[.val (.long v0), .second, .val (.int v2), .val (.int t0), .val (.int (((v2.toUInt32 >>> ((1 : Int32) &&& 31).toUInt32).toInt32) &&& (3 : Int32))), .val (.long (v0 &&& (-2097152 : Int64))), .second, .unset, .unset, .unset, .unset, .unset] [(.int (((v2.toUInt32 >>> ((1 : Int32) &&& 31).toUInt32).toInt32) &&& (3 : Int32)))]))
        refine Runs.go (fun _ => XS.iconst X.here hx rfl (hb hby at_52)) ?_
        show Runs p e below s _ _ _ (T.setTop (mkF m 53 #[.val (.long v0), .second, .val (.int v2), .val (.int t0), .val (.int (((v2.toUInt32 >>> ((1 : Int32) &&& 31).toUInt32).toInt32) &&& (3 : Int32))), .val (.long (v0 &&& (-2097152 : Int64))), .second, .unset, .unset, .unset, .unset, .unset] [(.int (2 : Int32)), (.int (((v2.toUInt32 >>> ((1 : Int32) &&& 31).toUInt32).toInt32) &&& (3 : Int32)))]))
        by_cases hc53 : (((v2.toUInt32 >>> ((1 : Int32) &&& 31).toUInt32).toInt32) &&& (3 : Int32)) = (2 : Int32)
        · have hv := (if_pos hc53).symm.trans hv
          refine Runs.go (fun _ => XS.icmpNo X.here hx rfl (hb hby at_53) rfl (teq hc53).2) ?_
          show Runs p e below s _ _ _ (T.setTop (mkF m 56 #[.val (.long v0), .second, .val (.int v2), .val (.int t0), .val (.int (((v2.toUInt32 >>> ((1 : Int32) &&& 31).toUInt32).toInt32) &&& (3 : Int32))), .val (.long (v0 &&& (-2097152 : Int64))), .second, .unset, .unset, .unset, .unset, .unset] []))
          refine Runs.go (fun _ => XS.lload X.here hx rfl (hb hby at_56) rfl) ?_
          show Runs p e below s _ _ _ (T.setTop (mkF m 58 #[.val (.long v0), .second, .val (.int v2), .val (.int t0), .val (.int (((v2.toUInt32 >>> ((1 : Int32) &&& 31).toUInt32).toInt32) &&& (3 : Int32))), .val (.long (v0 &&& (-2097152 : Int64))), .second, .unset, .unset, .unset, .unset, .unset] [(.long (v0 &&& (-2097152 : Int64)))]))
          refine Runs.go (X.ldc2Long hx hown (mvT hZ (hw _ (List.mem_of_getElem? (i := 7) rfl))) (g := (mkF m 58 #[.val (.long v0), .second, .val (.int v2), .val (.int t0), .val (.int (((v2.toUInt32 >>> ((1 : Int32) &&& 31).toUInt32).toInt32) &&& (3 : Int32))), .val (.long (v0 &&& (-2097152 : Int64))), .second, .unset, .unset, .unset, .unset, .unset] [(.long (v0 &&& (-2097152 : Int64)))])) rfl (hb hby at_58)) ?_
          show Runs p e below s _ _ _ (T.setTop (mkF m 61 #[.val (.long v0), .second, .val (.int v2), .val (.int t0), .val (.int (((v2.toUInt32 >>> ((1 : Int32) &&& 31).toUInt32).toInt32) &&& (3 : Int32))), .val (.long (v0 &&& (-2097152 : Int64))), .second, .unset, .unset, .unset, .unset, .unset] [(.long (1048575 : Int64)), (.long (v0 &&& (-2097152 : Int64)))]))
          refine Runs.go (fun _ => XS.lor X.here hx rfl (hb hby at_61) rfl) ?_
          show Runs p e below s _ _ _ (T.setTop (mkF m 62 #[.val (.long v0), .second, .val (.int v2), .val (.int t0), .val (.int (((v2.toUInt32 >>> ((1 : Int32) &&& 31).toUInt32).toInt32) &&& (3 : Int32))), .val (.long (v0 &&& (-2097152 : Int64))), .second, .unset, .unset, .unset, .unset, .unset] [(.long ((v0 &&& (-2097152 : Int64)) ||| (1048575 : Int64)))]))
          refine Runs.go (fun _ => XS.lstore X.here hx rfl (hb hby at_62) rfl (l' := #[.val (.long v0), .second, .val (.int v2), .val (.int t0), .val (.int (((v2.toUInt32 >>> ((1 : Int32) &&& 31).toUInt32).toInt32) &&& (3 : Int32))), .val (.long (v0 &&& (-2097152 : Int64))), .second, .val (.long ((v0 &&& (-2097152 : Int64)) ||| (1048575 : Int64))), .second, .unset, .unset, .unset]) rfl) ?_
          show Runs p e below s _ _ _ (T.setTop (mkF m 64 #[.val (.long v0), .second, .val (.int v2), .val (.int t0), .val (.int (((v2.toUInt32 >>> ((1 : Int32) &&& 31).toUInt32).toInt32) &&& (3 : Int32))), .val (.long (v0 &&& (-2097152 : Int64))), .second, .val (.long ((v0 &&& (-2097152 : Int64)) ||| (1048575 : Int64))), .second, .unset, .unset, .unset] []))
          refine Runs.go (fun _ => XS.goto X.here hx rfl (pc0 := 64) (pc' := 75) rfl (hb hby at_64) (by decide) (by decide)) ?_
          show Runs p e below s _ _ _ (T.setTop (mkF m 75 #[.val (.long v0), .second, .val (.int v2), .val (.int t0), .val (.int (((v2.toUInt32 >>> ((1 : Int32) &&& 31).toUInt32).toInt32) &&& (3 : Int32))), .val (.long (v0 &&& (-2097152 : Int64))), .second, .val (.long ((v0 &&& (-2097152 : Int64)) ||| (1048575 : Int64))), .second, .unset, .unset, .unset] []))
          exact k_75 _ X eT v0 v2 t0 (((v2.toUInt32 >>> ((1 : Int32) &&& 31).toUInt32).toInt32) &&& (3 : Int32)) (v0 &&& (-2097152 : Int64)) ((v0 &&& (-2097152 : Int64)) ||| (1048575 : Int64)) hv
        · have hv := (if_neg hc53).symm.trans hv
          refine Runs.go (fun _ => XS.icmpYes X.here hx rfl (pc0 := 53) (pc' := 67) rfl (hb hby at_53) rfl (feq hc53).2 (by decide) (by decide)) ?_
          show Runs p e below s _ _ _ (T.setTop (mkF m 67 #[.val (.long v0), .second, .val (.int v2), .val (.int t0), .val (.int (((v2.toUInt32 >>> ((1 : Int32) &&& 31).toUInt32).toInt32) &&& (3 : Int32))), .val (.long (v0 &&& (-2097152 : Int64))), .second, .unset, .unset, .unset, .unset, .unset] []))
          refine Runs.go (fun _ => XS.lload X.here hx rfl (hb hby at_67) rfl) ?_
          show Runs p e below s _ _ _ (T.setTop (mkF m 69 #[.val (.long v0), .second, .val (.int v2), .val (.int t0), .val (.int (((v2.toUInt32 >>> ((1 : Int32) &&& 31).toUInt32).toInt32) &&& (3 : Int32))), .val (.long (v0 &&& (-2097152 : Int64))), .second, .unset, .unset, .unset, .unset, .unset] [(.long (v0 &&& (-2097152 : Int64)))]))
          refine Runs.go (X.ldc2Long hx hown (mvT hZ (hw _ (List.mem_of_getElem? (i := 8) rfl))) (g := (mkF m 69 #[.val (.long v0), .second, .val (.int v2), .val (.int t0), .val (.int (((v2.toUInt32 >>> ((1 : Int32) &&& 31).toUInt32).toInt32) &&& (3 : Int32))), .val (.long (v0 &&& (-2097152 : Int64))), .second, .unset, .unset, .unset, .unset, .unset] [(.long (v0 &&& (-2097152 : Int64)))])) rfl (hb hby at_69)) ?_
          show Runs p e below s _ _ _ (T.setTop (mkF m 72 #[.val (.long v0), .second, .val (.int v2), .val (.int t0), .val (.int (((v2.toUInt32 >>> ((1 : Int32) &&& 31).toUInt32).toInt32) &&& (3 : Int32))), .val (.long (v0 &&& (-2097152 : Int64))), .second, .unset, .unset, .unset, .unset, .unset] [(.long (1048574 : Int64)), (.long (v0 &&& (-2097152 : Int64)))]))
          refine Runs.go (fun _ => XS.lor X.here hx rfl (hb hby at_72) rfl) ?_
          show Runs p e below s _ _ _ (T.setTop (mkF m 73 #[.val (.long v0), .second, .val (.int v2), .val (.int t0), .val (.int (((v2.toUInt32 >>> ((1 : Int32) &&& 31).toUInt32).toInt32) &&& (3 : Int32))), .val (.long (v0 &&& (-2097152 : Int64))), .second, .unset, .unset, .unset, .unset, .unset] [(.long ((v0 &&& (-2097152 : Int64)) ||| (1048574 : Int64)))]))
          refine Runs.go (fun _ => XS.lstore X.here hx rfl (hb hby at_73) rfl (l' := #[.val (.long v0), .second, .val (.int v2), .val (.int t0), .val (.int (((v2.toUInt32 >>> ((1 : Int32) &&& 31).toUInt32).toInt32) &&& (3 : Int32))), .val (.long (v0 &&& (-2097152 : Int64))), .second, .val (.long ((v0 &&& (-2097152 : Int64)) ||| (1048574 : Int64))), .second, .unset, .unset, .unset]) rfl) ?_
          show Runs p e below s _ _ _ (T.setTop (mkF m 75 #[.val (.long v0), .second, .val (.int v2), .val (.int t0), .val (.int (((v2.toUInt32 >>> ((1 : Int32) &&& 31).toUInt32).toInt32) &&& (3 : Int32))), .val (.long (v0 &&& (-2097152 : Int64))), .second, .val (.long ((v0 &&& (-2097152 : Int64)) ||| (1048574 : Int64))), .second, .unset, .unset, .unset] []))
          exact k_75 _ X eT v0 v2 t0 (((v2.toUInt32 >>> ((1 : Int32) &&& 31).toUInt32).toInt32) &&& (3 : Int32)) (v0 &&& (-2097152 : Int64)) ((v0 &&& (-2097152 : Int64)) ||| (1048574 : Int64)) hv
  have k_0 : ∀ (T : State) (X : Stand p l e room_1 s m #[(.long x0), (.int x1)] below meth c T [] 0 0) (eT : T.heap = h0), f0_0 x0 x1 = r → Runs p e below s (QP (.int r) h0) 0 0 (T.setTop (mkF m 0 #[.val (.long x0), .second, .val (.int x1), .unset, .unset, .unset, .unset, .unset, .unset, .unset, .unset, .unset] [])) := by
    intro T X eT  hv
    unfold f0_0 at hv
    refine Runs.go (fun _ => XS.iloadN X.here hx rfl (hb hby at_0) rfl) ?_
    show Runs p e below s _ _ _ (T.setTop (mkF m 1 #[.val (.long x0), .second, .val (.int x1), .unset, .unset, .unset, .unset, .unset, .unset, .unset, .unset, .unset] [(.int x1)]))
    refine Runs.go (fun _ => XS.iconst X.here hx rfl (hb hby at_1)) ?_
    show Runs p e below s _ _ _ (T.setTop (mkF m 2 #[.val (.long x0), .second, .val (.int x1), .unset, .unset, .unset, .unset, .unset, .unset, .unset, .unset, .unset] [(.int (1 : Int32)), (.int x1)]))
    refine Runs.go (fun _ => XS.iand X.here hx rfl (hb hby at_2) rfl) ?_
    show Runs p e below s _ _ _ (T.setTop (mkF m 3 #[.val (.long x0), .second, .val (.int x1), .unset, .unset, .unset, .unset, .unset, .unset, .unset, .unset, .unset] [(.int (x1 &&& (1 : Int32)))]))
    by_cases hc3 : (x1 &&& (1 : Int32)) = (0 : Int32)
    · have hv := (if_pos hc3).symm.trans hv
      refine Runs.go (fun _ => XS.ifYes X.here hx rfl (pc0 := 3) (pc' := 10) rfl (hb hby at_3) rfl ((if0 _ _).trans (teq hc3).1) (by decide) (by decide)) ?_
      show Runs p e below s _ _ _ (T.setTop (mkF m 10 #[.val (.long x0), .second, .val (.int x1), .unset, .unset, .unset, .unset, .unset, .unset, .unset, .unset, .unset] []))
      refine Runs.go (fun _ => XS.iconst X.here hx rfl (hb hby at_10)) ?_
      show Runs p e below s _ _ _ (T.setTop (mkF m 11 #[.val (.long x0), .second, .val (.int x1), .unset, .unset, .unset, .unset, .unset, .unset, .unset, .unset, .unset] [(.int (0 : Int32))]))
      exact k_11 _ X eT x0 x1 (0 : Int32) hv
    · have hv := (if_neg hc3).symm.trans hv
      refine Runs.go (fun _ => XS.ifNo X.here hx rfl (hb hby at_3) rfl ((if0 _ _).trans (feq hc3).1)) ?_
      show Runs p e below s _ _ _ (T.setTop (mkF m 6 #[.val (.long x0), .second, .val (.int x1), .unset, .unset, .unset, .unset, .unset, .unset, .unset, .unset, .unset] []))
      refine Runs.go (fun _ => XS.iconst X.here hx rfl (hb hby at_6)) ?_
      show Runs p e below s _ _ _ (T.setTop (mkF m 7 #[.val (.long x0), .second, .val (.int x1), .unset, .unset, .unset, .unset, .unset, .unset, .unset, .unset, .unset] [(.int (1 : Int32))]))
      refine Runs.go (fun _ => XS.goto X.here hx rfl (pc0 := 7) (pc' := 11) rfl (hb hby at_7) (by decide) (by decide)) ?_
      show Runs p e below s _ _ _ (T.setTop (mkF m 11 #[.val (.long x0), .second, .val (.int x1), .unset, .unset, .unset, .unset, .unset, .unset, .unset, .unset, .unset] [(.int (1 : Int32))]))
      exact k_11 _ X eT x0 x1 (1 : Int32) hv
  exact k_0 _ X0 e0 hF
set_option maxRecDepth 65536 in
set_option maxHeartbeats 40000000 in
theorem comes_1 {Post : Tables → Env → Array Value → State → Outcome → State → Prop} (hpost : ∀ tb e args s v u, (limb_1_1.after args s (.returned v) u = true ∧ limb_1_2.after args s (.returned v) u = true ∧ True) → FrameEnd s (.returned v) u (Jvm.fieldLocs frame_1_writes args s ++ Jvm.arrayLocs frame_1_arrays args s ++ Jvm.staticLocs frame_1_statics s) 0 0 → Post tb e args s (.returned v) u) :
    ArmFor flags0 classFile x code maxLocals ret World_1 tables_1 room_1 Calls_1 rest_1 Pre_1 Post := by
  intro l hfl _ _ p e ha hc hk s m args below hf hA hF happ hP
  obtain ⟨hcalls, hrest, hpre⟩ := hP
  obtain ⟨-, -, -, hnamed, -, -, -, hat⟩ := (Spec.applies_iff hf).mp happ
  obtain ⟨hg, hn⟩ := and_e (Cond.before_iff.mp (show (Jvm.Cond.and given_1 narrow_1).before args s = true from hpre))
  obtain ⟨hcnt, hg⟩ := and_e hg
  obtain ⟨w0, w1, rfl⟩ : ∃ w0 w1 : Value, args = #[w0, w1] := by
    have hs : args.size = 2 := by simpa [Cond.value, given_1] using hcnt
    obtain ⟨L⟩ := args
    match L, hs with
    | [w0, w1], _ => exact ⟨w0, w1, rfl⟩
  obtain ⟨ga0, hg⟩ := and_e hg
  obtain ⟨i0, ei0⟩ := isL_v ga0
  obtain rfl : w0 = (.long i0) := Option.some.inj ei0
  have ga1 := hg
  obtain ⟨i1, ei1⟩ := is_v ga1
  obtain rfl : w1 = (.int i1) := Option.some.inj ei1
  have hw := fun d (hd : d ∈ tables_1) => atoms_spec (ws := Jvm.Cond.code x code maxLocals ret :: tables_1) hat d (List.mem_cons_of_mem _ hd)
  obtain ⟨n, o, h1, h2, h3, _, L, rfl, ⟨rfl, rfl, hheap⟩, hq⟩ := rm0 l s _ hw tables_1 i0 i1 s.heap p e ha hc hk s m _ below hf ((Spec.applies_iff_loose hf).mp happ).1 ⟨rfl, State.Warmed39.refl s, rfl⟩ trivial
  rw [law_true i0 i1] at hq h3
  exact ⟨n, _, h1, h2, h3, hpost _ _ _ _ _ _ ⟨Cond.after_iff.mpr rfl, Cond.after_iff.mpr (eq_i res_at (Term.int_eval (1)) rfl), trivial⟩ ⟨hq.1, hq.2.1, (hq.2.2.sift fun y hy => nomatch hy).mono (by decide) (by decide)⟩⟩
theorem main_1_1 : Claimed_1_1 := comes_1 fun _ _ _ _ _ _ h hF => ⟨h.1, hF⟩
theorem main_1_2 : Claimed_1_2 := comes_1 fun _ _ _ _ _ _ h hF => ⟨h.2.1, hF⟩
end Jvm.Pilot.@@N@@
namespace Jvm.Pilot.@@N@@
open Jvm Jvm.ClassFile Sem Op Lib Jvm.Free Jvm.Stand Jvm.Pilot.@@N@@.Jvm.D
/-! MADE BY PROGRAM (witnessworld.py) out of the Statement's table words and the real class files: 10 classes; the members and pool entries that the words name. The judged class is class 1, her method 1. -/
namespace start1
open Jvm.ClassFile
def u (s : String) : CpInfo := .utf8 (stringToUtf16 s)
/-- a pool by its gaps: so many unusable entries, then the entry; so many at the end -/
def gap : Nat → List CpInfo → List CpInfo
  | 0, r => r
  | n + 1, r => .unusable :: gap n r
def poolList (es : List (Nat × CpInfo)) (last : Nat) : List CpInfo := es.foldr (fun e r => gap e.1 (e.2 :: r)) (gap last [])
def pool (es : List (Nat × CpInfo)) (last : Nat) : Array CpInfo := ⟨poolList es last⟩
def fileOf (pool : Array CpInfo) (this : Nat) (attrs : Array Attribute := #[]) (ms : Array MethodInfo := #[]) (fl : Nat := 33) (sup : Nat := 0) (ifs : Array Nat := #[]) (fds : Array FieldInfo := #[]) : ClassFile where
  minorVersion := 0
  majorVersion := 65
  constantPool := pool
  accessFlags := fl
  thisClass := this
  superClass := sup
  interfaces := ifs
  fields := fds
  methods := ms
  attributes := attrs
def plain (name : String) (sup : Option ClassId) : Class where
  name := name
  kind := .ordinary
  loader := none
  accessFlags := 33
  super := sup
  interfaces := #[]
  cf := none
  fields := #[]
  methods := #[]
  instanceTypes := #[]
  staticTypes := #[]
  resolved := #[]
  callSites := []
  init := .initialized
  statics := none
  mirror := none

def pool0 : Array CpInfo := pool [(5, u "<init>"), (0, u "()V"), (1, .class_ 10), (1, u "java/lang/Object")] 113

def k0m0 : Method := { name := "<init>", desc := "()V", sig := { parameters := [], returnType := none }, accessFlags := 1, code := none }
/-- java/lang/Object -/
def k0 : Class := { plain "java/lang/Object" none with
  accessFlags := 33
  interfaces := #[]
  cf := some (fileOf pool0 8 #[] #[{ accessFlags := 1, nameIndex := 5, descriptorIndex := 6, attributes := #[] }] 33 0 #[] #[])
  fields := #[]
  methods := #[k0m0]
  instanceTypes := #[]
  staticTypes := #[]
  resolved := Array.replicate 124 none
  statics := none }

def pool1 : Array CpInfo := pool [(2, .class_ 4), (1, u "java/lang/Object"), (0, u "<init>"), (0, u "()V"), (0, .long 18446744073707454464), (1, .long 1048575), (1, .long 1048574), (1, .long 2097151), (1, .methodref 16 17), (0, .class_ 18), (0, .nameAndType 19 20), (0, u "evenhand/QueuedLock"), (0, u "holdsAdmit"), (0, u "(JZ)Z"), (0, .class_ 22), (0, u "evenhand/QueuedLockHoldsAdmitPinLaw"), (2, u "law"), (0, u "(JI)Z")] 3

def k1m0 : Method := { name := "<init>", desc := "()V", sig := { parameters := [], returnType := none }, accessFlags := 1, code := none }
def k1c1 : Code := { maxStack := 4, maxLocals := 12, code := code, exceptionTable := #[], attributes := #[] }
def k1m1 : Method := { name := "law", desc := "(JI)Z", sig := { parameters := [.long, .int], returnType := some .boolean }, accessFlags := 9, code := some k1c1 }
/-- evenhand/QueuedLockHoldsAdmitPinLaw -/
def k1 : Class := { plain "evenhand/QueuedLockHoldsAdmitPinLaw" (some 0) with
  accessFlags := 49
  interfaces := #[]
  cf := some (fileOf pool1 21 #[] #[{ accessFlags := 1, nameIndex := 5, descriptorIndex := 6, attributes := #[] }, { accessFlags := 9, nameIndex := 25, descriptorIndex := 26, attributes := #[] }] 49 2 #[] #[])
  fields := #[]
  methods := #[k1m0, k1m1]
  instanceTypes := #[]
  staticTypes := #[]
  resolved := Array.replicate 30 none
  statics := none }

def pool2 : Array CpInfo := pool [(1, .class_ 2), (0, u "java/util/concurrent/locks/Lock"), (0, .class_ 4), (0, u "java/lang/Object")] 14

/-- java/util/concurrent/locks/Lock -/
def k2 : Class := { plain "java/util/concurrent/locks/Lock" (some 0) with
  accessFlags := 1537
  interfaces := #[]
  cf := some (fileOf pool2 1 #[] #[] 1537 3 #[] #[])
  fields := #[]
  methods := #[]
  instanceTypes := #[]
  staticTypes := #[]
  resolved := Array.replicate 19 none
  statics := none }

def pool3 : Array CpInfo := pool [(1, .class_ 2), (0, u "evenhand/QueuedLock"), (1, .class_ 6), (1, u "java/lang/Object"), (0, u "<init>"), (0, u "()V"), (0, .class_ 10), (0, u "evenhand/QueuedLock$WriteView"), (5, u "writeView"), (0, u "Ljava/util/concurrent/locks/Lock;"), (2, u "state"), (0, u "J"), (0, .long 1048575), (1, .long 1048576), (25, .long 2097151), (19, u "writeHolder"), (0, u "Ljava/lang/Thread;"), (19, u "STATE"), (0, u "Ljava/lang/invoke/VarHandle;"), (13, u "(JZ)Z"), (31, .class_ 140), (1, u "evenhand/QueuedLock$Node"), (1, u "B"), (41, u "I"), (17, u "Z"), (15, u "STATUS"), (31, u "queue"), (0, u "Levenhand/QueuedLock$Queue;"), (0, .class_ 253), (0, u "evenhand/QueuedLock$Queue"), (3, u "QUEUE"), (8, u "WRITERS"), (12, u "TAIL"), (119, .class_ 400), (0, u "java/util/concurrent/locks/Lock"), (0, u "READERS"), (1, u "ONE_READER"), (2, u "WRITER"), (0, u "READERS_WAITING_SHIFT"), (1, u "READERS_WAITING"), (0, u "ONE_READER_WAITING"), (0, u "WRITERS_WAITING_SHIFT"), (1, u "WRITERS_WAITING"), (0, u "ONE_WRITER_WAITING"), (0, u "WAITERS"), (0, u "CALLED"), (0, u "ADMITTING"), (0, u "RESCAN"), (0, u "SWEEP"), (0, u "WAITING"), (1, u "CLAIMED"), (1, u "GRANTED"), (1, u "GAVE_UP"), (1, u "LEADING"), (1, u "MARKER"), (1, u "PENDING"), (1, u "HANDED_OVER"), (1, u "ADMITTER_GRANTS"), (1, u "YIELDS"), (1, u "YIELDING_AHEAD"), (1, u "READ"), (0, u "WRITE"), (5, u "holdsAdmit")] 38

def k3m0 : Method := { name := "<init>", desc := "()V", sig := { parameters := [], returnType := none }, accessFlags := 0, code := none }
def k3c1 : Code := { maxStack := 4, maxLocals := 3, code := prog_5_method_10_code, exceptionTable := #[], attributes := #[] }
def k3m1 : Method := { name := "holdsAdmit", desc := "(JZ)Z", sig := { parameters := [.long, .boolean], returnType := some .boolean }, accessFlags := 8, code := some k3c1 }
/-- evenhand/QueuedLock -/
def k3 : Class := { plain "evenhand/QueuedLock" (some 0) with
  accessFlags := 1056
  interfaces := #[2]
  cf := some (fileOf pool3 1 #[.nestMembers #[9, 138, 252]] #[{ accessFlags := 0, nameIndex := 7, descriptorIndex := 8, attributes := #[] }, { accessFlags := 8, nameIndex := 449, descriptorIndex := 106, attributes := #[] }] 1056 4 #[399] #[{ accessFlags := 24, nameIndex := 401, descriptorIndex := 21, attributes := #[] }, { accessFlags := 24, nameIndex := 403, descriptorIndex := 21, attributes := #[] }, { accessFlags := 24, nameIndex := 406, descriptorIndex := 21, attributes := #[] }, { accessFlags := 26, nameIndex := 407, descriptorIndex := 184, attributes := #[] }, { accessFlags := 24, nameIndex := 409, descriptorIndex := 21, attributes := #[] }, { accessFlags := 26, nameIndex := 410, descriptorIndex := 21, attributes := #[] }, { accessFlags := 26, nameIndex := 411, descriptorIndex := 184, attributes := #[] }, { accessFlags := 24, nameIndex := 413, descriptorIndex := 21, attributes := #[] }, { accessFlags := 26, nameIndex := 414, descriptorIndex := 21, attributes := #[] }, { accessFlags := 24, nameIndex := 415, descriptorIndex := 21, attributes := #[] }, { accessFlags := 24, nameIndex := 416, descriptorIndex := 21, attributes := #[] }, { accessFlags := 26, nameIndex := 417, descriptorIndex := 21, attributes := #[] }, { accessFlags := 26, nameIndex := 418, descriptorIndex := 21, attributes := #[] }, { accessFlags := 26, nameIndex := 419, descriptorIndex := 21, attributes := #[] }, { accessFlags := 26, nameIndex := 420, descriptorIndex := 142, attributes := #[] }, { accessFlags := 26, nameIndex := 422, descriptorIndex := 142, attributes := #[] }, { accessFlags := 26, nameIndex := 424, descriptorIndex := 142, attributes := #[] }, { accessFlags := 26, nameIndex := 426, descriptorIndex := 142, attributes := #[] }, { accessFlags := 26, nameIndex := 428, descriptorIndex := 142, attributes := #[] }, { accessFlags := 26, nameIndex := 430, descriptorIndex := 142, attributes := #[] }, { accessFlags := 26, nameIndex := 432, descriptorIndex := 142, attributes := #[] }, { accessFlags := 26, nameIndex := 434, descriptorIndex := 184, attributes := #[] }, { accessFlags := 26, nameIndex := 436, descriptorIndex := 184, attributes := #[] }, { accessFlags := 26, nameIndex := 438, descriptorIndex := 184, attributes := #[] }, { accessFlags := 26, nameIndex := 440, descriptorIndex := 184, attributes := #[] }, { accessFlags := 26, nameIndex := 442, descriptorIndex := 202, attributes := #[] }, { accessFlags := 26, nameIndex := 443, descriptorIndex := 202, attributes := #[] }, { accessFlags := 26, nameIndex := 91, descriptorIndex := 92, attributes := #[] }, { accessFlags := 26, nameIndex := 257, descriptorIndex := 92, attributes := #[] }, { accessFlags := 26, nameIndex := 266, descriptorIndex := 92, attributes := #[] }, { accessFlags := 26, nameIndex := 279, descriptorIndex := 92, attributes := #[] }, { accessFlags := 26, nameIndex := 218, descriptorIndex := 92, attributes := #[] }, { accessFlags := 18, nameIndex := 16, descriptorIndex := 17, attributes := #[] }, { accessFlags := 66, nameIndex := 20, descriptorIndex := 21, attributes := #[] }, { accessFlags := 2, nameIndex := 70, descriptorIndex := 71, attributes := #[] }, { accessFlags := 66, nameIndex := 250, descriptorIndex := 251, attributes := #[] }])
  fields := #[{ name := "READERS", type := .long, accessFlags := 24, slot := 0, constantValue := 0 }, { name := "ONE_READER", type := .long, accessFlags := 24, slot := 1, constantValue := 0 }, { name := "WRITER", type := .long, accessFlags := 24, slot := 2, constantValue := 0 }, { name := "READERS_WAITING_SHIFT", type := .int, accessFlags := 26, slot := 3, constantValue := 0 }, { name := "READERS_WAITING", type := .long, accessFlags := 24, slot := 4, constantValue := 0 }, { name := "ONE_READER_WAITING", type := .long, accessFlags := 26, slot := 5, constantValue := 0 }, { name := "WRITERS_WAITING_SHIFT", type := .int, accessFlags := 26, slot := 6, constantValue := 0 }, { name := "WRITERS_WAITING", type := .long, accessFlags := 24, slot := 7, constantValue := 0 }, { name := "ONE_WRITER_WAITING", type := .long, accessFlags := 26, slot := 8, constantValue := 0 }, { name := "WAITERS", type := .long, accessFlags := 24, slot := 9, constantValue := 0 }, { name := "CALLED", type := .long, accessFlags := 24, slot := 10, constantValue := 0 }, { name := "ADMITTING", type := .long, accessFlags := 26, slot := 11, constantValue := 0 }, { name := "RESCAN", type := .long, accessFlags := 26, slot := 12, constantValue := 0 }, { name := "SWEEP", type := .long, accessFlags := 26, slot := 13, constantValue := 0 }, { name := "WAITING", type := .byte, accessFlags := 26, slot := 14, constantValue := 0 }, { name := "CLAIMED", type := .byte, accessFlags := 26, slot := 15, constantValue := 0 }, { name := "GRANTED", type := .byte, accessFlags := 26, slot := 16, constantValue := 0 }, { name := "GAVE_UP", type := .byte, accessFlags := 26, slot := 17, constantValue := 0 }, { name := "LEADING", type := .byte, accessFlags := 26, slot := 18, constantValue := 0 }, { name := "MARKER", type := .byte, accessFlags := 26, slot := 19, constantValue := 0 }, { name := "PENDING", type := .byte, accessFlags := 26, slot := 20, constantValue := 0 }, { name := "HANDED_OVER", type := .int, accessFlags := 26, slot := 21, constantValue := 0 }, { name := "ADMITTER_GRANTS", type := .int, accessFlags := 26, slot := 22, constantValue := 0 }, { name := "YIELDS", type := .int, accessFlags := 26, slot := 23, constantValue := 0 }, { name := "YIELDING_AHEAD", type := .int, accessFlags := 26, slot := 24, constantValue := 0 }, { name := "READ", type := .boolean, accessFlags := 26, slot := 25, constantValue := 0 }, { name := "WRITE", type := .boolean, accessFlags := 26, slot := 26, constantValue := 0 }, { name := "STATE", type := (.object "java/lang/invoke/VarHandle"), accessFlags := 26, slot := 27, constantValue := 0 }, { name := "QUEUE", type := (.object "java/lang/invoke/VarHandle"), accessFlags := 26, slot := 28, constantValue := 0 }, { name := "WRITERS", type := (.object "java/lang/invoke/VarHandle"), accessFlags := 26, slot := 29, constantValue := 0 }, { name := "TAIL", type := (.object "java/lang/invoke/VarHandle"), accessFlags := 26, slot := 30, constantValue := 0 }, { name := "STATUS", type := (.object "java/lang/invoke/VarHandle"), accessFlags := 26, slot := 31, constantValue := 0 }, { name := "writeView", type := (.object "java/util/concurrent/locks/Lock"), accessFlags := 18, slot := 0, constantValue := 0 }, { name := "state", type := .long, accessFlags := 66, slot := 1, constantValue := 0 }, { name := "writeHolder", type := (.object "java/lang/Thread"), accessFlags := 2, slot := 2, constantValue := 0 }, { name := "queue", type := (.object "evenhand/QueuedLock$Queue"), accessFlags := 66, slot := 3, constantValue := 0 }]
  methods := #[k3m0, k3m1]
  instanceTypes := #[(.object "java/util/concurrent/locks/Lock"), .long, (.object "java/lang/Thread"), (.object "evenhand/QueuedLock$Queue")]
  staticTypes := #[.long, .long, .long, .int, .long, .long, .int, .long, .long, .long, .long, .long, .long, .long, .byte, .byte, .byte, .byte, .byte, .byte, .byte, .int, .int, .int, .int, .boolean, .boolean, (.object "java/lang/invoke/VarHandle"), (.object "java/lang/invoke/VarHandle"), (.object "java/lang/invoke/VarHandle"), (.object "java/lang/invoke/VarHandle"), (.object "java/lang/invoke/VarHandle")]
  resolved := Array.replicate 488 none
  statics := none }

def pool4 : Array CpInfo := pool [(1, u "java/lang/Cloneable"), (0, .class_ 1), (0, u "java/lang/Object"), (0, .class_ 3)] 3

/-- java/lang/Cloneable -/
def k4 : Class := { plain "java/lang/Cloneable" (some 0) with
  accessFlags := 1537
  interfaces := #[]
  cf := some (fileOf pool4 2 #[] #[] 1537 4 #[] #[])
  fields := #[]
  methods := #[]
  instanceTypes := #[]
  staticTypes := #[]
  resolved := Array.replicate 8 none
  statics := none }

def pool5 : Array CpInfo := pool [(1, u "java/io/Serializable"), (0, .class_ 1), (0, u "java/lang/Object"), (0, .class_ 3)] 3

/-- java/io/Serializable -/
def k5 : Class := { plain "java/io/Serializable" (some 0) with
  accessFlags := 1537
  interfaces := #[]
  cf := some (fileOf pool5 2 #[] #[] 1537 4 #[] #[])
  fields := #[]
  methods := #[]
  instanceTypes := #[]
  staticTypes := #[]
  resolved := Array.replicate 8 none
  statics := none }

/-- the primitive byte -/
def k6 : Class := { plain "byte" none with kind := .primitive 'B', accessFlags := 0x411 }
/-- [B -/
def k7 : Class := { plain "[B" (some 0) with kind := .array 6 .byte, interfaces := #[4, 5], accessFlags := 1041 }

/-- the primitive int -/
def k8 : Class := { plain "int" none with kind := .primitive 'I', accessFlags := 0x411 }
/-- [I -/
def k9 : Class := { plain "[I" (some 0) with kind := .array 8 .int, interfaces := #[4, 5], accessFlags := 1041 }

def heap : Heap := #[]
def classes : Array Class := #[k0, k1, k2, k3, k4, k5, k6, k7, k8, k9]
def interned : List (Array UInt16 × Addr) := []
def slotsUsed : Nat := 0
def theMethod : MethodId := ⟨1, 1⟩
def args0 : Array Value := #[.long 7, .int 8]
def aboutOver (below : List Frame) : State where
  vm := { classes := classes, interned := interned.toArray }
  heap := heap
  slotsUsed := slotsUsed
  threads := #[{ frames := .invoking theMethod args0 :: below }]
def below0 : List Frame := [.native { method := ⟨0, 0⟩, args := #[] }]
def about1 : State := aboutOver below0
def p0 : Program := .bare "" "" ""
def e0 : Env := launch0.env 0 0 0
theorem w_frames : about1.frames = Frame.invoking theMethod args0 :: below0 := rfl
set_option maxRecDepth 65536 in
theorem w_args : argsFit about1.vm theMethod args0 = true := by decide +kernel
set_option maxRecDepth 65536 in
theorem w_heap : heapFits about1 = true := by decide +kernel
set_option maxRecDepth 65536 in
theorem w_runnable : about1.curStatus? = some .runnable := by decide +kernel
set_option maxRecDepth 65536 in
theorem w_alone : about1.alone = true := by decide +kernel
set_option maxRecDepth 65536 in
theorem w_named : about1.methodNamed? x = some theMethod := by decide +kernel
set_option maxRecDepth 65536 in
theorem w_hears : about1.hears theMethod below0 = true := by decide +kernel
set_option maxRecDepth 65536 in
theorem w_ripe : about1.ripe theMethod args0 below0 = true := by decide +kernel
theorem w_running : about1.status = .running := rfl
set_option maxRecDepth 65536 in
theorem w_room : about1.hasRoom e0.platform room_1 = true :=
  launch0.hasRoom_least _ room_1 (by decide +kernel) (by decide +kernel) (by decide +kernel) (by decide +kernel) (by decide +kernel) (by decide +kernel)
theorem allAtoms_all (ts : List Jvm.Cond) (a : Array Jvm.Value) (st : Jvm.State) : (allAtoms ts).before a st = ts.all (fun c => c.before a st) := by
  induction ts with
  | nil => rfl
  | cons c t ih =>
    show (Jvm.Cond.and c (allAtoms t)).before a st = _
    rw [Jvm.Cond.before_and, ih, List.all_cons]
def words1 : List Jvm.Cond := Jvm.Cond.code x code maxLocals ret :: tables_1
/-- a 'code' word, met by the world's own term for the bytes: nothing is compared byte by byte -/
theorem code_word {y : MethodName} {bytes : ByteArray} {mx : Nat} {rt : Option FieldType} {a : Array Value} {s : State} {m : MethodId} {meth : Method} {c : Code} (h1 : s.methodNamed? y = some m) (h2 : s.vm.method? m = some meth) (h3 : meth.code = some c) (h4 : c.code = bytes)
    (h5 : (c.maxLocals == mx && c.exceptionTable.isEmpty && decide (c.maxStack ≤ mostOperands) && decide (meth.sig.returnType = rt) && !meth.locks && decide (parseMethodDescriptor y.desc = some meth.sig)) = true) : (Jvm.Cond.code y bytes mx rt).before a s = true := by
  simp only [Bool.and_eq_true, beq_iff_eq, Bool.not_eq_true', decide_eq_true_eq] at h5
  obtain ⟨⟨⟨⟨⟨g1, g2⟩, g3⟩, g4⟩, g5⟩, g6⟩ := h5
  simp [Cond.before, Cond.holds, Cond.value, h1, h2, h3, h4, g1, g2, g3, g4, g5, g6]
def isCode : Jvm.Cond → Bool
  | .code _ _ _ _ => true
  | _ => false
theorem all_split {L : List Jvm.Cond} {P : Jvm.Cond → Bool} (h1 : L.all (fun c => isCode c || P c) = true) (h2 : ∀ c ∈ L.filter isCode, P c = true) : L.all P = true := by
  refine List.all_eq_true.mpr fun c hc => ?_
  have h := List.all_eq_true.mp h1 c hc
  rcases Bool.eq_false_or_eq_true (isCode c) with hi | hi
  · exact h2 c (List.mem_filter.mpr ⟨hc, hi⟩)
  · simpa [hi] using h
set_option maxRecDepth 65536 in
theorem w_c0 : (Jvm.Cond.code x code maxLocals ret).before args0 about1 = true := code_word (m := ⟨1, 1⟩) (meth := k1m1) (c := k1c1) (by decide +kernel) rfl rfl rfl (by decide +kernel)
set_option maxRecDepth 65536 in
theorem w_c1 : (Jvm.Cond.code ({ cls := "evenhand/QueuedLock", name := "holdsAdmit", desc := "(JZ)Z" } : Jvm.MethodName) prog_5_method_10_code (3 : Nat) (Option.some Jvm.ClassFile.FieldType.boolean)).before args0 about1 = true := code_word (m := ⟨3, 1⟩) (meth := k3m1) (c := k3c1) (by decide +kernel) rfl rfl rfl (by decide +kernel)
def codes1 : List Jvm.Cond := [Jvm.Cond.code x code maxLocals ret, Jvm.Cond.code ({ cls := "evenhand/QueuedLock", name := "holdsAdmit", desc := "(JZ)Z" } : Jvm.MethodName) prog_5_method_10_code (3 : Nat) (Option.some Jvm.ClassFile.FieldType.boolean)]
set_option maxRecDepth 65536 in
theorem codes_eq : words1.filter isCode = codes1 := rfl
theorem w_codes : ∀ c ∈ words1.filter isCode, c.before args0 about1 = true := by
  rw [codes_eq]
  intro c hc
  simp only [codes1, List.mem_cons, List.not_mem_nil, or_false] at hc
  rcases hc with rfl | rfl
  · exact w_c0
  · exact w_c1
set_option maxRecDepth 65536 in
theorem w_t1 : words1.all (fun c => isCode c || c.before args0 about1) = true := by decide +kernel
theorem w_tables : (allAtoms (Jvm.Cond.code x code maxLocals ret :: tables_1)).before args0 about1 = true := by
  rw [allAtoms_all]
  show words1.all (fun c => c.before args0 about1) = true
  refine all_split ?_ w_codes
  rw [w_t1]
set_option maxRecDepth 65536 in
theorem w_case : (Jvm.Cond.and given_1 narrow_1).before args0 about1 = true := by decide +kernel
theorem w_applies : (headSpec (Jvm.Cond.code x code maxLocals ret :: tables_1) room_1).applies x e0.platform about1 = true :=
  (Spec.applies_iff w_frames).mpr ⟨w_running, w_runnable, w_alone, w_named, w_hears, w_ripe, w_room, w_tables⟩
theorem atStart : AtStart classFile x code maxLocals ret World_1 tables_1 room_1 Calls_1 rest_1 Pre_1 launch0 p0 e0 about1 theMethod args0 below0 :=
  ⟨lists_1, trivial, launch0.admits_env _ _ _, launch0.least_env, fairChoices_fair.cas, fairChoices_fair.clock, w_frames, w_args, w_heap, w_applies, trivial, trivial, w_case⟩
end start1
theorem witness_1 : WitnessClaimed_1 := ⟨start1.p0, start1.e0, start1.about1, start1.theMethod, start1.args0, start1.below0, start1.atStart⟩
end Jvm.Pilot.@@N@@
