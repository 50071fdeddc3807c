import JvmDerived
import JvmDerived.Pilot.@@N@@Statement
import JvmDerived.Pilot.@@N@@Code
set_option linter.unusedVariables false
set_option linter.unusedSimpArgs false
@@BLOCK:NumsL.lean.txt@@
namespace Jvm.Pilot.@@N@@
open Jvm Jvm.ClassFile Sem Op Lib Jvm.Free Jvm.Stand Jvm.LawKit Jvm.RoadKit Bundle Jvm.Pilot.@@N@@.Jvm.D
section OwnKit
variable {p : Program} {l : Launch} {e : Env} {R : Room} {s : State} {m : MethodId} {args : Array Value} {below : List Frame} {meth : Method} {c : Code} {T T' : State} {locs : List Loc} {cells slots : Nat}
/-- from this configuration the body comes to its end, and then Q holds -/
def own_Fin (p : Program) (e : Env) (below : List Frame) (s : State) (Q : Option Value → Heap → List Loc → Prop) (kc ks : Nat) (T : State) (g : JFrame) : Prop :=
  ∃ s₂ o, Steps p.tables e below (T.setTop g) s₂ ∧ s₂.status = .running ∧ Ended s₂ below o ∧ ∃ v L, o = .returned v ∧ Q v s₂.heap L ∧ FrameEnd s o s₂ L kc ks
variable {Q : Option Value → Heap → List Loc → Prop} {kc ks : Nat} {g g' : JFrame}
theorem own_step (st : ∀ t, Steps p.tables e below (T'.setTop g') t → Steps p.tables e below (T.setTop g) t) (k : own_Fin p e below s Q kc ks T' g') : own_Fin p e below s Q kc ks T g := by
  obtain ⟨s₂, o, h1, r⟩ := k
  exact ⟨s₂, o, st _ h1, r⟩
theorem own_in {as : Array Value} {n : Nat} (ef : entryFrame m as n = g) (k : own_Fin p e below s Q kc ks T g) :
    ∃ s₂ o, Steps p.tables e below (T.setTop (entryFrame m as n)) s₂ ∧ s₂.status = .running ∧ Ended s₂ below o ∧ ∃ v L, o = .returned v ∧ Q v s₂.heap L ∧ FrameEnd s o s₂ L kc ks := by
  obtain ⟨s₂, o, h1, r⟩ := k
  exact ⟨s₂, o, castTop ef h1, r⟩
theorem own_retV (X : Stand p l e R s m args below meth c T locs cells slots) (hx : p.tables.exec = Jvm.exec) (hlk : meth.locks = false) {pc : Nat} {Ls : Array Slot} {w : Value} {t : FieldType} {i : Instr} {rest : List Value} (hret : meth.sig.returnType = some t) (hn : narrow t w = w)
    (hi : (i = .ireturn ∧ (t = .int ∨ t = .boolean ∨ t = .byte ∨ t = .char ∨ t = .short) ∧ ∃ z, w = .int z) ∨ (i = .lreturn ∧ t = .long ∧ ∃ z, w = .long z) ∨ (i = .dreturn ∧ t = .double ∧ ∃ z, w = .double z) ∨ (i = .freturn ∧ t = .float ∧ ∃ z, w = .float z) ∨ (i = .areturn ∧ t.isReference = true ∧ w.isRef = true))
    (hd : decode c.code pc = .ok (i, 1)) (hq : Q (some w) T.heap locs) (h1 : cells ≤ kc) (h2 : slots ≤ ks) : own_Fin p e below s Q kc ks T (mkF m pc Ls (w :: rest)) := by
  obtain ⟨fs, hr, hrun, hended, hW, hsame⟩ := X.leave (v := some w) (fun h => by rw [hret] at h; cases h) hlk
  exact ⟨_, _, retOut X hx hret hn hi hd hr, hrun, hended, _, _, rfl, hq, ⟨_, rfl⟩, hW, hsame.mono h1 h2⟩
theorem own_retI (X : Stand p l e R s m args below meth c T locs cells slots) (hx : p.tables.exec = Jvm.exec) (hlk : meth.locks = false) {pc : Nat} {Ls : Array Slot} {z : Int32} {rest : List Value} (hret : meth.sig.returnType = some .int)
    (hd : decode c.code pc = .ok (.ireturn, 1)) (hq : Q (some (.int z)) T.heap locs) (h1 : cells ≤ kc) (h2 : slots ≤ ks) : own_Fin p e below s Q kc ks T (mkF m pc Ls (.int z :: rest)) :=
  own_retV X hx hlk hret rfl (Or.inl ⟨rfl, Or.inl rfl, z, rfl⟩) hd hq h1 h2
theorem own_retJ (X : Stand p l e R s m args below meth c T locs cells slots) (hx : p.tables.exec = Jvm.exec) (hlk : meth.locks = false) {pc : Nat} {Ls : Array Slot} {z : Int64} {rest : List Value} (hret : meth.sig.returnType = some .long)
    (hd : decode c.code pc = .ok (.lreturn, 1)) (hq : Q (some (.long z)) T.heap locs) (h1 : cells ≤ kc) (h2 : slots ≤ ks) : own_Fin p e below s Q kc ks T (mkF m pc Ls (.long z :: rest)) :=
  own_retV X hx hlk hret rfl (Or.inr (Or.inl ⟨rfl, rfl, z, rfl⟩)) hd hq h1 h2
theorem own_retA (X : Stand p l e R s m args below meth c T locs cells slots) (hx : p.tables.exec = Jvm.exec) (hlk : meth.locks = false) {pc : Nat} {Ls : Array Slot} {w : Value} {t : FieldType} {rest : List Value} (hret : meth.sig.returnType = some t) (ht : t.isReference = true) (hw : w.isRef = true)
    (hd : decode c.code pc = .ok (.areturn, 1)) (hq : Q (some w) T.heap locs) (h1 : cells ≤ kc) (h2 : slots ≤ ks) : own_Fin p e below s Q kc ks T (mkF m pc Ls (w :: rest)) :=
  own_retV X hx hlk hret (by cases t <;> first | (cases ht; done) | rfl) (Or.inr (Or.inr (Or.inr (Or.inr ⟨rfl, ht, hw⟩)))) hd hq h1 h2
theorem own_retN (X : Stand p l e R s m args below meth c T locs cells slots) (hx : p.tables.exec = Jvm.exec) (hlk : meth.locks = false) {pc : Nat} {Ls : Array Slot} {z : Int32} {t : FieldType} {rest : List Value} (hret : meth.sig.returnType = some t) (ht : t = .boolean ∨ t = .byte ∨ t = .char ∨ t = .short)
    (hd : decode c.code pc = .ok (.ireturn, 1)) (hq : Q (some (.int (nar t z))) T.heap locs) (h1 : cells ≤ kc) (h2 : slots ≤ ks) : own_Fin p e below s Q kc ks T (mkF m pc Ls (.int z :: rest)) := by
  obtain ⟨fs, hr, hrun, hended, hW, hsame⟩ := X.leave (v := some (.int (nar t z))) (fun h => by rw [hret] at h; cases h) hlk
  exact ⟨_, _, retN X hx hret ht hd hr, hrun, hended, _, _, rfl, hq, ⟨_, rfl⟩, hW, hsame.mono h1 h2⟩
theorem own_ret (X : Stand p l e R s m args below meth c T locs cells slots) (hx : p.tables.exec = Jvm.exec) (hlk : meth.locks = false) {pc : Nat} {Ls : Array Slot} (hret : meth.sig.returnType = none)
    (hd : decode c.code pc = .ok (.return_, 1)) (hq : Q none T.heap locs) (h1 : cells ≤ kc) (h2 : slots ≤ ks) : own_Fin p e below s Q kc ks T (mkF m pc Ls []) := by
  obtain ⟨fs, hr, hrun, hended, hW, hsame⟩ := X.leave (v := none) (fun _ => rfl) hlk
  exact ⟨_, _, X.returnOut hx hret hd hr, hrun, hended, _, _, rfl, hq, ⟨_, rfl⟩, hW, hsame.mono h1 h2⟩
end OwnKit
theorem own_nar_ite {P : Prop} [Decidable P] {a b : Int32} (ha : nar .boolean a = a) (hb : nar .boolean b = b) : nar .boolean (if P then a else b) = (if P then a else b) := by
  by_cases h : P
  · rw [if_pos h]; exact ha
  · rw [if_neg h]; exact hb
theorem own_nar_bool (P : Prop) [Decidable P] : nar .boolean (if P then (1 : Int32) else 0) = (if P then (1 : Int32) else 0) := own_nar_ite (by decide) (by decide)
def own_digit (x y : Int64) (i : Int32) : Int64 := ((48 : Int64) + ((x / y) - ((x / y) / (10 : Int64)) * (10 : Int64))) <<< (((8 : Int32) * i).toInt64 &&& 63)
def own_eight (x : Int64) : Int64 := XT.ushrL (((XT.ushrL (((XT.ushrL ((x - (3472328296227680304 : Int64)) * (2561 : Int64)) (8 : Int32)) &&& (71777214294589695 : Int64)) * (6553601 : Int64)) (16 : Int32)) &&& (281470681808895 : Int64)) * (42949672960001 : Int64)) (32 : Int32)
theorem own_land {k a b c d : Nat} (ha : a < 2 ^ k) (hc : c < 2 ^ k) : (2 ^ k * b + a) &&& (2 ^ k * d + c) = 2 ^ k * (b &&& d) + (a &&& c) := by
  have h1 := Nat.and_div_two_pow (a := 2 ^ k * b + a) (b := 2 ^ k * d + c) (n := k)
  have h2 := Nat.and_mod_two_pow (a := 2 ^ k * b + a) (b := 2 ^ k * d + c) (n := k)
  have p : 0 < 2 ^ k := Nat.two_pow_pos k
  rw [Nat.mul_add_div p, Nat.mul_add_div p, Nat.div_eq_of_lt ha, Nat.div_eq_of_lt hc, Nat.add_zero, Nat.add_zero] at h1
  rw [Nat.mul_add_mod, Nat.mul_add_mod, Nat.mod_eq_of_lt ha, Nat.mod_eq_of_lt hc] at h2
  rw [← Nat.div_add_mod ((2 ^ k * b + a) &&& (2 ^ k * d + c)) (2 ^ k), h1, h2]
theorem own_ff {a : Nat} (ha : a < 256) : a &&& 255 = a := by
  rw [Nat.and_two_pow_sub_one_eq_mod a 8]; exact Nat.mod_eq_of_lt ha
theorem own_ffff {a : Nat} (ha : a < 65536) : a &&& 65535 = a := by
  rw [Nat.and_two_pow_sub_one_eq_mod a 16]; exact Nat.mod_eq_of_lt ha
/-- the bytes 0, 2, 4, 6 of seven -/
theorem own_mask1 {e0 e1 e2 e3 e4 e5 e6 : Nat} (h0 : e0 < 256) (h1 : e1 < 256) (h2 : e2 < 256) (h3 : e3 < 256) (h4 : e4 < 256) (h5 : e5 < 256) (h6 : e6 < 256) :
    (e0 + e1 * 2 ^ 8 + e2 * 2 ^ 16 + e3 * 2 ^ 24 + e4 * 2 ^ 32 + e5 * 2 ^ 40 + e6 * 2 ^ 48) &&& 71777214294589695 = e0 + e2 * 2 ^ 16 + e4 * 2 ^ 32 + e6 * 2 ^ 48 := by
  have q : ∀ {a b m : Nat}, a < 256 → b < 256 → ∀ r, (2 ^ 16 * r + (2 ^ 8 * b + a)) &&& (2 ^ 16 * m + (2 ^ 8 * 0 + 255)) = 2 ^ 16 * (r &&& m) + a := by
    intro a b m ha hb r
    rw [own_land (k := 16) (by omega) (by omega), own_land (k := 8) (by omega) (by omega), Nat.and_zero, own_ff ha]; omega
  have a1 := q (m := 2 ^ 16 * (2 ^ 16 * 255 + 255) + 255) h0 h1 (2 ^ 16 * (2 ^ 16 * (2 ^ 8 * 0 + e6) + (2 ^ 8 * e5 + e4)) + (2 ^ 8 * e3 + e2))
  have a2 := q (m := 2 ^ 16 * 255 + 255) h2 h3 (2 ^ 16 * (2 ^ 8 * 0 + e6) + (2 ^ 8 * e5 + e4))
  have a3 := q (m := 255) h4 h5 (2 ^ 8 * 0 + e6)
  have a4 : (2 ^ 8 * 0 + e6) &&& 255 = e6 := by rw [Nat.mul_zero, Nat.zero_add]; exact own_ff h6
  simp only [Nat.mul_zero, Nat.zero_add] at a1 a2 a3 a4
  rw [a4] at a3
  rw [a3] at a2
  rw [a2] at a1
  have l : e0 + e1 * 2 ^ 8 + e2 * 2 ^ 16 + e3 * 2 ^ 24 + e4 * 2 ^ 32 + e5 * 2 ^ 40 + e6 * 2 ^ 48 = 2 ^ 16 * (2 ^ 16 * (2 ^ 16 * e6 + (2 ^ 8 * e5 + e4)) + (2 ^ 8 * e3 + e2)) + (2 ^ 8 * e1 + e0) := by omega
  have m : 71777214294589695 = 2 ^ 16 * (2 ^ 16 * (2 ^ 16 * 255 + 255) + 255) + 255 := by decide
  rw [l, m, a1]; omega
theorem own_mask2 {g0 g1 g2 : Nat} (h0 : g0 < 65536) (h1 : g1 < 65536) (h2 : g2 < 65536) : (g0 + g1 * 2 ^ 16 + g2 * 2 ^ 32) &&& 281470681808895 = g0 + g2 * 2 ^ 32 := by
  have l : g0 + g1 * 2 ^ 16 + g2 * 2 ^ 32 = 2 ^ 32 * g2 + (2 ^ 16 * g1 + g0) := by omega
  have m : 281470681808895 = 2 ^ 32 * 65535 + (2 ^ 16 * 0 + 65535) := by decide
  rw [l, m, own_land (k := 32) (by omega) (by omega), own_land (k := 16) (by omega) (by omega), own_ffff h2, own_ffff h0, Nat.and_zero]; omega
abbrev own_U (x : Int64) : Nat := x.toBitVec.toNat
theorem own_U_mul (x y : Int64) : own_U (x * y) = own_U x * own_U y % 2 ^ 64 := by simp only [own_U, Int64.toBitVec_mul, BitVec.toNat_mul]
theorem own_U_and (x y : Int64) : own_U (x &&& y) = own_U x &&& own_U y := by simp only [own_U, Int64.toBitVec_and, BitVec.toNat_and]
theorem own_U_shr (x : Int64) (i : Int32) {k : Nat} (h : (i.toInt64.toUInt64 &&& Int64.toUInt64 63).toNat = k) (hk : k < 64) : own_U (XT.ushrL x i) = own_U x / 2 ^ k := by
  show (XT.ushrL x i).toBitVec.toNat = _
  unfold XT.ushrL
  show (x.toUInt64 >>> (i.toInt64.toUInt64 &&& Int64.toUInt64 63)).toNat = _
  rw [UInt64.toNat_shiftRight, h, Nat.mod_eq_of_lt hk, Nat.shiftRight_eq_div_pow]
  rfl
theorem own_U_of {x : Int64} {n : Nat} (h : x.toInt = (n : Int)) : own_U x = n := by
  have h1 : x.toBitVec.toInt = (n : Int) := h
  have h2 := x.toBitVec.isLt
  rw [BitVec.toInt_eq_toNat_cond] at h1
  show x.toBitVec.toNat = n
  split at h1 <;> omega
theorem own_int_of {x : Int64} {n : Nat} (h : own_U x = n) (hn : n < 2 ^ 63) : x.toInt = (n : Int) := by
  show x.toBitVec.toInt = (n : Int)
  rw [BitVec.toInt_eq_toNat_cond, if_pos (by have h' : x.toBitVec.toNat = n := h; omega)]
  have h' : x.toBitVec.toNat = n := h
  omega
theorem own_or {x y : Int64} {a m k : Nat} (hx : own_U x = a) (ha : a < 2 ^ k) (hy : own_U y = m * 2 ^ k) : own_U (x ||| y) = a + m * 2 ^ k := by
  have h : own_U (x ||| y) = own_U x ||| own_U y := by simp only [own_U, Int64.toBitVec_or, BitVec.toNat_or]
  rw [h, hx, hy, Nat.or_comm, Nat.mul_comm m, ← Nat.two_pow_add_eq_or_of_lt ha m]; omega
/-- one digit's byte -/
theorem own_byte {x y : Int64} {i : Int32} {N pl k : Nat} (hx : x.toInt = (N : Int)) (hN : N < 100000000) (hy : y.toInt = (pl : Int)) (hp : 0 < pl) (hs : ((((8 : Int32) * i).toInt64 &&& 63).toBitVec.smod 64).toNat = k) (hk : k ≤ 56) :
    own_U (own_digit x y i) = (48 + N / pl % 10) * 2 ^ k := by
  have c10 : (10 : Int64).toInt = 10 := rfl
  have c48 : (48 : Int64).toInt = 48 := rfl
  have e1 : (x / y).toInt = ((N / pl : Nat) : Int) := by
    rw [Jvm.Kit.i64_div (by rw [hx]; omega), hx, hy]; rfl
  have e2 : ((x / y) - ((x / y) / (10 : Int64)) * (10 : Int64)).toInt = ((N / pl % 10 : Nat) : Int) := by
    rw [Jvm.Kit.i64_rem_nonneg (by rw [e1]; exact Int.natCast_nonneg _), e1, c10]; rfl
  have b : N / pl % 10 < 10 := Nat.mod_lt _ (by decide)
  have e3 : ((48 : Int64) + ((x / y) - ((x / y) / (10 : Int64)) * (10 : Int64))).toInt = ((48 + N / pl % 10 : Nat) : Int) := by
    rw [Jvm.Kit.i64_add (by rw [c48, e2]; omega) (by rw [c48, e2]; omega), c48, e2]; omega
  generalize N / pl % 10 = d at *
  have p : (2 : Int) ^ k ≤ 2 ^ 56 := by
    have : (2 : Nat) ^ k ≤ 2 ^ 56 := Nat.pow_le_pow_right (by decide) hk
    exact_mod_cast this
  have p0 : (0 : Int) < 2 ^ k := Int.pow_pos (by decide)
  have q : ((48 + d : Nat) : Int) * 2 ^ k ≤ 57 * 2 ^ 56 := by
    have h1 : ((48 + d : Nat) : Int) * 2 ^ k ≤ 57 * 2 ^ k := Int.mul_le_mul_of_nonneg_right (by omega) (Int.le_of_lt p0)
    have h2 : (57 : Int) * 2 ^ k ≤ 57 * 2 ^ 56 := Int.mul_le_mul_of_nonneg_left p (by decide)
    omega
  have q0 : 0 ≤ ((48 + d : Nat) : Int) * 2 ^ k := Int.mul_nonneg (by omega) (Int.le_of_lt p0)
  apply own_U_of
  unfold own_digit
  rw [Jvm.Kit.i64_shl _ _ hs (by rw [e3]; omega) (by rw [e3]; omega), e3]
  push_cast; rfl
theorem own_md {X q Y t k : Nat} (h1 : X = 2 ^ 64 * q + (2 ^ k * Y + t)) (h2 : t < 2 ^ k) (h3 : 2 ^ k * Y + t < 2 ^ 64) : X % 2 ^ 64 / 2 ^ k = Y := by
  rw [h1, Nat.mul_add_mod, Nat.mod_eq_of_lt h3, Nat.mul_add_div (Nat.two_pow_pos k), Nat.div_eq_of_lt h2, Nat.add_zero]
set_option maxHeartbeats 8000000 in
theorem own_law {x n b0 b1 b2 b3 b4 b5 b6 b7 : Int64} (hn : n = ((x &&& (9223372036854775807 : Int64)) - ((x &&& (9223372036854775807 : Int64)) / (100000000 : Int64)) * (100000000 : Int64)))
    (h0 : b0 = own_digit n (10000000 : Int64) (0 : Int32)) (h1 : b1 = own_digit n (1000000 : Int64) (1 : Int32)) (h2 : b2 = own_digit n (100000 : Int64) (2 : Int32)) (h3 : b3 = own_digit n (10000 : Int64) (3 : Int32))
    (h4 : b4 = own_digit n (1000 : Int64) (4 : Int32)) (h5 : b5 = own_digit n (100 : Int64) (5 : Int32)) (h6 : b6 = own_digit n (10 : Int64) (6 : Int32)) (h7 : b7 = own_digit n (1 : Int64) (7 : Int32)) :
    own_eight ((((((((b0 ||| b1) ||| b2) ||| b3) ||| b4) ||| b5) ||| b6) ||| b7)) = n := by
  have m1 : (x &&& (9223372036854775807 : Int64)).toInt = x.toInt % 2 ^ 63 := Jvm.Kit.i64_mask x _ (k := 63) (by decide) (by decide)
  have c8 : (100000000 : Int64).toInt = 100000000 := rfl
  have en : n.toInt = (x.toInt % 2 ^ 63) % 100000000 := by
    rw [hn, Jvm.Kit.i64_rem_nonneg (by rw [m1]; omega), m1, c8]
  obtain ⟨N, hN⟩ : ∃ N : Nat, n.toInt = (N : Int) := ⟨n.toInt.toNat, by omega⟩
  have lN : N < 100000000 := by omega
  have w0 := own_byte (x := n) (i := 0) (k := 0) hN lN (y := (10000000 : Int64)) (pl := 10000000) rfl (by decide) (by decide) (by decide)
  have w1 := own_byte (x := n) (i := 1) (k := 8) hN lN (y := (1000000 : Int64)) (pl := 1000000) rfl (by decide) (by decide) (by decide)
  have w2 := own_byte (x := n) (i := 2) (k := 16) hN lN (y := (100000 : Int64)) (pl := 100000) rfl (by decide) (by decide) (by decide)
  have w3 := own_byte (x := n) (i := 3) (k := 24) hN lN (y := (10000 : Int64)) (pl := 10000) rfl (by decide) (by decide) (by decide)
  have w4 := own_byte (x := n) (i := 4) (k := 32) hN lN (y := (1000 : Int64)) (pl := 1000) rfl (by decide) (by decide) (by decide)
  have w5 := own_byte (x := n) (i := 5) (k := 40) hN lN (y := (100 : Int64)) (pl := 100) rfl (by decide) (by decide) (by decide)
  have w6 := own_byte (x := n) (i := 6) (k := 48) hN lN (y := (10 : Int64)) (pl := 10) rfl (by decide) (by decide) (by decide)
  have w7 := own_byte (x := n) (i := 7) (k := 56) hN lN (y := (1 : Int64)) (pl := 1) rfl (by decide) (by decide) (by decide)
  rw [← h0] at w0; rw [← h1] at w1; rw [← h2] at w2; rw [← h3] at w3; rw [← h4] at w4; rw [← h5] at w5; rw [← h6] at w6; rw [← h7] at w7
  obtain ⟨d0, e0⟩ : ∃ d, d = N / 10000000 % 10 := ⟨_, rfl⟩
  obtain ⟨d1, e1⟩ : ∃ d, d = N / 1000000 % 10 := ⟨_, rfl⟩
  obtain ⟨d2, e2⟩ : ∃ d, d = N / 100000 % 10 := ⟨_, rfl⟩
  obtain ⟨d3, e3⟩ : ∃ d, d = N / 10000 % 10 := ⟨_, rfl⟩
  obtain ⟨d4, e4⟩ : ∃ d, d = N / 1000 % 10 := ⟨_, rfl⟩
  obtain ⟨d5, e5⟩ : ∃ d, d = N / 100 % 10 := ⟨_, rfl⟩
  obtain ⟨d6, e6⟩ : ∃ d, d = N / 10 % 10 := ⟨_, rfl⟩
  obtain ⟨d7, e7⟩ : ∃ d, d = N / 1 % 10 := ⟨_, rfl⟩
  rw [← e0] at w0; rw [← e1] at w1; rw [← e2] at w2; rw [← e3] at w3; rw [← e4] at w4; rw [← e5] at w5; rw [← e6] at w6; rw [← e7] at w7
  have sum : N = d0 * 10000000 + d1 * 1000000 + d2 * 100000 + d3 * 10000 + d4 * 1000 + d5 * 100 + d6 * 10 + d7 := by omega
  have l0 : d0 < 10 := by omega
  have l1 : d1 < 10 := by omega
  have l2 : d2 < 10 := by omega
  have l3 : d3 < 10 := by omega
  have l4 : d4 < 10 := by omega
  have l5 : d5 < 10 := by omega
  have l6 : d6 < 10 := by omega
  have l7 : d7 < 10 := by omega
  clear e0 e1 e2 e3 e4 e5 e6 e7
  have o1 := own_or w0 (by omega) w1
  have o2 := own_or o1 (by omega) w2
  have o3 := own_or o2 (by omega) w3
  have o4 := own_or o3 (by omega) w4
  have o5 := own_or o4 (by omega) w5
  have o6 := own_or o5 (by omega) w6
  have o7 := own_or o6 (by omega) w7
  generalize (((((((b0 ||| b1) ||| b2) ||| b3) ||| b4) ||| b5) ||| b6) ||| b7) = wd at *
  clear o1 o2 o3 o4 o5 o6 w0 w1 w2 w3 w4 w5 w6 w7 h0 h1 h2 h3 h4 h5 h6 h7 en m1 hn
  unfold own_eight
  have z : own_U (wd - (3472328296227680304 : Int64)) = d0 + d1 * 2 ^ 8 + d2 * 2 ^ 16 + d3 * 2 ^ 24 + d4 * 2 ^ 32 + d5 * 2 ^ 40 + d6 * 2 ^ 48 + d7 * 2 ^ 56 := by
    have i1 := own_int_of o7 (by omega)
    have cz : (3472328296227680304 : Int64).toInt = 3472328296227680304 := rfl
    apply own_U_of
    rw [Jvm.Kit.i64_sub (by rw [i1, cz]; omega) (by rw [i1, cz]; omega), i1, cz]; omega
  have s1 : own_U (XT.ushrL ((wd - (3472328296227680304 : Int64)) * (2561 : Int64)) (8 : Int32)) = (d1 + 10 * d0) + (d2 + 10 * d1) * 2 ^ 8 + (d3 + 10 * d2) * 2 ^ 16 + (d4 + 10 * d3) * 2 ^ 24 + (d5 + 10 * d4) * 2 ^ 32 + (d6 + 10 * d5) * 2 ^ 40 + (d7 + 10 * d6) * 2 ^ 48 := by
    have c : own_U (2561 : Int64) = 2561 := rfl
    rw [own_U_shr _ _ (k := 8) (by decide) (by decide), own_U_mul, z, c]
    exact own_md (q := 10 * d7) (t := d0) (by omega) (by omega) (by omega)
  have s2 : own_U ((XT.ushrL ((wd - (3472328296227680304 : Int64)) * (2561 : Int64)) (8 : Int32)) &&& (71777214294589695 : Int64)) = (d1 + 10 * d0) + (d3 + 10 * d2) * 2 ^ 16 + (d5 + 10 * d4) * 2 ^ 32 + (d7 + 10 * d6) * 2 ^ 48 := by
    have c : own_U (71777214294589695 : Int64) = 71777214294589695 := rfl
    rw [own_U_and, s1, c]
    exact own_mask1 (by omega) (by omega) (by omega) (by omega) (by omega) (by omega) (by omega)
  generalize ((XT.ushrL ((wd - (3472328296227680304 : Int64)) * (2561 : Int64)) (8 : Int32)) &&& (71777214294589695 : Int64)) = p1 at *
  obtain ⟨f0, q0⟩ : ∃ f, f = d1 + 10 * d0 := ⟨_, rfl⟩
  obtain ⟨f2, q2⟩ : ∃ f, f = d3 + 10 * d2 := ⟨_, rfl⟩
  obtain ⟨f4, q4⟩ : ∃ f, f = d5 + 10 * d4 := ⟨_, rfl⟩
  obtain ⟨f6, q6⟩ : ∃ f, f = d7 + 10 * d6 := ⟨_, rfl⟩
  rw [← q0, ← q2, ← q4, ← q6] at s2
  clear s1 z o7
  have s3 : own_U (XT.ushrL (p1 * (6553601 : Int64)) (16 : Int32)) = (f2 + 100 * f0) + (f4 + 100 * f2) * 2 ^ 16 + (f6 + 100 * f4) * 2 ^ 32 := by
    have c : own_U (6553601 : Int64) = 6553601 := rfl
    rw [own_U_shr _ _ (k := 16) (by decide) (by decide), own_U_mul, s2, c]
    exact own_md (q := 100 * f6) (t := f0) (by omega) (by omega) (by omega)
  have s4 : own_U ((XT.ushrL (p1 * (6553601 : Int64)) (16 : Int32)) &&& (281470681808895 : Int64)) = (f2 + 100 * f0) + (f6 + 100 * f4) * 2 ^ 32 := by
    have c : own_U (281470681808895 : Int64) = 281470681808895 := rfl
    rw [own_U_and, s3, c]
    exact own_mask2 (by omega) (by omega) (by omega)
  have s5 : own_U (XT.ushrL (((XT.ushrL (p1 * (6553601 : Int64)) (16 : Int32)) &&& (281470681808895 : Int64)) * (42949672960001 : Int64)) (32 : Int32)) = N := by
    have c : own_U (42949672960001 : Int64) = 42949672960001 := rfl
    rw [own_U_shr _ _ (k := 32) (by decide) (by decide), own_U_mul, s4, c]
    exact (own_md (q := 10000 * (f6 + 100 * f4)) (t := f2 + 100 * f0) (Y := (f6 + 100 * f4) + 10000 * (f2 + 100 * f0)) (by omega) (by omega) (by omega)).trans (by omega)
  apply Int64.toInt_inj.mp
  rw [own_int_of s5 (by omega), hN]
theorem pd_0 : parseMethodDescriptor "(JJI)J" = some ⟨[.long, .long, .int], some .long⟩ := by decide +kernel
theorem pd_1 : parseMethodDescriptor "(J)J" = some ⟨[.long], some .long⟩ := by decide +kernel
theorem d0_0 : decode method_2_code 0 = .ok (.lload_n 0, 1) := by decide +kernel
theorem d0_1 : decode method_2_code 1 = .ok (.lload_n 2, 1) := by decide +kernel
theorem d0_2 : decode method_2_code 2 = .ok (.ldiv, 1) := by decide +kernel
theorem d0_3 : decode method_2_code 3 = .ok (.ldc2_w 7, 3) := by decide +kernel
theorem d0_6 : decode method_2_code 6 = .ok (.lrem, 1) := by decide +kernel
theorem d0_7 : decode method_2_code 7 = .ok (.lstore 5, 2) := by decide +kernel
theorem d0_9 : decode method_2_code 9 = .ok (.ldc2_w 9, 3) := by decide +kernel
theorem d0_12 : decode method_2_code 12 = .ok (.lload 5, 2) := by decide +kernel
theorem d0_14 : decode method_2_code 14 = .ok (.ladd, 1) := by decide +kernel
theorem d0_15 : decode method_2_code 15 = .ok (.bipush 8, 2) := by decide +kernel
theorem d0_17 : decode method_2_code 17 = .ok (.iload 4, 2) := by decide +kernel
theorem d0_19 : decode method_2_code 19 = .ok (.imul, 1) := by decide +kernel
theorem d0_20 : decode method_2_code 20 = .ok (.lshl, 1) := by decide +kernel
theorem d0_21 : decode method_2_code 21 = .ok (.lreturn, 1) := by decide +kernel
theorem pn_0 : plainFor (⟨"com/example/llogari/llogari/rules/DigitsEightDigitsPinLaw", "digitByte", "(JJI)J"⟩ : MethodName) = true := by first | exact plainFor_of_name (by first | (simp [plainName, overriddenIn]; done) | decide +kernel) | decide +kernel
theorem ef_0 (m : MethodId) (x0 : Int64) (x1 : Int64) (x2 : Int32) : entryFrame m #[(.long x0), (.long x1), (.int x2)] 7 = mkF m 0 #[.val (.long x0), .second, .val (.long x1), .second, .val (.int x2), .unset, .unset] [] := by first | (simp [entryFrame, mkF, argsToLocals, Value.category]; done) | rfl
def Q_0 (x y : Int64) (i : Int32) (h0 : Heap) (n0 : Nat) (v : Option Value) (h : Heap) (L : List Loc) : Prop := v = some (.long (own_digit x y i)) ∧ Fr n0 L ∧ h = h0
set_option maxRecDepth 65536 in
set_option maxHeartbeats 40000000 in
theorem rm_digit (l : Launch) (Z : State) (a0 : Array Value) (hw : ∀ d ∈ tables_1, d.before a0 Z = true) (ws : List Jvm.Cond) (x y : Int64) (i : Int32) (h0 : Heap) (n0 : Nat) (Z0 : n0 ≤ h0.size) (hy : y ≠ 0) :
    MetFree l (⟨"com/example/llogari/llogari/rules/DigitsEightDigitsPinLaw", "digitByte", "(JJI)J"⟩ : MethodName) (head1 (Jvm.Cond.code (⟨"com/example/llogari/llogari/rules/DigitsEightDigitsPinLaw", "digitByte", "(JJI)J"⟩ : MethodName) method_2_code 7 (some .long) :: ws) ({ frames := 0, cells := 0, slots := 0, locals := 0 } : Room)) (fun as_ U => as_ = #[(.long x), (.long y), (.int i)] ∧ Z.Warmed39 U.vm ∧ U.heap = h0) (fun _ _ _ _ _ => True) (fun _ U o U' => ∃ v L, o = .returned v ∧ Q_0 x y i h0 n0 v U'.heap L ∧ FrameEnd U o U' L ({ frames := 0, cells := 0, slots := 0, locals := 0 } : Room).cells ({ frames := 0, cells := 0, slots := 0, locals := 0 } : Room).slots) := by
  refine MetFree.of_bodySF pn_0 hisR ?_
  intro p e s m args below meth c s₁ Bd hml0 hP hK
  obtain ⟨rfl, hZ, hh⟩ := hP
  have hx := Bd.exec
  have hby := Bd.bytes
  have hlk := BodyLoose.notSynchronized Bd
  have hml : c.maxLocals = 7 := hml0
  have hown : s.vm.findClass "com/example/llogari/llogari/rules/DigitsEightDigitsPinLaw" = some m.cls := findClass_of_methodNamed Bd.named
  have hnm := (name_of_methodNamed Bd.named Bd.method).1
  have X0 : Stand p l e ({ frames := 0, cells := 0, slots := 0, locals := 0 } : Room) s m #[(.long x), (.long y), (.int i)] below meth c s₁ [] 0 0 := Stand.of_body Bd
  have e0 : s₁.heap = h0 := by rw [← hh, Bd.state]; rfl
  have N0 := Fr.nil n0
  refine own_in (ef_0 m x y i) ?_
  show own_Fin p e below s (Q_0 x y i h0 n0) 0 0 s₁ (mkF m 0 #[.val (.long x), .second, .val (.long y), .second, .val (.int i), .unset, .unset] [])
  refine own_step (T' := s₁) (g' := (mkF m 1 #[.val (.long x), .second, .val (.long y), .second, .val (.int i), .unset, .unset] [(.long x)])) (fun t_ k_ => XT.lloadN X0.here hx rfl (hb hby d0_0) rfl k_) ?_
  refine own_step (T' := s₁) (g' := (mkF m 2 #[.val (.long x), .second, .val (.long y), .second, .val (.int i), .unset, .unset] [(.long y), (.long x)])) (fun t_ k_ => XT.lloadN X0.here hx rfl (hb hby d0_1) rfl k_) ?_
  refine own_step (T' := s₁) (g' := (mkF m 3 #[.val (.long x), .second, .val (.long y), .second, .val (.int i), .unset, .unset] [(.long (x / y))])) (fun t_ k_ => XT.ldiv X0.here hx rfl (hb hby d0_2) rfl hy k_) ?_
  refine own_step (T' := s₁) (g' := (mkF m 6 #[.val (.long x), .second, .val (.long y), .second, .val (.int i), .unset, .unset] [(.long (10 : Int64)), (.long (x / y))])) (fun t_ k_ => X0.ldc2J hx hown (mvT hZ (hw _ (List.mem_of_getElem? (i := 7) rfl))) rfl (hb hby d0_3) k_) ?_
  refine own_step (T' := s₁) (g' := (mkF m 7 #[.val (.long x), .second, .val (.long y), .second, .val (.int i), .unset, .unset] [(.long ((x / y) - ((x / y) / (10 : Int64)) * (10 : Int64)))])) (fun t_ k_ => XT.lrem X0.here hx rfl (hb hby d0_6) rfl (by decide) k_) ?_
  refine own_step (T' := s₁) (g' := (mkF m 9 #[.val (.long x), .second, .val (.long y), .second, .val (.int i), .val (.long ((x / y) - ((x / y) / (10 : Int64)) * (10 : Int64))), .second] [])) (fun t_ k_ => XT.lstore X0.here hx rfl (hb hby d0_7) rfl (l' := #[.val (.long x), .second, .val (.long y), .second, .val (.int i), .val (.long ((x / y) - ((x / y) / (10 : Int64)) * (10 : Int64))), .second]) rfl k_) ?_
  refine own_step (T' := s₁) (g' := (mkF m 12 #[.val (.long x), .second, .val (.long y), .second, .val (.int i), .val (.long ((x / y) - ((x / y) / (10 : Int64)) * (10 : Int64))), .second] [(.long (48 : Int64))])) (fun t_ k_ => X0.ldc2J hx hown (mvT hZ (hw _ (List.mem_of_getElem? (i := 8) rfl))) rfl (hb hby d0_9) k_) ?_
  refine own_step (T' := s₁) (g' := (mkF m 14 #[.val (.long x), .second, .val (.long y), .second, .val (.int i), .val (.long ((x / y) - ((x / y) / (10 : Int64)) * (10 : Int64))), .second] [(.long ((x / y) - ((x / y) / (10 : Int64)) * (10 : Int64))), (.long (48 : Int64))])) (fun t_ k_ => XT.lload X0.here hx rfl (hb hby d0_12) rfl k_) ?_
  refine own_step (T' := s₁) (g' := (mkF m 15 #[.val (.long x), .second, .val (.long y), .second, .val (.int i), .val (.long ((x / y) - ((x / y) / (10 : Int64)) * (10 : Int64))), .second] [(.long ((48 : Int64) + ((x / y) - ((x / y) / (10 : Int64)) * (10 : Int64))))])) (fun t_ k_ => XT.ladd X0.here hx rfl (hb hby d0_14) rfl k_) ?_
  refine own_step (T' := s₁) (g' := (mkF m 17 #[.val (.long x), .second, .val (.long y), .second, .val (.int i), .val (.long ((x / y) - ((x / y) / (10 : Int64)) * (10 : Int64))), .second] [(.int (8 : Int32)), (.long ((48 : Int64) + ((x / y) - ((x / y) / (10 : Int64)) * (10 : Int64))))])) (fun t_ k_ => XT.bipushV X0.here hx rfl (8 : Int32) (hb hby d0_15) (by decide) k_) ?_
  refine own_step (T' := s₁) (g' := (mkF m 19 #[.val (.long x), .second, .val (.long y), .second, .val (.int i), .val (.long ((x / y) - ((x / y) / (10 : Int64)) * (10 : Int64))), .second] [(.int i), (.int (8 : Int32)), (.long ((48 : Int64) + ((x / y) - ((x / y) / (10 : Int64)) * (10 : Int64))))])) (fun t_ k_ => XS.iload X0.here hx rfl (hb hby d0_17) rfl k_) ?_
  refine own_step (T' := s₁) (g' := (mkF m 20 #[.val (.long x), .second, .val (.long y), .second, .val (.int i), .val (.long ((x / y) - ((x / y) / (10 : Int64)) * (10 : Int64))), .second] [(.int ((8 : Int32) * i)), (.long ((48 : Int64) + ((x / y) - ((x / y) / (10 : Int64)) * (10 : Int64))))])) (fun t_ k_ => XS.imul X0.here hx rfl (hb hby d0_19) rfl k_) ?_
  refine own_step (T' := s₁) (g' := (mkF m 21 #[.val (.long x), .second, .val (.long y), .second, .val (.int i), .val (.long ((x / y) - ((x / y) / (10 : Int64)) * (10 : Int64))), .second] [(.long (((48 : Int64) + ((x / y) - ((x / y) / (10 : Int64)) * (10 : Int64))) <<< ((((8 : Int32) * i)).toInt64 &&& 63)))])) (fun t_ k_ => XT.lshl X0.here hx rfl (hb hby d0_20) rfl k_) ?_
  exact own_retJ X0 hx hlk Bd.returns (hb hby d0_21) (by rw [e0]; exact ⟨rfl, N0, rfl⟩) (by decide) (by decide)
theorem d1_0 : decode prog_22_method_6_code 0 = .ok (.lload_n 0, 1) := by decide +kernel
theorem d1_1 : decode prog_22_method_6_code 1 = .ok (.ldc2_w 43, 3) := by decide +kernel
theorem d1_4 : decode prog_22_method_6_code 4 = .ok (.lsub, 1) := by decide +kernel
theorem d1_5 : decode prog_22_method_6_code 5 = .ok (.lstore_n 2, 1) := by decide +kernel
theorem d1_6 : decode prog_22_method_6_code 6 = .ok (.lload_n 2, 1) := by decide +kernel
theorem d1_7 : decode prog_22_method_6_code 7 = .ok (.ldc2_w 49, 3) := by decide +kernel
theorem d1_10 : decode prog_22_method_6_code 10 = .ok (.lmul, 1) := by decide +kernel
theorem d1_11 : decode prog_22_method_6_code 11 = .ok (.bipush 8, 2) := by decide +kernel
theorem d1_13 : decode prog_22_method_6_code 13 = .ok (.lushr, 1) := by decide +kernel
theorem d1_14 : decode prog_22_method_6_code 14 = .ok (.ldc2_w 51, 3) := by decide +kernel
theorem d1_17 : decode prog_22_method_6_code 17 = .ok (.land, 1) := by decide +kernel
theorem d1_18 : decode prog_22_method_6_code 18 = .ok (.lstore 4, 2) := by decide +kernel
theorem d1_20 : decode prog_22_method_6_code 20 = .ok (.lload 4, 2) := by decide +kernel
theorem d1_22 : decode prog_22_method_6_code 22 = .ok (.ldc2_w 53, 3) := by decide +kernel
theorem d1_25 : decode prog_22_method_6_code 25 = .ok (.lmul, 1) := by decide +kernel
theorem d1_26 : decode prog_22_method_6_code 26 = .ok (.bipush 16, 2) := by decide +kernel
theorem d1_28 : decode prog_22_method_6_code 28 = .ok (.lushr, 1) := by decide +kernel
theorem d1_29 : decode prog_22_method_6_code 29 = .ok (.ldc2_w 55, 3) := by decide +kernel
theorem d1_32 : decode prog_22_method_6_code 32 = .ok (.land, 1) := by decide +kernel
theorem d1_33 : decode prog_22_method_6_code 33 = .ok (.lstore 6, 2) := by decide +kernel
theorem d1_35 : decode prog_22_method_6_code 35 = .ok (.lload 6, 2) := by decide +kernel
theorem d1_37 : decode prog_22_method_6_code 37 = .ok (.ldc2_w 57, 3) := by decide +kernel
theorem d1_40 : decode prog_22_method_6_code 40 = .ok (.lmul, 1) := by decide +kernel
theorem d1_41 : decode prog_22_method_6_code 41 = .ok (.bipush 32, 2) := by decide +kernel
theorem d1_43 : decode prog_22_method_6_code 43 = .ok (.lushr, 1) := by decide +kernel
theorem d1_44 : decode prog_22_method_6_code 44 = .ok (.lreturn, 1) := by decide +kernel
theorem pn_1 : plainFor (⟨"com/example/llogari/llogari/rules/Digits", "eightDigits", "(J)J"⟩ : MethodName) = true := by first | exact plainFor_of_name (by first | (simp [plainName, overriddenIn]; done) | decide +kernel) | decide +kernel
theorem ef_1 (m : MethodId) (x0 : Int64) : entryFrame m #[(.long x0)] 8 = mkF m 0 #[.val (.long x0), .second, .unset, .unset, .unset, .unset, .unset, .unset] [] := by first | (simp [entryFrame, mkF, argsToLocals, Value.category]; done) | rfl
def Q_1 (x : Int64) (h0 : Heap) (n0 : Nat) (v : Option Value) (h : Heap) (L : List Loc) : Prop := v = some (.long (own_eight x)) ∧ Fr n0 L ∧ h = h0
set_option maxRecDepth 65536 in
set_option maxHeartbeats 40000000 in
theorem rm_eight (l : Launch) (Z : State) (a0 : Array Value) (hw : ∀ d ∈ tables_1, d.before a0 Z = true) (ws : List Jvm.Cond) (x : Int64) (h0 : Heap) (n0 : Nat) (Z0 : n0 ≤ h0.size)  :
    MetFree l (⟨"com/example/llogari/llogari/rules/Digits", "eightDigits", "(J)J"⟩ : MethodName) (head1 (Jvm.Cond.code (⟨"com/example/llogari/llogari/rules/Digits", "eightDigits", "(J)J"⟩ : MethodName) prog_22_method_6_code 8 (some .long) :: ws) ({ frames := 0, cells := 0, slots := 0, locals := 0 } : Room)) (fun as_ U => as_ = #[(.long x)] ∧ Z.Warmed39 U.vm ∧ U.heap = h0) (fun _ _ _ _ _ => True) (fun _ U o U' => ∃ v L, o = .returned v ∧ Q_1 x h0 n0 v U'.heap L ∧ FrameEnd U o U' L ({ frames := 0, cells := 0, slots := 0, locals := 0 } : Room).cells ({ frames := 0, cells := 0, slots := 0, locals := 0 } : Room).slots) := by
  refine MetFree.of_bodySF pn_1 hisR ?_
  intro p e s m args below meth c s₁ Bd hml0 hP hK
  obtain ⟨rfl, hZ, hh⟩ := hP
  have hx := Bd.exec
  have hby := Bd.bytes
  have hlk := BodyLoose.notSynchronized Bd
  have hml : c.maxLocals = 8 := hml0
  have hown : s.vm.findClass "com/example/llogari/llogari/rules/Digits" = some m.cls := findClass_of_methodNamed Bd.named
  have hnm := (name_of_methodNamed Bd.named Bd.method).1
  have X0 : Stand p l e ({ frames := 0, cells := 0, slots := 0, locals := 0 } : Room) s m #[(.long x)] below meth c s₁ [] 0 0 := Stand.of_body Bd
  have e0 : s₁.heap = h0 := by rw [← hh, Bd.state]; rfl
  have N0 := Fr.nil n0
  refine own_in (ef_1 m x) ?_
  show own_Fin p e below s (Q_1 x h0 n0) 0 0 s₁ (mkF m 0 #[.val (.long x), .second, .unset, .unset, .unset, .unset, .unset, .unset] [])
  refine own_step (T' := s₁) (g' := (mkF m 1 #[.val (.long x), .second, .unset, .unset, .unset, .unset, .unset, .unset] [(.long x)])) (fun t_ k_ => XT.lloadN X0.here hx rfl (hb hby d1_0) rfl k_) ?_
  refine own_step (T' := s₁) (g' := (mkF m 4 #[.val (.long x), .second, .unset, .unset, .unset, .unset, .unset, .unset] [(.long (3472328296227680304 : Int64)), (.long x)])) (fun t_ k_ => X0.ldc2J hx hown (mvT hZ (hw _ (List.mem_of_getElem? (i := 18) rfl))) rfl (hb hby d1_1) k_) ?_
  refine own_step (T' := s₁) (g' := (mkF m 5 #[.val (.long x), .second, .unset, .unset, .unset, .unset, .unset, .unset] [(.long (x - (3472328296227680304 : Int64)))])) (fun t_ k_ => XT.lsub X0.here hx rfl (hb hby d1_4) rfl k_) ?_
  refine own_step (T' := s₁) (g' := (mkF m 6 #[.val (.long x), .second, .val (.long (x - (3472328296227680304 : Int64))), .second, .unset, .unset, .unset, .unset] [])) (fun t_ k_ => XT.lstoreN X0.here hx rfl (hb hby d1_5) rfl (l' := #[.val (.long x), .second, .val (.long (x - (3472328296227680304 : Int64))), .second, .unset, .unset, .unset, .unset]) rfl k_) ?_
  refine own_step (T' := s₁) (g' := (mkF m 7 #[.val (.long x), .second, .val (.long (x - (3472328296227680304 : Int64))), .second, .unset, .unset, .unset, .unset] [(.long (x - (3472328296227680304 : Int64)))])) (fun t_ k_ => XT.lloadN X0.here hx rfl (hb hby d1_6) rfl k_) ?_
  refine own_step (T' := s₁) (g' := (mkF m 10 #[.val (.long x), .second, .val (.long (x - (3472328296227680304 : Int64))), .second, .unset, .unset, .unset, .unset] [(.long (2561 : Int64)), (.long (x - (3472328296227680304 : Int64)))])) (fun t_ k_ => X0.ldc2J hx hown (mvT hZ (hw _ (List.mem_of_getElem? (i := 19) rfl))) rfl (hb hby d1_7) k_) ?_
  refine own_step (T' := s₁) (g' := (mkF m 11 #[.val (.long x), .second, .val (.long (x - (3472328296227680304 : Int64))), .second, .unset, .unset, .unset, .unset] [(.long ((x - (3472328296227680304 : Int64)) * (2561 : Int64)))])) (fun t_ k_ => XT.lmul X0.here hx rfl (hb hby d1_10) rfl k_) ?_
  refine own_step (T' := s₁) (g' := (mkF m 13 #[.val (.long x), .second, .val (.long (x - (3472328296227680304 : Int64))), .second, .unset, .unset, .unset, .unset] [(.int (8 : Int32)), (.long ((x - (3472328296227680304 : Int64)) * (2561 : Int64)))])) (fun t_ k_ => XT.bipushV X0.here hx rfl (8 : Int32) (hb hby d1_11) (by decide) k_) ?_
  refine own_step (T' := s₁) (g' := (mkF m 14 #[.val (.long x), .second, .val (.long (x - (3472328296227680304 : Int64))), .second, .unset, .unset, .unset, .unset] [(.long (XT.ushrL ((x - (3472328296227680304 : Int64)) * (2561 : Int64)) (8 : Int32)))])) (fun t_ k_ => XT.lushr X0.here hx rfl (hb hby d1_13) rfl k_) ?_
  refine own_step (T' := s₁) (g' := (mkF m 17 #[.val (.long x), .second, .val (.long (x - (3472328296227680304 : Int64))), .second, .unset, .unset, .unset, .unset] [(.long (71777214294589695 : Int64)), (.long (XT.ushrL ((x - (3472328296227680304 : Int64)) * (2561 : Int64)) (8 : Int32)))])) (fun t_ k_ => X0.ldc2J hx hown (mvT hZ (hw _ (List.mem_of_getElem? (i := 20) rfl))) rfl (hb hby d1_14) k_) ?_
  refine own_step (T' := s₁) (g' := (mkF m 18 #[.val (.long x), .second, .val (.long (x - (3472328296227680304 : Int64))), .second, .unset, .unset, .unset, .unset] [(.long ((XT.ushrL ((x - (3472328296227680304 : Int64)) * (2561 : Int64)) (8 : Int32)) &&& (71777214294589695 : Int64)))])) (fun t_ k_ => XT.land X0.here hx rfl (hb hby d1_17) rfl k_) ?_
  refine own_step (T' := s₁) (g' := (mkF m 20 #[.val (.long x), .second, .val (.long (x - (3472328296227680304 : Int64))), .second, .val (.long ((XT.ushrL ((x - (3472328296227680304 : Int64)) * (2561 : Int64)) (8 : Int32)) &&& (71777214294589695 : Int64))), .second, .unset, .unset] [])) (fun t_ k_ => XT.lstore X0.here hx rfl (hb hby d1_18) rfl (l' := #[.val (.long x), .second, .val (.long (x - (3472328296227680304 : Int64))), .second, .val (.long ((XT.ushrL ((x - (3472328296227680304 : Int64)) * (2561 : Int64)) (8 : Int32)) &&& (71777214294589695 : Int64))), .second, .unset, .unset]) rfl k_) ?_
  refine own_step (T' := s₁) (g' := (mkF m 22 #[.val (.long x), .second, .val (.long (x - (3472328296227680304 : Int64))), .second, .val (.long ((XT.ushrL ((x - (3472328296227680304 : Int64)) * (2561 : Int64)) (8 : Int32)) &&& (71777214294589695 : Int64))), .second, .unset, .unset] [(.long ((XT.ushrL ((x - (3472328296227680304 : Int64)) * (2561 : Int64)) (8 : Int32)) &&& (71777214294589695 : Int64)))])) (fun t_ k_ => XT.lload X0.here hx rfl (hb hby d1_20) rfl k_) ?_
  refine own_step (T' := s₁) (g' := (mkF m 25 #[.val (.long x), .second, .val (.long (x - (3472328296227680304 : Int64))), .second, .val (.long ((XT.ushrL ((x - (3472328296227680304 : Int64)) * (2561 : Int64)) (8 : Int32)) &&& (71777214294589695 : Int64))), .second, .unset, .unset] [(.long (6553601 : Int64)), (.long ((XT.ushrL ((x - (3472328296227680304 : Int64)) * (2561 : Int64)) (8 : Int32)) &&& (71777214294589695 : Int64)))])) (fun t_ k_ => X0.ldc2J hx hown (mvT hZ (hw _ (List.mem_of_getElem? (i := 21) rfl))) rfl (hb hby d1_22) k_) ?_
  refine own_step (T' := s₁) (g' := (mkF m 26 #[.val (.long x), .second, .val (.long (x - (3472328296227680304 : Int64))), .second, .val (.long ((XT.ushrL ((x - (3472328296227680304 : Int64)) * (2561 : Int64)) (8 : Int32)) &&& (71777214294589695 : Int64))), .second, .unset, .unset] [(.long (((XT.ushrL ((x - (3472328296227680304 : Int64)) * (2561 : Int64)) (8 : Int32)) &&& (71777214294589695 : Int64)) * (6553601 : Int64)))])) (fun t_ k_ => XT.lmul X0.here hx rfl (hb hby d1_25) rfl k_) ?_
  refine own_step (T' := s₁) (g' := (mkF m 28 #[.val (.long x), .second, .val (.long (x - (3472328296227680304 : Int64))), .second, .val (.long ((XT.ushrL ((x - (3472328296227680304 : Int64)) * (2561 : Int64)) (8 : Int32)) &&& (71777214294589695 : Int64))), .second, .unset, .unset] [(.int (16 : Int32)), (.long (((XT.ushrL ((x - (3472328296227680304 : Int64)) * (2561 : Int64)) (8 : Int32)) &&& (71777214294589695 : Int64)) * (6553601 : Int64)))])) (fun t_ k_ => XT.bipushV X0.here hx rfl (16 : Int32) (hb hby d1_26) (by decide) k_) ?_
  refine own_step (T' := s₁) (g' := (mkF m 29 #[.val (.long x), .second, .val (.long (x - (3472328296227680304 : Int64))), .second, .val (.long ((XT.ushrL ((x - (3472328296227680304 : Int64)) * (2561 : Int64)) (8 : Int32)) &&& (71777214294589695 : Int64))), .second, .unset, .unset] [(.long (XT.ushrL (((XT.ushrL ((x - (3472328296227680304 : Int64)) * (2561 : Int64)) (8 : Int32)) &&& (71777214294589695 : Int64)) * (6553601 : Int64)) (16 : Int32)))])) (fun t_ k_ => XT.lushr X0.here hx rfl (hb hby d1_28) rfl k_) ?_
  refine own_step (T' := s₁) (g' := (mkF m 32 #[.val (.long x), .second, .val (.long (x - (3472328296227680304 : Int64))), .second, .val (.long ((XT.ushrL ((x - (3472328296227680304 : Int64)) * (2561 : Int64)) (8 : Int32)) &&& (71777214294589695 : Int64))), .second, .unset, .unset] [(.long (281470681808895 : Int64)), (.long (XT.ushrL (((XT.ushrL ((x - (3472328296227680304 : Int64)) * (2561 : Int64)) (8 : Int32)) &&& (71777214294589695 : Int64)) * (6553601 : Int64)) (16 : Int32)))])) (fun t_ k_ => X0.ldc2J hx hown (mvT hZ (hw _ (List.mem_of_getElem? (i := 22) rfl))) rfl (hb hby d1_29) k_) ?_
  refine own_step (T' := s₁) (g' := (mkF m 33 #[.val (.long x), .second, .val (.long (x - (3472328296227680304 : Int64))), .second, .val (.long ((XT.ushrL ((x - (3472328296227680304 : Int64)) * (2561 : Int64)) (8 : Int32)) &&& (71777214294589695 : Int64))), .second, .unset, .unset] [(.long ((XT.ushrL (((XT.ushrL ((x - (3472328296227680304 : Int64)) * (2561 : Int64)) (8 : Int32)) &&& (71777214294589695 : Int64)) * (6553601 : Int64)) (16 : Int32)) &&& (281470681808895 : Int64)))])) (fun t_ k_ => XT.land X0.here hx rfl (hb hby d1_32) rfl k_) ?_
  refine own_step (T' := s₁) (g' := (mkF m 35 #[.val (.long x), .second, .val (.long (x - (3472328296227680304 : Int64))), .second, .val (.long ((XT.ushrL ((x - (3472328296227680304 : Int64)) * (2561 : Int64)) (8 : Int32)) &&& (71777214294589695 : Int64))), .second, .val (.long ((XT.ushrL (((XT.ushrL ((x - (3472328296227680304 : Int64)) * (2561 : Int64)) (8 : Int32)) &&& (71777214294589695 : Int64)) * (6553601 : Int64)) (16 : Int32)) &&& (281470681808895 : Int64))), .second] [])) (fun t_ k_ => XT.lstore X0.here hx rfl (hb hby d1_33) rfl (l' := #[.val (.long x), .second, .val (.long (x - (3472328296227680304 : Int64))), .second, .val (.long ((XT.ushrL ((x - (3472328296227680304 : Int64)) * (2561 : Int64)) (8 : Int32)) &&& (71777214294589695 : Int64))), .second, .val (.long ((XT.ushrL (((XT.ushrL ((x - (3472328296227680304 : Int64)) * (2561 : Int64)) (8 : Int32)) &&& (71777214294589695 : Int64)) * (6553601 : Int64)) (16 : Int32)) &&& (281470681808895 : Int64))), .second]) rfl k_) ?_
  refine own_step (T' := s₁) (g' := (mkF m 37 #[.val (.long x), .second, .val (.long (x - (3472328296227680304 : Int64))), .second, .val (.long ((XT.ushrL ((x - (3472328296227680304 : Int64)) * (2561 : Int64)) (8 : Int32)) &&& (71777214294589695 : Int64))), .second, .val (.long ((XT.ushrL (((XT.ushrL ((x - (3472328296227680304 : Int64)) * (2561 : Int64)) (8 : Int32)) &&& (71777214294589695 : Int64)) * (6553601 : Int64)) (16 : Int32)) &&& (281470681808895 : Int64))), .second] [(.long ((XT.ushrL (((XT.ushrL ((x - (3472328296227680304 : Int64)) * (2561 : Int64)) (8 : Int32)) &&& (71777214294589695 : Int64)) * (6553601 : Int64)) (16 : Int32)) &&& (281470681808895 : Int64)))])) (fun t_ k_ => XT.lload X0.here hx rfl (hb hby d1_35) rfl k_) ?_
  refine own_step (T' := s₁) (g' := (mkF m 40 #[.val (.long x), .second, .val (.long (x - (3472328296227680304 : Int64))), .second, .val (.long ((XT.ushrL ((x - (3472328296227680304 : Int64)) * (2561 : Int64)) (8 : Int32)) &&& (71777214294589695 : Int64))), .second, .val (.long ((XT.ushrL (((XT.ushrL ((x - (3472328296227680304 : Int64)) * (2561 : Int64)) (8 : Int32)) &&& (71777214294589695 : Int64)) * (6553601 : Int64)) (16 : Int32)) &&& (281470681808895 : Int64))), .second] [(.long (42949672960001 : Int64)), (.long ((XT.ushrL (((XT.ushrL ((x - (3472328296227680304 : Int64)) * (2561 : Int64)) (8 : Int32)) &&& (71777214294589695 : Int64)) * (6553601 : Int64)) (16 : Int32)) &&& (281470681808895 : Int64)))])) (fun t_ k_ => X0.ldc2J hx hown (mvT hZ (hw _ (List.mem_of_getElem? (i := 23) rfl))) rfl (hb hby d1_37) k_) ?_
  refine own_step (T' := s₁) (g' := (mkF m 41 #[.val (.long x), .second, .val (.long (x - (3472328296227680304 : Int64))), .second, .val (.long ((XT.ushrL ((x - (3472328296227680304 : Int64)) * (2561 : Int64)) (8 : Int32)) &&& (71777214294589695 : Int64))), .second, .val (.long ((XT.ushrL (((XT.ushrL ((x - (3472328296227680304 : Int64)) * (2561 : Int64)) (8 : Int32)) &&& (71777214294589695 : Int64)) * (6553601 : Int64)) (16 : Int32)) &&& (281470681808895 : Int64))), .second] [(.long (((XT.ushrL (((XT.ushrL ((x - (3472328296227680304 : Int64)) * (2561 : Int64)) (8 : Int32)) &&& (71777214294589695 : Int64)) * (6553601 : Int64)) (16 : Int32)) &&& (281470681808895 : Int64)) * (42949672960001 : Int64)))])) (fun t_ k_ => XT.lmul X0.here hx rfl (hb hby d1_40) rfl k_) ?_
  refine own_step (T' := s₁) (g' := (mkF m 43 #[.val (.long x), .second, .val (.long (x - (3472328296227680304 : Int64))), .second, .val (.long ((XT.ushrL ((x - (3472328296227680304 : Int64)) * (2561 : Int64)) (8 : Int32)) &&& (71777214294589695 : Int64))), .second, .val (.long ((XT.ushrL (((XT.ushrL ((x - (3472328296227680304 : Int64)) * (2561 : Int64)) (8 : Int32)) &&& (71777214294589695 : Int64)) * (6553601 : Int64)) (16 : Int32)) &&& (281470681808895 : Int64))), .second] [(.int (32 : Int32)), (.long (((XT.ushrL (((XT.ushrL ((x - (3472328296227680304 : Int64)) * (2561 : Int64)) (8 : Int32)) &&& (71777214294589695 : Int64)) * (6553601 : Int64)) (16 : Int32)) &&& (281470681808895 : Int64)) * (42949672960001 : Int64)))])) (fun t_ k_ => XT.bipushV X0.here hx rfl (32 : Int32) (hb hby d1_41) (by decide) k_) ?_
  refine own_step (T' := s₁) (g' := (mkF m 44 #[.val (.long x), .second, .val (.long (x - (3472328296227680304 : Int64))), .second, .val (.long ((XT.ushrL ((x - (3472328296227680304 : Int64)) * (2561 : Int64)) (8 : Int32)) &&& (71777214294589695 : Int64))), .second, .val (.long ((XT.ushrL (((XT.ushrL ((x - (3472328296227680304 : Int64)) * (2561 : Int64)) (8 : Int32)) &&& (71777214294589695 : Int64)) * (6553601 : Int64)) (16 : Int32)) &&& (281470681808895 : Int64))), .second] [(.long (XT.ushrL (((XT.ushrL (((XT.ushrL ((x - (3472328296227680304 : Int64)) * (2561 : Int64)) (8 : Int32)) &&& (71777214294589695 : Int64)) * (6553601 : Int64)) (16 : Int32)) &&& (281470681808895 : Int64)) * (42949672960001 : Int64)) (32 : Int32)))])) (fun t_ k_ => XT.lushr X0.here hx rfl (hb hby d1_43) rfl k_) ?_
  exact own_retJ X0 hx hlk Bd.returns (hb hby d1_44) (by rw [e0]; exact ⟨rfl, N0, rfl⟩) (by decide) (by decide)
theorem pn_2 : plainFor x = true := by first | exact plainFor_of_name (by first | (simp [plainName, overriddenIn]; done) | decide +kernel) | decide +kernel
theorem ef_2 (m : MethodId) (x0 : Int64) : entryFrame m #[(.long x0)] maxLocals = mkF m 0 #[.val (.long x0), .second, .unset, .unset, .unset, .unset] [] := by first | (simp [entryFrame, mkF, argsToLocals, Value.category, maxLocals]; done) | rfl
def Q_2 (h0 : Heap) (n0 : Nat) (v : Option Value) (h : Heap) (L : List Loc) : Prop := v = some (.int 1) ∧ Fr n0 L
set_option maxRecDepth 65536 in
set_option maxHeartbeats 40000000 in
theorem rm_law (l : Launch) (Z : State) (a0 : Array Value) (hw : ∀ d ∈ tables_1, d.before a0 Z = true) (ws : List Jvm.Cond) (x1 : Int64) (h0 : Heap) (n0 : Nat) (Z0 : n0 ≤ h0.size)  :
    MetFree l x (head1 (Jvm.Cond.code x code maxLocals ret :: ws) room_1) (fun as_ U => as_ = #[(.long x1)] ∧ Z.Warmed39 U.vm ∧ U.heap = h0) (fun _ _ _ _ _ => True) (fun _ U o U' => ∃ v L, o = .returned v ∧ Q_2 h0 n0 v U'.heap L ∧ FrameEnd U o U' L 0 0) := by
  refine MetFree.of_bodySF pn_2 hisR ?_
  intro p e s m args below meth c s₁ Bd hml0 hP hK
  obtain ⟨rfl, hZ, hh⟩ := hP
  have hx := Bd.exec
  have hby := Bd.bytes
  have hlk := BodyLoose.notSynchronized Bd
  have hml : c.maxLocals = 6 := hml0
  have hown : s.vm.findClass "com/example/llogari/llogari/rules/DigitsEightDigitsPinLaw" = some m.cls := findClass_of_methodNamed Bd.named
  have hnm := (name_of_methodNamed Bd.named Bd.method).1
  have X0 : Stand p l e room_1 s m #[(.long x1)] below meth c s₁ [] 0 0 := Stand.of_body Bd
  have e0 : s₁.heap = h0 := by rw [← hh, Bd.state]; rfl
  have N0 := Fr.nil n0
  refine own_in (ef_2 m x1) ?_
  show own_Fin p e below s (Q_2 h0 n0) 0 0 s₁ (mkF m 0 #[.val (.long x1), .second, .unset, .unset, .unset, .unset] [])
  refine own_step (T' := s₁) (g' := (mkF m 1 #[.val (.long x1), .second, .unset, .unset, .unset, .unset] [(.long x1)])) (fun t_ k_ => XT.lloadN X0.here hx rfl (hb hby at_0) rfl k_) ?_
  refine own_step (T' := s₁) (g' := (mkF m 4 #[.val (.long x1), .second, .unset, .unset, .unset, .unset] [(.long (9223372036854775807 : Int64)), (.long x1)])) (fun t_ k_ => X0.ldc2J hx hown (mvT hZ (hw _ (List.mem_of_getElem? (i := 0) rfl))) rfl (hb hby at_1) k_) ?_
  refine own_step (T' := s₁) (g' := (mkF m 5 #[.val (.long x1), .second, .unset, .unset, .unset, .unset] [(.long (x1 &&& (9223372036854775807 : Int64)))])) (fun t_ k_ => XT.land X0.here hx rfl (hb hby at_4) rfl k_) ?_
  refine own_step (T' := s₁) (g' := (mkF m 8 #[.val (.long x1), .second, .unset, .unset, .unset, .unset] [(.long (100000000 : Int64)), (.long (x1 &&& (9223372036854775807 : Int64)))])) (fun t_ k_ => X0.ldc2J hx hown (mvT hZ (hw _ (List.mem_of_getElem? (i := 1) rfl))) rfl (hb hby at_5) k_) ?_
  refine own_step (T' := s₁) (g' := (mkF m 9 #[.val (.long x1), .second, .unset, .unset, .unset, .unset] [(.long ((x1 &&& (9223372036854775807 : Int64)) - ((x1 &&& (9223372036854775807 : Int64)) / (100000000 : Int64)) * (100000000 : Int64)))])) (fun t_ k_ => XT.lrem X0.here hx rfl (hb hby at_8) rfl (by decide) k_) ?_
  generalize hn : ((x1 &&& (9223372036854775807 : Int64)) - ((x1 &&& (9223372036854775807 : Int64)) / (100000000 : Int64)) * (100000000 : Int64)) = n
  refine own_step (T' := s₁) (g' := (mkF m 10 #[.val (.long x1), .second, .val (.long n), .second, .unset, .unset] [])) (fun t_ k_ => XT.lstoreN X0.here hx rfl (hb hby at_9) rfl (l' := #[.val (.long x1), .second, .val (.long n), .second, .unset, .unset]) rfl k_) ?_
  refine own_step (T' := s₁) (g' := (mkF m 11 #[.val (.long x1), .second, .val (.long n), .second, .unset, .unset] [(.long n)])) (fun t_ k_ => XT.lloadN X0.here hx rfl (hb hby at_10) rfl k_) ?_
  refine own_step (T' := s₁) (g' := (mkF m 14 #[.val (.long x1), .second, .val (.long n), .second, .unset, .unset] [(.long (10000000 : Int64)), (.long n)])) (fun t_ k_ => X0.ldc2J hx hown (mvT hZ (hw _ (List.mem_of_getElem? (i := 2) rfl))) rfl (hb hby at_11) k_) ?_
  refine own_step (T' := s₁) (g' := (mkF m 15 #[.val (.long x1), .second, .val (.long n), .second, .unset, .unset] [(.int (0 : Int32)), (.long (10000000 : Int64)), (.long n)])) (fun t_ k_ => XT.iconstV X0.here hx rfl (0 : Int32) (hb hby at_14) (by decide) k_) ?_
  obtain ⟨_, _, ⟨Tc1, Lc1, kc1, nc1⟩, -, Xc1, ⟨Lcc1, hQc1, lc1, yc1, zc1⟩, stc1⟩ := Jvm.LawKit.callS X0 hx (y := (⟨"com/example/llogari/llogari/rules/DigitsEightDigitsPinLaw", "digitByte", "(JJI)J"⟩ : MethodName)) hown (mvT hZ (hw _ (List.mem_of_getElem? (i := 3) rfl))) (mvT hZ (hw _ (List.mem_of_getElem? (i := 4) rfl))) (mvT hZ (hw _ (List.mem_of_getElem? (i := 5) rfl))) (mvT hZ (hw _ (List.mem_of_getElem? (i := 6) rfl))) (by decide) (backOf (W := 0) (rm_digit l Z a0 hw [] n (10000000 : Int64) (0 : Int32) h0 n0 Z0 (by decide)) hZ (hw _ (List.mem_of_getElem? (i := 6) rfl)) (hw _ (List.mem_of_getElem? (i := 5) rfl)) (by decide) (by decide)) (g := (mkF m 15 #[.val (.long x1), .second, .val (.long n), .second, .unset, .unset] [(.int (0 : Int32)), (.long (10000000 : Int64)), (.long n)])) rfl (by rw [hml]; rfl) (argsL := [(.long n), (.long (10000000 : Int64)), (.int (0 : Int32))]) (rest := []) (lenOf pd_0 rfl) rfl (by show 2 * 0 + _ ≤ _; exact Nat.le_of_eq rfl) (hb hby at_15) (fun _ _ => ⟨rfl, e0, (by decide : 0 + 0 ≤ _), (by decide : 0 + 0 ≤ _)⟩)
  dsimp only [Pt.U, Pt.locs, Pt.cells, Pt.slots] at Xc1 lc1 yc1 zc1 stc1 hQc1
  subst lc1 yc1 zc1
  obtain ⟨hv5, N2, e3⟩ := hQc1
  obtain ⟨z4, hz4⟩ : ∃ z : Int64, z = (own_digit n (10000000 : Int64) (0 : Int32)) := ⟨_, rfl⟩
  rw [← hz4] at hv5
  subst hv5
  have N6 := Fr.app N0 N2
  refine own_step (T' := Tc1) (g' := (mkF m 18 #[.val (.long x1), .second, .val (.long n), .second, .unset, .unset] [(.long z4)])) stc1 ?_
  refine own_step (T' := Tc1) (g' := (mkF m 19 #[.val (.long x1), .second, .val (.long n), .second, .unset, .unset] [(.long n), (.long z4)])) (fun t_ k_ => XT.lloadN Xc1.here hx rfl (hb hby at_18) rfl k_) ?_
  refine own_step (T' := Tc1) (g' := (mkF m 22 #[.val (.long x1), .second, .val (.long n), .second, .unset, .unset] [(.long (1000000 : Int64)), (.long n), (.long z4)])) (fun t_ k_ => Xc1.ldc2J hx hown (mvT hZ (hw _ (List.mem_of_getElem? (i := 9) rfl))) rfl (hb hby at_19) k_) ?_
  refine own_step (T' := Tc1) (g' := (mkF m 23 #[.val (.long x1), .second, .val (.long n), .second, .unset, .unset] [(.int (1 : Int32)), (.long (1000000 : Int64)), (.long n), (.long z4)])) (fun t_ k_ => XT.iconstV Xc1.here hx rfl (1 : Int32) (hb hby at_22) (by decide) k_) ?_
  obtain ⟨_, _, ⟨Tc7, Lc7, kc7, nc7⟩, -, Xc7, ⟨Lcc7, hQc7, lc7, yc7, zc7⟩, stc7⟩ := Jvm.LawKit.callS Xc1 hx (y := (⟨"com/example/llogari/llogari/rules/DigitsEightDigitsPinLaw", "digitByte", "(JJI)J"⟩ : MethodName)) hown (mvT hZ (hw _ (List.mem_of_getElem? (i := 3) rfl))) (mvT hZ (hw _ (List.mem_of_getElem? (i := 4) rfl))) (mvT hZ (hw _ (List.mem_of_getElem? (i := 5) rfl))) (mvT hZ (hw _ (List.mem_of_getElem? (i := 6) rfl))) (by decide) (backOf (W := 2) (rm_digit l Z a0 hw [] n (1000000 : Int64) (1 : Int32) h0 n0 Z0 (by decide)) hZ (hw _ (List.mem_of_getElem? (i := 6) rfl)) (hw _ (List.mem_of_getElem? (i := 5) rfl)) (by decide) (by decide)) (g := (mkF m 23 #[.val (.long x1), .second, .val (.long n), .second, .unset, .unset] [(.int (1 : Int32)), (.long (1000000 : Int64)), (.long n), (.long z4)])) rfl (by rw [hml]; rfl) (argsL := [(.long n), (.long (1000000 : Int64)), (.int (1 : Int32))]) (rest := [(.long z4)]) (lenOf pd_0 rfl) rfl (by show 2 * 0 + _ ≤ _; exact Nat.le_of_eq rfl) (hb hby at_23) (fun _ _ => ⟨rfl, e3, (by decide : 0 + 0 ≤ _), (by decide : 0 + 0 ≤ _)⟩)
  dsimp only [Pt.U, Pt.locs, Pt.cells, Pt.slots] at Xc7 lc7 yc7 zc7 stc7 hQc7
  subst lc7 yc7 zc7
  obtain ⟨hv11, N8, e9⟩ := hQc7
  obtain ⟨z10, hz10⟩ : ∃ z : Int64, z = (own_digit n (1000000 : Int64) (1 : Int32)) := ⟨_, rfl⟩
  rw [← hz10] at hv11
  subst hv11
  have N12 := Fr.app N6 N8
  refine own_step (T' := Tc7) (g' := (mkF m 26 #[.val (.long x1), .second, .val (.long n), .second, .unset, .unset] [(.long z10), (.long z4)])) stc7 ?_
  refine own_step (T' := Tc7) (g' := (mkF m 27 #[.val (.long x1), .second, .val (.long n), .second, .unset, .unset] [(.long (z4 ||| z10))])) (fun t_ k_ => XT.lor Xc7.here hx rfl (hb hby at_26) rfl k_) ?_
  refine own_step (T' := Tc7) (g' := (mkF m 28 #[.val (.long x1), .second, .val (.long n), .second, .unset, .unset] [(.long n), (.long (z4 ||| z10))])) (fun t_ k_ => XT.lloadN Xc7.here hx rfl (hb hby at_27) rfl k_) ?_
  refine own_step (T' := Tc7) (g' := (mkF m 31 #[.val (.long x1), .second, .val (.long n), .second, .unset, .unset] [(.long (100000 : Int64)), (.long n), (.long (z4 ||| z10))])) (fun t_ k_ => Xc7.ldc2J hx hown (mvT hZ (hw _ (List.mem_of_getElem? (i := 10) rfl))) rfl (hb hby at_28) k_) ?_
  refine own_step (T' := Tc7) (g' := (mkF m 32 #[.val (.long x1), .second, .val (.long n), .second, .unset, .unset] [(.int (2 : Int32)), (.long (100000 : Int64)), (.long n), (.long (z4 ||| z10))])) (fun t_ k_ => XT.iconstV Xc7.here hx rfl (2 : Int32) (hb hby at_31) (by decide) k_) ?_
  obtain ⟨_, _, ⟨Tc13, Lc13, kc13, nc13⟩, -, Xc13, ⟨Lcc13, hQc13, lc13, yc13, zc13⟩, stc13⟩ := Jvm.LawKit.callS Xc7 hx (y := (⟨"com/example/llogari/llogari/rules/DigitsEightDigitsPinLaw", "digitByte", "(JJI)J"⟩ : MethodName)) hown (mvT hZ (hw _ (List.mem_of_getElem? (i := 3) rfl))) (mvT hZ (hw _ (List.mem_of_getElem? (i := 4) rfl))) (mvT hZ (hw _ (List.mem_of_getElem? (i := 5) rfl))) (mvT hZ (hw _ (List.mem_of_getElem? (i := 6) rfl))) (by decide) (backOf (W := 2) (rm_digit l Z a0 hw [] n (100000 : Int64) (2 : Int32) h0 n0 Z0 (by decide)) hZ (hw _ (List.mem_of_getElem? (i := 6) rfl)) (hw _ (List.mem_of_getElem? (i := 5) rfl)) (by decide) (by decide)) (g := (mkF m 32 #[.val (.long x1), .second, .val (.long n), .second, .unset, .unset] [(.int (2 : Int32)), (.long (100000 : Int64)), (.long n), (.long (z4 ||| z10))])) rfl (by rw [hml]; rfl) (argsL := [(.long n), (.long (100000 : Int64)), (.int (2 : Int32))]) (rest := [(.long (z4 ||| z10))]) (lenOf pd_0 rfl) rfl (by show 2 * 0 + _ ≤ _; exact Nat.le_of_eq rfl) (hb hby at_32) (fun _ _ => ⟨rfl, e9, (by decide : 0 + 0 ≤ _), (by decide : 0 + 0 ≤ _)⟩)
  dsimp only [Pt.U, Pt.locs, Pt.cells, Pt.slots] at Xc13 lc13 yc13 zc13 stc13 hQc13
  subst lc13 yc13 zc13
  obtain ⟨hv17, N14, e15⟩ := hQc13
  obtain ⟨z16, hz16⟩ : ∃ z : Int64, z = (own_digit n (100000 : Int64) (2 : Int32)) := ⟨_, rfl⟩
  rw [← hz16] at hv17
  subst hv17
  have N18 := Fr.app N12 N14
  refine own_step (T' := Tc13) (g' := (mkF m 35 #[.val (.long x1), .second, .val (.long n), .second, .unset, .unset] [(.long z16), (.long (z4 ||| z10))])) stc13 ?_
  refine own_step (T' := Tc13) (g' := (mkF m 36 #[.val (.long x1), .second, .val (.long n), .second, .unset, .unset] [(.long ((z4 ||| z10) ||| z16))])) (fun t_ k_ => XT.lor Xc13.here hx rfl (hb hby at_35) rfl k_) ?_
  refine own_step (T' := Tc13) (g' := (mkF m 37 #[.val (.long x1), .second, .val (.long n), .second, .unset, .unset] [(.long n), (.long ((z4 ||| z10) ||| z16))])) (fun t_ k_ => XT.lloadN Xc13.here hx rfl (hb hby at_36) rfl k_) ?_
  refine own_step (T' := Tc13) (g' := (mkF m 40 #[.val (.long x1), .second, .val (.long n), .second, .unset, .unset] [(.long (10000 : Int64)), (.long n), (.long ((z4 ||| z10) ||| z16))])) (fun t_ k_ => Xc13.ldc2J hx hown (mvT hZ (hw _ (List.mem_of_getElem? (i := 11) rfl))) rfl (hb hby at_37) k_) ?_
  refine own_step (T' := Tc13) (g' := (mkF m 41 #[.val (.long x1), .second, .val (.long n), .second, .unset, .unset] [(.int (3 : Int32)), (.long (10000 : Int64)), (.long n), (.long ((z4 ||| z10) ||| z16))])) (fun t_ k_ => XT.iconstV Xc13.here hx rfl (3 : Int32) (hb hby at_40) (by decide) k_) ?_
  obtain ⟨_, _, ⟨Tc19, Lc19, kc19, nc19⟩, -, Xc19, ⟨Lcc19, hQc19, lc19, yc19, zc19⟩, stc19⟩ := Jvm.LawKit.callS Xc13 hx (y := (⟨"com/example/llogari/llogari/rules/DigitsEightDigitsPinLaw", "digitByte", "(JJI)J"⟩ : MethodName)) hown (mvT hZ (hw _ (List.mem_of_getElem? (i := 3) rfl))) (mvT hZ (hw _ (List.mem_of_getElem? (i := 4) rfl))) (mvT hZ (hw _ (List.mem_of_getElem? (i := 5) rfl))) (mvT hZ (hw _ (List.mem_of_getElem? (i := 6) rfl))) (by decide) (backOf (W := 2) (rm_digit l Z a0 hw [] n (10000 : Int64) (3 : Int32) h0 n0 Z0 (by decide)) hZ (hw _ (List.mem_of_getElem? (i := 6) rfl)) (hw _ (List.mem_of_getElem? (i := 5) rfl)) (by decide) (by decide)) (g := (mkF m 41 #[.val (.long x1), .second, .val (.long n), .second, .unset, .unset] [(.int (3 : Int32)), (.long (10000 : Int64)), (.long n), (.long ((z4 ||| z10) ||| z16))])) rfl (by rw [hml]; rfl) (argsL := [(.long n), (.long (10000 : Int64)), (.int (3 : Int32))]) (rest := [(.long ((z4 ||| z10) ||| z16))]) (lenOf pd_0 rfl) rfl (by show 2 * 0 + _ ≤ _; exact Nat.le_of_eq rfl) (hb hby at_41) (fun _ _ => ⟨rfl, e15, (by decide : 0 + 0 ≤ _), (by decide : 0 + 0 ≤ _)⟩)
  dsimp only [Pt.U, Pt.locs, Pt.cells, Pt.slots] at Xc19 lc19 yc19 zc19 stc19 hQc19
  subst lc19 yc19 zc19
  obtain ⟨hv23, N20, e21⟩ := hQc19
  obtain ⟨z22, hz22⟩ : ∃ z : Int64, z = (own_digit n (10000 : Int64) (3 : Int32)) := ⟨_, rfl⟩
  rw [← hz22] at hv23
  subst hv23
  have N24 := Fr.app N18 N20
  refine own_step (T' := Tc19) (g' := (mkF m 44 #[.val (.long x1), .second, .val (.long n), .second, .unset, .unset] [(.long z22), (.long ((z4 ||| z10) ||| z16))])) stc19 ?_
  refine own_step (T' := Tc19) (g' := (mkF m 45 #[.val (.long x1), .second, .val (.long n), .second, .unset, .unset] [(.long (((z4 ||| z10) ||| z16) ||| z22))])) (fun t_ k_ => XT.lor Xc19.here hx rfl (hb hby at_44) rfl k_) ?_
  refine own_step (T' := Tc19) (g' := (mkF m 46 #[.val (.long x1), .second, .val (.long n), .second, .unset, .unset] [(.long n), (.long (((z4 ||| z10) ||| z16) ||| z22))])) (fun t_ k_ => XT.lloadN Xc19.here hx rfl (hb hby at_45) rfl k_) ?_
  refine own_step (T' := Tc19) (g' := (mkF m 49 #[.val (.long x1), .second, .val (.long n), .second, .unset, .unset] [(.long (1000 : Int64)), (.long n), (.long (((z4 ||| z10) ||| z16) ||| z22))])) (fun t_ k_ => Xc19.ldc2J hx hown (mvT hZ (hw _ (List.mem_of_getElem? (i := 12) rfl))) rfl (hb hby at_46) k_) ?_
  refine own_step (T' := Tc19) (g' := (mkF m 50 #[.val (.long x1), .second, .val (.long n), .second, .unset, .unset] [(.int (4 : Int32)), (.long (1000 : Int64)), (.long n), (.long (((z4 ||| z10) ||| z16) ||| z22))])) (fun t_ k_ => XT.iconstV Xc19.here hx rfl (4 : Int32) (hb hby at_49) (by decide) k_) ?_
  obtain ⟨_, _, ⟨Tc25, Lc25, kc25, nc25⟩, -, Xc25, ⟨Lcc25, hQc25, lc25, yc25, zc25⟩, stc25⟩ := Jvm.LawKit.callS Xc19 hx (y := (⟨"com/example/llogari/llogari/rules/DigitsEightDigitsPinLaw", "digitByte", "(JJI)J"⟩ : MethodName)) hown (mvT hZ (hw _ (List.mem_of_getElem? (i := 3) rfl))) (mvT hZ (hw _ (List.mem_of_getElem? (i := 4) rfl))) (mvT hZ (hw _ (List.mem_of_getElem? (i := 5) rfl))) (mvT hZ (hw _ (List.mem_of_getElem? (i := 6) rfl))) (by decide) (backOf (W := 2) (rm_digit l Z a0 hw [] n (1000 : Int64) (4 : Int32) h0 n0 Z0 (by decide)) hZ (hw _ (List.mem_of_getElem? (i := 6) rfl)) (hw _ (List.mem_of_getElem? (i := 5) rfl)) (by decide) (by decide)) (g := (mkF m 50 #[.val (.long x1), .second, .val (.long n), .second, .unset, .unset] [(.int (4 : Int32)), (.long (1000 : Int64)), (.long n), (.long (((z4 ||| z10) ||| z16) ||| z22))])) rfl (by rw [hml]; rfl) (argsL := [(.long n), (.long (1000 : Int64)), (.int (4 : Int32))]) (rest := [(.long (((z4 ||| z10) ||| z16) ||| z22))]) (lenOf pd_0 rfl) rfl (by show 2 * 0 + _ ≤ _; exact Nat.le_of_eq rfl) (hb hby at_50) (fun _ _ => ⟨rfl, e21, (by decide : 0 + 0 ≤ _), (by decide : 0 + 0 ≤ _)⟩)
  dsimp only [Pt.U, Pt.locs, Pt.cells, Pt.slots] at Xc25 lc25 yc25 zc25 stc25 hQc25
  subst lc25 yc25 zc25
  obtain ⟨hv29, N26, e27⟩ := hQc25
  obtain ⟨z28, hz28⟩ : ∃ z : Int64, z = (own_digit n (1000 : Int64) (4 : Int32)) := ⟨_, rfl⟩
  rw [← hz28] at hv29
  subst hv29
  have N30 := Fr.app N24 N26
  refine own_step (T' := Tc25) (g' := (mkF m 53 #[.val (.long x1), .second, .val (.long n), .second, .unset, .unset] [(.long z28), (.long (((z4 ||| z10) ||| z16) ||| z22))])) stc25 ?_
  refine own_step (T' := Tc25) (g' := (mkF m 54 #[.val (.long x1), .second, .val (.long n), .second, .unset, .unset] [(.long ((((z4 ||| z10) ||| z16) ||| z22) ||| z28))])) (fun t_ k_ => XT.lor Xc25.here hx rfl (hb hby at_53) rfl k_) ?_
  refine own_step (T' := Tc25) (g' := (mkF m 55 #[.val (.long x1), .second, .val (.long n), .second, .unset, .unset] [(.long n), (.long ((((z4 ||| z10) ||| z16) ||| z22) ||| z28))])) (fun t_ k_ => XT.lloadN Xc25.here hx rfl (hb hby at_54) rfl k_) ?_
  refine own_step (T' := Tc25) (g' := (mkF m 58 #[.val (.long x1), .second, .val (.long n), .second, .unset, .unset] [(.long (100 : Int64)), (.long n), (.long ((((z4 ||| z10) ||| z16) ||| z22) ||| z28))])) (fun t_ k_ => Xc25.ldc2J hx hown (mvT hZ (hw _ (List.mem_of_getElem? (i := 13) rfl))) rfl (hb hby at_55) k_) ?_
  refine own_step (T' := Tc25) (g' := (mkF m 59 #[.val (.long x1), .second, .val (.long n), .second, .unset, .unset] [(.int (5 : Int32)), (.long (100 : Int64)), (.long n), (.long ((((z4 ||| z10) ||| z16) ||| z22) ||| z28))])) (fun t_ k_ => XT.iconstV Xc25.here hx rfl (5 : Int32) (hb hby at_58) (by decide) k_) ?_
  obtain ⟨_, _, ⟨Tc31, Lc31, kc31, nc31⟩, -, Xc31, ⟨Lcc31, hQc31, lc31, yc31, zc31⟩, stc31⟩ := Jvm.LawKit.callS Xc25 hx (y := (⟨"com/example/llogari/llogari/rules/DigitsEightDigitsPinLaw", "digitByte", "(JJI)J"⟩ : MethodName)) hown (mvT hZ (hw _ (List.mem_of_getElem? (i := 3) rfl))) (mvT hZ (hw _ (List.mem_of_getElem? (i := 4) rfl))) (mvT hZ (hw _ (List.mem_of_getElem? (i := 5) rfl))) (mvT hZ (hw _ (List.mem_of_getElem? (i := 6) rfl))) (by decide) (backOf (W := 2) (rm_digit l Z a0 hw [] n (100 : Int64) (5 : Int32) h0 n0 Z0 (by decide)) hZ (hw _ (List.mem_of_getElem? (i := 6) rfl)) (hw _ (List.mem_of_getElem? (i := 5) rfl)) (by decide) (by decide)) (g := (mkF m 59 #[.val (.long x1), .second, .val (.long n), .second, .unset, .unset] [(.int (5 : Int32)), (.long (100 : Int64)), (.long n), (.long ((((z4 ||| z10) ||| z16) ||| z22) ||| z28))])) rfl (by rw [hml]; rfl) (argsL := [(.long n), (.long (100 : Int64)), (.int (5 : Int32))]) (rest := [(.long ((((z4 ||| z10) ||| z16) ||| z22) ||| z28))]) (lenOf pd_0 rfl) rfl (by show 2 * 0 + _ ≤ _; exact Nat.le_of_eq rfl) (hb hby at_59) (fun _ _ => ⟨rfl, e27, (by decide : 0 + 0 ≤ _), (by decide : 0 + 0 ≤ _)⟩)
  dsimp only [Pt.U, Pt.locs, Pt.cells, Pt.slots] at Xc31 lc31 yc31 zc31 stc31 hQc31
  subst lc31 yc31 zc31
  obtain ⟨hv35, N32, e33⟩ := hQc31
  obtain ⟨z34, hz34⟩ : ∃ z : Int64, z = (own_digit n (100 : Int64) (5 : Int32)) := ⟨_, rfl⟩
  rw [← hz34] at hv35
  subst hv35
  have N36 := Fr.app N30 N32
  refine own_step (T' := Tc31) (g' := (mkF m 62 #[.val (.long x1), .second, .val (.long n), .second, .unset, .unset] [(.long z34), (.long ((((z4 ||| z10) ||| z16) ||| z22) ||| z28))])) stc31 ?_
  refine own_step (T' := Tc31) (g' := (mkF m 63 #[.val (.long x1), .second, .val (.long n), .second, .unset, .unset] [(.long (((((z4 ||| z10) ||| z16) ||| z22) ||| z28) ||| z34))])) (fun t_ k_ => XT.lor Xc31.here hx rfl (hb hby at_62) rfl k_) ?_
  refine own_step (T' := Tc31) (g' := (mkF m 64 #[.val (.long x1), .second, .val (.long n), .second, .unset, .unset] [(.long n), (.long (((((z4 ||| z10) ||| z16) ||| z22) ||| z28) ||| z34))])) (fun t_ k_ => XT.lloadN Xc31.here hx rfl (hb hby at_63) rfl k_) ?_
  refine own_step (T' := Tc31) (g' := (mkF m 67 #[.val (.long x1), .second, .val (.long n), .second, .unset, .unset] [(.long (10 : Int64)), (.long n), (.long (((((z4 ||| z10) ||| z16) ||| z22) ||| z28) ||| z34))])) (fun t_ k_ => Xc31.ldc2J hx hown (mvT hZ (hw _ (List.mem_of_getElem? (i := 7) rfl))) rfl (hb hby at_64) k_) ?_
  refine own_step (T' := Tc31) (g' := (mkF m 69 #[.val (.long x1), .second, .val (.long n), .second, .unset, .unset] [(.int (6 : Int32)), (.long (10 : Int64)), (.long n), (.long (((((z4 ||| z10) ||| z16) ||| z22) ||| z28) ||| z34))])) (fun t_ k_ => XT.bipushV Xc31.here hx rfl (6 : Int32) (hb hby at_67) (by decide) k_) ?_
  obtain ⟨_, _, ⟨Tc37, Lc37, kc37, nc37⟩, -, Xc37, ⟨Lcc37, hQc37, lc37, yc37, zc37⟩, stc37⟩ := Jvm.LawKit.callS Xc31 hx (y := (⟨"com/example/llogari/llogari/rules/DigitsEightDigitsPinLaw", "digitByte", "(JJI)J"⟩ : MethodName)) hown (mvT hZ (hw _ (List.mem_of_getElem? (i := 3) rfl))) (mvT hZ (hw _ (List.mem_of_getElem? (i := 4) rfl))) (mvT hZ (hw _ (List.mem_of_getElem? (i := 5) rfl))) (mvT hZ (hw _ (List.mem_of_getElem? (i := 6) rfl))) (by decide) (backOf (W := 2) (rm_digit l Z a0 hw [] n (10 : Int64) (6 : Int32) h0 n0 Z0 (by decide)) hZ (hw _ (List.mem_of_getElem? (i := 6) rfl)) (hw _ (List.mem_of_getElem? (i := 5) rfl)) (by decide) (by decide)) (g := (mkF m 69 #[.val (.long x1), .second, .val (.long n), .second, .unset, .unset] [(.int (6 : Int32)), (.long (10 : Int64)), (.long n), (.long (((((z4 ||| z10) ||| z16) ||| z22) ||| z28) ||| z34))])) rfl (by rw [hml]; rfl) (argsL := [(.long n), (.long (10 : Int64)), (.int (6 : Int32))]) (rest := [(.long (((((z4 ||| z10) ||| z16) ||| z22) ||| z28) ||| z34))]) (lenOf pd_0 rfl) rfl (by show 2 * 0 + _ ≤ _; exact Nat.le_of_eq rfl) (hb hby at_69) (fun _ _ => ⟨rfl, e33, (by decide : 0 + 0 ≤ _), (by decide : 0 + 0 ≤ _)⟩)
  dsimp only [Pt.U, Pt.locs, Pt.cells, Pt.slots] at Xc37 lc37 yc37 zc37 stc37 hQc37
  subst lc37 yc37 zc37
  obtain ⟨hv41, N38, e39⟩ := hQc37
  obtain ⟨z40, hz40⟩ : ∃ z : Int64, z = (own_digit n (10 : Int64) (6 : Int32)) := ⟨_, rfl⟩
  rw [← hz40] at hv41
  subst hv41
  have N42 := Fr.app N36 N38
  refine own_step (T' := Tc37) (g' := (mkF m 72 #[.val (.long x1), .second, .val (.long n), .second, .unset, .unset] [(.long z40), (.long (((((z4 ||| z10) ||| z16) ||| z22) ||| z28) ||| z34))])) stc37 ?_
  refine own_step (T' := Tc37) (g' := (mkF m 73 #[.val (.long x1), .second, .val (.long n), .second, .unset, .unset] [(.long ((((((z4 ||| z10) ||| z16) ||| z22) ||| z28) ||| z34) ||| z40))])) (fun t_ k_ => XT.lor Xc37.here hx rfl (hb hby at_72) rfl k_) ?_
  refine own_step (T' := Tc37) (g' := (mkF m 74 #[.val (.long x1), .second, .val (.long n), .second, .unset, .unset] [(.long n), (.long ((((((z4 ||| z10) ||| z16) ||| z22) ||| z28) ||| z34) ||| z40))])) (fun t_ k_ => XT.lloadN Xc37.here hx rfl (hb hby at_73) rfl k_) ?_
  refine own_step (T' := Tc37) (g' := (mkF m 75 #[.val (.long x1), .second, .val (.long n), .second, .unset, .unset] [(.long (1 : Int64)), (.long n), (.long ((((((z4 ||| z10) ||| z16) ||| z22) ||| z28) ||| z34) ||| z40))])) (fun t_ k_ => XT.lconstV Xc37.here hx rfl (1 : Int64) (hb hby at_74) (by decide) k_) ?_
  refine own_step (T' := Tc37) (g' := (mkF m 77 #[.val (.long x1), .second, .val (.long n), .second, .unset, .unset] [(.int (7 : Int32)), (.long (1 : Int64)), (.long n), (.long ((((((z4 ||| z10) ||| z16) ||| z22) ||| z28) ||| z34) ||| z40))])) (fun t_ k_ => XT.bipushV Xc37.here hx rfl (7 : Int32) (hb hby at_75) (by decide) k_) ?_
  obtain ⟨_, _, ⟨Tc43, Lc43, kc43, nc43⟩, -, Xc43, ⟨Lcc43, hQc43, lc43, yc43, zc43⟩, stc43⟩ := Jvm.LawKit.callS Xc37 hx (y := (⟨"com/example/llogari/llogari/rules/DigitsEightDigitsPinLaw", "digitByte", "(JJI)J"⟩ : MethodName)) hown (mvT hZ (hw _ (List.mem_of_getElem? (i := 3) rfl))) (mvT hZ (hw _ (List.mem_of_getElem? (i := 4) rfl))) (mvT hZ (hw _ (List.mem_of_getElem? (i := 5) rfl))) (mvT hZ (hw _ (List.mem_of_getElem? (i := 6) rfl))) (by decide) (backOf (W := 2) (rm_digit l Z a0 hw [] n (1 : Int64) (7 : Int32) h0 n0 Z0 (by decide)) hZ (hw _ (List.mem_of_getElem? (i := 6) rfl)) (hw _ (List.mem_of_getElem? (i := 5) rfl)) (by decide) (by decide)) (g := (mkF m 77 #[.val (.long x1), .second, .val (.long n), .second, .unset, .unset] [(.int (7 : Int32)), (.long (1 : Int64)), (.long n), (.long ((((((z4 ||| z10) ||| z16) ||| z22) ||| z28) ||| z34) ||| z40))])) rfl (by rw [hml]; rfl) (argsL := [(.long n), (.long (1 : Int64)), (.int (7 : Int32))]) (rest := [(.long ((((((z4 ||| z10) ||| z16) ||| z22) ||| z28) ||| z34) ||| z40))]) (lenOf pd_0 rfl) rfl (by show 2 * 0 + _ ≤ _; exact Nat.le_of_eq rfl) (hb hby at_77) (fun _ _ => ⟨rfl, e39, (by decide : 0 + 0 ≤ _), (by decide : 0 + 0 ≤ _)⟩)
  dsimp only [Pt.U, Pt.locs, Pt.cells, Pt.slots] at Xc43 lc43 yc43 zc43 stc43 hQc43
  subst lc43 yc43 zc43
  obtain ⟨hv47, N44, e45⟩ := hQc43
  obtain ⟨z46, hz46⟩ : ∃ z : Int64, z = (own_digit n (1 : Int64) (7 : Int32)) := ⟨_, rfl⟩
  rw [← hz46] at hv47
  subst hv47
  have N48 := Fr.app N42 N44
  refine own_step (T' := Tc43) (g' := (mkF m 80 #[.val (.long x1), .second, .val (.long n), .second, .unset, .unset] [(.long z46), (.long ((((((z4 ||| z10) ||| z16) ||| z22) ||| z28) ||| z34) ||| z40))])) stc43 ?_
  refine own_step (T' := Tc43) (g' := (mkF m 81 #[.val (.long x1), .second, .val (.long n), .second, .unset, .unset] [(.long (((((((z4 ||| z10) ||| z16) ||| z22) ||| z28) ||| z34) ||| z40) ||| z46))])) (fun t_ k_ => XT.lor Xc43.here hx rfl (hb hby at_80) rfl k_) ?_
  refine own_step (T' := Tc43) (g' := (mkF m 83 #[.val (.long x1), .second, .val (.long n), .second, .val (.long (((((((z4 ||| z10) ||| z16) ||| z22) ||| z28) ||| z34) ||| z40) ||| z46)), .second] [])) (fun t_ k_ => XT.lstore Xc43.here hx rfl (hb hby at_81) rfl (l' := #[.val (.long x1), .second, .val (.long n), .second, .val (.long (((((((z4 ||| z10) ||| z16) ||| z22) ||| z28) ||| z34) ||| z40) ||| z46)), .second]) rfl k_) ?_
  refine own_step (T' := Tc43) (g' := (mkF m 85 #[.val (.long x1), .second, .val (.long n), .second, .val (.long (((((((z4 ||| z10) ||| z16) ||| z22) ||| z28) ||| z34) ||| z40) ||| z46)), .second] [(.long (((((((z4 ||| z10) ||| z16) ||| z22) ||| z28) ||| z34) ||| z40) ||| z46))])) (fun t_ k_ => XT.lload Xc43.here hx rfl (hb hby at_83) rfl k_) ?_
  obtain ⟨_, _, ⟨Tc49, Lc49, kc49, nc49⟩, -, Xc49, ⟨Lcc49, hQc49, lc49, yc49, zc49⟩, stc49⟩ := Jvm.LawKit.callS Xc43 hx (y := (⟨"com/example/llogari/llogari/rules/Digits", "eightDigits", "(J)J"⟩ : MethodName)) hown (mvT hZ (hw _ (List.mem_of_getElem? (i := 14) rfl))) (mvT hZ (hw _ (List.mem_of_getElem? (i := 15) rfl))) (mvT hZ (hw _ (List.mem_of_getElem? (i := 16) rfl))) (mvT hZ (hw _ (List.mem_of_getElem? (i := 17) rfl))) (by decide) (backOf (W := 0) (rm_eight l Z a0 hw [] (((((((z4 ||| z10) ||| z16) ||| z22) ||| z28) ||| z34) ||| z40) ||| z46) h0 n0 Z0) hZ (hw _ (List.mem_of_getElem? (i := 17) rfl)) (hw _ (List.mem_of_getElem? (i := 16) rfl)) (by decide) (by decide)) (g := (mkF m 85 #[.val (.long x1), .second, .val (.long n), .second, .val (.long (((((((z4 ||| z10) ||| z16) ||| z22) ||| z28) ||| z34) ||| z40) ||| z46)), .second] [(.long (((((((z4 ||| z10) ||| z16) ||| z22) ||| z28) ||| z34) ||| z40) ||| z46))])) rfl (by rw [hml]; rfl) (argsL := [(.long (((((((z4 ||| z10) ||| z16) ||| z22) ||| z28) ||| z34) ||| z40) ||| z46))]) (rest := []) (lenOf pd_1 rfl) rfl (by show 2 * 0 + _ ≤ _; exact Nat.le_of_eq rfl) (hb hby at_85) (fun _ _ => ⟨rfl, e45, (by decide : 0 + 0 ≤ _), (by decide : 0 + 0 ≤ _)⟩)
  dsimp only [Pt.U, Pt.locs, Pt.cells, Pt.slots] at Xc49 lc49 yc49 zc49 stc49 hQc49
  subst lc49 yc49 zc49
  obtain ⟨rfl, N50, e51⟩ := hQc49
  have N52 := Fr.app N48 N50
  refine own_step (T' := Tc49) (g' := (mkF m 88 #[.val (.long x1), .second, .val (.long n), .second, .val (.long (((((((z4 ||| z10) ||| z16) ||| z22) ||| z28) ||| z34) ||| z40) ||| z46)), .second] [(.long (own_eight (((((((z4 ||| z10) ||| z16) ||| z22) ||| z28) ||| z34) ||| z40) ||| z46)))])) stc49 ?_
  refine own_step (T' := Tc49) (g' := (mkF m 89 #[.val (.long x1), .second, .val (.long n), .second, .val (.long (((((((z4 ||| z10) ||| z16) ||| z22) ||| z28) ||| z34) ||| z40) ||| z46)), .second] [(.long n), (.long (own_eight (((((((z4 ||| z10) ||| z16) ||| z22) ||| z28) ||| z34) ||| z40) ||| z46)))])) (fun t_ k_ => XT.lloadN Xc49.here hx rfl (hb hby at_88) rfl k_) ?_
  refine own_step (T' := Tc49) (g' := (mkF m 90 #[.val (.long x1), .second, .val (.long n), .second, .val (.long (((((((z4 ||| z10) ||| z16) ||| z22) ||| z28) ||| z34) ||| z40) ||| z46)), .second] [(.int (XT.cmpL (own_eight (((((((z4 ||| z10) ||| z16) ||| z22) ||| z28) ||| z34) ||| z40) ||| z46)) n))])) (fun t_ k_ => XT.lcmp Xc49.here hx rfl (hb hby at_89) rfl k_) ?_
  have hk53 : (own_eight (((((((z4 ||| z10) ||| z16) ||| z22) ||| z28) ||| z34) ||| z40) ||| z46)) = n := own_law hn.symm hz4 hz10 hz16 hz22 hz28 hz34 hz40 hz46
  refine own_step (T' := Tc49) (g' := (mkF m 93 #[.val (.long x1), .second, .val (.long n), .second, .val (.long (((((((z4 ||| z10) ||| z16) ||| z22) ||| z28) ||| z34) ||| z40) ||| z46)), .second] [])) (fun t_ k_ => XS.ifNo Xc49.here hx rfl (hb hby at_90) rfl (XT.ll_ne_f hk53) k_) ?_
  refine own_step (T' := Tc49) (g' := (mkF m 94 #[.val (.long x1), .second, .val (.long n), .second, .val (.long (((((((z4 ||| z10) ||| z16) ||| z22) ||| z28) ||| z34) ||| z40) ||| z46)), .second] [(.int (1 : Int32))])) (fun t_ k_ => XT.iconstV Xc49.here hx rfl (1 : Int32) (hb hby at_93) (by decide) k_) ?_
  refine own_step (T' := Tc49) (g' := (mkF m 98 #[.val (.long x1), .second, .val (.long n), .second, .val (.long (((((((z4 ||| z10) ||| z16) ||| z22) ||| z28) ||| z34) ||| z40) ||| z46)), .second] [(.int (1 : Int32))])) (fun t_ k_ => XS.goto Xc49.here hx rfl (pc0 := 94) (pc' := 98) rfl (hb hby at_94) (by decide) (by decide) k_) ?_
  exact own_retN Xc49 hx hlk (t := .boolean) Bd.returns (by simp) (hb hby at_98) (by rw [e51]; exact ⟨rfl, N52⟩) (by decide) (by decide)
set_option maxRecDepth 65536 in
set_option maxHeartbeats 40000000 in
theorem comes_1 {Post : Tables → Env → Array Value → State → Outcome → State → Prop} (hpost : ∀ tb e args s v u, (limb_1_1.after args s (.returned v) u = true ∧ limb_1_2.after args s (.returned v) u = true ∧ True) → FrameEnd s (.returned v) u (Jvm.fieldLocs frame_1_writes args s ++ Jvm.arrayLocs frame_1_arrays args s ++ Jvm.staticLocs frame_1_statics s) 0 0 → Post tb e args s (.returned v) u) :
    ArmFor flags0 classFile x code maxLocals ret World_1 tables_1 room_1 Calls_1 rest_1 Pre_1 Post := by
  intro l hfl _ _ p e ha hc hk s m args below hf hA hF happ hP
  obtain ⟨hcalls, hrest, hpre⟩ := hP
  obtain ⟨-, -, -, hnamed, -, -, -, hat⟩ := (Spec.applies_iff hf).mp happ
  obtain ⟨hg, hn⟩ := and_e (Cond.before_iff.mp (show (Jvm.Cond.and given_1 narrow_1).before args s = true from hpre))
  obtain ⟨hcount, hg0⟩ := and_e hg
  obtain ⟨w0, rfl⟩ : ∃ w0 : Value, args = #[w0] := by
    have hs : args.size = 1 := by simpa [Cond.value, given_1] using hcount
    obtain ⟨L⟩ := args
    match L, hs with
    | [w0], _ => exact ⟨w0, rfl⟩
  have hw := fun d (hd : d ∈ tables_1) => atoms_spec (ws := Jvm.Cond.code x code maxLocals ret :: tables_1) hat d (List.mem_cons_of_mem _ hd)
  obtain ⟨i0, ei0⟩ := isL_v hg0
  obtain rfl : w0 = (.long i0) := Option.some.inj ei0
  obtain ⟨n, o, h1, h2, h3, _, L, rfl, ⟨rfl, N⟩, hq⟩ := rm_law l s _ hw tables_1 i0 s.heap s.heap.size (Nat.le_refl _)  p e ha hc hk s m _ below hf ((Spec.applies_iff_loose hf).mp happ).1 ⟨rfl, State.Warmed39.refl s, rfl⟩ trivial
  refine ⟨n, _, h1, h2, h3, hpost _ _ _ _ _ _ ⟨Cond.after_iff.mpr rfl, Cond.after_iff.mpr (eq_i res_at (Term.int_eval (1)) rfl), trivial⟩ ⟨hq.1, hq.2.1, (hq.2.2.sift fun y hy => Or.inr (N y hy)).mono (by decide) (by decide)⟩⟩
theorem main_1_1 : Claimed_1_1 := comes_1 fun _ _ _ _ _ _ h hF => ⟨h.1, hF⟩
theorem main_1_2 : Claimed_1_2 := comes_1 fun _ _ _ _ _ _ h hF => ⟨h.2.1, hF⟩
end Jvm.Pilot.@@N@@
namespace Jvm.Pilot.@@N@@
open Jvm Jvm.ClassFile Sem Op Lib Jvm.Free Jvm.Stand Jvm.Pilot.@@N@@.Jvm.D
/-! MADE BY PROGRAM (witnessworld.py) out of the Statement's table words and the real class files: 9 classes; the members and pool entries that the words name. The judged class is class 1, her method 2. -/
namespace start1
open Jvm.ClassFile
def u (s : String) : CpInfo := .utf8 (stringToUtf16 s)
/-- a pool by its gaps: so many unusable entries, then the entry; so many at the end -/
def gap : Nat → List CpInfo → List CpInfo
  | 0, r => r
  | n + 1, r => .unusable :: gap n r
def poolList (es : List (Nat × CpInfo)) (last : Nat) : List CpInfo := es.foldr (fun e r => gap e.1 (e.2 :: r)) (gap last [])
def pool (es : List (Nat × CpInfo)) (last : Nat) : Array CpInfo := ⟨poolList es last⟩
def fileOf (pool : Array CpInfo) (this : Nat) (attrs : Array Attribute := #[]) (ms : Array MethodInfo := #[]) (fl : Nat := 33) (sup : Nat := 0) (ifs : Array Nat := #[]) (fds : Array FieldInfo := #[]) : ClassFile where
  minorVersion := 0
  majorVersion := 65
  constantPool := pool
  accessFlags := fl
  thisClass := this
  superClass := sup
  interfaces := ifs
  fields := fds
  methods := ms
  attributes := attrs
def plain (name : String) (sup : Option ClassId) : Class where
  name := name
  kind := .ordinary
  loader := none
  accessFlags := 33
  super := sup
  interfaces := #[]
  cf := none
  fields := #[]
  methods := #[]
  instanceTypes := #[]
  staticTypes := #[]
  resolved := #[]
  callSites := []
  init := .initialized
  statics := none
  mirror := none

def pool0 : Array CpInfo := pool [(5, u "<init>"), (0, u "()V"), (1, .class_ 10), (1, u "java/lang/Object")] 113

def k0m0 : Method := { name := "<init>", desc := "()V", sig := { parameters := [], returnType := none }, accessFlags := 1, code := none }
/-- java/lang/Object -/
def k0 : Class := { plain "java/lang/Object" none with
  accessFlags := 33
  interfaces := #[]
  cf := some (fileOf pool0 8 #[] #[{ accessFlags := 1, nameIndex := 5, descriptorIndex := 6, attributes := #[] }] 33 0 #[] #[])
  fields := #[]
  methods := #[k0m0]
  instanceTypes := #[]
  staticTypes := #[]
  resolved := Array.replicate 124 none
  statics := none }

def pool1 : Array CpInfo := pool [(2, .class_ 4), (1, u "java/lang/Object"), (0, u "<init>"), (0, u "()V"), (0, .long 10), (1, .long 48), (3, .long 9223372036854775807), (1, .long 100000000), (1, .long 10000000), (1, .methodref 20 21), (0, .class_ 22), (0, .nameAndType 23 24), (0, u "com/example/llogari/llogari/rules/DigitsEightDigitsPinLaw"), (0, u "digitByte"), (0, u "(JJI)J"), (0, .long 1000000), (1, .long 100000), (1, .long 10000), (1, .long 1000), (1, .long 100), (1, .methodref 36 37), (0, .class_ 38), (0, .nameAndType 39 40), (0, u "com/example/llogari/llogari/rules/Digits"), (0, u "eightDigits"), (0, u "(J)J"), (2, u "law"), (0, u "(J)Z")] 3

def k1m0 : Method := { name := "<init>", desc := "()V", sig := { parameters := [], returnType := none }, accessFlags := 2, code := none }
def k1c1 : Code := { maxStack := 4, maxLocals := 7, code := method_2_code, exceptionTable := #[], attributes := #[] }
def k1m1 : Method := { name := "digitByte", desc := "(JJI)J", sig := { parameters := [.long, .long, .int], returnType := some .long }, accessFlags := 10, code := some k1c1 }
def k1c2 : Code := { maxStack := 7, maxLocals := 6, code := code, exceptionTable := #[], attributes := #[] }
def k1m2 : Method := { name := "law", desc := "(J)Z", sig := { parameters := [.long], returnType := some .boolean }, accessFlags := 9, code := some k1c2 }
/-- com/example/llogari/llogari/rules/DigitsEightDigitsPinLaw -/
def k1 : Class := { plain "com/example/llogari/llogari/rules/DigitsEightDigitsPinLaw" (some 0) with
  accessFlags := 49
  interfaces := #[]
  cf := some (fileOf pool1 20 #[] #[{ accessFlags := 2, nameIndex := 5, descriptorIndex := 6, attributes := #[] }, { accessFlags := 10, nameIndex := 23, descriptorIndex := 24, attributes := #[] }, { accessFlags := 9, nameIndex := 43, descriptorIndex := 44, attributes := #[] }] 49 2 #[] #[])
  fields := #[]
  methods := #[k1m0, k1m1, k1m2]
  instanceTypes := #[]
  staticTypes := #[]
  resolved := Array.replicate 48 none
  statics := none }

def pool2 : Array CpInfo := pool [(1, .class_ 2), (0, u "com/example/llogari/llogari/rules/Digits"), (1, .class_ 6), (1, u "java/lang/Object"), (0, u "<init>"), (0, u "()V"), (9, u "(J)J"), (10, u "eightDigits"), (6, u "EIGHT_BYTES"), (0, u "Ljava/lang/invoke/VarHandle;"), (5, .long 3472328296227680304), (5, .long 2561), (1, .long 71777214294589695), (1, .long 6553601), (1, .long 281470681808895), (1, .long 42949672960001), (15, u "NOT_A_NUMBER"), (0, u "J"), (1, u "EACH_BYTE"), (2, u "ZEROS"), (0, u "HIGH_BITS")] 8

def k2m0 : Method := { name := "<init>", desc := "()V", sig := { parameters := [], returnType := none }, accessFlags := 2, code := none }
def k2c1 : Code := { maxStack := 4, maxLocals := 8, code := prog_22_method_6_code, exceptionTable := #[], attributes := #[] }
def k2m1 : Method := { name := "eightDigits", desc := "(J)J", sig := { parameters := [.long], returnType := some .long }, accessFlags := 8, code := some k2c1 }
/-- com/example/llogari/llogari/rules/Digits -/
def k2 : Class := { plain "com/example/llogari/llogari/rules/Digits" (some 0) with
  accessFlags := 48
  interfaces := #[]
  cf := some (fileOf pool2 1 #[] #[{ accessFlags := 2, nameIndex := 7, descriptorIndex := 8, attributes := #[] }, { accessFlags := 8, nameIndex := 29, descriptorIndex := 18, attributes := #[] }] 48 4 #[] #[{ accessFlags := 24, nameIndex := 73, descriptorIndex := 74, attributes := #[] }, { accessFlags := 26, nameIndex := 36, descriptorIndex := 37, attributes := #[] }, { accessFlags := 26, nameIndex := 76, descriptorIndex := 74, attributes := #[] }, { accessFlags := 24, nameIndex := 79, descriptorIndex := 74, attributes := #[] }, { accessFlags := 26, nameIndex := 80, descriptorIndex := 74, attributes := #[] }])
  fields := #[{ name := "NOT_A_NUMBER", type := .long, accessFlags := 24, slot := 0, constantValue := 0 }, { name := "EIGHT_BYTES", type := (.object "java/lang/invoke/VarHandle"), accessFlags := 26, slot := 1, constantValue := 0 }, { name := "EACH_BYTE", type := .long, accessFlags := 26, slot := 2, constantValue := 0 }, { name := "ZEROS", type := .long, accessFlags := 24, slot := 3, constantValue := 0 }, { name := "HIGH_BITS", type := .long, accessFlags := 26, slot := 4, constantValue := 0 }]
  methods := #[k2m0, k2m1]
  instanceTypes := #[]
  staticTypes := #[.long, (.object "java/lang/invoke/VarHandle"), .long, .long, .long]
  resolved := Array.replicate 89 none
  statics := none }

def pool3 : Array CpInfo := pool [(1, u "java/lang/Cloneable"), (0, .class_ 1), (0, u "java/lang/Object"), (0, .class_ 3)] 3

/-- java/lang/Cloneable -/
def k3 : Class := { plain "java/lang/Cloneable" (some 0) with
  accessFlags := 1537
  interfaces := #[]
  cf := some (fileOf pool3 2 #[] #[] 1537 4 #[] #[])
  fields := #[]
  methods := #[]
  instanceTypes := #[]
  staticTypes := #[]
  resolved := Array.replicate 8 none
  statics := none }

def pool4 : Array CpInfo := pool [(1, u "java/io/Serializable"), (0, .class_ 1), (0, u "java/lang/Object"), (0, .class_ 3)] 3

/-- java/io/Serializable -/
def k4 : Class := { plain "java/io/Serializable" (some 0) with
  accessFlags := 1537
  interfaces := #[]
  cf := some (fileOf pool4 2 #[] #[] 1537 4 #[] #[])
  fields := #[]
  methods := #[]
  instanceTypes := #[]
  staticTypes := #[]
  resolved := Array.replicate 8 none
  statics := none }

/-- the primitive byte -/
def k5 : Class := { plain "byte" none with kind := .primitive 'B', accessFlags := 0x411 }
/-- [B -/
def k6 : Class := { plain "[B" (some 0) with kind := .array 5 .byte, interfaces := #[3, 4], accessFlags := 1041 }

/-- the primitive int -/
def k7 : Class := { plain "int" none with kind := .primitive 'I', accessFlags := 0x411 }
/-- [I -/
def k8 : Class := { plain "[I" (some 0) with kind := .array 7 .int, interfaces := #[3, 4], accessFlags := 1041 }

def heap : Heap := #[]
def classes : Array Class := #[k0, k1, k2, k3, k4, k5, k6, k7, k8]
def interned : List (Array UInt16 × Addr) := []
def slotsUsed : Nat := 0
def theMethod : MethodId := ⟨1, 2⟩
def args0 : Array Value := #[.long 12345678]
def aboutOver (below : List Frame) : State where
  vm := { classes := classes, interned := interned.toArray }
  heap := heap
  slotsUsed := slotsUsed
  threads := #[{ frames := .invoking theMethod args0 :: below }]
def below0 : List Frame := [.native { method := ⟨0, 0⟩, args := #[] }]
def about1 : State := aboutOver below0
def p0 : Program := .bare "" "" ""
def e0 : Env := launch0.env 0 0 0
theorem w_frames : about1.frames = Frame.invoking theMethod args0 :: below0 := rfl
set_option maxRecDepth 65536 in
theorem w_args : argsFit about1.vm theMethod args0 = true := by decide +kernel
set_option maxRecDepth 65536 in
theorem w_heap : heapFits about1 = true := by decide +kernel
set_option maxRecDepth 65536 in
theorem w_runnable : about1.curStatus? = some .runnable := by decide +kernel
set_option maxRecDepth 65536 in
theorem w_alone : about1.alone = true := by decide +kernel
set_option maxRecDepth 65536 in
theorem w_named : about1.methodNamed? x = some theMethod := by decide +kernel
set_option maxRecDepth 65536 in
theorem w_hears : about1.hears theMethod below0 = true := by decide +kernel
set_option maxRecDepth 65536 in
theorem w_ripe : about1.ripe theMethod args0 below0 = true := by decide +kernel
theorem w_running : about1.status = .running := rfl
set_option maxRecDepth 65536 in
theorem w_room : about1.hasRoom e0.platform room_1 = true :=
  launch0.hasRoom_least _ room_1 (by decide +kernel) (by decide +kernel) (by decide +kernel) (by decide +kernel) (by decide +kernel) (by decide +kernel)
theorem allAtoms_all (ts : List Jvm.Cond) (a : Array Jvm.Value) (st : Jvm.State) : (allAtoms ts).before a st = ts.all (fun c => c.before a st) := by
  induction ts with
  | nil => rfl
  | cons c t ih =>
    show (Jvm.Cond.and c (allAtoms t)).before a st = _
    rw [Jvm.Cond.before_and, ih, List.all_cons]
def words1 : List Jvm.Cond := Jvm.Cond.code x code maxLocals ret :: tables_1
/-- a 'code' word, met by the world's own term for the bytes: nothing is compared byte by byte -/
theorem code_word {y : MethodName} {bytes : ByteArray} {mx : Nat} {rt : Option FieldType} {a : Array Value} {s : State} {m : MethodId} {meth : Method} {c : Code} (h1 : s.methodNamed? y = some m) (h2 : s.vm.method? m = some meth) (h3 : meth.code = some c) (h4 : c.code = bytes)
    (h5 : (c.maxLocals == mx && c.exceptionTable.isEmpty && decide (c.maxStack ≤ mostOperands) && decide (meth.sig.returnType = rt) && !meth.locks && decide (parseMethodDescriptor y.desc = some meth.sig)) = true) : (Jvm.Cond.code y bytes mx rt).before a s = true := by
  simp only [Bool.and_eq_true, beq_iff_eq, Bool.not_eq_true', decide_eq_true_eq] at h5
  obtain ⟨⟨⟨⟨⟨g1, g2⟩, g3⟩, g4⟩, g5⟩, g6⟩ := h5
  simp [Cond.before, Cond.holds, Cond.value, h1, h2, h3, h4, g1, g2, g3, g4, g5, g6]
def isCode : Jvm.Cond → Bool
  | .code _ _ _ _ => true
  | _ => false
theorem all_split {L : List Jvm.Cond} {P : Jvm.Cond → Bool} (h1 : L.all (fun c => isCode c || P c) = true) (h2 : ∀ c ∈ L.filter isCode, P c = true) : L.all P = true := by
  refine List.all_eq_true.mpr fun c hc => ?_
  have h := List.all_eq_true.mp h1 c hc
  rcases Bool.eq_false_or_eq_true (isCode c) with hi | hi
  · exact h2 c (List.mem_filter.mpr ⟨hc, hi⟩)
  · simpa [hi] using h
set_option maxRecDepth 65536 in
theorem w_c0 : (Jvm.Cond.code x code maxLocals ret).before args0 about1 = true := code_word (m := ⟨1, 2⟩) (meth := k1m2) (c := k1c2) (by decide +kernel) rfl rfl rfl (by decide +kernel)
set_option maxRecDepth 65536 in
theorem w_c1 : (Jvm.Cond.code ({ cls := "com/example/llogari/llogari/rules/DigitsEightDigitsPinLaw", name := "digitByte", desc := "(JJI)J" } : Jvm.MethodName) method_2_code (7 : Nat) (Option.some Jvm.ClassFile.FieldType.long)).before args0 about1 = true := code_word (m := ⟨1, 1⟩) (meth := k1m1) (c := k1c1) (by decide +kernel) rfl rfl rfl (by decide +kernel)
set_option maxRecDepth 65536 in
theorem w_c2 : (Jvm.Cond.code ({ cls := "com/example/llogari/llogari/rules/Digits", name := "eightDigits", desc := "(J)J" } : Jvm.MethodName) prog_22_method_6_code (8 : Nat) (Option.some Jvm.ClassFile.FieldType.long)).before args0 about1 = true := code_word (m := ⟨2, 1⟩) (meth := k2m1) (c := k2c1) (by decide +kernel) rfl rfl rfl (by decide +kernel)
def codes1 : List Jvm.Cond := [Jvm.Cond.code x code maxLocals ret, Jvm.Cond.code ({ cls := "com/example/llogari/llogari/rules/DigitsEightDigitsPinLaw", name := "digitByte", desc := "(JJI)J" } : Jvm.MethodName) method_2_code (7 : Nat) (Option.some Jvm.ClassFile.FieldType.long), Jvm.Cond.code ({ cls := "com/example/llogari/llogari/rules/Digits", name := "eightDigits", desc := "(J)J" } : Jvm.MethodName) prog_22_method_6_code (8 : Nat) (Option.some Jvm.ClassFile.FieldType.long)]
set_option maxRecDepth 65536 in
theorem codes_eq : words1.filter isCode = codes1 := rfl
theorem w_codes : ∀ c ∈ words1.filter isCode, c.before args0 about1 = true := by
  rw [codes_eq]
  intro c hc
  simp only [codes1, List.mem_cons, List.not_mem_nil, or_false] at hc
  rcases hc with rfl | rfl | rfl
  · exact w_c0
  · exact w_c1
  · exact w_c2
set_option maxRecDepth 65536 in
theorem w_t1 : (words1.take 24).all (fun c => isCode c || c.before args0 about1) = true := by decide +kernel
set_option maxRecDepth 65536 in
theorem w_t2 : (words1.drop 24).all (fun c => isCode c || c.before args0 about1) = true := by decide +kernel
theorem w_tables : (allAtoms (Jvm.Cond.code x code maxLocals ret :: tables_1)).before args0 about1 = true := by
  rw [allAtoms_all]
  show words1.all (fun c => c.before args0 about1) = true
  refine all_split ?_ w_codes
  rw [← List.take_append_drop 24 words1, List.all_append, w_t1, w_t2]
  rfl
set_option maxRecDepth 65536 in
theorem w_case : (Jvm.Cond.and given_1 narrow_1).before args0 about1 = true := by decide +kernel
theorem w_applies : (headSpec (Jvm.Cond.code x code maxLocals ret :: tables_1) room_1).applies x e0.platform about1 = true :=
  (Spec.applies_iff w_frames).mpr ⟨w_running, w_runnable, w_alone, w_named, w_hears, w_ripe, w_room, w_tables⟩
theorem atStart : AtStart classFile x code maxLocals ret World_1 tables_1 room_1 Calls_1 rest_1 Pre_1 launch0 p0 e0 about1 theMethod args0 below0 :=
  ⟨lists_1, trivial, launch0.admits_env _ _ _, launch0.least_env, fairChoices_fair.cas, fairChoices_fair.clock, w_frames, w_args, w_heap, w_applies, trivial, trivial, w_case⟩
end start1
theorem witness_1 : WitnessClaimed_1 := ⟨start1.p0, start1.e0, start1.about1, start1.theMethod, start1.args0, start1.below0, start1.atStart⟩
end Jvm.Pilot.@@N@@
