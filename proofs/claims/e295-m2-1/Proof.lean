import JvmDerived
import JvmDerived.Pilot.@@N@@Statement
import JvmDerived.Pilot.@@N@@Code
set_option linter.unusedVariables false
set_option linter.unusedSimpArgs false
@@BLOCK:NumsL.lean.txt@@
namespace Jvm.Pilot.@@N@@
open Jvm Jvm.ClassFile Sem Op Lib Jvm.Free Jvm.Stand Jvm.LawKit Jvm.RoadKit Bundle Jvm.Pilot.@@N@@.Jvm.D
theorem own_pd0 : parseMethodDescriptor "([BI)I" = some ⟨[(.array .byte), .int], some .int⟩ := by decide +kernel
theorem own_pd1 : parseMethodDescriptor "(I)I" = some ⟨[.int], some .int⟩ := by decide +kernel
def own_bc (p : Int32) : Int32 := if p < 128 then 1 else if p < 2048 then 2 else if p < 65536 then 3 else if p < 1114112 then 4 else if (p - 1114112) < 128 then 1 else if (p - 1114112) < 8192 then 2 else 3
def own_abs (p : Int32) : Int32 := if p < 0 then -p else p
def own_fin (i n : Int32) : Int32 := if i = n then i else -i
def own_l3 (n lo hi u3 : Int32) : Int32 := if 3 < n then (if u3 < lo then own_fin 3 n else if hi < u3 then own_fin 3 n else own_fin 4 n) else own_fin 3 n
def own_l2 (n lo hi u2 u3 : Int32) : Int32 := if 2 < n then (if u2 < lo then own_fin 2 n else if hi < u2 then own_fin 2 n else own_l3 n 128 191 u3) else own_fin 2 n
def own_l1 (n lo hi u1 u2 u3 : Int32) : Int32 := if 1 < n then (if u1 < lo then own_fin 1 n else if hi < u1 then own_fin 1 n else own_l2 n 128 191 u2 u3) else own_fin 1 n
def own_r3 (u0 u1 u2 u3 : Int32) : Int32 := if u0 < 240 then -1 else if 244 < u0 then -1 else if u0 = 240 then own_l1 4 144 191 u1 u2 u3 else if u0 = 244 then own_l1 4 128 143 u1 u2 u3 else own_l1 4 128 191 u1 u2 u3
def own_r2 (u0 u1 u2 u3 : Int32) : Int32 := if u0 < 224 then own_r3 u0 u1 u2 u3 else if 239 < u0 then own_r3 u0 u1 u2 u3 else if u0 = 224 then own_l1 3 160 191 u1 u2 u3 else if u0 = 237 then own_l1 3 128 159 u1 u2 u3 else own_l1 3 128 191 u1 u2 u3
def own_run (u0 u1 u2 u3 : Int32) : Int32 := if u0 < 128 then 1 else if u0 < 194 then own_r2 u0 u1 u2 u3 else if 223 < u0 then own_r2 u0 u1 u2 u3 else own_l1 2 128 191 u1 u2 u3
def own_ca1 (b0 b1 b2 : Int32) : Int32 := 1114112 + ((b0 &&& 255) &&& 127)
def own_ca2 (b0 b1 b2 : Int32) : Int32 := 1114112 + ((((b0 &&& 255) &&& 127) <<< ((6 : Int32) &&& 31)) ||| (b1 &&& 63))
def own_ca3 (b0 b1 b2 : Int32) : Int32 := 1114112 + ((((((b0 &&& 255) &&& 127) <<< ((6 : Int32) &&& 31)) ||| (b1 &&& 63)) <<< ((6 : Int32) &&& 31)) ||| (b2 &&& 63))
theorem own_in4 {b0 b1 b2 b3 : Value} {j : Int32} (h : ¬ (j < 0 ∨ 4 ≤ j.toNatClampNeg)) : ¬ (j < 0 ∨ (#[b0, b1, b2, b3] : Array Value).size ≤ j.toNatClampNeg) := h
/-- a byte[] of these four -/
def own_BA (Z : State) (h : Heap) (a : Addr) (b0 b1 b2 b3 : Int32) : Prop := ∃ cl : Cell, Arr Z h a cl .byte ∧ cl.slots = #[.int b0, .int b1, .int b2, .int b3]
theorem own_lt {x k : Int32} {n : Int} (hk : k.toInt = n) : x < k ↔ x.toInt < n := by rw [← hk, Int32.lt_iff_toInt_lt]
theorem own_gt {x k : Int32} {n : Int} (hk : k.toInt = n) : k < x ↔ n < x.toInt := by rw [← hk, Int32.lt_iff_toInt_lt]
theorem own_eq {x k : Int32} {n : Int} (hk : k.toInt = n) : x = k ↔ x.toInt = n := by rw [← hk, Int32.toInt_inj]
theorem own_k {kind kq : Int32} (h : kq = (kind &&& 7)) : 0 ≤ kq.toInt ∧ kq.toInt ≤ 7 := by
  have e : (kind &&& 7).toInt = kind.toInt % 2 ^ 3 := Jvm.Kit.i32_mask kind 7 (k := 3) (by decide) (by decide)
  rw [h, e]; omega
theorem own_kq3 {kq : Int32} (K : 0 ≤ kq.toInt ∧ kq.toInt ≤ 7) (h9 : kq < 4) (h14 : ¬ kq = 0) (h30 : ¬ kq = 1) (h49 : ¬ kq = 2) : kq = 3 := by
  rw [own_lt (n := 4) (by decide)] at h9; rw [own_eq (n := 0) (by decide)] at h14; rw [own_eq (n := 1) (by decide)] at h30; rw [own_eq (n := 2) (by decide)] at h49; rw [own_eq (n := 3) (by decide)]; omega
theorem own_kq4 {kq : Int32} (K : 0 ≤ kq.toInt ∧ kq.toInt ≤ 7) (h9 : ¬ kq < 4) : kq = 4 ∨ kq = 5 ∨ kq = 6 ∨ kq = 7 := by
  rw [own_lt (n := 4) (by decide)] at h9; rw [own_eq (n := 4) (by decide), own_eq (n := 5) (by decide), own_eq (n := 6) (by decide), own_eq (n := 7) (by decide)]; omega
theorem own_rng {a lo y cc : Int32} {L D : Int} (hl : lo.toInt = L) (hy : y.toInt = D) (hD : 0 < D) (hL : 0 ≤ L) (hLD : L + D ≤ 2147483647) (h : cc = lo + ((a &&& 2147483647) % y)) : L ≤ cc.toInt ∧ cc.toInt < L + D := by
  have e1 : (a &&& 2147483647).toInt = a.toInt % 2 ^ 31 := Jvm.Kit.i32_mask a 2147483647 (k := 31) (by decide) (by decide)
  have e2 := Jvm.Kit.i32_rem_nonneg (x := a &&& 2147483647) (y := y) (by omega)
  have b1 : 0 ≤ ((a &&& 2147483647) % y).toInt ∧ ((a &&& 2147483647) % y).toInt < D := by rw [e2, hy]; exact ⟨Int.emod_nonneg _ (by omega), Int.emod_lt_of_pos _ hD⟩
  rw [h, Jvm.Kit.i32_add (by omega) (by omega), hl]; omega
theorem own_bc1 {p : Int32} (h : p.toInt < 128) : own_bc p = 1 := by unfold own_bc; rw [if_pos ((own_lt (by decide)).mpr h)]
theorem own_bc2 {p : Int32} (h1 : ¬ p.toInt < 128) (h : p.toInt < 2048) : own_bc p = 2 := by unfold own_bc; rw [if_neg (fun q => h1 ((own_lt (by decide)).mp q)), if_pos ((own_lt (by decide)).mpr h)]
theorem own_bc3 {p : Int32} (h2 : ¬ p.toInt < 2048) (h : p.toInt < 65536) : own_bc p = 3 := by unfold own_bc; rw [if_neg (fun q => absurd ((own_lt (n := 128) (by decide)).mp q) (by omega)), if_neg (fun q => h2 ((own_lt (by decide)).mp q)), if_pos ((own_lt (by decide)).mpr h)]
theorem own_bc4 {p : Int32} (h2 : ¬ p.toInt < 65536) (h : p.toInt < 1114112) : own_bc p = 4 := by unfold own_bc; rw [if_neg (fun q => absurd ((own_lt (n := 128) (by decide)).mp q) (by omega)), if_neg (fun q => absurd ((own_lt (n := 2048) (by decide)).mp q) (by omega)), if_neg (fun q => h2 ((own_lt (by decide)).mp q)), if_pos ((own_lt (by decide)).mpr h)]
theorem own_low0 {a kq cc : Int32} (h : cc = (0 : Int32) + ((a &&& 2147483647) % (((127 : Int32) - 0) + 1))) (hk : kq = 0) : own_bc cc = kq + 1 := by
  have r := own_rng (L := 0) (D := 128) (by decide) (by decide) (by decide) (by decide) (by decide) h
  rw [own_bc1 (by omega), hk]; rfl
theorem own_low1 {a kq cc : Int32} (h : cc = (128 : Int32) + ((a &&& 2147483647) % (((2047 : Int32) - 128) + 1))) (hk : kq = 1) : own_bc cc = kq + 1 := by
  have r := own_rng (L := 128) (D := 1920) (by decide) (by decide) (by decide) (by decide) (by decide) h
  rw [own_bc2 (by omega) (by omega), hk]; rfl
theorem own_low2 {a kq cc : Int32} (h : cc = (2048 : Int32) + ((a &&& 2147483647) % (((65535 : Int32) - 2048) + 1))) (hk : kq = 2) : own_bc cc = kq + 1 := by
  have r := own_rng (L := 2048) (D := 63488) (by decide) (by decide) (by decide) (by decide) (by decide) h
  rw [own_bc3 (by omega) (by omega), hk]; rfl
theorem own_low3 {a kq cc : Int32} (h : cc = (65536 : Int32) + ((a &&& 2147483647) % (((1114111 : Int32) - 65536) + 1))) (hk : kq = 3) : own_bc cc = kq + 1 := by
  have r := own_rng (L := 65536) (D := 1048576) (by decide) (by decide) (by decide) (by decide) (by decide) h
  rw [own_bc4 (by omega) (by omega), hk]; rfl
theorem own_bcT {p : Int32} {n : Int} (hp : p.toInt = 1114112 + n) (h0 : 0 ≤ n) (h1 : n < 1000000) : own_bc p = if n < 128 then 1 else if n < 8192 then 2 else 3 := by
  have e : (p - 1114112).toInt = n := by
    have k : (1114112 : Int32).toInt = 1114112 := by decide
    rw [Jvm.Kit.i32_sub (by omega) (by omega)]; omega
  unfold own_bc
  rw [if_neg (fun q => absurd ((own_lt (n := 128) (by decide)).mp q) (by omega)), if_neg (fun q => absurd ((own_lt (n := 2048) (by decide)).mp q) (by omega)), if_neg (fun q => absurd ((own_lt (n := 65536) (by decide)).mp q) (by omega)), if_neg (fun q => absurd ((own_lt (n := 1114112) (by decide)).mp q) (by omega))]
  simp only [own_lt (x := p - 1114112) (k := 128) (n := 128) (by decide), own_lt (x := p - 1114112) (k := 8192) (n := 8192) (by decide), e]
theorem own_u8 {x : Int32} (h1 : 0 ≤ x.toInt) (h2 : x.toInt ≤ 255) : (nar .byte (x.toInt8.toInt32) &&& 255) = x := by
  have a1 := c_i2b x
  have a2 := c_i2b (x.toInt8.toInt32)
  have e : (nar .byte (x.toInt8.toInt32) &&& 255).toInt = (nar .byte (x.toInt8.toInt32)).toInt % 2 ^ 8 := Jvm.Kit.i32_mask _ 255 (k := 8) (by decide) (by decide)
  have e' : (nar .byte (x.toInt8.toInt32)).toInt = (x.toInt8.toInt32).toInt8.toInt32.toInt := rfl
  apply Int32.toInt_inj.mp
  rw [e, e']; omega
theorem own_m7 (x : Int32) (h1 : 0 ≤ x.toInt) : (x &&& 127).toInt = x.toInt % 128 := Jvm.Kit.i32_mask x 127 (k := 7) (by decide) (by decide)
theorem own_m6 (x : Int32) : 0 ≤ (x &&& 63).toInt ∧ (x &&& 63).toInt < 64 := by
  have e : (x &&& 63).toInt = x.toInt % 2 ^ 6 := Jvm.Kit.i32_mask x 63 (k := 6) (by decide) (by decide)
  omega
theorem own_or {x y : Int32} (h1 : 0 ≤ x.toInt) (h2 : x.toInt < 16777216) (h3 : 0 ≤ y.toInt) (h4 : y.toInt < 64) : ((x <<< ((6 : Int32) &&& 31)) ||| y).toInt = x.toInt * 64 + y.toInt := by
  have s : (x <<< ((6 : Int32) &&& 31)).toInt = x.toInt * 2 ^ 6 := Jvm.Kit.i32_shl x ((6 : Int32) &&& 31) (k := 6) (by decide) (by omega) (by omega)
  generalize x <<< ((6 : Int32) &&& 31) = z at s ⊢
  have nz : z.toInt = (z.toBitVec.toNat : Int) := by
    have l := z.toBitVec.isLt
    have q : z.toInt = if 2 * z.toBitVec.toNat < 2 ^ 32 then (z.toBitVec.toNat : Int) else (z.toBitVec.toNat : Int) - ((2 ^ 32 : Nat) : Int) := BitVec.toInt_eq_toNat_cond _
    split at q <;> omega
  have ny : y.toInt = (y.toBitVec.toNat : Int) := by
    have l := y.toBitVec.isLt
    have q : y.toInt = if 2 * y.toBitVec.toNat < 2 ^ 32 then (y.toBitVec.toNat : Int) else (y.toBitVec.toNat : Int) - ((2 ^ 32 : Nat) : Int) := BitVec.toInt_eq_toNat_cond _
    split at q <;> omega
  have o : (z ||| y).toBitVec.toNat = z.toBitVec.toNat ||| y.toBitVec.toNat := by rw [Int32.toBitVec_or, BitVec.toNat_or]
  have ez : z.toBitVec.toNat = 2 ^ 6 * x.toInt.toNat := by omega
  have o2 : z.toBitVec.toNat ||| y.toBitVec.toNat = 2 ^ 6 * x.toInt.toNat + y.toBitVec.toNat := by
    rw [ez]; exact (Nat.two_pow_add_eq_or_of_lt (by omega) _).symm
  have q : (z ||| y).toInt = if 2 * (z ||| y).toBitVec.toNat < 2 ^ 32 then ((z ||| y).toBitVec.toNat : Int) else ((z ||| y).toBitVec.toNat : Int) - ((2 ^ 32 : Nat) : Int) := BitVec.toInt_eq_toNat_cond _
  rw [o, o2] at q
  split at q <;> omega
/-- what the second byte must be -/
def own_JJ (f s : Int) : Prop := 128 ≤ s ∧ s ≤ 191 ∧ (f = 224 → 160 ≤ s) ∧ (f = 237 → s ≤ 159) ∧ (f = 240 → 144 ≤ s) ∧ (f = 244 → s ≤ 143)
theorem own_ff2 {a ff : Int32} (h : ff = (224 : Int32) + ((a &&& 2147483647) % 21)) : 224 ≤ ff.toInt ∧ ff.toInt ≤ 244 := by
  have r := own_rng (L := 224) (D := 21) (by decide) (by decide) (by decide) (by decide) (by decide) h
  omega
theorem own_ff3 {a ff : Int32} (h : ff = (240 : Int32) + ((a &&& 2147483647) % 5)) : 240 ≤ ff.toInt ∧ ff.toInt ≤ 244 := by
  have r := own_rng (L := 240) (D := 5) (by decide) (by decide) (by decide) (by decide) (by decide) h
  omega
theorem own_nof1 {ff : Int32} (h : ff = 224) : ¬ (240 ≤ ff.toInt ∧ ff.toInt ≤ 244) := by rw [h]; decide
theorem own_nof2 {ff : Int32} (h : ff = 237) : ¬ (240 ≤ ff.toInt ∧ ff.toInt ≤ 244) := by rw [h]; decide
theorem own_ss1 {b ss : Int32} (h : ss = (160 : Int32) + ((b &&& 2147483647) % (((191 : Int32) - 160) + 1))) : 160 ≤ ss.toInt ∧ ss.toInt < 192 := own_rng (L := 160) (D := 32) (by decide) (by decide) (by decide) (by decide) (by decide) h
theorem own_ss2 {b ss : Int32} (h : ss = (128 : Int32) + ((b &&& 2147483647) % (((159 : Int32) - 128) + 1))) : 128 ≤ ss.toInt ∧ ss.toInt < 160 := own_rng (L := 128) (D := 32) (by decide) (by decide) (by decide) (by decide) (by decide) h
theorem own_ss3 {b ss : Int32} (h : ss = (144 : Int32) + ((b &&& 2147483647) % (((191 : Int32) - 144) + 1))) : 144 ≤ ss.toInt ∧ ss.toInt < 192 := own_rng (L := 144) (D := 48) (by decide) (by decide) (by decide) (by decide) (by decide) h
theorem own_ss4 {b ss : Int32} (h : ss = (128 : Int32) + ((b &&& 2147483647) % (((143 : Int32) - 128) + 1))) : 128 ≤ ss.toInt ∧ ss.toInt < 144 := own_rng (L := 128) (D := 16) (by decide) (by decide) (by decide) (by decide) (by decide) h
theorem own_ss5 {b ss : Int32} (h : ss = (128 : Int32) + ((b &&& 2147483647) % (((191 : Int32) - 128) + 1))) : 128 ≤ ss.toInt ∧ ss.toInt < 192 := own_rng (L := 128) (D := 64) (by decide) (by decide) (by decide) (by decide) (by decide) h
theorem own_J1 {ff ss : Int32} (h : ff = 224) (g1 : 160 ≤ ss.toInt) (g2 : ss.toInt < 192) : own_JJ ff.toInt ss.toInt := by rw [own_eq (n := 224) (by decide)] at h; unfold own_JJ; omega
theorem own_J2 {ff ss : Int32} (h : ff = 237) (g1 : 128 ≤ ss.toInt) (g2 : ss.toInt < 160) : own_JJ ff.toInt ss.toInt := by rw [own_eq (n := 237) (by decide)] at h; unfold own_JJ; omega
theorem own_J3 {ff ss : Int32} (h : ff = 240) (g1 : 144 ≤ ss.toInt) (g2 : ss.toInt < 192) : own_JJ ff.toInt ss.toInt := by rw [own_eq (n := 240) (by decide)] at h; unfold own_JJ; omega
theorem own_J4 {ff ss : Int32} (h : ff = 244) (g1 : 128 ≤ ss.toInt) (g2 : ss.toInt < 144) : own_JJ ff.toInt ss.toInt := by rw [own_eq (n := 244) (by decide)] at h; unfold own_JJ; omega
theorem own_J5 {ff ss : Int32} (h1 : ¬ ff = 224) (h2 : ¬ ff = 237) (h3 : ¬ ff = 240) (h4 : ¬ ff = 244) (g1 : 128 ≤ ss.toInt) (g2 : ss.toInt < 192) : own_JJ ff.toInt ss.toInt := by
  rw [own_eq (n := 224) (by decide)] at h1; rw [own_eq (n := 237) (by decide)] at h2; rw [own_eq (n := 240) (by decide)] at h3; rw [own_eq (n := 244) (by decide)] at h4; unfold own_JJ; omega
/-- the run of a lead without a follower -/
theorem own_l1z (n : Int32) (lo hi : Int32) (h : (0 : Int32) < lo) (hn : 1 < n) : own_l1 n lo hi 0 0 0 = -1 := by
  have q : ¬ (1 : Int32) = n := fun e => by rw [← e] at hn; exact absurd hn (by decide)
  unfold own_l1 own_fin; rw [if_pos hn, if_pos h, if_neg q]
theorem own_run1 {x : Int32} (h : 128 ≤ x.toInt) : own_run x 0 0 0 = -1 := by
  unfold own_run own_r2 own_r3
  rw [if_neg (fun q => absurd ((own_lt (n := 128) (by decide)).mp q) (by omega))]
  rw [own_l1z 2 128 191 (by decide) (by decide), own_l1z 3 160 191 (by decide) (by decide), own_l1z 3 128 159 (by decide) (by decide), own_l1z 3 128 191 (by decide) (by decide), own_l1z 4 144 191 (by decide) (by decide), own_l1z 4 128 143 (by decide) (by decide), own_l1z 4 128 191 (by decide) (by decide)]
  simp only [ite_self]
theorem own_l1s {n lo hi s : Int32} (hn : 2 < n) (h1 : ¬ s < lo) (h2 : ¬ hi < s) : own_l1 n lo hi s 0 0 = -2 := by
  have q : ¬ (2 : Int32) = n := fun e => by rw [← e] at hn; exact absurd hn (by decide)
  have n1 : (1 : Int32) < n := by rw [own_gt (n := 2) (by decide)] at hn; rw [own_gt (n := 1) (by decide)]; omega
  unfold own_l1 own_l2 own_fin; rw [if_pos n1, if_neg h1, if_neg h2, if_pos hn, if_pos (by decide), if_neg q]
theorem own_l1t {lo hi s t : Int32} (h1 : ¬ s < lo) (h2 : ¬ hi < s) (h3 : ¬ t < 128) (h4 : ¬ 191 < t) : own_l1 4 lo hi s t 0 = -3 := by
  unfold own_l1 own_l2 own_l3 own_fin; rw [if_pos (by decide), if_neg h1, if_neg h2, if_pos (by decide), if_neg h3, if_neg h4, if_pos (by decide), if_pos (by decide), if_neg (by decide)]
theorem own_run2 {f s : Int32} (h1 : 224 ≤ f.toInt) (h2 : f.toInt ≤ 244) (J : own_JJ f.toInt s.toInt) : own_run f s 0 0 = -2 := by
  obtain ⟨j1, j2, j3, j4, j5, j6⟩ := J
  unfold own_run own_r2 own_r3
  simp only [own_lt (x := f) (k := 128) (n := 128) (by decide), own_lt (x := f) (k := 194) (n := 194) (by decide), own_gt (x := f) (k := 223) (n := 223) (by decide), own_lt (x := f) (k := 224) (n := 224) (by decide), own_gt (x := f) (k := 239) (n := 239) (by decide), own_eq (x := f) (k := 224) (n := 224) (by decide), own_eq (x := f) (k := 237) (n := 237) (by decide), own_lt (x := f) (k := 240) (n := 240) (by decide), own_gt (x := f) (k := 244) (n := 244) (by decide), own_eq (x := f) (k := 240) (n := 240) (by decide), own_eq (x := f) (k := 244) (n := 244) (by decide)]
  repeat' split
  all_goals first
    | (exfalso; omega)
    | (refine own_l1s (by decide) ?_ ?_
       · rw [Int32.lt_iff_toInt_lt]; first | (rw [show (160 : Int32).toInt = 160 by decide]; omega) | (rw [show (128 : Int32).toInt = 128 by decide]; omega) | (rw [show (144 : Int32).toInt = 144 by decide]; omega)
       · rw [Int32.lt_iff_toInt_lt]; first | (rw [show (191 : Int32).toInt = 191 by decide]; omega) | (rw [show (159 : Int32).toInt = 159 by decide]; omega) | (rw [show (143 : Int32).toInt = 143 by decide]; omega))
theorem own_run3 {f s t : Int32} (h1 : 240 ≤ f.toInt) (h2 : f.toInt ≤ 244) (J : own_JJ f.toInt s.toInt) (t1 : 128 ≤ t.toInt) (t2 : t.toInt ≤ 191) : own_run f s t 0 = -3 := by
  obtain ⟨j1, j2, j3, j4, j5, j6⟩ := J
  unfold own_run own_r2 own_r3
  simp only [own_lt (x := f) (k := 128) (n := 128) (by decide), own_lt (x := f) (k := 194) (n := 194) (by decide), own_gt (x := f) (k := 223) (n := 223) (by decide), own_lt (x := f) (k := 224) (n := 224) (by decide), own_gt (x := f) (k := 239) (n := 239) (by decide), own_eq (x := f) (k := 224) (n := 224) (by decide), own_eq (x := f) (k := 237) (n := 237) (by decide), own_lt (x := f) (k := 240) (n := 240) (by decide), own_gt (x := f) (k := 244) (n := 244) (by decide), own_eq (x := f) (k := 240) (n := 240) (by decide), own_eq (x := f) (k := 244) (n := 244) (by decide)]
  repeat' split
  all_goals first
    | (exfalso; omega)
    | (refine own_l1t ?_ ?_ ?_ ?_
       · rw [Int32.lt_iff_toInt_lt]; first | (rw [show (128 : Int32).toInt = 128 by decide]; omega) | (rw [show (144 : Int32).toInt = 144 by decide]; omega)
       · rw [Int32.lt_iff_toInt_lt]; first | (rw [show (191 : Int32).toInt = 191 by decide]; omega) | (rw [show (143 : Int32).toInt = 143 by decide]; omega)
       · rw [own_lt (n := 128) (by decide)]; omega
       · rw [own_gt (n := 191) (by decide)]; omega)
theorem own_x1 (a : Int32) : 128 ≤ ((128 : Int32) + (a &&& 127)).toInt ∧ ((128 : Int32) + (a &&& 127)).toInt ≤ 255 := by
  have e : (a &&& 127).toInt = a.toInt % 2 ^ 7 := Jvm.Kit.i32_mask a 127 (k := 7) (by decide) (by decide)
  have k : (128 : Int32).toInt = 128 := by decide
  rw [Jvm.Kit.i32_add (by omega) (by omega)]; omega
theorem own_x3 (a : Int32) : 128 ≤ ((128 : Int32) + (a &&& 63)).toInt ∧ ((128 : Int32) + (a &&& 63)).toInt ≤ 191 := by
  have e : (a &&& 63).toInt = a.toInt % 2 ^ 6 := Jvm.Kit.i32_mask a 63 (k := 6) (by decide) (by decide)
  have k : (128 : Int32).toInt = 128 := by decide
  rw [Jvm.Kit.i32_add (by omega) (by omega)]; omega
theorem own_z0 : ((0 : Int32) &&& 255) = 0 := by decide
theorem own_z1 : (nar .byte (0 : Int32) &&& 255) = 0 := by decide
theorem own_f1u (a : Int32) : ¬ ((nar .byte (((128 : Int32) + (a &&& 127)).toInt8.toInt32) &&& 255) < 128) := by
  have x := own_x1 a
  rw [own_u8 (by omega) (by omega), own_lt (n := 128) (by decide)]; omega
theorem own_f1r (a : Int32) : own_run (nar .byte (((128 : Int32) + (a &&& 127)).toInt8.toInt32) &&& 255) (nar .byte (0 : Int32) &&& 255) (0 &&& 255) (0 &&& 255) = -1 := by
  have x := own_x1 a
  rw [own_u8 (by omega) (by omega), own_z0, own_z1]; exact own_run1 x.1
theorem own_f1v (a b1 b2 : Int32) : own_bc (own_ca1 (nar .byte (((128 : Int32) + (a &&& 127)).toInt8.toInt32)) b1 b2) = 1 := by
  have x := own_x1 a
  have k : (1114112 : Int32).toInt = 1114112 := by decide
  unfold own_ca1
  rw [own_u8 (by omega) (by omega)]
  have e := own_m7 ((128 : Int32) + (a &&& 127)) (by omega)
  generalize (((128 : Int32) + (a &&& 127)) &&& 127) = z at e
  have hz : 0 ≤ z.toInt ∧ z.toInt < 128 := by omega
  rw [own_bcT (n := z.toInt) (by rw [Jvm.Kit.i32_add (by omega) (by omega), k]) (by omega) (by omega), if_pos hz.2]
theorem own_f2u {ff : Int32} (h1 : 224 ≤ ff.toInt) (h2 : ff.toInt ≤ 244) : ¬ ((nar .byte (ff.toInt8.toInt32) &&& 255) < 128) := by
  rw [own_u8 (by omega) (by omega), own_lt (n := 128) (by decide)]; omega
theorem own_f2r {ff ss : Int32} (h1 : 224 ≤ ff.toInt) (h2 : ff.toInt ≤ 244) (J : own_JJ ff.toInt ss.toInt) : own_run (nar .byte (ff.toInt8.toInt32) &&& 255) (nar .byte (ss.toInt8.toInt32) &&& 255) (0 &&& 255) (0 &&& 255) = -2 := by
  have j1 := J.1; have j2 := J.2.1
  rw [own_u8 (by omega) (by omega), own_u8 (by omega) (by omega), own_z0]; exact own_run2 h1 h2 J
theorem own_f3r {ff ss : Int32} (h1 : 240 ≤ ff.toInt) (h2 : ff.toInt ≤ 244) (J : own_JJ ff.toInt ss.toInt) (d : Int32) : own_run (nar .byte (ff.toInt8.toInt32) &&& 255) (nar .byte (ss.toInt8.toInt32) &&& 255) (nar .byte (((128 : Int32) + (d &&& 63)).toInt8.toInt32) &&& 255) (0 &&& 255) = -3 := by
  have j1 := J.1; have j2 := J.2.1; have x := own_x3 d
  rw [own_u8 (by omega) (by omega), own_u8 (by omega) (by omega), own_u8 (by omega) (by omega), own_z0]; exact own_run3 h1 h2 J x.1 x.2
theorem own_f2v {ff : Int32} (h1 : 224 ≤ ff.toInt) (h2 : ff.toInt ≤ 244) (b1 b2 : Int32) : own_bc (own_ca2 (nar .byte (ff.toInt8.toInt32)) b1 b2) = 2 := by
  have k : (1114112 : Int32).toInt = 1114112 := by decide
  unfold own_ca2
  rw [own_u8 (by omega) (by omega)]
  have e := own_m7 ff (by omega)
  have s := own_m6 b1
  generalize (ff &&& 127) = z at e ⊢
  have o := own_or (x := z) (y := b1 &&& 63) (by omega) (by omega) s.1 s.2
  generalize ((z <<< ((6 : Int32) &&& 31)) ||| (b1 &&& 63)) = w at o ⊢
  rw [own_bcT (n := w.toInt) (by rw [Jvm.Kit.i32_add (by omega) (by omega), k]) (by omega) (by omega), if_neg (by omega), if_pos (by omega)]
theorem own_f3v {ff : Int32} (h1 : 240 ≤ ff.toInt) (h2 : ff.toInt ≤ 244) (b1 b2 : Int32) : own_bc (own_ca3 (nar .byte (ff.toInt8.toInt32)) b1 b2) = 3 := by
  have k : (1114112 : Int32).toInt = 1114112 := by decide
  unfold own_ca3
  rw [own_u8 (by omega) (by omega)]
  have e := own_m7 ff (by omega)
  have s := own_m6 b1
  have s2 := own_m6 b2
  generalize (ff &&& 127) = z at e ⊢
  have o := own_or (x := z) (y := b1 &&& 63) (by omega) (by omega) s.1 s.2
  generalize ((z <<< ((6 : Int32) &&& 31)) ||| (b1 &&& 63)) = w at o ⊢
  have o2 := own_or (x := w) (y := b2 &&& 63) (by omega) (by omega) s2.1 s2.2
  generalize ((w <<< ((6 : Int32) &&& 31)) ||| (b2 &&& 63)) = w2 at o2 ⊢
  rw [own_bcT (n := w2.toInt) (by rw [Jvm.Kit.i32_add (by omega) (by omega), k]) (by omega) (by omega), if_neg (by omega), if_neg (by omega)]

theorem own_da0 : decode prog_316_method_5_code 0 = .ok (.iload_n 0, 1) := by decide +kernel
theorem own_da1 : decode prog_316_method_5_code 1 = .ok (.sipush 128, 3) := by decide +kernel
theorem own_da4 : decode prog_316_method_5_code 4 = .ok (.if_icmp .ge 5, 3) := by decide +kernel
theorem own_da7 : decode prog_316_method_5_code 7 = .ok (.iconst 1, 1) := by decide +kernel
theorem own_da8 : decode prog_316_method_5_code 8 = .ok (.ireturn, 1) := by decide +kernel
theorem own_da9 : decode prog_316_method_5_code 9 = .ok (.iload_n 0, 1) := by decide +kernel
theorem own_da10 : decode prog_316_method_5_code 10 = .ok (.sipush 2048, 3) := by decide +kernel
theorem own_da13 : decode prog_316_method_5_code 13 = .ok (.if_icmp .ge 5, 3) := by decide +kernel
theorem own_da16 : decode prog_316_method_5_code 16 = .ok (.iconst 2, 1) := by decide +kernel
theorem own_da17 : decode prog_316_method_5_code 17 = .ok (.ireturn, 1) := by decide +kernel
theorem own_da18 : decode prog_316_method_5_code 18 = .ok (.iload_n 0, 1) := by decide +kernel
theorem own_da19 : decode prog_316_method_5_code 19 = .ok (.ldc 70, 2) := by decide +kernel
theorem own_da21 : decode prog_316_method_5_code 21 = .ok (.if_icmp .ge 5, 3) := by decide +kernel
theorem own_da24 : decode prog_316_method_5_code 24 = .ok (.iconst 3, 1) := by decide +kernel
theorem own_da25 : decode prog_316_method_5_code 25 = .ok (.ireturn, 1) := by decide +kernel
theorem own_da26 : decode prog_316_method_5_code 26 = .ok (.iload_n 0, 1) := by decide +kernel
theorem own_da27 : decode prog_316_method_5_code 27 = .ok (.ldc 71, 2) := by decide +kernel
theorem own_da29 : decode prog_316_method_5_code 29 = .ok (.if_icmp .ge 5, 3) := by decide +kernel
theorem own_da32 : decode prog_316_method_5_code 32 = .ok (.iconst 4, 1) := by decide +kernel
theorem own_da33 : decode prog_316_method_5_code 33 = .ok (.ireturn, 1) := by decide +kernel
theorem own_da34 : decode prog_316_method_5_code 34 = .ok (.iload_n 0, 1) := by decide +kernel
theorem own_da35 : decode prog_316_method_5_code 35 = .ok (.ldc 71, 2) := by decide +kernel
theorem own_da37 : decode prog_316_method_5_code 37 = .ok (.isub, 1) := by decide +kernel
theorem own_da38 : decode prog_316_method_5_code 38 = .ok (.istore_n 1, 1) := by decide +kernel
theorem own_da39 : decode prog_316_method_5_code 39 = .ok (.iload_n 1, 1) := by decide +kernel
theorem own_da40 : decode prog_316_method_5_code 40 = .ok (.sipush 128, 3) := by decide +kernel
theorem own_da43 : decode prog_316_method_5_code 43 = .ok (.if_icmp .ge 7, 3) := by decide +kernel
theorem own_da46 : decode prog_316_method_5_code 46 = .ok (.iconst 1, 1) := by decide +kernel
theorem own_da47 : decode prog_316_method_5_code 47 = .ok (.goto 15, 3) := by decide +kernel
theorem own_da50 : decode prog_316_method_5_code 50 = .ok (.iload_n 1, 1) := by decide +kernel
theorem own_da51 : decode prog_316_method_5_code 51 = .ok (.sipush 8192, 3) := by decide +kernel
theorem own_da54 : decode prog_316_method_5_code 54 = .ok (.if_icmp .ge 7, 3) := by decide +kernel
theorem own_da57 : decode prog_316_method_5_code 57 = .ok (.iconst 2, 1) := by decide +kernel
theorem own_da58 : decode prog_316_method_5_code 58 = .ok (.goto 4, 3) := by decide +kernel
theorem own_da61 : decode prog_316_method_5_code 61 = .ok (.iconst 3, 1) := by decide +kernel
theorem own_da62 : decode prog_316_method_5_code 62 = .ok (.ireturn, 1) := by decide +kernel
theorem own_bct_pn : plainName "com/example/coersa/coersa/Utf8" = true := by first | (simp [plainName, overriddenIn]; done) | decide +kernel
theorem own_bct_ef (m : MethodId) (pp : Int32) : entryFrame m #[(.int pp)] 2 = mkF m 0 #[.val (.int pp), .unset] [] := by first | (simp [entryFrame, mkF, argsToLocals, Value.category]; done) | rfl
def own_bct_Q (Z : State) (pp : Int32) (h0 : Heap) (n0 : Nat) (v : Option Value) (h : Heap) (L : List Loc) : Prop := v = some (.int (own_bc pp)) ∧ Fr n0 L ∧ h = h0
set_option maxRecDepth 65536 in
set_option maxHeartbeats 40000000 in
theorem own_bct (l : Launch) (Z : State) (a0 : Array Value) (hw : ∀ d ∈ tables_1, d.before a0 Z = true) (ws : List Jvm.Cond) (pp : Int32) (h0 : Heap) (n0 : Nat) (Z0 : n0 ≤ h0.size) :
    MetFree l (⟨"com/example/coersa/coersa/Utf8", "byteCount", "(I)I"⟩ : MethodName) (head1 (Jvm.Cond.code (⟨"com/example/coersa/coersa/Utf8", "byteCount", "(I)I"⟩ : MethodName) prog_316_method_5_code 2 (some .int) :: ws) ({ frames := 0, cells := 0, slots := 0, locals := 0 } : Room)) (fun ars U => ars = #[(.int pp)] ∧ Z.Warmed39 U.vm ∧ U.heap = h0) (fun _ _ _ _ _ => True) (fun _ U o U' => ∃ v L, o = .returned v ∧ own_bct_Q Z pp  h0 n0 v U'.heap L ∧ FrameEnd U o U' L ({ frames := 0, cells := 0, slots := 0, locals := 0 } : Room).cells ({ frames := 0, cells := 0, slots := 0, locals := 0 } : Room).slots) := by
  refine MetFree.of_bodySF (plainFor_of_name own_bct_pn) hisR ?_
  intro p e s m args below meth c s₁ Bd hml0 hP hK
  obtain ⟨rfl, hZ, hh⟩ := hP
  have hx := Bd.exec
  have hby := Bd.bytes
  have hml : c.maxLocals = 2 := hml0
  have hown : s.vm.findClass "com/example/coersa/coersa/Utf8" = some m.cls := findClass_of_methodNamed Bd.named
  have hnm := (name_of_methodNamed Bd.named Bd.method).1
  have X0 : Stand p l e ({ frames := 0, cells := 0, slots := 0, locals := 0 } : Room) s m #[(.int pp)] below meth c s₁ [] 0 0 := Stand.of_body Bd
  have e0 : s₁.heap = h0 := by rw [← hh, Bd.state]; rfl
  have N0 := Fr.nil n0
  generalize hS0 : s₁.setTop (entryFrame m #[(.int pp)] 2) = S0
  have c0 : Steps p.tables e below S0 (s₁.setTop (mkF m 0 #[.val (.int pp), .unset] [])) := by rw [← hS0]; exact castTop (own_bct_ef m pp) (Steps.refl _)
  have c1 : Steps p.tables e below S0 (s₁.setTop (mkF m 4 #[.val (.int pp), .unset] [(.int (128 : Int32)), (.int pp)])) := c0.trans (by
    refine XS.iloadN X0.here hx rfl (hb hby own_da0) rfl ?_
    show Steps p.tables e below (s₁.setTop (mkF m 1 #[.val (.int pp), .unset] [(.int pp)])) _
    refine XS.sipush X0.here hx rfl (hb hby own_da1) ?_
    exact Steps.refl _)
  by_cases hb4 : pp < (128 : Int32)
  · have c2 : Steps p.tables e below S0 (s₁.setTop (mkF m 7 #[.val (.int pp), .unset] [])) := c1.trans (by
      refine XS.icmpNo X0.here hx rfl (hb hby own_da4) rfl (tlt hb4).2.1 ?_
      exact Steps.refl _)
    have c3 : Steps p.tables e below S0 (s₁.setTop (mkF m 8 #[.val (.int pp), .unset] [(.int (1 : Int32))])) := c2.trans (by
      refine XS.iconst X0.here hx rfl (hb hby own_da7) ?_
      exact Steps.refl _)
    obtain ⟨fs, hr, hrun, hended, hW, hsame⟩ := X0.leave (v := some (.int (1 : Int32))) (fun h => by rw [Bd.returns] at h; cases h)
    exact ⟨_, _, c3.trans (retOut X0 hx (t := .int) (i := .ireturn) Bd.returns rfl (Or.inl ⟨rfl, Or.inl rfl, _, rfl⟩) (hb hby own_da8) hr), hrun, hended, _, _, rfl, ⟨by simp [own_bc, hb4], N0, e0⟩, ⟨_, rfl⟩, hW, hsame.mono (by decide) (by decide)⟩
  · have c4 : Steps p.tables e below S0 (s₁.setTop (mkF m 9 #[.val (.int pp), .unset] [])) := c1.trans (by
      refine XS.icmpYes X0.here hx rfl (pc0 := 4) (pc' := 9) rfl (hb hby own_da4) rfl (flt hb4).2.1 (by decide) (by decide) ?_
      exact Steps.refl _)
    have c5 : Steps p.tables e below S0 (s₁.setTop (mkF m 13 #[.val (.int pp), .unset] [(.int (2048 : Int32)), (.int pp)])) := c4.trans (by
      refine XS.iloadN X0.here hx rfl (hb hby own_da9) rfl ?_
      show Steps p.tables e below (s₁.setTop (mkF m 10 #[.val (.int pp), .unset] [(.int pp)])) _
      refine XS.sipush X0.here hx rfl (hb hby own_da10) ?_
      exact Steps.refl _)
    by_cases hb13 : pp < (2048 : Int32)
    · have c6 : Steps p.tables e below S0 (s₁.setTop (mkF m 16 #[.val (.int pp), .unset] [])) := c5.trans (by
        refine XS.icmpNo X0.here hx rfl (hb hby own_da13) rfl (tlt hb13).2.1 ?_
        exact Steps.refl _)
      have c7 : Steps p.tables e below S0 (s₁.setTop (mkF m 17 #[.val (.int pp), .unset] [(.int (2 : Int32))])) := c6.trans (by
        refine XS.iconst X0.here hx rfl (hb hby own_da16) ?_
        exact Steps.refl _)
      obtain ⟨fs, hr, hrun, hended, hW, hsame⟩ := X0.leave (v := some (.int (2 : Int32))) (fun h => by rw [Bd.returns] at h; cases h)
      exact ⟨_, _, c7.trans (retOut X0 hx (t := .int) (i := .ireturn) Bd.returns rfl (Or.inl ⟨rfl, Or.inl rfl, _, rfl⟩) (hb hby own_da17) hr), hrun, hended, _, _, rfl, ⟨by simp [own_bc, hb4, hb13], N0, e0⟩, ⟨_, rfl⟩, hW, hsame.mono (by decide) (by decide)⟩
    · have c8 : Steps p.tables e below S0 (s₁.setTop (mkF m 18 #[.val (.int pp), .unset] [])) := c5.trans (by
        refine XS.icmpYes X0.here hx rfl (pc0 := 13) (pc' := 18) rfl (hb hby own_da13) rfl (flt hb13).2.1 (by decide) (by decide) ?_
        exact Steps.refl _)
      have c9 : Steps p.tables e below S0 (s₁.setTop (mkF m 21 #[.val (.int pp), .unset] [(.int (65536 : Int32)), (.int pp)])) := c8.trans (by
        refine XS.iloadN X0.here hx rfl (hb hby own_da18) rfl ?_
        show Steps p.tables e below (s₁.setTop (mkF m 19 #[.val (.int pp), .unset] [(.int pp)])) _
        refine X0.ldcInt hx hown (mvT hZ (hw _ (List.mem_of_getElem? (i := 17) rfl))) (g := (mkF m 19 #[.val (.int pp), .unset] [(.int pp)])) rfl (hb hby own_da19) _ ?_
        exact Steps.refl _)
      by_cases hb21 : pp < (65536 : Int32)
      · have c10 : Steps p.tables e below S0 (s₁.setTop (mkF m 24 #[.val (.int pp), .unset] [])) := c9.trans (by
          refine XS.icmpNo X0.here hx rfl (hb hby own_da21) rfl (tlt hb21).2.1 ?_
          exact Steps.refl _)
        have c11 : Steps p.tables e below S0 (s₁.setTop (mkF m 25 #[.val (.int pp), .unset] [(.int (3 : Int32))])) := c10.trans (by
          refine XS.iconst X0.here hx rfl (hb hby own_da24) ?_
          exact Steps.refl _)
        obtain ⟨fs, hr, hrun, hended, hW, hsame⟩ := X0.leave (v := some (.int (3 : Int32))) (fun h => by rw [Bd.returns] at h; cases h)
        exact ⟨_, _, c11.trans (retOut X0 hx (t := .int) (i := .ireturn) Bd.returns rfl (Or.inl ⟨rfl, Or.inl rfl, _, rfl⟩) (hb hby own_da25) hr), hrun, hended, _, _, rfl, ⟨by simp [own_bc, hb4, hb13, hb21], N0, e0⟩, ⟨_, rfl⟩, hW, hsame.mono (by decide) (by decide)⟩
      · have c12 : Steps p.tables e below S0 (s₁.setTop (mkF m 26 #[.val (.int pp), .unset] [])) := c9.trans (by
          refine XS.icmpYes X0.here hx rfl (pc0 := 21) (pc' := 26) rfl (hb hby own_da21) rfl (flt hb21).2.1 (by decide) (by decide) ?_
          exact Steps.refl _)
        have c13 : Steps p.tables e below S0 (s₁.setTop (mkF m 29 #[.val (.int pp), .unset] [(.int (1114112 : Int32)), (.int pp)])) := c12.trans (by
          refine XS.iloadN X0.here hx rfl (hb hby own_da26) rfl ?_
          show Steps p.tables e below (s₁.setTop (mkF m 27 #[.val (.int pp), .unset] [(.int pp)])) _
          refine X0.ldcInt hx hown (mvT hZ (hw _ (List.mem_of_getElem? (i := 16) rfl))) (g := (mkF m 27 #[.val (.int pp), .unset] [(.int pp)])) rfl (hb hby own_da27) _ ?_
          exact Steps.refl _)
        by_cases hb29 : pp < (1114112 : Int32)
        · have c14 : Steps p.tables e below S0 (s₁.setTop (mkF m 32 #[.val (.int pp), .unset] [])) := c13.trans (by
            refine XS.icmpNo X0.here hx rfl (hb hby own_da29) rfl (tlt hb29).2.1 ?_
            exact Steps.refl _)
          have c15 : Steps p.tables e below S0 (s₁.setTop (mkF m 33 #[.val (.int pp), .unset] [(.int (4 : Int32))])) := c14.trans (by
            refine XS.iconst X0.here hx rfl (hb hby own_da32) ?_
            exact Steps.refl _)
          obtain ⟨fs, hr, hrun, hended, hW, hsame⟩ := X0.leave (v := some (.int (4 : Int32))) (fun h => by rw [Bd.returns] at h; cases h)
          exact ⟨_, _, c15.trans (retOut X0 hx (t := .int) (i := .ireturn) Bd.returns rfl (Or.inl ⟨rfl, Or.inl rfl, _, rfl⟩) (hb hby own_da33) hr), hrun, hended, _, _, rfl, ⟨by simp [own_bc, hb4, hb13, hb21, hb29], N0, e0⟩, ⟨_, rfl⟩, hW, hsame.mono (by decide) (by decide)⟩
        · have c16 : Steps p.tables e below S0 (s₁.setTop (mkF m 34 #[.val (.int pp), .unset] [])) := c13.trans (by
            refine XS.icmpYes X0.here hx rfl (pc0 := 29) (pc' := 34) rfl (hb hby own_da29) rfl (flt hb29).2.1 (by decide) (by decide) ?_
            exact Steps.refl _)
          have c17 : Steps p.tables e below S0 (s₁.setTop (mkF m 43 #[.val (.int pp), .val (.int (pp - (1114112 : Int32)))] [(.int (128 : Int32)), (.int (pp - (1114112 : Int32)))])) := c16.trans (by
            refine XS.iloadN X0.here hx rfl (hb hby own_da34) rfl ?_
            show Steps p.tables e below (s₁.setTop (mkF m 35 #[.val (.int pp), .unset] [(.int pp)])) _
            refine X0.ldcInt hx hown (mvT hZ (hw _ (List.mem_of_getElem? (i := 16) rfl))) (g := (mkF m 35 #[.val (.int pp), .unset] [(.int pp)])) rfl (hb hby own_da35) _ ?_
            show Steps p.tables e below (s₁.setTop (mkF m 37 #[.val (.int pp), .unset] [(.int (1114112 : Int32)), (.int pp)])) _
            refine XS.isub X0.here hx rfl (hb hby own_da37) rfl ?_
            show Steps p.tables e below (s₁.setTop (mkF m 38 #[.val (.int pp), .unset] [(.int (pp - (1114112 : Int32)))])) _
            refine XS.istoreN X0.here hx rfl (hb hby own_da38) rfl (l' := #[.val (.int pp), .val (.int (pp - (1114112 : Int32)))]) rfl ?_
            show Steps p.tables e below (s₁.setTop (mkF m 39 #[.val (.int pp), .val (.int (pp - (1114112 : Int32)))] [])) _
            refine XS.iloadN X0.here hx rfl (hb hby own_da39) rfl ?_
            show Steps p.tables e below (s₁.setTop (mkF m 40 #[.val (.int pp), .val (.int (pp - (1114112 : Int32)))] [(.int (pp - (1114112 : Int32)))])) _
            refine XS.sipush X0.here hx rfl (hb hby own_da40) ?_
            exact Steps.refl _)
          by_cases hb43 : (pp - (1114112 : Int32)) < (128 : Int32)
          · have c18 : Steps p.tables e below S0 (s₁.setTop (mkF m 46 #[.val (.int pp), .val (.int (pp - (1114112 : Int32)))] [])) := c17.trans (by
              refine XS.icmpNo X0.here hx rfl (hb hby own_da43) rfl (tlt hb43).2.1 ?_
              exact Steps.refl _)
            have c19 : Steps p.tables e below S0 (s₁.setTop (mkF m 62 #[.val (.int pp), .val (.int (pp - (1114112 : Int32)))] [(.int (1 : Int32))])) := c18.trans (by
              refine XS.iconst X0.here hx rfl (hb hby own_da46) ?_
              show Steps p.tables e below (s₁.setTop (mkF m 47 #[.val (.int pp), .val (.int (pp - (1114112 : Int32)))] [(.int (1 : Int32))])) _
              refine XS.goto X0.here hx rfl (pc0 := 47) (pc' := 62) rfl (hb hby own_da47) (by decide) (by decide) ?_
              exact Steps.refl _)
            obtain ⟨fs, hr, hrun, hended, hW, hsame⟩ := X0.leave (v := some (.int (1 : Int32))) (fun h => by rw [Bd.returns] at h; cases h)
            exact ⟨_, _, c19.trans (retOut X0 hx (t := .int) (i := .ireturn) Bd.returns rfl (Or.inl ⟨rfl, Or.inl rfl, _, rfl⟩) (hb hby own_da62) hr), hrun, hended, _, _, rfl, ⟨by simp [own_bc, hb4, hb13, hb21, hb29, hb43], N0, e0⟩, ⟨_, rfl⟩, hW, hsame.mono (by decide) (by decide)⟩
          · have c20 : Steps p.tables e below S0 (s₁.setTop (mkF m 50 #[.val (.int pp), .val (.int (pp - (1114112 : Int32)))] [])) := c17.trans (by
              refine XS.icmpYes X0.here hx rfl (pc0 := 43) (pc' := 50) rfl (hb hby own_da43) rfl (flt hb43).2.1 (by decide) (by decide) ?_
              exact Steps.refl _)
            have c21 : Steps p.tables e below S0 (s₁.setTop (mkF m 54 #[.val (.int pp), .val (.int (pp - (1114112 : Int32)))] [(.int (8192 : Int32)), (.int (pp - (1114112 : Int32)))])) := c20.trans (by
              refine XS.iloadN X0.here hx rfl (hb hby own_da50) rfl ?_
              show Steps p.tables e below (s₁.setTop (mkF m 51 #[.val (.int pp), .val (.int (pp - (1114112 : Int32)))] [(.int (pp - (1114112 : Int32)))])) _
              refine XS.sipush X0.here hx rfl (hb hby own_da51) ?_
              exact Steps.refl _)
            by_cases hb54 : (pp - (1114112 : Int32)) < (8192 : Int32)
            · have c22 : Steps p.tables e below S0 (s₁.setTop (mkF m 57 #[.val (.int pp), .val (.int (pp - (1114112 : Int32)))] [])) := c21.trans (by
                refine XS.icmpNo X0.here hx rfl (hb hby own_da54) rfl (tlt hb54).2.1 ?_
                exact Steps.refl _)
              have c23 : Steps p.tables e below S0 (s₁.setTop (mkF m 62 #[.val (.int pp), .val (.int (pp - (1114112 : Int32)))] [(.int (2 : Int32))])) := c22.trans (by
                refine XS.iconst X0.here hx rfl (hb hby own_da57) ?_
                show Steps p.tables e below (s₁.setTop (mkF m 58 #[.val (.int pp), .val (.int (pp - (1114112 : Int32)))] [(.int (2 : Int32))])) _
                refine XS.goto X0.here hx rfl (pc0 := 58) (pc' := 62) rfl (hb hby own_da58) (by decide) (by decide) ?_
                exact Steps.refl _)
              obtain ⟨fs, hr, hrun, hended, hW, hsame⟩ := X0.leave (v := some (.int (2 : Int32))) (fun h => by rw [Bd.returns] at h; cases h)
              exact ⟨_, _, c23.trans (retOut X0 hx (t := .int) (i := .ireturn) Bd.returns rfl (Or.inl ⟨rfl, Or.inl rfl, _, rfl⟩) (hb hby own_da62) hr), hrun, hended, _, _, rfl, ⟨by simp [own_bc, hb4, hb13, hb21, hb29, hb43, hb54], N0, e0⟩, ⟨_, rfl⟩, hW, hsame.mono (by decide) (by decide)⟩
            · have c24 : Steps p.tables e below S0 (s₁.setTop (mkF m 61 #[.val (.int pp), .val (.int (pp - (1114112 : Int32)))] [])) := c21.trans (by
                refine XS.icmpYes X0.here hx rfl (pc0 := 54) (pc' := 61) rfl (hb hby own_da54) rfl (flt hb54).2.1 (by decide) (by decide) ?_
                exact Steps.refl _)
              have c25 : Steps p.tables e below S0 (s₁.setTop (mkF m 62 #[.val (.int pp), .val (.int (pp - (1114112 : Int32)))] [(.int (3 : Int32))])) := c24.trans (by
                refine XS.iconst X0.here hx rfl (hb hby own_da61) ?_
                exact Steps.refl _)
              obtain ⟨fs, hr, hrun, hended, hW, hsame⟩ := X0.leave (v := some (.int (3 : Int32))) (fun h => by rw [Bd.returns] at h; cases h)
              exact ⟨_, _, c25.trans (retOut X0 hx (t := .int) (i := .ireturn) Bd.returns rfl (Or.inl ⟨rfl, Or.inl rfl, _, rfl⟩) (hb hby own_da62) hr), hrun, hended, _, _, rfl, ⟨by simp [own_bc, hb4, hb13, hb21, hb29, hb43, hb54], N0, e0⟩, ⟨_, rfl⟩, hW, hsame.mono (by decide) (by decide)⟩
theorem own_db0 : decode jdk_29_method_59_code 0 = .ok (.iload_n 0, 1) := by decide +kernel
theorem own_db1 : decode jdk_29_method_59_code 1 = .ok (.ifCond .ge 8, 3) := by decide +kernel
theorem own_db4 : decode jdk_29_method_59_code 4 = .ok (.iload_n 0, 1) := by decide +kernel
theorem own_db5 : decode jdk_29_method_59_code 5 = .ok (.ineg, 1) := by decide +kernel
theorem own_db6 : decode jdk_29_method_59_code 6 = .ok (.goto 4, 3) := by decide +kernel
theorem own_db9 : decode jdk_29_method_59_code 9 = .ok (.iload_n 0, 1) := by decide +kernel
theorem own_db10 : decode jdk_29_method_59_code 10 = .ok (.ireturn, 1) := by decide +kernel
theorem own_absm_ef (m : MethodId) (pp : Int32) : entryFrame m #[(.int pp)] 1 = mkF m 0 #[.val (.int pp)] [] := by first | (simp [entryFrame, mkF, argsToLocals, Value.category]; done) | rfl
def own_absm_Q (Z : State) (pp : Int32) (h0 : Heap) (n0 : Nat) (v : Option Value) (h : Heap) (L : List Loc) : Prop := v = some (.int (own_abs pp)) ∧ Fr n0 L ∧ h = h0
set_option maxRecDepth 65536 in
set_option maxHeartbeats 40000000 in
theorem own_absm (l : Launch) (Z : State) (a0 : Array Value) (hw : ∀ d ∈ tables_1, d.before a0 Z = true) (ws : List Jvm.Cond) (pp : Int32) (h0 : Heap) (n0 : Nat) (Z0 : n0 ≤ h0.size) :
    MetFree l (⟨"java/lang/Math", "abs", "(I)I"⟩ : MethodName) (head1 (Jvm.Cond.code (⟨"java/lang/Math", "abs", "(I)I"⟩ : MethodName) jdk_29_method_59_code 1 (some .int) :: ws) ({ frames := 0, cells := 0, slots := 0, locals := 0 } : Room)) (fun ars U => ars = #[(.int pp)] ∧ Z.Warmed39 U.vm ∧ U.heap = h0) (fun _ _ _ _ _ => True) (fun _ U o U' => ∃ v L, o = .returned v ∧ own_absm_Q Z pp  h0 n0 v U'.heap L ∧ FrameEnd U o U' L ({ frames := 0, cells := 0, slots := 0, locals := 0 } : Room).cells ({ frames := 0, cells := 0, slots := 0, locals := 0 } : Room).slots) := by
  refine MetFree.of_bodySF (Jvm.Free.JP.mathPlain rfl (by decide +kernel)) hisR ?_
  intro p e s m args below meth c s₁ Bd hml0 hP hK
  obtain ⟨rfl, hZ, hh⟩ := hP
  have hx := Bd.exec
  have hby := Bd.bytes
  have hml : c.maxLocals = 1 := hml0
  have hown : s.vm.findClass "java/lang/Math" = some m.cls := findClass_of_methodNamed Bd.named
  have hnm := (name_of_methodNamed Bd.named Bd.method).1
  have X0 : Stand p l e ({ frames := 0, cells := 0, slots := 0, locals := 0 } : Room) s m #[(.int pp)] below meth c s₁ [] 0 0 := Stand.of_body Bd
  have e0 : s₁.heap = h0 := by rw [← hh, Bd.state]; rfl
  have N0 := Fr.nil n0
  generalize hS0 : s₁.setTop (entryFrame m #[(.int pp)] 1) = S0
  have c0 : Steps p.tables e below S0 (s₁.setTop (mkF m 0 #[.val (.int pp)] [])) := by rw [← hS0]; exact castTop (own_absm_ef m pp) (Steps.refl _)
  have c1 : Steps p.tables e below S0 (s₁.setTop (mkF m 1 #[.val (.int pp)] [(.int pp)])) := c0.trans (by
    refine XS.iloadN X0.here hx rfl (hb hby own_db0) rfl ?_
    exact Steps.refl _)
  by_cases hb1 : pp < (0 : Int32)
  · have c2 : Steps p.tables e below S0 (s₁.setTop (mkF m 4 #[.val (.int pp)] [])) := c1.trans (by
      refine XS.ifNo X0.here hx rfl (hb hby own_db1) rfl ((if0 _ _).trans (tlt hb1).2.1) ?_
      exact Steps.refl _)
    have c3 : Steps p.tables e below S0 (s₁.setTop (mkF m 10 #[.val (.int pp)] [(.int (-pp))])) := c2.trans (by
      refine XS.iloadN X0.here hx rfl (hb hby own_db4) rfl ?_
      show Steps p.tables e below (s₁.setTop (mkF m 5 #[.val (.int pp)] [(.int pp)])) _
      refine XS.ineg X0.here hx rfl (hb hby own_db5) rfl ?_
      show Steps p.tables e below (s₁.setTop (mkF m 6 #[.val (.int pp)] [(.int (-pp))])) _
      refine XS.goto X0.here hx rfl (pc0 := 6) (pc' := 10) rfl (hb hby own_db6) (by decide) (by decide) ?_
      exact Steps.refl _)
    obtain ⟨fs, hr, hrun, hended, hW, hsame⟩ := X0.leave (v := some (.int (-pp))) (fun h => by rw [Bd.returns] at h; cases h)
    exact ⟨_, _, c3.trans (retOut X0 hx (t := .int) (i := .ireturn) Bd.returns rfl (Or.inl ⟨rfl, Or.inl rfl, _, rfl⟩) (hb hby own_db10) hr), hrun, hended, _, _, rfl, ⟨by simp [own_abs, hb1], N0, e0⟩, ⟨_, rfl⟩, hW, hsame.mono (by decide) (by decide)⟩
  · have c4 : Steps p.tables e below S0 (s₁.setTop (mkF m 9 #[.val (.int pp)] [])) := c1.trans (by
      refine XS.ifYes X0.here hx rfl (pc0 := 1) (pc' := 9) rfl (hb hby own_db1) rfl ((if0 _ _).trans (flt hb1).2.1) (by decide) (by decide) ?_
      exact Steps.refl _)
    have c5 : Steps p.tables e below S0 (s₁.setTop (mkF m 10 #[.val (.int pp)] [(.int pp)])) := c4.trans (by
      refine XS.iloadN X0.here hx rfl (hb hby own_db9) rfl ?_
      exact Steps.refl _)
    obtain ⟨fs, hr, hrun, hended, hW, hsame⟩ := X0.leave (v := some (.int pp)) (fun h => by rw [Bd.returns] at h; cases h)
    exact ⟨_, _, c5.trans (retOut X0 hx (t := .int) (i := .ireturn) Bd.returns rfl (Or.inl ⟨rfl, Or.inl rfl, _, rfl⟩) (hb hby own_db10) hr), hrun, hended, _, _, rfl, ⟨by simp [own_abs, hb1], N0, e0⟩, ⟨_, rfl⟩, hW, hsame.mono (by decide) (by decide)⟩
theorem own_dc0 : decode prog_316_method_12_code 0 = .ok (.aload_n 0, 1) := by decide +kernel
theorem own_dc1 : decode prog_316_method_12_code 1 = .ok (.iload_n 1, 1) := by decide +kernel
theorem own_dc2 : decode prog_316_method_12_code 2 = .ok (.baload, 1) := by decide +kernel
theorem own_dc3 : decode prog_316_method_12_code 3 = .ok (.sipush 255, 3) := by decide +kernel
theorem own_dc6 : decode prog_316_method_12_code 6 = .ok (.iand, 1) := by decide +kernel
theorem own_dc7 : decode prog_316_method_12_code 7 = .ok (.istore_n 2, 1) := by decide +kernel
theorem own_dc8 : decode prog_316_method_12_code 8 = .ok (.iload_n 2, 1) := by decide +kernel
theorem own_dc9 : decode prog_316_method_12_code 9 = .ok (.sipush 128, 3) := by decide +kernel
theorem own_dc12 : decode prog_316_method_12_code 12 = .ok (.if_icmp .ge 5, 3) := by decide +kernel
theorem own_dc15 : decode prog_316_method_12_code 15 = .ok (.iconst 1, 1) := by decide +kernel
theorem own_dc16 : decode prog_316_method_12_code 16 = .ok (.ireturn, 1) := by decide +kernel
theorem own_dc17 : decode prog_316_method_12_code 17 = .ok (.sipush 128, 3) := by decide +kernel
theorem own_dc20 : decode prog_316_method_12_code 20 = .ok (.istore 4, 2) := by decide +kernel
theorem own_dc22 : decode prog_316_method_12_code 22 = .ok (.sipush 191, 3) := by decide +kernel
theorem own_dc25 : decode prog_316_method_12_code 25 = .ok (.istore 5, 2) := by decide +kernel
theorem own_dc27 : decode prog_316_method_12_code 27 = .ok (.iload_n 2, 1) := by decide +kernel
theorem own_dc28 : decode prog_316_method_12_code 28 = .ok (.sipush 194, 3) := by decide +kernel
theorem own_dc31 : decode prog_316_method_12_code 31 = .ok (.if_icmp .lt 15, 3) := by decide +kernel
theorem own_dc34 : decode prog_316_method_12_code 34 = .ok (.iload_n 2, 1) := by decide +kernel
theorem own_dc35 : decode prog_316_method_12_code 35 = .ok (.sipush 223, 3) := by decide +kernel
theorem own_dc38 : decode prog_316_method_12_code 38 = .ok (.if_icmp .gt 8, 3) := by decide +kernel
theorem own_dc41 : decode prog_316_method_12_code 41 = .ok (.iconst 2, 1) := by decide +kernel
theorem own_dc42 : decode prog_316_method_12_code 42 = .ok (.istore_n 3, 1) := by decide +kernel
theorem own_dc43 : decode prog_316_method_12_code 43 = .ok (.goto 97, 3) := by decide +kernel
theorem own_dc46 : decode prog_316_method_12_code 46 = .ok (.iload_n 2, 1) := by decide +kernel
theorem own_dc47 : decode prog_316_method_12_code 47 = .ok (.sipush 224, 3) := by decide +kernel
theorem own_dc50 : decode prog_316_method_12_code 50 = .ok (.if_icmp .lt 42, 3) := by decide +kernel
theorem own_dc53 : decode prog_316_method_12_code 53 = .ok (.iload_n 2, 1) := by decide +kernel
theorem own_dc54 : decode prog_316_method_12_code 54 = .ok (.sipush 239, 3) := by decide +kernel
theorem own_dc57 : decode prog_316_method_12_code 57 = .ok (.if_icmp .gt 35, 3) := by decide +kernel
theorem own_dc60 : decode prog_316_method_12_code 60 = .ok (.iconst 3, 1) := by decide +kernel
theorem own_dc61 : decode prog_316_method_12_code 61 = .ok (.istore_n 3, 1) := by decide +kernel
theorem own_dc62 : decode prog_316_method_12_code 62 = .ok (.iload_n 2, 1) := by decide +kernel
theorem own_dc63 : decode prog_316_method_12_code 63 = .ok (.sipush 224, 3) := by decide +kernel
theorem own_dc66 : decode prog_316_method_12_code 66 = .ok (.if_icmp .ne 11, 3) := by decide +kernel
theorem own_dc69 : decode prog_316_method_12_code 69 = .ok (.sipush 160, 3) := by decide +kernel
theorem own_dc72 : decode prog_316_method_12_code 72 = .ok (.istore 4, 2) := by decide +kernel
theorem own_dc74 : decode prog_316_method_12_code 74 = .ok (.goto 66, 3) := by decide +kernel
theorem own_dc77 : decode prog_316_method_12_code 77 = .ok (.iload_n 2, 1) := by decide +kernel
theorem own_dc78 : decode prog_316_method_12_code 78 = .ok (.sipush 237, 3) := by decide +kernel
theorem own_dc81 : decode prog_316_method_12_code 81 = .ok (.if_icmp .ne 59, 3) := by decide +kernel
theorem own_dc84 : decode prog_316_method_12_code 84 = .ok (.sipush 159, 3) := by decide +kernel
theorem own_dc87 : decode prog_316_method_12_code 87 = .ok (.istore 5, 2) := by decide +kernel
theorem own_dc89 : decode prog_316_method_12_code 89 = .ok (.goto 51, 3) := by decide +kernel
theorem own_dc92 : decode prog_316_method_12_code 92 = .ok (.iload_n 2, 1) := by decide +kernel
theorem own_dc93 : decode prog_316_method_12_code 93 = .ok (.sipush 240, 3) := by decide +kernel
theorem own_dc96 : decode prog_316_method_12_code 96 = .ok (.if_icmp .lt 42, 3) := by decide +kernel
theorem own_dc99 : decode prog_316_method_12_code 99 = .ok (.iload_n 2, 1) := by decide +kernel
theorem own_dc100 : decode prog_316_method_12_code 100 = .ok (.sipush 244, 3) := by decide +kernel
theorem own_dc103 : decode prog_316_method_12_code 103 = .ok (.if_icmp .gt 35, 3) := by decide +kernel
theorem own_dc106 : decode prog_316_method_12_code 106 = .ok (.iconst 4, 1) := by decide +kernel
theorem own_dc107 : decode prog_316_method_12_code 107 = .ok (.istore_n 3, 1) := by decide +kernel
theorem own_dc108 : decode prog_316_method_12_code 108 = .ok (.iload_n 2, 1) := by decide +kernel
theorem own_dc109 : decode prog_316_method_12_code 109 = .ok (.sipush 240, 3) := by decide +kernel
theorem own_dc112 : decode prog_316_method_12_code 112 = .ok (.if_icmp .ne 11, 3) := by decide +kernel
theorem own_dc115 : decode prog_316_method_12_code 115 = .ok (.sipush 144, 3) := by decide +kernel
theorem own_dc118 : decode prog_316_method_12_code 118 = .ok (.istore 4, 2) := by decide +kernel
theorem own_dc120 : decode prog_316_method_12_code 120 = .ok (.goto 20, 3) := by decide +kernel
theorem own_dc123 : decode prog_316_method_12_code 123 = .ok (.iload_n 2, 1) := by decide +kernel
theorem own_dc124 : decode prog_316_method_12_code 124 = .ok (.sipush 244, 3) := by decide +kernel
theorem own_dc127 : decode prog_316_method_12_code 127 = .ok (.if_icmp .ne 13, 3) := by decide +kernel
theorem own_dc130 : decode prog_316_method_12_code 130 = .ok (.sipush 143, 3) := by decide +kernel
theorem own_dc133 : decode prog_316_method_12_code 133 = .ok (.istore 5, 2) := by decide +kernel
theorem own_dc135 : decode prog_316_method_12_code 135 = .ok (.goto 5, 3) := by decide +kernel
theorem own_dc138 : decode prog_316_method_12_code 138 = .ok (.iconst (-1), 1) := by decide +kernel
theorem own_dc139 : decode prog_316_method_12_code 139 = .ok (.ireturn, 1) := by decide +kernel
theorem own_dc140 : decode prog_316_method_12_code 140 = .ok (.iconst 1, 1) := by decide +kernel
theorem own_dc141 : decode prog_316_method_12_code 141 = .ok (.istore 6, 2) := by decide +kernel
theorem own_dc143 : decode prog_316_method_12_code 143 = .ok (.iload 6, 2) := by decide +kernel
theorem own_dc145 : decode prog_316_method_12_code 145 = .ok (.iload_n 3, 1) := by decide +kernel
theorem own_dc146 : decode prog_316_method_12_code 146 = .ok (.if_icmp .ge 57, 3) := by decide +kernel
theorem own_dc149 : decode prog_316_method_12_code 149 = .ok (.iload_n 1, 1) := by decide +kernel
theorem own_dc150 : decode prog_316_method_12_code 150 = .ok (.iload 6, 2) := by decide +kernel
theorem own_dc152 : decode prog_316_method_12_code 152 = .ok (.iadd, 1) := by decide +kernel
theorem own_dc153 : decode prog_316_method_12_code 153 = .ok (.aload_n 0, 1) := by decide +kernel
theorem own_dc154 : decode prog_316_method_12_code 154 = .ok (.arraylength, 1) := by decide +kernel
theorem own_dc155 : decode prog_316_method_12_code 155 = .ok (.if_icmp .ge 48, 3) := by decide +kernel
theorem own_dc158 : decode prog_316_method_12_code 158 = .ok (.aload_n 0, 1) := by decide +kernel
theorem own_dc159 : decode prog_316_method_12_code 159 = .ok (.iload_n 1, 1) := by decide +kernel
theorem own_dc160 : decode prog_316_method_12_code 160 = .ok (.iload 6, 2) := by decide +kernel
theorem own_dc162 : decode prog_316_method_12_code 162 = .ok (.iadd, 1) := by decide +kernel
theorem own_dc163 : decode prog_316_method_12_code 163 = .ok (.baload, 1) := by decide +kernel
theorem own_dc164 : decode prog_316_method_12_code 164 = .ok (.sipush 255, 3) := by decide +kernel
theorem own_dc167 : decode prog_316_method_12_code 167 = .ok (.iand, 1) := by decide +kernel
theorem own_dc168 : decode prog_316_method_12_code 168 = .ok (.istore 7, 2) := by decide +kernel
theorem own_dc170 : decode prog_316_method_12_code 170 = .ok (.iload 7, 2) := by decide +kernel
theorem own_dc172 : decode prog_316_method_12_code 172 = .ok (.iload 4, 2) := by decide +kernel
theorem own_dc174 : decode prog_316_method_12_code 174 = .ok (.if_icmp .lt 29, 3) := by decide +kernel
theorem own_dc177 : decode prog_316_method_12_code 177 = .ok (.iload 7, 2) := by decide +kernel
theorem own_dc179 : decode prog_316_method_12_code 179 = .ok (.iload 5, 2) := by decide +kernel
theorem own_dc181 : decode prog_316_method_12_code 181 = .ok (.if_icmp .le 6, 3) := by decide +kernel
theorem own_dc184 : decode prog_316_method_12_code 184 = .ok (.goto 19, 3) := by decide +kernel
theorem own_dc187 : decode prog_316_method_12_code 187 = .ok (.iinc 6 1, 3) := by decide +kernel
theorem own_dc190 : decode prog_316_method_12_code 190 = .ok (.sipush 128, 3) := by decide +kernel
theorem own_dc193 : decode prog_316_method_12_code 193 = .ok (.istore 4, 2) := by decide +kernel
theorem own_dc195 : decode prog_316_method_12_code 195 = .ok (.sipush 191, 3) := by decide +kernel
theorem own_dc198 : decode prog_316_method_12_code 198 = .ok (.istore 5, 2) := by decide +kernel
theorem own_dc200 : decode prog_316_method_12_code 200 = .ok (.goto (-57), 3) := by decide +kernel
theorem own_dc203 : decode prog_316_method_12_code 203 = .ok (.iload 6, 2) := by decide +kernel
theorem own_dc205 : decode prog_316_method_12_code 205 = .ok (.iload_n 3, 1) := by decide +kernel
theorem own_dc206 : decode prog_316_method_12_code 206 = .ok (.if_icmp .ne 8, 3) := by decide +kernel
theorem own_dc209 : decode prog_316_method_12_code 209 = .ok (.iload 6, 2) := by decide +kernel
theorem own_dc211 : decode prog_316_method_12_code 211 = .ok (.goto 6, 3) := by decide +kernel
theorem own_dc214 : decode prog_316_method_12_code 214 = .ok (.iload 6, 2) := by decide +kernel
theorem own_dc216 : decode prog_316_method_12_code 216 = .ok (.ineg, 1) := by decide +kernel
theorem own_dc217 : decode prog_316_method_12_code 217 = .ok (.ireturn, 1) := by decide +kernel
theorem own_runm_pn : plainName "com/example/coersa/coersa/Utf8" = true := by first | (simp [plainName, overriddenIn]; done) | decide +kernel
theorem own_runm_ef (m : MethodId) (a : Addr) (i : Int32) : entryFrame m #[(.ref a), (.int i)] 8 = mkF m 0 #[.val (.ref a), .val (.int i), .unset, .unset, .unset, .unset, .unset, .unset] [] := by first | (simp [entryFrame, mkF, argsToLocals, Value.category]; done) | rfl
def own_runm_Q (Z : State) (a : Addr) (i : Int32) (b0 b1 b2 b3 : Int32) (h0 : Heap) (n0 : Nat) (v : Option Value) (h : Heap) (L : List Loc) : Prop := v = some (.int (own_run (b0 &&& 255) (b1 &&& 255) (b2 &&& 255) (b3 &&& 255))) ∧ Fr n0 L ∧ h = h0
set_option maxRecDepth 65536 in
set_option maxHeartbeats 40000000 in
theorem own_runm (l : Launch) (Z : State) (a0 : Array Value) (hw : ∀ d ∈ tables_1, d.before a0 Z = true) (ws : List Jvm.Cond) (a : Addr) (i : Int32) (b0 b1 b2 b3 : Int32) (h0 : Heap) (n0 : Nat) (Z0 : n0 ≤ h0.size) (hi0 : i = 0) (Ar : own_BA Z h0 a b0 b1 b2 b3) :
    MetFree l (⟨"com/example/coersa/coersa/Utf8", "run", "([BI)I"⟩ : MethodName) (head1 (Jvm.Cond.code (⟨"com/example/coersa/coersa/Utf8", "run", "([BI)I"⟩ : MethodName) prog_316_method_12_code 8 (some .int) :: ws) ({ frames := 0, cells := 0, slots := 0, locals := 0 } : Room)) (fun ars U => ars = #[(.ref a), (.int i)] ∧ Z.Warmed39 U.vm ∧ U.heap = h0) (fun _ _ _ _ _ => True) (fun _ U o U' => ∃ v L, o = .returned v ∧ own_runm_Q Z a i b0 b1 b2 b3 h0 n0 v U'.heap L ∧ FrameEnd U o U' L ({ frames := 0, cells := 0, slots := 0, locals := 0 } : Room).cells ({ frames := 0, cells := 0, slots := 0, locals := 0 } : Room).slots) := by
  refine MetFree.of_bodySF (plainFor_of_name own_runm_pn) hisR ?_
  intro p e s m args below meth c s₁ Bd hml0 hP hK
  obtain ⟨rfl, hZ, hh⟩ := hP
  have hx := Bd.exec
  have hby := Bd.bytes
  have hml : c.maxLocals = 8 := hml0
  have hown : s.vm.findClass "com/example/coersa/coersa/Utf8" = some m.cls := findClass_of_methodNamed Bd.named
  have hnm := (name_of_methodNamed Bd.named Bd.method).1
  have X0 : Stand p l e ({ frames := 0, cells := 0, slots := 0, locals := 0 } : Room) s m #[(.ref a), (.int i)] below meth c s₁ [] 0 0 := Stand.of_body Bd
  have e0 : s₁.heap = h0 := by rw [← hh, Bd.state]; rfl
  have N0 := Fr.nil n0
  generalize hS0 : s₁.setTop (entryFrame m #[(.ref a), (.int i)] 8) = S0
  have c0 : Steps p.tables e below S0 (s₁.setTop (mkF m 0 #[.val (.ref a), .val (.int i), .unset, .unset, .unset, .unset, .unset, .unset] [])) := by rw [← hS0]; exact castTop (own_runm_ef m a i) (Steps.refl _)
  subst hi0
  obtain ⟨cl, Ac, hcl⟩ := Ar
  have c1 : Steps p.tables e below S0 (s₁.setTop (mkF m 2 #[.val (.ref a), .val (.int (0 : Int32)), .unset, .unset, .unset, .unset, .unset, .unset] [(.int (0 : Int32)), (.ref a)])) := c0.trans (by
    refine XS.aloadN X0.here hx rfl (hb hby own_dc0) rfl rfl ?_
    show Steps p.tables e below (s₁.setTop (mkF m 1 #[.val (.ref a), .val (.int (0 : Int32)), .unset, .unset, .unset, .unset, .unset, .unset] [(.ref a)])) _
    refine XS.iloadN X0.here hx rfl (hb hby own_dc1) rfl ?_
    exact Steps.refl _)
  have c2 : Steps p.tables e below S0 (s₁.setTop (mkF m 3 #[.val (.ref a), .val (.int (0 : Int32)), .unset, .unset, .unset, .unset, .unset, .unset] [(.int b0)])) := c1.trans (by
    refine X0.baloadBytes hx (j := (0 : Int32)) (v := (.int b0)) (by rw [e0]; exact Ac.1) (State.isArrayOf_alike hZ.alike Ac.2.1) Ac.2.2 (by rw [hcl]; exact own_in4 (by decide)) (by rw [hcl]; rfl) (g := (mkF m 2 #[.val (.ref a), .val (.int (0 : Int32)), .unset, .unset, .unset, .unset, .unset, .unset] [(.int (0 : Int32)), (.ref a)])) rfl rfl (hb hby own_dc2) _ ?_
    exact Steps.refl _)
  have c3 : Steps p.tables e below S0 (s₁.setTop (mkF m 7 #[.val (.ref a), .val (.int (0 : Int32)), .unset, .unset, .unset, .unset, .unset, .unset] [(.int (b0 &&& (255 : Int32)))])) := c2.trans (by
    refine XS.sipush X0.here hx rfl (hb hby own_dc3) ?_
    show Steps p.tables e below (s₁.setTop (mkF m 6 #[.val (.ref a), .val (.int (0 : Int32)), .unset, .unset, .unset, .unset, .unset, .unset] [(.int (255 : Int32)), (.int b0)])) _
    refine XS.iand X0.here hx rfl (hb hby own_dc6) rfl ?_
    exact Steps.refl _)
  have H3 : ∀ (n lo hi : Int32), Steps p.tables e below S0 (s₁.setTop (mkF m 143 #[.val (.ref a), .val (.int (0 : Int32)), .val (.int (b0 &&& (255 : Int32))), .val (.int n), .val (.int lo), .val (.int hi), .val (.int (3 : Int32)), .val (.int (b2 &&& (255 : Int32)))] [])) → ∃ Ls, Steps p.tables e below S0 (s₁.setTop (mkF m 217 Ls [(.int (own_l3 n lo hi (b3 &&& 255)))])) := by
    intro n lo hi cH
    have c4 : Steps p.tables e below S0 (s₁.setTop (mkF m 146 #[.val (.ref a), .val (.int (0 : Int32)), .val (.int (b0 &&& (255 : Int32))), .val (.int n), .val (.int lo), .val (.int hi), .val (.int (3 : Int32)), .val (.int (b2 &&& (255 : Int32)))] [(.int n), (.int (3 : Int32))])) := cH.trans (by
      refine XS.iload X0.here hx rfl (hb hby own_dc143) rfl ?_
      show Steps p.tables e below (s₁.setTop (mkF m 145 #[.val (.ref a), .val (.int (0 : Int32)), .val (.int (b0 &&& (255 : Int32))), .val (.int n), .val (.int lo), .val (.int hi), .val (.int (3 : Int32)), .val (.int (b2 &&& (255 : Int32)))] [(.int (3 : Int32))])) _
      refine XS.iloadN X0.here hx rfl (hb hby own_dc145) rfl ?_
      exact Steps.refl _)
    by_cases hn : (3 : Int32) < n
    · have c5 : Steps p.tables e below S0 (s₁.setTop (mkF m 149 #[.val (.ref a), .val (.int (0 : Int32)), .val (.int (b0 &&& (255 : Int32))), .val (.int n), .val (.int lo), .val (.int hi), .val (.int (3 : Int32)), .val (.int (b2 &&& (255 : Int32)))] [])) := c4.trans (by
        refine XS.icmpNo X0.here hx rfl (hb hby own_dc146) rfl (tlt hn).2.1 ?_
        exact Steps.refl _)
      have c6 : Steps p.tables e below S0 (s₁.setTop (mkF m 154 #[.val (.ref a), .val (.int (0 : Int32)), .val (.int (b0 &&& (255 : Int32))), .val (.int n), .val (.int lo), .val (.int hi), .val (.int (3 : Int32)), .val (.int (b2 &&& (255 : Int32)))] [(.ref a), (.int ((0 : Int32) + (3 : Int32)))])) := c5.trans (by
        refine XS.iloadN X0.here hx rfl (hb hby own_dc149) rfl ?_
        show Steps p.tables e below (s₁.setTop (mkF m 150 #[.val (.ref a), .val (.int (0 : Int32)), .val (.int (b0 &&& (255 : Int32))), .val (.int n), .val (.int lo), .val (.int hi), .val (.int (3 : Int32)), .val (.int (b2 &&& (255 : Int32)))] [(.int (0 : Int32))])) _
        refine XS.iload X0.here hx rfl (hb hby own_dc150) rfl ?_
        show Steps p.tables e below (s₁.setTop (mkF m 152 #[.val (.ref a), .val (.int (0 : Int32)), .val (.int (b0 &&& (255 : Int32))), .val (.int n), .val (.int lo), .val (.int hi), .val (.int (3 : Int32)), .val (.int (b2 &&& (255 : Int32)))] [(.int (3 : Int32)), (.int (0 : Int32))])) _
        refine XS.iadd X0.here hx rfl (hb hby own_dc152) rfl ?_
        show Steps p.tables e below (s₁.setTop (mkF m 153 #[.val (.ref a), .val (.int (0 : Int32)), .val (.int (b0 &&& (255 : Int32))), .val (.int n), .val (.int lo), .val (.int hi), .val (.int (3 : Int32)), .val (.int (b2 &&& (255 : Int32)))] [(.int ((0 : Int32) + (3 : Int32)))])) _
        refine XS.aloadN X0.here hx rfl (hb hby own_dc153) rfl rfl ?_
        exact Steps.refl _)
      have c7 : Steps p.tables e below S0 (s₁.setTop (mkF m 155 #[.val (.ref a), .val (.int (0 : Int32)), .val (.int (b0 &&& (255 : Int32))), .val (.int n), .val (.int lo), .val (.int hi), .val (.int (3 : Int32)), .val (.int (b2 &&& (255 : Int32)))] [(.int (4 : Int32)), (.int ((0 : Int32) + (3 : Int32)))])) := c6.trans (by
        refine X0.arraylength hx (by rw [e0]; exact Ac.1) (State.isArrayOf_alike hZ.alike Ac.2.1) (g := (mkF m 154 #[.val (.ref a), .val (.int (0 : Int32)), .val (.int (b0 &&& (255 : Int32))), .val (.int n), .val (.int lo), .val (.int hi), .val (.int (3 : Int32)), .val (.int (b2 &&& (255 : Int32)))] [(.ref a), (.int ((0 : Int32) + (3 : Int32)))])) rfl rfl (hb hby own_dc154) _ ?_
        rw [show cl.slots.size.toInt32 = 4 by rw [hcl]; rfl]
        exact Steps.refl _)
      have c8 : Steps p.tables e below S0 (s₁.setTop (mkF m 158 #[.val (.ref a), .val (.int (0 : Int32)), .val (.int (b0 &&& (255 : Int32))), .val (.int n), .val (.int lo), .val (.int hi), .val (.int (3 : Int32)), .val (.int (b2 &&& (255 : Int32)))] [])) := c7.trans (by
        refine XS.icmpNo X0.here hx rfl (hb hby own_dc155) rfl (tlt (by decide)).2.1 ?_
        exact Steps.refl _)
      have c9 : Steps p.tables e below S0 (s₁.setTop (mkF m 163 #[.val (.ref a), .val (.int (0 : Int32)), .val (.int (b0 &&& (255 : Int32))), .val (.int n), .val (.int lo), .val (.int hi), .val (.int (3 : Int32)), .val (.int (b2 &&& (255 : Int32)))] [(.int ((0 : Int32) + (3 : Int32))), (.ref a)])) := c8.trans (by
        refine XS.aloadN X0.here hx rfl (hb hby own_dc158) rfl rfl ?_
        show Steps p.tables e below (s₁.setTop (mkF m 159 #[.val (.ref a), .val (.int (0 : Int32)), .val (.int (b0 &&& (255 : Int32))), .val (.int n), .val (.int lo), .val (.int hi), .val (.int (3 : Int32)), .val (.int (b2 &&& (255 : Int32)))] [(.ref a)])) _
        refine XS.iloadN X0.here hx rfl (hb hby own_dc159) rfl ?_
        show Steps p.tables e below (s₁.setTop (mkF m 160 #[.val (.ref a), .val (.int (0 : Int32)), .val (.int (b0 &&& (255 : Int32))), .val (.int n), .val (.int lo), .val (.int hi), .val (.int (3 : Int32)), .val (.int (b2 &&& (255 : Int32)))] [(.int (0 : Int32)), (.ref a)])) _
        refine XS.iload X0.here hx rfl (hb hby own_dc160) rfl ?_
        show Steps p.tables e below (s₁.setTop (mkF m 162 #[.val (.ref a), .val (.int (0 : Int32)), .val (.int (b0 &&& (255 : Int32))), .val (.int n), .val (.int lo), .val (.int hi), .val (.int (3 : Int32)), .val (.int (b2 &&& (255 : Int32)))] [(.int (3 : Int32)), (.int (0 : Int32)), (.ref a)])) _
        refine XS.iadd X0.here hx rfl (hb hby own_dc162) rfl ?_
        exact Steps.refl _)
      have c10 : Steps p.tables e below S0 (s₁.setTop (mkF m 164 #[.val (.ref a), .val (.int (0 : Int32)), .val (.int (b0 &&& (255 : Int32))), .val (.int n), .val (.int lo), .val (.int hi), .val (.int (3 : Int32)), .val (.int (b2 &&& (255 : Int32)))] [(.int b3)])) := c9.trans (by
        refine X0.baloadBytes hx (j := ((0 : Int32) + (3 : Int32))) (v := (.int b3)) (by rw [e0]; exact Ac.1) (State.isArrayOf_alike hZ.alike Ac.2.1) Ac.2.2 (by rw [hcl]; exact own_in4 (by decide)) (by rw [hcl]; rfl) (g := (mkF m 163 #[.val (.ref a), .val (.int (0 : Int32)), .val (.int (b0 &&& (255 : Int32))), .val (.int n), .val (.int lo), .val (.int hi), .val (.int (3 : Int32)), .val (.int (b2 &&& (255 : Int32)))] [(.int ((0 : Int32) + (3 : Int32))), (.ref a)])) rfl rfl (hb hby own_dc163) _ ?_
        exact Steps.refl _)
      have c11 : Steps p.tables e below S0 (s₁.setTop (mkF m 174 #[.val (.ref a), .val (.int (0 : Int32)), .val (.int (b0 &&& (255 : Int32))), .val (.int n), .val (.int lo), .val (.int hi), .val (.int (3 : Int32)), .val (.int (b3 &&& (255 : Int32)))] [(.int lo), (.int (b3 &&& (255 : Int32)))])) := c10.trans (by
        refine XS.sipush X0.here hx rfl (hb hby own_dc164) ?_
        show Steps p.tables e below (s₁.setTop (mkF m 167 #[.val (.ref a), .val (.int (0 : Int32)), .val (.int (b0 &&& (255 : Int32))), .val (.int n), .val (.int lo), .val (.int hi), .val (.int (3 : Int32)), .val (.int (b2 &&& (255 : Int32)))] [(.int (255 : Int32)), (.int b3)])) _
        refine XS.iand X0.here hx rfl (hb hby own_dc167) rfl ?_
        show Steps p.tables e below (s₁.setTop (mkF m 168 #[.val (.ref a), .val (.int (0 : Int32)), .val (.int (b0 &&& (255 : Int32))), .val (.int n), .val (.int lo), .val (.int hi), .val (.int (3 : Int32)), .val (.int (b2 &&& (255 : Int32)))] [(.int (b3 &&& (255 : Int32)))])) _
        refine XS.istore X0.here hx rfl (hb hby own_dc168) rfl (l' := #[.val (.ref a), .val (.int (0 : Int32)), .val (.int (b0 &&& (255 : Int32))), .val (.int n), .val (.int lo), .val (.int hi), .val (.int (3 : Int32)), .val (.int (b3 &&& (255 : Int32)))]) rfl ?_
        show Steps p.tables e below (s₁.setTop (mkF m 170 #[.val (.ref a), .val (.int (0 : Int32)), .val (.int (b0 &&& (255 : Int32))), .val (.int n), .val (.int lo), .val (.int hi), .val (.int (3 : Int32)), .val (.int (b3 &&& (255 : Int32)))] [])) _
        refine XS.iload X0.here hx rfl (hb hby own_dc170) rfl ?_
        show Steps p.tables e below (s₁.setTop (mkF m 172 #[.val (.ref a), .val (.int (0 : Int32)), .val (.int (b0 &&& (255 : Int32))), .val (.int n), .val (.int lo), .val (.int hi), .val (.int (3 : Int32)), .val (.int (b3 &&& (255 : Int32)))] [(.int (b3 &&& (255 : Int32)))])) _
        refine XS.iload X0.here hx rfl (hb hby own_dc172) rfl ?_
        exact Steps.refl _)
      by_cases hlo : (b3 &&& (255 : Int32)) < lo
      · have c12 : Steps p.tables e below S0 (s₁.setTop (mkF m 203 #[.val (.ref a), .val (.int (0 : Int32)), .val (.int (b0 &&& (255 : Int32))), .val (.int n), .val (.int lo), .val (.int hi), .val (.int (3 : Int32)), .val (.int (b3 &&& (255 : Int32)))] [])) := c11.trans (by
          refine XS.icmpYes X0.here hx rfl (pc0 := 174) (pc' := 203) rfl (hb hby own_dc174) rfl (tlt hlo).1 (by decide) (by decide) ?_
          exact Steps.refl _)
        have c13 : Steps p.tables e below S0 (s₁.setTop (mkF m 206 #[.val (.ref a), .val (.int (0 : Int32)), .val (.int (b0 &&& (255 : Int32))), .val (.int n), .val (.int lo), .val (.int hi), .val (.int (3 : Int32)), .val (.int (b3 &&& (255 : Int32)))] [(.int n), (.int (3 : Int32))])) := c12.trans (by
          refine XS.iload X0.here hx rfl (hb hby own_dc203) rfl ?_
          show Steps p.tables e below (s₁.setTop (mkF m 205 #[.val (.ref a), .val (.int (0 : Int32)), .val (.int (b0 &&& (255 : Int32))), .val (.int n), .val (.int lo), .val (.int hi), .val (.int (3 : Int32)), .val (.int (b3 &&& (255 : Int32)))] [(.int (3 : Int32))])) _
          refine XS.iloadN X0.here hx rfl (hb hby own_dc205) rfl ?_
          exact Steps.refl _)
        by_cases hf : (3 : Int32) = n
        · have c14 : Steps p.tables e below S0 (s₁.setTop (mkF m 209 #[.val (.ref a), .val (.int (0 : Int32)), .val (.int (b0 &&& (255 : Int32))), .val (.int n), .val (.int lo), .val (.int hi), .val (.int (3 : Int32)), .val (.int (b3 &&& (255 : Int32)))] [])) := c13.trans (by
            refine XS.icmpNo X0.here hx rfl (hb hby own_dc206) rfl (teq hf).2 ?_
            exact Steps.refl _)
          have c15 : Steps p.tables e below S0 (s₁.setTop (mkF m 217 #[.val (.ref a), .val (.int (0 : Int32)), .val (.int (b0 &&& (255 : Int32))), .val (.int n), .val (.int lo), .val (.int hi), .val (.int (3 : Int32)), .val (.int (b3 &&& (255 : Int32)))] [(.int (3 : Int32))])) := c14.trans (by
            refine XS.iload X0.here hx rfl (hb hby own_dc209) rfl ?_
            show Steps p.tables e below (s₁.setTop (mkF m 211 #[.val (.ref a), .val (.int (0 : Int32)), .val (.int (b0 &&& (255 : Int32))), .val (.int n), .val (.int lo), .val (.int hi), .val (.int (3 : Int32)), .val (.int (b3 &&& (255 : Int32)))] [(.int (3 : Int32))])) _
            refine XS.goto X0.here hx rfl (pc0 := 211) (pc' := 217) rfl (hb hby own_dc211) (by decide) (by decide) ?_
            exact Steps.refl _)
          have hv : own_l3 n lo hi (b3 &&& 255) = (3 : Int32) := by unfold own_l3 own_fin; rw [if_pos hn, if_pos hlo, if_pos hf]
          exact ⟨_, by rw [hv]; exact c15⟩
        · have c16 : Steps p.tables e below S0 (s₁.setTop (mkF m 214 #[.val (.ref a), .val (.int (0 : Int32)), .val (.int (b0 &&& (255 : Int32))), .val (.int n), .val (.int lo), .val (.int hi), .val (.int (3 : Int32)), .val (.int (b3 &&& (255 : Int32)))] [])) := c13.trans (by
            refine XS.icmpYes X0.here hx rfl (pc0 := 206) (pc' := 214) rfl (hb hby own_dc206) rfl (feq hf).2 (by decide) (by decide) ?_
            exact Steps.refl _)
          have c17 : Steps p.tables e below S0 (s₁.setTop (mkF m 217 #[.val (.ref a), .val (.int (0 : Int32)), .val (.int (b0 &&& (255 : Int32))), .val (.int n), .val (.int lo), .val (.int hi), .val (.int (3 : Int32)), .val (.int (b3 &&& (255 : Int32)))] [(.int (-(3 : Int32)))])) := c16.trans (by
            refine XS.iload X0.here hx rfl (hb hby own_dc214) rfl ?_
            show Steps p.tables e below (s₁.setTop (mkF m 216 #[.val (.ref a), .val (.int (0 : Int32)), .val (.int (b0 &&& (255 : Int32))), .val (.int n), .val (.int lo), .val (.int hi), .val (.int (3 : Int32)), .val (.int (b3 &&& (255 : Int32)))] [(.int (3 : Int32))])) _
            refine XS.ineg X0.here hx rfl (hb hby own_dc216) rfl ?_
            exact Steps.refl _)
          have hv : own_l3 n lo hi (b3 &&& 255) = (-(3 : Int32)) := by unfold own_l3 own_fin; rw [if_pos hn, if_pos hlo, if_neg hf]
          exact ⟨_, by rw [hv]; exact c17⟩
      · have c18 : Steps p.tables e below S0 (s₁.setTop (mkF m 177 #[.val (.ref a), .val (.int (0 : Int32)), .val (.int (b0 &&& (255 : Int32))), .val (.int n), .val (.int lo), .val (.int hi), .val (.int (3 : Int32)), .val (.int (b3 &&& (255 : Int32)))] [])) := c11.trans (by
          refine XS.icmpNo X0.here hx rfl (hb hby own_dc174) rfl (flt hlo).1 ?_
          exact Steps.refl _)
        have c19 : Steps p.tables e below S0 (s₁.setTop (mkF m 181 #[.val (.ref a), .val (.int (0 : Int32)), .val (.int (b0 &&& (255 : Int32))), .val (.int n), .val (.int lo), .val (.int hi), .val (.int (3 : Int32)), .val (.int (b3 &&& (255 : Int32)))] [(.int hi), (.int (b3 &&& (255 : Int32)))])) := c18.trans (by
          refine XS.iload X0.here hx rfl (hb hby own_dc177) rfl ?_
          show Steps p.tables e below (s₁.setTop (mkF m 179 #[.val (.ref a), .val (.int (0 : Int32)), .val (.int (b0 &&& (255 : Int32))), .val (.int n), .val (.int lo), .val (.int hi), .val (.int (3 : Int32)), .val (.int (b3 &&& (255 : Int32)))] [(.int (b3 &&& (255 : Int32)))])) _
          refine XS.iload X0.here hx rfl (hb hby own_dc179) rfl ?_
          exact Steps.refl _)
        by_cases hhi : hi < (b3 &&& (255 : Int32))
        · have c20 : Steps p.tables e below S0 (s₁.setTop (mkF m 184 #[.val (.ref a), .val (.int (0 : Int32)), .val (.int (b0 &&& (255 : Int32))), .val (.int n), .val (.int lo), .val (.int hi), .val (.int (3 : Int32)), .val (.int (b3 &&& (255 : Int32)))] [])) := c19.trans (by
            refine XS.icmpNo X0.here hx rfl (hb hby own_dc181) rfl (tlt hhi).2.2.2 ?_
            exact Steps.refl _)
          have c21 : Steps p.tables e below S0 (s₁.setTop (mkF m 203 #[.val (.ref a), .val (.int (0 : Int32)), .val (.int (b0 &&& (255 : Int32))), .val (.int n), .val (.int lo), .val (.int hi), .val (.int (3 : Int32)), .val (.int (b3 &&& (255 : Int32)))] [])) := c20.trans (by
            refine XS.goto X0.here hx rfl (pc0 := 184) (pc' := 203) rfl (hb hby own_dc184) (by decide) (by decide) ?_
            exact Steps.refl _)
          have c22 : Steps p.tables e below S0 (s₁.setTop (mkF m 206 #[.val (.ref a), .val (.int (0 : Int32)), .val (.int (b0 &&& (255 : Int32))), .val (.int n), .val (.int lo), .val (.int hi), .val (.int (3 : Int32)), .val (.int (b3 &&& (255 : Int32)))] [(.int n), (.int (3 : Int32))])) := c21.trans (by
            refine XS.iload X0.here hx rfl (hb hby own_dc203) rfl ?_
            show Steps p.tables e below (s₁.setTop (mkF m 205 #[.val (.ref a), .val (.int (0 : Int32)), .val (.int (b0 &&& (255 : Int32))), .val (.int n), .val (.int lo), .val (.int hi), .val (.int (3 : Int32)), .val (.int (b3 &&& (255 : Int32)))] [(.int (3 : Int32))])) _
            refine XS.iloadN X0.here hx rfl (hb hby own_dc205) rfl ?_
            exact Steps.refl _)
          by_cases hf : (3 : Int32) = n
          · have c23 : Steps p.tables e below S0 (s₁.setTop (mkF m 209 #[.val (.ref a), .val (.int (0 : Int32)), .val (.int (b0 &&& (255 : Int32))), .val (.int n), .val (.int lo), .val (.int hi), .val (.int (3 : Int32)), .val (.int (b3 &&& (255 : Int32)))] [])) := c22.trans (by
              refine XS.icmpNo X0.here hx rfl (hb hby own_dc206) rfl (teq hf).2 ?_
              exact Steps.refl _)
            have c24 : Steps p.tables e below S0 (s₁.setTop (mkF m 217 #[.val (.ref a), .val (.int (0 : Int32)), .val (.int (b0 &&& (255 : Int32))), .val (.int n), .val (.int lo), .val (.int hi), .val (.int (3 : Int32)), .val (.int (b3 &&& (255 : Int32)))] [(.int (3 : Int32))])) := c23.trans (by
              refine XS.iload X0.here hx rfl (hb hby own_dc209) rfl ?_
              show Steps p.tables e below (s₁.setTop (mkF m 211 #[.val (.ref a), .val (.int (0 : Int32)), .val (.int (b0 &&& (255 : Int32))), .val (.int n), .val (.int lo), .val (.int hi), .val (.int (3 : Int32)), .val (.int (b3 &&& (255 : Int32)))] [(.int (3 : Int32))])) _
              refine XS.goto X0.here hx rfl (pc0 := 211) (pc' := 217) rfl (hb hby own_dc211) (by decide) (by decide) ?_
              exact Steps.refl _)
            have hv : own_l3 n lo hi (b3 &&& 255) = (3 : Int32) := by unfold own_l3 own_fin; rw [if_pos hn, if_neg hlo, if_pos hhi, if_pos hf]
            exact ⟨_, by rw [hv]; exact c24⟩
          · have c25 : Steps p.tables e below S0 (s₁.setTop (mkF m 214 #[.val (.ref a), .val (.int (0 : Int32)), .val (.int (b0 &&& (255 : Int32))), .val (.int n), .val (.int lo), .val (.int hi), .val (.int (3 : Int32)), .val (.int (b3 &&& (255 : Int32)))] [])) := c22.trans (by
              refine XS.icmpYes X0.here hx rfl (pc0 := 206) (pc' := 214) rfl (hb hby own_dc206) rfl (feq hf).2 (by decide) (by decide) ?_
              exact Steps.refl _)
            have c26 : Steps p.tables e below S0 (s₁.setTop (mkF m 217 #[.val (.ref a), .val (.int (0 : Int32)), .val (.int (b0 &&& (255 : Int32))), .val (.int n), .val (.int lo), .val (.int hi), .val (.int (3 : Int32)), .val (.int (b3 &&& (255 : Int32)))] [(.int (-(3 : Int32)))])) := c25.trans (by
              refine XS.iload X0.here hx rfl (hb hby own_dc214) rfl ?_
              show Steps p.tables e below (s₁.setTop (mkF m 216 #[.val (.ref a), .val (.int (0 : Int32)), .val (.int (b0 &&& (255 : Int32))), .val (.int n), .val (.int lo), .val (.int hi), .val (.int (3 : Int32)), .val (.int (b3 &&& (255 : Int32)))] [(.int (3 : Int32))])) _
              refine XS.ineg X0.here hx rfl (hb hby own_dc216) rfl ?_
              exact Steps.refl _)
            have hv : own_l3 n lo hi (b3 &&& 255) = (-(3 : Int32)) := by unfold own_l3 own_fin; rw [if_pos hn, if_neg hlo, if_pos hhi, if_neg hf]
            exact ⟨_, by rw [hv]; exact c26⟩
        · have c27 : Steps p.tables e below S0 (s₁.setTop (mkF m 187 #[.val (.ref a), .val (.int (0 : Int32)), .val (.int (b0 &&& (255 : Int32))), .val (.int n), .val (.int lo), .val (.int hi), .val (.int (3 : Int32)), .val (.int (b3 &&& (255 : Int32)))] [])) := c19.trans (by
            refine XS.icmpYes X0.here hx rfl (pc0 := 181) (pc' := 187) rfl (hb hby own_dc181) rfl (flt hhi).2.2.2 (by decide) (by decide) ?_
            exact Steps.refl _)
          have c28 : Steps p.tables e below S0 (s₁.setTop (mkF m 143 #[.val (.ref a), .val (.int (0 : Int32)), .val (.int (b0 &&& (255 : Int32))), .val (.int n), .val (.int (128 : Int32)), .val (.int (191 : Int32)), .val (.int ((3 : Int32) + (1 : Int32))), .val (.int (b3 &&& (255 : Int32)))] [])) := c27.trans (by
            refine XS.iinc X0.here hx rfl (hb hby own_dc187) rfl (l' := #[.val (.ref a), .val (.int (0 : Int32)), .val (.int (b0 &&& (255 : Int32))), .val (.int n), .val (.int lo), .val (.int hi), .val (.int ((3 : Int32) + (1 : Int32))), .val (.int (b3 &&& (255 : Int32)))]) rfl ?_
            show Steps p.tables e below (s₁.setTop (mkF m 190 #[.val (.ref a), .val (.int (0 : Int32)), .val (.int (b0 &&& (255 : Int32))), .val (.int n), .val (.int lo), .val (.int hi), .val (.int ((3 : Int32) + (1 : Int32))), .val (.int (b3 &&& (255 : Int32)))] [])) _
            refine XS.sipush X0.here hx rfl (hb hby own_dc190) ?_
            show Steps p.tables e below (s₁.setTop (mkF m 193 #[.val (.ref a), .val (.int (0 : Int32)), .val (.int (b0 &&& (255 : Int32))), .val (.int n), .val (.int lo), .val (.int hi), .val (.int ((3 : Int32) + (1 : Int32))), .val (.int (b3 &&& (255 : Int32)))] [(.int (128 : Int32))])) _
            refine XS.istore X0.here hx rfl (hb hby own_dc193) rfl (l' := #[.val (.ref a), .val (.int (0 : Int32)), .val (.int (b0 &&& (255 : Int32))), .val (.int n), .val (.int (128 : Int32)), .val (.int hi), .val (.int ((3 : Int32) + (1 : Int32))), .val (.int (b3 &&& (255 : Int32)))]) rfl ?_
            show Steps p.tables e below (s₁.setTop (mkF m 195 #[.val (.ref a), .val (.int (0 : Int32)), .val (.int (b0 &&& (255 : Int32))), .val (.int n), .val (.int (128 : Int32)), .val (.int hi), .val (.int ((3 : Int32) + (1 : Int32))), .val (.int (b3 &&& (255 : Int32)))] [])) _
            refine XS.sipush X0.here hx rfl (hb hby own_dc195) ?_
            show Steps p.tables e below (s₁.setTop (mkF m 198 #[.val (.ref a), .val (.int (0 : Int32)), .val (.int (b0 &&& (255 : Int32))), .val (.int n), .val (.int (128 : Int32)), .val (.int hi), .val (.int ((3 : Int32) + (1 : Int32))), .val (.int (b3 &&& (255 : Int32)))] [(.int (191 : Int32))])) _
            refine XS.istore X0.here hx rfl (hb hby own_dc198) rfl (l' := #[.val (.ref a), .val (.int (0 : Int32)), .val (.int (b0 &&& (255 : Int32))), .val (.int n), .val (.int (128 : Int32)), .val (.int (191 : Int32)), .val (.int ((3 : Int32) + (1 : Int32))), .val (.int (b3 &&& (255 : Int32)))]) rfl ?_
            show Steps p.tables e below (s₁.setTop (mkF m 200 #[.val (.ref a), .val (.int (0 : Int32)), .val (.int (b0 &&& (255 : Int32))), .val (.int n), .val (.int (128 : Int32)), .val (.int (191 : Int32)), .val (.int ((3 : Int32) + (1 : Int32))), .val (.int (b3 &&& (255 : Int32)))] [])) _
            refine XS.goto X0.here hx rfl (pc0 := 200) (pc' := 143) rfl (hb hby own_dc200) (by decide) (by decide) ?_
            exact Steps.refl _)
          rw [(show (3 : Int32) + (1 : Int32) = 4 by decide)] at c28
          have c29 : Steps p.tables e below S0 (s₁.setTop (mkF m 146 #[.val (.ref a), .val (.int (0 : Int32)), .val (.int (b0 &&& (255 : Int32))), .val (.int n), .val (.int (128 : Int32)), .val (.int (191 : Int32)), .val (.int (4 : Int32)), .val (.int (b3 &&& (255 : Int32)))] [(.int n), (.int (4 : Int32))])) := c28.trans (by
            refine XS.iload X0.here hx rfl (hb hby own_dc143) rfl ?_
            show Steps p.tables e below (s₁.setTop (mkF m 145 #[.val (.ref a), .val (.int (0 : Int32)), .val (.int (b0 &&& (255 : Int32))), .val (.int n), .val (.int (128 : Int32)), .val (.int (191 : Int32)), .val (.int (4 : Int32)), .val (.int (b3 &&& (255 : Int32)))] [(.int (4 : Int32))])) _
            refine XS.iloadN X0.here hx rfl (hb hby own_dc145) rfl ?_
            exact Steps.refl _)
          by_cases hn4 : (4 : Int32) < n
          · have c30 : Steps p.tables e below S0 (s₁.setTop (mkF m 149 #[.val (.ref a), .val (.int (0 : Int32)), .val (.int (b0 &&& (255 : Int32))), .val (.int n), .val (.int (128 : Int32)), .val (.int (191 : Int32)), .val (.int (4 : Int32)), .val (.int (b3 &&& (255 : Int32)))] [])) := c29.trans (by
              refine XS.icmpNo X0.here hx rfl (hb hby own_dc146) rfl (tlt hn4).2.1 ?_
              exact Steps.refl _)
            have c31 : Steps p.tables e below S0 (s₁.setTop (mkF m 154 #[.val (.ref a), .val (.int (0 : Int32)), .val (.int (b0 &&& (255 : Int32))), .val (.int n), .val (.int (128 : Int32)), .val (.int (191 : Int32)), .val (.int (4 : Int32)), .val (.int (b3 &&& (255 : Int32)))] [(.ref a), (.int ((0 : Int32) + (4 : Int32)))])) := c30.trans (by
              refine XS.iloadN X0.here hx rfl (hb hby own_dc149) rfl ?_
              show Steps p.tables e below (s₁.setTop (mkF m 150 #[.val (.ref a), .val (.int (0 : Int32)), .val (.int (b0 &&& (255 : Int32))), .val (.int n), .val (.int (128 : Int32)), .val (.int (191 : Int32)), .val (.int (4 : Int32)), .val (.int (b3 &&& (255 : Int32)))] [(.int (0 : Int32))])) _
              refine XS.iload X0.here hx rfl (hb hby own_dc150) rfl ?_
              show Steps p.tables e below (s₁.setTop (mkF m 152 #[.val (.ref a), .val (.int (0 : Int32)), .val (.int (b0 &&& (255 : Int32))), .val (.int n), .val (.int (128 : Int32)), .val (.int (191 : Int32)), .val (.int (4 : Int32)), .val (.int (b3 &&& (255 : Int32)))] [(.int (4 : Int32)), (.int (0 : Int32))])) _
              refine XS.iadd X0.here hx rfl (hb hby own_dc152) rfl ?_
              show Steps p.tables e below (s₁.setTop (mkF m 153 #[.val (.ref a), .val (.int (0 : Int32)), .val (.int (b0 &&& (255 : Int32))), .val (.int n), .val (.int (128 : Int32)), .val (.int (191 : Int32)), .val (.int (4 : Int32)), .val (.int (b3 &&& (255 : Int32)))] [(.int ((0 : Int32) + (4 : Int32)))])) _
              refine XS.aloadN X0.here hx rfl (hb hby own_dc153) rfl rfl ?_
              exact Steps.refl _)
            have c32 : Steps p.tables e below S0 (s₁.setTop (mkF m 155 #[.val (.ref a), .val (.int (0 : Int32)), .val (.int (b0 &&& (255 : Int32))), .val (.int n), .val (.int (128 : Int32)), .val (.int (191 : Int32)), .val (.int (4 : Int32)), .val (.int (b3 &&& (255 : Int32)))] [(.int (4 : Int32)), (.int ((0 : Int32) + (4 : Int32)))])) := c31.trans (by
              refine X0.arraylength hx (by rw [e0]; exact Ac.1) (State.isArrayOf_alike hZ.alike Ac.2.1) (g := (mkF m 154 #[.val (.ref a), .val (.int (0 : Int32)), .val (.int (b0 &&& (255 : Int32))), .val (.int n), .val (.int (128 : Int32)), .val (.int (191 : Int32)), .val (.int (4 : Int32)), .val (.int (b3 &&& (255 : Int32)))] [(.ref a), (.int ((0 : Int32) + (4 : Int32)))])) rfl rfl (hb hby own_dc154) _ ?_
              rw [show cl.slots.size.toInt32 = 4 by rw [hcl]; rfl]
              exact Steps.refl _)
            have c33 : Steps p.tables e below S0 (s₁.setTop (mkF m 203 #[.val (.ref a), .val (.int (0 : Int32)), .val (.int (b0 &&& (255 : Int32))), .val (.int n), .val (.int (128 : Int32)), .val (.int (191 : Int32)), .val (.int (4 : Int32)), .val (.int (b3 &&& (255 : Int32)))] [])) := c32.trans (by
              refine XS.icmpYes X0.here hx rfl (pc0 := 155) (pc' := 203) rfl (hb hby own_dc155) rfl (flt (by decide)).2.1 (by decide) (by decide) ?_
              exact Steps.refl _)
            have c34 : Steps p.tables e below S0 (s₁.setTop (mkF m 206 #[.val (.ref a), .val (.int (0 : Int32)), .val (.int (b0 &&& (255 : Int32))), .val (.int n), .val (.int (128 : Int32)), .val (.int (191 : Int32)), .val (.int (4 : Int32)), .val (.int (b3 &&& (255 : Int32)))] [(.int n), (.int (4 : Int32))])) := c33.trans (by
              refine XS.iload X0.here hx rfl (hb hby own_dc203) rfl ?_
              show Steps p.tables e below (s₁.setTop (mkF m 205 #[.val (.ref a), .val (.int (0 : Int32)), .val (.int (b0 &&& (255 : Int32))), .val (.int n), .val (.int (128 : Int32)), .val (.int (191 : Int32)), .val (.int (4 : Int32)), .val (.int (b3 &&& (255 : Int32)))] [(.int (4 : Int32))])) _
              refine XS.iloadN X0.here hx rfl (hb hby own_dc205) rfl ?_
              exact Steps.refl _)
            by_cases hf : (4 : Int32) = n
            · have c35 : Steps p.tables e below S0 (s₁.setTop (mkF m 209 #[.val (.ref a), .val (.int (0 : Int32)), .val (.int (b0 &&& (255 : Int32))), .val (.int n), .val (.int (128 : Int32)), .val (.int (191 : Int32)), .val (.int (4 : Int32)), .val (.int (b3 &&& (255 : Int32)))] [])) := c34.trans (by
                refine XS.icmpNo X0.here hx rfl (hb hby own_dc206) rfl (teq hf).2 ?_
                exact Steps.refl _)
              have c36 : Steps p.tables e below S0 (s₁.setTop (mkF m 217 #[.val (.ref a), .val (.int (0 : Int32)), .val (.int (b0 &&& (255 : Int32))), .val (.int n), .val (.int (128 : Int32)), .val (.int (191 : Int32)), .val (.int (4 : Int32)), .val (.int (b3 &&& (255 : Int32)))] [(.int (4 : Int32))])) := c35.trans (by
                refine XS.iload X0.here hx rfl (hb hby own_dc209) rfl ?_
                show Steps p.tables e below (s₁.setTop (mkF m 211 #[.val (.ref a), .val (.int (0 : Int32)), .val (.int (b0 &&& (255 : Int32))), .val (.int n), .val (.int (128 : Int32)), .val (.int (191 : Int32)), .val (.int (4 : Int32)), .val (.int (b3 &&& (255 : Int32)))] [(.int (4 : Int32))])) _
                refine XS.goto X0.here hx rfl (pc0 := 211) (pc' := 217) rfl (hb hby own_dc211) (by decide) (by decide) ?_
                exact Steps.refl _)
              have hv : own_l3 n lo hi (b3 &&& 255) = (4 : Int32) := by unfold own_l3 own_fin; rw [if_pos hn, if_neg hlo, if_neg hhi, if_pos hf]
              exact ⟨_, by rw [hv]; exact c36⟩
            · have c37 : Steps p.tables e below S0 (s₁.setTop (mkF m 214 #[.val (.ref a), .val (.int (0 : Int32)), .val (.int (b0 &&& (255 : Int32))), .val (.int n), .val (.int (128 : Int32)), .val (.int (191 : Int32)), .val (.int (4 : Int32)), .val (.int (b3 &&& (255 : Int32)))] [])) := c34.trans (by
                refine XS.icmpYes X0.here hx rfl (pc0 := 206) (pc' := 214) rfl (hb hby own_dc206) rfl (feq hf).2 (by decide) (by decide) ?_
                exact Steps.refl _)
              have c38 : Steps p.tables e below S0 (s₁.setTop (mkF m 217 #[.val (.ref a), .val (.int (0 : Int32)), .val (.int (b0 &&& (255 : Int32))), .val (.int n), .val (.int (128 : Int32)), .val (.int (191 : Int32)), .val (.int (4 : Int32)), .val (.int (b3 &&& (255 : Int32)))] [(.int (-(4 : Int32)))])) := c37.trans (by
                refine XS.iload X0.here hx rfl (hb hby own_dc214) rfl ?_
                show Steps p.tables e below (s₁.setTop (mkF m 216 #[.val (.ref a), .val (.int (0 : Int32)), .val (.int (b0 &&& (255 : Int32))), .val (.int n), .val (.int (128 : Int32)), .val (.int (191 : Int32)), .val (.int (4 : Int32)), .val (.int (b3 &&& (255 : Int32)))] [(.int (4 : Int32))])) _
                refine XS.ineg X0.here hx rfl (hb hby own_dc216) rfl ?_
                exact Steps.refl _)
              have hv : own_l3 n lo hi (b3 &&& 255) = (-(4 : Int32)) := by unfold own_l3 own_fin; rw [if_pos hn, if_neg hlo, if_neg hhi, if_neg hf]
              exact ⟨_, by rw [hv]; exact c38⟩
          · have c39 : Steps p.tables e below S0 (s₁.setTop (mkF m 203 #[.val (.ref a), .val (.int (0 : Int32)), .val (.int (b0 &&& (255 : Int32))), .val (.int n), .val (.int (128 : Int32)), .val (.int (191 : Int32)), .val (.int (4 : Int32)), .val (.int (b3 &&& (255 : Int32)))] [])) := c29.trans (by
              refine XS.icmpYes X0.here hx rfl (pc0 := 146) (pc' := 203) rfl (hb hby own_dc146) rfl (flt hn4).2.1 (by decide) (by decide) ?_
              exact Steps.refl _)
            have c40 : Steps p.tables e below S0 (s₁.setTop (mkF m 206 #[.val (.ref a), .val (.int (0 : Int32)), .val (.int (b0 &&& (255 : Int32))), .val (.int n), .val (.int (128 : Int32)), .val (.int (191 : Int32)), .val (.int (4 : Int32)), .val (.int (b3 &&& (255 : Int32)))] [(.int n), (.int (4 : Int32))])) := c39.trans (by
              refine XS.iload X0.here hx rfl (hb hby own_dc203) rfl ?_
              show Steps p.tables e below (s₁.setTop (mkF m 205 #[.val (.ref a), .val (.int (0 : Int32)), .val (.int (b0 &&& (255 : Int32))), .val (.int n), .val (.int (128 : Int32)), .val (.int (191 : Int32)), .val (.int (4 : Int32)), .val (.int (b3 &&& (255 : Int32)))] [(.int (4 : Int32))])) _
              refine XS.iloadN X0.here hx rfl (hb hby own_dc205) rfl ?_
              exact Steps.refl _)
            by_cases hf : (4 : Int32) = n
            · have c41 : Steps p.tables e below S0 (s₁.setTop (mkF m 209 #[.val (.ref a), .val (.int (0 : Int32)), .val (.int (b0 &&& (255 : Int32))), .val (.int n), .val (.int (128 : Int32)), .val (.int (191 : Int32)), .val (.int (4 : Int32)), .val (.int (b3 &&& (255 : Int32)))] [])) := c40.trans (by
                refine XS.icmpNo X0.here hx rfl (hb hby own_dc206) rfl (teq hf).2 ?_
                exact Steps.refl _)
              have c42 : Steps p.tables e below S0 (s₁.setTop (mkF m 217 #[.val (.ref a), .val (.int (0 : Int32)), .val (.int (b0 &&& (255 : Int32))), .val (.int n), .val (.int (128 : Int32)), .val (.int (191 : Int32)), .val (.int (4 : Int32)), .val (.int (b3 &&& (255 : Int32)))] [(.int (4 : Int32))])) := c41.trans (by
                refine XS.iload X0.here hx rfl (hb hby own_dc209) rfl ?_
                show Steps p.tables e below (s₁.setTop (mkF m 211 #[.val (.ref a), .val (.int (0 : Int32)), .val (.int (b0 &&& (255 : Int32))), .val (.int n), .val (.int (128 : Int32)), .val (.int (191 : Int32)), .val (.int (4 : Int32)), .val (.int (b3 &&& (255 : Int32)))] [(.int (4 : Int32))])) _
                refine XS.goto X0.here hx rfl (pc0 := 211) (pc' := 217) rfl (hb hby own_dc211) (by decide) (by decide) ?_
                exact Steps.refl _)
              have hv : own_l3 n lo hi (b3 &&& 255) = (4 : Int32) := by unfold own_l3 own_fin; rw [if_pos hn, if_neg hlo, if_neg hhi, if_pos hf]
              exact ⟨_, by rw [hv]; exact c42⟩
            · have c43 : Steps p.tables e below S0 (s₁.setTop (mkF m 214 #[.val (.ref a), .val (.int (0 : Int32)), .val (.int (b0 &&& (255 : Int32))), .val (.int n), .val (.int (128 : Int32)), .val (.int (191 : Int32)), .val (.int (4 : Int32)), .val (.int (b3 &&& (255 : Int32)))] [])) := c40.trans (by
                refine XS.icmpYes X0.here hx rfl (pc0 := 206) (pc' := 214) rfl (hb hby own_dc206) rfl (feq hf).2 (by decide) (by decide) ?_
                exact Steps.refl _)
              have c44 : Steps p.tables e below S0 (s₁.setTop (mkF m 217 #[.val (.ref a), .val (.int (0 : Int32)), .val (.int (b0 &&& (255 : Int32))), .val (.int n), .val (.int (128 : Int32)), .val (.int (191 : Int32)), .val (.int (4 : Int32)), .val (.int (b3 &&& (255 : Int32)))] [(.int (-(4 : Int32)))])) := c43.trans (by
                refine XS.iload X0.here hx rfl (hb hby own_dc214) rfl ?_
                show Steps p.tables e below (s₁.setTop (mkF m 216 #[.val (.ref a), .val (.int (0 : Int32)), .val (.int (b0 &&& (255 : Int32))), .val (.int n), .val (.int (128 : Int32)), .val (.int (191 : Int32)), .val (.int (4 : Int32)), .val (.int (b3 &&& (255 : Int32)))] [(.int (4 : Int32))])) _
                refine XS.ineg X0.here hx rfl (hb hby own_dc216) rfl ?_
                exact Steps.refl _)
              have hv : own_l3 n lo hi (b3 &&& 255) = (-(4 : Int32)) := by unfold own_l3 own_fin; rw [if_pos hn, if_neg hlo, if_neg hhi, if_neg hf]
              exact ⟨_, by rw [hv]; exact c44⟩
    · have c45 : Steps p.tables e below S0 (s₁.setTop (mkF m 203 #[.val (.ref a), .val (.int (0 : Int32)), .val (.int (b0 &&& (255 : Int32))), .val (.int n), .val (.int lo), .val (.int hi), .val (.int (3 : Int32)), .val (.int (b2 &&& (255 : Int32)))] [])) := c4.trans (by
        refine XS.icmpYes X0.here hx rfl (pc0 := 146) (pc' := 203) rfl (hb hby own_dc146) rfl (flt hn).2.1 (by decide) (by decide) ?_
        exact Steps.refl _)
      have c46 : Steps p.tables e below S0 (s₁.setTop (mkF m 206 #[.val (.ref a), .val (.int (0 : Int32)), .val (.int (b0 &&& (255 : Int32))), .val (.int n), .val (.int lo), .val (.int hi), .val (.int (3 : Int32)), .val (.int (b2 &&& (255 : Int32)))] [(.int n), (.int (3 : Int32))])) := c45.trans (by
        refine XS.iload X0.here hx rfl (hb hby own_dc203) rfl ?_
        show Steps p.tables e below (s₁.setTop (mkF m 205 #[.val (.ref a), .val (.int (0 : Int32)), .val (.int (b0 &&& (255 : Int32))), .val (.int n), .val (.int lo), .val (.int hi), .val (.int (3 : Int32)), .val (.int (b2 &&& (255 : Int32)))] [(.int (3 : Int32))])) _
        refine XS.iloadN X0.here hx rfl (hb hby own_dc205) rfl ?_
        exact Steps.refl _)
      by_cases hf : (3 : Int32) = n
      · have c47 : Steps p.tables e below S0 (s₁.setTop (mkF m 209 #[.val (.ref a), .val (.int (0 : Int32)), .val (.int (b0 &&& (255 : Int32))), .val (.int n), .val (.int lo), .val (.int hi), .val (.int (3 : Int32)), .val (.int (b2 &&& (255 : Int32)))] [])) := c46.trans (by
          refine XS.icmpNo X0.here hx rfl (hb hby own_dc206) rfl (teq hf).2 ?_
          exact Steps.refl _)
        have c48 : Steps p.tables e below S0 (s₁.setTop (mkF m 217 #[.val (.ref a), .val (.int (0 : Int32)), .val (.int (b0 &&& (255 : Int32))), .val (.int n), .val (.int lo), .val (.int hi), .val (.int (3 : Int32)), .val (.int (b2 &&& (255 : Int32)))] [(.int (3 : Int32))])) := c47.trans (by
          refine XS.iload X0.here hx rfl (hb hby own_dc209) rfl ?_
          show Steps p.tables e below (s₁.setTop (mkF m 211 #[.val (.ref a), .val (.int (0 : Int32)), .val (.int (b0 &&& (255 : Int32))), .val (.int n), .val (.int lo), .val (.int hi), .val (.int (3 : Int32)), .val (.int (b2 &&& (255 : Int32)))] [(.int (3 : Int32))])) _
          refine XS.goto X0.here hx rfl (pc0 := 211) (pc' := 217) rfl (hb hby own_dc211) (by decide) (by decide) ?_
          exact Steps.refl _)
        have hv : own_l3 n lo hi (b3 &&& 255) = (3 : Int32) := by unfold own_l3 own_fin; rw [if_neg hn, if_pos hf]
        exact ⟨_, by rw [hv]; exact c48⟩
      · have c49 : Steps p.tables e below S0 (s₁.setTop (mkF m 214 #[.val (.ref a), .val (.int (0 : Int32)), .val (.int (b0 &&& (255 : Int32))), .val (.int n), .val (.int lo), .val (.int hi), .val (.int (3 : Int32)), .val (.int (b2 &&& (255 : Int32)))] [])) := c46.trans (by
          refine XS.icmpYes X0.here hx rfl (pc0 := 206) (pc' := 214) rfl (hb hby own_dc206) rfl (feq hf).2 (by decide) (by decide) ?_
          exact Steps.refl _)
        have c50 : Steps p.tables e below S0 (s₁.setTop (mkF m 217 #[.val (.ref a), .val (.int (0 : Int32)), .val (.int (b0 &&& (255 : Int32))), .val (.int n), .val (.int lo), .val (.int hi), .val (.int (3 : Int32)), .val (.int (b2 &&& (255 : Int32)))] [(.int (-(3 : Int32)))])) := c49.trans (by
          refine XS.iload X0.here hx rfl (hb hby own_dc214) rfl ?_
          show Steps p.tables e below (s₁.setTop (mkF m 216 #[.val (.ref a), .val (.int (0 : Int32)), .val (.int (b0 &&& (255 : Int32))), .val (.int n), .val (.int lo), .val (.int hi), .val (.int (3 : Int32)), .val (.int (b2 &&& (255 : Int32)))] [(.int (3 : Int32))])) _
          refine XS.ineg X0.here hx rfl (hb hby own_dc216) rfl ?_
          exact Steps.refl _)
        have hv : own_l3 n lo hi (b3 &&& 255) = (-(3 : Int32)) := by unfold own_l3 own_fin; rw [if_neg hn, if_neg hf]
        exact ⟨_, by rw [hv]; exact c50⟩
  have H2 : ∀ (n lo hi : Int32), Steps p.tables e below S0 (s₁.setTop (mkF m 143 #[.val (.ref a), .val (.int (0 : Int32)), .val (.int (b0 &&& (255 : Int32))), .val (.int n), .val (.int lo), .val (.int hi), .val (.int (2 : Int32)), .val (.int (b1 &&& (255 : Int32)))] [])) → ∃ Ls, Steps p.tables e below S0 (s₁.setTop (mkF m 217 Ls [(.int (own_l2 n lo hi (b2 &&& 255) (b3 &&& 255)))])) := by
    intro n lo hi cH
    have c51 : Steps p.tables e below S0 (s₁.setTop (mkF m 146 #[.val (.ref a), .val (.int (0 : Int32)), .val (.int (b0 &&& (255 : Int32))), .val (.int n), .val (.int lo), .val (.int hi), .val (.int (2 : Int32)), .val (.int (b1 &&& (255 : Int32)))] [(.int n), (.int (2 : Int32))])) := cH.trans (by
      refine XS.iload X0.here hx rfl (hb hby own_dc143) rfl ?_
      show Steps p.tables e below (s₁.setTop (mkF m 145 #[.val (.ref a), .val (.int (0 : Int32)), .val (.int (b0 &&& (255 : Int32))), .val (.int n), .val (.int lo), .val (.int hi), .val (.int (2 : Int32)), .val (.int (b1 &&& (255 : Int32)))] [(.int (2 : Int32))])) _
      refine XS.iloadN X0.here hx rfl (hb hby own_dc145) rfl ?_
      exact Steps.refl _)
    by_cases hn : (2 : Int32) < n
    · have c52 : Steps p.tables e below S0 (s₁.setTop (mkF m 149 #[.val (.ref a), .val (.int (0 : Int32)), .val (.int (b0 &&& (255 : Int32))), .val (.int n), .val (.int lo), .val (.int hi), .val (.int (2 : Int32)), .val (.int (b1 &&& (255 : Int32)))] [])) := c51.trans (by
        refine XS.icmpNo X0.here hx rfl (hb hby own_dc146) rfl (tlt hn).2.1 ?_
        exact Steps.refl _)
      have c53 : Steps p.tables e below S0 (s₁.setTop (mkF m 154 #[.val (.ref a), .val (.int (0 : Int32)), .val (.int (b0 &&& (255 : Int32))), .val (.int n), .val (.int lo), .val (.int hi), .val (.int (2 : Int32)), .val (.int (b1 &&& (255 : Int32)))] [(.ref a), (.int ((0 : Int32) + (2 : Int32)))])) := c52.trans (by
        refine XS.iloadN X0.here hx rfl (hb hby own_dc149) rfl ?_
        show Steps p.tables e below (s₁.setTop (mkF m 150 #[.val (.ref a), .val (.int (0 : Int32)), .val (.int (b0 &&& (255 : Int32))), .val (.int n), .val (.int lo), .val (.int hi), .val (.int (2 : Int32)), .val (.int (b1 &&& (255 : Int32)))] [(.int (0 : Int32))])) _
        refine XS.iload X0.here hx rfl (hb hby own_dc150) rfl ?_
        show Steps p.tables e below (s₁.setTop (mkF m 152 #[.val (.ref a), .val (.int (0 : Int32)), .val (.int (b0 &&& (255 : Int32))), .val (.int n), .val (.int lo), .val (.int hi), .val (.int (2 : Int32)), .val (.int (b1 &&& (255 : Int32)))] [(.int (2 : Int32)), (.int (0 : Int32))])) _
        refine XS.iadd X0.here hx rfl (hb hby own_dc152) rfl ?_
        show Steps p.tables e below (s₁.setTop (mkF m 153 #[.val (.ref a), .val (.int (0 : Int32)), .val (.int (b0 &&& (255 : Int32))), .val (.int n), .val (.int lo), .val (.int hi), .val (.int (2 : Int32)), .val (.int (b1 &&& (255 : Int32)))] [(.int ((0 : Int32) + (2 : Int32)))])) _
        refine XS.aloadN X0.here hx rfl (hb hby own_dc153) rfl rfl ?_
        exact Steps.refl _)
      have c54 : Steps p.tables e below S0 (s₁.setTop (mkF m 155 #[.val (.ref a), .val (.int (0 : Int32)), .val (.int (b0 &&& (255 : Int32))), .val (.int n), .val (.int lo), .val (.int hi), .val (.int (2 : Int32)), .val (.int (b1 &&& (255 : Int32)))] [(.int (4 : Int32)), (.int ((0 : Int32) + (2 : Int32)))])) := c53.trans (by
        refine X0.arraylength hx (by rw [e0]; exact Ac.1) (State.isArrayOf_alike hZ.alike Ac.2.1) (g := (mkF m 154 #[.val (.ref a), .val (.int (0 : Int32)), .val (.int (b0 &&& (255 : Int32))), .val (.int n), .val (.int lo), .val (.int hi), .val (.int (2 : Int32)), .val (.int (b1 &&& (255 : Int32)))] [(.ref a), (.int ((0 : Int32) + (2 : Int32)))])) rfl rfl (hb hby own_dc154) _ ?_
        rw [show cl.slots.size.toInt32 = 4 by rw [hcl]; rfl]
        exact Steps.refl _)
      have c55 : Steps p.tables e below S0 (s₁.setTop (mkF m 158 #[.val (.ref a), .val (.int (0 : Int32)), .val (.int (b0 &&& (255 : Int32))), .val (.int n), .val (.int lo), .val (.int hi), .val (.int (2 : Int32)), .val (.int (b1 &&& (255 : Int32)))] [])) := c54.trans (by
        refine XS.icmpNo X0.here hx rfl (hb hby own_dc155) rfl (tlt (by decide)).2.1 ?_
        exact Steps.refl _)
      have c56 : Steps p.tables e below S0 (s₁.setTop (mkF m 163 #[.val (.ref a), .val (.int (0 : Int32)), .val (.int (b0 &&& (255 : Int32))), .val (.int n), .val (.int lo), .val (.int hi), .val (.int (2 : Int32)), .val (.int (b1 &&& (255 : Int32)))] [(.int ((0 : Int32) + (2 : Int32))), (.ref a)])) := c55.trans (by
        refine XS.aloadN X0.here hx rfl (hb hby own_dc158) rfl rfl ?_
        show Steps p.tables e below (s₁.setTop (mkF m 159 #[.val (.ref a), .val (.int (0 : Int32)), .val (.int (b0 &&& (255 : Int32))), .val (.int n), .val (.int lo), .val (.int hi), .val (.int (2 : Int32)), .val (.int (b1 &&& (255 : Int32)))] [(.ref a)])) _
        refine XS.iloadN X0.here hx rfl (hb hby own_dc159) rfl ?_
        show Steps p.tables e below (s₁.setTop (mkF m 160 #[.val (.ref a), .val (.int (0 : Int32)), .val (.int (b0 &&& (255 : Int32))), .val (.int n), .val (.int lo), .val (.int hi), .val (.int (2 : Int32)), .val (.int (b1 &&& (255 : Int32)))] [(.int (0 : Int32)), (.ref a)])) _
        refine XS.iload X0.here hx rfl (hb hby own_dc160) rfl ?_
        show Steps p.tables e below (s₁.setTop (mkF m 162 #[.val (.ref a), .val (.int (0 : Int32)), .val (.int (b0 &&& (255 : Int32))), .val (.int n), .val (.int lo), .val (.int hi), .val (.int (2 : Int32)), .val (.int (b1 &&& (255 : Int32)))] [(.int (2 : Int32)), (.int (0 : Int32)), (.ref a)])) _
        refine XS.iadd X0.here hx rfl (hb hby own_dc162) rfl ?_
        exact Steps.refl _)
      have c57 : Steps p.tables e below S0 (s₁.setTop (mkF m 164 #[.val (.ref a), .val (.int (0 : Int32)), .val (.int (b0 &&& (255 : Int32))), .val (.int n), .val (.int lo), .val (.int hi), .val (.int (2 : Int32)), .val (.int (b1 &&& (255 : Int32)))] [(.int b2)])) := c56.trans (by
        refine X0.baloadBytes hx (j := ((0 : Int32) + (2 : Int32))) (v := (.int b2)) (by rw [e0]; exact Ac.1) (State.isArrayOf_alike hZ.alike Ac.2.1) Ac.2.2 (by rw [hcl]; exact own_in4 (by decide)) (by rw [hcl]; rfl) (g := (mkF m 163 #[.val (.ref a), .val (.int (0 : Int32)), .val (.int (b0 &&& (255 : Int32))), .val (.int n), .val (.int lo), .val (.int hi), .val (.int (2 : Int32)), .val (.int (b1 &&& (255 : Int32)))] [(.int ((0 : Int32) + (2 : Int32))), (.ref a)])) rfl rfl (hb hby own_dc163) _ ?_
        exact Steps.refl _)
      have c58 : Steps p.tables e below S0 (s₁.setTop (mkF m 174 #[.val (.ref a), .val (.int (0 : Int32)), .val (.int (b0 &&& (255 : Int32))), .val (.int n), .val (.int lo), .val (.int hi), .val (.int (2 : Int32)), .val (.int (b2 &&& (255 : Int32)))] [(.int lo), (.int (b2 &&& (255 : Int32)))])) := c57.trans (by
        refine XS.sipush X0.here hx rfl (hb hby own_dc164) ?_
        show Steps p.tables e below (s₁.setTop (mkF m 167 #[.val (.ref a), .val (.int (0 : Int32)), .val (.int (b0 &&& (255 : Int32))), .val (.int n), .val (.int lo), .val (.int hi), .val (.int (2 : Int32)), .val (.int (b1 &&& (255 : Int32)))] [(.int (255 : Int32)), (.int b2)])) _
        refine XS.iand X0.here hx rfl (hb hby own_dc167) rfl ?_
        show Steps p.tables e below (s₁.setTop (mkF m 168 #[.val (.ref a), .val (.int (0 : Int32)), .val (.int (b0 &&& (255 : Int32))), .val (.int n), .val (.int lo), .val (.int hi), .val (.int (2 : Int32)), .val (.int (b1 &&& (255 : Int32)))] [(.int (b2 &&& (255 : Int32)))])) _
        refine XS.istore X0.here hx rfl (hb hby own_dc168) rfl (l' := #[.val (.ref a), .val (.int (0 : Int32)), .val (.int (b0 &&& (255 : Int32))), .val (.int n), .val (.int lo), .val (.int hi), .val (.int (2 : Int32)), .val (.int (b2 &&& (255 : Int32)))]) rfl ?_
        show Steps p.tables e below (s₁.setTop (mkF m 170 #[.val (.ref a), .val (.int (0 : Int32)), .val (.int (b0 &&& (255 : Int32))), .val (.int n), .val (.int lo), .val (.int hi), .val (.int (2 : Int32)), .val (.int (b2 &&& (255 : Int32)))] [])) _
        refine XS.iload X0.here hx rfl (hb hby own_dc170) rfl ?_
        show Steps p.tables e below (s₁.setTop (mkF m 172 #[.val (.ref a), .val (.int (0 : Int32)), .val (.int (b0 &&& (255 : Int32))), .val (.int n), .val (.int lo), .val (.int hi), .val (.int (2 : Int32)), .val (.int (b2 &&& (255 : Int32)))] [(.int (b2 &&& (255 : Int32)))])) _
        refine XS.iload X0.here hx rfl (hb hby own_dc172) rfl ?_
        exact Steps.refl _)
      by_cases hlo : (b2 &&& (255 : Int32)) < lo
      · have c59 : Steps p.tables e below S0 (s₁.setTop (mkF m 203 #[.val (.ref a), .val (.int (0 : Int32)), .val (.int (b0 &&& (255 : Int32))), .val (.int n), .val (.int lo), .val (.int hi), .val (.int (2 : Int32)), .val (.int (b2 &&& (255 : Int32)))] [])) := c58.trans (by
          refine XS.icmpYes X0.here hx rfl (pc0 := 174) (pc' := 203) rfl (hb hby own_dc174) rfl (tlt hlo).1 (by decide) (by decide) ?_
          exact Steps.refl _)
        have c60 : Steps p.tables e below S0 (s₁.setTop (mkF m 206 #[.val (.ref a), .val (.int (0 : Int32)), .val (.int (b0 &&& (255 : Int32))), .val (.int n), .val (.int lo), .val (.int hi), .val (.int (2 : Int32)), .val (.int (b2 &&& (255 : Int32)))] [(.int n), (.int (2 : Int32))])) := c59.trans (by
          refine XS.iload X0.here hx rfl (hb hby own_dc203) rfl ?_
          show Steps p.tables e below (s₁.setTop (mkF m 205 #[.val (.ref a), .val (.int (0 : Int32)), .val (.int (b0 &&& (255 : Int32))), .val (.int n), .val (.int lo), .val (.int hi), .val (.int (2 : Int32)), .val (.int (b2 &&& (255 : Int32)))] [(.int (2 : Int32))])) _
          refine XS.iloadN X0.here hx rfl (hb hby own_dc205) rfl ?_
          exact Steps.refl _)
        by_cases hf : (2 : Int32) = n
        · have c61 : Steps p.tables e below S0 (s₁.setTop (mkF m 209 #[.val (.ref a), .val (.int (0 : Int32)), .val (.int (b0 &&& (255 : Int32))), .val (.int n), .val (.int lo), .val (.int hi), .val (.int (2 : Int32)), .val (.int (b2 &&& (255 : Int32)))] [])) := c60.trans (by
            refine XS.icmpNo X0.here hx rfl (hb hby own_dc206) rfl (teq hf).2 ?_
            exact Steps.refl _)
          have c62 : Steps p.tables e below S0 (s₁.setTop (mkF m 217 #[.val (.ref a), .val (.int (0 : Int32)), .val (.int (b0 &&& (255 : Int32))), .val (.int n), .val (.int lo), .val (.int hi), .val (.int (2 : Int32)), .val (.int (b2 &&& (255 : Int32)))] [(.int (2 : Int32))])) := c61.trans (by
            refine XS.iload X0.here hx rfl (hb hby own_dc209) rfl ?_
            show Steps p.tables e below (s₁.setTop (mkF m 211 #[.val (.ref a), .val (.int (0 : Int32)), .val (.int (b0 &&& (255 : Int32))), .val (.int n), .val (.int lo), .val (.int hi), .val (.int (2 : Int32)), .val (.int (b2 &&& (255 : Int32)))] [(.int (2 : Int32))])) _
            refine XS.goto X0.here hx rfl (pc0 := 211) (pc' := 217) rfl (hb hby own_dc211) (by decide) (by decide) ?_
            exact Steps.refl _)
          have hv : own_l2 n lo hi (b2 &&& 255) (b3 &&& 255) = (2 : Int32) := by unfold own_l2 own_fin; rw [if_pos hn, if_pos hlo, if_pos hf]
          exact ⟨_, by rw [hv]; exact c62⟩
        · have c63 : Steps p.tables e below S0 (s₁.setTop (mkF m 214 #[.val (.ref a), .val (.int (0 : Int32)), .val (.int (b0 &&& (255 : Int32))), .val (.int n), .val (.int lo), .val (.int hi), .val (.int (2 : Int32)), .val (.int (b2 &&& (255 : Int32)))] [])) := c60.trans (by
            refine XS.icmpYes X0.here hx rfl (pc0 := 206) (pc' := 214) rfl (hb hby own_dc206) rfl (feq hf).2 (by decide) (by decide) ?_
            exact Steps.refl _)
          have c64 : Steps p.tables e below S0 (s₁.setTop (mkF m 217 #[.val (.ref a), .val (.int (0 : Int32)), .val (.int (b0 &&& (255 : Int32))), .val (.int n), .val (.int lo), .val (.int hi), .val (.int (2 : Int32)), .val (.int (b2 &&& (255 : Int32)))] [(.int (-(2 : Int32)))])) := c63.trans (by
            refine XS.iload X0.here hx rfl (hb hby own_dc214) rfl ?_
            show Steps p.tables e below (s₁.setTop (mkF m 216 #[.val (.ref a), .val (.int (0 : Int32)), .val (.int (b0 &&& (255 : Int32))), .val (.int n), .val (.int lo), .val (.int hi), .val (.int (2 : Int32)), .val (.int (b2 &&& (255 : Int32)))] [(.int (2 : Int32))])) _
            refine XS.ineg X0.here hx rfl (hb hby own_dc216) rfl ?_
            exact Steps.refl _)
          have hv : own_l2 n lo hi (b2 &&& 255) (b3 &&& 255) = (-(2 : Int32)) := by unfold own_l2 own_fin; rw [if_pos hn, if_pos hlo, if_neg hf]
          exact ⟨_, by rw [hv]; exact c64⟩
      · have c65 : Steps p.tables e below S0 (s₁.setTop (mkF m 177 #[.val (.ref a), .val (.int (0 : Int32)), .val (.int (b0 &&& (255 : Int32))), .val (.int n), .val (.int lo), .val (.int hi), .val (.int (2 : Int32)), .val (.int (b2 &&& (255 : Int32)))] [])) := c58.trans (by
          refine XS.icmpNo X0.here hx rfl (hb hby own_dc174) rfl (flt hlo).1 ?_
          exact Steps.refl _)
        have c66 : Steps p.tables e below S0 (s₁.setTop (mkF m 181 #[.val (.ref a), .val (.int (0 : Int32)), .val (.int (b0 &&& (255 : Int32))), .val (.int n), .val (.int lo), .val (.int hi), .val (.int (2 : Int32)), .val (.int (b2 &&& (255 : Int32)))] [(.int hi), (.int (b2 &&& (255 : Int32)))])) := c65.trans (by
          refine XS.iload X0.here hx rfl (hb hby own_dc177) rfl ?_
          show Steps p.tables e below (s₁.setTop (mkF m 179 #[.val (.ref a), .val (.int (0 : Int32)), .val (.int (b0 &&& (255 : Int32))), .val (.int n), .val (.int lo), .val (.int hi), .val (.int (2 : Int32)), .val (.int (b2 &&& (255 : Int32)))] [(.int (b2 &&& (255 : Int32)))])) _
          refine XS.iload X0.here hx rfl (hb hby own_dc179) rfl ?_
          exact Steps.refl _)
        by_cases hhi : hi < (b2 &&& (255 : Int32))
        · have c67 : Steps p.tables e below S0 (s₁.setTop (mkF m 184 #[.val (.ref a), .val (.int (0 : Int32)), .val (.int (b0 &&& (255 : Int32))), .val (.int n), .val (.int lo), .val (.int hi), .val (.int (2 : Int32)), .val (.int (b2 &&& (255 : Int32)))] [])) := c66.trans (by
            refine XS.icmpNo X0.here hx rfl (hb hby own_dc181) rfl (tlt hhi).2.2.2 ?_
            exact Steps.refl _)
          have c68 : Steps p.tables e below S0 (s₁.setTop (mkF m 203 #[.val (.ref a), .val (.int (0 : Int32)), .val (.int (b0 &&& (255 : Int32))), .val (.int n), .val (.int lo), .val (.int hi), .val (.int (2 : Int32)), .val (.int (b2 &&& (255 : Int32)))] [])) := c67.trans (by
            refine XS.goto X0.here hx rfl (pc0 := 184) (pc' := 203) rfl (hb hby own_dc184) (by decide) (by decide) ?_
            exact Steps.refl _)
          have c69 : Steps p.tables e below S0 (s₁.setTop (mkF m 206 #[.val (.ref a), .val (.int (0 : Int32)), .val (.int (b0 &&& (255 : Int32))), .val (.int n), .val (.int lo), .val (.int hi), .val (.int (2 : Int32)), .val (.int (b2 &&& (255 : Int32)))] [(.int n), (.int (2 : Int32))])) := c68.trans (by
            refine XS.iload X0.here hx rfl (hb hby own_dc203) rfl ?_
            show Steps p.tables e below (s₁.setTop (mkF m 205 #[.val (.ref a), .val (.int (0 : Int32)), .val (.int (b0 &&& (255 : Int32))), .val (.int n), .val (.int lo), .val (.int hi), .val (.int (2 : Int32)), .val (.int (b2 &&& (255 : Int32)))] [(.int (2 : Int32))])) _
            refine XS.iloadN X0.here hx rfl (hb hby own_dc205) rfl ?_
            exact Steps.refl _)
          by_cases hf : (2 : Int32) = n
          · have c70 : Steps p.tables e below S0 (s₁.setTop (mkF m 209 #[.val (.ref a), .val (.int (0 : Int32)), .val (.int (b0 &&& (255 : Int32))), .val (.int n), .val (.int lo), .val (.int hi), .val (.int (2 : Int32)), .val (.int (b2 &&& (255 : Int32)))] [])) := c69.trans (by
              refine XS.icmpNo X0.here hx rfl (hb hby own_dc206) rfl (teq hf).2 ?_
              exact Steps.refl _)
            have c71 : Steps p.tables e below S0 (s₁.setTop (mkF m 217 #[.val (.ref a), .val (.int (0 : Int32)), .val (.int (b0 &&& (255 : Int32))), .val (.int n), .val (.int lo), .val (.int hi), .val (.int (2 : Int32)), .val (.int (b2 &&& (255 : Int32)))] [(.int (2 : Int32))])) := c70.trans (by
              refine XS.iload X0.here hx rfl (hb hby own_dc209) rfl ?_
              show Steps p.tables e below (s₁.setTop (mkF m 211 #[.val (.ref a), .val (.int (0 : Int32)), .val (.int (b0 &&& (255 : Int32))), .val (.int n), .val (.int lo), .val (.int hi), .val (.int (2 : Int32)), .val (.int (b2 &&& (255 : Int32)))] [(.int (2 : Int32))])) _
              refine XS.goto X0.here hx rfl (pc0 := 211) (pc' := 217) rfl (hb hby own_dc211) (by decide) (by decide) ?_
              exact Steps.refl _)
            have hv : own_l2 n lo hi (b2 &&& 255) (b3 &&& 255) = (2 : Int32) := by unfold own_l2 own_fin; rw [if_pos hn, if_neg hlo, if_pos hhi, if_pos hf]
            exact ⟨_, by rw [hv]; exact c71⟩
          · have c72 : Steps p.tables e below S0 (s₁.setTop (mkF m 214 #[.val (.ref a), .val (.int (0 : Int32)), .val (.int (b0 &&& (255 : Int32))), .val (.int n), .val (.int lo), .val (.int hi), .val (.int (2 : Int32)), .val (.int (b2 &&& (255 : Int32)))] [])) := c69.trans (by
              refine XS.icmpYes X0.here hx rfl (pc0 := 206) (pc' := 214) rfl (hb hby own_dc206) rfl (feq hf).2 (by decide) (by decide) ?_
              exact Steps.refl _)
            have c73 : Steps p.tables e below S0 (s₁.setTop (mkF m 217 #[.val (.ref a), .val (.int (0 : Int32)), .val (.int (b0 &&& (255 : Int32))), .val (.int n), .val (.int lo), .val (.int hi), .val (.int (2 : Int32)), .val (.int (b2 &&& (255 : Int32)))] [(.int (-(2 : Int32)))])) := c72.trans (by
              refine XS.iload X0.here hx rfl (hb hby own_dc214) rfl ?_
              show Steps p.tables e below (s₁.setTop (mkF m 216 #[.val (.ref a), .val (.int (0 : Int32)), .val (.int (b0 &&& (255 : Int32))), .val (.int n), .val (.int lo), .val (.int hi), .val (.int (2 : Int32)), .val (.int (b2 &&& (255 : Int32)))] [(.int (2 : Int32))])) _
              refine XS.ineg X0.here hx rfl (hb hby own_dc216) rfl ?_
              exact Steps.refl _)
            have hv : own_l2 n lo hi (b2 &&& 255) (b3 &&& 255) = (-(2 : Int32)) := by unfold own_l2 own_fin; rw [if_pos hn, if_neg hlo, if_pos hhi, if_neg hf]
            exact ⟨_, by rw [hv]; exact c73⟩
        · have c74 : Steps p.tables e below S0 (s₁.setTop (mkF m 187 #[.val (.ref a), .val (.int (0 : Int32)), .val (.int (b0 &&& (255 : Int32))), .val (.int n), .val (.int lo), .val (.int hi), .val (.int (2 : Int32)), .val (.int (b2 &&& (255 : Int32)))] [])) := c66.trans (by
            refine XS.icmpYes X0.here hx rfl (pc0 := 181) (pc' := 187) rfl (hb hby own_dc181) rfl (flt hhi).2.2.2 (by decide) (by decide) ?_
            exact Steps.refl _)
          have c75 : Steps p.tables e below S0 (s₁.setTop (mkF m 143 #[.val (.ref a), .val (.int (0 : Int32)), .val (.int (b0 &&& (255 : Int32))), .val (.int n), .val (.int (128 : Int32)), .val (.int (191 : Int32)), .val (.int ((2 : Int32) + (1 : Int32))), .val (.int (b2 &&& (255 : Int32)))] [])) := c74.trans (by
            refine XS.iinc X0.here hx rfl (hb hby own_dc187) rfl (l' := #[.val (.ref a), .val (.int (0 : Int32)), .val (.int (b0 &&& (255 : Int32))), .val (.int n), .val (.int lo), .val (.int hi), .val (.int ((2 : Int32) + (1 : Int32))), .val (.int (b2 &&& (255 : Int32)))]) rfl ?_
            show Steps p.tables e below (s₁.setTop (mkF m 190 #[.val (.ref a), .val (.int (0 : Int32)), .val (.int (b0 &&& (255 : Int32))), .val (.int n), .val (.int lo), .val (.int hi), .val (.int ((2 : Int32) + (1 : Int32))), .val (.int (b2 &&& (255 : Int32)))] [])) _
            refine XS.sipush X0.here hx rfl (hb hby own_dc190) ?_
            show Steps p.tables e below (s₁.setTop (mkF m 193 #[.val (.ref a), .val (.int (0 : Int32)), .val (.int (b0 &&& (255 : Int32))), .val (.int n), .val (.int lo), .val (.int hi), .val (.int ((2 : Int32) + (1 : Int32))), .val (.int (b2 &&& (255 : Int32)))] [(.int (128 : Int32))])) _
            refine XS.istore X0.here hx rfl (hb hby own_dc193) rfl (l' := #[.val (.ref a), .val (.int (0 : Int32)), .val (.int (b0 &&& (255 : Int32))), .val (.int n), .val (.int (128 : Int32)), .val (.int hi), .val (.int ((2 : Int32) + (1 : Int32))), .val (.int (b2 &&& (255 : Int32)))]) rfl ?_
            show Steps p.tables e below (s₁.setTop (mkF m 195 #[.val (.ref a), .val (.int (0 : Int32)), .val (.int (b0 &&& (255 : Int32))), .val (.int n), .val (.int (128 : Int32)), .val (.int hi), .val (.int ((2 : Int32) + (1 : Int32))), .val (.int (b2 &&& (255 : Int32)))] [])) _
            refine XS.sipush X0.here hx rfl (hb hby own_dc195) ?_
            show Steps p.tables e below (s₁.setTop (mkF m 198 #[.val (.ref a), .val (.int (0 : Int32)), .val (.int (b0 &&& (255 : Int32))), .val (.int n), .val (.int (128 : Int32)), .val (.int hi), .val (.int ((2 : Int32) + (1 : Int32))), .val (.int (b2 &&& (255 : Int32)))] [(.int (191 : Int32))])) _
            refine XS.istore X0.here hx rfl (hb hby own_dc198) rfl (l' := #[.val (.ref a), .val (.int (0 : Int32)), .val (.int (b0 &&& (255 : Int32))), .val (.int n), .val (.int (128 : Int32)), .val (.int (191 : Int32)), .val (.int ((2 : Int32) + (1 : Int32))), .val (.int (b2 &&& (255 : Int32)))]) rfl ?_
            show Steps p.tables e below (s₁.setTop (mkF m 200 #[.val (.ref a), .val (.int (0 : Int32)), .val (.int (b0 &&& (255 : Int32))), .val (.int n), .val (.int (128 : Int32)), .val (.int (191 : Int32)), .val (.int ((2 : Int32) + (1 : Int32))), .val (.int (b2 &&& (255 : Int32)))] [])) _
            refine XS.goto X0.here hx rfl (pc0 := 200) (pc' := 143) rfl (hb hby own_dc200) (by decide) (by decide) ?_
            exact Steps.refl _)
          obtain ⟨Ls, cL⟩ := H3 n 128 191 c75
          have hv : own_l2 n lo hi (b2 &&& 255) (b3 &&& 255) = own_l3 n 128 191 (b3 &&& 255) := by unfold own_l2; rw [if_pos hn, if_neg hlo, if_neg hhi]
          exact ⟨_, by rw [hv]; exact cL⟩
    · have c76 : Steps p.tables e below S0 (s₁.setTop (mkF m 203 #[.val (.ref a), .val (.int (0 : Int32)), .val (.int (b0 &&& (255 : Int32))), .val (.int n), .val (.int lo), .val (.int hi), .val (.int (2 : Int32)), .val (.int (b1 &&& (255 : Int32)))] [])) := c51.trans (by
        refine XS.icmpYes X0.here hx rfl (pc0 := 146) (pc' := 203) rfl (hb hby own_dc146) rfl (flt hn).2.1 (by decide) (by decide) ?_
        exact Steps.refl _)
      have c77 : Steps p.tables e below S0 (s₁.setTop (mkF m 206 #[.val (.ref a), .val (.int (0 : Int32)), .val (.int (b0 &&& (255 : Int32))), .val (.int n), .val (.int lo), .val (.int hi), .val (.int (2 : Int32)), .val (.int (b1 &&& (255 : Int32)))] [(.int n), (.int (2 : Int32))])) := c76.trans (by
        refine XS.iload X0.here hx rfl (hb hby own_dc203) rfl ?_
        show Steps p.tables e below (s₁.setTop (mkF m 205 #[.val (.ref a), .val (.int (0 : Int32)), .val (.int (b0 &&& (255 : Int32))), .val (.int n), .val (.int lo), .val (.int hi), .val (.int (2 : Int32)), .val (.int (b1 &&& (255 : Int32)))] [(.int (2 : Int32))])) _
        refine XS.iloadN X0.here hx rfl (hb hby own_dc205) rfl ?_
        exact Steps.refl _)
      by_cases hf : (2 : Int32) = n
      · have c78 : Steps p.tables e below S0 (s₁.setTop (mkF m 209 #[.val (.ref a), .val (.int (0 : Int32)), .val (.int (b0 &&& (255 : Int32))), .val (.int n), .val (.int lo), .val (.int hi), .val (.int (2 : Int32)), .val (.int (b1 &&& (255 : Int32)))] [])) := c77.trans (by
          refine XS.icmpNo X0.here hx rfl (hb hby own_dc206) rfl (teq hf).2 ?_
          exact Steps.refl _)
        have c79 : Steps p.tables e below S0 (s₁.setTop (mkF m 217 #[.val (.ref a), .val (.int (0 : Int32)), .val (.int (b0 &&& (255 : Int32))), .val (.int n), .val (.int lo), .val (.int hi), .val (.int (2 : Int32)), .val (.int (b1 &&& (255 : Int32)))] [(.int (2 : Int32))])) := c78.trans (by
          refine XS.iload X0.here hx rfl (hb hby own_dc209) rfl ?_
          show Steps p.tables e below (s₁.setTop (mkF m 211 #[.val (.ref a), .val (.int (0 : Int32)), .val (.int (b0 &&& (255 : Int32))), .val (.int n), .val (.int lo), .val (.int hi), .val (.int (2 : Int32)), .val (.int (b1 &&& (255 : Int32)))] [(.int (2 : Int32))])) _
          refine XS.goto X0.here hx rfl (pc0 := 211) (pc' := 217) rfl (hb hby own_dc211) (by decide) (by decide) ?_
          exact Steps.refl _)
        have hv : own_l2 n lo hi (b2 &&& 255) (b3 &&& 255) = (2 : Int32) := by unfold own_l2 own_fin; rw [if_neg hn, if_pos hf]
        exact ⟨_, by rw [hv]; exact c79⟩
      · have c80 : Steps p.tables e below S0 (s₁.setTop (mkF m 214 #[.val (.ref a), .val (.int (0 : Int32)), .val (.int (b0 &&& (255 : Int32))), .val (.int n), .val (.int lo), .val (.int hi), .val (.int (2 : Int32)), .val (.int (b1 &&& (255 : Int32)))] [])) := c77.trans (by
          refine XS.icmpYes X0.here hx rfl (pc0 := 206) (pc' := 214) rfl (hb hby own_dc206) rfl (feq hf).2 (by decide) (by decide) ?_
          exact Steps.refl _)
        have c81 : Steps p.tables e below S0 (s₁.setTop (mkF m 217 #[.val (.ref a), .val (.int (0 : Int32)), .val (.int (b0 &&& (255 : Int32))), .val (.int n), .val (.int lo), .val (.int hi), .val (.int (2 : Int32)), .val (.int (b1 &&& (255 : Int32)))] [(.int (-(2 : Int32)))])) := c80.trans (by
          refine XS.iload X0.here hx rfl (hb hby own_dc214) rfl ?_
          show Steps p.tables e below (s₁.setTop (mkF m 216 #[.val (.ref a), .val (.int (0 : Int32)), .val (.int (b0 &&& (255 : Int32))), .val (.int n), .val (.int lo), .val (.int hi), .val (.int (2 : Int32)), .val (.int (b1 &&& (255 : Int32)))] [(.int (2 : Int32))])) _
          refine XS.ineg X0.here hx rfl (hb hby own_dc216) rfl ?_
          exact Steps.refl _)
        have hv : own_l2 n lo hi (b2 &&& 255) (b3 &&& 255) = (-(2 : Int32)) := by unfold own_l2 own_fin; rw [if_neg hn, if_neg hf]
        exact ⟨_, by rw [hv]; exact c81⟩
  have H1 : ∀ (n lo hi : Int32), Steps p.tables e below S0 (s₁.setTop (mkF m 143 #[.val (.ref a), .val (.int (0 : Int32)), .val (.int (b0 &&& (255 : Int32))), .val (.int n), .val (.int lo), .val (.int hi), .val (.int (1 : Int32)), .unset] [])) → ∃ Ls, Steps p.tables e below S0 (s₁.setTop (mkF m 217 Ls [(.int (own_l1 n lo hi (b1 &&& 255) (b2 &&& 255) (b3 &&& 255)))])) := by
    intro n lo hi cH
    have c82 : Steps p.tables e below S0 (s₁.setTop (mkF m 146 #[.val (.ref a), .val (.int (0 : Int32)), .val (.int (b0 &&& (255 : Int32))), .val (.int n), .val (.int lo), .val (.int hi), .val (.int (1 : Int32)), .unset] [(.int n), (.int (1 : Int32))])) := cH.trans (by
      refine XS.iload X0.here hx rfl (hb hby own_dc143) rfl ?_
      show Steps p.tables e below (s₁.setTop (mkF m 145 #[.val (.ref a), .val (.int (0 : Int32)), .val (.int (b0 &&& (255 : Int32))), .val (.int n), .val (.int lo), .val (.int hi), .val (.int (1 : Int32)), .unset] [(.int (1 : Int32))])) _
      refine XS.iloadN X0.here hx rfl (hb hby own_dc145) rfl ?_
      exact Steps.refl _)
    by_cases hn : (1 : Int32) < n
    · have c83 : Steps p.tables e below S0 (s₁.setTop (mkF m 149 #[.val (.ref a), .val (.int (0 : Int32)), .val (.int (b0 &&& (255 : Int32))), .val (.int n), .val (.int lo), .val (.int hi), .val (.int (1 : Int32)), .unset] [])) := c82.trans (by
        refine XS.icmpNo X0.here hx rfl (hb hby own_dc146) rfl (tlt hn).2.1 ?_
        exact Steps.refl _)
      have c84 : Steps p.tables e below S0 (s₁.setTop (mkF m 154 #[.val (.ref a), .val (.int (0 : Int32)), .val (.int (b0 &&& (255 : Int32))), .val (.int n), .val (.int lo), .val (.int hi), .val (.int (1 : Int32)), .unset] [(.ref a), (.int ((0 : Int32) + (1 : Int32)))])) := c83.trans (by
        refine XS.iloadN X0.here hx rfl (hb hby own_dc149) rfl ?_
        show Steps p.tables e below (s₁.setTop (mkF m 150 #[.val (.ref a), .val (.int (0 : Int32)), .val (.int (b0 &&& (255 : Int32))), .val (.int n), .val (.int lo), .val (.int hi), .val (.int (1 : Int32)), .unset] [(.int (0 : Int32))])) _
        refine XS.iload X0.here hx rfl (hb hby own_dc150) rfl ?_
        show Steps p.tables e below (s₁.setTop (mkF m 152 #[.val (.ref a), .val (.int (0 : Int32)), .val (.int (b0 &&& (255 : Int32))), .val (.int n), .val (.int lo), .val (.int hi), .val (.int (1 : Int32)), .unset] [(.int (1 : Int32)), (.int (0 : Int32))])) _
        refine XS.iadd X0.here hx rfl (hb hby own_dc152) rfl ?_
        show Steps p.tables e below (s₁.setTop (mkF m 153 #[.val (.ref a), .val (.int (0 : Int32)), .val (.int (b0 &&& (255 : Int32))), .val (.int n), .val (.int lo), .val (.int hi), .val (.int (1 : Int32)), .unset] [(.int ((0 : Int32) + (1 : Int32)))])) _
        refine XS.aloadN X0.here hx rfl (hb hby own_dc153) rfl rfl ?_
        exact Steps.refl _)
      have c85 : Steps p.tables e below S0 (s₁.setTop (mkF m 155 #[.val (.ref a), .val (.int (0 : Int32)), .val (.int (b0 &&& (255 : Int32))), .val (.int n), .val (.int lo), .val (.int hi), .val (.int (1 : Int32)), .unset] [(.int (4 : Int32)), (.int ((0 : Int32) + (1 : Int32)))])) := c84.trans (by
        refine X0.arraylength hx (by rw [e0]; exact Ac.1) (State.isArrayOf_alike hZ.alike Ac.2.1) (g := (mkF m 154 #[.val (.ref a), .val (.int (0 : Int32)), .val (.int (b0 &&& (255 : Int32))), .val (.int n), .val (.int lo), .val (.int hi), .val (.int (1 : Int32)), .unset] [(.ref a), (.int ((0 : Int32) + (1 : Int32)))])) rfl rfl (hb hby own_dc154) _ ?_
        rw [show cl.slots.size.toInt32 = 4 by rw [hcl]; rfl]
        exact Steps.refl _)
      have c86 : Steps p.tables e below S0 (s₁.setTop (mkF m 158 #[.val (.ref a), .val (.int (0 : Int32)), .val (.int (b0 &&& (255 : Int32))), .val (.int n), .val (.int lo), .val (.int hi), .val (.int (1 : Int32)), .unset] [])) := c85.trans (by
        refine XS.icmpNo X0.here hx rfl (hb hby own_dc155) rfl (tlt (by decide)).2.1 ?_
        exact Steps.refl _)
      have c87 : Steps p.tables e below S0 (s₁.setTop (mkF m 163 #[.val (.ref a), .val (.int (0 : Int32)), .val (.int (b0 &&& (255 : Int32))), .val (.int n), .val (.int lo), .val (.int hi), .val (.int (1 : Int32)), .unset] [(.int ((0 : Int32) + (1 : Int32))), (.ref a)])) := c86.trans (by
        refine XS.aloadN X0.here hx rfl (hb hby own_dc158) rfl rfl ?_
        show Steps p.tables e below (s₁.setTop (mkF m 159 #[.val (.ref a), .val (.int (0 : Int32)), .val (.int (b0 &&& (255 : Int32))), .val (.int n), .val (.int lo), .val (.int hi), .val (.int (1 : Int32)), .unset] [(.ref a)])) _
        refine XS.iloadN X0.here hx rfl (hb hby own_dc159) rfl ?_
        show Steps p.tables e below (s₁.setTop (mkF m 160 #[.val (.ref a), .val (.int (0 : Int32)), .val (.int (b0 &&& (255 : Int32))), .val (.int n), .val (.int lo), .val (.int hi), .val (.int (1 : Int32)), .unset] [(.int (0 : Int32)), (.ref a)])) _
        refine XS.iload X0.here hx rfl (hb hby own_dc160) rfl ?_
        show Steps p.tables e below (s₁.setTop (mkF m 162 #[.val (.ref a), .val (.int (0 : Int32)), .val (.int (b0 &&& (255 : Int32))), .val (.int n), .val (.int lo), .val (.int hi), .val (.int (1 : Int32)), .unset] [(.int (1 : Int32)), (.int (0 : Int32)), (.ref a)])) _
        refine XS.iadd X0.here hx rfl (hb hby own_dc162) rfl ?_
        exact Steps.refl _)
      have c88 : Steps p.tables e below S0 (s₁.setTop (mkF m 164 #[.val (.ref a), .val (.int (0 : Int32)), .val (.int (b0 &&& (255 : Int32))), .val (.int n), .val (.int lo), .val (.int hi), .val (.int (1 : Int32)), .unset] [(.int b1)])) := c87.trans (by
        refine X0.baloadBytes hx (j := ((0 : Int32) + (1 : Int32))) (v := (.int b1)) (by rw [e0]; exact Ac.1) (State.isArrayOf_alike hZ.alike Ac.2.1) Ac.2.2 (by rw [hcl]; exact own_in4 (by decide)) (by rw [hcl]; rfl) (g := (mkF m 163 #[.val (.ref a), .val (.int (0 : Int32)), .val (.int (b0 &&& (255 : Int32))), .val (.int n), .val (.int lo), .val (.int hi), .val (.int (1 : Int32)), .unset] [(.int ((0 : Int32) + (1 : Int32))), (.ref a)])) rfl rfl (hb hby own_dc163) _ ?_
        exact Steps.refl _)
      have c89 : Steps p.tables e below S0 (s₁.setTop (mkF m 174 #[.val (.ref a), .val (.int (0 : Int32)), .val (.int (b0 &&& (255 : Int32))), .val (.int n), .val (.int lo), .val (.int hi), .val (.int (1 : Int32)), .val (.int (b1 &&& (255 : Int32)))] [(.int lo), (.int (b1 &&& (255 : Int32)))])) := c88.trans (by
        refine XS.sipush X0.here hx rfl (hb hby own_dc164) ?_
        show Steps p.tables e below (s₁.setTop (mkF m 167 #[.val (.ref a), .val (.int (0 : Int32)), .val (.int (b0 &&& (255 : Int32))), .val (.int n), .val (.int lo), .val (.int hi), .val (.int (1 : Int32)), .unset] [(.int (255 : Int32)), (.int b1)])) _
        refine XS.iand X0.here hx rfl (hb hby own_dc167) rfl ?_
        show Steps p.tables e below (s₁.setTop (mkF m 168 #[.val (.ref a), .val (.int (0 : Int32)), .val (.int (b0 &&& (255 : Int32))), .val (.int n), .val (.int lo), .val (.int hi), .val (.int (1 : Int32)), .unset] [(.int (b1 &&& (255 : Int32)))])) _
        refine XS.istore X0.here hx rfl (hb hby own_dc168) rfl (l' := #[.val (.ref a), .val (.int (0 : Int32)), .val (.int (b0 &&& (255 : Int32))), .val (.int n), .val (.int lo), .val (.int hi), .val (.int (1 : Int32)), .val (.int (b1 &&& (255 : Int32)))]) rfl ?_
        show Steps p.tables e below (s₁.setTop (mkF m 170 #[.val (.ref a), .val (.int (0 : Int32)), .val (.int (b0 &&& (255 : Int32))), .val (.int n), .val (.int lo), .val (.int hi), .val (.int (1 : Int32)), .val (.int (b1 &&& (255 : Int32)))] [])) _
        refine XS.iload X0.here hx rfl (hb hby own_dc170) rfl ?_
        show Steps p.tables e below (s₁.setTop (mkF m 172 #[.val (.ref a), .val (.int (0 : Int32)), .val (.int (b0 &&& (255 : Int32))), .val (.int n), .val (.int lo), .val (.int hi), .val (.int (1 : Int32)), .val (.int (b1 &&& (255 : Int32)))] [(.int (b1 &&& (255 : Int32)))])) _
        refine XS.iload X0.here hx rfl (hb hby own_dc172) rfl ?_
        exact Steps.refl _)
      by_cases hlo : (b1 &&& (255 : Int32)) < lo
      · have c90 : Steps p.tables e below S0 (s₁.setTop (mkF m 203 #[.val (.ref a), .val (.int (0 : Int32)), .val (.int (b0 &&& (255 : Int32))), .val (.int n), .val (.int lo), .val (.int hi), .val (.int (1 : Int32)), .val (.int (b1 &&& (255 : Int32)))] [])) := c89.trans (by
          refine XS.icmpYes X0.here hx rfl (pc0 := 174) (pc' := 203) rfl (hb hby own_dc174) rfl (tlt hlo).1 (by decide) (by decide) ?_
          exact Steps.refl _)
        have c91 : Steps p.tables e below S0 (s₁.setTop (mkF m 206 #[.val (.ref a), .val (.int (0 : Int32)), .val (.int (b0 &&& (255 : Int32))), .val (.int n), .val (.int lo), .val (.int hi), .val (.int (1 : Int32)), .val (.int (b1 &&& (255 : Int32)))] [(.int n), (.int (1 : Int32))])) := c90.trans (by
          refine XS.iload X0.here hx rfl (hb hby own_dc203) rfl ?_
          show Steps p.tables e below (s₁.setTop (mkF m 205 #[.val (.ref a), .val (.int (0 : Int32)), .val (.int (b0 &&& (255 : Int32))), .val (.int n), .val (.int lo), .val (.int hi), .val (.int (1 : Int32)), .val (.int (b1 &&& (255 : Int32)))] [(.int (1 : Int32))])) _
          refine XS.iloadN X0.here hx rfl (hb hby own_dc205) rfl ?_
          exact Steps.refl _)
        by_cases hf : (1 : Int32) = n
        · have c92 : Steps p.tables e below S0 (s₁.setTop (mkF m 209 #[.val (.ref a), .val (.int (0 : Int32)), .val (.int (b0 &&& (255 : Int32))), .val (.int n), .val (.int lo), .val (.int hi), .val (.int (1 : Int32)), .val (.int (b1 &&& (255 : Int32)))] [])) := c91.trans (by
            refine XS.icmpNo X0.here hx rfl (hb hby own_dc206) rfl (teq hf).2 ?_
            exact Steps.refl _)
          have c93 : Steps p.tables e below S0 (s₁.setTop (mkF m 217 #[.val (.ref a), .val (.int (0 : Int32)), .val (.int (b0 &&& (255 : Int32))), .val (.int n), .val (.int lo), .val (.int hi), .val (.int (1 : Int32)), .val (.int (b1 &&& (255 : Int32)))] [(.int (1 : Int32))])) := c92.trans (by
            refine XS.iload X0.here hx rfl (hb hby own_dc209) rfl ?_
            show Steps p.tables e below (s₁.setTop (mkF m 211 #[.val (.ref a), .val (.int (0 : Int32)), .val (.int (b0 &&& (255 : Int32))), .val (.int n), .val (.int lo), .val (.int hi), .val (.int (1 : Int32)), .val (.int (b1 &&& (255 : Int32)))] [(.int (1 : Int32))])) _
            refine XS.goto X0.here hx rfl (pc0 := 211) (pc' := 217) rfl (hb hby own_dc211) (by decide) (by decide) ?_
            exact Steps.refl _)
          have hv : own_l1 n lo hi (b1 &&& 255) (b2 &&& 255) (b3 &&& 255) = (1 : Int32) := by unfold own_l1 own_fin; rw [if_pos hn, if_pos hlo, if_pos hf]
          exact ⟨_, by rw [hv]; exact c93⟩
        · have c94 : Steps p.tables e below S0 (s₁.setTop (mkF m 214 #[.val (.ref a), .val (.int (0 : Int32)), .val (.int (b0 &&& (255 : Int32))), .val (.int n), .val (.int lo), .val (.int hi), .val (.int (1 : Int32)), .val (.int (b1 &&& (255 : Int32)))] [])) := c91.trans (by
            refine XS.icmpYes X0.here hx rfl (pc0 := 206) (pc' := 214) rfl (hb hby own_dc206) rfl (feq hf).2 (by decide) (by decide) ?_
            exact Steps.refl _)
          have c95 : Steps p.tables e below S0 (s₁.setTop (mkF m 217 #[.val (.ref a), .val (.int (0 : Int32)), .val (.int (b0 &&& (255 : Int32))), .val (.int n), .val (.int lo), .val (.int hi), .val (.int (1 : Int32)), .val (.int (b1 &&& (255 : Int32)))] [(.int (-(1 : Int32)))])) := c94.trans (by
            refine XS.iload X0.here hx rfl (hb hby own_dc214) rfl ?_
            show Steps p.tables e below (s₁.setTop (mkF m 216 #[.val (.ref a), .val (.int (0 : Int32)), .val (.int (b0 &&& (255 : Int32))), .val (.int n), .val (.int lo), .val (.int hi), .val (.int (1 : Int32)), .val (.int (b1 &&& (255 : Int32)))] [(.int (1 : Int32))])) _
            refine XS.ineg X0.here hx rfl (hb hby own_dc216) rfl ?_
            exact Steps.refl _)
          have hv : own_l1 n lo hi (b1 &&& 255) (b2 &&& 255) (b3 &&& 255) = (-(1 : Int32)) := by unfold own_l1 own_fin; rw [if_pos hn, if_pos hlo, if_neg hf]
          exact ⟨_, by rw [hv]; exact c95⟩
      · have c96 : Steps p.tables e below S0 (s₁.setTop (mkF m 177 #[.val (.ref a), .val (.int (0 : Int32)), .val (.int (b0 &&& (255 : Int32))), .val (.int n), .val (.int lo), .val (.int hi), .val (.int (1 : Int32)), .val (.int (b1 &&& (255 : Int32)))] [])) := c89.trans (by
          refine XS.icmpNo X0.here hx rfl (hb hby own_dc174) rfl (flt hlo).1 ?_
          exact Steps.refl _)
        have c97 : Steps p.tables e below S0 (s₁.setTop (mkF m 181 #[.val (.ref a), .val (.int (0 : Int32)), .val (.int (b0 &&& (255 : Int32))), .val (.int n), .val (.int lo), .val (.int hi), .val (.int (1 : Int32)), .val (.int (b1 &&& (255 : Int32)))] [(.int hi), (.int (b1 &&& (255 : Int32)))])) := c96.trans (by
          refine XS.iload X0.here hx rfl (hb hby own_dc177) rfl ?_
          show Steps p.tables e below (s₁.setTop (mkF m 179 #[.val (.ref a), .val (.int (0 : Int32)), .val (.int (b0 &&& (255 : Int32))), .val (.int n), .val (.int lo), .val (.int hi), .val (.int (1 : Int32)), .val (.int (b1 &&& (255 : Int32)))] [(.int (b1 &&& (255 : Int32)))])) _
          refine XS.iload X0.here hx rfl (hb hby own_dc179) rfl ?_
          exact Steps.refl _)
        by_cases hhi : hi < (b1 &&& (255 : Int32))
        · have c98 : Steps p.tables e below S0 (s₁.setTop (mkF m 184 #[.val (.ref a), .val (.int (0 : Int32)), .val (.int (b0 &&& (255 : Int32))), .val (.int n), .val (.int lo), .val (.int hi), .val (.int (1 : Int32)), .val (.int (b1 &&& (255 : Int32)))] [])) := c97.trans (by
            refine XS.icmpNo X0.here hx rfl (hb hby own_dc181) rfl (tlt hhi).2.2.2 ?_
            exact Steps.refl _)
          have c99 : Steps p.tables e below S0 (s₁.setTop (mkF m 203 #[.val (.ref a), .val (.int (0 : Int32)), .val (.int (b0 &&& (255 : Int32))), .val (.int n), .val (.int lo), .val (.int hi), .val (.int (1 : Int32)), .val (.int (b1 &&& (255 : Int32)))] [])) := c98.trans (by
            refine XS.goto X0.here hx rfl (pc0 := 184) (pc' := 203) rfl (hb hby own_dc184) (by decide) (by decide) ?_
            exact Steps.refl _)
          have c100 : Steps p.tables e below S0 (s₁.setTop (mkF m 206 #[.val (.ref a), .val (.int (0 : Int32)), .val (.int (b0 &&& (255 : Int32))), .val (.int n), .val (.int lo), .val (.int hi), .val (.int (1 : Int32)), .val (.int (b1 &&& (255 : Int32)))] [(.int n), (.int (1 : Int32))])) := c99.trans (by
            refine XS.iload X0.here hx rfl (hb hby own_dc203) rfl ?_
            show Steps p.tables e below (s₁.setTop (mkF m 205 #[.val (.ref a), .val (.int (0 : Int32)), .val (.int (b0 &&& (255 : Int32))), .val (.int n), .val (.int lo), .val (.int hi), .val (.int (1 : Int32)), .val (.int (b1 &&& (255 : Int32)))] [(.int (1 : Int32))])) _
            refine XS.iloadN X0.here hx rfl (hb hby own_dc205) rfl ?_
            exact Steps.refl _)
          by_cases hf : (1 : Int32) = n
          · have c101 : Steps p.tables e below S0 (s₁.setTop (mkF m 209 #[.val (.ref a), .val (.int (0 : Int32)), .val (.int (b0 &&& (255 : Int32))), .val (.int n), .val (.int lo), .val (.int hi), .val (.int (1 : Int32)), .val (.int (b1 &&& (255 : Int32)))] [])) := c100.trans (by
              refine XS.icmpNo X0.here hx rfl (hb hby own_dc206) rfl (teq hf).2 ?_
              exact Steps.refl _)
            have c102 : Steps p.tables e below S0 (s₁.setTop (mkF m 217 #[.val (.ref a), .val (.int (0 : Int32)), .val (.int (b0 &&& (255 : Int32))), .val (.int n), .val (.int lo), .val (.int hi), .val (.int (1 : Int32)), .val (.int (b1 &&& (255 : Int32)))] [(.int (1 : Int32))])) := c101.trans (by
              refine XS.iload X0.here hx rfl (hb hby own_dc209) rfl ?_
              show Steps p.tables e below (s₁.setTop (mkF m 211 #[.val (.ref a), .val (.int (0 : Int32)), .val (.int (b0 &&& (255 : Int32))), .val (.int n), .val (.int lo), .val (.int hi), .val (.int (1 : Int32)), .val (.int (b1 &&& (255 : Int32)))] [(.int (1 : Int32))])) _
              refine XS.goto X0.here hx rfl (pc0 := 211) (pc' := 217) rfl (hb hby own_dc211) (by decide) (by decide) ?_
              exact Steps.refl _)
            have hv : own_l1 n lo hi (b1 &&& 255) (b2 &&& 255) (b3 &&& 255) = (1 : Int32) := by unfold own_l1 own_fin; rw [if_pos hn, if_neg hlo, if_pos hhi, if_pos hf]
            exact ⟨_, by rw [hv]; exact c102⟩
          · have c103 : Steps p.tables e below S0 (s₁.setTop (mkF m 214 #[.val (.ref a), .val (.int (0 : Int32)), .val (.int (b0 &&& (255 : Int32))), .val (.int n), .val (.int lo), .val (.int hi), .val (.int (1 : Int32)), .val (.int (b1 &&& (255 : Int32)))] [])) := c100.trans (by
              refine XS.icmpYes X0.here hx rfl (pc0 := 206) (pc' := 214) rfl (hb hby own_dc206) rfl (feq hf).2 (by decide) (by decide) ?_
              exact Steps.refl _)
            have c104 : Steps p.tables e below S0 (s₁.setTop (mkF m 217 #[.val (.ref a), .val (.int (0 : Int32)), .val (.int (b0 &&& (255 : Int32))), .val (.int n), .val (.int lo), .val (.int hi), .val (.int (1 : Int32)), .val (.int (b1 &&& (255 : Int32)))] [(.int (-(1 : Int32)))])) := c103.trans (by
              refine XS.iload X0.here hx rfl (hb hby own_dc214) rfl ?_
              show Steps p.tables e below (s₁.setTop (mkF m 216 #[.val (.ref a), .val (.int (0 : Int32)), .val (.int (b0 &&& (255 : Int32))), .val (.int n), .val (.int lo), .val (.int hi), .val (.int (1 : Int32)), .val (.int (b1 &&& (255 : Int32)))] [(.int (1 : Int32))])) _
              refine XS.ineg X0.here hx rfl (hb hby own_dc216) rfl ?_
              exact Steps.refl _)
            have hv : own_l1 n lo hi (b1 &&& 255) (b2 &&& 255) (b3 &&& 255) = (-(1 : Int32)) := by unfold own_l1 own_fin; rw [if_pos hn, if_neg hlo, if_pos hhi, if_neg hf]
            exact ⟨_, by rw [hv]; exact c104⟩
        · have c105 : Steps p.tables e below S0 (s₁.setTop (mkF m 187 #[.val (.ref a), .val (.int (0 : Int32)), .val (.int (b0 &&& (255 : Int32))), .val (.int n), .val (.int lo), .val (.int hi), .val (.int (1 : Int32)), .val (.int (b1 &&& (255 : Int32)))] [])) := c97.trans (by
            refine XS.icmpYes X0.here hx rfl (pc0 := 181) (pc' := 187) rfl (hb hby own_dc181) rfl (flt hhi).2.2.2 (by decide) (by decide) ?_
            exact Steps.refl _)
          have c106 : Steps p.tables e below S0 (s₁.setTop (mkF m 143 #[.val (.ref a), .val (.int (0 : Int32)), .val (.int (b0 &&& (255 : Int32))), .val (.int n), .val (.int (128 : Int32)), .val (.int (191 : Int32)), .val (.int ((1 : Int32) + (1 : Int32))), .val (.int (b1 &&& (255 : Int32)))] [])) := c105.trans (by
            refine XS.iinc X0.here hx rfl (hb hby own_dc187) rfl (l' := #[.val (.ref a), .val (.int (0 : Int32)), .val (.int (b0 &&& (255 : Int32))), .val (.int n), .val (.int lo), .val (.int hi), .val (.int ((1 : Int32) + (1 : Int32))), .val (.int (b1 &&& (255 : Int32)))]) rfl ?_
            show Steps p.tables e below (s₁.setTop (mkF m 190 #[.val (.ref a), .val (.int (0 : Int32)), .val (.int (b0 &&& (255 : Int32))), .val (.int n), .val (.int lo), .val (.int hi), .val (.int ((1 : Int32) + (1 : Int32))), .val (.int (b1 &&& (255 : Int32)))] [])) _
            refine XS.sipush X0.here hx rfl (hb hby own_dc190) ?_
            show Steps p.tables e below (s₁.setTop (mkF m 193 #[.val (.ref a), .val (.int (0 : Int32)), .val (.int (b0 &&& (255 : Int32))), .val (.int n), .val (.int lo), .val (.int hi), .val (.int ((1 : Int32) + (1 : Int32))), .val (.int (b1 &&& (255 : Int32)))] [(.int (128 : Int32))])) _
            refine XS.istore X0.here hx rfl (hb hby own_dc193) rfl (l' := #[.val (.ref a), .val (.int (0 : Int32)), .val (.int (b0 &&& (255 : Int32))), .val (.int n), .val (.int (128 : Int32)), .val (.int hi), .val (.int ((1 : Int32) + (1 : Int32))), .val (.int (b1 &&& (255 : Int32)))]) rfl ?_
            show Steps p.tables e below (s₁.setTop (mkF m 195 #[.val (.ref a), .val (.int (0 : Int32)), .val (.int (b0 &&& (255 : Int32))), .val (.int n), .val (.int (128 : Int32)), .val (.int hi), .val (.int ((1 : Int32) + (1 : Int32))), .val (.int (b1 &&& (255 : Int32)))] [])) _
            refine XS.sipush X0.here hx rfl (hb hby own_dc195) ?_
            show Steps p.tables e below (s₁.setTop (mkF m 198 #[.val (.ref a), .val (.int (0 : Int32)), .val (.int (b0 &&& (255 : Int32))), .val (.int n), .val (.int (128 : Int32)), .val (.int hi), .val (.int ((1 : Int32) + (1 : Int32))), .val (.int (b1 &&& (255 : Int32)))] [(.int (191 : Int32))])) _
            refine XS.istore X0.here hx rfl (hb hby own_dc198) rfl (l' := #[.val (.ref a), .val (.int (0 : Int32)), .val (.int (b0 &&& (255 : Int32))), .val (.int n), .val (.int (128 : Int32)), .val (.int (191 : Int32)), .val (.int ((1 : Int32) + (1 : Int32))), .val (.int (b1 &&& (255 : Int32)))]) rfl ?_
            show Steps p.tables e below (s₁.setTop (mkF m 200 #[.val (.ref a), .val (.int (0 : Int32)), .val (.int (b0 &&& (255 : Int32))), .val (.int n), .val (.int (128 : Int32)), .val (.int (191 : Int32)), .val (.int ((1 : Int32) + (1 : Int32))), .val (.int (b1 &&& (255 : Int32)))] [])) _
            refine XS.goto X0.here hx rfl (pc0 := 200) (pc' := 143) rfl (hb hby own_dc200) (by decide) (by decide) ?_
            exact Steps.refl _)
          obtain ⟨Ls, cL⟩ := H2 n 128 191 c106
          have hv : own_l1 n lo hi (b1 &&& 255) (b2 &&& 255) (b3 &&& 255) = own_l2 n 128 191 (b2 &&& 255) (b3 &&& 255) := by unfold own_l1; rw [if_pos hn, if_neg hlo, if_neg hhi]
          exact ⟨_, by rw [hv]; exact cL⟩
    · have c107 : Steps p.tables e below S0 (s₁.setTop (mkF m 203 #[.val (.ref a), .val (.int (0 : Int32)), .val (.int (b0 &&& (255 : Int32))), .val (.int n), .val (.int lo), .val (.int hi), .val (.int (1 : Int32)), .unset] [])) := c82.trans (by
        refine XS.icmpYes X0.here hx rfl (pc0 := 146) (pc' := 203) rfl (hb hby own_dc146) rfl (flt hn).2.1 (by decide) (by decide) ?_
        exact Steps.refl _)
      have c108 : Steps p.tables e below S0 (s₁.setTop (mkF m 206 #[.val (.ref a), .val (.int (0 : Int32)), .val (.int (b0 &&& (255 : Int32))), .val (.int n), .val (.int lo), .val (.int hi), .val (.int (1 : Int32)), .unset] [(.int n), (.int (1 : Int32))])) := c107.trans (by
        refine XS.iload X0.here hx rfl (hb hby own_dc203) rfl ?_
        show Steps p.tables e below (s₁.setTop (mkF m 205 #[.val (.ref a), .val (.int (0 : Int32)), .val (.int (b0 &&& (255 : Int32))), .val (.int n), .val (.int lo), .val (.int hi), .val (.int (1 : Int32)), .unset] [(.int (1 : Int32))])) _
        refine XS.iloadN X0.here hx rfl (hb hby own_dc205) rfl ?_
        exact Steps.refl _)
      by_cases hf : (1 : Int32) = n
      · have c109 : Steps p.tables e below S0 (s₁.setTop (mkF m 209 #[.val (.ref a), .val (.int (0 : Int32)), .val (.int (b0 &&& (255 : Int32))), .val (.int n), .val (.int lo), .val (.int hi), .val (.int (1 : Int32)), .unset] [])) := c108.trans (by
          refine XS.icmpNo X0.here hx rfl (hb hby own_dc206) rfl (teq hf).2 ?_
          exact Steps.refl _)
        have c110 : Steps p.tables e below S0 (s₁.setTop (mkF m 217 #[.val (.ref a), .val (.int (0 : Int32)), .val (.int (b0 &&& (255 : Int32))), .val (.int n), .val (.int lo), .val (.int hi), .val (.int (1 : Int32)), .unset] [(.int (1 : Int32))])) := c109.trans (by
          refine XS.iload X0.here hx rfl (hb hby own_dc209) rfl ?_
          show Steps p.tables e below (s₁.setTop (mkF m 211 #[.val (.ref a), .val (.int (0 : Int32)), .val (.int (b0 &&& (255 : Int32))), .val (.int n), .val (.int lo), .val (.int hi), .val (.int (1 : Int32)), .unset] [(.int (1 : Int32))])) _
          refine XS.goto X0.here hx rfl (pc0 := 211) (pc' := 217) rfl (hb hby own_dc211) (by decide) (by decide) ?_
          exact Steps.refl _)
        have hv : own_l1 n lo hi (b1 &&& 255) (b2 &&& 255) (b3 &&& 255) = (1 : Int32) := by unfold own_l1 own_fin; rw [if_neg hn, if_pos hf]
        exact ⟨_, by rw [hv]; exact c110⟩
      · have c111 : Steps p.tables e below S0 (s₁.setTop (mkF m 214 #[.val (.ref a), .val (.int (0 : Int32)), .val (.int (b0 &&& (255 : Int32))), .val (.int n), .val (.int lo), .val (.int hi), .val (.int (1 : Int32)), .unset] [])) := c108.trans (by
          refine XS.icmpYes X0.here hx rfl (pc0 := 206) (pc' := 214) rfl (hb hby own_dc206) rfl (feq hf).2 (by decide) (by decide) ?_
          exact Steps.refl _)
        have c112 : Steps p.tables e below S0 (s₁.setTop (mkF m 217 #[.val (.ref a), .val (.int (0 : Int32)), .val (.int (b0 &&& (255 : Int32))), .val (.int n), .val (.int lo), .val (.int hi), .val (.int (1 : Int32)), .unset] [(.int (-(1 : Int32)))])) := c111.trans (by
          refine XS.iload X0.here hx rfl (hb hby own_dc214) rfl ?_
          show Steps p.tables e below (s₁.setTop (mkF m 216 #[.val (.ref a), .val (.int (0 : Int32)), .val (.int (b0 &&& (255 : Int32))), .val (.int n), .val (.int lo), .val (.int hi), .val (.int (1 : Int32)), .unset] [(.int (1 : Int32))])) _
          refine XS.ineg X0.here hx rfl (hb hby own_dc216) rfl ?_
          exact Steps.refl _)
        have hv : own_l1 n lo hi (b1 &&& 255) (b2 &&& 255) (b3 &&& 255) = (-(1 : Int32)) := by unfold own_l1 own_fin; rw [if_neg hn, if_neg hf]
        exact ⟨_, by rw [hv]; exact c112⟩
  have c113 : Steps p.tables e below S0 (s₁.setTop (mkF m 12 #[.val (.ref a), .val (.int (0 : Int32)), .val (.int (b0 &&& (255 : Int32))), .unset, .unset, .unset, .unset, .unset] [(.int (128 : Int32)), (.int (b0 &&& (255 : Int32)))])) := c3.trans (by
    refine XS.istoreN X0.here hx rfl (hb hby own_dc7) rfl (l' := #[.val (.ref a), .val (.int (0 : Int32)), .val (.int (b0 &&& (255 : Int32))), .unset, .unset, .unset, .unset, .unset]) rfl ?_
    show Steps p.tables e below (s₁.setTop (mkF m 8 #[.val (.ref a), .val (.int (0 : Int32)), .val (.int (b0 &&& (255 : Int32))), .unset, .unset, .unset, .unset, .unset] [])) _
    refine XS.iloadN X0.here hx rfl (hb hby own_dc8) rfl ?_
    show Steps p.tables e below (s₁.setTop (mkF m 9 #[.val (.ref a), .val (.int (0 : Int32)), .val (.int (b0 &&& (255 : Int32))), .unset, .unset, .unset, .unset, .unset] [(.int (b0 &&& (255 : Int32)))])) _
    refine XS.sipush X0.here hx rfl (hb hby own_dc9) ?_
    exact Steps.refl _)
  by_cases hb12 : (b0 &&& (255 : Int32)) < (128 : Int32)
  · have c114 : Steps p.tables e below S0 (s₁.setTop (mkF m 15 #[.val (.ref a), .val (.int (0 : Int32)), .val (.int (b0 &&& (255 : Int32))), .unset, .unset, .unset, .unset, .unset] [])) := c113.trans (by
      refine XS.icmpNo X0.here hx rfl (hb hby own_dc12) rfl (tlt hb12).2.1 ?_
      exact Steps.refl _)
    have c115 : Steps p.tables e below S0 (s₁.setTop (mkF m 16 #[.val (.ref a), .val (.int (0 : Int32)), .val (.int (b0 &&& (255 : Int32))), .unset, .unset, .unset, .unset, .unset] [(.int (1 : Int32))])) := c114.trans (by
      refine XS.iconst X0.here hx rfl (hb hby own_dc15) ?_
      exact Steps.refl _)
    obtain ⟨fs, hr, hrun, hended, hW, hsame⟩ := X0.leave (v := some (.int (1 : Int32))) (fun h => by rw [Bd.returns] at h; cases h)
    exact ⟨_, _, c115.trans (retOut X0 hx (t := .int) (i := .ireturn) Bd.returns rfl (Or.inl ⟨rfl, Or.inl rfl, _, rfl⟩) (hb hby own_dc16) hr), hrun, hended, _, _, rfl, ⟨by simp [own_run, own_r2, own_r3, hb12], N0, e0⟩, ⟨_, rfl⟩, hW, hsame.mono (by decide) (by decide)⟩
  · have c116 : Steps p.tables e below S0 (s₁.setTop (mkF m 17 #[.val (.ref a), .val (.int (0 : Int32)), .val (.int (b0 &&& (255 : Int32))), .unset, .unset, .unset, .unset, .unset] [])) := c113.trans (by
      refine XS.icmpYes X0.here hx rfl (pc0 := 12) (pc' := 17) rfl (hb hby own_dc12) rfl (flt hb12).2.1 (by decide) (by decide) ?_
      exact Steps.refl _)
    have c117 : Steps p.tables e below S0 (s₁.setTop (mkF m 31 #[.val (.ref a), .val (.int (0 : Int32)), .val (.int (b0 &&& (255 : Int32))), .unset, .val (.int (128 : Int32)), .val (.int (191 : Int32)), .unset, .unset] [(.int (194 : Int32)), (.int (b0 &&& (255 : Int32)))])) := c116.trans (by
      refine XS.sipush X0.here hx rfl (hb hby own_dc17) ?_
      show Steps p.tables e below (s₁.setTop (mkF m 20 #[.val (.ref a), .val (.int (0 : Int32)), .val (.int (b0 &&& (255 : Int32))), .unset, .unset, .unset, .unset, .unset] [(.int (128 : Int32))])) _
      refine XS.istore X0.here hx rfl (hb hby own_dc20) rfl (l' := #[.val (.ref a), .val (.int (0 : Int32)), .val (.int (b0 &&& (255 : Int32))), .unset, .val (.int (128 : Int32)), .unset, .unset, .unset]) rfl ?_
      show Steps p.tables e below (s₁.setTop (mkF m 22 #[.val (.ref a), .val (.int (0 : Int32)), .val (.int (b0 &&& (255 : Int32))), .unset, .val (.int (128 : Int32)), .unset, .unset, .unset] [])) _
      refine XS.sipush X0.here hx rfl (hb hby own_dc22) ?_
      show Steps p.tables e below (s₁.setTop (mkF m 25 #[.val (.ref a), .val (.int (0 : Int32)), .val (.int (b0 &&& (255 : Int32))), .unset, .val (.int (128 : Int32)), .unset, .unset, .unset] [(.int (191 : Int32))])) _
      refine XS.istore X0.here hx rfl (hb hby own_dc25) rfl (l' := #[.val (.ref a), .val (.int (0 : Int32)), .val (.int (b0 &&& (255 : Int32))), .unset, .val (.int (128 : Int32)), .val (.int (191 : Int32)), .unset, .unset]) rfl ?_
      show Steps p.tables e below (s₁.setTop (mkF m 27 #[.val (.ref a), .val (.int (0 : Int32)), .val (.int (b0 &&& (255 : Int32))), .unset, .val (.int (128 : Int32)), .val (.int (191 : Int32)), .unset, .unset] [])) _
      refine XS.iloadN X0.here hx rfl (hb hby own_dc27) rfl ?_
      show Steps p.tables e below (s₁.setTop (mkF m 28 #[.val (.ref a), .val (.int (0 : Int32)), .val (.int (b0 &&& (255 : Int32))), .unset, .val (.int (128 : Int32)), .val (.int (191 : Int32)), .unset, .unset] [(.int (b0 &&& (255 : Int32)))])) _
      refine XS.sipush X0.here hx rfl (hb hby own_dc28) ?_
      exact Steps.refl _)
    by_cases hb31 : (b0 &&& (255 : Int32)) < (194 : Int32)
    · have c118 : Steps p.tables e below S0 (s₁.setTop (mkF m 46 #[.val (.ref a), .val (.int (0 : Int32)), .val (.int (b0 &&& (255 : Int32))), .unset, .val (.int (128 : Int32)), .val (.int (191 : Int32)), .unset, .unset] [])) := c117.trans (by
        refine XS.icmpYes X0.here hx rfl (pc0 := 31) (pc' := 46) rfl (hb hby own_dc31) rfl (tlt hb31).1 (by decide) (by decide) ?_
        exact Steps.refl _)
      have c119 : Steps p.tables e below S0 (s₁.setTop (mkF m 50 #[.val (.ref a), .val (.int (0 : Int32)), .val (.int (b0 &&& (255 : Int32))), .unset, .val (.int (128 : Int32)), .val (.int (191 : Int32)), .unset, .unset] [(.int (224 : Int32)), (.int (b0 &&& (255 : Int32)))])) := c118.trans (by
        refine XS.iloadN X0.here hx rfl (hb hby own_dc46) rfl ?_
        show Steps p.tables e below (s₁.setTop (mkF m 47 #[.val (.ref a), .val (.int (0 : Int32)), .val (.int (b0 &&& (255 : Int32))), .unset, .val (.int (128 : Int32)), .val (.int (191 : Int32)), .unset, .unset] [(.int (b0 &&& (255 : Int32)))])) _
        refine XS.sipush X0.here hx rfl (hb hby own_dc47) ?_
        exact Steps.refl _)
      by_cases hb50 : (b0 &&& (255 : Int32)) < (224 : Int32)
      · have c120 : Steps p.tables e below S0 (s₁.setTop (mkF m 92 #[.val (.ref a), .val (.int (0 : Int32)), .val (.int (b0 &&& (255 : Int32))), .unset, .val (.int (128 : Int32)), .val (.int (191 : Int32)), .unset, .unset] [])) := c119.trans (by
          refine XS.icmpYes X0.here hx rfl (pc0 := 50) (pc' := 92) rfl (hb hby own_dc50) rfl (tlt hb50).1 (by decide) (by decide) ?_
          exact Steps.refl _)
        have c121 : Steps p.tables e below S0 (s₁.setTop (mkF m 96 #[.val (.ref a), .val (.int (0 : Int32)), .val (.int (b0 &&& (255 : Int32))), .unset, .val (.int (128 : Int32)), .val (.int (191 : Int32)), .unset, .unset] [(.int (240 : Int32)), (.int (b0 &&& (255 : Int32)))])) := c120.trans (by
          refine XS.iloadN X0.here hx rfl (hb hby own_dc92) rfl ?_
          show Steps p.tables e below (s₁.setTop (mkF m 93 #[.val (.ref a), .val (.int (0 : Int32)), .val (.int (b0 &&& (255 : Int32))), .unset, .val (.int (128 : Int32)), .val (.int (191 : Int32)), .unset, .unset] [(.int (b0 &&& (255 : Int32)))])) _
          refine XS.sipush X0.here hx rfl (hb hby own_dc93) ?_
          exact Steps.refl _)
        by_cases hb96 : (b0 &&& (255 : Int32)) < (240 : Int32)
        · have c122 : Steps p.tables e below S0 (s₁.setTop (mkF m 138 #[.val (.ref a), .val (.int (0 : Int32)), .val (.int (b0 &&& (255 : Int32))), .unset, .val (.int (128 : Int32)), .val (.int (191 : Int32)), .unset, .unset] [])) := c121.trans (by
            refine XS.icmpYes X0.here hx rfl (pc0 := 96) (pc' := 138) rfl (hb hby own_dc96) rfl (tlt hb96).1 (by decide) (by decide) ?_
            exact Steps.refl _)
          have c123 : Steps p.tables e below S0 (s₁.setTop (mkF m 139 #[.val (.ref a), .val (.int (0 : Int32)), .val (.int (b0 &&& (255 : Int32))), .unset, .val (.int (128 : Int32)), .val (.int (191 : Int32)), .unset, .unset] [(.int (-1 : Int32))])) := c122.trans (by
            refine XS.iconst X0.here hx rfl (hb hby own_dc138) ?_
            exact Steps.refl _)
          obtain ⟨fs, hr, hrun, hended, hW, hsame⟩ := X0.leave (v := some (.int (-1 : Int32))) (fun h => by rw [Bd.returns] at h; cases h)
          exact ⟨_, _, c123.trans (retOut X0 hx (t := .int) (i := .ireturn) Bd.returns rfl (Or.inl ⟨rfl, Or.inl rfl, _, rfl⟩) (hb hby own_dc139) hr), hrun, hended, _, _, rfl, ⟨by simp [own_run, own_r2, own_r3, hb12, hb31, hb50, hb96], N0, e0⟩, ⟨_, rfl⟩, hW, hsame.mono (by decide) (by decide)⟩
        · have c124 : Steps p.tables e below S0 (s₁.setTop (mkF m 99 #[.val (.ref a), .val (.int (0 : Int32)), .val (.int (b0 &&& (255 : Int32))), .unset, .val (.int (128 : Int32)), .val (.int (191 : Int32)), .unset, .unset] [])) := c121.trans (by
            refine XS.icmpNo X0.here hx rfl (hb hby own_dc96) rfl (flt hb96).1 ?_
            exact Steps.refl _)
          have c125 : Steps p.tables e below S0 (s₁.setTop (mkF m 103 #[.val (.ref a), .val (.int (0 : Int32)), .val (.int (b0 &&& (255 : Int32))), .unset, .val (.int (128 : Int32)), .val (.int (191 : Int32)), .unset, .unset] [(.int (244 : Int32)), (.int (b0 &&& (255 : Int32)))])) := c124.trans (by
            refine XS.iloadN X0.here hx rfl (hb hby own_dc99) rfl ?_
            show Steps p.tables e below (s₁.setTop (mkF m 100 #[.val (.ref a), .val (.int (0 : Int32)), .val (.int (b0 &&& (255 : Int32))), .unset, .val (.int (128 : Int32)), .val (.int (191 : Int32)), .unset, .unset] [(.int (b0 &&& (255 : Int32)))])) _
            refine XS.sipush X0.here hx rfl (hb hby own_dc100) ?_
            exact Steps.refl _)
          by_cases hb103 : (244 : Int32) < (b0 &&& (255 : Int32))
          · have c126 : Steps p.tables e below S0 (s₁.setTop (mkF m 138 #[.val (.ref a), .val (.int (0 : Int32)), .val (.int (b0 &&& (255 : Int32))), .unset, .val (.int (128 : Int32)), .val (.int (191 : Int32)), .unset, .unset] [])) := c125.trans (by
              refine XS.icmpYes X0.here hx rfl (pc0 := 103) (pc' := 138) rfl (hb hby own_dc103) rfl (tlt hb103).2.2.1 (by decide) (by decide) ?_
              exact Steps.refl _)
            have c127 : Steps p.tables e below S0 (s₁.setTop (mkF m 139 #[.val (.ref a), .val (.int (0 : Int32)), .val (.int (b0 &&& (255 : Int32))), .unset, .val (.int (128 : Int32)), .val (.int (191 : Int32)), .unset, .unset] [(.int (-1 : Int32))])) := c126.trans (by
              refine XS.iconst X0.here hx rfl (hb hby own_dc138) ?_
              exact Steps.refl _)
            obtain ⟨fs, hr, hrun, hended, hW, hsame⟩ := X0.leave (v := some (.int (-1 : Int32))) (fun h => by rw [Bd.returns] at h; cases h)
            exact ⟨_, _, c127.trans (retOut X0 hx (t := .int) (i := .ireturn) Bd.returns rfl (Or.inl ⟨rfl, Or.inl rfl, _, rfl⟩) (hb hby own_dc139) hr), hrun, hended, _, _, rfl, ⟨by simp [own_run, own_r2, own_r3, hb12, hb31, hb50, hb96, hb103], N0, e0⟩, ⟨_, rfl⟩, hW, hsame.mono (by decide) (by decide)⟩
          · have c128 : Steps p.tables e below S0 (s₁.setTop (mkF m 106 #[.val (.ref a), .val (.int (0 : Int32)), .val (.int (b0 &&& (255 : Int32))), .unset, .val (.int (128 : Int32)), .val (.int (191 : Int32)), .unset, .unset] [])) := c125.trans (by
              refine XS.icmpNo X0.here hx rfl (hb hby own_dc103) rfl (flt hb103).2.2.1 ?_
              exact Steps.refl _)
            have c129 : Steps p.tables e below S0 (s₁.setTop (mkF m 112 #[.val (.ref a), .val (.int (0 : Int32)), .val (.int (b0 &&& (255 : Int32))), .val (.int (4 : Int32)), .val (.int (128 : Int32)), .val (.int (191 : Int32)), .unset, .unset] [(.int (240 : Int32)), (.int (b0 &&& (255 : Int32)))])) := c128.trans (by
              refine XS.iconst X0.here hx rfl (hb hby own_dc106) ?_
              show Steps p.tables e below (s₁.setTop (mkF m 107 #[.val (.ref a), .val (.int (0 : Int32)), .val (.int (b0 &&& (255 : Int32))), .unset, .val (.int (128 : Int32)), .val (.int (191 : Int32)), .unset, .unset] [(.int (4 : Int32))])) _
              refine XS.istoreN X0.here hx rfl (hb hby own_dc107) rfl (l' := #[.val (.ref a), .val (.int (0 : Int32)), .val (.int (b0 &&& (255 : Int32))), .val (.int (4 : Int32)), .val (.int (128 : Int32)), .val (.int (191 : Int32)), .unset, .unset]) rfl ?_
              show Steps p.tables e below (s₁.setTop (mkF m 108 #[.val (.ref a), .val (.int (0 : Int32)), .val (.int (b0 &&& (255 : Int32))), .val (.int (4 : Int32)), .val (.int (128 : Int32)), .val (.int (191 : Int32)), .unset, .unset] [])) _
              refine XS.iloadN X0.here hx rfl (hb hby own_dc108) rfl ?_
              show Steps p.tables e below (s₁.setTop (mkF m 109 #[.val (.ref a), .val (.int (0 : Int32)), .val (.int (b0 &&& (255 : Int32))), .val (.int (4 : Int32)), .val (.int (128 : Int32)), .val (.int (191 : Int32)), .unset, .unset] [(.int (b0 &&& (255 : Int32)))])) _
              refine XS.sipush X0.here hx rfl (hb hby own_dc109) ?_
              exact Steps.refl _)
            by_cases hb112 : (b0 &&& (255 : Int32)) = (240 : Int32)
            · have c130 : Steps p.tables e below S0 (s₁.setTop (mkF m 115 #[.val (.ref a), .val (.int (0 : Int32)), .val (.int (b0 &&& (255 : Int32))), .val (.int (4 : Int32)), .val (.int (128 : Int32)), .val (.int (191 : Int32)), .unset, .unset] [])) := c129.trans (by
                refine XS.icmpNo X0.here hx rfl (hb hby own_dc112) rfl (teq hb112).2 ?_
                exact Steps.refl _)
              have c131 : Steps p.tables e below S0 (s₁.setTop (mkF m 140 #[.val (.ref a), .val (.int (0 : Int32)), .val (.int (b0 &&& (255 : Int32))), .val (.int (4 : Int32)), .val (.int (144 : Int32)), .val (.int (191 : Int32)), .unset, .unset] [])) := c130.trans (by
                refine XS.sipush X0.here hx rfl (hb hby own_dc115) ?_
                show Steps p.tables e below (s₁.setTop (mkF m 118 #[.val (.ref a), .val (.int (0 : Int32)), .val (.int (b0 &&& (255 : Int32))), .val (.int (4 : Int32)), .val (.int (128 : Int32)), .val (.int (191 : Int32)), .unset, .unset] [(.int (144 : Int32))])) _
                refine XS.istore X0.here hx rfl (hb hby own_dc118) rfl (l' := #[.val (.ref a), .val (.int (0 : Int32)), .val (.int (b0 &&& (255 : Int32))), .val (.int (4 : Int32)), .val (.int (144 : Int32)), .val (.int (191 : Int32)), .unset, .unset]) rfl ?_
                show Steps p.tables e below (s₁.setTop (mkF m 120 #[.val (.ref a), .val (.int (0 : Int32)), .val (.int (b0 &&& (255 : Int32))), .val (.int (4 : Int32)), .val (.int (144 : Int32)), .val (.int (191 : Int32)), .unset, .unset] [])) _
                refine XS.goto X0.here hx rfl (pc0 := 120) (pc' := 140) rfl (hb hby own_dc120) (by decide) (by decide) ?_
                exact Steps.refl _)
              have c132 : Steps p.tables e below S0 (s₁.setTop (mkF m 143 #[.val (.ref a), .val (.int (0 : Int32)), .val (.int (b0 &&& (255 : Int32))), .val (.int (4 : Int32)), .val (.int (144 : Int32)), .val (.int (191 : Int32)), .val (.int (1 : Int32)), .unset] [])) := c131.trans (by
                refine XS.iconst X0.here hx rfl (hb hby own_dc140) ?_
                show Steps p.tables e below (s₁.setTop (mkF m 141 #[.val (.ref a), .val (.int (0 : Int32)), .val (.int (b0 &&& (255 : Int32))), .val (.int (4 : Int32)), .val (.int (144 : Int32)), .val (.int (191 : Int32)), .unset, .unset] [(.int (1 : Int32))])) _
                refine XS.istore X0.here hx rfl (hb hby own_dc141) rfl (l' := #[.val (.ref a), .val (.int (0 : Int32)), .val (.int (b0 &&& (255 : Int32))), .val (.int (4 : Int32)), .val (.int (144 : Int32)), .val (.int (191 : Int32)), .val (.int (1 : Int32)), .unset]) rfl ?_
                exact Steps.refl _)
              obtain ⟨Ls, cL⟩ := H1 (4 : Int32) (144 : Int32) (191 : Int32) c132
              have hv : own_run (b0 &&& 255) (b1 &&& 255) (b2 &&& 255) (b3 &&& 255) = own_l1 (4 : Int32) (144 : Int32) (191 : Int32) (b1 &&& 255) (b2 &&& 255) (b3 &&& 255) := by simp [own_run, own_r2, own_r3, hb12, hb31, hb50, hb96, hb103, hb112]
              rw [← hv] at cL
              obtain ⟨fs, hr, hrun, hended, hW, hsame⟩ := X0.leave (v := some (.int (own_run (b0 &&& 255) (b1 &&& 255) (b2 &&& 255) (b3 &&& 255)))) (fun h => by rw [Bd.returns] at h; cases h)
              exact ⟨_, _, cL.trans (retOut X0 hx (t := .int) (i := .ireturn) Bd.returns rfl (Or.inl ⟨rfl, Or.inl rfl, _, rfl⟩) (hb hby own_dc217) hr), hrun, hended, _, _, rfl, ⟨rfl, N0, e0⟩, ⟨_, rfl⟩, hW, hsame.mono (by decide) (by decide)⟩
            · have c133 : Steps p.tables e below S0 (s₁.setTop (mkF m 123 #[.val (.ref a), .val (.int (0 : Int32)), .val (.int (b0 &&& (255 : Int32))), .val (.int (4 : Int32)), .val (.int (128 : Int32)), .val (.int (191 : Int32)), .unset, .unset] [])) := c129.trans (by
                refine XS.icmpYes X0.here hx rfl (pc0 := 112) (pc' := 123) rfl (hb hby own_dc112) rfl (feq hb112).2 (by decide) (by decide) ?_
                exact Steps.refl _)
              have c134 : Steps p.tables e below S0 (s₁.setTop (mkF m 127 #[.val (.ref a), .val (.int (0 : Int32)), .val (.int (b0 &&& (255 : Int32))), .val (.int (4 : Int32)), .val (.int (128 : Int32)), .val (.int (191 : Int32)), .unset, .unset] [(.int (244 : Int32)), (.int (b0 &&& (255 : Int32)))])) := c133.trans (by
                refine XS.iloadN X0.here hx rfl (hb hby own_dc123) rfl ?_
                show Steps p.tables e below (s₁.setTop (mkF m 124 #[.val (.ref a), .val (.int (0 : Int32)), .val (.int (b0 &&& (255 : Int32))), .val (.int (4 : Int32)), .val (.int (128 : Int32)), .val (.int (191 : Int32)), .unset, .unset] [(.int (b0 &&& (255 : Int32)))])) _
                refine XS.sipush X0.here hx rfl (hb hby own_dc124) ?_
                exact Steps.refl _)
              by_cases hb127 : (b0 &&& (255 : Int32)) = (244 : Int32)
              · have c135 : Steps p.tables e below S0 (s₁.setTop (mkF m 130 #[.val (.ref a), .val (.int (0 : Int32)), .val (.int (b0 &&& (255 : Int32))), .val (.int (4 : Int32)), .val (.int (128 : Int32)), .val (.int (191 : Int32)), .unset, .unset] [])) := c134.trans (by
                  refine XS.icmpNo X0.here hx rfl (hb hby own_dc127) rfl (teq hb127).2 ?_
                  exact Steps.refl _)
                have c136 : Steps p.tables e below S0 (s₁.setTop (mkF m 140 #[.val (.ref a), .val (.int (0 : Int32)), .val (.int (b0 &&& (255 : Int32))), .val (.int (4 : Int32)), .val (.int (128 : Int32)), .val (.int (143 : Int32)), .unset, .unset] [])) := c135.trans (by
                  refine XS.sipush X0.here hx rfl (hb hby own_dc130) ?_
                  show Steps p.tables e below (s₁.setTop (mkF m 133 #[.val (.ref a), .val (.int (0 : Int32)), .val (.int (b0 &&& (255 : Int32))), .val (.int (4 : Int32)), .val (.int (128 : Int32)), .val (.int (191 : Int32)), .unset, .unset] [(.int (143 : Int32))])) _
                  refine XS.istore X0.here hx rfl (hb hby own_dc133) rfl (l' := #[.val (.ref a), .val (.int (0 : Int32)), .val (.int (b0 &&& (255 : Int32))), .val (.int (4 : Int32)), .val (.int (128 : Int32)), .val (.int (143 : Int32)), .unset, .unset]) rfl ?_
                  show Steps p.tables e below (s₁.setTop (mkF m 135 #[.val (.ref a), .val (.int (0 : Int32)), .val (.int (b0 &&& (255 : Int32))), .val (.int (4 : Int32)), .val (.int (128 : Int32)), .val (.int (143 : Int32)), .unset, .unset] [])) _
                  refine XS.goto X0.here hx rfl (pc0 := 135) (pc' := 140) rfl (hb hby own_dc135) (by decide) (by decide) ?_
                  exact Steps.refl _)
                have c137 : Steps p.tables e below S0 (s₁.setTop (mkF m 143 #[.val (.ref a), .val (.int (0 : Int32)), .val (.int (b0 &&& (255 : Int32))), .val (.int (4 : Int32)), .val (.int (128 : Int32)), .val (.int (143 : Int32)), .val (.int (1 : Int32)), .unset] [])) := c136.trans (by
                  refine XS.iconst X0.here hx rfl (hb hby own_dc140) ?_
                  show Steps p.tables e below (s₁.setTop (mkF m 141 #[.val (.ref a), .val (.int (0 : Int32)), .val (.int (b0 &&& (255 : Int32))), .val (.int (4 : Int32)), .val (.int (128 : Int32)), .val (.int (143 : Int32)), .unset, .unset] [(.int (1 : Int32))])) _
                  refine XS.istore X0.here hx rfl (hb hby own_dc141) rfl (l' := #[.val (.ref a), .val (.int (0 : Int32)), .val (.int (b0 &&& (255 : Int32))), .val (.int (4 : Int32)), .val (.int (128 : Int32)), .val (.int (143 : Int32)), .val (.int (1 : Int32)), .unset]) rfl ?_
                  exact Steps.refl _)
                obtain ⟨Ls, cL⟩ := H1 (4 : Int32) (128 : Int32) (143 : Int32) c137
                have hv : own_run (b0 &&& 255) (b1 &&& 255) (b2 &&& 255) (b3 &&& 255) = own_l1 (4 : Int32) (128 : Int32) (143 : Int32) (b1 &&& 255) (b2 &&& 255) (b3 &&& 255) := by simp [own_run, own_r2, own_r3, hb12, hb31, hb50, hb96, hb103, hb112, hb127]
                rw [← hv] at cL
                obtain ⟨fs, hr, hrun, hended, hW, hsame⟩ := X0.leave (v := some (.int (own_run (b0 &&& 255) (b1 &&& 255) (b2 &&& 255) (b3 &&& 255)))) (fun h => by rw [Bd.returns] at h; cases h)
                exact ⟨_, _, cL.trans (retOut X0 hx (t := .int) (i := .ireturn) Bd.returns rfl (Or.inl ⟨rfl, Or.inl rfl, _, rfl⟩) (hb hby own_dc217) hr), hrun, hended, _, _, rfl, ⟨rfl, N0, e0⟩, ⟨_, rfl⟩, hW, hsame.mono (by decide) (by decide)⟩
              · have c138 : Steps p.tables e below S0 (s₁.setTop (mkF m 140 #[.val (.ref a), .val (.int (0 : Int32)), .val (.int (b0 &&& (255 : Int32))), .val (.int (4 : Int32)), .val (.int (128 : Int32)), .val (.int (191 : Int32)), .unset, .unset] [])) := c134.trans (by
                  refine XS.icmpYes X0.here hx rfl (pc0 := 127) (pc' := 140) rfl (hb hby own_dc127) rfl (feq hb127).2 (by decide) (by decide) ?_
                  exact Steps.refl _)
                have c139 : Steps p.tables e below S0 (s₁.setTop (mkF m 143 #[.val (.ref a), .val (.int (0 : Int32)), .val (.int (b0 &&& (255 : Int32))), .val (.int (4 : Int32)), .val (.int (128 : Int32)), .val (.int (191 : Int32)), .val (.int (1 : Int32)), .unset] [])) := c138.trans (by
                  refine XS.iconst X0.here hx rfl (hb hby own_dc140) ?_
                  show Steps p.tables e below (s₁.setTop (mkF m 141 #[.val (.ref a), .val (.int (0 : Int32)), .val (.int (b0 &&& (255 : Int32))), .val (.int (4 : Int32)), .val (.int (128 : Int32)), .val (.int (191 : Int32)), .unset, .unset] [(.int (1 : Int32))])) _
                  refine XS.istore X0.here hx rfl (hb hby own_dc141) rfl (l' := #[.val (.ref a), .val (.int (0 : Int32)), .val (.int (b0 &&& (255 : Int32))), .val (.int (4 : Int32)), .val (.int (128 : Int32)), .val (.int (191 : Int32)), .val (.int (1 : Int32)), .unset]) rfl ?_
                  exact Steps.refl _)
                obtain ⟨Ls, cL⟩ := H1 (4 : Int32) (128 : Int32) (191 : Int32) c139
                have hv : own_run (b0 &&& 255) (b1 &&& 255) (b2 &&& 255) (b3 &&& 255) = own_l1 (4 : Int32) (128 : Int32) (191 : Int32) (b1 &&& 255) (b2 &&& 255) (b3 &&& 255) := by simp [own_run, own_r2, own_r3, hb12, hb31, hb50, hb96, hb103, hb112, hb127]
                rw [← hv] at cL
                obtain ⟨fs, hr, hrun, hended, hW, hsame⟩ := X0.leave (v := some (.int (own_run (b0 &&& 255) (b1 &&& 255) (b2 &&& 255) (b3 &&& 255)))) (fun h => by rw [Bd.returns] at h; cases h)
                exact ⟨_, _, cL.trans (retOut X0 hx (t := .int) (i := .ireturn) Bd.returns rfl (Or.inl ⟨rfl, Or.inl rfl, _, rfl⟩) (hb hby own_dc217) hr), hrun, hended, _, _, rfl, ⟨rfl, N0, e0⟩, ⟨_, rfl⟩, hW, hsame.mono (by decide) (by decide)⟩
      · have c140 : Steps p.tables e below S0 (s₁.setTop (mkF m 53 #[.val (.ref a), .val (.int (0 : Int32)), .val (.int (b0 &&& (255 : Int32))), .unset, .val (.int (128 : Int32)), .val (.int (191 : Int32)), .unset, .unset] [])) := c119.trans (by
          refine XS.icmpNo X0.here hx rfl (hb hby own_dc50) rfl (flt hb50).1 ?_
          exact Steps.refl _)
        have c141 : Steps p.tables e below S0 (s₁.setTop (mkF m 57 #[.val (.ref a), .val (.int (0 : Int32)), .val (.int (b0 &&& (255 : Int32))), .unset, .val (.int (128 : Int32)), .val (.int (191 : Int32)), .unset, .unset] [(.int (239 : Int32)), (.int (b0 &&& (255 : Int32)))])) := c140.trans (by
          refine XS.iloadN X0.here hx rfl (hb hby own_dc53) rfl ?_
          show Steps p.tables e below (s₁.setTop (mkF m 54 #[.val (.ref a), .val (.int (0 : Int32)), .val (.int (b0 &&& (255 : Int32))), .unset, .val (.int (128 : Int32)), .val (.int (191 : Int32)), .unset, .unset] [(.int (b0 &&& (255 : Int32)))])) _
          refine XS.sipush X0.here hx rfl (hb hby own_dc54) ?_
          exact Steps.refl _)
        by_cases hb57 : (239 : Int32) < (b0 &&& (255 : Int32))
        · have c142 : Steps p.tables e below S0 (s₁.setTop (mkF m 92 #[.val (.ref a), .val (.int (0 : Int32)), .val (.int (b0 &&& (255 : Int32))), .unset, .val (.int (128 : Int32)), .val (.int (191 : Int32)), .unset, .unset] [])) := c141.trans (by
            refine XS.icmpYes X0.here hx rfl (pc0 := 57) (pc' := 92) rfl (hb hby own_dc57) rfl (tlt hb57).2.2.1 (by decide) (by decide) ?_
            exact Steps.refl _)
          have c143 : Steps p.tables e below S0 (s₁.setTop (mkF m 96 #[.val (.ref a), .val (.int (0 : Int32)), .val (.int (b0 &&& (255 : Int32))), .unset, .val (.int (128 : Int32)), .val (.int (191 : Int32)), .unset, .unset] [(.int (240 : Int32)), (.int (b0 &&& (255 : Int32)))])) := c142.trans (by
            refine XS.iloadN X0.here hx rfl (hb hby own_dc92) rfl ?_
            show Steps p.tables e below (s₁.setTop (mkF m 93 #[.val (.ref a), .val (.int (0 : Int32)), .val (.int (b0 &&& (255 : Int32))), .unset, .val (.int (128 : Int32)), .val (.int (191 : Int32)), .unset, .unset] [(.int (b0 &&& (255 : Int32)))])) _
            refine XS.sipush X0.here hx rfl (hb hby own_dc93) ?_
            exact Steps.refl _)
          by_cases hb96 : (b0 &&& (255 : Int32)) < (240 : Int32)
          · have c144 : Steps p.tables e below S0 (s₁.setTop (mkF m 138 #[.val (.ref a), .val (.int (0 : Int32)), .val (.int (b0 &&& (255 : Int32))), .unset, .val (.int (128 : Int32)), .val (.int (191 : Int32)), .unset, .unset] [])) := c143.trans (by
              refine XS.icmpYes X0.here hx rfl (pc0 := 96) (pc' := 138) rfl (hb hby own_dc96) rfl (tlt hb96).1 (by decide) (by decide) ?_
              exact Steps.refl _)
            have c145 : Steps p.tables e below S0 (s₁.setTop (mkF m 139 #[.val (.ref a), .val (.int (0 : Int32)), .val (.int (b0 &&& (255 : Int32))), .unset, .val (.int (128 : Int32)), .val (.int (191 : Int32)), .unset, .unset] [(.int (-1 : Int32))])) := c144.trans (by
              refine XS.iconst X0.here hx rfl (hb hby own_dc138) ?_
              exact Steps.refl _)
            obtain ⟨fs, hr, hrun, hended, hW, hsame⟩ := X0.leave (v := some (.int (-1 : Int32))) (fun h => by rw [Bd.returns] at h; cases h)
            exact ⟨_, _, c145.trans (retOut X0 hx (t := .int) (i := .ireturn) Bd.returns rfl (Or.inl ⟨rfl, Or.inl rfl, _, rfl⟩) (hb hby own_dc139) hr), hrun, hended, _, _, rfl, ⟨by simp [own_run, own_r2, own_r3, hb12, hb31, hb50, hb57, hb96], N0, e0⟩, ⟨_, rfl⟩, hW, hsame.mono (by decide) (by decide)⟩
          · have c146 : Steps p.tables e below S0 (s₁.setTop (mkF m 99 #[.val (.ref a), .val (.int (0 : Int32)), .val (.int (b0 &&& (255 : Int32))), .unset, .val (.int (128 : Int32)), .val (.int (191 : Int32)), .unset, .unset] [])) := c143.trans (by
              refine XS.icmpNo X0.here hx rfl (hb hby own_dc96) rfl (flt hb96).1 ?_
              exact Steps.refl _)
            have c147 : Steps p.tables e below S0 (s₁.setTop (mkF m 103 #[.val (.ref a), .val (.int (0 : Int32)), .val (.int (b0 &&& (255 : Int32))), .unset, .val (.int (128 : Int32)), .val (.int (191 : Int32)), .unset, .unset] [(.int (244 : Int32)), (.int (b0 &&& (255 : Int32)))])) := c146.trans (by
              refine XS.iloadN X0.here hx rfl (hb hby own_dc99) rfl ?_
              show Steps p.tables e below (s₁.setTop (mkF m 100 #[.val (.ref a), .val (.int (0 : Int32)), .val (.int (b0 &&& (255 : Int32))), .unset, .val (.int (128 : Int32)), .val (.int (191 : Int32)), .unset, .unset] [(.int (b0 &&& (255 : Int32)))])) _
              refine XS.sipush X0.here hx rfl (hb hby own_dc100) ?_
              exact Steps.refl _)
            by_cases hb103 : (244 : Int32) < (b0 &&& (255 : Int32))
            · have c148 : Steps p.tables e below S0 (s₁.setTop (mkF m 138 #[.val (.ref a), .val (.int (0 : Int32)), .val (.int (b0 &&& (255 : Int32))), .unset, .val (.int (128 : Int32)), .val (.int (191 : Int32)), .unset, .unset] [])) := c147.trans (by
                refine XS.icmpYes X0.here hx rfl (pc0 := 103) (pc' := 138) rfl (hb hby own_dc103) rfl (tlt hb103).2.2.1 (by decide) (by decide) ?_
                exact Steps.refl _)
              have c149 : Steps p.tables e below S0 (s₁.setTop (mkF m 139 #[.val (.ref a), .val (.int (0 : Int32)), .val (.int (b0 &&& (255 : Int32))), .unset, .val (.int (128 : Int32)), .val (.int (191 : Int32)), .unset, .unset] [(.int (-1 : Int32))])) := c148.trans (by
                refine XS.iconst X0.here hx rfl (hb hby own_dc138) ?_
                exact Steps.refl _)
              obtain ⟨fs, hr, hrun, hended, hW, hsame⟩ := X0.leave (v := some (.int (-1 : Int32))) (fun h => by rw [Bd.returns] at h; cases h)
              exact ⟨_, _, c149.trans (retOut X0 hx (t := .int) (i := .ireturn) Bd.returns rfl (Or.inl ⟨rfl, Or.inl rfl, _, rfl⟩) (hb hby own_dc139) hr), hrun, hended, _, _, rfl, ⟨by simp [own_run, own_r2, own_r3, hb12, hb31, hb50, hb57, hb96, hb103], N0, e0⟩, ⟨_, rfl⟩, hW, hsame.mono (by decide) (by decide)⟩
            · have c150 : Steps p.tables e below S0 (s₁.setTop (mkF m 106 #[.val (.ref a), .val (.int (0 : Int32)), .val (.int (b0 &&& (255 : Int32))), .unset, .val (.int (128 : Int32)), .val (.int (191 : Int32)), .unset, .unset] [])) := c147.trans (by
                refine XS.icmpNo X0.here hx rfl (hb hby own_dc103) rfl (flt hb103).2.2.1 ?_
                exact Steps.refl _)
              have c151 : Steps p.tables e below S0 (s₁.setTop (mkF m 112 #[.val (.ref a), .val (.int (0 : Int32)), .val (.int (b0 &&& (255 : Int32))), .val (.int (4 : Int32)), .val (.int (128 : Int32)), .val (.int (191 : Int32)), .unset, .unset] [(.int (240 : Int32)), (.int (b0 &&& (255 : Int32)))])) := c150.trans (by
                refine XS.iconst X0.here hx rfl (hb hby own_dc106) ?_
                show Steps p.tables e below (s₁.setTop (mkF m 107 #[.val (.ref a), .val (.int (0 : Int32)), .val (.int (b0 &&& (255 : Int32))), .unset, .val (.int (128 : Int32)), .val (.int (191 : Int32)), .unset, .unset] [(.int (4 : Int32))])) _
                refine XS.istoreN X0.here hx rfl (hb hby own_dc107) rfl (l' := #[.val (.ref a), .val (.int (0 : Int32)), .val (.int (b0 &&& (255 : Int32))), .val (.int (4 : Int32)), .val (.int (128 : Int32)), .val (.int (191 : Int32)), .unset, .unset]) rfl ?_
                show Steps p.tables e below (s₁.setTop (mkF m 108 #[.val (.ref a), .val (.int (0 : Int32)), .val (.int (b0 &&& (255 : Int32))), .val (.int (4 : Int32)), .val (.int (128 : Int32)), .val (.int (191 : Int32)), .unset, .unset] [])) _
                refine XS.iloadN X0.here hx rfl (hb hby own_dc108) rfl ?_
                show Steps p.tables e below (s₁.setTop (mkF m 109 #[.val (.ref a), .val (.int (0 : Int32)), .val (.int (b0 &&& (255 : Int32))), .val (.int (4 : Int32)), .val (.int (128 : Int32)), .val (.int (191 : Int32)), .unset, .unset] [(.int (b0 &&& (255 : Int32)))])) _
                refine XS.sipush X0.here hx rfl (hb hby own_dc109) ?_
                exact Steps.refl _)
              by_cases hb112 : (b0 &&& (255 : Int32)) = (240 : Int32)
              · have c152 : Steps p.tables e below S0 (s₁.setTop (mkF m 115 #[.val (.ref a), .val (.int (0 : Int32)), .val (.int (b0 &&& (255 : Int32))), .val (.int (4 : Int32)), .val (.int (128 : Int32)), .val (.int (191 : Int32)), .unset, .unset] [])) := c151.trans (by
                  refine XS.icmpNo X0.here hx rfl (hb hby own_dc112) rfl (teq hb112).2 ?_
                  exact Steps.refl _)
                have c153 : Steps p.tables e below S0 (s₁.setTop (mkF m 140 #[.val (.ref a), .val (.int (0 : Int32)), .val (.int (b0 &&& (255 : Int32))), .val (.int (4 : Int32)), .val (.int (144 : Int32)), .val (.int (191 : Int32)), .unset, .unset] [])) := c152.trans (by
                  refine XS.sipush X0.here hx rfl (hb hby own_dc115) ?_
                  show Steps p.tables e below (s₁.setTop (mkF m 118 #[.val (.ref a), .val (.int (0 : Int32)), .val (.int (b0 &&& (255 : Int32))), .val (.int (4 : Int32)), .val (.int (128 : Int32)), .val (.int (191 : Int32)), .unset, .unset] [(.int (144 : Int32))])) _
                  refine XS.istore X0.here hx rfl (hb hby own_dc118) rfl (l' := #[.val (.ref a), .val (.int (0 : Int32)), .val (.int (b0 &&& (255 : Int32))), .val (.int (4 : Int32)), .val (.int (144 : Int32)), .val (.int (191 : Int32)), .unset, .unset]) rfl ?_
                  show Steps p.tables e below (s₁.setTop (mkF m 120 #[.val (.ref a), .val (.int (0 : Int32)), .val (.int (b0 &&& (255 : Int32))), .val (.int (4 : Int32)), .val (.int (144 : Int32)), .val (.int (191 : Int32)), .unset, .unset] [])) _
                  refine XS.goto X0.here hx rfl (pc0 := 120) (pc' := 140) rfl (hb hby own_dc120) (by decide) (by decide) ?_
                  exact Steps.refl _)
                have c154 : Steps p.tables e below S0 (s₁.setTop (mkF m 143 #[.val (.ref a), .val (.int (0 : Int32)), .val (.int (b0 &&& (255 : Int32))), .val (.int (4 : Int32)), .val (.int (144 : Int32)), .val (.int (191 : Int32)), .val (.int (1 : Int32)), .unset] [])) := c153.trans (by
                  refine XS.iconst X0.here hx rfl (hb hby own_dc140) ?_
                  show Steps p.tables e below (s₁.setTop (mkF m 141 #[.val (.ref a), .val (.int (0 : Int32)), .val (.int (b0 &&& (255 : Int32))), .val (.int (4 : Int32)), .val (.int (144 : Int32)), .val (.int (191 : Int32)), .unset, .unset] [(.int (1 : Int32))])) _
                  refine XS.istore X0.here hx rfl (hb hby own_dc141) rfl (l' := #[.val (.ref a), .val (.int (0 : Int32)), .val (.int (b0 &&& (255 : Int32))), .val (.int (4 : Int32)), .val (.int (144 : Int32)), .val (.int (191 : Int32)), .val (.int (1 : Int32)), .unset]) rfl ?_
                  exact Steps.refl _)
                obtain ⟨Ls, cL⟩ := H1 (4 : Int32) (144 : Int32) (191 : Int32) c154
                have hv : own_run (b0 &&& 255) (b1 &&& 255) (b2 &&& 255) (b3 &&& 255) = own_l1 (4 : Int32) (144 : Int32) (191 : Int32) (b1 &&& 255) (b2 &&& 255) (b3 &&& 255) := by simp [own_run, own_r2, own_r3, hb12, hb31, hb50, hb57, hb96, hb103, hb112]
                rw [← hv] at cL
                obtain ⟨fs, hr, hrun, hended, hW, hsame⟩ := X0.leave (v := some (.int (own_run (b0 &&& 255) (b1 &&& 255) (b2 &&& 255) (b3 &&& 255)))) (fun h => by rw [Bd.returns] at h; cases h)
                exact ⟨_, _, cL.trans (retOut X0 hx (t := .int) (i := .ireturn) Bd.returns rfl (Or.inl ⟨rfl, Or.inl rfl, _, rfl⟩) (hb hby own_dc217) hr), hrun, hended, _, _, rfl, ⟨rfl, N0, e0⟩, ⟨_, rfl⟩, hW, hsame.mono (by decide) (by decide)⟩
              · have c155 : Steps p.tables e below S0 (s₁.setTop (mkF m 123 #[.val (.ref a), .val (.int (0 : Int32)), .val (.int (b0 &&& (255 : Int32))), .val (.int (4 : Int32)), .val (.int (128 : Int32)), .val (.int (191 : Int32)), .unset, .unset] [])) := c151.trans (by
                  refine XS.icmpYes X0.here hx rfl (pc0 := 112) (pc' := 123) rfl (hb hby own_dc112) rfl (feq hb112).2 (by decide) (by decide) ?_
                  exact Steps.refl _)
                have c156 : Steps p.tables e below S0 (s₁.setTop (mkF m 127 #[.val (.ref a), .val (.int (0 : Int32)), .val (.int (b0 &&& (255 : Int32))), .val (.int (4 : Int32)), .val (.int (128 : Int32)), .val (.int (191 : Int32)), .unset, .unset] [(.int (244 : Int32)), (.int (b0 &&& (255 : Int32)))])) := c155.trans (by
                  refine XS.iloadN X0.here hx rfl (hb hby own_dc123) rfl ?_
                  show Steps p.tables e below (s₁.setTop (mkF m 124 #[.val (.ref a), .val (.int (0 : Int32)), .val (.int (b0 &&& (255 : Int32))), .val (.int (4 : Int32)), .val (.int (128 : Int32)), .val (.int (191 : Int32)), .unset, .unset] [(.int (b0 &&& (255 : Int32)))])) _
                  refine XS.sipush X0.here hx rfl (hb hby own_dc124) ?_
                  exact Steps.refl _)
                by_cases hb127 : (b0 &&& (255 : Int32)) = (244 : Int32)
                · have c157 : Steps p.tables e below S0 (s₁.setTop (mkF m 130 #[.val (.ref a), .val (.int (0 : Int32)), .val (.int (b0 &&& (255 : Int32))), .val (.int (4 : Int32)), .val (.int (128 : Int32)), .val (.int (191 : Int32)), .unset, .unset] [])) := c156.trans (by
                    refine XS.icmpNo X0.here hx rfl (hb hby own_dc127) rfl (teq hb127).2 ?_
                    exact Steps.refl _)
                  have c158 : Steps p.tables e below S0 (s₁.setTop (mkF m 140 #[.val (.ref a), .val (.int (0 : Int32)), .val (.int (b0 &&& (255 : Int32))), .val (.int (4 : Int32)), .val (.int (128 : Int32)), .val (.int (143 : Int32)), .unset, .unset] [])) := c157.trans (by
                    refine XS.sipush X0.here hx rfl (hb hby own_dc130) ?_
                    show Steps p.tables e below (s₁.setTop (mkF m 133 #[.val (.ref a), .val (.int (0 : Int32)), .val (.int (b0 &&& (255 : Int32))), .val (.int (4 : Int32)), .val (.int (128 : Int32)), .val (.int (191 : Int32)), .unset, .unset] [(.int (143 : Int32))])) _
                    refine XS.istore X0.here hx rfl (hb hby own_dc133) rfl (l' := #[.val (.ref a), .val (.int (0 : Int32)), .val (.int (b0 &&& (255 : Int32))), .val (.int (4 : Int32)), .val (.int (128 : Int32)), .val (.int (143 : Int32)), .unset, .unset]) rfl ?_
                    show Steps p.tables e below (s₁.setTop (mkF m 135 #[.val (.ref a), .val (.int (0 : Int32)), .val (.int (b0 &&& (255 : Int32))), .val (.int (4 : Int32)), .val (.int (128 : Int32)), .val (.int (143 : Int32)), .unset, .unset] [])) _
                    refine XS.goto X0.here hx rfl (pc0 := 135) (pc' := 140) rfl (hb hby own_dc135) (by decide) (by decide) ?_
                    exact Steps.refl _)
                  have c159 : Steps p.tables e below S0 (s₁.setTop (mkF m 143 #[.val (.ref a), .val (.int (0 : Int32)), .val (.int (b0 &&& (255 : Int32))), .val (.int (4 : Int32)), .val (.int (128 : Int32)), .val (.int (143 : Int32)), .val (.int (1 : Int32)), .unset] [])) := c158.trans (by
                    refine XS.iconst X0.here hx rfl (hb hby own_dc140) ?_
                    show Steps p.tables e below (s₁.setTop (mkF m 141 #[.val (.ref a), .val (.int (0 : Int32)), .val (.int (b0 &&& (255 : Int32))), .val (.int (4 : Int32)), .val (.int (128 : Int32)), .val (.int (143 : Int32)), .unset, .unset] [(.int (1 : Int32))])) _
                    refine XS.istore X0.here hx rfl (hb hby own_dc141) rfl (l' := #[.val (.ref a), .val (.int (0 : Int32)), .val (.int (b0 &&& (255 : Int32))), .val (.int (4 : Int32)), .val (.int (128 : Int32)), .val (.int (143 : Int32)), .val (.int (1 : Int32)), .unset]) rfl ?_
                    exact Steps.refl _)
                  obtain ⟨Ls, cL⟩ := H1 (4 : Int32) (128 : Int32) (143 : Int32) c159
                  have hv : own_run (b0 &&& 255) (b1 &&& 255) (b2 &&& 255) (b3 &&& 255) = own_l1 (4 : Int32) (128 : Int32) (143 : Int32) (b1 &&& 255) (b2 &&& 255) (b3 &&& 255) := by simp [own_run, own_r2, own_r3, hb12, hb31, hb50, hb57, hb96, hb103, hb112, hb127]
                  rw [← hv] at cL
                  obtain ⟨fs, hr, hrun, hended, hW, hsame⟩ := X0.leave (v := some (.int (own_run (b0 &&& 255) (b1 &&& 255) (b2 &&& 255) (b3 &&& 255)))) (fun h => by rw [Bd.returns] at h; cases h)
                  exact ⟨_, _, cL.trans (retOut X0 hx (t := .int) (i := .ireturn) Bd.returns rfl (Or.inl ⟨rfl, Or.inl rfl, _, rfl⟩) (hb hby own_dc217) hr), hrun, hended, _, _, rfl, ⟨rfl, N0, e0⟩, ⟨_, rfl⟩, hW, hsame.mono (by decide) (by decide)⟩
                · have c160 : Steps p.tables e below S0 (s₁.setTop (mkF m 140 #[.val (.ref a), .val (.int (0 : Int32)), .val (.int (b0 &&& (255 : Int32))), .val (.int (4 : Int32)), .val (.int (128 : Int32)), .val (.int (191 : Int32)), .unset, .unset] [])) := c156.trans (by
                    refine XS.icmpYes X0.here hx rfl (pc0 := 127) (pc' := 140) rfl (hb hby own_dc127) rfl (feq hb127).2 (by decide) (by decide) ?_
                    exact Steps.refl _)
                  have c161 : Steps p.tables e below S0 (s₁.setTop (mkF m 143 #[.val (.ref a), .val (.int (0 : Int32)), .val (.int (b0 &&& (255 : Int32))), .val (.int (4 : Int32)), .val (.int (128 : Int32)), .val (.int (191 : Int32)), .val (.int (1 : Int32)), .unset] [])) := c160.trans (by
                    refine XS.iconst X0.here hx rfl (hb hby own_dc140) ?_
                    show Steps p.tables e below (s₁.setTop (mkF m 141 #[.val (.ref a), .val (.int (0 : Int32)), .val (.int (b0 &&& (255 : Int32))), .val (.int (4 : Int32)), .val (.int (128 : Int32)), .val (.int (191 : Int32)), .unset, .unset] [(.int (1 : Int32))])) _
                    refine XS.istore X0.here hx rfl (hb hby own_dc141) rfl (l' := #[.val (.ref a), .val (.int (0 : Int32)), .val (.int (b0 &&& (255 : Int32))), .val (.int (4 : Int32)), .val (.int (128 : Int32)), .val (.int (191 : Int32)), .val (.int (1 : Int32)), .unset]) rfl ?_
                    exact Steps.refl _)
                  obtain ⟨Ls, cL⟩ := H1 (4 : Int32) (128 : Int32) (191 : Int32) c161
                  have hv : own_run (b0 &&& 255) (b1 &&& 255) (b2 &&& 255) (b3 &&& 255) = own_l1 (4 : Int32) (128 : Int32) (191 : Int32) (b1 &&& 255) (b2 &&& 255) (b3 &&& 255) := by simp [own_run, own_r2, own_r3, hb12, hb31, hb50, hb57, hb96, hb103, hb112, hb127]
                  rw [← hv] at cL
                  obtain ⟨fs, hr, hrun, hended, hW, hsame⟩ := X0.leave (v := some (.int (own_run (b0 &&& 255) (b1 &&& 255) (b2 &&& 255) (b3 &&& 255)))) (fun h => by rw [Bd.returns] at h; cases h)
                  exact ⟨_, _, cL.trans (retOut X0 hx (t := .int) (i := .ireturn) Bd.returns rfl (Or.inl ⟨rfl, Or.inl rfl, _, rfl⟩) (hb hby own_dc217) hr), hrun, hended, _, _, rfl, ⟨rfl, N0, e0⟩, ⟨_, rfl⟩, hW, hsame.mono (by decide) (by decide)⟩
        · have c162 : Steps p.tables e below S0 (s₁.setTop (mkF m 60 #[.val (.ref a), .val (.int (0 : Int32)), .val (.int (b0 &&& (255 : Int32))), .unset, .val (.int (128 : Int32)), .val (.int (191 : Int32)), .unset, .unset] [])) := c141.trans (by
            refine XS.icmpNo X0.here hx rfl (hb hby own_dc57) rfl (flt hb57).2.2.1 ?_
            exact Steps.refl _)
          have c163 : Steps p.tables e below S0 (s₁.setTop (mkF m 66 #[.val (.ref a), .val (.int (0 : Int32)), .val (.int (b0 &&& (255 : Int32))), .val (.int (3 : Int32)), .val (.int (128 : Int32)), .val (.int (191 : Int32)), .unset, .unset] [(.int (224 : Int32)), (.int (b0 &&& (255 : Int32)))])) := c162.trans (by
            refine XS.iconst X0.here hx rfl (hb hby own_dc60) ?_
            show Steps p.tables e below (s₁.setTop (mkF m 61 #[.val (.ref a), .val (.int (0 : Int32)), .val (.int (b0 &&& (255 : Int32))), .unset, .val (.int (128 : Int32)), .val (.int (191 : Int32)), .unset, .unset] [(.int (3 : Int32))])) _
            refine XS.istoreN X0.here hx rfl (hb hby own_dc61) rfl (l' := #[.val (.ref a), .val (.int (0 : Int32)), .val (.int (b0 &&& (255 : Int32))), .val (.int (3 : Int32)), .val (.int (128 : Int32)), .val (.int (191 : Int32)), .unset, .unset]) rfl ?_
            show Steps p.tables e below (s₁.setTop (mkF m 62 #[.val (.ref a), .val (.int (0 : Int32)), .val (.int (b0 &&& (255 : Int32))), .val (.int (3 : Int32)), .val (.int (128 : Int32)), .val (.int (191 : Int32)), .unset, .unset] [])) _
            refine XS.iloadN X0.here hx rfl (hb hby own_dc62) rfl ?_
            show Steps p.tables e below (s₁.setTop (mkF m 63 #[.val (.ref a), .val (.int (0 : Int32)), .val (.int (b0 &&& (255 : Int32))), .val (.int (3 : Int32)), .val (.int (128 : Int32)), .val (.int (191 : Int32)), .unset, .unset] [(.int (b0 &&& (255 : Int32)))])) _
            refine XS.sipush X0.here hx rfl (hb hby own_dc63) ?_
            exact Steps.refl _)
          by_cases hb66 : (b0 &&& (255 : Int32)) = (224 : Int32)
          · have c164 : Steps p.tables e below S0 (s₁.setTop (mkF m 69 #[.val (.ref a), .val (.int (0 : Int32)), .val (.int (b0 &&& (255 : Int32))), .val (.int (3 : Int32)), .val (.int (128 : Int32)), .val (.int (191 : Int32)), .unset, .unset] [])) := c163.trans (by
              refine XS.icmpNo X0.here hx rfl (hb hby own_dc66) rfl (teq hb66).2 ?_
              exact Steps.refl _)
            have c165 : Steps p.tables e below S0 (s₁.setTop (mkF m 140 #[.val (.ref a), .val (.int (0 : Int32)), .val (.int (b0 &&& (255 : Int32))), .val (.int (3 : Int32)), .val (.int (160 : Int32)), .val (.int (191 : Int32)), .unset, .unset] [])) := c164.trans (by
              refine XS.sipush X0.here hx rfl (hb hby own_dc69) ?_
              show Steps p.tables e below (s₁.setTop (mkF m 72 #[.val (.ref a), .val (.int (0 : Int32)), .val (.int (b0 &&& (255 : Int32))), .val (.int (3 : Int32)), .val (.int (128 : Int32)), .val (.int (191 : Int32)), .unset, .unset] [(.int (160 : Int32))])) _
              refine XS.istore X0.here hx rfl (hb hby own_dc72) rfl (l' := #[.val (.ref a), .val (.int (0 : Int32)), .val (.int (b0 &&& (255 : Int32))), .val (.int (3 : Int32)), .val (.int (160 : Int32)), .val (.int (191 : Int32)), .unset, .unset]) rfl ?_
              show Steps p.tables e below (s₁.setTop (mkF m 74 #[.val (.ref a), .val (.int (0 : Int32)), .val (.int (b0 &&& (255 : Int32))), .val (.int (3 : Int32)), .val (.int (160 : Int32)), .val (.int (191 : Int32)), .unset, .unset] [])) _
              refine XS.goto X0.here hx rfl (pc0 := 74) (pc' := 140) rfl (hb hby own_dc74) (by decide) (by decide) ?_
              exact Steps.refl _)
            have c166 : Steps p.tables e below S0 (s₁.setTop (mkF m 143 #[.val (.ref a), .val (.int (0 : Int32)), .val (.int (b0 &&& (255 : Int32))), .val (.int (3 : Int32)), .val (.int (160 : Int32)), .val (.int (191 : Int32)), .val (.int (1 : Int32)), .unset] [])) := c165.trans (by
              refine XS.iconst X0.here hx rfl (hb hby own_dc140) ?_
              show Steps p.tables e below (s₁.setTop (mkF m 141 #[.val (.ref a), .val (.int (0 : Int32)), .val (.int (b0 &&& (255 : Int32))), .val (.int (3 : Int32)), .val (.int (160 : Int32)), .val (.int (191 : Int32)), .unset, .unset] [(.int (1 : Int32))])) _
              refine XS.istore X0.here hx rfl (hb hby own_dc141) rfl (l' := #[.val (.ref a), .val (.int (0 : Int32)), .val (.int (b0 &&& (255 : Int32))), .val (.int (3 : Int32)), .val (.int (160 : Int32)), .val (.int (191 : Int32)), .val (.int (1 : Int32)), .unset]) rfl ?_
              exact Steps.refl _)
            obtain ⟨Ls, cL⟩ := H1 (3 : Int32) (160 : Int32) (191 : Int32) c166
            have hv : own_run (b0 &&& 255) (b1 &&& 255) (b2 &&& 255) (b3 &&& 255) = own_l1 (3 : Int32) (160 : Int32) (191 : Int32) (b1 &&& 255) (b2 &&& 255) (b3 &&& 255) := by simp [own_run, own_r2, own_r3, hb12, hb31, hb50, hb57, hb66]
            rw [← hv] at cL
            obtain ⟨fs, hr, hrun, hended, hW, hsame⟩ := X0.leave (v := some (.int (own_run (b0 &&& 255) (b1 &&& 255) (b2 &&& 255) (b3 &&& 255)))) (fun h => by rw [Bd.returns] at h; cases h)
            exact ⟨_, _, cL.trans (retOut X0 hx (t := .int) (i := .ireturn) Bd.returns rfl (Or.inl ⟨rfl, Or.inl rfl, _, rfl⟩) (hb hby own_dc217) hr), hrun, hended, _, _, rfl, ⟨rfl, N0, e0⟩, ⟨_, rfl⟩, hW, hsame.mono (by decide) (by decide)⟩
          · have c167 : Steps p.tables e below S0 (s₁.setTop (mkF m 77 #[.val (.ref a), .val (.int (0 : Int32)), .val (.int (b0 &&& (255 : Int32))), .val (.int (3 : Int32)), .val (.int (128 : Int32)), .val (.int (191 : Int32)), .unset, .unset] [])) := c163.trans (by
              refine XS.icmpYes X0.here hx rfl (pc0 := 66) (pc' := 77) rfl (hb hby own_dc66) rfl (feq hb66).2 (by decide) (by decide) ?_
              exact Steps.refl _)
            have c168 : Steps p.tables e below S0 (s₁.setTop (mkF m 81 #[.val (.ref a), .val (.int (0 : Int32)), .val (.int (b0 &&& (255 : Int32))), .val (.int (3 : Int32)), .val (.int (128 : Int32)), .val (.int (191 : Int32)), .unset, .unset] [(.int (237 : Int32)), (.int (b0 &&& (255 : Int32)))])) := c167.trans (by
              refine XS.iloadN X0.here hx rfl (hb hby own_dc77) rfl ?_
              show Steps p.tables e below (s₁.setTop (mkF m 78 #[.val (.ref a), .val (.int (0 : Int32)), .val (.int (b0 &&& (255 : Int32))), .val (.int (3 : Int32)), .val (.int (128 : Int32)), .val (.int (191 : Int32)), .unset, .unset] [(.int (b0 &&& (255 : Int32)))])) _
              refine XS.sipush X0.here hx rfl (hb hby own_dc78) ?_
              exact Steps.refl _)
            by_cases hb81 : (b0 &&& (255 : Int32)) = (237 : Int32)
            · have c169 : Steps p.tables e below S0 (s₁.setTop (mkF m 84 #[.val (.ref a), .val (.int (0 : Int32)), .val (.int (b0 &&& (255 : Int32))), .val (.int (3 : Int32)), .val (.int (128 : Int32)), .val (.int (191 : Int32)), .unset, .unset] [])) := c168.trans (by
                refine XS.icmpNo X0.here hx rfl (hb hby own_dc81) rfl (teq hb81).2 ?_
                exact Steps.refl _)
              have c170 : Steps p.tables e below S0 (s₁.setTop (mkF m 140 #[.val (.ref a), .val (.int (0 : Int32)), .val (.int (b0 &&& (255 : Int32))), .val (.int (3 : Int32)), .val (.int (128 : Int32)), .val (.int (159 : Int32)), .unset, .unset] [])) := c169.trans (by
                refine XS.sipush X0.here hx rfl (hb hby own_dc84) ?_
                show Steps p.tables e below (s₁.setTop (mkF m 87 #[.val (.ref a), .val (.int (0 : Int32)), .val (.int (b0 &&& (255 : Int32))), .val (.int (3 : Int32)), .val (.int (128 : Int32)), .val (.int (191 : Int32)), .unset, .unset] [(.int (159 : Int32))])) _
                refine XS.istore X0.here hx rfl (hb hby own_dc87) rfl (l' := #[.val (.ref a), .val (.int (0 : Int32)), .val (.int (b0 &&& (255 : Int32))), .val (.int (3 : Int32)), .val (.int (128 : Int32)), .val (.int (159 : Int32)), .unset, .unset]) rfl ?_
                show Steps p.tables e below (s₁.setTop (mkF m 89 #[.val (.ref a), .val (.int (0 : Int32)), .val (.int (b0 &&& (255 : Int32))), .val (.int (3 : Int32)), .val (.int (128 : Int32)), .val (.int (159 : Int32)), .unset, .unset] [])) _
                refine XS.goto X0.here hx rfl (pc0 := 89) (pc' := 140) rfl (hb hby own_dc89) (by decide) (by decide) ?_
                exact Steps.refl _)
              have c171 : Steps p.tables e below S0 (s₁.setTop (mkF m 143 #[.val (.ref a), .val (.int (0 : Int32)), .val (.int (b0 &&& (255 : Int32))), .val (.int (3 : Int32)), .val (.int (128 : Int32)), .val (.int (159 : Int32)), .val (.int (1 : Int32)), .unset] [])) := c170.trans (by
                refine XS.iconst X0.here hx rfl (hb hby own_dc140) ?_
                show Steps p.tables e below (s₁.setTop (mkF m 141 #[.val (.ref a), .val (.int (0 : Int32)), .val (.int (b0 &&& (255 : Int32))), .val (.int (3 : Int32)), .val (.int (128 : Int32)), .val (.int (159 : Int32)), .unset, .unset] [(.int (1 : Int32))])) _
                refine XS.istore X0.here hx rfl (hb hby own_dc141) rfl (l' := #[.val (.ref a), .val (.int (0 : Int32)), .val (.int (b0 &&& (255 : Int32))), .val (.int (3 : Int32)), .val (.int (128 : Int32)), .val (.int (159 : Int32)), .val (.int (1 : Int32)), .unset]) rfl ?_
                exact Steps.refl _)
              obtain ⟨Ls, cL⟩ := H1 (3 : Int32) (128 : Int32) (159 : Int32) c171
              have hv : own_run (b0 &&& 255) (b1 &&& 255) (b2 &&& 255) (b3 &&& 255) = own_l1 (3 : Int32) (128 : Int32) (159 : Int32) (b1 &&& 255) (b2 &&& 255) (b3 &&& 255) := by simp [own_run, own_r2, own_r3, hb12, hb31, hb50, hb57, hb66, hb81]
              rw [← hv] at cL
              obtain ⟨fs, hr, hrun, hended, hW, hsame⟩ := X0.leave (v := some (.int (own_run (b0 &&& 255) (b1 &&& 255) (b2 &&& 255) (b3 &&& 255)))) (fun h => by rw [Bd.returns] at h; cases h)
              exact ⟨_, _, cL.trans (retOut X0 hx (t := .int) (i := .ireturn) Bd.returns rfl (Or.inl ⟨rfl, Or.inl rfl, _, rfl⟩) (hb hby own_dc217) hr), hrun, hended, _, _, rfl, ⟨rfl, N0, e0⟩, ⟨_, rfl⟩, hW, hsame.mono (by decide) (by decide)⟩
            · have c172 : Steps p.tables e below S0 (s₁.setTop (mkF m 140 #[.val (.ref a), .val (.int (0 : Int32)), .val (.int (b0 &&& (255 : Int32))), .val (.int (3 : Int32)), .val (.int (128 : Int32)), .val (.int (191 : Int32)), .unset, .unset] [])) := c168.trans (by
                refine XS.icmpYes X0.here hx rfl (pc0 := 81) (pc' := 140) rfl (hb hby own_dc81) rfl (feq hb81).2 (by decide) (by decide) ?_
                exact Steps.refl _)
              have c173 : Steps p.tables e below S0 (s₁.setTop (mkF m 143 #[.val (.ref a), .val (.int (0 : Int32)), .val (.int (b0 &&& (255 : Int32))), .val (.int (3 : Int32)), .val (.int (128 : Int32)), .val (.int (191 : Int32)), .val (.int (1 : Int32)), .unset] [])) := c172.trans (by
                refine XS.iconst X0.here hx rfl (hb hby own_dc140) ?_
                show Steps p.tables e below (s₁.setTop (mkF m 141 #[.val (.ref a), .val (.int (0 : Int32)), .val (.int (b0 &&& (255 : Int32))), .val (.int (3 : Int32)), .val (.int (128 : Int32)), .val (.int (191 : Int32)), .unset, .unset] [(.int (1 : Int32))])) _
                refine XS.istore X0.here hx rfl (hb hby own_dc141) rfl (l' := #[.val (.ref a), .val (.int (0 : Int32)), .val (.int (b0 &&& (255 : Int32))), .val (.int (3 : Int32)), .val (.int (128 : Int32)), .val (.int (191 : Int32)), .val (.int (1 : Int32)), .unset]) rfl ?_
                exact Steps.refl _)
              obtain ⟨Ls, cL⟩ := H1 (3 : Int32) (128 : Int32) (191 : Int32) c173
              have hv : own_run (b0 &&& 255) (b1 &&& 255) (b2 &&& 255) (b3 &&& 255) = own_l1 (3 : Int32) (128 : Int32) (191 : Int32) (b1 &&& 255) (b2 &&& 255) (b3 &&& 255) := by simp [own_run, own_r2, own_r3, hb12, hb31, hb50, hb57, hb66, hb81]
              rw [← hv] at cL
              obtain ⟨fs, hr, hrun, hended, hW, hsame⟩ := X0.leave (v := some (.int (own_run (b0 &&& 255) (b1 &&& 255) (b2 &&& 255) (b3 &&& 255)))) (fun h => by rw [Bd.returns] at h; cases h)
              exact ⟨_, _, cL.trans (retOut X0 hx (t := .int) (i := .ireturn) Bd.returns rfl (Or.inl ⟨rfl, Or.inl rfl, _, rfl⟩) (hb hby own_dc217) hr), hrun, hended, _, _, rfl, ⟨rfl, N0, e0⟩, ⟨_, rfl⟩, hW, hsame.mono (by decide) (by decide)⟩
    · have c174 : Steps p.tables e below S0 (s₁.setTop (mkF m 34 #[.val (.ref a), .val (.int (0 : Int32)), .val (.int (b0 &&& (255 : Int32))), .unset, .val (.int (128 : Int32)), .val (.int (191 : Int32)), .unset, .unset] [])) := c117.trans (by
        refine XS.icmpNo X0.here hx rfl (hb hby own_dc31) rfl (flt hb31).1 ?_
        exact Steps.refl _)
      have c175 : Steps p.tables e below S0 (s₁.setTop (mkF m 38 #[.val (.ref a), .val (.int (0 : Int32)), .val (.int (b0 &&& (255 : Int32))), .unset, .val (.int (128 : Int32)), .val (.int (191 : Int32)), .unset, .unset] [(.int (223 : Int32)), (.int (b0 &&& (255 : Int32)))])) := c174.trans (by
        refine XS.iloadN X0.here hx rfl (hb hby own_dc34) rfl ?_
        show Steps p.tables e below (s₁.setTop (mkF m 35 #[.val (.ref a), .val (.int (0 : Int32)), .val (.int (b0 &&& (255 : Int32))), .unset, .val (.int (128 : Int32)), .val (.int (191 : Int32)), .unset, .unset] [(.int (b0 &&& (255 : Int32)))])) _
        refine XS.sipush X0.here hx rfl (hb hby own_dc35) ?_
        exact Steps.refl _)
      by_cases hb38 : (223 : Int32) < (b0 &&& (255 : Int32))
      · have c176 : Steps p.tables e below S0 (s₁.setTop (mkF m 46 #[.val (.ref a), .val (.int (0 : Int32)), .val (.int (b0 &&& (255 : Int32))), .unset, .val (.int (128 : Int32)), .val (.int (191 : Int32)), .unset, .unset] [])) := c175.trans (by
          refine XS.icmpYes X0.here hx rfl (pc0 := 38) (pc' := 46) rfl (hb hby own_dc38) rfl (tlt hb38).2.2.1 (by decide) (by decide) ?_
          exact Steps.refl _)
        have c177 : Steps p.tables e below S0 (s₁.setTop (mkF m 50 #[.val (.ref a), .val (.int (0 : Int32)), .val (.int (b0 &&& (255 : Int32))), .unset, .val (.int (128 : Int32)), .val (.int (191 : Int32)), .unset, .unset] [(.int (224 : Int32)), (.int (b0 &&& (255 : Int32)))])) := c176.trans (by
          refine XS.iloadN X0.here hx rfl (hb hby own_dc46) rfl ?_
          show Steps p.tables e below (s₁.setTop (mkF m 47 #[.val (.ref a), .val (.int (0 : Int32)), .val (.int (b0 &&& (255 : Int32))), .unset, .val (.int (128 : Int32)), .val (.int (191 : Int32)), .unset, .unset] [(.int (b0 &&& (255 : Int32)))])) _
          refine XS.sipush X0.here hx rfl (hb hby own_dc47) ?_
          exact Steps.refl _)
        by_cases hb50 : (b0 &&& (255 : Int32)) < (224 : Int32)
        · have c178 : Steps p.tables e below S0 (s₁.setTop (mkF m 92 #[.val (.ref a), .val (.int (0 : Int32)), .val (.int (b0 &&& (255 : Int32))), .unset, .val (.int (128 : Int32)), .val (.int (191 : Int32)), .unset, .unset] [])) := c177.trans (by
            refine XS.icmpYes X0.here hx rfl (pc0 := 50) (pc' := 92) rfl (hb hby own_dc50) rfl (tlt hb50).1 (by decide) (by decide) ?_
            exact Steps.refl _)
          have c179 : Steps p.tables e below S0 (s₁.setTop (mkF m 96 #[.val (.ref a), .val (.int (0 : Int32)), .val (.int (b0 &&& (255 : Int32))), .unset, .val (.int (128 : Int32)), .val (.int (191 : Int32)), .unset, .unset] [(.int (240 : Int32)), (.int (b0 &&& (255 : Int32)))])) := c178.trans (by
            refine XS.iloadN X0.here hx rfl (hb hby own_dc92) rfl ?_
            show Steps p.tables e below (s₁.setTop (mkF m 93 #[.val (.ref a), .val (.int (0 : Int32)), .val (.int (b0 &&& (255 : Int32))), .unset, .val (.int (128 : Int32)), .val (.int (191 : Int32)), .unset, .unset] [(.int (b0 &&& (255 : Int32)))])) _
            refine XS.sipush X0.here hx rfl (hb hby own_dc93) ?_
            exact Steps.refl _)
          by_cases hb96 : (b0 &&& (255 : Int32)) < (240 : Int32)
          · have c180 : Steps p.tables e below S0 (s₁.setTop (mkF m 138 #[.val (.ref a), .val (.int (0 : Int32)), .val (.int (b0 &&& (255 : Int32))), .unset, .val (.int (128 : Int32)), .val (.int (191 : Int32)), .unset, .unset] [])) := c179.trans (by
              refine XS.icmpYes X0.here hx rfl (pc0 := 96) (pc' := 138) rfl (hb hby own_dc96) rfl (tlt hb96).1 (by decide) (by decide) ?_
              exact Steps.refl _)
            have c181 : Steps p.tables e below S0 (s₁.setTop (mkF m 139 #[.val (.ref a), .val (.int (0 : Int32)), .val (.int (b0 &&& (255 : Int32))), .unset, .val (.int (128 : Int32)), .val (.int (191 : Int32)), .unset, .unset] [(.int (-1 : Int32))])) := c180.trans (by
              refine XS.iconst X0.here hx rfl (hb hby own_dc138) ?_
              exact Steps.refl _)
            obtain ⟨fs, hr, hrun, hended, hW, hsame⟩ := X0.leave (v := some (.int (-1 : Int32))) (fun h => by rw [Bd.returns] at h; cases h)
            exact ⟨_, _, c181.trans (retOut X0 hx (t := .int) (i := .ireturn) Bd.returns rfl (Or.inl ⟨rfl, Or.inl rfl, _, rfl⟩) (hb hby own_dc139) hr), hrun, hended, _, _, rfl, ⟨by simp [own_run, own_r2, own_r3, hb12, hb31, hb38, hb50, hb96], N0, e0⟩, ⟨_, rfl⟩, hW, hsame.mono (by decide) (by decide)⟩
          · have c182 : Steps p.tables e below S0 (s₁.setTop (mkF m 99 #[.val (.ref a), .val (.int (0 : Int32)), .val (.int (b0 &&& (255 : Int32))), .unset, .val (.int (128 : Int32)), .val (.int (191 : Int32)), .unset, .unset] [])) := c179.trans (by
              refine XS.icmpNo X0.here hx rfl (hb hby own_dc96) rfl (flt hb96).1 ?_
              exact Steps.refl _)
            have c183 : Steps p.tables e below S0 (s₁.setTop (mkF m 103 #[.val (.ref a), .val (.int (0 : Int32)), .val (.int (b0 &&& (255 : Int32))), .unset, .val (.int (128 : Int32)), .val (.int (191 : Int32)), .unset, .unset] [(.int (244 : Int32)), (.int (b0 &&& (255 : Int32)))])) := c182.trans (by
              refine XS.iloadN X0.here hx rfl (hb hby own_dc99) rfl ?_
              show Steps p.tables e below (s₁.setTop (mkF m 100 #[.val (.ref a), .val (.int (0 : Int32)), .val (.int (b0 &&& (255 : Int32))), .unset, .val (.int (128 : Int32)), .val (.int (191 : Int32)), .unset, .unset] [(.int (b0 &&& (255 : Int32)))])) _
              refine XS.sipush X0.here hx rfl (hb hby own_dc100) ?_
              exact Steps.refl _)
            by_cases hb103 : (244 : Int32) < (b0 &&& (255 : Int32))
            · have c184 : Steps p.tables e below S0 (s₁.setTop (mkF m 138 #[.val (.ref a), .val (.int (0 : Int32)), .val (.int (b0 &&& (255 : Int32))), .unset, .val (.int (128 : Int32)), .val (.int (191 : Int32)), .unset, .unset] [])) := c183.trans (by
                refine XS.icmpYes X0.here hx rfl (pc0 := 103) (pc' := 138) rfl (hb hby own_dc103) rfl (tlt hb103).2.2.1 (by decide) (by decide) ?_
                exact Steps.refl _)
              have c185 : Steps p.tables e below S0 (s₁.setTop (mkF m 139 #[.val (.ref a), .val (.int (0 : Int32)), .val (.int (b0 &&& (255 : Int32))), .unset, .val (.int (128 : Int32)), .val (.int (191 : Int32)), .unset, .unset] [(.int (-1 : Int32))])) := c184.trans (by
                refine XS.iconst X0.here hx rfl (hb hby own_dc138) ?_
                exact Steps.refl _)
              obtain ⟨fs, hr, hrun, hended, hW, hsame⟩ := X0.leave (v := some (.int (-1 : Int32))) (fun h => by rw [Bd.returns] at h; cases h)
              exact ⟨_, _, c185.trans (retOut X0 hx (t := .int) (i := .ireturn) Bd.returns rfl (Or.inl ⟨rfl, Or.inl rfl, _, rfl⟩) (hb hby own_dc139) hr), hrun, hended, _, _, rfl, ⟨by simp [own_run, own_r2, own_r3, hb12, hb31, hb38, hb50, hb96, hb103], N0, e0⟩, ⟨_, rfl⟩, hW, hsame.mono (by decide) (by decide)⟩
            · have c186 : Steps p.tables e below S0 (s₁.setTop (mkF m 106 #[.val (.ref a), .val (.int (0 : Int32)), .val (.int (b0 &&& (255 : Int32))), .unset, .val (.int (128 : Int32)), .val (.int (191 : Int32)), .unset, .unset] [])) := c183.trans (by
                refine XS.icmpNo X0.here hx rfl (hb hby own_dc103) rfl (flt hb103).2.2.1 ?_
                exact Steps.refl _)
              have c187 : Steps p.tables e below S0 (s₁.setTop (mkF m 112 #[.val (.ref a), .val (.int (0 : Int32)), .val (.int (b0 &&& (255 : Int32))), .val (.int (4 : Int32)), .val (.int (128 : Int32)), .val (.int (191 : Int32)), .unset, .unset] [(.int (240 : Int32)), (.int (b0 &&& (255 : Int32)))])) := c186.trans (by
                refine XS.iconst X0.here hx rfl (hb hby own_dc106) ?_
                show Steps p.tables e below (s₁.setTop (mkF m 107 #[.val (.ref a), .val (.int (0 : Int32)), .val (.int (b0 &&& (255 : Int32))), .unset, .val (.int (128 : Int32)), .val (.int (191 : Int32)), .unset, .unset] [(.int (4 : Int32))])) _
                refine XS.istoreN X0.here hx rfl (hb hby own_dc107) rfl (l' := #[.val (.ref a), .val (.int (0 : Int32)), .val (.int (b0 &&& (255 : Int32))), .val (.int (4 : Int32)), .val (.int (128 : Int32)), .val (.int (191 : Int32)), .unset, .unset]) rfl ?_
                show Steps p.tables e below (s₁.setTop (mkF m 108 #[.val (.ref a), .val (.int (0 : Int32)), .val (.int (b0 &&& (255 : Int32))), .val (.int (4 : Int32)), .val (.int (128 : Int32)), .val (.int (191 : Int32)), .unset, .unset] [])) _
                refine XS.iloadN X0.here hx rfl (hb hby own_dc108) rfl ?_
                show Steps p.tables e below (s₁.setTop (mkF m 109 #[.val (.ref a), .val (.int (0 : Int32)), .val (.int (b0 &&& (255 : Int32))), .val (.int (4 : Int32)), .val (.int (128 : Int32)), .val (.int (191 : Int32)), .unset, .unset] [(.int (b0 &&& (255 : Int32)))])) _
                refine XS.sipush X0.here hx rfl (hb hby own_dc109) ?_
                exact Steps.refl _)
              by_cases hb112 : (b0 &&& (255 : Int32)) = (240 : Int32)
              · have c188 : Steps p.tables e below S0 (s₁.setTop (mkF m 115 #[.val (.ref a), .val (.int (0 : Int32)), .val (.int (b0 &&& (255 : Int32))), .val (.int (4 : Int32)), .val (.int (128 : Int32)), .val (.int (191 : Int32)), .unset, .unset] [])) := c187.trans (by
                  refine XS.icmpNo X0.here hx rfl (hb hby own_dc112) rfl (teq hb112).2 ?_
                  exact Steps.refl _)
                have c189 : Steps p.tables e below S0 (s₁.setTop (mkF m 140 #[.val (.ref a), .val (.int (0 : Int32)), .val (.int (b0 &&& (255 : Int32))), .val (.int (4 : Int32)), .val (.int (144 : Int32)), .val (.int (191 : Int32)), .unset, .unset] [])) := c188.trans (by
                  refine XS.sipush X0.here hx rfl (hb hby own_dc115) ?_
                  show Steps p.tables e below (s₁.setTop (mkF m 118 #[.val (.ref a), .val (.int (0 : Int32)), .val (.int (b0 &&& (255 : Int32))), .val (.int (4 : Int32)), .val (.int (128 : Int32)), .val (.int (191 : Int32)), .unset, .unset] [(.int (144 : Int32))])) _
                  refine XS.istore X0.here hx rfl (hb hby own_dc118) rfl (l' := #[.val (.ref a), .val (.int (0 : Int32)), .val (.int (b0 &&& (255 : Int32))), .val (.int (4 : Int32)), .val (.int (144 : Int32)), .val (.int (191 : Int32)), .unset, .unset]) rfl ?_
                  show Steps p.tables e below (s₁.setTop (mkF m 120 #[.val (.ref a), .val (.int (0 : Int32)), .val (.int (b0 &&& (255 : Int32))), .val (.int (4 : Int32)), .val (.int (144 : Int32)), .val (.int (191 : Int32)), .unset, .unset] [])) _
                  refine XS.goto X0.here hx rfl (pc0 := 120) (pc' := 140) rfl (hb hby own_dc120) (by decide) (by decide) ?_
                  exact Steps.refl _)
                have c190 : Steps p.tables e below S0 (s₁.setTop (mkF m 143 #[.val (.ref a), .val (.int (0 : Int32)), .val (.int (b0 &&& (255 : Int32))), .val (.int (4 : Int32)), .val (.int (144 : Int32)), .val (.int (191 : Int32)), .val (.int (1 : Int32)), .unset] [])) := c189.trans (by
                  refine XS.iconst X0.here hx rfl (hb hby own_dc140) ?_
                  show Steps p.tables e below (s₁.setTop (mkF m 141 #[.val (.ref a), .val (.int (0 : Int32)), .val (.int (b0 &&& (255 : Int32))), .val (.int (4 : Int32)), .val (.int (144 : Int32)), .val (.int (191 : Int32)), .unset, .unset] [(.int (1 : Int32))])) _
                  refine XS.istore X0.here hx rfl (hb hby own_dc141) rfl (l' := #[.val (.ref a), .val (.int (0 : Int32)), .val (.int (b0 &&& (255 : Int32))), .val (.int (4 : Int32)), .val (.int (144 : Int32)), .val (.int (191 : Int32)), .val (.int (1 : Int32)), .unset]) rfl ?_
                  exact Steps.refl _)
                obtain ⟨Ls, cL⟩ := H1 (4 : Int32) (144 : Int32) (191 : Int32) c190
                have hv : own_run (b0 &&& 255) (b1 &&& 255) (b2 &&& 255) (b3 &&& 255) = own_l1 (4 : Int32) (144 : Int32) (191 : Int32) (b1 &&& 255) (b2 &&& 255) (b3 &&& 255) := by simp [own_run, own_r2, own_r3, hb12, hb31, hb38, hb50, hb96, hb103, hb112]
                rw [← hv] at cL
                obtain ⟨fs, hr, hrun, hended, hW, hsame⟩ := X0.leave (v := some (.int (own_run (b0 &&& 255) (b1 &&& 255) (b2 &&& 255) (b3 &&& 255)))) (fun h => by rw [Bd.returns] at h; cases h)
                exact ⟨_, _, cL.trans (retOut X0 hx (t := .int) (i := .ireturn) Bd.returns rfl (Or.inl ⟨rfl, Or.inl rfl, _, rfl⟩) (hb hby own_dc217) hr), hrun, hended, _, _, rfl, ⟨rfl, N0, e0⟩, ⟨_, rfl⟩, hW, hsame.mono (by decide) (by decide)⟩
              · have c191 : Steps p.tables e below S0 (s₁.setTop (mkF m 123 #[.val (.ref a), .val (.int (0 : Int32)), .val (.int (b0 &&& (255 : Int32))), .val (.int (4 : Int32)), .val (.int (128 : Int32)), .val (.int (191 : Int32)), .unset, .unset] [])) := c187.trans (by
                  refine XS.icmpYes X0.here hx rfl (pc0 := 112) (pc' := 123) rfl (hb hby own_dc112) rfl (feq hb112).2 (by decide) (by decide) ?_
                  exact Steps.refl _)
                have c192 : Steps p.tables e below S0 (s₁.setTop (mkF m 127 #[.val (.ref a), .val (.int (0 : Int32)), .val (.int (b0 &&& (255 : Int32))), .val (.int (4 : Int32)), .val (.int (128 : Int32)), .val (.int (191 : Int32)), .unset, .unset] [(.int (244 : Int32)), (.int (b0 &&& (255 : Int32)))])) := c191.trans (by
                  refine XS.iloadN X0.here hx rfl (hb hby own_dc123) rfl ?_
                  show Steps p.tables e below (s₁.setTop (mkF m 124 #[.val (.ref a), .val (.int (0 : Int32)), .val (.int (b0 &&& (255 : Int32))), .val (.int (4 : Int32)), .val (.int (128 : Int32)), .val (.int (191 : Int32)), .unset, .unset] [(.int (b0 &&& (255 : Int32)))])) _
                  refine XS.sipush X0.here hx rfl (hb hby own_dc124) ?_
                  exact Steps.refl _)
                by_cases hb127 : (b0 &&& (255 : Int32)) = (244 : Int32)
                · have c193 : Steps p.tables e below S0 (s₁.setTop (mkF m 130 #[.val (.ref a), .val (.int (0 : Int32)), .val (.int (b0 &&& (255 : Int32))), .val (.int (4 : Int32)), .val (.int (128 : Int32)), .val (.int (191 : Int32)), .unset, .unset] [])) := c192.trans (by
                    refine XS.icmpNo X0.here hx rfl (hb hby own_dc127) rfl (teq hb127).2 ?_
                    exact Steps.refl _)
                  have c194 : Steps p.tables e below S0 (s₁.setTop (mkF m 140 #[.val (.ref a), .val (.int (0 : Int32)), .val (.int (b0 &&& (255 : Int32))), .val (.int (4 : Int32)), .val (.int (128 : Int32)), .val (.int (143 : Int32)), .unset, .unset] [])) := c193.trans (by
                    refine XS.sipush X0.here hx rfl (hb hby own_dc130) ?_
                    show Steps p.tables e below (s₁.setTop (mkF m 133 #[.val (.ref a), .val (.int (0 : Int32)), .val (.int (b0 &&& (255 : Int32))), .val (.int (4 : Int32)), .val (.int (128 : Int32)), .val (.int (191 : Int32)), .unset, .unset] [(.int (143 : Int32))])) _
                    refine XS.istore X0.here hx rfl (hb hby own_dc133) rfl (l' := #[.val (.ref a), .val (.int (0 : Int32)), .val (.int (b0 &&& (255 : Int32))), .val (.int (4 : Int32)), .val (.int (128 : Int32)), .val (.int (143 : Int32)), .unset, .unset]) rfl ?_
                    show Steps p.tables e below (s₁.setTop (mkF m 135 #[.val (.ref a), .val (.int (0 : Int32)), .val (.int (b0 &&& (255 : Int32))), .val (.int (4 : Int32)), .val (.int (128 : Int32)), .val (.int (143 : Int32)), .unset, .unset] [])) _
                    refine XS.goto X0.here hx rfl (pc0 := 135) (pc' := 140) rfl (hb hby own_dc135) (by decide) (by decide) ?_
                    exact Steps.refl _)
                  have c195 : Steps p.tables e below S0 (s₁.setTop (mkF m 143 #[.val (.ref a), .val (.int (0 : Int32)), .val (.int (b0 &&& (255 : Int32))), .val (.int (4 : Int32)), .val (.int (128 : Int32)), .val (.int (143 : Int32)), .val (.int (1 : Int32)), .unset] [])) := c194.trans (by
                    refine XS.iconst X0.here hx rfl (hb hby own_dc140) ?_
                    show Steps p.tables e below (s₁.setTop (mkF m 141 #[.val (.ref a), .val (.int (0 : Int32)), .val (.int (b0 &&& (255 : Int32))), .val (.int (4 : Int32)), .val (.int (128 : Int32)), .val (.int (143 : Int32)), .unset, .unset] [(.int (1 : Int32))])) _
                    refine XS.istore X0.here hx rfl (hb hby own_dc141) rfl (l' := #[.val (.ref a), .val (.int (0 : Int32)), .val (.int (b0 &&& (255 : Int32))), .val (.int (4 : Int32)), .val (.int (128 : Int32)), .val (.int (143 : Int32)), .val (.int (1 : Int32)), .unset]) rfl ?_
                    exact Steps.refl _)
                  obtain ⟨Ls, cL⟩ := H1 (4 : Int32) (128 : Int32) (143 : Int32) c195
                  have hv : own_run (b0 &&& 255) (b1 &&& 255) (b2 &&& 255) (b3 &&& 255) = own_l1 (4 : Int32) (128 : Int32) (143 : Int32) (b1 &&& 255) (b2 &&& 255) (b3 &&& 255) := by simp [own_run, own_r2, own_r3, hb12, hb31, hb38, hb50, hb96, hb103, hb112, hb127]
                  rw [← hv] at cL
                  obtain ⟨fs, hr, hrun, hended, hW, hsame⟩ := X0.leave (v := some (.int (own_run (b0 &&& 255) (b1 &&& 255) (b2 &&& 255) (b3 &&& 255)))) (fun h => by rw [Bd.returns] at h; cases h)
                  exact ⟨_, _, cL.trans (retOut X0 hx (t := .int) (i := .ireturn) Bd.returns rfl (Or.inl ⟨rfl, Or.inl rfl, _, rfl⟩) (hb hby own_dc217) hr), hrun, hended, _, _, rfl, ⟨rfl, N0, e0⟩, ⟨_, rfl⟩, hW, hsame.mono (by decide) (by decide)⟩
                · have c196 : Steps p.tables e below S0 (s₁.setTop (mkF m 140 #[.val (.ref a), .val (.int (0 : Int32)), .val (.int (b0 &&& (255 : Int32))), .val (.int (4 : Int32)), .val (.int (128 : Int32)), .val (.int (191 : Int32)), .unset, .unset] [])) := c192.trans (by
                    refine XS.icmpYes X0.here hx rfl (pc0 := 127) (pc' := 140) rfl (hb hby own_dc127) rfl (feq hb127).2 (by decide) (by decide) ?_
                    exact Steps.refl _)
                  have c197 : Steps p.tables e below S0 (s₁.setTop (mkF m 143 #[.val (.ref a), .val (.int (0 : Int32)), .val (.int (b0 &&& (255 : Int32))), .val (.int (4 : Int32)), .val (.int (128 : Int32)), .val (.int (191 : Int32)), .val (.int (1 : Int32)), .unset] [])) := c196.trans (by
                    refine XS.iconst X0.here hx rfl (hb hby own_dc140) ?_
                    show Steps p.tables e below (s₁.setTop (mkF m 141 #[.val (.ref a), .val (.int (0 : Int32)), .val (.int (b0 &&& (255 : Int32))), .val (.int (4 : Int32)), .val (.int (128 : Int32)), .val (.int (191 : Int32)), .unset, .unset] [(.int (1 : Int32))])) _
                    refine XS.istore X0.here hx rfl (hb hby own_dc141) rfl (l' := #[.val (.ref a), .val (.int (0 : Int32)), .val (.int (b0 &&& (255 : Int32))), .val (.int (4 : Int32)), .val (.int (128 : Int32)), .val (.int (191 : Int32)), .val (.int (1 : Int32)), .unset]) rfl ?_
                    exact Steps.refl _)
                  obtain ⟨Ls, cL⟩ := H1 (4 : Int32) (128 : Int32) (191 : Int32) c197
                  have hv : own_run (b0 &&& 255) (b1 &&& 255) (b2 &&& 255) (b3 &&& 255) = own_l1 (4 : Int32) (128 : Int32) (191 : Int32) (b1 &&& 255) (b2 &&& 255) (b3 &&& 255) := by simp [own_run, own_r2, own_r3, hb12, hb31, hb38, hb50, hb96, hb103, hb112, hb127]
                  rw [← hv] at cL
                  obtain ⟨fs, hr, hrun, hended, hW, hsame⟩ := X0.leave (v := some (.int (own_run (b0 &&& 255) (b1 &&& 255) (b2 &&& 255) (b3 &&& 255)))) (fun h => by rw [Bd.returns] at h; cases h)
                  exact ⟨_, _, cL.trans (retOut X0 hx (t := .int) (i := .ireturn) Bd.returns rfl (Or.inl ⟨rfl, Or.inl rfl, _, rfl⟩) (hb hby own_dc217) hr), hrun, hended, _, _, rfl, ⟨rfl, N0, e0⟩, ⟨_, rfl⟩, hW, hsame.mono (by decide) (by decide)⟩
        · have c198 : Steps p.tables e below S0 (s₁.setTop (mkF m 53 #[.val (.ref a), .val (.int (0 : Int32)), .val (.int (b0 &&& (255 : Int32))), .unset, .val (.int (128 : Int32)), .val (.int (191 : Int32)), .unset, .unset] [])) := c177.trans (by
            refine XS.icmpNo X0.here hx rfl (hb hby own_dc50) rfl (flt hb50).1 ?_
            exact Steps.refl _)
          have c199 : Steps p.tables e below S0 (s₁.setTop (mkF m 57 #[.val (.ref a), .val (.int (0 : Int32)), .val (.int (b0 &&& (255 : Int32))), .unset, .val (.int (128 : Int32)), .val (.int (191 : Int32)), .unset, .unset] [(.int (239 : Int32)), (.int (b0 &&& (255 : Int32)))])) := c198.trans (by
            refine XS.iloadN X0.here hx rfl (hb hby own_dc53) rfl ?_
            show Steps p.tables e below (s₁.setTop (mkF m 54 #[.val (.ref a), .val (.int (0 : Int32)), .val (.int (b0 &&& (255 : Int32))), .unset, .val (.int (128 : Int32)), .val (.int (191 : Int32)), .unset, .unset] [(.int (b0 &&& (255 : Int32)))])) _
            refine XS.sipush X0.here hx rfl (hb hby own_dc54) ?_
            exact Steps.refl _)
          by_cases hb57 : (239 : Int32) < (b0 &&& (255 : Int32))
          · have c200 : Steps p.tables e below S0 (s₁.setTop (mkF m 92 #[.val (.ref a), .val (.int (0 : Int32)), .val (.int (b0 &&& (255 : Int32))), .unset, .val (.int (128 : Int32)), .val (.int (191 : Int32)), .unset, .unset] [])) := c199.trans (by
              refine XS.icmpYes X0.here hx rfl (pc0 := 57) (pc' := 92) rfl (hb hby own_dc57) rfl (tlt hb57).2.2.1 (by decide) (by decide) ?_
              exact Steps.refl _)
            have c201 : Steps p.tables e below S0 (s₁.setTop (mkF m 96 #[.val (.ref a), .val (.int (0 : Int32)), .val (.int (b0 &&& (255 : Int32))), .unset, .val (.int (128 : Int32)), .val (.int (191 : Int32)), .unset, .unset] [(.int (240 : Int32)), (.int (b0 &&& (255 : Int32)))])) := c200.trans (by
              refine XS.iloadN X0.here hx rfl (hb hby own_dc92) rfl ?_
              show Steps p.tables e below (s₁.setTop (mkF m 93 #[.val (.ref a), .val (.int (0 : Int32)), .val (.int (b0 &&& (255 : Int32))), .unset, .val (.int (128 : Int32)), .val (.int (191 : Int32)), .unset, .unset] [(.int (b0 &&& (255 : Int32)))])) _
              refine XS.sipush X0.here hx rfl (hb hby own_dc93) ?_
              exact Steps.refl _)
            by_cases hb96 : (b0 &&& (255 : Int32)) < (240 : Int32)
            · have c202 : Steps p.tables e below S0 (s₁.setTop (mkF m 138 #[.val (.ref a), .val (.int (0 : Int32)), .val (.int (b0 &&& (255 : Int32))), .unset, .val (.int (128 : Int32)), .val (.int (191 : Int32)), .unset, .unset] [])) := c201.trans (by
                refine XS.icmpYes X0.here hx rfl (pc0 := 96) (pc' := 138) rfl (hb hby own_dc96) rfl (tlt hb96).1 (by decide) (by decide) ?_
                exact Steps.refl _)
              have c203 : Steps p.tables e below S0 (s₁.setTop (mkF m 139 #[.val (.ref a), .val (.int (0 : Int32)), .val (.int (b0 &&& (255 : Int32))), .unset, .val (.int (128 : Int32)), .val (.int (191 : Int32)), .unset, .unset] [(.int (-1 : Int32))])) := c202.trans (by
                refine XS.iconst X0.here hx rfl (hb hby own_dc138) ?_
                exact Steps.refl _)
              obtain ⟨fs, hr, hrun, hended, hW, hsame⟩ := X0.leave (v := some (.int (-1 : Int32))) (fun h => by rw [Bd.returns] at h; cases h)
              exact ⟨_, _, c203.trans (retOut X0 hx (t := .int) (i := .ireturn) Bd.returns rfl (Or.inl ⟨rfl, Or.inl rfl, _, rfl⟩) (hb hby own_dc139) hr), hrun, hended, _, _, rfl, ⟨by simp [own_run, own_r2, own_r3, hb12, hb31, hb38, hb50, hb57, hb96], N0, e0⟩, ⟨_, rfl⟩, hW, hsame.mono (by decide) (by decide)⟩
            · have c204 : Steps p.tables e below S0 (s₁.setTop (mkF m 99 #[.val (.ref a), .val (.int (0 : Int32)), .val (.int (b0 &&& (255 : Int32))), .unset, .val (.int (128 : Int32)), .val (.int (191 : Int32)), .unset, .unset] [])) := c201.trans (by
                refine XS.icmpNo X0.here hx rfl (hb hby own_dc96) rfl (flt hb96).1 ?_
                exact Steps.refl _)
              have c205 : Steps p.tables e below S0 (s₁.setTop (mkF m 103 #[.val (.ref a), .val (.int (0 : Int32)), .val (.int (b0 &&& (255 : Int32))), .unset, .val (.int (128 : Int32)), .val (.int (191 : Int32)), .unset, .unset] [(.int (244 : Int32)), (.int (b0 &&& (255 : Int32)))])) := c204.trans (by
                refine XS.iloadN X0.here hx rfl (hb hby own_dc99) rfl ?_
                show Steps p.tables e below (s₁.setTop (mkF m 100 #[.val (.ref a), .val (.int (0 : Int32)), .val (.int (b0 &&& (255 : Int32))), .unset, .val (.int (128 : Int32)), .val (.int (191 : Int32)), .unset, .unset] [(.int (b0 &&& (255 : Int32)))])) _
                refine XS.sipush X0.here hx rfl (hb hby own_dc100) ?_
                exact Steps.refl _)
              by_cases hb103 : (244 : Int32) < (b0 &&& (255 : Int32))
              · have c206 : Steps p.tables e below S0 (s₁.setTop (mkF m 138 #[.val (.ref a), .val (.int (0 : Int32)), .val (.int (b0 &&& (255 : Int32))), .unset, .val (.int (128 : Int32)), .val (.int (191 : Int32)), .unset, .unset] [])) := c205.trans (by
                  refine XS.icmpYes X0.here hx rfl (pc0 := 103) (pc' := 138) rfl (hb hby own_dc103) rfl (tlt hb103).2.2.1 (by decide) (by decide) ?_
                  exact Steps.refl _)
                have c207 : Steps p.tables e below S0 (s₁.setTop (mkF m 139 #[.val (.ref a), .val (.int (0 : Int32)), .val (.int (b0 &&& (255 : Int32))), .unset, .val (.int (128 : Int32)), .val (.int (191 : Int32)), .unset, .unset] [(.int (-1 : Int32))])) := c206.trans (by
                  refine XS.iconst X0.here hx rfl (hb hby own_dc138) ?_
                  exact Steps.refl _)
                obtain ⟨fs, hr, hrun, hended, hW, hsame⟩ := X0.leave (v := some (.int (-1 : Int32))) (fun h => by rw [Bd.returns] at h; cases h)
                exact ⟨_, _, c207.trans (retOut X0 hx (t := .int) (i := .ireturn) Bd.returns rfl (Or.inl ⟨rfl, Or.inl rfl, _, rfl⟩) (hb hby own_dc139) hr), hrun, hended, _, _, rfl, ⟨by simp [own_run, own_r2, own_r3, hb12, hb31, hb38, hb50, hb57, hb96, hb103], N0, e0⟩, ⟨_, rfl⟩, hW, hsame.mono (by decide) (by decide)⟩
              · have c208 : Steps p.tables e below S0 (s₁.setTop (mkF m 106 #[.val (.ref a), .val (.int (0 : Int32)), .val (.int (b0 &&& (255 : Int32))), .unset, .val (.int (128 : Int32)), .val (.int (191 : Int32)), .unset, .unset] [])) := c205.trans (by
                  refine XS.icmpNo X0.here hx rfl (hb hby own_dc103) rfl (flt hb103).2.2.1 ?_
                  exact Steps.refl _)
                have c209 : Steps p.tables e below S0 (s₁.setTop (mkF m 112 #[.val (.ref a), .val (.int (0 : Int32)), .val (.int (b0 &&& (255 : Int32))), .val (.int (4 : Int32)), .val (.int (128 : Int32)), .val (.int (191 : Int32)), .unset, .unset] [(.int (240 : Int32)), (.int (b0 &&& (255 : Int32)))])) := c208.trans (by
                  refine XS.iconst X0.here hx rfl (hb hby own_dc106) ?_
                  show Steps p.tables e below (s₁.setTop (mkF m 107 #[.val (.ref a), .val (.int (0 : Int32)), .val (.int (b0 &&& (255 : Int32))), .unset, .val (.int (128 : Int32)), .val (.int (191 : Int32)), .unset, .unset] [(.int (4 : Int32))])) _
                  refine XS.istoreN X0.here hx rfl (hb hby own_dc107) rfl (l' := #[.val (.ref a), .val (.int (0 : Int32)), .val (.int (b0 &&& (255 : Int32))), .val (.int (4 : Int32)), .val (.int (128 : Int32)), .val (.int (191 : Int32)), .unset, .unset]) rfl ?_
                  show Steps p.tables e below (s₁.setTop (mkF m 108 #[.val (.ref a), .val (.int (0 : Int32)), .val (.int (b0 &&& (255 : Int32))), .val (.int (4 : Int32)), .val (.int (128 : Int32)), .val (.int (191 : Int32)), .unset, .unset] [])) _
                  refine XS.iloadN X0.here hx rfl (hb hby own_dc108) rfl ?_
                  show Steps p.tables e below (s₁.setTop (mkF m 109 #[.val (.ref a), .val (.int (0 : Int32)), .val (.int (b0 &&& (255 : Int32))), .val (.int (4 : Int32)), .val (.int (128 : Int32)), .val (.int (191 : Int32)), .unset, .unset] [(.int (b0 &&& (255 : Int32)))])) _
                  refine XS.sipush X0.here hx rfl (hb hby own_dc109) ?_
                  exact Steps.refl _)
                by_cases hb112 : (b0 &&& (255 : Int32)) = (240 : Int32)
                · have c210 : Steps p.tables e below S0 (s₁.setTop (mkF m 115 #[.val (.ref a), .val (.int (0 : Int32)), .val (.int (b0 &&& (255 : Int32))), .val (.int (4 : Int32)), .val (.int (128 : Int32)), .val (.int (191 : Int32)), .unset, .unset] [])) := c209.trans (by
                    refine XS.icmpNo X0.here hx rfl (hb hby own_dc112) rfl (teq hb112).2 ?_
                    exact Steps.refl _)
                  have c211 : Steps p.tables e below S0 (s₁.setTop (mkF m 140 #[.val (.ref a), .val (.int (0 : Int32)), .val (.int (b0 &&& (255 : Int32))), .val (.int (4 : Int32)), .val (.int (144 : Int32)), .val (.int (191 : Int32)), .unset, .unset] [])) := c210.trans (by
                    refine XS.sipush X0.here hx rfl (hb hby own_dc115) ?_
                    show Steps p.tables e below (s₁.setTop (mkF m 118 #[.val (.ref a), .val (.int (0 : Int32)), .val (.int (b0 &&& (255 : Int32))), .val (.int (4 : Int32)), .val (.int (128 : Int32)), .val (.int (191 : Int32)), .unset, .unset] [(.int (144 : Int32))])) _
                    refine XS.istore X0.here hx rfl (hb hby own_dc118) rfl (l' := #[.val (.ref a), .val (.int (0 : Int32)), .val (.int (b0 &&& (255 : Int32))), .val (.int (4 : Int32)), .val (.int (144 : Int32)), .val (.int (191 : Int32)), .unset, .unset]) rfl ?_
                    show Steps p.tables e below (s₁.setTop (mkF m 120 #[.val (.ref a), .val (.int (0 : Int32)), .val (.int (b0 &&& (255 : Int32))), .val (.int (4 : Int32)), .val (.int (144 : Int32)), .val (.int (191 : Int32)), .unset, .unset] [])) _
                    refine XS.goto X0.here hx rfl (pc0 := 120) (pc' := 140) rfl (hb hby own_dc120) (by decide) (by decide) ?_
                    exact Steps.refl _)
                  have c212 : Steps p.tables e below S0 (s₁.setTop (mkF m 143 #[.val (.ref a), .val (.int (0 : Int32)), .val (.int (b0 &&& (255 : Int32))), .val (.int (4 : Int32)), .val (.int (144 : Int32)), .val (.int (191 : Int32)), .val (.int (1 : Int32)), .unset] [])) := c211.trans (by
                    refine XS.iconst X0.here hx rfl (hb hby own_dc140) ?_
                    show Steps p.tables e below (s₁.setTop (mkF m 141 #[.val (.ref a), .val (.int (0 : Int32)), .val (.int (b0 &&& (255 : Int32))), .val (.int (4 : Int32)), .val (.int (144 : Int32)), .val (.int (191 : Int32)), .unset, .unset] [(.int (1 : Int32))])) _
                    refine XS.istore X0.here hx rfl (hb hby own_dc141) rfl (l' := #[.val (.ref a), .val (.int (0 : Int32)), .val (.int (b0 &&& (255 : Int32))), .val (.int (4 : Int32)), .val (.int (144 : Int32)), .val (.int (191 : Int32)), .val (.int (1 : Int32)), .unset]) rfl ?_
                    exact Steps.refl _)
                  obtain ⟨Ls, cL⟩ := H1 (4 : Int32) (144 : Int32) (191 : Int32) c212
                  have hv : own_run (b0 &&& 255) (b1 &&& 255) (b2 &&& 255) (b3 &&& 255) = own_l1 (4 : Int32) (144 : Int32) (191 : Int32) (b1 &&& 255) (b2 &&& 255) (b3 &&& 255) := by simp [own_run, own_r2, own_r3, hb12, hb31, hb38, hb50, hb57, hb96, hb103, hb112]
                  rw [← hv] at cL
                  obtain ⟨fs, hr, hrun, hended, hW, hsame⟩ := X0.leave (v := some (.int (own_run (b0 &&& 255) (b1 &&& 255) (b2 &&& 255) (b3 &&& 255)))) (fun h => by rw [Bd.returns] at h; cases h)
                  exact ⟨_, _, cL.trans (retOut X0 hx (t := .int) (i := .ireturn) Bd.returns rfl (Or.inl ⟨rfl, Or.inl rfl, _, rfl⟩) (hb hby own_dc217) hr), hrun, hended, _, _, rfl, ⟨rfl, N0, e0⟩, ⟨_, rfl⟩, hW, hsame.mono (by decide) (by decide)⟩
                · have c213 : Steps p.tables e below S0 (s₁.setTop (mkF m 123 #[.val (.ref a), .val (.int (0 : Int32)), .val (.int (b0 &&& (255 : Int32))), .val (.int (4 : Int32)), .val (.int (128 : Int32)), .val (.int (191 : Int32)), .unset, .unset] [])) := c209.trans (by
                    refine XS.icmpYes X0.here hx rfl (pc0 := 112) (pc' := 123) rfl (hb hby own_dc112) rfl (feq hb112).2 (by decide) (by decide) ?_
                    exact Steps.refl _)
                  have c214 : Steps p.tables e below S0 (s₁.setTop (mkF m 127 #[.val (.ref a), .val (.int (0 : Int32)), .val (.int (b0 &&& (255 : Int32))), .val (.int (4 : Int32)), .val (.int (128 : Int32)), .val (.int (191 : Int32)), .unset, .unset] [(.int (244 : Int32)), (.int (b0 &&& (255 : Int32)))])) := c213.trans (by
                    refine XS.iloadN X0.here hx rfl (hb hby own_dc123) rfl ?_
                    show Steps p.tables e below (s₁.setTop (mkF m 124 #[.val (.ref a), .val (.int (0 : Int32)), .val (.int (b0 &&& (255 : Int32))), .val (.int (4 : Int32)), .val (.int (128 : Int32)), .val (.int (191 : Int32)), .unset, .unset] [(.int (b0 &&& (255 : Int32)))])) _
                    refine XS.sipush X0.here hx rfl (hb hby own_dc124) ?_
                    exact Steps.refl _)
                  by_cases hb127 : (b0 &&& (255 : Int32)) = (244 : Int32)
                  · have c215 : Steps p.tables e below S0 (s₁.setTop (mkF m 130 #[.val (.ref a), .val (.int (0 : Int32)), .val (.int (b0 &&& (255 : Int32))), .val (.int (4 : Int32)), .val (.int (128 : Int32)), .val (.int (191 : Int32)), .unset, .unset] [])) := c214.trans (by
                      refine XS.icmpNo X0.here hx rfl (hb hby own_dc127) rfl (teq hb127).2 ?_
                      exact Steps.refl _)
                    have c216 : Steps p.tables e below S0 (s₁.setTop (mkF m 140 #[.val (.ref a), .val (.int (0 : Int32)), .val (.int (b0 &&& (255 : Int32))), .val (.int (4 : Int32)), .val (.int (128 : Int32)), .val (.int (143 : Int32)), .unset, .unset] [])) := c215.trans (by
                      refine XS.sipush X0.here hx rfl (hb hby own_dc130) ?_
                      show Steps p.tables e below (s₁.setTop (mkF m 133 #[.val (.ref a), .val (.int (0 : Int32)), .val (.int (b0 &&& (255 : Int32))), .val (.int (4 : Int32)), .val (.int (128 : Int32)), .val (.int (191 : Int32)), .unset, .unset] [(.int (143 : Int32))])) _
                      refine XS.istore X0.here hx rfl (hb hby own_dc133) rfl (l' := #[.val (.ref a), .val (.int (0 : Int32)), .val (.int (b0 &&& (255 : Int32))), .val (.int (4 : Int32)), .val (.int (128 : Int32)), .val (.int (143 : Int32)), .unset, .unset]) rfl ?_
                      show Steps p.tables e below (s₁.setTop (mkF m 135 #[.val (.ref a), .val (.int (0 : Int32)), .val (.int (b0 &&& (255 : Int32))), .val (.int (4 : Int32)), .val (.int (128 : Int32)), .val (.int (143 : Int32)), .unset, .unset] [])) _
                      refine XS.goto X0.here hx rfl (pc0 := 135) (pc' := 140) rfl (hb hby own_dc135) (by decide) (by decide) ?_
                      exact Steps.refl _)
                    have c217 : Steps p.tables e below S0 (s₁.setTop (mkF m 143 #[.val (.ref a), .val (.int (0 : Int32)), .val (.int (b0 &&& (255 : Int32))), .val (.int (4 : Int32)), .val (.int (128 : Int32)), .val (.int (143 : Int32)), .val (.int (1 : Int32)), .unset] [])) := c216.trans (by
                      refine XS.iconst X0.here hx rfl (hb hby own_dc140) ?_
                      show Steps p.tables e below (s₁.setTop (mkF m 141 #[.val (.ref a), .val (.int (0 : Int32)), .val (.int (b0 &&& (255 : Int32))), .val (.int (4 : Int32)), .val (.int (128 : Int32)), .val (.int (143 : Int32)), .unset, .unset] [(.int (1 : Int32))])) _
                      refine XS.istore X0.here hx rfl (hb hby own_dc141) rfl (l' := #[.val (.ref a), .val (.int (0 : Int32)), .val (.int (b0 &&& (255 : Int32))), .val (.int (4 : Int32)), .val (.int (128 : Int32)), .val (.int (143 : Int32)), .val (.int (1 : Int32)), .unset]) rfl ?_
                      exact Steps.refl _)
                    obtain ⟨Ls, cL⟩ := H1 (4 : Int32) (128 : Int32) (143 : Int32) c217
                    have hv : own_run (b0 &&& 255) (b1 &&& 255) (b2 &&& 255) (b3 &&& 255) = own_l1 (4 : Int32) (128 : Int32) (143 : Int32) (b1 &&& 255) (b2 &&& 255) (b3 &&& 255) := by simp [own_run, own_r2, own_r3, hb12, hb31, hb38, hb50, hb57, hb96, hb103, hb112, hb127]
                    rw [← hv] at cL
                    obtain ⟨fs, hr, hrun, hended, hW, hsame⟩ := X0.leave (v := some (.int (own_run (b0 &&& 255) (b1 &&& 255) (b2 &&& 255) (b3 &&& 255)))) (fun h => by rw [Bd.returns] at h; cases h)
                    exact ⟨_, _, cL.trans (retOut X0 hx (t := .int) (i := .ireturn) Bd.returns rfl (Or.inl ⟨rfl, Or.inl rfl, _, rfl⟩) (hb hby own_dc217) hr), hrun, hended, _, _, rfl, ⟨rfl, N0, e0⟩, ⟨_, rfl⟩, hW, hsame.mono (by decide) (by decide)⟩
                  · have c218 : Steps p.tables e below S0 (s₁.setTop (mkF m 140 #[.val (.ref a), .val (.int (0 : Int32)), .val (.int (b0 &&& (255 : Int32))), .val (.int (4 : Int32)), .val (.int (128 : Int32)), .val (.int (191 : Int32)), .unset, .unset] [])) := c214.trans (by
                      refine XS.icmpYes X0.here hx rfl (pc0 := 127) (pc' := 140) rfl (hb hby own_dc127) rfl (feq hb127).2 (by decide) (by decide) ?_
                      exact Steps.refl _)
                    have c219 : Steps p.tables e below S0 (s₁.setTop (mkF m 143 #[.val (.ref a), .val (.int (0 : Int32)), .val (.int (b0 &&& (255 : Int32))), .val (.int (4 : Int32)), .val (.int (128 : Int32)), .val (.int (191 : Int32)), .val (.int (1 : Int32)), .unset] [])) := c218.trans (by
                      refine XS.iconst X0.here hx rfl (hb hby own_dc140) ?_
                      show Steps p.tables e below (s₁.setTop (mkF m 141 #[.val (.ref a), .val (.int (0 : Int32)), .val (.int (b0 &&& (255 : Int32))), .val (.int (4 : Int32)), .val (.int (128 : Int32)), .val (.int (191 : Int32)), .unset, .unset] [(.int (1 : Int32))])) _
                      refine XS.istore X0.here hx rfl (hb hby own_dc141) rfl (l' := #[.val (.ref a), .val (.int (0 : Int32)), .val (.int (b0 &&& (255 : Int32))), .val (.int (4 : Int32)), .val (.int (128 : Int32)), .val (.int (191 : Int32)), .val (.int (1 : Int32)), .unset]) rfl ?_
                      exact Steps.refl _)
                    obtain ⟨Ls, cL⟩ := H1 (4 : Int32) (128 : Int32) (191 : Int32) c219
                    have hv : own_run (b0 &&& 255) (b1 &&& 255) (b2 &&& 255) (b3 &&& 255) = own_l1 (4 : Int32) (128 : Int32) (191 : Int32) (b1 &&& 255) (b2 &&& 255) (b3 &&& 255) := by simp [own_run, own_r2, own_r3, hb12, hb31, hb38, hb50, hb57, hb96, hb103, hb112, hb127]
                    rw [← hv] at cL
                    obtain ⟨fs, hr, hrun, hended, hW, hsame⟩ := X0.leave (v := some (.int (own_run (b0 &&& 255) (b1 &&& 255) (b2 &&& 255) (b3 &&& 255)))) (fun h => by rw [Bd.returns] at h; cases h)
                    exact ⟨_, _, cL.trans (retOut X0 hx (t := .int) (i := .ireturn) Bd.returns rfl (Or.inl ⟨rfl, Or.inl rfl, _, rfl⟩) (hb hby own_dc217) hr), hrun, hended, _, _, rfl, ⟨rfl, N0, e0⟩, ⟨_, rfl⟩, hW, hsame.mono (by decide) (by decide)⟩
          · have c220 : Steps p.tables e below S0 (s₁.setTop (mkF m 60 #[.val (.ref a), .val (.int (0 : Int32)), .val (.int (b0 &&& (255 : Int32))), .unset, .val (.int (128 : Int32)), .val (.int (191 : Int32)), .unset, .unset] [])) := c199.trans (by
              refine XS.icmpNo X0.here hx rfl (hb hby own_dc57) rfl (flt hb57).2.2.1 ?_
              exact Steps.refl _)
            have c221 : Steps p.tables e below S0 (s₁.setTop (mkF m 66 #[.val (.ref a), .val (.int (0 : Int32)), .val (.int (b0 &&& (255 : Int32))), .val (.int (3 : Int32)), .val (.int (128 : Int32)), .val (.int (191 : Int32)), .unset, .unset] [(.int (224 : Int32)), (.int (b0 &&& (255 : Int32)))])) := c220.trans (by
              refine XS.iconst X0.here hx rfl (hb hby own_dc60) ?_
              show Steps p.tables e below (s₁.setTop (mkF m 61 #[.val (.ref a), .val (.int (0 : Int32)), .val (.int (b0 &&& (255 : Int32))), .unset, .val (.int (128 : Int32)), .val (.int (191 : Int32)), .unset, .unset] [(.int (3 : Int32))])) _
              refine XS.istoreN X0.here hx rfl (hb hby own_dc61) rfl (l' := #[.val (.ref a), .val (.int (0 : Int32)), .val (.int (b0 &&& (255 : Int32))), .val (.int (3 : Int32)), .val (.int (128 : Int32)), .val (.int (191 : Int32)), .unset, .unset]) rfl ?_
              show Steps p.tables e below (s₁.setTop (mkF m 62 #[.val (.ref a), .val (.int (0 : Int32)), .val (.int (b0 &&& (255 : Int32))), .val (.int (3 : Int32)), .val (.int (128 : Int32)), .val (.int (191 : Int32)), .unset, .unset] [])) _
              refine XS.iloadN X0.here hx rfl (hb hby own_dc62) rfl ?_
              show Steps p.tables e below (s₁.setTop (mkF m 63 #[.val (.ref a), .val (.int (0 : Int32)), .val (.int (b0 &&& (255 : Int32))), .val (.int (3 : Int32)), .val (.int (128 : Int32)), .val (.int (191 : Int32)), .unset, .unset] [(.int (b0 &&& (255 : Int32)))])) _
              refine XS.sipush X0.here hx rfl (hb hby own_dc63) ?_
              exact Steps.refl _)
            by_cases hb66 : (b0 &&& (255 : Int32)) = (224 : Int32)
            · have c222 : Steps p.tables e below S0 (s₁.setTop (mkF m 69 #[.val (.ref a), .val (.int (0 : Int32)), .val (.int (b0 &&& (255 : Int32))), .val (.int (3 : Int32)), .val (.int (128 : Int32)), .val (.int (191 : Int32)), .unset, .unset] [])) := c221.trans (by
                refine XS.icmpNo X0.here hx rfl (hb hby own_dc66) rfl (teq hb66).2 ?_
                exact Steps.refl _)
              have c223 : Steps p.tables e below S0 (s₁.setTop (mkF m 140 #[.val (.ref a), .val (.int (0 : Int32)), .val (.int (b0 &&& (255 : Int32))), .val (.int (3 : Int32)), .val (.int (160 : Int32)), .val (.int (191 : Int32)), .unset, .unset] [])) := c222.trans (by
                refine XS.sipush X0.here hx rfl (hb hby own_dc69) ?_
                show Steps p.tables e below (s₁.setTop (mkF m 72 #[.val (.ref a), .val (.int (0 : Int32)), .val (.int (b0 &&& (255 : Int32))), .val (.int (3 : Int32)), .val (.int (128 : Int32)), .val (.int (191 : Int32)), .unset, .unset] [(.int (160 : Int32))])) _
                refine XS.istore X0.here hx rfl (hb hby own_dc72) rfl (l' := #[.val (.ref a), .val (.int (0 : Int32)), .val (.int (b0 &&& (255 : Int32))), .val (.int (3 : Int32)), .val (.int (160 : Int32)), .val (.int (191 : Int32)), .unset, .unset]) rfl ?_
                show Steps p.tables e below (s₁.setTop (mkF m 74 #[.val (.ref a), .val (.int (0 : Int32)), .val (.int (b0 &&& (255 : Int32))), .val (.int (3 : Int32)), .val (.int (160 : Int32)), .val (.int (191 : Int32)), .unset, .unset] [])) _
                refine XS.goto X0.here hx rfl (pc0 := 74) (pc' := 140) rfl (hb hby own_dc74) (by decide) (by decide) ?_
                exact Steps.refl _)
              have c224 : Steps p.tables e below S0 (s₁.setTop (mkF m 143 #[.val (.ref a), .val (.int (0 : Int32)), .val (.int (b0 &&& (255 : Int32))), .val (.int (3 : Int32)), .val (.int (160 : Int32)), .val (.int (191 : Int32)), .val (.int (1 : Int32)), .unset] [])) := c223.trans (by
                refine XS.iconst X0.here hx rfl (hb hby own_dc140) ?_
                show Steps p.tables e below (s₁.setTop (mkF m 141 #[.val (.ref a), .val (.int (0 : Int32)), .val (.int (b0 &&& (255 : Int32))), .val (.int (3 : Int32)), .val (.int (160 : Int32)), .val (.int (191 : Int32)), .unset, .unset] [(.int (1 : Int32))])) _
                refine XS.istore X0.here hx rfl (hb hby own_dc141) rfl (l' := #[.val (.ref a), .val (.int (0 : Int32)), .val (.int (b0 &&& (255 : Int32))), .val (.int (3 : Int32)), .val (.int (160 : Int32)), .val (.int (191 : Int32)), .val (.int (1 : Int32)), .unset]) rfl ?_
                exact Steps.refl _)
              obtain ⟨Ls, cL⟩ := H1 (3 : Int32) (160 : Int32) (191 : Int32) c224
              have hv : own_run (b0 &&& 255) (b1 &&& 255) (b2 &&& 255) (b3 &&& 255) = own_l1 (3 : Int32) (160 : Int32) (191 : Int32) (b1 &&& 255) (b2 &&& 255) (b3 &&& 255) := by simp [own_run, own_r2, own_r3, hb12, hb31, hb38, hb50, hb57, hb66]
              rw [← hv] at cL
              obtain ⟨fs, hr, hrun, hended, hW, hsame⟩ := X0.leave (v := some (.int (own_run (b0 &&& 255) (b1 &&& 255) (b2 &&& 255) (b3 &&& 255)))) (fun h => by rw [Bd.returns] at h; cases h)
              exact ⟨_, _, cL.trans (retOut X0 hx (t := .int) (i := .ireturn) Bd.returns rfl (Or.inl ⟨rfl, Or.inl rfl, _, rfl⟩) (hb hby own_dc217) hr), hrun, hended, _, _, rfl, ⟨rfl, N0, e0⟩, ⟨_, rfl⟩, hW, hsame.mono (by decide) (by decide)⟩
            · have c225 : Steps p.tables e below S0 (s₁.setTop (mkF m 77 #[.val (.ref a), .val (.int (0 : Int32)), .val (.int (b0 &&& (255 : Int32))), .val (.int (3 : Int32)), .val (.int (128 : Int32)), .val (.int (191 : Int32)), .unset, .unset] [])) := c221.trans (by
                refine XS.icmpYes X0.here hx rfl (pc0 := 66) (pc' := 77) rfl (hb hby own_dc66) rfl (feq hb66).2 (by decide) (by decide) ?_
                exact Steps.refl _)
              have c226 : Steps p.tables e below S0 (s₁.setTop (mkF m 81 #[.val (.ref a), .val (.int (0 : Int32)), .val (.int (b0 &&& (255 : Int32))), .val (.int (3 : Int32)), .val (.int (128 : Int32)), .val (.int (191 : Int32)), .unset, .unset] [(.int (237 : Int32)), (.int (b0 &&& (255 : Int32)))])) := c225.trans (by
                refine XS.iloadN X0.here hx rfl (hb hby own_dc77) rfl ?_
                show Steps p.tables e below (s₁.setTop (mkF m 78 #[.val (.ref a), .val (.int (0 : Int32)), .val (.int (b0 &&& (255 : Int32))), .val (.int (3 : Int32)), .val (.int (128 : Int32)), .val (.int (191 : Int32)), .unset, .unset] [(.int (b0 &&& (255 : Int32)))])) _
                refine XS.sipush X0.here hx rfl (hb hby own_dc78) ?_
                exact Steps.refl _)
              by_cases hb81 : (b0 &&& (255 : Int32)) = (237 : Int32)
              · have c227 : Steps p.tables e below S0 (s₁.setTop (mkF m 84 #[.val (.ref a), .val (.int (0 : Int32)), .val (.int (b0 &&& (255 : Int32))), .val (.int (3 : Int32)), .val (.int (128 : Int32)), .val (.int (191 : Int32)), .unset, .unset] [])) := c226.trans (by
                  refine XS.icmpNo X0.here hx rfl (hb hby own_dc81) rfl (teq hb81).2 ?_
                  exact Steps.refl _)
                have c228 : Steps p.tables e below S0 (s₁.setTop (mkF m 140 #[.val (.ref a), .val (.int (0 : Int32)), .val (.int (b0 &&& (255 : Int32))), .val (.int (3 : Int32)), .val (.int (128 : Int32)), .val (.int (159 : Int32)), .unset, .unset] [])) := c227.trans (by
                  refine XS.sipush X0.here hx rfl (hb hby own_dc84) ?_
                  show Steps p.tables e below (s₁.setTop (mkF m 87 #[.val (.ref a), .val (.int (0 : Int32)), .val (.int (b0 &&& (255 : Int32))), .val (.int (3 : Int32)), .val (.int (128 : Int32)), .val (.int (191 : Int32)), .unset, .unset] [(.int (159 : Int32))])) _
                  refine XS.istore X0.here hx rfl (hb hby own_dc87) rfl (l' := #[.val (.ref a), .val (.int (0 : Int32)), .val (.int (b0 &&& (255 : Int32))), .val (.int (3 : Int32)), .val (.int (128 : Int32)), .val (.int (159 : Int32)), .unset, .unset]) rfl ?_
                  show Steps p.tables e below (s₁.setTop (mkF m 89 #[.val (.ref a), .val (.int (0 : Int32)), .val (.int (b0 &&& (255 : Int32))), .val (.int (3 : Int32)), .val (.int (128 : Int32)), .val (.int (159 : Int32)), .unset, .unset] [])) _
                  refine XS.goto X0.here hx rfl (pc0 := 89) (pc' := 140) rfl (hb hby own_dc89) (by decide) (by decide) ?_
                  exact Steps.refl _)
                have c229 : Steps p.tables e below S0 (s₁.setTop (mkF m 143 #[.val (.ref a), .val (.int (0 : Int32)), .val (.int (b0 &&& (255 : Int32))), .val (.int (3 : Int32)), .val (.int (128 : Int32)), .val (.int (159 : Int32)), .val (.int (1 : Int32)), .unset] [])) := c228.trans (by
                  refine XS.iconst X0.here hx rfl (hb hby own_dc140) ?_
                  show Steps p.tables e below (s₁.setTop (mkF m 141 #[.val (.ref a), .val (.int (0 : Int32)), .val (.int (b0 &&& (255 : Int32))), .val (.int (3 : Int32)), .val (.int (128 : Int32)), .val (.int (159 : Int32)), .unset, .unset] [(.int (1 : Int32))])) _
                  refine XS.istore X0.here hx rfl (hb hby own_dc141) rfl (l' := #[.val (.ref a), .val (.int (0 : Int32)), .val (.int (b0 &&& (255 : Int32))), .val (.int (3 : Int32)), .val (.int (128 : Int32)), .val (.int (159 : Int32)), .val (.int (1 : Int32)), .unset]) rfl ?_
                  exact Steps.refl _)
                obtain ⟨Ls, cL⟩ := H1 (3 : Int32) (128 : Int32) (159 : Int32) c229
                have hv : own_run (b0 &&& 255) (b1 &&& 255) (b2 &&& 255) (b3 &&& 255) = own_l1 (3 : Int32) (128 : Int32) (159 : Int32) (b1 &&& 255) (b2 &&& 255) (b3 &&& 255) := by simp [own_run, own_r2, own_r3, hb12, hb31, hb38, hb50, hb57, hb66, hb81]
                rw [← hv] at cL
                obtain ⟨fs, hr, hrun, hended, hW, hsame⟩ := X0.leave (v := some (.int (own_run (b0 &&& 255) (b1 &&& 255) (b2 &&& 255) (b3 &&& 255)))) (fun h => by rw [Bd.returns] at h; cases h)
                exact ⟨_, _, cL.trans (retOut X0 hx (t := .int) (i := .ireturn) Bd.returns rfl (Or.inl ⟨rfl, Or.inl rfl, _, rfl⟩) (hb hby own_dc217) hr), hrun, hended, _, _, rfl, ⟨rfl, N0, e0⟩, ⟨_, rfl⟩, hW, hsame.mono (by decide) (by decide)⟩
              · have c230 : Steps p.tables e below S0 (s₁.setTop (mkF m 140 #[.val (.ref a), .val (.int (0 : Int32)), .val (.int (b0 &&& (255 : Int32))), .val (.int (3 : Int32)), .val (.int (128 : Int32)), .val (.int (191 : Int32)), .unset, .unset] [])) := c226.trans (by
                  refine XS.icmpYes X0.here hx rfl (pc0 := 81) (pc' := 140) rfl (hb hby own_dc81) rfl (feq hb81).2 (by decide) (by decide) ?_
                  exact Steps.refl _)
                have c231 : Steps p.tables e below S0 (s₁.setTop (mkF m 143 #[.val (.ref a), .val (.int (0 : Int32)), .val (.int (b0 &&& (255 : Int32))), .val (.int (3 : Int32)), .val (.int (128 : Int32)), .val (.int (191 : Int32)), .val (.int (1 : Int32)), .unset] [])) := c230.trans (by
                  refine XS.iconst X0.here hx rfl (hb hby own_dc140) ?_
                  show Steps p.tables e below (s₁.setTop (mkF m 141 #[.val (.ref a), .val (.int (0 : Int32)), .val (.int (b0 &&& (255 : Int32))), .val (.int (3 : Int32)), .val (.int (128 : Int32)), .val (.int (191 : Int32)), .unset, .unset] [(.int (1 : Int32))])) _
                  refine XS.istore X0.here hx rfl (hb hby own_dc141) rfl (l' := #[.val (.ref a), .val (.int (0 : Int32)), .val (.int (b0 &&& (255 : Int32))), .val (.int (3 : Int32)), .val (.int (128 : Int32)), .val (.int (191 : Int32)), .val (.int (1 : Int32)), .unset]) rfl ?_
                  exact Steps.refl _)
                obtain ⟨Ls, cL⟩ := H1 (3 : Int32) (128 : Int32) (191 : Int32) c231
                have hv : own_run (b0 &&& 255) (b1 &&& 255) (b2 &&& 255) (b3 &&& 255) = own_l1 (3 : Int32) (128 : Int32) (191 : Int32) (b1 &&& 255) (b2 &&& 255) (b3 &&& 255) := by simp [own_run, own_r2, own_r3, hb12, hb31, hb38, hb50, hb57, hb66, hb81]
                rw [← hv] at cL
                obtain ⟨fs, hr, hrun, hended, hW, hsame⟩ := X0.leave (v := some (.int (own_run (b0 &&& 255) (b1 &&& 255) (b2 &&& 255) (b3 &&& 255)))) (fun h => by rw [Bd.returns] at h; cases h)
                exact ⟨_, _, cL.trans (retOut X0 hx (t := .int) (i := .ireturn) Bd.returns rfl (Or.inl ⟨rfl, Or.inl rfl, _, rfl⟩) (hb hby own_dc217) hr), hrun, hended, _, _, rfl, ⟨rfl, N0, e0⟩, ⟨_, rfl⟩, hW, hsame.mono (by decide) (by decide)⟩
      · have c232 : Steps p.tables e below S0 (s₁.setTop (mkF m 41 #[.val (.ref a), .val (.int (0 : Int32)), .val (.int (b0 &&& (255 : Int32))), .unset, .val (.int (128 : Int32)), .val (.int (191 : Int32)), .unset, .unset] [])) := c175.trans (by
          refine XS.icmpNo X0.here hx rfl (hb hby own_dc38) rfl (flt hb38).2.2.1 ?_
          exact Steps.refl _)
        have c233 : Steps p.tables e below S0 (s₁.setTop (mkF m 140 #[.val (.ref a), .val (.int (0 : Int32)), .val (.int (b0 &&& (255 : Int32))), .val (.int (2 : Int32)), .val (.int (128 : Int32)), .val (.int (191 : Int32)), .unset, .unset] [])) := c232.trans (by
          refine XS.iconst X0.here hx rfl (hb hby own_dc41) ?_
          show Steps p.tables e below (s₁.setTop (mkF m 42 #[.val (.ref a), .val (.int (0 : Int32)), .val (.int (b0 &&& (255 : Int32))), .unset, .val (.int (128 : Int32)), .val (.int (191 : Int32)), .unset, .unset] [(.int (2 : Int32))])) _
          refine XS.istoreN X0.here hx rfl (hb hby own_dc42) rfl (l' := #[.val (.ref a), .val (.int (0 : Int32)), .val (.int (b0 &&& (255 : Int32))), .val (.int (2 : Int32)), .val (.int (128 : Int32)), .val (.int (191 : Int32)), .unset, .unset]) rfl ?_
          show Steps p.tables e below (s₁.setTop (mkF m 43 #[.val (.ref a), .val (.int (0 : Int32)), .val (.int (b0 &&& (255 : Int32))), .val (.int (2 : Int32)), .val (.int (128 : Int32)), .val (.int (191 : Int32)), .unset, .unset] [])) _
          refine XS.goto X0.here hx rfl (pc0 := 43) (pc' := 140) rfl (hb hby own_dc43) (by decide) (by decide) ?_
          exact Steps.refl _)
        have c234 : Steps p.tables e below S0 (s₁.setTop (mkF m 143 #[.val (.ref a), .val (.int (0 : Int32)), .val (.int (b0 &&& (255 : Int32))), .val (.int (2 : Int32)), .val (.int (128 : Int32)), .val (.int (191 : Int32)), .val (.int (1 : Int32)), .unset] [])) := c233.trans (by
          refine XS.iconst X0.here hx rfl (hb hby own_dc140) ?_
          show Steps p.tables e below (s₁.setTop (mkF m 141 #[.val (.ref a), .val (.int (0 : Int32)), .val (.int (b0 &&& (255 : Int32))), .val (.int (2 : Int32)), .val (.int (128 : Int32)), .val (.int (191 : Int32)), .unset, .unset] [(.int (1 : Int32))])) _
          refine XS.istore X0.here hx rfl (hb hby own_dc141) rfl (l' := #[.val (.ref a), .val (.int (0 : Int32)), .val (.int (b0 &&& (255 : Int32))), .val (.int (2 : Int32)), .val (.int (128 : Int32)), .val (.int (191 : Int32)), .val (.int (1 : Int32)), .unset]) rfl ?_
          exact Steps.refl _)
        obtain ⟨Ls, cL⟩ := H1 (2 : Int32) (128 : Int32) (191 : Int32) c234
        have hv : own_run (b0 &&& 255) (b1 &&& 255) (b2 &&& 255) (b3 &&& 255) = own_l1 (2 : Int32) (128 : Int32) (191 : Int32) (b1 &&& 255) (b2 &&& 255) (b3 &&& 255) := by simp [own_run, own_r2, own_r3, hb12, hb31, hb38]
        rw [← hv] at cL
        obtain ⟨fs, hr, hrun, hended, hW, hsame⟩ := X0.leave (v := some (.int (own_run (b0 &&& 255) (b1 &&& 255) (b2 &&& 255) (b3 &&& 255)))) (fun h => by rw [Bd.returns] at h; cases h)
        exact ⟨_, _, cL.trans (retOut X0 hx (t := .int) (i := .ireturn) Bd.returns rfl (Or.inl ⟨rfl, Or.inl rfl, _, rfl⟩) (hb hby own_dc217) hr), hrun, hended, _, _, rfl, ⟨rfl, N0, e0⟩, ⟨_, rfl⟩, hW, hsame.mono (by decide) (by decide)⟩
theorem own_dd0 : decode prog_316_method_6_code 0 = .ok (.aload_n 0, 1) := by decide +kernel
theorem own_dd1 : decode prog_316_method_6_code 1 = .ok (.iload_n 1, 1) := by decide +kernel
theorem own_dd2 : decode prog_316_method_6_code 2 = .ok (.baload, 1) := by decide +kernel
theorem own_dd3 : decode prog_316_method_6_code 3 = .ok (.sipush 255, 3) := by decide +kernel
theorem own_dd6 : decode prog_316_method_6_code 6 = .ok (.iand, 1) := by decide +kernel
theorem own_dd7 : decode prog_316_method_6_code 7 = .ok (.istore_n 2, 1) := by decide +kernel
theorem own_dd8 : decode prog_316_method_6_code 8 = .ok (.iload_n 2, 1) := by decide +kernel
theorem own_dd9 : decode prog_316_method_6_code 9 = .ok (.sipush 128, 3) := by decide +kernel
theorem own_dd12 : decode prog_316_method_6_code 12 = .ok (.if_icmp .ge 5, 3) := by decide +kernel
theorem own_dd15 : decode prog_316_method_6_code 15 = .ok (.iload_n 2, 1) := by decide +kernel
theorem own_dd16 : decode prog_316_method_6_code 16 = .ok (.ireturn, 1) := by decide +kernel
theorem own_dd17 : decode prog_316_method_6_code 17 = .ok (.aload_n 0, 1) := by decide +kernel
theorem own_dd18 : decode prog_316_method_6_code 18 = .ok (.iload_n 1, 1) := by decide +kernel
theorem own_dd19 : decode prog_316_method_6_code 19 = .ok (.invokestatic 72, 3) := by decide +kernel
theorem own_dd22 : decode prog_316_method_6_code 22 = .ok (.istore_n 3, 1) := by decide +kernel
theorem own_dd23 : decode prog_316_method_6_code 23 = .ok (.iload_n 3, 1) := by decide +kernel
theorem own_dd24 : decode prog_316_method_6_code 24 = .ok (.invokestatic 76, 3) := by decide +kernel
theorem own_dd27 : decode prog_316_method_6_code 27 = .ok (.istore 4, 2) := by decide +kernel
theorem own_dd29 : decode prog_316_method_6_code 29 = .ok (.iload_n 2, 1) := by decide +kernel
theorem own_dd30 : decode prog_316_method_6_code 30 = .ok (.iload_n 3, 1) := by decide +kernel
theorem own_dd31 : decode prog_316_method_6_code 31 = .ok (.ifCond .le 11, 3) := by decide +kernel
theorem own_dd34 : decode prog_316_method_6_code 34 = .ok (.bipush 127, 2) := by decide +kernel
theorem own_dd36 : decode prog_316_method_6_code 36 = .ok (.iload 4, 2) := by decide +kernel
theorem own_dd38 : decode prog_316_method_6_code 38 = .ok (.ishr, 1) := by decide +kernel
theorem own_dd39 : decode prog_316_method_6_code 39 = .ok (.goto 5, 3) := by decide +kernel
theorem own_dd42 : decode prog_316_method_6_code 42 = .ok (.bipush 127, 2) := by decide +kernel
theorem own_dd44 : decode prog_316_method_6_code 44 = .ok (.iand, 1) := by decide +kernel
theorem own_dd45 : decode prog_316_method_6_code 45 = .ok (.istore 5, 2) := by decide +kernel
theorem own_dd47 : decode prog_316_method_6_code 47 = .ok (.iconst 1, 1) := by decide +kernel
theorem own_dd48 : decode prog_316_method_6_code 48 = .ok (.istore 6, 2) := by decide +kernel
theorem own_dd50 : decode prog_316_method_6_code 50 = .ok (.iload 6, 2) := by decide +kernel
theorem own_dd52 : decode prog_316_method_6_code 52 = .ok (.iload 4, 2) := by decide +kernel
theorem own_dd54 : decode prog_316_method_6_code 54 = .ok (.if_icmp .ge 26, 3) := by decide +kernel
theorem own_dd57 : decode prog_316_method_6_code 57 = .ok (.iload 5, 2) := by decide +kernel
theorem own_dd59 : decode prog_316_method_6_code 59 = .ok (.bipush 6, 2) := by decide +kernel
theorem own_dd61 : decode prog_316_method_6_code 61 = .ok (.ishl, 1) := by decide +kernel
theorem own_dd62 : decode prog_316_method_6_code 62 = .ok (.aload_n 0, 1) := by decide +kernel
theorem own_dd63 : decode prog_316_method_6_code 63 = .ok (.iload_n 1, 1) := by decide +kernel
theorem own_dd64 : decode prog_316_method_6_code 64 = .ok (.iload 6, 2) := by decide +kernel
theorem own_dd66 : decode prog_316_method_6_code 66 = .ok (.iadd, 1) := by decide +kernel
theorem own_dd67 : decode prog_316_method_6_code 67 = .ok (.baload, 1) := by decide +kernel
theorem own_dd68 : decode prog_316_method_6_code 68 = .ok (.bipush 63, 2) := by decide +kernel
theorem own_dd70 : decode prog_316_method_6_code 70 = .ok (.iand, 1) := by decide +kernel
theorem own_dd71 : decode prog_316_method_6_code 71 = .ok (.ior, 1) := by decide +kernel
theorem own_dd72 : decode prog_316_method_6_code 72 = .ok (.istore 5, 2) := by decide +kernel
theorem own_dd74 : decode prog_316_method_6_code 74 = .ok (.iinc 6 1, 3) := by decide +kernel
theorem own_dd77 : decode prog_316_method_6_code 77 = .ok (.goto (-27), 3) := by decide +kernel
theorem own_dd80 : decode prog_316_method_6_code 80 = .ok (.iload_n 3, 1) := by decide +kernel
theorem own_dd81 : decode prog_316_method_6_code 81 = .ok (.ifCond .le 8, 3) := by decide +kernel
theorem own_dd84 : decode prog_316_method_6_code 84 = .ok (.iload 5, 2) := by decide +kernel
theorem own_dd86 : decode prog_316_method_6_code 86 = .ok (.goto 8, 3) := by decide +kernel
theorem own_dd89 : decode prog_316_method_6_code 89 = .ok (.ldc 71, 2) := by decide +kernel
theorem own_dd91 : decode prog_316_method_6_code 91 = .ok (.iload 5, 2) := by decide +kernel
theorem own_dd93 : decode prog_316_method_6_code 93 = .ok (.iadd, 1) := by decide +kernel
theorem own_dd94 : decode prog_316_method_6_code 94 = .ok (.ireturn, 1) := by decide +kernel
theorem own_cat1_pn : plainName "com/example/coersa/coersa/Utf8" = true := by first | (simp [plainName, overriddenIn]; done) | decide +kernel
theorem own_cat1_ef (m : MethodId) (a : Addr) (i : Int32) : entryFrame m #[(.ref a), (.int i)] 7 = mkF m 0 #[.val (.ref a), .val (.int i), .unset, .unset, .unset, .unset, .unset] [] := by first | (simp [entryFrame, mkF, argsToLocals, Value.category]; done) | rfl
def own_cat1_Q (Z : State) (a : Addr) (i : Int32) (b0 b1 b2 b3 : Int32) (h0 : Heap) (n0 : Nat) (v : Option Value) (h : Heap) (L : List Loc) : Prop := v = some (.int (own_ca1 b0 b1 b2)) ∧ Fr n0 L ∧ h = h0
set_option maxRecDepth 65536 in
set_option maxHeartbeats 40000000 in
theorem own_cat1 (l : Launch) (Z : State) (a0 : Array Value) (hw : ∀ d ∈ tables_1, d.before a0 Z = true) (ws : List Jvm.Cond) (a : Addr) (i : Int32) (b0 b1 b2 b3 : Int32) (h0 : Heap) (n0 : Nat) (Z0 : n0 ≤ h0.size) (hi0 : i = 0) (Ar : own_BA Z h0 a b0 b1 b2 b3) (hu : ¬ ((b0 &&& 255) < 128)) (hr : own_run (b0 &&& 255) (b1 &&& 255) (b2 &&& 255) (b3 &&& 255) = -1) :
    MetFree l (⟨"com/example/coersa/coersa/Utf8", "characterAt", "([BI)I"⟩ : MethodName) (head1 (Jvm.Cond.code (⟨"com/example/coersa/coersa/Utf8", "characterAt", "([BI)I"⟩ : MethodName) prog_316_method_6_code 7 (some .int) :: ws) ({ frames := 1, cells := 0, slots := 0, locals := 32 } : Room)) (fun ars U => ars = #[(.ref a), (.int i)] ∧ Z.Warmed39 U.vm ∧ U.heap = h0) (fun _ _ _ _ _ => True) (fun _ U o U' => ∃ v L, o = .returned v ∧ own_cat1_Q Z a i b0 b1 b2 b3 h0 n0 v U'.heap L ∧ FrameEnd U o U' L ({ frames := 1, cells := 0, slots := 0, locals := 32 } : Room).cells ({ frames := 1, cells := 0, slots := 0, locals := 32 } : Room).slots) := by
  refine MetFree.of_bodySF (plainFor_of_name own_cat1_pn) hisR ?_
  intro p e s m args below meth c s₁ Bd hml0 hP hK
  obtain ⟨rfl, hZ, hh⟩ := hP
  have hx := Bd.exec
  have hby := Bd.bytes
  have hml : c.maxLocals = 7 := hml0
  have hown : s.vm.findClass "com/example/coersa/coersa/Utf8" = some m.cls := findClass_of_methodNamed Bd.named
  have hnm := (name_of_methodNamed Bd.named Bd.method).1
  have X0 : Stand p l e ({ frames := 1, cells := 0, slots := 0, locals := 32 } : Room) s m #[(.ref a), (.int i)] below meth c s₁ [] 0 0 := Stand.of_body Bd
  have e0 : s₁.heap = h0 := by rw [← hh, Bd.state]; rfl
  have N0 := Fr.nil n0
  generalize hS0 : s₁.setTop (entryFrame m #[(.ref a), (.int i)] 7) = S0
  have c0 : Steps p.tables e below S0 (s₁.setTop (mkF m 0 #[.val (.ref a), .val (.int i), .unset, .unset, .unset, .unset, .unset] [])) := by rw [← hS0]; exact castTop (own_cat1_ef m a i) (Steps.refl _)
  subst hi0
  have Ar' := Ar
  obtain ⟨cl, Ac, hcl⟩ := Ar
  have c1 : Steps p.tables e below S0 (s₁.setTop (mkF m 2 #[.val (.ref a), .val (.int (0 : Int32)), .unset, .unset, .unset, .unset, .unset] [(.int (0 : Int32)), (.ref a)])) := c0.trans (by
    refine XS.aloadN X0.here hx rfl (hb hby own_dd0) rfl rfl ?_
    show Steps p.tables e below (s₁.setTop (mkF m 1 #[.val (.ref a), .val (.int (0 : Int32)), .unset, .unset, .unset, .unset, .unset] [(.ref a)])) _
    refine XS.iloadN X0.here hx rfl (hb hby own_dd1) rfl ?_
    exact Steps.refl _)
  have c2 : Steps p.tables e below S0 (s₁.setTop (mkF m 3 #[.val (.ref a), .val (.int (0 : Int32)), .unset, .unset, .unset, .unset, .unset] [(.int b0)])) := c1.trans (by
    refine X0.baloadBytes hx (j := (0 : Int32)) (v := (.int b0)) (by rw [e0]; exact Ac.1) (State.isArrayOf_alike hZ.alike Ac.2.1) Ac.2.2 (by rw [hcl]; exact own_in4 (by decide)) (by rw [hcl]; rfl) (g := (mkF m 2 #[.val (.ref a), .val (.int (0 : Int32)), .unset, .unset, .unset, .unset, .unset] [(.int (0 : Int32)), (.ref a)])) rfl rfl (hb hby own_dd2) _ ?_
    exact Steps.refl _)
  have c3 : Steps p.tables e below S0 (s₁.setTop (mkF m 12 #[.val (.ref a), .val (.int (0 : Int32)), .val (.int (b0 &&& (255 : Int32))), .unset, .unset, .unset, .unset] [(.int (128 : Int32)), (.int (b0 &&& (255 : Int32)))])) := c2.trans (by
    refine XS.sipush X0.here hx rfl (hb hby own_dd3) ?_
    show Steps p.tables e below (s₁.setTop (mkF m 6 #[.val (.ref a), .val (.int (0 : Int32)), .unset, .unset, .unset, .unset, .unset] [(.int (255 : Int32)), (.int b0)])) _
    refine XS.iand X0.here hx rfl (hb hby own_dd6) rfl ?_
    show Steps p.tables e below (s₁.setTop (mkF m 7 #[.val (.ref a), .val (.int (0 : Int32)), .unset, .unset, .unset, .unset, .unset] [(.int (b0 &&& (255 : Int32)))])) _
    refine XS.istoreN X0.here hx rfl (hb hby own_dd7) rfl (l' := #[.val (.ref a), .val (.int (0 : Int32)), .val (.int (b0 &&& (255 : Int32))), .unset, .unset, .unset, .unset]) rfl ?_
    show Steps p.tables e below (s₁.setTop (mkF m 8 #[.val (.ref a), .val (.int (0 : Int32)), .val (.int (b0 &&& (255 : Int32))), .unset, .unset, .unset, .unset] [])) _
    refine XS.iloadN X0.here hx rfl (hb hby own_dd8) rfl ?_
    show Steps p.tables e below (s₁.setTop (mkF m 9 #[.val (.ref a), .val (.int (0 : Int32)), .val (.int (b0 &&& (255 : Int32))), .unset, .unset, .unset, .unset] [(.int (b0 &&& (255 : Int32)))])) _
    refine XS.sipush X0.here hx rfl (hb hby own_dd9) ?_
    exact Steps.refl _)
  have c4 : Steps p.tables e below S0 (s₁.setTop (mkF m 17 #[.val (.ref a), .val (.int (0 : Int32)), .val (.int (b0 &&& (255 : Int32))), .unset, .unset, .unset, .unset] [])) := c3.trans (by
    refine XS.icmpYes X0.here hx rfl (pc0 := 12) (pc' := 17) rfl (hb hby own_dd12) rfl (flt hu).2.1 (by decide) (by decide) ?_
    exact Steps.refl _)
  have c5 : Steps p.tables e below S0 (s₁.setTop (mkF m 19 #[.val (.ref a), .val (.int (0 : Int32)), .val (.int (b0 &&& (255 : Int32))), .unset, .unset, .unset, .unset] [(.int (0 : Int32)), (.ref a)])) := c4.trans (by
    refine XS.aloadN X0.here hx rfl (hb hby own_dd17) rfl rfl ?_
    show Steps p.tables e below (s₁.setTop (mkF m 18 #[.val (.ref a), .val (.int (0 : Int32)), .val (.int (b0 &&& (255 : Int32))), .unset, .unset, .unset, .unset] [(.ref a)])) _
    refine XS.iloadN X0.here hx rfl (hb hby own_dd18) rfl ?_
    exact Steps.refl _)
  obtain ⟨_, _, ⟨T6, L6, k6, n6⟩, -, X6, ⟨Lc6, hQ6, l6, y6, z6⟩, st6⟩ := Jvm.LawKit.callS X0 hx (y := (⟨"com/example/coersa/coersa/Utf8", "run", "([BI)I"⟩ : MethodName)) hown (mvT hZ (hw _ (List.mem_of_getElem? (i := 9) rfl))) (mvT hZ (hw _ (List.mem_of_getElem? (i := 10) rfl))) (mvT hZ (hw _ (List.mem_of_getElem? (i := 3) rfl))) (mvT hZ (hw _ (List.mem_of_getElem? (i := 11) rfl))) (by decide) (backOf (W := 0) (own_runm l Z a0 hw [] a 0 b0 b1 b2 b3 h0 n0 Z0 rfl Ar') hZ (hw _ (List.mem_of_getElem? (i := 11) rfl)) (hw _ (List.mem_of_getElem? (i := 3) rfl)) (by decide) (by decide)) (g := (mkF m 19 #[.val (.ref a), .val (.int (0 : Int32)), .val (.int (b0 &&& (255 : Int32))), .unset, .unset, .unset, .unset] [(.int (0 : Int32)), (.ref a)])) rfl (by rw [hml]; rfl) (argsL := [(.ref a), (.int (0 : Int32))]) (rest := []) (lenOf own_pd0 rfl) rfl (by show 2 * 0 + _ ≤ _; exact Nat.le_of_eq rfl) (hb hby own_dd19) (fun _ _ => ⟨rfl, e0, (Nat.le_of_ble_eq_true rfl), (Nat.le_of_ble_eq_true rfl)⟩)
  dsimp only [Pt.U, Pt.locs, Pt.cells, Pt.slots] at X6 l6 y6 z6 st6 hQ6
  subst l6 y6 z6
  obtain ⟨rfl, N6q, er⟩ := hQ6
  have N6 := Fr.app N0 N6q
  have c7 : Steps p.tables e below S0 (T6.setTop (mkF m 22 #[.val (.ref a), .val (.int (0 : Int32)), .val (.int (b0 &&& (255 : Int32))), .unset, .unset, .unset, .unset] [(.int (own_run (b0 &&& 255) (b1 &&& 255) (b2 &&& 255) (b3 &&& 255)))])) := c5.trans (by
    refine st6 _ ?_
    exact Steps.refl _)
  rw [hr] at c7
  have c8 : Steps p.tables e below S0 (T6.setTop (mkF m 24 #[.val (.ref a), .val (.int (0 : Int32)), .val (.int (b0 &&& (255 : Int32))), .val (.int (-1 : Int32)), .unset, .unset, .unset] [(.int (-1 : Int32))])) := c7.trans (by
    refine XS.istoreN X6.here hx rfl (hb hby own_dd22) rfl (l' := #[.val (.ref a), .val (.int (0 : Int32)), .val (.int (b0 &&& (255 : Int32))), .val (.int (-1 : Int32)), .unset, .unset, .unset]) rfl ?_
    show Steps p.tables e below (T6.setTop (mkF m 23 #[.val (.ref a), .val (.int (0 : Int32)), .val (.int (b0 &&& (255 : Int32))), .val (.int (-1 : Int32)), .unset, .unset, .unset] [])) _
    refine XS.iloadN X6.here hx rfl (hb hby own_dd23) rfl ?_
    exact Steps.refl _)
  obtain ⟨_, _, ⟨T9, L9, k9, n9⟩, -, X9, ⟨Lc9, hQ9, l9, y9, z9⟩, st9⟩ := Jvm.LawKit.callS X6 hx (y := (⟨"java/lang/Math", "abs", "(I)I"⟩ : MethodName)) hown (mvT hZ (hw _ (List.mem_of_getElem? (i := 12) rfl))) (mvT hZ (hw _ (List.mem_of_getElem? (i := 13) rfl))) (mvT hZ (hw _ (List.mem_of_getElem? (i := 14) rfl))) (mvT hZ (hw _ (List.mem_of_getElem? (i := 15) rfl))) (by decide) (backOf (W := 0) (own_absm l Z a0 hw [] (-1) h0 n0 Z0) hZ (hw _ (List.mem_of_getElem? (i := 15) rfl)) (hw _ (List.mem_of_getElem? (i := 14) rfl)) (by decide) (by decide)) (g := (mkF m 24 #[.val (.ref a), .val (.int (0 : Int32)), .val (.int (b0 &&& (255 : Int32))), .val (.int (-1 : Int32)), .unset, .unset, .unset] [(.int (-1 : Int32))])) rfl (by rw [hml]; rfl) (argsL := [(.int (-1 : Int32))]) (rest := []) (lenOf own_pd1 rfl) rfl (by show 2 * 0 + _ ≤ _; exact Nat.le_of_eq rfl) (hb hby own_dd24) (fun _ _ => ⟨rfl, er, (Nat.le_of_ble_eq_true rfl), (Nat.le_of_ble_eq_true rfl)⟩)
  dsimp only [Pt.U, Pt.locs, Pt.cells, Pt.slots] at X9 l9 y9 z9 st9 hQ9
  subst l9 y9 z9
  obtain ⟨rfl, N9q, ea⟩ := hQ9
  have N9 := Fr.app N6 N9q
  have c10 : Steps p.tables e below S0 (T9.setTop (mkF m 27 #[.val (.ref a), .val (.int (0 : Int32)), .val (.int (b0 &&& (255 : Int32))), .val (.int (-1 : Int32)), .unset, .unset, .unset] [(.int (own_abs (-1)))])) := c8.trans (by
    refine st9 _ ?_
    exact Steps.refl _)
  rw [(show own_abs (-1) = 1 by decide)] at c10
  have c11 : Steps p.tables e below S0 (T9.setTop (mkF m 31 #[.val (.ref a), .val (.int (0 : Int32)), .val (.int (b0 &&& (255 : Int32))), .val (.int (-1 : Int32)), .val (.int (1 : Int32)), .unset, .unset] [(.int (-1 : Int32)), (.int (b0 &&& (255 : Int32)))])) := c10.trans (by
    refine XS.istore X9.here hx rfl (hb hby own_dd27) rfl (l' := #[.val (.ref a), .val (.int (0 : Int32)), .val (.int (b0 &&& (255 : Int32))), .val (.int (-1 : Int32)), .val (.int (1 : Int32)), .unset, .unset]) rfl ?_
    show Steps p.tables e below (T9.setTop (mkF m 29 #[.val (.ref a), .val (.int (0 : Int32)), .val (.int (b0 &&& (255 : Int32))), .val (.int (-1 : Int32)), .val (.int (1 : Int32)), .unset, .unset] [])) _
    refine XS.iloadN X9.here hx rfl (hb hby own_dd29) rfl ?_
    show Steps p.tables e below (T9.setTop (mkF m 30 #[.val (.ref a), .val (.int (0 : Int32)), .val (.int (b0 &&& (255 : Int32))), .val (.int (-1 : Int32)), .val (.int (1 : Int32)), .unset, .unset] [(.int (b0 &&& (255 : Int32)))])) _
    refine XS.iloadN X9.here hx rfl (hb hby own_dd30) rfl ?_
    exact Steps.refl _)
  have c12 : Steps p.tables e below S0 (T9.setTop (mkF m 42 #[.val (.ref a), .val (.int (0 : Int32)), .val (.int (b0 &&& (255 : Int32))), .val (.int (-1 : Int32)), .val (.int (1 : Int32)), .unset, .unset] [(.int (b0 &&& (255 : Int32)))])) := c11.trans (by
    refine XS.ifYes X9.here hx rfl (pc0 := 31) (pc' := 42) rfl (hb hby own_dd31) rfl ((if0 _ _).trans (flt (by decide)).2.2.2) (by decide) (by decide) ?_
    exact Steps.refl _)
  have c13 : Steps p.tables e below S0 (T9.setTop (mkF m 54 #[.val (.ref a), .val (.int (0 : Int32)), .val (.int (b0 &&& (255 : Int32))), .val (.int (-1 : Int32)), .val (.int (1 : Int32)), .val (.int ((b0 &&& (255 : Int32)) &&& (127 : Int32))), .val (.int (1 : Int32))] [(.int (1 : Int32)), (.int (1 : Int32))])) := c12.trans (by
    refine XS.bipush X9.here hx rfl (hb hby own_dd42) ?_
    show Steps p.tables e below (T9.setTop (mkF m 44 #[.val (.ref a), .val (.int (0 : Int32)), .val (.int (b0 &&& (255 : Int32))), .val (.int (-1 : Int32)), .val (.int (1 : Int32)), .unset, .unset] [(.int (127 : Int32)), (.int (b0 &&& (255 : Int32)))])) _
    refine XS.iand X9.here hx rfl (hb hby own_dd44) rfl ?_
    show Steps p.tables e below (T9.setTop (mkF m 45 #[.val (.ref a), .val (.int (0 : Int32)), .val (.int (b0 &&& (255 : Int32))), .val (.int (-1 : Int32)), .val (.int (1 : Int32)), .unset, .unset] [(.int ((b0 &&& (255 : Int32)) &&& (127 : Int32)))])) _
    refine XS.istore X9.here hx rfl (hb hby own_dd45) rfl (l' := #[.val (.ref a), .val (.int (0 : Int32)), .val (.int (b0 &&& (255 : Int32))), .val (.int (-1 : Int32)), .val (.int (1 : Int32)), .val (.int ((b0 &&& (255 : Int32)) &&& (127 : Int32))), .unset]) rfl ?_
    show Steps p.tables e below (T9.setTop (mkF m 47 #[.val (.ref a), .val (.int (0 : Int32)), .val (.int (b0 &&& (255 : Int32))), .val (.int (-1 : Int32)), .val (.int (1 : Int32)), .val (.int ((b0 &&& (255 : Int32)) &&& (127 : Int32))), .unset] [])) _
    refine XS.iconst X9.here hx rfl (hb hby own_dd47) ?_
    show Steps p.tables e below (T9.setTop (mkF m 48 #[.val (.ref a), .val (.int (0 : Int32)), .val (.int (b0 &&& (255 : Int32))), .val (.int (-1 : Int32)), .val (.int (1 : Int32)), .val (.int ((b0 &&& (255 : Int32)) &&& (127 : Int32))), .unset] [(.int (1 : Int32))])) _
    refine XS.istore X9.here hx rfl (hb hby own_dd48) rfl (l' := #[.val (.ref a), .val (.int (0 : Int32)), .val (.int (b0 &&& (255 : Int32))), .val (.int (-1 : Int32)), .val (.int (1 : Int32)), .val (.int ((b0 &&& (255 : Int32)) &&& (127 : Int32))), .val (.int (1 : Int32))]) rfl ?_
    show Steps p.tables e below (T9.setTop (mkF m 50 #[.val (.ref a), .val (.int (0 : Int32)), .val (.int (b0 &&& (255 : Int32))), .val (.int (-1 : Int32)), .val (.int (1 : Int32)), .val (.int ((b0 &&& (255 : Int32)) &&& (127 : Int32))), .val (.int (1 : Int32))] [])) _
    refine XS.iload X9.here hx rfl (hb hby own_dd50) rfl ?_
    show Steps p.tables e below (T9.setTop (mkF m 52 #[.val (.ref a), .val (.int (0 : Int32)), .val (.int (b0 &&& (255 : Int32))), .val (.int (-1 : Int32)), .val (.int (1 : Int32)), .val (.int ((b0 &&& (255 : Int32)) &&& (127 : Int32))), .val (.int (1 : Int32))] [(.int (1 : Int32))])) _
    refine XS.iload X9.here hx rfl (hb hby own_dd52) rfl ?_
    exact Steps.refl _)
  have c14 : Steps p.tables e below S0 (T9.setTop (mkF m 80 #[.val (.ref a), .val (.int (0 : Int32)), .val (.int (b0 &&& (255 : Int32))), .val (.int (-1 : Int32)), .val (.int (1 : Int32)), .val (.int ((b0 &&& (255 : Int32)) &&& (127 : Int32))), .val (.int (1 : Int32))] [])) := c13.trans (by
    refine XS.icmpYes X9.here hx rfl (pc0 := 54) (pc' := 80) rfl (hb hby own_dd54) rfl (flt (by decide)).2.1 (by decide) (by decide) ?_
    exact Steps.refl _)
  have c15 : Steps p.tables e below S0 (T9.setTop (mkF m 81 #[.val (.ref a), .val (.int (0 : Int32)), .val (.int (b0 &&& (255 : Int32))), .val (.int (-1 : Int32)), .val (.int (1 : Int32)), .val (.int ((b0 &&& (255 : Int32)) &&& (127 : Int32))), .val (.int (1 : Int32))] [(.int (-1 : Int32))])) := c14.trans (by
    refine XS.iloadN X9.here hx rfl (hb hby own_dd80) rfl ?_
    exact Steps.refl _)
  have c16 : Steps p.tables e below S0 (T9.setTop (mkF m 89 #[.val (.ref a), .val (.int (0 : Int32)), .val (.int (b0 &&& (255 : Int32))), .val (.int (-1 : Int32)), .val (.int (1 : Int32)), .val (.int ((b0 &&& (255 : Int32)) &&& (127 : Int32))), .val (.int (1 : Int32))] [])) := c15.trans (by
    refine XS.ifYes X9.here hx rfl (pc0 := 81) (pc' := 89) rfl (hb hby own_dd81) rfl ((if0 _ _).trans (flt (by decide)).2.2.2) (by decide) (by decide) ?_
    exact Steps.refl _)
  have c17 : Steps p.tables e below S0 (T9.setTop (mkF m 94 #[.val (.ref a), .val (.int (0 : Int32)), .val (.int (b0 &&& (255 : Int32))), .val (.int (-1 : Int32)), .val (.int (1 : Int32)), .val (.int ((b0 &&& (255 : Int32)) &&& (127 : Int32))), .val (.int (1 : Int32))] [(.int ((1114112 : Int32) + ((b0 &&& (255 : Int32)) &&& (127 : Int32))))])) := c16.trans (by
    refine X9.ldcInt hx hown (mvT hZ (hw _ (List.mem_of_getElem? (i := 16) rfl))) (g := (mkF m 89 #[.val (.ref a), .val (.int (0 : Int32)), .val (.int (b0 &&& (255 : Int32))), .val (.int (-1 : Int32)), .val (.int (1 : Int32)), .val (.int ((b0 &&& (255 : Int32)) &&& (127 : Int32))), .val (.int (1 : Int32))] [])) rfl (hb hby own_dd89) _ ?_
    show Steps p.tables e below (T9.setTop (mkF m 91 #[.val (.ref a), .val (.int (0 : Int32)), .val (.int (b0 &&& (255 : Int32))), .val (.int (-1 : Int32)), .val (.int (1 : Int32)), .val (.int ((b0 &&& (255 : Int32)) &&& (127 : Int32))), .val (.int (1 : Int32))] [(.int (1114112 : Int32))])) _
    refine XS.iload X9.here hx rfl (hb hby own_dd91) rfl ?_
    show Steps p.tables e below (T9.setTop (mkF m 93 #[.val (.ref a), .val (.int (0 : Int32)), .val (.int (b0 &&& (255 : Int32))), .val (.int (-1 : Int32)), .val (.int (1 : Int32)), .val (.int ((b0 &&& (255 : Int32)) &&& (127 : Int32))), .val (.int (1 : Int32))] [(.int ((b0 &&& (255 : Int32)) &&& (127 : Int32))), (.int (1114112 : Int32))])) _
    refine XS.iadd X9.here hx rfl (hb hby own_dd93) rfl ?_
    exact Steps.refl _)
  obtain ⟨fs, hr, hrun, hended, hW, hsame⟩ := X9.leave (v := some (.int ((1114112 : Int32) + ((b0 &&& (255 : Int32)) &&& (127 : Int32))))) (fun h => by rw [Bd.returns] at h; cases h)
  exact ⟨_, _, c17.trans (retOut X9 hx (t := .int) (i := .ireturn) Bd.returns rfl (Or.inl ⟨rfl, Or.inl rfl, _, rfl⟩) (hb hby own_dd94) hr), hrun, hended, _, _, rfl, ⟨rfl, N9, ea⟩, ⟨_, rfl⟩, hW, hsame.mono (by decide) (by decide)⟩
theorem own_cat2_pn : plainName "com/example/coersa/coersa/Utf8" = true := by first | (simp [plainName, overriddenIn]; done) | decide +kernel
theorem own_cat2_ef (m : MethodId) (a : Addr) (i : Int32) : entryFrame m #[(.ref a), (.int i)] 7 = mkF m 0 #[.val (.ref a), .val (.int i), .unset, .unset, .unset, .unset, .unset] [] := by first | (simp [entryFrame, mkF, argsToLocals, Value.category]; done) | rfl
def own_cat2_Q (Z : State) (a : Addr) (i : Int32) (b0 b1 b2 b3 : Int32) (h0 : Heap) (n0 : Nat) (v : Option Value) (h : Heap) (L : List Loc) : Prop := v = some (.int (own_ca2 b0 b1 b2)) ∧ Fr n0 L ∧ h = h0
set_option maxRecDepth 65536 in
set_option maxHeartbeats 40000000 in
theorem own_cat2 (l : Launch) (Z : State) (a0 : Array Value) (hw : ∀ d ∈ tables_1, d.before a0 Z = true) (ws : List Jvm.Cond) (a : Addr) (i : Int32) (b0 b1 b2 b3 : Int32) (h0 : Heap) (n0 : Nat) (Z0 : n0 ≤ h0.size) (hi0 : i = 0) (Ar : own_BA Z h0 a b0 b1 b2 b3) (hu : ¬ ((b0 &&& 255) < 128)) (hr : own_run (b0 &&& 255) (b1 &&& 255) (b2 &&& 255) (b3 &&& 255) = -2) :
    MetFree l (⟨"com/example/coersa/coersa/Utf8", "characterAt", "([BI)I"⟩ : MethodName) (head1 (Jvm.Cond.code (⟨"com/example/coersa/coersa/Utf8", "characterAt", "([BI)I"⟩ : MethodName) prog_316_method_6_code 7 (some .int) :: ws) ({ frames := 1, cells := 0, slots := 0, locals := 32 } : Room)) (fun ars U => ars = #[(.ref a), (.int i)] ∧ Z.Warmed39 U.vm ∧ U.heap = h0) (fun _ _ _ _ _ => True) (fun _ U o U' => ∃ v L, o = .returned v ∧ own_cat2_Q Z a i b0 b1 b2 b3 h0 n0 v U'.heap L ∧ FrameEnd U o U' L ({ frames := 1, cells := 0, slots := 0, locals := 32 } : Room).cells ({ frames := 1, cells := 0, slots := 0, locals := 32 } : Room).slots) := by
  refine MetFree.of_bodySF (plainFor_of_name own_cat2_pn) hisR ?_
  intro p e s m args below meth c s₁ Bd hml0 hP hK
  obtain ⟨rfl, hZ, hh⟩ := hP
  have hx := Bd.exec
  have hby := Bd.bytes
  have hml : c.maxLocals = 7 := hml0
  have hown : s.vm.findClass "com/example/coersa/coersa/Utf8" = some m.cls := findClass_of_methodNamed Bd.named
  have hnm := (name_of_methodNamed Bd.named Bd.method).1
  have X0 : Stand p l e ({ frames := 1, cells := 0, slots := 0, locals := 32 } : Room) s m #[(.ref a), (.int i)] below meth c s₁ [] 0 0 := Stand.of_body Bd
  have e0 : s₁.heap = h0 := by rw [← hh, Bd.state]; rfl
  have N0 := Fr.nil n0
  generalize hS0 : s₁.setTop (entryFrame m #[(.ref a), (.int i)] 7) = S0
  have c0 : Steps p.tables e below S0 (s₁.setTop (mkF m 0 #[.val (.ref a), .val (.int i), .unset, .unset, .unset, .unset, .unset] [])) := by rw [← hS0]; exact castTop (own_cat2_ef m a i) (Steps.refl _)
  subst hi0
  have Ar' := Ar
  obtain ⟨cl, Ac, hcl⟩ := Ar
  have c1 : Steps p.tables e below S0 (s₁.setTop (mkF m 2 #[.val (.ref a), .val (.int (0 : Int32)), .unset, .unset, .unset, .unset, .unset] [(.int (0 : Int32)), (.ref a)])) := c0.trans (by
    refine XS.aloadN X0.here hx rfl (hb hby own_dd0) rfl rfl ?_
    show Steps p.tables e below (s₁.setTop (mkF m 1 #[.val (.ref a), .val (.int (0 : Int32)), .unset, .unset, .unset, .unset, .unset] [(.ref a)])) _
    refine XS.iloadN X0.here hx rfl (hb hby own_dd1) rfl ?_
    exact Steps.refl _)
  have c2 : Steps p.tables e below S0 (s₁.setTop (mkF m 3 #[.val (.ref a), .val (.int (0 : Int32)), .unset, .unset, .unset, .unset, .unset] [(.int b0)])) := c1.trans (by
    refine X0.baloadBytes hx (j := (0 : Int32)) (v := (.int b0)) (by rw [e0]; exact Ac.1) (State.isArrayOf_alike hZ.alike Ac.2.1) Ac.2.2 (by rw [hcl]; exact own_in4 (by decide)) (by rw [hcl]; rfl) (g := (mkF m 2 #[.val (.ref a), .val (.int (0 : Int32)), .unset, .unset, .unset, .unset, .unset] [(.int (0 : Int32)), (.ref a)])) rfl rfl (hb hby own_dd2) _ ?_
    exact Steps.refl _)
  have c3 : Steps p.tables e below S0 (s₁.setTop (mkF m 12 #[.val (.ref a), .val (.int (0 : Int32)), .val (.int (b0 &&& (255 : Int32))), .unset, .unset, .unset, .unset] [(.int (128 : Int32)), (.int (b0 &&& (255 : Int32)))])) := c2.trans (by
    refine XS.sipush X0.here hx rfl (hb hby own_dd3) ?_
    show Steps p.tables e below (s₁.setTop (mkF m 6 #[.val (.ref a), .val (.int (0 : Int32)), .unset, .unset, .unset, .unset, .unset] [(.int (255 : Int32)), (.int b0)])) _
    refine XS.iand X0.here hx rfl (hb hby own_dd6) rfl ?_
    show Steps p.tables e below (s₁.setTop (mkF m 7 #[.val (.ref a), .val (.int (0 : Int32)), .unset, .unset, .unset, .unset, .unset] [(.int (b0 &&& (255 : Int32)))])) _
    refine XS.istoreN X0.here hx rfl (hb hby own_dd7) rfl (l' := #[.val (.ref a), .val (.int (0 : Int32)), .val (.int (b0 &&& (255 : Int32))), .unset, .unset, .unset, .unset]) rfl ?_
    show Steps p.tables e below (s₁.setTop (mkF m 8 #[.val (.ref a), .val (.int (0 : Int32)), .val (.int (b0 &&& (255 : Int32))), .unset, .unset, .unset, .unset] [])) _
    refine XS.iloadN X0.here hx rfl (hb hby own_dd8) rfl ?_
    show Steps p.tables e below (s₁.setTop (mkF m 9 #[.val (.ref a), .val (.int (0 : Int32)), .val (.int (b0 &&& (255 : Int32))), .unset, .unset, .unset, .unset] [(.int (b0 &&& (255 : Int32)))])) _
    refine XS.sipush X0.here hx rfl (hb hby own_dd9) ?_
    exact Steps.refl _)
  have c4 : Steps p.tables e below S0 (s₁.setTop (mkF m 17 #[.val (.ref a), .val (.int (0 : Int32)), .val (.int (b0 &&& (255 : Int32))), .unset, .unset, .unset, .unset] [])) := c3.trans (by
    refine XS.icmpYes X0.here hx rfl (pc0 := 12) (pc' := 17) rfl (hb hby own_dd12) rfl (flt hu).2.1 (by decide) (by decide) ?_
    exact Steps.refl _)
  have c5 : Steps p.tables e below S0 (s₁.setTop (mkF m 19 #[.val (.ref a), .val (.int (0 : Int32)), .val (.int (b0 &&& (255 : Int32))), .unset, .unset, .unset, .unset] [(.int (0 : Int32)), (.ref a)])) := c4.trans (by
    refine XS.aloadN X0.here hx rfl (hb hby own_dd17) rfl rfl ?_
    show Steps p.tables e below (s₁.setTop (mkF m 18 #[.val (.ref a), .val (.int (0 : Int32)), .val (.int (b0 &&& (255 : Int32))), .unset, .unset, .unset, .unset] [(.ref a)])) _
    refine XS.iloadN X0.here hx rfl (hb hby own_dd18) rfl ?_
    exact Steps.refl _)
  obtain ⟨_, _, ⟨T6, L6, k6, n6⟩, -, X6, ⟨Lc6, hQ6, l6, y6, z6⟩, st6⟩ := Jvm.LawKit.callS X0 hx (y := (⟨"com/example/coersa/coersa/Utf8", "run", "([BI)I"⟩ : MethodName)) hown (mvT hZ (hw _ (List.mem_of_getElem? (i := 9) rfl))) (mvT hZ (hw _ (List.mem_of_getElem? (i := 10) rfl))) (mvT hZ (hw _ (List.mem_of_getElem? (i := 3) rfl))) (mvT hZ (hw _ (List.mem_of_getElem? (i := 11) rfl))) (by decide) (backOf (W := 0) (own_runm l Z a0 hw [] a 0 b0 b1 b2 b3 h0 n0 Z0 rfl Ar') hZ (hw _ (List.mem_of_getElem? (i := 11) rfl)) (hw _ (List.mem_of_getElem? (i := 3) rfl)) (by decide) (by decide)) (g := (mkF m 19 #[.val (.ref a), .val (.int (0 : Int32)), .val (.int (b0 &&& (255 : Int32))), .unset, .unset, .unset, .unset] [(.int (0 : Int32)), (.ref a)])) rfl (by rw [hml]; rfl) (argsL := [(.ref a), (.int (0 : Int32))]) (rest := []) (lenOf own_pd0 rfl) rfl (by show 2 * 0 + _ ≤ _; exact Nat.le_of_eq rfl) (hb hby own_dd19) (fun _ _ => ⟨rfl, e0, (Nat.le_of_ble_eq_true rfl), (Nat.le_of_ble_eq_true rfl)⟩)
  dsimp only [Pt.U, Pt.locs, Pt.cells, Pt.slots] at X6 l6 y6 z6 st6 hQ6
  subst l6 y6 z6
  obtain ⟨rfl, N6q, er⟩ := hQ6
  have N6 := Fr.app N0 N6q
  have c7 : Steps p.tables e below S0 (T6.setTop (mkF m 22 #[.val (.ref a), .val (.int (0 : Int32)), .val (.int (b0 &&& (255 : Int32))), .unset, .unset, .unset, .unset] [(.int (own_run (b0 &&& 255) (b1 &&& 255) (b2 &&& 255) (b3 &&& 255)))])) := c5.trans (by
    refine st6 _ ?_
    exact Steps.refl _)
  rw [hr] at c7
  have c8 : Steps p.tables e below S0 (T6.setTop (mkF m 24 #[.val (.ref a), .val (.int (0 : Int32)), .val (.int (b0 &&& (255 : Int32))), .val (.int (-2 : Int32)), .unset, .unset, .unset] [(.int (-2 : Int32))])) := c7.trans (by
    refine XS.istoreN X6.here hx rfl (hb hby own_dd22) rfl (l' := #[.val (.ref a), .val (.int (0 : Int32)), .val (.int (b0 &&& (255 : Int32))), .val (.int (-2 : Int32)), .unset, .unset, .unset]) rfl ?_
    show Steps p.tables e below (T6.setTop (mkF m 23 #[.val (.ref a), .val (.int (0 : Int32)), .val (.int (b0 &&& (255 : Int32))), .val (.int (-2 : Int32)), .unset, .unset, .unset] [])) _
    refine XS.iloadN X6.here hx rfl (hb hby own_dd23) rfl ?_
    exact Steps.refl _)
  obtain ⟨_, _, ⟨T9, L9, k9, n9⟩, -, X9, ⟨Lc9, hQ9, l9, y9, z9⟩, st9⟩ := Jvm.LawKit.callS X6 hx (y := (⟨"java/lang/Math", "abs", "(I)I"⟩ : MethodName)) hown (mvT hZ (hw _ (List.mem_of_getElem? (i := 12) rfl))) (mvT hZ (hw _ (List.mem_of_getElem? (i := 13) rfl))) (mvT hZ (hw _ (List.mem_of_getElem? (i := 14) rfl))) (mvT hZ (hw _ (List.mem_of_getElem? (i := 15) rfl))) (by decide) (backOf (W := 0) (own_absm l Z a0 hw [] (-2) h0 n0 Z0) hZ (hw _ (List.mem_of_getElem? (i := 15) rfl)) (hw _ (List.mem_of_getElem? (i := 14) rfl)) (by decide) (by decide)) (g := (mkF m 24 #[.val (.ref a), .val (.int (0 : Int32)), .val (.int (b0 &&& (255 : Int32))), .val (.int (-2 : Int32)), .unset, .unset, .unset] [(.int (-2 : Int32))])) rfl (by rw [hml]; rfl) (argsL := [(.int (-2 : Int32))]) (rest := []) (lenOf own_pd1 rfl) rfl (by show 2 * 0 + _ ≤ _; exact Nat.le_of_eq rfl) (hb hby own_dd24) (fun _ _ => ⟨rfl, er, (Nat.le_of_ble_eq_true rfl), (Nat.le_of_ble_eq_true rfl)⟩)
  dsimp only [Pt.U, Pt.locs, Pt.cells, Pt.slots] at X9 l9 y9 z9 st9 hQ9
  subst l9 y9 z9
  obtain ⟨rfl, N9q, ea⟩ := hQ9
  have N9 := Fr.app N6 N9q
  have c10 : Steps p.tables e below S0 (T9.setTop (mkF m 27 #[.val (.ref a), .val (.int (0 : Int32)), .val (.int (b0 &&& (255 : Int32))), .val (.int (-2 : Int32)), .unset, .unset, .unset] [(.int (own_abs (-2)))])) := c8.trans (by
    refine st9 _ ?_
    exact Steps.refl _)
  rw [(show own_abs (-2) = 2 by decide)] at c10
  have c11 : Steps p.tables e below S0 (T9.setTop (mkF m 31 #[.val (.ref a), .val (.int (0 : Int32)), .val (.int (b0 &&& (255 : Int32))), .val (.int (-2 : Int32)), .val (.int (2 : Int32)), .unset, .unset] [(.int (-2 : Int32)), (.int (b0 &&& (255 : Int32)))])) := c10.trans (by
    refine XS.istore X9.here hx rfl (hb hby own_dd27) rfl (l' := #[.val (.ref a), .val (.int (0 : Int32)), .val (.int (b0 &&& (255 : Int32))), .val (.int (-2 : Int32)), .val (.int (2 : Int32)), .unset, .unset]) rfl ?_
    show Steps p.tables e below (T9.setTop (mkF m 29 #[.val (.ref a), .val (.int (0 : Int32)), .val (.int (b0 &&& (255 : Int32))), .val (.int (-2 : Int32)), .val (.int (2 : Int32)), .unset, .unset] [])) _
    refine XS.iloadN X9.here hx rfl (hb hby own_dd29) rfl ?_
    show Steps p.tables e below (T9.setTop (mkF m 30 #[.val (.ref a), .val (.int (0 : Int32)), .val (.int (b0 &&& (255 : Int32))), .val (.int (-2 : Int32)), .val (.int (2 : Int32)), .unset, .unset] [(.int (b0 &&& (255 : Int32)))])) _
    refine XS.iloadN X9.here hx rfl (hb hby own_dd30) rfl ?_
    exact Steps.refl _)
  have c12 : Steps p.tables e below S0 (T9.setTop (mkF m 42 #[.val (.ref a), .val (.int (0 : Int32)), .val (.int (b0 &&& (255 : Int32))), .val (.int (-2 : Int32)), .val (.int (2 : Int32)), .unset, .unset] [(.int (b0 &&& (255 : Int32)))])) := c11.trans (by
    refine XS.ifYes X9.here hx rfl (pc0 := 31) (pc' := 42) rfl (hb hby own_dd31) rfl ((if0 _ _).trans (flt (by decide)).2.2.2) (by decide) (by decide) ?_
    exact Steps.refl _)
  have c13 : Steps p.tables e below S0 (T9.setTop (mkF m 54 #[.val (.ref a), .val (.int (0 : Int32)), .val (.int (b0 &&& (255 : Int32))), .val (.int (-2 : Int32)), .val (.int (2 : Int32)), .val (.int ((b0 &&& (255 : Int32)) &&& (127 : Int32))), .val (.int (1 : Int32))] [(.int (2 : Int32)), (.int (1 : Int32))])) := c12.trans (by
    refine XS.bipush X9.here hx rfl (hb hby own_dd42) ?_
    show Steps p.tables e below (T9.setTop (mkF m 44 #[.val (.ref a), .val (.int (0 : Int32)), .val (.int (b0 &&& (255 : Int32))), .val (.int (-2 : Int32)), .val (.int (2 : Int32)), .unset, .unset] [(.int (127 : Int32)), (.int (b0 &&& (255 : Int32)))])) _
    refine XS.iand X9.here hx rfl (hb hby own_dd44) rfl ?_
    show Steps p.tables e below (T9.setTop (mkF m 45 #[.val (.ref a), .val (.int (0 : Int32)), .val (.int (b0 &&& (255 : Int32))), .val (.int (-2 : Int32)), .val (.int (2 : Int32)), .unset, .unset] [(.int ((b0 &&& (255 : Int32)) &&& (127 : Int32)))])) _
    refine XS.istore X9.here hx rfl (hb hby own_dd45) rfl (l' := #[.val (.ref a), .val (.int (0 : Int32)), .val (.int (b0 &&& (255 : Int32))), .val (.int (-2 : Int32)), .val (.int (2 : Int32)), .val (.int ((b0 &&& (255 : Int32)) &&& (127 : Int32))), .unset]) rfl ?_
    show Steps p.tables e below (T9.setTop (mkF m 47 #[.val (.ref a), .val (.int (0 : Int32)), .val (.int (b0 &&& (255 : Int32))), .val (.int (-2 : Int32)), .val (.int (2 : Int32)), .val (.int ((b0 &&& (255 : Int32)) &&& (127 : Int32))), .unset] [])) _
    refine XS.iconst X9.here hx rfl (hb hby own_dd47) ?_
    show Steps p.tables e below (T9.setTop (mkF m 48 #[.val (.ref a), .val (.int (0 : Int32)), .val (.int (b0 &&& (255 : Int32))), .val (.int (-2 : Int32)), .val (.int (2 : Int32)), .val (.int ((b0 &&& (255 : Int32)) &&& (127 : Int32))), .unset] [(.int (1 : Int32))])) _
    refine XS.istore X9.here hx rfl (hb hby own_dd48) rfl (l' := #[.val (.ref a), .val (.int (0 : Int32)), .val (.int (b0 &&& (255 : Int32))), .val (.int (-2 : Int32)), .val (.int (2 : Int32)), .val (.int ((b0 &&& (255 : Int32)) &&& (127 : Int32))), .val (.int (1 : Int32))]) rfl ?_
    show Steps p.tables e below (T9.setTop (mkF m 50 #[.val (.ref a), .val (.int (0 : Int32)), .val (.int (b0 &&& (255 : Int32))), .val (.int (-2 : Int32)), .val (.int (2 : Int32)), .val (.int ((b0 &&& (255 : Int32)) &&& (127 : Int32))), .val (.int (1 : Int32))] [])) _
    refine XS.iload X9.here hx rfl (hb hby own_dd50) rfl ?_
    show Steps p.tables e below (T9.setTop (mkF m 52 #[.val (.ref a), .val (.int (0 : Int32)), .val (.int (b0 &&& (255 : Int32))), .val (.int (-2 : Int32)), .val (.int (2 : Int32)), .val (.int ((b0 &&& (255 : Int32)) &&& (127 : Int32))), .val (.int (1 : Int32))] [(.int (1 : Int32))])) _
    refine XS.iload X9.here hx rfl (hb hby own_dd52) rfl ?_
    exact Steps.refl _)
  have c14 : Steps p.tables e below S0 (T9.setTop (mkF m 57 #[.val (.ref a), .val (.int (0 : Int32)), .val (.int (b0 &&& (255 : Int32))), .val (.int (-2 : Int32)), .val (.int (2 : Int32)), .val (.int ((b0 &&& (255 : Int32)) &&& (127 : Int32))), .val (.int (1 : Int32))] [])) := c13.trans (by
    refine XS.icmpNo X9.here hx rfl (hb hby own_dd54) rfl (tlt (by decide)).2.1 ?_
    exact Steps.refl _)
  have c15 : Steps p.tables e below S0 (T9.setTop (mkF m 67 #[.val (.ref a), .val (.int (0 : Int32)), .val (.int (b0 &&& (255 : Int32))), .val (.int (-2 : Int32)), .val (.int (2 : Int32)), .val (.int ((b0 &&& (255 : Int32)) &&& (127 : Int32))), .val (.int (1 : Int32))] [(.int ((0 : Int32) + (1 : Int32))), (.ref a), (.int (((b0 &&& (255 : Int32)) &&& (127 : Int32)) <<< ((6 : Int32) &&& 31)))])) := c14.trans (by
    refine XS.iload X9.here hx rfl (hb hby own_dd57) rfl ?_
    show Steps p.tables e below (T9.setTop (mkF m 59 #[.val (.ref a), .val (.int (0 : Int32)), .val (.int (b0 &&& (255 : Int32))), .val (.int (-2 : Int32)), .val (.int (2 : Int32)), .val (.int ((b0 &&& (255 : Int32)) &&& (127 : Int32))), .val (.int (1 : Int32))] [(.int ((b0 &&& (255 : Int32)) &&& (127 : Int32)))])) _
    refine XS.bipush X9.here hx rfl (hb hby own_dd59) ?_
    show Steps p.tables e below (T9.setTop (mkF m 61 #[.val (.ref a), .val (.int (0 : Int32)), .val (.int (b0 &&& (255 : Int32))), .val (.int (-2 : Int32)), .val (.int (2 : Int32)), .val (.int ((b0 &&& (255 : Int32)) &&& (127 : Int32))), .val (.int (1 : Int32))] [(.int (6 : Int32)), (.int ((b0 &&& (255 : Int32)) &&& (127 : Int32)))])) _
    refine XS.ishl X9.here hx rfl (hb hby own_dd61) rfl ?_
    show Steps p.tables e below (T9.setTop (mkF m 62 #[.val (.ref a), .val (.int (0 : Int32)), .val (.int (b0 &&& (255 : Int32))), .val (.int (-2 : Int32)), .val (.int (2 : Int32)), .val (.int ((b0 &&& (255 : Int32)) &&& (127 : Int32))), .val (.int (1 : Int32))] [(.int (((b0 &&& (255 : Int32)) &&& (127 : Int32)) <<< ((6 : Int32) &&& 31)))])) _
    refine XS.aloadN X9.here hx rfl (hb hby own_dd62) rfl rfl ?_
    show Steps p.tables e below (T9.setTop (mkF m 63 #[.val (.ref a), .val (.int (0 : Int32)), .val (.int (b0 &&& (255 : Int32))), .val (.int (-2 : Int32)), .val (.int (2 : Int32)), .val (.int ((b0 &&& (255 : Int32)) &&& (127 : Int32))), .val (.int (1 : Int32))] [(.ref a), (.int (((b0 &&& (255 : Int32)) &&& (127 : Int32)) <<< ((6 : Int32) &&& 31)))])) _
    refine XS.iloadN X9.here hx rfl (hb hby own_dd63) rfl ?_
    show Steps p.tables e below (T9.setTop (mkF m 64 #[.val (.ref a), .val (.int (0 : Int32)), .val (.int (b0 &&& (255 : Int32))), .val (.int (-2 : Int32)), .val (.int (2 : Int32)), .val (.int ((b0 &&& (255 : Int32)) &&& (127 : Int32))), .val (.int (1 : Int32))] [(.int (0 : Int32)), (.ref a), (.int (((b0 &&& (255 : Int32)) &&& (127 : Int32)) <<< ((6 : Int32) &&& 31)))])) _
    refine XS.iload X9.here hx rfl (hb hby own_dd64) rfl ?_
    show Steps p.tables e below (T9.setTop (mkF m 66 #[.val (.ref a), .val (.int (0 : Int32)), .val (.int (b0 &&& (255 : Int32))), .val (.int (-2 : Int32)), .val (.int (2 : Int32)), .val (.int ((b0 &&& (255 : Int32)) &&& (127 : Int32))), .val (.int (1 : Int32))] [(.int (1 : Int32)), (.int (0 : Int32)), (.ref a), (.int (((b0 &&& (255 : Int32)) &&& (127 : Int32)) <<< ((6 : Int32) &&& 31)))])) _
    refine XS.iadd X9.here hx rfl (hb hby own_dd66) rfl ?_
    exact Steps.refl _)
  have c16 : Steps p.tables e below S0 (T9.setTop (mkF m 68 #[.val (.ref a), .val (.int (0 : Int32)), .val (.int (b0 &&& (255 : Int32))), .val (.int (-2 : Int32)), .val (.int (2 : Int32)), .val (.int ((b0 &&& (255 : Int32)) &&& (127 : Int32))), .val (.int (1 : Int32))] [(.int b1), (.int (((b0 &&& (255 : Int32)) &&& (127 : Int32)) <<< ((6 : Int32) &&& 31)))])) := c15.trans (by
    refine X9.baloadBytes hx (j := ((0 : Int32) + (1 : Int32))) (v := (.int b1)) (by rw [ea]; exact Ac.1) (State.isArrayOf_alike hZ.alike Ac.2.1) Ac.2.2 (by rw [hcl]; exact own_in4 (by decide)) (by rw [hcl]; rfl) (g := (mkF m 67 #[.val (.ref a), .val (.int (0 : Int32)), .val (.int (b0 &&& (255 : Int32))), .val (.int (-2 : Int32)), .val (.int (2 : Int32)), .val (.int ((b0 &&& (255 : Int32)) &&& (127 : Int32))), .val (.int (1 : Int32))] [(.int ((0 : Int32) + (1 : Int32))), (.ref a), (.int (((b0 &&& (255 : Int32)) &&& (127 : Int32)) <<< ((6 : Int32) &&& 31)))])) rfl rfl (hb hby own_dd67) _ ?_
    exact Steps.refl _)
  have c17 : Steps p.tables e below S0 (T9.setTop (mkF m 54 #[.val (.ref a), .val (.int (0 : Int32)), .val (.int (b0 &&& (255 : Int32))), .val (.int (-2 : Int32)), .val (.int (2 : Int32)), .val (.int ((((b0 &&& (255 : Int32)) &&& (127 : Int32)) <<< ((6 : Int32) &&& 31)) ||| (b1 &&& (63 : Int32)))), .val (.int ((1 : Int32) + (1 : Int32)))] [(.int (2 : Int32)), (.int ((1 : Int32) + (1 : Int32)))])) := c16.trans (by
    refine XS.bipush X9.here hx rfl (hb hby own_dd68) ?_
    show Steps p.tables e below (T9.setTop (mkF m 70 #[.val (.ref a), .val (.int (0 : Int32)), .val (.int (b0 &&& (255 : Int32))), .val (.int (-2 : Int32)), .val (.int (2 : Int32)), .val (.int ((b0 &&& (255 : Int32)) &&& (127 : Int32))), .val (.int (1 : Int32))] [(.int (63 : Int32)), (.int b1), (.int (((b0 &&& (255 : Int32)) &&& (127 : Int32)) <<< ((6 : Int32) &&& 31)))])) _
    refine XS.iand X9.here hx rfl (hb hby own_dd70) rfl ?_
    show Steps p.tables e below (T9.setTop (mkF m 71 #[.val (.ref a), .val (.int (0 : Int32)), .val (.int (b0 &&& (255 : Int32))), .val (.int (-2 : Int32)), .val (.int (2 : Int32)), .val (.int ((b0 &&& (255 : Int32)) &&& (127 : Int32))), .val (.int (1 : Int32))] [(.int (b1 &&& (63 : Int32))), (.int (((b0 &&& (255 : Int32)) &&& (127 : Int32)) <<< ((6 : Int32) &&& 31)))])) _
    refine XS.ior X9.here hx rfl (hb hby own_dd71) rfl ?_
    show Steps p.tables e below (T9.setTop (mkF m 72 #[.val (.ref a), .val (.int (0 : Int32)), .val (.int (b0 &&& (255 : Int32))), .val (.int (-2 : Int32)), .val (.int (2 : Int32)), .val (.int ((b0 &&& (255 : Int32)) &&& (127 : Int32))), .val (.int (1 : Int32))] [(.int ((((b0 &&& (255 : Int32)) &&& (127 : Int32)) <<< ((6 : Int32) &&& 31)) ||| (b1 &&& (63 : Int32))))])) _
    refine XS.istore X9.here hx rfl (hb hby own_dd72) rfl (l' := #[.val (.ref a), .val (.int (0 : Int32)), .val (.int (b0 &&& (255 : Int32))), .val (.int (-2 : Int32)), .val (.int (2 : Int32)), .val (.int ((((b0 &&& (255 : Int32)) &&& (127 : Int32)) <<< ((6 : Int32) &&& 31)) ||| (b1 &&& (63 : Int32)))), .val (.int (1 : Int32))]) rfl ?_
    show Steps p.tables e below (T9.setTop (mkF m 74 #[.val (.ref a), .val (.int (0 : Int32)), .val (.int (b0 &&& (255 : Int32))), .val (.int (-2 : Int32)), .val (.int (2 : Int32)), .val (.int ((((b0 &&& (255 : Int32)) &&& (127 : Int32)) <<< ((6 : Int32) &&& 31)) ||| (b1 &&& (63 : Int32)))), .val (.int (1 : Int32))] [])) _
    refine XS.iinc X9.here hx rfl (hb hby own_dd74) rfl (l' := #[.val (.ref a), .val (.int (0 : Int32)), .val (.int (b0 &&& (255 : Int32))), .val (.int (-2 : Int32)), .val (.int (2 : Int32)), .val (.int ((((b0 &&& (255 : Int32)) &&& (127 : Int32)) <<< ((6 : Int32) &&& 31)) ||| (b1 &&& (63 : Int32)))), .val (.int ((1 : Int32) + (1 : Int32)))]) rfl ?_
    show Steps p.tables e below (T9.setTop (mkF m 77 #[.val (.ref a), .val (.int (0 : Int32)), .val (.int (b0 &&& (255 : Int32))), .val (.int (-2 : Int32)), .val (.int (2 : Int32)), .val (.int ((((b0 &&& (255 : Int32)) &&& (127 : Int32)) <<< ((6 : Int32) &&& 31)) ||| (b1 &&& (63 : Int32)))), .val (.int ((1 : Int32) + (1 : Int32)))] [])) _
    refine XS.goto X9.here hx rfl (pc0 := 77) (pc' := 50) rfl (hb hby own_dd77) (by decide) (by decide) ?_
    show Steps p.tables e below (T9.setTop (mkF m 50 #[.val (.ref a), .val (.int (0 : Int32)), .val (.int (b0 &&& (255 : Int32))), .val (.int (-2 : Int32)), .val (.int (2 : Int32)), .val (.int ((((b0 &&& (255 : Int32)) &&& (127 : Int32)) <<< ((6 : Int32) &&& 31)) ||| (b1 &&& (63 : Int32)))), .val (.int ((1 : Int32) + (1 : Int32)))] [])) _
    refine XS.iload X9.here hx rfl (hb hby own_dd50) rfl ?_
    show Steps p.tables e below (T9.setTop (mkF m 52 #[.val (.ref a), .val (.int (0 : Int32)), .val (.int (b0 &&& (255 : Int32))), .val (.int (-2 : Int32)), .val (.int (2 : Int32)), .val (.int ((((b0 &&& (255 : Int32)) &&& (127 : Int32)) <<< ((6 : Int32) &&& 31)) ||| (b1 &&& (63 : Int32)))), .val (.int ((1 : Int32) + (1 : Int32)))] [(.int ((1 : Int32) + (1 : Int32)))])) _
    refine XS.iload X9.here hx rfl (hb hby own_dd52) rfl ?_
    exact Steps.refl _)
  have c18 : Steps p.tables e below S0 (T9.setTop (mkF m 80 #[.val (.ref a), .val (.int (0 : Int32)), .val (.int (b0 &&& (255 : Int32))), .val (.int (-2 : Int32)), .val (.int (2 : Int32)), .val (.int ((((b0 &&& (255 : Int32)) &&& (127 : Int32)) <<< ((6 : Int32) &&& 31)) ||| (b1 &&& (63 : Int32)))), .val (.int ((1 : Int32) + (1 : Int32)))] [])) := c17.trans (by
    refine XS.icmpYes X9.here hx rfl (pc0 := 54) (pc' := 80) rfl (hb hby own_dd54) rfl (flt (by decide)).2.1 (by decide) (by decide) ?_
    exact Steps.refl _)
  have c19 : Steps p.tables e below S0 (T9.setTop (mkF m 81 #[.val (.ref a), .val (.int (0 : Int32)), .val (.int (b0 &&& (255 : Int32))), .val (.int (-2 : Int32)), .val (.int (2 : Int32)), .val (.int ((((b0 &&& (255 : Int32)) &&& (127 : Int32)) <<< ((6 : Int32) &&& 31)) ||| (b1 &&& (63 : Int32)))), .val (.int ((1 : Int32) + (1 : Int32)))] [(.int (-2 : Int32))])) := c18.trans (by
    refine XS.iloadN X9.here hx rfl (hb hby own_dd80) rfl ?_
    exact Steps.refl _)
  have c20 : Steps p.tables e below S0 (T9.setTop (mkF m 89 #[.val (.ref a), .val (.int (0 : Int32)), .val (.int (b0 &&& (255 : Int32))), .val (.int (-2 : Int32)), .val (.int (2 : Int32)), .val (.int ((((b0 &&& (255 : Int32)) &&& (127 : Int32)) <<< ((6 : Int32) &&& 31)) ||| (b1 &&& (63 : Int32)))), .val (.int ((1 : Int32) + (1 : Int32)))] [])) := c19.trans (by
    refine XS.ifYes X9.here hx rfl (pc0 := 81) (pc' := 89) rfl (hb hby own_dd81) rfl ((if0 _ _).trans (flt (by decide)).2.2.2) (by decide) (by decide) ?_
    exact Steps.refl _)
  have c21 : Steps p.tables e below S0 (T9.setTop (mkF m 94 #[.val (.ref a), .val (.int (0 : Int32)), .val (.int (b0 &&& (255 : Int32))), .val (.int (-2 : Int32)), .val (.int (2 : Int32)), .val (.int ((((b0 &&& (255 : Int32)) &&& (127 : Int32)) <<< ((6 : Int32) &&& 31)) ||| (b1 &&& (63 : Int32)))), .val (.int ((1 : Int32) + (1 : Int32)))] [(.int ((1114112 : Int32) + ((((b0 &&& (255 : Int32)) &&& (127 : Int32)) <<< ((6 : Int32) &&& 31)) ||| (b1 &&& (63 : Int32)))))])) := c20.trans (by
    refine X9.ldcInt hx hown (mvT hZ (hw _ (List.mem_of_getElem? (i := 16) rfl))) (g := (mkF m 89 #[.val (.ref a), .val (.int (0 : Int32)), .val (.int (b0 &&& (255 : Int32))), .val (.int (-2 : Int32)), .val (.int (2 : Int32)), .val (.int ((((b0 &&& (255 : Int32)) &&& (127 : Int32)) <<< ((6 : Int32) &&& 31)) ||| (b1 &&& (63 : Int32)))), .val (.int ((1 : Int32) + (1 : Int32)))] [])) rfl (hb hby own_dd89) _ ?_
    show Steps p.tables e below (T9.setTop (mkF m 91 #[.val (.ref a), .val (.int (0 : Int32)), .val (.int (b0 &&& (255 : Int32))), .val (.int (-2 : Int32)), .val (.int (2 : Int32)), .val (.int ((((b0 &&& (255 : Int32)) &&& (127 : Int32)) <<< ((6 : Int32) &&& 31)) ||| (b1 &&& (63 : Int32)))), .val (.int ((1 : Int32) + (1 : Int32)))] [(.int (1114112 : Int32))])) _
    refine XS.iload X9.here hx rfl (hb hby own_dd91) rfl ?_
    show Steps p.tables e below (T9.setTop (mkF m 93 #[.val (.ref a), .val (.int (0 : Int32)), .val (.int (b0 &&& (255 : Int32))), .val (.int (-2 : Int32)), .val (.int (2 : Int32)), .val (.int ((((b0 &&& (255 : Int32)) &&& (127 : Int32)) <<< ((6 : Int32) &&& 31)) ||| (b1 &&& (63 : Int32)))), .val (.int ((1 : Int32) + (1 : Int32)))] [(.int ((((b0 &&& (255 : Int32)) &&& (127 : Int32)) <<< ((6 : Int32) &&& 31)) ||| (b1 &&& (63 : Int32)))), (.int (1114112 : Int32))])) _
    refine XS.iadd X9.here hx rfl (hb hby own_dd93) rfl ?_
    exact Steps.refl _)
  obtain ⟨fs, hr, hrun, hended, hW, hsame⟩ := X9.leave (v := some (.int ((1114112 : Int32) + ((((b0 &&& (255 : Int32)) &&& (127 : Int32)) <<< ((6 : Int32) &&& 31)) ||| (b1 &&& (63 : Int32)))))) (fun h => by rw [Bd.returns] at h; cases h)
  exact ⟨_, _, c21.trans (retOut X9 hx (t := .int) (i := .ireturn) Bd.returns rfl (Or.inl ⟨rfl, Or.inl rfl, _, rfl⟩) (hb hby own_dd94) hr), hrun, hended, _, _, rfl, ⟨rfl, N9, ea⟩, ⟨_, rfl⟩, hW, hsame.mono (by decide) (by decide)⟩
theorem own_cat3_pn : plainName "com/example/coersa/coersa/Utf8" = true := by first | (simp [plainName, overriddenIn]; done) | decide +kernel
theorem own_cat3_ef (m : MethodId) (a : Addr) (i : Int32) : entryFrame m #[(.ref a), (.int i)] 7 = mkF m 0 #[.val (.ref a), .val (.int i), .unset, .unset, .unset, .unset, .unset] [] := by first | (simp [entryFrame, mkF, argsToLocals, Value.category]; done) | rfl
def own_cat3_Q (Z : State) (a : Addr) (i : Int32) (b0 b1 b2 b3 : Int32) (h0 : Heap) (n0 : Nat) (v : Option Value) (h : Heap) (L : List Loc) : Prop := v = some (.int (own_ca3 b0 b1 b2)) ∧ Fr n0 L ∧ h = h0
set_option maxRecDepth 65536 in
set_option maxHeartbeats 40000000 in
theorem own_cat3 (l : Launch) (Z : State) (a0 : Array Value) (hw : ∀ d ∈ tables_1, d.before a0 Z = true) (ws : List Jvm.Cond) (a : Addr) (i : Int32) (b0 b1 b2 b3 : Int32) (h0 : Heap) (n0 : Nat) (Z0 : n0 ≤ h0.size) (hi0 : i = 0) (Ar : own_BA Z h0 a b0 b1 b2 b3) (hu : ¬ ((b0 &&& 255) < 128)) (hr : own_run (b0 &&& 255) (b1 &&& 255) (b2 &&& 255) (b3 &&& 255) = -3) :
    MetFree l (⟨"com/example/coersa/coersa/Utf8", "characterAt", "([BI)I"⟩ : MethodName) (head1 (Jvm.Cond.code (⟨"com/example/coersa/coersa/Utf8", "characterAt", "([BI)I"⟩ : MethodName) prog_316_method_6_code 7 (some .int) :: ws) ({ frames := 1, cells := 0, slots := 0, locals := 32 } : Room)) (fun ars U => ars = #[(.ref a), (.int i)] ∧ Z.Warmed39 U.vm ∧ U.heap = h0) (fun _ _ _ _ _ => True) (fun _ U o U' => ∃ v L, o = .returned v ∧ own_cat3_Q Z a i b0 b1 b2 b3 h0 n0 v U'.heap L ∧ FrameEnd U o U' L ({ frames := 1, cells := 0, slots := 0, locals := 32 } : Room).cells ({ frames := 1, cells := 0, slots := 0, locals := 32 } : Room).slots) := by
  refine MetFree.of_bodySF (plainFor_of_name own_cat3_pn) hisR ?_
  intro p e s m args below meth c s₁ Bd hml0 hP hK
  obtain ⟨rfl, hZ, hh⟩ := hP
  have hx := Bd.exec
  have hby := Bd.bytes
  have hml : c.maxLocals = 7 := hml0
  have hown : s.vm.findClass "com/example/coersa/coersa/Utf8" = some m.cls := findClass_of_methodNamed Bd.named
  have hnm := (name_of_methodNamed Bd.named Bd.method).1
  have X0 : Stand p l e ({ frames := 1, cells := 0, slots := 0, locals := 32 } : Room) s m #[(.ref a), (.int i)] below meth c s₁ [] 0 0 := Stand.of_body Bd
  have e0 : s₁.heap = h0 := by rw [← hh, Bd.state]; rfl
  have N0 := Fr.nil n0
  generalize hS0 : s₁.setTop (entryFrame m #[(.ref a), (.int i)] 7) = S0
  have c0 : Steps p.tables e below S0 (s₁.setTop (mkF m 0 #[.val (.ref a), .val (.int i), .unset, .unset, .unset, .unset, .unset] [])) := by rw [← hS0]; exact castTop (own_cat3_ef m a i) (Steps.refl _)
  subst hi0
  have Ar' := Ar
  obtain ⟨cl, Ac, hcl⟩ := Ar
  have c1 : Steps p.tables e below S0 (s₁.setTop (mkF m 2 #[.val (.ref a), .val (.int (0 : Int32)), .unset, .unset, .unset, .unset, .unset] [(.int (0 : Int32)), (.ref a)])) := c0.trans (by
    refine XS.aloadN X0.here hx rfl (hb hby own_dd0) rfl rfl ?_
    show Steps p.tables e below (s₁.setTop (mkF m 1 #[.val (.ref a), .val (.int (0 : Int32)), .unset, .unset, .unset, .unset, .unset] [(.ref a)])) _
    refine XS.iloadN X0.here hx rfl (hb hby own_dd1) rfl ?_
    exact Steps.refl _)
  have c2 : Steps p.tables e below S0 (s₁.setTop (mkF m 3 #[.val (.ref a), .val (.int (0 : Int32)), .unset, .unset, .unset, .unset, .unset] [(.int b0)])) := c1.trans (by
    refine X0.baloadBytes hx (j := (0 : Int32)) (v := (.int b0)) (by rw [e0]; exact Ac.1) (State.isArrayOf_alike hZ.alike Ac.2.1) Ac.2.2 (by rw [hcl]; exact own_in4 (by decide)) (by rw [hcl]; rfl) (g := (mkF m 2 #[.val (.ref a), .val (.int (0 : Int32)), .unset, .unset, .unset, .unset, .unset] [(.int (0 : Int32)), (.ref a)])) rfl rfl (hb hby own_dd2) _ ?_
    exact Steps.refl _)
  have c3 : Steps p.tables e below S0 (s₁.setTop (mkF m 12 #[.val (.ref a), .val (.int (0 : Int32)), .val (.int (b0 &&& (255 : Int32))), .unset, .unset, .unset, .unset] [(.int (128 : Int32)), (.int (b0 &&& (255 : Int32)))])) := c2.trans (by
    refine XS.sipush X0.here hx rfl (hb hby own_dd3) ?_
    show Steps p.tables e below (s₁.setTop (mkF m 6 #[.val (.ref a), .val (.int (0 : Int32)), .unset, .unset, .unset, .unset, .unset] [(.int (255 : Int32)), (.int b0)])) _
    refine XS.iand X0.here hx rfl (hb hby own_dd6) rfl ?_
    show Steps p.tables e below (s₁.setTop (mkF m 7 #[.val (.ref a), .val (.int (0 : Int32)), .unset, .unset, .unset, .unset, .unset] [(.int (b0 &&& (255 : Int32)))])) _
    refine XS.istoreN X0.here hx rfl (hb hby own_dd7) rfl (l' := #[.val (.ref a), .val (.int (0 : Int32)), .val (.int (b0 &&& (255 : Int32))), .unset, .unset, .unset, .unset]) rfl ?_
    show Steps p.tables e below (s₁.setTop (mkF m 8 #[.val (.ref a), .val (.int (0 : Int32)), .val (.int (b0 &&& (255 : Int32))), .unset, .unset, .unset, .unset] [])) _
    refine XS.iloadN X0.here hx rfl (hb hby own_dd8) rfl ?_
    show Steps p.tables e below (s₁.setTop (mkF m 9 #[.val (.ref a), .val (.int (0 : Int32)), .val (.int (b0 &&& (255 : Int32))), .unset, .unset, .unset, .unset] [(.int (b0 &&& (255 : Int32)))])) _
    refine XS.sipush X0.here hx rfl (hb hby own_dd9) ?_
    exact Steps.refl _)
  have c4 : Steps p.tables e below S0 (s₁.setTop (mkF m 17 #[.val (.ref a), .val (.int (0 : Int32)), .val (.int (b0 &&& (255 : Int32))), .unset, .unset, .unset, .unset] [])) := c3.trans (by
    refine XS.icmpYes X0.here hx rfl (pc0 := 12) (pc' := 17) rfl (hb hby own_dd12) rfl (flt hu).2.1 (by decide) (by decide) ?_
    exact Steps.refl _)
  have c5 : Steps p.tables e below S0 (s₁.setTop (mkF m 19 #[.val (.ref a), .val (.int (0 : Int32)), .val (.int (b0 &&& (255 : Int32))), .unset, .unset, .unset, .unset] [(.int (0 : Int32)), (.ref a)])) := c4.trans (by
    refine XS.aloadN X0.here hx rfl (hb hby own_dd17) rfl rfl ?_
    show Steps p.tables e below (s₁.setTop (mkF m 18 #[.val (.ref a), .val (.int (0 : Int32)), .val (.int (b0 &&& (255 : Int32))), .unset, .unset, .unset, .unset] [(.ref a)])) _
    refine XS.iloadN X0.here hx rfl (hb hby own_dd18) rfl ?_
    exact Steps.refl _)
  obtain ⟨_, _, ⟨T6, L6, k6, n6⟩, -, X6, ⟨Lc6, hQ6, l6, y6, z6⟩, st6⟩ := Jvm.LawKit.callS X0 hx (y := (⟨"com/example/coersa/coersa/Utf8", "run", "([BI)I"⟩ : MethodName)) hown (mvT hZ (hw _ (List.mem_of_getElem? (i := 9) rfl))) (mvT hZ (hw _ (List.mem_of_getElem? (i := 10) rfl))) (mvT hZ (hw _ (List.mem_of_getElem? (i := 3) rfl))) (mvT hZ (hw _ (List.mem_of_getElem? (i := 11) rfl))) (by decide) (backOf (W := 0) (own_runm l Z a0 hw [] a 0 b0 b1 b2 b3 h0 n0 Z0 rfl Ar') hZ (hw _ (List.mem_of_getElem? (i := 11) rfl)) (hw _ (List.mem_of_getElem? (i := 3) rfl)) (by decide) (by decide)) (g := (mkF m 19 #[.val (.ref a), .val (.int (0 : Int32)), .val (.int (b0 &&& (255 : Int32))), .unset, .unset, .unset, .unset] [(.int (0 : Int32)), (.ref a)])) rfl (by rw [hml]; rfl) (argsL := [(.ref a), (.int (0 : Int32))]) (rest := []) (lenOf own_pd0 rfl) rfl (by show 2 * 0 + _ ≤ _; exact Nat.le_of_eq rfl) (hb hby own_dd19) (fun _ _ => ⟨rfl, e0, (Nat.le_of_ble_eq_true rfl), (Nat.le_of_ble_eq_true rfl)⟩)
  dsimp only [Pt.U, Pt.locs, Pt.cells, Pt.slots] at X6 l6 y6 z6 st6 hQ6
  subst l6 y6 z6
  obtain ⟨rfl, N6q, er⟩ := hQ6
  have N6 := Fr.app N0 N6q
  have c7 : Steps p.tables e below S0 (T6.setTop (mkF m 22 #[.val (.ref a), .val (.int (0 : Int32)), .val (.int (b0 &&& (255 : Int32))), .unset, .unset, .unset, .unset] [(.int (own_run (b0 &&& 255) (b1 &&& 255) (b2 &&& 255) (b3 &&& 255)))])) := c5.trans (by
    refine st6 _ ?_
    exact Steps.refl _)
  rw [hr] at c7
  have c8 : Steps p.tables e below S0 (T6.setTop (mkF m 24 #[.val (.ref a), .val (.int (0 : Int32)), .val (.int (b0 &&& (255 : Int32))), .val (.int (-3 : Int32)), .unset, .unset, .unset] [(.int (-3 : Int32))])) := c7.trans (by
    refine XS.istoreN X6.here hx rfl (hb hby own_dd22) rfl (l' := #[.val (.ref a), .val (.int (0 : Int32)), .val (.int (b0 &&& (255 : Int32))), .val (.int (-3 : Int32)), .unset, .unset, .unset]) rfl ?_
    show Steps p.tables e below (T6.setTop (mkF m 23 #[.val (.ref a), .val (.int (0 : Int32)), .val (.int (b0 &&& (255 : Int32))), .val (.int (-3 : Int32)), .unset, .unset, .unset] [])) _
    refine XS.iloadN X6.here hx rfl (hb hby own_dd23) rfl ?_
    exact Steps.refl _)
  obtain ⟨_, _, ⟨T9, L9, k9, n9⟩, -, X9, ⟨Lc9, hQ9, l9, y9, z9⟩, st9⟩ := Jvm.LawKit.callS X6 hx (y := (⟨"java/lang/Math", "abs", "(I)I"⟩ : MethodName)) hown (mvT hZ (hw _ (List.mem_of_getElem? (i := 12) rfl))) (mvT hZ (hw _ (List.mem_of_getElem? (i := 13) rfl))) (mvT hZ (hw _ (List.mem_of_getElem? (i := 14) rfl))) (mvT hZ (hw _ (List.mem_of_getElem? (i := 15) rfl))) (by decide) (backOf (W := 0) (own_absm l Z a0 hw [] (-3) h0 n0 Z0) hZ (hw _ (List.mem_of_getElem? (i := 15) rfl)) (hw _ (List.mem_of_getElem? (i := 14) rfl)) (by decide) (by decide)) (g := (mkF m 24 #[.val (.ref a), .val (.int (0 : Int32)), .val (.int (b0 &&& (255 : Int32))), .val (.int (-3 : Int32)), .unset, .unset, .unset] [(.int (-3 : Int32))])) rfl (by rw [hml]; rfl) (argsL := [(.int (-3 : Int32))]) (rest := []) (lenOf own_pd1 rfl) rfl (by show 2 * 0 + _ ≤ _; exact Nat.le_of_eq rfl) (hb hby own_dd24) (fun _ _ => ⟨rfl, er, (Nat.le_of_ble_eq_true rfl), (Nat.le_of_ble_eq_true rfl)⟩)
  dsimp only [Pt.U, Pt.locs, Pt.cells, Pt.slots] at X9 l9 y9 z9 st9 hQ9
  subst l9 y9 z9
  obtain ⟨rfl, N9q, ea⟩ := hQ9
  have N9 := Fr.app N6 N9q
  have c10 : Steps p.tables e below S0 (T9.setTop (mkF m 27 #[.val (.ref a), .val (.int (0 : Int32)), .val (.int (b0 &&& (255 : Int32))), .val (.int (-3 : Int32)), .unset, .unset, .unset] [(.int (own_abs (-3)))])) := c8.trans (by
    refine st9 _ ?_
    exact Steps.refl _)
  rw [(show own_abs (-3) = 3 by decide)] at c10
  have c11 : Steps p.tables e below S0 (T9.setTop (mkF m 31 #[.val (.ref a), .val (.int (0 : Int32)), .val (.int (b0 &&& (255 : Int32))), .val (.int (-3 : Int32)), .val (.int (3 : Int32)), .unset, .unset] [(.int (-3 : Int32)), (.int (b0 &&& (255 : Int32)))])) := c10.trans (by
    refine XS.istore X9.here hx rfl (hb hby own_dd27) rfl (l' := #[.val (.ref a), .val (.int (0 : Int32)), .val (.int (b0 &&& (255 : Int32))), .val (.int (-3 : Int32)), .val (.int (3 : Int32)), .unset, .unset]) rfl ?_
    show Steps p.tables e below (T9.setTop (mkF m 29 #[.val (.ref a), .val (.int (0 : Int32)), .val (.int (b0 &&& (255 : Int32))), .val (.int (-3 : Int32)), .val (.int (3 : Int32)), .unset, .unset] [])) _
    refine XS.iloadN X9.here hx rfl (hb hby own_dd29) rfl ?_
    show Steps p.tables e below (T9.setTop (mkF m 30 #[.val (.ref a), .val (.int (0 : Int32)), .val (.int (b0 &&& (255 : Int32))), .val (.int (-3 : Int32)), .val (.int (3 : Int32)), .unset, .unset] [(.int (b0 &&& (255 : Int32)))])) _
    refine XS.iloadN X9.here hx rfl (hb hby own_dd30) rfl ?_
    exact Steps.refl _)
  have c12 : Steps p.tables e below S0 (T9.setTop (mkF m 42 #[.val (.ref a), .val (.int (0 : Int32)), .val (.int (b0 &&& (255 : Int32))), .val (.int (-3 : Int32)), .val (.int (3 : Int32)), .unset, .unset] [(.int (b0 &&& (255 : Int32)))])) := c11.trans (by
    refine XS.ifYes X9.here hx rfl (pc0 := 31) (pc' := 42) rfl (hb hby own_dd31) rfl ((if0 _ _).trans (flt (by decide)).2.2.2) (by decide) (by decide) ?_
    exact Steps.refl _)
  have c13 : Steps p.tables e below S0 (T9.setTop (mkF m 54 #[.val (.ref a), .val (.int (0 : Int32)), .val (.int (b0 &&& (255 : Int32))), .val (.int (-3 : Int32)), .val (.int (3 : Int32)), .val (.int ((b0 &&& (255 : Int32)) &&& (127 : Int32))), .val (.int (1 : Int32))] [(.int (3 : Int32)), (.int (1 : Int32))])) := c12.trans (by
    refine XS.bipush X9.here hx rfl (hb hby own_dd42) ?_
    show Steps p.tables e below (T9.setTop (mkF m 44 #[.val (.ref a), .val (.int (0 : Int32)), .val (.int (b0 &&& (255 : Int32))), .val (.int (-3 : Int32)), .val (.int (3 : Int32)), .unset, .unset] [(.int (127 : Int32)), (.int (b0 &&& (255 : Int32)))])) _
    refine XS.iand X9.here hx rfl (hb hby own_dd44) rfl ?_
    show Steps p.tables e below (T9.setTop (mkF m 45 #[.val (.ref a), .val (.int (0 : Int32)), .val (.int (b0 &&& (255 : Int32))), .val (.int (-3 : Int32)), .val (.int (3 : Int32)), .unset, .unset] [(.int ((b0 &&& (255 : Int32)) &&& (127 : Int32)))])) _
    refine XS.istore X9.here hx rfl (hb hby own_dd45) rfl (l' := #[.val (.ref a), .val (.int (0 : Int32)), .val (.int (b0 &&& (255 : Int32))), .val (.int (-3 : Int32)), .val (.int (3 : Int32)), .val (.int ((b0 &&& (255 : Int32)) &&& (127 : Int32))), .unset]) rfl ?_
    show Steps p.tables e below (T9.setTop (mkF m 47 #[.val (.ref a), .val (.int (0 : Int32)), .val (.int (b0 &&& (255 : Int32))), .val (.int (-3 : Int32)), .val (.int (3 : Int32)), .val (.int ((b0 &&& (255 : Int32)) &&& (127 : Int32))), .unset] [])) _
    refine XS.iconst X9.here hx rfl (hb hby own_dd47) ?_
    show Steps p.tables e below (T9.setTop (mkF m 48 #[.val (.ref a), .val (.int (0 : Int32)), .val (.int (b0 &&& (255 : Int32))), .val (.int (-3 : Int32)), .val (.int (3 : Int32)), .val (.int ((b0 &&& (255 : Int32)) &&& (127 : Int32))), .unset] [(.int (1 : Int32))])) _
    refine XS.istore X9.here hx rfl (hb hby own_dd48) rfl (l' := #[.val (.ref a), .val (.int (0 : Int32)), .val (.int (b0 &&& (255 : Int32))), .val (.int (-3 : Int32)), .val (.int (3 : Int32)), .val (.int ((b0 &&& (255 : Int32)) &&& (127 : Int32))), .val (.int (1 : Int32))]) rfl ?_
    show Steps p.tables e below (T9.setTop (mkF m 50 #[.val (.ref a), .val (.int (0 : Int32)), .val (.int (b0 &&& (255 : Int32))), .val (.int (-3 : Int32)), .val (.int (3 : Int32)), .val (.int ((b0 &&& (255 : Int32)) &&& (127 : Int32))), .val (.int (1 : Int32))] [])) _
    refine XS.iload X9.here hx rfl (hb hby own_dd50) rfl ?_
    show Steps p.tables e below (T9.setTop (mkF m 52 #[.val (.ref a), .val (.int (0 : Int32)), .val (.int (b0 &&& (255 : Int32))), .val (.int (-3 : Int32)), .val (.int (3 : Int32)), .val (.int ((b0 &&& (255 : Int32)) &&& (127 : Int32))), .val (.int (1 : Int32))] [(.int (1 : Int32))])) _
    refine XS.iload X9.here hx rfl (hb hby own_dd52) rfl ?_
    exact Steps.refl _)
  have c14 : Steps p.tables e below S0 (T9.setTop (mkF m 57 #[.val (.ref a), .val (.int (0 : Int32)), .val (.int (b0 &&& (255 : Int32))), .val (.int (-3 : Int32)), .val (.int (3 : Int32)), .val (.int ((b0 &&& (255 : Int32)) &&& (127 : Int32))), .val (.int (1 : Int32))] [])) := c13.trans (by
    refine XS.icmpNo X9.here hx rfl (hb hby own_dd54) rfl (tlt (by decide)).2.1 ?_
    exact Steps.refl _)
  have c15 : Steps p.tables e below S0 (T9.setTop (mkF m 67 #[.val (.ref a), .val (.int (0 : Int32)), .val (.int (b0 &&& (255 : Int32))), .val (.int (-3 : Int32)), .val (.int (3 : Int32)), .val (.int ((b0 &&& (255 : Int32)) &&& (127 : Int32))), .val (.int (1 : Int32))] [(.int ((0 : Int32) + (1 : Int32))), (.ref a), (.int (((b0 &&& (255 : Int32)) &&& (127 : Int32)) <<< ((6 : Int32) &&& 31)))])) := c14.trans (by
    refine XS.iload X9.here hx rfl (hb hby own_dd57) rfl ?_
    show Steps p.tables e below (T9.setTop (mkF m 59 #[.val (.ref a), .val (.int (0 : Int32)), .val (.int (b0 &&& (255 : Int32))), .val (.int (-3 : Int32)), .val (.int (3 : Int32)), .val (.int ((b0 &&& (255 : Int32)) &&& (127 : Int32))), .val (.int (1 : Int32))] [(.int ((b0 &&& (255 : Int32)) &&& (127 : Int32)))])) _
    refine XS.bipush X9.here hx rfl (hb hby own_dd59) ?_
    show Steps p.tables e below (T9.setTop (mkF m 61 #[.val (.ref a), .val (.int (0 : Int32)), .val (.int (b0 &&& (255 : Int32))), .val (.int (-3 : Int32)), .val (.int (3 : Int32)), .val (.int ((b0 &&& (255 : Int32)) &&& (127 : Int32))), .val (.int (1 : Int32))] [(.int (6 : Int32)), (.int ((b0 &&& (255 : Int32)) &&& (127 : Int32)))])) _
    refine XS.ishl X9.here hx rfl (hb hby own_dd61) rfl ?_
    show Steps p.tables e below (T9.setTop (mkF m 62 #[.val (.ref a), .val (.int (0 : Int32)), .val (.int (b0 &&& (255 : Int32))), .val (.int (-3 : Int32)), .val (.int (3 : Int32)), .val (.int ((b0 &&& (255 : Int32)) &&& (127 : Int32))), .val (.int (1 : Int32))] [(.int (((b0 &&& (255 : Int32)) &&& (127 : Int32)) <<< ((6 : Int32) &&& 31)))])) _
    refine XS.aloadN X9.here hx rfl (hb hby own_dd62) rfl rfl ?_
    show Steps p.tables e below (T9.setTop (mkF m 63 #[.val (.ref a), .val (.int (0 : Int32)), .val (.int (b0 &&& (255 : Int32))), .val (.int (-3 : Int32)), .val (.int (3 : Int32)), .val (.int ((b0 &&& (255 : Int32)) &&& (127 : Int32))), .val (.int (1 : Int32))] [(.ref a), (.int (((b0 &&& (255 : Int32)) &&& (127 : Int32)) <<< ((6 : Int32) &&& 31)))])) _
    refine XS.iloadN X9.here hx rfl (hb hby own_dd63) rfl ?_
    show Steps p.tables e below (T9.setTop (mkF m 64 #[.val (.ref a), .val (.int (0 : Int32)), .val (.int (b0 &&& (255 : Int32))), .val (.int (-3 : Int32)), .val (.int (3 : Int32)), .val (.int ((b0 &&& (255 : Int32)) &&& (127 : Int32))), .val (.int (1 : Int32))] [(.int (0 : Int32)), (.ref a), (.int (((b0 &&& (255 : Int32)) &&& (127 : Int32)) <<< ((6 : Int32) &&& 31)))])) _
    refine XS.iload X9.here hx rfl (hb hby own_dd64) rfl ?_
    show Steps p.tables e below (T9.setTop (mkF m 66 #[.val (.ref a), .val (.int (0 : Int32)), .val (.int (b0 &&& (255 : Int32))), .val (.int (-3 : Int32)), .val (.int (3 : Int32)), .val (.int ((b0 &&& (255 : Int32)) &&& (127 : Int32))), .val (.int (1 : Int32))] [(.int (1 : Int32)), (.int (0 : Int32)), (.ref a), (.int (((b0 &&& (255 : Int32)) &&& (127 : Int32)) <<< ((6 : Int32) &&& 31)))])) _
    refine XS.iadd X9.here hx rfl (hb hby own_dd66) rfl ?_
    exact Steps.refl _)
  have c16 : Steps p.tables e below S0 (T9.setTop (mkF m 68 #[.val (.ref a), .val (.int (0 : Int32)), .val (.int (b0 &&& (255 : Int32))), .val (.int (-3 : Int32)), .val (.int (3 : Int32)), .val (.int ((b0 &&& (255 : Int32)) &&& (127 : Int32))), .val (.int (1 : Int32))] [(.int b1), (.int (((b0 &&& (255 : Int32)) &&& (127 : Int32)) <<< ((6 : Int32) &&& 31)))])) := c15.trans (by
    refine X9.baloadBytes hx (j := ((0 : Int32) + (1 : Int32))) (v := (.int b1)) (by rw [ea]; exact Ac.1) (State.isArrayOf_alike hZ.alike Ac.2.1) Ac.2.2 (by rw [hcl]; exact own_in4 (by decide)) (by rw [hcl]; rfl) (g := (mkF m 67 #[.val (.ref a), .val (.int (0 : Int32)), .val (.int (b0 &&& (255 : Int32))), .val (.int (-3 : Int32)), .val (.int (3 : Int32)), .val (.int ((b0 &&& (255 : Int32)) &&& (127 : Int32))), .val (.int (1 : Int32))] [(.int ((0 : Int32) + (1 : Int32))), (.ref a), (.int (((b0 &&& (255 : Int32)) &&& (127 : Int32)) <<< ((6 : Int32) &&& 31)))])) rfl rfl (hb hby own_dd67) _ ?_
    exact Steps.refl _)
  have c17 : Steps p.tables e below S0 (T9.setTop (mkF m 54 #[.val (.ref a), .val (.int (0 : Int32)), .val (.int (b0 &&& (255 : Int32))), .val (.int (-3 : Int32)), .val (.int (3 : Int32)), .val (.int ((((b0 &&& (255 : Int32)) &&& (127 : Int32)) <<< ((6 : Int32) &&& 31)) ||| (b1 &&& (63 : Int32)))), .val (.int ((1 : Int32) + (1 : Int32)))] [(.int (3 : Int32)), (.int ((1 : Int32) + (1 : Int32)))])) := c16.trans (by
    refine XS.bipush X9.here hx rfl (hb hby own_dd68) ?_
    show Steps p.tables e below (T9.setTop (mkF m 70 #[.val (.ref a), .val (.int (0 : Int32)), .val (.int (b0 &&& (255 : Int32))), .val (.int (-3 : Int32)), .val (.int (3 : Int32)), .val (.int ((b0 &&& (255 : Int32)) &&& (127 : Int32))), .val (.int (1 : Int32))] [(.int (63 : Int32)), (.int b1), (.int (((b0 &&& (255 : Int32)) &&& (127 : Int32)) <<< ((6 : Int32) &&& 31)))])) _
    refine XS.iand X9.here hx rfl (hb hby own_dd70) rfl ?_
    show Steps p.tables e below (T9.setTop (mkF m 71 #[.val (.ref a), .val (.int (0 : Int32)), .val (.int (b0 &&& (255 : Int32))), .val (.int (-3 : Int32)), .val (.int (3 : Int32)), .val (.int ((b0 &&& (255 : Int32)) &&& (127 : Int32))), .val (.int (1 : Int32))] [(.int (b1 &&& (63 : Int32))), (.int (((b0 &&& (255 : Int32)) &&& (127 : Int32)) <<< ((6 : Int32) &&& 31)))])) _
    refine XS.ior X9.here hx rfl (hb hby own_dd71) rfl ?_
    show Steps p.tables e below (T9.setTop (mkF m 72 #[.val (.ref a), .val (.int (0 : Int32)), .val (.int (b0 &&& (255 : Int32))), .val (.int (-3 : Int32)), .val (.int (3 : Int32)), .val (.int ((b0 &&& (255 : Int32)) &&& (127 : Int32))), .val (.int (1 : Int32))] [(.int ((((b0 &&& (255 : Int32)) &&& (127 : Int32)) <<< ((6 : Int32) &&& 31)) ||| (b1 &&& (63 : Int32))))])) _
    refine XS.istore X9.here hx rfl (hb hby own_dd72) rfl (l' := #[.val (.ref a), .val (.int (0 : Int32)), .val (.int (b0 &&& (255 : Int32))), .val (.int (-3 : Int32)), .val (.int (3 : Int32)), .val (.int ((((b0 &&& (255 : Int32)) &&& (127 : Int32)) <<< ((6 : Int32) &&& 31)) ||| (b1 &&& (63 : Int32)))), .val (.int (1 : Int32))]) rfl ?_
    show Steps p.tables e below (T9.setTop (mkF m 74 #[.val (.ref a), .val (.int (0 : Int32)), .val (.int (b0 &&& (255 : Int32))), .val (.int (-3 : Int32)), .val (.int (3 : Int32)), .val (.int ((((b0 &&& (255 : Int32)) &&& (127 : Int32)) <<< ((6 : Int32) &&& 31)) ||| (b1 &&& (63 : Int32)))), .val (.int (1 : Int32))] [])) _
    refine XS.iinc X9.here hx rfl (hb hby own_dd74) rfl (l' := #[.val (.ref a), .val (.int (0 : Int32)), .val (.int (b0 &&& (255 : Int32))), .val (.int (-3 : Int32)), .val (.int (3 : Int32)), .val (.int ((((b0 &&& (255 : Int32)) &&& (127 : Int32)) <<< ((6 : Int32) &&& 31)) ||| (b1 &&& (63 : Int32)))), .val (.int ((1 : Int32) + (1 : Int32)))]) rfl ?_
    show Steps p.tables e below (T9.setTop (mkF m 77 #[.val (.ref a), .val (.int (0 : Int32)), .val (.int (b0 &&& (255 : Int32))), .val (.int (-3 : Int32)), .val (.int (3 : Int32)), .val (.int ((((b0 &&& (255 : Int32)) &&& (127 : Int32)) <<< ((6 : Int32) &&& 31)) ||| (b1 &&& (63 : Int32)))), .val (.int ((1 : Int32) + (1 : Int32)))] [])) _
    refine XS.goto X9.here hx rfl (pc0 := 77) (pc' := 50) rfl (hb hby own_dd77) (by decide) (by decide) ?_
    show Steps p.tables e below (T9.setTop (mkF m 50 #[.val (.ref a), .val (.int (0 : Int32)), .val (.int (b0 &&& (255 : Int32))), .val (.int (-3 : Int32)), .val (.int (3 : Int32)), .val (.int ((((b0 &&& (255 : Int32)) &&& (127 : Int32)) <<< ((6 : Int32) &&& 31)) ||| (b1 &&& (63 : Int32)))), .val (.int ((1 : Int32) + (1 : Int32)))] [])) _
    refine XS.iload X9.here hx rfl (hb hby own_dd50) rfl ?_
    show Steps p.tables e below (T9.setTop (mkF m 52 #[.val (.ref a), .val (.int (0 : Int32)), .val (.int (b0 &&& (255 : Int32))), .val (.int (-3 : Int32)), .val (.int (3 : Int32)), .val (.int ((((b0 &&& (255 : Int32)) &&& (127 : Int32)) <<< ((6 : Int32) &&& 31)) ||| (b1 &&& (63 : Int32)))), .val (.int ((1 : Int32) + (1 : Int32)))] [(.int ((1 : Int32) + (1 : Int32)))])) _
    refine XS.iload X9.here hx rfl (hb hby own_dd52) rfl ?_
    exact Steps.refl _)
  have c18 : Steps p.tables e below S0 (T9.setTop (mkF m 57 #[.val (.ref a), .val (.int (0 : Int32)), .val (.int (b0 &&& (255 : Int32))), .val (.int (-3 : Int32)), .val (.int (3 : Int32)), .val (.int ((((b0 &&& (255 : Int32)) &&& (127 : Int32)) <<< ((6 : Int32) &&& 31)) ||| (b1 &&& (63 : Int32)))), .val (.int ((1 : Int32) + (1 : Int32)))] [])) := c17.trans (by
    refine XS.icmpNo X9.here hx rfl (hb hby own_dd54) rfl (tlt (by decide)).2.1 ?_
    exact Steps.refl _)
  have c19 : Steps p.tables e below S0 (T9.setTop (mkF m 67 #[.val (.ref a), .val (.int (0 : Int32)), .val (.int (b0 &&& (255 : Int32))), .val (.int (-3 : Int32)), .val (.int (3 : Int32)), .val (.int ((((b0 &&& (255 : Int32)) &&& (127 : Int32)) <<< ((6 : Int32) &&& 31)) ||| (b1 &&& (63 : Int32)))), .val (.int ((1 : Int32) + (1 : Int32)))] [(.int ((0 : Int32) + ((1 : Int32) + (1 : Int32)))), (.ref a), (.int (((((b0 &&& (255 : Int32)) &&& (127 : Int32)) <<< ((6 : Int32) &&& 31)) ||| (b1 &&& (63 : Int32))) <<< ((6 : Int32) &&& 31)))])) := c18.trans (by
    refine XS.iload X9.here hx rfl (hb hby own_dd57) rfl ?_
    show Steps p.tables e below (T9.setTop (mkF m 59 #[.val (.ref a), .val (.int (0 : Int32)), .val (.int (b0 &&& (255 : Int32))), .val (.int (-3 : Int32)), .val (.int (3 : Int32)), .val (.int ((((b0 &&& (255 : Int32)) &&& (127 : Int32)) <<< ((6 : Int32) &&& 31)) ||| (b1 &&& (63 : Int32)))), .val (.int ((1 : Int32) + (1 : Int32)))] [(.int ((((b0 &&& (255 : Int32)) &&& (127 : Int32)) <<< ((6 : Int32) &&& 31)) ||| (b1 &&& (63 : Int32))))])) _
    refine XS.bipush X9.here hx rfl (hb hby own_dd59) ?_
    show Steps p.tables e below (T9.setTop (mkF m 61 #[.val (.ref a), .val (.int (0 : Int32)), .val (.int (b0 &&& (255 : Int32))), .val (.int (-3 : Int32)), .val (.int (3 : Int32)), .val (.int ((((b0 &&& (255 : Int32)) &&& (127 : Int32)) <<< ((6 : Int32) &&& 31)) ||| (b1 &&& (63 : Int32)))), .val (.int ((1 : Int32) + (1 : Int32)))] [(.int (6 : Int32)), (.int ((((b0 &&& (255 : Int32)) &&& (127 : Int32)) <<< ((6 : Int32) &&& 31)) ||| (b1 &&& (63 : Int32))))])) _
    refine XS.ishl X9.here hx rfl (hb hby own_dd61) rfl ?_
    show Steps p.tables e below (T9.setTop (mkF m 62 #[.val (.ref a), .val (.int (0 : Int32)), .val (.int (b0 &&& (255 : Int32))), .val (.int (-3 : Int32)), .val (.int (3 : Int32)), .val (.int ((((b0 &&& (255 : Int32)) &&& (127 : Int32)) <<< ((6 : Int32) &&& 31)) ||| (b1 &&& (63 : Int32)))), .val (.int ((1 : Int32) + (1 : Int32)))] [(.int (((((b0 &&& (255 : Int32)) &&& (127 : Int32)) <<< ((6 : Int32) &&& 31)) ||| (b1 &&& (63 : Int32))) <<< ((6 : Int32) &&& 31)))])) _
    refine XS.aloadN X9.here hx rfl (hb hby own_dd62) rfl rfl ?_
    show Steps p.tables e below (T9.setTop (mkF m 63 #[.val (.ref a), .val (.int (0 : Int32)), .val (.int (b0 &&& (255 : Int32))), .val (.int (-3 : Int32)), .val (.int (3 : Int32)), .val (.int ((((b0 &&& (255 : Int32)) &&& (127 : Int32)) <<< ((6 : Int32) &&& 31)) ||| (b1 &&& (63 : Int32)))), .val (.int ((1 : Int32) + (1 : Int32)))] [(.ref a), (.int (((((b0 &&& (255 : Int32)) &&& (127 : Int32)) <<< ((6 : Int32) &&& 31)) ||| (b1 &&& (63 : Int32))) <<< ((6 : Int32) &&& 31)))])) _
    refine XS.iloadN X9.here hx rfl (hb hby own_dd63) rfl ?_
    show Steps p.tables e below (T9.setTop (mkF m 64 #[.val (.ref a), .val (.int (0 : Int32)), .val (.int (b0 &&& (255 : Int32))), .val (.int (-3 : Int32)), .val (.int (3 : Int32)), .val (.int ((((b0 &&& (255 : Int32)) &&& (127 : Int32)) <<< ((6 : Int32) &&& 31)) ||| (b1 &&& (63 : Int32)))), .val (.int ((1 : Int32) + (1 : Int32)))] [(.int (0 : Int32)), (.ref a), (.int (((((b0 &&& (255 : Int32)) &&& (127 : Int32)) <<< ((6 : Int32) &&& 31)) ||| (b1 &&& (63 : Int32))) <<< ((6 : Int32) &&& 31)))])) _
    refine XS.iload X9.here hx rfl (hb hby own_dd64) rfl ?_
    show Steps p.tables e below (T9.setTop (mkF m 66 #[.val (.ref a), .val (.int (0 : Int32)), .val (.int (b0 &&& (255 : Int32))), .val (.int (-3 : Int32)), .val (.int (3 : Int32)), .val (.int ((((b0 &&& (255 : Int32)) &&& (127 : Int32)) <<< ((6 : Int32) &&& 31)) ||| (b1 &&& (63 : Int32)))), .val (.int ((1 : Int32) + (1 : Int32)))] [(.int ((1 : Int32) + (1 : Int32))), (.int (0 : Int32)), (.ref a), (.int (((((b0 &&& (255 : Int32)) &&& (127 : Int32)) <<< ((6 : Int32) &&& 31)) ||| (b1 &&& (63 : Int32))) <<< ((6 : Int32) &&& 31)))])) _
    refine XS.iadd X9.here hx rfl (hb hby own_dd66) rfl ?_
    exact Steps.refl _)
  have c20 : Steps p.tables e below S0 (T9.setTop (mkF m 68 #[.val (.ref a), .val (.int (0 : Int32)), .val (.int (b0 &&& (255 : Int32))), .val (.int (-3 : Int32)), .val (.int (3 : Int32)), .val (.int ((((b0 &&& (255 : Int32)) &&& (127 : Int32)) <<< ((6 : Int32) &&& 31)) ||| (b1 &&& (63 : Int32)))), .val (.int ((1 : Int32) + (1 : Int32)))] [(.int b2), (.int (((((b0 &&& (255 : Int32)) &&& (127 : Int32)) <<< ((6 : Int32) &&& 31)) ||| (b1 &&& (63 : Int32))) <<< ((6 : Int32) &&& 31)))])) := c19.trans (by
    refine X9.baloadBytes hx (j := ((0 : Int32) + ((1 : Int32) + (1 : Int32)))) (v := (.int b2)) (by rw [ea]; exact Ac.1) (State.isArrayOf_alike hZ.alike Ac.2.1) Ac.2.2 (by rw [hcl]; exact own_in4 (by decide)) (by rw [hcl]; rfl) (g := (mkF m 67 #[.val (.ref a), .val (.int (0 : Int32)), .val (.int (b0 &&& (255 : Int32))), .val (.int (-3 : Int32)), .val (.int (3 : Int32)), .val (.int ((((b0 &&& (255 : Int32)) &&& (127 : Int32)) <<< ((6 : Int32) &&& 31)) ||| (b1 &&& (63 : Int32)))), .val (.int ((1 : Int32) + (1 : Int32)))] [(.int ((0 : Int32) + ((1 : Int32) + (1 : Int32)))), (.ref a), (.int (((((b0 &&& (255 : Int32)) &&& (127 : Int32)) <<< ((6 : Int32) &&& 31)) ||| (b1 &&& (63 : Int32))) <<< ((6 : Int32) &&& 31)))])) rfl rfl (hb hby own_dd67) _ ?_
    exact Steps.refl _)
  have c21 : Steps p.tables e below S0 (T9.setTop (mkF m 54 #[.val (.ref a), .val (.int (0 : Int32)), .val (.int (b0 &&& (255 : Int32))), .val (.int (-3 : Int32)), .val (.int (3 : Int32)), .val (.int ((((((b0 &&& (255 : Int32)) &&& (127 : Int32)) <<< ((6 : Int32) &&& 31)) ||| (b1 &&& (63 : Int32))) <<< ((6 : Int32) &&& 31)) ||| (b2 &&& (63 : Int32)))), .val (.int (((1 : Int32) + (1 : Int32)) + (1 : Int32)))] [(.int (3 : Int32)), (.int (((1 : Int32) + (1 : Int32)) + (1 : Int32)))])) := c20.trans (by
    refine XS.bipush X9.here hx rfl (hb hby own_dd68) ?_
    show Steps p.tables e below (T9.setTop (mkF m 70 #[.val (.ref a), .val (.int (0 : Int32)), .val (.int (b0 &&& (255 : Int32))), .val (.int (-3 : Int32)), .val (.int (3 : Int32)), .val (.int ((((b0 &&& (255 : Int32)) &&& (127 : Int32)) <<< ((6 : Int32) &&& 31)) ||| (b1 &&& (63 : Int32)))), .val (.int ((1 : Int32) + (1 : Int32)))] [(.int (63 : Int32)), (.int b2), (.int (((((b0 &&& (255 : Int32)) &&& (127 : Int32)) <<< ((6 : Int32) &&& 31)) ||| (b1 &&& (63 : Int32))) <<< ((6 : Int32) &&& 31)))])) _
    refine XS.iand X9.here hx rfl (hb hby own_dd70) rfl ?_
    show Steps p.tables e below (T9.setTop (mkF m 71 #[.val (.ref a), .val (.int (0 : Int32)), .val (.int (b0 &&& (255 : Int32))), .val (.int (-3 : Int32)), .val (.int (3 : Int32)), .val (.int ((((b0 &&& (255 : Int32)) &&& (127 : Int32)) <<< ((6 : Int32) &&& 31)) ||| (b1 &&& (63 : Int32)))), .val (.int ((1 : Int32) + (1 : Int32)))] [(.int (b2 &&& (63 : Int32))), (.int (((((b0 &&& (255 : Int32)) &&& (127 : Int32)) <<< ((6 : Int32) &&& 31)) ||| (b1 &&& (63 : Int32))) <<< ((6 : Int32) &&& 31)))])) _
    refine XS.ior X9.here hx rfl (hb hby own_dd71) rfl ?_
    show Steps p.tables e below (T9.setTop (mkF m 72 #[.val (.ref a), .val (.int (0 : Int32)), .val (.int (b0 &&& (255 : Int32))), .val (.int (-3 : Int32)), .val (.int (3 : Int32)), .val (.int ((((b0 &&& (255 : Int32)) &&& (127 : Int32)) <<< ((6 : Int32) &&& 31)) ||| (b1 &&& (63 : Int32)))), .val (.int ((1 : Int32) + (1 : Int32)))] [(.int ((((((b0 &&& (255 : Int32)) &&& (127 : Int32)) <<< ((6 : Int32) &&& 31)) ||| (b1 &&& (63 : Int32))) <<< ((6 : Int32) &&& 31)) ||| (b2 &&& (63 : Int32))))])) _
    refine XS.istore X9.here hx rfl (hb hby own_dd72) rfl (l' := #[.val (.ref a), .val (.int (0 : Int32)), .val (.int (b0 &&& (255 : Int32))), .val (.int (-3 : Int32)), .val (.int (3 : Int32)), .val (.int ((((((b0 &&& (255 : Int32)) &&& (127 : Int32)) <<< ((6 : Int32) &&& 31)) ||| (b1 &&& (63 : Int32))) <<< ((6 : Int32) &&& 31)) ||| (b2 &&& (63 : Int32)))), .val (.int ((1 : Int32) + (1 : Int32)))]) rfl ?_
    show Steps p.tables e below (T9.setTop (mkF m 74 #[.val (.ref a), .val (.int (0 : Int32)), .val (.int (b0 &&& (255 : Int32))), .val (.int (-3 : Int32)), .val (.int (3 : Int32)), .val (.int ((((((b0 &&& (255 : Int32)) &&& (127 : Int32)) <<< ((6 : Int32) &&& 31)) ||| (b1 &&& (63 : Int32))) <<< ((6 : Int32) &&& 31)) ||| (b2 &&& (63 : Int32)))), .val (.int ((1 : Int32) + (1 : Int32)))] [])) _
    refine XS.iinc X9.here hx rfl (hb hby own_dd74) rfl (l' := #[.val (.ref a), .val (.int (0 : Int32)), .val (.int (b0 &&& (255 : Int32))), .val (.int (-3 : Int32)), .val (.int (3 : Int32)), .val (.int ((((((b0 &&& (255 : Int32)) &&& (127 : Int32)) <<< ((6 : Int32) &&& 31)) ||| (b1 &&& (63 : Int32))) <<< ((6 : Int32) &&& 31)) ||| (b2 &&& (63 : Int32)))), .val (.int (((1 : Int32) + (1 : Int32)) + (1 : Int32)))]) rfl ?_
    show Steps p.tables e below (T9.setTop (mkF m 77 #[.val (.ref a), .val (.int (0 : Int32)), .val (.int (b0 &&& (255 : Int32))), .val (.int (-3 : Int32)), .val (.int (3 : Int32)), .val (.int ((((((b0 &&& (255 : Int32)) &&& (127 : Int32)) <<< ((6 : Int32) &&& 31)) ||| (b1 &&& (63 : Int32))) <<< ((6 : Int32) &&& 31)) ||| (b2 &&& (63 : Int32)))), .val (.int (((1 : Int32) + (1 : Int32)) + (1 : Int32)))] [])) _
    refine XS.goto X9.here hx rfl (pc0 := 77) (pc' := 50) rfl (hb hby own_dd77) (by decide) (by decide) ?_
    show Steps p.tables e below (T9.setTop (mkF m 50 #[.val (.ref a), .val (.int (0 : Int32)), .val (.int (b0 &&& (255 : Int32))), .val (.int (-3 : Int32)), .val (.int (3 : Int32)), .val (.int ((((((b0 &&& (255 : Int32)) &&& (127 : Int32)) <<< ((6 : Int32) &&& 31)) ||| (b1 &&& (63 : Int32))) <<< ((6 : Int32) &&& 31)) ||| (b2 &&& (63 : Int32)))), .val (.int (((1 : Int32) + (1 : Int32)) + (1 : Int32)))] [])) _
    refine XS.iload X9.here hx rfl (hb hby own_dd50) rfl ?_
    show Steps p.tables e below (T9.setTop (mkF m 52 #[.val (.ref a), .val (.int (0 : Int32)), .val (.int (b0 &&& (255 : Int32))), .val (.int (-3 : Int32)), .val (.int (3 : Int32)), .val (.int ((((((b0 &&& (255 : Int32)) &&& (127 : Int32)) <<< ((6 : Int32) &&& 31)) ||| (b1 &&& (63 : Int32))) <<< ((6 : Int32) &&& 31)) ||| (b2 &&& (63 : Int32)))), .val (.int (((1 : Int32) + (1 : Int32)) + (1 : Int32)))] [(.int (((1 : Int32) + (1 : Int32)) + (1 : Int32)))])) _
    refine XS.iload X9.here hx rfl (hb hby own_dd52) rfl ?_
    exact Steps.refl _)
  have c22 : Steps p.tables e below S0 (T9.setTop (mkF m 80 #[.val (.ref a), .val (.int (0 : Int32)), .val (.int (b0 &&& (255 : Int32))), .val (.int (-3 : Int32)), .val (.int (3 : Int32)), .val (.int ((((((b0 &&& (255 : Int32)) &&& (127 : Int32)) <<< ((6 : Int32) &&& 31)) ||| (b1 &&& (63 : Int32))) <<< ((6 : Int32) &&& 31)) ||| (b2 &&& (63 : Int32)))), .val (.int (((1 : Int32) + (1 : Int32)) + (1 : Int32)))] [])) := c21.trans (by
    refine XS.icmpYes X9.here hx rfl (pc0 := 54) (pc' := 80) rfl (hb hby own_dd54) rfl (flt (by decide)).2.1 (by decide) (by decide) ?_
    exact Steps.refl _)
  have c23 : Steps p.tables e below S0 (T9.setTop (mkF m 81 #[.val (.ref a), .val (.int (0 : Int32)), .val (.int (b0 &&& (255 : Int32))), .val (.int (-3 : Int32)), .val (.int (3 : Int32)), .val (.int ((((((b0 &&& (255 : Int32)) &&& (127 : Int32)) <<< ((6 : Int32) &&& 31)) ||| (b1 &&& (63 : Int32))) <<< ((6 : Int32) &&& 31)) ||| (b2 &&& (63 : Int32)))), .val (.int (((1 : Int32) + (1 : Int32)) + (1 : Int32)))] [(.int (-3 : Int32))])) := c22.trans (by
    refine XS.iloadN X9.here hx rfl (hb hby own_dd80) rfl ?_
    exact Steps.refl _)
  have c24 : Steps p.tables e below S0 (T9.setTop (mkF m 89 #[.val (.ref a), .val (.int (0 : Int32)), .val (.int (b0 &&& (255 : Int32))), .val (.int (-3 : Int32)), .val (.int (3 : Int32)), .val (.int ((((((b0 &&& (255 : Int32)) &&& (127 : Int32)) <<< ((6 : Int32) &&& 31)) ||| (b1 &&& (63 : Int32))) <<< ((6 : Int32) &&& 31)) ||| (b2 &&& (63 : Int32)))), .val (.int (((1 : Int32) + (1 : Int32)) + (1 : Int32)))] [])) := c23.trans (by
    refine XS.ifYes X9.here hx rfl (pc0 := 81) (pc' := 89) rfl (hb hby own_dd81) rfl ((if0 _ _).trans (flt (by decide)).2.2.2) (by decide) (by decide) ?_
    exact Steps.refl _)
  have c25 : Steps p.tables e below S0 (T9.setTop (mkF m 94 #[.val (.ref a), .val (.int (0 : Int32)), .val (.int (b0 &&& (255 : Int32))), .val (.int (-3 : Int32)), .val (.int (3 : Int32)), .val (.int ((((((b0 &&& (255 : Int32)) &&& (127 : Int32)) <<< ((6 : Int32) &&& 31)) ||| (b1 &&& (63 : Int32))) <<< ((6 : Int32) &&& 31)) ||| (b2 &&& (63 : Int32)))), .val (.int (((1 : Int32) + (1 : Int32)) + (1 : Int32)))] [(.int ((1114112 : Int32) + ((((((b0 &&& (255 : Int32)) &&& (127 : Int32)) <<< ((6 : Int32) &&& 31)) ||| (b1 &&& (63 : Int32))) <<< ((6 : Int32) &&& 31)) ||| (b2 &&& (63 : Int32)))))])) := c24.trans (by
    refine X9.ldcInt hx hown (mvT hZ (hw _ (List.mem_of_getElem? (i := 16) rfl))) (g := (mkF m 89 #[.val (.ref a), .val (.int (0 : Int32)), .val (.int (b0 &&& (255 : Int32))), .val (.int (-3 : Int32)), .val (.int (3 : Int32)), .val (.int ((((((b0 &&& (255 : Int32)) &&& (127 : Int32)) <<< ((6 : Int32) &&& 31)) ||| (b1 &&& (63 : Int32))) <<< ((6 : Int32) &&& 31)) ||| (b2 &&& (63 : Int32)))), .val (.int (((1 : Int32) + (1 : Int32)) + (1 : Int32)))] [])) rfl (hb hby own_dd89) _ ?_
    show Steps p.tables e below (T9.setTop (mkF m 91 #[.val (.ref a), .val (.int (0 : Int32)), .val (.int (b0 &&& (255 : Int32))), .val (.int (-3 : Int32)), .val (.int (3 : Int32)), .val (.int ((((((b0 &&& (255 : Int32)) &&& (127 : Int32)) <<< ((6 : Int32) &&& 31)) ||| (b1 &&& (63 : Int32))) <<< ((6 : Int32) &&& 31)) ||| (b2 &&& (63 : Int32)))), .val (.int (((1 : Int32) + (1 : Int32)) + (1 : Int32)))] [(.int (1114112 : Int32))])) _
    refine XS.iload X9.here hx rfl (hb hby own_dd91) rfl ?_
    show Steps p.tables e below (T9.setTop (mkF m 93 #[.val (.ref a), .val (.int (0 : Int32)), .val (.int (b0 &&& (255 : Int32))), .val (.int (-3 : Int32)), .val (.int (3 : Int32)), .val (.int ((((((b0 &&& (255 : Int32)) &&& (127 : Int32)) <<< ((6 : Int32) &&& 31)) ||| (b1 &&& (63 : Int32))) <<< ((6 : Int32) &&& 31)) ||| (b2 &&& (63 : Int32)))), .val (.int (((1 : Int32) + (1 : Int32)) + (1 : Int32)))] [(.int ((((((b0 &&& (255 : Int32)) &&& (127 : Int32)) <<< ((6 : Int32) &&& 31)) ||| (b1 &&& (63 : Int32))) <<< ((6 : Int32) &&& 31)) ||| (b2 &&& (63 : Int32)))), (.int (1114112 : Int32))])) _
    refine XS.iadd X9.here hx rfl (hb hby own_dd93) rfl ?_
    exact Steps.refl _)
  obtain ⟨fs, hr, hrun, hended, hW, hsame⟩ := X9.leave (v := some (.int ((1114112 : Int32) + ((((((b0 &&& (255 : Int32)) &&& (127 : Int32)) <<< ((6 : Int32) &&& 31)) ||| (b1 &&& (63 : Int32))) <<< ((6 : Int32) &&& 31)) ||| (b2 &&& (63 : Int32)))))) (fun h => by rw [Bd.returns] at h; cases h)
  exact ⟨_, _, c25.trans (retOut X9 hx (t := .int) (i := .ireturn) Bd.returns rfl (Or.inl ⟨rfl, Or.inl rfl, _, rfl⟩) (hb hby own_dd94) hr), hrun, hended, _, _, rfl, ⟨rfl, N9, ea⟩, ⟨_, rfl⟩, hW, hsame.mono (by decide) (by decide)⟩
theorem own_law_pn : plainName "com/example/coersa/coersa/Utf8ByteCountPinLaw" = true := by first | (simp [plainName, overriddenIn]; done) | decide +kernel
theorem own_law_ef (m : MethodId) (kind : Int32) (a : Int32) (b : Int32) (d : Int32) : entryFrame m #[(.int kind), (.int a), (.int b), (.int d)] maxLocals = mkF m 0 #[.val (.int kind), .val (.int a), .val (.int b), .val (.int d), .unset, .unset, .unset, .unset, .unset, .unset, .unset] [] := by first | (simp [entryFrame, mkF, argsToLocals, Value.category, maxLocals]; done) | rfl
def own_law_Q (Z : State) (kind : Int32) (a : Int32) (b : Int32) (d : Int32) (h0 : Heap) (n0 : Nat) (v : Option Value) (h : Heap) (L : List Loc) : Prop := v = some (.int 1) ∧ Fr n0 L
set_option maxRecDepth 65536 in
set_option maxHeartbeats 40000000 in
theorem own_law (l : Launch) (Z : State) (a0 : Array Value) (hw : ∀ d ∈ tables_1, d.before a0 Z = true) (ws : List Jvm.Cond) (kind : Int32) (a : Int32) (b : Int32) (d : Int32) (h0 : Heap) (n0 : Nat) (Z0 : n0 ≤ h0.size) :
    MetFree l x (head1 (Jvm.Cond.code x code maxLocals ret :: ws) room_1) (fun ars U => ars = #[(.int kind), (.int a), (.int b), (.int d)] ∧ Z.Warmed39 U.vm ∧ U.heap = h0) (fun _ _ _ _ _ => True) (fun _ U o U' => ∃ v L, o = .returned v ∧ own_law_Q Z kind a b d  h0 n0 v U'.heap L ∧ FrameEnd U o U' L 1 4) := by
  refine MetFree.of_bodySF (plainFor_of_name own_law_pn) hisR ?_
  intro p e s m args below meth c s₁ Bd hml0 hP hK
  obtain ⟨rfl, hZ, hh⟩ := hP
  have hx := Bd.exec
  have hby := Bd.bytes
  have hml : c.maxLocals = 11 := hml0
  have hown : s.vm.findClass "com/example/coersa/coersa/Utf8ByteCountPinLaw" = some m.cls := findClass_of_methodNamed Bd.named
  have hnm := (name_of_methodNamed Bd.named Bd.method).1
  have X0 : Stand p l e room_1 s m #[(.int kind), (.int a), (.int b), (.int d)] below meth c s₁ [] 0 0 := Stand.of_body Bd
  have e0 : s₁.heap = h0 := by rw [← hh, Bd.state]; rfl
  have N0 := Fr.nil n0
  generalize hS0 : s₁.setTop (entryFrame m #[(.int kind), (.int a), (.int b), (.int d)] maxLocals) = S0
  have c0 : Steps p.tables e below S0 (s₁.setTop (mkF m 0 #[.val (.int kind), .val (.int a), .val (.int b), .val (.int d), .unset, .unset, .unset, .unset, .unset, .unset, .unset] [])) := by rw [← hS0]; exact castTop (own_law_ef m kind a b d) (Steps.refl _)
  have c1 : Steps p.tables e below S0 (s₁.setTop (mkF m 4 #[.val (.int kind), .val (.int a), .val (.int b), .val (.int d), .unset, .unset, .unset, .unset, .unset, .unset, .unset] [(.int (kind &&& (7 : Int32)))])) := c0.trans (by
    refine XS.iloadN X0.here hx rfl (hb hby at_0) rfl ?_
    show Steps p.tables e below (s₁.setTop (mkF m 1 #[.val (.int kind), .val (.int a), .val (.int b), .val (.int d), .unset, .unset, .unset, .unset, .unset, .unset, .unset] [(.int kind)])) _
    refine XS.bipush X0.here hx rfl (hb hby at_1) ?_
    show Steps p.tables e below (s₁.setTop (mkF m 3 #[.val (.int kind), .val (.int a), .val (.int b), .val (.int d), .unset, .unset, .unset, .unset, .unset, .unset, .unset] [(.int (7 : Int32)), (.int kind)])) _
    refine XS.iand X0.here hx rfl (hb hby at_3) rfl ?_
    exact Steps.refl _)
  obtain ⟨kq, hkq⟩ : ∃ z : Int32, z = (kind &&& (7 : Int32)) := ⟨_, rfl⟩
  rw [← hkq] at c1
  have K := own_k hkq
  have c2 : Steps p.tables e below S0 (s₁.setTop (mkF m 9 #[.val (.int kind), .val (.int a), .val (.int b), .val (.int d), .val (.int kq), .unset, .unset, .unset, .unset, .unset, .unset] [(.int (4 : Int32)), (.int kq)])) := c1.trans (by
    refine XS.istore X0.here hx rfl (hb hby at_4) rfl (l' := #[.val (.int kind), .val (.int a), .val (.int b), .val (.int d), .val (.int kq), .unset, .unset, .unset, .unset, .unset, .unset]) rfl ?_
    show Steps p.tables e below (s₁.setTop (mkF m 6 #[.val (.int kind), .val (.int a), .val (.int b), .val (.int d), .val (.int kq), .unset, .unset, .unset, .unset, .unset, .unset] [])) _
    refine XS.iload X0.here hx rfl (hb hby at_6) rfl ?_
    show Steps p.tables e below (s₁.setTop (mkF m 8 #[.val (.int kind), .val (.int a), .val (.int b), .val (.int d), .val (.int kq), .unset, .unset, .unset, .unset, .unset, .unset] [(.int kq)])) _
    refine XS.iconst X0.here hx rfl (hb hby at_8) ?_
    exact Steps.refl _)
  by_cases h9 : kq < (4 : Int32)
  · have c3 : Steps p.tables e below S0 (s₁.setTop (mkF m 12 #[.val (.int kind), .val (.int a), .val (.int b), .val (.int d), .val (.int kq), .unset, .unset, .unset, .unset, .unset, .unset] [])) := c2.trans (by
      refine XS.icmpNo X0.here hx rfl (hb hby at_9) rfl (tlt h9).2.1 ?_
      exact Steps.refl _)
    have c4 : Steps p.tables e below S0 (s₁.setTop (mkF m 14 #[.val (.int kind), .val (.int a), .val (.int b), .val (.int d), .val (.int kq), .unset, .unset, .unset, .unset, .unset, .unset] [(.int kq)])) := c3.trans (by
      refine XS.iload X0.here hx rfl (hb hby at_12) rfl ?_
      exact Steps.refl _)
    by_cases h14 : kq = (0 : Int32)
    · have c5 : Steps p.tables e below S0 (s₁.setTop (mkF m 17 #[.val (.int kind), .val (.int a), .val (.int b), .val (.int d), .val (.int kq), .unset, .unset, .unset, .unset, .unset, .unset] [])) := c4.trans (by
        refine XS.ifNo X0.here hx rfl (hb hby at_14) rfl ((if0 _ _).trans (teq h14).2) ?_
        exact Steps.refl _)
      have c6 : Steps p.tables e below S0 (s₁.setTop (mkF m 85 #[.val (.int kind), .val (.int a), .val (.int b), .val (.int d), .val (.int kq), .val (.int (0 : Int32)), .val (.int (127 : Int32)), .unset, .unset, .unset, .unset] [(.int (((127 : Int32) - (0 : Int32)) + (1 : Int32))), (.int (a &&& (2147483647 : Int32))), (.int (0 : Int32))])) := c5.trans (by
        refine XS.iconst X0.here hx rfl (hb hby at_17) ?_
        show Steps p.tables e below (s₁.setTop (mkF m 18 #[.val (.int kind), .val (.int a), .val (.int b), .val (.int d), .val (.int kq), .unset, .unset, .unset, .unset, .unset, .unset] [(.int (0 : Int32))])) _
        refine XS.istore X0.here hx rfl (hb hby at_18) rfl (l' := #[.val (.int kind), .val (.int a), .val (.int b), .val (.int d), .val (.int kq), .val (.int (0 : Int32)), .unset, .unset, .unset, .unset, .unset]) rfl ?_
        show Steps p.tables e below (s₁.setTop (mkF m 20 #[.val (.int kind), .val (.int a), .val (.int b), .val (.int d), .val (.int kq), .val (.int (0 : Int32)), .unset, .unset, .unset, .unset, .unset] [])) _
        refine XS.bipush X0.here hx rfl (hb hby at_20) ?_
        show Steps p.tables e below (s₁.setTop (mkF m 22 #[.val (.int kind), .val (.int a), .val (.int b), .val (.int d), .val (.int kq), .val (.int (0 : Int32)), .unset, .unset, .unset, .unset, .unset] [(.int (127 : Int32))])) _
        refine XS.istore X0.here hx rfl (hb hby at_22) rfl (l' := #[.val (.int kind), .val (.int a), .val (.int b), .val (.int d), .val (.int kq), .val (.int (0 : Int32)), .val (.int (127 : Int32)), .unset, .unset, .unset, .unset]) rfl ?_
        show Steps p.tables e below (s₁.setTop (mkF m 24 #[.val (.int kind), .val (.int a), .val (.int b), .val (.int d), .val (.int kq), .val (.int (0 : Int32)), .val (.int (127 : Int32)), .unset, .unset, .unset, .unset] [])) _
        refine XS.goto X0.here hx rfl (pc0 := 24) (pc' := 72) rfl (hb hby at_24) (by decide) (by decide) ?_
        show Steps p.tables e below (s₁.setTop (mkF m 72 #[.val (.int kind), .val (.int a), .val (.int b), .val (.int d), .val (.int kq), .val (.int (0 : Int32)), .val (.int (127 : Int32)), .unset, .unset, .unset, .unset] [])) _
        refine XS.iload X0.here hx rfl (hb hby at_72) rfl ?_
        show Steps p.tables e below (s₁.setTop (mkF m 74 #[.val (.int kind), .val (.int a), .val (.int b), .val (.int d), .val (.int kq), .val (.int (0 : Int32)), .val (.int (127 : Int32)), .unset, .unset, .unset, .unset] [(.int (0 : Int32))])) _
        refine XS.iloadN X0.here hx rfl (hb hby at_74) rfl ?_
        show Steps p.tables e below (s₁.setTop (mkF m 75 #[.val (.int kind), .val (.int a), .val (.int b), .val (.int d), .val (.int kq), .val (.int (0 : Int32)), .val (.int (127 : Int32)), .unset, .unset, .unset, .unset] [(.int a), (.int (0 : Int32))])) _
        refine X0.ldcInt hx hown (mvT hZ (hw _ (List.mem_of_getElem? (i := 0) rfl))) (g := (mkF m 75 #[.val (.int kind), .val (.int a), .val (.int b), .val (.int d), .val (.int kq), .val (.int (0 : Int32)), .val (.int (127 : Int32)), .unset, .unset, .unset, .unset] [(.int a), (.int (0 : Int32))])) rfl (hb hby at_75) _ ?_
        show Steps p.tables e below (s₁.setTop (mkF m 77 #[.val (.int kind), .val (.int a), .val (.int b), .val (.int d), .val (.int kq), .val (.int (0 : Int32)), .val (.int (127 : Int32)), .unset, .unset, .unset, .unset] [(.int (2147483647 : Int32)), (.int a), (.int (0 : Int32))])) _
        refine XS.iand X0.here hx rfl (hb hby at_77) rfl ?_
        show Steps p.tables e below (s₁.setTop (mkF m 78 #[.val (.int kind), .val (.int a), .val (.int b), .val (.int d), .val (.int kq), .val (.int (0 : Int32)), .val (.int (127 : Int32)), .unset, .unset, .unset, .unset] [(.int (a &&& (2147483647 : Int32))), (.int (0 : Int32))])) _
        refine XS.iload X0.here hx rfl (hb hby at_78) rfl ?_
        show Steps p.tables e below (s₁.setTop (mkF m 80 #[.val (.int kind), .val (.int a), .val (.int b), .val (.int d), .val (.int kq), .val (.int (0 : Int32)), .val (.int (127 : Int32)), .unset, .unset, .unset, .unset] [(.int (127 : Int32)), (.int (a &&& (2147483647 : Int32))), (.int (0 : Int32))])) _
        refine XS.iload X0.here hx rfl (hb hby at_80) rfl ?_
        show Steps p.tables e below (s₁.setTop (mkF m 82 #[.val (.int kind), .val (.int a), .val (.int b), .val (.int d), .val (.int kq), .val (.int (0 : Int32)), .val (.int (127 : Int32)), .unset, .unset, .unset, .unset] [(.int (0 : Int32)), (.int (127 : Int32)), (.int (a &&& (2147483647 : Int32))), (.int (0 : Int32))])) _
        refine XS.isub X0.here hx rfl (hb hby at_82) rfl ?_
        show Steps p.tables e below (s₁.setTop (mkF m 83 #[.val (.int kind), .val (.int a), .val (.int b), .val (.int d), .val (.int kq), .val (.int (0 : Int32)), .val (.int (127 : Int32)), .unset, .unset, .unset, .unset] [(.int ((127 : Int32) - (0 : Int32))), (.int (a &&& (2147483647 : Int32))), (.int (0 : Int32))])) _
        refine XS.iconst X0.here hx rfl (hb hby at_83) ?_
        show Steps p.tables e below (s₁.setTop (mkF m 84 #[.val (.int kind), .val (.int a), .val (.int b), .val (.int d), .val (.int kq), .val (.int (0 : Int32)), .val (.int (127 : Int32)), .unset, .unset, .unset, .unset] [(.int (1 : Int32)), (.int ((127 : Int32) - (0 : Int32))), (.int (a &&& (2147483647 : Int32))), (.int (0 : Int32))])) _
        refine XS.iadd X0.here hx rfl (hb hby at_84) rfl ?_
        exact Steps.refl _)
      have c7 : Steps p.tables e below S0 (s₁.setTop (mkF m 86 #[.val (.int kind), .val (.int a), .val (.int b), .val (.int d), .val (.int kq), .val (.int (0 : Int32)), .val (.int (127 : Int32)), .unset, .unset, .unset, .unset] [(.int ((a &&& (2147483647 : Int32)) % (((127 : Int32) - (0 : Int32)) + (1 : Int32)))), (.int (0 : Int32))])) := c6.trans (by
        refine iremM X0 hx rfl (hb hby at_85) rfl (by decide) ?_
        exact Steps.refl _)
      have c8 : Steps p.tables e below S0 (s₁.setTop (mkF m 87 #[.val (.int kind), .val (.int a), .val (.int b), .val (.int d), .val (.int kq), .val (.int (0 : Int32)), .val (.int (127 : Int32)), .unset, .unset, .unset, .unset] [(.int ((0 : Int32) + ((a &&& (2147483647 : Int32)) % (((127 : Int32) - (0 : Int32)) + (1 : Int32)))))])) := c7.trans (by
        refine XS.iadd X0.here hx rfl (hb hby at_86) rfl ?_
        exact Steps.refl _)
      obtain ⟨cc, hcc⟩ : ∃ z : Int32, z = ((0 : Int32) + ((a &&& (2147483647 : Int32)) % (((127 : Int32) - (0 : Int32)) + (1 : Int32)))) := ⟨_, rfl⟩
      rw [← hcc] at c8
      have c9 : Steps p.tables e below S0 (s₁.setTop (mkF m 91 #[.val (.int kind), .val (.int a), .val (.int b), .val (.int d), .val (.int kq), .val (.int (0 : Int32)), .val (.int (127 : Int32)), .val (.int cc), .unset, .unset, .unset] [(.int cc)])) := c8.trans (by
        refine XS.istore X0.here hx rfl (hb hby at_87) rfl (l' := #[.val (.int kind), .val (.int a), .val (.int b), .val (.int d), .val (.int kq), .val (.int (0 : Int32)), .val (.int (127 : Int32)), .val (.int cc), .unset, .unset, .unset]) rfl ?_
        show Steps p.tables e below (s₁.setTop (mkF m 89 #[.val (.int kind), .val (.int a), .val (.int b), .val (.int d), .val (.int kq), .val (.int (0 : Int32)), .val (.int (127 : Int32)), .val (.int cc), .unset, .unset, .unset] [])) _
        refine XS.iload X0.here hx rfl (hb hby at_89) rfl ?_
        exact Steps.refl _)
      obtain ⟨_, _, ⟨T10, L10, k10, n10⟩, -, X10, ⟨Lc10, hQ10, l10, y10, z10⟩, st10⟩ := Jvm.LawKit.callS X0 hx (y := (⟨"com/example/coersa/coersa/Utf8", "byteCount", "(I)I"⟩ : MethodName)) hown (mvT hZ (hw _ (List.mem_of_getElem? (i := 1) rfl))) (mvT hZ (hw _ (List.mem_of_getElem? (i := 2) rfl))) (mvT hZ (hw _ (List.mem_of_getElem? (i := 3) rfl))) (mvT hZ (hw _ (List.mem_of_getElem? (i := 4) rfl))) (by decide) (backOf (W := 0) (own_bct l Z a0 hw [] cc h0 n0 Z0) hZ (hw _ (List.mem_of_getElem? (i := 4) rfl)) (hw _ (List.mem_of_getElem? (i := 3) rfl)) (by decide) (by decide)) (g := (mkF m 91 #[.val (.int kind), .val (.int a), .val (.int b), .val (.int d), .val (.int kq), .val (.int (0 : Int32)), .val (.int (127 : Int32)), .val (.int cc), .unset, .unset, .unset] [(.int cc)])) rfl (by rw [hml]; rfl) (argsL := [(.int cc)]) (rest := []) (lenOf own_pd1 rfl) rfl (by show 2 * 0 + _ ≤ _; exact Nat.le_of_eq rfl) (hb hby at_91) (fun _ _ => ⟨rfl, e0, (Nat.le_of_ble_eq_true rfl), (Nat.le_of_ble_eq_true rfl)⟩)
      dsimp only [Pt.U, Pt.locs, Pt.cells, Pt.slots] at X10 l10 y10 z10 st10 hQ10
      subst l10 y10 z10
      obtain ⟨rfl, N10q, eb⟩ := hQ10
      have N10 := Fr.app N0 N10q
      have c11 : Steps p.tables e below S0 (T10.setTop (mkF m 94 #[.val (.int kind), .val (.int a), .val (.int b), .val (.int d), .val (.int kq), .val (.int (0 : Int32)), .val (.int (127 : Int32)), .val (.int cc), .unset, .unset, .unset] [(.int (own_bc cc))])) := c9.trans (by
        refine st10 _ ?_
        exact Steps.refl _)
      have c12 : Steps p.tables e below S0 (T10.setTop (mkF m 98 #[.val (.int kind), .val (.int a), .val (.int b), .val (.int d), .val (.int kq), .val (.int (0 : Int32)), .val (.int (127 : Int32)), .val (.int cc), .unset, .unset, .unset] [(.int (kq + (1 : Int32))), (.int (own_bc cc))])) := c11.trans (by
        refine XS.iload X10.here hx rfl (hb hby at_94) rfl ?_
        show Steps p.tables e below (T10.setTop (mkF m 96 #[.val (.int kind), .val (.int a), .val (.int b), .val (.int d), .val (.int kq), .val (.int (0 : Int32)), .val (.int (127 : Int32)), .val (.int cc), .unset, .unset, .unset] [(.int kq), (.int (own_bc cc))])) _
        refine XS.iconst X10.here hx rfl (hb hby at_96) ?_
        show Steps p.tables e below (T10.setTop (mkF m 97 #[.val (.int kind), .val (.int a), .val (.int b), .val (.int d), .val (.int kq), .val (.int (0 : Int32)), .val (.int (127 : Int32)), .val (.int cc), .unset, .unset, .unset] [(.int (1 : Int32)), (.int kq), (.int (own_bc cc))])) _
        refine XS.iadd X10.here hx rfl (hb hby at_97) rfl ?_
        exact Steps.refl _)
      have c13 : Steps p.tables e below S0 (T10.setTop (mkF m 101 #[.val (.int kind), .val (.int a), .val (.int b), .val (.int d), .val (.int kq), .val (.int (0 : Int32)), .val (.int (127 : Int32)), .val (.int cc), .unset, .unset, .unset] [])) := c12.trans (by
        refine XS.icmpNo X10.here hx rfl (hb hby at_98) rfl (teq (own_low0 hcc (by assumption))).2 ?_
        exact Steps.refl _)
      have c14 : Steps p.tables e below S0 (T10.setTop (mkF m 106 #[.val (.int kind), .val (.int a), .val (.int b), .val (.int d), .val (.int kq), .val (.int (0 : Int32)), .val (.int (127 : Int32)), .val (.int cc), .unset, .unset, .unset] [(.int (1 : Int32))])) := c13.trans (by
        refine XS.iconst X10.here hx rfl (hb hby at_101) ?_
        show Steps p.tables e below (T10.setTop (mkF m 102 #[.val (.int kind), .val (.int a), .val (.int b), .val (.int d), .val (.int kq), .val (.int (0 : Int32)), .val (.int (127 : Int32)), .val (.int cc), .unset, .unset, .unset] [(.int (1 : Int32))])) _
        refine XS.goto X10.here hx rfl (pc0 := 102) (pc' := 106) rfl (hb hby at_102) (by decide) (by decide) ?_
        exact Steps.refl _)
      obtain ⟨fs, hr, hrun, hended, hW, hsame⟩ := X10.leave (v := some (.int (1 : Int32))) (fun h => by rw [Bd.returns] at h; cases h)
      exact ⟨_, _, c14.trans (retN X10 hx (t := .boolean) Bd.returns (by simp) (hb hby at_106) hr), hrun, hended, _, _, rfl, ⟨rfl, N10⟩, ⟨_, rfl⟩, hW, hsame.mono (by decide) (by decide)⟩
    · have c15 : Steps p.tables e below S0 (s₁.setTop (mkF m 27 #[.val (.int kind), .val (.int a), .val (.int b), .val (.int d), .val (.int kq), .unset, .unset, .unset, .unset, .unset, .unset] [])) := c4.trans (by
        refine XS.ifYes X0.here hx rfl (pc0 := 14) (pc' := 27) rfl (hb hby at_14) rfl ((if0 _ _).trans (feq h14).2) (by decide) (by decide) ?_
        exact Steps.refl _)
      have c16 : Steps p.tables e below S0 (s₁.setTop (mkF m 30 #[.val (.int kind), .val (.int a), .val (.int b), .val (.int d), .val (.int kq), .unset, .unset, .unset, .unset, .unset, .unset] [(.int (1 : Int32)), (.int kq)])) := c15.trans (by
        refine XS.iload X0.here hx rfl (hb hby at_27) rfl ?_
        show Steps p.tables e below (s₁.setTop (mkF m 29 #[.val (.int kind), .val (.int a), .val (.int b), .val (.int d), .val (.int kq), .unset, .unset, .unset, .unset, .unset, .unset] [(.int kq)])) _
        refine XS.iconst X0.here hx rfl (hb hby at_29) ?_
        exact Steps.refl _)
      by_cases h30 : kq = (1 : Int32)
      · have c17 : Steps p.tables e below S0 (s₁.setTop (mkF m 33 #[.val (.int kind), .val (.int a), .val (.int b), .val (.int d), .val (.int kq), .unset, .unset, .unset, .unset, .unset, .unset] [])) := c16.trans (by
          refine XS.icmpNo X0.here hx rfl (hb hby at_30) rfl (teq h30).2 ?_
          exact Steps.refl _)
        have c18 : Steps p.tables e below S0 (s₁.setTop (mkF m 85 #[.val (.int kind), .val (.int a), .val (.int b), .val (.int d), .val (.int kq), .val (.int (128 : Int32)), .val (.int (2047 : Int32)), .unset, .unset, .unset, .unset] [(.int (((2047 : Int32) - (128 : Int32)) + (1 : Int32))), (.int (a &&& (2147483647 : Int32))), (.int (128 : Int32))])) := c17.trans (by
          refine XS.sipush X0.here hx rfl (hb hby at_33) ?_
          show Steps p.tables e below (s₁.setTop (mkF m 36 #[.val (.int kind), .val (.int a), .val (.int b), .val (.int d), .val (.int kq), .unset, .unset, .unset, .unset, .unset, .unset] [(.int (128 : Int32))])) _
          refine XS.istore X0.here hx rfl (hb hby at_36) rfl (l' := #[.val (.int kind), .val (.int a), .val (.int b), .val (.int d), .val (.int kq), .val (.int (128 : Int32)), .unset, .unset, .unset, .unset, .unset]) rfl ?_
          show Steps p.tables e below (s₁.setTop (mkF m 38 #[.val (.int kind), .val (.int a), .val (.int b), .val (.int d), .val (.int kq), .val (.int (128 : Int32)), .unset, .unset, .unset, .unset, .unset] [])) _
          refine XS.sipush X0.here hx rfl (hb hby at_38) ?_
          show Steps p.tables e below (s₁.setTop (mkF m 41 #[.val (.int kind), .val (.int a), .val (.int b), .val (.int d), .val (.int kq), .val (.int (128 : Int32)), .unset, .unset, .unset, .unset, .unset] [(.int (2047 : Int32))])) _
          refine XS.istore X0.here hx rfl (hb hby at_41) rfl (l' := #[.val (.int kind), .val (.int a), .val (.int b), .val (.int d), .val (.int kq), .val (.int (128 : Int32)), .val (.int (2047 : Int32)), .unset, .unset, .unset, .unset]) rfl ?_
          show Steps p.tables e below (s₁.setTop (mkF m 43 #[.val (.int kind), .val (.int a), .val (.int b), .val (.int d), .val (.int kq), .val (.int (128 : Int32)), .val (.int (2047 : Int32)), .unset, .unset, .unset, .unset] [])) _
          refine XS.goto X0.here hx rfl (pc0 := 43) (pc' := 72) rfl (hb hby at_43) (by decide) (by decide) ?_
          show Steps p.tables e below (s₁.setTop (mkF m 72 #[.val (.int kind), .val (.int a), .val (.int b), .val (.int d), .val (.int kq), .val (.int (128 : Int32)), .val (.int (2047 : Int32)), .unset, .unset, .unset, .unset] [])) _
          refine XS.iload X0.here hx rfl (hb hby at_72) rfl ?_
          show Steps p.tables e below (s₁.setTop (mkF m 74 #[.val (.int kind), .val (.int a), .val (.int b), .val (.int d), .val (.int kq), .val (.int (128 : Int32)), .val (.int (2047 : Int32)), .unset, .unset, .unset, .unset] [(.int (128 : Int32))])) _
          refine XS.iloadN X0.here hx rfl (hb hby at_74) rfl ?_
          show Steps p.tables e below (s₁.setTop (mkF m 75 #[.val (.int kind), .val (.int a), .val (.int b), .val (.int d), .val (.int kq), .val (.int (128 : Int32)), .val (.int (2047 : Int32)), .unset, .unset, .unset, .unset] [(.int a), (.int (128 : Int32))])) _
          refine X0.ldcInt hx hown (mvT hZ (hw _ (List.mem_of_getElem? (i := 0) rfl))) (g := (mkF m 75 #[.val (.int kind), .val (.int a), .val (.int b), .val (.int d), .val (.int kq), .val (.int (128 : Int32)), .val (.int (2047 : Int32)), .unset, .unset, .unset, .unset] [(.int a), (.int (128 : Int32))])) rfl (hb hby at_75) _ ?_
          show Steps p.tables e below (s₁.setTop (mkF m 77 #[.val (.int kind), .val (.int a), .val (.int b), .val (.int d), .val (.int kq), .val (.int (128 : Int32)), .val (.int (2047 : Int32)), .unset, .unset, .unset, .unset] [(.int (2147483647 : Int32)), (.int a), (.int (128 : Int32))])) _
          refine XS.iand X0.here hx rfl (hb hby at_77) rfl ?_
          show Steps p.tables e below (s₁.setTop (mkF m 78 #[.val (.int kind), .val (.int a), .val (.int b), .val (.int d), .val (.int kq), .val (.int (128 : Int32)), .val (.int (2047 : Int32)), .unset, .unset, .unset, .unset] [(.int (a &&& (2147483647 : Int32))), (.int (128 : Int32))])) _
          refine XS.iload X0.here hx rfl (hb hby at_78) rfl ?_
          show Steps p.tables e below (s₁.setTop (mkF m 80 #[.val (.int kind), .val (.int a), .val (.int b), .val (.int d), .val (.int kq), .val (.int (128 : Int32)), .val (.int (2047 : Int32)), .unset, .unset, .unset, .unset] [(.int (2047 : Int32)), (.int (a &&& (2147483647 : Int32))), (.int (128 : Int32))])) _
          refine XS.iload X0.here hx rfl (hb hby at_80) rfl ?_
          show Steps p.tables e below (s₁.setTop (mkF m 82 #[.val (.int kind), .val (.int a), .val (.int b), .val (.int d), .val (.int kq), .val (.int (128 : Int32)), .val (.int (2047 : Int32)), .unset, .unset, .unset, .unset] [(.int (128 : Int32)), (.int (2047 : Int32)), (.int (a &&& (2147483647 : Int32))), (.int (128 : Int32))])) _
          refine XS.isub X0.here hx rfl (hb hby at_82) rfl ?_
          show Steps p.tables e below (s₁.setTop (mkF m 83 #[.val (.int kind), .val (.int a), .val (.int b), .val (.int d), .val (.int kq), .val (.int (128 : Int32)), .val (.int (2047 : Int32)), .unset, .unset, .unset, .unset] [(.int ((2047 : Int32) - (128 : Int32))), (.int (a &&& (2147483647 : Int32))), (.int (128 : Int32))])) _
          refine XS.iconst X0.here hx rfl (hb hby at_83) ?_
          show Steps p.tables e below (s₁.setTop (mkF m 84 #[.val (.int kind), .val (.int a), .val (.int b), .val (.int d), .val (.int kq), .val (.int (128 : Int32)), .val (.int (2047 : Int32)), .unset, .unset, .unset, .unset] [(.int (1 : Int32)), (.int ((2047 : Int32) - (128 : Int32))), (.int (a &&& (2147483647 : Int32))), (.int (128 : Int32))])) _
          refine XS.iadd X0.here hx rfl (hb hby at_84) rfl ?_
          exact Steps.refl _)
        have c19 : Steps p.tables e below S0 (s₁.setTop (mkF m 86 #[.val (.int kind), .val (.int a), .val (.int b), .val (.int d), .val (.int kq), .val (.int (128 : Int32)), .val (.int (2047 : Int32)), .unset, .unset, .unset, .unset] [(.int ((a &&& (2147483647 : Int32)) % (((2047 : Int32) - (128 : Int32)) + (1 : Int32)))), (.int (128 : Int32))])) := c18.trans (by
          refine iremM X0 hx rfl (hb hby at_85) rfl (by decide) ?_
          exact Steps.refl _)
        have c20 : Steps p.tables e below S0 (s₁.setTop (mkF m 87 #[.val (.int kind), .val (.int a), .val (.int b), .val (.int d), .val (.int kq), .val (.int (128 : Int32)), .val (.int (2047 : Int32)), .unset, .unset, .unset, .unset] [(.int ((128 : Int32) + ((a &&& (2147483647 : Int32)) % (((2047 : Int32) - (128 : Int32)) + (1 : Int32)))))])) := c19.trans (by
          refine XS.iadd X0.here hx rfl (hb hby at_86) rfl ?_
          exact Steps.refl _)
        obtain ⟨cc, hcc⟩ : ∃ z : Int32, z = ((128 : Int32) + ((a &&& (2147483647 : Int32)) % (((2047 : Int32) - (128 : Int32)) + (1 : Int32)))) := ⟨_, rfl⟩
        rw [← hcc] at c20
        have c21 : Steps p.tables e below S0 (s₁.setTop (mkF m 91 #[.val (.int kind), .val (.int a), .val (.int b), .val (.int d), .val (.int kq), .val (.int (128 : Int32)), .val (.int (2047 : Int32)), .val (.int cc), .unset, .unset, .unset] [(.int cc)])) := c20.trans (by
          refine XS.istore X0.here hx rfl (hb hby at_87) rfl (l' := #[.val (.int kind), .val (.int a), .val (.int b), .val (.int d), .val (.int kq), .val (.int (128 : Int32)), .val (.int (2047 : Int32)), .val (.int cc), .unset, .unset, .unset]) rfl ?_
          show Steps p.tables e below (s₁.setTop (mkF m 89 #[.val (.int kind), .val (.int a), .val (.int b), .val (.int d), .val (.int kq), .val (.int (128 : Int32)), .val (.int (2047 : Int32)), .val (.int cc), .unset, .unset, .unset] [])) _
          refine XS.iload X0.here hx rfl (hb hby at_89) rfl ?_
          exact Steps.refl _)
        obtain ⟨_, _, ⟨T22, L22, k22, n22⟩, -, X22, ⟨Lc22, hQ22, l22, y22, z22⟩, st22⟩ := Jvm.LawKit.callS X0 hx (y := (⟨"com/example/coersa/coersa/Utf8", "byteCount", "(I)I"⟩ : MethodName)) hown (mvT hZ (hw _ (List.mem_of_getElem? (i := 1) rfl))) (mvT hZ (hw _ (List.mem_of_getElem? (i := 2) rfl))) (mvT hZ (hw _ (List.mem_of_getElem? (i := 3) rfl))) (mvT hZ (hw _ (List.mem_of_getElem? (i := 4) rfl))) (by decide) (backOf (W := 0) (own_bct l Z a0 hw [] cc h0 n0 Z0) hZ (hw _ (List.mem_of_getElem? (i := 4) rfl)) (hw _ (List.mem_of_getElem? (i := 3) rfl)) (by decide) (by decide)) (g := (mkF m 91 #[.val (.int kind), .val (.int a), .val (.int b), .val (.int d), .val (.int kq), .val (.int (128 : Int32)), .val (.int (2047 : Int32)), .val (.int cc), .unset, .unset, .unset] [(.int cc)])) rfl (by rw [hml]; rfl) (argsL := [(.int cc)]) (rest := []) (lenOf own_pd1 rfl) rfl (by show 2 * 0 + _ ≤ _; exact Nat.le_of_eq rfl) (hb hby at_91) (fun _ _ => ⟨rfl, e0, (Nat.le_of_ble_eq_true rfl), (Nat.le_of_ble_eq_true rfl)⟩)
        dsimp only [Pt.U, Pt.locs, Pt.cells, Pt.slots] at X22 l22 y22 z22 st22 hQ22
        subst l22 y22 z22
        obtain ⟨rfl, N22q, eb⟩ := hQ22
        have N22 := Fr.app N0 N22q
        have c23 : Steps p.tables e below S0 (T22.setTop (mkF m 94 #[.val (.int kind), .val (.int a), .val (.int b), .val (.int d), .val (.int kq), .val (.int (128 : Int32)), .val (.int (2047 : Int32)), .val (.int cc), .unset, .unset, .unset] [(.int (own_bc cc))])) := c21.trans (by
          refine st22 _ ?_
          exact Steps.refl _)
        have c24 : Steps p.tables e below S0 (T22.setTop (mkF m 98 #[.val (.int kind), .val (.int a), .val (.int b), .val (.int d), .val (.int kq), .val (.int (128 : Int32)), .val (.int (2047 : Int32)), .val (.int cc), .unset, .unset, .unset] [(.int (kq + (1 : Int32))), (.int (own_bc cc))])) := c23.trans (by
          refine XS.iload X22.here hx rfl (hb hby at_94) rfl ?_
          show Steps p.tables e below (T22.setTop (mkF m 96 #[.val (.int kind), .val (.int a), .val (.int b), .val (.int d), .val (.int kq), .val (.int (128 : Int32)), .val (.int (2047 : Int32)), .val (.int cc), .unset, .unset, .unset] [(.int kq), (.int (own_bc cc))])) _
          refine XS.iconst X22.here hx rfl (hb hby at_96) ?_
          show Steps p.tables e below (T22.setTop (mkF m 97 #[.val (.int kind), .val (.int a), .val (.int b), .val (.int d), .val (.int kq), .val (.int (128 : Int32)), .val (.int (2047 : Int32)), .val (.int cc), .unset, .unset, .unset] [(.int (1 : Int32)), (.int kq), (.int (own_bc cc))])) _
          refine XS.iadd X22.here hx rfl (hb hby at_97) rfl ?_
          exact Steps.refl _)
        have c25 : Steps p.tables e below S0 (T22.setTop (mkF m 101 #[.val (.int kind), .val (.int a), .val (.int b), .val (.int d), .val (.int kq), .val (.int (128 : Int32)), .val (.int (2047 : Int32)), .val (.int cc), .unset, .unset, .unset] [])) := c24.trans (by
          refine XS.icmpNo X22.here hx rfl (hb hby at_98) rfl (teq (own_low1 hcc (by assumption))).2 ?_
          exact Steps.refl _)
        have c26 : Steps p.tables e below S0 (T22.setTop (mkF m 106 #[.val (.int kind), .val (.int a), .val (.int b), .val (.int d), .val (.int kq), .val (.int (128 : Int32)), .val (.int (2047 : Int32)), .val (.int cc), .unset, .unset, .unset] [(.int (1 : Int32))])) := c25.trans (by
          refine XS.iconst X22.here hx rfl (hb hby at_101) ?_
          show Steps p.tables e below (T22.setTop (mkF m 102 #[.val (.int kind), .val (.int a), .val (.int b), .val (.int d), .val (.int kq), .val (.int (128 : Int32)), .val (.int (2047 : Int32)), .val (.int cc), .unset, .unset, .unset] [(.int (1 : Int32))])) _
          refine XS.goto X22.here hx rfl (pc0 := 102) (pc' := 106) rfl (hb hby at_102) (by decide) (by decide) ?_
          exact Steps.refl _)
        obtain ⟨fs, hr, hrun, hended, hW, hsame⟩ := X22.leave (v := some (.int (1 : Int32))) (fun h => by rw [Bd.returns] at h; cases h)
        exact ⟨_, _, c26.trans (retN X22 hx (t := .boolean) Bd.returns (by simp) (hb hby at_106) hr), hrun, hended, _, _, rfl, ⟨rfl, N22⟩, ⟨_, rfl⟩, hW, hsame.mono (by decide) (by decide)⟩
      · have c27 : Steps p.tables e below S0 (s₁.setTop (mkF m 46 #[.val (.int kind), .val (.int a), .val (.int b), .val (.int d), .val (.int kq), .unset, .unset, .unset, .unset, .unset, .unset] [])) := c16.trans (by
          refine XS.icmpYes X0.here hx rfl (pc0 := 30) (pc' := 46) rfl (hb hby at_30) rfl (feq h30).2 (by decide) (by decide) ?_
          exact Steps.refl _)
        have c28 : Steps p.tables e below S0 (s₁.setTop (mkF m 49 #[.val (.int kind), .val (.int a), .val (.int b), .val (.int d), .val (.int kq), .unset, .unset, .unset, .unset, .unset, .unset] [(.int (2 : Int32)), (.int kq)])) := c27.trans (by
          refine XS.iload X0.here hx rfl (hb hby at_46) rfl ?_
          show Steps p.tables e below (s₁.setTop (mkF m 48 #[.val (.int kind), .val (.int a), .val (.int b), .val (.int d), .val (.int kq), .unset, .unset, .unset, .unset, .unset, .unset] [(.int kq)])) _
          refine XS.iconst X0.here hx rfl (hb hby at_48) ?_
          exact Steps.refl _)
        by_cases h49 : kq = (2 : Int32)
        · have c29 : Steps p.tables e below S0 (s₁.setTop (mkF m 52 #[.val (.int kind), .val (.int a), .val (.int b), .val (.int d), .val (.int kq), .unset, .unset, .unset, .unset, .unset, .unset] [])) := c28.trans (by
            refine XS.icmpNo X0.here hx rfl (hb hby at_49) rfl (teq h49).2 ?_
            exact Steps.refl _)
          have c30 : Steps p.tables e below S0 (s₁.setTop (mkF m 85 #[.val (.int kind), .val (.int a), .val (.int b), .val (.int d), .val (.int kq), .val (.int (2048 : Int32)), .val (.int (65535 : Int32)), .unset, .unset, .unset, .unset] [(.int (((65535 : Int32) - (2048 : Int32)) + (1 : Int32))), (.int (a &&& (2147483647 : Int32))), (.int (2048 : Int32))])) := c29.trans (by
            refine XS.sipush X0.here hx rfl (hb hby at_52) ?_
            show Steps p.tables e below (s₁.setTop (mkF m 55 #[.val (.int kind), .val (.int a), .val (.int b), .val (.int d), .val (.int kq), .unset, .unset, .unset, .unset, .unset, .unset] [(.int (2048 : Int32))])) _
            refine XS.istore X0.here hx rfl (hb hby at_55) rfl (l' := #[.val (.int kind), .val (.int a), .val (.int b), .val (.int d), .val (.int kq), .val (.int (2048 : Int32)), .unset, .unset, .unset, .unset, .unset]) rfl ?_
            show Steps p.tables e below (s₁.setTop (mkF m 57 #[.val (.int kind), .val (.int a), .val (.int b), .val (.int d), .val (.int kq), .val (.int (2048 : Int32)), .unset, .unset, .unset, .unset, .unset] [])) _
            refine X0.ldcInt hx hown (mvT hZ (hw _ (List.mem_of_getElem? (i := 18) rfl))) (g := (mkF m 57 #[.val (.int kind), .val (.int a), .val (.int b), .val (.int d), .val (.int kq), .val (.int (2048 : Int32)), .unset, .unset, .unset, .unset, .unset] [])) rfl (hb hby at_57) _ ?_
            show Steps p.tables e below (s₁.setTop (mkF m 59 #[.val (.int kind), .val (.int a), .val (.int b), .val (.int d), .val (.int kq), .val (.int (2048 : Int32)), .unset, .unset, .unset, .unset, .unset] [(.int (65535 : Int32))])) _
            refine XS.istore X0.here hx rfl (hb hby at_59) rfl (l' := #[.val (.int kind), .val (.int a), .val (.int b), .val (.int d), .val (.int kq), .val (.int (2048 : Int32)), .val (.int (65535 : Int32)), .unset, .unset, .unset, .unset]) rfl ?_
            show Steps p.tables e below (s₁.setTop (mkF m 61 #[.val (.int kind), .val (.int a), .val (.int b), .val (.int d), .val (.int kq), .val (.int (2048 : Int32)), .val (.int (65535 : Int32)), .unset, .unset, .unset, .unset] [])) _
            refine XS.goto X0.here hx rfl (pc0 := 61) (pc' := 72) rfl (hb hby at_61) (by decide) (by decide) ?_
            show Steps p.tables e below (s₁.setTop (mkF m 72 #[.val (.int kind), .val (.int a), .val (.int b), .val (.int d), .val (.int kq), .val (.int (2048 : Int32)), .val (.int (65535 : Int32)), .unset, .unset, .unset, .unset] [])) _
            refine XS.iload X0.here hx rfl (hb hby at_72) rfl ?_
            show Steps p.tables e below (s₁.setTop (mkF m 74 #[.val (.int kind), .val (.int a), .val (.int b), .val (.int d), .val (.int kq), .val (.int (2048 : Int32)), .val (.int (65535 : Int32)), .unset, .unset, .unset, .unset] [(.int (2048 : Int32))])) _
            refine XS.iloadN X0.here hx rfl (hb hby at_74) rfl ?_
            show Steps p.tables e below (s₁.setTop (mkF m 75 #[.val (.int kind), .val (.int a), .val (.int b), .val (.int d), .val (.int kq), .val (.int (2048 : Int32)), .val (.int (65535 : Int32)), .unset, .unset, .unset, .unset] [(.int a), (.int (2048 : Int32))])) _
            refine X0.ldcInt hx hown (mvT hZ (hw _ (List.mem_of_getElem? (i := 0) rfl))) (g := (mkF m 75 #[.val (.int kind), .val (.int a), .val (.int b), .val (.int d), .val (.int kq), .val (.int (2048 : Int32)), .val (.int (65535 : Int32)), .unset, .unset, .unset, .unset] [(.int a), (.int (2048 : Int32))])) rfl (hb hby at_75) _ ?_
            show Steps p.tables e below (s₁.setTop (mkF m 77 #[.val (.int kind), .val (.int a), .val (.int b), .val (.int d), .val (.int kq), .val (.int (2048 : Int32)), .val (.int (65535 : Int32)), .unset, .unset, .unset, .unset] [(.int (2147483647 : Int32)), (.int a), (.int (2048 : Int32))])) _
            refine XS.iand X0.here hx rfl (hb hby at_77) rfl ?_
            show Steps p.tables e below (s₁.setTop (mkF m 78 #[.val (.int kind), .val (.int a), .val (.int b), .val (.int d), .val (.int kq), .val (.int (2048 : Int32)), .val (.int (65535 : Int32)), .unset, .unset, .unset, .unset] [(.int (a &&& (2147483647 : Int32))), (.int (2048 : Int32))])) _
            refine XS.iload X0.here hx rfl (hb hby at_78) rfl ?_
            show Steps p.tables e below (s₁.setTop (mkF m 80 #[.val (.int kind), .val (.int a), .val (.int b), .val (.int d), .val (.int kq), .val (.int (2048 : Int32)), .val (.int (65535 : Int32)), .unset, .unset, .unset, .unset] [(.int (65535 : Int32)), (.int (a &&& (2147483647 : Int32))), (.int (2048 : Int32))])) _
            refine XS.iload X0.here hx rfl (hb hby at_80) rfl ?_
            show Steps p.tables e below (s₁.setTop (mkF m 82 #[.val (.int kind), .val (.int a), .val (.int b), .val (.int d), .val (.int kq), .val (.int (2048 : Int32)), .val (.int (65535 : Int32)), .unset, .unset, .unset, .unset] [(.int (2048 : Int32)), (.int (65535 : Int32)), (.int (a &&& (2147483647 : Int32))), (.int (2048 : Int32))])) _
            refine XS.isub X0.here hx rfl (hb hby at_82) rfl ?_
            show Steps p.tables e below (s₁.setTop (mkF m 83 #[.val (.int kind), .val (.int a), .val (.int b), .val (.int d), .val (.int kq), .val (.int (2048 : Int32)), .val (.int (65535 : Int32)), .unset, .unset, .unset, .unset] [(.int ((65535 : Int32) - (2048 : Int32))), (.int (a &&& (2147483647 : Int32))), (.int (2048 : Int32))])) _
            refine XS.iconst X0.here hx rfl (hb hby at_83) ?_
            show Steps p.tables e below (s₁.setTop (mkF m 84 #[.val (.int kind), .val (.int a), .val (.int b), .val (.int d), .val (.int kq), .val (.int (2048 : Int32)), .val (.int (65535 : Int32)), .unset, .unset, .unset, .unset] [(.int (1 : Int32)), (.int ((65535 : Int32) - (2048 : Int32))), (.int (a &&& (2147483647 : Int32))), (.int (2048 : Int32))])) _
            refine XS.iadd X0.here hx rfl (hb hby at_84) rfl ?_
            exact Steps.refl _)
          have c31 : Steps p.tables e below S0 (s₁.setTop (mkF m 86 #[.val (.int kind), .val (.int a), .val (.int b), .val (.int d), .val (.int kq), .val (.int (2048 : Int32)), .val (.int (65535 : Int32)), .unset, .unset, .unset, .unset] [(.int ((a &&& (2147483647 : Int32)) % (((65535 : Int32) - (2048 : Int32)) + (1 : Int32)))), (.int (2048 : Int32))])) := c30.trans (by
            refine iremM X0 hx rfl (hb hby at_85) rfl (by decide) ?_
            exact Steps.refl _)
          have c32 : Steps p.tables e below S0 (s₁.setTop (mkF m 87 #[.val (.int kind), .val (.int a), .val (.int b), .val (.int d), .val (.int kq), .val (.int (2048 : Int32)), .val (.int (65535 : Int32)), .unset, .unset, .unset, .unset] [(.int ((2048 : Int32) + ((a &&& (2147483647 : Int32)) % (((65535 : Int32) - (2048 : Int32)) + (1 : Int32)))))])) := c31.trans (by
            refine XS.iadd X0.here hx rfl (hb hby at_86) rfl ?_
            exact Steps.refl _)
          obtain ⟨cc, hcc⟩ : ∃ z : Int32, z = ((2048 : Int32) + ((a &&& (2147483647 : Int32)) % (((65535 : Int32) - (2048 : Int32)) + (1 : Int32)))) := ⟨_, rfl⟩
          rw [← hcc] at c32
          have c33 : Steps p.tables e below S0 (s₁.setTop (mkF m 91 #[.val (.int kind), .val (.int a), .val (.int b), .val (.int d), .val (.int kq), .val (.int (2048 : Int32)), .val (.int (65535 : Int32)), .val (.int cc), .unset, .unset, .unset] [(.int cc)])) := c32.trans (by
            refine XS.istore X0.here hx rfl (hb hby at_87) rfl (l' := #[.val (.int kind), .val (.int a), .val (.int b), .val (.int d), .val (.int kq), .val (.int (2048 : Int32)), .val (.int (65535 : Int32)), .val (.int cc), .unset, .unset, .unset]) rfl ?_
            show Steps p.tables e below (s₁.setTop (mkF m 89 #[.val (.int kind), .val (.int a), .val (.int b), .val (.int d), .val (.int kq), .val (.int (2048 : Int32)), .val (.int (65535 : Int32)), .val (.int cc), .unset, .unset, .unset] [])) _
            refine XS.iload X0.here hx rfl (hb hby at_89) rfl ?_
            exact Steps.refl _)
          obtain ⟨_, _, ⟨T34, L34, k34, n34⟩, -, X34, ⟨Lc34, hQ34, l34, y34, z34⟩, st34⟩ := Jvm.LawKit.callS X0 hx (y := (⟨"com/example/coersa/coersa/Utf8", "byteCount", "(I)I"⟩ : MethodName)) hown (mvT hZ (hw _ (List.mem_of_getElem? (i := 1) rfl))) (mvT hZ (hw _ (List.mem_of_getElem? (i := 2) rfl))) (mvT hZ (hw _ (List.mem_of_getElem? (i := 3) rfl))) (mvT hZ (hw _ (List.mem_of_getElem? (i := 4) rfl))) (by decide) (backOf (W := 0) (own_bct l Z a0 hw [] cc h0 n0 Z0) hZ (hw _ (List.mem_of_getElem? (i := 4) rfl)) (hw _ (List.mem_of_getElem? (i := 3) rfl)) (by decide) (by decide)) (g := (mkF m 91 #[.val (.int kind), .val (.int a), .val (.int b), .val (.int d), .val (.int kq), .val (.int (2048 : Int32)), .val (.int (65535 : Int32)), .val (.int cc), .unset, .unset, .unset] [(.int cc)])) rfl (by rw [hml]; rfl) (argsL := [(.int cc)]) (rest := []) (lenOf own_pd1 rfl) rfl (by show 2 * 0 + _ ≤ _; exact Nat.le_of_eq rfl) (hb hby at_91) (fun _ _ => ⟨rfl, e0, (Nat.le_of_ble_eq_true rfl), (Nat.le_of_ble_eq_true rfl)⟩)
          dsimp only [Pt.U, Pt.locs, Pt.cells, Pt.slots] at X34 l34 y34 z34 st34 hQ34
          subst l34 y34 z34
          obtain ⟨rfl, N34q, eb⟩ := hQ34
          have N34 := Fr.app N0 N34q
          have c35 : Steps p.tables e below S0 (T34.setTop (mkF m 94 #[.val (.int kind), .val (.int a), .val (.int b), .val (.int d), .val (.int kq), .val (.int (2048 : Int32)), .val (.int (65535 : Int32)), .val (.int cc), .unset, .unset, .unset] [(.int (own_bc cc))])) := c33.trans (by
            refine st34 _ ?_
            exact Steps.refl _)
          have c36 : Steps p.tables e below S0 (T34.setTop (mkF m 98 #[.val (.int kind), .val (.int a), .val (.int b), .val (.int d), .val (.int kq), .val (.int (2048 : Int32)), .val (.int (65535 : Int32)), .val (.int cc), .unset, .unset, .unset] [(.int (kq + (1 : Int32))), (.int (own_bc cc))])) := c35.trans (by
            refine XS.iload X34.here hx rfl (hb hby at_94) rfl ?_
            show Steps p.tables e below (T34.setTop (mkF m 96 #[.val (.int kind), .val (.int a), .val (.int b), .val (.int d), .val (.int kq), .val (.int (2048 : Int32)), .val (.int (65535 : Int32)), .val (.int cc), .unset, .unset, .unset] [(.int kq), (.int (own_bc cc))])) _
            refine XS.iconst X34.here hx rfl (hb hby at_96) ?_
            show Steps p.tables e below (T34.setTop (mkF m 97 #[.val (.int kind), .val (.int a), .val (.int b), .val (.int d), .val (.int kq), .val (.int (2048 : Int32)), .val (.int (65535 : Int32)), .val (.int cc), .unset, .unset, .unset] [(.int (1 : Int32)), (.int kq), (.int (own_bc cc))])) _
            refine XS.iadd X34.here hx rfl (hb hby at_97) rfl ?_
            exact Steps.refl _)
          have c37 : Steps p.tables e below S0 (T34.setTop (mkF m 101 #[.val (.int kind), .val (.int a), .val (.int b), .val (.int d), .val (.int kq), .val (.int (2048 : Int32)), .val (.int (65535 : Int32)), .val (.int cc), .unset, .unset, .unset] [])) := c36.trans (by
            refine XS.icmpNo X34.here hx rfl (hb hby at_98) rfl (teq (own_low2 hcc (by assumption))).2 ?_
            exact Steps.refl _)
          have c38 : Steps p.tables e below S0 (T34.setTop (mkF m 106 #[.val (.int kind), .val (.int a), .val (.int b), .val (.int d), .val (.int kq), .val (.int (2048 : Int32)), .val (.int (65535 : Int32)), .val (.int cc), .unset, .unset, .unset] [(.int (1 : Int32))])) := c37.trans (by
            refine XS.iconst X34.here hx rfl (hb hby at_101) ?_
            show Steps p.tables e below (T34.setTop (mkF m 102 #[.val (.int kind), .val (.int a), .val (.int b), .val (.int d), .val (.int kq), .val (.int (2048 : Int32)), .val (.int (65535 : Int32)), .val (.int cc), .unset, .unset, .unset] [(.int (1 : Int32))])) _
            refine XS.goto X34.here hx rfl (pc0 := 102) (pc' := 106) rfl (hb hby at_102) (by decide) (by decide) ?_
            exact Steps.refl _)
          obtain ⟨fs, hr, hrun, hended, hW, hsame⟩ := X34.leave (v := some (.int (1 : Int32))) (fun h => by rw [Bd.returns] at h; cases h)
          exact ⟨_, _, c38.trans (retN X34 hx (t := .boolean) Bd.returns (by simp) (hb hby at_106) hr), hrun, hended, _, _, rfl, ⟨rfl, N34⟩, ⟨_, rfl⟩, hW, hsame.mono (by decide) (by decide)⟩
        · have c39 : Steps p.tables e below S0 (s₁.setTop (mkF m 64 #[.val (.int kind), .val (.int a), .val (.int b), .val (.int d), .val (.int kq), .unset, .unset, .unset, .unset, .unset, .unset] [])) := c28.trans (by
            refine XS.icmpYes X0.here hx rfl (pc0 := 49) (pc' := 64) rfl (hb hby at_49) rfl (feq h49).2 (by decide) (by decide) ?_
            exact Steps.refl _)
          have c40 : Steps p.tables e below S0 (s₁.setTop (mkF m 85 #[.val (.int kind), .val (.int a), .val (.int b), .val (.int d), .val (.int kq), .val (.int (65536 : Int32)), .val (.int (1114111 : Int32)), .unset, .unset, .unset, .unset] [(.int (((1114111 : Int32) - (65536 : Int32)) + (1 : Int32))), (.int (a &&& (2147483647 : Int32))), (.int (65536 : Int32))])) := c39.trans (by
            refine X0.ldcInt hx hown (mvT hZ (hw _ (List.mem_of_getElem? (i := 19) rfl))) (g := (mkF m 64 #[.val (.int kind), .val (.int a), .val (.int b), .val (.int d), .val (.int kq), .unset, .unset, .unset, .unset, .unset, .unset] [])) rfl (hb hby at_64) _ ?_
            show Steps p.tables e below (s₁.setTop (mkF m 66 #[.val (.int kind), .val (.int a), .val (.int b), .val (.int d), .val (.int kq), .unset, .unset, .unset, .unset, .unset, .unset] [(.int (65536 : Int32))])) _
            refine XS.istore X0.here hx rfl (hb hby at_66) rfl (l' := #[.val (.int kind), .val (.int a), .val (.int b), .val (.int d), .val (.int kq), .val (.int (65536 : Int32)), .unset, .unset, .unset, .unset, .unset]) rfl ?_
            show Steps p.tables e below (s₁.setTop (mkF m 68 #[.val (.int kind), .val (.int a), .val (.int b), .val (.int d), .val (.int kq), .val (.int (65536 : Int32)), .unset, .unset, .unset, .unset, .unset] [])) _
            refine X0.ldcInt hx hown (mvT hZ (hw _ (List.mem_of_getElem? (i := 20) rfl))) (g := (mkF m 68 #[.val (.int kind), .val (.int a), .val (.int b), .val (.int d), .val (.int kq), .val (.int (65536 : Int32)), .unset, .unset, .unset, .unset, .unset] [])) rfl (hb hby at_68) _ ?_
            show Steps p.tables e below (s₁.setTop (mkF m 70 #[.val (.int kind), .val (.int a), .val (.int b), .val (.int d), .val (.int kq), .val (.int (65536 : Int32)), .unset, .unset, .unset, .unset, .unset] [(.int (1114111 : Int32))])) _
            refine XS.istore X0.here hx rfl (hb hby at_70) rfl (l' := #[.val (.int kind), .val (.int a), .val (.int b), .val (.int d), .val (.int kq), .val (.int (65536 : Int32)), .val (.int (1114111 : Int32)), .unset, .unset, .unset, .unset]) rfl ?_
            show Steps p.tables e below (s₁.setTop (mkF m 72 #[.val (.int kind), .val (.int a), .val (.int b), .val (.int d), .val (.int kq), .val (.int (65536 : Int32)), .val (.int (1114111 : Int32)), .unset, .unset, .unset, .unset] [])) _
            refine XS.iload X0.here hx rfl (hb hby at_72) rfl ?_
            show Steps p.tables e below (s₁.setTop (mkF m 74 #[.val (.int kind), .val (.int a), .val (.int b), .val (.int d), .val (.int kq), .val (.int (65536 : Int32)), .val (.int (1114111 : Int32)), .unset, .unset, .unset, .unset] [(.int (65536 : Int32))])) _
            refine XS.iloadN X0.here hx rfl (hb hby at_74) rfl ?_
            show Steps p.tables e below (s₁.setTop (mkF m 75 #[.val (.int kind), .val (.int a), .val (.int b), .val (.int d), .val (.int kq), .val (.int (65536 : Int32)), .val (.int (1114111 : Int32)), .unset, .unset, .unset, .unset] [(.int a), (.int (65536 : Int32))])) _
            refine X0.ldcInt hx hown (mvT hZ (hw _ (List.mem_of_getElem? (i := 0) rfl))) (g := (mkF m 75 #[.val (.int kind), .val (.int a), .val (.int b), .val (.int d), .val (.int kq), .val (.int (65536 : Int32)), .val (.int (1114111 : Int32)), .unset, .unset, .unset, .unset] [(.int a), (.int (65536 : Int32))])) rfl (hb hby at_75) _ ?_
            show Steps p.tables e below (s₁.setTop (mkF m 77 #[.val (.int kind), .val (.int a), .val (.int b), .val (.int d), .val (.int kq), .val (.int (65536 : Int32)), .val (.int (1114111 : Int32)), .unset, .unset, .unset, .unset] [(.int (2147483647 : Int32)), (.int a), (.int (65536 : Int32))])) _
            refine XS.iand X0.here hx rfl (hb hby at_77) rfl ?_
            show Steps p.tables e below (s₁.setTop (mkF m 78 #[.val (.int kind), .val (.int a), .val (.int b), .val (.int d), .val (.int kq), .val (.int (65536 : Int32)), .val (.int (1114111 : Int32)), .unset, .unset, .unset, .unset] [(.int (a &&& (2147483647 : Int32))), (.int (65536 : Int32))])) _
            refine XS.iload X0.here hx rfl (hb hby at_78) rfl ?_
            show Steps p.tables e below (s₁.setTop (mkF m 80 #[.val (.int kind), .val (.int a), .val (.int b), .val (.int d), .val (.int kq), .val (.int (65536 : Int32)), .val (.int (1114111 : Int32)), .unset, .unset, .unset, .unset] [(.int (1114111 : Int32)), (.int (a &&& (2147483647 : Int32))), (.int (65536 : Int32))])) _
            refine XS.iload X0.here hx rfl (hb hby at_80) rfl ?_
            show Steps p.tables e below (s₁.setTop (mkF m 82 #[.val (.int kind), .val (.int a), .val (.int b), .val (.int d), .val (.int kq), .val (.int (65536 : Int32)), .val (.int (1114111 : Int32)), .unset, .unset, .unset, .unset] [(.int (65536 : Int32)), (.int (1114111 : Int32)), (.int (a &&& (2147483647 : Int32))), (.int (65536 : Int32))])) _
            refine XS.isub X0.here hx rfl (hb hby at_82) rfl ?_
            show Steps p.tables e below (s₁.setTop (mkF m 83 #[.val (.int kind), .val (.int a), .val (.int b), .val (.int d), .val (.int kq), .val (.int (65536 : Int32)), .val (.int (1114111 : Int32)), .unset, .unset, .unset, .unset] [(.int ((1114111 : Int32) - (65536 : Int32))), (.int (a &&& (2147483647 : Int32))), (.int (65536 : Int32))])) _
            refine XS.iconst X0.here hx rfl (hb hby at_83) ?_
            show Steps p.tables e below (s₁.setTop (mkF m 84 #[.val (.int kind), .val (.int a), .val (.int b), .val (.int d), .val (.int kq), .val (.int (65536 : Int32)), .val (.int (1114111 : Int32)), .unset, .unset, .unset, .unset] [(.int (1 : Int32)), (.int ((1114111 : Int32) - (65536 : Int32))), (.int (a &&& (2147483647 : Int32))), (.int (65536 : Int32))])) _
            refine XS.iadd X0.here hx rfl (hb hby at_84) rfl ?_
            exact Steps.refl _)
          have c41 : Steps p.tables e below S0 (s₁.setTop (mkF m 86 #[.val (.int kind), .val (.int a), .val (.int b), .val (.int d), .val (.int kq), .val (.int (65536 : Int32)), .val (.int (1114111 : Int32)), .unset, .unset, .unset, .unset] [(.int ((a &&& (2147483647 : Int32)) % (((1114111 : Int32) - (65536 : Int32)) + (1 : Int32)))), (.int (65536 : Int32))])) := c40.trans (by
            refine iremM X0 hx rfl (hb hby at_85) rfl (by decide) ?_
            exact Steps.refl _)
          have c42 : Steps p.tables e below S0 (s₁.setTop (mkF m 87 #[.val (.int kind), .val (.int a), .val (.int b), .val (.int d), .val (.int kq), .val (.int (65536 : Int32)), .val (.int (1114111 : Int32)), .unset, .unset, .unset, .unset] [(.int ((65536 : Int32) + ((a &&& (2147483647 : Int32)) % (((1114111 : Int32) - (65536 : Int32)) + (1 : Int32)))))])) := c41.trans (by
            refine XS.iadd X0.here hx rfl (hb hby at_86) rfl ?_
            exact Steps.refl _)
          obtain ⟨cc, hcc⟩ : ∃ z : Int32, z = ((65536 : Int32) + ((a &&& (2147483647 : Int32)) % (((1114111 : Int32) - (65536 : Int32)) + (1 : Int32)))) := ⟨_, rfl⟩
          rw [← hcc] at c42
          have c43 : Steps p.tables e below S0 (s₁.setTop (mkF m 91 #[.val (.int kind), .val (.int a), .val (.int b), .val (.int d), .val (.int kq), .val (.int (65536 : Int32)), .val (.int (1114111 : Int32)), .val (.int cc), .unset, .unset, .unset] [(.int cc)])) := c42.trans (by
            refine XS.istore X0.here hx rfl (hb hby at_87) rfl (l' := #[.val (.int kind), .val (.int a), .val (.int b), .val (.int d), .val (.int kq), .val (.int (65536 : Int32)), .val (.int (1114111 : Int32)), .val (.int cc), .unset, .unset, .unset]) rfl ?_
            show Steps p.tables e below (s₁.setTop (mkF m 89 #[.val (.int kind), .val (.int a), .val (.int b), .val (.int d), .val (.int kq), .val (.int (65536 : Int32)), .val (.int (1114111 : Int32)), .val (.int cc), .unset, .unset, .unset] [])) _
            refine XS.iload X0.here hx rfl (hb hby at_89) rfl ?_
            exact Steps.refl _)
          obtain ⟨_, _, ⟨T44, L44, k44, n44⟩, -, X44, ⟨Lc44, hQ44, l44, y44, z44⟩, st44⟩ := Jvm.LawKit.callS X0 hx (y := (⟨"com/example/coersa/coersa/Utf8", "byteCount", "(I)I"⟩ : MethodName)) hown (mvT hZ (hw _ (List.mem_of_getElem? (i := 1) rfl))) (mvT hZ (hw _ (List.mem_of_getElem? (i := 2) rfl))) (mvT hZ (hw _ (List.mem_of_getElem? (i := 3) rfl))) (mvT hZ (hw _ (List.mem_of_getElem? (i := 4) rfl))) (by decide) (backOf (W := 0) (own_bct l Z a0 hw [] cc h0 n0 Z0) hZ (hw _ (List.mem_of_getElem? (i := 4) rfl)) (hw _ (List.mem_of_getElem? (i := 3) rfl)) (by decide) (by decide)) (g := (mkF m 91 #[.val (.int kind), .val (.int a), .val (.int b), .val (.int d), .val (.int kq), .val (.int (65536 : Int32)), .val (.int (1114111 : Int32)), .val (.int cc), .unset, .unset, .unset] [(.int cc)])) rfl (by rw [hml]; rfl) (argsL := [(.int cc)]) (rest := []) (lenOf own_pd1 rfl) rfl (by show 2 * 0 + _ ≤ _; exact Nat.le_of_eq rfl) (hb hby at_91) (fun _ _ => ⟨rfl, e0, (Nat.le_of_ble_eq_true rfl), (Nat.le_of_ble_eq_true rfl)⟩)
          dsimp only [Pt.U, Pt.locs, Pt.cells, Pt.slots] at X44 l44 y44 z44 st44 hQ44
          subst l44 y44 z44
          obtain ⟨rfl, N44q, eb⟩ := hQ44
          have N44 := Fr.app N0 N44q
          have c45 : Steps p.tables e below S0 (T44.setTop (mkF m 94 #[.val (.int kind), .val (.int a), .val (.int b), .val (.int d), .val (.int kq), .val (.int (65536 : Int32)), .val (.int (1114111 : Int32)), .val (.int cc), .unset, .unset, .unset] [(.int (own_bc cc))])) := c43.trans (by
            refine st44 _ ?_
            exact Steps.refl _)
          have c46 : Steps p.tables e below S0 (T44.setTop (mkF m 98 #[.val (.int kind), .val (.int a), .val (.int b), .val (.int d), .val (.int kq), .val (.int (65536 : Int32)), .val (.int (1114111 : Int32)), .val (.int cc), .unset, .unset, .unset] [(.int (kq + (1 : Int32))), (.int (own_bc cc))])) := c45.trans (by
            refine XS.iload X44.here hx rfl (hb hby at_94) rfl ?_
            show Steps p.tables e below (T44.setTop (mkF m 96 #[.val (.int kind), .val (.int a), .val (.int b), .val (.int d), .val (.int kq), .val (.int (65536 : Int32)), .val (.int (1114111 : Int32)), .val (.int cc), .unset, .unset, .unset] [(.int kq), (.int (own_bc cc))])) _
            refine XS.iconst X44.here hx rfl (hb hby at_96) ?_
            show Steps p.tables e below (T44.setTop (mkF m 97 #[.val (.int kind), .val (.int a), .val (.int b), .val (.int d), .val (.int kq), .val (.int (65536 : Int32)), .val (.int (1114111 : Int32)), .val (.int cc), .unset, .unset, .unset] [(.int (1 : Int32)), (.int kq), (.int (own_bc cc))])) _
            refine XS.iadd X44.here hx rfl (hb hby at_97) rfl ?_
            exact Steps.refl _)
          have c47 : Steps p.tables e below S0 (T44.setTop (mkF m 101 #[.val (.int kind), .val (.int a), .val (.int b), .val (.int d), .val (.int kq), .val (.int (65536 : Int32)), .val (.int (1114111 : Int32)), .val (.int cc), .unset, .unset, .unset] [])) := c46.trans (by
            refine XS.icmpNo X44.here hx rfl (hb hby at_98) rfl (teq (own_low3 hcc (by exact own_kq3 K h9 h14 h30 h49))).2 ?_
            exact Steps.refl _)
          have c48 : Steps p.tables e below S0 (T44.setTop (mkF m 106 #[.val (.int kind), .val (.int a), .val (.int b), .val (.int d), .val (.int kq), .val (.int (65536 : Int32)), .val (.int (1114111 : Int32)), .val (.int cc), .unset, .unset, .unset] [(.int (1 : Int32))])) := c47.trans (by
            refine XS.iconst X44.here hx rfl (hb hby at_101) ?_
            show Steps p.tables e below (T44.setTop (mkF m 102 #[.val (.int kind), .val (.int a), .val (.int b), .val (.int d), .val (.int kq), .val (.int (65536 : Int32)), .val (.int (1114111 : Int32)), .val (.int cc), .unset, .unset, .unset] [(.int (1 : Int32))])) _
            refine XS.goto X44.here hx rfl (pc0 := 102) (pc' := 106) rfl (hb hby at_102) (by decide) (by decide) ?_
            exact Steps.refl _)
          obtain ⟨fs, hr, hrun, hended, hW, hsame⟩ := X44.leave (v := some (.int (1 : Int32))) (fun h => by rw [Bd.returns] at h; cases h)
          exact ⟨_, _, c48.trans (retN X44 hx (t := .boolean) Bd.returns (by simp) (hb hby at_106) hr), hrun, hended, _, _, rfl, ⟨rfl, N44⟩, ⟨_, rfl⟩, hW, hsame.mono (by decide) (by decide)⟩
  · have c49 : Steps p.tables e below S0 (s₁.setTop (mkF m 107 #[.val (.int kind), .val (.int a), .val (.int b), .val (.int d), .val (.int kq), .unset, .unset, .unset, .unset, .unset, .unset] [])) := c2.trans (by
      refine XS.icmpYes X0.here hx rfl (pc0 := 9) (pc' := 107) rfl (hb hby at_9) rfl (flt h9).2.1 (by decide) (by decide) ?_
      exact Steps.refl _)
    rcases own_kq4 K h9 with hk4 | hk4 | hk4 | hk4
    · rw [hk4] at c49
      have c50 : Steps p.tables e below S0 (s₁.setTop (mkF m 112 #[.val (.int kind), .val (.int a), .val (.int b), .val (.int d), .val (.int (4 : Int32)), .unset, .unset, .unset, .unset, .unset, .unset] [(.int (3 : Int32)), (.int ((4 : Int32) - (4 : Int32)))])) := c49.trans (by
        refine XS.iload X0.here hx rfl (hb hby at_107) rfl ?_
        show Steps p.tables e below (s₁.setTop (mkF m 109 #[.val (.int kind), .val (.int a), .val (.int b), .val (.int d), .val (.int (4 : Int32)), .unset, .unset, .unset, .unset, .unset, .unset] [(.int (4 : Int32))])) _
        refine XS.iconst X0.here hx rfl (hb hby at_109) ?_
        show Steps p.tables e below (s₁.setTop (mkF m 110 #[.val (.int kind), .val (.int a), .val (.int b), .val (.int d), .val (.int (4 : Int32)), .unset, .unset, .unset, .unset, .unset, .unset] [(.int (4 : Int32)), (.int (4 : Int32))])) _
        refine XS.isub X0.here hx rfl (hb hby at_110) rfl ?_
        show Steps p.tables e below (s₁.setTop (mkF m 111 #[.val (.int kind), .val (.int a), .val (.int b), .val (.int d), .val (.int (4 : Int32)), .unset, .unset, .unset, .unset, .unset, .unset] [(.int ((4 : Int32) - (4 : Int32)))])) _
        refine XS.iconst X0.here hx rfl (hb hby at_111) ?_
        exact Steps.refl _)
      have c51 : Steps p.tables e below S0 (s₁.setTop (mkF m 113 #[.val (.int kind), .val (.int a), .val (.int b), .val (.int d), .val (.int (4 : Int32)), .unset, .unset, .unset, .unset, .unset, .unset] [(.int (((4 : Int32) - (4 : Int32)) % (3 : Int32)))])) := c50.trans (by
        refine iremM X0 hx rfl (hb hby at_112) rfl (by decide) ?_
        exact Steps.refl _)
      have c52 : Steps p.tables e below S0 (s₁.setTop (mkF m 115 #[.val (.int kind), .val (.int a), .val (.int b), .val (.int d), .val (.int (4 : Int32)), .unset, .unset, .unset, .unset, .unset, .unset] [(.int ((((4 : Int32) - (4 : Int32)) % (3 : Int32)) + (1 : Int32)))])) := c51.trans (by
        refine XS.iconst X0.here hx rfl (hb hby at_113) ?_
        show Steps p.tables e below (s₁.setTop (mkF m 114 #[.val (.int kind), .val (.int a), .val (.int b), .val (.int d), .val (.int (4 : Int32)), .unset, .unset, .unset, .unset, .unset, .unset] [(.int (1 : Int32)), (.int (((4 : Int32) - (4 : Int32)) % (3 : Int32)))])) _
        refine XS.iadd X0.here hx rfl (hb hby at_114) rfl ?_
        exact Steps.refl _)
      rw [(show ((((4 : Int32) - (4 : Int32)) % (3 : Int32)) + (1 : Int32)) = 1 by decide)] at c52
      have c53 : Steps p.tables e below S0 (s₁.setTop (mkF m 118 #[.val (.int kind), .val (.int a), .val (.int b), .val (.int d), .val (.int (4 : Int32)), .val (.int (1 : Int32)), .unset, .unset, .unset, .unset, .unset] [(.int (4 : Int32))])) := c52.trans (by
        refine XS.istore X0.here hx rfl (hb hby at_115) rfl (l' := #[.val (.int kind), .val (.int a), .val (.int b), .val (.int d), .val (.int (4 : Int32)), .val (.int (1 : Int32)), .unset, .unset, .unset, .unset, .unset]) rfl ?_
        show Steps p.tables e below (s₁.setTop (mkF m 117 #[.val (.int kind), .val (.int a), .val (.int b), .val (.int d), .val (.int (4 : Int32)), .val (.int (1 : Int32)), .unset, .unset, .unset, .unset, .unset] [])) _
        refine XS.iconst X0.here hx rfl (hb hby at_117) ?_
        exact Steps.refl _)
      obtain ⟨T54, h54, k54, X54, e54, E54, A54, st54⟩ := newP X0 hx hZ (hw _ (List.mem_of_getElem? (i := 5) rfl)) e0 (g := (mkF m 118 #[.val (.int kind), .val (.int a), .val (.int b), .val (.int d), .val (.int (4 : Int32)), .val (.int (1 : Int32)), .unset, .unset, .unset, .unset, .unset] [(.int (4 : Int32))])) rfl (hb hby at_118) rfl (by decide) (cap := 4) (by decide) (by decide) (by decide) (by decide)
      obtain ⟨bb, gb⟩ : ∃ z, z = h0.size := ⟨_, rfl⟩
      rw [← gb] at A54 st54
      have B54 : own_BA Z h54 bb 0 0 0 0 := ⟨_, A54, rfl⟩
      have g_b : n0 ≤ bb := gb ▸ Z0
      have Z54 : n0 ≤ h54.size := Nat.le_trans Z0 E54.1
      have c55 : Steps p.tables e below S0 (T54.setTop (mkF m 120 #[.val (.int kind), .val (.int a), .val (.int b), .val (.int d), .val (.int (4 : Int32)), .val (.int (1 : Int32)), .unset, .unset, .unset, .unset, .unset] [(.ref bb)])) := c53.trans (by
        refine st54 _ ?_
        exact Steps.refl _)
      have c56 : Steps p.tables e below S0 (T54.setTop (mkF m 125 #[.val (.int kind), .val (.int a), .val (.int b), .val (.int d), .val (.int (4 : Int32)), .val (.int (1 : Int32)), .val (.ref bb), .unset, .unset, .unset, .unset] [(.int (1 : Int32)), (.int (1 : Int32))])) := c55.trans (by
        refine XS.astore X54.here hx rfl (hb hby at_120) rfl rfl (l' := #[.val (.int kind), .val (.int a), .val (.int b), .val (.int d), .val (.int (4 : Int32)), .val (.int (1 : Int32)), .val (.ref bb), .unset, .unset, .unset, .unset]) rfl ?_
        show Steps p.tables e below (T54.setTop (mkF m 122 #[.val (.int kind), .val (.int a), .val (.int b), .val (.int d), .val (.int (4 : Int32)), .val (.int (1 : Int32)), .val (.ref bb), .unset, .unset, .unset, .unset] [])) _
        refine XS.iload X54.here hx rfl (hb hby at_122) rfl ?_
        show Steps p.tables e below (T54.setTop (mkF m 124 #[.val (.int kind), .val (.int a), .val (.int b), .val (.int d), .val (.int (4 : Int32)), .val (.int (1 : Int32)), .val (.ref bb), .unset, .unset, .unset, .unset] [(.int (1 : Int32))])) _
        refine XS.iconst X54.here hx rfl (hb hby at_124) ?_
        exact Steps.refl _)
      have c57 : Steps p.tables e below S0 (T54.setTop (mkF m 128 #[.val (.int kind), .val (.int a), .val (.int b), .val (.int d), .val (.int (4 : Int32)), .val (.int (1 : Int32)), .val (.ref bb), .unset, .unset, .unset, .unset] [])) := c56.trans (by
        refine XS.icmpNo X54.here hx rfl (hb hby at_125) rfl (teq (by decide)).2 ?_
        exact Steps.refl _)
      have c58 : Steps p.tables e below S0 (T54.setTop (mkF m 140 #[.val (.int kind), .val (.int a), .val (.int b), .val (.int d), .val (.int (4 : Int32)), .val (.int (1 : Int32)), .val (.ref bb), .unset, .unset, .unset, .unset] [(.int (((128 : Int32) + (a &&& (127 : Int32))).toInt8.toInt32)), (.int (0 : Int32)), (.ref bb)])) := c57.trans (by
        refine XS.aload X54.here hx rfl (hb hby at_128) rfl rfl ?_
        show Steps p.tables e below (T54.setTop (mkF m 130 #[.val (.int kind), .val (.int a), .val (.int b), .val (.int d), .val (.int (4 : Int32)), .val (.int (1 : Int32)), .val (.ref bb), .unset, .unset, .unset, .unset] [(.ref bb)])) _
        refine XS.iconst X54.here hx rfl (hb hby at_130) ?_
        show Steps p.tables e below (T54.setTop (mkF m 131 #[.val (.int kind), .val (.int a), .val (.int b), .val (.int d), .val (.int (4 : Int32)), .val (.int (1 : Int32)), .val (.ref bb), .unset, .unset, .unset, .unset] [(.int (0 : Int32)), (.ref bb)])) _
        refine XS.sipush X54.here hx rfl (hb hby at_131) ?_
        show Steps p.tables e below (T54.setTop (mkF m 134 #[.val (.int kind), .val (.int a), .val (.int b), .val (.int d), .val (.int (4 : Int32)), .val (.int (1 : Int32)), .val (.ref bb), .unset, .unset, .unset, .unset] [(.int (128 : Int32)), (.int (0 : Int32)), (.ref bb)])) _
        refine XS.iloadN X54.here hx rfl (hb hby at_134) rfl ?_
        show Steps p.tables e below (T54.setTop (mkF m 135 #[.val (.int kind), .val (.int a), .val (.int b), .val (.int d), .val (.int (4 : Int32)), .val (.int (1 : Int32)), .val (.ref bb), .unset, .unset, .unset, .unset] [(.int a), (.int (128 : Int32)), (.int (0 : Int32)), (.ref bb)])) _
        refine XS.bipush X54.here hx rfl (hb hby at_135) ?_
        show Steps p.tables e below (T54.setTop (mkF m 137 #[.val (.int kind), .val (.int a), .val (.int b), .val (.int d), .val (.int (4 : Int32)), .val (.int (1 : Int32)), .val (.ref bb), .unset, .unset, .unset, .unset] [(.int (127 : Int32)), (.int a), (.int (128 : Int32)), (.int (0 : Int32)), (.ref bb)])) _
        refine XS.iand X54.here hx rfl (hb hby at_137) rfl ?_
        show Steps p.tables e below (T54.setTop (mkF m 138 #[.val (.int kind), .val (.int a), .val (.int b), .val (.int d), .val (.int (4 : Int32)), .val (.int (1 : Int32)), .val (.ref bb), .unset, .unset, .unset, .unset] [(.int (a &&& (127 : Int32))), (.int (128 : Int32)), (.int (0 : Int32)), (.ref bb)])) _
        refine XS.iadd X54.here hx rfl (hb hby at_138) rfl ?_
        show Steps p.tables e below (T54.setTop (mkF m 139 #[.val (.int kind), .val (.int a), .val (.int b), .val (.int d), .val (.int (4 : Int32)), .val (.int (1 : Int32)), .val (.ref bb), .unset, .unset, .unset, .unset] [(.int ((128 : Int32) + (a &&& (127 : Int32)))), (.int (0 : Int32)), (.ref bb)])) _
        refine XS.i2b X54.here hx rfl (hb hby at_139) rfl ?_
        exact Steps.refl _)
      obtain ⟨cl59, Ac59, hcl59⟩ := B54
      obtain ⟨T60, h60, X60, e60, W60, st60⟩ := stB X54 hx hZ e54 Ac59 (j := (0 : Int32)) (by rw [hcl59]; exact own_in4 (by decide)) (g := (mkF m 140 #[.val (.int kind), .val (.int a), .val (.int b), .val (.int d), .val (.int (4 : Int32)), .val (.int (1 : Int32)), .val (.ref bb), .unset, .unset, .unset, .unset] [(.int (((128 : Int32) + (a &&& (127 : Int32))).toInt8.toInt32)), (.int (0 : Int32)), (.ref bb)])) rfl rfl (hb hby at_140)
      have c61 : Steps p.tables e below S0 (T60.setTop (mkF m 141 #[.val (.int kind), .val (.int a), .val (.int b), .val (.int d), .val (.int (4 : Int32)), .val (.int (1 : Int32)), .val (.ref bb), .unset, .unset, .unset, .unset] [])) := c58.trans (by
        refine st60 _ ?_
        exact Steps.refl _)
      have B60 : own_BA Z h60 bb (nar .byte (((128 : Int32) + (a &&& (127 : Int32))).toInt8.toInt32)) 0 0 0 := ⟨_, Ac59.same W60, by simp [Cell.setSlot, hcl59]⟩
      have N60 := Fr.snoc X60 N0 g_b
      have Z60 : n0 ≤ h60.size := by rw [W60.size]; exact Z54
      have c62 : Steps p.tables e below S0 (T60.setTop (mkF m 145 #[.val (.int kind), .val (.int a), .val (.int b), .val (.int d), .val (.int (4 : Int32)), .val (.int (1 : Int32)), .val (.ref bb), .unset, .unset, .unset, .unset] [(.int (0 : Int32)), (.int (1 : Int32)), (.ref bb)])) := c61.trans (by
        refine XS.aload X60.here hx rfl (hb hby at_141) rfl rfl ?_
        show Steps p.tables e below (T60.setTop (mkF m 143 #[.val (.int kind), .val (.int a), .val (.int b), .val (.int d), .val (.int (4 : Int32)), .val (.int (1 : Int32)), .val (.ref bb), .unset, .unset, .unset, .unset] [(.ref bb)])) _
        refine XS.iconst X60.here hx rfl (hb hby at_143) ?_
        show Steps p.tables e below (T60.setTop (mkF m 144 #[.val (.int kind), .val (.int a), .val (.int b), .val (.int d), .val (.int (4 : Int32)), .val (.int (1 : Int32)), .val (.ref bb), .unset, .unset, .unset, .unset] [(.int (1 : Int32)), (.ref bb)])) _
        refine XS.iconst X60.here hx rfl (hb hby at_144) ?_
        exact Steps.refl _)
      obtain ⟨cl63, Ac63, hcl63⟩ := B60
      obtain ⟨T64, h64, X64, e64, W64, st64⟩ := stB X60 hx hZ e60 Ac63 (j := (1 : Int32)) (by rw [hcl63]; exact own_in4 (by decide)) (g := (mkF m 145 #[.val (.int kind), .val (.int a), .val (.int b), .val (.int d), .val (.int (4 : Int32)), .val (.int (1 : Int32)), .val (.ref bb), .unset, .unset, .unset, .unset] [(.int (0 : Int32)), (.int (1 : Int32)), (.ref bb)])) rfl rfl (hb hby at_145)
      have c65 : Steps p.tables e below S0 (T64.setTop (mkF m 146 #[.val (.int kind), .val (.int a), .val (.int b), .val (.int d), .val (.int (4 : Int32)), .val (.int (1 : Int32)), .val (.ref bb), .unset, .unset, .unset, .unset] [])) := c62.trans (by
        refine st64 _ ?_
        exact Steps.refl _)
      have B64 : own_BA Z h64 bb (nar .byte (((128 : Int32) + (a &&& (127 : Int32))).toInt8.toInt32)) (nar .byte (0 : Int32)) 0 0 := ⟨_, Ac63.same W64, by simp [Cell.setSlot, hcl63]⟩
      have N64 := Fr.snoc X64 N60 g_b
      have Z64 : n0 ≤ h64.size := by rw [W64.size]; exact Z60
      have c66 : Steps p.tables e below S0 (T64.setTop (mkF m 307 #[.val (.int kind), .val (.int a), .val (.int b), .val (.int d), .val (.int (4 : Int32)), .val (.int (1 : Int32)), .val (.ref bb), .unset, .unset, .unset, .unset] [(.int (0 : Int32)), (.ref bb)])) := c65.trans (by
        refine XS.goto X64.here hx rfl (pc0 := 146) (pc' := 304) rfl (hb hby at_146) (by decide) (by decide) ?_
        show Steps p.tables e below (T64.setTop (mkF m 304 #[.val (.int kind), .val (.int a), .val (.int b), .val (.int d), .val (.int (4 : Int32)), .val (.int (1 : Int32)), .val (.ref bb), .unset, .unset, .unset, .unset] [])) _
        refine XS.aload X64.here hx rfl (hb hby at_304) rfl rfl ?_
        show Steps p.tables e below (T64.setTop (mkF m 306 #[.val (.int kind), .val (.int a), .val (.int b), .val (.int d), .val (.int (4 : Int32)), .val (.int (1 : Int32)), .val (.ref bb), .unset, .unset, .unset, .unset] [(.ref bb)])) _
        refine XS.iconst X64.here hx rfl (hb hby at_306) ?_
        exact Steps.refl _)
      have hu : ¬ (((nar .byte (((128 : Int32) + (a &&& (127 : Int32))).toInt8.toInt32)) &&& 255) < 128) := own_f1u a
      have hr : own_run ((nar .byte (((128 : Int32) + (a &&& (127 : Int32))).toInt8.toInt32)) &&& 255) ((nar .byte (0 : Int32)) &&& 255) (0 &&& 255) (0 &&& 255) = -1 := own_f1r a
      obtain ⟨_, _, ⟨T67, L67, k67, n67⟩, -, X67, ⟨Lc67, hQ67, l67, y67, z67⟩, st67⟩ := Jvm.LawKit.callS X64 hx (y := (⟨"com/example/coersa/coersa/Utf8", "characterAt", "([BI)I"⟩ : MethodName)) hown (mvT hZ (hw _ (List.mem_of_getElem? (i := 6) rfl))) (mvT hZ (hw _ (List.mem_of_getElem? (i := 7) rfl))) (mvT hZ (hw _ (List.mem_of_getElem? (i := 3) rfl))) (mvT hZ (hw _ (List.mem_of_getElem? (i := 8) rfl))) (by decide) (backOf (W := 0) (own_cat1 l Z a0 hw [] bb 0 (nar .byte (((128 : Int32) + (a &&& (127 : Int32))).toInt8.toInt32)) (nar .byte (0 : Int32)) 0 0 h64 n0 Z64 rfl B64 hu hr) hZ (hw _ (List.mem_of_getElem? (i := 8) rfl)) (hw _ (List.mem_of_getElem? (i := 3) rfl)) (by decide) (by decide)) (g := (mkF m 307 #[.val (.int kind), .val (.int a), .val (.int b), .val (.int d), .val (.int (4 : Int32)), .val (.int (1 : Int32)), .val (.ref bb), .unset, .unset, .unset, .unset] [(.int (0 : Int32)), (.ref bb)])) rfl (by rw [hml]; rfl) (argsL := [(.ref bb), (.int (0 : Int32))]) (rest := []) (lenOf own_pd0 rfl) rfl (by show 2 * 0 + _ ≤ _; exact Nat.le_of_eq rfl) (hb hby at_307) (fun _ _ => ⟨rfl, e64, (Nat.le_of_ble_eq_true rfl), (Nat.le_of_ble_eq_true rfl)⟩)
      dsimp only [Pt.U, Pt.locs, Pt.cells, Pt.slots] at X67 l67 y67 z67 st67 hQ67
      subst l67 y67 z67
      obtain ⟨rfl, N67q, ec⟩ := hQ67
      have N67 := Fr.app N64 N67q
      have c68 : Steps p.tables e below S0 (T67.setTop (mkF m 310 #[.val (.int kind), .val (.int a), .val (.int b), .val (.int d), .val (.int (4 : Int32)), .val (.int (1 : Int32)), .val (.ref bb), .unset, .unset, .unset, .unset] [(.int (own_ca1 (nar .byte (((128 : Int32) + (a &&& (127 : Int32))).toInt8.toInt32)) (nar .byte (0 : Int32)) 0))])) := c66.trans (by
        refine st67 _ ?_
        exact Steps.refl _)
      have Zc : n0 ≤ T67.heap.size := by rw [ec]; exact Z64
      obtain ⟨_, _, ⟨T69, L69, k69, n69⟩, -, X69, ⟨Lc69, hQ69, l69, y69, z69⟩, st69⟩ := Jvm.LawKit.callS X67 hx (y := (⟨"com/example/coersa/coersa/Utf8", "byteCount", "(I)I"⟩ : MethodName)) hown (mvT hZ (hw _ (List.mem_of_getElem? (i := 1) rfl))) (mvT hZ (hw _ (List.mem_of_getElem? (i := 2) rfl))) (mvT hZ (hw _ (List.mem_of_getElem? (i := 3) rfl))) (mvT hZ (hw _ (List.mem_of_getElem? (i := 4) rfl))) (by decide) (backOf (W := 0) (own_bct l Z a0 hw [] (own_ca1 (nar .byte (((128 : Int32) + (a &&& (127 : Int32))).toInt8.toInt32)) (nar .byte (0 : Int32)) 0) T67.heap n0 Zc) hZ (hw _ (List.mem_of_getElem? (i := 4) rfl)) (hw _ (List.mem_of_getElem? (i := 3) rfl)) (by decide) (by decide)) (g := (mkF m 310 #[.val (.int kind), .val (.int a), .val (.int b), .val (.int d), .val (.int (4 : Int32)), .val (.int (1 : Int32)), .val (.ref bb), .unset, .unset, .unset, .unset] [(.int (own_ca1 (nar .byte (((128 : Int32) + (a &&& (127 : Int32))).toInt8.toInt32)) (nar .byte (0 : Int32)) 0))])) rfl (by rw [hml]; rfl) (argsL := [(.int (own_ca1 (nar .byte (((128 : Int32) + (a &&& (127 : Int32))).toInt8.toInt32)) (nar .byte (0 : Int32)) 0))]) (rest := []) (lenOf own_pd1 rfl) rfl (by show 2 * 0 + _ ≤ _; exact Nat.le_of_eq rfl) (hb hby at_310) (fun _ _ => ⟨rfl, rfl, (Nat.le_of_ble_eq_true rfl), (Nat.le_of_ble_eq_true rfl)⟩)
      dsimp only [Pt.U, Pt.locs, Pt.cells, Pt.slots] at X69 l69 y69 z69 st69 hQ69
      subst l69 y69 z69
      obtain ⟨rfl, N69q, eb⟩ := hQ69
      have N69 := Fr.app N67 N69q
      have c70 : Steps p.tables e below S0 (T69.setTop (mkF m 313 #[.val (.int kind), .val (.int a), .val (.int b), .val (.int d), .val (.int (4 : Int32)), .val (.int (1 : Int32)), .val (.ref bb), .unset, .unset, .unset, .unset] [(.int (own_bc (own_ca1 (nar .byte (((128 : Int32) + (a &&& (127 : Int32))).toInt8.toInt32)) (nar .byte (0 : Int32)) 0)))])) := c68.trans (by
        refine st69 _ ?_
        exact Steps.refl _)
      have c71 : Steps p.tables e below S0 (T69.setTop (mkF m 315 #[.val (.int kind), .val (.int a), .val (.int b), .val (.int d), .val (.int (4 : Int32)), .val (.int (1 : Int32)), .val (.ref bb), .unset, .unset, .unset, .unset] [(.int (1 : Int32)), (.int (own_bc (own_ca1 (nar .byte (((128 : Int32) + (a &&& (127 : Int32))).toInt8.toInt32)) (nar .byte (0 : Int32)) 0)))])) := c70.trans (by
        refine XS.iload X69.here hx rfl (hb hby at_313) rfl ?_
        exact Steps.refl _)
      have c72 : Steps p.tables e below S0 (T69.setTop (mkF m 318 #[.val (.int kind), .val (.int a), .val (.int b), .val (.int d), .val (.int (4 : Int32)), .val (.int (1 : Int32)), .val (.ref bb), .unset, .unset, .unset, .unset] [])) := c71.trans (by
        refine XS.icmpNo X69.here hx rfl (hb hby at_315) rfl (teq (own_f1v a _ _)).2 ?_
        exact Steps.refl _)
      have c73 : Steps p.tables e below S0 (T69.setTop (mkF m 323 #[.val (.int kind), .val (.int a), .val (.int b), .val (.int d), .val (.int (4 : Int32)), .val (.int (1 : Int32)), .val (.ref bb), .unset, .unset, .unset, .unset] [(.int (1 : Int32))])) := c72.trans (by
        refine XS.iconst X69.here hx rfl (hb hby at_318) ?_
        show Steps p.tables e below (T69.setTop (mkF m 319 #[.val (.int kind), .val (.int a), .val (.int b), .val (.int d), .val (.int (4 : Int32)), .val (.int (1 : Int32)), .val (.ref bb), .unset, .unset, .unset, .unset] [(.int (1 : Int32))])) _
        refine XS.goto X69.here hx rfl (pc0 := 319) (pc' := 323) rfl (hb hby at_319) (by decide) (by decide) ?_
        exact Steps.refl _)
      obtain ⟨fs, hr, hrun, hended, hW, hsame⟩ := X69.leave (v := some (.int (1 : Int32))) (fun h => by rw [Bd.returns] at h; cases h)
      exact ⟨_, _, c73.trans (retN X69 hx (t := .boolean) Bd.returns (by simp) (hb hby at_323) hr), hrun, hended, _, _, rfl, ⟨rfl, N69⟩, ⟨_, rfl⟩, hW, hsame.mono (by decide) (by decide)⟩
    · rw [hk4] at c49
      have c74 : Steps p.tables e below S0 (s₁.setTop (mkF m 112 #[.val (.int kind), .val (.int a), .val (.int b), .val (.int d), .val (.int (5 : Int32)), .unset, .unset, .unset, .unset, .unset, .unset] [(.int (3 : Int32)), (.int ((5 : Int32) - (4 : Int32)))])) := c49.trans (by
        refine XS.iload X0.here hx rfl (hb hby at_107) rfl ?_
        show Steps p.tables e below (s₁.setTop (mkF m 109 #[.val (.int kind), .val (.int a), .val (.int b), .val (.int d), .val (.int (5 : Int32)), .unset, .unset, .unset, .unset, .unset, .unset] [(.int (5 : Int32))])) _
        refine XS.iconst X0.here hx rfl (hb hby at_109) ?_
        show Steps p.tables e below (s₁.setTop (mkF m 110 #[.val (.int kind), .val (.int a), .val (.int b), .val (.int d), .val (.int (5 : Int32)), .unset, .unset, .unset, .unset, .unset, .unset] [(.int (4 : Int32)), (.int (5 : Int32))])) _
        refine XS.isub X0.here hx rfl (hb hby at_110) rfl ?_
        show Steps p.tables e below (s₁.setTop (mkF m 111 #[.val (.int kind), .val (.int a), .val (.int b), .val (.int d), .val (.int (5 : Int32)), .unset, .unset, .unset, .unset, .unset, .unset] [(.int ((5 : Int32) - (4 : Int32)))])) _
        refine XS.iconst X0.here hx rfl (hb hby at_111) ?_
        exact Steps.refl _)
      have c75 : Steps p.tables e below S0 (s₁.setTop (mkF m 113 #[.val (.int kind), .val (.int a), .val (.int b), .val (.int d), .val (.int (5 : Int32)), .unset, .unset, .unset, .unset, .unset, .unset] [(.int (((5 : Int32) - (4 : Int32)) % (3 : Int32)))])) := c74.trans (by
        refine iremM X0 hx rfl (hb hby at_112) rfl (by decide) ?_
        exact Steps.refl _)
      have c76 : Steps p.tables e below S0 (s₁.setTop (mkF m 115 #[.val (.int kind), .val (.int a), .val (.int b), .val (.int d), .val (.int (5 : Int32)), .unset, .unset, .unset, .unset, .unset, .unset] [(.int ((((5 : Int32) - (4 : Int32)) % (3 : Int32)) + (1 : Int32)))])) := c75.trans (by
        refine XS.iconst X0.here hx rfl (hb hby at_113) ?_
        show Steps p.tables e below (s₁.setTop (mkF m 114 #[.val (.int kind), .val (.int a), .val (.int b), .val (.int d), .val (.int (5 : Int32)), .unset, .unset, .unset, .unset, .unset, .unset] [(.int (1 : Int32)), (.int (((5 : Int32) - (4 : Int32)) % (3 : Int32)))])) _
        refine XS.iadd X0.here hx rfl (hb hby at_114) rfl ?_
        exact Steps.refl _)
      rw [(show ((((5 : Int32) - (4 : Int32)) % (3 : Int32)) + (1 : Int32)) = 2 by decide)] at c76
      have c77 : Steps p.tables e below S0 (s₁.setTop (mkF m 118 #[.val (.int kind), .val (.int a), .val (.int b), .val (.int d), .val (.int (5 : Int32)), .val (.int (2 : Int32)), .unset, .unset, .unset, .unset, .unset] [(.int (4 : Int32))])) := c76.trans (by
        refine XS.istore X0.here hx rfl (hb hby at_115) rfl (l' := #[.val (.int kind), .val (.int a), .val (.int b), .val (.int d), .val (.int (5 : Int32)), .val (.int (2 : Int32)), .unset, .unset, .unset, .unset, .unset]) rfl ?_
        show Steps p.tables e below (s₁.setTop (mkF m 117 #[.val (.int kind), .val (.int a), .val (.int b), .val (.int d), .val (.int (5 : Int32)), .val (.int (2 : Int32)), .unset, .unset, .unset, .unset, .unset] [])) _
        refine XS.iconst X0.here hx rfl (hb hby at_117) ?_
        exact Steps.refl _)
      obtain ⟨T78, h78, k78, X78, e78, E78, A78, st78⟩ := newP X0 hx hZ (hw _ (List.mem_of_getElem? (i := 5) rfl)) e0 (g := (mkF m 118 #[.val (.int kind), .val (.int a), .val (.int b), .val (.int d), .val (.int (5 : Int32)), .val (.int (2 : Int32)), .unset, .unset, .unset, .unset, .unset] [(.int (4 : Int32))])) rfl (hb hby at_118) rfl (by decide) (cap := 4) (by decide) (by decide) (by decide) (by decide)
      obtain ⟨bb, gb⟩ : ∃ z, z = h0.size := ⟨_, rfl⟩
      rw [← gb] at A78 st78
      have B78 : own_BA Z h78 bb 0 0 0 0 := ⟨_, A78, rfl⟩
      have g_b : n0 ≤ bb := gb ▸ Z0
      have Z78 : n0 ≤ h78.size := Nat.le_trans Z0 E78.1
      have c79 : Steps p.tables e below S0 (T78.setTop (mkF m 120 #[.val (.int kind), .val (.int a), .val (.int b), .val (.int d), .val (.int (5 : Int32)), .val (.int (2 : Int32)), .unset, .unset, .unset, .unset, .unset] [(.ref bb)])) := c77.trans (by
        refine st78 _ ?_
        exact Steps.refl _)
      have c80 : Steps p.tables e below S0 (T78.setTop (mkF m 125 #[.val (.int kind), .val (.int a), .val (.int b), .val (.int d), .val (.int (5 : Int32)), .val (.int (2 : Int32)), .val (.ref bb), .unset, .unset, .unset, .unset] [(.int (1 : Int32)), (.int (2 : Int32))])) := c79.trans (by
        refine XS.astore X78.here hx rfl (hb hby at_120) rfl rfl (l' := #[.val (.int kind), .val (.int a), .val (.int b), .val (.int d), .val (.int (5 : Int32)), .val (.int (2 : Int32)), .val (.ref bb), .unset, .unset, .unset, .unset]) rfl ?_
        show Steps p.tables e below (T78.setTop (mkF m 122 #[.val (.int kind), .val (.int a), .val (.int b), .val (.int d), .val (.int (5 : Int32)), .val (.int (2 : Int32)), .val (.ref bb), .unset, .unset, .unset, .unset] [])) _
        refine XS.iload X78.here hx rfl (hb hby at_122) rfl ?_
        show Steps p.tables e below (T78.setTop (mkF m 124 #[.val (.int kind), .val (.int a), .val (.int b), .val (.int d), .val (.int (5 : Int32)), .val (.int (2 : Int32)), .val (.ref bb), .unset, .unset, .unset, .unset] [(.int (2 : Int32))])) _
        refine XS.iconst X78.here hx rfl (hb hby at_124) ?_
        exact Steps.refl _)
      have c81 : Steps p.tables e below S0 (T78.setTop (mkF m 149 #[.val (.int kind), .val (.int a), .val (.int b), .val (.int d), .val (.int (5 : Int32)), .val (.int (2 : Int32)), .val (.ref bb), .unset, .unset, .unset, .unset] [])) := c80.trans (by
        refine XS.icmpYes X78.here hx rfl (pc0 := 125) (pc' := 149) rfl (hb hby at_125) rfl (feq (by decide)).2 (by decide) (by decide) ?_
        exact Steps.refl _)
      have c82 : Steps p.tables e below S0 (T78.setTop (mkF m 152 #[.val (.int kind), .val (.int a), .val (.int b), .val (.int d), .val (.int (5 : Int32)), .val (.int (2 : Int32)), .val (.ref bb), .unset, .unset, .unset, .unset] [(.int (2 : Int32)), (.int (2 : Int32))])) := c81.trans (by
        refine XS.iload X78.here hx rfl (hb hby at_149) rfl ?_
        show Steps p.tables e below (T78.setTop (mkF m 151 #[.val (.int kind), .val (.int a), .val (.int b), .val (.int d), .val (.int (5 : Int32)), .val (.int (2 : Int32)), .val (.ref bb), .unset, .unset, .unset, .unset] [(.int (2 : Int32))])) _
        refine XS.iconst X78.here hx rfl (hb hby at_151) ?_
        exact Steps.refl _)
      have c83 : Steps p.tables e below S0 (T78.setTop (mkF m 155 #[.val (.int kind), .val (.int a), .val (.int b), .val (.int d), .val (.int (5 : Int32)), .val (.int (2 : Int32)), .val (.ref bb), .unset, .unset, .unset, .unset] [])) := c82.trans (by
        refine XS.icmpNo X78.here hx rfl (hb hby at_152) rfl (teq (by decide)).2 ?_
        exact Steps.refl _)
      have c84 : Steps p.tables e below S0 (T78.setTop (mkF m 164 #[.val (.int kind), .val (.int a), .val (.int b), .val (.int d), .val (.int (5 : Int32)), .val (.int (2 : Int32)), .val (.ref bb), .unset, .unset, .unset, .unset] [(.int (21 : Int32)), (.int (a &&& (2147483647 : Int32))), (.int (224 : Int32))])) := c83.trans (by
        refine XS.sipush X78.here hx rfl (hb hby at_155) ?_
        show Steps p.tables e below (T78.setTop (mkF m 158 #[.val (.int kind), .val (.int a), .val (.int b), .val (.int d), .val (.int (5 : Int32)), .val (.int (2 : Int32)), .val (.ref bb), .unset, .unset, .unset, .unset] [(.int (224 : Int32))])) _
        refine XS.iloadN X78.here hx rfl (hb hby at_158) rfl ?_
        show Steps p.tables e below (T78.setTop (mkF m 159 #[.val (.int kind), .val (.int a), .val (.int b), .val (.int d), .val (.int (5 : Int32)), .val (.int (2 : Int32)), .val (.ref bb), .unset, .unset, .unset, .unset] [(.int a), (.int (224 : Int32))])) _
        refine X78.ldcInt hx hown (mvT hZ (hw _ (List.mem_of_getElem? (i := 0) rfl))) (g := (mkF m 159 #[.val (.int kind), .val (.int a), .val (.int b), .val (.int d), .val (.int (5 : Int32)), .val (.int (2 : Int32)), .val (.ref bb), .unset, .unset, .unset, .unset] [(.int a), (.int (224 : Int32))])) rfl (hb hby at_159) _ ?_
        show Steps p.tables e below (T78.setTop (mkF m 161 #[.val (.int kind), .val (.int a), .val (.int b), .val (.int d), .val (.int (5 : Int32)), .val (.int (2 : Int32)), .val (.ref bb), .unset, .unset, .unset, .unset] [(.int (2147483647 : Int32)), (.int a), (.int (224 : Int32))])) _
        refine XS.iand X78.here hx rfl (hb hby at_161) rfl ?_
        show Steps p.tables e below (T78.setTop (mkF m 162 #[.val (.int kind), .val (.int a), .val (.int b), .val (.int d), .val (.int (5 : Int32)), .val (.int (2 : Int32)), .val (.ref bb), .unset, .unset, .unset, .unset] [(.int (a &&& (2147483647 : Int32))), (.int (224 : Int32))])) _
        refine XS.bipush X78.here hx rfl (hb hby at_162) ?_
        exact Steps.refl _)
      have c85 : Steps p.tables e below S0 (T78.setTop (mkF m 165 #[.val (.int kind), .val (.int a), .val (.int b), .val (.int d), .val (.int (5 : Int32)), .val (.int (2 : Int32)), .val (.ref bb), .unset, .unset, .unset, .unset] [(.int ((a &&& (2147483647 : Int32)) % (21 : Int32))), (.int (224 : Int32))])) := c84.trans (by
        refine iremM X78 hx rfl (hb hby at_164) rfl (by decide) ?_
        exact Steps.refl _)
      have c86 : Steps p.tables e below S0 (T78.setTop (mkF m 166 #[.val (.int kind), .val (.int a), .val (.int b), .val (.int d), .val (.int (5 : Int32)), .val (.int (2 : Int32)), .val (.ref bb), .unset, .unset, .unset, .unset] [(.int ((224 : Int32) + ((a &&& (2147483647 : Int32)) % (21 : Int32))))])) := c85.trans (by
        refine XS.iadd X78.here hx rfl (hb hby at_165) rfl ?_
        exact Steps.refl _)
      obtain ⟨ff, hff⟩ : ∃ z : Int32, z = ((224 : Int32) + ((a &&& (2147483647 : Int32)) % (21 : Int32))) := ⟨_, rfl⟩
      rw [← hff] at c86
      have F := own_ff2 hff
      have c87 : Steps p.tables e below S0 (T78.setTop (mkF m 198 #[.val (.int kind), .val (.int a), .val (.int b), .val (.int d), .val (.int (5 : Int32)), .val (.int (2 : Int32)), .val (.ref bb), .val (.int ff), .val (.int (128 : Int32)), .val (.int (191 : Int32)), .unset] [(.int (224 : Int32)), (.int ff)])) := c86.trans (by
        refine XS.istore X78.here hx rfl (hb hby at_166) rfl (l' := #[.val (.int kind), .val (.int a), .val (.int b), .val (.int d), .val (.int (5 : Int32)), .val (.int (2 : Int32)), .val (.ref bb), .val (.int ff), .unset, .unset, .unset]) rfl ?_
        show Steps p.tables e below (T78.setTop (mkF m 168 #[.val (.int kind), .val (.int a), .val (.int b), .val (.int d), .val (.int (5 : Int32)), .val (.int (2 : Int32)), .val (.ref bb), .val (.int ff), .unset, .unset, .unset] [])) _
        refine XS.goto X78.here hx rfl (pc0 := 168) (pc' := 183) rfl (hb hby at_168) (by decide) (by decide) ?_
        show Steps p.tables e below (T78.setTop (mkF m 183 #[.val (.int kind), .val (.int a), .val (.int b), .val (.int d), .val (.int (5 : Int32)), .val (.int (2 : Int32)), .val (.ref bb), .val (.int ff), .unset, .unset, .unset] [])) _
        refine XS.sipush X78.here hx rfl (hb hby at_183) ?_
        show Steps p.tables e below (T78.setTop (mkF m 186 #[.val (.int kind), .val (.int a), .val (.int b), .val (.int d), .val (.int (5 : Int32)), .val (.int (2 : Int32)), .val (.ref bb), .val (.int ff), .unset, .unset, .unset] [(.int (128 : Int32))])) _
        refine XS.istore X78.here hx rfl (hb hby at_186) rfl (l' := #[.val (.int kind), .val (.int a), .val (.int b), .val (.int d), .val (.int (5 : Int32)), .val (.int (2 : Int32)), .val (.ref bb), .val (.int ff), .val (.int (128 : Int32)), .unset, .unset]) rfl ?_
        show Steps p.tables e below (T78.setTop (mkF m 188 #[.val (.int kind), .val (.int a), .val (.int b), .val (.int d), .val (.int (5 : Int32)), .val (.int (2 : Int32)), .val (.ref bb), .val (.int ff), .val (.int (128 : Int32)), .unset, .unset] [])) _
        refine XS.sipush X78.here hx rfl (hb hby at_188) ?_
        show Steps p.tables e below (T78.setTop (mkF m 191 #[.val (.int kind), .val (.int a), .val (.int b), .val (.int d), .val (.int (5 : Int32)), .val (.int (2 : Int32)), .val (.ref bb), .val (.int ff), .val (.int (128 : Int32)), .unset, .unset] [(.int (191 : Int32))])) _
        refine XS.istore X78.here hx rfl (hb hby at_191) rfl (l' := #[.val (.int kind), .val (.int a), .val (.int b), .val (.int d), .val (.int (5 : Int32)), .val (.int (2 : Int32)), .val (.ref bb), .val (.int ff), .val (.int (128 : Int32)), .val (.int (191 : Int32)), .unset]) rfl ?_
        show Steps p.tables e below (T78.setTop (mkF m 193 #[.val (.int kind), .val (.int a), .val (.int b), .val (.int d), .val (.int (5 : Int32)), .val (.int (2 : Int32)), .val (.ref bb), .val (.int ff), .val (.int (128 : Int32)), .val (.int (191 : Int32)), .unset] [])) _
        refine XS.iload X78.here hx rfl (hb hby at_193) rfl ?_
        show Steps p.tables e below (T78.setTop (mkF m 195 #[.val (.int kind), .val (.int a), .val (.int b), .val (.int d), .val (.int (5 : Int32)), .val (.int (2 : Int32)), .val (.ref bb), .val (.int ff), .val (.int (128 : Int32)), .val (.int (191 : Int32)), .unset] [(.int ff)])) _
        refine XS.sipush X78.here hx rfl (hb hby at_195) ?_
        exact Steps.refl _)
      by_cases hf224 : ff = (224 : Int32)
      · have c88 : Steps p.tables e below S0 (T78.setTop (mkF m 201 #[.val (.int kind), .val (.int a), .val (.int b), .val (.int d), .val (.int (5 : Int32)), .val (.int (2 : Int32)), .val (.ref bb), .val (.int ff), .val (.int (128 : Int32)), .val (.int (191 : Int32)), .unset] [])) := c87.trans (by
          refine XS.icmpNo X78.here hx rfl (hb hby at_198) rfl (teq hf224).2 ?_
          exact Steps.refl _)
        have c89 : Steps p.tables e below S0 (T78.setTop (mkF m 267 #[.val (.int kind), .val (.int a), .val (.int b), .val (.int d), .val (.int (5 : Int32)), .val (.int (2 : Int32)), .val (.ref bb), .val (.int ff), .val (.int (160 : Int32)), .val (.int (191 : Int32)), .unset] [(.int (((191 : Int32) - (160 : Int32)) + (1 : Int32))), (.int (b &&& (2147483647 : Int32))), (.int (160 : Int32))])) := c88.trans (by
          refine XS.sipush X78.here hx rfl (hb hby at_201) ?_
          show Steps p.tables e below (T78.setTop (mkF m 204 #[.val (.int kind), .val (.int a), .val (.int b), .val (.int d), .val (.int (5 : Int32)), .val (.int (2 : Int32)), .val (.ref bb), .val (.int ff), .val (.int (128 : Int32)), .val (.int (191 : Int32)), .unset] [(.int (160 : Int32))])) _
          refine XS.istore X78.here hx rfl (hb hby at_204) rfl (l' := #[.val (.int kind), .val (.int a), .val (.int b), .val (.int d), .val (.int (5 : Int32)), .val (.int (2 : Int32)), .val (.ref bb), .val (.int ff), .val (.int (160 : Int32)), .val (.int (191 : Int32)), .unset]) rfl ?_
          show Steps p.tables e below (T78.setTop (mkF m 206 #[.val (.int kind), .val (.int a), .val (.int b), .val (.int d), .val (.int (5 : Int32)), .val (.int (2 : Int32)), .val (.ref bb), .val (.int ff), .val (.int (160 : Int32)), .val (.int (191 : Int32)), .unset] [])) _
          refine XS.goto X78.here hx rfl (pc0 := 206) (pc' := 254) rfl (hb hby at_206) (by decide) (by decide) ?_
          show Steps p.tables e below (T78.setTop (mkF m 254 #[.val (.int kind), .val (.int a), .val (.int b), .val (.int d), .val (.int (5 : Int32)), .val (.int (2 : Int32)), .val (.ref bb), .val (.int ff), .val (.int (160 : Int32)), .val (.int (191 : Int32)), .unset] [])) _
          refine XS.iload X78.here hx rfl (hb hby at_254) rfl ?_
          show Steps p.tables e below (T78.setTop (mkF m 256 #[.val (.int kind), .val (.int a), .val (.int b), .val (.int d), .val (.int (5 : Int32)), .val (.int (2 : Int32)), .val (.ref bb), .val (.int ff), .val (.int (160 : Int32)), .val (.int (191 : Int32)), .unset] [(.int (160 : Int32))])) _
          refine XS.iloadN X78.here hx rfl (hb hby at_256) rfl ?_
          show Steps p.tables e below (T78.setTop (mkF m 257 #[.val (.int kind), .val (.int a), .val (.int b), .val (.int d), .val (.int (5 : Int32)), .val (.int (2 : Int32)), .val (.ref bb), .val (.int ff), .val (.int (160 : Int32)), .val (.int (191 : Int32)), .unset] [(.int b), (.int (160 : Int32))])) _
          refine X78.ldcInt hx hown (mvT hZ (hw _ (List.mem_of_getElem? (i := 0) rfl))) (g := (mkF m 257 #[.val (.int kind), .val (.int a), .val (.int b), .val (.int d), .val (.int (5 : Int32)), .val (.int (2 : Int32)), .val (.ref bb), .val (.int ff), .val (.int (160 : Int32)), .val (.int (191 : Int32)), .unset] [(.int b), (.int (160 : Int32))])) rfl (hb hby at_257) _ ?_
          show Steps p.tables e below (T78.setTop (mkF m 259 #[.val (.int kind), .val (.int a), .val (.int b), .val (.int d), .val (.int (5 : Int32)), .val (.int (2 : Int32)), .val (.ref bb), .val (.int ff), .val (.int (160 : Int32)), .val (.int (191 : Int32)), .unset] [(.int (2147483647 : Int32)), (.int b), (.int (160 : Int32))])) _
          refine XS.iand X78.here hx rfl (hb hby at_259) rfl ?_
          show Steps p.tables e below (T78.setTop (mkF m 260 #[.val (.int kind), .val (.int a), .val (.int b), .val (.int d), .val (.int (5 : Int32)), .val (.int (2 : Int32)), .val (.ref bb), .val (.int ff), .val (.int (160 : Int32)), .val (.int (191 : Int32)), .unset] [(.int (b &&& (2147483647 : Int32))), (.int (160 : Int32))])) _
          refine XS.iload X78.here hx rfl (hb hby at_260) rfl ?_
          show Steps p.tables e below (T78.setTop (mkF m 262 #[.val (.int kind), .val (.int a), .val (.int b), .val (.int d), .val (.int (5 : Int32)), .val (.int (2 : Int32)), .val (.ref bb), .val (.int ff), .val (.int (160 : Int32)), .val (.int (191 : Int32)), .unset] [(.int (191 : Int32)), (.int (b &&& (2147483647 : Int32))), (.int (160 : Int32))])) _
          refine XS.iload X78.here hx rfl (hb hby at_262) rfl ?_
          show Steps p.tables e below (T78.setTop (mkF m 264 #[.val (.int kind), .val (.int a), .val (.int b), .val (.int d), .val (.int (5 : Int32)), .val (.int (2 : Int32)), .val (.ref bb), .val (.int ff), .val (.int (160 : Int32)), .val (.int (191 : Int32)), .unset] [(.int (160 : Int32)), (.int (191 : Int32)), (.int (b &&& (2147483647 : Int32))), (.int (160 : Int32))])) _
          refine XS.isub X78.here hx rfl (hb hby at_264) rfl ?_
          show Steps p.tables e below (T78.setTop (mkF m 265 #[.val (.int kind), .val (.int a), .val (.int b), .val (.int d), .val (.int (5 : Int32)), .val (.int (2 : Int32)), .val (.ref bb), .val (.int ff), .val (.int (160 : Int32)), .val (.int (191 : Int32)), .unset] [(.int ((191 : Int32) - (160 : Int32))), (.int (b &&& (2147483647 : Int32))), (.int (160 : Int32))])) _
          refine XS.iconst X78.here hx rfl (hb hby at_265) ?_
          show Steps p.tables e below (T78.setTop (mkF m 266 #[.val (.int kind), .val (.int a), .val (.int b), .val (.int d), .val (.int (5 : Int32)), .val (.int (2 : Int32)), .val (.ref bb), .val (.int ff), .val (.int (160 : Int32)), .val (.int (191 : Int32)), .unset] [(.int (1 : Int32)), (.int ((191 : Int32) - (160 : Int32))), (.int (b &&& (2147483647 : Int32))), (.int (160 : Int32))])) _
          refine XS.iadd X78.here hx rfl (hb hby at_266) rfl ?_
          exact Steps.refl _)
        have c90 : Steps p.tables e below S0 (T78.setTop (mkF m 268 #[.val (.int kind), .val (.int a), .val (.int b), .val (.int d), .val (.int (5 : Int32)), .val (.int (2 : Int32)), .val (.ref bb), .val (.int ff), .val (.int (160 : Int32)), .val (.int (191 : Int32)), .unset] [(.int ((b &&& (2147483647 : Int32)) % (((191 : Int32) - (160 : Int32)) + (1 : Int32)))), (.int (160 : Int32))])) := c89.trans (by
          refine iremM X78 hx rfl (hb hby at_267) rfl (by decide) ?_
          exact Steps.refl _)
        have c91 : Steps p.tables e below S0 (T78.setTop (mkF m 269 #[.val (.int kind), .val (.int a), .val (.int b), .val (.int d), .val (.int (5 : Int32)), .val (.int (2 : Int32)), .val (.ref bb), .val (.int ff), .val (.int (160 : Int32)), .val (.int (191 : Int32)), .unset] [(.int ((160 : Int32) + ((b &&& (2147483647 : Int32)) % (((191 : Int32) - (160 : Int32)) + (1 : Int32)))))])) := c90.trans (by
          refine XS.iadd X78.here hx rfl (hb hby at_268) rfl ?_
          exact Steps.refl _)
        obtain ⟨ss, hss⟩ : ∃ z : Int32, z = ((160 : Int32) + ((b &&& (2147483647 : Int32)) % (((191 : Int32) - (160 : Int32)) + (1 : Int32)))) := ⟨_, rfl⟩
        rw [← hss] at c91
        have G := own_ss1 hss
        have c92 : Steps p.tables e below S0 (T78.setTop (mkF m 277 #[.val (.int kind), .val (.int a), .val (.int b), .val (.int d), .val (.int (5 : Int32)), .val (.int (2 : Int32)), .val (.ref bb), .val (.int ff), .val (.int (160 : Int32)), .val (.int (191 : Int32)), .val (.int ss)] [(.int (ff.toInt8.toInt32)), (.int (0 : Int32)), (.ref bb)])) := c91.trans (by
          refine XS.istore X78.here hx rfl (hb hby at_269) rfl (l' := #[.val (.int kind), .val (.int a), .val (.int b), .val (.int d), .val (.int (5 : Int32)), .val (.int (2 : Int32)), .val (.ref bb), .val (.int ff), .val (.int (160 : Int32)), .val (.int (191 : Int32)), .val (.int ss)]) rfl ?_
          show Steps p.tables e below (T78.setTop (mkF m 271 #[.val (.int kind), .val (.int a), .val (.int b), .val (.int d), .val (.int (5 : Int32)), .val (.int (2 : Int32)), .val (.ref bb), .val (.int ff), .val (.int (160 : Int32)), .val (.int (191 : Int32)), .val (.int ss)] [])) _
          refine XS.aload X78.here hx rfl (hb hby at_271) rfl rfl ?_
          show Steps p.tables e below (T78.setTop (mkF m 273 #[.val (.int kind), .val (.int a), .val (.int b), .val (.int d), .val (.int (5 : Int32)), .val (.int (2 : Int32)), .val (.ref bb), .val (.int ff), .val (.int (160 : Int32)), .val (.int (191 : Int32)), .val (.int ss)] [(.ref bb)])) _
          refine XS.iconst X78.here hx rfl (hb hby at_273) ?_
          show Steps p.tables e below (T78.setTop (mkF m 274 #[.val (.int kind), .val (.int a), .val (.int b), .val (.int d), .val (.int (5 : Int32)), .val (.int (2 : Int32)), .val (.ref bb), .val (.int ff), .val (.int (160 : Int32)), .val (.int (191 : Int32)), .val (.int ss)] [(.int (0 : Int32)), (.ref bb)])) _
          refine XS.iload X78.here hx rfl (hb hby at_274) rfl ?_
          show Steps p.tables e below (T78.setTop (mkF m 276 #[.val (.int kind), .val (.int a), .val (.int b), .val (.int d), .val (.int (5 : Int32)), .val (.int (2 : Int32)), .val (.ref bb), .val (.int ff), .val (.int (160 : Int32)), .val (.int (191 : Int32)), .val (.int ss)] [(.int ff), (.int (0 : Int32)), (.ref bb)])) _
          refine XS.i2b X78.here hx rfl (hb hby at_276) rfl ?_
          exact Steps.refl _)
        obtain ⟨cl93, Ac93, hcl93⟩ := B78
        obtain ⟨T94, h94, X94, e94, W94, st94⟩ := stB X78 hx hZ e78 Ac93 (j := (0 : Int32)) (by rw [hcl93]; exact own_in4 (by decide)) (g := (mkF m 277 #[.val (.int kind), .val (.int a), .val (.int b), .val (.int d), .val (.int (5 : Int32)), .val (.int (2 : Int32)), .val (.ref bb), .val (.int ff), .val (.int (160 : Int32)), .val (.int (191 : Int32)), .val (.int ss)] [(.int (ff.toInt8.toInt32)), (.int (0 : Int32)), (.ref bb)])) rfl rfl (hb hby at_277)
        have c95 : Steps p.tables e below S0 (T94.setTop (mkF m 278 #[.val (.int kind), .val (.int a), .val (.int b), .val (.int d), .val (.int (5 : Int32)), .val (.int (2 : Int32)), .val (.ref bb), .val (.int ff), .val (.int (160 : Int32)), .val (.int (191 : Int32)), .val (.int ss)] [])) := c92.trans (by
          refine st94 _ ?_
          exact Steps.refl _)
        have B94 : own_BA Z h94 bb (nar .byte (ff.toInt8.toInt32)) 0 0 0 := ⟨_, Ac93.same W94, by simp [Cell.setSlot, hcl93]⟩
        have N94 := Fr.snoc X94 N0 g_b
        have Z94 : n0 ≤ h94.size := by rw [W94.size]; exact Z78
        have c96 : Steps p.tables e below S0 (T94.setTop (mkF m 284 #[.val (.int kind), .val (.int a), .val (.int b), .val (.int d), .val (.int (5 : Int32)), .val (.int (2 : Int32)), .val (.ref bb), .val (.int ff), .val (.int (160 : Int32)), .val (.int (191 : Int32)), .val (.int ss)] [(.int (ss.toInt8.toInt32)), (.int (1 : Int32)), (.ref bb)])) := c95.trans (by
          refine XS.aload X94.here hx rfl (hb hby at_278) rfl rfl ?_
          show Steps p.tables e below (T94.setTop (mkF m 280 #[.val (.int kind), .val (.int a), .val (.int b), .val (.int d), .val (.int (5 : Int32)), .val (.int (2 : Int32)), .val (.ref bb), .val (.int ff), .val (.int (160 : Int32)), .val (.int (191 : Int32)), .val (.int ss)] [(.ref bb)])) _
          refine XS.iconst X94.here hx rfl (hb hby at_280) ?_
          show Steps p.tables e below (T94.setTop (mkF m 281 #[.val (.int kind), .val (.int a), .val (.int b), .val (.int d), .val (.int (5 : Int32)), .val (.int (2 : Int32)), .val (.ref bb), .val (.int ff), .val (.int (160 : Int32)), .val (.int (191 : Int32)), .val (.int ss)] [(.int (1 : Int32)), (.ref bb)])) _
          refine XS.iload X94.here hx rfl (hb hby at_281) rfl ?_
          show Steps p.tables e below (T94.setTop (mkF m 283 #[.val (.int kind), .val (.int a), .val (.int b), .val (.int d), .val (.int (5 : Int32)), .val (.int (2 : Int32)), .val (.ref bb), .val (.int ff), .val (.int (160 : Int32)), .val (.int (191 : Int32)), .val (.int ss)] [(.int ss), (.int (1 : Int32)), (.ref bb)])) _
          refine XS.i2b X94.here hx rfl (hb hby at_283) rfl ?_
          exact Steps.refl _)
        obtain ⟨cl97, Ac97, hcl97⟩ := B94
        obtain ⟨T98, h98, X98, e98, W98, st98⟩ := stB X94 hx hZ e94 Ac97 (j := (1 : Int32)) (by rw [hcl97]; exact own_in4 (by decide)) (g := (mkF m 284 #[.val (.int kind), .val (.int a), .val (.int b), .val (.int d), .val (.int (5 : Int32)), .val (.int (2 : Int32)), .val (.ref bb), .val (.int ff), .val (.int (160 : Int32)), .val (.int (191 : Int32)), .val (.int ss)] [(.int (ss.toInt8.toInt32)), (.int (1 : Int32)), (.ref bb)])) rfl rfl (hb hby at_284)
        have c99 : Steps p.tables e below S0 (T98.setTop (mkF m 285 #[.val (.int kind), .val (.int a), .val (.int b), .val (.int d), .val (.int (5 : Int32)), .val (.int (2 : Int32)), .val (.ref bb), .val (.int ff), .val (.int (160 : Int32)), .val (.int (191 : Int32)), .val (.int ss)] [])) := c96.trans (by
          refine st98 _ ?_
          exact Steps.refl _)
        have B98 : own_BA Z h98 bb (nar .byte (ff.toInt8.toInt32)) (nar .byte (ss.toInt8.toInt32)) 0 0 := ⟨_, Ac97.same W98, by simp [Cell.setSlot, hcl97]⟩
        have N98 := Fr.snoc X98 N94 g_b
        have Z98 : n0 ≤ h98.size := by rw [W98.size]; exact Z94
        have c100 : Steps p.tables e below S0 (T98.setTop (mkF m 288 #[.val (.int kind), .val (.int a), .val (.int b), .val (.int d), .val (.int (5 : Int32)), .val (.int (2 : Int32)), .val (.ref bb), .val (.int ff), .val (.int (160 : Int32)), .val (.int (191 : Int32)), .val (.int ss)] [(.int (3 : Int32)), (.int (2 : Int32))])) := c99.trans (by
          refine XS.iload X98.here hx rfl (hb hby at_285) rfl ?_
          show Steps p.tables e below (T98.setTop (mkF m 287 #[.val (.int kind), .val (.int a), .val (.int b), .val (.int d), .val (.int (5 : Int32)), .val (.int (2 : Int32)), .val (.ref bb), .val (.int ff), .val (.int (160 : Int32)), .val (.int (191 : Int32)), .val (.int ss)] [(.int (2 : Int32))])) _
          refine XS.iconst X98.here hx rfl (hb hby at_287) ?_
          exact Steps.refl _)
        have c101 : Steps p.tables e below S0 (T98.setTop (mkF m 304 #[.val (.int kind), .val (.int a), .val (.int b), .val (.int d), .val (.int (5 : Int32)), .val (.int (2 : Int32)), .val (.ref bb), .val (.int ff), .val (.int (160 : Int32)), .val (.int (191 : Int32)), .val (.int ss)] [])) := c100.trans (by
          refine XS.icmpYes X98.here hx rfl (pc0 := 288) (pc' := 304) rfl (hb hby at_288) rfl (feq (by decide)).2 (by decide) (by decide) ?_
          exact Steps.refl _)
        have c102 : Steps p.tables e below S0 (T98.setTop (mkF m 307 #[.val (.int kind), .val (.int a), .val (.int b), .val (.int d), .val (.int (5 : Int32)), .val (.int (2 : Int32)), .val (.ref bb), .val (.int ff), .val (.int (160 : Int32)), .val (.int (191 : Int32)), .val (.int ss)] [(.int (0 : Int32)), (.ref bb)])) := c101.trans (by
          refine XS.aload X98.here hx rfl (hb hby at_304) rfl rfl ?_
          show Steps p.tables e below (T98.setTop (mkF m 306 #[.val (.int kind), .val (.int a), .val (.int b), .val (.int d), .val (.int (5 : Int32)), .val (.int (2 : Int32)), .val (.ref bb), .val (.int ff), .val (.int (160 : Int32)), .val (.int (191 : Int32)), .val (.int ss)] [(.ref bb)])) _
          refine XS.iconst X98.here hx rfl (hb hby at_306) ?_
          exact Steps.refl _)
        have J := own_J1 hf224 G.1 G.2
        have hu : ¬ (((nar .byte (ff.toInt8.toInt32)) &&& 255) < 128) := own_f2u (by omega) F.2
        have hr : own_run ((nar .byte (ff.toInt8.toInt32)) &&& 255) ((nar .byte (ss.toInt8.toInt32)) &&& 255) (0 &&& 255) (0 &&& 255) = -2 := own_f2r F.1 F.2 J
        obtain ⟨_, _, ⟨T103, L103, k103, n103⟩, -, X103, ⟨Lc103, hQ103, l103, y103, z103⟩, st103⟩ := Jvm.LawKit.callS X98 hx (y := (⟨"com/example/coersa/coersa/Utf8", "characterAt", "([BI)I"⟩ : MethodName)) hown (mvT hZ (hw _ (List.mem_of_getElem? (i := 6) rfl))) (mvT hZ (hw _ (List.mem_of_getElem? (i := 7) rfl))) (mvT hZ (hw _ (List.mem_of_getElem? (i := 3) rfl))) (mvT hZ (hw _ (List.mem_of_getElem? (i := 8) rfl))) (by decide) (backOf (W := 0) (own_cat2 l Z a0 hw [] bb 0 (nar .byte (ff.toInt8.toInt32)) (nar .byte (ss.toInt8.toInt32)) 0 0 h98 n0 Z98 rfl B98 hu hr) hZ (hw _ (List.mem_of_getElem? (i := 8) rfl)) (hw _ (List.mem_of_getElem? (i := 3) rfl)) (by decide) (by decide)) (g := (mkF m 307 #[.val (.int kind), .val (.int a), .val (.int b), .val (.int d), .val (.int (5 : Int32)), .val (.int (2 : Int32)), .val (.ref bb), .val (.int ff), .val (.int (160 : Int32)), .val (.int (191 : Int32)), .val (.int ss)] [(.int (0 : Int32)), (.ref bb)])) rfl (by rw [hml]; rfl) (argsL := [(.ref bb), (.int (0 : Int32))]) (rest := []) (lenOf own_pd0 rfl) rfl (by show 2 * 0 + _ ≤ _; exact Nat.le_of_eq rfl) (hb hby at_307) (fun _ _ => ⟨rfl, e98, (Nat.le_of_ble_eq_true rfl), (Nat.le_of_ble_eq_true rfl)⟩)
        dsimp only [Pt.U, Pt.locs, Pt.cells, Pt.slots] at X103 l103 y103 z103 st103 hQ103
        subst l103 y103 z103
        obtain ⟨rfl, N103q, ec⟩ := hQ103
        have N103 := Fr.app N98 N103q
        have c104 : Steps p.tables e below S0 (T103.setTop (mkF m 310 #[.val (.int kind), .val (.int a), .val (.int b), .val (.int d), .val (.int (5 : Int32)), .val (.int (2 : Int32)), .val (.ref bb), .val (.int ff), .val (.int (160 : Int32)), .val (.int (191 : Int32)), .val (.int ss)] [(.int (own_ca2 (nar .byte (ff.toInt8.toInt32)) (nar .byte (ss.toInt8.toInt32)) 0))])) := c102.trans (by
          refine st103 _ ?_
          exact Steps.refl _)
        have Zc : n0 ≤ T103.heap.size := by rw [ec]; exact Z98
        obtain ⟨_, _, ⟨T105, L105, k105, n105⟩, -, X105, ⟨Lc105, hQ105, l105, y105, z105⟩, st105⟩ := Jvm.LawKit.callS X103 hx (y := (⟨"com/example/coersa/coersa/Utf8", "byteCount", "(I)I"⟩ : MethodName)) hown (mvT hZ (hw _ (List.mem_of_getElem? (i := 1) rfl))) (mvT hZ (hw _ (List.mem_of_getElem? (i := 2) rfl))) (mvT hZ (hw _ (List.mem_of_getElem? (i := 3) rfl))) (mvT hZ (hw _ (List.mem_of_getElem? (i := 4) rfl))) (by decide) (backOf (W := 0) (own_bct l Z a0 hw [] (own_ca2 (nar .byte (ff.toInt8.toInt32)) (nar .byte (ss.toInt8.toInt32)) 0) T103.heap n0 Zc) hZ (hw _ (List.mem_of_getElem? (i := 4) rfl)) (hw _ (List.mem_of_getElem? (i := 3) rfl)) (by decide) (by decide)) (g := (mkF m 310 #[.val (.int kind), .val (.int a), .val (.int b), .val (.int d), .val (.int (5 : Int32)), .val (.int (2 : Int32)), .val (.ref bb), .val (.int ff), .val (.int (160 : Int32)), .val (.int (191 : Int32)), .val (.int ss)] [(.int (own_ca2 (nar .byte (ff.toInt8.toInt32)) (nar .byte (ss.toInt8.toInt32)) 0))])) rfl (by rw [hml]; rfl) (argsL := [(.int (own_ca2 (nar .byte (ff.toInt8.toInt32)) (nar .byte (ss.toInt8.toInt32)) 0))]) (rest := []) (lenOf own_pd1 rfl) rfl (by show 2 * 0 + _ ≤ _; exact Nat.le_of_eq rfl) (hb hby at_310) (fun _ _ => ⟨rfl, rfl, (Nat.le_of_ble_eq_true rfl), (Nat.le_of_ble_eq_true rfl)⟩)
        dsimp only [Pt.U, Pt.locs, Pt.cells, Pt.slots] at X105 l105 y105 z105 st105 hQ105
        subst l105 y105 z105
        obtain ⟨rfl, N105q, eb⟩ := hQ105
        have N105 := Fr.app N103 N105q
        have c106 : Steps p.tables e below S0 (T105.setTop (mkF m 313 #[.val (.int kind), .val (.int a), .val (.int b), .val (.int d), .val (.int (5 : Int32)), .val (.int (2 : Int32)), .val (.ref bb), .val (.int ff), .val (.int (160 : Int32)), .val (.int (191 : Int32)), .val (.int ss)] [(.int (own_bc (own_ca2 (nar .byte (ff.toInt8.toInt32)) (nar .byte (ss.toInt8.toInt32)) 0)))])) := c104.trans (by
          refine st105 _ ?_
          exact Steps.refl _)
        have c107 : Steps p.tables e below S0 (T105.setTop (mkF m 315 #[.val (.int kind), .val (.int a), .val (.int b), .val (.int d), .val (.int (5 : Int32)), .val (.int (2 : Int32)), .val (.ref bb), .val (.int ff), .val (.int (160 : Int32)), .val (.int (191 : Int32)), .val (.int ss)] [(.int (2 : Int32)), (.int (own_bc (own_ca2 (nar .byte (ff.toInt8.toInt32)) (nar .byte (ss.toInt8.toInt32)) 0)))])) := c106.trans (by
          refine XS.iload X105.here hx rfl (hb hby at_313) rfl ?_
          exact Steps.refl _)
        have c108 : Steps p.tables e below S0 (T105.setTop (mkF m 318 #[.val (.int kind), .val (.int a), .val (.int b), .val (.int d), .val (.int (5 : Int32)), .val (.int (2 : Int32)), .val (.ref bb), .val (.int ff), .val (.int (160 : Int32)), .val (.int (191 : Int32)), .val (.int ss)] [])) := c107.trans (by
          refine XS.icmpNo X105.here hx rfl (hb hby at_315) rfl (teq (own_f2v F.1 F.2 _ _)).2 ?_
          exact Steps.refl _)
        have c109 : Steps p.tables e below S0 (T105.setTop (mkF m 323 #[.val (.int kind), .val (.int a), .val (.int b), .val (.int d), .val (.int (5 : Int32)), .val (.int (2 : Int32)), .val (.ref bb), .val (.int ff), .val (.int (160 : Int32)), .val (.int (191 : Int32)), .val (.int ss)] [(.int (1 : Int32))])) := c108.trans (by
          refine XS.iconst X105.here hx rfl (hb hby at_318) ?_
          show Steps p.tables e below (T105.setTop (mkF m 319 #[.val (.int kind), .val (.int a), .val (.int b), .val (.int d), .val (.int (5 : Int32)), .val (.int (2 : Int32)), .val (.ref bb), .val (.int ff), .val (.int (160 : Int32)), .val (.int (191 : Int32)), .val (.int ss)] [(.int (1 : Int32))])) _
          refine XS.goto X105.here hx rfl (pc0 := 319) (pc' := 323) rfl (hb hby at_319) (by decide) (by decide) ?_
          exact Steps.refl _)
        obtain ⟨fs, hr, hrun, hended, hW, hsame⟩ := X105.leave (v := some (.int (1 : Int32))) (fun h => by rw [Bd.returns] at h; cases h)
        exact ⟨_, _, c109.trans (retN X105 hx (t := .boolean) Bd.returns (by simp) (hb hby at_323) hr), hrun, hended, _, _, rfl, ⟨rfl, N105⟩, ⟨_, rfl⟩, hW, hsame.mono (by decide) (by decide)⟩
      · have c110 : Steps p.tables e below S0 (T78.setTop (mkF m 209 #[.val (.int kind), .val (.int a), .val (.int b), .val (.int d), .val (.int (5 : Int32)), .val (.int (2 : Int32)), .val (.ref bb), .val (.int ff), .val (.int (128 : Int32)), .val (.int (191 : Int32)), .unset] [])) := c87.trans (by
          refine XS.icmpYes X78.here hx rfl (pc0 := 198) (pc' := 209) rfl (hb hby at_198) rfl (feq hf224).2 (by decide) (by decide) ?_
          exact Steps.refl _)
        have c111 : Steps p.tables e below S0 (T78.setTop (mkF m 214 #[.val (.int kind), .val (.int a), .val (.int b), .val (.int d), .val (.int (5 : Int32)), .val (.int (2 : Int32)), .val (.ref bb), .val (.int ff), .val (.int (128 : Int32)), .val (.int (191 : Int32)), .unset] [(.int (237 : Int32)), (.int ff)])) := c110.trans (by
          refine XS.iload X78.here hx rfl (hb hby at_209) rfl ?_
          show Steps p.tables e below (T78.setTop (mkF m 211 #[.val (.int kind), .val (.int a), .val (.int b), .val (.int d), .val (.int (5 : Int32)), .val (.int (2 : Int32)), .val (.ref bb), .val (.int ff), .val (.int (128 : Int32)), .val (.int (191 : Int32)), .unset] [(.int ff)])) _
          refine XS.sipush X78.here hx rfl (hb hby at_211) ?_
          exact Steps.refl _)
        by_cases hf237 : ff = (237 : Int32)
        · have c112 : Steps p.tables e below S0 (T78.setTop (mkF m 217 #[.val (.int kind), .val (.int a), .val (.int b), .val (.int d), .val (.int (5 : Int32)), .val (.int (2 : Int32)), .val (.ref bb), .val (.int ff), .val (.int (128 : Int32)), .val (.int (191 : Int32)), .unset] [])) := c111.trans (by
            refine XS.icmpNo X78.here hx rfl (hb hby at_214) rfl (teq hf237).2 ?_
            exact Steps.refl _)
          have c113 : Steps p.tables e below S0 (T78.setTop (mkF m 267 #[.val (.int kind), .val (.int a), .val (.int b), .val (.int d), .val (.int (5 : Int32)), .val (.int (2 : Int32)), .val (.ref bb), .val (.int ff), .val (.int (128 : Int32)), .val (.int (159 : Int32)), .unset] [(.int (((159 : Int32) - (128 : Int32)) + (1 : Int32))), (.int (b &&& (2147483647 : Int32))), (.int (128 : Int32))])) := c112.trans (by
            refine XS.sipush X78.here hx rfl (hb hby at_217) ?_
            show Steps p.tables e below (T78.setTop (mkF m 220 #[.val (.int kind), .val (.int a), .val (.int b), .val (.int d), .val (.int (5 : Int32)), .val (.int (2 : Int32)), .val (.ref bb), .val (.int ff), .val (.int (128 : Int32)), .val (.int (191 : Int32)), .unset] [(.int (159 : Int32))])) _
            refine XS.istore X78.here hx rfl (hb hby at_220) rfl (l' := #[.val (.int kind), .val (.int a), .val (.int b), .val (.int d), .val (.int (5 : Int32)), .val (.int (2 : Int32)), .val (.ref bb), .val (.int ff), .val (.int (128 : Int32)), .val (.int (159 : Int32)), .unset]) rfl ?_
            show Steps p.tables e below (T78.setTop (mkF m 222 #[.val (.int kind), .val (.int a), .val (.int b), .val (.int d), .val (.int (5 : Int32)), .val (.int (2 : Int32)), .val (.ref bb), .val (.int ff), .val (.int (128 : Int32)), .val (.int (159 : Int32)), .unset] [])) _
            refine XS.goto X78.here hx rfl (pc0 := 222) (pc' := 254) rfl (hb hby at_222) (by decide) (by decide) ?_
            show Steps p.tables e below (T78.setTop (mkF m 254 #[.val (.int kind), .val (.int a), .val (.int b), .val (.int d), .val (.int (5 : Int32)), .val (.int (2 : Int32)), .val (.ref bb), .val (.int ff), .val (.int (128 : Int32)), .val (.int (159 : Int32)), .unset] [])) _
            refine XS.iload X78.here hx rfl (hb hby at_254) rfl ?_
            show Steps p.tables e below (T78.setTop (mkF m 256 #[.val (.int kind), .val (.int a), .val (.int b), .val (.int d), .val (.int (5 : Int32)), .val (.int (2 : Int32)), .val (.ref bb), .val (.int ff), .val (.int (128 : Int32)), .val (.int (159 : Int32)), .unset] [(.int (128 : Int32))])) _
            refine XS.iloadN X78.here hx rfl (hb hby at_256) rfl ?_
            show Steps p.tables e below (T78.setTop (mkF m 257 #[.val (.int kind), .val (.int a), .val (.int b), .val (.int d), .val (.int (5 : Int32)), .val (.int (2 : Int32)), .val (.ref bb), .val (.int ff), .val (.int (128 : Int32)), .val (.int (159 : Int32)), .unset] [(.int b), (.int (128 : Int32))])) _
            refine X78.ldcInt hx hown (mvT hZ (hw _ (List.mem_of_getElem? (i := 0) rfl))) (g := (mkF m 257 #[.val (.int kind), .val (.int a), .val (.int b), .val (.int d), .val (.int (5 : Int32)), .val (.int (2 : Int32)), .val (.ref bb), .val (.int ff), .val (.int (128 : Int32)), .val (.int (159 : Int32)), .unset] [(.int b), (.int (128 : Int32))])) rfl (hb hby at_257) _ ?_
            show Steps p.tables e below (T78.setTop (mkF m 259 #[.val (.int kind), .val (.int a), .val (.int b), .val (.int d), .val (.int (5 : Int32)), .val (.int (2 : Int32)), .val (.ref bb), .val (.int ff), .val (.int (128 : Int32)), .val (.int (159 : Int32)), .unset] [(.int (2147483647 : Int32)), (.int b), (.int (128 : Int32))])) _
            refine XS.iand X78.here hx rfl (hb hby at_259) rfl ?_
            show Steps p.tables e below (T78.setTop (mkF m 260 #[.val (.int kind), .val (.int a), .val (.int b), .val (.int d), .val (.int (5 : Int32)), .val (.int (2 : Int32)), .val (.ref bb), .val (.int ff), .val (.int (128 : Int32)), .val (.int (159 : Int32)), .unset] [(.int (b &&& (2147483647 : Int32))), (.int (128 : Int32))])) _
            refine XS.iload X78.here hx rfl (hb hby at_260) rfl ?_
            show Steps p.tables e below (T78.setTop (mkF m 262 #[.val (.int kind), .val (.int a), .val (.int b), .val (.int d), .val (.int (5 : Int32)), .val (.int (2 : Int32)), .val (.ref bb), .val (.int ff), .val (.int (128 : Int32)), .val (.int (159 : Int32)), .unset] [(.int (159 : Int32)), (.int (b &&& (2147483647 : Int32))), (.int (128 : Int32))])) _
            refine XS.iload X78.here hx rfl (hb hby at_262) rfl ?_
            show Steps p.tables e below (T78.setTop (mkF m 264 #[.val (.int kind), .val (.int a), .val (.int b), .val (.int d), .val (.int (5 : Int32)), .val (.int (2 : Int32)), .val (.ref bb), .val (.int ff), .val (.int (128 : Int32)), .val (.int (159 : Int32)), .unset] [(.int (128 : Int32)), (.int (159 : Int32)), (.int (b &&& (2147483647 : Int32))), (.int (128 : Int32))])) _
            refine XS.isub X78.here hx rfl (hb hby at_264) rfl ?_
            show Steps p.tables e below (T78.setTop (mkF m 265 #[.val (.int kind), .val (.int a), .val (.int b), .val (.int d), .val (.int (5 : Int32)), .val (.int (2 : Int32)), .val (.ref bb), .val (.int ff), .val (.int (128 : Int32)), .val (.int (159 : Int32)), .unset] [(.int ((159 : Int32) - (128 : Int32))), (.int (b &&& (2147483647 : Int32))), (.int (128 : Int32))])) _
            refine XS.iconst X78.here hx rfl (hb hby at_265) ?_
            show Steps p.tables e below (T78.setTop (mkF m 266 #[.val (.int kind), .val (.int a), .val (.int b), .val (.int d), .val (.int (5 : Int32)), .val (.int (2 : Int32)), .val (.ref bb), .val (.int ff), .val (.int (128 : Int32)), .val (.int (159 : Int32)), .unset] [(.int (1 : Int32)), (.int ((159 : Int32) - (128 : Int32))), (.int (b &&& (2147483647 : Int32))), (.int (128 : Int32))])) _
            refine XS.iadd X78.here hx rfl (hb hby at_266) rfl ?_
            exact Steps.refl _)
          have c114 : Steps p.tables e below S0 (T78.setTop (mkF m 268 #[.val (.int kind), .val (.int a), .val (.int b), .val (.int d), .val (.int (5 : Int32)), .val (.int (2 : Int32)), .val (.ref bb), .val (.int ff), .val (.int (128 : Int32)), .val (.int (159 : Int32)), .unset] [(.int ((b &&& (2147483647 : Int32)) % (((159 : Int32) - (128 : Int32)) + (1 : Int32)))), (.int (128 : Int32))])) := c113.trans (by
            refine iremM X78 hx rfl (hb hby at_267) rfl (by decide) ?_
            exact Steps.refl _)
          have c115 : Steps p.tables e below S0 (T78.setTop (mkF m 269 #[.val (.int kind), .val (.int a), .val (.int b), .val (.int d), .val (.int (5 : Int32)), .val (.int (2 : Int32)), .val (.ref bb), .val (.int ff), .val (.int (128 : Int32)), .val (.int (159 : Int32)), .unset] [(.int ((128 : Int32) + ((b &&& (2147483647 : Int32)) % (((159 : Int32) - (128 : Int32)) + (1 : Int32)))))])) := c114.trans (by
            refine XS.iadd X78.here hx rfl (hb hby at_268) rfl ?_
            exact Steps.refl _)
          obtain ⟨ss, hss⟩ : ∃ z : Int32, z = ((128 : Int32) + ((b &&& (2147483647 : Int32)) % (((159 : Int32) - (128 : Int32)) + (1 : Int32)))) := ⟨_, rfl⟩
          rw [← hss] at c115
          have G := own_ss2 hss
          have c116 : Steps p.tables e below S0 (T78.setTop (mkF m 277 #[.val (.int kind), .val (.int a), .val (.int b), .val (.int d), .val (.int (5 : Int32)), .val (.int (2 : Int32)), .val (.ref bb), .val (.int ff), .val (.int (128 : Int32)), .val (.int (159 : Int32)), .val (.int ss)] [(.int (ff.toInt8.toInt32)), (.int (0 : Int32)), (.ref bb)])) := c115.trans (by
            refine XS.istore X78.here hx rfl (hb hby at_269) rfl (l' := #[.val (.int kind), .val (.int a), .val (.int b), .val (.int d), .val (.int (5 : Int32)), .val (.int (2 : Int32)), .val (.ref bb), .val (.int ff), .val (.int (128 : Int32)), .val (.int (159 : Int32)), .val (.int ss)]) rfl ?_
            show Steps p.tables e below (T78.setTop (mkF m 271 #[.val (.int kind), .val (.int a), .val (.int b), .val (.int d), .val (.int (5 : Int32)), .val (.int (2 : Int32)), .val (.ref bb), .val (.int ff), .val (.int (128 : Int32)), .val (.int (159 : Int32)), .val (.int ss)] [])) _
            refine XS.aload X78.here hx rfl (hb hby at_271) rfl rfl ?_
            show Steps p.tables e below (T78.setTop (mkF m 273 #[.val (.int kind), .val (.int a), .val (.int b), .val (.int d), .val (.int (5 : Int32)), .val (.int (2 : Int32)), .val (.ref bb), .val (.int ff), .val (.int (128 : Int32)), .val (.int (159 : Int32)), .val (.int ss)] [(.ref bb)])) _
            refine XS.iconst X78.here hx rfl (hb hby at_273) ?_
            show Steps p.tables e below (T78.setTop (mkF m 274 #[.val (.int kind), .val (.int a), .val (.int b), .val (.int d), .val (.int (5 : Int32)), .val (.int (2 : Int32)), .val (.ref bb), .val (.int ff), .val (.int (128 : Int32)), .val (.int (159 : Int32)), .val (.int ss)] [(.int (0 : Int32)), (.ref bb)])) _
            refine XS.iload X78.here hx rfl (hb hby at_274) rfl ?_
            show Steps p.tables e below (T78.setTop (mkF m 276 #[.val (.int kind), .val (.int a), .val (.int b), .val (.int d), .val (.int (5 : Int32)), .val (.int (2 : Int32)), .val (.ref bb), .val (.int ff), .val (.int (128 : Int32)), .val (.int (159 : Int32)), .val (.int ss)] [(.int ff), (.int (0 : Int32)), (.ref bb)])) _
            refine XS.i2b X78.here hx rfl (hb hby at_276) rfl ?_
            exact Steps.refl _)
          obtain ⟨cl117, Ac117, hcl117⟩ := B78
          obtain ⟨T118, h118, X118, e118, W118, st118⟩ := stB X78 hx hZ e78 Ac117 (j := (0 : Int32)) (by rw [hcl117]; exact own_in4 (by decide)) (g := (mkF m 277 #[.val (.int kind), .val (.int a), .val (.int b), .val (.int d), .val (.int (5 : Int32)), .val (.int (2 : Int32)), .val (.ref bb), .val (.int ff), .val (.int (128 : Int32)), .val (.int (159 : Int32)), .val (.int ss)] [(.int (ff.toInt8.toInt32)), (.int (0 : Int32)), (.ref bb)])) rfl rfl (hb hby at_277)
          have c119 : Steps p.tables e below S0 (T118.setTop (mkF m 278 #[.val (.int kind), .val (.int a), .val (.int b), .val (.int d), .val (.int (5 : Int32)), .val (.int (2 : Int32)), .val (.ref bb), .val (.int ff), .val (.int (128 : Int32)), .val (.int (159 : Int32)), .val (.int ss)] [])) := c116.trans (by
            refine st118 _ ?_
            exact Steps.refl _)
          have B118 : own_BA Z h118 bb (nar .byte (ff.toInt8.toInt32)) 0 0 0 := ⟨_, Ac117.same W118, by simp [Cell.setSlot, hcl117]⟩
          have N118 := Fr.snoc X118 N0 g_b
          have Z118 : n0 ≤ h118.size := by rw [W118.size]; exact Z78
          have c120 : Steps p.tables e below S0 (T118.setTop (mkF m 284 #[.val (.int kind), .val (.int a), .val (.int b), .val (.int d), .val (.int (5 : Int32)), .val (.int (2 : Int32)), .val (.ref bb), .val (.int ff), .val (.int (128 : Int32)), .val (.int (159 : Int32)), .val (.int ss)] [(.int (ss.toInt8.toInt32)), (.int (1 : Int32)), (.ref bb)])) := c119.trans (by
            refine XS.aload X118.here hx rfl (hb hby at_278) rfl rfl ?_
            show Steps p.tables e below (T118.setTop (mkF m 280 #[.val (.int kind), .val (.int a), .val (.int b), .val (.int d), .val (.int (5 : Int32)), .val (.int (2 : Int32)), .val (.ref bb), .val (.int ff), .val (.int (128 : Int32)), .val (.int (159 : Int32)), .val (.int ss)] [(.ref bb)])) _
            refine XS.iconst X118.here hx rfl (hb hby at_280) ?_
            show Steps p.tables e below (T118.setTop (mkF m 281 #[.val (.int kind), .val (.int a), .val (.int b), .val (.int d), .val (.int (5 : Int32)), .val (.int (2 : Int32)), .val (.ref bb), .val (.int ff), .val (.int (128 : Int32)), .val (.int (159 : Int32)), .val (.int ss)] [(.int (1 : Int32)), (.ref bb)])) _
            refine XS.iload X118.here hx rfl (hb hby at_281) rfl ?_
            show Steps p.tables e below (T118.setTop (mkF m 283 #[.val (.int kind), .val (.int a), .val (.int b), .val (.int d), .val (.int (5 : Int32)), .val (.int (2 : Int32)), .val (.ref bb), .val (.int ff), .val (.int (128 : Int32)), .val (.int (159 : Int32)), .val (.int ss)] [(.int ss), (.int (1 : Int32)), (.ref bb)])) _
            refine XS.i2b X118.here hx rfl (hb hby at_283) rfl ?_
            exact Steps.refl _)
          obtain ⟨cl121, Ac121, hcl121⟩ := B118
          obtain ⟨T122, h122, X122, e122, W122, st122⟩ := stB X118 hx hZ e118 Ac121 (j := (1 : Int32)) (by rw [hcl121]; exact own_in4 (by decide)) (g := (mkF m 284 #[.val (.int kind), .val (.int a), .val (.int b), .val (.int d), .val (.int (5 : Int32)), .val (.int (2 : Int32)), .val (.ref bb), .val (.int ff), .val (.int (128 : Int32)), .val (.int (159 : Int32)), .val (.int ss)] [(.int (ss.toInt8.toInt32)), (.int (1 : Int32)), (.ref bb)])) rfl rfl (hb hby at_284)
          have c123 : Steps p.tables e below S0 (T122.setTop (mkF m 285 #[.val (.int kind), .val (.int a), .val (.int b), .val (.int d), .val (.int (5 : Int32)), .val (.int (2 : Int32)), .val (.ref bb), .val (.int ff), .val (.int (128 : Int32)), .val (.int (159 : Int32)), .val (.int ss)] [])) := c120.trans (by
            refine st122 _ ?_
            exact Steps.refl _)
          have B122 : own_BA Z h122 bb (nar .byte (ff.toInt8.toInt32)) (nar .byte (ss.toInt8.toInt32)) 0 0 := ⟨_, Ac121.same W122, by simp [Cell.setSlot, hcl121]⟩
          have N122 := Fr.snoc X122 N118 g_b
          have Z122 : n0 ≤ h122.size := by rw [W122.size]; exact Z118
          have c124 : Steps p.tables e below S0 (T122.setTop (mkF m 288 #[.val (.int kind), .val (.int a), .val (.int b), .val (.int d), .val (.int (5 : Int32)), .val (.int (2 : Int32)), .val (.ref bb), .val (.int ff), .val (.int (128 : Int32)), .val (.int (159 : Int32)), .val (.int ss)] [(.int (3 : Int32)), (.int (2 : Int32))])) := c123.trans (by
            refine XS.iload X122.here hx rfl (hb hby at_285) rfl ?_
            show Steps p.tables e below (T122.setTop (mkF m 287 #[.val (.int kind), .val (.int a), .val (.int b), .val (.int d), .val (.int (5 : Int32)), .val (.int (2 : Int32)), .val (.ref bb), .val (.int ff), .val (.int (128 : Int32)), .val (.int (159 : Int32)), .val (.int ss)] [(.int (2 : Int32))])) _
            refine XS.iconst X122.here hx rfl (hb hby at_287) ?_
            exact Steps.refl _)
          have c125 : Steps p.tables e below S0 (T122.setTop (mkF m 304 #[.val (.int kind), .val (.int a), .val (.int b), .val (.int d), .val (.int (5 : Int32)), .val (.int (2 : Int32)), .val (.ref bb), .val (.int ff), .val (.int (128 : Int32)), .val (.int (159 : Int32)), .val (.int ss)] [])) := c124.trans (by
            refine XS.icmpYes X122.here hx rfl (pc0 := 288) (pc' := 304) rfl (hb hby at_288) rfl (feq (by decide)).2 (by decide) (by decide) ?_
            exact Steps.refl _)
          have c126 : Steps p.tables e below S0 (T122.setTop (mkF m 307 #[.val (.int kind), .val (.int a), .val (.int b), .val (.int d), .val (.int (5 : Int32)), .val (.int (2 : Int32)), .val (.ref bb), .val (.int ff), .val (.int (128 : Int32)), .val (.int (159 : Int32)), .val (.int ss)] [(.int (0 : Int32)), (.ref bb)])) := c125.trans (by
            refine XS.aload X122.here hx rfl (hb hby at_304) rfl rfl ?_
            show Steps p.tables e below (T122.setTop (mkF m 306 #[.val (.int kind), .val (.int a), .val (.int b), .val (.int d), .val (.int (5 : Int32)), .val (.int (2 : Int32)), .val (.ref bb), .val (.int ff), .val (.int (128 : Int32)), .val (.int (159 : Int32)), .val (.int ss)] [(.ref bb)])) _
            refine XS.iconst X122.here hx rfl (hb hby at_306) ?_
            exact Steps.refl _)
          have J := own_J2 hf237 G.1 G.2
          have hu : ¬ (((nar .byte (ff.toInt8.toInt32)) &&& 255) < 128) := own_f2u (by omega) F.2
          have hr : own_run ((nar .byte (ff.toInt8.toInt32)) &&& 255) ((nar .byte (ss.toInt8.toInt32)) &&& 255) (0 &&& 255) (0 &&& 255) = -2 := own_f2r F.1 F.2 J
          obtain ⟨_, _, ⟨T127, L127, k127, n127⟩, -, X127, ⟨Lc127, hQ127, l127, y127, z127⟩, st127⟩ := Jvm.LawKit.callS X122 hx (y := (⟨"com/example/coersa/coersa/Utf8", "characterAt", "([BI)I"⟩ : MethodName)) hown (mvT hZ (hw _ (List.mem_of_getElem? (i := 6) rfl))) (mvT hZ (hw _ (List.mem_of_getElem? (i := 7) rfl))) (mvT hZ (hw _ (List.mem_of_getElem? (i := 3) rfl))) (mvT hZ (hw _ (List.mem_of_getElem? (i := 8) rfl))) (by decide) (backOf (W := 0) (own_cat2 l Z a0 hw [] bb 0 (nar .byte (ff.toInt8.toInt32)) (nar .byte (ss.toInt8.toInt32)) 0 0 h122 n0 Z122 rfl B122 hu hr) hZ (hw _ (List.mem_of_getElem? (i := 8) rfl)) (hw _ (List.mem_of_getElem? (i := 3) rfl)) (by decide) (by decide)) (g := (mkF m 307 #[.val (.int kind), .val (.int a), .val (.int b), .val (.int d), .val (.int (5 : Int32)), .val (.int (2 : Int32)), .val (.ref bb), .val (.int ff), .val (.int (128 : Int32)), .val (.int (159 : Int32)), .val (.int ss)] [(.int (0 : Int32)), (.ref bb)])) rfl (by rw [hml]; rfl) (argsL := [(.ref bb), (.int (0 : Int32))]) (rest := []) (lenOf own_pd0 rfl) rfl (by show 2 * 0 + _ ≤ _; exact Nat.le_of_eq rfl) (hb hby at_307) (fun _ _ => ⟨rfl, e122, (Nat.le_of_ble_eq_true rfl), (Nat.le_of_ble_eq_true rfl)⟩)
          dsimp only [Pt.U, Pt.locs, Pt.cells, Pt.slots] at X127 l127 y127 z127 st127 hQ127
          subst l127 y127 z127
          obtain ⟨rfl, N127q, ec⟩ := hQ127
          have N127 := Fr.app N122 N127q
          have c128 : Steps p.tables e below S0 (T127.setTop (mkF m 310 #[.val (.int kind), .val (.int a), .val (.int b), .val (.int d), .val (.int (5 : Int32)), .val (.int (2 : Int32)), .val (.ref bb), .val (.int ff), .val (.int (128 : Int32)), .val (.int (159 : Int32)), .val (.int ss)] [(.int (own_ca2 (nar .byte (ff.toInt8.toInt32)) (nar .byte (ss.toInt8.toInt32)) 0))])) := c126.trans (by
            refine st127 _ ?_
            exact Steps.refl _)
          have Zc : n0 ≤ T127.heap.size := by rw [ec]; exact Z122
          obtain ⟨_, _, ⟨T129, L129, k129, n129⟩, -, X129, ⟨Lc129, hQ129, l129, y129, z129⟩, st129⟩ := Jvm.LawKit.callS X127 hx (y := (⟨"com/example/coersa/coersa/Utf8", "byteCount", "(I)I"⟩ : MethodName)) hown (mvT hZ (hw _ (List.mem_of_getElem? (i := 1) rfl))) (mvT hZ (hw _ (List.mem_of_getElem? (i := 2) rfl))) (mvT hZ (hw _ (List.mem_of_getElem? (i := 3) rfl))) (mvT hZ (hw _ (List.mem_of_getElem? (i := 4) rfl))) (by decide) (backOf (W := 0) (own_bct l Z a0 hw [] (own_ca2 (nar .byte (ff.toInt8.toInt32)) (nar .byte (ss.toInt8.toInt32)) 0) T127.heap n0 Zc) hZ (hw _ (List.mem_of_getElem? (i := 4) rfl)) (hw _ (List.mem_of_getElem? (i := 3) rfl)) (by decide) (by decide)) (g := (mkF m 310 #[.val (.int kind), .val (.int a), .val (.int b), .val (.int d), .val (.int (5 : Int32)), .val (.int (2 : Int32)), .val (.ref bb), .val (.int ff), .val (.int (128 : Int32)), .val (.int (159 : Int32)), .val (.int ss)] [(.int (own_ca2 (nar .byte (ff.toInt8.toInt32)) (nar .byte (ss.toInt8.toInt32)) 0))])) rfl (by rw [hml]; rfl) (argsL := [(.int (own_ca2 (nar .byte (ff.toInt8.toInt32)) (nar .byte (ss.toInt8.toInt32)) 0))]) (rest := []) (lenOf own_pd1 rfl) rfl (by show 2 * 0 + _ ≤ _; exact Nat.le_of_eq rfl) (hb hby at_310) (fun _ _ => ⟨rfl, rfl, (Nat.le_of_ble_eq_true rfl), (Nat.le_of_ble_eq_true rfl)⟩)
          dsimp only [Pt.U, Pt.locs, Pt.cells, Pt.slots] at X129 l129 y129 z129 st129 hQ129
          subst l129 y129 z129
          obtain ⟨rfl, N129q, eb⟩ := hQ129
          have N129 := Fr.app N127 N129q
          have c130 : Steps p.tables e below S0 (T129.setTop (mkF m 313 #[.val (.int kind), .val (.int a), .val (.int b), .val (.int d), .val (.int (5 : Int32)), .val (.int (2 : Int32)), .val (.ref bb), .val (.int ff), .val (.int (128 : Int32)), .val (.int (159 : Int32)), .val (.int ss)] [(.int (own_bc (own_ca2 (nar .byte (ff.toInt8.toInt32)) (nar .byte (ss.toInt8.toInt32)) 0)))])) := c128.trans (by
            refine st129 _ ?_
            exact Steps.refl _)
          have c131 : Steps p.tables e below S0 (T129.setTop (mkF m 315 #[.val (.int kind), .val (.int a), .val (.int b), .val (.int d), .val (.int (5 : Int32)), .val (.int (2 : Int32)), .val (.ref bb), .val (.int ff), .val (.int (128 : Int32)), .val (.int (159 : Int32)), .val (.int ss)] [(.int (2 : Int32)), (.int (own_bc (own_ca2 (nar .byte (ff.toInt8.toInt32)) (nar .byte (ss.toInt8.toInt32)) 0)))])) := c130.trans (by
            refine XS.iload X129.here hx rfl (hb hby at_313) rfl ?_
            exact Steps.refl _)
          have c132 : Steps p.tables e below S0 (T129.setTop (mkF m 318 #[.val (.int kind), .val (.int a), .val (.int b), .val (.int d), .val (.int (5 : Int32)), .val (.int (2 : Int32)), .val (.ref bb), .val (.int ff), .val (.int (128 : Int32)), .val (.int (159 : Int32)), .val (.int ss)] [])) := c131.trans (by
            refine XS.icmpNo X129.here hx rfl (hb hby at_315) rfl (teq (own_f2v F.1 F.2 _ _)).2 ?_
            exact Steps.refl _)
          have c133 : Steps p.tables e below S0 (T129.setTop (mkF m 323 #[.val (.int kind), .val (.int a), .val (.int b), .val (.int d), .val (.int (5 : Int32)), .val (.int (2 : Int32)), .val (.ref bb), .val (.int ff), .val (.int (128 : Int32)), .val (.int (159 : Int32)), .val (.int ss)] [(.int (1 : Int32))])) := c132.trans (by
            refine XS.iconst X129.here hx rfl (hb hby at_318) ?_
            show Steps p.tables e below (T129.setTop (mkF m 319 #[.val (.int kind), .val (.int a), .val (.int b), .val (.int d), .val (.int (5 : Int32)), .val (.int (2 : Int32)), .val (.ref bb), .val (.int ff), .val (.int (128 : Int32)), .val (.int (159 : Int32)), .val (.int ss)] [(.int (1 : Int32))])) _
            refine XS.goto X129.here hx rfl (pc0 := 319) (pc' := 323) rfl (hb hby at_319) (by decide) (by decide) ?_
            exact Steps.refl _)
          obtain ⟨fs, hr, hrun, hended, hW, hsame⟩ := X129.leave (v := some (.int (1 : Int32))) (fun h => by rw [Bd.returns] at h; cases h)
          exact ⟨_, _, c133.trans (retN X129 hx (t := .boolean) Bd.returns (by simp) (hb hby at_323) hr), hrun, hended, _, _, rfl, ⟨rfl, N129⟩, ⟨_, rfl⟩, hW, hsame.mono (by decide) (by decide)⟩
        · have c134 : Steps p.tables e below S0 (T78.setTop (mkF m 225 #[.val (.int kind), .val (.int a), .val (.int b), .val (.int d), .val (.int (5 : Int32)), .val (.int (2 : Int32)), .val (.ref bb), .val (.int ff), .val (.int (128 : Int32)), .val (.int (191 : Int32)), .unset] [])) := c111.trans (by
            refine XS.icmpYes X78.here hx rfl (pc0 := 214) (pc' := 225) rfl (hb hby at_214) rfl (feq hf237).2 (by decide) (by decide) ?_
            exact Steps.refl _)
          have c135 : Steps p.tables e below S0 (T78.setTop (mkF m 230 #[.val (.int kind), .val (.int a), .val (.int b), .val (.int d), .val (.int (5 : Int32)), .val (.int (2 : Int32)), .val (.ref bb), .val (.int ff), .val (.int (128 : Int32)), .val (.int (191 : Int32)), .unset] [(.int (240 : Int32)), (.int ff)])) := c134.trans (by
            refine XS.iload X78.here hx rfl (hb hby at_225) rfl ?_
            show Steps p.tables e below (T78.setTop (mkF m 227 #[.val (.int kind), .val (.int a), .val (.int b), .val (.int d), .val (.int (5 : Int32)), .val (.int (2 : Int32)), .val (.ref bb), .val (.int ff), .val (.int (128 : Int32)), .val (.int (191 : Int32)), .unset] [(.int ff)])) _
            refine XS.sipush X78.here hx rfl (hb hby at_227) ?_
            exact Steps.refl _)
          by_cases hf240 : ff = (240 : Int32)
          · have c136 : Steps p.tables e below S0 (T78.setTop (mkF m 233 #[.val (.int kind), .val (.int a), .val (.int b), .val (.int d), .val (.int (5 : Int32)), .val (.int (2 : Int32)), .val (.ref bb), .val (.int ff), .val (.int (128 : Int32)), .val (.int (191 : Int32)), .unset] [])) := c135.trans (by
              refine XS.icmpNo X78.here hx rfl (hb hby at_230) rfl (teq hf240).2 ?_
              exact Steps.refl _)
            have c137 : Steps p.tables e below S0 (T78.setTop (mkF m 267 #[.val (.int kind), .val (.int a), .val (.int b), .val (.int d), .val (.int (5 : Int32)), .val (.int (2 : Int32)), .val (.ref bb), .val (.int ff), .val (.int (144 : Int32)), .val (.int (191 : Int32)), .unset] [(.int (((191 : Int32) - (144 : Int32)) + (1 : Int32))), (.int (b &&& (2147483647 : Int32))), (.int (144 : Int32))])) := c136.trans (by
              refine XS.sipush X78.here hx rfl (hb hby at_233) ?_
              show Steps p.tables e below (T78.setTop (mkF m 236 #[.val (.int kind), .val (.int a), .val (.int b), .val (.int d), .val (.int (5 : Int32)), .val (.int (2 : Int32)), .val (.ref bb), .val (.int ff), .val (.int (128 : Int32)), .val (.int (191 : Int32)), .unset] [(.int (144 : Int32))])) _
              refine XS.istore X78.here hx rfl (hb hby at_236) rfl (l' := #[.val (.int kind), .val (.int a), .val (.int b), .val (.int d), .val (.int (5 : Int32)), .val (.int (2 : Int32)), .val (.ref bb), .val (.int ff), .val (.int (144 : Int32)), .val (.int (191 : Int32)), .unset]) rfl ?_
              show Steps p.tables e below (T78.setTop (mkF m 238 #[.val (.int kind), .val (.int a), .val (.int b), .val (.int d), .val (.int (5 : Int32)), .val (.int (2 : Int32)), .val (.ref bb), .val (.int ff), .val (.int (144 : Int32)), .val (.int (191 : Int32)), .unset] [])) _
              refine XS.goto X78.here hx rfl (pc0 := 238) (pc' := 254) rfl (hb hby at_238) (by decide) (by decide) ?_
              show Steps p.tables e below (T78.setTop (mkF m 254 #[.val (.int kind), .val (.int a), .val (.int b), .val (.int d), .val (.int (5 : Int32)), .val (.int (2 : Int32)), .val (.ref bb), .val (.int ff), .val (.int (144 : Int32)), .val (.int (191 : Int32)), .unset] [])) _
              refine XS.iload X78.here hx rfl (hb hby at_254) rfl ?_
              show Steps p.tables e below (T78.setTop (mkF m 256 #[.val (.int kind), .val (.int a), .val (.int b), .val (.int d), .val (.int (5 : Int32)), .val (.int (2 : Int32)), .val (.ref bb), .val (.int ff), .val (.int (144 : Int32)), .val (.int (191 : Int32)), .unset] [(.int (144 : Int32))])) _
              refine XS.iloadN X78.here hx rfl (hb hby at_256) rfl ?_
              show Steps p.tables e below (T78.setTop (mkF m 257 #[.val (.int kind), .val (.int a), .val (.int b), .val (.int d), .val (.int (5 : Int32)), .val (.int (2 : Int32)), .val (.ref bb), .val (.int ff), .val (.int (144 : Int32)), .val (.int (191 : Int32)), .unset] [(.int b), (.int (144 : Int32))])) _
              refine X78.ldcInt hx hown (mvT hZ (hw _ (List.mem_of_getElem? (i := 0) rfl))) (g := (mkF m 257 #[.val (.int kind), .val (.int a), .val (.int b), .val (.int d), .val (.int (5 : Int32)), .val (.int (2 : Int32)), .val (.ref bb), .val (.int ff), .val (.int (144 : Int32)), .val (.int (191 : Int32)), .unset] [(.int b), (.int (144 : Int32))])) rfl (hb hby at_257) _ ?_
              show Steps p.tables e below (T78.setTop (mkF m 259 #[.val (.int kind), .val (.int a), .val (.int b), .val (.int d), .val (.int (5 : Int32)), .val (.int (2 : Int32)), .val (.ref bb), .val (.int ff), .val (.int (144 : Int32)), .val (.int (191 : Int32)), .unset] [(.int (2147483647 : Int32)), (.int b), (.int (144 : Int32))])) _
              refine XS.iand X78.here hx rfl (hb hby at_259) rfl ?_
              show Steps p.tables e below (T78.setTop (mkF m 260 #[.val (.int kind), .val (.int a), .val (.int b), .val (.int d), .val (.int (5 : Int32)), .val (.int (2 : Int32)), .val (.ref bb), .val (.int ff), .val (.int (144 : Int32)), .val (.int (191 : Int32)), .unset] [(.int (b &&& (2147483647 : Int32))), (.int (144 : Int32))])) _
              refine XS.iload X78.here hx rfl (hb hby at_260) rfl ?_
              show Steps p.tables e below (T78.setTop (mkF m 262 #[.val (.int kind), .val (.int a), .val (.int b), .val (.int d), .val (.int (5 : Int32)), .val (.int (2 : Int32)), .val (.ref bb), .val (.int ff), .val (.int (144 : Int32)), .val (.int (191 : Int32)), .unset] [(.int (191 : Int32)), (.int (b &&& (2147483647 : Int32))), (.int (144 : Int32))])) _
              refine XS.iload X78.here hx rfl (hb hby at_262) rfl ?_
              show Steps p.tables e below (T78.setTop (mkF m 264 #[.val (.int kind), .val (.int a), .val (.int b), .val (.int d), .val (.int (5 : Int32)), .val (.int (2 : Int32)), .val (.ref bb), .val (.int ff), .val (.int (144 : Int32)), .val (.int (191 : Int32)), .unset] [(.int (144 : Int32)), (.int (191 : Int32)), (.int (b &&& (2147483647 : Int32))), (.int (144 : Int32))])) _
              refine XS.isub X78.here hx rfl (hb hby at_264) rfl ?_
              show Steps p.tables e below (T78.setTop (mkF m 265 #[.val (.int kind), .val (.int a), .val (.int b), .val (.int d), .val (.int (5 : Int32)), .val (.int (2 : Int32)), .val (.ref bb), .val (.int ff), .val (.int (144 : Int32)), .val (.int (191 : Int32)), .unset] [(.int ((191 : Int32) - (144 : Int32))), (.int (b &&& (2147483647 : Int32))), (.int (144 : Int32))])) _
              refine XS.iconst X78.here hx rfl (hb hby at_265) ?_
              show Steps p.tables e below (T78.setTop (mkF m 266 #[.val (.int kind), .val (.int a), .val (.int b), .val (.int d), .val (.int (5 : Int32)), .val (.int (2 : Int32)), .val (.ref bb), .val (.int ff), .val (.int (144 : Int32)), .val (.int (191 : Int32)), .unset] [(.int (1 : Int32)), (.int ((191 : Int32) - (144 : Int32))), (.int (b &&& (2147483647 : Int32))), (.int (144 : Int32))])) _
              refine XS.iadd X78.here hx rfl (hb hby at_266) rfl ?_
              exact Steps.refl _)
            have c138 : Steps p.tables e below S0 (T78.setTop (mkF m 268 #[.val (.int kind), .val (.int a), .val (.int b), .val (.int d), .val (.int (5 : Int32)), .val (.int (2 : Int32)), .val (.ref bb), .val (.int ff), .val (.int (144 : Int32)), .val (.int (191 : Int32)), .unset] [(.int ((b &&& (2147483647 : Int32)) % (((191 : Int32) - (144 : Int32)) + (1 : Int32)))), (.int (144 : Int32))])) := c137.trans (by
              refine iremM X78 hx rfl (hb hby at_267) rfl (by decide) ?_
              exact Steps.refl _)
            have c139 : Steps p.tables e below S0 (T78.setTop (mkF m 269 #[.val (.int kind), .val (.int a), .val (.int b), .val (.int d), .val (.int (5 : Int32)), .val (.int (2 : Int32)), .val (.ref bb), .val (.int ff), .val (.int (144 : Int32)), .val (.int (191 : Int32)), .unset] [(.int ((144 : Int32) + ((b &&& (2147483647 : Int32)) % (((191 : Int32) - (144 : Int32)) + (1 : Int32)))))])) := c138.trans (by
              refine XS.iadd X78.here hx rfl (hb hby at_268) rfl ?_
              exact Steps.refl _)
            obtain ⟨ss, hss⟩ : ∃ z : Int32, z = ((144 : Int32) + ((b &&& (2147483647 : Int32)) % (((191 : Int32) - (144 : Int32)) + (1 : Int32)))) := ⟨_, rfl⟩
            rw [← hss] at c139
            have G := own_ss3 hss
            have c140 : Steps p.tables e below S0 (T78.setTop (mkF m 277 #[.val (.int kind), .val (.int a), .val (.int b), .val (.int d), .val (.int (5 : Int32)), .val (.int (2 : Int32)), .val (.ref bb), .val (.int ff), .val (.int (144 : Int32)), .val (.int (191 : Int32)), .val (.int ss)] [(.int (ff.toInt8.toInt32)), (.int (0 : Int32)), (.ref bb)])) := c139.trans (by
              refine XS.istore X78.here hx rfl (hb hby at_269) rfl (l' := #[.val (.int kind), .val (.int a), .val (.int b), .val (.int d), .val (.int (5 : Int32)), .val (.int (2 : Int32)), .val (.ref bb), .val (.int ff), .val (.int (144 : Int32)), .val (.int (191 : Int32)), .val (.int ss)]) rfl ?_
              show Steps p.tables e below (T78.setTop (mkF m 271 #[.val (.int kind), .val (.int a), .val (.int b), .val (.int d), .val (.int (5 : Int32)), .val (.int (2 : Int32)), .val (.ref bb), .val (.int ff), .val (.int (144 : Int32)), .val (.int (191 : Int32)), .val (.int ss)] [])) _
              refine XS.aload X78.here hx rfl (hb hby at_271) rfl rfl ?_
              show Steps p.tables e below (T78.setTop (mkF m 273 #[.val (.int kind), .val (.int a), .val (.int b), .val (.int d), .val (.int (5 : Int32)), .val (.int (2 : Int32)), .val (.ref bb), .val (.int ff), .val (.int (144 : Int32)), .val (.int (191 : Int32)), .val (.int ss)] [(.ref bb)])) _
              refine XS.iconst X78.here hx rfl (hb hby at_273) ?_
              show Steps p.tables e below (T78.setTop (mkF m 274 #[.val (.int kind), .val (.int a), .val (.int b), .val (.int d), .val (.int (5 : Int32)), .val (.int (2 : Int32)), .val (.ref bb), .val (.int ff), .val (.int (144 : Int32)), .val (.int (191 : Int32)), .val (.int ss)] [(.int (0 : Int32)), (.ref bb)])) _
              refine XS.iload X78.here hx rfl (hb hby at_274) rfl ?_
              show Steps p.tables e below (T78.setTop (mkF m 276 #[.val (.int kind), .val (.int a), .val (.int b), .val (.int d), .val (.int (5 : Int32)), .val (.int (2 : Int32)), .val (.ref bb), .val (.int ff), .val (.int (144 : Int32)), .val (.int (191 : Int32)), .val (.int ss)] [(.int ff), (.int (0 : Int32)), (.ref bb)])) _
              refine XS.i2b X78.here hx rfl (hb hby at_276) rfl ?_
              exact Steps.refl _)
            obtain ⟨cl141, Ac141, hcl141⟩ := B78
            obtain ⟨T142, h142, X142, e142, W142, st142⟩ := stB X78 hx hZ e78 Ac141 (j := (0 : Int32)) (by rw [hcl141]; exact own_in4 (by decide)) (g := (mkF m 277 #[.val (.int kind), .val (.int a), .val (.int b), .val (.int d), .val (.int (5 : Int32)), .val (.int (2 : Int32)), .val (.ref bb), .val (.int ff), .val (.int (144 : Int32)), .val (.int (191 : Int32)), .val (.int ss)] [(.int (ff.toInt8.toInt32)), (.int (0 : Int32)), (.ref bb)])) rfl rfl (hb hby at_277)
            have c143 : Steps p.tables e below S0 (T142.setTop (mkF m 278 #[.val (.int kind), .val (.int a), .val (.int b), .val (.int d), .val (.int (5 : Int32)), .val (.int (2 : Int32)), .val (.ref bb), .val (.int ff), .val (.int (144 : Int32)), .val (.int (191 : Int32)), .val (.int ss)] [])) := c140.trans (by
              refine st142 _ ?_
              exact Steps.refl _)
            have B142 : own_BA Z h142 bb (nar .byte (ff.toInt8.toInt32)) 0 0 0 := ⟨_, Ac141.same W142, by simp [Cell.setSlot, hcl141]⟩
            have N142 := Fr.snoc X142 N0 g_b
            have Z142 : n0 ≤ h142.size := by rw [W142.size]; exact Z78
            have c144 : Steps p.tables e below S0 (T142.setTop (mkF m 284 #[.val (.int kind), .val (.int a), .val (.int b), .val (.int d), .val (.int (5 : Int32)), .val (.int (2 : Int32)), .val (.ref bb), .val (.int ff), .val (.int (144 : Int32)), .val (.int (191 : Int32)), .val (.int ss)] [(.int (ss.toInt8.toInt32)), (.int (1 : Int32)), (.ref bb)])) := c143.trans (by
              refine XS.aload X142.here hx rfl (hb hby at_278) rfl rfl ?_
              show Steps p.tables e below (T142.setTop (mkF m 280 #[.val (.int kind), .val (.int a), .val (.int b), .val (.int d), .val (.int (5 : Int32)), .val (.int (2 : Int32)), .val (.ref bb), .val (.int ff), .val (.int (144 : Int32)), .val (.int (191 : Int32)), .val (.int ss)] [(.ref bb)])) _
              refine XS.iconst X142.here hx rfl (hb hby at_280) ?_
              show Steps p.tables e below (T142.setTop (mkF m 281 #[.val (.int kind), .val (.int a), .val (.int b), .val (.int d), .val (.int (5 : Int32)), .val (.int (2 : Int32)), .val (.ref bb), .val (.int ff), .val (.int (144 : Int32)), .val (.int (191 : Int32)), .val (.int ss)] [(.int (1 : Int32)), (.ref bb)])) _
              refine XS.iload X142.here hx rfl (hb hby at_281) rfl ?_
              show Steps p.tables e below (T142.setTop (mkF m 283 #[.val (.int kind), .val (.int a), .val (.int b), .val (.int d), .val (.int (5 : Int32)), .val (.int (2 : Int32)), .val (.ref bb), .val (.int ff), .val (.int (144 : Int32)), .val (.int (191 : Int32)), .val (.int ss)] [(.int ss), (.int (1 : Int32)), (.ref bb)])) _
              refine XS.i2b X142.here hx rfl (hb hby at_283) rfl ?_
              exact Steps.refl _)
            obtain ⟨cl145, Ac145, hcl145⟩ := B142
            obtain ⟨T146, h146, X146, e146, W146, st146⟩ := stB X142 hx hZ e142 Ac145 (j := (1 : Int32)) (by rw [hcl145]; exact own_in4 (by decide)) (g := (mkF m 284 #[.val (.int kind), .val (.int a), .val (.int b), .val (.int d), .val (.int (5 : Int32)), .val (.int (2 : Int32)), .val (.ref bb), .val (.int ff), .val (.int (144 : Int32)), .val (.int (191 : Int32)), .val (.int ss)] [(.int (ss.toInt8.toInt32)), (.int (1 : Int32)), (.ref bb)])) rfl rfl (hb hby at_284)
            have c147 : Steps p.tables e below S0 (T146.setTop (mkF m 285 #[.val (.int kind), .val (.int a), .val (.int b), .val (.int d), .val (.int (5 : Int32)), .val (.int (2 : Int32)), .val (.ref bb), .val (.int ff), .val (.int (144 : Int32)), .val (.int (191 : Int32)), .val (.int ss)] [])) := c144.trans (by
              refine st146 _ ?_
              exact Steps.refl _)
            have B146 : own_BA Z h146 bb (nar .byte (ff.toInt8.toInt32)) (nar .byte (ss.toInt8.toInt32)) 0 0 := ⟨_, Ac145.same W146, by simp [Cell.setSlot, hcl145]⟩
            have N146 := Fr.snoc X146 N142 g_b
            have Z146 : n0 ≤ h146.size := by rw [W146.size]; exact Z142
            have c148 : Steps p.tables e below S0 (T146.setTop (mkF m 288 #[.val (.int kind), .val (.int a), .val (.int b), .val (.int d), .val (.int (5 : Int32)), .val (.int (2 : Int32)), .val (.ref bb), .val (.int ff), .val (.int (144 : Int32)), .val (.int (191 : Int32)), .val (.int ss)] [(.int (3 : Int32)), (.int (2 : Int32))])) := c147.trans (by
              refine XS.iload X146.here hx rfl (hb hby at_285) rfl ?_
              show Steps p.tables e below (T146.setTop (mkF m 287 #[.val (.int kind), .val (.int a), .val (.int b), .val (.int d), .val (.int (5 : Int32)), .val (.int (2 : Int32)), .val (.ref bb), .val (.int ff), .val (.int (144 : Int32)), .val (.int (191 : Int32)), .val (.int ss)] [(.int (2 : Int32))])) _
              refine XS.iconst X146.here hx rfl (hb hby at_287) ?_
              exact Steps.refl _)
            have c149 : Steps p.tables e below S0 (T146.setTop (mkF m 304 #[.val (.int kind), .val (.int a), .val (.int b), .val (.int d), .val (.int (5 : Int32)), .val (.int (2 : Int32)), .val (.ref bb), .val (.int ff), .val (.int (144 : Int32)), .val (.int (191 : Int32)), .val (.int ss)] [])) := c148.trans (by
              refine XS.icmpYes X146.here hx rfl (pc0 := 288) (pc' := 304) rfl (hb hby at_288) rfl (feq (by decide)).2 (by decide) (by decide) ?_
              exact Steps.refl _)
            have c150 : Steps p.tables e below S0 (T146.setTop (mkF m 307 #[.val (.int kind), .val (.int a), .val (.int b), .val (.int d), .val (.int (5 : Int32)), .val (.int (2 : Int32)), .val (.ref bb), .val (.int ff), .val (.int (144 : Int32)), .val (.int (191 : Int32)), .val (.int ss)] [(.int (0 : Int32)), (.ref bb)])) := c149.trans (by
              refine XS.aload X146.here hx rfl (hb hby at_304) rfl rfl ?_
              show Steps p.tables e below (T146.setTop (mkF m 306 #[.val (.int kind), .val (.int a), .val (.int b), .val (.int d), .val (.int (5 : Int32)), .val (.int (2 : Int32)), .val (.ref bb), .val (.int ff), .val (.int (144 : Int32)), .val (.int (191 : Int32)), .val (.int ss)] [(.ref bb)])) _
              refine XS.iconst X146.here hx rfl (hb hby at_306) ?_
              exact Steps.refl _)
            have J := own_J3 hf240 G.1 G.2
            have hu : ¬ (((nar .byte (ff.toInt8.toInt32)) &&& 255) < 128) := own_f2u (by omega) F.2
            have hr : own_run ((nar .byte (ff.toInt8.toInt32)) &&& 255) ((nar .byte (ss.toInt8.toInt32)) &&& 255) (0 &&& 255) (0 &&& 255) = -2 := own_f2r F.1 F.2 J
            obtain ⟨_, _, ⟨T151, L151, k151, n151⟩, -, X151, ⟨Lc151, hQ151, l151, y151, z151⟩, st151⟩ := Jvm.LawKit.callS X146 hx (y := (⟨"com/example/coersa/coersa/Utf8", "characterAt", "([BI)I"⟩ : MethodName)) hown (mvT hZ (hw _ (List.mem_of_getElem? (i := 6) rfl))) (mvT hZ (hw _ (List.mem_of_getElem? (i := 7) rfl))) (mvT hZ (hw _ (List.mem_of_getElem? (i := 3) rfl))) (mvT hZ (hw _ (List.mem_of_getElem? (i := 8) rfl))) (by decide) (backOf (W := 0) (own_cat2 l Z a0 hw [] bb 0 (nar .byte (ff.toInt8.toInt32)) (nar .byte (ss.toInt8.toInt32)) 0 0 h146 n0 Z146 rfl B146 hu hr) hZ (hw _ (List.mem_of_getElem? (i := 8) rfl)) (hw _ (List.mem_of_getElem? (i := 3) rfl)) (by decide) (by decide)) (g := (mkF m 307 #[.val (.int kind), .val (.int a), .val (.int b), .val (.int d), .val (.int (5 : Int32)), .val (.int (2 : Int32)), .val (.ref bb), .val (.int ff), .val (.int (144 : Int32)), .val (.int (191 : Int32)), .val (.int ss)] [(.int (0 : Int32)), (.ref bb)])) rfl (by rw [hml]; rfl) (argsL := [(.ref bb), (.int (0 : Int32))]) (rest := []) (lenOf own_pd0 rfl) rfl (by show 2 * 0 + _ ≤ _; exact Nat.le_of_eq rfl) (hb hby at_307) (fun _ _ => ⟨rfl, e146, (Nat.le_of_ble_eq_true rfl), (Nat.le_of_ble_eq_true rfl)⟩)
            dsimp only [Pt.U, Pt.locs, Pt.cells, Pt.slots] at X151 l151 y151 z151 st151 hQ151
            subst l151 y151 z151
            obtain ⟨rfl, N151q, ec⟩ := hQ151
            have N151 := Fr.app N146 N151q
            have c152 : Steps p.tables e below S0 (T151.setTop (mkF m 310 #[.val (.int kind), .val (.int a), .val (.int b), .val (.int d), .val (.int (5 : Int32)), .val (.int (2 : Int32)), .val (.ref bb), .val (.int ff), .val (.int (144 : Int32)), .val (.int (191 : Int32)), .val (.int ss)] [(.int (own_ca2 (nar .byte (ff.toInt8.toInt32)) (nar .byte (ss.toInt8.toInt32)) 0))])) := c150.trans (by
              refine st151 _ ?_
              exact Steps.refl _)
            have Zc : n0 ≤ T151.heap.size := by rw [ec]; exact Z146
            obtain ⟨_, _, ⟨T153, L153, k153, n153⟩, -, X153, ⟨Lc153, hQ153, l153, y153, z153⟩, st153⟩ := Jvm.LawKit.callS X151 hx (y := (⟨"com/example/coersa/coersa/Utf8", "byteCount", "(I)I"⟩ : MethodName)) hown (mvT hZ (hw _ (List.mem_of_getElem? (i := 1) rfl))) (mvT hZ (hw _ (List.mem_of_getElem? (i := 2) rfl))) (mvT hZ (hw _ (List.mem_of_getElem? (i := 3) rfl))) (mvT hZ (hw _ (List.mem_of_getElem? (i := 4) rfl))) (by decide) (backOf (W := 0) (own_bct l Z a0 hw [] (own_ca2 (nar .byte (ff.toInt8.toInt32)) (nar .byte (ss.toInt8.toInt32)) 0) T151.heap n0 Zc) hZ (hw _ (List.mem_of_getElem? (i := 4) rfl)) (hw _ (List.mem_of_getElem? (i := 3) rfl)) (by decide) (by decide)) (g := (mkF m 310 #[.val (.int kind), .val (.int a), .val (.int b), .val (.int d), .val (.int (5 : Int32)), .val (.int (2 : Int32)), .val (.ref bb), .val (.int ff), .val (.int (144 : Int32)), .val (.int (191 : Int32)), .val (.int ss)] [(.int (own_ca2 (nar .byte (ff.toInt8.toInt32)) (nar .byte (ss.toInt8.toInt32)) 0))])) rfl (by rw [hml]; rfl) (argsL := [(.int (own_ca2 (nar .byte (ff.toInt8.toInt32)) (nar .byte (ss.toInt8.toInt32)) 0))]) (rest := []) (lenOf own_pd1 rfl) rfl (by show 2 * 0 + _ ≤ _; exact Nat.le_of_eq rfl) (hb hby at_310) (fun _ _ => ⟨rfl, rfl, (Nat.le_of_ble_eq_true rfl), (Nat.le_of_ble_eq_true rfl)⟩)
            dsimp only [Pt.U, Pt.locs, Pt.cells, Pt.slots] at X153 l153 y153 z153 st153 hQ153
            subst l153 y153 z153
            obtain ⟨rfl, N153q, eb⟩ := hQ153
            have N153 := Fr.app N151 N153q
            have c154 : Steps p.tables e below S0 (T153.setTop (mkF m 313 #[.val (.int kind), .val (.int a), .val (.int b), .val (.int d), .val (.int (5 : Int32)), .val (.int (2 : Int32)), .val (.ref bb), .val (.int ff), .val (.int (144 : Int32)), .val (.int (191 : Int32)), .val (.int ss)] [(.int (own_bc (own_ca2 (nar .byte (ff.toInt8.toInt32)) (nar .byte (ss.toInt8.toInt32)) 0)))])) := c152.trans (by
              refine st153 _ ?_
              exact Steps.refl _)
            have c155 : Steps p.tables e below S0 (T153.setTop (mkF m 315 #[.val (.int kind), .val (.int a), .val (.int b), .val (.int d), .val (.int (5 : Int32)), .val (.int (2 : Int32)), .val (.ref bb), .val (.int ff), .val (.int (144 : Int32)), .val (.int (191 : Int32)), .val (.int ss)] [(.int (2 : Int32)), (.int (own_bc (own_ca2 (nar .byte (ff.toInt8.toInt32)) (nar .byte (ss.toInt8.toInt32)) 0)))])) := c154.trans (by
              refine XS.iload X153.here hx rfl (hb hby at_313) rfl ?_
              exact Steps.refl _)
            have c156 : Steps p.tables e below S0 (T153.setTop (mkF m 318 #[.val (.int kind), .val (.int a), .val (.int b), .val (.int d), .val (.int (5 : Int32)), .val (.int (2 : Int32)), .val (.ref bb), .val (.int ff), .val (.int (144 : Int32)), .val (.int (191 : Int32)), .val (.int ss)] [])) := c155.trans (by
              refine XS.icmpNo X153.here hx rfl (hb hby at_315) rfl (teq (own_f2v F.1 F.2 _ _)).2 ?_
              exact Steps.refl _)
            have c157 : Steps p.tables e below S0 (T153.setTop (mkF m 323 #[.val (.int kind), .val (.int a), .val (.int b), .val (.int d), .val (.int (5 : Int32)), .val (.int (2 : Int32)), .val (.ref bb), .val (.int ff), .val (.int (144 : Int32)), .val (.int (191 : Int32)), .val (.int ss)] [(.int (1 : Int32))])) := c156.trans (by
              refine XS.iconst X153.here hx rfl (hb hby at_318) ?_
              show Steps p.tables e below (T153.setTop (mkF m 319 #[.val (.int kind), .val (.int a), .val (.int b), .val (.int d), .val (.int (5 : Int32)), .val (.int (2 : Int32)), .val (.ref bb), .val (.int ff), .val (.int (144 : Int32)), .val (.int (191 : Int32)), .val (.int ss)] [(.int (1 : Int32))])) _
              refine XS.goto X153.here hx rfl (pc0 := 319) (pc' := 323) rfl (hb hby at_319) (by decide) (by decide) ?_
              exact Steps.refl _)
            obtain ⟨fs, hr, hrun, hended, hW, hsame⟩ := X153.leave (v := some (.int (1 : Int32))) (fun h => by rw [Bd.returns] at h; cases h)
            exact ⟨_, _, c157.trans (retN X153 hx (t := .boolean) Bd.returns (by simp) (hb hby at_323) hr), hrun, hended, _, _, rfl, ⟨rfl, N153⟩, ⟨_, rfl⟩, hW, hsame.mono (by decide) (by decide)⟩
          · have c158 : Steps p.tables e below S0 (T78.setTop (mkF m 241 #[.val (.int kind), .val (.int a), .val (.int b), .val (.int d), .val (.int (5 : Int32)), .val (.int (2 : Int32)), .val (.ref bb), .val (.int ff), .val (.int (128 : Int32)), .val (.int (191 : Int32)), .unset] [])) := c135.trans (by
              refine XS.icmpYes X78.here hx rfl (pc0 := 230) (pc' := 241) rfl (hb hby at_230) rfl (feq hf240).2 (by decide) (by decide) ?_
              exact Steps.refl _)
            have c159 : Steps p.tables e below S0 (T78.setTop (mkF m 246 #[.val (.int kind), .val (.int a), .val (.int b), .val (.int d), .val (.int (5 : Int32)), .val (.int (2 : Int32)), .val (.ref bb), .val (.int ff), .val (.int (128 : Int32)), .val (.int (191 : Int32)), .unset] [(.int (244 : Int32)), (.int ff)])) := c158.trans (by
              refine XS.iload X78.here hx rfl (hb hby at_241) rfl ?_
              show Steps p.tables e below (T78.setTop (mkF m 243 #[.val (.int kind), .val (.int a), .val (.int b), .val (.int d), .val (.int (5 : Int32)), .val (.int (2 : Int32)), .val (.ref bb), .val (.int ff), .val (.int (128 : Int32)), .val (.int (191 : Int32)), .unset] [(.int ff)])) _
              refine XS.sipush X78.here hx rfl (hb hby at_243) ?_
              exact Steps.refl _)
            by_cases hf244 : ff = (244 : Int32)
            · have c160 : Steps p.tables e below S0 (T78.setTop (mkF m 249 #[.val (.int kind), .val (.int a), .val (.int b), .val (.int d), .val (.int (5 : Int32)), .val (.int (2 : Int32)), .val (.ref bb), .val (.int ff), .val (.int (128 : Int32)), .val (.int (191 : Int32)), .unset] [])) := c159.trans (by
                refine XS.icmpNo X78.here hx rfl (hb hby at_246) rfl (teq hf244).2 ?_
                exact Steps.refl _)
              have c161 : Steps p.tables e below S0 (T78.setTop (mkF m 267 #[.val (.int kind), .val (.int a), .val (.int b), .val (.int d), .val (.int (5 : Int32)), .val (.int (2 : Int32)), .val (.ref bb), .val (.int ff), .val (.int (128 : Int32)), .val (.int (143 : Int32)), .unset] [(.int (((143 : Int32) - (128 : Int32)) + (1 : Int32))), (.int (b &&& (2147483647 : Int32))), (.int (128 : Int32))])) := c160.trans (by
                refine XS.sipush X78.here hx rfl (hb hby at_249) ?_
                show Steps p.tables e below (T78.setTop (mkF m 252 #[.val (.int kind), .val (.int a), .val (.int b), .val (.int d), .val (.int (5 : Int32)), .val (.int (2 : Int32)), .val (.ref bb), .val (.int ff), .val (.int (128 : Int32)), .val (.int (191 : Int32)), .unset] [(.int (143 : Int32))])) _
                refine XS.istore X78.here hx rfl (hb hby at_252) rfl (l' := #[.val (.int kind), .val (.int a), .val (.int b), .val (.int d), .val (.int (5 : Int32)), .val (.int (2 : Int32)), .val (.ref bb), .val (.int ff), .val (.int (128 : Int32)), .val (.int (143 : Int32)), .unset]) rfl ?_
                show Steps p.tables e below (T78.setTop (mkF m 254 #[.val (.int kind), .val (.int a), .val (.int b), .val (.int d), .val (.int (5 : Int32)), .val (.int (2 : Int32)), .val (.ref bb), .val (.int ff), .val (.int (128 : Int32)), .val (.int (143 : Int32)), .unset] [])) _
                refine XS.iload X78.here hx rfl (hb hby at_254) rfl ?_
                show Steps p.tables e below (T78.setTop (mkF m 256 #[.val (.int kind), .val (.int a), .val (.int b), .val (.int d), .val (.int (5 : Int32)), .val (.int (2 : Int32)), .val (.ref bb), .val (.int ff), .val (.int (128 : Int32)), .val (.int (143 : Int32)), .unset] [(.int (128 : Int32))])) _
                refine XS.iloadN X78.here hx rfl (hb hby at_256) rfl ?_
                show Steps p.tables e below (T78.setTop (mkF m 257 #[.val (.int kind), .val (.int a), .val (.int b), .val (.int d), .val (.int (5 : Int32)), .val (.int (2 : Int32)), .val (.ref bb), .val (.int ff), .val (.int (128 : Int32)), .val (.int (143 : Int32)), .unset] [(.int b), (.int (128 : Int32))])) _
                refine X78.ldcInt hx hown (mvT hZ (hw _ (List.mem_of_getElem? (i := 0) rfl))) (g := (mkF m 257 #[.val (.int kind), .val (.int a), .val (.int b), .val (.int d), .val (.int (5 : Int32)), .val (.int (2 : Int32)), .val (.ref bb), .val (.int ff), .val (.int (128 : Int32)), .val (.int (143 : Int32)), .unset] [(.int b), (.int (128 : Int32))])) rfl (hb hby at_257) _ ?_
                show Steps p.tables e below (T78.setTop (mkF m 259 #[.val (.int kind), .val (.int a), .val (.int b), .val (.int d), .val (.int (5 : Int32)), .val (.int (2 : Int32)), .val (.ref bb), .val (.int ff), .val (.int (128 : Int32)), .val (.int (143 : Int32)), .unset] [(.int (2147483647 : Int32)), (.int b), (.int (128 : Int32))])) _
                refine XS.iand X78.here hx rfl (hb hby at_259) rfl ?_
                show Steps p.tables e below (T78.setTop (mkF m 260 #[.val (.int kind), .val (.int a), .val (.int b), .val (.int d), .val (.int (5 : Int32)), .val (.int (2 : Int32)), .val (.ref bb), .val (.int ff), .val (.int (128 : Int32)), .val (.int (143 : Int32)), .unset] [(.int (b &&& (2147483647 : Int32))), (.int (128 : Int32))])) _
                refine XS.iload X78.here hx rfl (hb hby at_260) rfl ?_
                show Steps p.tables e below (T78.setTop (mkF m 262 #[.val (.int kind), .val (.int a), .val (.int b), .val (.int d), .val (.int (5 : Int32)), .val (.int (2 : Int32)), .val (.ref bb), .val (.int ff), .val (.int (128 : Int32)), .val (.int (143 : Int32)), .unset] [(.int (143 : Int32)), (.int (b &&& (2147483647 : Int32))), (.int (128 : Int32))])) _
                refine XS.iload X78.here hx rfl (hb hby at_262) rfl ?_
                show Steps p.tables e below (T78.setTop (mkF m 264 #[.val (.int kind), .val (.int a), .val (.int b), .val (.int d), .val (.int (5 : Int32)), .val (.int (2 : Int32)), .val (.ref bb), .val (.int ff), .val (.int (128 : Int32)), .val (.int (143 : Int32)), .unset] [(.int (128 : Int32)), (.int (143 : Int32)), (.int (b &&& (2147483647 : Int32))), (.int (128 : Int32))])) _
                refine XS.isub X78.here hx rfl (hb hby at_264) rfl ?_
                show Steps p.tables e below (T78.setTop (mkF m 265 #[.val (.int kind), .val (.int a), .val (.int b), .val (.int d), .val (.int (5 : Int32)), .val (.int (2 : Int32)), .val (.ref bb), .val (.int ff), .val (.int (128 : Int32)), .val (.int (143 : Int32)), .unset] [(.int ((143 : Int32) - (128 : Int32))), (.int (b &&& (2147483647 : Int32))), (.int (128 : Int32))])) _
                refine XS.iconst X78.here hx rfl (hb hby at_265) ?_
                show Steps p.tables e below (T78.setTop (mkF m 266 #[.val (.int kind), .val (.int a), .val (.int b), .val (.int d), .val (.int (5 : Int32)), .val (.int (2 : Int32)), .val (.ref bb), .val (.int ff), .val (.int (128 : Int32)), .val (.int (143 : Int32)), .unset] [(.int (1 : Int32)), (.int ((143 : Int32) - (128 : Int32))), (.int (b &&& (2147483647 : Int32))), (.int (128 : Int32))])) _
                refine XS.iadd X78.here hx rfl (hb hby at_266) rfl ?_
                exact Steps.refl _)
              have c162 : Steps p.tables e below S0 (T78.setTop (mkF m 268 #[.val (.int kind), .val (.int a), .val (.int b), .val (.int d), .val (.int (5 : Int32)), .val (.int (2 : Int32)), .val (.ref bb), .val (.int ff), .val (.int (128 : Int32)), .val (.int (143 : Int32)), .unset] [(.int ((b &&& (2147483647 : Int32)) % (((143 : Int32) - (128 : Int32)) + (1 : Int32)))), (.int (128 : Int32))])) := c161.trans (by
                refine iremM X78 hx rfl (hb hby at_267) rfl (by decide) ?_
                exact Steps.refl _)
              have c163 : Steps p.tables e below S0 (T78.setTop (mkF m 269 #[.val (.int kind), .val (.int a), .val (.int b), .val (.int d), .val (.int (5 : Int32)), .val (.int (2 : Int32)), .val (.ref bb), .val (.int ff), .val (.int (128 : Int32)), .val (.int (143 : Int32)), .unset] [(.int ((128 : Int32) + ((b &&& (2147483647 : Int32)) % (((143 : Int32) - (128 : Int32)) + (1 : Int32)))))])) := c162.trans (by
                refine XS.iadd X78.here hx rfl (hb hby at_268) rfl ?_
                exact Steps.refl _)
              obtain ⟨ss, hss⟩ : ∃ z : Int32, z = ((128 : Int32) + ((b &&& (2147483647 : Int32)) % (((143 : Int32) - (128 : Int32)) + (1 : Int32)))) := ⟨_, rfl⟩
              rw [← hss] at c163
              have G := own_ss4 hss
              have c164 : Steps p.tables e below S0 (T78.setTop (mkF m 277 #[.val (.int kind), .val (.int a), .val (.int b), .val (.int d), .val (.int (5 : Int32)), .val (.int (2 : Int32)), .val (.ref bb), .val (.int ff), .val (.int (128 : Int32)), .val (.int (143 : Int32)), .val (.int ss)] [(.int (ff.toInt8.toInt32)), (.int (0 : Int32)), (.ref bb)])) := c163.trans (by
                refine XS.istore X78.here hx rfl (hb hby at_269) rfl (l' := #[.val (.int kind), .val (.int a), .val (.int b), .val (.int d), .val (.int (5 : Int32)), .val (.int (2 : Int32)), .val (.ref bb), .val (.int ff), .val (.int (128 : Int32)), .val (.int (143 : Int32)), .val (.int ss)]) rfl ?_
                show Steps p.tables e below (T78.setTop (mkF m 271 #[.val (.int kind), .val (.int a), .val (.int b), .val (.int d), .val (.int (5 : Int32)), .val (.int (2 : Int32)), .val (.ref bb), .val (.int ff), .val (.int (128 : Int32)), .val (.int (143 : Int32)), .val (.int ss)] [])) _
                refine XS.aload X78.here hx rfl (hb hby at_271) rfl rfl ?_
                show Steps p.tables e below (T78.setTop (mkF m 273 #[.val (.int kind), .val (.int a), .val (.int b), .val (.int d), .val (.int (5 : Int32)), .val (.int (2 : Int32)), .val (.ref bb), .val (.int ff), .val (.int (128 : Int32)), .val (.int (143 : Int32)), .val (.int ss)] [(.ref bb)])) _
                refine XS.iconst X78.here hx rfl (hb hby at_273) ?_
                show Steps p.tables e below (T78.setTop (mkF m 274 #[.val (.int kind), .val (.int a), .val (.int b), .val (.int d), .val (.int (5 : Int32)), .val (.int (2 : Int32)), .val (.ref bb), .val (.int ff), .val (.int (128 : Int32)), .val (.int (143 : Int32)), .val (.int ss)] [(.int (0 : Int32)), (.ref bb)])) _
                refine XS.iload X78.here hx rfl (hb hby at_274) rfl ?_
                show Steps p.tables e below (T78.setTop (mkF m 276 #[.val (.int kind), .val (.int a), .val (.int b), .val (.int d), .val (.int (5 : Int32)), .val (.int (2 : Int32)), .val (.ref bb), .val (.int ff), .val (.int (128 : Int32)), .val (.int (143 : Int32)), .val (.int ss)] [(.int ff), (.int (0 : Int32)), (.ref bb)])) _
                refine XS.i2b X78.here hx rfl (hb hby at_276) rfl ?_
                exact Steps.refl _)
              obtain ⟨cl165, Ac165, hcl165⟩ := B78
              obtain ⟨T166, h166, X166, e166, W166, st166⟩ := stB X78 hx hZ e78 Ac165 (j := (0 : Int32)) (by rw [hcl165]; exact own_in4 (by decide)) (g := (mkF m 277 #[.val (.int kind), .val (.int a), .val (.int b), .val (.int d), .val (.int (5 : Int32)), .val (.int (2 : Int32)), .val (.ref bb), .val (.int ff), .val (.int (128 : Int32)), .val (.int (143 : Int32)), .val (.int ss)] [(.int (ff.toInt8.toInt32)), (.int (0 : Int32)), (.ref bb)])) rfl rfl (hb hby at_277)
              have c167 : Steps p.tables e below S0 (T166.setTop (mkF m 278 #[.val (.int kind), .val (.int a), .val (.int b), .val (.int d), .val (.int (5 : Int32)), .val (.int (2 : Int32)), .val (.ref bb), .val (.int ff), .val (.int (128 : Int32)), .val (.int (143 : Int32)), .val (.int ss)] [])) := c164.trans (by
                refine st166 _ ?_
                exact Steps.refl _)
              have B166 : own_BA Z h166 bb (nar .byte (ff.toInt8.toInt32)) 0 0 0 := ⟨_, Ac165.same W166, by simp [Cell.setSlot, hcl165]⟩
              have N166 := Fr.snoc X166 N0 g_b
              have Z166 : n0 ≤ h166.size := by rw [W166.size]; exact Z78
              have c168 : Steps p.tables e below S0 (T166.setTop (mkF m 284 #[.val (.int kind), .val (.int a), .val (.int b), .val (.int d), .val (.int (5 : Int32)), .val (.int (2 : Int32)), .val (.ref bb), .val (.int ff), .val (.int (128 : Int32)), .val (.int (143 : Int32)), .val (.int ss)] [(.int (ss.toInt8.toInt32)), (.int (1 : Int32)), (.ref bb)])) := c167.trans (by
                refine XS.aload X166.here hx rfl (hb hby at_278) rfl rfl ?_
                show Steps p.tables e below (T166.setTop (mkF m 280 #[.val (.int kind), .val (.int a), .val (.int b), .val (.int d), .val (.int (5 : Int32)), .val (.int (2 : Int32)), .val (.ref bb), .val (.int ff), .val (.int (128 : Int32)), .val (.int (143 : Int32)), .val (.int ss)] [(.ref bb)])) _
                refine XS.iconst X166.here hx rfl (hb hby at_280) ?_
                show Steps p.tables e below (T166.setTop (mkF m 281 #[.val (.int kind), .val (.int a), .val (.int b), .val (.int d), .val (.int (5 : Int32)), .val (.int (2 : Int32)), .val (.ref bb), .val (.int ff), .val (.int (128 : Int32)), .val (.int (143 : Int32)), .val (.int ss)] [(.int (1 : Int32)), (.ref bb)])) _
                refine XS.iload X166.here hx rfl (hb hby at_281) rfl ?_
                show Steps p.tables e below (T166.setTop (mkF m 283 #[.val (.int kind), .val (.int a), .val (.int b), .val (.int d), .val (.int (5 : Int32)), .val (.int (2 : Int32)), .val (.ref bb), .val (.int ff), .val (.int (128 : Int32)), .val (.int (143 : Int32)), .val (.int ss)] [(.int ss), (.int (1 : Int32)), (.ref bb)])) _
                refine XS.i2b X166.here hx rfl (hb hby at_283) rfl ?_
                exact Steps.refl _)
              obtain ⟨cl169, Ac169, hcl169⟩ := B166
              obtain ⟨T170, h170, X170, e170, W170, st170⟩ := stB X166 hx hZ e166 Ac169 (j := (1 : Int32)) (by rw [hcl169]; exact own_in4 (by decide)) (g := (mkF m 284 #[.val (.int kind), .val (.int a), .val (.int b), .val (.int d), .val (.int (5 : Int32)), .val (.int (2 : Int32)), .val (.ref bb), .val (.int ff), .val (.int (128 : Int32)), .val (.int (143 : Int32)), .val (.int ss)] [(.int (ss.toInt8.toInt32)), (.int (1 : Int32)), (.ref bb)])) rfl rfl (hb hby at_284)
              have c171 : Steps p.tables e below S0 (T170.setTop (mkF m 285 #[.val (.int kind), .val (.int a), .val (.int b), .val (.int d), .val (.int (5 : Int32)), .val (.int (2 : Int32)), .val (.ref bb), .val (.int ff), .val (.int (128 : Int32)), .val (.int (143 : Int32)), .val (.int ss)] [])) := c168.trans (by
                refine st170 _ ?_
                exact Steps.refl _)
              have B170 : own_BA Z h170 bb (nar .byte (ff.toInt8.toInt32)) (nar .byte (ss.toInt8.toInt32)) 0 0 := ⟨_, Ac169.same W170, by simp [Cell.setSlot, hcl169]⟩
              have N170 := Fr.snoc X170 N166 g_b
              have Z170 : n0 ≤ h170.size := by rw [W170.size]; exact Z166
              have c172 : Steps p.tables e below S0 (T170.setTop (mkF m 288 #[.val (.int kind), .val (.int a), .val (.int b), .val (.int d), .val (.int (5 : Int32)), .val (.int (2 : Int32)), .val (.ref bb), .val (.int ff), .val (.int (128 : Int32)), .val (.int (143 : Int32)), .val (.int ss)] [(.int (3 : Int32)), (.int (2 : Int32))])) := c171.trans (by
                refine XS.iload X170.here hx rfl (hb hby at_285) rfl ?_
                show Steps p.tables e below (T170.setTop (mkF m 287 #[.val (.int kind), .val (.int a), .val (.int b), .val (.int d), .val (.int (5 : Int32)), .val (.int (2 : Int32)), .val (.ref bb), .val (.int ff), .val (.int (128 : Int32)), .val (.int (143 : Int32)), .val (.int ss)] [(.int (2 : Int32))])) _
                refine XS.iconst X170.here hx rfl (hb hby at_287) ?_
                exact Steps.refl _)
              have c173 : Steps p.tables e below S0 (T170.setTop (mkF m 304 #[.val (.int kind), .val (.int a), .val (.int b), .val (.int d), .val (.int (5 : Int32)), .val (.int (2 : Int32)), .val (.ref bb), .val (.int ff), .val (.int (128 : Int32)), .val (.int (143 : Int32)), .val (.int ss)] [])) := c172.trans (by
                refine XS.icmpYes X170.here hx rfl (pc0 := 288) (pc' := 304) rfl (hb hby at_288) rfl (feq (by decide)).2 (by decide) (by decide) ?_
                exact Steps.refl _)
              have c174 : Steps p.tables e below S0 (T170.setTop (mkF m 307 #[.val (.int kind), .val (.int a), .val (.int b), .val (.int d), .val (.int (5 : Int32)), .val (.int (2 : Int32)), .val (.ref bb), .val (.int ff), .val (.int (128 : Int32)), .val (.int (143 : Int32)), .val (.int ss)] [(.int (0 : Int32)), (.ref bb)])) := c173.trans (by
                refine XS.aload X170.here hx rfl (hb hby at_304) rfl rfl ?_
                show Steps p.tables e below (T170.setTop (mkF m 306 #[.val (.int kind), .val (.int a), .val (.int b), .val (.int d), .val (.int (5 : Int32)), .val (.int (2 : Int32)), .val (.ref bb), .val (.int ff), .val (.int (128 : Int32)), .val (.int (143 : Int32)), .val (.int ss)] [(.ref bb)])) _
                refine XS.iconst X170.here hx rfl (hb hby at_306) ?_
                exact Steps.refl _)
              have J := own_J4 hf244 G.1 G.2
              have hu : ¬ (((nar .byte (ff.toInt8.toInt32)) &&& 255) < 128) := own_f2u (by omega) F.2
              have hr : own_run ((nar .byte (ff.toInt8.toInt32)) &&& 255) ((nar .byte (ss.toInt8.toInt32)) &&& 255) (0 &&& 255) (0 &&& 255) = -2 := own_f2r F.1 F.2 J
              obtain ⟨_, _, ⟨T175, L175, k175, n175⟩, -, X175, ⟨Lc175, hQ175, l175, y175, z175⟩, st175⟩ := Jvm.LawKit.callS X170 hx (y := (⟨"com/example/coersa/coersa/Utf8", "characterAt", "([BI)I"⟩ : MethodName)) hown (mvT hZ (hw _ (List.mem_of_getElem? (i := 6) rfl))) (mvT hZ (hw _ (List.mem_of_getElem? (i := 7) rfl))) (mvT hZ (hw _ (List.mem_of_getElem? (i := 3) rfl))) (mvT hZ (hw _ (List.mem_of_getElem? (i := 8) rfl))) (by decide) (backOf (W := 0) (own_cat2 l Z a0 hw [] bb 0 (nar .byte (ff.toInt8.toInt32)) (nar .byte (ss.toInt8.toInt32)) 0 0 h170 n0 Z170 rfl B170 hu hr) hZ (hw _ (List.mem_of_getElem? (i := 8) rfl)) (hw _ (List.mem_of_getElem? (i := 3) rfl)) (by decide) (by decide)) (g := (mkF m 307 #[.val (.int kind), .val (.int a), .val (.int b), .val (.int d), .val (.int (5 : Int32)), .val (.int (2 : Int32)), .val (.ref bb), .val (.int ff), .val (.int (128 : Int32)), .val (.int (143 : Int32)), .val (.int ss)] [(.int (0 : Int32)), (.ref bb)])) rfl (by rw [hml]; rfl) (argsL := [(.ref bb), (.int (0 : Int32))]) (rest := []) (lenOf own_pd0 rfl) rfl (by show 2 * 0 + _ ≤ _; exact Nat.le_of_eq rfl) (hb hby at_307) (fun _ _ => ⟨rfl, e170, (Nat.le_of_ble_eq_true rfl), (Nat.le_of_ble_eq_true rfl)⟩)
              dsimp only [Pt.U, Pt.locs, Pt.cells, Pt.slots] at X175 l175 y175 z175 st175 hQ175
              subst l175 y175 z175
              obtain ⟨rfl, N175q, ec⟩ := hQ175
              have N175 := Fr.app N170 N175q
              have c176 : Steps p.tables e below S0 (T175.setTop (mkF m 310 #[.val (.int kind), .val (.int a), .val (.int b), .val (.int d), .val (.int (5 : Int32)), .val (.int (2 : Int32)), .val (.ref bb), .val (.int ff), .val (.int (128 : Int32)), .val (.int (143 : Int32)), .val (.int ss)] [(.int (own_ca2 (nar .byte (ff.toInt8.toInt32)) (nar .byte (ss.toInt8.toInt32)) 0))])) := c174.trans (by
                refine st175 _ ?_
                exact Steps.refl _)
              have Zc : n0 ≤ T175.heap.size := by rw [ec]; exact Z170
              obtain ⟨_, _, ⟨T177, L177, k177, n177⟩, -, X177, ⟨Lc177, hQ177, l177, y177, z177⟩, st177⟩ := Jvm.LawKit.callS X175 hx (y := (⟨"com/example/coersa/coersa/Utf8", "byteCount", "(I)I"⟩ : MethodName)) hown (mvT hZ (hw _ (List.mem_of_getElem? (i := 1) rfl))) (mvT hZ (hw _ (List.mem_of_getElem? (i := 2) rfl))) (mvT hZ (hw _ (List.mem_of_getElem? (i := 3) rfl))) (mvT hZ (hw _ (List.mem_of_getElem? (i := 4) rfl))) (by decide) (backOf (W := 0) (own_bct l Z a0 hw [] (own_ca2 (nar .byte (ff.toInt8.toInt32)) (nar .byte (ss.toInt8.toInt32)) 0) T175.heap n0 Zc) hZ (hw _ (List.mem_of_getElem? (i := 4) rfl)) (hw _ (List.mem_of_getElem? (i := 3) rfl)) (by decide) (by decide)) (g := (mkF m 310 #[.val (.int kind), .val (.int a), .val (.int b), .val (.int d), .val (.int (5 : Int32)), .val (.int (2 : Int32)), .val (.ref bb), .val (.int ff), .val (.int (128 : Int32)), .val (.int (143 : Int32)), .val (.int ss)] [(.int (own_ca2 (nar .byte (ff.toInt8.toInt32)) (nar .byte (ss.toInt8.toInt32)) 0))])) rfl (by rw [hml]; rfl) (argsL := [(.int (own_ca2 (nar .byte (ff.toInt8.toInt32)) (nar .byte (ss.toInt8.toInt32)) 0))]) (rest := []) (lenOf own_pd1 rfl) rfl (by show 2 * 0 + _ ≤ _; exact Nat.le_of_eq rfl) (hb hby at_310) (fun _ _ => ⟨rfl, rfl, (Nat.le_of_ble_eq_true rfl), (Nat.le_of_ble_eq_true rfl)⟩)
              dsimp only [Pt.U, Pt.locs, Pt.cells, Pt.slots] at X177 l177 y177 z177 st177 hQ177
              subst l177 y177 z177
              obtain ⟨rfl, N177q, eb⟩ := hQ177
              have N177 := Fr.app N175 N177q
              have c178 : Steps p.tables e below S0 (T177.setTop (mkF m 313 #[.val (.int kind), .val (.int a), .val (.int b), .val (.int d), .val (.int (5 : Int32)), .val (.int (2 : Int32)), .val (.ref bb), .val (.int ff), .val (.int (128 : Int32)), .val (.int (143 : Int32)), .val (.int ss)] [(.int (own_bc (own_ca2 (nar .byte (ff.toInt8.toInt32)) (nar .byte (ss.toInt8.toInt32)) 0)))])) := c176.trans (by
                refine st177 _ ?_
                exact Steps.refl _)
              have c179 : Steps p.tables e below S0 (T177.setTop (mkF m 315 #[.val (.int kind), .val (.int a), .val (.int b), .val (.int d), .val (.int (5 : Int32)), .val (.int (2 : Int32)), .val (.ref bb), .val (.int ff), .val (.int (128 : Int32)), .val (.int (143 : Int32)), .val (.int ss)] [(.int (2 : Int32)), (.int (own_bc (own_ca2 (nar .byte (ff.toInt8.toInt32)) (nar .byte (ss.toInt8.toInt32)) 0)))])) := c178.trans (by
                refine XS.iload X177.here hx rfl (hb hby at_313) rfl ?_
                exact Steps.refl _)
              have c180 : Steps p.tables e below S0 (T177.setTop (mkF m 318 #[.val (.int kind), .val (.int a), .val (.int b), .val (.int d), .val (.int (5 : Int32)), .val (.int (2 : Int32)), .val (.ref bb), .val (.int ff), .val (.int (128 : Int32)), .val (.int (143 : Int32)), .val (.int ss)] [])) := c179.trans (by
                refine XS.icmpNo X177.here hx rfl (hb hby at_315) rfl (teq (own_f2v F.1 F.2 _ _)).2 ?_
                exact Steps.refl _)
              have c181 : Steps p.tables e below S0 (T177.setTop (mkF m 323 #[.val (.int kind), .val (.int a), .val (.int b), .val (.int d), .val (.int (5 : Int32)), .val (.int (2 : Int32)), .val (.ref bb), .val (.int ff), .val (.int (128 : Int32)), .val (.int (143 : Int32)), .val (.int ss)] [(.int (1 : Int32))])) := c180.trans (by
                refine XS.iconst X177.here hx rfl (hb hby at_318) ?_
                show Steps p.tables e below (T177.setTop (mkF m 319 #[.val (.int kind), .val (.int a), .val (.int b), .val (.int d), .val (.int (5 : Int32)), .val (.int (2 : Int32)), .val (.ref bb), .val (.int ff), .val (.int (128 : Int32)), .val (.int (143 : Int32)), .val (.int ss)] [(.int (1 : Int32))])) _
                refine XS.goto X177.here hx rfl (pc0 := 319) (pc' := 323) rfl (hb hby at_319) (by decide) (by decide) ?_
                exact Steps.refl _)
              obtain ⟨fs, hr, hrun, hended, hW, hsame⟩ := X177.leave (v := some (.int (1 : Int32))) (fun h => by rw [Bd.returns] at h; cases h)
              exact ⟨_, _, c181.trans (retN X177 hx (t := .boolean) Bd.returns (by simp) (hb hby at_323) hr), hrun, hended, _, _, rfl, ⟨rfl, N177⟩, ⟨_, rfl⟩, hW, hsame.mono (by decide) (by decide)⟩
            · have c182 : Steps p.tables e below S0 (T78.setTop (mkF m 254 #[.val (.int kind), .val (.int a), .val (.int b), .val (.int d), .val (.int (5 : Int32)), .val (.int (2 : Int32)), .val (.ref bb), .val (.int ff), .val (.int (128 : Int32)), .val (.int (191 : Int32)), .unset] [])) := c159.trans (by
                refine XS.icmpYes X78.here hx rfl (pc0 := 246) (pc' := 254) rfl (hb hby at_246) rfl (feq hf244).2 (by decide) (by decide) ?_
                exact Steps.refl _)
              have c183 : Steps p.tables e below S0 (T78.setTop (mkF m 267 #[.val (.int kind), .val (.int a), .val (.int b), .val (.int d), .val (.int (5 : Int32)), .val (.int (2 : Int32)), .val (.ref bb), .val (.int ff), .val (.int (128 : Int32)), .val (.int (191 : Int32)), .unset] [(.int (((191 : Int32) - (128 : Int32)) + (1 : Int32))), (.int (b &&& (2147483647 : Int32))), (.int (128 : Int32))])) := c182.trans (by
                refine XS.iload X78.here hx rfl (hb hby at_254) rfl ?_
                show Steps p.tables e below (T78.setTop (mkF m 256 #[.val (.int kind), .val (.int a), .val (.int b), .val (.int d), .val (.int (5 : Int32)), .val (.int (2 : Int32)), .val (.ref bb), .val (.int ff), .val (.int (128 : Int32)), .val (.int (191 : Int32)), .unset] [(.int (128 : Int32))])) _
                refine XS.iloadN X78.here hx rfl (hb hby at_256) rfl ?_
                show Steps p.tables e below (T78.setTop (mkF m 257 #[.val (.int kind), .val (.int a), .val (.int b), .val (.int d), .val (.int (5 : Int32)), .val (.int (2 : Int32)), .val (.ref bb), .val (.int ff), .val (.int (128 : Int32)), .val (.int (191 : Int32)), .unset] [(.int b), (.int (128 : Int32))])) _
                refine X78.ldcInt hx hown (mvT hZ (hw _ (List.mem_of_getElem? (i := 0) rfl))) (g := (mkF m 257 #[.val (.int kind), .val (.int a), .val (.int b), .val (.int d), .val (.int (5 : Int32)), .val (.int (2 : Int32)), .val (.ref bb), .val (.int ff), .val (.int (128 : Int32)), .val (.int (191 : Int32)), .unset] [(.int b), (.int (128 : Int32))])) rfl (hb hby at_257) _ ?_
                show Steps p.tables e below (T78.setTop (mkF m 259 #[.val (.int kind), .val (.int a), .val (.int b), .val (.int d), .val (.int (5 : Int32)), .val (.int (2 : Int32)), .val (.ref bb), .val (.int ff), .val (.int (128 : Int32)), .val (.int (191 : Int32)), .unset] [(.int (2147483647 : Int32)), (.int b), (.int (128 : Int32))])) _
                refine XS.iand X78.here hx rfl (hb hby at_259) rfl ?_
                show Steps p.tables e below (T78.setTop (mkF m 260 #[.val (.int kind), .val (.int a), .val (.int b), .val (.int d), .val (.int (5 : Int32)), .val (.int (2 : Int32)), .val (.ref bb), .val (.int ff), .val (.int (128 : Int32)), .val (.int (191 : Int32)), .unset] [(.int (b &&& (2147483647 : Int32))), (.int (128 : Int32))])) _
                refine XS.iload X78.here hx rfl (hb hby at_260) rfl ?_
                show Steps p.tables e below (T78.setTop (mkF m 262 #[.val (.int kind), .val (.int a), .val (.int b), .val (.int d), .val (.int (5 : Int32)), .val (.int (2 : Int32)), .val (.ref bb), .val (.int ff), .val (.int (128 : Int32)), .val (.int (191 : Int32)), .unset] [(.int (191 : Int32)), (.int (b &&& (2147483647 : Int32))), (.int (128 : Int32))])) _
                refine XS.iload X78.here hx rfl (hb hby at_262) rfl ?_
                show Steps p.tables e below (T78.setTop (mkF m 264 #[.val (.int kind), .val (.int a), .val (.int b), .val (.int d), .val (.int (5 : Int32)), .val (.int (2 : Int32)), .val (.ref bb), .val (.int ff), .val (.int (128 : Int32)), .val (.int (191 : Int32)), .unset] [(.int (128 : Int32)), (.int (191 : Int32)), (.int (b &&& (2147483647 : Int32))), (.int (128 : Int32))])) _
                refine XS.isub X78.here hx rfl (hb hby at_264) rfl ?_
                show Steps p.tables e below (T78.setTop (mkF m 265 #[.val (.int kind), .val (.int a), .val (.int b), .val (.int d), .val (.int (5 : Int32)), .val (.int (2 : Int32)), .val (.ref bb), .val (.int ff), .val (.int (128 : Int32)), .val (.int (191 : Int32)), .unset] [(.int ((191 : Int32) - (128 : Int32))), (.int (b &&& (2147483647 : Int32))), (.int (128 : Int32))])) _
                refine XS.iconst X78.here hx rfl (hb hby at_265) ?_
                show Steps p.tables e below (T78.setTop (mkF m 266 #[.val (.int kind), .val (.int a), .val (.int b), .val (.int d), .val (.int (5 : Int32)), .val (.int (2 : Int32)), .val (.ref bb), .val (.int ff), .val (.int (128 : Int32)), .val (.int (191 : Int32)), .unset] [(.int (1 : Int32)), (.int ((191 : Int32) - (128 : Int32))), (.int (b &&& (2147483647 : Int32))), (.int (128 : Int32))])) _
                refine XS.iadd X78.here hx rfl (hb hby at_266) rfl ?_
                exact Steps.refl _)
              have c184 : Steps p.tables e below S0 (T78.setTop (mkF m 268 #[.val (.int kind), .val (.int a), .val (.int b), .val (.int d), .val (.int (5 : Int32)), .val (.int (2 : Int32)), .val (.ref bb), .val (.int ff), .val (.int (128 : Int32)), .val (.int (191 : Int32)), .unset] [(.int ((b &&& (2147483647 : Int32)) % (((191 : Int32) - (128 : Int32)) + (1 : Int32)))), (.int (128 : Int32))])) := c183.trans (by
                refine iremM X78 hx rfl (hb hby at_267) rfl (by decide) ?_
                exact Steps.refl _)
              have c185 : Steps p.tables e below S0 (T78.setTop (mkF m 269 #[.val (.int kind), .val (.int a), .val (.int b), .val (.int d), .val (.int (5 : Int32)), .val (.int (2 : Int32)), .val (.ref bb), .val (.int ff), .val (.int (128 : Int32)), .val (.int (191 : Int32)), .unset] [(.int ((128 : Int32) + ((b &&& (2147483647 : Int32)) % (((191 : Int32) - (128 : Int32)) + (1 : Int32)))))])) := c184.trans (by
                refine XS.iadd X78.here hx rfl (hb hby at_268) rfl ?_
                exact Steps.refl _)
              obtain ⟨ss, hss⟩ : ∃ z : Int32, z = ((128 : Int32) + ((b &&& (2147483647 : Int32)) % (((191 : Int32) - (128 : Int32)) + (1 : Int32)))) := ⟨_, rfl⟩
              rw [← hss] at c185
              have G := own_ss5 hss
              have c186 : Steps p.tables e below S0 (T78.setTop (mkF m 277 #[.val (.int kind), .val (.int a), .val (.int b), .val (.int d), .val (.int (5 : Int32)), .val (.int (2 : Int32)), .val (.ref bb), .val (.int ff), .val (.int (128 : Int32)), .val (.int (191 : Int32)), .val (.int ss)] [(.int (ff.toInt8.toInt32)), (.int (0 : Int32)), (.ref bb)])) := c185.trans (by
                refine XS.istore X78.here hx rfl (hb hby at_269) rfl (l' := #[.val (.int kind), .val (.int a), .val (.int b), .val (.int d), .val (.int (5 : Int32)), .val (.int (2 : Int32)), .val (.ref bb), .val (.int ff), .val (.int (128 : Int32)), .val (.int (191 : Int32)), .val (.int ss)]) rfl ?_
                show Steps p.tables e below (T78.setTop (mkF m 271 #[.val (.int kind), .val (.int a), .val (.int b), .val (.int d), .val (.int (5 : Int32)), .val (.int (2 : Int32)), .val (.ref bb), .val (.int ff), .val (.int (128 : Int32)), .val (.int (191 : Int32)), .val (.int ss)] [])) _
                refine XS.aload X78.here hx rfl (hb hby at_271) rfl rfl ?_
                show Steps p.tables e below (T78.setTop (mkF m 273 #[.val (.int kind), .val (.int a), .val (.int b), .val (.int d), .val (.int (5 : Int32)), .val (.int (2 : Int32)), .val (.ref bb), .val (.int ff), .val (.int (128 : Int32)), .val (.int (191 : Int32)), .val (.int ss)] [(.ref bb)])) _
                refine XS.iconst X78.here hx rfl (hb hby at_273) ?_
                show Steps p.tables e below (T78.setTop (mkF m 274 #[.val (.int kind), .val (.int a), .val (.int b), .val (.int d), .val (.int (5 : Int32)), .val (.int (2 : Int32)), .val (.ref bb), .val (.int ff), .val (.int (128 : Int32)), .val (.int (191 : Int32)), .val (.int ss)] [(.int (0 : Int32)), (.ref bb)])) _
                refine XS.iload X78.here hx rfl (hb hby at_274) rfl ?_
                show Steps p.tables e below (T78.setTop (mkF m 276 #[.val (.int kind), .val (.int a), .val (.int b), .val (.int d), .val (.int (5 : Int32)), .val (.int (2 : Int32)), .val (.ref bb), .val (.int ff), .val (.int (128 : Int32)), .val (.int (191 : Int32)), .val (.int ss)] [(.int ff), (.int (0 : Int32)), (.ref bb)])) _
                refine XS.i2b X78.here hx rfl (hb hby at_276) rfl ?_
                exact Steps.refl _)
              obtain ⟨cl187, Ac187, hcl187⟩ := B78
              obtain ⟨T188, h188, X188, e188, W188, st188⟩ := stB X78 hx hZ e78 Ac187 (j := (0 : Int32)) (by rw [hcl187]; exact own_in4 (by decide)) (g := (mkF m 277 #[.val (.int kind), .val (.int a), .val (.int b), .val (.int d), .val (.int (5 : Int32)), .val (.int (2 : Int32)), .val (.ref bb), .val (.int ff), .val (.int (128 : Int32)), .val (.int (191 : Int32)), .val (.int ss)] [(.int (ff.toInt8.toInt32)), (.int (0 : Int32)), (.ref bb)])) rfl rfl (hb hby at_277)
              have c189 : Steps p.tables e below S0 (T188.setTop (mkF m 278 #[.val (.int kind), .val (.int a), .val (.int b), .val (.int d), .val (.int (5 : Int32)), .val (.int (2 : Int32)), .val (.ref bb), .val (.int ff), .val (.int (128 : Int32)), .val (.int (191 : Int32)), .val (.int ss)] [])) := c186.trans (by
                refine st188 _ ?_
                exact Steps.refl _)
              have B188 : own_BA Z h188 bb (nar .byte (ff.toInt8.toInt32)) 0 0 0 := ⟨_, Ac187.same W188, by simp [Cell.setSlot, hcl187]⟩
              have N188 := Fr.snoc X188 N0 g_b
              have Z188 : n0 ≤ h188.size := by rw [W188.size]; exact Z78
              have c190 : Steps p.tables e below S0 (T188.setTop (mkF m 284 #[.val (.int kind), .val (.int a), .val (.int b), .val (.int d), .val (.int (5 : Int32)), .val (.int (2 : Int32)), .val (.ref bb), .val (.int ff), .val (.int (128 : Int32)), .val (.int (191 : Int32)), .val (.int ss)] [(.int (ss.toInt8.toInt32)), (.int (1 : Int32)), (.ref bb)])) := c189.trans (by
                refine XS.aload X188.here hx rfl (hb hby at_278) rfl rfl ?_
                show Steps p.tables e below (T188.setTop (mkF m 280 #[.val (.int kind), .val (.int a), .val (.int b), .val (.int d), .val (.int (5 : Int32)), .val (.int (2 : Int32)), .val (.ref bb), .val (.int ff), .val (.int (128 : Int32)), .val (.int (191 : Int32)), .val (.int ss)] [(.ref bb)])) _
                refine XS.iconst X188.here hx rfl (hb hby at_280) ?_
                show Steps p.tables e below (T188.setTop (mkF m 281 #[.val (.int kind), .val (.int a), .val (.int b), .val (.int d), .val (.int (5 : Int32)), .val (.int (2 : Int32)), .val (.ref bb), .val (.int ff), .val (.int (128 : Int32)), .val (.int (191 : Int32)), .val (.int ss)] [(.int (1 : Int32)), (.ref bb)])) _
                refine XS.iload X188.here hx rfl (hb hby at_281) rfl ?_
                show Steps p.tables e below (T188.setTop (mkF m 283 #[.val (.int kind), .val (.int a), .val (.int b), .val (.int d), .val (.int (5 : Int32)), .val (.int (2 : Int32)), .val (.ref bb), .val (.int ff), .val (.int (128 : Int32)), .val (.int (191 : Int32)), .val (.int ss)] [(.int ss), (.int (1 : Int32)), (.ref bb)])) _
                refine XS.i2b X188.here hx rfl (hb hby at_283) rfl ?_
                exact Steps.refl _)
              obtain ⟨cl191, Ac191, hcl191⟩ := B188
              obtain ⟨T192, h192, X192, e192, W192, st192⟩ := stB X188 hx hZ e188 Ac191 (j := (1 : Int32)) (by rw [hcl191]; exact own_in4 (by decide)) (g := (mkF m 284 #[.val (.int kind), .val (.int a), .val (.int b), .val (.int d), .val (.int (5 : Int32)), .val (.int (2 : Int32)), .val (.ref bb), .val (.int ff), .val (.int (128 : Int32)), .val (.int (191 : Int32)), .val (.int ss)] [(.int (ss.toInt8.toInt32)), (.int (1 : Int32)), (.ref bb)])) rfl rfl (hb hby at_284)
              have c193 : Steps p.tables e below S0 (T192.setTop (mkF m 285 #[.val (.int kind), .val (.int a), .val (.int b), .val (.int d), .val (.int (5 : Int32)), .val (.int (2 : Int32)), .val (.ref bb), .val (.int ff), .val (.int (128 : Int32)), .val (.int (191 : Int32)), .val (.int ss)] [])) := c190.trans (by
                refine st192 _ ?_
                exact Steps.refl _)
              have B192 : own_BA Z h192 bb (nar .byte (ff.toInt8.toInt32)) (nar .byte (ss.toInt8.toInt32)) 0 0 := ⟨_, Ac191.same W192, by simp [Cell.setSlot, hcl191]⟩
              have N192 := Fr.snoc X192 N188 g_b
              have Z192 : n0 ≤ h192.size := by rw [W192.size]; exact Z188
              have c194 : Steps p.tables e below S0 (T192.setTop (mkF m 288 #[.val (.int kind), .val (.int a), .val (.int b), .val (.int d), .val (.int (5 : Int32)), .val (.int (2 : Int32)), .val (.ref bb), .val (.int ff), .val (.int (128 : Int32)), .val (.int (191 : Int32)), .val (.int ss)] [(.int (3 : Int32)), (.int (2 : Int32))])) := c193.trans (by
                refine XS.iload X192.here hx rfl (hb hby at_285) rfl ?_
                show Steps p.tables e below (T192.setTop (mkF m 287 #[.val (.int kind), .val (.int a), .val (.int b), .val (.int d), .val (.int (5 : Int32)), .val (.int (2 : Int32)), .val (.ref bb), .val (.int ff), .val (.int (128 : Int32)), .val (.int (191 : Int32)), .val (.int ss)] [(.int (2 : Int32))])) _
                refine XS.iconst X192.here hx rfl (hb hby at_287) ?_
                exact Steps.refl _)
              have c195 : Steps p.tables e below S0 (T192.setTop (mkF m 304 #[.val (.int kind), .val (.int a), .val (.int b), .val (.int d), .val (.int (5 : Int32)), .val (.int (2 : Int32)), .val (.ref bb), .val (.int ff), .val (.int (128 : Int32)), .val (.int (191 : Int32)), .val (.int ss)] [])) := c194.trans (by
                refine XS.icmpYes X192.here hx rfl (pc0 := 288) (pc' := 304) rfl (hb hby at_288) rfl (feq (by decide)).2 (by decide) (by decide) ?_
                exact Steps.refl _)
              have c196 : Steps p.tables e below S0 (T192.setTop (mkF m 307 #[.val (.int kind), .val (.int a), .val (.int b), .val (.int d), .val (.int (5 : Int32)), .val (.int (2 : Int32)), .val (.ref bb), .val (.int ff), .val (.int (128 : Int32)), .val (.int (191 : Int32)), .val (.int ss)] [(.int (0 : Int32)), (.ref bb)])) := c195.trans (by
                refine XS.aload X192.here hx rfl (hb hby at_304) rfl rfl ?_
                show Steps p.tables e below (T192.setTop (mkF m 306 #[.val (.int kind), .val (.int a), .val (.int b), .val (.int d), .val (.int (5 : Int32)), .val (.int (2 : Int32)), .val (.ref bb), .val (.int ff), .val (.int (128 : Int32)), .val (.int (191 : Int32)), .val (.int ss)] [(.ref bb)])) _
                refine XS.iconst X192.here hx rfl (hb hby at_306) ?_
                exact Steps.refl _)
              have J := own_J5 hf224 hf237 hf240 hf244 G.1 G.2
              have hu : ¬ (((nar .byte (ff.toInt8.toInt32)) &&& 255) < 128) := own_f2u (by omega) F.2
              have hr : own_run ((nar .byte (ff.toInt8.toInt32)) &&& 255) ((nar .byte (ss.toInt8.toInt32)) &&& 255) (0 &&& 255) (0 &&& 255) = -2 := own_f2r F.1 F.2 J
              obtain ⟨_, _, ⟨T197, L197, k197, n197⟩, -, X197, ⟨Lc197, hQ197, l197, y197, z197⟩, st197⟩ := Jvm.LawKit.callS X192 hx (y := (⟨"com/example/coersa/coersa/Utf8", "characterAt", "([BI)I"⟩ : MethodName)) hown (mvT hZ (hw _ (List.mem_of_getElem? (i := 6) rfl))) (mvT hZ (hw _ (List.mem_of_getElem? (i := 7) rfl))) (mvT hZ (hw _ (List.mem_of_getElem? (i := 3) rfl))) (mvT hZ (hw _ (List.mem_of_getElem? (i := 8) rfl))) (by decide) (backOf (W := 0) (own_cat2 l Z a0 hw [] bb 0 (nar .byte (ff.toInt8.toInt32)) (nar .byte (ss.toInt8.toInt32)) 0 0 h192 n0 Z192 rfl B192 hu hr) hZ (hw _ (List.mem_of_getElem? (i := 8) rfl)) (hw _ (List.mem_of_getElem? (i := 3) rfl)) (by decide) (by decide)) (g := (mkF m 307 #[.val (.int kind), .val (.int a), .val (.int b), .val (.int d), .val (.int (5 : Int32)), .val (.int (2 : Int32)), .val (.ref bb), .val (.int ff), .val (.int (128 : Int32)), .val (.int (191 : Int32)), .val (.int ss)] [(.int (0 : Int32)), (.ref bb)])) rfl (by rw [hml]; rfl) (argsL := [(.ref bb), (.int (0 : Int32))]) (rest := []) (lenOf own_pd0 rfl) rfl (by show 2 * 0 + _ ≤ _; exact Nat.le_of_eq rfl) (hb hby at_307) (fun _ _ => ⟨rfl, e192, (Nat.le_of_ble_eq_true rfl), (Nat.le_of_ble_eq_true rfl)⟩)
              dsimp only [Pt.U, Pt.locs, Pt.cells, Pt.slots] at X197 l197 y197 z197 st197 hQ197
              subst l197 y197 z197
              obtain ⟨rfl, N197q, ec⟩ := hQ197
              have N197 := Fr.app N192 N197q
              have c198 : Steps p.tables e below S0 (T197.setTop (mkF m 310 #[.val (.int kind), .val (.int a), .val (.int b), .val (.int d), .val (.int (5 : Int32)), .val (.int (2 : Int32)), .val (.ref bb), .val (.int ff), .val (.int (128 : Int32)), .val (.int (191 : Int32)), .val (.int ss)] [(.int (own_ca2 (nar .byte (ff.toInt8.toInt32)) (nar .byte (ss.toInt8.toInt32)) 0))])) := c196.trans (by
                refine st197 _ ?_
                exact Steps.refl _)
              have Zc : n0 ≤ T197.heap.size := by rw [ec]; exact Z192
              obtain ⟨_, _, ⟨T199, L199, k199, n199⟩, -, X199, ⟨Lc199, hQ199, l199, y199, z199⟩, st199⟩ := Jvm.LawKit.callS X197 hx (y := (⟨"com/example/coersa/coersa/Utf8", "byteCount", "(I)I"⟩ : MethodName)) hown (mvT hZ (hw _ (List.mem_of_getElem? (i := 1) rfl))) (mvT hZ (hw _ (List.mem_of_getElem? (i := 2) rfl))) (mvT hZ (hw _ (List.mem_of_getElem? (i := 3) rfl))) (mvT hZ (hw _ (List.mem_of_getElem? (i := 4) rfl))) (by decide) (backOf (W := 0) (own_bct l Z a0 hw [] (own_ca2 (nar .byte (ff.toInt8.toInt32)) (nar .byte (ss.toInt8.toInt32)) 0) T197.heap n0 Zc) hZ (hw _ (List.mem_of_getElem? (i := 4) rfl)) (hw _ (List.mem_of_getElem? (i := 3) rfl)) (by decide) (by decide)) (g := (mkF m 310 #[.val (.int kind), .val (.int a), .val (.int b), .val (.int d), .val (.int (5 : Int32)), .val (.int (2 : Int32)), .val (.ref bb), .val (.int ff), .val (.int (128 : Int32)), .val (.int (191 : Int32)), .val (.int ss)] [(.int (own_ca2 (nar .byte (ff.toInt8.toInt32)) (nar .byte (ss.toInt8.toInt32)) 0))])) rfl (by rw [hml]; rfl) (argsL := [(.int (own_ca2 (nar .byte (ff.toInt8.toInt32)) (nar .byte (ss.toInt8.toInt32)) 0))]) (rest := []) (lenOf own_pd1 rfl) rfl (by show 2 * 0 + _ ≤ _; exact Nat.le_of_eq rfl) (hb hby at_310) (fun _ _ => ⟨rfl, rfl, (Nat.le_of_ble_eq_true rfl), (Nat.le_of_ble_eq_true rfl)⟩)
              dsimp only [Pt.U, Pt.locs, Pt.cells, Pt.slots] at X199 l199 y199 z199 st199 hQ199
              subst l199 y199 z199
              obtain ⟨rfl, N199q, eb⟩ := hQ199
              have N199 := Fr.app N197 N199q
              have c200 : Steps p.tables e below S0 (T199.setTop (mkF m 313 #[.val (.int kind), .val (.int a), .val (.int b), .val (.int d), .val (.int (5 : Int32)), .val (.int (2 : Int32)), .val (.ref bb), .val (.int ff), .val (.int (128 : Int32)), .val (.int (191 : Int32)), .val (.int ss)] [(.int (own_bc (own_ca2 (nar .byte (ff.toInt8.toInt32)) (nar .byte (ss.toInt8.toInt32)) 0)))])) := c198.trans (by
                refine st199 _ ?_
                exact Steps.refl _)
              have c201 : Steps p.tables e below S0 (T199.setTop (mkF m 315 #[.val (.int kind), .val (.int a), .val (.int b), .val (.int d), .val (.int (5 : Int32)), .val (.int (2 : Int32)), .val (.ref bb), .val (.int ff), .val (.int (128 : Int32)), .val (.int (191 : Int32)), .val (.int ss)] [(.int (2 : Int32)), (.int (own_bc (own_ca2 (nar .byte (ff.toInt8.toInt32)) (nar .byte (ss.toInt8.toInt32)) 0)))])) := c200.trans (by
                refine XS.iload X199.here hx rfl (hb hby at_313) rfl ?_
                exact Steps.refl _)
              have c202 : Steps p.tables e below S0 (T199.setTop (mkF m 318 #[.val (.int kind), .val (.int a), .val (.int b), .val (.int d), .val (.int (5 : Int32)), .val (.int (2 : Int32)), .val (.ref bb), .val (.int ff), .val (.int (128 : Int32)), .val (.int (191 : Int32)), .val (.int ss)] [])) := c201.trans (by
                refine XS.icmpNo X199.here hx rfl (hb hby at_315) rfl (teq (own_f2v F.1 F.2 _ _)).2 ?_
                exact Steps.refl _)
              have c203 : Steps p.tables e below S0 (T199.setTop (mkF m 323 #[.val (.int kind), .val (.int a), .val (.int b), .val (.int d), .val (.int (5 : Int32)), .val (.int (2 : Int32)), .val (.ref bb), .val (.int ff), .val (.int (128 : Int32)), .val (.int (191 : Int32)), .val (.int ss)] [(.int (1 : Int32))])) := c202.trans (by
                refine XS.iconst X199.here hx rfl (hb hby at_318) ?_
                show Steps p.tables e below (T199.setTop (mkF m 319 #[.val (.int kind), .val (.int a), .val (.int b), .val (.int d), .val (.int (5 : Int32)), .val (.int (2 : Int32)), .val (.ref bb), .val (.int ff), .val (.int (128 : Int32)), .val (.int (191 : Int32)), .val (.int ss)] [(.int (1 : Int32))])) _
                refine XS.goto X199.here hx rfl (pc0 := 319) (pc' := 323) rfl (hb hby at_319) (by decide) (by decide) ?_
                exact Steps.refl _)
              obtain ⟨fs, hr, hrun, hended, hW, hsame⟩ := X199.leave (v := some (.int (1 : Int32))) (fun h => by rw [Bd.returns] at h; cases h)
              exact ⟨_, _, c203.trans (retN X199 hx (t := .boolean) Bd.returns (by simp) (hb hby at_323) hr), hrun, hended, _, _, rfl, ⟨rfl, N199⟩, ⟨_, rfl⟩, hW, hsame.mono (by decide) (by decide)⟩
    · rw [hk4] at c49
      have c204 : Steps p.tables e below S0 (s₁.setTop (mkF m 112 #[.val (.int kind), .val (.int a), .val (.int b), .val (.int d), .val (.int (6 : Int32)), .unset, .unset, .unset, .unset, .unset, .unset] [(.int (3 : Int32)), (.int ((6 : Int32) - (4 : Int32)))])) := c49.trans (by
        refine XS.iload X0.here hx rfl (hb hby at_107) rfl ?_
        show Steps p.tables e below (s₁.setTop (mkF m 109 #[.val (.int kind), .val (.int a), .val (.int b), .val (.int d), .val (.int (6 : Int32)), .unset, .unset, .unset, .unset, .unset, .unset] [(.int (6 : Int32))])) _
        refine XS.iconst X0.here hx rfl (hb hby at_109) ?_
        show Steps p.tables e below (s₁.setTop (mkF m 110 #[.val (.int kind), .val (.int a), .val (.int b), .val (.int d), .val (.int (6 : Int32)), .unset, .unset, .unset, .unset, .unset, .unset] [(.int (4 : Int32)), (.int (6 : Int32))])) _
        refine XS.isub X0.here hx rfl (hb hby at_110) rfl ?_
        show Steps p.tables e below (s₁.setTop (mkF m 111 #[.val (.int kind), .val (.int a), .val (.int b), .val (.int d), .val (.int (6 : Int32)), .unset, .unset, .unset, .unset, .unset, .unset] [(.int ((6 : Int32) - (4 : Int32)))])) _
        refine XS.iconst X0.here hx rfl (hb hby at_111) ?_
        exact Steps.refl _)
      have c205 : Steps p.tables e below S0 (s₁.setTop (mkF m 113 #[.val (.int kind), .val (.int a), .val (.int b), .val (.int d), .val (.int (6 : Int32)), .unset, .unset, .unset, .unset, .unset, .unset] [(.int (((6 : Int32) - (4 : Int32)) % (3 : Int32)))])) := c204.trans (by
        refine iremM X0 hx rfl (hb hby at_112) rfl (by decide) ?_
        exact Steps.refl _)
      have c206 : Steps p.tables e below S0 (s₁.setTop (mkF m 115 #[.val (.int kind), .val (.int a), .val (.int b), .val (.int d), .val (.int (6 : Int32)), .unset, .unset, .unset, .unset, .unset, .unset] [(.int ((((6 : Int32) - (4 : Int32)) % (3 : Int32)) + (1 : Int32)))])) := c205.trans (by
        refine XS.iconst X0.here hx rfl (hb hby at_113) ?_
        show Steps p.tables e below (s₁.setTop (mkF m 114 #[.val (.int kind), .val (.int a), .val (.int b), .val (.int d), .val (.int (6 : Int32)), .unset, .unset, .unset, .unset, .unset, .unset] [(.int (1 : Int32)), (.int (((6 : Int32) - (4 : Int32)) % (3 : Int32)))])) _
        refine XS.iadd X0.here hx rfl (hb hby at_114) rfl ?_
        exact Steps.refl _)
      rw [(show ((((6 : Int32) - (4 : Int32)) % (3 : Int32)) + (1 : Int32)) = 3 by decide)] at c206
      have c207 : Steps p.tables e below S0 (s₁.setTop (mkF m 118 #[.val (.int kind), .val (.int a), .val (.int b), .val (.int d), .val (.int (6 : Int32)), .val (.int (3 : Int32)), .unset, .unset, .unset, .unset, .unset] [(.int (4 : Int32))])) := c206.trans (by
        refine XS.istore X0.here hx rfl (hb hby at_115) rfl (l' := #[.val (.int kind), .val (.int a), .val (.int b), .val (.int d), .val (.int (6 : Int32)), .val (.int (3 : Int32)), .unset, .unset, .unset, .unset, .unset]) rfl ?_
        show Steps p.tables e below (s₁.setTop (mkF m 117 #[.val (.int kind), .val (.int a), .val (.int b), .val (.int d), .val (.int (6 : Int32)), .val (.int (3 : Int32)), .unset, .unset, .unset, .unset, .unset] [])) _
        refine XS.iconst X0.here hx rfl (hb hby at_117) ?_
        exact Steps.refl _)
      obtain ⟨T208, h208, k208, X208, e208, E208, A208, st208⟩ := newP X0 hx hZ (hw _ (List.mem_of_getElem? (i := 5) rfl)) e0 (g := (mkF m 118 #[.val (.int kind), .val (.int a), .val (.int b), .val (.int d), .val (.int (6 : Int32)), .val (.int (3 : Int32)), .unset, .unset, .unset, .unset, .unset] [(.int (4 : Int32))])) rfl (hb hby at_118) rfl (by decide) (cap := 4) (by decide) (by decide) (by decide) (by decide)
      obtain ⟨bb, gb⟩ : ∃ z, z = h0.size := ⟨_, rfl⟩
      rw [← gb] at A208 st208
      have B208 : own_BA Z h208 bb 0 0 0 0 := ⟨_, A208, rfl⟩
      have g_b : n0 ≤ bb := gb ▸ Z0
      have Z208 : n0 ≤ h208.size := Nat.le_trans Z0 E208.1
      have c209 : Steps p.tables e below S0 (T208.setTop (mkF m 120 #[.val (.int kind), .val (.int a), .val (.int b), .val (.int d), .val (.int (6 : Int32)), .val (.int (3 : Int32)), .unset, .unset, .unset, .unset, .unset] [(.ref bb)])) := c207.trans (by
        refine st208 _ ?_
        exact Steps.refl _)
      have c210 : Steps p.tables e below S0 (T208.setTop (mkF m 125 #[.val (.int kind), .val (.int a), .val (.int b), .val (.int d), .val (.int (6 : Int32)), .val (.int (3 : Int32)), .val (.ref bb), .unset, .unset, .unset, .unset] [(.int (1 : Int32)), (.int (3 : Int32))])) := c209.trans (by
        refine XS.astore X208.here hx rfl (hb hby at_120) rfl rfl (l' := #[.val (.int kind), .val (.int a), .val (.int b), .val (.int d), .val (.int (6 : Int32)), .val (.int (3 : Int32)), .val (.ref bb), .unset, .unset, .unset, .unset]) rfl ?_
        show Steps p.tables e below (T208.setTop (mkF m 122 #[.val (.int kind), .val (.int a), .val (.int b), .val (.int d), .val (.int (6 : Int32)), .val (.int (3 : Int32)), .val (.ref bb), .unset, .unset, .unset, .unset] [])) _
        refine XS.iload X208.here hx rfl (hb hby at_122) rfl ?_
        show Steps p.tables e below (T208.setTop (mkF m 124 #[.val (.int kind), .val (.int a), .val (.int b), .val (.int d), .val (.int (6 : Int32)), .val (.int (3 : Int32)), .val (.ref bb), .unset, .unset, .unset, .unset] [(.int (3 : Int32))])) _
        refine XS.iconst X208.here hx rfl (hb hby at_124) ?_
        exact Steps.refl _)
      have c211 : Steps p.tables e below S0 (T208.setTop (mkF m 149 #[.val (.int kind), .val (.int a), .val (.int b), .val (.int d), .val (.int (6 : Int32)), .val (.int (3 : Int32)), .val (.ref bb), .unset, .unset, .unset, .unset] [])) := c210.trans (by
        refine XS.icmpYes X208.here hx rfl (pc0 := 125) (pc' := 149) rfl (hb hby at_125) rfl (feq (by decide)).2 (by decide) (by decide) ?_
        exact Steps.refl _)
      have c212 : Steps p.tables e below S0 (T208.setTop (mkF m 152 #[.val (.int kind), .val (.int a), .val (.int b), .val (.int d), .val (.int (6 : Int32)), .val (.int (3 : Int32)), .val (.ref bb), .unset, .unset, .unset, .unset] [(.int (2 : Int32)), (.int (3 : Int32))])) := c211.trans (by
        refine XS.iload X208.here hx rfl (hb hby at_149) rfl ?_
        show Steps p.tables e below (T208.setTop (mkF m 151 #[.val (.int kind), .val (.int a), .val (.int b), .val (.int d), .val (.int (6 : Int32)), .val (.int (3 : Int32)), .val (.ref bb), .unset, .unset, .unset, .unset] [(.int (3 : Int32))])) _
        refine XS.iconst X208.here hx rfl (hb hby at_151) ?_
        exact Steps.refl _)
      have c213 : Steps p.tables e below S0 (T208.setTop (mkF m 171 #[.val (.int kind), .val (.int a), .val (.int b), .val (.int d), .val (.int (6 : Int32)), .val (.int (3 : Int32)), .val (.ref bb), .unset, .unset, .unset, .unset] [])) := c212.trans (by
        refine XS.icmpYes X208.here hx rfl (pc0 := 152) (pc' := 171) rfl (hb hby at_152) rfl (feq (by decide)).2 (by decide) (by decide) ?_
        exact Steps.refl _)
      have c214 : Steps p.tables e below S0 (T208.setTop (mkF m 179 #[.val (.int kind), .val (.int a), .val (.int b), .val (.int d), .val (.int (6 : Int32)), .val (.int (3 : Int32)), .val (.ref bb), .unset, .unset, .unset, .unset] [(.int (5 : Int32)), (.int (a &&& (2147483647 : Int32))), (.int (240 : Int32))])) := c213.trans (by
        refine XS.sipush X208.here hx rfl (hb hby at_171) ?_
        show Steps p.tables e below (T208.setTop (mkF m 174 #[.val (.int kind), .val (.int a), .val (.int b), .val (.int d), .val (.int (6 : Int32)), .val (.int (3 : Int32)), .val (.ref bb), .unset, .unset, .unset, .unset] [(.int (240 : Int32))])) _
        refine XS.iloadN X208.here hx rfl (hb hby at_174) rfl ?_
        show Steps p.tables e below (T208.setTop (mkF m 175 #[.val (.int kind), .val (.int a), .val (.int b), .val (.int d), .val (.int (6 : Int32)), .val (.int (3 : Int32)), .val (.ref bb), .unset, .unset, .unset, .unset] [(.int a), (.int (240 : Int32))])) _
        refine X208.ldcInt hx hown (mvT hZ (hw _ (List.mem_of_getElem? (i := 0) rfl))) (g := (mkF m 175 #[.val (.int kind), .val (.int a), .val (.int b), .val (.int d), .val (.int (6 : Int32)), .val (.int (3 : Int32)), .val (.ref bb), .unset, .unset, .unset, .unset] [(.int a), (.int (240 : Int32))])) rfl (hb hby at_175) _ ?_
        show Steps p.tables e below (T208.setTop (mkF m 177 #[.val (.int kind), .val (.int a), .val (.int b), .val (.int d), .val (.int (6 : Int32)), .val (.int (3 : Int32)), .val (.ref bb), .unset, .unset, .unset, .unset] [(.int (2147483647 : Int32)), (.int a), (.int (240 : Int32))])) _
        refine XS.iand X208.here hx rfl (hb hby at_177) rfl ?_
        show Steps p.tables e below (T208.setTop (mkF m 178 #[.val (.int kind), .val (.int a), .val (.int b), .val (.int d), .val (.int (6 : Int32)), .val (.int (3 : Int32)), .val (.ref bb), .unset, .unset, .unset, .unset] [(.int (a &&& (2147483647 : Int32))), (.int (240 : Int32))])) _
        refine XS.iconst X208.here hx rfl (hb hby at_178) ?_
        exact Steps.refl _)
      have c215 : Steps p.tables e below S0 (T208.setTop (mkF m 180 #[.val (.int kind), .val (.int a), .val (.int b), .val (.int d), .val (.int (6 : Int32)), .val (.int (3 : Int32)), .val (.ref bb), .unset, .unset, .unset, .unset] [(.int ((a &&& (2147483647 : Int32)) % (5 : Int32))), (.int (240 : Int32))])) := c214.trans (by
        refine iremM X208 hx rfl (hb hby at_179) rfl (by decide) ?_
        exact Steps.refl _)
      have c216 : Steps p.tables e below S0 (T208.setTop (mkF m 181 #[.val (.int kind), .val (.int a), .val (.int b), .val (.int d), .val (.int (6 : Int32)), .val (.int (3 : Int32)), .val (.ref bb), .unset, .unset, .unset, .unset] [(.int ((240 : Int32) + ((a &&& (2147483647 : Int32)) % (5 : Int32))))])) := c215.trans (by
        refine XS.iadd X208.here hx rfl (hb hby at_180) rfl ?_
        exact Steps.refl _)
      obtain ⟨ff, hff⟩ : ∃ z : Int32, z = ((240 : Int32) + ((a &&& (2147483647 : Int32)) % (5 : Int32))) := ⟨_, rfl⟩
      rw [← hff] at c216
      have F := own_ff3 hff
      have c217 : Steps p.tables e below S0 (T208.setTop (mkF m 198 #[.val (.int kind), .val (.int a), .val (.int b), .val (.int d), .val (.int (6 : Int32)), .val (.int (3 : Int32)), .val (.ref bb), .val (.int ff), .val (.int (128 : Int32)), .val (.int (191 : Int32)), .unset] [(.int (224 : Int32)), (.int ff)])) := c216.trans (by
        refine XS.istore X208.here hx rfl (hb hby at_181) rfl (l' := #[.val (.int kind), .val (.int a), .val (.int b), .val (.int d), .val (.int (6 : Int32)), .val (.int (3 : Int32)), .val (.ref bb), .val (.int ff), .unset, .unset, .unset]) rfl ?_
        show Steps p.tables e below (T208.setTop (mkF m 183 #[.val (.int kind), .val (.int a), .val (.int b), .val (.int d), .val (.int (6 : Int32)), .val (.int (3 : Int32)), .val (.ref bb), .val (.int ff), .unset, .unset, .unset] [])) _
        refine XS.sipush X208.here hx rfl (hb hby at_183) ?_
        show Steps p.tables e below (T208.setTop (mkF m 186 #[.val (.int kind), .val (.int a), .val (.int b), .val (.int d), .val (.int (6 : Int32)), .val (.int (3 : Int32)), .val (.ref bb), .val (.int ff), .unset, .unset, .unset] [(.int (128 : Int32))])) _
        refine XS.istore X208.here hx rfl (hb hby at_186) rfl (l' := #[.val (.int kind), .val (.int a), .val (.int b), .val (.int d), .val (.int (6 : Int32)), .val (.int (3 : Int32)), .val (.ref bb), .val (.int ff), .val (.int (128 : Int32)), .unset, .unset]) rfl ?_
        show Steps p.tables e below (T208.setTop (mkF m 188 #[.val (.int kind), .val (.int a), .val (.int b), .val (.int d), .val (.int (6 : Int32)), .val (.int (3 : Int32)), .val (.ref bb), .val (.int ff), .val (.int (128 : Int32)), .unset, .unset] [])) _
        refine XS.sipush X208.here hx rfl (hb hby at_188) ?_
        show Steps p.tables e below (T208.setTop (mkF m 191 #[.val (.int kind), .val (.int a), .val (.int b), .val (.int d), .val (.int (6 : Int32)), .val (.int (3 : Int32)), .val (.ref bb), .val (.int ff), .val (.int (128 : Int32)), .unset, .unset] [(.int (191 : Int32))])) _
        refine XS.istore X208.here hx rfl (hb hby at_191) rfl (l' := #[.val (.int kind), .val (.int a), .val (.int b), .val (.int d), .val (.int (6 : Int32)), .val (.int (3 : Int32)), .val (.ref bb), .val (.int ff), .val (.int (128 : Int32)), .val (.int (191 : Int32)), .unset]) rfl ?_
        show Steps p.tables e below (T208.setTop (mkF m 193 #[.val (.int kind), .val (.int a), .val (.int b), .val (.int d), .val (.int (6 : Int32)), .val (.int (3 : Int32)), .val (.ref bb), .val (.int ff), .val (.int (128 : Int32)), .val (.int (191 : Int32)), .unset] [])) _
        refine XS.iload X208.here hx rfl (hb hby at_193) rfl ?_
        show Steps p.tables e below (T208.setTop (mkF m 195 #[.val (.int kind), .val (.int a), .val (.int b), .val (.int d), .val (.int (6 : Int32)), .val (.int (3 : Int32)), .val (.ref bb), .val (.int ff), .val (.int (128 : Int32)), .val (.int (191 : Int32)), .unset] [(.int ff)])) _
        refine XS.sipush X208.here hx rfl (hb hby at_195) ?_
        exact Steps.refl _)
      by_cases hf224 : ff = (224 : Int32)
      · have c218 : Steps p.tables e below S0 (T208.setTop (mkF m 201 #[.val (.int kind), .val (.int a), .val (.int b), .val (.int d), .val (.int (6 : Int32)), .val (.int (3 : Int32)), .val (.ref bb), .val (.int ff), .val (.int (128 : Int32)), .val (.int (191 : Int32)), .unset] [])) := c217.trans (by
          refine XS.icmpNo X208.here hx rfl (hb hby at_198) rfl (teq hf224).2 ?_
          exact Steps.refl _)
        exact absurd F (own_nof1 hf224)
      · have c219 : Steps p.tables e below S0 (T208.setTop (mkF m 209 #[.val (.int kind), .val (.int a), .val (.int b), .val (.int d), .val (.int (6 : Int32)), .val (.int (3 : Int32)), .val (.ref bb), .val (.int ff), .val (.int (128 : Int32)), .val (.int (191 : Int32)), .unset] [])) := c217.trans (by
          refine XS.icmpYes X208.here hx rfl (pc0 := 198) (pc' := 209) rfl (hb hby at_198) rfl (feq hf224).2 (by decide) (by decide) ?_
          exact Steps.refl _)
        have c220 : Steps p.tables e below S0 (T208.setTop (mkF m 214 #[.val (.int kind), .val (.int a), .val (.int b), .val (.int d), .val (.int (6 : Int32)), .val (.int (3 : Int32)), .val (.ref bb), .val (.int ff), .val (.int (128 : Int32)), .val (.int (191 : Int32)), .unset] [(.int (237 : Int32)), (.int ff)])) := c219.trans (by
          refine XS.iload X208.here hx rfl (hb hby at_209) rfl ?_
          show Steps p.tables e below (T208.setTop (mkF m 211 #[.val (.int kind), .val (.int a), .val (.int b), .val (.int d), .val (.int (6 : Int32)), .val (.int (3 : Int32)), .val (.ref bb), .val (.int ff), .val (.int (128 : Int32)), .val (.int (191 : Int32)), .unset] [(.int ff)])) _
          refine XS.sipush X208.here hx rfl (hb hby at_211) ?_
          exact Steps.refl _)
        by_cases hf237 : ff = (237 : Int32)
        · have c221 : Steps p.tables e below S0 (T208.setTop (mkF m 217 #[.val (.int kind), .val (.int a), .val (.int b), .val (.int d), .val (.int (6 : Int32)), .val (.int (3 : Int32)), .val (.ref bb), .val (.int ff), .val (.int (128 : Int32)), .val (.int (191 : Int32)), .unset] [])) := c220.trans (by
            refine XS.icmpNo X208.here hx rfl (hb hby at_214) rfl (teq hf237).2 ?_
            exact Steps.refl _)
          exact absurd F (own_nof2 hf237)
        · have c222 : Steps p.tables e below S0 (T208.setTop (mkF m 225 #[.val (.int kind), .val (.int a), .val (.int b), .val (.int d), .val (.int (6 : Int32)), .val (.int (3 : Int32)), .val (.ref bb), .val (.int ff), .val (.int (128 : Int32)), .val (.int (191 : Int32)), .unset] [])) := c220.trans (by
            refine XS.icmpYes X208.here hx rfl (pc0 := 214) (pc' := 225) rfl (hb hby at_214) rfl (feq hf237).2 (by decide) (by decide) ?_
            exact Steps.refl _)
          have c223 : Steps p.tables e below S0 (T208.setTop (mkF m 230 #[.val (.int kind), .val (.int a), .val (.int b), .val (.int d), .val (.int (6 : Int32)), .val (.int (3 : Int32)), .val (.ref bb), .val (.int ff), .val (.int (128 : Int32)), .val (.int (191 : Int32)), .unset] [(.int (240 : Int32)), (.int ff)])) := c222.trans (by
            refine XS.iload X208.here hx rfl (hb hby at_225) rfl ?_
            show Steps p.tables e below (T208.setTop (mkF m 227 #[.val (.int kind), .val (.int a), .val (.int b), .val (.int d), .val (.int (6 : Int32)), .val (.int (3 : Int32)), .val (.ref bb), .val (.int ff), .val (.int (128 : Int32)), .val (.int (191 : Int32)), .unset] [(.int ff)])) _
            refine XS.sipush X208.here hx rfl (hb hby at_227) ?_
            exact Steps.refl _)
          by_cases hf240 : ff = (240 : Int32)
          · have c224 : Steps p.tables e below S0 (T208.setTop (mkF m 233 #[.val (.int kind), .val (.int a), .val (.int b), .val (.int d), .val (.int (6 : Int32)), .val (.int (3 : Int32)), .val (.ref bb), .val (.int ff), .val (.int (128 : Int32)), .val (.int (191 : Int32)), .unset] [])) := c223.trans (by
              refine XS.icmpNo X208.here hx rfl (hb hby at_230) rfl (teq hf240).2 ?_
              exact Steps.refl _)
            have c225 : Steps p.tables e below S0 (T208.setTop (mkF m 267 #[.val (.int kind), .val (.int a), .val (.int b), .val (.int d), .val (.int (6 : Int32)), .val (.int (3 : Int32)), .val (.ref bb), .val (.int ff), .val (.int (144 : Int32)), .val (.int (191 : Int32)), .unset] [(.int (((191 : Int32) - (144 : Int32)) + (1 : Int32))), (.int (b &&& (2147483647 : Int32))), (.int (144 : Int32))])) := c224.trans (by
              refine XS.sipush X208.here hx rfl (hb hby at_233) ?_
              show Steps p.tables e below (T208.setTop (mkF m 236 #[.val (.int kind), .val (.int a), .val (.int b), .val (.int d), .val (.int (6 : Int32)), .val (.int (3 : Int32)), .val (.ref bb), .val (.int ff), .val (.int (128 : Int32)), .val (.int (191 : Int32)), .unset] [(.int (144 : Int32))])) _
              refine XS.istore X208.here hx rfl (hb hby at_236) rfl (l' := #[.val (.int kind), .val (.int a), .val (.int b), .val (.int d), .val (.int (6 : Int32)), .val (.int (3 : Int32)), .val (.ref bb), .val (.int ff), .val (.int (144 : Int32)), .val (.int (191 : Int32)), .unset]) rfl ?_
              show Steps p.tables e below (T208.setTop (mkF m 238 #[.val (.int kind), .val (.int a), .val (.int b), .val (.int d), .val (.int (6 : Int32)), .val (.int (3 : Int32)), .val (.ref bb), .val (.int ff), .val (.int (144 : Int32)), .val (.int (191 : Int32)), .unset] [])) _
              refine XS.goto X208.here hx rfl (pc0 := 238) (pc' := 254) rfl (hb hby at_238) (by decide) (by decide) ?_
              show Steps p.tables e below (T208.setTop (mkF m 254 #[.val (.int kind), .val (.int a), .val (.int b), .val (.int d), .val (.int (6 : Int32)), .val (.int (3 : Int32)), .val (.ref bb), .val (.int ff), .val (.int (144 : Int32)), .val (.int (191 : Int32)), .unset] [])) _
              refine XS.iload X208.here hx rfl (hb hby at_254) rfl ?_
              show Steps p.tables e below (T208.setTop (mkF m 256 #[.val (.int kind), .val (.int a), .val (.int b), .val (.int d), .val (.int (6 : Int32)), .val (.int (3 : Int32)), .val (.ref bb), .val (.int ff), .val (.int (144 : Int32)), .val (.int (191 : Int32)), .unset] [(.int (144 : Int32))])) _
              refine XS.iloadN X208.here hx rfl (hb hby at_256) rfl ?_
              show Steps p.tables e below (T208.setTop (mkF m 257 #[.val (.int kind), .val (.int a), .val (.int b), .val (.int d), .val (.int (6 : Int32)), .val (.int (3 : Int32)), .val (.ref bb), .val (.int ff), .val (.int (144 : Int32)), .val (.int (191 : Int32)), .unset] [(.int b), (.int (144 : Int32))])) _
              refine X208.ldcInt hx hown (mvT hZ (hw _ (List.mem_of_getElem? (i := 0) rfl))) (g := (mkF m 257 #[.val (.int kind), .val (.int a), .val (.int b), .val (.int d), .val (.int (6 : Int32)), .val (.int (3 : Int32)), .val (.ref bb), .val (.int ff), .val (.int (144 : Int32)), .val (.int (191 : Int32)), .unset] [(.int b), (.int (144 : Int32))])) rfl (hb hby at_257) _ ?_
              show Steps p.tables e below (T208.setTop (mkF m 259 #[.val (.int kind), .val (.int a), .val (.int b), .val (.int d), .val (.int (6 : Int32)), .val (.int (3 : Int32)), .val (.ref bb), .val (.int ff), .val (.int (144 : Int32)), .val (.int (191 : Int32)), .unset] [(.int (2147483647 : Int32)), (.int b), (.int (144 : Int32))])) _
              refine XS.iand X208.here hx rfl (hb hby at_259) rfl ?_
              show Steps p.tables e below (T208.setTop (mkF m 260 #[.val (.int kind), .val (.int a), .val (.int b), .val (.int d), .val (.int (6 : Int32)), .val (.int (3 : Int32)), .val (.ref bb), .val (.int ff), .val (.int (144 : Int32)), .val (.int (191 : Int32)), .unset] [(.int (b &&& (2147483647 : Int32))), (.int (144 : Int32))])) _
              refine XS.iload X208.here hx rfl (hb hby at_260) rfl ?_
              show Steps p.tables e below (T208.setTop (mkF m 262 #[.val (.int kind), .val (.int a), .val (.int b), .val (.int d), .val (.int (6 : Int32)), .val (.int (3 : Int32)), .val (.ref bb), .val (.int ff), .val (.int (144 : Int32)), .val (.int (191 : Int32)), .unset] [(.int (191 : Int32)), (.int (b &&& (2147483647 : Int32))), (.int (144 : Int32))])) _
              refine XS.iload X208.here hx rfl (hb hby at_262) rfl ?_
              show Steps p.tables e below (T208.setTop (mkF m 264 #[.val (.int kind), .val (.int a), .val (.int b), .val (.int d), .val (.int (6 : Int32)), .val (.int (3 : Int32)), .val (.ref bb), .val (.int ff), .val (.int (144 : Int32)), .val (.int (191 : Int32)), .unset] [(.int (144 : Int32)), (.int (191 : Int32)), (.int (b &&& (2147483647 : Int32))), (.int (144 : Int32))])) _
              refine XS.isub X208.here hx rfl (hb hby at_264) rfl ?_
              show Steps p.tables e below (T208.setTop (mkF m 265 #[.val (.int kind), .val (.int a), .val (.int b), .val (.int d), .val (.int (6 : Int32)), .val (.int (3 : Int32)), .val (.ref bb), .val (.int ff), .val (.int (144 : Int32)), .val (.int (191 : Int32)), .unset] [(.int ((191 : Int32) - (144 : Int32))), (.int (b &&& (2147483647 : Int32))), (.int (144 : Int32))])) _
              refine XS.iconst X208.here hx rfl (hb hby at_265) ?_
              show Steps p.tables e below (T208.setTop (mkF m 266 #[.val (.int kind), .val (.int a), .val (.int b), .val (.int d), .val (.int (6 : Int32)), .val (.int (3 : Int32)), .val (.ref bb), .val (.int ff), .val (.int (144 : Int32)), .val (.int (191 : Int32)), .unset] [(.int (1 : Int32)), (.int ((191 : Int32) - (144 : Int32))), (.int (b &&& (2147483647 : Int32))), (.int (144 : Int32))])) _
              refine XS.iadd X208.here hx rfl (hb hby at_266) rfl ?_
              exact Steps.refl _)
            have c226 : Steps p.tables e below S0 (T208.setTop (mkF m 268 #[.val (.int kind), .val (.int a), .val (.int b), .val (.int d), .val (.int (6 : Int32)), .val (.int (3 : Int32)), .val (.ref bb), .val (.int ff), .val (.int (144 : Int32)), .val (.int (191 : Int32)), .unset] [(.int ((b &&& (2147483647 : Int32)) % (((191 : Int32) - (144 : Int32)) + (1 : Int32)))), (.int (144 : Int32))])) := c225.trans (by
              refine iremM X208 hx rfl (hb hby at_267) rfl (by decide) ?_
              exact Steps.refl _)
            have c227 : Steps p.tables e below S0 (T208.setTop (mkF m 269 #[.val (.int kind), .val (.int a), .val (.int b), .val (.int d), .val (.int (6 : Int32)), .val (.int (3 : Int32)), .val (.ref bb), .val (.int ff), .val (.int (144 : Int32)), .val (.int (191 : Int32)), .unset] [(.int ((144 : Int32) + ((b &&& (2147483647 : Int32)) % (((191 : Int32) - (144 : Int32)) + (1 : Int32)))))])) := c226.trans (by
              refine XS.iadd X208.here hx rfl (hb hby at_268) rfl ?_
              exact Steps.refl _)
            obtain ⟨ss, hss⟩ : ∃ z : Int32, z = ((144 : Int32) + ((b &&& (2147483647 : Int32)) % (((191 : Int32) - (144 : Int32)) + (1 : Int32)))) := ⟨_, rfl⟩
            rw [← hss] at c227
            have G := own_ss3 hss
            have c228 : Steps p.tables e below S0 (T208.setTop (mkF m 277 #[.val (.int kind), .val (.int a), .val (.int b), .val (.int d), .val (.int (6 : Int32)), .val (.int (3 : Int32)), .val (.ref bb), .val (.int ff), .val (.int (144 : Int32)), .val (.int (191 : Int32)), .val (.int ss)] [(.int (ff.toInt8.toInt32)), (.int (0 : Int32)), (.ref bb)])) := c227.trans (by
              refine XS.istore X208.here hx rfl (hb hby at_269) rfl (l' := #[.val (.int kind), .val (.int a), .val (.int b), .val (.int d), .val (.int (6 : Int32)), .val (.int (3 : Int32)), .val (.ref bb), .val (.int ff), .val (.int (144 : Int32)), .val (.int (191 : Int32)), .val (.int ss)]) rfl ?_
              show Steps p.tables e below (T208.setTop (mkF m 271 #[.val (.int kind), .val (.int a), .val (.int b), .val (.int d), .val (.int (6 : Int32)), .val (.int (3 : Int32)), .val (.ref bb), .val (.int ff), .val (.int (144 : Int32)), .val (.int (191 : Int32)), .val (.int ss)] [])) _
              refine XS.aload X208.here hx rfl (hb hby at_271) rfl rfl ?_
              show Steps p.tables e below (T208.setTop (mkF m 273 #[.val (.int kind), .val (.int a), .val (.int b), .val (.int d), .val (.int (6 : Int32)), .val (.int (3 : Int32)), .val (.ref bb), .val (.int ff), .val (.int (144 : Int32)), .val (.int (191 : Int32)), .val (.int ss)] [(.ref bb)])) _
              refine XS.iconst X208.here hx rfl (hb hby at_273) ?_
              show Steps p.tables e below (T208.setTop (mkF m 274 #[.val (.int kind), .val (.int a), .val (.int b), .val (.int d), .val (.int (6 : Int32)), .val (.int (3 : Int32)), .val (.ref bb), .val (.int ff), .val (.int (144 : Int32)), .val (.int (191 : Int32)), .val (.int ss)] [(.int (0 : Int32)), (.ref bb)])) _
              refine XS.iload X208.here hx rfl (hb hby at_274) rfl ?_
              show Steps p.tables e below (T208.setTop (mkF m 276 #[.val (.int kind), .val (.int a), .val (.int b), .val (.int d), .val (.int (6 : Int32)), .val (.int (3 : Int32)), .val (.ref bb), .val (.int ff), .val (.int (144 : Int32)), .val (.int (191 : Int32)), .val (.int ss)] [(.int ff), (.int (0 : Int32)), (.ref bb)])) _
              refine XS.i2b X208.here hx rfl (hb hby at_276) rfl ?_
              exact Steps.refl _)
            obtain ⟨cl229, Ac229, hcl229⟩ := B208
            obtain ⟨T230, h230, X230, e230, W230, st230⟩ := stB X208 hx hZ e208 Ac229 (j := (0 : Int32)) (by rw [hcl229]; exact own_in4 (by decide)) (g := (mkF m 277 #[.val (.int kind), .val (.int a), .val (.int b), .val (.int d), .val (.int (6 : Int32)), .val (.int (3 : Int32)), .val (.ref bb), .val (.int ff), .val (.int (144 : Int32)), .val (.int (191 : Int32)), .val (.int ss)] [(.int (ff.toInt8.toInt32)), (.int (0 : Int32)), (.ref bb)])) rfl rfl (hb hby at_277)
            have c231 : Steps p.tables e below S0 (T230.setTop (mkF m 278 #[.val (.int kind), .val (.int a), .val (.int b), .val (.int d), .val (.int (6 : Int32)), .val (.int (3 : Int32)), .val (.ref bb), .val (.int ff), .val (.int (144 : Int32)), .val (.int (191 : Int32)), .val (.int ss)] [])) := c228.trans (by
              refine st230 _ ?_
              exact Steps.refl _)
            have B230 : own_BA Z h230 bb (nar .byte (ff.toInt8.toInt32)) 0 0 0 := ⟨_, Ac229.same W230, by simp [Cell.setSlot, hcl229]⟩
            have N230 := Fr.snoc X230 N0 g_b
            have Z230 : n0 ≤ h230.size := by rw [W230.size]; exact Z208
            have c232 : Steps p.tables e below S0 (T230.setTop (mkF m 284 #[.val (.int kind), .val (.int a), .val (.int b), .val (.int d), .val (.int (6 : Int32)), .val (.int (3 : Int32)), .val (.ref bb), .val (.int ff), .val (.int (144 : Int32)), .val (.int (191 : Int32)), .val (.int ss)] [(.int (ss.toInt8.toInt32)), (.int (1 : Int32)), (.ref bb)])) := c231.trans (by
              refine XS.aload X230.here hx rfl (hb hby at_278) rfl rfl ?_
              show Steps p.tables e below (T230.setTop (mkF m 280 #[.val (.int kind), .val (.int a), .val (.int b), .val (.int d), .val (.int (6 : Int32)), .val (.int (3 : Int32)), .val (.ref bb), .val (.int ff), .val (.int (144 : Int32)), .val (.int (191 : Int32)), .val (.int ss)] [(.ref bb)])) _
              refine XS.iconst X230.here hx rfl (hb hby at_280) ?_
              show Steps p.tables e below (T230.setTop (mkF m 281 #[.val (.int kind), .val (.int a), .val (.int b), .val (.int d), .val (.int (6 : Int32)), .val (.int (3 : Int32)), .val (.ref bb), .val (.int ff), .val (.int (144 : Int32)), .val (.int (191 : Int32)), .val (.int ss)] [(.int (1 : Int32)), (.ref bb)])) _
              refine XS.iload X230.here hx rfl (hb hby at_281) rfl ?_
              show Steps p.tables e below (T230.setTop (mkF m 283 #[.val (.int kind), .val (.int a), .val (.int b), .val (.int d), .val (.int (6 : Int32)), .val (.int (3 : Int32)), .val (.ref bb), .val (.int ff), .val (.int (144 : Int32)), .val (.int (191 : Int32)), .val (.int ss)] [(.int ss), (.int (1 : Int32)), (.ref bb)])) _
              refine XS.i2b X230.here hx rfl (hb hby at_283) rfl ?_
              exact Steps.refl _)
            obtain ⟨cl233, Ac233, hcl233⟩ := B230
            obtain ⟨T234, h234, X234, e234, W234, st234⟩ := stB X230 hx hZ e230 Ac233 (j := (1 : Int32)) (by rw [hcl233]; exact own_in4 (by decide)) (g := (mkF m 284 #[.val (.int kind), .val (.int a), .val (.int b), .val (.int d), .val (.int (6 : Int32)), .val (.int (3 : Int32)), .val (.ref bb), .val (.int ff), .val (.int (144 : Int32)), .val (.int (191 : Int32)), .val (.int ss)] [(.int (ss.toInt8.toInt32)), (.int (1 : Int32)), (.ref bb)])) rfl rfl (hb hby at_284)
            have c235 : Steps p.tables e below S0 (T234.setTop (mkF m 285 #[.val (.int kind), .val (.int a), .val (.int b), .val (.int d), .val (.int (6 : Int32)), .val (.int (3 : Int32)), .val (.ref bb), .val (.int ff), .val (.int (144 : Int32)), .val (.int (191 : Int32)), .val (.int ss)] [])) := c232.trans (by
              refine st234 _ ?_
              exact Steps.refl _)
            have B234 : own_BA Z h234 bb (nar .byte (ff.toInt8.toInt32)) (nar .byte (ss.toInt8.toInt32)) 0 0 := ⟨_, Ac233.same W234, by simp [Cell.setSlot, hcl233]⟩
            have N234 := Fr.snoc X234 N230 g_b
            have Z234 : n0 ≤ h234.size := by rw [W234.size]; exact Z230
            have c236 : Steps p.tables e below S0 (T234.setTop (mkF m 288 #[.val (.int kind), .val (.int a), .val (.int b), .val (.int d), .val (.int (6 : Int32)), .val (.int (3 : Int32)), .val (.ref bb), .val (.int ff), .val (.int (144 : Int32)), .val (.int (191 : Int32)), .val (.int ss)] [(.int (3 : Int32)), (.int (3 : Int32))])) := c235.trans (by
              refine XS.iload X234.here hx rfl (hb hby at_285) rfl ?_
              show Steps p.tables e below (T234.setTop (mkF m 287 #[.val (.int kind), .val (.int a), .val (.int b), .val (.int d), .val (.int (6 : Int32)), .val (.int (3 : Int32)), .val (.ref bb), .val (.int ff), .val (.int (144 : Int32)), .val (.int (191 : Int32)), .val (.int ss)] [(.int (3 : Int32))])) _
              refine XS.iconst X234.here hx rfl (hb hby at_287) ?_
              exact Steps.refl _)
            have c237 : Steps p.tables e below S0 (T234.setTop (mkF m 291 #[.val (.int kind), .val (.int a), .val (.int b), .val (.int d), .val (.int (6 : Int32)), .val (.int (3 : Int32)), .val (.ref bb), .val (.int ff), .val (.int (144 : Int32)), .val (.int (191 : Int32)), .val (.int ss)] [])) := c236.trans (by
              refine XS.icmpNo X234.here hx rfl (hb hby at_288) rfl (teq (by decide)).2 ?_
              exact Steps.refl _)
            have c238 : Steps p.tables e below S0 (T234.setTop (mkF m 303 #[.val (.int kind), .val (.int a), .val (.int b), .val (.int d), .val (.int (6 : Int32)), .val (.int (3 : Int32)), .val (.ref bb), .val (.int ff), .val (.int (144 : Int32)), .val (.int (191 : Int32)), .val (.int ss)] [(.int (((128 : Int32) + (d &&& (63 : Int32))).toInt8.toInt32)), (.int (2 : Int32)), (.ref bb)])) := c237.trans (by
              refine XS.aload X234.here hx rfl (hb hby at_291) rfl rfl ?_
              show Steps p.tables e below (T234.setTop (mkF m 293 #[.val (.int kind), .val (.int a), .val (.int b), .val (.int d), .val (.int (6 : Int32)), .val (.int (3 : Int32)), .val (.ref bb), .val (.int ff), .val (.int (144 : Int32)), .val (.int (191 : Int32)), .val (.int ss)] [(.ref bb)])) _
              refine XS.iconst X234.here hx rfl (hb hby at_293) ?_
              show Steps p.tables e below (T234.setTop (mkF m 294 #[.val (.int kind), .val (.int a), .val (.int b), .val (.int d), .val (.int (6 : Int32)), .val (.int (3 : Int32)), .val (.ref bb), .val (.int ff), .val (.int (144 : Int32)), .val (.int (191 : Int32)), .val (.int ss)] [(.int (2 : Int32)), (.ref bb)])) _
              refine XS.sipush X234.here hx rfl (hb hby at_294) ?_
              show Steps p.tables e below (T234.setTop (mkF m 297 #[.val (.int kind), .val (.int a), .val (.int b), .val (.int d), .val (.int (6 : Int32)), .val (.int (3 : Int32)), .val (.ref bb), .val (.int ff), .val (.int (144 : Int32)), .val (.int (191 : Int32)), .val (.int ss)] [(.int (128 : Int32)), (.int (2 : Int32)), (.ref bb)])) _
              refine XS.iloadN X234.here hx rfl (hb hby at_297) rfl ?_
              show Steps p.tables e below (T234.setTop (mkF m 298 #[.val (.int kind), .val (.int a), .val (.int b), .val (.int d), .val (.int (6 : Int32)), .val (.int (3 : Int32)), .val (.ref bb), .val (.int ff), .val (.int (144 : Int32)), .val (.int (191 : Int32)), .val (.int ss)] [(.int d), (.int (128 : Int32)), (.int (2 : Int32)), (.ref bb)])) _
              refine XS.bipush X234.here hx rfl (hb hby at_298) ?_
              show Steps p.tables e below (T234.setTop (mkF m 300 #[.val (.int kind), .val (.int a), .val (.int b), .val (.int d), .val (.int (6 : Int32)), .val (.int (3 : Int32)), .val (.ref bb), .val (.int ff), .val (.int (144 : Int32)), .val (.int (191 : Int32)), .val (.int ss)] [(.int (63 : Int32)), (.int d), (.int (128 : Int32)), (.int (2 : Int32)), (.ref bb)])) _
              refine XS.iand X234.here hx rfl (hb hby at_300) rfl ?_
              show Steps p.tables e below (T234.setTop (mkF m 301 #[.val (.int kind), .val (.int a), .val (.int b), .val (.int d), .val (.int (6 : Int32)), .val (.int (3 : Int32)), .val (.ref bb), .val (.int ff), .val (.int (144 : Int32)), .val (.int (191 : Int32)), .val (.int ss)] [(.int (d &&& (63 : Int32))), (.int (128 : Int32)), (.int (2 : Int32)), (.ref bb)])) _
              refine XS.iadd X234.here hx rfl (hb hby at_301) rfl ?_
              show Steps p.tables e below (T234.setTop (mkF m 302 #[.val (.int kind), .val (.int a), .val (.int b), .val (.int d), .val (.int (6 : Int32)), .val (.int (3 : Int32)), .val (.ref bb), .val (.int ff), .val (.int (144 : Int32)), .val (.int (191 : Int32)), .val (.int ss)] [(.int ((128 : Int32) + (d &&& (63 : Int32)))), (.int (2 : Int32)), (.ref bb)])) _
              refine XS.i2b X234.here hx rfl (hb hby at_302) rfl ?_
              exact Steps.refl _)
            obtain ⟨cl239, Ac239, hcl239⟩ := B234
            obtain ⟨T240, h240, X240, e240, W240, st240⟩ := stB X234 hx hZ e234 Ac239 (j := (2 : Int32)) (by rw [hcl239]; exact own_in4 (by decide)) (g := (mkF m 303 #[.val (.int kind), .val (.int a), .val (.int b), .val (.int d), .val (.int (6 : Int32)), .val (.int (3 : Int32)), .val (.ref bb), .val (.int ff), .val (.int (144 : Int32)), .val (.int (191 : Int32)), .val (.int ss)] [(.int (((128 : Int32) + (d &&& (63 : Int32))).toInt8.toInt32)), (.int (2 : Int32)), (.ref bb)])) rfl rfl (hb hby at_303)
            have c241 : Steps p.tables e below S0 (T240.setTop (mkF m 304 #[.val (.int kind), .val (.int a), .val (.int b), .val (.int d), .val (.int (6 : Int32)), .val (.int (3 : Int32)), .val (.ref bb), .val (.int ff), .val (.int (144 : Int32)), .val (.int (191 : Int32)), .val (.int ss)] [])) := c238.trans (by
              refine st240 _ ?_
              exact Steps.refl _)
            have B240 : own_BA Z h240 bb (nar .byte (ff.toInt8.toInt32)) (nar .byte (ss.toInt8.toInt32)) (nar .byte (((128 : Int32) + (d &&& (63 : Int32))).toInt8.toInt32)) 0 := ⟨_, Ac239.same W240, by simp [Cell.setSlot, hcl239]⟩
            have N240 := Fr.snoc X240 N234 g_b
            have Z240 : n0 ≤ h240.size := by rw [W240.size]; exact Z234
            have c242 : Steps p.tables e below S0 (T240.setTop (mkF m 307 #[.val (.int kind), .val (.int a), .val (.int b), .val (.int d), .val (.int (6 : Int32)), .val (.int (3 : Int32)), .val (.ref bb), .val (.int ff), .val (.int (144 : Int32)), .val (.int (191 : Int32)), .val (.int ss)] [(.int (0 : Int32)), (.ref bb)])) := c241.trans (by
              refine XS.aload X240.here hx rfl (hb hby at_304) rfl rfl ?_
              show Steps p.tables e below (T240.setTop (mkF m 306 #[.val (.int kind), .val (.int a), .val (.int b), .val (.int d), .val (.int (6 : Int32)), .val (.int (3 : Int32)), .val (.ref bb), .val (.int ff), .val (.int (144 : Int32)), .val (.int (191 : Int32)), .val (.int ss)] [(.ref bb)])) _
              refine XS.iconst X240.here hx rfl (hb hby at_306) ?_
              exact Steps.refl _)
            have J := own_J3 hf240 G.1 G.2
            have hu : ¬ (((nar .byte (ff.toInt8.toInt32)) &&& 255) < 128) := own_f2u (by omega) F.2
            have hr : own_run ((nar .byte (ff.toInt8.toInt32)) &&& 255) ((nar .byte (ss.toInt8.toInt32)) &&& 255) ((nar .byte (((128 : Int32) + (d &&& (63 : Int32))).toInt8.toInt32)) &&& 255) (0 &&& 255) = -3 := own_f3r F.1 F.2 J d
            obtain ⟨_, _, ⟨T243, L243, k243, n243⟩, -, X243, ⟨Lc243, hQ243, l243, y243, z243⟩, st243⟩ := Jvm.LawKit.callS X240 hx (y := (⟨"com/example/coersa/coersa/Utf8", "characterAt", "([BI)I"⟩ : MethodName)) hown (mvT hZ (hw _ (List.mem_of_getElem? (i := 6) rfl))) (mvT hZ (hw _ (List.mem_of_getElem? (i := 7) rfl))) (mvT hZ (hw _ (List.mem_of_getElem? (i := 3) rfl))) (mvT hZ (hw _ (List.mem_of_getElem? (i := 8) rfl))) (by decide) (backOf (W := 0) (own_cat3 l Z a0 hw [] bb 0 (nar .byte (ff.toInt8.toInt32)) (nar .byte (ss.toInt8.toInt32)) (nar .byte (((128 : Int32) + (d &&& (63 : Int32))).toInt8.toInt32)) 0 h240 n0 Z240 rfl B240 hu hr) hZ (hw _ (List.mem_of_getElem? (i := 8) rfl)) (hw _ (List.mem_of_getElem? (i := 3) rfl)) (by decide) (by decide)) (g := (mkF m 307 #[.val (.int kind), .val (.int a), .val (.int b), .val (.int d), .val (.int (6 : Int32)), .val (.int (3 : Int32)), .val (.ref bb), .val (.int ff), .val (.int (144 : Int32)), .val (.int (191 : Int32)), .val (.int ss)] [(.int (0 : Int32)), (.ref bb)])) rfl (by rw [hml]; rfl) (argsL := [(.ref bb), (.int (0 : Int32))]) (rest := []) (lenOf own_pd0 rfl) rfl (by show 2 * 0 + _ ≤ _; exact Nat.le_of_eq rfl) (hb hby at_307) (fun _ _ => ⟨rfl, e240, (Nat.le_of_ble_eq_true rfl), (Nat.le_of_ble_eq_true rfl)⟩)
            dsimp only [Pt.U, Pt.locs, Pt.cells, Pt.slots] at X243 l243 y243 z243 st243 hQ243
            subst l243 y243 z243
            obtain ⟨rfl, N243q, ec⟩ := hQ243
            have N243 := Fr.app N240 N243q
            have c244 : Steps p.tables e below S0 (T243.setTop (mkF m 310 #[.val (.int kind), .val (.int a), .val (.int b), .val (.int d), .val (.int (6 : Int32)), .val (.int (3 : Int32)), .val (.ref bb), .val (.int ff), .val (.int (144 : Int32)), .val (.int (191 : Int32)), .val (.int ss)] [(.int (own_ca3 (nar .byte (ff.toInt8.toInt32)) (nar .byte (ss.toInt8.toInt32)) (nar .byte (((128 : Int32) + (d &&& (63 : Int32))).toInt8.toInt32))))])) := c242.trans (by
              refine st243 _ ?_
              exact Steps.refl _)
            have Zc : n0 ≤ T243.heap.size := by rw [ec]; exact Z240
            obtain ⟨_, _, ⟨T245, L245, k245, n245⟩, -, X245, ⟨Lc245, hQ245, l245, y245, z245⟩, st245⟩ := Jvm.LawKit.callS X243 hx (y := (⟨"com/example/coersa/coersa/Utf8", "byteCount", "(I)I"⟩ : MethodName)) hown (mvT hZ (hw _ (List.mem_of_getElem? (i := 1) rfl))) (mvT hZ (hw _ (List.mem_of_getElem? (i := 2) rfl))) (mvT hZ (hw _ (List.mem_of_getElem? (i := 3) rfl))) (mvT hZ (hw _ (List.mem_of_getElem? (i := 4) rfl))) (by decide) (backOf (W := 0) (own_bct l Z a0 hw [] (own_ca3 (nar .byte (ff.toInt8.toInt32)) (nar .byte (ss.toInt8.toInt32)) (nar .byte (((128 : Int32) + (d &&& (63 : Int32))).toInt8.toInt32))) T243.heap n0 Zc) hZ (hw _ (List.mem_of_getElem? (i := 4) rfl)) (hw _ (List.mem_of_getElem? (i := 3) rfl)) (by decide) (by decide)) (g := (mkF m 310 #[.val (.int kind), .val (.int a), .val (.int b), .val (.int d), .val (.int (6 : Int32)), .val (.int (3 : Int32)), .val (.ref bb), .val (.int ff), .val (.int (144 : Int32)), .val (.int (191 : Int32)), .val (.int ss)] [(.int (own_ca3 (nar .byte (ff.toInt8.toInt32)) (nar .byte (ss.toInt8.toInt32)) (nar .byte (((128 : Int32) + (d &&& (63 : Int32))).toInt8.toInt32))))])) rfl (by rw [hml]; rfl) (argsL := [(.int (own_ca3 (nar .byte (ff.toInt8.toInt32)) (nar .byte (ss.toInt8.toInt32)) (nar .byte (((128 : Int32) + (d &&& (63 : Int32))).toInt8.toInt32))))]) (rest := []) (lenOf own_pd1 rfl) rfl (by show 2 * 0 + _ ≤ _; exact Nat.le_of_eq rfl) (hb hby at_310) (fun _ _ => ⟨rfl, rfl, (Nat.le_of_ble_eq_true rfl), (Nat.le_of_ble_eq_true rfl)⟩)
            dsimp only [Pt.U, Pt.locs, Pt.cells, Pt.slots] at X245 l245 y245 z245 st245 hQ245
            subst l245 y245 z245
            obtain ⟨rfl, N245q, eb⟩ := hQ245
            have N245 := Fr.app N243 N245q
            have c246 : Steps p.tables e below S0 (T245.setTop (mkF m 313 #[.val (.int kind), .val (.int a), .val (.int b), .val (.int d), .val (.int (6 : Int32)), .val (.int (3 : Int32)), .val (.ref bb), .val (.int ff), .val (.int (144 : Int32)), .val (.int (191 : Int32)), .val (.int ss)] [(.int (own_bc (own_ca3 (nar .byte (ff.toInt8.toInt32)) (nar .byte (ss.toInt8.toInt32)) (nar .byte (((128 : Int32) + (d &&& (63 : Int32))).toInt8.toInt32)))))])) := c244.trans (by
              refine st245 _ ?_
              exact Steps.refl _)
            have c247 : Steps p.tables e below S0 (T245.setTop (mkF m 315 #[.val (.int kind), .val (.int a), .val (.int b), .val (.int d), .val (.int (6 : Int32)), .val (.int (3 : Int32)), .val (.ref bb), .val (.int ff), .val (.int (144 : Int32)), .val (.int (191 : Int32)), .val (.int ss)] [(.int (3 : Int32)), (.int (own_bc (own_ca3 (nar .byte (ff.toInt8.toInt32)) (nar .byte (ss.toInt8.toInt32)) (nar .byte (((128 : Int32) + (d &&& (63 : Int32))).toInt8.toInt32)))))])) := c246.trans (by
              refine XS.iload X245.here hx rfl (hb hby at_313) rfl ?_
              exact Steps.refl _)
            have c248 : Steps p.tables e below S0 (T245.setTop (mkF m 318 #[.val (.int kind), .val (.int a), .val (.int b), .val (.int d), .val (.int (6 : Int32)), .val (.int (3 : Int32)), .val (.ref bb), .val (.int ff), .val (.int (144 : Int32)), .val (.int (191 : Int32)), .val (.int ss)] [])) := c247.trans (by
              refine XS.icmpNo X245.here hx rfl (hb hby at_315) rfl (teq (own_f3v F.1 F.2 _ _)).2 ?_
              exact Steps.refl _)
            have c249 : Steps p.tables e below S0 (T245.setTop (mkF m 323 #[.val (.int kind), .val (.int a), .val (.int b), .val (.int d), .val (.int (6 : Int32)), .val (.int (3 : Int32)), .val (.ref bb), .val (.int ff), .val (.int (144 : Int32)), .val (.int (191 : Int32)), .val (.int ss)] [(.int (1 : Int32))])) := c248.trans (by
              refine XS.iconst X245.here hx rfl (hb hby at_318) ?_
              show Steps p.tables e below (T245.setTop (mkF m 319 #[.val (.int kind), .val (.int a), .val (.int b), .val (.int d), .val (.int (6 : Int32)), .val (.int (3 : Int32)), .val (.ref bb), .val (.int ff), .val (.int (144 : Int32)), .val (.int (191 : Int32)), .val (.int ss)] [(.int (1 : Int32))])) _
              refine XS.goto X245.here hx rfl (pc0 := 319) (pc' := 323) rfl (hb hby at_319) (by decide) (by decide) ?_
              exact Steps.refl _)
            obtain ⟨fs, hr, hrun, hended, hW, hsame⟩ := X245.leave (v := some (.int (1 : Int32))) (fun h => by rw [Bd.returns] at h; cases h)
            exact ⟨_, _, c249.trans (retN X245 hx (t := .boolean) Bd.returns (by simp) (hb hby at_323) hr), hrun, hended, _, _, rfl, ⟨rfl, N245⟩, ⟨_, rfl⟩, hW, hsame.mono (by decide) (by decide)⟩
          · have c250 : Steps p.tables e below S0 (T208.setTop (mkF m 241 #[.val (.int kind), .val (.int a), .val (.int b), .val (.int d), .val (.int (6 : Int32)), .val (.int (3 : Int32)), .val (.ref bb), .val (.int ff), .val (.int (128 : Int32)), .val (.int (191 : Int32)), .unset] [])) := c223.trans (by
              refine XS.icmpYes X208.here hx rfl (pc0 := 230) (pc' := 241) rfl (hb hby at_230) rfl (feq hf240).2 (by decide) (by decide) ?_
              exact Steps.refl _)
            have c251 : Steps p.tables e below S0 (T208.setTop (mkF m 246 #[.val (.int kind), .val (.int a), .val (.int b), .val (.int d), .val (.int (6 : Int32)), .val (.int (3 : Int32)), .val (.ref bb), .val (.int ff), .val (.int (128 : Int32)), .val (.int (191 : Int32)), .unset] [(.int (244 : Int32)), (.int ff)])) := c250.trans (by
              refine XS.iload X208.here hx rfl (hb hby at_241) rfl ?_
              show Steps p.tables e below (T208.setTop (mkF m 243 #[.val (.int kind), .val (.int a), .val (.int b), .val (.int d), .val (.int (6 : Int32)), .val (.int (3 : Int32)), .val (.ref bb), .val (.int ff), .val (.int (128 : Int32)), .val (.int (191 : Int32)), .unset] [(.int ff)])) _
              refine XS.sipush X208.here hx rfl (hb hby at_243) ?_
              exact Steps.refl _)
            by_cases hf244 : ff = (244 : Int32)
            · have c252 : Steps p.tables e below S0 (T208.setTop (mkF m 249 #[.val (.int kind), .val (.int a), .val (.int b), .val (.int d), .val (.int (6 : Int32)), .val (.int (3 : Int32)), .val (.ref bb), .val (.int ff), .val (.int (128 : Int32)), .val (.int (191 : Int32)), .unset] [])) := c251.trans (by
                refine XS.icmpNo X208.here hx rfl (hb hby at_246) rfl (teq hf244).2 ?_
                exact Steps.refl _)
              have c253 : Steps p.tables e below S0 (T208.setTop (mkF m 267 #[.val (.int kind), .val (.int a), .val (.int b), .val (.int d), .val (.int (6 : Int32)), .val (.int (3 : Int32)), .val (.ref bb), .val (.int ff), .val (.int (128 : Int32)), .val (.int (143 : Int32)), .unset] [(.int (((143 : Int32) - (128 : Int32)) + (1 : Int32))), (.int (b &&& (2147483647 : Int32))), (.int (128 : Int32))])) := c252.trans (by
                refine XS.sipush X208.here hx rfl (hb hby at_249) ?_
                show Steps p.tables e below (T208.setTop (mkF m 252 #[.val (.int kind), .val (.int a), .val (.int b), .val (.int d), .val (.int (6 : Int32)), .val (.int (3 : Int32)), .val (.ref bb), .val (.int ff), .val (.int (128 : Int32)), .val (.int (191 : Int32)), .unset] [(.int (143 : Int32))])) _
                refine XS.istore X208.here hx rfl (hb hby at_252) rfl (l' := #[.val (.int kind), .val (.int a), .val (.int b), .val (.int d), .val (.int (6 : Int32)), .val (.int (3 : Int32)), .val (.ref bb), .val (.int ff), .val (.int (128 : Int32)), .val (.int (143 : Int32)), .unset]) rfl ?_
                show Steps p.tables e below (T208.setTop (mkF m 254 #[.val (.int kind), .val (.int a), .val (.int b), .val (.int d), .val (.int (6 : Int32)), .val (.int (3 : Int32)), .val (.ref bb), .val (.int ff), .val (.int (128 : Int32)), .val (.int (143 : Int32)), .unset] [])) _
                refine XS.iload X208.here hx rfl (hb hby at_254) rfl ?_
                show Steps p.tables e below (T208.setTop (mkF m 256 #[.val (.int kind), .val (.int a), .val (.int b), .val (.int d), .val (.int (6 : Int32)), .val (.int (3 : Int32)), .val (.ref bb), .val (.int ff), .val (.int (128 : Int32)), .val (.int (143 : Int32)), .unset] [(.int (128 : Int32))])) _
                refine XS.iloadN X208.here hx rfl (hb hby at_256) rfl ?_
                show Steps p.tables e below (T208.setTop (mkF m 257 #[.val (.int kind), .val (.int a), .val (.int b), .val (.int d), .val (.int (6 : Int32)), .val (.int (3 : Int32)), .val (.ref bb), .val (.int ff), .val (.int (128 : Int32)), .val (.int (143 : Int32)), .unset] [(.int b), (.int (128 : Int32))])) _
                refine X208.ldcInt hx hown (mvT hZ (hw _ (List.mem_of_getElem? (i := 0) rfl))) (g := (mkF m 257 #[.val (.int kind), .val (.int a), .val (.int b), .val (.int d), .val (.int (6 : Int32)), .val (.int (3 : Int32)), .val (.ref bb), .val (.int ff), .val (.int (128 : Int32)), .val (.int (143 : Int32)), .unset] [(.int b), (.int (128 : Int32))])) rfl (hb hby at_257) _ ?_
                show Steps p.tables e below (T208.setTop (mkF m 259 #[.val (.int kind), .val (.int a), .val (.int b), .val (.int d), .val (.int (6 : Int32)), .val (.int (3 : Int32)), .val (.ref bb), .val (.int ff), .val (.int (128 : Int32)), .val (.int (143 : Int32)), .unset] [(.int (2147483647 : Int32)), (.int b), (.int (128 : Int32))])) _
                refine XS.iand X208.here hx rfl (hb hby at_259) rfl ?_
                show Steps p.tables e below (T208.setTop (mkF m 260 #[.val (.int kind), .val (.int a), .val (.int b), .val (.int d), .val (.int (6 : Int32)), .val (.int (3 : Int32)), .val (.ref bb), .val (.int ff), .val (.int (128 : Int32)), .val (.int (143 : Int32)), .unset] [(.int (b &&& (2147483647 : Int32))), (.int (128 : Int32))])) _
                refine XS.iload X208.here hx rfl (hb hby at_260) rfl ?_
                show Steps p.tables e below (T208.setTop (mkF m 262 #[.val (.int kind), .val (.int a), .val (.int b), .val (.int d), .val (.int (6 : Int32)), .val (.int (3 : Int32)), .val (.ref bb), .val (.int ff), .val (.int (128 : Int32)), .val (.int (143 : Int32)), .unset] [(.int (143 : Int32)), (.int (b &&& (2147483647 : Int32))), (.int (128 : Int32))])) _
                refine XS.iload X208.here hx rfl (hb hby at_262) rfl ?_
                show Steps p.tables e below (T208.setTop (mkF m 264 #[.val (.int kind), .val (.int a), .val (.int b), .val (.int d), .val (.int (6 : Int32)), .val (.int (3 : Int32)), .val (.ref bb), .val (.int ff), .val (.int (128 : Int32)), .val (.int (143 : Int32)), .unset] [(.int (128 : Int32)), (.int (143 : Int32)), (.int (b &&& (2147483647 : Int32))), (.int (128 : Int32))])) _
                refine XS.isub X208.here hx rfl (hb hby at_264) rfl ?_
                show Steps p.tables e below (T208.setTop (mkF m 265 #[.val (.int kind), .val (.int a), .val (.int b), .val (.int d), .val (.int (6 : Int32)), .val (.int (3 : Int32)), .val (.ref bb), .val (.int ff), .val (.int (128 : Int32)), .val (.int (143 : Int32)), .unset] [(.int ((143 : Int32) - (128 : Int32))), (.int (b &&& (2147483647 : Int32))), (.int (128 : Int32))])) _
                refine XS.iconst X208.here hx rfl (hb hby at_265) ?_
                show Steps p.tables e below (T208.setTop (mkF m 266 #[.val (.int kind), .val (.int a), .val (.int b), .val (.int d), .val (.int (6 : Int32)), .val (.int (3 : Int32)), .val (.ref bb), .val (.int ff), .val (.int (128 : Int32)), .val (.int (143 : Int32)), .unset] [(.int (1 : Int32)), (.int ((143 : Int32) - (128 : Int32))), (.int (b &&& (2147483647 : Int32))), (.int (128 : Int32))])) _
                refine XS.iadd X208.here hx rfl (hb hby at_266) rfl ?_
                exact Steps.refl _)
              have c254 : Steps p.tables e below S0 (T208.setTop (mkF m 268 #[.val (.int kind), .val (.int a), .val (.int b), .val (.int d), .val (.int (6 : Int32)), .val (.int (3 : Int32)), .val (.ref bb), .val (.int ff), .val (.int (128 : Int32)), .val (.int (143 : Int32)), .unset] [(.int ((b &&& (2147483647 : Int32)) % (((143 : Int32) - (128 : Int32)) + (1 : Int32)))), (.int (128 : Int32))])) := c253.trans (by
                refine iremM X208 hx rfl (hb hby at_267) rfl (by decide) ?_
                exact Steps.refl _)
              have c255 : Steps p.tables e below S0 (T208.setTop (mkF m 269 #[.val (.int kind), .val (.int a), .val (.int b), .val (.int d), .val (.int (6 : Int32)), .val (.int (3 : Int32)), .val (.ref bb), .val (.int ff), .val (.int (128 : Int32)), .val (.int (143 : Int32)), .unset] [(.int ((128 : Int32) + ((b &&& (2147483647 : Int32)) % (((143 : Int32) - (128 : Int32)) + (1 : Int32)))))])) := c254.trans (by
                refine XS.iadd X208.here hx rfl (hb hby at_268) rfl ?_
                exact Steps.refl _)
              obtain ⟨ss, hss⟩ : ∃ z : Int32, z = ((128 : Int32) + ((b &&& (2147483647 : Int32)) % (((143 : Int32) - (128 : Int32)) + (1 : Int32)))) := ⟨_, rfl⟩
              rw [← hss] at c255
              have G := own_ss4 hss
              have c256 : Steps p.tables e below S0 (T208.setTop (mkF m 277 #[.val (.int kind), .val (.int a), .val (.int b), .val (.int d), .val (.int (6 : Int32)), .val (.int (3 : Int32)), .val (.ref bb), .val (.int ff), .val (.int (128 : Int32)), .val (.int (143 : Int32)), .val (.int ss)] [(.int (ff.toInt8.toInt32)), (.int (0 : Int32)), (.ref bb)])) := c255.trans (by
                refine XS.istore X208.here hx rfl (hb hby at_269) rfl (l' := #[.val (.int kind), .val (.int a), .val (.int b), .val (.int d), .val (.int (6 : Int32)), .val (.int (3 : Int32)), .val (.ref bb), .val (.int ff), .val (.int (128 : Int32)), .val (.int (143 : Int32)), .val (.int ss)]) rfl ?_
                show Steps p.tables e below (T208.setTop (mkF m 271 #[.val (.int kind), .val (.int a), .val (.int b), .val (.int d), .val (.int (6 : Int32)), .val (.int (3 : Int32)), .val (.ref bb), .val (.int ff), .val (.int (128 : Int32)), .val (.int (143 : Int32)), .val (.int ss)] [])) _
                refine XS.aload X208.here hx rfl (hb hby at_271) rfl rfl ?_
                show Steps p.tables e below (T208.setTop (mkF m 273 #[.val (.int kind), .val (.int a), .val (.int b), .val (.int d), .val (.int (6 : Int32)), .val (.int (3 : Int32)), .val (.ref bb), .val (.int ff), .val (.int (128 : Int32)), .val (.int (143 : Int32)), .val (.int ss)] [(.ref bb)])) _
                refine XS.iconst X208.here hx rfl (hb hby at_273) ?_
                show Steps p.tables e below (T208.setTop (mkF m 274 #[.val (.int kind), .val (.int a), .val (.int b), .val (.int d), .val (.int (6 : Int32)), .val (.int (3 : Int32)), .val (.ref bb), .val (.int ff), .val (.int (128 : Int32)), .val (.int (143 : Int32)), .val (.int ss)] [(.int (0 : Int32)), (.ref bb)])) _
                refine XS.iload X208.here hx rfl (hb hby at_274) rfl ?_
                show Steps p.tables e below (T208.setTop (mkF m 276 #[.val (.int kind), .val (.int a), .val (.int b), .val (.int d), .val (.int (6 : Int32)), .val (.int (3 : Int32)), .val (.ref bb), .val (.int ff), .val (.int (128 : Int32)), .val (.int (143 : Int32)), .val (.int ss)] [(.int ff), (.int (0 : Int32)), (.ref bb)])) _
                refine XS.i2b X208.here hx rfl (hb hby at_276) rfl ?_
                exact Steps.refl _)
              obtain ⟨cl257, Ac257, hcl257⟩ := B208
              obtain ⟨T258, h258, X258, e258, W258, st258⟩ := stB X208 hx hZ e208 Ac257 (j := (0 : Int32)) (by rw [hcl257]; exact own_in4 (by decide)) (g := (mkF m 277 #[.val (.int kind), .val (.int a), .val (.int b), .val (.int d), .val (.int (6 : Int32)), .val (.int (3 : Int32)), .val (.ref bb), .val (.int ff), .val (.int (128 : Int32)), .val (.int (143 : Int32)), .val (.int ss)] [(.int (ff.toInt8.toInt32)), (.int (0 : Int32)), (.ref bb)])) rfl rfl (hb hby at_277)
              have c259 : Steps p.tables e below S0 (T258.setTop (mkF m 278 #[.val (.int kind), .val (.int a), .val (.int b), .val (.int d), .val (.int (6 : Int32)), .val (.int (3 : Int32)), .val (.ref bb), .val (.int ff), .val (.int (128 : Int32)), .val (.int (143 : Int32)), .val (.int ss)] [])) := c256.trans (by
                refine st258 _ ?_
                exact Steps.refl _)
              have B258 : own_BA Z h258 bb (nar .byte (ff.toInt8.toInt32)) 0 0 0 := ⟨_, Ac257.same W258, by simp [Cell.setSlot, hcl257]⟩
              have N258 := Fr.snoc X258 N0 g_b
              have Z258 : n0 ≤ h258.size := by rw [W258.size]; exact Z208
              have c260 : Steps p.tables e below S0 (T258.setTop (mkF m 284 #[.val (.int kind), .val (.int a), .val (.int b), .val (.int d), .val (.int (6 : Int32)), .val (.int (3 : Int32)), .val (.ref bb), .val (.int ff), .val (.int (128 : Int32)), .val (.int (143 : Int32)), .val (.int ss)] [(.int (ss.toInt8.toInt32)), (.int (1 : Int32)), (.ref bb)])) := c259.trans (by
                refine XS.aload X258.here hx rfl (hb hby at_278) rfl rfl ?_
                show Steps p.tables e below (T258.setTop (mkF m 280 #[.val (.int kind), .val (.int a), .val (.int b), .val (.int d), .val (.int (6 : Int32)), .val (.int (3 : Int32)), .val (.ref bb), .val (.int ff), .val (.int (128 : Int32)), .val (.int (143 : Int32)), .val (.int ss)] [(.ref bb)])) _
                refine XS.iconst X258.here hx rfl (hb hby at_280) ?_
                show Steps p.tables e below (T258.setTop (mkF m 281 #[.val (.int kind), .val (.int a), .val (.int b), .val (.int d), .val (.int (6 : Int32)), .val (.int (3 : Int32)), .val (.ref bb), .val (.int ff), .val (.int (128 : Int32)), .val (.int (143 : Int32)), .val (.int ss)] [(.int (1 : Int32)), (.ref bb)])) _
                refine XS.iload X258.here hx rfl (hb hby at_281) rfl ?_
                show Steps p.tables e below (T258.setTop (mkF m 283 #[.val (.int kind), .val (.int a), .val (.int b), .val (.int d), .val (.int (6 : Int32)), .val (.int (3 : Int32)), .val (.ref bb), .val (.int ff), .val (.int (128 : Int32)), .val (.int (143 : Int32)), .val (.int ss)] [(.int ss), (.int (1 : Int32)), (.ref bb)])) _
                refine XS.i2b X258.here hx rfl (hb hby at_283) rfl ?_
                exact Steps.refl _)
              obtain ⟨cl261, Ac261, hcl261⟩ := B258
              obtain ⟨T262, h262, X262, e262, W262, st262⟩ := stB X258 hx hZ e258 Ac261 (j := (1 : Int32)) (by rw [hcl261]; exact own_in4 (by decide)) (g := (mkF m 284 #[.val (.int kind), .val (.int a), .val (.int b), .val (.int d), .val (.int (6 : Int32)), .val (.int (3 : Int32)), .val (.ref bb), .val (.int ff), .val (.int (128 : Int32)), .val (.int (143 : Int32)), .val (.int ss)] [(.int (ss.toInt8.toInt32)), (.int (1 : Int32)), (.ref bb)])) rfl rfl (hb hby at_284)
              have c263 : Steps p.tables e below S0 (T262.setTop (mkF m 285 #[.val (.int kind), .val (.int a), .val (.int b), .val (.int d), .val (.int (6 : Int32)), .val (.int (3 : Int32)), .val (.ref bb), .val (.int ff), .val (.int (128 : Int32)), .val (.int (143 : Int32)), .val (.int ss)] [])) := c260.trans (by
                refine st262 _ ?_
                exact Steps.refl _)
              have B262 : own_BA Z h262 bb (nar .byte (ff.toInt8.toInt32)) (nar .byte (ss.toInt8.toInt32)) 0 0 := ⟨_, Ac261.same W262, by simp [Cell.setSlot, hcl261]⟩
              have N262 := Fr.snoc X262 N258 g_b
              have Z262 : n0 ≤ h262.size := by rw [W262.size]; exact Z258
              have c264 : Steps p.tables e below S0 (T262.setTop (mkF m 288 #[.val (.int kind), .val (.int a), .val (.int b), .val (.int d), .val (.int (6 : Int32)), .val (.int (3 : Int32)), .val (.ref bb), .val (.int ff), .val (.int (128 : Int32)), .val (.int (143 : Int32)), .val (.int ss)] [(.int (3 : Int32)), (.int (3 : Int32))])) := c263.trans (by
                refine XS.iload X262.here hx rfl (hb hby at_285) rfl ?_
                show Steps p.tables e below (T262.setTop (mkF m 287 #[.val (.int kind), .val (.int a), .val (.int b), .val (.int d), .val (.int (6 : Int32)), .val (.int (3 : Int32)), .val (.ref bb), .val (.int ff), .val (.int (128 : Int32)), .val (.int (143 : Int32)), .val (.int ss)] [(.int (3 : Int32))])) _
                refine XS.iconst X262.here hx rfl (hb hby at_287) ?_
                exact Steps.refl _)
              have c265 : Steps p.tables e below S0 (T262.setTop (mkF m 291 #[.val (.int kind), .val (.int a), .val (.int b), .val (.int d), .val (.int (6 : Int32)), .val (.int (3 : Int32)), .val (.ref bb), .val (.int ff), .val (.int (128 : Int32)), .val (.int (143 : Int32)), .val (.int ss)] [])) := c264.trans (by
                refine XS.icmpNo X262.here hx rfl (hb hby at_288) rfl (teq (by decide)).2 ?_
                exact Steps.refl _)
              have c266 : Steps p.tables e below S0 (T262.setTop (mkF m 303 #[.val (.int kind), .val (.int a), .val (.int b), .val (.int d), .val (.int (6 : Int32)), .val (.int (3 : Int32)), .val (.ref bb), .val (.int ff), .val (.int (128 : Int32)), .val (.int (143 : Int32)), .val (.int ss)] [(.int (((128 : Int32) + (d &&& (63 : Int32))).toInt8.toInt32)), (.int (2 : Int32)), (.ref bb)])) := c265.trans (by
                refine XS.aload X262.here hx rfl (hb hby at_291) rfl rfl ?_
                show Steps p.tables e below (T262.setTop (mkF m 293 #[.val (.int kind), .val (.int a), .val (.int b), .val (.int d), .val (.int (6 : Int32)), .val (.int (3 : Int32)), .val (.ref bb), .val (.int ff), .val (.int (128 : Int32)), .val (.int (143 : Int32)), .val (.int ss)] [(.ref bb)])) _
                refine XS.iconst X262.here hx rfl (hb hby at_293) ?_
                show Steps p.tables e below (T262.setTop (mkF m 294 #[.val (.int kind), .val (.int a), .val (.int b), .val (.int d), .val (.int (6 : Int32)), .val (.int (3 : Int32)), .val (.ref bb), .val (.int ff), .val (.int (128 : Int32)), .val (.int (143 : Int32)), .val (.int ss)] [(.int (2 : Int32)), (.ref bb)])) _
                refine XS.sipush X262.here hx rfl (hb hby at_294) ?_
                show Steps p.tables e below (T262.setTop (mkF m 297 #[.val (.int kind), .val (.int a), .val (.int b), .val (.int d), .val (.int (6 : Int32)), .val (.int (3 : Int32)), .val (.ref bb), .val (.int ff), .val (.int (128 : Int32)), .val (.int (143 : Int32)), .val (.int ss)] [(.int (128 : Int32)), (.int (2 : Int32)), (.ref bb)])) _
                refine XS.iloadN X262.here hx rfl (hb hby at_297) rfl ?_
                show Steps p.tables e below (T262.setTop (mkF m 298 #[.val (.int kind), .val (.int a), .val (.int b), .val (.int d), .val (.int (6 : Int32)), .val (.int (3 : Int32)), .val (.ref bb), .val (.int ff), .val (.int (128 : Int32)), .val (.int (143 : Int32)), .val (.int ss)] [(.int d), (.int (128 : Int32)), (.int (2 : Int32)), (.ref bb)])) _
                refine XS.bipush X262.here hx rfl (hb hby at_298) ?_
                show Steps p.tables e below (T262.setTop (mkF m 300 #[.val (.int kind), .val (.int a), .val (.int b), .val (.int d), .val (.int (6 : Int32)), .val (.int (3 : Int32)), .val (.ref bb), .val (.int ff), .val (.int (128 : Int32)), .val (.int (143 : Int32)), .val (.int ss)] [(.int (63 : Int32)), (.int d), (.int (128 : Int32)), (.int (2 : Int32)), (.ref bb)])) _
                refine XS.iand X262.here hx rfl (hb hby at_300) rfl ?_
                show Steps p.tables e below (T262.setTop (mkF m 301 #[.val (.int kind), .val (.int a), .val (.int b), .val (.int d), .val (.int (6 : Int32)), .val (.int (3 : Int32)), .val (.ref bb), .val (.int ff), .val (.int (128 : Int32)), .val (.int (143 : Int32)), .val (.int ss)] [(.int (d &&& (63 : Int32))), (.int (128 : Int32)), (.int (2 : Int32)), (.ref bb)])) _
                refine XS.iadd X262.here hx rfl (hb hby at_301) rfl ?_
                show Steps p.tables e below (T262.setTop (mkF m 302 #[.val (.int kind), .val (.int a), .val (.int b), .val (.int d), .val (.int (6 : Int32)), .val (.int (3 : Int32)), .val (.ref bb), .val (.int ff), .val (.int (128 : Int32)), .val (.int (143 : Int32)), .val (.int ss)] [(.int ((128 : Int32) + (d &&& (63 : Int32)))), (.int (2 : Int32)), (.ref bb)])) _
                refine XS.i2b X262.here hx rfl (hb hby at_302) rfl ?_
                exact Steps.refl _)
              obtain ⟨cl267, Ac267, hcl267⟩ := B262
              obtain ⟨T268, h268, X268, e268, W268, st268⟩ := stB X262 hx hZ e262 Ac267 (j := (2 : Int32)) (by rw [hcl267]; exact own_in4 (by decide)) (g := (mkF m 303 #[.val (.int kind), .val (.int a), .val (.int b), .val (.int d), .val (.int (6 : Int32)), .val (.int (3 : Int32)), .val (.ref bb), .val (.int ff), .val (.int (128 : Int32)), .val (.int (143 : Int32)), .val (.int ss)] [(.int (((128 : Int32) + (d &&& (63 : Int32))).toInt8.toInt32)), (.int (2 : Int32)), (.ref bb)])) rfl rfl (hb hby at_303)
              have c269 : Steps p.tables e below S0 (T268.setTop (mkF m 304 #[.val (.int kind), .val (.int a), .val (.int b), .val (.int d), .val (.int (6 : Int32)), .val (.int (3 : Int32)), .val (.ref bb), .val (.int ff), .val (.int (128 : Int32)), .val (.int (143 : Int32)), .val (.int ss)] [])) := c266.trans (by
                refine st268 _ ?_
                exact Steps.refl _)
              have B268 : own_BA Z h268 bb (nar .byte (ff.toInt8.toInt32)) (nar .byte (ss.toInt8.toInt32)) (nar .byte (((128 : Int32) + (d &&& (63 : Int32))).toInt8.toInt32)) 0 := ⟨_, Ac267.same W268, by simp [Cell.setSlot, hcl267]⟩
              have N268 := Fr.snoc X268 N262 g_b
              have Z268 : n0 ≤ h268.size := by rw [W268.size]; exact Z262
              have c270 : Steps p.tables e below S0 (T268.setTop (mkF m 307 #[.val (.int kind), .val (.int a), .val (.int b), .val (.int d), .val (.int (6 : Int32)), .val (.int (3 : Int32)), .val (.ref bb), .val (.int ff), .val (.int (128 : Int32)), .val (.int (143 : Int32)), .val (.int ss)] [(.int (0 : Int32)), (.ref bb)])) := c269.trans (by
                refine XS.aload X268.here hx rfl (hb hby at_304) rfl rfl ?_
                show Steps p.tables e below (T268.setTop (mkF m 306 #[.val (.int kind), .val (.int a), .val (.int b), .val (.int d), .val (.int (6 : Int32)), .val (.int (3 : Int32)), .val (.ref bb), .val (.int ff), .val (.int (128 : Int32)), .val (.int (143 : Int32)), .val (.int ss)] [(.ref bb)])) _
                refine XS.iconst X268.here hx rfl (hb hby at_306) ?_
                exact Steps.refl _)
              have J := own_J4 hf244 G.1 G.2
              have hu : ¬ (((nar .byte (ff.toInt8.toInt32)) &&& 255) < 128) := own_f2u (by omega) F.2
              have hr : own_run ((nar .byte (ff.toInt8.toInt32)) &&& 255) ((nar .byte (ss.toInt8.toInt32)) &&& 255) ((nar .byte (((128 : Int32) + (d &&& (63 : Int32))).toInt8.toInt32)) &&& 255) (0 &&& 255) = -3 := own_f3r F.1 F.2 J d
              obtain ⟨_, _, ⟨T271, L271, k271, n271⟩, -, X271, ⟨Lc271, hQ271, l271, y271, z271⟩, st271⟩ := Jvm.LawKit.callS X268 hx (y := (⟨"com/example/coersa/coersa/Utf8", "characterAt", "([BI)I"⟩ : MethodName)) hown (mvT hZ (hw _ (List.mem_of_getElem? (i := 6) rfl))) (mvT hZ (hw _ (List.mem_of_getElem? (i := 7) rfl))) (mvT hZ (hw _ (List.mem_of_getElem? (i := 3) rfl))) (mvT hZ (hw _ (List.mem_of_getElem? (i := 8) rfl))) (by decide) (backOf (W := 0) (own_cat3 l Z a0 hw [] bb 0 (nar .byte (ff.toInt8.toInt32)) (nar .byte (ss.toInt8.toInt32)) (nar .byte (((128 : Int32) + (d &&& (63 : Int32))).toInt8.toInt32)) 0 h268 n0 Z268 rfl B268 hu hr) hZ (hw _ (List.mem_of_getElem? (i := 8) rfl)) (hw _ (List.mem_of_getElem? (i := 3) rfl)) (by decide) (by decide)) (g := (mkF m 307 #[.val (.int kind), .val (.int a), .val (.int b), .val (.int d), .val (.int (6 : Int32)), .val (.int (3 : Int32)), .val (.ref bb), .val (.int ff), .val (.int (128 : Int32)), .val (.int (143 : Int32)), .val (.int ss)] [(.int (0 : Int32)), (.ref bb)])) rfl (by rw [hml]; rfl) (argsL := [(.ref bb), (.int (0 : Int32))]) (rest := []) (lenOf own_pd0 rfl) rfl (by show 2 * 0 + _ ≤ _; exact Nat.le_of_eq rfl) (hb hby at_307) (fun _ _ => ⟨rfl, e268, (Nat.le_of_ble_eq_true rfl), (Nat.le_of_ble_eq_true rfl)⟩)
              dsimp only [Pt.U, Pt.locs, Pt.cells, Pt.slots] at X271 l271 y271 z271 st271 hQ271
              subst l271 y271 z271
              obtain ⟨rfl, N271q, ec⟩ := hQ271
              have N271 := Fr.app N268 N271q
              have c272 : Steps p.tables e below S0 (T271.setTop (mkF m 310 #[.val (.int kind), .val (.int a), .val (.int b), .val (.int d), .val (.int (6 : Int32)), .val (.int (3 : Int32)), .val (.ref bb), .val (.int ff), .val (.int (128 : Int32)), .val (.int (143 : Int32)), .val (.int ss)] [(.int (own_ca3 (nar .byte (ff.toInt8.toInt32)) (nar .byte (ss.toInt8.toInt32)) (nar .byte (((128 : Int32) + (d &&& (63 : Int32))).toInt8.toInt32))))])) := c270.trans (by
                refine st271 _ ?_
                exact Steps.refl _)
              have Zc : n0 ≤ T271.heap.size := by rw [ec]; exact Z268
              obtain ⟨_, _, ⟨T273, L273, k273, n273⟩, -, X273, ⟨Lc273, hQ273, l273, y273, z273⟩, st273⟩ := Jvm.LawKit.callS X271 hx (y := (⟨"com/example/coersa/coersa/Utf8", "byteCount", "(I)I"⟩ : MethodName)) hown (mvT hZ (hw _ (List.mem_of_getElem? (i := 1) rfl))) (mvT hZ (hw _ (List.mem_of_getElem? (i := 2) rfl))) (mvT hZ (hw _ (List.mem_of_getElem? (i := 3) rfl))) (mvT hZ (hw _ (List.mem_of_getElem? (i := 4) rfl))) (by decide) (backOf (W := 0) (own_bct l Z a0 hw [] (own_ca3 (nar .byte (ff.toInt8.toInt32)) (nar .byte (ss.toInt8.toInt32)) (nar .byte (((128 : Int32) + (d &&& (63 : Int32))).toInt8.toInt32))) T271.heap n0 Zc) hZ (hw _ (List.mem_of_getElem? (i := 4) rfl)) (hw _ (List.mem_of_getElem? (i := 3) rfl)) (by decide) (by decide)) (g := (mkF m 310 #[.val (.int kind), .val (.int a), .val (.int b), .val (.int d), .val (.int (6 : Int32)), .val (.int (3 : Int32)), .val (.ref bb), .val (.int ff), .val (.int (128 : Int32)), .val (.int (143 : Int32)), .val (.int ss)] [(.int (own_ca3 (nar .byte (ff.toInt8.toInt32)) (nar .byte (ss.toInt8.toInt32)) (nar .byte (((128 : Int32) + (d &&& (63 : Int32))).toInt8.toInt32))))])) rfl (by rw [hml]; rfl) (argsL := [(.int (own_ca3 (nar .byte (ff.toInt8.toInt32)) (nar .byte (ss.toInt8.toInt32)) (nar .byte (((128 : Int32) + (d &&& (63 : Int32))).toInt8.toInt32))))]) (rest := []) (lenOf own_pd1 rfl) rfl (by show 2 * 0 + _ ≤ _; exact Nat.le_of_eq rfl) (hb hby at_310) (fun _ _ => ⟨rfl, rfl, (Nat.le_of_ble_eq_true rfl), (Nat.le_of_ble_eq_true rfl)⟩)
              dsimp only [Pt.U, Pt.locs, Pt.cells, Pt.slots] at X273 l273 y273 z273 st273 hQ273
              subst l273 y273 z273
              obtain ⟨rfl, N273q, eb⟩ := hQ273
              have N273 := Fr.app N271 N273q
              have c274 : Steps p.tables e below S0 (T273.setTop (mkF m 313 #[.val (.int kind), .val (.int a), .val (.int b), .val (.int d), .val (.int (6 : Int32)), .val (.int (3 : Int32)), .val (.ref bb), .val (.int ff), .val (.int (128 : Int32)), .val (.int (143 : Int32)), .val (.int ss)] [(.int (own_bc (own_ca3 (nar .byte (ff.toInt8.toInt32)) (nar .byte (ss.toInt8.toInt32)) (nar .byte (((128 : Int32) + (d &&& (63 : Int32))).toInt8.toInt32)))))])) := c272.trans (by
                refine st273 _ ?_
                exact Steps.refl _)
              have c275 : Steps p.tables e below S0 (T273.setTop (mkF m 315 #[.val (.int kind), .val (.int a), .val (.int b), .val (.int d), .val (.int (6 : Int32)), .val (.int (3 : Int32)), .val (.ref bb), .val (.int ff), .val (.int (128 : Int32)), .val (.int (143 : Int32)), .val (.int ss)] [(.int (3 : Int32)), (.int (own_bc (own_ca3 (nar .byte (ff.toInt8.toInt32)) (nar .byte (ss.toInt8.toInt32)) (nar .byte (((128 : Int32) + (d &&& (63 : Int32))).toInt8.toInt32)))))])) := c274.trans (by
                refine XS.iload X273.here hx rfl (hb hby at_313) rfl ?_
                exact Steps.refl _)
              have c276 : Steps p.tables e below S0 (T273.setTop (mkF m 318 #[.val (.int kind), .val (.int a), .val (.int b), .val (.int d), .val (.int (6 : Int32)), .val (.int (3 : Int32)), .val (.ref bb), .val (.int ff), .val (.int (128 : Int32)), .val (.int (143 : Int32)), .val (.int ss)] [])) := c275.trans (by
                refine XS.icmpNo X273.here hx rfl (hb hby at_315) rfl (teq (own_f3v F.1 F.2 _ _)).2 ?_
                exact Steps.refl _)
              have c277 : Steps p.tables e below S0 (T273.setTop (mkF m 323 #[.val (.int kind), .val (.int a), .val (.int b), .val (.int d), .val (.int (6 : Int32)), .val (.int (3 : Int32)), .val (.ref bb), .val (.int ff), .val (.int (128 : Int32)), .val (.int (143 : Int32)), .val (.int ss)] [(.int (1 : Int32))])) := c276.trans (by
                refine XS.iconst X273.here hx rfl (hb hby at_318) ?_
                show Steps p.tables e below (T273.setTop (mkF m 319 #[.val (.int kind), .val (.int a), .val (.int b), .val (.int d), .val (.int (6 : Int32)), .val (.int (3 : Int32)), .val (.ref bb), .val (.int ff), .val (.int (128 : Int32)), .val (.int (143 : Int32)), .val (.int ss)] [(.int (1 : Int32))])) _
                refine XS.goto X273.here hx rfl (pc0 := 319) (pc' := 323) rfl (hb hby at_319) (by decide) (by decide) ?_
                exact Steps.refl _)
              obtain ⟨fs, hr, hrun, hended, hW, hsame⟩ := X273.leave (v := some (.int (1 : Int32))) (fun h => by rw [Bd.returns] at h; cases h)
              exact ⟨_, _, c277.trans (retN X273 hx (t := .boolean) Bd.returns (by simp) (hb hby at_323) hr), hrun, hended, _, _, rfl, ⟨rfl, N273⟩, ⟨_, rfl⟩, hW, hsame.mono (by decide) (by decide)⟩
            · have c278 : Steps p.tables e below S0 (T208.setTop (mkF m 254 #[.val (.int kind), .val (.int a), .val (.int b), .val (.int d), .val (.int (6 : Int32)), .val (.int (3 : Int32)), .val (.ref bb), .val (.int ff), .val (.int (128 : Int32)), .val (.int (191 : Int32)), .unset] [])) := c251.trans (by
                refine XS.icmpYes X208.here hx rfl (pc0 := 246) (pc' := 254) rfl (hb hby at_246) rfl (feq hf244).2 (by decide) (by decide) ?_
                exact Steps.refl _)
              have c279 : Steps p.tables e below S0 (T208.setTop (mkF m 267 #[.val (.int kind), .val (.int a), .val (.int b), .val (.int d), .val (.int (6 : Int32)), .val (.int (3 : Int32)), .val (.ref bb), .val (.int ff), .val (.int (128 : Int32)), .val (.int (191 : Int32)), .unset] [(.int (((191 : Int32) - (128 : Int32)) + (1 : Int32))), (.int (b &&& (2147483647 : Int32))), (.int (128 : Int32))])) := c278.trans (by
                refine XS.iload X208.here hx rfl (hb hby at_254) rfl ?_
                show Steps p.tables e below (T208.setTop (mkF m 256 #[.val (.int kind), .val (.int a), .val (.int b), .val (.int d), .val (.int (6 : Int32)), .val (.int (3 : Int32)), .val (.ref bb), .val (.int ff), .val (.int (128 : Int32)), .val (.int (191 : Int32)), .unset] [(.int (128 : Int32))])) _
                refine XS.iloadN X208.here hx rfl (hb hby at_256) rfl ?_
                show Steps p.tables e below (T208.setTop (mkF m 257 #[.val (.int kind), .val (.int a), .val (.int b), .val (.int d), .val (.int (6 : Int32)), .val (.int (3 : Int32)), .val (.ref bb), .val (.int ff), .val (.int (128 : Int32)), .val (.int (191 : Int32)), .unset] [(.int b), (.int (128 : Int32))])) _
                refine X208.ldcInt hx hown (mvT hZ (hw _ (List.mem_of_getElem? (i := 0) rfl))) (g := (mkF m 257 #[.val (.int kind), .val (.int a), .val (.int b), .val (.int d), .val (.int (6 : Int32)), .val (.int (3 : Int32)), .val (.ref bb), .val (.int ff), .val (.int (128 : Int32)), .val (.int (191 : Int32)), .unset] [(.int b), (.int (128 : Int32))])) rfl (hb hby at_257) _ ?_
                show Steps p.tables e below (T208.setTop (mkF m 259 #[.val (.int kind), .val (.int a), .val (.int b), .val (.int d), .val (.int (6 : Int32)), .val (.int (3 : Int32)), .val (.ref bb), .val (.int ff), .val (.int (128 : Int32)), .val (.int (191 : Int32)), .unset] [(.int (2147483647 : Int32)), (.int b), (.int (128 : Int32))])) _
                refine XS.iand X208.here hx rfl (hb hby at_259) rfl ?_
                show Steps p.tables e below (T208.setTop (mkF m 260 #[.val (.int kind), .val (.int a), .val (.int b), .val (.int d), .val (.int (6 : Int32)), .val (.int (3 : Int32)), .val (.ref bb), .val (.int ff), .val (.int (128 : Int32)), .val (.int (191 : Int32)), .unset] [(.int (b &&& (2147483647 : Int32))), (.int (128 : Int32))])) _
                refine XS.iload X208.here hx rfl (hb hby at_260) rfl ?_
                show Steps p.tables e below (T208.setTop (mkF m 262 #[.val (.int kind), .val (.int a), .val (.int b), .val (.int d), .val (.int (6 : Int32)), .val (.int (3 : Int32)), .val (.ref bb), .val (.int ff), .val (.int (128 : Int32)), .val (.int (191 : Int32)), .unset] [(.int (191 : Int32)), (.int (b &&& (2147483647 : Int32))), (.int (128 : Int32))])) _
                refine XS.iload X208.here hx rfl (hb hby at_262) rfl ?_
                show Steps p.tables e below (T208.setTop (mkF m 264 #[.val (.int kind), .val (.int a), .val (.int b), .val (.int d), .val (.int (6 : Int32)), .val (.int (3 : Int32)), .val (.ref bb), .val (.int ff), .val (.int (128 : Int32)), .val (.int (191 : Int32)), .unset] [(.int (128 : Int32)), (.int (191 : Int32)), (.int (b &&& (2147483647 : Int32))), (.int (128 : Int32))])) _
                refine XS.isub X208.here hx rfl (hb hby at_264) rfl ?_
                show Steps p.tables e below (T208.setTop (mkF m 265 #[.val (.int kind), .val (.int a), .val (.int b), .val (.int d), .val (.int (6 : Int32)), .val (.int (3 : Int32)), .val (.ref bb), .val (.int ff), .val (.int (128 : Int32)), .val (.int (191 : Int32)), .unset] [(.int ((191 : Int32) - (128 : Int32))), (.int (b &&& (2147483647 : Int32))), (.int (128 : Int32))])) _
                refine XS.iconst X208.here hx rfl (hb hby at_265) ?_
                show Steps p.tables e below (T208.setTop (mkF m 266 #[.val (.int kind), .val (.int a), .val (.int b), .val (.int d), .val (.int (6 : Int32)), .val (.int (3 : Int32)), .val (.ref bb), .val (.int ff), .val (.int (128 : Int32)), .val (.int (191 : Int32)), .unset] [(.int (1 : Int32)), (.int ((191 : Int32) - (128 : Int32))), (.int (b &&& (2147483647 : Int32))), (.int (128 : Int32))])) _
                refine XS.iadd X208.here hx rfl (hb hby at_266) rfl ?_
                exact Steps.refl _)
              have c280 : Steps p.tables e below S0 (T208.setTop (mkF m 268 #[.val (.int kind), .val (.int a), .val (.int b), .val (.int d), .val (.int (6 : Int32)), .val (.int (3 : Int32)), .val (.ref bb), .val (.int ff), .val (.int (128 : Int32)), .val (.int (191 : Int32)), .unset] [(.int ((b &&& (2147483647 : Int32)) % (((191 : Int32) - (128 : Int32)) + (1 : Int32)))), (.int (128 : Int32))])) := c279.trans (by
                refine iremM X208 hx rfl (hb hby at_267) rfl (by decide) ?_
                exact Steps.refl _)
              have c281 : Steps p.tables e below S0 (T208.setTop (mkF m 269 #[.val (.int kind), .val (.int a), .val (.int b), .val (.int d), .val (.int (6 : Int32)), .val (.int (3 : Int32)), .val (.ref bb), .val (.int ff), .val (.int (128 : Int32)), .val (.int (191 : Int32)), .unset] [(.int ((128 : Int32) + ((b &&& (2147483647 : Int32)) % (((191 : Int32) - (128 : Int32)) + (1 : Int32)))))])) := c280.trans (by
                refine XS.iadd X208.here hx rfl (hb hby at_268) rfl ?_
                exact Steps.refl _)
              obtain ⟨ss, hss⟩ : ∃ z : Int32, z = ((128 : Int32) + ((b &&& (2147483647 : Int32)) % (((191 : Int32) - (128 : Int32)) + (1 : Int32)))) := ⟨_, rfl⟩
              rw [← hss] at c281
              have G := own_ss5 hss
              have c282 : Steps p.tables e below S0 (T208.setTop (mkF m 277 #[.val (.int kind), .val (.int a), .val (.int b), .val (.int d), .val (.int (6 : Int32)), .val (.int (3 : Int32)), .val (.ref bb), .val (.int ff), .val (.int (128 : Int32)), .val (.int (191 : Int32)), .val (.int ss)] [(.int (ff.toInt8.toInt32)), (.int (0 : Int32)), (.ref bb)])) := c281.trans (by
                refine XS.istore X208.here hx rfl (hb hby at_269) rfl (l' := #[.val (.int kind), .val (.int a), .val (.int b), .val (.int d), .val (.int (6 : Int32)), .val (.int (3 : Int32)), .val (.ref bb), .val (.int ff), .val (.int (128 : Int32)), .val (.int (191 : Int32)), .val (.int ss)]) rfl ?_
                show Steps p.tables e below (T208.setTop (mkF m 271 #[.val (.int kind), .val (.int a), .val (.int b), .val (.int d), .val (.int (6 : Int32)), .val (.int (3 : Int32)), .val (.ref bb), .val (.int ff), .val (.int (128 : Int32)), .val (.int (191 : Int32)), .val (.int ss)] [])) _
                refine XS.aload X208.here hx rfl (hb hby at_271) rfl rfl ?_
                show Steps p.tables e below (T208.setTop (mkF m 273 #[.val (.int kind), .val (.int a), .val (.int b), .val (.int d), .val (.int (6 : Int32)), .val (.int (3 : Int32)), .val (.ref bb), .val (.int ff), .val (.int (128 : Int32)), .val (.int (191 : Int32)), .val (.int ss)] [(.ref bb)])) _
                refine XS.iconst X208.here hx rfl (hb hby at_273) ?_
                show Steps p.tables e below (T208.setTop (mkF m 274 #[.val (.int kind), .val (.int a), .val (.int b), .val (.int d), .val (.int (6 : Int32)), .val (.int (3 : Int32)), .val (.ref bb), .val (.int ff), .val (.int (128 : Int32)), .val (.int (191 : Int32)), .val (.int ss)] [(.int (0 : Int32)), (.ref bb)])) _
                refine XS.iload X208.here hx rfl (hb hby at_274) rfl ?_
                show Steps p.tables e below (T208.setTop (mkF m 276 #[.val (.int kind), .val (.int a), .val (.int b), .val (.int d), .val (.int (6 : Int32)), .val (.int (3 : Int32)), .val (.ref bb), .val (.int ff), .val (.int (128 : Int32)), .val (.int (191 : Int32)), .val (.int ss)] [(.int ff), (.int (0 : Int32)), (.ref bb)])) _
                refine XS.i2b X208.here hx rfl (hb hby at_276) rfl ?_
                exact Steps.refl _)
              obtain ⟨cl283, Ac283, hcl283⟩ := B208
              obtain ⟨T284, h284, X284, e284, W284, st284⟩ := stB X208 hx hZ e208 Ac283 (j := (0 : Int32)) (by rw [hcl283]; exact own_in4 (by decide)) (g := (mkF m 277 #[.val (.int kind), .val (.int a), .val (.int b), .val (.int d), .val (.int (6 : Int32)), .val (.int (3 : Int32)), .val (.ref bb), .val (.int ff), .val (.int (128 : Int32)), .val (.int (191 : Int32)), .val (.int ss)] [(.int (ff.toInt8.toInt32)), (.int (0 : Int32)), (.ref bb)])) rfl rfl (hb hby at_277)
              have c285 : Steps p.tables e below S0 (T284.setTop (mkF m 278 #[.val (.int kind), .val (.int a), .val (.int b), .val (.int d), .val (.int (6 : Int32)), .val (.int (3 : Int32)), .val (.ref bb), .val (.int ff), .val (.int (128 : Int32)), .val (.int (191 : Int32)), .val (.int ss)] [])) := c282.trans (by
                refine st284 _ ?_
                exact Steps.refl _)
              have B284 : own_BA Z h284 bb (nar .byte (ff.toInt8.toInt32)) 0 0 0 := ⟨_, Ac283.same W284, by simp [Cell.setSlot, hcl283]⟩
              have N284 := Fr.snoc X284 N0 g_b
              have Z284 : n0 ≤ h284.size := by rw [W284.size]; exact Z208
              have c286 : Steps p.tables e below S0 (T284.setTop (mkF m 284 #[.val (.int kind), .val (.int a), .val (.int b), .val (.int d), .val (.int (6 : Int32)), .val (.int (3 : Int32)), .val (.ref bb), .val (.int ff), .val (.int (128 : Int32)), .val (.int (191 : Int32)), .val (.int ss)] [(.int (ss.toInt8.toInt32)), (.int (1 : Int32)), (.ref bb)])) := c285.trans (by
                refine XS.aload X284.here hx rfl (hb hby at_278) rfl rfl ?_
                show Steps p.tables e below (T284.setTop (mkF m 280 #[.val (.int kind), .val (.int a), .val (.int b), .val (.int d), .val (.int (6 : Int32)), .val (.int (3 : Int32)), .val (.ref bb), .val (.int ff), .val (.int (128 : Int32)), .val (.int (191 : Int32)), .val (.int ss)] [(.ref bb)])) _
                refine XS.iconst X284.here hx rfl (hb hby at_280) ?_
                show Steps p.tables e below (T284.setTop (mkF m 281 #[.val (.int kind), .val (.int a), .val (.int b), .val (.int d), .val (.int (6 : Int32)), .val (.int (3 : Int32)), .val (.ref bb), .val (.int ff), .val (.int (128 : Int32)), .val (.int (191 : Int32)), .val (.int ss)] [(.int (1 : Int32)), (.ref bb)])) _
                refine XS.iload X284.here hx rfl (hb hby at_281) rfl ?_
                show Steps p.tables e below (T284.setTop (mkF m 283 #[.val (.int kind), .val (.int a), .val (.int b), .val (.int d), .val (.int (6 : Int32)), .val (.int (3 : Int32)), .val (.ref bb), .val (.int ff), .val (.int (128 : Int32)), .val (.int (191 : Int32)), .val (.int ss)] [(.int ss), (.int (1 : Int32)), (.ref bb)])) _
                refine XS.i2b X284.here hx rfl (hb hby at_283) rfl ?_
                exact Steps.refl _)
              obtain ⟨cl287, Ac287, hcl287⟩ := B284
              obtain ⟨T288, h288, X288, e288, W288, st288⟩ := stB X284 hx hZ e284 Ac287 (j := (1 : Int32)) (by rw [hcl287]; exact own_in4 (by decide)) (g := (mkF m 284 #[.val (.int kind), .val (.int a), .val (.int b), .val (.int d), .val (.int (6 : Int32)), .val (.int (3 : Int32)), .val (.ref bb), .val (.int ff), .val (.int (128 : Int32)), .val (.int (191 : Int32)), .val (.int ss)] [(.int (ss.toInt8.toInt32)), (.int (1 : Int32)), (.ref bb)])) rfl rfl (hb hby at_284)
              have c289 : Steps p.tables e below S0 (T288.setTop (mkF m 285 #[.val (.int kind), .val (.int a), .val (.int b), .val (.int d), .val (.int (6 : Int32)), .val (.int (3 : Int32)), .val (.ref bb), .val (.int ff), .val (.int (128 : Int32)), .val (.int (191 : Int32)), .val (.int ss)] [])) := c286.trans (by
                refine st288 _ ?_
                exact Steps.refl _)
              have B288 : own_BA Z h288 bb (nar .byte (ff.toInt8.toInt32)) (nar .byte (ss.toInt8.toInt32)) 0 0 := ⟨_, Ac287.same W288, by simp [Cell.setSlot, hcl287]⟩
              have N288 := Fr.snoc X288 N284 g_b
              have Z288 : n0 ≤ h288.size := by rw [W288.size]; exact Z284
              have c290 : Steps p.tables e below S0 (T288.setTop (mkF m 288 #[.val (.int kind), .val (.int a), .val (.int b), .val (.int d), .val (.int (6 : Int32)), .val (.int (3 : Int32)), .val (.ref bb), .val (.int ff), .val (.int (128 : Int32)), .val (.int (191 : Int32)), .val (.int ss)] [(.int (3 : Int32)), (.int (3 : Int32))])) := c289.trans (by
                refine XS.iload X288.here hx rfl (hb hby at_285) rfl ?_
                show Steps p.tables e below (T288.setTop (mkF m 287 #[.val (.int kind), .val (.int a), .val (.int b), .val (.int d), .val (.int (6 : Int32)), .val (.int (3 : Int32)), .val (.ref bb), .val (.int ff), .val (.int (128 : Int32)), .val (.int (191 : Int32)), .val (.int ss)] [(.int (3 : Int32))])) _
                refine XS.iconst X288.here hx rfl (hb hby at_287) ?_
                exact Steps.refl _)
              have c291 : Steps p.tables e below S0 (T288.setTop (mkF m 291 #[.val (.int kind), .val (.int a), .val (.int b), .val (.int d), .val (.int (6 : Int32)), .val (.int (3 : Int32)), .val (.ref bb), .val (.int ff), .val (.int (128 : Int32)), .val (.int (191 : Int32)), .val (.int ss)] [])) := c290.trans (by
                refine XS.icmpNo X288.here hx rfl (hb hby at_288) rfl (teq (by decide)).2 ?_
                exact Steps.refl _)
              have c292 : Steps p.tables e below S0 (T288.setTop (mkF m 303 #[.val (.int kind), .val (.int a), .val (.int b), .val (.int d), .val (.int (6 : Int32)), .val (.int (3 : Int32)), .val (.ref bb), .val (.int ff), .val (.int (128 : Int32)), .val (.int (191 : Int32)), .val (.int ss)] [(.int (((128 : Int32) + (d &&& (63 : Int32))).toInt8.toInt32)), (.int (2 : Int32)), (.ref bb)])) := c291.trans (by
                refine XS.aload X288.here hx rfl (hb hby at_291) rfl rfl ?_
                show Steps p.tables e below (T288.setTop (mkF m 293 #[.val (.int kind), .val (.int a), .val (.int b), .val (.int d), .val (.int (6 : Int32)), .val (.int (3 : Int32)), .val (.ref bb), .val (.int ff), .val (.int (128 : Int32)), .val (.int (191 : Int32)), .val (.int ss)] [(.ref bb)])) _
                refine XS.iconst X288.here hx rfl (hb hby at_293) ?_
                show Steps p.tables e below (T288.setTop (mkF m 294 #[.val (.int kind), .val (.int a), .val (.int b), .val (.int d), .val (.int (6 : Int32)), .val (.int (3 : Int32)), .val (.ref bb), .val (.int ff), .val (.int (128 : Int32)), .val (.int (191 : Int32)), .val (.int ss)] [(.int (2 : Int32)), (.ref bb)])) _
                refine XS.sipush X288.here hx rfl (hb hby at_294) ?_
                show Steps p.tables e below (T288.setTop (mkF m 297 #[.val (.int kind), .val (.int a), .val (.int b), .val (.int d), .val (.int (6 : Int32)), .val (.int (3 : Int32)), .val (.ref bb), .val (.int ff), .val (.int (128 : Int32)), .val (.int (191 : Int32)), .val (.int ss)] [(.int (128 : Int32)), (.int (2 : Int32)), (.ref bb)])) _
                refine XS.iloadN X288.here hx rfl (hb hby at_297) rfl ?_
                show Steps p.tables e below (T288.setTop (mkF m 298 #[.val (.int kind), .val (.int a), .val (.int b), .val (.int d), .val (.int (6 : Int32)), .val (.int (3 : Int32)), .val (.ref bb), .val (.int ff), .val (.int (128 : Int32)), .val (.int (191 : Int32)), .val (.int ss)] [(.int d), (.int (128 : Int32)), (.int (2 : Int32)), (.ref bb)])) _
                refine XS.bipush X288.here hx rfl (hb hby at_298) ?_
                show Steps p.tables e below (T288.setTop (mkF m 300 #[.val (.int kind), .val (.int a), .val (.int b), .val (.int d), .val (.int (6 : Int32)), .val (.int (3 : Int32)), .val (.ref bb), .val (.int ff), .val (.int (128 : Int32)), .val (.int (191 : Int32)), .val (.int ss)] [(.int (63 : Int32)), (.int d), (.int (128 : Int32)), (.int (2 : Int32)), (.ref bb)])) _
                refine XS.iand X288.here hx rfl (hb hby at_300) rfl ?_
                show Steps p.tables e below (T288.setTop (mkF m 301 #[.val (.int kind), .val (.int a), .val (.int b), .val (.int d), .val (.int (6 : Int32)), .val (.int (3 : Int32)), .val (.ref bb), .val (.int ff), .val (.int (128 : Int32)), .val (.int (191 : Int32)), .val (.int ss)] [(.int (d &&& (63 : Int32))), (.int (128 : Int32)), (.int (2 : Int32)), (.ref bb)])) _
                refine XS.iadd X288.here hx rfl (hb hby at_301) rfl ?_
                show Steps p.tables e below (T288.setTop (mkF m 302 #[.val (.int kind), .val (.int a), .val (.int b), .val (.int d), .val (.int (6 : Int32)), .val (.int (3 : Int32)), .val (.ref bb), .val (.int ff), .val (.int (128 : Int32)), .val (.int (191 : Int32)), .val (.int ss)] [(.int ((128 : Int32) + (d &&& (63 : Int32)))), (.int (2 : Int32)), (.ref bb)])) _
                refine XS.i2b X288.here hx rfl (hb hby at_302) rfl ?_
                exact Steps.refl _)
              obtain ⟨cl293, Ac293, hcl293⟩ := B288
              obtain ⟨T294, h294, X294, e294, W294, st294⟩ := stB X288 hx hZ e288 Ac293 (j := (2 : Int32)) (by rw [hcl293]; exact own_in4 (by decide)) (g := (mkF m 303 #[.val (.int kind), .val (.int a), .val (.int b), .val (.int d), .val (.int (6 : Int32)), .val (.int (3 : Int32)), .val (.ref bb), .val (.int ff), .val (.int (128 : Int32)), .val (.int (191 : Int32)), .val (.int ss)] [(.int (((128 : Int32) + (d &&& (63 : Int32))).toInt8.toInt32)), (.int (2 : Int32)), (.ref bb)])) rfl rfl (hb hby at_303)
              have c295 : Steps p.tables e below S0 (T294.setTop (mkF m 304 #[.val (.int kind), .val (.int a), .val (.int b), .val (.int d), .val (.int (6 : Int32)), .val (.int (3 : Int32)), .val (.ref bb), .val (.int ff), .val (.int (128 : Int32)), .val (.int (191 : Int32)), .val (.int ss)] [])) := c292.trans (by
                refine st294 _ ?_
                exact Steps.refl _)
              have B294 : own_BA Z h294 bb (nar .byte (ff.toInt8.toInt32)) (nar .byte (ss.toInt8.toInt32)) (nar .byte (((128 : Int32) + (d &&& (63 : Int32))).toInt8.toInt32)) 0 := ⟨_, Ac293.same W294, by simp [Cell.setSlot, hcl293]⟩
              have N294 := Fr.snoc X294 N288 g_b
              have Z294 : n0 ≤ h294.size := by rw [W294.size]; exact Z288
              have c296 : Steps p.tables e below S0 (T294.setTop (mkF m 307 #[.val (.int kind), .val (.int a), .val (.int b), .val (.int d), .val (.int (6 : Int32)), .val (.int (3 : Int32)), .val (.ref bb), .val (.int ff), .val (.int (128 : Int32)), .val (.int (191 : Int32)), .val (.int ss)] [(.int (0 : Int32)), (.ref bb)])) := c295.trans (by
                refine XS.aload X294.here hx rfl (hb hby at_304) rfl rfl ?_
                show Steps p.tables e below (T294.setTop (mkF m 306 #[.val (.int kind), .val (.int a), .val (.int b), .val (.int d), .val (.int (6 : Int32)), .val (.int (3 : Int32)), .val (.ref bb), .val (.int ff), .val (.int (128 : Int32)), .val (.int (191 : Int32)), .val (.int ss)] [(.ref bb)])) _
                refine XS.iconst X294.here hx rfl (hb hby at_306) ?_
                exact Steps.refl _)
              have J := own_J5 hf224 hf237 hf240 hf244 G.1 G.2
              have hu : ¬ (((nar .byte (ff.toInt8.toInt32)) &&& 255) < 128) := own_f2u (by omega) F.2
              have hr : own_run ((nar .byte (ff.toInt8.toInt32)) &&& 255) ((nar .byte (ss.toInt8.toInt32)) &&& 255) ((nar .byte (((128 : Int32) + (d &&& (63 : Int32))).toInt8.toInt32)) &&& 255) (0 &&& 255) = -3 := own_f3r F.1 F.2 J d
              obtain ⟨_, _, ⟨T297, L297, k297, n297⟩, -, X297, ⟨Lc297, hQ297, l297, y297, z297⟩, st297⟩ := Jvm.LawKit.callS X294 hx (y := (⟨"com/example/coersa/coersa/Utf8", "characterAt", "([BI)I"⟩ : MethodName)) hown (mvT hZ (hw _ (List.mem_of_getElem? (i := 6) rfl))) (mvT hZ (hw _ (List.mem_of_getElem? (i := 7) rfl))) (mvT hZ (hw _ (List.mem_of_getElem? (i := 3) rfl))) (mvT hZ (hw _ (List.mem_of_getElem? (i := 8) rfl))) (by decide) (backOf (W := 0) (own_cat3 l Z a0 hw [] bb 0 (nar .byte (ff.toInt8.toInt32)) (nar .byte (ss.toInt8.toInt32)) (nar .byte (((128 : Int32) + (d &&& (63 : Int32))).toInt8.toInt32)) 0 h294 n0 Z294 rfl B294 hu hr) hZ (hw _ (List.mem_of_getElem? (i := 8) rfl)) (hw _ (List.mem_of_getElem? (i := 3) rfl)) (by decide) (by decide)) (g := (mkF m 307 #[.val (.int kind), .val (.int a), .val (.int b), .val (.int d), .val (.int (6 : Int32)), .val (.int (3 : Int32)), .val (.ref bb), .val (.int ff), .val (.int (128 : Int32)), .val (.int (191 : Int32)), .val (.int ss)] [(.int (0 : Int32)), (.ref bb)])) rfl (by rw [hml]; rfl) (argsL := [(.ref bb), (.int (0 : Int32))]) (rest := []) (lenOf own_pd0 rfl) rfl (by show 2 * 0 + _ ≤ _; exact Nat.le_of_eq rfl) (hb hby at_307) (fun _ _ => ⟨rfl, e294, (Nat.le_of_ble_eq_true rfl), (Nat.le_of_ble_eq_true rfl)⟩)
              dsimp only [Pt.U, Pt.locs, Pt.cells, Pt.slots] at X297 l297 y297 z297 st297 hQ297
              subst l297 y297 z297
              obtain ⟨rfl, N297q, ec⟩ := hQ297
              have N297 := Fr.app N294 N297q
              have c298 : Steps p.tables e below S0 (T297.setTop (mkF m 310 #[.val (.int kind), .val (.int a), .val (.int b), .val (.int d), .val (.int (6 : Int32)), .val (.int (3 : Int32)), .val (.ref bb), .val (.int ff), .val (.int (128 : Int32)), .val (.int (191 : Int32)), .val (.int ss)] [(.int (own_ca3 (nar .byte (ff.toInt8.toInt32)) (nar .byte (ss.toInt8.toInt32)) (nar .byte (((128 : Int32) + (d &&& (63 : Int32))).toInt8.toInt32))))])) := c296.trans (by
                refine st297 _ ?_
                exact Steps.refl _)
              have Zc : n0 ≤ T297.heap.size := by rw [ec]; exact Z294
              obtain ⟨_, _, ⟨T299, L299, k299, n299⟩, -, X299, ⟨Lc299, hQ299, l299, y299, z299⟩, st299⟩ := Jvm.LawKit.callS X297 hx (y := (⟨"com/example/coersa/coersa/Utf8", "byteCount", "(I)I"⟩ : MethodName)) hown (mvT hZ (hw _ (List.mem_of_getElem? (i := 1) rfl))) (mvT hZ (hw _ (List.mem_of_getElem? (i := 2) rfl))) (mvT hZ (hw _ (List.mem_of_getElem? (i := 3) rfl))) (mvT hZ (hw _ (List.mem_of_getElem? (i := 4) rfl))) (by decide) (backOf (W := 0) (own_bct l Z a0 hw [] (own_ca3 (nar .byte (ff.toInt8.toInt32)) (nar .byte (ss.toInt8.toInt32)) (nar .byte (((128 : Int32) + (d &&& (63 : Int32))).toInt8.toInt32))) T297.heap n0 Zc) hZ (hw _ (List.mem_of_getElem? (i := 4) rfl)) (hw _ (List.mem_of_getElem? (i := 3) rfl)) (by decide) (by decide)) (g := (mkF m 310 #[.val (.int kind), .val (.int a), .val (.int b), .val (.int d), .val (.int (6 : Int32)), .val (.int (3 : Int32)), .val (.ref bb), .val (.int ff), .val (.int (128 : Int32)), .val (.int (191 : Int32)), .val (.int ss)] [(.int (own_ca3 (nar .byte (ff.toInt8.toInt32)) (nar .byte (ss.toInt8.toInt32)) (nar .byte (((128 : Int32) + (d &&& (63 : Int32))).toInt8.toInt32))))])) rfl (by rw [hml]; rfl) (argsL := [(.int (own_ca3 (nar .byte (ff.toInt8.toInt32)) (nar .byte (ss.toInt8.toInt32)) (nar .byte (((128 : Int32) + (d &&& (63 : Int32))).toInt8.toInt32))))]) (rest := []) (lenOf own_pd1 rfl) rfl (by show 2 * 0 + _ ≤ _; exact Nat.le_of_eq rfl) (hb hby at_310) (fun _ _ => ⟨rfl, rfl, (Nat.le_of_ble_eq_true rfl), (Nat.le_of_ble_eq_true rfl)⟩)
              dsimp only [Pt.U, Pt.locs, Pt.cells, Pt.slots] at X299 l299 y299 z299 st299 hQ299
              subst l299 y299 z299
              obtain ⟨rfl, N299q, eb⟩ := hQ299
              have N299 := Fr.app N297 N299q
              have c300 : Steps p.tables e below S0 (T299.setTop (mkF m 313 #[.val (.int kind), .val (.int a), .val (.int b), .val (.int d), .val (.int (6 : Int32)), .val (.int (3 : Int32)), .val (.ref bb), .val (.int ff), .val (.int (128 : Int32)), .val (.int (191 : Int32)), .val (.int ss)] [(.int (own_bc (own_ca3 (nar .byte (ff.toInt8.toInt32)) (nar .byte (ss.toInt8.toInt32)) (nar .byte (((128 : Int32) + (d &&& (63 : Int32))).toInt8.toInt32)))))])) := c298.trans (by
                refine st299 _ ?_
                exact Steps.refl _)
              have c301 : Steps p.tables e below S0 (T299.setTop (mkF m 315 #[.val (.int kind), .val (.int a), .val (.int b), .val (.int d), .val (.int (6 : Int32)), .val (.int (3 : Int32)), .val (.ref bb), .val (.int ff), .val (.int (128 : Int32)), .val (.int (191 : Int32)), .val (.int ss)] [(.int (3 : Int32)), (.int (own_bc (own_ca3 (nar .byte (ff.toInt8.toInt32)) (nar .byte (ss.toInt8.toInt32)) (nar .byte (((128 : Int32) + (d &&& (63 : Int32))).toInt8.toInt32)))))])) := c300.trans (by
                refine XS.iload X299.here hx rfl (hb hby at_313) rfl ?_
                exact Steps.refl _)
              have c302 : Steps p.tables e below S0 (T299.setTop (mkF m 318 #[.val (.int kind), .val (.int a), .val (.int b), .val (.int d), .val (.int (6 : Int32)), .val (.int (3 : Int32)), .val (.ref bb), .val (.int ff), .val (.int (128 : Int32)), .val (.int (191 : Int32)), .val (.int ss)] [])) := c301.trans (by
                refine XS.icmpNo X299.here hx rfl (hb hby at_315) rfl (teq (own_f3v F.1 F.2 _ _)).2 ?_
                exact Steps.refl _)
              have c303 : Steps p.tables e below S0 (T299.setTop (mkF m 323 #[.val (.int kind), .val (.int a), .val (.int b), .val (.int d), .val (.int (6 : Int32)), .val (.int (3 : Int32)), .val (.ref bb), .val (.int ff), .val (.int (128 : Int32)), .val (.int (191 : Int32)), .val (.int ss)] [(.int (1 : Int32))])) := c302.trans (by
                refine XS.iconst X299.here hx rfl (hb hby at_318) ?_
                show Steps p.tables e below (T299.setTop (mkF m 319 #[.val (.int kind), .val (.int a), .val (.int b), .val (.int d), .val (.int (6 : Int32)), .val (.int (3 : Int32)), .val (.ref bb), .val (.int ff), .val (.int (128 : Int32)), .val (.int (191 : Int32)), .val (.int ss)] [(.int (1 : Int32))])) _
                refine XS.goto X299.here hx rfl (pc0 := 319) (pc' := 323) rfl (hb hby at_319) (by decide) (by decide) ?_
                exact Steps.refl _)
              obtain ⟨fs, hr, hrun, hended, hW, hsame⟩ := X299.leave (v := some (.int (1 : Int32))) (fun h => by rw [Bd.returns] at h; cases h)
              exact ⟨_, _, c303.trans (retN X299 hx (t := .boolean) Bd.returns (by simp) (hb hby at_323) hr), hrun, hended, _, _, rfl, ⟨rfl, N299⟩, ⟨_, rfl⟩, hW, hsame.mono (by decide) (by decide)⟩
    · rw [hk4] at c49
      have c304 : Steps p.tables e below S0 (s₁.setTop (mkF m 112 #[.val (.int kind), .val (.int a), .val (.int b), .val (.int d), .val (.int (7 : Int32)), .unset, .unset, .unset, .unset, .unset, .unset] [(.int (3 : Int32)), (.int ((7 : Int32) - (4 : Int32)))])) := c49.trans (by
        refine XS.iload X0.here hx rfl (hb hby at_107) rfl ?_
        show Steps p.tables e below (s₁.setTop (mkF m 109 #[.val (.int kind), .val (.int a), .val (.int b), .val (.int d), .val (.int (7 : Int32)), .unset, .unset, .unset, .unset, .unset, .unset] [(.int (7 : Int32))])) _
        refine XS.iconst X0.here hx rfl (hb hby at_109) ?_
        show Steps p.tables e below (s₁.setTop (mkF m 110 #[.val (.int kind), .val (.int a), .val (.int b), .val (.int d), .val (.int (7 : Int32)), .unset, .unset, .unset, .unset, .unset, .unset] [(.int (4 : Int32)), (.int (7 : Int32))])) _
        refine XS.isub X0.here hx rfl (hb hby at_110) rfl ?_
        show Steps p.tables e below (s₁.setTop (mkF m 111 #[.val (.int kind), .val (.int a), .val (.int b), .val (.int d), .val (.int (7 : Int32)), .unset, .unset, .unset, .unset, .unset, .unset] [(.int ((7 : Int32) - (4 : Int32)))])) _
        refine XS.iconst X0.here hx rfl (hb hby at_111) ?_
        exact Steps.refl _)
      have c305 : Steps p.tables e below S0 (s₁.setTop (mkF m 113 #[.val (.int kind), .val (.int a), .val (.int b), .val (.int d), .val (.int (7 : Int32)), .unset, .unset, .unset, .unset, .unset, .unset] [(.int (((7 : Int32) - (4 : Int32)) % (3 : Int32)))])) := c304.trans (by
        refine iremM X0 hx rfl (hb hby at_112) rfl (by decide) ?_
        exact Steps.refl _)
      have c306 : Steps p.tables e below S0 (s₁.setTop (mkF m 115 #[.val (.int kind), .val (.int a), .val (.int b), .val (.int d), .val (.int (7 : Int32)), .unset, .unset, .unset, .unset, .unset, .unset] [(.int ((((7 : Int32) - (4 : Int32)) % (3 : Int32)) + (1 : Int32)))])) := c305.trans (by
        refine XS.iconst X0.here hx rfl (hb hby at_113) ?_
        show Steps p.tables e below (s₁.setTop (mkF m 114 #[.val (.int kind), .val (.int a), .val (.int b), .val (.int d), .val (.int (7 : Int32)), .unset, .unset, .unset, .unset, .unset, .unset] [(.int (1 : Int32)), (.int (((7 : Int32) - (4 : Int32)) % (3 : Int32)))])) _
        refine XS.iadd X0.here hx rfl (hb hby at_114) rfl ?_
        exact Steps.refl _)
      rw [(show ((((7 : Int32) - (4 : Int32)) % (3 : Int32)) + (1 : Int32)) = 1 by decide)] at c306
      have c307 : Steps p.tables e below S0 (s₁.setTop (mkF m 118 #[.val (.int kind), .val (.int a), .val (.int b), .val (.int d), .val (.int (7 : Int32)), .val (.int (1 : Int32)), .unset, .unset, .unset, .unset, .unset] [(.int (4 : Int32))])) := c306.trans (by
        refine XS.istore X0.here hx rfl (hb hby at_115) rfl (l' := #[.val (.int kind), .val (.int a), .val (.int b), .val (.int d), .val (.int (7 : Int32)), .val (.int (1 : Int32)), .unset, .unset, .unset, .unset, .unset]) rfl ?_
        show Steps p.tables e below (s₁.setTop (mkF m 117 #[.val (.int kind), .val (.int a), .val (.int b), .val (.int d), .val (.int (7 : Int32)), .val (.int (1 : Int32)), .unset, .unset, .unset, .unset, .unset] [])) _
        refine XS.iconst X0.here hx rfl (hb hby at_117) ?_
        exact Steps.refl _)
      obtain ⟨T308, h308, k308, X308, e308, E308, A308, st308⟩ := newP X0 hx hZ (hw _ (List.mem_of_getElem? (i := 5) rfl)) e0 (g := (mkF m 118 #[.val (.int kind), .val (.int a), .val (.int b), .val (.int d), .val (.int (7 : Int32)), .val (.int (1 : Int32)), .unset, .unset, .unset, .unset, .unset] [(.int (4 : Int32))])) rfl (hb hby at_118) rfl (by decide) (cap := 4) (by decide) (by decide) (by decide) (by decide)
      obtain ⟨bb, gb⟩ : ∃ z, z = h0.size := ⟨_, rfl⟩
      rw [← gb] at A308 st308
      have B308 : own_BA Z h308 bb 0 0 0 0 := ⟨_, A308, rfl⟩
      have g_b : n0 ≤ bb := gb ▸ Z0
      have Z308 : n0 ≤ h308.size := Nat.le_trans Z0 E308.1
      have c309 : Steps p.tables e below S0 (T308.setTop (mkF m 120 #[.val (.int kind), .val (.int a), .val (.int b), .val (.int d), .val (.int (7 : Int32)), .val (.int (1 : Int32)), .unset, .unset, .unset, .unset, .unset] [(.ref bb)])) := c307.trans (by
        refine st308 _ ?_
        exact Steps.refl _)
      have c310 : Steps p.tables e below S0 (T308.setTop (mkF m 125 #[.val (.int kind), .val (.int a), .val (.int b), .val (.int d), .val (.int (7 : Int32)), .val (.int (1 : Int32)), .val (.ref bb), .unset, .unset, .unset, .unset] [(.int (1 : Int32)), (.int (1 : Int32))])) := c309.trans (by
        refine XS.astore X308.here hx rfl (hb hby at_120) rfl rfl (l' := #[.val (.int kind), .val (.int a), .val (.int b), .val (.int d), .val (.int (7 : Int32)), .val (.int (1 : Int32)), .val (.ref bb), .unset, .unset, .unset, .unset]) rfl ?_
        show Steps p.tables e below (T308.setTop (mkF m 122 #[.val (.int kind), .val (.int a), .val (.int b), .val (.int d), .val (.int (7 : Int32)), .val (.int (1 : Int32)), .val (.ref bb), .unset, .unset, .unset, .unset] [])) _
        refine XS.iload X308.here hx rfl (hb hby at_122) rfl ?_
        show Steps p.tables e below (T308.setTop (mkF m 124 #[.val (.int kind), .val (.int a), .val (.int b), .val (.int d), .val (.int (7 : Int32)), .val (.int (1 : Int32)), .val (.ref bb), .unset, .unset, .unset, .unset] [(.int (1 : Int32))])) _
        refine XS.iconst X308.here hx rfl (hb hby at_124) ?_
        exact Steps.refl _)
      have c311 : Steps p.tables e below S0 (T308.setTop (mkF m 128 #[.val (.int kind), .val (.int a), .val (.int b), .val (.int d), .val (.int (7 : Int32)), .val (.int (1 : Int32)), .val (.ref bb), .unset, .unset, .unset, .unset] [])) := c310.trans (by
        refine XS.icmpNo X308.here hx rfl (hb hby at_125) rfl (teq (by decide)).2 ?_
        exact Steps.refl _)
      have c312 : Steps p.tables e below S0 (T308.setTop (mkF m 140 #[.val (.int kind), .val (.int a), .val (.int b), .val (.int d), .val (.int (7 : Int32)), .val (.int (1 : Int32)), .val (.ref bb), .unset, .unset, .unset, .unset] [(.int (((128 : Int32) + (a &&& (127 : Int32))).toInt8.toInt32)), (.int (0 : Int32)), (.ref bb)])) := c311.trans (by
        refine XS.aload X308.here hx rfl (hb hby at_128) rfl rfl ?_
        show Steps p.tables e below (T308.setTop (mkF m 130 #[.val (.int kind), .val (.int a), .val (.int b), .val (.int d), .val (.int (7 : Int32)), .val (.int (1 : Int32)), .val (.ref bb), .unset, .unset, .unset, .unset] [(.ref bb)])) _
        refine XS.iconst X308.here hx rfl (hb hby at_130) ?_
        show Steps p.tables e below (T308.setTop (mkF m 131 #[.val (.int kind), .val (.int a), .val (.int b), .val (.int d), .val (.int (7 : Int32)), .val (.int (1 : Int32)), .val (.ref bb), .unset, .unset, .unset, .unset] [(.int (0 : Int32)), (.ref bb)])) _
        refine XS.sipush X308.here hx rfl (hb hby at_131) ?_
        show Steps p.tables e below (T308.setTop (mkF m 134 #[.val (.int kind), .val (.int a), .val (.int b), .val (.int d), .val (.int (7 : Int32)), .val (.int (1 : Int32)), .val (.ref bb), .unset, .unset, .unset, .unset] [(.int (128 : Int32)), (.int (0 : Int32)), (.ref bb)])) _
        refine XS.iloadN X308.here hx rfl (hb hby at_134) rfl ?_
        show Steps p.tables e below (T308.setTop (mkF m 135 #[.val (.int kind), .val (.int a), .val (.int b), .val (.int d), .val (.int (7 : Int32)), .val (.int (1 : Int32)), .val (.ref bb), .unset, .unset, .unset, .unset] [(.int a), (.int (128 : Int32)), (.int (0 : Int32)), (.ref bb)])) _
        refine XS.bipush X308.here hx rfl (hb hby at_135) ?_
        show Steps p.tables e below (T308.setTop (mkF m 137 #[.val (.int kind), .val (.int a), .val (.int b), .val (.int d), .val (.int (7 : Int32)), .val (.int (1 : Int32)), .val (.ref bb), .unset, .unset, .unset, .unset] [(.int (127 : Int32)), (.int a), (.int (128 : Int32)), (.int (0 : Int32)), (.ref bb)])) _
        refine XS.iand X308.here hx rfl (hb hby at_137) rfl ?_
        show Steps p.tables e below (T308.setTop (mkF m 138 #[.val (.int kind), .val (.int a), .val (.int b), .val (.int d), .val (.int (7 : Int32)), .val (.int (1 : Int32)), .val (.ref bb), .unset, .unset, .unset, .unset] [(.int (a &&& (127 : Int32))), (.int (128 : Int32)), (.int (0 : Int32)), (.ref bb)])) _
        refine XS.iadd X308.here hx rfl (hb hby at_138) rfl ?_
        show Steps p.tables e below (T308.setTop (mkF m 139 #[.val (.int kind), .val (.int a), .val (.int b), .val (.int d), .val (.int (7 : Int32)), .val (.int (1 : Int32)), .val (.ref bb), .unset, .unset, .unset, .unset] [(.int ((128 : Int32) + (a &&& (127 : Int32)))), (.int (0 : Int32)), (.ref bb)])) _
        refine XS.i2b X308.here hx rfl (hb hby at_139) rfl ?_
        exact Steps.refl _)
      obtain ⟨cl313, Ac313, hcl313⟩ := B308
      obtain ⟨T314, h314, X314, e314, W314, st314⟩ := stB X308 hx hZ e308 Ac313 (j := (0 : Int32)) (by rw [hcl313]; exact own_in4 (by decide)) (g := (mkF m 140 #[.val (.int kind), .val (.int a), .val (.int b), .val (.int d), .val (.int (7 : Int32)), .val (.int (1 : Int32)), .val (.ref bb), .unset, .unset, .unset, .unset] [(.int (((128 : Int32) + (a &&& (127 : Int32))).toInt8.toInt32)), (.int (0 : Int32)), (.ref bb)])) rfl rfl (hb hby at_140)
      have c315 : Steps p.tables e below S0 (T314.setTop (mkF m 141 #[.val (.int kind), .val (.int a), .val (.int b), .val (.int d), .val (.int (7 : Int32)), .val (.int (1 : Int32)), .val (.ref bb), .unset, .unset, .unset, .unset] [])) := c312.trans (by
        refine st314 _ ?_
        exact Steps.refl _)
      have B314 : own_BA Z h314 bb (nar .byte (((128 : Int32) + (a &&& (127 : Int32))).toInt8.toInt32)) 0 0 0 := ⟨_, Ac313.same W314, by simp [Cell.setSlot, hcl313]⟩
      have N314 := Fr.snoc X314 N0 g_b
      have Z314 : n0 ≤ h314.size := by rw [W314.size]; exact Z308
      have c316 : Steps p.tables e below S0 (T314.setTop (mkF m 145 #[.val (.int kind), .val (.int a), .val (.int b), .val (.int d), .val (.int (7 : Int32)), .val (.int (1 : Int32)), .val (.ref bb), .unset, .unset, .unset, .unset] [(.int (0 : Int32)), (.int (1 : Int32)), (.ref bb)])) := c315.trans (by
        refine XS.aload X314.here hx rfl (hb hby at_141) rfl rfl ?_
        show Steps p.tables e below (T314.setTop (mkF m 143 #[.val (.int kind), .val (.int a), .val (.int b), .val (.int d), .val (.int (7 : Int32)), .val (.int (1 : Int32)), .val (.ref bb), .unset, .unset, .unset, .unset] [(.ref bb)])) _
        refine XS.iconst X314.here hx rfl (hb hby at_143) ?_
        show Steps p.tables e below (T314.setTop (mkF m 144 #[.val (.int kind), .val (.int a), .val (.int b), .val (.int d), .val (.int (7 : Int32)), .val (.int (1 : Int32)), .val (.ref bb), .unset, .unset, .unset, .unset] [(.int (1 : Int32)), (.ref bb)])) _
        refine XS.iconst X314.here hx rfl (hb hby at_144) ?_
        exact Steps.refl _)
      obtain ⟨cl317, Ac317, hcl317⟩ := B314
      obtain ⟨T318, h318, X318, e318, W318, st318⟩ := stB X314 hx hZ e314 Ac317 (j := (1 : Int32)) (by rw [hcl317]; exact own_in4 (by decide)) (g := (mkF m 145 #[.val (.int kind), .val (.int a), .val (.int b), .val (.int d), .val (.int (7 : Int32)), .val (.int (1 : Int32)), .val (.ref bb), .unset, .unset, .unset, .unset] [(.int (0 : Int32)), (.int (1 : Int32)), (.ref bb)])) rfl rfl (hb hby at_145)
      have c319 : Steps p.tables e below S0 (T318.setTop (mkF m 146 #[.val (.int kind), .val (.int a), .val (.int b), .val (.int d), .val (.int (7 : Int32)), .val (.int (1 : Int32)), .val (.ref bb), .unset, .unset, .unset, .unset] [])) := c316.trans (by
        refine st318 _ ?_
        exact Steps.refl _)
      have B318 : own_BA Z h318 bb (nar .byte (((128 : Int32) + (a &&& (127 : Int32))).toInt8.toInt32)) (nar .byte (0 : Int32)) 0 0 := ⟨_, Ac317.same W318, by simp [Cell.setSlot, hcl317]⟩
      have N318 := Fr.snoc X318 N314 g_b
      have Z318 : n0 ≤ h318.size := by rw [W318.size]; exact Z314
      have c320 : Steps p.tables e below S0 (T318.setTop (mkF m 307 #[.val (.int kind), .val (.int a), .val (.int b), .val (.int d), .val (.int (7 : Int32)), .val (.int (1 : Int32)), .val (.ref bb), .unset, .unset, .unset, .unset] [(.int (0 : Int32)), (.ref bb)])) := c319.trans (by
        refine XS.goto X318.here hx rfl (pc0 := 146) (pc' := 304) rfl (hb hby at_146) (by decide) (by decide) ?_
        show Steps p.tables e below (T318.setTop (mkF m 304 #[.val (.int kind), .val (.int a), .val (.int b), .val (.int d), .val (.int (7 : Int32)), .val (.int (1 : Int32)), .val (.ref bb), .unset, .unset, .unset, .unset] [])) _
        refine XS.aload X318.here hx rfl (hb hby at_304) rfl rfl ?_
        show Steps p.tables e below (T318.setTop (mkF m 306 #[.val (.int kind), .val (.int a), .val (.int b), .val (.int d), .val (.int (7 : Int32)), .val (.int (1 : Int32)), .val (.ref bb), .unset, .unset, .unset, .unset] [(.ref bb)])) _
        refine XS.iconst X318.here hx rfl (hb hby at_306) ?_
        exact Steps.refl _)
      have hu : ¬ (((nar .byte (((128 : Int32) + (a &&& (127 : Int32))).toInt8.toInt32)) &&& 255) < 128) := own_f1u a
      have hr : own_run ((nar .byte (((128 : Int32) + (a &&& (127 : Int32))).toInt8.toInt32)) &&& 255) ((nar .byte (0 : Int32)) &&& 255) (0 &&& 255) (0 &&& 255) = -1 := own_f1r a
      obtain ⟨_, _, ⟨T321, L321, k321, n321⟩, -, X321, ⟨Lc321, hQ321, l321, y321, z321⟩, st321⟩ := Jvm.LawKit.callS X318 hx (y := (⟨"com/example/coersa/coersa/Utf8", "characterAt", "([BI)I"⟩ : MethodName)) hown (mvT hZ (hw _ (List.mem_of_getElem? (i := 6) rfl))) (mvT hZ (hw _ (List.mem_of_getElem? (i := 7) rfl))) (mvT hZ (hw _ (List.mem_of_getElem? (i := 3) rfl))) (mvT hZ (hw _ (List.mem_of_getElem? (i := 8) rfl))) (by decide) (backOf (W := 0) (own_cat1 l Z a0 hw [] bb 0 (nar .byte (((128 : Int32) + (a &&& (127 : Int32))).toInt8.toInt32)) (nar .byte (0 : Int32)) 0 0 h318 n0 Z318 rfl B318 hu hr) hZ (hw _ (List.mem_of_getElem? (i := 8) rfl)) (hw _ (List.mem_of_getElem? (i := 3) rfl)) (by decide) (by decide)) (g := (mkF m 307 #[.val (.int kind), .val (.int a), .val (.int b), .val (.int d), .val (.int (7 : Int32)), .val (.int (1 : Int32)), .val (.ref bb), .unset, .unset, .unset, .unset] [(.int (0 : Int32)), (.ref bb)])) rfl (by rw [hml]; rfl) (argsL := [(.ref bb), (.int (0 : Int32))]) (rest := []) (lenOf own_pd0 rfl) rfl (by show 2 * 0 + _ ≤ _; exact Nat.le_of_eq rfl) (hb hby at_307) (fun _ _ => ⟨rfl, e318, (Nat.le_of_ble_eq_true rfl), (Nat.le_of_ble_eq_true rfl)⟩)
      dsimp only [Pt.U, Pt.locs, Pt.cells, Pt.slots] at X321 l321 y321 z321 st321 hQ321
      subst l321 y321 z321
      obtain ⟨rfl, N321q, ec⟩ := hQ321
      have N321 := Fr.app N318 N321q
      have c322 : Steps p.tables e below S0 (T321.setTop (mkF m 310 #[.val (.int kind), .val (.int a), .val (.int b), .val (.int d), .val (.int (7 : Int32)), .val (.int (1 : Int32)), .val (.ref bb), .unset, .unset, .unset, .unset] [(.int (own_ca1 (nar .byte (((128 : Int32) + (a &&& (127 : Int32))).toInt8.toInt32)) (nar .byte (0 : Int32)) 0))])) := c320.trans (by
        refine st321 _ ?_
        exact Steps.refl _)
      have Zc : n0 ≤ T321.heap.size := by rw [ec]; exact Z318
      obtain ⟨_, _, ⟨T323, L323, k323, n323⟩, -, X323, ⟨Lc323, hQ323, l323, y323, z323⟩, st323⟩ := Jvm.LawKit.callS X321 hx (y := (⟨"com/example/coersa/coersa/Utf8", "byteCount", "(I)I"⟩ : MethodName)) hown (mvT hZ (hw _ (List.mem_of_getElem? (i := 1) rfl))) (mvT hZ (hw _ (List.mem_of_getElem? (i := 2) rfl))) (mvT hZ (hw _ (List.mem_of_getElem? (i := 3) rfl))) (mvT hZ (hw _ (List.mem_of_getElem? (i := 4) rfl))) (by decide) (backOf (W := 0) (own_bct l Z a0 hw [] (own_ca1 (nar .byte (((128 : Int32) + (a &&& (127 : Int32))).toInt8.toInt32)) (nar .byte (0 : Int32)) 0) T321.heap n0 Zc) hZ (hw _ (List.mem_of_getElem? (i := 4) rfl)) (hw _ (List.mem_of_getElem? (i := 3) rfl)) (by decide) (by decide)) (g := (mkF m 310 #[.val (.int kind), .val (.int a), .val (.int b), .val (.int d), .val (.int (7 : Int32)), .val (.int (1 : Int32)), .val (.ref bb), .unset, .unset, .unset, .unset] [(.int (own_ca1 (nar .byte (((128 : Int32) + (a &&& (127 : Int32))).toInt8.toInt32)) (nar .byte (0 : Int32)) 0))])) rfl (by rw [hml]; rfl) (argsL := [(.int (own_ca1 (nar .byte (((128 : Int32) + (a &&& (127 : Int32))).toInt8.toInt32)) (nar .byte (0 : Int32)) 0))]) (rest := []) (lenOf own_pd1 rfl) rfl (by show 2 * 0 + _ ≤ _; exact Nat.le_of_eq rfl) (hb hby at_310) (fun _ _ => ⟨rfl, rfl, (Nat.le_of_ble_eq_true rfl), (Nat.le_of_ble_eq_true rfl)⟩)
      dsimp only [Pt.U, Pt.locs, Pt.cells, Pt.slots] at X323 l323 y323 z323 st323 hQ323
      subst l323 y323 z323
      obtain ⟨rfl, N323q, eb⟩ := hQ323
      have N323 := Fr.app N321 N323q
      have c324 : Steps p.tables e below S0 (T323.setTop (mkF m 313 #[.val (.int kind), .val (.int a), .val (.int b), .val (.int d), .val (.int (7 : Int32)), .val (.int (1 : Int32)), .val (.ref bb), .unset, .unset, .unset, .unset] [(.int (own_bc (own_ca1 (nar .byte (((128 : Int32) + (a &&& (127 : Int32))).toInt8.toInt32)) (nar .byte (0 : Int32)) 0)))])) := c322.trans (by
        refine st323 _ ?_
        exact Steps.refl _)
      have c325 : Steps p.tables e below S0 (T323.setTop (mkF m 315 #[.val (.int kind), .val (.int a), .val (.int b), .val (.int d), .val (.int (7 : Int32)), .val (.int (1 : Int32)), .val (.ref bb), .unset, .unset, .unset, .unset] [(.int (1 : Int32)), (.int (own_bc (own_ca1 (nar .byte (((128 : Int32) + (a &&& (127 : Int32))).toInt8.toInt32)) (nar .byte (0 : Int32)) 0)))])) := c324.trans (by
        refine XS.iload X323.here hx rfl (hb hby at_313) rfl ?_
        exact Steps.refl _)
      have c326 : Steps p.tables e below S0 (T323.setTop (mkF m 318 #[.val (.int kind), .val (.int a), .val (.int b), .val (.int d), .val (.int (7 : Int32)), .val (.int (1 : Int32)), .val (.ref bb), .unset, .unset, .unset, .unset] [])) := c325.trans (by
        refine XS.icmpNo X323.here hx rfl (hb hby at_315) rfl (teq (own_f1v a _ _)).2 ?_
        exact Steps.refl _)
      have c327 : Steps p.tables e below S0 (T323.setTop (mkF m 323 #[.val (.int kind), .val (.int a), .val (.int b), .val (.int d), .val (.int (7 : Int32)), .val (.int (1 : Int32)), .val (.ref bb), .unset, .unset, .unset, .unset] [(.int (1 : Int32))])) := c326.trans (by
        refine XS.iconst X323.here hx rfl (hb hby at_318) ?_
        show Steps p.tables e below (T323.setTop (mkF m 319 #[.val (.int kind), .val (.int a), .val (.int b), .val (.int d), .val (.int (7 : Int32)), .val (.int (1 : Int32)), .val (.ref bb), .unset, .unset, .unset, .unset] [(.int (1 : Int32))])) _
        refine XS.goto X323.here hx rfl (pc0 := 319) (pc' := 323) rfl (hb hby at_319) (by decide) (by decide) ?_
        exact Steps.refl _)
      obtain ⟨fs, hr, hrun, hended, hW, hsame⟩ := X323.leave (v := some (.int (1 : Int32))) (fun h => by rw [Bd.returns] at h; cases h)
      exact ⟨_, _, c327.trans (retN X323 hx (t := .boolean) Bd.returns (by simp) (hb hby at_323) hr), hrun, hended, _, _, rfl, ⟨rfl, N323⟩, ⟨_, rfl⟩, hW, hsame.mono (by decide) (by decide)⟩
set_option maxRecDepth 65536 in
set_option maxHeartbeats 40000000 in
theorem own_comes {Post : Tables → Env → Array Value → State → Outcome → State → Prop} (hpost : ∀ tb e args s v u, (limb_1_1.after args s (.returned v) u = true ∧ limb_1_2.after args s (.returned v) u = true) → FrameEnd s (.returned v) u (Jvm.fieldLocs frame_1_writes args s ++ Jvm.arrayLocs frame_1_arrays args s ++ Jvm.staticLocs frame_1_statics s) 16 128 → Post tb e args s (.returned v) u) :
    ArmFor flags0 classFile x code maxLocals ret World_1 tables_1 room_1 Calls_1 rest_1 Pre_1 Post := by
  intro l hfl _ _ p e ha hc hk s m args below hf hA hF happ hP
  obtain ⟨hcalls, hrest, hpre⟩ := hP
  obtain ⟨-, -, -, hnamed, -, -, -, hat⟩ := (Spec.applies_iff hf).mp happ
  obtain ⟨hg, hn⟩ := and_e (Cond.before_iff.mp (show (Jvm.Cond.and given_1 narrow_1).before args s = true from hpre))
  obtain ⟨hcount, hgs⟩ := and_e hg
  obtain ⟨hi0, hgs0⟩ := and_e hgs
  obtain ⟨hi1, hgs1⟩ := and_e hgs0
  obtain ⟨hi2, hgs2⟩ := and_e hgs1
  obtain ⟨w0, w1, w2, w3, rfl⟩ : ∃ w0 w1 w2 w3 : Value, args = #[w0, w1, w2, w3] := by
    have hs : args.size = 4 := by simpa [Cond.value, given_1] using hcount
    obtain ⟨L⟩ := args
    match L, hs with
    | [w0, w1, w2, w3], _ => exact ⟨w0, w1, w2, w3, rfl⟩
  have hw := fun d (hd : d ∈ tables_1) => atoms_spec (ws := Jvm.Cond.code x code maxLocals ret :: tables_1) hat d (List.mem_cons_of_mem _ hd)
  have hfit : Fit s := fun {y c} hc i hi => by
    obtain ⟨ha, rfl⟩ := Array.getElem?_eq_some_iff.mp hc
    have q := List.all_eq_true.mp ((Array.all_eq_true_iff_forall_mem.mp hF) _ (Array.getElem_mem ha)) i (List.mem_range.mpr hi)
    simpa [Array.getElem?_eq_getElem hi] using q
  obtain ⟨i0, ei0⟩ := is_v hi0
  obtain rfl : w0 = (.int i0) := Option.some.inj ei0
  obtain ⟨i1, ei1⟩ := is_v hi1
  obtain rfl : w1 = (.int i1) := Option.some.inj ei1
  obtain ⟨i2, ei2⟩ := is_v hi2
  obtain rfl : w2 = (.int i2) := Option.some.inj ei2
  obtain ⟨i3, ei3⟩ := is_v hgs2
  obtain rfl : w3 = (.int i3) := Option.some.inj ei3
  obtain ⟨n, o, h1, h2, h3, _, L, rfl, ⟨rfl, N⟩, hq⟩ := own_law l s _ hw tables_1 i0 i1 i2 i3 s.heap s.heap.size (Nat.le_refl _) p e ha hc hk s m _ below hf ((Spec.applies_iff_loose hf).mp happ).1 ⟨rfl, State.Warmed39.refl s, rfl⟩ trivial
  exact ⟨n, _, h1, h2, h3, hpost _ _ _ _ _ _ ⟨Cond.after_iff.mpr rfl, Cond.after_iff.mpr (eq_i res_at (Term.int_eval (1)) rfl)⟩ ⟨hq.1, hq.2.1, (hq.2.2.sift fun y hy => Or.inr (N y hy)).mono (by decide) (by decide)⟩⟩
theorem main_1_1 : Claimed_1_1 := own_comes fun _ _ _ _ _ _ h hF => ⟨h.1, hF⟩
theorem main_1_2 : Claimed_1_2 := own_comes fun _ _ _ _ _ _ h hF => ⟨h.2, hF⟩
end Jvm.Pilot.@@N@@
namespace Jvm.Pilot.@@N@@
open Jvm Jvm.ClassFile Sem Op Lib Jvm.Free Jvm.Stand Jvm.Pilot.@@N@@.Jvm.D
/-! MADE BY PROGRAM (witnessworld.py) out of the Statement's table words and the real class files: 10 classes; the members and pool entries that the words name. The judged class is class 1, her method 1. -/
namespace start1
open Jvm.ClassFile
def u (s : String) : CpInfo := .utf8 (stringToUtf16 s)
/-- a pool by its gaps: so many unusable entries, then the entry; so many at the end -/
def gap : Nat → List CpInfo → List CpInfo
  | 0, r => r
  | n + 1, r => .unusable :: gap n r
def poolList (es : List (Nat × CpInfo)) (last : Nat) : List CpInfo := es.foldr (fun e r => gap e.1 (e.2 :: r)) (gap last [])
def pool (es : List (Nat × CpInfo)) (last : Nat) : Array CpInfo := ⟨poolList es last⟩
def fileOf (pool : Array CpInfo) (this : Nat) (attrs : Array Attribute := #[]) (ms : Array MethodInfo := #[]) (fl : Nat := 33) (sup : Nat := 0) (ifs : Array Nat := #[]) (fds : Array FieldInfo := #[]) : ClassFile where
  minorVersion := 0
  majorVersion := 65
  constantPool := pool
  accessFlags := fl
  thisClass := this
  superClass := sup
  interfaces := ifs
  fields := fds
  methods := ms
  attributes := attrs
def plain (name : String) (sup : Option ClassId) : Class where
  name := name
  kind := .ordinary
  loader := none
  accessFlags := 33
  super := sup
  interfaces := #[]
  cf := none
  fields := #[]
  methods := #[]
  instanceTypes := #[]
  staticTypes := #[]
  resolved := #[]
  callSites := []
  init := .initialized
  statics := none
  mirror := none

def pool0 : Array CpInfo := pool [(5, u "<init>"), (0, u "()V"), (1, .class_ 10), (1, u "java/lang/Object")] 113

def k0m0 : Method := { name := "<init>", desc := "()V", sig := { parameters := [], returnType := none }, accessFlags := 1, code := none }
/-- java/lang/Object -/
def k0 : Class := { plain "java/lang/Object" none with
  accessFlags := 33
  interfaces := #[]
  cf := some (fileOf pool0 8 #[] #[{ accessFlags := 1, nameIndex := 5, descriptorIndex := 6, attributes := #[] }] 33 0 #[] #[])
  fields := #[]
  methods := #[k0m0]
  instanceTypes := #[]
  staticTypes := #[]
  resolved := Array.replicate 124 none
  statics := none }

def pool1 : Array CpInfo := pool [(2, .class_ 4), (1, u "java/lang/Object"), (0, u "<init>"), (0, u "()V"), (0, .integer 65535), (0, .integer 65536), (0, .integer 1114111), (0, .integer 2147483647), (0, .methodref 12 13), (0, .class_ 14), (0, .nameAndType 15 16), (0, u "com/example/coersa/coersa/Utf8"), (0, u "byteCount"), (0, u "(I)I"), (0, .methodref 12 18), (0, .nameAndType 19 20), (0, u "characterAt"), (0, u "([BI)I"), (0, .class_ 22), (0, u "com/example/coersa/coersa/Utf8ByteCountPinLaw"), (2, u "law"), (0, u "(IIII)Z")] 5

def k1m0 : Method := { name := "<init>", desc := "()V", sig := { parameters := [], returnType := none }, accessFlags := 1, code := none }
def k1c1 : Code := { maxStack := 5, maxLocals := 11, code := code, exceptionTable := #[], attributes := #[] }
def k1m1 : Method := { name := "law", desc := "(IIII)Z", sig := { parameters := [.int, .int, .int, .int], returnType := some .boolean }, accessFlags := 9, code := some k1c1 }
/-- com/example/coersa/coersa/Utf8ByteCountPinLaw -/
def k1 : Class := { plain "com/example/coersa/coersa/Utf8ByteCountPinLaw" (some 0) with
  accessFlags := 49
  interfaces := #[]
  cf := some (fileOf pool1 21 #[] #[{ accessFlags := 1, nameIndex := 5, descriptorIndex := 6, attributes := #[] }, { accessFlags := 9, nameIndex := 25, descriptorIndex := 26, attributes := #[] }] 49 2 #[] #[])
  fields := #[]
  methods := #[k1m0, k1m1]
  instanceTypes := #[]
  staticTypes := #[]
  resolved := Array.replicate 32 none
  statics := none }

def pool2 : Array CpInfo := pool [(1, .class_ 2), (0, u "com/example/coersa/coersa/Utf8"), (3, .class_ 8), (1, u "java/lang/Object"), (0, u "<init>"), (0, u "()V"), (32, u "(I)I"), (25, u "byteCount"), (0, .integer 65536), (0, .integer 1114112), (0, .methodref 1 73), (0, .nameAndType 74 75), (0, u "run"), (0, u "([BI)I"), (0, .methodref 77 78), (0, .class_ 79), (0, .nameAndType 80 43), (0, u "java/lang/Math"), (0, u "abs"), (14, .class_ 96), (0, u "com/example/coersa/coersa/Utf8$KeepingReader"), (49, u "REPLACEMENT"), (0, u "C"), (1, u "KEPT"), (0, u "LAST_KEPT"), (0, u "FIRST_RUN"), (0, u "I"), (0, u "BUFFER"), (5, u "characterAt")] 15

def k2m0 : Method := { name := "<init>", desc := "()V", sig := { parameters := [], returnType := none }, accessFlags := 2, code := none }
def k2c1 : Code := { maxStack := 2, maxLocals := 2, code := prog_316_method_5_code, exceptionTable := #[], attributes := #[] }
def k2m1 : Method := { name := "byteCount", desc := "(I)I", sig := { parameters := [.int], returnType := some .int }, accessFlags := 8, code := some k2c1 }
def k2c2 : Code := { maxStack := 4, maxLocals := 7, code := prog_316_method_6_code, exceptionTable := #[], attributes := #[] }
def k2m2 : Method := { name := "characterAt", desc := "([BI)I", sig := { parameters := [(.array .byte), .int], returnType := some .int }, accessFlags := 8, code := some k2c2 }
def k2c3 : Code := { maxStack := 3, maxLocals := 8, code := prog_316_method_12_code, exceptionTable := #[], attributes := #[] }
def k2m3 : Method := { name := "run", desc := "([BI)I", sig := { parameters := [(.array .byte), .int], returnType := some .int }, accessFlags := 10, code := some k2c3 }
/-- com/example/coersa/coersa/Utf8 -/
def k2 : Class := { plain "com/example/coersa/coersa/Utf8" (some 0) with
  accessFlags := 48
  interfaces := #[]
  cf := some (fileOf pool2 1 #[.nestMembers #[95]] #[{ accessFlags := 2, nameIndex := 9, descriptorIndex := 10, attributes := #[] }, { accessFlags := 8, nameIndex := 69, descriptorIndex := 43, attributes := #[] }, { accessFlags := 8, nameIndex := 159, descriptorIndex := 75, attributes := #[] }, { accessFlags := 10, nameIndex := 74, descriptorIndex := 75, attributes := #[] }] 48 6 #[] #[{ accessFlags := 26, nameIndex := 146, descriptorIndex := 147, attributes := #[] }, { accessFlags := 26, nameIndex := 149, descriptorIndex := 147, attributes := #[] }, { accessFlags := 26, nameIndex := 150, descriptorIndex := 147, attributes := #[] }, { accessFlags := 26, nameIndex := 151, descriptorIndex := 152, attributes := #[] }, { accessFlags := 26, nameIndex := 153, descriptorIndex := 152, attributes := #[] }])
  fields := #[{ name := "REPLACEMENT", type := .char, accessFlags := 26, slot := 0, constantValue := 0 }, { name := "KEPT", type := .char, accessFlags := 26, slot := 1, constantValue := 0 }, { name := "LAST_KEPT", type := .char, accessFlags := 26, slot := 2, constantValue := 0 }, { name := "FIRST_RUN", type := .int, accessFlags := 26, slot := 3, constantValue := 0 }, { name := "BUFFER", type := .int, accessFlags := 26, slot := 4, constantValue := 0 }]
  methods := #[k2m0, k2m1, k2m2, k2m3]
  instanceTypes := #[]
  staticTypes := #[.char, .char, .char, .int, .int]
  resolved := Array.replicate 175 none
  statics := none }

def pool3 : Array CpInfo := pool [(1, .class_ 2), (0, u "java/lang/Math"), (1, .class_ 6), (1, u "java/lang/Object"), (0, u "<init>"), (0, u "()V"), (89, .class_ 100), (1, u "java/lang/Math$RandomNumberGeneratorHolder"), (23, u "abs"), (34, u "(I)I"), (12, u "negativeZeroFloatBits"), (0, u "J"), (2, u "negativeZeroDoubleBits"), (68, u "$assertionsDisabled"), (0, u "Z"), (91, u "twoToTheDoubleScaleDown"), (0, u "D"), (4, u "twoToTheDoubleScaleUp"), (9, u "E"), (3, u "PI"), (2, u "TAU"), (2, u "DEGREES_TO_RADIANS"), (0, u "RADIANS_TO_DEGREES")] 94

def k3m0 : Method := { name := "<init>", desc := "()V", sig := { parameters := [], returnType := none }, accessFlags := 2, code := none }
def k3c1 : Code := { maxStack := 1, maxLocals := 1, code := jdk_29_method_59_code, exceptionTable := #[], attributes := #[] }
def k3m1 : Method := { name := "abs", desc := "(I)I", sig := { parameters := [.int], returnType := some .int }, accessFlags := 9, code := some k3c1 }
/-- java/lang/Math -/
def k3 : Class := { plain "java/lang/Math" (some 0) with
  accessFlags := 49
  interfaces := #[]
  cf := some (fileOf pool3 1 #[.nestMembers #[98]] #[{ accessFlags := 2, nameIndex := 7, descriptorIndex := 8, attributes := #[] }, { accessFlags := 9, nameIndex := 124, descriptorIndex := 159, attributes := #[] }] 49 4 #[] #[{ accessFlags := 25, nameIndex := 354, descriptorIndex := 339, attributes := #[] }, { accessFlags := 25, nameIndex := 358, descriptorIndex := 339, attributes := #[] }, { accessFlags := 25, nameIndex := 361, descriptorIndex := 339, attributes := #[] }, { accessFlags := 26, nameIndex := 364, descriptorIndex := 339, attributes := #[] }, { accessFlags := 26, nameIndex := 365, descriptorIndex := 339, attributes := #[] }, { accessFlags := 26, nameIndex := 172, descriptorIndex := 173, attributes := #[] }, { accessFlags := 26, nameIndex := 176, descriptorIndex := 173, attributes := #[] }, { accessFlags := 8, nameIndex := 344, descriptorIndex := 339, attributes := #[] }, { accessFlags := 8, nameIndex := 338, descriptorIndex := 339, attributes := #[] }, { accessFlags := 4120, nameIndex := 245, descriptorIndex := 246, attributes := #[] }])
  fields := #[{ name := "E", type := .double, accessFlags := 25, slot := 0, constantValue := 0 }, { name := "PI", type := .double, accessFlags := 25, slot := 1, constantValue := 0 }, { name := "TAU", type := .double, accessFlags := 25, slot := 2, constantValue := 0 }, { name := "DEGREES_TO_RADIANS", type := .double, accessFlags := 26, slot := 3, constantValue := 0 }, { name := "RADIANS_TO_DEGREES", type := .double, accessFlags := 26, slot := 4, constantValue := 0 }, { name := "negativeZeroFloatBits", type := .long, accessFlags := 26, slot := 5, constantValue := 0 }, { name := "negativeZeroDoubleBits", type := .long, accessFlags := 26, slot := 6, constantValue := 0 }, { name := "twoToTheDoubleScaleUp", type := .double, accessFlags := 8, slot := 7, constantValue := 0 }, { name := "twoToTheDoubleScaleDown", type := .double, accessFlags := 8, slot := 8, constantValue := 0 }, { name := "$assertionsDisabled", type := .boolean, accessFlags := 4120, slot := 9, constantValue := 0 }]
  methods := #[k3m0, k3m1]
  instanceTypes := #[]
  staticTypes := #[.double, .double, .double, .double, .double, .long, .long, .double, .double, .boolean]
  resolved := Array.replicate 460 none
  statics := none }

def pool4 : Array CpInfo := pool [(1, u "java/lang/Cloneable"), (0, .class_ 1), (0, u "java/lang/Object"), (0, .class_ 3)] 3

/-- java/lang/Cloneable -/
def k4 : Class := { plain "java/lang/Cloneable" (some 0) with
  accessFlags := 1537
  interfaces := #[]
  cf := some (fileOf pool4 2 #[] #[] 1537 4 #[] #[])
  fields := #[]
  methods := #[]
  instanceTypes := #[]
  staticTypes := #[]
  resolved := Array.replicate 8 none
  statics := none }

def pool5 : Array CpInfo := pool [(1, u "java/io/Serializable"), (0, .class_ 1), (0, u "java/lang/Object"), (0, .class_ 3)] 3

/-- java/io/Serializable -/
def k5 : Class := { plain "java/io/Serializable" (some 0) with
  accessFlags := 1537
  interfaces := #[]
  cf := some (fileOf pool5 2 #[] #[] 1537 4 #[] #[])
  fields := #[]
  methods := #[]
  instanceTypes := #[]
  staticTypes := #[]
  resolved := Array.replicate 8 none
  statics := none }

/-- the primitive byte -/
def k6 : Class := { plain "byte" none with kind := .primitive 'B', accessFlags := 0x411 }
/-- [B -/
def k7 : Class := { plain "[B" (some 0) with kind := .array 6 .byte, interfaces := #[4, 5], accessFlags := 1041 }

/-- the primitive int -/
def k8 : Class := { plain "int" none with kind := .primitive 'I', accessFlags := 0x411 }
/-- [I -/
def k9 : Class := { plain "[I" (some 0) with kind := .array 8 .int, interfaces := #[4, 5], accessFlags := 1041 }

def heap : Heap := #[]
def classes : Array Class := #[k0, k1, k2, k3, k4, k5, k6, k7, k8, k9]
def interned : List (Array UInt16 × Addr) := []
def slotsUsed : Nat := 0
def theMethod : MethodId := ⟨1, 1⟩
def args0 : Array Value := #[.int 5, .int 7, .int 9, .int 11]
def aboutOver (below : List Frame) : State where
  vm := { classes := classes, interned := interned.toArray }
  heap := heap
  slotsUsed := slotsUsed
  threads := #[{ frames := .invoking theMethod args0 :: below }]
def below0 : List Frame := [.native { method := ⟨0, 0⟩, args := #[] }]
def about1 : State := aboutOver below0
def p0 : Program := .bare "" "" ""
def e0 : Env := launch0.env 0 0 0
theorem w_frames : about1.frames = Frame.invoking theMethod args0 :: below0 := rfl
set_option maxRecDepth 65536 in
theorem w_args : argsFit about1.vm theMethod args0 = true := by decide +kernel
set_option maxRecDepth 65536 in
theorem w_heap : heapFits about1 = true := by decide +kernel
set_option maxRecDepth 65536 in
theorem w_runnable : about1.curStatus? = some .runnable := by decide +kernel
set_option maxRecDepth 65536 in
theorem w_alone : about1.alone = true := by decide +kernel
set_option maxRecDepth 65536 in
theorem w_named : about1.methodNamed? x = some theMethod := by decide +kernel
set_option maxRecDepth 65536 in
theorem w_hears : about1.hears theMethod below0 = true := by decide +kernel
set_option maxRecDepth 65536 in
theorem w_ripe : about1.ripe theMethod args0 below0 = true := by decide +kernel
theorem w_running : about1.status = .running := rfl
set_option maxRecDepth 65536 in
theorem w_room : about1.hasRoom e0.platform room_1 = true :=
  launch0.hasRoom_least _ room_1 (by decide +kernel) (by decide +kernel) (by decide +kernel) (by decide +kernel) (by decide +kernel) (by decide +kernel)
theorem allAtoms_all (ts : List Jvm.Cond) (a : Array Jvm.Value) (st : Jvm.State) : (allAtoms ts).before a st = ts.all (fun c => c.before a st) := by
  induction ts with
  | nil => rfl
  | cons c t ih =>
    show (Jvm.Cond.and c (allAtoms t)).before a st = _
    rw [Jvm.Cond.before_and, ih, List.all_cons]
def words1 : List Jvm.Cond := Jvm.Cond.code x code maxLocals ret :: tables_1
/-- a 'code' word, met by the world's own term for the bytes: nothing is compared byte by byte -/
theorem code_word {y : MethodName} {bytes : ByteArray} {mx : Nat} {rt : Option FieldType} {a : Array Value} {s : State} {m : MethodId} {meth : Method} {c : Code} (h1 : s.methodNamed? y = some m) (h2 : s.vm.method? m = some meth) (h3 : meth.code = some c) (h4 : c.code = bytes)
    (h5 : (c.maxLocals == mx && c.exceptionTable.isEmpty && decide (c.maxStack ≤ mostOperands) && decide (meth.sig.returnType = rt) && !meth.locks && decide (parseMethodDescriptor y.desc = some meth.sig)) = true) : (Jvm.Cond.code y bytes mx rt).before a s = true := by
  simp only [Bool.and_eq_true, beq_iff_eq, Bool.not_eq_true', decide_eq_true_eq] at h5
  obtain ⟨⟨⟨⟨⟨g1, g2⟩, g3⟩, g4⟩, g5⟩, g6⟩ := h5
  simp [Cond.before, Cond.holds, Cond.value, h1, h2, h3, h4, g1, g2, g3, g4, g5, g6]
def isCode : Jvm.Cond → Bool
  | .code _ _ _ _ => true
  | _ => false
theorem all_split {L : List Jvm.Cond} {P : Jvm.Cond → Bool} (h1 : L.all (fun c => isCode c || P c) = true) (h2 : ∀ c ∈ L.filter isCode, P c = true) : L.all P = true := by
  refine List.all_eq_true.mpr fun c hc => ?_
  have h := List.all_eq_true.mp h1 c hc
  rcases Bool.eq_false_or_eq_true (isCode c) with hi | hi
  · exact h2 c (List.mem_filter.mpr ⟨hc, hi⟩)
  · simpa [hi] using h
set_option maxRecDepth 65536 in
theorem w_c0 : (Jvm.Cond.code x code maxLocals ret).before args0 about1 = true := code_word (m := ⟨1, 1⟩) (meth := k1m1) (c := k1c1) (by decide +kernel) rfl rfl rfl (by decide +kernel)
set_option maxRecDepth 65536 in
theorem w_c1 : (Jvm.Cond.code ({ cls := "com/example/coersa/coersa/Utf8", name := "byteCount", desc := "(I)I" } : Jvm.MethodName) prog_316_method_5_code (2 : Nat) (Option.some Jvm.ClassFile.FieldType.int)).before args0 about1 = true := code_word (m := ⟨2, 1⟩) (meth := k2m1) (c := k2c1) (by decide +kernel) rfl rfl rfl (by decide +kernel)
set_option maxRecDepth 65536 in
theorem w_c2 : (Jvm.Cond.code ({ cls := "com/example/coersa/coersa/Utf8", name := "characterAt", desc := "([BI)I" } : Jvm.MethodName) prog_316_method_6_code (7 : Nat) (Option.some Jvm.ClassFile.FieldType.int)).before args0 about1 = true := code_word (m := ⟨2, 2⟩) (meth := k2m2) (c := k2c2) (by decide +kernel) rfl rfl rfl (by decide +kernel)
set_option maxRecDepth 65536 in
theorem w_c3 : (Jvm.Cond.code ({ cls := "com/example/coersa/coersa/Utf8", name := "run", desc := "([BI)I" } : Jvm.MethodName) prog_316_method_12_code (8 : Nat) (Option.some Jvm.ClassFile.FieldType.int)).before args0 about1 = true := code_word (m := ⟨2, 3⟩) (meth := k2m3) (c := k2c3) (by decide +kernel) rfl rfl rfl (by decide +kernel)
set_option maxRecDepth 65536 in
theorem w_c4 : (Jvm.Cond.code ({ cls := "java/lang/Math", name := "abs", desc := "(I)I" } : Jvm.MethodName) jdk_29_method_59_code (1 : Nat) (Option.some Jvm.ClassFile.FieldType.int)).before args0 about1 = true := code_word (m := ⟨3, 1⟩) (meth := k3m1) (c := k3c1) (by decide +kernel) rfl rfl rfl (by decide +kernel)
def codes1 : List Jvm.Cond := [Jvm.Cond.code x code maxLocals ret, Jvm.Cond.code ({ cls := "com/example/coersa/coersa/Utf8", name := "byteCount", desc := "(I)I" } : Jvm.MethodName) prog_316_method_5_code (2 : Nat) (Option.some Jvm.ClassFile.FieldType.int), Jvm.Cond.code ({ cls := "com/example/coersa/coersa/Utf8", name := "characterAt", desc := "([BI)I" } : Jvm.MethodName) prog_316_method_6_code (7 : Nat) (Option.some Jvm.ClassFile.FieldType.int), Jvm.Cond.code ({ cls := "com/example/coersa/coersa/Utf8", name := "run", desc := "([BI)I" } : Jvm.MethodName) prog_316_method_12_code (8 : Nat) (Option.some Jvm.ClassFile.FieldType.int), Jvm.Cond.code ({ cls := "java/lang/Math", name := "abs", desc := "(I)I" } : Jvm.MethodName) jdk_29_method_59_code (1 : Nat) (Option.some Jvm.ClassFile.FieldType.int)]
set_option maxRecDepth 65536 in
theorem codes_eq : words1.filter isCode = codes1 := rfl
theorem w_codes : ∀ c ∈ words1.filter isCode, c.before args0 about1 = true := by
  rw [codes_eq]
  intro c hc
  simp only [codes1, List.mem_cons, List.not_mem_nil, or_false] at hc
  rcases hc with rfl | rfl | rfl | rfl | rfl
  · exact w_c0
  · exact w_c1
  · exact w_c2
  · exact w_c3
  · exact w_c4
set_option maxRecDepth 65536 in
theorem w_t1 : words1.all (fun c => isCode c || c.before args0 about1) = true := by decide +kernel
theorem w_tables : (allAtoms (Jvm.Cond.code x code maxLocals ret :: tables_1)).before args0 about1 = true := by
  rw [allAtoms_all]
  show words1.all (fun c => c.before args0 about1) = true
  refine all_split ?_ w_codes
  rw [w_t1]
set_option maxRecDepth 65536 in
theorem w_case : (Jvm.Cond.and given_1 narrow_1).before args0 about1 = true := by decide +kernel
theorem w_applies : (headSpec (Jvm.Cond.code x code maxLocals ret :: tables_1) room_1).applies x e0.platform about1 = true :=
  (Spec.applies_iff w_frames).mpr ⟨w_running, w_runnable, w_alone, w_named, w_hears, w_ripe, w_room, w_tables⟩
theorem atStart : AtStart classFile x code maxLocals ret World_1 tables_1 room_1 Calls_1 rest_1 Pre_1 launch0 p0 e0 about1 theMethod args0 below0 :=
  ⟨lists_1, trivial, launch0.admits_env _ _ _, launch0.least_env, fairChoices_fair.cas, fairChoices_fair.clock, w_frames, w_args, w_heap, w_applies, trivial, trivial, w_case⟩
end start1
theorem witness_1 : WitnessClaimed_1 := ⟨start1.p0, start1.e0, start1.about1, start1.theMethod, start1.args0, start1.below0, start1.atStart⟩
end Jvm.Pilot.@@N@@
