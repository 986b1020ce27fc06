import JvmDerived
import JvmDerived.Pilot.@@N@@Statement
import JvmDerived.Pilot.@@N@@Code
set_option linter.unusedVariables false
set_option linter.unusedSimpArgs false
@@BLOCK:NumsL.lean.txt@@
namespace Jvm.Pilot.@@N@@
open Jvm Jvm.ClassFile Sem Op Lib Jvm.Free Jvm.Stand Jvm.LawKit Jvm.RoadKit Bundle Jvm.Pilot.@@N@@.Jvm.D
theorem own_m (i : Nat) {d : Jvm.Cond} (h : tables_1[i]? = some d) : d ∈ tables_1 := List.mem_of_getElem? h
theorem own_pd0 : parseMethodDescriptor "(I)I" = some ⟨[.int], some .int⟩ := by decide +kernel
theorem own_pd1 : parseMethodDescriptor "(II)I" = some ⟨[.int, .int], some .int⟩ := by decide +kernel
theorem own_pd2 : parseMethodDescriptor "(JJ)J" = some ⟨[.long, .long], some .long⟩ := by decide +kernel
theorem own_pd3 : parseMethodDescriptor "([II)[I" = some ⟨[(.array .int), .int], some (.array .int)⟩ := by decide +kernel
theorem own_pd4 : parseMethodDescriptor "([JI)[J" = some ⟨[(.array .long), .int], some (.array .long)⟩ := by decide +kernel
theorem own_pd5 : parseMethodDescriptor "(I)V" = some ⟨[.int], none⟩ := by decide +kernel
theorem own_pd6 : parseMethodDescriptor "(J)I" = some ⟨[.long], some .int⟩ := by decide +kernel
theorem own_pd7 : parseMethodDescriptor "(IZII)I" = some ⟨[.int, .boolean, .int, .int], some .int⟩ := by decide +kernel
theorem own_pd8 : parseMethodDescriptor "()V" = some ⟨[], none⟩ := by decide +kernel
theorem own_pd9 : parseMethodDescriptor "([I[ZI)I" = some ⟨[(.array .int), (.array .boolean), .int], some .int⟩ := by decide +kernel
/-! A. words of 64 bits -/
def own_tb (x : Int64) (k : Nat) : Bool := x.toBitVec.getLsbD k
def own_bit (e : Nat) : Int64 := (1 : Int64) <<< ((Int32.ofNat e) &&& 0x3f).toInt64
def own_msk (e : Nat) : Int64 := (-1 : Int64) <<< ((Int32.ofNat e) &&& 0x3f).toInt64
theorem own_tb_or (x y : Int64) (k : Nat) : own_tb (x ||| y) k = (own_tb x k || own_tb y k) := by simp [own_tb]
theorem own_tb_and (x y : Int64) (k : Nat) : own_tb (x &&& y) k = (own_tb x k && own_tb y k) := by simp [own_tb]
theorem own_tb_not (x : Int64) {k : Nat} (hk : k < 64) : own_tb (x ^^^ (-1)) k = !own_tb x k := by
 have h : (-1 : Int64).toBitVec = BitVec.allOnes 64 := by decide
 simp [own_tb, h, hk]
theorem own_tb_bit_fin : ∀ e k : Fin 64, own_tb (own_bit e.1) k.1 = decide (k.1 = e.1) := by decide +kernel
theorem own_tb_bit {e k : Nat} (he : e < 64) (hk : k < 64) : own_tb (own_bit e) k = decide (k = e) := own_tb_bit_fin ⟨e, he⟩ ⟨k, hk⟩
theorem own_tb_msk_fin : ∀ e k : Fin 64, own_tb (own_msk e.1) k.1 = decide (e.1 ≤ k.1) := by decide +kernel
theorem own_tb_msk {e k : Nat} (he : e < 64) (hk : k < 64) : own_tb (own_msk e) k = decide (e ≤ k) := own_tb_msk_fin ⟨e, he⟩ ⟨k, hk⟩
theorem own_tb_big (x : Int64) {k : Nat} (hk : 64 ≤ k) : own_tb x k = false := BitVec.getLsbD_of_ge _ _ hk
theorem own_tb_ext {x y : Int64} (h : ∀ k, k < 64 → own_tb x k = own_tb y k) : x = y := by
 apply Int64.toBitVec_inj.mp
 exact BitVec.eq_of_getLsbD_eq fun k hk => h k hk
theorem own_tb_zero (k : Nat) : own_tb 0 k = false := by simp [own_tb]
theorem own_tb_ne {x : Int64} (h : ¬ x = 0) : ∃ k, k < 64 ∧ own_tb x k = true := by
 apply Classical.byContradiction
 intro q
 exact h (own_tb_ext fun k hk => by
  rw [own_tb_zero]
  cases e : own_tb x k with
  | false => rfl
  | true => exact absurd ⟨k, hk, e⟩ q)
/-- the lowest bit -/
theorem own_low {x : Int64} (h : ¬ x = 0) : ∃ k, k < 64 ∧ own_tb x k = true ∧ ∀ j, j < k → own_tb x j = false := by
 obtain ⟨k, hk, e⟩ := own_tb_ne h
 induction k using Nat.strongRecOn with
 | _ k ih =>
  by_cases q : ∃ j, j < k ∧ own_tb x j = true
  ·obtain ⟨j, hj, ej⟩ := q; exact ih j hj (by omega) ej
  ·exact ⟨k, hk, e, fun j hj => by
    cases ej : own_tb x j with
    | false => rfl
    | true => exact absurd ⟨j, hj, ej⟩ q⟩
/-- x and x - 1, by the lowest bit -/
theorem own_dec_nat {n k : Nat} (h1 : n.testBit k = true) (h2 : ∀ j, j < k → n.testBit j = false) (j : Nat) : (n - 1).testBit j = if j < k then true else if j = k then false else n.testBit j := by
 have hm : n % 2 ^ k = 0 := by
  apply Nat.eq_of_testBit_eq
  intro i
  rw [Nat.testBit_mod_two_pow, Nat.zero_testBit]
  by_cases q : i < k
  ·simp [h2 i q]
  ·simp [q]
 obtain ⟨q, hq⟩ : ∃ q, n = 2 ^ k * q := ⟨n / 2 ^ k, by have := Nat.div_add_mod n (2 ^ k); omega⟩
 have hodd : q % 2 = 1 := by
  rw [hq, Nat.testBit_two_pow_mul] at h1
  simpa [Nat.testBit_zero] using h1
 obtain ⟨r, hr⟩ : ∃ r, q = 2 * r + 1 := ⟨q / 2, by omega⟩
 have hp : 0 < 2 ^ k := Nat.two_pow_pos k
 have e : n - 1 = 2 ^ k * (2 * r) + (2 ^ k - 1) := by
  rw [hq, hr, Nat.mul_add, Nat.mul_one]; omega
 rw [e, Nat.testBit_two_pow_mul_add _ (by omega)]
 by_cases c1 : j < k
 ·simp [c1, Nat.testBit_two_pow_sub_one]
 ·rw [if_neg c1, if_neg c1]
  by_cases c2 : j = k
  ·subst c2; simp [Nat.testBit_zero]
  ·rw [if_neg c2, hq, Nat.testBit_two_pow_mul]
   have : j - k = (j - k - 1) + 1 := by omega
   rw [this, hr, Nat.testBit_succ, Nat.testBit_succ]
   have a1 : 2 * r / 2 = r := by omega
   have a2 : (2 * r + 1) / 2 = r := by omega
   rw [a1, a2]
   simp; omega
theorem own_tb_dec {x : Int64} {k : Nat} (hk : k < 64) (h1 : own_tb x k = true) (h2 : ∀ j, j < k → own_tb x j = false) (j : Nat) (hj : j < 64) : own_tb (x - 1) j = if j < k then true else if j = k then false else own_tb x j := by
 have hne : 1 ≤ x.toBitVec.toNat := by
  apply Classical.byContradiction
  intro q
  have : x.toBitVec.toNat = 0 := by omega
  rw [own_tb, BitVec.getLsbD, this] at h1
  simp at h1
 have e : (x - 1).toBitVec.toNat = x.toBitVec.toNat - 1 := by
  rw [Int64.toBitVec_sub, BitVec.toNat_sub]
  have l := x.toBitVec.isLt
  have o : (1 : Int64).toBitVec.toNat = 1 := by decide
  rw [o]; omega
 have := own_dec_nat (n := x.toBitVec.toNat) (k := k) h1 h2 j
 rw [own_tb, BitVec.getLsbD, e, this]
 rfl
theorem own_tb_clear {x : Int64} {k : Nat} (hk : k < 64) (h1 : own_tb x k = true) (h2 : ∀ j, j < k → own_tb x j = false) (j : Nat) (hj : j < 64) : own_tb (x &&& (x - 1)) j = (own_tb x j && !decide (j = k)) := by
 rw [own_tb_and, own_tb_dec hk h1 h2 j hj]
 by_cases c1 : j < k
 ·simp [c1, h2 j c1]
 ·by_cases c2 : j = k
  ·subst c2; simp
  ·simp [c1, c2]
/-! B. numberOfTrailingZeros -/
def own_ush (i : Int32) (s : Int32) : Int32 := ((i.toUInt32 >>> (s &&& 31).toUInt32).toInt32)
def own_n5 (i n : Int32) : Int32 := n + own_ush i 1
def own_n4 (i n : Int32) : Int32 := if 4 < i then own_n5 (own_ush i 2) (n + 2) else own_n5 i n
def own_n3 (i n : Int32) : Int32 := if 16 < i then own_n4 (own_ush i 4) (n + 4) else own_n4 i n
def own_n2 (i n : Int32) : Int32 := if 256 < i then own_n3 (own_ush i 8) (n + 8) else own_n3 i n
def own_n1 (i n : Int32) : Int32 := if 65536 < i then own_n2 (own_ush i 16) (n + 16) else own_n2 i n
def own_nm (i : Int32) : Int32 := if 0 < i then own_n1 i 1 else (i &&& 32)
def own_nt32 (a : Int32) : Int32 := own_nm ((a ^^^ (-1)) &&& (a - 1))
def own_nt64 (x : Int64) : Int32 := if x.toInt32 = 0 then 32 + own_nt32 (((x.toUInt64 >>> ((32 : Int32) &&& 0x3f).toInt64.toUInt64).toInt64).toInt32) else own_nt32 x.toInt32
def own_p2 (k : Nat) : Int32 := Int32.ofNat (2 ^ k - 1)
theorem own_nm_fin : ∀ k : Fin 32, own_nm (own_p2 k.1) = Int32.ofNat k.1 := by decide +kernel
theorem own_p2_fin : ∀ k j : Fin 32, (own_p2 k.1).toBitVec.getLsbD j.1 = decide (j.1 < k.1) := by decide +kernel
theorem own_m32 {i : Int32} {k : Nat} (hk : k < 32) (h1 : i.toBitVec.getLsbD k = true) (h2 : ∀ j, j < k → i.toBitVec.getLsbD j = false) : ((i ^^^ (-1)) &&& (i - 1)) = own_p2 k := by
 have hne : 1 ≤ i.toBitVec.toNat := by
  apply Classical.byContradiction
  intro q
  have : i.toBitVec.toNat = 0 := by omega
  rw [BitVec.getLsbD, this] at h1
  simp at h1
 have e : (i - 1).toBitVec.toNat = i.toBitVec.toNat - 1 := by
  rw [Int32.toBitVec_sub, BitVec.toNat_sub]
  have l := i.toBitVec.isLt
  have o : (1 : Int32).toBitVec.toNat = 1 := by decide
  rw [o]; omega
 have hall : (-1 : Int32).toBitVec = BitVec.allOnes 32 := by decide
 apply Int32.toBitVec_inj.mp
 refine BitVec.eq_of_getLsbD_eq fun j hj => ?_
 have d := own_dec_nat (n := i.toBitVec.toNat) (k := k) h1 h2 j
 have d' : (i - 1).toBitVec.getLsbD j = if j < k then true else if j = k then false else i.toBitVec.getLsbD j := by rw [BitVec.getLsbD, e, d]; rfl
 rw [Int32.toBitVec_and, BitVec.getLsbD_and, Int32.toBitVec_xor, BitVec.getLsbD_xor, hall, d', own_p2_fin ⟨k, hk⟩ ⟨j, hj⟩]
 simp only [BitVec.getLsbD_allOnes, hj, decide_true]
 by_cases c1 : j < k
 ·simp [c1, h2 j c1]
 ·by_cases c2 : j = k
  ·subst c2; simp [h1]
  ·simp [c1, c2]
theorem own_nt32_eq {i : Int32} {k : Nat} (hk : k < 32) (h1 : i.toBitVec.getLsbD k = true) (h2 : ∀ j, j < k → i.toBitVec.getLsbD j = false) : own_nt32 i = Int32.ofNat k := by
 unfold own_nt32; rw [own_m32 hk h1 h2]; exact own_nm_fin ⟨k, hk⟩
theorem own_lo32 (x : Int64) {j : Nat} (hj : j < 32) : x.toInt32.toBitVec.getLsbD j = own_tb x j := by
 show (x.toBitVec.signExtend 32).getLsbD j = x.toBitVec.getLsbD j
 rw [BitVec.getLsbD_signExtend]; simp [hj]; omega
theorem own_hi32 (x : Int64) {j : Nat} (hj : j < 32) : ((((x.toUInt64 >>> ((32 : Int32) &&& 0x3f).toInt64.toUInt64).toInt64).toInt32)).toBitVec.getLsbD j = own_tb x (j + 32) := by
 rw [own_lo32 _ hj]
 show ((x.toUInt64 >>> ((32 : Int32) &&& 0x3f).toInt64.toUInt64).toBitVec).getLsbD j = _
 rw [UInt64.toBitVec_shiftRight]
 have e : (((32 : Int32) &&& 0x3f).toInt64.toUInt64.toBitVec % 64) = 32#64 := by decide
 rw [e]
 show (x.toBitVec >>> 32#64).getLsbD j = _
 rw [BitVec.ushiftRight_eq', BitVec.getLsbD_ushiftRight]
 show x.toBitVec.getLsbD (32 + j) = x.toBitVec.getLsbD (j + 32)
 rw [Nat.add_comm]
theorem own_nt64_eq {x : Int64} {k : Nat} (hk : k < 64) (h1 : own_tb x k = true) (h2 : ∀ j, j < k → own_tb x j = false) : own_nt64 x = Int32.ofNat k := by
 unfold own_nt64
 by_cases c : k < 32
 ·have hne : ¬ x.toInt32 = 0 := fun q => by
   have := own_lo32 x c
   rw [q, h1] at this; simp at this
  rw [if_neg hne]
  exact own_nt32_eq c (by rw [own_lo32 x c]; exact h1) (fun j hj => by rw [own_lo32 x (by omega)]; exact h2 j hj)
 ·have hz : x.toInt32 = 0 := by
   apply Int32.toBitVec_inj.mp
   refine BitVec.eq_of_getLsbD_eq fun j hj => ?_
   rw [own_lo32 x hj, h2 j (by omega)]; simp
  rw [if_pos hz, own_nt32_eq (k := k - 32) (by omega) (by rw [own_hi32 x (by omega), show k - 32 + 32 = k by omega]; exact h1) (fun j hj => by rw [own_hi32 x (by omega)]; exact h2 _ (by omega))]
  have : ∀ q : Fin 32, (32 : Int32) + Int32.ofNat q.1 = Int32.ofNat (q.1 + 32) := by decide +kernel
  have t := this ⟨k - 32, by omega⟩
  rw [show (k - 32) + 32 = k by omega] at t
  exact t

/-! C. arrays on the heap -/
/-- a long[] of n places that hold f -/
def own_LA (Z : State) (h : Heap) (a : Addr) (n : Nat) (f : Nat → Int64) : Prop := ∃ cl : Cell, Arr Z h a cl .long ∧ Exa Z h a "[J" ∧ cl.slots.size = n ∧ ∀ i, i < n → cl.slots[i]? = some (.long (f i))
/-- an int[] of n places that hold f -/
def own_IA (Z : State) (h : Heap) (a : Addr) (n : Nat) (f : Nat → Int32) : Prop := ∃ cl : Cell, Arr Z h a cl .int ∧ Exa Z h a "[I" ∧ cl.slots.size = n ∧ ∀ i, i < n → cl.slots[i]? = some (.int (f i))
/-- an array of references to arrays of ty's -/
def own_RA (Z : State) (ty : FieldType) (C : String) (h : Heap) (a : Addr) (n : Nat) (f : Nat → Value) : Prop := ∃ cl : Cell, Arr Z h a cl (.array ty) ∧ OvrA Z cl.cls ty C ∧ cl.slots.size = n ∧ ∀ i, i < n → cl.slots[i]? = some (f i)
/-- a boolean[] -/
def own_ZA (Z : State) (h : Heap) (a : Addr) (n : Nat) (f : Nat → Int32) : Prop := ∃ cl : Cell, Arr Z h a cl .boolean ∧ cl.slots.size = n ∧ ∀ i, i < n → cl.slots[i]? = some (.int (f i))
section
variable {Z : State} {h h' : Heap} {a b : Addr} {n sl : Nat} {v : Value} {ws : List Addr}
theorem own_LA.lt {f : Nat → Int64} (F : own_LA Z h a n f) : a < h.size := by obtain ⟨cl, A, -⟩ := F; exact A.lt
theorem own_IA.lt {f : Nat → Int32} (F : own_IA Z h a n f) : a < h.size := by obtain ⟨cl, A, -⟩ := F; exact A.lt
theorem own_ZA.lt {f : Nat → Int32} (F : own_ZA Z h a n f) : a < h.size := by obtain ⟨cl, A, -⟩ := F; exact A.lt
theorem own_RA.lt {ty : FieldType} {C : String} {f : Nat → Value} (F : own_RA Z ty C h a n f) : a < h.size := by obtain ⟨cl, A, -⟩ := F; exact A.lt
theorem own_LA.ext {f : Nat → Int64} (F : own_LA Z h a n f) (E : Ext h h') : own_LA Z h' a n f := by obtain ⟨cl, A, B, r⟩ := F; exact ⟨cl, A.ext E, B.ext E, r⟩
theorem own_IA.ext {f : Nat → Int32} (F : own_IA Z h a n f) (E : Ext h h') : own_IA Z h' a n f := by obtain ⟨cl, A, B, r⟩ := F; exact ⟨cl, A.ext E, B.ext E, r⟩
theorem own_ZA.ext {f : Nat → Int32} (F : own_ZA Z h a n f) (E : Ext h h') : own_ZA Z h' a n f := by obtain ⟨cl, A, r⟩ := F; exact ⟨cl, A.ext E, r⟩
theorem own_RA.ext {ty : FieldType} {C : String} {f : Nat → Value} (F : own_RA Z ty C h a n f) (E : Ext h h') : own_RA Z ty C h' a n f := by obtain ⟨cl, A, r⟩ := F; exact ⟨cl, A.ext E, r⟩
theorem own_LA.other {f : Nat → Int64} (F : own_LA Z h b n f) (W : Wr h h' a sl v) (q : b ≠ a) : own_LA Z h' b n f := by obtain ⟨cl, A, B, r⟩ := F; exact ⟨cl, A.other W q, B.wr W, r⟩
theorem own_IA.other {f : Nat → Int32} (F : own_IA Z h b n f) (W : Wr h h' a sl v) (q : b ≠ a) : own_IA Z h' b n f := by obtain ⟨cl, A, B, r⟩ := F; exact ⟨cl, A.other W q, B.wr W, r⟩
theorem own_ZA.other {f : Nat → Int32} (F : own_ZA Z h b n f) (W : Wr h h' a sl v) (q : b ≠ a) : own_ZA Z h' b n f := by obtain ⟨cl, A, r⟩ := F; exact ⟨cl, A.other W q, r⟩
theorem own_RA.other {ty : FieldType} {C : String} {f : Nat → Value} (F : own_RA Z ty C h b n f) (W : Wr h h' a sl v) (q : b ≠ a) : own_RA Z ty C h' b n f := by obtain ⟨cl, A, r⟩ := F; exact ⟨cl, A.other W q, r⟩
theorem own_Arr_keep {cl : Cell} {ty : FieldType} (A : Arr Z h a cl ty) (K : Keep h h' ws) (q : a ∉ ws) : Arr Z h' a cl ty := ⟨K.2.1 a cl A.1 q, A.2⟩
theorem own_LA.keep {f : Nat → Int64} (F : own_LA Z h a n f) (K : Keep h h' ws) (q : a ∉ ws) : own_LA Z h' a n f := by obtain ⟨cl, A, B, r⟩ := F; exact ⟨cl, own_Arr_keep A K q, B.keep K, r⟩
theorem own_IA.keep {f : Nat → Int32} (F : own_IA Z h a n f) (K : Keep h h' ws) (q : a ∉ ws) : own_IA Z h' a n f := by obtain ⟨cl, A, B, r⟩ := F; exact ⟨cl, own_Arr_keep A K q, B.keep K, r⟩
theorem own_ZA.keep {f : Nat → Int32} (F : own_ZA Z h a n f) (K : Keep h h' ws) (q : a ∉ ws) : own_ZA Z h' a n f := by obtain ⟨cl, A, r⟩ := F; exact ⟨cl, own_Arr_keep A K q, r⟩
theorem own_RA.keep {ty : FieldType} {C : String} {f : Nat → Value} (F : own_RA Z ty C h a n f) (K : Keep h h' ws) (q : a ∉ ws) : own_RA Z ty C h' a n f := by obtain ⟨cl, A, r⟩ := F; exact ⟨cl, own_Arr_keep A K q, r⟩
theorem own_slot_set {cl : Cell} {j : Nat} {w : Value} {g g' : Nat → Value} (hs : cl.slots.size = n) (hv : ∀ i, i < n → cl.slots[i]? = some (g i)) (hj : j < n) (hg : ∀ i, i < n → g' i = if i = j then w else g i) : (cl.setSlot j w).slots.size = n ∧ ∀ i, i < n → (cl.setSlot j w).slots[i]? = some (g' i) := by
 refine ⟨by rw [sz_set, hs], fun i hi => ?_⟩
 rw [hg i hi]
 by_cases q : j = i
 ·subst q; rw [if_pos rfl]; exact Cell.slots_setSlot_self _ (by omega)
 ·rw [if_neg (fun e => q e.symm), Cell.slots_setSlot_ne _ q]; exact hv i hi
theorem own_LA.set {f f' : Nat → Int64} {j : Nat} {x : Int64} (F : own_LA Z h a n f) (W : Wr h h' a j (.long x)) (hj : j < n) (hf : ∀ i, i < n → f' i = if i = j then x else f i) : own_LA Z h' a n f' := by
 obtain ⟨cl, A, B, hs, hv⟩ := F
 obtain ⟨h1, h2⟩ := own_slot_set (g := fun i => .long (f i)) (g' := fun i => .long (f' i)) (w := .long x) hs hv hj (fun i hi => by simp only [hf i hi]; split <;> rfl)
 exact ⟨_, A.same W, B.wr W, h1, h2⟩
theorem own_IA.set {f f' : Nat → Int32} {j : Nat} {x : Int32} (F : own_IA Z h a n f) (W : Wr h h' a j (.int x)) (hj : j < n) (hf : ∀ i, i < n → f' i = if i = j then x else f i) : own_IA Z h' a n f' := by
 obtain ⟨cl, A, B, hs, hv⟩ := F
 obtain ⟨h1, h2⟩ := own_slot_set (g := fun i => .int (f i)) (g' := fun i => .int (f' i)) (w := .int x) hs hv hj (fun i hi => by simp only [hf i hi]; split <;> rfl)
 exact ⟨_, A.same W, B.wr W, h1, h2⟩
theorem own_ZA.set {f f' : Nat → Int32} {j : Nat} {x : Int32} (F : own_ZA Z h a n f) (W : Wr h h' a j (.int x)) (hj : j < n) (hf : ∀ i, i < n → f' i = if i = j then x else f i) : own_ZA Z h' a n f' := by
 obtain ⟨cl, A, hs, hv⟩ := F
 obtain ⟨h1, h2⟩ := own_slot_set (g := fun i => .int (f i)) (g' := fun i => .int (f' i)) (w := .int x) hs hv hj (fun i hi => by simp only [hf i hi]; split <;> rfl)
 exact ⟨_, A.same W, h1, h2⟩
theorem own_RA.set {ty : FieldType} {C : String} {f f' : Nat → Value} {j : Nat} {x : Value} (F : own_RA Z ty C h a n f) (W : Wr h h' a j x) (hj : j < n) (hf : ∀ i, i < n → f' i = if i = j then x else f i) : own_RA Z ty C h' a n f' := by
 obtain ⟨cl, A, B, hs, hv⟩ := F
 obtain ⟨h1, h2⟩ := own_slot_set (g := f) (g' := f') (w := x) hs hv hj hf
 exact ⟨_, A.same W, B, h1, h2⟩
theorem own_ty_ne {ty ty' : FieldType} {cl cl' : Cell} (A : Arr Z h a cl ty) (B : Arr Z h b cl' ty') (q : ty ≠ ty') : a ≠ b := by
 rintro rfl
 cases A.1.symm.trans B.1
 obtain ⟨-, k, h1, c1, h2⟩ := A.2.1
 obtain ⟨-, k', h1', c1', h2'⟩ := B.2.1
 cases h1.symm.trans h1'
 rw [h2] at h2'; cases h2'; exact q rfl
end
theorem own_inb {cl : Cell} {n j : Nat} (hs : cl.slots.size = n) (hj : j < n) (hn : n < 2 ^ 31) : ¬ ((Int32.ofNat j) < 0 ∨ cl.slots.size ≤ (Int32.ofNat j).toNatClampNeg) := by
 rw [hs]; exact idx_in hj hn
theorem own_cl {j : Nat} (hj : j < 2 ^ 31) : (Int32.ofNat j).toNatClampNeg = j := by
 show (Int32.ofNat j).toInt.toNat = j
 rw [Int32.toInt_ofNat_of_lt hj]; rfl
theorem own_toInt {j : Nat} (hj : j < 2 ^ 31) : (Int32.ofNat j).toInt = j := Int32.toInt_ofNat_of_lt hj
theorem own_ilt {i j : Nat} (hi : i < 2 ^ 31) (hj : j < 2 ^ 31) : Int32.ofNat i < Int32.ofNat j ↔ i < j := by
 rw [Int32.lt_iff_toInt_lt, own_toInt hi, own_toInt hj]; omega
theorem own_ieq {i j : Nat} (hi : i < 2 ^ 31) (hj : j < 2 ^ 31) : Int32.ofNat i = Int32.ofNat j ↔ i = j := by
 rw [← Int32.toInt_inj, own_toInt hi, own_toInt hj]; omega
theorem own_iadd {i j : Nat} : Int32.ofNat i + Int32.ofNat j = Int32.ofNat (i + j) := by rw [Int32.ofNat_add]
theorem own_ushr6 {n : Nat} (hn : n < 2 ^ 31) : (((Int32.ofNat n).toUInt32 >>> ((6 : Int32) &&& 31).toUInt32).toInt32) = Int32.ofNat (n / 64) := by
 apply Int32.toInt_inj.mp
 rw [c_iushr _ _ 6 (by decide) (by decide), own_toInt hn, own_toInt (by omega)]; omega
theorem own_ushr12 {n : Nat} (hn : n < 2 ^ 31) : (((Int32.ofNat n).toUInt32 >>> ((12 : Int32) &&& 31).toUInt32).toInt32) = Int32.ofNat (n / 4096) := by
 apply Int32.toInt_inj.mp
 rw [c_iushr _ _ 12 (by decide) (by decide), own_toInt hn, own_toInt (by omega)]; omega
theorem own_and63 {n : Nat} (hn : n < 2 ^ 31) : (Int32.ofNat n &&& 63) = Int32.ofNat (n % 64) := by
 apply Int32.toInt_inj.mp
 rw [Jvm.Kit.i32_mask _ 63 (k := 6) (by decide) (by decide), own_toInt hn, own_toInt (by omega)]; omega
/-- how many words n bits fill, one at least -/
def own_wf (n : Nat) : Nat := if 1 < (n + 63) / 64 then (n + 63) / 64 else 1
theorem own_wh {n : Nat} (hn : n < 2 ^ 31) : ((((Int32.ofNat n) + 63).toUInt32 >>> ((6 : Int32) &&& 31).toUInt32).toInt32) = Int32.ofNat ((n + 63) / 64) := by
 apply Int32.toInt_inj.mp
 rw [c_iushr _ _ 6 (by decide) (by decide), own_toInt (j := (n + 63) / 64) (by omega)]
 have e := c_iadd (Int32.ofNat n) 63
 have k : (63 : Int32).toInt = 63 := by decide
 rw [own_toInt hn, k] at e
 have l1 := (Int32.ofNat n + 63).le_toInt
 have l2 := (Int32.ofNat n + 63).toInt_lt
 omega

theorem own_wfv {q : Nat} (hq : q < 2 ^ 31) : (if (1 : Int32) < Int32.ofNat q then Int32.ofNat q else 1) = Int32.ofNat (if 1 < q then q else 1) := by
 have e : ((1 : Int32) < Int32.ofNat q) ↔ 1 < q := own_ilt (i := 1) (by decide) hq
 by_cases c : 1 < q
 ·rw [if_pos (e.mpr c), if_pos c]
 ·rw [if_neg (fun h => c (e.mp h)), if_neg c]; rfl
/-! bitCount -/
def own_usl (x : Int64) (s : Int32) : Int64 := ((x.toUInt64 >>> (s &&& 0x3f).toInt64.toUInt64).toInt64)
def own_b1 (x : Int64) : Int64 := x - (own_usl x 1 &&& 6148914691236517205)
def own_b2 (x : Int64) : Int64 := (x &&& 3689348814741910323) + (own_usl x 2 &&& 3689348814741910323)
def own_b3 (x : Int64) : Int64 := (x + own_usl x 4) &&& 1085102592571150095
def own_b4 (x : Int64) : Int64 := x + own_usl x 8
def own_b5 (x : Int64) : Int64 := x + own_usl x 16
def own_b6 (x : Int64) : Int64 := x + own_usl x 32
def own_pc (x : Int64) : Int32 := (own_b6 (own_b5 (own_b4 (own_b3 (own_b2 (own_b1 x)))))).toInt32 &&& 127
theorem own_nn {n : Nat} (hn : n < 2 ^ 31) : ¬ Int32.ofNat n < 0 := by
 rw [Int32.lt_iff_toInt_lt, own_toInt hn]; have : (0 : Int32).toInt = 0 := rfl
 omega
theorem own_getD {n i : Nat} {g : Nat → Value} {d : Value} (hi : i < n) : ((List.range n).map g).getD i d = g i := by simp [List.getD, hi]
theorem own_arv_of {Z : State} {h : Heap} {a : Addr} {ty : FieldType} {cl : Cell} {n : Nat} {g : Nat → Value} (A : Arr Z h a cl ty) (hs : cl.slots.size = n) (hn : n < 2 ^ 31) (hv : ∀ i, i < n → cl.slots[i]? = some (g i)) (hfit : ∀ i, i < n → fits ty (g i) = true) (d : Value) : Arv Z h a cl.cls ty (Int32.ofNat n) ((List.range n).map g) d :=
 ⟨cl, A, rfl, by rw [hs, own_cl hn], own_nn hn, fun k hk => by rw [own_getD (by omega)]; exact hv k (by omega), fun i hi => by rw [own_getD (by omega)]; exact hfit i (by omega)⟩
theorem own_of_arv {Z : State} {h : Heap} {a : Addr} {k : ClassId} {ty : FieldType} {n : Nat} {vs : List Value} {d : Value} {g : Nat → Value} (F : Arv Z h a k ty (Int32.ofNat n) vs d) (hn : n < 2 ^ 31) (hg : ∀ i, i < n → vs.getD i d = g i) : ∃ cl : Cell, Arr Z h a cl ty ∧ cl.slots.size = n ∧ ∀ i, i < n → cl.slots[i]? = some (g i) := by
 obtain ⟨cl, A, -, S, -, H, -⟩ := F
 rw [own_cl hn] at S
 exact ⟨cl, A, S, fun i hi => by rw [← hg i hi]; exact H i (by omega)⟩
theorem own_cat {n n' i : Nat} {g : Nat → Value} {d : Value} (hle : n ≤ n') (hi : i < n') : (((([] ++ List.replicate n' d).take 0) ++ (List.range n).map (fun j => ((List.range n).map g).getD (0 + j) d)) ++ ([] ++ List.replicate n' d).drop (0 + n)).getD i d = if i < n then g i else d := by
 by_cases c : i < n
 ·rw [if_pos c]; simp [List.getD, List.getElem?_append, c]
 ·rw [if_neg c]
  have e : ((([] ++ List.replicate n' d).take 0) ++ (List.range n).map (fun j => ((List.range n).map g).getD (0 + j) d)).length = n := by simp
  rw [List.getD, List.getElem?_append_right (by omega), e, List.nil_append, List.getElem?_drop, List.getElem?_replicate]
  split <;> rfl

theorem own_da0 : decode jdk_29_method_65_code 0 = .ok (.iload_n 0, 1) := by decide +kernel
theorem own_da1 : decode jdk_29_method_65_code 1 = .ok (.iload_n 1, 1) := by decide +kernel
theorem own_da2 : decode jdk_29_method_65_code 2 = .ok (.if_icmp .lt 7, 3) := by decide +kernel
theorem own_da5 : decode jdk_29_method_65_code 5 = .ok (.iload_n 0, 1) := by decide +kernel
theorem own_da6 : decode jdk_29_method_65_code 6 = .ok (.goto 4, 3) := by decide +kernel
theorem own_da9 : decode jdk_29_method_65_code 9 = .ok (.iload_n 1, 1) := by decide +kernel
theorem own_da10 : decode jdk_29_method_65_code 10 = .ok (.ireturn, 1) := by decide +kernel
theorem own_maxI_ef (m : MethodId) (xx : Int32) (yy : Int32) : entryFrame m #[(.int xx), (.int yy)] 2 = mkF m 0 #[.val (.int xx), .val (.int yy)] [] := by first | (simp [entryFrame, mkF, argsToLocals, Value.category]; done) | rfl
def own_maxI_Q (Z : State) (xx : Int32) (yy : Int32) (h0 : Heap) (n0 : Nat) (v : Option Value) (h : Heap) (L : List Loc) : Prop := v = some (.int (if xx < yy then yy else xx)) ∧ Fr n0 L ∧ h = h0
set_option maxRecDepth 65536 in
set_option maxHeartbeats 40000000 in
theorem own_maxI (l : Launch) (Z : State) (a0 : Array Value) (hw : ∀ d ∈ tables_1, d.before a0 Z = true) (ws : List Jvm.Cond) (xx : Int32) (yy : Int32) (h0 : Heap) (n0 : Nat) (Z0 : n0 ≤ h0.size) :
  MetFree l (⟨"java/lang/Math", "max", "(II)I"⟩ : MethodName) (head1 (Jvm.Cond.code (⟨"java/lang/Math", "max", "(II)I"⟩ : MethodName) jdk_29_method_65_code 2 (some .int) :: ws) ({ frames := 0, cells := 0, slots := 0, locals := 0 } : Room)) (fun ars U => ars = #[(.int xx), (.int yy)] ∧ Z.Warmed39 U.vm ∧ U.heap = h0) (fun _ _ _ _ _ => True) (fun _ U o U' => ∃ v L, o = .returned v ∧ own_maxI_Q Z xx yy  h0 n0 v U'.heap L ∧ FrameEnd U o U' L ({ frames := 0, cells := 0, slots := 0, locals := 0 } : Room).cells ({ frames := 0, cells := 0, slots := 0, locals := 0 } : Room).slots) := by
 refine MetFree.of_bodySF (Jvm.Free.JP.mathPlain rfl (by decide +kernel)) hisR ?_
 intro p e s m args below meth c s₁ Bd hml0 hP hK
 obtain ⟨rfl, hZ, hh⟩ := hP
 have hx := Bd.exec
 have hby := Bd.bytes
 have hml : c.maxLocals = 2 := hml0
 have hown : s.vm.findClass "java/lang/Math" = some m.cls := findClass_of_methodNamed Bd.named
 have hnm := (name_of_methodNamed Bd.named Bd.method).1
 have X0 : Stand p l e ({ frames := 0, cells := 0, slots := 0, locals := 0 } : Room) s m #[(.int xx), (.int yy)] below meth c s₁ [] 0 0 := Stand.of_body Bd
 have e0 : s₁.heap = h0 := by rw [← hh, Bd.state]; rfl
 have N0 := Fr.nil n0
 generalize hS0 : s₁.setTop (entryFrame m #[(.int xx), (.int yy)] 2) = S0
 have c0 : Steps p.tables e below S0 (s₁.setTop (mkF m 0 #[.val (.int xx), .val (.int yy)] [])) := by rw [← hS0]; exact castTop (own_maxI_ef m xx yy) (Steps.refl _)
 have c1 : Steps p.tables e below S0 (s₁.setTop (mkF m 2 #[.val (.int xx), .val (.int yy)] [(.int yy), (.int xx)])) := c0.trans (by
  refine XS.iloadN X0.here hx rfl (hb hby own_da0) rfl ?_
  show Steps _ _ _ (.setTop _ (mkF _ 1 _ _)) _
  refine XS.iloadN X0.here hx rfl (hb hby own_da1) rfl ?_
  exact Steps.refl _)
 by_cases hbb : xx < yy
 ·have c3 : Steps p.tables e below S0 (s₁.setTop (mkF m 10 #[.val (.int xx), .val (.int yy)] [(.int yy)])) := c1.trans (by
   refine XS.icmpYes X0.here hx rfl (pc0 := 2) (pc' := 9) rfl (hb hby own_da2) rfl (tlt hbb).1 (by decide) (by decide) ?_
   show Steps _ _ _ (.setTop _ (mkF _ 9 _ _)) _
   refine XS.iloadN X0.here hx rfl (hb hby own_da9) rfl ?_
   exact Steps.refl _)
  obtain ⟨fs, hr, hrun, hended, hW, hsame⟩ := X0.leave (v := some (.int yy)) (fun h => by rw [Bd.returns] at h; cases h)
  exact ⟨_, _, c3.trans (retOut X0 hx (t := .int) (i := .ireturn) Bd.returns rfl (Or.inl ⟨rfl, Or.inl rfl, _, rfl⟩) (hb hby own_da10) hr), hrun, hended, _, _, rfl, ⟨by rw [if_pos hbb], N0, e0⟩, ⟨_, rfl⟩, hW, hsame.mono (by decide) (by decide)⟩
 ·have c5 : Steps p.tables e below S0 (s₁.setTop (mkF m 10 #[.val (.int xx), .val (.int yy)] [(.int xx)])) := c1.trans (by
   refine XS.icmpNo X0.here hx rfl (hb hby own_da2) rfl (flt hbb).1 ?_
   show Steps _ _ _ (.setTop _ (mkF _ 5 _ _)) _
   refine XS.iloadN X0.here hx rfl (hb hby own_da5) rfl ?_
   show Steps _ _ _ (.setTop _ (mkF _ 6 _ _)) _
   refine XS.goto X0.here hx rfl (pc0 := 6) (pc' := 10) rfl (hb hby own_da6) (by decide) (by decide) ?_
   exact Steps.refl _)
  obtain ⟨fs, hr, hrun, hended, hW, hsame⟩ := X0.leave (v := some (.int xx)) (fun h => by rw [Bd.returns] at h; cases h)
  exact ⟨_, _, c5.trans (retOut X0 hx (t := .int) (i := .ireturn) Bd.returns rfl (Or.inl ⟨rfl, Or.inl rfl, _, rfl⟩) (hb hby own_da10) hr), hrun, hended, _, _, rfl, ⟨by rw [if_neg hbb], N0, e0⟩, ⟨_, rfl⟩, hW, hsame.mono (by decide) (by decide)⟩
theorem own_db0 : decode jdk_29_method_69_code 0 = .ok (.iload_n 0, 1) := by decide +kernel
theorem own_db1 : decode jdk_29_method_69_code 1 = .ok (.iload_n 1, 1) := by decide +kernel
theorem own_db2 : decode jdk_29_method_69_code 2 = .ok (.if_icmp .gt 7, 3) := by decide +kernel
theorem own_db5 : decode jdk_29_method_69_code 5 = .ok (.iload_n 0, 1) := by decide +kernel
theorem own_db6 : decode jdk_29_method_69_code 6 = .ok (.goto 4, 3) := by decide +kernel
theorem own_db9 : decode jdk_29_method_69_code 9 = .ok (.iload_n 1, 1) := by decide +kernel
theorem own_db10 : decode jdk_29_method_69_code 10 = .ok (.ireturn, 1) := by decide +kernel
theorem own_minI_ef (m : MethodId) (xx : Int32) (yy : Int32) : entryFrame m #[(.int xx), (.int yy)] 2 = mkF m 0 #[.val (.int xx), .val (.int yy)] [] := by first | (simp [entryFrame, mkF, argsToLocals, Value.category]; done) | rfl
def own_minI_Q (Z : State) (xx : Int32) (yy : Int32) (h0 : Heap) (n0 : Nat) (v : Option Value) (h : Heap) (L : List Loc) : Prop := v = some (.int (if yy < xx then yy else xx)) ∧ Fr n0 L ∧ h = h0
set_option maxRecDepth 65536 in
set_option maxHeartbeats 40000000 in
theorem own_minI (l : Launch) (Z : State) (a0 : Array Value) (hw : ∀ d ∈ tables_1, d.before a0 Z = true) (ws : List Jvm.Cond) (xx : Int32) (yy : Int32) (h0 : Heap) (n0 : Nat) (Z0 : n0 ≤ h0.size) :
  MetFree l (⟨"java/lang/Math", "min", "(II)I"⟩ : MethodName) (head1 (Jvm.Cond.code (⟨"java/lang/Math", "min", "(II)I"⟩ : MethodName) jdk_29_method_69_code 2 (some .int) :: ws) ({ frames := 0, cells := 0, slots := 0, locals := 0 } : Room)) (fun ars U => ars = #[(.int xx), (.int yy)] ∧ Z.Warmed39 U.vm ∧ U.heap = h0) (fun _ _ _ _ _ => True) (fun _ U o U' => ∃ v L, o = .returned v ∧ own_minI_Q Z xx yy  h0 n0 v U'.heap L ∧ FrameEnd U o U' L ({ frames := 0, cells := 0, slots := 0, locals := 0 } : Room).cells ({ frames := 0, cells := 0, slots := 0, locals := 0 } : Room).slots) := by
 refine MetFree.of_bodySF (Jvm.Free.JP.mathPlain rfl (by decide +kernel)) hisR ?_
 intro p e s m args below meth c s₁ Bd hml0 hP hK
 obtain ⟨rfl, hZ, hh⟩ := hP
 have hx := Bd.exec
 have hby := Bd.bytes
 have hml : c.maxLocals = 2 := hml0
 have hown : s.vm.findClass "java/lang/Math" = some m.cls := findClass_of_methodNamed Bd.named
 have hnm := (name_of_methodNamed Bd.named Bd.method).1
 have X0 : Stand p l e ({ frames := 0, cells := 0, slots := 0, locals := 0 } : Room) s m #[(.int xx), (.int yy)] below meth c s₁ [] 0 0 := Stand.of_body Bd
 have e0 : s₁.heap = h0 := by rw [← hh, Bd.state]; rfl
 have N0 := Fr.nil n0
 generalize hS0 : s₁.setTop (entryFrame m #[(.int xx), (.int yy)] 2) = S0
 have c0 : Steps p.tables e below S0 (s₁.setTop (mkF m 0 #[.val (.int xx), .val (.int yy)] [])) := by rw [← hS0]; exact castTop (own_minI_ef m xx yy) (Steps.refl _)
 have c1 : Steps p.tables e below S0 (s₁.setTop (mkF m 2 #[.val (.int xx), .val (.int yy)] [(.int yy), (.int xx)])) := c0.trans (by
  refine XS.iloadN X0.here hx rfl (hb hby own_db0) rfl ?_
  show Steps _ _ _ (.setTop _ (mkF _ 1 _ _)) _
  refine XS.iloadN X0.here hx rfl (hb hby own_db1) rfl ?_
  exact Steps.refl _)
 by_cases hbb : yy < xx
 ·have c3 : Steps p.tables e below S0 (s₁.setTop (mkF m 10 #[.val (.int xx), .val (.int yy)] [(.int yy)])) := c1.trans (by
   refine XS.icmpYes X0.here hx rfl (pc0 := 2) (pc' := 9) rfl (hb hby own_db2) rfl (tlt hbb).2.2.1 (by decide) (by decide) ?_
   show Steps _ _ _ (.setTop _ (mkF _ 9 _ _)) _
   refine XS.iloadN X0.here hx rfl (hb hby own_db9) rfl ?_
   exact Steps.refl _)
  obtain ⟨fs, hr, hrun, hended, hW, hsame⟩ := X0.leave (v := some (.int yy)) (fun h => by rw [Bd.returns] at h; cases h)
  exact ⟨_, _, c3.trans (retOut X0 hx (t := .int) (i := .ireturn) Bd.returns rfl (Or.inl ⟨rfl, Or.inl rfl, _, rfl⟩) (hb hby own_db10) hr), hrun, hended, _, _, rfl, ⟨by rw [if_pos hbb], N0, e0⟩, ⟨_, rfl⟩, hW, hsame.mono (by decide) (by decide)⟩
 ·have c5 : Steps p.tables e below S0 (s₁.setTop (mkF m 10 #[.val (.int xx), .val (.int yy)] [(.int xx)])) := c1.trans (by
   refine XS.icmpNo X0.here hx rfl (hb hby own_db2) rfl (flt hbb).2.2.1 ?_
   show Steps _ _ _ (.setTop _ (mkF _ 5 _ _)) _
   refine XS.iloadN X0.here hx rfl (hb hby own_db5) rfl ?_
   show Steps _ _ _ (.setTop _ (mkF _ 6 _ _)) _
   refine XS.goto X0.here hx rfl (pc0 := 6) (pc' := 10) rfl (hb hby own_db6) (by decide) (by decide) ?_
   exact Steps.refl _)
  obtain ⟨fs, hr, hrun, hended, hW, hsame⟩ := X0.leave (v := some (.int xx)) (fun h => by rw [Bd.returns] at h; cases h)
  exact ⟨_, _, c5.trans (retOut X0 hx (t := .int) (i := .ireturn) Bd.returns rfl (Or.inl ⟨rfl, Or.inl rfl, _, rfl⟩) (hb hby own_db10) hr), hrun, hended, _, _, rfl, ⟨by rw [if_neg hbb], N0, e0⟩, ⟨_, rfl⟩, hW, hsame.mono (by decide) (by decide)⟩
theorem own_dc0 : decode jdk_29_method_66_code 0 = .ok (.lload_n 0, 1) := by decide +kernel
theorem own_dc1 : decode jdk_29_method_66_code 1 = .ok (.lload_n 2, 1) := by decide +kernel
theorem own_dc2 : decode jdk_29_method_66_code 2 = .ok (.lcmp, 1) := by decide +kernel
theorem own_dc3 : decode jdk_29_method_66_code 3 = .ok (.ifCond .lt 7, 3) := by decide +kernel
theorem own_dc6 : decode jdk_29_method_66_code 6 = .ok (.lload_n 0, 1) := by decide +kernel
theorem own_dc7 : decode jdk_29_method_66_code 7 = .ok (.goto 4, 3) := by decide +kernel
theorem own_dc10 : decode jdk_29_method_66_code 10 = .ok (.lload_n 2, 1) := by decide +kernel
theorem own_dc11 : decode jdk_29_method_66_code 11 = .ok (.lreturn, 1) := by decide +kernel
theorem own_maxJ_ef (m : MethodId) (xx : Int64) (yy : Int64) : entryFrame m #[(.long xx), (.long yy)] 4 = mkF m 0 #[.val (.long xx), .second, .val (.long yy), .second] [] := by first | (simp [entryFrame, mkF, argsToLocals, Value.category]; done) | rfl
def own_maxJ_Q (Z : State) (xx : Int64) (yy : Int64) (h0 : Heap) (n0 : Nat) (v : Option Value) (h : Heap) (L : List Loc) : Prop := v = some (.long (if xx < yy then yy else xx)) ∧ Fr n0 L ∧ h = h0
set_option maxRecDepth 65536 in
set_option maxHeartbeats 40000000 in
theorem own_maxJ (l : Launch) (Z : State) (a0 : Array Value) (hw : ∀ d ∈ tables_1, d.before a0 Z = true) (ws : List Jvm.Cond) (xx : Int64) (yy : Int64) (h0 : Heap) (n0 : Nat) (Z0 : n0 ≤ h0.size) :
  MetFree l (⟨"java/lang/Math", "max", "(JJ)J"⟩ : MethodName) (head1 (Jvm.Cond.code (⟨"java/lang/Math", "max", "(JJ)J"⟩ : MethodName) jdk_29_method_66_code 4 (some .long) :: ws) ({ frames := 0, cells := 0, slots := 0, locals := 0 } : Room)) (fun ars U => ars = #[(.long xx), (.long yy)] ∧ Z.Warmed39 U.vm ∧ U.heap = h0) (fun _ _ _ _ _ => True) (fun _ U o U' => ∃ v L, o = .returned v ∧ own_maxJ_Q Z xx yy  h0 n0 v U'.heap L ∧ FrameEnd U o U' L ({ frames := 0, cells := 0, slots := 0, locals := 0 } : Room).cells ({ frames := 0, cells := 0, slots := 0, locals := 0 } : Room).slots) := by
 refine MetFree.of_bodySF (Jvm.Free.JP.mathPlain rfl (by decide +kernel)) hisR ?_
 intro p e s m args below meth c s₁ Bd hml0 hP hK
 obtain ⟨rfl, hZ, hh⟩ := hP
 have hx := Bd.exec
 have hby := Bd.bytes
 have hml : c.maxLocals = 4 := hml0
 have hown : s.vm.findClass "java/lang/Math" = some m.cls := findClass_of_methodNamed Bd.named
 have hnm := (name_of_methodNamed Bd.named Bd.method).1
 have X0 : Stand p l e ({ frames := 0, cells := 0, slots := 0, locals := 0 } : Room) s m #[(.long xx), (.long yy)] below meth c s₁ [] 0 0 := Stand.of_body Bd
 have e0 : s₁.heap = h0 := by rw [← hh, Bd.state]; rfl
 have N0 := Fr.nil n0
 generalize hS0 : s₁.setTop (entryFrame m #[(.long xx), (.long yy)] 4) = S0
 have c0 : Steps p.tables e below S0 (s₁.setTop (mkF m 0 #[.val (.long xx), .second, .val (.long yy), .second] [])) := by rw [← hS0]; exact castTop (own_maxJ_ef m xx yy) (Steps.refl _)
 have c1 : Steps p.tables e below S0 (s₁.setTop (mkF m 3 #[.val (.long xx), .second, .val (.long yy), .second] [(.int (lcmpW xx yy))])) := c0.trans (by
  refine XS.lloadN X0.here hx rfl (hb hby own_dc0) rfl ?_
  show Steps _ _ _ (.setTop _ (mkF _ 1 _ _)) _
  refine XS.lloadN X0.here hx rfl (hb hby own_dc1) rfl ?_
  show Steps _ _ _ (.setTop _ (mkF _ 2 _ _)) _
  refine XS.lcmp X0.here hx rfl (hb hby own_dc2) rfl ?_
  exact Steps.refl _)
 by_cases hbb : (lcmpW xx yy) < (0 : Int32)
 ·have c3 : Steps p.tables e below S0 (s₁.setTop (mkF m 11 #[.val (.long xx), .second, .val (.long yy), .second] [(.long yy)])) := c1.trans (by
   refine XS.ifYes X0.here hx rfl (pc0 := 3) (pc' := 10) rfl (hb hby own_dc3) rfl ((if0 _ _).trans (tlt hbb).1) (by decide) (by decide) ?_
   show Steps _ _ _ (.setTop _ (mkF _ 10 _ _)) _
   refine XS.lloadN X0.here hx rfl (hb hby own_dc10) rfl ?_
   exact Steps.refl _)
  obtain ⟨fs, hr, hrun, hended, hW, hsame⟩ := X0.leave (v := some (.long yy)) (fun h => by rw [Bd.returns] at h; cases h)
  exact ⟨_, _, c3.trans (retOut X0 hx (t := .long) (i := .lreturn) Bd.returns rfl (Or.inr (Or.inl ⟨rfl, rfl, _, rfl⟩)) (hb hby own_dc11) hr), hrun, hended, _, _, rfl, ⟨by rw [if_pos ((lw_lt _ _).mp hbb)], N0, e0⟩, ⟨_, rfl⟩, hW, hsame.mono (by decide) (by decide)⟩
 ·have c5 : Steps p.tables e below S0 (s₁.setTop (mkF m 11 #[.val (.long xx), .second, .val (.long yy), .second] [(.long xx)])) := c1.trans (by
   refine XS.ifNo X0.here hx rfl (hb hby own_dc3) rfl ((if0 _ _).trans (flt hbb).1) ?_
   show Steps _ _ _ (.setTop _ (mkF _ 6 _ _)) _
   refine XS.lloadN X0.here hx rfl (hb hby own_dc6) rfl ?_
   show Steps _ _ _ (.setTop _ (mkF _ 7 _ _)) _
   refine XS.goto X0.here hx rfl (pc0 := 7) (pc' := 11) rfl (hb hby own_dc7) (by decide) (by decide) ?_
   exact Steps.refl _)
  obtain ⟨fs, hr, hrun, hended, hW, hsame⟩ := X0.leave (v := some (.long xx)) (fun h => by rw [Bd.returns] at h; cases h)
  exact ⟨_, _, c5.trans (retOut X0 hx (t := .long) (i := .lreturn) Bd.returns rfl (Or.inr (Or.inl ⟨rfl, rfl, _, rfl⟩)) (hb hby own_dc11) hr), hrun, hended, _, _, rfl, ⟨by rw [if_neg (fun q => hbb ((lw_lt _ _).mpr q))], N0, e0⟩, ⟨_, rfl⟩, hW, hsame.mono (by decide) (by decide)⟩
theorem own_dd0 : decode jdk_29_method_70_code 0 = .ok (.lload_n 0, 1) := by decide +kernel
theorem own_dd1 : decode jdk_29_method_70_code 1 = .ok (.lload_n 2, 1) := by decide +kernel
theorem own_dd2 : decode jdk_29_method_70_code 2 = .ok (.lcmp, 1) := by decide +kernel
theorem own_dd3 : decode jdk_29_method_70_code 3 = .ok (.ifCond .gt 7, 3) := by decide +kernel
theorem own_dd6 : decode jdk_29_method_70_code 6 = .ok (.lload_n 0, 1) := by decide +kernel
theorem own_dd7 : decode jdk_29_method_70_code 7 = .ok (.goto 4, 3) := by decide +kernel
theorem own_dd10 : decode jdk_29_method_70_code 10 = .ok (.lload_n 2, 1) := by decide +kernel
theorem own_dd11 : decode jdk_29_method_70_code 11 = .ok (.lreturn, 1) := by decide +kernel
theorem own_minJ_ef (m : MethodId) (xx : Int64) (yy : Int64) : entryFrame m #[(.long xx), (.long yy)] 4 = mkF m 0 #[.val (.long xx), .second, .val (.long yy), .second] [] := by first | (simp [entryFrame, mkF, argsToLocals, Value.category]; done) | rfl
def own_minJ_Q (Z : State) (xx : Int64) (yy : Int64) (h0 : Heap) (n0 : Nat) (v : Option Value) (h : Heap) (L : List Loc) : Prop := v = some (.long (if yy < xx then yy else xx)) ∧ Fr n0 L ∧ h = h0
set_option maxRecDepth 65536 in
set_option maxHeartbeats 40000000 in
theorem own_minJ (l : Launch) (Z : State) (a0 : Array Value) (hw : ∀ d ∈ tables_1, d.before a0 Z = true) (ws : List Jvm.Cond) (xx : Int64) (yy : Int64) (h0 : Heap) (n0 : Nat) (Z0 : n0 ≤ h0.size) :
  MetFree l (⟨"java/lang/Math", "min", "(JJ)J"⟩ : MethodName) (head1 (Jvm.Cond.code (⟨"java/lang/Math", "min", "(JJ)J"⟩ : MethodName) jdk_29_method_70_code 4 (some .long) :: ws) ({ frames := 0, cells := 0, slots := 0, locals := 0 } : Room)) (fun ars U => ars = #[(.long xx), (.long yy)] ∧ Z.Warmed39 U.vm ∧ U.heap = h0) (fun _ _ _ _ _ => True) (fun _ U o U' => ∃ v L, o = .returned v ∧ own_minJ_Q Z xx yy  h0 n0 v U'.heap L ∧ FrameEnd U o U' L ({ frames := 0, cells := 0, slots := 0, locals := 0 } : Room).cells ({ frames := 0, cells := 0, slots := 0, locals := 0 } : Room).slots) := by
 refine MetFree.of_bodySF (Jvm.Free.JP.mathPlain rfl (by decide +kernel)) hisR ?_
 intro p e s m args below meth c s₁ Bd hml0 hP hK
 obtain ⟨rfl, hZ, hh⟩ := hP
 have hx := Bd.exec
 have hby := Bd.bytes
 have hml : c.maxLocals = 4 := hml0
 have hown : s.vm.findClass "java/lang/Math" = some m.cls := findClass_of_methodNamed Bd.named
 have hnm := (name_of_methodNamed Bd.named Bd.method).1
 have X0 : Stand p l e ({ frames := 0, cells := 0, slots := 0, locals := 0 } : Room) s m #[(.long xx), (.long yy)] below meth c s₁ [] 0 0 := Stand.of_body Bd
 have e0 : s₁.heap = h0 := by rw [← hh, Bd.state]; rfl
 have N0 := Fr.nil n0
 generalize hS0 : s₁.setTop (entryFrame m #[(.long xx), (.long yy)] 4) = S0
 have c0 : Steps p.tables e below S0 (s₁.setTop (mkF m 0 #[.val (.long xx), .second, .val (.long yy), .second] [])) := by rw [← hS0]; exact castTop (own_minJ_ef m xx yy) (Steps.refl _)
 have c1 : Steps p.tables e below S0 (s₁.setTop (mkF m 3 #[.val (.long xx), .second, .val (.long yy), .second] [(.int (lcmpW xx yy))])) := c0.trans (by
  refine XS.lloadN X0.here hx rfl (hb hby own_dd0) rfl ?_
  show Steps _ _ _ (.setTop _ (mkF _ 1 _ _)) _
  refine XS.lloadN X0.here hx rfl (hb hby own_dd1) rfl ?_
  show Steps _ _ _ (.setTop _ (mkF _ 2 _ _)) _
  refine XS.lcmp X0.here hx rfl (hb hby own_dd2) rfl ?_
  exact Steps.refl _)
 by_cases hbb : (0 : Int32) < (lcmpW xx yy)
 ·have c3 : Steps p.tables e below S0 (s₁.setTop (mkF m 11 #[.val (.long xx), .second, .val (.long yy), .second] [(.long yy)])) := c1.trans (by
   refine XS.ifYes X0.here hx rfl (pc0 := 3) (pc' := 10) rfl (hb hby own_dd3) rfl ((if0 _ _).trans (tlt hbb).2.2.1) (by decide) (by decide) ?_
   show Steps _ _ _ (.setTop _ (mkF _ 10 _ _)) _
   refine XS.lloadN X0.here hx rfl (hb hby own_dd10) rfl ?_
   exact Steps.refl _)
  obtain ⟨fs, hr, hrun, hended, hW, hsame⟩ := X0.leave (v := some (.long yy)) (fun h => by rw [Bd.returns] at h; cases h)
  exact ⟨_, _, c3.trans (retOut X0 hx (t := .long) (i := .lreturn) Bd.returns rfl (Or.inr (Or.inl ⟨rfl, rfl, _, rfl⟩)) (hb hby own_dd11) hr), hrun, hended, _, _, rfl, ⟨by rw [if_pos ((lw_gt _ _).mp hbb)], N0, e0⟩, ⟨_, rfl⟩, hW, hsame.mono (by decide) (by decide)⟩
 ·have c5 : Steps p.tables e below S0 (s₁.setTop (mkF m 11 #[.val (.long xx), .second, .val (.long yy), .second] [(.long xx)])) := c1.trans (by
   refine XS.ifNo X0.here hx rfl (hb hby own_dd3) rfl ((if0 _ _).trans (flt hbb).2.2.1) ?_
   show Steps _ _ _ (.setTop _ (mkF _ 6 _ _)) _
   refine XS.lloadN X0.here hx rfl (hb hby own_dd6) rfl ?_
   show Steps _ _ _ (.setTop _ (mkF _ 7 _ _)) _
   refine XS.goto X0.here hx rfl (pc0 := 7) (pc' := 11) rfl (hb hby own_dd7) (by decide) (by decide) ?_
   exact Steps.refl _)
  obtain ⟨fs, hr, hrun, hended, hW, hsame⟩ := X0.leave (v := some (.long xx)) (fun h => by rw [Bd.returns] at h; cases h)
  exact ⟨_, _, c5.trans (retOut X0 hx (t := .long) (i := .lreturn) Bd.returns rfl (Or.inr (Or.inl ⟨rfl, rfl, _, rfl⟩)) (hb hby own_dd11) hr), hrun, hended, _, _, rfl, ⟨by rw [if_neg (fun q => hbb ((lw_gt _ _).mpr q))], N0, e0⟩, ⟨_, rfl⟩, hW, hsame.mono (by decide) (by decide)⟩
theorem own_de0 : decode prog_209_method_11_code 0 = .ok (.iload_n 0, 1) := by decide +kernel
theorem own_de1 : decode prog_209_method_11_code 1 = .ok (.bipush 63, 2) := by decide +kernel
theorem own_de3 : decode prog_209_method_11_code 3 = .ok (.iadd, 1) := by decide +kernel
theorem own_de4 : decode prog_209_method_11_code 4 = .ok (.bipush 6, 2) := by decide +kernel
theorem own_de6 : decode prog_209_method_11_code 6 = .ok (.iushr, 1) := by decide +kernel
theorem own_de7 : decode prog_209_method_11_code 7 = .ok (.ireturn, 1) := by decide +kernel
theorem own_whm_pn : plainName "com/example/coersa/coersa/PlaceSet" = true := by first | (simp [plainName, overriddenIn]; done) | decide +kernel
theorem own_whm_ef (m : MethodId) (xx : Int32) : entryFrame m #[(.int xx)] 1 = mkF m 0 #[.val (.int xx)] [] := by first | (simp [entryFrame, mkF, argsToLocals, Value.category]; done) | rfl
def own_whm_Q (Z : State) (xx : Int32) (h0 : Heap) (n0 : Nat) (v : Option Value) (h : Heap) (L : List Loc) : Prop := v = some (.int (((xx + 63).toUInt32 >>> ((6 : Int32) &&& 31).toUInt32).toInt32)) ∧ Fr n0 L ∧ h = h0
set_option maxRecDepth 65536 in
set_option maxHeartbeats 40000000 in
theorem own_whm (l : Launch) (Z : State) (a0 : Array Value) (hw : ∀ d ∈ tables_1, d.before a0 Z = true) (ws : List Jvm.Cond) (xx : Int32) (h0 : Heap) (n0 : Nat) (Z0 : n0 ≤ h0.size) :
  MetFree l (⟨"com/example/coersa/coersa/PlaceSet", "wordsHolding", "(I)I"⟩ : MethodName) (head1 (Jvm.Cond.code (⟨"com/example/coersa/coersa/PlaceSet", "wordsHolding", "(I)I"⟩ : MethodName) prog_209_method_11_code 1 (some .int) :: ws) ({ frames := 0, cells := 0, slots := 0, locals := 0 } : Room)) (fun ars U => ars = #[(.int xx)] ∧ Z.Warmed39 U.vm ∧ U.heap = h0) (fun _ _ _ _ _ => True) (fun _ U o U' => ∃ v L, o = .returned v ∧ own_whm_Q Z xx  h0 n0 v U'.heap L ∧ FrameEnd U o U' L ({ frames := 0, cells := 0, slots := 0, locals := 0 } : Room).cells ({ frames := 0, cells := 0, slots := 0, locals := 0 } : Room).slots) := by
 refine MetFree.of_bodySF (plainFor_of_name own_whm_pn) hisR ?_
 intro p e s m args below meth c s₁ Bd hml0 hP hK
 obtain ⟨rfl, hZ, hh⟩ := hP
 have hx := Bd.exec
 have hby := Bd.bytes
 have hml : c.maxLocals = 1 := hml0
 have hown : s.vm.findClass "com/example/coersa/coersa/PlaceSet" = some m.cls := findClass_of_methodNamed Bd.named
 have hnm := (name_of_methodNamed Bd.named Bd.method).1
 have X0 : Stand p l e ({ frames := 0, cells := 0, slots := 0, locals := 0 } : Room) s m #[(.int xx)] below meth c s₁ [] 0 0 := Stand.of_body Bd
 have e0 : s₁.heap = h0 := by rw [← hh, Bd.state]; rfl
 have N0 := Fr.nil n0
 generalize hS0 : s₁.setTop (entryFrame m #[(.int xx)] 1) = S0
 have c0 : Steps p.tables e below S0 (s₁.setTop (mkF m 0 #[.val (.int xx)] [])) := by rw [← hS0]; exact castTop (own_whm_ef m xx) (Steps.refl _)
 have c1 : Steps p.tables e below S0 (s₁.setTop (mkF m 7 #[.val (.int xx)] [(.int (((xx + (63 : Int32)).toUInt32 >>> ((6 : Int32) &&& 31).toUInt32).toInt32))])) := c0.trans (by
  refine XS.iloadN X0.here hx rfl (hb hby own_de0) rfl ?_
  show Steps _ _ _ (.setTop _ (mkF _ 1 _ _)) _
  refine XS.bipush X0.here hx rfl (hb hby own_de1) ?_
  show Steps _ _ _ (.setTop _ (mkF _ 3 _ _)) _
  refine XS.iadd X0.here hx rfl (hb hby own_de3) rfl ?_
  show Steps _ _ _ (.setTop _ (mkF _ 4 _ _)) _
  refine XS.bipush X0.here hx rfl (hb hby own_de4) ?_
  show Steps _ _ _ (.setTop _ (mkF _ 6 _ _)) _
  refine XS.iushr X0.here hx rfl (hb hby own_de6) rfl ?_
  exact Steps.refl _)
 obtain ⟨fs, hr, hrun, hended, hW, hsame⟩ := X0.leave (v := some (.int (((xx + (63 : Int32)).toUInt32 >>> ((6 : Int32) &&& 31).toUInt32).toInt32))) (fun h => by rw [Bd.returns] at h; cases h)
 exact ⟨_, _, c1.trans (retOut X0 hx (t := .int) (i := .ireturn) Bd.returns rfl (Or.inl ⟨rfl, Or.inl rfl, _, rfl⟩) (hb hby own_de7) hr), hrun, hended, _, _, rfl, ⟨rfl, N0, e0⟩, ⟨_, rfl⟩, hW, hsame.mono (by decide) (by decide)⟩
theorem own_df0 : decode prog_209_method_10_code 0 = .ok (.iconst 1, 1) := by decide +kernel
theorem own_df1 : decode prog_209_method_10_code 1 = .ok (.iload_n 0, 1) := by decide +kernel
theorem own_df2 : decode prog_209_method_10_code 2 = .ok (.invokestatic 65, 3) := by decide +kernel
theorem own_df5 : decode prog_209_method_10_code 5 = .ok (.invokestatic 80, 3) := by decide +kernel
theorem own_df8 : decode prog_209_method_10_code 8 = .ok (.ireturn, 1) := by decide +kernel
theorem own_wfm_pn : plainName "com/example/coersa/coersa/PlaceSet" = true := by first | (simp [plainName, overriddenIn]; done) | decide +kernel
theorem own_wfm_ef (m : MethodId) (xx : Int32) : entryFrame m #[(.int xx)] 1 = mkF m 0 #[.val (.int xx)] [] := by first | (simp [entryFrame, mkF, argsToLocals, Value.category]; done) | rfl
def own_wfm_Q (Z : State) (xx : Int32) (n : Nat) (h0 : Heap) (n0 : Nat) (v : Option Value) (h : Heap) (L : List Loc) : Prop := v = some (.int (Int32.ofNat (own_wf n))) ∧ Fr n0 L ∧ h = h0
set_option maxRecDepth 65536 in
set_option maxHeartbeats 40000000 in
theorem own_wfm (l : Launch) (Z : State) (a0 : Array Value) (hw : ∀ d ∈ tables_1, d.before a0 Z = true) (ws : List Jvm.Cond) (xx : Int32) (n : Nat) (h0 : Heap) (n0 : Nat) (Z0 : n0 ≤ h0.size) (hn : n < 2 ^ 31) (hp : xx = Int32.ofNat n) :
  MetFree l (⟨"com/example/coersa/coersa/PlaceSet", "wordsFor", "(I)I"⟩ : MethodName) (head1 (Jvm.Cond.code (⟨"com/example/coersa/coersa/PlaceSet", "wordsFor", "(I)I"⟩ : MethodName) prog_209_method_10_code 1 (some .int) :: ws) ({ frames := 1, cells := 0, slots := 0, locals := 14 } : Room)) (fun ars U => ars = #[(.int xx)] ∧ Z.Warmed39 U.vm ∧ U.heap = h0) (fun _ _ _ _ _ => True) (fun _ U o U' => ∃ v L, o = .returned v ∧ own_wfm_Q Z xx n h0 n0 v U'.heap L ∧ FrameEnd U o U' L ({ frames := 1, cells := 0, slots := 0, locals := 14 } : Room).cells ({ frames := 1, cells := 0, slots := 0, locals := 14 } : Room).slots) := by
 refine MetFree.of_bodySF (plainFor_of_name own_wfm_pn) hisR ?_
 intro p e s m args below meth c s₁ Bd hml0 hP hK
 obtain ⟨rfl, hZ, hh⟩ := hP
 have hx := Bd.exec
 have hby := Bd.bytes
 have hml : c.maxLocals = 1 := hml0
 have hown : s.vm.findClass "com/example/coersa/coersa/PlaceSet" = some m.cls := findClass_of_methodNamed Bd.named
 have hnm := (name_of_methodNamed Bd.named Bd.method).1
 have X0 : Stand p l e ({ frames := 1, cells := 0, slots := 0, locals := 14 } : Room) s m #[(.int xx)] below meth c s₁ [] 0 0 := Stand.of_body Bd
 have e0 : s₁.heap = h0 := by rw [← hh, Bd.state]; rfl
 have N0 := Fr.nil n0
 generalize hS0 : s₁.setTop (entryFrame m #[(.int xx)] 1) = S0
 have c0 : Steps p.tables e below S0 (s₁.setTop (mkF m 0 #[.val (.int xx)] [])) := by rw [← hS0]; exact castTop (own_wfm_ef m xx) (Steps.refl _)
 have K0 : Keep h0 h0 [] := Keep.refl _ _
 subst hp
 have c1 : Steps p.tables e below S0 (s₁.setTop (mkF m 2 #[.val (.int (Int32.ofNat n))] [(.int (Int32.ofNat n)), (.int (1 : Int32))])) := c0.trans (by
  refine XS.iconst X0.here hx rfl (hb hby own_df0) ?_
  show Steps _ _ _ (.setTop _ (mkF _ 1 _ _)) _
  refine XS.iloadN X0.here hx rfl (hb hby own_df1) rfl ?_
  exact Steps.refl _)
 obtain ⟨_, _, ⟨T2, L2, k2, n2⟩, -, X2, ⟨Lc2, hQ2, l2, y2, z2⟩, st2⟩ := Jvm.LawKit.callS X0 hx (y := (⟨"com/example/coersa/coersa/PlaceSet", "wordsHolding", "(I)I"⟩ : MethodName)) hown (mvT hZ (hw _ (own_m 37 rfl))) (mvT hZ (hw _ (own_m 38 rfl))) (mvT hZ (hw _ (own_m 9 rfl))) (mvT hZ (hw _ (own_m 39 rfl))) (by decide) (backOf (W := 1) (own_whm l Z a0 hw [] (Int32.ofNat n) h0 n0 Z0) hZ (hw _ (own_m 39 rfl)) (hw _ (own_m 9 rfl)) (Nat.le_of_ble_eq_true rfl) (Nat.le_of_ble_eq_true rfl)) (g := (mkF m 2 #[.val (.int (Int32.ofNat n))] [(.int (Int32.ofNat n)), (.int (1 : Int32))])) rfl (by rw [hml]; rfl) (argsL := [(.int (Int32.ofNat n))]) (rest := [(.int (1 : Int32))]) (lenOf own_pd0 rfl) rfl (by show 2 * 0 + _ ≤ _; exact Nat.le_of_eq rfl) (hb hby own_df2) (fun _ _ => ⟨rfl, e0, (Nat.le_of_ble_eq_true rfl), (Nat.le_of_ble_eq_true rfl)⟩)
 dsimp only [Pt.U, Pt.locs, Pt.cells, Pt.slots] at X2 l2 y2 z2 st2 hQ2
 subst l2 y2 z2
 obtain ⟨rfl, N2q, e1⟩ := hQ2
 have N2 := Fr.app N0 N2q
 have c3 : Steps p.tables e below S0 (T2.setTop (mkF m 5 #[.val (.int (Int32.ofNat n))] [(.int ((((Int32.ofNat n) + 63).toUInt32 >>> ((6 : Int32) &&& 31).toUInt32).toInt32)), (.int (1 : Int32))])) := c1.trans (by
  refine st2 _ ?_
  exact Steps.refl _)
 rw [own_wh hn] at c3
 obtain ⟨_, _, ⟨T4, L4, k4, n4⟩, -, X4, ⟨Lc4, hQ4, l4, y4, z4⟩, st4⟩ := Jvm.LawKit.callS X2 hx (y := (⟨"java/lang/Math", "max", "(II)I"⟩ : MethodName)) hown (mvT hZ (hw _ (own_m 40 rfl))) (mvT hZ (hw _ (own_m 41 rfl))) (mvT hZ (hw _ (own_m 42 rfl))) (mvT hZ (hw _ (own_m 43 rfl))) (by decide) (backOf (W := 0) (own_maxI l Z a0 hw [] 1 (Int32.ofNat ((n + 63) / 64)) h0 n0 Z0) hZ (hw _ (own_m 43 rfl)) (hw _ (own_m 42 rfl)) (Nat.le_of_ble_eq_true rfl) (Nat.le_of_ble_eq_true rfl)) (g := (mkF m 5 #[.val (.int (Int32.ofNat n))] [(.int (Int32.ofNat ((n + 63) / 64))), (.int (1 : Int32))])) rfl (by rw [hml]; rfl) (argsL := [(.int (1 : Int32)), (.int (Int32.ofNat ((n + 63) / 64)))]) (rest := []) (lenOf own_pd1 rfl) rfl (by show 2 * 0 + _ ≤ _; exact Nat.le_of_eq rfl) (hb hby own_df5) (fun _ _ => ⟨rfl, e1, (Nat.le_of_ble_eq_true rfl), (Nat.le_of_ble_eq_true rfl)⟩)
 dsimp only [Pt.U, Pt.locs, Pt.cells, Pt.slots] at X4 l4 y4 z4 st4 hQ4
 subst l4 y4 z4
 obtain ⟨rfl, N4q, e2⟩ := hQ4
 have N4 := Fr.app N2 N4q
 have c5 : Steps p.tables e below S0 (T4.setTop (mkF m 8 #[.val (.int (Int32.ofNat n))] [(.int (if (1 : Int32) < Int32.ofNat ((n + 63) / 64) then Int32.ofNat ((n + 63) / 64) else 1))])) := c3.trans (by
  refine st4 _ ?_
  exact Steps.refl _)
 rw [own_wfv (show (n + 63) / 64 < 2 ^ 31 by omega)] at c5
 obtain ⟨fs, hr, hrun, hended, hW, hsame⟩ := X4.leave (v := some (.int (Int32.ofNat (own_wf n)))) (fun h => by rw [Bd.returns] at h; cases h)
 exact ⟨_, _, c5.trans (retOut X4 hx (t := .int) (i := .ireturn) Bd.returns rfl (Or.inl ⟨rfl, Or.inl rfl, _, rfl⟩) (hb hby own_df8) hr), hrun, hended, _, _, rfl, ⟨rfl, N4, e2⟩, ⟨_, rfl⟩, hW, hsame.mono (by decide) (by decide)⟩
theorem own_dg0 : decode jdk_33_method_48_code 0 = .ok (.iload_n 0, 1) := by decide +kernel
theorem own_dg1 : decode jdk_33_method_48_code 1 = .ok (.iconst (-1), 1) := by decide +kernel
theorem own_dg2 : decode jdk_33_method_48_code 2 = .ok (.ixor, 1) := by decide +kernel
theorem own_dg3 : decode jdk_33_method_48_code 3 = .ok (.iload_n 0, 1) := by decide +kernel
theorem own_dg4 : decode jdk_33_method_48_code 4 = .ok (.iconst 1, 1) := by decide +kernel
theorem own_dg5 : decode jdk_33_method_48_code 5 = .ok (.isub, 1) := by decide +kernel
theorem own_dg6 : decode jdk_33_method_48_code 6 = .ok (.iand, 1) := by decide +kernel
theorem own_dg7 : decode jdk_33_method_48_code 7 = .ok (.istore_n 0, 1) := by decide +kernel
theorem own_dg8 : decode jdk_33_method_48_code 8 = .ok (.iload_n 0, 1) := by decide +kernel
theorem own_dg9 : decode jdk_33_method_48_code 9 = .ok (.ifCond .gt 8, 3) := by decide +kernel
theorem own_dg12 : decode jdk_33_method_48_code 12 = .ok (.iload_n 0, 1) := by decide +kernel
theorem own_dg13 : decode jdk_33_method_48_code 13 = .ok (.bipush 32, 2) := by decide +kernel
theorem own_dg15 : decode jdk_33_method_48_code 15 = .ok (.iand, 1) := by decide +kernel
theorem own_dg16 : decode jdk_33_method_48_code 16 = .ok (.ireturn, 1) := by decide +kernel
theorem own_dg17 : decode jdk_33_method_48_code 17 = .ok (.iconst 1, 1) := by decide +kernel
theorem own_dg18 : decode jdk_33_method_48_code 18 = .ok (.istore_n 1, 1) := by decide +kernel
theorem own_dg19 : decode jdk_33_method_48_code 19 = .ok (.iload_n 0, 1) := by decide +kernel
theorem own_dg20 : decode jdk_33_method_48_code 20 = .ok (.ldc_w 264, 3) := by decide +kernel
theorem own_dg23 : decode jdk_33_method_48_code 23 = .ok (.if_icmp .le 11, 3) := by decide +kernel
theorem own_dg26 : decode jdk_33_method_48_code 26 = .ok (.iinc 1 16, 3) := by decide +kernel
theorem own_dg29 : decode jdk_33_method_48_code 29 = .ok (.iload_n 0, 1) := by decide +kernel
theorem own_dg30 : decode jdk_33_method_48_code 30 = .ok (.bipush 16, 2) := by decide +kernel
theorem own_dg32 : decode jdk_33_method_48_code 32 = .ok (.iushr, 1) := by decide +kernel
theorem own_dg33 : decode jdk_33_method_48_code 33 = .ok (.istore_n 0, 1) := by decide +kernel
theorem own_dg34 : decode jdk_33_method_48_code 34 = .ok (.iload_n 0, 1) := by decide +kernel
theorem own_dg35 : decode jdk_33_method_48_code 35 = .ok (.sipush 256, 3) := by decide +kernel
theorem own_dg38 : decode jdk_33_method_48_code 38 = .ok (.if_icmp .le 11, 3) := by decide +kernel
theorem own_dg41 : decode jdk_33_method_48_code 41 = .ok (.iinc 1 8, 3) := by decide +kernel
theorem own_dg44 : decode jdk_33_method_48_code 44 = .ok (.iload_n 0, 1) := by decide +kernel
theorem own_dg45 : decode jdk_33_method_48_code 45 = .ok (.bipush 8, 2) := by decide +kernel
theorem own_dg47 : decode jdk_33_method_48_code 47 = .ok (.iushr, 1) := by decide +kernel
theorem own_dg48 : decode jdk_33_method_48_code 48 = .ok (.istore_n 0, 1) := by decide +kernel
theorem own_dg49 : decode jdk_33_method_48_code 49 = .ok (.iload_n 0, 1) := by decide +kernel
theorem own_dg50 : decode jdk_33_method_48_code 50 = .ok (.bipush 16, 2) := by decide +kernel
theorem own_dg52 : decode jdk_33_method_48_code 52 = .ok (.if_icmp .le 10, 3) := by decide +kernel
theorem own_dg55 : decode jdk_33_method_48_code 55 = .ok (.iinc 1 4, 3) := by decide +kernel
theorem own_dg58 : decode jdk_33_method_48_code 58 = .ok (.iload_n 0, 1) := by decide +kernel
theorem own_dg59 : decode jdk_33_method_48_code 59 = .ok (.iconst 4, 1) := by decide +kernel
theorem own_dg60 : decode jdk_33_method_48_code 60 = .ok (.iushr, 1) := by decide +kernel
theorem own_dg61 : decode jdk_33_method_48_code 61 = .ok (.istore_n 0, 1) := by decide +kernel
theorem own_dg62 : decode jdk_33_method_48_code 62 = .ok (.iload_n 0, 1) := by decide +kernel
theorem own_dg63 : decode jdk_33_method_48_code 63 = .ok (.iconst 4, 1) := by decide +kernel
theorem own_dg64 : decode jdk_33_method_48_code 64 = .ok (.if_icmp .le 10, 3) := by decide +kernel
theorem own_dg67 : decode jdk_33_method_48_code 67 = .ok (.iinc 1 2, 3) := by decide +kernel
theorem own_dg70 : decode jdk_33_method_48_code 70 = .ok (.iload_n 0, 1) := by decide +kernel
theorem own_dg71 : decode jdk_33_method_48_code 71 = .ok (.iconst 2, 1) := by decide +kernel
theorem own_dg72 : decode jdk_33_method_48_code 72 = .ok (.iushr, 1) := by decide +kernel
theorem own_dg73 : decode jdk_33_method_48_code 73 = .ok (.istore_n 0, 1) := by decide +kernel
theorem own_dg74 : decode jdk_33_method_48_code 74 = .ok (.iload_n 1, 1) := by decide +kernel
theorem own_dg75 : decode jdk_33_method_48_code 75 = .ok (.iload_n 0, 1) := by decide +kernel
theorem own_dg76 : decode jdk_33_method_48_code 76 = .ok (.iconst 1, 1) := by decide +kernel
theorem own_dg77 : decode jdk_33_method_48_code 77 = .ok (.iushr, 1) := by decide +kernel
theorem own_dg78 : decode jdk_33_method_48_code 78 = .ok (.iadd, 1) := by decide +kernel
theorem own_dg79 : decode jdk_33_method_48_code 79 = .ok (.ireturn, 1) := by decide +kernel
theorem own_ntI_pn : plainName "java/lang/Integer" = true := by first | (simp [plainName, overriddenIn]; done) | decide +kernel
theorem own_ntI_ef (m : MethodId) (xx : Int32) : entryFrame m #[(.int xx)] 2 = mkF m 0 #[.val (.int xx), .unset] [] := by first | (simp [entryFrame, mkF, argsToLocals, Value.category]; done) | rfl
def own_ntI_Q (Z : State) (xx : Int32) (h0 : Heap) (n0 : Nat) (v : Option Value) (h : Heap) (L : List Loc) : Prop := v = some (.int (own_nt32 xx)) ∧ Fr n0 L ∧ h = h0
set_option maxRecDepth 65536 in
set_option maxHeartbeats 40000000 in
theorem own_ntI (l : Launch) (Z : State) (a0 : Array Value) (hw : ∀ d ∈ tables_1, d.before a0 Z = true) (ws : List Jvm.Cond) (xx : Int32) (h0 : Heap) (n0 : Nat) (Z0 : n0 ≤ h0.size) :
  MetFree l (⟨"java/lang/Integer", "numberOfTrailingZeros", "(I)I"⟩ : MethodName) (head1 (Jvm.Cond.code (⟨"java/lang/Integer", "numberOfTrailingZeros", "(I)I"⟩ : MethodName) jdk_33_method_48_code 2 (some .int) :: ws) ({ frames := 0, cells := 0, slots := 0, locals := 0 } : Room)) (fun ars U => ars = #[(.int xx)] ∧ Z.Warmed39 U.vm ∧ U.heap = h0) (fun _ _ _ _ _ => True) (fun _ U o U' => ∃ v L, o = .returned v ∧ own_ntI_Q Z xx  h0 n0 v U'.heap L ∧ FrameEnd U o U' L ({ frames := 0, cells := 0, slots := 0, locals := 0 } : Room).cells ({ frames := 0, cells := 0, slots := 0, locals := 0 } : Room).slots) := by
 refine MetFree.of_bodySF (plainFor_of_name own_ntI_pn) hisR ?_
 intro p e s m args below meth c s₁ Bd hml0 hP hK
 obtain ⟨rfl, hZ, hh⟩ := hP
 have hx := Bd.exec
 have hby := Bd.bytes
 have hml : c.maxLocals = 2 := hml0
 have hown : s.vm.findClass "java/lang/Integer" = some m.cls := findClass_of_methodNamed Bd.named
 have hnm := (name_of_methodNamed Bd.named Bd.method).1
 have X0 : Stand p l e ({ frames := 0, cells := 0, slots := 0, locals := 0 } : Room) s m #[(.int xx)] below meth c s₁ [] 0 0 := Stand.of_body Bd
 have e0 : s₁.heap = h0 := by rw [← hh, Bd.state]; rfl
 have N0 := Fr.nil n0
 generalize hS0 : s₁.setTop (entryFrame m #[(.int xx)] 2) = S0
 have c0 : Steps p.tables e below S0 (s₁.setTop (mkF m 0 #[.val (.int xx), .unset] [])) := by rw [← hS0]; exact castTop (own_ntI_ef m xx) (Steps.refl _)
 have c1 : Steps p.tables e below S0 (s₁.setTop (mkF m 7 #[.val (.int xx), .unset] [(.int ((xx ^^^ (-1 : Int32)) &&& (xx - (1 : Int32))))])) := c0.trans (by
  refine XS.iloadN X0.here hx rfl (hb hby own_dg0) rfl ?_
  show Steps _ _ _ (.setTop _ (mkF _ 1 _ _)) _
  refine XS.iconst X0.here hx rfl (hb hby own_dg1) ?_
  show Steps _ _ _ (.setTop _ (mkF _ 2 _ _)) _
  refine XS.ixor X0.here hx rfl (hb hby own_dg2) rfl ?_
  show Steps _ _ _ (.setTop _ (mkF _ 3 _ _)) _
  refine XS.iloadN X0.here hx rfl (hb hby own_dg3) rfl ?_
  show Steps _ _ _ (.setTop _ (mkF _ 4 _ _)) _
  refine XS.iconst X0.here hx rfl (hb hby own_dg4) ?_
  show Steps _ _ _ (.setTop _ (mkF _ 5 _ _)) _
  refine XS.isub X0.here hx rfl (hb hby own_dg5) rfl ?_
  show Steps _ _ _ (.setTop _ (mkF _ 6 _ _)) _
  refine XS.iand X0.here hx rfl (hb hby own_dg6) rfl ?_
  exact Steps.refl _)
 obtain ⟨im, him⟩ : ∃ z : Int32, z = ((xx ^^^ (-1 : Int32)) &&& (xx - (1 : Int32))) := ⟨_, rfl⟩
 rw [← him] at c1
 have c2 : Steps p.tables e below S0 (s₁.setTop (mkF m 9 #[.val (.int im), .unset] [(.int im)])) := c1.trans (by
  refine XS.istoreN X0.here hx rfl (hb hby own_dg7) rfl rfl ?_
  show Steps _ _ _ (.setTop _ (mkF _ 8 _ _)) _
  refine XS.iloadN X0.here hx rfl (hb hby own_dg8) rfl ?_
  exact Steps.refl _)
 by_cases hb9 : (0 : Int32) < im
 ·have c4 : Steps p.tables e below S0 (s₁.setTop (mkF m 23 #[.val (.int im), .val (.int (1 : Int32))] [(.int (65536 : Int32)), (.int im)])) := c2.trans (by
   refine XS.ifYes X0.here hx rfl (pc0 := 9) (pc' := 17) rfl (hb hby own_dg9) rfl ((if0 _ _).trans (tlt hb9).2.2.1) (by decide) (by decide) ?_
   show Steps _ _ _ (.setTop _ (mkF _ 17 _ _)) _
   refine XS.iconst X0.here hx rfl (hb hby own_dg17) ?_
   show Steps _ _ _ (.setTop _ (mkF _ 18 _ _)) _
   refine XS.istoreN X0.here hx rfl (hb hby own_dg18) rfl rfl ?_
   show Steps _ _ _ (.setTop _ (mkF _ 19 _ _)) _
   refine XS.iloadN X0.here hx rfl (hb hby own_dg19) rfl ?_
   show Steps _ _ _ (.setTop _ (mkF _ 20 _ _)) _
   refine X0.ldcwInt hx hown (mvT hZ (hw _ (own_m 70 rfl))) (g := (mkF m 20 #[.val (.int im), .val (.int (1 : Int32))] [(.int im)])) rfl (hb hby own_dg20) _ ?_
   exact Steps.refl _)
  by_cases hb23 : (65536 : Int32) < im
  ·have c6 : Steps p.tables e below S0 (s₁.setTop (mkF m 38 #[.val (.int ((im.toUInt32 >>> ((16 : Int32) &&& 31).toUInt32).toInt32)), .val (.int ((1 : Int32) + (16 : Int32)))] [(.int (256 : Int32)), (.int ((im.toUInt32 >>> ((16 : Int32) &&& 31).toUInt32).toInt32))])) := c4.trans (by
    refine XS.icmpNo X0.here hx rfl (hb hby own_dg23) rfl (tlt hb23).2.2.2 ?_
    show Steps _ _ _ (.setTop _ (mkF _ 26 _ _)) _
    refine XS.iinc X0.here hx rfl (hb hby own_dg26) rfl rfl ?_
    show Steps _ _ _ (.setTop _ (mkF _ 29 _ _)) _
    refine XS.iloadN X0.here hx rfl (hb hby own_dg29) rfl ?_
    show Steps _ _ _ (.setTop _ (mkF _ 30 _ _)) _
    refine XS.bipush X0.here hx rfl (hb hby own_dg30) ?_
    show Steps _ _ _ (.setTop _ (mkF _ 32 _ _)) _
    refine XS.iushr X0.here hx rfl (hb hby own_dg32) rfl ?_
    show Steps _ _ _ (.setTop _ (mkF _ 33 _ _)) _
    refine XS.istoreN X0.here hx rfl (hb hby own_dg33) rfl rfl ?_
    show Steps _ _ _ (.setTop _ (mkF _ 34 _ _)) _
    refine XS.iloadN X0.here hx rfl (hb hby own_dg34) rfl ?_
    show Steps _ _ _ (.setTop _ (mkF _ 35 _ _)) _
    refine XS.sipush X0.here hx rfl (hb hby own_dg35) ?_
    exact Steps.refl _)
   by_cases hb38 : (256 : Int32) < ((im.toUInt32 >>> ((16 : Int32) &&& 31).toUInt32).toInt32)
   ·have c8 : Steps p.tables e below S0 (s₁.setTop (mkF m 52 #[.val (.int ((((im.toUInt32 >>> ((16 : Int32) &&& 31).toUInt32).toInt32).toUInt32 >>> ((8 : Int32) &&& 31).toUInt32).toInt32)), .val (.int (((1 : Int32) + (16 : Int32)) + (8 : Int32)))] [(.int (16 : Int32)), (.int ((((im.toUInt32 >>> ((16 : Int32) &&& 31).toUInt32).toInt32).toUInt32 >>> ((8 : Int32) &&& 31).toUInt32).toInt32))])) := c6.trans (by
     refine XS.icmpNo X0.here hx rfl (hb hby own_dg38) rfl (tlt hb38).2.2.2 ?_
     show Steps _ _ _ (.setTop _ (mkF _ 41 _ _)) _
     refine XS.iinc X0.here hx rfl (hb hby own_dg41) rfl rfl ?_
     show Steps _ _ _ (.setTop _ (mkF _ 44 _ _)) _
     refine XS.iloadN X0.here hx rfl (hb hby own_dg44) rfl ?_
     show Steps _ _ _ (.setTop _ (mkF _ 45 _ _)) _
     refine XS.bipush X0.here hx rfl (hb hby own_dg45) ?_
     show Steps _ _ _ (.setTop _ (mkF _ 47 _ _)) _
     refine XS.iushr X0.here hx rfl (hb hby own_dg47) rfl ?_
     show Steps _ _ _ (.setTop _ (mkF _ 48 _ _)) _
     refine XS.istoreN X0.here hx rfl (hb hby own_dg48) rfl rfl ?_
     show Steps _ _ _ (.setTop _ (mkF _ 49 _ _)) _
     refine XS.iloadN X0.here hx rfl (hb hby own_dg49) rfl ?_
     show Steps _ _ _ (.setTop _ (mkF _ 50 _ _)) _
     refine XS.bipush X0.here hx rfl (hb hby own_dg50) ?_
     exact Steps.refl _)
    by_cases hb52 : (16 : Int32) < ((((im.toUInt32 >>> ((16 : Int32) &&& 31).toUInt32).toInt32).toUInt32 >>> ((8 : Int32) &&& 31).toUInt32).toInt32)
    ·have c10 : Steps p.tables e below S0 (s₁.setTop (mkF m 64 #[.val (.int ((((((im.toUInt32 >>> ((16 : Int32) &&& 31).toUInt32).toInt32).toUInt32 >>> ((8 : Int32) &&& 31).toUInt32).toInt32).toUInt32 >>> ((4 : Int32) &&& 31).toUInt32).toInt32)), .val (.int ((((1 : Int32) + (16 : Int32)) + (8 : Int32)) + (4 : Int32)))] [(.int (4 : Int32)), (.int ((((((im.toUInt32 >>> ((16 : Int32) &&& 31).toUInt32).toInt32).toUInt32 >>> ((8 : Int32) &&& 31).toUInt32).toInt32).toUInt32 >>> ((4 : Int32) &&& 31).toUInt32).toInt32))])) := c8.trans (by
      refine XS.icmpNo X0.here hx rfl (hb hby own_dg52) rfl (tlt hb52).2.2.2 ?_
      show Steps _ _ _ (.setTop _ (mkF _ 55 _ _)) _
      refine XS.iinc X0.here hx rfl (hb hby own_dg55) rfl rfl ?_
      show Steps _ _ _ (.setTop _ (mkF _ 58 _ _)) _
      refine XS.iloadN X0.here hx rfl (hb hby own_dg58) rfl ?_
      show Steps _ _ _ (.setTop _ (mkF _ 59 _ _)) _
      refine XS.iconst X0.here hx rfl (hb hby own_dg59) ?_
      show Steps _ _ _ (.setTop _ (mkF _ 60 _ _)) _
      refine XS.iushr X0.here hx rfl (hb hby own_dg60) rfl ?_
      show Steps _ _ _ (.setTop _ (mkF _ 61 _ _)) _
      refine XS.istoreN X0.here hx rfl (hb hby own_dg61) rfl rfl ?_
      show Steps _ _ _ (.setTop _ (mkF _ 62 _ _)) _
      refine XS.iloadN X0.here hx rfl (hb hby own_dg62) rfl ?_
      show Steps _ _ _ (.setTop _ (mkF _ 63 _ _)) _
      refine XS.iconst X0.here hx rfl (hb hby own_dg63) ?_
      exact Steps.refl _)
     by_cases hb64 : (4 : Int32) < ((((((im.toUInt32 >>> ((16 : Int32) &&& 31).toUInt32).toInt32).toUInt32 >>> ((8 : Int32) &&& 31).toUInt32).toInt32).toUInt32 >>> ((4 : Int32) &&& 31).toUInt32).toInt32)
     ·have c12 : Steps p.tables e below S0 (s₁.setTop (mkF m 79 #[.val (.int ((((((((im.toUInt32 >>> ((16 : Int32) &&& 31).toUInt32).toInt32).toUInt32 >>> ((8 : Int32) &&& 31).toUInt32).toInt32).toUInt32 >>> ((4 : Int32) &&& 31).toUInt32).toInt32).toUInt32 >>> ((2 : Int32) &&& 31).toUInt32).toInt32)), .val (.int (((((1 : Int32) + (16 : Int32)) + (8 : Int32)) + (4 : Int32)) + (2 : Int32)))] [(.int ((((((1 : Int32) + (16 : Int32)) + (8 : Int32)) + (4 : Int32)) + (2 : Int32)) + ((((((((((im.toUInt32 >>> ((16 : Int32) &&& 31).toUInt32).toInt32).toUInt32 >>> ((8 : Int32) &&& 31).toUInt32).toInt32).toUInt32 >>> ((4 : Int32) &&& 31).toUInt32).toInt32).toUInt32 >>> ((2 : Int32) &&& 31).toUInt32).toInt32).toUInt32 >>> ((1 : Int32) &&& 31).toUInt32).toInt32)))])) := c10.trans (by
       refine XS.icmpNo X0.here hx rfl (hb hby own_dg64) rfl (tlt hb64).2.2.2 ?_
       show Steps _ _ _ (.setTop _ (mkF _ 67 _ _)) _
       refine XS.iinc X0.here hx rfl (hb hby own_dg67) rfl rfl ?_
       show Steps _ _ _ (.setTop _ (mkF _ 70 _ _)) _
       refine XS.iloadN X0.here hx rfl (hb hby own_dg70) rfl ?_
       show Steps _ _ _ (.setTop _ (mkF _ 71 _ _)) _
       refine XS.iconst X0.here hx rfl (hb hby own_dg71) ?_
       show Steps _ _ _ (.setTop _ (mkF _ 72 _ _)) _
       refine XS.iushr X0.here hx rfl (hb hby own_dg72) rfl ?_
       show Steps _ _ _ (.setTop _ (mkF _ 73 _ _)) _
       refine XS.istoreN X0.here hx rfl (hb hby own_dg73) rfl rfl ?_
       show Steps _ _ _ (.setTop _ (mkF _ 74 _ _)) _
       refine XS.iloadN X0.here hx rfl (hb hby own_dg74) rfl ?_
       show Steps _ _ _ (.setTop _ (mkF _ 75 _ _)) _
       refine XS.iloadN X0.here hx rfl (hb hby own_dg75) rfl ?_
       show Steps _ _ _ (.setTop _ (mkF _ 76 _ _)) _
       refine XS.iconst X0.here hx rfl (hb hby own_dg76) ?_
       show Steps _ _ _ (.setTop _ (mkF _ 77 _ _)) _
       refine XS.iushr X0.here hx rfl (hb hby own_dg77) rfl ?_
       show Steps _ _ _ (.setTop _ (mkF _ 78 _ _)) _
       refine XS.iadd X0.here hx rfl (hb hby own_dg78) rfl ?_
       exact Steps.refl _)
      have hv : own_nm im = ((((((1 : Int32) + (16 : Int32)) + (8 : Int32)) + (4 : Int32)) + (2 : Int32)) + ((((((((((im.toUInt32 >>> ((16 : Int32) &&& 31).toUInt32).toInt32).toUInt32 >>> ((8 : Int32) &&& 31).toUInt32).toInt32).toUInt32 >>> ((4 : Int32) &&& 31).toUInt32).toInt32).toUInt32 >>> ((2 : Int32) &&& 31).toUInt32).toInt32).toUInt32 >>> ((1 : Int32) &&& 31).toUInt32).toInt32)) := by unfold own_nm own_n1 own_n2 own_n3 own_n4 own_n5 own_ush; rw [if_pos hb9, if_pos hb23, if_pos hb38, if_pos hb52, if_pos hb64]
      obtain ⟨fs, hr, hrun, hended, hW, hsame⟩ := X0.leave (v := some (.int ((((((1 : Int32) + (16 : Int32)) + (8 : Int32)) + (4 : Int32)) + (2 : Int32)) + ((((((((((im.toUInt32 >>> ((16 : Int32) &&& 31).toUInt32).toInt32).toUInt32 >>> ((8 : Int32) &&& 31).toUInt32).toInt32).toUInt32 >>> ((4 : Int32) &&& 31).toUInt32).toInt32).toUInt32 >>> ((2 : Int32) &&& 31).toUInt32).toInt32).toUInt32 >>> ((1 : Int32) &&& 31).toUInt32).toInt32)))) (fun h => by rw [Bd.returns] at h; cases h)
      exact ⟨_, _, c12.trans (retOut X0 hx (t := .int) (i := .ireturn) Bd.returns rfl (Or.inl ⟨rfl, Or.inl rfl, _, rfl⟩) (hb hby own_dg79) hr), hrun, hended, _, _, rfl, ⟨by unfold own_nt32; rw [← him, hv], N0, e0⟩, ⟨_, rfl⟩, hW, hsame.mono (by decide) (by decide)⟩
     ·have c14 : Steps p.tables e below S0 (s₁.setTop (mkF m 79 #[.val (.int ((((((im.toUInt32 >>> ((16 : Int32) &&& 31).toUInt32).toInt32).toUInt32 >>> ((8 : Int32) &&& 31).toUInt32).toInt32).toUInt32 >>> ((4 : Int32) &&& 31).toUInt32).toInt32)), .val (.int ((((1 : Int32) + (16 : Int32)) + (8 : Int32)) + (4 : Int32)))] [(.int (((((1 : Int32) + (16 : Int32)) + (8 : Int32)) + (4 : Int32)) + ((((((((im.toUInt32 >>> ((16 : Int32) &&& 31).toUInt32).toInt32).toUInt32 >>> ((8 : Int32) &&& 31).toUInt32).toInt32).toUInt32 >>> ((4 : Int32) &&& 31).toUInt32).toInt32).toUInt32 >>> ((1 : Int32) &&& 31).toUInt32).toInt32)))])) := c10.trans (by
       refine XS.icmpYes X0.here hx rfl (pc0 := 64) (pc' := 74) rfl (hb hby own_dg64) rfl (flt hb64).2.2.2 (by decide) (by decide) ?_
       show Steps _ _ _ (.setTop _ (mkF _ 74 _ _)) _
       refine XS.iloadN X0.here hx rfl (hb hby own_dg74) rfl ?_
       show Steps _ _ _ (.setTop _ (mkF _ 75 _ _)) _
       refine XS.iloadN X0.here hx rfl (hb hby own_dg75) rfl ?_
       show Steps _ _ _ (.setTop _ (mkF _ 76 _ _)) _
       refine XS.iconst X0.here hx rfl (hb hby own_dg76) ?_
       show Steps _ _ _ (.setTop _ (mkF _ 77 _ _)) _
       refine XS.iushr X0.here hx rfl (hb hby own_dg77) rfl ?_
       show Steps _ _ _ (.setTop _ (mkF _ 78 _ _)) _
       refine XS.iadd X0.here hx rfl (hb hby own_dg78) rfl ?_
       exact Steps.refl _)
      have hv : own_nm im = (((((1 : Int32) + (16 : Int32)) + (8 : Int32)) + (4 : Int32)) + ((((((((im.toUInt32 >>> ((16 : Int32) &&& 31).toUInt32).toInt32).toUInt32 >>> ((8 : Int32) &&& 31).toUInt32).toInt32).toUInt32 >>> ((4 : Int32) &&& 31).toUInt32).toInt32).toUInt32 >>> ((1 : Int32) &&& 31).toUInt32).toInt32)) := by unfold own_nm own_n1 own_n2 own_n3 own_n4 own_n5 own_ush; rw [if_pos hb9, if_pos hb23, if_pos hb38, if_pos hb52, if_neg hb64]
      obtain ⟨fs, hr, hrun, hended, hW, hsame⟩ := X0.leave (v := some (.int (((((1 : Int32) + (16 : Int32)) + (8 : Int32)) + (4 : Int32)) + ((((((((im.toUInt32 >>> ((16 : Int32) &&& 31).toUInt32).toInt32).toUInt32 >>> ((8 : Int32) &&& 31).toUInt32).toInt32).toUInt32 >>> ((4 : Int32) &&& 31).toUInt32).toInt32).toUInt32 >>> ((1 : Int32) &&& 31).toUInt32).toInt32)))) (fun h => by rw [Bd.returns] at h; cases h)
      exact ⟨_, _, c14.trans (retOut X0 hx (t := .int) (i := .ireturn) Bd.returns rfl (Or.inl ⟨rfl, Or.inl rfl, _, rfl⟩) (hb hby own_dg79) hr), hrun, hended, _, _, rfl, ⟨by unfold own_nt32; rw [← him, hv], N0, e0⟩, ⟨_, rfl⟩, hW, hsame.mono (by decide) (by decide)⟩
    ·have c16 : Steps p.tables e below S0 (s₁.setTop (mkF m 64 #[.val (.int ((((im.toUInt32 >>> ((16 : Int32) &&& 31).toUInt32).toInt32).toUInt32 >>> ((8 : Int32) &&& 31).toUInt32).toInt32)), .val (.int (((1 : Int32) + (16 : Int32)) + (8 : Int32)))] [(.int (4 : Int32)), (.int ((((im.toUInt32 >>> ((16 : Int32) &&& 31).toUInt32).toInt32).toUInt32 >>> ((8 : Int32) &&& 31).toUInt32).toInt32))])) := c8.trans (by
      refine XS.icmpYes X0.here hx rfl (pc0 := 52) (pc' := 62) rfl (hb hby own_dg52) rfl (flt hb52).2.2.2 (by decide) (by decide) ?_
      show Steps _ _ _ (.setTop _ (mkF _ 62 _ _)) _
      refine XS.iloadN X0.here hx rfl (hb hby own_dg62) rfl ?_
      show Steps _ _ _ (.setTop _ (mkF _ 63 _ _)) _
      refine XS.iconst X0.here hx rfl (hb hby own_dg63) ?_
      exact Steps.refl _)
     by_cases hb64 : (4 : Int32) < ((((im.toUInt32 >>> ((16 : Int32) &&& 31).toUInt32).toInt32).toUInt32 >>> ((8 : Int32) &&& 31).toUInt32).toInt32)
     ·have c18 : Steps p.tables e below S0 (s₁.setTop (mkF m 79 #[.val (.int ((((((im.toUInt32 >>> ((16 : Int32) &&& 31).toUInt32).toInt32).toUInt32 >>> ((8 : Int32) &&& 31).toUInt32).toInt32).toUInt32 >>> ((2 : Int32) &&& 31).toUInt32).toInt32)), .val (.int ((((1 : Int32) + (16 : Int32)) + (8 : Int32)) + (2 : Int32)))] [(.int (((((1 : Int32) + (16 : Int32)) + (8 : Int32)) + (2 : Int32)) + ((((((((im.toUInt32 >>> ((16 : Int32) &&& 31).toUInt32).toInt32).toUInt32 >>> ((8 : Int32) &&& 31).toUInt32).toInt32).toUInt32 >>> ((2 : Int32) &&& 31).toUInt32).toInt32).toUInt32 >>> ((1 : Int32) &&& 31).toUInt32).toInt32)))])) := c16.trans (by
       refine XS.icmpNo X0.here hx rfl (hb hby own_dg64) rfl (tlt hb64).2.2.2 ?_
       show Steps _ _ _ (.setTop _ (mkF _ 67 _ _)) _
       refine XS.iinc X0.here hx rfl (hb hby own_dg67) rfl rfl ?_
       show Steps _ _ _ (.setTop _ (mkF _ 70 _ _)) _
       refine XS.iloadN X0.here hx rfl (hb hby own_dg70) rfl ?_
       show Steps _ _ _ (.setTop _ (mkF _ 71 _ _)) _
       refine XS.iconst X0.here hx rfl (hb hby own_dg71) ?_
       show Steps _ _ _ (.setTop _ (mkF _ 72 _ _)) _
       refine XS.iushr X0.here hx rfl (hb hby own_dg72) rfl ?_
       show Steps _ _ _ (.setTop _ (mkF _ 73 _ _)) _
       refine XS.istoreN X0.here hx rfl (hb hby own_dg73) rfl rfl ?_
       show Steps _ _ _ (.setTop _ (mkF _ 74 _ _)) _
       refine XS.iloadN X0.here hx rfl (hb hby own_dg74) rfl ?_
       show Steps _ _ _ (.setTop _ (mkF _ 75 _ _)) _
       refine XS.iloadN X0.here hx rfl (hb hby own_dg75) rfl ?_
       show Steps _ _ _ (.setTop _ (mkF _ 76 _ _)) _
       refine XS.iconst X0.here hx rfl (hb hby own_dg76) ?_
       show Steps _ _ _ (.setTop _ (mkF _ 77 _ _)) _
       refine XS.iushr X0.here hx rfl (hb hby own_dg77) rfl ?_
       show Steps _ _ _ (.setTop _ (mkF _ 78 _ _)) _
       refine XS.iadd X0.here hx rfl (hb hby own_dg78) rfl ?_
       exact Steps.refl _)
      have hv : own_nm im = (((((1 : Int32) + (16 : Int32)) + (8 : Int32)) + (2 : Int32)) + ((((((((im.toUInt32 >>> ((16 : Int32) &&& 31).toUInt32).toInt32).toUInt32 >>> ((8 : Int32) &&& 31).toUInt32).toInt32).toUInt32 >>> ((2 : Int32) &&& 31).toUInt32).toInt32).toUInt32 >>> ((1 : Int32) &&& 31).toUInt32).toInt32)) := by unfold own_nm own_n1 own_n2 own_n3 own_n4 own_n5 own_ush; rw [if_pos hb9, if_pos hb23, if_pos hb38, if_neg hb52, if_pos hb64]
      obtain ⟨fs, hr, hrun, hended, hW, hsame⟩ := X0.leave (v := some (.int (((((1 : Int32) + (16 : Int32)) + (8 : Int32)) + (2 : Int32)) + ((((((((im.toUInt32 >>> ((16 : Int32) &&& 31).toUInt32).toInt32).toUInt32 >>> ((8 : Int32) &&& 31).toUInt32).toInt32).toUInt32 >>> ((2 : Int32) &&& 31).toUInt32).toInt32).toUInt32 >>> ((1 : Int32) &&& 31).toUInt32).toInt32)))) (fun h => by rw [Bd.returns] at h; cases h)
      exact ⟨_, _, c18.trans (retOut X0 hx (t := .int) (i := .ireturn) Bd.returns rfl (Or.inl ⟨rfl, Or.inl rfl, _, rfl⟩) (hb hby own_dg79) hr), hrun, hended, _, _, rfl, ⟨by unfold own_nt32; rw [← him, hv], N0, e0⟩, ⟨_, rfl⟩, hW, hsame.mono (by decide) (by decide)⟩
     ·have c20 : Steps p.tables e below S0 (s₁.setTop (mkF m 79 #[.val (.int ((((im.toUInt32 >>> ((16 : Int32) &&& 31).toUInt32).toInt32).toUInt32 >>> ((8 : Int32) &&& 31).toUInt32).toInt32)), .val (.int (((1 : Int32) + (16 : Int32)) + (8 : Int32)))] [(.int ((((1 : Int32) + (16 : Int32)) + (8 : Int32)) + ((((((im.toUInt32 >>> ((16 : Int32) &&& 31).toUInt32).toInt32).toUInt32 >>> ((8 : Int32) &&& 31).toUInt32).toInt32).toUInt32 >>> ((1 : Int32) &&& 31).toUInt32).toInt32)))])) := c16.trans (by
       refine XS.icmpYes X0.here hx rfl (pc0 := 64) (pc' := 74) rfl (hb hby own_dg64) rfl (flt hb64).2.2.2 (by decide) (by decide) ?_
       show Steps _ _ _ (.setTop _ (mkF _ 74 _ _)) _
       refine XS.iloadN X0.here hx rfl (hb hby own_dg74) rfl ?_
       show Steps _ _ _ (.setTop _ (mkF _ 75 _ _)) _
       refine XS.iloadN X0.here hx rfl (hb hby own_dg75) rfl ?_
       show Steps _ _ _ (.setTop _ (mkF _ 76 _ _)) _
       refine XS.iconst X0.here hx rfl (hb hby own_dg76) ?_
       show Steps _ _ _ (.setTop _ (mkF _ 77 _ _)) _
       refine XS.iushr X0.here hx rfl (hb hby own_dg77) rfl ?_
       show Steps _ _ _ (.setTop _ (mkF _ 78 _ _)) _
       refine XS.iadd X0.here hx rfl (hb hby own_dg78) rfl ?_
       exact Steps.refl _)
      have hv : own_nm im = ((((1 : Int32) + (16 : Int32)) + (8 : Int32)) + ((((((im.toUInt32 >>> ((16 : Int32) &&& 31).toUInt32).toInt32).toUInt32 >>> ((8 : Int32) &&& 31).toUInt32).toInt32).toUInt32 >>> ((1 : Int32) &&& 31).toUInt32).toInt32)) := by unfold own_nm own_n1 own_n2 own_n3 own_n4 own_n5 own_ush; rw [if_pos hb9, if_pos hb23, if_pos hb38, if_neg hb52, if_neg hb64]
      obtain ⟨fs, hr, hrun, hended, hW, hsame⟩ := X0.leave (v := some (.int ((((1 : Int32) + (16 : Int32)) + (8 : Int32)) + ((((((im.toUInt32 >>> ((16 : Int32) &&& 31).toUInt32).toInt32).toUInt32 >>> ((8 : Int32) &&& 31).toUInt32).toInt32).toUInt32 >>> ((1 : Int32) &&& 31).toUInt32).toInt32)))) (fun h => by rw [Bd.returns] at h; cases h)
      exact ⟨_, _, c20.trans (retOut X0 hx (t := .int) (i := .ireturn) Bd.returns rfl (Or.inl ⟨rfl, Or.inl rfl, _, rfl⟩) (hb hby own_dg79) hr), hrun, hended, _, _, rfl, ⟨by unfold own_nt32; rw [← him, hv], N0, e0⟩, ⟨_, rfl⟩, hW, hsame.mono (by decide) (by decide)⟩
   ·have c22 : Steps p.tables e below S0 (s₁.setTop (mkF m 52 #[.val (.int ((im.toUInt32 >>> ((16 : Int32) &&& 31).toUInt32).toInt32)), .val (.int ((1 : Int32) + (16 : Int32)))] [(.int (16 : Int32)), (.int ((im.toUInt32 >>> ((16 : Int32) &&& 31).toUInt32).toInt32))])) := c6.trans (by
     refine XS.icmpYes X0.here hx rfl (pc0 := 38) (pc' := 49) rfl (hb hby own_dg38) rfl (flt hb38).2.2.2 (by decide) (by decide) ?_
     show Steps _ _ _ (.setTop _ (mkF _ 49 _ _)) _
     refine XS.iloadN X0.here hx rfl (hb hby own_dg49) rfl ?_
     show Steps _ _ _ (.setTop _ (mkF _ 50 _ _)) _
     refine XS.bipush X0.here hx rfl (hb hby own_dg50) ?_
     exact Steps.refl _)
    by_cases hb52 : (16 : Int32) < ((im.toUInt32 >>> ((16 : Int32) &&& 31).toUInt32).toInt32)
    ·have c24 : Steps p.tables e below S0 (s₁.setTop (mkF m 64 #[.val (.int ((((im.toUInt32 >>> ((16 : Int32) &&& 31).toUInt32).toInt32).toUInt32 >>> ((4 : Int32) &&& 31).toUInt32).toInt32)), .val (.int (((1 : Int32) + (16 : Int32)) + (4 : Int32)))] [(.int (4 : Int32)), (.int ((((im.toUInt32 >>> ((16 : Int32) &&& 31).toUInt32).toInt32).toUInt32 >>> ((4 : Int32) &&& 31).toUInt32).toInt32))])) := c22.trans (by
      refine XS.icmpNo X0.here hx rfl (hb hby own_dg52) rfl (tlt hb52).2.2.2 ?_
      show Steps _ _ _ (.setTop _ (mkF _ 55 _ _)) _
      refine XS.iinc X0.here hx rfl (hb hby own_dg55) rfl rfl ?_
      show Steps _ _ _ (.setTop _ (mkF _ 58 _ _)) _
      refine XS.iloadN X0.here hx rfl (hb hby own_dg58) rfl ?_
      show Steps _ _ _ (.setTop _ (mkF _ 59 _ _)) _
      refine XS.iconst X0.here hx rfl (hb hby own_dg59) ?_
      show Steps _ _ _ (.setTop _ (mkF _ 60 _ _)) _
      refine XS.iushr X0.here hx rfl (hb hby own_dg60) rfl ?_
      show Steps _ _ _ (.setTop _ (mkF _ 61 _ _)) _
      refine XS.istoreN X0.here hx rfl (hb hby own_dg61) rfl rfl ?_
      show Steps _ _ _ (.setTop _ (mkF _ 62 _ _)) _
      refine XS.iloadN X0.here hx rfl (hb hby own_dg62) rfl ?_
      show Steps _ _ _ (.setTop _ (mkF _ 63 _ _)) _
      refine XS.iconst X0.here hx rfl (hb hby own_dg63) ?_
      exact Steps.refl _)
     by_cases hb64 : (4 : Int32) < ((((im.toUInt32 >>> ((16 : Int32) &&& 31).toUInt32).toInt32).toUInt32 >>> ((4 : Int32) &&& 31).toUInt32).toInt32)
     ·have c26 : Steps p.tables e below S0 (s₁.setTop (mkF m 79 #[.val (.int ((((((im.toUInt32 >>> ((16 : Int32) &&& 31).toUInt32).toInt32).toUInt32 >>> ((4 : Int32) &&& 31).toUInt32).toInt32).toUInt32 >>> ((2 : Int32) &&& 31).toUInt32).toInt32)), .val (.int ((((1 : Int32) + (16 : Int32)) + (4 : Int32)) + (2 : Int32)))] [(.int (((((1 : Int32) + (16 : Int32)) + (4 : Int32)) + (2 : Int32)) + ((((((((im.toUInt32 >>> ((16 : Int32) &&& 31).toUInt32).toInt32).toUInt32 >>> ((4 : Int32) &&& 31).toUInt32).toInt32).toUInt32 >>> ((2 : Int32) &&& 31).toUInt32).toInt32).toUInt32 >>> ((1 : Int32) &&& 31).toUInt32).toInt32)))])) := c24.trans (by
       refine XS.icmpNo X0.here hx rfl (hb hby own_dg64) rfl (tlt hb64).2.2.2 ?_
       show Steps _ _ _ (.setTop _ (mkF _ 67 _ _)) _
       refine XS.iinc X0.here hx rfl (hb hby own_dg67) rfl rfl ?_
       show Steps _ _ _ (.setTop _ (mkF _ 70 _ _)) _
       refine XS.iloadN X0.here hx rfl (hb hby own_dg70) rfl ?_
       show Steps _ _ _ (.setTop _ (mkF _ 71 _ _)) _
       refine XS.iconst X0.here hx rfl (hb hby own_dg71) ?_
       show Steps _ _ _ (.setTop _ (mkF _ 72 _ _)) _
       refine XS.iushr X0.here hx rfl (hb hby own_dg72) rfl ?_
       show Steps _ _ _ (.setTop _ (mkF _ 73 _ _)) _
       refine XS.istoreN X0.here hx rfl (hb hby own_dg73) rfl rfl ?_
       show Steps _ _ _ (.setTop _ (mkF _ 74 _ _)) _
       refine XS.iloadN X0.here hx rfl (hb hby own_dg74) rfl ?_
       show Steps _ _ _ (.setTop _ (mkF _ 75 _ _)) _
       refine XS.iloadN X0.here hx rfl (hb hby own_dg75) rfl ?_
       show Steps _ _ _ (.setTop _ (mkF _ 76 _ _)) _
       refine XS.iconst X0.here hx rfl (hb hby own_dg76) ?_
       show Steps _ _ _ (.setTop _ (mkF _ 77 _ _)) _
       refine XS.iushr X0.here hx rfl (hb hby own_dg77) rfl ?_
       show Steps _ _ _ (.setTop _ (mkF _ 78 _ _)) _
       refine XS.iadd X0.here hx rfl (hb hby own_dg78) rfl ?_
       exact Steps.refl _)
      have hv : own_nm im = (((((1 : Int32) + (16 : Int32)) + (4 : Int32)) + (2 : Int32)) + ((((((((im.toUInt32 >>> ((16 : Int32) &&& 31).toUInt32).toInt32).toUInt32 >>> ((4 : Int32) &&& 31).toUInt32).toInt32).toUInt32 >>> ((2 : Int32) &&& 31).toUInt32).toInt32).toUInt32 >>> ((1 : Int32) &&& 31).toUInt32).toInt32)) := by unfold own_nm own_n1 own_n2 own_n3 own_n4 own_n5 own_ush; rw [if_pos hb9, if_pos hb23, if_neg hb38, if_pos hb52, if_pos hb64]
      obtain ⟨fs, hr, hrun, hended, hW, hsame⟩ := X0.leave (v := some (.int (((((1 : Int32) + (16 : Int32)) + (4 : Int32)) + (2 : Int32)) + ((((((((im.toUInt32 >>> ((16 : Int32) &&& 31).toUInt32).toInt32).toUInt32 >>> ((4 : Int32) &&& 31).toUInt32).toInt32).toUInt32 >>> ((2 : Int32) &&& 31).toUInt32).toInt32).toUInt32 >>> ((1 : Int32) &&& 31).toUInt32).toInt32)))) (fun h => by rw [Bd.returns] at h; cases h)
      exact ⟨_, _, c26.trans (retOut X0 hx (t := .int) (i := .ireturn) Bd.returns rfl (Or.inl ⟨rfl, Or.inl rfl, _, rfl⟩) (hb hby own_dg79) hr), hrun, hended, _, _, rfl, ⟨by unfold own_nt32; rw [← him, hv], N0, e0⟩, ⟨_, rfl⟩, hW, hsame.mono (by decide) (by decide)⟩
     ·have c28 : Steps p.tables e below S0 (s₁.setTop (mkF m 79 #[.val (.int ((((im.toUInt32 >>> ((16 : Int32) &&& 31).toUInt32).toInt32).toUInt32 >>> ((4 : Int32) &&& 31).toUInt32).toInt32)), .val (.int (((1 : Int32) + (16 : Int32)) + (4 : Int32)))] [(.int ((((1 : Int32) + (16 : Int32)) + (4 : Int32)) + ((((((im.toUInt32 >>> ((16 : Int32) &&& 31).toUInt32).toInt32).toUInt32 >>> ((4 : Int32) &&& 31).toUInt32).toInt32).toUInt32 >>> ((1 : Int32) &&& 31).toUInt32).toInt32)))])) := c24.trans (by
       refine XS.icmpYes X0.here hx rfl (pc0 := 64) (pc' := 74) rfl (hb hby own_dg64) rfl (flt hb64).2.2.2 (by decide) (by decide) ?_
       show Steps _ _ _ (.setTop _ (mkF _ 74 _ _)) _
       refine XS.iloadN X0.here hx rfl (hb hby own_dg74) rfl ?_
       show Steps _ _ _ (.setTop _ (mkF _ 75 _ _)) _
       refine XS.iloadN X0.here hx rfl (hb hby own_dg75) rfl ?_
       show Steps _ _ _ (.setTop _ (mkF _ 76 _ _)) _
       refine XS.iconst X0.here hx rfl (hb hby own_dg76) ?_
       show Steps _ _ _ (.setTop _ (mkF _ 77 _ _)) _
       refine XS.iushr X0.here hx rfl (hb hby own_dg77) rfl ?_
       show Steps _ _ _ (.setTop _ (mkF _ 78 _ _)) _
       refine XS.iadd X0.here hx rfl (hb hby own_dg78) rfl ?_
       exact Steps.refl _)
      have hv : own_nm im = ((((1 : Int32) + (16 : Int32)) + (4 : Int32)) + ((((((im.toUInt32 >>> ((16 : Int32) &&& 31).toUInt32).toInt32).toUInt32 >>> ((4 : Int32) &&& 31).toUInt32).toInt32).toUInt32 >>> ((1 : Int32) &&& 31).toUInt32).toInt32)) := by unfold own_nm own_n1 own_n2 own_n3 own_n4 own_n5 own_ush; rw [if_pos hb9, if_pos hb23, if_neg hb38, if_pos hb52, if_neg hb64]
      obtain ⟨fs, hr, hrun, hended, hW, hsame⟩ := X0.leave (v := some (.int ((((1 : Int32) + (16 : Int32)) + (4 : Int32)) + ((((((im.toUInt32 >>> ((16 : Int32) &&& 31).toUInt32).toInt32).toUInt32 >>> ((4 : Int32) &&& 31).toUInt32).toInt32).toUInt32 >>> ((1 : Int32) &&& 31).toUInt32).toInt32)))) (fun h => by rw [Bd.returns] at h; cases h)
      exact ⟨_, _, c28.trans (retOut X0 hx (t := .int) (i := .ireturn) Bd.returns rfl (Or.inl ⟨rfl, Or.inl rfl, _, rfl⟩) (hb hby own_dg79) hr), hrun, hended, _, _, rfl, ⟨by unfold own_nt32; rw [← him, hv], N0, e0⟩, ⟨_, rfl⟩, hW, hsame.mono (by decide) (by decide)⟩
    ·have c30 : Steps p.tables e below S0 (s₁.setTop (mkF m 64 #[.val (.int ((im.toUInt32 >>> ((16 : Int32) &&& 31).toUInt32).toInt32)), .val (.int ((1 : Int32) + (16 : Int32)))] [(.int (4 : Int32)), (.int ((im.toUInt32 >>> ((16 : Int32) &&& 31).toUInt32).toInt32))])) := c22.trans (by
      refine XS.icmpYes X0.here hx rfl (pc0 := 52) (pc' := 62) rfl (hb hby own_dg52) rfl (flt hb52).2.2.2 (by decide) (by decide) ?_
      show Steps _ _ _ (.setTop _ (mkF _ 62 _ _)) _
      refine XS.iloadN X0.here hx rfl (hb hby own_dg62) rfl ?_
      show Steps _ _ _ (.setTop _ (mkF _ 63 _ _)) _
      refine XS.iconst X0.here hx rfl (hb hby own_dg63) ?_
      exact Steps.refl _)
     by_cases hb64 : (4 : Int32) < ((im.toUInt32 >>> ((16 : Int32) &&& 31).toUInt32).toInt32)
     ·have c32 : Steps p.tables e below S0 (s₁.setTop (mkF m 79 #[.val (.int ((((im.toUInt32 >>> ((16 : Int32) &&& 31).toUInt32).toInt32).toUInt32 >>> ((2 : Int32) &&& 31).toUInt32).toInt32)), .val (.int (((1 : Int32) + (16 : Int32)) + (2 : Int32)))] [(.int ((((1 : Int32) + (16 : Int32)) + (2 : Int32)) + ((((((im.toUInt32 >>> ((16 : Int32) &&& 31).toUInt32).toInt32).toUInt32 >>> ((2 : Int32) &&& 31).toUInt32).toInt32).toUInt32 >>> ((1 : Int32) &&& 31).toUInt32).toInt32)))])) := c30.trans (by
       refine XS.icmpNo X0.here hx rfl (hb hby own_dg64) rfl (tlt hb64).2.2.2 ?_
       show Steps _ _ _ (.setTop _ (mkF _ 67 _ _)) _
       refine XS.iinc X0.here hx rfl (hb hby own_dg67) rfl rfl ?_
       show Steps _ _ _ (.setTop _ (mkF _ 70 _ _)) _
       refine XS.iloadN X0.here hx rfl (hb hby own_dg70) rfl ?_
       show Steps _ _ _ (.setTop _ (mkF _ 71 _ _)) _
       refine XS.iconst X0.here hx rfl (hb hby own_dg71) ?_
       show Steps _ _ _ (.setTop _ (mkF _ 72 _ _)) _
       refine XS.iushr X0.here hx rfl (hb hby own_dg72) rfl ?_
       show Steps _ _ _ (.setTop _ (mkF _ 73 _ _)) _
       refine XS.istoreN X0.here hx rfl (hb hby own_dg73) rfl rfl ?_
       show Steps _ _ _ (.setTop _ (mkF _ 74 _ _)) _
       refine XS.iloadN X0.here hx rfl (hb hby own_dg74) rfl ?_
       show Steps _ _ _ (.setTop _ (mkF _ 75 _ _)) _
       refine XS.iloadN X0.here hx rfl (hb hby own_dg75) rfl ?_
       show Steps _ _ _ (.setTop _ (mkF _ 76 _ _)) _
       refine XS.iconst X0.here hx rfl (hb hby own_dg76) ?_
       show Steps _ _ _ (.setTop _ (mkF _ 77 _ _)) _
       refine XS.iushr X0.here hx rfl (hb hby own_dg77) rfl ?_
       show Steps _ _ _ (.setTop _ (mkF _ 78 _ _)) _
       refine XS.iadd X0.here hx rfl (hb hby own_dg78) rfl ?_
       exact Steps.refl _)
      have hv : own_nm im = ((((1 : Int32) + (16 : Int32)) + (2 : Int32)) + ((((((im.toUInt32 >>> ((16 : Int32) &&& 31).toUInt32).toInt32).toUInt32 >>> ((2 : Int32) &&& 31).toUInt32).toInt32).toUInt32 >>> ((1 : Int32) &&& 31).toUInt32).toInt32)) := by unfold own_nm own_n1 own_n2 own_n3 own_n4 own_n5 own_ush; rw [if_pos hb9, if_pos hb23, if_neg hb38, if_neg hb52, if_pos hb64]
      obtain ⟨fs, hr, hrun, hended, hW, hsame⟩ := X0.leave (v := some (.int ((((1 : Int32) + (16 : Int32)) + (2 : Int32)) + ((((((im.toUInt32 >>> ((16 : Int32) &&& 31).toUInt32).toInt32).toUInt32 >>> ((2 : Int32) &&& 31).toUInt32).toInt32).toUInt32 >>> ((1 : Int32) &&& 31).toUInt32).toInt32)))) (fun h => by rw [Bd.returns] at h; cases h)
      exact ⟨_, _, c32.trans (retOut X0 hx (t := .int) (i := .ireturn) Bd.returns rfl (Or.inl ⟨rfl, Or.inl rfl, _, rfl⟩) (hb hby own_dg79) hr), hrun, hended, _, _, rfl, ⟨by unfold own_nt32; rw [← him, hv], N0, e0⟩, ⟨_, rfl⟩, hW, hsame.mono (by decide) (by decide)⟩
     ·have c34 : Steps p.tables e below S0 (s₁.setTop (mkF m 79 #[.val (.int ((im.toUInt32 >>> ((16 : Int32) &&& 31).toUInt32).toInt32)), .val (.int ((1 : Int32) + (16 : Int32)))] [(.int (((1 : Int32) + (16 : Int32)) + ((((im.toUInt32 >>> ((16 : Int32) &&& 31).toUInt32).toInt32).toUInt32 >>> ((1 : Int32) &&& 31).toUInt32).toInt32)))])) := c30.trans (by
       refine XS.icmpYes X0.here hx rfl (pc0 := 64) (pc' := 74) rfl (hb hby own_dg64) rfl (flt hb64).2.2.2 (by decide) (by decide) ?_
       show Steps _ _ _ (.setTop _ (mkF _ 74 _ _)) _
       refine XS.iloadN X0.here hx rfl (hb hby own_dg74) rfl ?_
       show Steps _ _ _ (.setTop _ (mkF _ 75 _ _)) _
       refine XS.iloadN X0.here hx rfl (hb hby own_dg75) rfl ?_
       show Steps _ _ _ (.setTop _ (mkF _ 76 _ _)) _
       refine XS.iconst X0.here hx rfl (hb hby own_dg76) ?_
       show Steps _ _ _ (.setTop _ (mkF _ 77 _ _)) _
       refine XS.iushr X0.here hx rfl (hb hby own_dg77) rfl ?_
       show Steps _ _ _ (.setTop _ (mkF _ 78 _ _)) _
       refine XS.iadd X0.here hx rfl (hb hby own_dg78) rfl ?_
       exact Steps.refl _)
      have hv : own_nm im = (((1 : Int32) + (16 : Int32)) + ((((im.toUInt32 >>> ((16 : Int32) &&& 31).toUInt32).toInt32).toUInt32 >>> ((1 : Int32) &&& 31).toUInt32).toInt32)) := by unfold own_nm own_n1 own_n2 own_n3 own_n4 own_n5 own_ush; rw [if_pos hb9, if_pos hb23, if_neg hb38, if_neg hb52, if_neg hb64]
      obtain ⟨fs, hr, hrun, hended, hW, hsame⟩ := X0.leave (v := some (.int (((1 : Int32) + (16 : Int32)) + ((((im.toUInt32 >>> ((16 : Int32) &&& 31).toUInt32).toInt32).toUInt32 >>> ((1 : Int32) &&& 31).toUInt32).toInt32)))) (fun h => by rw [Bd.returns] at h; cases h)
      exact ⟨_, _, c34.trans (retOut X0 hx (t := .int) (i := .ireturn) Bd.returns rfl (Or.inl ⟨rfl, Or.inl rfl, _, rfl⟩) (hb hby own_dg79) hr), hrun, hended, _, _, rfl, ⟨by unfold own_nt32; rw [← him, hv], N0, e0⟩, ⟨_, rfl⟩, hW, hsame.mono (by decide) (by decide)⟩
  ·have c36 : Steps p.tables e below S0 (s₁.setTop (mkF m 38 #[.val (.int im), .val (.int (1 : Int32))] [(.int (256 : Int32)), (.int im)])) := c4.trans (by
    refine XS.icmpYes X0.here hx rfl (pc0 := 23) (pc' := 34) rfl (hb hby own_dg23) rfl (flt hb23).2.2.2 (by decide) (by decide) ?_
    show Steps _ _ _ (.setTop _ (mkF _ 34 _ _)) _
    refine XS.iloadN X0.here hx rfl (hb hby own_dg34) rfl ?_
    show Steps _ _ _ (.setTop _ (mkF _ 35 _ _)) _
    refine XS.sipush X0.here hx rfl (hb hby own_dg35) ?_
    exact Steps.refl _)
   by_cases hb38 : (256 : Int32) < im
   ·have c38 : Steps p.tables e below S0 (s₁.setTop (mkF m 52 #[.val (.int ((im.toUInt32 >>> ((8 : Int32) &&& 31).toUInt32).toInt32)), .val (.int ((1 : Int32) + (8 : Int32)))] [(.int (16 : Int32)), (.int ((im.toUInt32 >>> ((8 : Int32) &&& 31).toUInt32).toInt32))])) := c36.trans (by
     refine XS.icmpNo X0.here hx rfl (hb hby own_dg38) rfl (tlt hb38).2.2.2 ?_
     show Steps _ _ _ (.setTop _ (mkF _ 41 _ _)) _
     refine XS.iinc X0.here hx rfl (hb hby own_dg41) rfl rfl ?_
     show Steps _ _ _ (.setTop _ (mkF _ 44 _ _)) _
     refine XS.iloadN X0.here hx rfl (hb hby own_dg44) rfl ?_
     show Steps _ _ _ (.setTop _ (mkF _ 45 _ _)) _
     refine XS.bipush X0.here hx rfl (hb hby own_dg45) ?_
     show Steps _ _ _ (.setTop _ (mkF _ 47 _ _)) _
     refine XS.iushr X0.here hx rfl (hb hby own_dg47) rfl ?_
     show Steps _ _ _ (.setTop _ (mkF _ 48 _ _)) _
     refine XS.istoreN X0.here hx rfl (hb hby own_dg48) rfl rfl ?_
     show Steps _ _ _ (.setTop _ (mkF _ 49 _ _)) _
     refine XS.iloadN X0.here hx rfl (hb hby own_dg49) rfl ?_
     show Steps _ _ _ (.setTop _ (mkF _ 50 _ _)) _
     refine XS.bipush X0.here hx rfl (hb hby own_dg50) ?_
     exact Steps.refl _)
    by_cases hb52 : (16 : Int32) < ((im.toUInt32 >>> ((8 : Int32) &&& 31).toUInt32).toInt32)
    ·have c40 : Steps p.tables e below S0 (s₁.setTop (mkF m 64 #[.val (.int ((((im.toUInt32 >>> ((8 : Int32) &&& 31).toUInt32).toInt32).toUInt32 >>> ((4 : Int32) &&& 31).toUInt32).toInt32)), .val (.int (((1 : Int32) + (8 : Int32)) + (4 : Int32)))] [(.int (4 : Int32)), (.int ((((im.toUInt32 >>> ((8 : Int32) &&& 31).toUInt32).toInt32).toUInt32 >>> ((4 : Int32) &&& 31).toUInt32).toInt32))])) := c38.trans (by
      refine XS.icmpNo X0.here hx rfl (hb hby own_dg52) rfl (tlt hb52).2.2.2 ?_
      show Steps _ _ _ (.setTop _ (mkF _ 55 _ _)) _
      refine XS.iinc X0.here hx rfl (hb hby own_dg55) rfl rfl ?_
      show Steps _ _ _ (.setTop _ (mkF _ 58 _ _)) _
      refine XS.iloadN X0.here hx rfl (hb hby own_dg58) rfl ?_
      show Steps _ _ _ (.setTop _ (mkF _ 59 _ _)) _
      refine XS.iconst X0.here hx rfl (hb hby own_dg59) ?_
      show Steps _ _ _ (.setTop _ (mkF _ 60 _ _)) _
      refine XS.iushr X0.here hx rfl (hb hby own_dg60) rfl ?_
      show Steps _ _ _ (.setTop _ (mkF _ 61 _ _)) _
      refine XS.istoreN X0.here hx rfl (hb hby own_dg61) rfl rfl ?_
      show Steps _ _ _ (.setTop _ (mkF _ 62 _ _)) _
      refine XS.iloadN X0.here hx rfl (hb hby own_dg62) rfl ?_
      show Steps _ _ _ (.setTop _ (mkF _ 63 _ _)) _
      refine XS.iconst X0.here hx rfl (hb hby own_dg63) ?_
      exact Steps.refl _)
     by_cases hb64 : (4 : Int32) < ((((im.toUInt32 >>> ((8 : Int32) &&& 31).toUInt32).toInt32).toUInt32 >>> ((4 : Int32) &&& 31).toUInt32).toInt32)
     ·have c42 : Steps p.tables e below S0 (s₁.setTop (mkF m 79 #[.val (.int ((((((im.toUInt32 >>> ((8 : Int32) &&& 31).toUInt32).toInt32).toUInt32 >>> ((4 : Int32) &&& 31).toUInt32).toInt32).toUInt32 >>> ((2 : Int32) &&& 31).toUInt32).toInt32)), .val (.int ((((1 : Int32) + (8 : Int32)) + (4 : Int32)) + (2 : Int32)))] [(.int (((((1 : Int32) + (8 : Int32)) + (4 : Int32)) + (2 : Int32)) + ((((((((im.toUInt32 >>> ((8 : Int32) &&& 31).toUInt32).toInt32).toUInt32 >>> ((4 : Int32) &&& 31).toUInt32).toInt32).toUInt32 >>> ((2 : Int32) &&& 31).toUInt32).toInt32).toUInt32 >>> ((1 : Int32) &&& 31).toUInt32).toInt32)))])) := c40.trans (by
       refine XS.icmpNo X0.here hx rfl (hb hby own_dg64) rfl (tlt hb64).2.2.2 ?_
       show Steps _ _ _ (.setTop _ (mkF _ 67 _ _)) _
       refine XS.iinc X0.here hx rfl (hb hby own_dg67) rfl rfl ?_
       show Steps _ _ _ (.setTop _ (mkF _ 70 _ _)) _
       refine XS.iloadN X0.here hx rfl (hb hby own_dg70) rfl ?_
       show Steps _ _ _ (.setTop _ (mkF _ 71 _ _)) _
       refine XS.iconst X0.here hx rfl (hb hby own_dg71) ?_
       show Steps _ _ _ (.setTop _ (mkF _ 72 _ _)) _
       refine XS.iushr X0.here hx rfl (hb hby own_dg72) rfl ?_
       show Steps _ _ _ (.setTop _ (mkF _ 73 _ _)) _
       refine XS.istoreN X0.here hx rfl (hb hby own_dg73) rfl rfl ?_
       show Steps _ _ _ (.setTop _ (mkF _ 74 _ _)) _
       refine XS.iloadN X0.here hx rfl (hb hby own_dg74) rfl ?_
       show Steps _ _ _ (.setTop _ (mkF _ 75 _ _)) _
       refine XS.iloadN X0.here hx rfl (hb hby own_dg75) rfl ?_
       show Steps _ _ _ (.setTop _ (mkF _ 76 _ _)) _
       refine XS.iconst X0.here hx rfl (hb hby own_dg76) ?_
       show Steps _ _ _ (.setTop _ (mkF _ 77 _ _)) _
       refine XS.iushr X0.here hx rfl (hb hby own_dg77) rfl ?_
       show Steps _ _ _ (.setTop _ (mkF _ 78 _ _)) _
       refine XS.iadd X0.here hx rfl (hb hby own_dg78) rfl ?_
       exact Steps.refl _)
      have hv : own_nm im = (((((1 : Int32) + (8 : Int32)) + (4 : Int32)) + (2 : Int32)) + ((((((((im.toUInt32 >>> ((8 : Int32) &&& 31).toUInt32).toInt32).toUInt32 >>> ((4 : Int32) &&& 31).toUInt32).toInt32).toUInt32 >>> ((2 : Int32) &&& 31).toUInt32).toInt32).toUInt32 >>> ((1 : Int32) &&& 31).toUInt32).toInt32)) := by unfold own_nm own_n1 own_n2 own_n3 own_n4 own_n5 own_ush; rw [if_pos hb9, if_neg hb23, if_pos hb38, if_pos hb52, if_pos hb64]
      obtain ⟨fs, hr, hrun, hended, hW, hsame⟩ := X0.leave (v := some (.int (((((1 : Int32) + (8 : Int32)) + (4 : Int32)) + (2 : Int32)) + ((((((((im.toUInt32 >>> ((8 : Int32) &&& 31).toUInt32).toInt32).toUInt32 >>> ((4 : Int32) &&& 31).toUInt32).toInt32).toUInt32 >>> ((2 : Int32) &&& 31).toUInt32).toInt32).toUInt32 >>> ((1 : Int32) &&& 31).toUInt32).toInt32)))) (fun h => by rw [Bd.returns] at h; cases h)
      exact ⟨_, _, c42.trans (retOut X0 hx (t := .int) (i := .ireturn) Bd.returns rfl (Or.inl ⟨rfl, Or.inl rfl, _, rfl⟩) (hb hby own_dg79) hr), hrun, hended, _, _, rfl, ⟨by unfold own_nt32; rw [← him, hv], N0, e0⟩, ⟨_, rfl⟩, hW, hsame.mono (by decide) (by decide)⟩
     ·have c44 : Steps p.tables e below S0 (s₁.setTop (mkF m 79 #[.val (.int ((((im.toUInt32 >>> ((8 : Int32) &&& 31).toUInt32).toInt32).toUInt32 >>> ((4 : Int32) &&& 31).toUInt32).toInt32)), .val (.int (((1 : Int32) + (8 : Int32)) + (4 : Int32)))] [(.int ((((1 : Int32) + (8 : Int32)) + (4 : Int32)) + ((((((im.toUInt32 >>> ((8 : Int32) &&& 31).toUInt32).toInt32).toUInt32 >>> ((4 : Int32) &&& 31).toUInt32).toInt32).toUInt32 >>> ((1 : Int32) &&& 31).toUInt32).toInt32)))])) := c40.trans (by
       refine XS.icmpYes X0.here hx rfl (pc0 := 64) (pc' := 74) rfl (hb hby own_dg64) rfl (flt hb64).2.2.2 (by decide) (by decide) ?_
       show Steps _ _ _ (.setTop _ (mkF _ 74 _ _)) _
       refine XS.iloadN X0.here hx rfl (hb hby own_dg74) rfl ?_
       show Steps _ _ _ (.setTop _ (mkF _ 75 _ _)) _
       refine XS.iloadN X0.here hx rfl (hb hby own_dg75) rfl ?_
       show Steps _ _ _ (.setTop _ (mkF _ 76 _ _)) _
       refine XS.iconst X0.here hx rfl (hb hby own_dg76) ?_
       show Steps _ _ _ (.setTop _ (mkF _ 77 _ _)) _
       refine XS.iushr X0.here hx rfl (hb hby own_dg77) rfl ?_
       show Steps _ _ _ (.setTop _ (mkF _ 78 _ _)) _
       refine XS.iadd X0.here hx rfl (hb hby own_dg78) rfl ?_
       exact Steps.refl _)
      have hv : own_nm im = ((((1 : Int32) + (8 : Int32)) + (4 : Int32)) + ((((((im.toUInt32 >>> ((8 : Int32) &&& 31).toUInt32).toInt32).toUInt32 >>> ((4 : Int32) &&& 31).toUInt32).toInt32).toUInt32 >>> ((1 : Int32) &&& 31).toUInt32).toInt32)) := by unfold own_nm own_n1 own_n2 own_n3 own_n4 own_n5 own_ush; rw [if_pos hb9, if_neg hb23, if_pos hb38, if_pos hb52, if_neg hb64]
      obtain ⟨fs, hr, hrun, hended, hW, hsame⟩ := X0.leave (v := some (.int ((((1 : Int32) + (8 : Int32)) + (4 : Int32)) + ((((((im.toUInt32 >>> ((8 : Int32) &&& 31).toUInt32).toInt32).toUInt32 >>> ((4 : Int32) &&& 31).toUInt32).toInt32).toUInt32 >>> ((1 : Int32) &&& 31).toUInt32).toInt32)))) (fun h => by rw [Bd.returns] at h; cases h)
      exact ⟨_, _, c44.trans (retOut X0 hx (t := .int) (i := .ireturn) Bd.returns rfl (Or.inl ⟨rfl, Or.inl rfl, _, rfl⟩) (hb hby own_dg79) hr), hrun, hended, _, _, rfl, ⟨by unfold own_nt32; rw [← him, hv], N0, e0⟩, ⟨_, rfl⟩, hW, hsame.mono (by decide) (by decide)⟩
    ·have c46 : Steps p.tables e below S0 (s₁.setTop (mkF m 64 #[.val (.int ((im.toUInt32 >>> ((8 : Int32) &&& 31).toUInt32).toInt32)), .val (.int ((1 : Int32) + (8 : Int32)))] [(.int (4 : Int32)), (.int ((im.toUInt32 >>> ((8 : Int32) &&& 31).toUInt32).toInt32))])) := c38.trans (by
      refine XS.icmpYes X0.here hx rfl (pc0 := 52) (pc' := 62) rfl (hb hby own_dg52) rfl (flt hb52).2.2.2 (by decide) (by decide) ?_
      show Steps _ _ _ (.setTop _ (mkF _ 62 _ _)) _
      refine XS.iloadN X0.here hx rfl (hb hby own_dg62) rfl ?_
      show Steps _ _ _ (.setTop _ (mkF _ 63 _ _)) _
      refine XS.iconst X0.here hx rfl (hb hby own_dg63) ?_
      exact Steps.refl _)
     by_cases hb64 : (4 : Int32) < ((im.toUInt32 >>> ((8 : Int32) &&& 31).toUInt32).toInt32)
     ·have c48 : Steps p.tables e below S0 (s₁.setTop (mkF m 79 #[.val (.int ((((im.toUInt32 >>> ((8 : Int32) &&& 31).toUInt32).toInt32).toUInt32 >>> ((2 : Int32) &&& 31).toUInt32).toInt32)), .val (.int (((1 : Int32) + (8 : Int32)) + (2 : Int32)))] [(.int ((((1 : Int32) + (8 : Int32)) + (2 : Int32)) + ((((((im.toUInt32 >>> ((8 : Int32) &&& 31).toUInt32).toInt32).toUInt32 >>> ((2 : Int32) &&& 31).toUInt32).toInt32).toUInt32 >>> ((1 : Int32) &&& 31).toUInt32).toInt32)))])) := c46.trans (by
       refine XS.icmpNo X0.here hx rfl (hb hby own_dg64) rfl (tlt hb64).2.2.2 ?_
       show Steps _ _ _ (.setTop _ (mkF _ 67 _ _)) _
       refine XS.iinc X0.here hx rfl (hb hby own_dg67) rfl rfl ?_
       show Steps _ _ _ (.setTop _ (mkF _ 70 _ _)) _
       refine XS.iloadN X0.here hx rfl (hb hby own_dg70) rfl ?_
       show Steps _ _ _ (.setTop _ (mkF _ 71 _ _)) _
       refine XS.iconst X0.here hx rfl (hb hby own_dg71) ?_
       show Steps _ _ _ (.setTop _ (mkF _ 72 _ _)) _
       refine XS.iushr X0.here hx rfl (hb hby own_dg72) rfl ?_
       show Steps _ _ _ (.setTop _ (mkF _ 73 _ _)) _
       refine XS.istoreN X0.here hx rfl (hb hby own_dg73) rfl rfl ?_
       show Steps _ _ _ (.setTop _ (mkF _ 74 _ _)) _
       refine XS.iloadN X0.here hx rfl (hb hby own_dg74) rfl ?_
       show Steps _ _ _ (.setTop _ (mkF _ 75 _ _)) _
       refine XS.iloadN X0.here hx rfl (hb hby own_dg75) rfl ?_
       show Steps _ _ _ (.setTop _ (mkF _ 76 _ _)) _
       refine XS.iconst X0.here hx rfl (hb hby own_dg76) ?_
       show Steps _ _ _ (.setTop _ (mkF _ 77 _ _)) _
       refine XS.iushr X0.here hx rfl (hb hby own_dg77) rfl ?_
       show Steps _ _ _ (.setTop _ (mkF _ 78 _ _)) _
       refine XS.iadd X0.here hx rfl (hb hby own_dg78) rfl ?_
       exact Steps.refl _)
      have hv : own_nm im = ((((1 : Int32) + (8 : Int32)) + (2 : Int32)) + ((((((im.toUInt32 >>> ((8 : Int32) &&& 31).toUInt32).toInt32).toUInt32 >>> ((2 : Int32) &&& 31).toUInt32).toInt32).toUInt32 >>> ((1 : Int32) &&& 31).toUInt32).toInt32)) := by unfold own_nm own_n1 own_n2 own_n3 own_n4 own_n5 own_ush; rw [if_pos hb9, if_neg hb23, if_pos hb38, if_neg hb52, if_pos hb64]
      obtain ⟨fs, hr, hrun, hended, hW, hsame⟩ := X0.leave (v := some (.int ((((1 : Int32) + (8 : Int32)) + (2 : Int32)) + ((((((im.toUInt32 >>> ((8 : Int32) &&& 31).toUInt32).toInt32).toUInt32 >>> ((2 : Int32) &&& 31).toUInt32).toInt32).toUInt32 >>> ((1 : Int32) &&& 31).toUInt32).toInt32)))) (fun h => by rw [Bd.returns] at h; cases h)
      exact ⟨_, _, c48.trans (retOut X0 hx (t := .int) (i := .ireturn) Bd.returns rfl (Or.inl ⟨rfl, Or.inl rfl, _, rfl⟩) (hb hby own_dg79) hr), hrun, hended, _, _, rfl, ⟨by unfold own_nt32; rw [← him, hv], N0, e0⟩, ⟨_, rfl⟩, hW, hsame.mono (by decide) (by decide)⟩
     ·have c50 : Steps p.tables e below S0 (s₁.setTop (mkF m 79 #[.val (.int ((im.toUInt32 >>> ((8 : Int32) &&& 31).toUInt32).toInt32)), .val (.int ((1 : Int32) + (8 : Int32)))] [(.int (((1 : Int32) + (8 : Int32)) + ((((im.toUInt32 >>> ((8 : Int32) &&& 31).toUInt32).toInt32).toUInt32 >>> ((1 : Int32) &&& 31).toUInt32).toInt32)))])) := c46.trans (by
       refine XS.icmpYes X0.here hx rfl (pc0 := 64) (pc' := 74) rfl (hb hby own_dg64) rfl (flt hb64).2.2.2 (by decide) (by decide) ?_
       show Steps _ _ _ (.setTop _ (mkF _ 74 _ _)) _
       refine XS.iloadN X0.here hx rfl (hb hby own_dg74) rfl ?_
       show Steps _ _ _ (.setTop _ (mkF _ 75 _ _)) _
       refine XS.iloadN X0.here hx rfl (hb hby own_dg75) rfl ?_
       show Steps _ _ _ (.setTop _ (mkF _ 76 _ _)) _
       refine XS.iconst X0.here hx rfl (hb hby own_dg76) ?_
       show Steps _ _ _ (.setTop _ (mkF _ 77 _ _)) _
       refine XS.iushr X0.here hx rfl (hb hby own_dg77) rfl ?_
       show Steps _ _ _ (.setTop _ (mkF _ 78 _ _)) _
       refine XS.iadd X0.here hx rfl (hb hby own_dg78) rfl ?_
       exact Steps.refl _)
      have hv : own_nm im = (((1 : Int32) + (8 : Int32)) + ((((im.toUInt32 >>> ((8 : Int32) &&& 31).toUInt32).toInt32).toUInt32 >>> ((1 : Int32) &&& 31).toUInt32).toInt32)) := by unfold own_nm own_n1 own_n2 own_n3 own_n4 own_n5 own_ush; rw [if_pos hb9, if_neg hb23, if_pos hb38, if_neg hb52, if_neg hb64]
      obtain ⟨fs, hr, hrun, hended, hW, hsame⟩ := X0.leave (v := some (.int (((1 : Int32) + (8 : Int32)) + ((((im.toUInt32 >>> ((8 : Int32) &&& 31).toUInt32).toInt32).toUInt32 >>> ((1 : Int32) &&& 31).toUInt32).toInt32)))) (fun h => by rw [Bd.returns] at h; cases h)
      exact ⟨_, _, c50.trans (retOut X0 hx (t := .int) (i := .ireturn) Bd.returns rfl (Or.inl ⟨rfl, Or.inl rfl, _, rfl⟩) (hb hby own_dg79) hr), hrun, hended, _, _, rfl, ⟨by unfold own_nt32; rw [← him, hv], N0, e0⟩, ⟨_, rfl⟩, hW, hsame.mono (by decide) (by decide)⟩
   ·have c52 : Steps p.tables e below S0 (s₁.setTop (mkF m 52 #[.val (.int im), .val (.int (1 : Int32))] [(.int (16 : Int32)), (.int im)])) := c36.trans (by
     refine XS.icmpYes X0.here hx rfl (pc0 := 38) (pc' := 49) rfl (hb hby own_dg38) rfl (flt hb38).2.2.2 (by decide) (by decide) ?_
     show Steps _ _ _ (.setTop _ (mkF _ 49 _ _)) _
     refine XS.iloadN X0.here hx rfl (hb hby own_dg49) rfl ?_
     show Steps _ _ _ (.setTop _ (mkF _ 50 _ _)) _
     refine XS.bipush X0.here hx rfl (hb hby own_dg50) ?_
     exact Steps.refl _)
    by_cases hb52 : (16 : Int32) < im
    ·have c54 : Steps p.tables e below S0 (s₁.setTop (mkF m 64 #[.val (.int ((im.toUInt32 >>> ((4 : Int32) &&& 31).toUInt32).toInt32)), .val (.int ((1 : Int32) + (4 : Int32)))] [(.int (4 : Int32)), (.int ((im.toUInt32 >>> ((4 : Int32) &&& 31).toUInt32).toInt32))])) := c52.trans (by
      refine XS.icmpNo X0.here hx rfl (hb hby own_dg52) rfl (tlt hb52).2.2.2 ?_
      show Steps _ _ _ (.setTop _ (mkF _ 55 _ _)) _
      refine XS.iinc X0.here hx rfl (hb hby own_dg55) rfl rfl ?_
      show Steps _ _ _ (.setTop _ (mkF _ 58 _ _)) _
      refine XS.iloadN X0.here hx rfl (hb hby own_dg58) rfl ?_
      show Steps _ _ _ (.setTop _ (mkF _ 59 _ _)) _
      refine XS.iconst X0.here hx rfl (hb hby own_dg59) ?_
      show Steps _ _ _ (.setTop _ (mkF _ 60 _ _)) _
      refine XS.iushr X0.here hx rfl (hb hby own_dg60) rfl ?_
      show Steps _ _ _ (.setTop _ (mkF _ 61 _ _)) _
      refine XS.istoreN X0.here hx rfl (hb hby own_dg61) rfl rfl ?_
      show Steps _ _ _ (.setTop _ (mkF _ 62 _ _)) _
      refine XS.iloadN X0.here hx rfl (hb hby own_dg62) rfl ?_
      show Steps _ _ _ (.setTop _ (mkF _ 63 _ _)) _
      refine XS.iconst X0.here hx rfl (hb hby own_dg63) ?_
      exact Steps.refl _)
     by_cases hb64 : (4 : Int32) < ((im.toUInt32 >>> ((4 : Int32) &&& 31).toUInt32).toInt32)
     ·have c56 : Steps p.tables e below S0 (s₁.setTop (mkF m 79 #[.val (.int ((((im.toUInt32 >>> ((4 : Int32) &&& 31).toUInt32).toInt32).toUInt32 >>> ((2 : Int32) &&& 31).toUInt32).toInt32)), .val (.int (((1 : Int32) + (4 : Int32)) + (2 : Int32)))] [(.int ((((1 : Int32) + (4 : Int32)) + (2 : Int32)) + ((((((im.toUInt32 >>> ((4 : Int32) &&& 31).toUInt32).toInt32).toUInt32 >>> ((2 : Int32) &&& 31).toUInt32).toInt32).toUInt32 >>> ((1 : Int32) &&& 31).toUInt32).toInt32)))])) := c54.trans (by
       refine XS.icmpNo X0.here hx rfl (hb hby own_dg64) rfl (tlt hb64).2.2.2 ?_
       show Steps _ _ _ (.setTop _ (mkF _ 67 _ _)) _
       refine XS.iinc X0.here hx rfl (hb hby own_dg67) rfl rfl ?_
       show Steps _ _ _ (.setTop _ (mkF _ 70 _ _)) _
       refine XS.iloadN X0.here hx rfl (hb hby own_dg70) rfl ?_
       show Steps _ _ _ (.setTop _ (mkF _ 71 _ _)) _
       refine XS.iconst X0.here hx rfl (hb hby own_dg71) ?_
       show Steps _ _ _ (.setTop _ (mkF _ 72 _ _)) _
       refine XS.iushr X0.here hx rfl (hb hby own_dg72) rfl ?_
       show Steps _ _ _ (.setTop _ (mkF _ 73 _ _)) _
       refine XS.istoreN X0.here hx rfl (hb hby own_dg73) rfl rfl ?_
       show Steps _ _ _ (.setTop _ (mkF _ 74 _ _)) _
       refine XS.iloadN X0.here hx rfl (hb hby own_dg74) rfl ?_
       show Steps _ _ _ (.setTop _ (mkF _ 75 _ _)) _
       refine XS.iloadN X0.here hx rfl (hb hby own_dg75) rfl ?_
       show Steps _ _ _ (.setTop _ (mkF _ 76 _ _)) _
       refine XS.iconst X0.here hx rfl (hb hby own_dg76) ?_
       show Steps _ _ _ (.setTop _ (mkF _ 77 _ _)) _
       refine XS.iushr X0.here hx rfl (hb hby own_dg77) rfl ?_
       show Steps _ _ _ (.setTop _ (mkF _ 78 _ _)) _
       refine XS.iadd X0.here hx rfl (hb hby own_dg78) rfl ?_
       exact Steps.refl _)
      have hv : own_nm im = ((((1 : Int32) + (4 : Int32)) + (2 : Int32)) + ((((((im.toUInt32 >>> ((4 : Int32) &&& 31).toUInt32).toInt32).toUInt32 >>> ((2 : Int32) &&& 31).toUInt32).toInt32).toUInt32 >>> ((1 : Int32) &&& 31).toUInt32).toInt32)) := by unfold own_nm own_n1 own_n2 own_n3 own_n4 own_n5 own_ush; rw [if_pos hb9, if_neg hb23, if_neg hb38, if_pos hb52, if_pos hb64]
      obtain ⟨fs, hr, hrun, hended, hW, hsame⟩ := X0.leave (v := some (.int ((((1 : Int32) + (4 : Int32)) + (2 : Int32)) + ((((((im.toUInt32 >>> ((4 : Int32) &&& 31).toUInt32).toInt32).toUInt32 >>> ((2 : Int32) &&& 31).toUInt32).toInt32).toUInt32 >>> ((1 : Int32) &&& 31).toUInt32).toInt32)))) (fun h => by rw [Bd.returns] at h; cases h)
      exact ⟨_, _, c56.trans (retOut X0 hx (t := .int) (i := .ireturn) Bd.returns rfl (Or.inl ⟨rfl, Or.inl rfl, _, rfl⟩) (hb hby own_dg79) hr), hrun, hended, _, _, rfl, ⟨by unfold own_nt32; rw [← him, hv], N0, e0⟩, ⟨_, rfl⟩, hW, hsame.mono (by decide) (by decide)⟩
     ·have c58 : Steps p.tables e below S0 (s₁.setTop (mkF m 79 #[.val (.int ((im.toUInt32 >>> ((4 : Int32) &&& 31).toUInt32).toInt32)), .val (.int ((1 : Int32) + (4 : Int32)))] [(.int (((1 : Int32) + (4 : Int32)) + ((((im.toUInt32 >>> ((4 : Int32) &&& 31).toUInt32).toInt32).toUInt32 >>> ((1 : Int32) &&& 31).toUInt32).toInt32)))])) := c54.trans (by
       refine XS.icmpYes X0.here hx rfl (pc0 := 64) (pc' := 74) rfl (hb hby own_dg64) rfl (flt hb64).2.2.2 (by decide) (by decide) ?_
       show Steps _ _ _ (.setTop _ (mkF _ 74 _ _)) _
       refine XS.iloadN X0.here hx rfl (hb hby own_dg74) rfl ?_
       show Steps _ _ _ (.setTop _ (mkF _ 75 _ _)) _
       refine XS.iloadN X0.here hx rfl (hb hby own_dg75) rfl ?_
       show Steps _ _ _ (.setTop _ (mkF _ 76 _ _)) _
       refine XS.iconst X0.here hx rfl (hb hby own_dg76) ?_
       show Steps _ _ _ (.setTop _ (mkF _ 77 _ _)) _
       refine XS.iushr X0.here hx rfl (hb hby own_dg77) rfl ?_
       show Steps _ _ _ (.setTop _ (mkF _ 78 _ _)) _
       refine XS.iadd X0.here hx rfl (hb hby own_dg78) rfl ?_
       exact Steps.refl _)
      have hv : own_nm im = (((1 : Int32) + (4 : Int32)) + ((((im.toUInt32 >>> ((4 : Int32) &&& 31).toUInt32).toInt32).toUInt32 >>> ((1 : Int32) &&& 31).toUInt32).toInt32)) := by unfold own_nm own_n1 own_n2 own_n3 own_n4 own_n5 own_ush; rw [if_pos hb9, if_neg hb23, if_neg hb38, if_pos hb52, if_neg hb64]
      obtain ⟨fs, hr, hrun, hended, hW, hsame⟩ := X0.leave (v := some (.int (((1 : Int32) + (4 : Int32)) + ((((im.toUInt32 >>> ((4 : Int32) &&& 31).toUInt32).toInt32).toUInt32 >>> ((1 : Int32) &&& 31).toUInt32).toInt32)))) (fun h => by rw [Bd.returns] at h; cases h)
      exact ⟨_, _, c58.trans (retOut X0 hx (t := .int) (i := .ireturn) Bd.returns rfl (Or.inl ⟨rfl, Or.inl rfl, _, rfl⟩) (hb hby own_dg79) hr), hrun, hended, _, _, rfl, ⟨by unfold own_nt32; rw [← him, hv], N0, e0⟩, ⟨_, rfl⟩, hW, hsame.mono (by decide) (by decide)⟩
    ·have c60 : Steps p.tables e below S0 (s₁.setTop (mkF m 64 #[.val (.int im), .val (.int (1 : Int32))] [(.int (4 : Int32)), (.int im)])) := c52.trans (by
      refine XS.icmpYes X0.here hx rfl (pc0 := 52) (pc' := 62) rfl (hb hby own_dg52) rfl (flt hb52).2.2.2 (by decide) (by decide) ?_
      show Steps _ _ _ (.setTop _ (mkF _ 62 _ _)) _
      refine XS.iloadN X0.here hx rfl (hb hby own_dg62) rfl ?_
      show Steps _ _ _ (.setTop _ (mkF _ 63 _ _)) _
      refine XS.iconst X0.here hx rfl (hb hby own_dg63) ?_
      exact Steps.refl _)
     by_cases hb64 : (4 : Int32) < im
     ·have c62 : Steps p.tables e below S0 (s₁.setTop (mkF m 79 #[.val (.int ((im.toUInt32 >>> ((2 : Int32) &&& 31).toUInt32).toInt32)), .val (.int ((1 : Int32) + (2 : Int32)))] [(.int (((1 : Int32) + (2 : Int32)) + ((((im.toUInt32 >>> ((2 : Int32) &&& 31).toUInt32).toInt32).toUInt32 >>> ((1 : Int32) &&& 31).toUInt32).toInt32)))])) := c60.trans (by
       refine XS.icmpNo X0.here hx rfl (hb hby own_dg64) rfl (tlt hb64).2.2.2 ?_
       show Steps _ _ _ (.setTop _ (mkF _ 67 _ _)) _
       refine XS.iinc X0.here hx rfl (hb hby own_dg67) rfl rfl ?_
       show Steps _ _ _ (.setTop _ (mkF _ 70 _ _)) _
       refine XS.iloadN X0.here hx rfl (hb hby own_dg70) rfl ?_
       show Steps _ _ _ (.setTop _ (mkF _ 71 _ _)) _
       refine XS.iconst X0.here hx rfl (hb hby own_dg71) ?_
       show Steps _ _ _ (.setTop _ (mkF _ 72 _ _)) _
       refine XS.iushr X0.here hx rfl (hb hby own_dg72) rfl ?_
       show Steps _ _ _ (.setTop _ (mkF _ 73 _ _)) _
       refine XS.istoreN X0.here hx rfl (hb hby own_dg73) rfl rfl ?_
       show Steps _ _ _ (.setTop _ (mkF _ 74 _ _)) _
       refine XS.iloadN X0.here hx rfl (hb hby own_dg74) rfl ?_
       show Steps _ _ _ (.setTop _ (mkF _ 75 _ _)) _
       refine XS.iloadN X0.here hx rfl (hb hby own_dg75) rfl ?_
       show Steps _ _ _ (.setTop _ (mkF _ 76 _ _)) _
       refine XS.iconst X0.here hx rfl (hb hby own_dg76) ?_
       show Steps _ _ _ (.setTop _ (mkF _ 77 _ _)) _
       refine XS.iushr X0.here hx rfl (hb hby own_dg77) rfl ?_
       show Steps _ _ _ (.setTop _ (mkF _ 78 _ _)) _
       refine XS.iadd X0.here hx rfl (hb hby own_dg78) rfl ?_
       exact Steps.refl _)
      have hv : own_nm im = (((1 : Int32) + (2 : Int32)) + ((((im.toUInt32 >>> ((2 : Int32) &&& 31).toUInt32).toInt32).toUInt32 >>> ((1 : Int32) &&& 31).toUInt32).toInt32)) := by unfold own_nm own_n1 own_n2 own_n3 own_n4 own_n5 own_ush; rw [if_pos hb9, if_neg hb23, if_neg hb38, if_neg hb52, if_pos hb64]
      obtain ⟨fs, hr, hrun, hended, hW, hsame⟩ := X0.leave (v := some (.int (((1 : Int32) + (2 : Int32)) + ((((im.toUInt32 >>> ((2 : Int32) &&& 31).toUInt32).toInt32).toUInt32 >>> ((1 : Int32) &&& 31).toUInt32).toInt32)))) (fun h => by rw [Bd.returns] at h; cases h)
      exact ⟨_, _, c62.trans (retOut X0 hx (t := .int) (i := .ireturn) Bd.returns rfl (Or.inl ⟨rfl, Or.inl rfl, _, rfl⟩) (hb hby own_dg79) hr), hrun, hended, _, _, rfl, ⟨by unfold own_nt32; rw [← him, hv], N0, e0⟩, ⟨_, rfl⟩, hW, hsame.mono (by decide) (by decide)⟩
     ·have c64 : Steps p.tables e below S0 (s₁.setTop (mkF m 79 #[.val (.int im), .val (.int (1 : Int32))] [(.int ((1 : Int32) + ((im.toUInt32 >>> ((1 : Int32) &&& 31).toUInt32).toInt32)))])) := c60.trans (by
       refine XS.icmpYes X0.here hx rfl (pc0 := 64) (pc' := 74) rfl (hb hby own_dg64) rfl (flt hb64).2.2.2 (by decide) (by decide) ?_
       show Steps _ _ _ (.setTop _ (mkF _ 74 _ _)) _
       refine XS.iloadN X0.here hx rfl (hb hby own_dg74) rfl ?_
       show Steps _ _ _ (.setTop _ (mkF _ 75 _ _)) _
       refine XS.iloadN X0.here hx rfl (hb hby own_dg75) rfl ?_
       show Steps _ _ _ (.setTop _ (mkF _ 76 _ _)) _
       refine XS.iconst X0.here hx rfl (hb hby own_dg76) ?_
       show Steps _ _ _ (.setTop _ (mkF _ 77 _ _)) _
       refine XS.iushr X0.here hx rfl (hb hby own_dg77) rfl ?_
       show Steps _ _ _ (.setTop _ (mkF _ 78 _ _)) _
       refine XS.iadd X0.here hx rfl (hb hby own_dg78) rfl ?_
       exact Steps.refl _)
      have hv : own_nm im = ((1 : Int32) + ((im.toUInt32 >>> ((1 : Int32) &&& 31).toUInt32).toInt32)) := by unfold own_nm own_n1 own_n2 own_n3 own_n4 own_n5 own_ush; rw [if_pos hb9, if_neg hb23, if_neg hb38, if_neg hb52, if_neg hb64]
      obtain ⟨fs, hr, hrun, hended, hW, hsame⟩ := X0.leave (v := some (.int ((1 : Int32) + ((im.toUInt32 >>> ((1 : Int32) &&& 31).toUInt32).toInt32)))) (fun h => by rw [Bd.returns] at h; cases h)
      exact ⟨_, _, c64.trans (retOut X0 hx (t := .int) (i := .ireturn) Bd.returns rfl (Or.inl ⟨rfl, Or.inl rfl, _, rfl⟩) (hb hby own_dg79) hr), hrun, hended, _, _, rfl, ⟨by unfold own_nt32; rw [← him, hv], N0, e0⟩, ⟨_, rfl⟩, hW, hsame.mono (by decide) (by decide)⟩
 ·have c66 : Steps p.tables e below S0 (s₁.setTop (mkF m 16 #[.val (.int im), .unset] [(.int (im &&& (32 : Int32)))])) := c2.trans (by
   refine XS.ifNo X0.here hx rfl (hb hby own_dg9) rfl ((if0 _ _).trans (flt hb9).2.2.1) ?_
   show Steps _ _ _ (.setTop _ (mkF _ 12 _ _)) _
   refine XS.iloadN X0.here hx rfl (hb hby own_dg12) rfl ?_
   show Steps _ _ _ (.setTop _ (mkF _ 13 _ _)) _
   refine XS.bipush X0.here hx rfl (hb hby own_dg13) ?_
   show Steps _ _ _ (.setTop _ (mkF _ 15 _ _)) _
   refine XS.iand X0.here hx rfl (hb hby own_dg15) rfl ?_
   exact Steps.refl _)
  have hv : own_nm im = (im &&& (32 : Int32)) := by unfold own_nm; rw [if_neg hb9]
  obtain ⟨fs, hr, hrun, hended, hW, hsame⟩ := X0.leave (v := some (.int (im &&& (32 : Int32)))) (fun h => by rw [Bd.returns] at h; cases h)
  exact ⟨_, _, c66.trans (retOut X0 hx (t := .int) (i := .ireturn) Bd.returns rfl (Or.inl ⟨rfl, Or.inl rfl, _, rfl⟩) (hb hby own_dg16) hr), hrun, hended, _, _, rfl, ⟨by unfold own_nt32; rw [← him, hv], N0, e0⟩, ⟨_, rfl⟩, hW, hsame.mono (by decide) (by decide)⟩
theorem own_dh0 : decode jdk_35_method_49_code 0 = .ok (.lload_n 0, 1) := by decide +kernel
theorem own_dh1 : decode jdk_35_method_49_code 1 = .ok (.l2i, 1) := by decide +kernel
theorem own_dh2 : decode jdk_35_method_49_code 2 = .ok (.istore_n 2, 1) := by decide +kernel
theorem own_dh3 : decode jdk_35_method_49_code 3 = .ok (.iload_n 2, 1) := by decide +kernel
theorem own_dh4 : decode jdk_35_method_49_code 4 = .ok (.ifCond .ne 17, 3) := by decide +kernel
theorem own_dh7 : decode jdk_35_method_49_code 7 = .ok (.bipush 32, 2) := by decide +kernel
theorem own_dh9 : decode jdk_35_method_49_code 9 = .ok (.lload_n 0, 1) := by decide +kernel
theorem own_dh10 : decode jdk_35_method_49_code 10 = .ok (.bipush 32, 2) := by decide +kernel
theorem own_dh12 : decode jdk_35_method_49_code 12 = .ok (.lushr, 1) := by decide +kernel
theorem own_dh13 : decode jdk_35_method_49_code 13 = .ok (.l2i, 1) := by decide +kernel
theorem own_dh14 : decode jdk_35_method_49_code 14 = .ok (.invokestatic 311, 3) := by decide +kernel
theorem own_dh17 : decode jdk_35_method_49_code 17 = .ok (.iadd, 1) := by decide +kernel
theorem own_dh18 : decode jdk_35_method_49_code 18 = .ok (.goto 7, 3) := by decide +kernel
theorem own_dh21 : decode jdk_35_method_49_code 21 = .ok (.iload_n 2, 1) := by decide +kernel
theorem own_dh22 : decode jdk_35_method_49_code 22 = .ok (.invokestatic 311, 3) := by decide +kernel
theorem own_dh25 : decode jdk_35_method_49_code 25 = .ok (.ireturn, 1) := by decide +kernel
theorem own_ntL_pn : plainName "java/lang/Long" = true := by first | (simp [plainName, overriddenIn]; done) | decide +kernel
theorem own_ntL_ef (m : MethodId) (xx : Int64) : entryFrame m #[(.long xx)] 3 = mkF m 0 #[.val (.long xx), .second, .unset] [] := by first | (simp [entryFrame, mkF, argsToLocals, Value.category]; done) | rfl
def own_ntL_Q (Z : State) (xx : Int64) (h0 : Heap) (n0 : Nat) (v : Option Value) (h : Heap) (L : List Loc) : Prop := v = some (.int (own_nt64 xx)) ∧ Fr n0 L ∧ h = h0
set_option maxRecDepth 65536 in
set_option maxHeartbeats 40000000 in
theorem own_ntL (l : Launch) (Z : State) (a0 : Array Value) (hw : ∀ d ∈ tables_1, d.before a0 Z = true) (ws : List Jvm.Cond) (xx : Int64) (h0 : Heap) (n0 : Nat) (Z0 : n0 ≤ h0.size) :
  MetFree l (⟨"java/lang/Long", "numberOfTrailingZeros", "(J)I"⟩ : MethodName) (head1 (Jvm.Cond.code (⟨"java/lang/Long", "numberOfTrailingZeros", "(J)I"⟩ : MethodName) jdk_35_method_49_code 3 (some .int) :: ws) ({ frames := 1, cells := 0, slots := 0, locals := 14 } : Room)) (fun ars U => ars = #[(.long xx)] ∧ Z.Warmed39 U.vm ∧ U.heap = h0) (fun _ _ _ _ _ => True) (fun _ U o U' => ∃ v L, o = .returned v ∧ own_ntL_Q Z xx  h0 n0 v U'.heap L ∧ FrameEnd U o U' L ({ frames := 1, cells := 0, slots := 0, locals := 14 } : Room).cells ({ frames := 1, cells := 0, slots := 0, locals := 14 } : Room).slots) := by
 refine MetFree.of_bodySF (plainFor_of_name own_ntL_pn) hisR ?_
 intro p e s m args below meth c s₁ Bd hml0 hP hK
 obtain ⟨rfl, hZ, hh⟩ := hP
 have hx := Bd.exec
 have hby := Bd.bytes
 have hml : c.maxLocals = 3 := hml0
 have hown : s.vm.findClass "java/lang/Long" = some m.cls := findClass_of_methodNamed Bd.named
 have hnm := (name_of_methodNamed Bd.named Bd.method).1
 have X0 : Stand p l e ({ frames := 1, cells := 0, slots := 0, locals := 14 } : Room) s m #[(.long xx)] below meth c s₁ [] 0 0 := Stand.of_body Bd
 have e0 : s₁.heap = h0 := by rw [← hh, Bd.state]; rfl
 have N0 := Fr.nil n0
 generalize hS0 : s₁.setTop (entryFrame m #[(.long xx)] 3) = S0
 have c0 : Steps p.tables e below S0 (s₁.setTop (mkF m 0 #[.val (.long xx), .second, .unset] [])) := by rw [← hS0]; exact castTop (own_ntL_ef m xx) (Steps.refl _)
 have K0 : Keep h0 h0 [] := Keep.refl _ _
 have c1 : Steps p.tables e below S0 (s₁.setTop (mkF m 4 #[.val (.long xx), .second, .val (.int (xx.toInt32))] [(.int (xx.toInt32))])) := c0.trans (by
  refine XS.lloadN X0.here hx rfl (hb hby own_dh0) rfl ?_
  show Steps _ _ _ (.setTop _ (mkF _ 1 _ _)) _
  refine XS.l2i X0.here hx rfl (hb hby own_dh1) rfl ?_
  show Steps _ _ _ (.setTop _ (mkF _ 2 _ _)) _
  refine XS.istoreN X0.here hx rfl (hb hby own_dh2) rfl rfl ?_
  show Steps _ _ _ (.setTop _ (mkF _ 3 _ _)) _
  refine XS.iloadN X0.here hx rfl (hb hby own_dh3) rfl ?_
  exact Steps.refl _)
 by_cases hbb : (xx.toInt32) = (0 : Int32)
 ·have c3 : Steps p.tables e below S0 (s₁.setTop (mkF m 14 #[.val (.long xx), .second, .val (.int (xx.toInt32))] [(.int (((xx.toUInt64 >>> ((32 : Int32) &&& 0x3f).toInt64.toUInt64).toInt64).toInt32)), (.int (32 : Int32))])) := c1.trans (by
   refine XS.ifNo X0.here hx rfl (hb hby own_dh4) rfl ((if0 _ _).trans (teq hbb).2) ?_
   show Steps _ _ _ (.setTop _ (mkF _ 7 _ _)) _
   refine XS.bipush X0.here hx rfl (hb hby own_dh7) ?_
   show Steps _ _ _ (.setTop _ (mkF _ 9 _ _)) _
   refine XS.lloadN X0.here hx rfl (hb hby own_dh9) rfl ?_
   show Steps _ _ _ (.setTop _ (mkF _ 10 _ _)) _
   refine XS.bipush X0.here hx rfl (hb hby own_dh10) ?_
   show Steps _ _ _ (.setTop _ (mkF _ 12 _ _)) _
   refine XS.lushr X0.here hx rfl (hb hby own_dh12) rfl ?_
   show Steps _ _ _ (.setTop _ (mkF _ 13 _ _)) _
   refine XS.l2i X0.here hx rfl (hb hby own_dh13) rfl ?_
   exact Steps.refl _)
  obtain ⟨_, _, ⟨T4, L4, k4, n4⟩, -, X4, ⟨Lc4, hQ4, l4, y4, z4⟩, st4⟩ := Jvm.LawKit.callS X0 hx (y := (⟨"java/lang/Integer", "numberOfTrailingZeros", "(I)I"⟩ : MethodName)) hown (mvT hZ (hw _ (own_m 66 rfl))) (mvT hZ (hw _ (own_m 67 rfl))) (mvT hZ (hw _ (own_m 68 rfl))) (mvT hZ (hw _ (own_m 69 rfl))) (by decide) (backOf (W := 1) (own_ntI l Z a0 hw [] (((xx.toUInt64 >>> ((32 : Int32) &&& 0x3f).toInt64.toUInt64).toInt64).toInt32) h0 n0 Z0) hZ (hw _ (own_m 69 rfl)) (hw _ (own_m 68 rfl)) (Nat.le_of_ble_eq_true rfl) (Nat.le_of_ble_eq_true rfl)) (g := (mkF m 14 #[.val (.long xx), .second, .val (.int (xx.toInt32))] [(.int (((xx.toUInt64 >>> ((32 : Int32) &&& 0x3f).toInt64.toUInt64).toInt64).toInt32)), (.int (32 : Int32))])) rfl (by rw [hml]; rfl) (argsL := [(.int (((xx.toUInt64 >>> ((32 : Int32) &&& 0x3f).toInt64.toUInt64).toInt64).toInt32))]) (rest := [(.int (32 : Int32))]) (lenOf own_pd0 rfl) rfl (by show 2 * 0 + _ ≤ _; exact Nat.le_of_eq rfl) (hb hby own_dh14) (fun _ _ => ⟨rfl, e0, (Nat.le_of_ble_eq_true rfl), (Nat.le_of_ble_eq_true rfl)⟩)
  dsimp only [Pt.U, Pt.locs, Pt.cells, Pt.slots] at X4 l4 y4 z4 st4 hQ4
  subst l4 y4 z4
  obtain ⟨rfl, N4q, e1⟩ := hQ4
  have N4 := Fr.app N0 N4q
  have c6 : Steps p.tables e below S0 (T4.setTop (mkF m 25 #[.val (.long xx), .second, .val (.int (xx.toInt32))] [(.int ((32 : Int32) + (own_nt32 (((xx.toUInt64 >>> ((32 : Int32) &&& 0x3f).toInt64.toUInt64).toInt64).toInt32))))])) := c3.trans (by
   refine st4 _ ?_
   show Steps _ _ _ (.setTop _ (mkF _ 17 _ _)) _
   refine XS.iadd X4.here hx rfl (hb hby own_dh17) rfl ?_
   show Steps _ _ _ (.setTop _ (mkF _ 18 _ _)) _
   refine XS.goto X4.here hx rfl (pc0 := 18) (pc' := 25) rfl (hb hby own_dh18) (by decide) (by decide) ?_
   exact Steps.refl _)
  obtain ⟨fs, hr, hrun, hended, hW, hsame⟩ := X4.leave (v := some (.int ((32 : Int32) + (own_nt32 (((xx.toUInt64 >>> ((32 : Int32) &&& 0x3f).toInt64.toUInt64).toInt64).toInt32))))) (fun h => by rw [Bd.returns] at h; cases h)
  exact ⟨_, _, c6.trans (retOut X4 hx (t := .int) (i := .ireturn) Bd.returns rfl (Or.inl ⟨rfl, Or.inl rfl, _, rfl⟩) (hb hby own_dh25) hr), hrun, hended, _, _, rfl, ⟨by unfold own_nt64; rw [if_pos hbb], N4, e1⟩, ⟨_, rfl⟩, hW, hsame.mono (by decide) (by decide)⟩
 ·have c8 : Steps p.tables e below S0 (s₁.setTop (mkF m 22 #[.val (.long xx), .second, .val (.int (xx.toInt32))] [(.int (xx.toInt32))])) := c1.trans (by
   refine XS.ifYes X0.here hx rfl (pc0 := 4) (pc' := 21) rfl (hb hby own_dh4) rfl ((if0 _ _).trans (feq hbb).2) (by decide) (by decide) ?_
   show Steps _ _ _ (.setTop _ (mkF _ 21 _ _)) _
   refine XS.iloadN X0.here hx rfl (hb hby own_dh21) rfl ?_
   exact Steps.refl _)
  obtain ⟨_, _, ⟨T9, L9, k9, n9⟩, -, X9, ⟨Lc9, hQ9, l9, y9, z9⟩, st9⟩ := Jvm.LawKit.callS X0 hx (y := (⟨"java/lang/Integer", "numberOfTrailingZeros", "(I)I"⟩ : MethodName)) hown (mvT hZ (hw _ (own_m 66 rfl))) (mvT hZ (hw _ (own_m 67 rfl))) (mvT hZ (hw _ (own_m 68 rfl))) (mvT hZ (hw _ (own_m 69 rfl))) (by decide) (backOf (W := 0) (own_ntI l Z a0 hw [] (xx.toInt32) h0 n0 Z0) hZ (hw _ (own_m 69 rfl)) (hw _ (own_m 68 rfl)) (Nat.le_of_ble_eq_true rfl) (Nat.le_of_ble_eq_true rfl)) (g := (mkF m 22 #[.val (.long xx), .second, .val (.int (xx.toInt32))] [(.int (xx.toInt32))])) rfl (by rw [hml]; rfl) (argsL := [(.int (xx.toInt32))]) (rest := []) (lenOf own_pd0 rfl) rfl (by show 2 * 0 + _ ≤ _; exact Nat.le_of_eq rfl) (hb hby own_dh22) (fun _ _ => ⟨rfl, e0, (Nat.le_of_ble_eq_true rfl), (Nat.le_of_ble_eq_true rfl)⟩)
  dsimp only [Pt.U, Pt.locs, Pt.cells, Pt.slots] at X9 l9 y9 z9 st9 hQ9
  subst l9 y9 z9
  obtain ⟨rfl, N9q, e1⟩ := hQ9
  have N9 := Fr.app N0 N9q
  have c10 : Steps p.tables e below S0 (T9.setTop (mkF m 25 #[.val (.long xx), .second, .val (.int (xx.toInt32))] [(.int (own_nt32 (xx.toInt32)))])) := c8.trans (by
   refine st9 _ ?_
   exact Steps.refl _)
  obtain ⟨fs, hr, hrun, hended, hW, hsame⟩ := X9.leave (v := some (.int (own_nt32 (xx.toInt32)))) (fun h => by rw [Bd.returns] at h; cases h)
  exact ⟨_, _, c10.trans (retOut X9 hx (t := .int) (i := .ireturn) Bd.returns rfl (Or.inl ⟨rfl, Or.inl rfl, _, rfl⟩) (hb hby own_dh25) hr), hrun, hended, _, _, rfl, ⟨by unfold own_nt64; rw [if_neg hbb], N9, e1⟩, ⟨_, rfl⟩, hW, hsame.mono (by decide) (by decide)⟩
theorem own_di0 : decode jdk_35_method_50_code 0 = .ok (.lload_n 0, 1) := by decide +kernel
theorem own_di1 : decode jdk_35_method_50_code 1 = .ok (.lload_n 0, 1) := by decide +kernel
theorem own_di2 : decode jdk_35_method_50_code 2 = .ok (.iconst 1, 1) := by decide +kernel
theorem own_di3 : decode jdk_35_method_50_code 3 = .ok (.lushr, 1) := by decide +kernel
theorem own_di4 : decode jdk_35_method_50_code 4 = .ok (.ldc2_w 314, 3) := by decide +kernel
theorem own_di7 : decode jdk_35_method_50_code 7 = .ok (.land, 1) := by decide +kernel
theorem own_di8 : decode jdk_35_method_50_code 8 = .ok (.lsub, 1) := by decide +kernel
theorem own_di9 : decode jdk_35_method_50_code 9 = .ok (.lstore_n 0, 1) := by decide +kernel
theorem own_di10 : decode jdk_35_method_50_code 10 = .ok (.lload_n 0, 1) := by decide +kernel
theorem own_di11 : decode jdk_35_method_50_code 11 = .ok (.ldc2_w 316, 3) := by decide +kernel
theorem own_di14 : decode jdk_35_method_50_code 14 = .ok (.land, 1) := by decide +kernel
theorem own_di15 : decode jdk_35_method_50_code 15 = .ok (.lload_n 0, 1) := by decide +kernel
theorem own_di16 : decode jdk_35_method_50_code 16 = .ok (.iconst 2, 1) := by decide +kernel
theorem own_di17 : decode jdk_35_method_50_code 17 = .ok (.lushr, 1) := by decide +kernel
theorem own_di18 : decode jdk_35_method_50_code 18 = .ok (.ldc2_w 316, 3) := by decide +kernel
theorem own_di21 : decode jdk_35_method_50_code 21 = .ok (.land, 1) := by decide +kernel
theorem own_di22 : decode jdk_35_method_50_code 22 = .ok (.ladd, 1) := by decide +kernel
theorem own_di23 : decode jdk_35_method_50_code 23 = .ok (.lstore_n 0, 1) := by decide +kernel
theorem own_di24 : decode jdk_35_method_50_code 24 = .ok (.lload_n 0, 1) := by decide +kernel
theorem own_di25 : decode jdk_35_method_50_code 25 = .ok (.lload_n 0, 1) := by decide +kernel
theorem own_di26 : decode jdk_35_method_50_code 26 = .ok (.iconst 4, 1) := by decide +kernel
theorem own_di27 : decode jdk_35_method_50_code 27 = .ok (.lushr, 1) := by decide +kernel
theorem own_di28 : decode jdk_35_method_50_code 28 = .ok (.ladd, 1) := by decide +kernel
theorem own_di29 : decode jdk_35_method_50_code 29 = .ok (.ldc2_w 318, 3) := by decide +kernel
theorem own_di32 : decode jdk_35_method_50_code 32 = .ok (.land, 1) := by decide +kernel
theorem own_di33 : decode jdk_35_method_50_code 33 = .ok (.lstore_n 0, 1) := by decide +kernel
theorem own_di34 : decode jdk_35_method_50_code 34 = .ok (.lload_n 0, 1) := by decide +kernel
theorem own_di35 : decode jdk_35_method_50_code 35 = .ok (.lload_n 0, 1) := by decide +kernel
theorem own_di36 : decode jdk_35_method_50_code 36 = .ok (.bipush 8, 2) := by decide +kernel
theorem own_di38 : decode jdk_35_method_50_code 38 = .ok (.lushr, 1) := by decide +kernel
theorem own_di39 : decode jdk_35_method_50_code 39 = .ok (.ladd, 1) := by decide +kernel
theorem own_di40 : decode jdk_35_method_50_code 40 = .ok (.lstore_n 0, 1) := by decide +kernel
theorem own_di41 : decode jdk_35_method_50_code 41 = .ok (.lload_n 0, 1) := by decide +kernel
theorem own_di42 : decode jdk_35_method_50_code 42 = .ok (.lload_n 0, 1) := by decide +kernel
theorem own_di43 : decode jdk_35_method_50_code 43 = .ok (.bipush 16, 2) := by decide +kernel
theorem own_di45 : decode jdk_35_method_50_code 45 = .ok (.lushr, 1) := by decide +kernel
theorem own_di46 : decode jdk_35_method_50_code 46 = .ok (.ladd, 1) := by decide +kernel
theorem own_di47 : decode jdk_35_method_50_code 47 = .ok (.lstore_n 0, 1) := by decide +kernel
theorem own_di48 : decode jdk_35_method_50_code 48 = .ok (.lload_n 0, 1) := by decide +kernel
theorem own_di49 : decode jdk_35_method_50_code 49 = .ok (.lload_n 0, 1) := by decide +kernel
theorem own_di50 : decode jdk_35_method_50_code 50 = .ok (.bipush 32, 2) := by decide +kernel
theorem own_di52 : decode jdk_35_method_50_code 52 = .ok (.lushr, 1) := by decide +kernel
theorem own_di53 : decode jdk_35_method_50_code 53 = .ok (.ladd, 1) := by decide +kernel
theorem own_di54 : decode jdk_35_method_50_code 54 = .ok (.lstore_n 0, 1) := by decide +kernel
theorem own_di55 : decode jdk_35_method_50_code 55 = .ok (.lload_n 0, 1) := by decide +kernel
theorem own_di56 : decode jdk_35_method_50_code 56 = .ok (.l2i, 1) := by decide +kernel
theorem own_di57 : decode jdk_35_method_50_code 57 = .ok (.bipush 127, 2) := by decide +kernel
theorem own_di59 : decode jdk_35_method_50_code 59 = .ok (.iand, 1) := by decide +kernel
theorem own_di60 : decode jdk_35_method_50_code 60 = .ok (.ireturn, 1) := by decide +kernel
theorem own_bcL_pn : plainName "java/lang/Long" = true := by first | (simp [plainName, overriddenIn]; done) | decide +kernel
theorem own_bcL_ef (m : MethodId) (xx : Int64) : entryFrame m #[(.long xx)] 2 = mkF m 0 #[.val (.long xx), .second] [] := by first | (simp [entryFrame, mkF, argsToLocals, Value.category]; done) | rfl
def own_bcL_Q (Z : State) (xx : Int64) (h0 : Heap) (n0 : Nat) (v : Option Value) (h : Heap) (L : List Loc) : Prop := v = some (.int (own_pc xx)) ∧ Fr n0 L ∧ h = h0
set_option maxRecDepth 65536 in
set_option maxHeartbeats 40000000 in
theorem own_bcL (l : Launch) (Z : State) (a0 : Array Value) (hw : ∀ d ∈ tables_1, d.before a0 Z = true) (ws : List Jvm.Cond) (xx : Int64) (h0 : Heap) (n0 : Nat) (Z0 : n0 ≤ h0.size) :
  MetFree l (⟨"java/lang/Long", "bitCount", "(J)I"⟩ : MethodName) (head1 (Jvm.Cond.code (⟨"java/lang/Long", "bitCount", "(J)I"⟩ : MethodName) jdk_35_method_50_code 2 (some .int) :: ws) ({ frames := 0, cells := 0, slots := 0, locals := 0 } : Room)) (fun ars U => ars = #[(.long xx)] ∧ Z.Warmed39 U.vm ∧ U.heap = h0) (fun _ _ _ _ _ => True) (fun _ U o U' => ∃ v L, o = .returned v ∧ own_bcL_Q Z xx  h0 n0 v U'.heap L ∧ FrameEnd U o U' L ({ frames := 0, cells := 0, slots := 0, locals := 0 } : Room).cells ({ frames := 0, cells := 0, slots := 0, locals := 0 } : Room).slots) := by
 refine MetFree.of_bodySF (plainFor_of_name own_bcL_pn) hisR ?_
 intro p e s m args below meth c s₁ Bd hml0 hP hK
 obtain ⟨rfl, hZ, hh⟩ := hP
 have hx := Bd.exec
 have hby := Bd.bytes
 have hml : c.maxLocals = 2 := hml0
 have hown : s.vm.findClass "java/lang/Long" = some m.cls := findClass_of_methodNamed Bd.named
 have hnm := (name_of_methodNamed Bd.named Bd.method).1
 have X0 : Stand p l e ({ frames := 0, cells := 0, slots := 0, locals := 0 } : Room) s m #[(.long xx)] below meth c s₁ [] 0 0 := Stand.of_body Bd
 have e0 : s₁.heap = h0 := by rw [← hh, Bd.state]; rfl
 have N0 := Fr.nil n0
 generalize hS0 : s₁.setTop (entryFrame m #[(.long xx)] 2) = S0
 have c0 : Steps p.tables e below S0 (s₁.setTop (mkF m 0 #[.val (.long xx), .second] [])) := by rw [← hS0]; exact castTop (own_bcL_ef m xx) (Steps.refl _)
 have c1 : Steps p.tables e below S0 (s₁.setTop (mkF m 9 #[.val (.long xx), .second] [(.long (xx - (((xx.toUInt64 >>> ((1 : Int32) &&& 0x3f).toInt64.toUInt64).toInt64) &&& (6148914691236517205 : Int64))))])) := c0.trans (by
  refine XS.lloadN X0.here hx rfl (hb hby own_di0) rfl ?_
  show Steps _ _ _ (.setTop _ (mkF _ 1 _ _)) _
  refine XS.lloadN X0.here hx rfl (hb hby own_di1) rfl ?_
  show Steps _ _ _ (.setTop _ (mkF _ 2 _ _)) _
  refine XS.iconst X0.here hx rfl (hb hby own_di2) ?_
  show Steps _ _ _ (.setTop _ (mkF _ 3 _ _)) _
  refine XS.lushr X0.here hx rfl (hb hby own_di3) rfl ?_
  show Steps _ _ _ (.setTop _ (mkF _ 4 _ _)) _
  refine X0.ldc2Long hx hown (mvT hZ (hw _ (own_m 79 rfl))) (g := (mkF m 4 #[.val (.long xx), .second] [(.long ((xx.toUInt64 >>> ((1 : Int32) &&& 0x3f).toInt64.toUInt64).toInt64)), (.long xx)])) rfl (hb hby own_di4) _ ?_
  show Steps _ _ _ (.setTop _ (mkF _ 7 _ _)) _
  refine XS.land X0.here hx rfl (hb hby own_di7) rfl ?_
  show Steps _ _ _ (.setTop _ (mkF _ 8 _ _)) _
  refine XS.lsub X0.here hx rfl (hb hby own_di8) rfl ?_
  exact Steps.refl _)
 obtain ⟨x1, hx1⟩ : ∃ z : Int64, z = (xx - (((xx.toUInt64 >>> ((1 : Int32) &&& 0x3f).toInt64.toUInt64).toInt64) &&& (6148914691236517205 : Int64))) := ⟨_, rfl⟩
 rw [← hx1] at c1
 have c3 : Steps p.tables e below S0 (s₁.setTop (mkF m 23 #[.val (.long x1), .second] [(.long ((x1 &&& (3689348814741910323 : Int64)) + (((x1.toUInt64 >>> ((2 : Int32) &&& 0x3f).toInt64.toUInt64).toInt64) &&& (3689348814741910323 : Int64))))])) := c1.trans (by
  refine XS.lstoreN X0.here hx rfl (hb hby own_di9) rfl rfl ?_
  show Steps _ _ _ (.setTop _ (mkF _ 10 _ _)) _
  refine XS.lloadN X0.here hx rfl (hb hby own_di10) rfl ?_
  show Steps _ _ _ (.setTop _ (mkF _ 11 _ _)) _
  refine X0.ldc2Long hx hown (mvT hZ (hw _ (own_m 80 rfl))) (g := (mkF m 11 #[.val (.long x1), .second] [(.long x1)])) rfl (hb hby own_di11) _ ?_
  show Steps _ _ _ (.setTop _ (mkF _ 14 _ _)) _
  refine XS.land X0.here hx rfl (hb hby own_di14) rfl ?_
  show Steps _ _ _ (.setTop _ (mkF _ 15 _ _)) _
  refine XS.lloadN X0.here hx rfl (hb hby own_di15) rfl ?_
  show Steps _ _ _ (.setTop _ (mkF _ 16 _ _)) _
  refine XS.iconst X0.here hx rfl (hb hby own_di16) ?_
  show Steps _ _ _ (.setTop _ (mkF _ 17 _ _)) _
  refine XS.lushr X0.here hx rfl (hb hby own_di17) rfl ?_
  show Steps _ _ _ (.setTop _ (mkF _ 18 _ _)) _
  refine X0.ldc2Long hx hown (mvT hZ (hw _ (own_m 80 rfl))) (g := (mkF m 18 #[.val (.long x1), .second] [(.long ((x1.toUInt64 >>> ((2 : Int32) &&& 0x3f).toInt64.toUInt64).toInt64)), (.long (x1 &&& (3689348814741910323 : Int64)))])) rfl (hb hby own_di18) _ ?_
  show Steps _ _ _ (.setTop _ (mkF _ 21 _ _)) _
  refine XS.land X0.here hx rfl (hb hby own_di21) rfl ?_
  show Steps _ _ _ (.setTop _ (mkF _ 22 _ _)) _
  refine XS.ladd X0.here hx rfl (hb hby own_di22) rfl ?_
  exact Steps.refl _)
 obtain ⟨x2, hx2⟩ : ∃ z : Int64, z = ((x1 &&& (3689348814741910323 : Int64)) + (((x1.toUInt64 >>> ((2 : Int32) &&& 0x3f).toInt64.toUInt64).toInt64) &&& (3689348814741910323 : Int64))) := ⟨_, rfl⟩
 rw [← hx2] at c3
 have c5 : Steps p.tables e below S0 (s₁.setTop (mkF m 33 #[.val (.long x2), .second] [(.long ((x2 + ((x2.toUInt64 >>> ((4 : Int32) &&& 0x3f).toInt64.toUInt64).toInt64)) &&& (1085102592571150095 : Int64)))])) := c3.trans (by
  refine XS.lstoreN X0.here hx rfl (hb hby own_di23) rfl rfl ?_
  show Steps _ _ _ (.setTop _ (mkF _ 24 _ _)) _
  refine XS.lloadN X0.here hx rfl (hb hby own_di24) rfl ?_
  show Steps _ _ _ (.setTop _ (mkF _ 25 _ _)) _
  refine XS.lloadN X0.here hx rfl (hb hby own_di25) rfl ?_
  show Steps _ _ _ (.setTop _ (mkF _ 26 _ _)) _
  refine XS.iconst X0.here hx rfl (hb hby own_di26) ?_
  show Steps _ _ _ (.setTop _ (mkF _ 27 _ _)) _
  refine XS.lushr X0.here hx rfl (hb hby own_di27) rfl ?_
  show Steps _ _ _ (.setTop _ (mkF _ 28 _ _)) _
  refine XS.ladd X0.here hx rfl (hb hby own_di28) rfl ?_
  show Steps _ _ _ (.setTop _ (mkF _ 29 _ _)) _
  refine X0.ldc2Long hx hown (mvT hZ (hw _ (own_m 81 rfl))) (g := (mkF m 29 #[.val (.long x2), .second] [(.long (x2 + ((x2.toUInt64 >>> ((4 : Int32) &&& 0x3f).toInt64.toUInt64).toInt64)))])) rfl (hb hby own_di29) _ ?_
  show Steps _ _ _ (.setTop _ (mkF _ 32 _ _)) _
  refine XS.land X0.here hx rfl (hb hby own_di32) rfl ?_
  exact Steps.refl _)
 obtain ⟨x3, hx3⟩ : ∃ z : Int64, z = ((x2 + ((x2.toUInt64 >>> ((4 : Int32) &&& 0x3f).toInt64.toUInt64).toInt64)) &&& (1085102592571150095 : Int64)) := ⟨_, rfl⟩
 rw [← hx3] at c5
 have c7 : Steps p.tables e below S0 (s₁.setTop (mkF m 40 #[.val (.long x3), .second] [(.long (x3 + ((x3.toUInt64 >>> ((8 : Int32) &&& 0x3f).toInt64.toUInt64).toInt64)))])) := c5.trans (by
  refine XS.lstoreN X0.here hx rfl (hb hby own_di33) rfl rfl ?_
  show Steps _ _ _ (.setTop _ (mkF _ 34 _ _)) _
  refine XS.lloadN X0.here hx rfl (hb hby own_di34) rfl ?_
  show Steps _ _ _ (.setTop _ (mkF _ 35 _ _)) _
  refine XS.lloadN X0.here hx rfl (hb hby own_di35) rfl ?_
  show Steps _ _ _ (.setTop _ (mkF _ 36 _ _)) _
  refine XS.bipush X0.here hx rfl (hb hby own_di36) ?_
  show Steps _ _ _ (.setTop _ (mkF _ 38 _ _)) _
  refine XS.lushr X0.here hx rfl (hb hby own_di38) rfl ?_
  show Steps _ _ _ (.setTop _ (mkF _ 39 _ _)) _
  refine XS.ladd X0.here hx rfl (hb hby own_di39) rfl ?_
  exact Steps.refl _)
 obtain ⟨x4, hx4⟩ : ∃ z : Int64, z = (x3 + ((x3.toUInt64 >>> ((8 : Int32) &&& 0x3f).toInt64.toUInt64).toInt64)) := ⟨_, rfl⟩
 rw [← hx4] at c7
 have c9 : Steps p.tables e below S0 (s₁.setTop (mkF m 47 #[.val (.long x4), .second] [(.long (x4 + ((x4.toUInt64 >>> ((16 : Int32) &&& 0x3f).toInt64.toUInt64).toInt64)))])) := c7.trans (by
  refine XS.lstoreN X0.here hx rfl (hb hby own_di40) rfl rfl ?_
  show Steps _ _ _ (.setTop _ (mkF _ 41 _ _)) _
  refine XS.lloadN X0.here hx rfl (hb hby own_di41) rfl ?_
  show Steps _ _ _ (.setTop _ (mkF _ 42 _ _)) _
  refine XS.lloadN X0.here hx rfl (hb hby own_di42) rfl ?_
  show Steps _ _ _ (.setTop _ (mkF _ 43 _ _)) _
  refine XS.bipush X0.here hx rfl (hb hby own_di43) ?_
  show Steps _ _ _ (.setTop _ (mkF _ 45 _ _)) _
  refine XS.lushr X0.here hx rfl (hb hby own_di45) rfl ?_
  show Steps _ _ _ (.setTop _ (mkF _ 46 _ _)) _
  refine XS.ladd X0.here hx rfl (hb hby own_di46) rfl ?_
  exact Steps.refl _)
 obtain ⟨x5, hx5⟩ : ∃ z : Int64, z = (x4 + ((x4.toUInt64 >>> ((16 : Int32) &&& 0x3f).toInt64.toUInt64).toInt64)) := ⟨_, rfl⟩
 rw [← hx5] at c9
 have c11 : Steps p.tables e below S0 (s₁.setTop (mkF m 54 #[.val (.long x5), .second] [(.long (x5 + ((x5.toUInt64 >>> ((32 : Int32) &&& 0x3f).toInt64.toUInt64).toInt64)))])) := c9.trans (by
  refine XS.lstoreN X0.here hx rfl (hb hby own_di47) rfl rfl ?_
  show Steps _ _ _ (.setTop _ (mkF _ 48 _ _)) _
  refine XS.lloadN X0.here hx rfl (hb hby own_di48) rfl ?_
  show Steps _ _ _ (.setTop _ (mkF _ 49 _ _)) _
  refine XS.lloadN X0.here hx rfl (hb hby own_di49) rfl ?_
  show Steps _ _ _ (.setTop _ (mkF _ 50 _ _)) _
  refine XS.bipush X0.here hx rfl (hb hby own_di50) ?_
  show Steps _ _ _ (.setTop _ (mkF _ 52 _ _)) _
  refine XS.lushr X0.here hx rfl (hb hby own_di52) rfl ?_
  show Steps _ _ _ (.setTop _ (mkF _ 53 _ _)) _
  refine XS.ladd X0.here hx rfl (hb hby own_di53) rfl ?_
  exact Steps.refl _)
 obtain ⟨x6, hx6⟩ : ∃ z : Int64, z = (x5 + ((x5.toUInt64 >>> ((32 : Int32) &&& 0x3f).toInt64.toUInt64).toInt64)) := ⟨_, rfl⟩
 rw [← hx6] at c11
 have c13 : Steps p.tables e below S0 (s₁.setTop (mkF m 60 #[.val (.long x6), .second] [(.int ((x6.toInt32) &&& (127 : Int32)))])) := c11.trans (by
  refine XS.lstoreN X0.here hx rfl (hb hby own_di54) rfl rfl ?_
  show Steps _ _ _ (.setTop _ (mkF _ 55 _ _)) _
  refine XS.lloadN X0.here hx rfl (hb hby own_di55) rfl ?_
  show Steps _ _ _ (.setTop _ (mkF _ 56 _ _)) _
  refine XS.l2i X0.here hx rfl (hb hby own_di56) rfl ?_
  show Steps _ _ _ (.setTop _ (mkF _ 57 _ _)) _
  refine XS.bipush X0.here hx rfl (hb hby own_di57) ?_
  show Steps _ _ _ (.setTop _ (mkF _ 59 _ _)) _
  refine XS.iand X0.here hx rfl (hb hby own_di59) rfl ?_
  exact Steps.refl _)
 obtain ⟨fs, hr, hrun, hended, hW, hsame⟩ := X0.leave (v := some (.int ((x6.toInt32) &&& (127 : Int32)))) (fun h => by rw [Bd.returns] at h; cases h)
 exact ⟨_, _, c13.trans (retOut X0 hx (t := .int) (i := .ireturn) Bd.returns rfl (Or.inl ⟨rfl, Or.inl rfl, _, rfl⟩) (hb hby own_di60) hr), hrun, hended, _, _, rfl, ⟨by rw [hx6, hx5, hx4, hx3, hx2, hx1]; rfl, N0, e0⟩, ⟨_, rfl⟩, hW, hsame.mono (by decide) (by decide)⟩
theorem own_down_cpJ_0 : decode jdk_65_method_124_code 0 = .ok (.iload_n 1, 1) := by decide +kernel
theorem own_down_cpJ_1 : decode jdk_65_method_124_code 1 = .ok (.aload_n 0, 1) := by decide +kernel
theorem own_down_cpJ_2 : decode jdk_65_method_124_code 2 = .ok (.arraylength, 1) := by decide +kernel
theorem own_down_cpJ_3 : decode jdk_65_method_124_code 3 = .ok (.if_icmp .ne 11, 3) := by decide +kernel
theorem own_down_cpJ_6 : decode jdk_65_method_124_code 6 = .ok (.aload_n 0, 1) := by decide +kernel
theorem own_down_cpJ_7 : decode jdk_65_method_124_code 7 = .ok (.invokevirtual 319, 3) := by decide +kernel
theorem own_down_cpJ_10 : decode jdk_65_method_124_code 10 = .ok (.checkcast 320, 3) := by decide +kernel
theorem own_down_cpJ_13 : decode jdk_65_method_124_code 13 = .ok (.areturn, 1) := by decide +kernel
theorem own_down_cpJ_14 : decode jdk_65_method_124_code 14 = .ok (.iload_n 1, 1) := by decide +kernel
theorem own_down_cpJ_15 : decode jdk_65_method_124_code 15 = .ok (.newarray .long, 2) := by decide +kernel
theorem own_down_cpJ_17 : decode jdk_65_method_124_code 17 = .ok (.astore_n 2, 1) := by decide +kernel
theorem own_down_cpJ_18 : decode jdk_65_method_124_code 18 = .ok (.aload_n 0, 1) := by decide +kernel
theorem own_down_cpJ_19 : decode jdk_65_method_124_code 19 = .ok (.iconst 0, 1) := by decide +kernel
theorem own_down_cpJ_20 : decode jdk_65_method_124_code 20 = .ok (.aload_n 2, 1) := by decide +kernel
theorem own_down_cpJ_21 : decode jdk_65_method_124_code 21 = .ok (.iconst 0, 1) := by decide +kernel
theorem own_down_cpJ_22 : decode jdk_65_method_124_code 22 = .ok (.aload_n 0, 1) := by decide +kernel
theorem own_down_cpJ_23 : decode jdk_65_method_124_code 23 = .ok (.arraylength, 1) := by decide +kernel
theorem own_down_cpJ_24 : decode jdk_65_method_124_code 24 = .ok (.iload_n 1, 1) := by decide +kernel
theorem own_down_cpJ_25 : decode jdk_65_method_124_code 25 = .ok (.invokestatic 304, 3) := by decide +kernel
theorem own_down_cpJ_28 : decode jdk_65_method_124_code 28 = .ok (.invokestatic 150, 3) := by decide +kernel
theorem own_down_cpJ_31 : decode jdk_65_method_124_code 31 = .ok (.aload_n 2, 1) := by decide +kernel
theorem own_down_cpJ_32 : decode jdk_65_method_124_code 32 = .ok (.areturn, 1) := by decide +kernel
theorem own_cpJ_pn : plainName "java/util/Arrays" = true := by first | (simp [plainName, overriddenIn]; done) | decide +kernel
theorem own_cpJ_ef (m : MethodId) (a : Addr) (q : Int32) : entryFrame m #[(.ref a), (.int q)] 3 = mkF m 0 #[.val (.ref a), .val (.int q), .unset] [] := by first | (simp [entryFrame, mkF, argsToLocals, Value.category]; done) | rfl
def own_cpJ_Q (Z : State) (a : Addr) (q : Int32) (n n' : Nat) (f : Nat → Int64) (h0 : Heap) (n0 : Nat) (v : Option Value) (h : Heap) (L : List Loc) : Prop := ∃ d : Addr, v = some (.ref d) ∧ Fr n0 L ∧ Keep h0 h [] ∧ h0.size ≤ d ∧ own_LA Z h d n' (fun i => if i < n then f i else 0)
set_option maxRecDepth 65536 in
set_option maxHeartbeats 40000000 in
theorem own_cpJ (l : Launch) (Z : State) (a0 : Array Value) (hw : ∀ d ∈ tables_1, d.before a0 Z = true) (ws : List Jvm.Cond) (a : Addr) (q : Int32) (n n' : Nat) (f : Nat → Int64) (h0 : Heap) (n0 : Nat) (Z0 : n0 ≤ h0.size) (hq : q = Int32.ofNat n') (hle : n ≤ n') (hb8 : n' ≤ 8192) (hLA : own_LA Z h0 a n f) :
  MetFree l (⟨"java/util/Arrays", "copyOf", "([JI)[J"⟩ : MethodName) (head1 (Jvm.Cond.code (⟨"java/util/Arrays", "copyOf", "([JI)[J"⟩ : MethodName) jdk_65_method_124_code 3 (some (.array .long)) :: ws) ({ frames := 1, cells := 1, slots := n', locals := 40 } : Room)) (fun ars U => ars = #[(.ref a), (.int q)] ∧ Z.Warmed39 U.vm ∧ U.heap = h0) (fun _ _ _ _ _ => True) (fun _ U o U' => ∃ v L, o = .returned v ∧ own_cpJ_Q Z a q n n' f h0 n0 v U'.heap L ∧ FrameEnd U o U' L ({ frames := 1, cells := 1, slots := n', locals := 40 } : Room).cells ({ frames := 1, cells := 1, slots := n', locals := 40 } : Room).slots) := by
 refine MetFree.of_bodySF (plainFor_of_name own_cpJ_pn) hisR ?_
 intro p e s m args below meth c s₁ Bd hml0 hP hK
 obtain ⟨rfl, hZ, hh⟩ := hP
 have hx := Bd.exec
 have hby := Bd.bytes
 have hml : c.maxLocals = 3 := hml0
 have hown : s.vm.findClass "java/util/Arrays" = some m.cls := findClass_of_methodNamed Bd.named
 have hnm := (name_of_methodNamed Bd.named Bd.method).1
 have X0 : Stand p l e ({ frames := 1, cells := 1, slots := n', locals := 40 } : Room) s m #[(.ref a), (.int q)] below meth c s₁ [] 0 0 := Stand.of_body Bd
 have e0 : s₁.heap = h0 := by rw [← hh, Bd.state]; rfl
 have N0 := Fr.nil n0
 generalize hS0 : s₁.setTop (entryFrame m #[(.ref a), (.int q)] 3) = S0
 have c0 : Steps p.tables e below S0 (s₁.setTop (mkF m 0 #[.val (.ref a), .val (.int q), .unset] [])) := by rw [← hS0]; exact castTop (own_cpJ_ef m a q) (Steps.refl _)
 have K0 : Keep h0 h0 [] := Keep.refl _ _
 subst hq
 obtain ⟨cl, Ar, Ea, hsz, hv⟩ := hLA
 have hlen : cl.slots.size.toInt32 = Int32.ofNat n := by rw [hsz]
 have hn31 : n < 2 ^ 31 := by omega
 have hn31' : n' < 2 ^ 31 := by omega
 have c2 : Steps p.tables e below S0 (s₁.setTop (mkF m 3 #[.val (.ref a), .val (.int (Int32.ofNat n')), .unset] [(.int (Int32.ofNat n)), (.int (Int32.ofNat n'))])) := c0.trans (by
  refine XS.iloadN X0.here hx rfl (hb hby own_down_cpJ_0) rfl ?_
  show Steps _ _ _ (.setTop _ (mkF _ 1 _ _)) _
  refine XS.aloadN X0.here hx rfl (hb hby own_down_cpJ_1) rfl rfl ?_
  show Steps _ _ _ (.setTop _ (mkF _ 2 _ _)) _
  refine X0.arraylength hx (by rw [e0]; exact Ar.1) (State.isArrayOf_alike hZ.alike Ar.2.1) (g := (mkF m 2 #[.val (.ref a), .val (.int (Int32.ofNat n')), .unset] [(.ref a), (.int (Int32.ofNat n'))])) rfl rfl (hb hby own_down_cpJ_2) _ ?_
  rw [hlen]
  exact Steps.refl _)
 by_cases heq : (Int32.ofNat n') = (Int32.ofNat n)
 ·have hnn : n' = n := (own_ieq hn31' hn31).mp heq
  obtain ⟨T5, h5, X5, e5, E5, A5, B5, st5⟩ := cloneA X0 hx hZ hown (hw _ (own_m 116 rfl)) (hw _ (own_m 117 rfl)) (hw _ (own_m 103 rfl)) (hw _ (own_m 101 rfl)) (hw _ (own_m 118 rfl)) (hw _ (own_m 119 rfl)) e0 Ar Ea (fitC_of Ar (fun i hi v hv' => by rw [hv i (by omega)] at hv'; cases hv'; rfl)) (g := (mkF m 7 #[.val (.ref a), .val (.int (Int32.ofNat n')), .unset] [(.ref a)])) rfl (by rw [hml]; rfl) (rest := []) rfl (hb hby own_down_cpJ_7) (Nat.le_refl _) (W := 0) (cap := n') (by show 2 * 0 + _ ≤ _; exact Nat.le_of_eq rfl) (Nat.le_of_ble_eq_true rfl) (by rw [hsz]; omega) (Nat.le_refl _) (by simp)
  obtain ⟨d, g5⟩ : ∃ z, z = h0.size := ⟨_, rfl⟩
  have ne_a_d : a ≠ d := Nat.ne_of_lt (Nat.lt_of_lt_of_le Ea.lt (Nat.le_of_eq g5.symm))
  have sz_d : h0.size ≤ d := Nat.le_trans K0.1 (Nat.le_of_eq g5.symm)
  have g_d : n0 ≤ d := Nat.le_trans Z0 sz_d
  rw [← g5] at A5 B5 st5
  have f5_Ea := Ea.ext E5
  have K5 := K0.ext E5
  obtain ⟨T7, X7, e7, st7⟩ := castY X5 hx hZ hown (hw _ (own_m 120 rfl)) e5 (Ins.self B5) (g := (mkF m 10 #[.val (.ref a), .val (.int (Int32.ofNat n')), .unset] [(.ref d)])) rfl rfl (hb hby own_down_cpJ_10)
  have c8 : Steps p.tables e below S0 (T7.setTop (mkF m 13 #[.val (.ref a), .val (.int (Int32.ofNat n')), .unset] [(.ref d)])) := c2.trans (by
   refine XS.icmpNo X0.here hx rfl (hb hby own_down_cpJ_3) rfl (teq heq).2 ?_
   show Steps _ _ _ (.setTop _ (mkF _ 6 _ _)) _
   refine XS.aloadN X0.here hx rfl (hb hby own_down_cpJ_6) rfl rfl ?_
   show Steps _ _ _ (.setTop _ (mkF _ 7 _ _)) _
   refine st5 _ ?_
   show Steps _ _ _ (.setTop _ (mkF _ 10 _ _)) _
   refine st7 _ ?_
   exact Steps.refl _)
  obtain ⟨fs, hr, hrun, hended, hW, hsame⟩ := X7.leave (v := some (.ref d)) (fun h => by rw [Bd.returns] at h; cases h)
  exact ⟨_, _, c8.trans (retOut X7 hx (t := (.array .long)) (i := .areturn) Bd.returns rfl (Or.inr (Or.inr (Or.inr (Or.inr ⟨rfl, rfl, rfl⟩)))) (hb hby own_down_cpJ_13) hr), hrun, hended, _, _, rfl, (by rw [show (T7.setFrames fs).heap = h5 from e7]; exact ⟨d, rfl, N0, K5, sz_d, _, A5, B5, by show cl.slots.size = n'; omega, fun i hi => by show cl.slots[i]? = _; rw [hv i (by omega)]; show _ = some (Value.long (if i < n then f i else 0)); rw [if_pos (by omega)]⟩), ⟨_, rfl⟩, hW, hsame.mono (by simp) (by simp)⟩
 ·obtain ⟨T11, h11, k11, X11, e11, E11, A11, B11, st11⟩ := newPE X0 hx hZ (hw _ (own_m 18 rfl)) e0 (g := (mkF m 15 #[.val (.ref a), .val (.int (Int32.ofNat n')), .unset] [(.int (Int32.ofNat n'))])) rfl (hb hby own_down_cpJ_15) rfl (own_nn hn31') (cap := n') (by rw [own_cl hn31']; exact Nat.le_refl _) (by omega) (Nat.le_refl _) (by simp) (ad := "[J") (by decide)
  obtain ⟨d, g11⟩ : ∃ z, z = h0.size := ⟨_, rfl⟩
  have ne_a_d : a ≠ d := Nat.ne_of_lt (Nat.lt_of_lt_of_le Ea.lt (Nat.le_of_eq g11.symm))
  have sz_d : h0.size ≤ d := Nat.le_trans K0.1 (Nat.le_of_eq g11.symm)
  have g_d : n0 ≤ d := Nat.le_trans Z0 sz_d
  rw [← g11] at A11 B11 st11
  have f11_Ea := Ea.ext E11
  have K11 := K0.ext E11
  have ArE := Ar.ext E11
  have Vd : Arv Z h11 d k11 .long (Int32.ofNat n') ([] ++ List.replicate n' (.long (0 : Int64))) (.long (0 : Int64)) := (Arv.new A11 (own_nn hn31')).pad (pad_rep [] (.long (0 : Int64)) n')
  have Va : Arv Z h11 a cl.cls .long (Int32.ofNat n) ((List.range n).map fun i => .long (f i)) (.long (0 : Int64)) := own_arv_of ArE hsz hn31 hv (fun _ _ => rfl) _
  have c15 : Steps p.tables e below S0 (T11.setTop (mkF m 25 #[.val (.ref a), .val (.int (Int32.ofNat n')), .val (.ref d)] [(.int (Int32.ofNat n')), (.int (Int32.ofNat n)), (.int (0 : Int32)), (.ref d), (.int (0 : Int32)), (.ref a)])) := c2.trans (by
   refine XS.icmpYes X0.here hx rfl (pc0 := 3) (pc' := 14) rfl (hb hby own_down_cpJ_3) rfl (feq heq).2 (by decide) (by decide) ?_
   show Steps _ _ _ (.setTop _ (mkF _ 14 _ _)) _
   refine XS.iloadN X0.here hx rfl (hb hby own_down_cpJ_14) rfl ?_
   show Steps _ _ _ (.setTop _ (mkF _ 15 _ _)) _
   refine st11 _ ?_
   show Steps _ _ _ (.setTop _ (mkF _ 17 _ _)) _
   refine XS.astoreN X11.here hx rfl (hb hby own_down_cpJ_17) rfl rfl rfl ?_
   show Steps _ _ _ (.setTop _ (mkF _ 18 _ _)) _
   refine XS.aloadN X11.here hx rfl (hb hby own_down_cpJ_18) rfl rfl ?_
   show Steps _ _ _ (.setTop _ (mkF _ 19 _ _)) _
   refine XS.iconst X11.here hx rfl (hb hby own_down_cpJ_19) ?_
   show Steps _ _ _ (.setTop _ (mkF _ 20 _ _)) _
   refine XS.aloadN X11.here hx rfl (hb hby own_down_cpJ_20) rfl rfl ?_
   show Steps _ _ _ (.setTop _ (mkF _ 21 _ _)) _
   refine XS.iconst X11.here hx rfl (hb hby own_down_cpJ_21) ?_
   show Steps _ _ _ (.setTop _ (mkF _ 22 _ _)) _
   refine XS.aloadN X11.here hx rfl (hb hby own_down_cpJ_22) rfl rfl ?_
   show Steps _ _ _ (.setTop _ (mkF _ 23 _ _)) _
   refine X11.arraylength hx (by rw [e11]; exact ArE.1) (State.isArrayOf_alike hZ.alike ArE.2.1) (g := (mkF m 23 #[.val (.ref a), .val (.int (Int32.ofNat n')), .val (.ref d)] [(.ref a), (.int (0 : Int32)), (.ref d), (.int (0 : Int32)), (.ref a)])) rfl rfl (hb hby own_down_cpJ_23) _ ?_
   rw [hlen]
   show Steps _ _ _ (.setTop _ (mkF _ 24 _ _)) _
   refine XS.iloadN X11.here hx rfl (hb hby own_down_cpJ_24) rfl ?_
   exact Steps.refl _)
  obtain ⟨_, _, ⟨T16, L16, k16, n16⟩, -, X16, ⟨Lc16, hQ16, l16, y16, z16⟩, st16⟩ := Jvm.LawKit.callS X11 hx (y := (⟨"java/lang/Math", "min", "(II)I"⟩ : MethodName)) hown (mvT hZ (hw _ (own_m 109 rfl))) (mvT hZ (hw _ (own_m 110 rfl))) (mvT hZ (hw _ (own_m 42 rfl))) (mvT hZ (hw _ (own_m 111 rfl))) (by decide) (backOf (W := 4) (own_minI l Z a0 hw [] (Int32.ofNat n) (Int32.ofNat n') h11 n0 (Nat.le_trans Z0 K11.1)) hZ (hw _ (own_m 111 rfl)) (hw _ (own_m 42 rfl)) (Nat.le_of_ble_eq_true rfl) (Nat.le_of_ble_eq_true rfl)) (g := (mkF m 25 #[.val (.ref a), .val (.int (Int32.ofNat n')), .val (.ref d)] [(.int (Int32.ofNat n')), (.int (Int32.ofNat n)), (.int (0 : Int32)), (.ref d), (.int (0 : Int32)), (.ref a)])) rfl (by rw [hml]; rfl) (argsL := [(.int (Int32.ofNat n)), (.int (Int32.ofNat n'))]) (rest := [(.int (0 : Int32)), (.ref d), (.int (0 : Int32)), (.ref a)]) (lenOf own_pd1 rfl) rfl (by show 2 * 0 + _ ≤ _; exact Nat.le_of_eq rfl) (hb hby own_down_cpJ_25) (fun _ _ => ⟨rfl, e11, (Nat.le_of_ble_eq_true rfl), (by show 0 + n' + 0 ≤ n'; omega)⟩)
  dsimp only [Pt.U, Pt.locs, Pt.cells, Pt.slots] at X16 l16 y16 z16 st16 hQ16
  subst l16 y16 z16
  obtain ⟨rfl, N16q, em⟩ := hQ16
  have N16 := Fr.app N0 N16q
  have c17 : Steps p.tables e below S0 (T16.setTop (mkF m 28 #[.val (.ref a), .val (.int (Int32.ofNat n')), .val (.ref d)] [(.int (if Int32.ofNat n' < Int32.ofNat n then Int32.ofNat n' else Int32.ofNat n)), (.int (0 : Int32)), (.ref d), (.int (0 : Int32)), (.ref a)])) := c15.trans (by
   refine st16 _ ?_
   exact Steps.refl _)
  rw [if_neg (fun q => absurd ((own_ilt hn31' hn31).mp q) (by omega))] at c17
  obtain ⟨T18, h18, L18, X18, e18, N18, Kc18, V18, st18⟩ := cpA X16 hx hZ hown (hw _ (own_m 112 rfl)) (hw _ (own_m 115 rfl)) (hw _ (own_m 113 rfl)) (hw _ (own_m 114 rfl)) em Va Vd (Or.inl ⟨rfl, rfl⟩) (sp := 0) (dp := 0) (by decide) (by decide) (own_nn hn31) (by rw [own_cl hn31]; exact Nat.le_of_eq (Nat.zero_add _)) (by rw [own_cl hn31, own_cl hn31']; exact Nat.le_trans (Nat.le_of_eq (Nat.zero_add _)) hle) rfl (by rw [own_cl hn31]; simp; exact hle) N16 g_d (g := (mkF m 28 #[.val (.ref a), .val (.int (Int32.ofNat n')), .val (.ref d)] [(.int (Int32.ofNat n)), (.int (0 : Int32)), (.ref d), (.int (0 : Int32)), (.ref a)])) rfl (by rw [hml]; rfl) (rest := []) rfl (hb hby own_down_cpJ_28) (Nat.le_refl _) (W := 0) (by show 2 * 0 + _ ≤ _; exact Nat.le_of_eq rfl) (Nat.le_of_ble_eq_true rfl)
  have f18_Eb := B11.keep Kc18
  have K18 := K11.trans Kc18 (allS (Or.inr sz_d) all0)
  have c20 : Steps p.tables e below S0 (T18.setTop (mkF m 32 #[.val (.ref a), .val (.int (Int32.ofNat n')), .val (.ref d)] [(.ref d)])) := c17.trans (by
   refine st18 _ ?_
   show Steps _ _ _ (.setTop _ (mkF _ 31 _ _)) _
   refine XS.aloadN X18.here hx rfl (hb hby own_down_cpJ_31) rfl rfl ?_
   exact Steps.refl _)
  rw [own_cl hn31] at V18
  obtain ⟨cd, Ad, Sd, Hd⟩ := own_of_arv (g := fun i => if i < n then .long (f i) else (.long (0 : Int64))) V18 hn31' (fun i hi => own_cat hle hi)
  obtain ⟨fs, hr, hrun, hended, hW, hsame⟩ := X18.leave (v := some (.ref d)) (fun h => by rw [Bd.returns] at h; cases h)
  exact ⟨_, _, c20.trans (retOut X18 hx (t := (.array .long)) (i := .areturn) Bd.returns rfl (Or.inr (Or.inr (Or.inr (Or.inr ⟨rfl, rfl, rfl⟩)))) (hb hby own_down_cpJ_32) hr), hrun, hended, _, _, rfl, (by rw [show (T18.setFrames fs).heap = h18 from e18]; exact ⟨d, rfl, N18, K18, sz_d, cd, Ad, f18_Eb, Sd, fun i hi => by rw [Hd i hi]; by_cases c : i < n <;> simp [c]⟩), ⟨_, rfl⟩, hW, hsame.mono (by simp) (by simp)⟩
theorem own_down_cpI_0 : decode jdk_65_method_123_code 0 = .ok (.iload_n 1, 1) := by decide +kernel
theorem own_down_cpI_1 : decode jdk_65_method_123_code 1 = .ok (.aload_n 0, 1) := by decide +kernel
theorem own_down_cpI_2 : decode jdk_65_method_123_code 2 = .ok (.arraylength, 1) := by decide +kernel
theorem own_down_cpI_3 : decode jdk_65_method_123_code 3 = .ok (.if_icmp .ne 11, 3) := by decide +kernel
theorem own_down_cpI_6 : decode jdk_65_method_123_code 6 = .ok (.aload_n 0, 1) := by decide +kernel
theorem own_down_cpI_7 : decode jdk_65_method_123_code 7 = .ok (.invokevirtual 316, 3) := by decide +kernel
theorem own_down_cpI_10 : decode jdk_65_method_123_code 10 = .ok (.checkcast 317, 3) := by decide +kernel
theorem own_down_cpI_13 : decode jdk_65_method_123_code 13 = .ok (.areturn, 1) := by decide +kernel
theorem own_down_cpI_14 : decode jdk_65_method_123_code 14 = .ok (.iload_n 1, 1) := by decide +kernel
theorem own_down_cpI_15 : decode jdk_65_method_123_code 15 = .ok (.newarray .int, 2) := by decide +kernel
theorem own_down_cpI_17 : decode jdk_65_method_123_code 17 = .ok (.astore_n 2, 1) := by decide +kernel
theorem own_down_cpI_18 : decode jdk_65_method_123_code 18 = .ok (.aload_n 0, 1) := by decide +kernel
theorem own_down_cpI_19 : decode jdk_65_method_123_code 19 = .ok (.iconst 0, 1) := by decide +kernel
theorem own_down_cpI_20 : decode jdk_65_method_123_code 20 = .ok (.aload_n 2, 1) := by decide +kernel
theorem own_down_cpI_21 : decode jdk_65_method_123_code 21 = .ok (.iconst 0, 1) := by decide +kernel
theorem own_down_cpI_22 : decode jdk_65_method_123_code 22 = .ok (.aload_n 0, 1) := by decide +kernel
theorem own_down_cpI_23 : decode jdk_65_method_123_code 23 = .ok (.arraylength, 1) := by decide +kernel
theorem own_down_cpI_24 : decode jdk_65_method_123_code 24 = .ok (.iload_n 1, 1) := by decide +kernel
theorem own_down_cpI_25 : decode jdk_65_method_123_code 25 = .ok (.invokestatic 304, 3) := by decide +kernel
theorem own_down_cpI_28 : decode jdk_65_method_123_code 28 = .ok (.invokestatic 150, 3) := by decide +kernel
theorem own_down_cpI_31 : decode jdk_65_method_123_code 31 = .ok (.aload_n 2, 1) := by decide +kernel
theorem own_down_cpI_32 : decode jdk_65_method_123_code 32 = .ok (.areturn, 1) := by decide +kernel
theorem own_cpI_pn : plainName "java/util/Arrays" = true := by first | (simp [plainName, overriddenIn]; done) | decide +kernel
theorem own_cpI_ef (m : MethodId) (a : Addr) (q : Int32) : entryFrame m #[(.ref a), (.int q)] 3 = mkF m 0 #[.val (.ref a), .val (.int q), .unset] [] := by first | (simp [entryFrame, mkF, argsToLocals, Value.category]; done) | rfl
def own_cpI_Q (Z : State) (a : Addr) (q : Int32) (n n' : Nat) (f : Nat → Int32) (h0 : Heap) (n0 : Nat) (v : Option Value) (h : Heap) (L : List Loc) : Prop := ∃ d : Addr, v = some (.ref d) ∧ Fr n0 L ∧ Keep h0 h [] ∧ h0.size ≤ d ∧ own_IA Z h d n' (fun i => if i < n then f i else 0)
set_option maxRecDepth 65536 in
set_option maxHeartbeats 40000000 in
theorem own_cpI (l : Launch) (Z : State) (a0 : Array Value) (hw : ∀ d ∈ tables_1, d.before a0 Z = true) (ws : List Jvm.Cond) (a : Addr) (q : Int32) (n n' : Nat) (f : Nat → Int32) (h0 : Heap) (n0 : Nat) (Z0 : n0 ≤ h0.size) (hq : q = Int32.ofNat n') (hle : n ≤ n') (hb8 : n' ≤ 8192) (hLA : own_IA Z h0 a n f) :
  MetFree l (⟨"java/util/Arrays", "copyOf", "([II)[I"⟩ : MethodName) (head1 (Jvm.Cond.code (⟨"java/util/Arrays", "copyOf", "([II)[I"⟩ : MethodName) jdk_65_method_123_code 3 (some (.array .int)) :: ws) ({ frames := 1, cells := 1, slots := n', locals := 40 } : Room)) (fun ars U => ars = #[(.ref a), (.int q)] ∧ Z.Warmed39 U.vm ∧ U.heap = h0) (fun _ _ _ _ _ => True) (fun _ U o U' => ∃ v L, o = .returned v ∧ own_cpI_Q Z a q n n' f h0 n0 v U'.heap L ∧ FrameEnd U o U' L ({ frames := 1, cells := 1, slots := n', locals := 40 } : Room).cells ({ frames := 1, cells := 1, slots := n', locals := 40 } : Room).slots) := by
 refine MetFree.of_bodySF (plainFor_of_name own_cpI_pn) hisR ?_
 intro p e s m args below meth c s₁ Bd hml0 hP hK
 obtain ⟨rfl, hZ, hh⟩ := hP
 have hx := Bd.exec
 have hby := Bd.bytes
 have hml : c.maxLocals = 3 := hml0
 have hown : s.vm.findClass "java/util/Arrays" = some m.cls := findClass_of_methodNamed Bd.named
 have hnm := (name_of_methodNamed Bd.named Bd.method).1
 have X0 : Stand p l e ({ frames := 1, cells := 1, slots := n', locals := 40 } : Room) s m #[(.ref a), (.int q)] below meth c s₁ [] 0 0 := Stand.of_body Bd
 have e0 : s₁.heap = h0 := by rw [← hh, Bd.state]; rfl
 have N0 := Fr.nil n0
 generalize hS0 : s₁.setTop (entryFrame m #[(.ref a), (.int q)] 3) = S0
 have c0 : Steps p.tables e below S0 (s₁.setTop (mkF m 0 #[.val (.ref a), .val (.int q), .unset] [])) := by rw [← hS0]; exact castTop (own_cpI_ef m a q) (Steps.refl _)
 have K0 : Keep h0 h0 [] := Keep.refl _ _
 subst hq
 obtain ⟨cl, Ar, Ea, hsz, hv⟩ := hLA
 have hlen : cl.slots.size.toInt32 = Int32.ofNat n := by rw [hsz]
 have hn31 : n < 2 ^ 31 := by omega
 have hn31' : n' < 2 ^ 31 := by omega
 have c2 : Steps p.tables e below S0 (s₁.setTop (mkF m 3 #[.val (.ref a), .val (.int (Int32.ofNat n')), .unset] [(.int (Int32.ofNat n)), (.int (Int32.ofNat n'))])) := c0.trans (by
  refine XS.iloadN X0.here hx rfl (hb hby own_down_cpI_0) rfl ?_
  show Steps _ _ _ (.setTop _ (mkF _ 1 _ _)) _
  refine XS.aloadN X0.here hx rfl (hb hby own_down_cpI_1) rfl rfl ?_
  show Steps _ _ _ (.setTop _ (mkF _ 2 _ _)) _
  refine X0.arraylength hx (by rw [e0]; exact Ar.1) (State.isArrayOf_alike hZ.alike Ar.2.1) (g := (mkF m 2 #[.val (.ref a), .val (.int (Int32.ofNat n')), .unset] [(.ref a), (.int (Int32.ofNat n'))])) rfl rfl (hb hby own_down_cpI_2) _ ?_
  rw [hlen]
  exact Steps.refl _)
 by_cases heq : (Int32.ofNat n') = (Int32.ofNat n)
 ·have hnn : n' = n := (own_ieq hn31' hn31).mp heq
  obtain ⟨T5, h5, X5, e5, E5, A5, B5, st5⟩ := cloneA X0 hx hZ hown (hw _ (own_m 98 rfl)) (hw _ (own_m 99 rfl)) (hw _ (own_m 103 rfl)) (hw _ (own_m 101 rfl)) (hw _ (own_m 102 rfl)) (hw _ (own_m 104 rfl)) e0 Ar Ea (fitC_of Ar (fun i hi v hv' => by rw [hv i (by omega)] at hv'; cases hv'; rfl)) (g := (mkF m 7 #[.val (.ref a), .val (.int (Int32.ofNat n')), .unset] [(.ref a)])) rfl (by rw [hml]; rfl) (rest := []) rfl (hb hby own_down_cpI_7) (Nat.le_refl _) (W := 0) (cap := n') (by show 2 * 0 + _ ≤ _; exact Nat.le_of_eq rfl) (Nat.le_of_ble_eq_true rfl) (by rw [hsz]; omega) (Nat.le_refl _) (by simp)
  obtain ⟨d, g5⟩ : ∃ z, z = h0.size := ⟨_, rfl⟩
  have ne_a_d : a ≠ d := Nat.ne_of_lt (Nat.lt_of_lt_of_le Ea.lt (Nat.le_of_eq g5.symm))
  have sz_d : h0.size ≤ d := Nat.le_trans K0.1 (Nat.le_of_eq g5.symm)
  have g_d : n0 ≤ d := Nat.le_trans Z0 sz_d
  rw [← g5] at A5 B5 st5
  have f5_Ea := Ea.ext E5
  have K5 := K0.ext E5
  obtain ⟨T7, X7, e7, st7⟩ := castY X5 hx hZ hown (hw _ (own_m 105 rfl)) e5 (Ins.self B5) (g := (mkF m 10 #[.val (.ref a), .val (.int (Int32.ofNat n')), .unset] [(.ref d)])) rfl rfl (hb hby own_down_cpI_10)
  have c8 : Steps p.tables e below S0 (T7.setTop (mkF m 13 #[.val (.ref a), .val (.int (Int32.ofNat n')), .unset] [(.ref d)])) := c2.trans (by
   refine XS.icmpNo X0.here hx rfl (hb hby own_down_cpI_3) rfl (teq heq).2 ?_
   show Steps _ _ _ (.setTop _ (mkF _ 6 _ _)) _
   refine XS.aloadN X0.here hx rfl (hb hby own_down_cpI_6) rfl rfl ?_
   show Steps _ _ _ (.setTop _ (mkF _ 7 _ _)) _
   refine st5 _ ?_
   show Steps _ _ _ (.setTop _ (mkF _ 10 _ _)) _
   refine st7 _ ?_
   exact Steps.refl _)
  obtain ⟨fs, hr, hrun, hended, hW, hsame⟩ := X7.leave (v := some (.ref d)) (fun h => by rw [Bd.returns] at h; cases h)
  exact ⟨_, _, c8.trans (retOut X7 hx (t := (.array .int)) (i := .areturn) Bd.returns rfl (Or.inr (Or.inr (Or.inr (Or.inr ⟨rfl, rfl, rfl⟩)))) (hb hby own_down_cpI_13) hr), hrun, hended, _, _, rfl, (by rw [show (T7.setFrames fs).heap = h5 from e7]; exact ⟨d, rfl, N0, K5, sz_d, _, A5, B5, by show cl.slots.size = n'; omega, fun i hi => by show cl.slots[i]? = _; rw [hv i (by omega)]; show _ = some (Value.int (if i < n then f i else 0)); rw [if_pos (by omega)]⟩), ⟨_, rfl⟩, hW, hsame.mono (by simp) (by simp)⟩
 ·obtain ⟨T11, h11, k11, X11, e11, E11, A11, B11, st11⟩ := newPE X0 hx hZ (hw _ (own_m 2 rfl)) e0 (g := (mkF m 15 #[.val (.ref a), .val (.int (Int32.ofNat n')), .unset] [(.int (Int32.ofNat n'))])) rfl (hb hby own_down_cpI_15) rfl (own_nn hn31') (cap := n') (by rw [own_cl hn31']; exact Nat.le_refl _) (by omega) (Nat.le_refl _) (by simp) (ad := "[I") (by decide)
  obtain ⟨d, g11⟩ : ∃ z, z = h0.size := ⟨_, rfl⟩
  have ne_a_d : a ≠ d := Nat.ne_of_lt (Nat.lt_of_lt_of_le Ea.lt (Nat.le_of_eq g11.symm))
  have sz_d : h0.size ≤ d := Nat.le_trans K0.1 (Nat.le_of_eq g11.symm)
  have g_d : n0 ≤ d := Nat.le_trans Z0 sz_d
  rw [← g11] at A11 B11 st11
  have f11_Ea := Ea.ext E11
  have K11 := K0.ext E11
  have ArE := Ar.ext E11
  have Vd : Arv Z h11 d k11 .int (Int32.ofNat n') ([] ++ List.replicate n' (.int (0 : Int32))) (.int (0 : Int32)) := (Arv.new A11 (own_nn hn31')).pad (pad_rep [] (.int (0 : Int32)) n')
  have Va : Arv Z h11 a cl.cls .int (Int32.ofNat n) ((List.range n).map fun i => .int (f i)) (.int (0 : Int32)) := own_arv_of ArE hsz hn31 hv (fun _ _ => rfl) _
  have c15 : Steps p.tables e below S0 (T11.setTop (mkF m 25 #[.val (.ref a), .val (.int (Int32.ofNat n')), .val (.ref d)] [(.int (Int32.ofNat n')), (.int (Int32.ofNat n)), (.int (0 : Int32)), (.ref d), (.int (0 : Int32)), (.ref a)])) := c2.trans (by
   refine XS.icmpYes X0.here hx rfl (pc0 := 3) (pc' := 14) rfl (hb hby own_down_cpI_3) rfl (feq heq).2 (by decide) (by decide) ?_
   show Steps _ _ _ (.setTop _ (mkF _ 14 _ _)) _
   refine XS.iloadN X0.here hx rfl (hb hby own_down_cpI_14) rfl ?_
   show Steps _ _ _ (.setTop _ (mkF _ 15 _ _)) _
   refine st11 _ ?_
   show Steps _ _ _ (.setTop _ (mkF _ 17 _ _)) _
   refine XS.astoreN X11.here hx rfl (hb hby own_down_cpI_17) rfl rfl rfl ?_
   show Steps _ _ _ (.setTop _ (mkF _ 18 _ _)) _
   refine XS.aloadN X11.here hx rfl (hb hby own_down_cpI_18) rfl rfl ?_
   show Steps _ _ _ (.setTop _ (mkF _ 19 _ _)) _
   refine XS.iconst X11.here hx rfl (hb hby own_down_cpI_19) ?_
   show Steps _ _ _ (.setTop _ (mkF _ 20 _ _)) _
   refine XS.aloadN X11.here hx rfl (hb hby own_down_cpI_20) rfl rfl ?_
   show Steps _ _ _ (.setTop _ (mkF _ 21 _ _)) _
   refine XS.iconst X11.here hx rfl (hb hby own_down_cpI_21) ?_
   show Steps _ _ _ (.setTop _ (mkF _ 22 _ _)) _
   refine XS.aloadN X11.here hx rfl (hb hby own_down_cpI_22) rfl rfl ?_
   show Steps _ _ _ (.setTop _ (mkF _ 23 _ _)) _
   refine X11.arraylength hx (by rw [e11]; exact ArE.1) (State.isArrayOf_alike hZ.alike ArE.2.1) (g := (mkF m 23 #[.val (.ref a), .val (.int (Int32.ofNat n')), .val (.ref d)] [(.ref a), (.int (0 : Int32)), (.ref d), (.int (0 : Int32)), (.ref a)])) rfl rfl (hb hby own_down_cpI_23) _ ?_
   rw [hlen]
   show Steps _ _ _ (.setTop _ (mkF _ 24 _ _)) _
   refine XS.iloadN X11.here hx rfl (hb hby own_down_cpI_24) rfl ?_
   exact Steps.refl _)
  obtain ⟨_, _, ⟨T16, L16, k16, n16⟩, -, X16, ⟨Lc16, hQ16, l16, y16, z16⟩, st16⟩ := Jvm.LawKit.callS X11 hx (y := (⟨"java/lang/Math", "min", "(II)I"⟩ : MethodName)) hown (mvT hZ (hw _ (own_m 109 rfl))) (mvT hZ (hw _ (own_m 110 rfl))) (mvT hZ (hw _ (own_m 42 rfl))) (mvT hZ (hw _ (own_m 111 rfl))) (by decide) (backOf (W := 4) (own_minI l Z a0 hw [] (Int32.ofNat n) (Int32.ofNat n') h11 n0 (Nat.le_trans Z0 K11.1)) hZ (hw _ (own_m 111 rfl)) (hw _ (own_m 42 rfl)) (Nat.le_of_ble_eq_true rfl) (Nat.le_of_ble_eq_true rfl)) (g := (mkF m 25 #[.val (.ref a), .val (.int (Int32.ofNat n')), .val (.ref d)] [(.int (Int32.ofNat n')), (.int (Int32.ofNat n)), (.int (0 : Int32)), (.ref d), (.int (0 : Int32)), (.ref a)])) rfl (by rw [hml]; rfl) (argsL := [(.int (Int32.ofNat n)), (.int (Int32.ofNat n'))]) (rest := [(.int (0 : Int32)), (.ref d), (.int (0 : Int32)), (.ref a)]) (lenOf own_pd1 rfl) rfl (by show 2 * 0 + _ ≤ _; exact Nat.le_of_eq rfl) (hb hby own_down_cpI_25) (fun _ _ => ⟨rfl, e11, (Nat.le_of_ble_eq_true rfl), (by show 0 + n' + 0 ≤ n'; omega)⟩)
  dsimp only [Pt.U, Pt.locs, Pt.cells, Pt.slots] at X16 l16 y16 z16 st16 hQ16
  subst l16 y16 z16
  obtain ⟨rfl, N16q, em⟩ := hQ16
  have N16 := Fr.app N0 N16q
  have c17 : Steps p.tables e below S0 (T16.setTop (mkF m 28 #[.val (.ref a), .val (.int (Int32.ofNat n')), .val (.ref d)] [(.int (if Int32.ofNat n' < Int32.ofNat n then Int32.ofNat n' else Int32.ofNat n)), (.int (0 : Int32)), (.ref d), (.int (0 : Int32)), (.ref a)])) := c15.trans (by
   refine st16 _ ?_
   exact Steps.refl _)
  rw [if_neg (fun q => absurd ((own_ilt hn31' hn31).mp q) (by omega))] at c17
  obtain ⟨T18, h18, L18, X18, e18, N18, Kc18, V18, st18⟩ := cpA X16 hx hZ hown (hw _ (own_m 112 rfl)) (hw _ (own_m 115 rfl)) (hw _ (own_m 113 rfl)) (hw _ (own_m 114 rfl)) em Va Vd (Or.inl ⟨rfl, rfl⟩) (sp := 0) (dp := 0) (by decide) (by decide) (own_nn hn31) (by rw [own_cl hn31]; exact Nat.le_of_eq (Nat.zero_add _)) (by rw [own_cl hn31, own_cl hn31']; exact Nat.le_trans (Nat.le_of_eq (Nat.zero_add _)) hle) rfl (by rw [own_cl hn31]; simp; exact hle) N16 g_d (g := (mkF m 28 #[.val (.ref a), .val (.int (Int32.ofNat n')), .val (.ref d)] [(.int (Int32.ofNat n)), (.int (0 : Int32)), (.ref d), (.int (0 : Int32)), (.ref a)])) rfl (by rw [hml]; rfl) (rest := []) rfl (hb hby own_down_cpI_28) (Nat.le_refl _) (W := 0) (by show 2 * 0 + _ ≤ _; exact Nat.le_of_eq rfl) (Nat.le_of_ble_eq_true rfl)
  have f18_Eb := B11.keep Kc18
  have K18 := K11.trans Kc18 (allS (Or.inr sz_d) all0)
  have c20 : Steps p.tables e below S0 (T18.setTop (mkF m 32 #[.val (.ref a), .val (.int (Int32.ofNat n')), .val (.ref d)] [(.ref d)])) := c17.trans (by
   refine st18 _ ?_
   show Steps _ _ _ (.setTop _ (mkF _ 31 _ _)) _
   refine XS.aloadN X18.here hx rfl (hb hby own_down_cpI_31) rfl rfl ?_
   exact Steps.refl _)
  rw [own_cl hn31] at V18
  obtain ⟨cd, Ad, Sd, Hd⟩ := own_of_arv (g := fun i => if i < n then .int (f i) else (.int (0 : Int32))) V18 hn31' (fun i hi => own_cat hle hi)
  obtain ⟨fs, hr, hrun, hended, hW, hsame⟩ := X18.leave (v := some (.ref d)) (fun h => by rw [Bd.returns] at h; cases h)
  exact ⟨_, _, c20.trans (retOut X18 hx (t := (.array .int)) (i := .areturn) Bd.returns rfl (Or.inr (Or.inr (Or.inr (Or.inr ⟨rfl, rfl, rfl⟩)))) (hb hby own_down_cpI_32) hr), hrun, hended, _, _, rfl, (by rw [show (T18.setFrames fs).heap = h18 from e18]; exact ⟨d, rfl, N18, K18, sz_d, cd, Ad, f18_Eb, Sd, fun i hi => by rw [Hd i hi]; by_cases c : i < n <;> simp [c]⟩), ⟨_, rfl⟩, hW, hsame.mono (by simp) (by simp)⟩
/-! D. the set on the heap -/
def own_Kb (k : Nat) (h h' : Heap) : Prop := h.size ≤ h'.size ∧ ∀ (x : Addr) (c : Cell), x < k → h[x]? = some c → h'[x]? = some c
theorem own_Kb.refl (k : Nat) (h : Heap) : own_Kb k h h := ⟨Nat.le_refl _, fun _ _ _ q => q⟩
theorem own_Kb.trans {k : Nat} {h h' h2 : Heap} (A : own_Kb k h h') (B : own_Kb k h' h2) : own_Kb k h h2 := ⟨Nat.le_trans A.1 B.1, fun x c q r => B.2 x c q (A.2 x c q r)⟩
theorem own_Kb.of_ext {k : Nat} {h h' : Heap} (E : Ext h h') : own_Kb k h h' := ⟨E.1, fun x c _ r => E.2 x c r⟩
theorem own_Kb.wr {k : Nat} {h h' h2 : Heap} {a : Addr} {sl : Nat} {v : Value} (A : own_Kb k h h') (W : Wr h' h2 a sl v) (q : k ≤ a) : own_Kb k h h2 :=
 ⟨by rw [W.size]; exact A.1, fun x c hx r => by
  obtain ⟨cb', h1, -, -, -, h5, -⟩ := wr_at W (A.2 x c hx r)
  rw [h1, h5 (Nat.ne_of_lt (Nat.lt_of_lt_of_le hx q))]⟩
theorem own_ext_refl (h : Heap) : Ext h h := ⟨Nat.le_refl _, fun _ _ q => q⟩
theorem own_ext_trans {h h' h2 : Heap} (A : Ext h h') (B : Ext h' h2) : Ext h h2 := ⟨Nat.le_trans A.1 B.1, fun x c r => B.2 x c (A.2 x c r)⟩
theorem own_ext_wr {h h' h2 : Heap} {a : Addr} {sl : Nat} {v : Value} (A : Ext h h') (W : Wr h' h2 a sl v) (q : h.size ≤ a) : Ext h h2 :=
 ⟨by rw [W.size]; exact A.1, fun x c r => by
  obtain ⟨cb', h1, -, -, -, h5, -⟩ := wr_at W (A.2 x c r)
  rw [h1, h5 (Nat.ne_of_lt (Nat.lt_of_lt_of_le (Array.getElem?_eq_some_iff.mp r).1 q))]⟩
theorem own_ext_keep {h h' h2 : Heap} (A : Ext h h') (K : Keep h' h2 []) : Ext h h2 := ⟨Nat.le_trans A.1 K.1, fun x c r => K.2.1 x c (A.2 x c r) (fun q => nomatch q)⟩
def own_PS (Z : State) (n0 : Nat) (h : Heap) (ps lv bc : Addr) (K : Nat) (ls : Nat → Addr) (N : Nat → Nat) (f : Nat → Nat → Int64) (M : Nat) (g : Nat → Int32) : Prop :=
 Exa Z h ps "com/example/coersa/coersa/PlaceSet" ∧ Fld Z h ps "com/example/coersa/coersa/PlaceSet" "levels" "[[J" (.ref lv) ∧ Fld Z h ps "com/example/coersa/coersa/PlaceSet" "blockCounts" "[I" (.ref bc) ∧
 own_RA Z .long "[J" h lv K (fun i => .ref (ls i)) ∧ (∀ l, l < K → own_LA Z h (ls l) (N l) (f l)) ∧ own_IA Z h bc M g ∧ (∀ i j, i < j → j < K → ls i ≠ ls j) ∧ n0 ≤ ps ∧ n0 ≤ bc ∧ (∀ l, l < K → n0 ≤ ls l)
section
variable {Z : State} {n0 : Nat} {h h' : Heap} {ps lv bc : Addr} {K : Nat} {ls : Nat → Addr} {N : Nat → Nat} {f : Nat → Nat → Int64} {M : Nat} {g : Nat → Int32}
theorem own_PS.ext (P : own_PS Z n0 h ps lv bc K ls N f M g) (E : Ext h h') : own_PS Z n0 h' ps lv bc K ls N f M g :=
 ⟨P.1.ext E, P.2.1.ext E, P.2.2.1.ext E, P.2.2.2.1.ext E, fun l hl => (P.2.2.2.2.1 l hl).ext E, P.2.2.2.2.2.1.ext E, P.2.2.2.2.2.2⟩
theorem own_PS.setL (P : own_PS Z n0 h ps lv bc K ls N f M g) {l j : Nat} {x : Int64} {f' : Nat → Nat → Int64} (hl : l < K) (hj : j < N l) (W : Wr h h' (ls l) j (.long x)) (hf : ∀ l', l' < K → ∀ i, i < N l' → f' l' i = if l' = l ∧ i = j then x else f l' i) : own_PS Z n0 h' ps lv bc K ls N f' M g := by
 obtain ⟨p1, p2, p3, p4, p5, p6, p7, p8, p9, p10⟩ := P
 obtain ⟨cL, AL, EL, -⟩ := p5 l hl
 have q4 := p4
 have q6 := p6
 obtain ⟨cR, AR, -⟩ := q4
 obtain ⟨cI, AI, EI, -⟩ := q6
 have n1 : ps ≠ ls l := ne_exa p1 EL (by decide)
 have n2 : lv ≠ ls l := own_ty_ne AR AL (by decide)
 have n3 : bc ≠ ls l := own_ty_ne AI AL (by decide)
 refine ⟨p1.wr W, p2.other W (Or.inl n1), p3.other W (Or.inl n1), p4.other W n2, fun l' hl' => ?_, p6.other W n3, p7, p8, p9, p10⟩
 by_cases e : l' = l
 ·subst e
  exact (p5 l' hl').set W hj (fun i hi => by rw [hf l' hl' i hi]; simp)
 ·have ne : ls l' ≠ ls l := by
   rcases Nat.lt_or_gt_of_ne e with q | q
   ·exact p7 _ _ q hl
   ·exact (p7 _ _ q hl').symm
  have q := (p5 l' hl').other W ne
  obtain ⟨c1, a1, a2, a3, a4⟩ := q
  exact ⟨c1, a1, a2, a3, fun i hi => by rw [a4 i hi, hf l' hl' i hi, if_neg (fun z => e z.1)]⟩
theorem own_PS.setC (P : own_PS Z n0 h ps lv bc K ls N f M g) {j : Nat} {x : Int32} {g' : Nat → Int32} (hj : j < M) (W : Wr h h' bc j (.int x)) (hg : ∀ i, i < M → g' i = if i = j then x else g i) : own_PS Z n0 h' ps lv bc K ls N f M g' := by
 obtain ⟨p1, p2, p3, p4, p5, p6, p7, p8, p9, p10⟩ := P
 have q4 := p4
 obtain ⟨cR, AR, -⟩ := q4
 have q6 := p6
 obtain ⟨cI, AI, EI, -⟩ := q6
 have n1 : ps ≠ bc := ne_exa p1 EI (by decide)
 have n2 : lv ≠ bc := own_ty_ne AR AI (by decide)
 exact ⟨p1.wr W, p2.other W (Or.inl n1), p3.other W (Or.inl n1), p4.other W n2, fun l' hl' => by
  obtain ⟨cL, AL, EL, r⟩ := p5 l' hl'
  exact own_LA.other ⟨cL, AL, EL, r⟩ W (own_ty_ne AL AI (by decide)), p6.set W hj hg, p7, p8, p9, p10⟩
end
/-! E. growing -/
def own_it (W : Nat) : Nat → Nat
 | 0 => W
 | l + 1 => own_wf (own_it W l)
def own_cnt (W : Nat) : Nat := if own_wf W ≤ 1 then 2 else if own_wf (own_wf W) ≤ 1 then 3 else 4
def own_gr (en n : Nat) : Nat := if own_wf en < 2 * n then 2 * n else own_wf en
def own_fg (K : Nat) (N : Nat → Nat) (f : Nat → Nat → Int64) : Nat → Nat → Int64
 | 0 => fun i => if i < N 0 then f 0 i else 0
 | l + 1 => if l + 1 < K then (fun i => if i < N (l + 1) then f (l + 1) i else 0) else fun i => if i = 0 then (if own_fg K N f l 0 = 0 then 0 else 1) else 0
theorem own_wf1 (n : Nat) : 1 ≤ own_wf n := by unfold own_wf; split <;> omega
theorem own_wf_le {n b : Nat} (h : n ≤ 64 * b) (hb : 1 ≤ b) : own_wf n ≤ b := by unfold own_wf; split <;> omega
theorem own_wf_ge (n : Nat) : n ≤ 64 * own_wf n := by unfold own_wf; split <;> omega
theorem own_cnt_le (W : Nat) : own_cnt W ≤ 4 ∧ 2 ≤ own_cnt W := by unfold own_cnt; split <;> (try split) <;> omega
theorem own_it_le {W : Nat} (h : W ≤ 8192) : own_it W 0 = W ∧ own_it W 1 ≤ 128 ∧ own_it W 2 ≤ 2 ∧ own_it W 3 ≤ 1 := by
 have a : own_it W 1 ≤ 128 := own_wf_le (by show W ≤ _; omega) (by decide)
 have b : own_it W 2 ≤ 2 := own_wf_le (Nat.le_trans a (by decide)) (by decide)
 have c : own_it W 3 ≤ 1 := own_wf_le (Nat.le_trans b (by decide)) (by decide)
 exact ⟨rfl, a, b, c⟩
theorem own_it1 {W : Nat} (h : 1 ≤ W) : ∀ l, 1 ≤ own_it W l
 | 0 => h
 | l + 1 => own_wf1 _
theorem own_it_b {W : Nat} (h : W ≤ 8192) : ∀ l, own_it W l ≤ 8192
 | 0 => h
 | l + 1 => own_wf_le (by have := own_it_b h l; omega) (by decide)
theorem own_it_last {W : Nat} (h2 : W ≤ 8192) : own_it W (own_cnt W - 1) = 1 := by
 have l := own_it_le h2
 have a1 := own_wf1 W
 have a2 := own_wf1 (own_wf W)
 have a3 := own_wf1 (own_wf (own_wf W))
 unfold own_cnt
 split
 ·show own_wf W = 1; omega
 ·split
  ·show own_wf (own_wf W) = 1; omega
  ·show own_wf (own_wf (own_wf W)) = 1
   have := l.2.2.2
   simp only [own_it] at this; omega
def own_sum (W : Nat) : Nat → Nat
 | 0 => 0
 | l + 1 => own_sum W l + own_it W l
theorem own_sum_le {W : Nat} (h : W ≤ 8192) : ∀ l, l ≤ 4 → own_sum W l ≤ W + 131 := by
 have q := own_it_le h
 intro l hl
 match l, hl with
 | 0, _ => simp only [own_sum]; omega
 | 1, _ => simp only [own_sum]; omega
 | 2, _ => simp only [own_sum]; omega
 | 3, _ => simp only [own_sum]; omega
 | 4, _ => simp only [own_sum]; omega
theorem own_grI {en n : Nat} (he : own_wf en < 2 ^ 25) (hn : n ≤ 8192) :
  ((if (Int32.ofNat (own_wf 2147483647)).toInt64 < (if (Int32.ofNat (own_wf en)).toInt64 < ((2 : Int64) * (Int32.ofNat n).toInt64) then ((2 : Int64) * (Int32.ofNat n).toInt64) else (Int32.ofNat (own_wf en)).toInt64) then (Int32.ofNat (own_wf 2147483647)).toInt64 else (if (Int32.ofNat (own_wf en)).toInt64 < ((2 : Int64) * (Int32.ofNat n).toInt64) then ((2 : Int64) * (Int32.ofNat n).toInt64) else (Int32.ofNat (own_wf en)).toInt64)).toInt32) = Int32.ofNat (own_gr en n) := by
 have a : ((Int32.ofNat (own_wf en)).toInt64).toInt = own_wf en := by rw [Int32.toInt_toInt64, own_toInt (by omega)]
 have b0 : ((Int32.ofNat n).toInt64).toInt = n := by rw [Int32.toInt_toInt64, own_toInt (by omega)]
 have two : (2 : Int64).toInt = 2 := by decide
 have b : (((2 : Int64) * (Int32.ofNat n).toInt64)).toInt = 2 * n := by rw [Jvm.Kit.i64_mul (by rw [two, b0]; omega) (by rw [two, b0]; omega), two, b0]
 have m : ((Int32.ofNat (own_wf 2147483647)).toInt64).toInt = 33554432 := by decide
 generalize (Int32.ofNat (own_wf en)).toInt64 = x at a ⊢
 generalize ((2 : Int64) * (Int32.ofNat n).toInt64) = y at b ⊢
 generalize (Int32.ofNat (own_wf 2147483647)).toInt64 = z at m ⊢
 have c : (x < y) ↔ own_wf en < 2 * n := by rw [Int64.lt_iff_toInt_lt, a, b]; omega
 apply Int32.toInt_inj.mp
 unfold own_gr
 by_cases q : own_wf en < 2 * n
 ·rw [if_pos (c.mpr q), if_pos q, if_neg (by rw [Int64.lt_iff_toInt_lt, m, b]; omega), own_toInt (by omega), Jvm.Kit.i32_of_i64 (by omega) (by omega), b]; omega
 ·rw [if_neg (fun e => q (c.mp e)), if_neg q, if_neg (by rw [Int64.lt_iff_toInt_lt, m, a]; omega), own_toInt (by omega), Jvm.Kit.i32_of_i64 (by omega) (by omega), a]

def own_GR (en K : Nat) (N : Nat → Nat) (f : Nat → Nat → Int64) (M : Nat) (g : Nat → Int32) (K' : Nat) (N' : Nat → Nat) (f' : Nat → Nat → Int64) (M' : Nat) (g' : Nat → Int32) : Prop :=
 (own_wf en ≤ N 0 ∧ K' = K ∧ N' = N ∧ f' = f ∧ M' = M ∧ g' = g) ∨ (N 0 < own_wf en ∧ K' = own_cnt (own_gr en (N 0)) ∧ N' = own_it (own_gr en (N 0)) ∧ f' = own_fg K N f ∧ M' = own_wf (own_gr en (N 0)) ∧ g' = fun b => if b < M then g b else 0)
theorem own_1lt {n : Nat} (hn : n < 2 ^ 31) (h : 1 < n) : (1 : Int32) < Int32.ofNat n := (own_ilt (i := 1) (by decide) hn).mpr h
theorem own_1nlt {n : Nat} (hn : n < 2 ^ 31) (h : ¬ (1 : Int32) < Int32.ofNat n) : n ≤ 1 := by
 apply Classical.byContradiction; intro q; exact h (own_1lt hn (by omega))
theorem own_1lt' {n : Nat} (hn : n < 2 ^ 31) (h : (1 : Int32) < Int32.ofNat n) : 1 < n := (own_ilt (i := 1) (by decide) hn).mp h
theorem own_wf_mono {a b : Nat} (h : a ≤ b) : own_wf a ≤ own_wf b := by unfold own_wf; split <;> split <;> omega
theorem own_it_mono {a b : Nat} (h : a ≤ b) : ∀ l, own_it a l ≤ own_it b l
 | 0 => h
 | l + 1 => own_wf_mono (own_it_mono h l)
theorem own_fg_z (K : Nat) (N : Nat → Nat) (f : Nat → Nat → Int64) {l : Nat} (hl : 0 < l) (hK : ¬ l < K) : own_fg K N f l = fun i => if i = 0 then (if own_fg K N f (l - 1) 0 = 0 then 0 else 1) else 0 := by
 obtain ⟨k, rfl⟩ : ∃ k, l = k + 1 := ⟨l - 1, by omega⟩
 simp only [own_fg, if_neg hK]; rfl
theorem own_fg_c (K : Nat) (N : Nat → Nat) (f : Nat → Nat → Int64) {l : Nat} (h1 : 1 ≤ K) (hK : l < K) : own_fg K N f l = fun i => if i < N l then f l i else 0 := by
 cases l with
 | zero => rfl
 | succ k => simp only [own_fg, if_pos hK]
theorem own_ins_sub {lev : Nat} (h : 0 < lev) (h2 : lev < 2 ^ 31) : (Int32.ofNat lev - (1 : Int32)) = Int32.ofNat (lev - 1) := by
 apply Int32.toInt_inj.mp
 have one : (1 : Int32).toInt = 1 := by decide
 rw [Jvm.Kit.i32_sub (by rw [own_toInt h2, one]; omega) (by rw [own_toInt h2, one]; omega), own_toInt h2, own_toInt (by omega), one]; omega
theorem own_dmr0 : decode prog_209_method_2_code 0 = .ok (.iload_n 1, 1) := by decide +kernel
theorem own_dmr1 : decode prog_209_method_2_code 1 = .ok (.invokestatic 19, 3) := by decide +kernel
theorem own_dmr4 : decode prog_209_method_2_code 4 = .ok (.aload_n 0, 1) := by decide +kernel
theorem own_dmr5 : decode prog_209_method_2_code 5 = .ok (.getfield 11, 3) := by decide +kernel
theorem own_dmr8 : decode prog_209_method_2_code 8 = .ok (.iconst 0, 1) := by decide +kernel
theorem own_dmr9 : decode prog_209_method_2_code 9 = .ok (.aaload, 1) := by decide +kernel
theorem own_dmr10 : decode prog_209_method_2_code 10 = .ok (.arraylength, 1) := by decide +kernel
theorem own_dmr11 : decode prog_209_method_2_code 11 = .ok (.if_icmp .gt 4, 3) := by decide +kernel
theorem own_dmr14 : decode prog_209_method_2_code 14 = .ok (.return_, 1) := by decide +kernel
theorem own_dmr15 : decode prog_209_method_2_code 15 = .ok (.iload_n 1, 1) := by decide +kernel
theorem own_dmr16 : decode prog_209_method_2_code 16 = .ok (.invokestatic 19, 3) := by decide +kernel
theorem own_dmr19 : decode prog_209_method_2_code 19 = .ok (.i2l, 1) := by decide +kernel
theorem own_dmr20 : decode prog_209_method_2_code 20 = .ok (.ldc2_w 23, 3) := by decide +kernel
theorem own_dmr23 : decode prog_209_method_2_code 23 = .ok (.aload_n 0, 1) := by decide +kernel
theorem own_dmr24 : decode prog_209_method_2_code 24 = .ok (.getfield 11, 3) := by decide +kernel
theorem own_dmr27 : decode prog_209_method_2_code 27 = .ok (.iconst 0, 1) := by decide +kernel
theorem own_dmr28 : decode prog_209_method_2_code 28 = .ok (.aaload, 1) := by decide +kernel
theorem own_dmr29 : decode prog_209_method_2_code 29 = .ok (.arraylength, 1) := by decide +kernel
theorem own_dmr30 : decode prog_209_method_2_code 30 = .ok (.i2l, 1) := by decide +kernel
theorem own_dmr31 : decode prog_209_method_2_code 31 = .ok (.lmul, 1) := by decide +kernel
theorem own_dmr32 : decode prog_209_method_2_code 32 = .ok (.invokestatic 25, 3) := by decide +kernel
theorem own_dmr35 : decode prog_209_method_2_code 35 = .ok (.ldc 33, 2) := by decide +kernel
theorem own_dmr37 : decode prog_209_method_2_code 37 = .ok (.invokestatic 19, 3) := by decide +kernel
theorem own_dmr40 : decode prog_209_method_2_code 40 = .ok (.i2l, 1) := by decide +kernel
theorem own_dmr41 : decode prog_209_method_2_code 41 = .ok (.invokestatic 34, 3) := by decide +kernel
theorem own_dmr44 : decode prog_209_method_2_code 44 = .ok (.l2i, 1) := by decide +kernel
theorem own_dmr45 : decode prog_209_method_2_code 45 = .ok (.istore_n 2, 1) := by decide +kernel
theorem own_dmr46 : decode prog_209_method_2_code 46 = .ok (.iconst 1, 1) := by decide +kernel
theorem own_dmr47 : decode prog_209_method_2_code 47 = .ok (.istore_n 3, 1) := by decide +kernel
theorem own_dmr48 : decode prog_209_method_2_code 48 = .ok (.iload_n 2, 1) := by decide +kernel
theorem own_dmr49 : decode prog_209_method_2_code 49 = .ok (.istore 4, 2) := by decide +kernel
theorem own_dmr51 : decode prog_209_method_2_code 51 = .ok (.iload 4, 2) := by decide +kernel
theorem own_dmr53 : decode prog_209_method_2_code 53 = .ok (.iconst 1, 1) := by decide +kernel
theorem own_dmr54 : decode prog_209_method_2_code 54 = .ok (.if_icmp .le 16, 3) := by decide +kernel
theorem own_dmr57 : decode prog_209_method_2_code 57 = .ok (.iinc 3 1, 3) := by decide +kernel
theorem own_dmr60 : decode prog_209_method_2_code 60 = .ok (.iload 4, 2) := by decide +kernel
theorem own_dmr62 : decode prog_209_method_2_code 62 = .ok (.invokestatic 19, 3) := by decide +kernel
theorem own_dmr65 : decode prog_209_method_2_code 65 = .ok (.istore 4, 2) := by decide +kernel
theorem own_dmr67 : decode prog_209_method_2_code 67 = .ok (.goto (-16), 3) := by decide +kernel
theorem own_dmr70 : decode prog_209_method_2_code 70 = .ok (.aload_n 0, 1) := by decide +kernel
theorem own_dmr71 : decode prog_209_method_2_code 71 = .ok (.getfield 15, 3) := by decide +kernel
theorem own_dmr74 : decode prog_209_method_2_code 74 = .ok (.iload_n 2, 1) := by decide +kernel
theorem own_dmr75 : decode prog_209_method_2_code 75 = .ok (.invokestatic 19, 3) := by decide +kernel
theorem own_dmr78 : decode prog_209_method_2_code 78 = .ok (.invokestatic 37, 3) := by decide +kernel
theorem own_dmr81 : decode prog_209_method_2_code 81 = .ok (.astore 4, 2) := by decide +kernel
theorem own_dmr83 : decode prog_209_method_2_code 83 = .ok (.iload_n 3, 1) := by decide +kernel
theorem own_dmr84 : decode prog_209_method_2_code 84 = .ok (.anewarray 9, 3) := by decide +kernel
theorem own_dmr87 : decode prog_209_method_2_code 87 = .ok (.astore 5, 2) := by decide +kernel
theorem own_dmr89 : decode prog_209_method_2_code 89 = .ok (.iconst 0, 1) := by decide +kernel
theorem own_dmr90 : decode prog_209_method_2_code 90 = .ok (.istore 6, 2) := by decide +kernel
theorem own_dmr92 : decode prog_209_method_2_code 92 = .ok (.iload 6, 2) := by decide +kernel
theorem own_dmr94 : decode prog_209_method_2_code 94 = .ok (.iload_n 3, 1) := by decide +kernel
theorem own_dmr95 : decode prog_209_method_2_code 95 = .ok (.if_icmp .ge 77, 3) := by decide +kernel
theorem own_dmr98 : decode prog_209_method_2_code 98 = .ok (.iload 6, 2) := by decide +kernel
theorem own_dmr100 : decode prog_209_method_2_code 100 = .ok (.aload_n 0, 1) := by decide +kernel
theorem own_dmr101 : decode prog_209_method_2_code 101 = .ok (.getfield 11, 3) := by decide +kernel
theorem own_dmr104 : decode prog_209_method_2_code 104 = .ok (.arraylength, 1) := by decide +kernel
theorem own_dmr105 : decode prog_209_method_2_code 105 = .ok (.if_icmp .ge 22, 3) := by decide +kernel
theorem own_dmr108 : decode prog_209_method_2_code 108 = .ok (.aload 5, 2) := by decide +kernel
theorem own_dmr110 : decode prog_209_method_2_code 110 = .ok (.iload 6, 2) := by decide +kernel
theorem own_dmr112 : decode prog_209_method_2_code 112 = .ok (.aload_n 0, 1) := by decide +kernel
theorem own_dmr113 : decode prog_209_method_2_code 113 = .ok (.getfield 11, 3) := by decide +kernel
theorem own_dmr116 : decode prog_209_method_2_code 116 = .ok (.iload 6, 2) := by decide +kernel
theorem own_dmr118 : decode prog_209_method_2_code 118 = .ok (.aaload, 1) := by decide +kernel
theorem own_dmr119 : decode prog_209_method_2_code 119 = .ok (.iload_n 2, 1) := by decide +kernel
theorem own_dmr120 : decode prog_209_method_2_code 120 = .ok (.invokestatic 43, 3) := by decide +kernel
theorem own_dmr123 : decode prog_209_method_2_code 123 = .ok (.aastore, 1) := by decide +kernel
theorem own_dmr124 : decode prog_209_method_2_code 124 = .ok (.goto 37, 3) := by decide +kernel
theorem own_dmr127 : decode prog_209_method_2_code 127 = .ok (.aload 5, 2) := by decide +kernel
theorem own_dmr129 : decode prog_209_method_2_code 129 = .ok (.iload 6, 2) := by decide +kernel
theorem own_dmr131 : decode prog_209_method_2_code 131 = .ok (.iload_n 2, 1) := by decide +kernel
theorem own_dmr132 : decode prog_209_method_2_code 132 = .ok (.newarray .long, 2) := by decide +kernel
theorem own_dmr134 : decode prog_209_method_2_code 134 = .ok (.aastore, 1) := by decide +kernel
theorem own_dmr135 : decode prog_209_method_2_code 135 = .ok (.aload 5, 2) := by decide +kernel
theorem own_dmr137 : decode prog_209_method_2_code 137 = .ok (.iload 6, 2) := by decide +kernel
theorem own_dmr139 : decode prog_209_method_2_code 139 = .ok (.aaload, 1) := by decide +kernel
theorem own_dmr140 : decode prog_209_method_2_code 140 = .ok (.iconst 0, 1) := by decide +kernel
theorem own_dmr141 : decode prog_209_method_2_code 141 = .ok (.aload 5, 2) := by decide +kernel
theorem own_dmr143 : decode prog_209_method_2_code 143 = .ok (.iload 6, 2) := by decide +kernel
theorem own_dmr145 : decode prog_209_method_2_code 145 = .ok (.iconst 1, 1) := by decide +kernel
theorem own_dmr146 : decode prog_209_method_2_code 146 = .ok (.isub, 1) := by decide +kernel
theorem own_dmr147 : decode prog_209_method_2_code 147 = .ok (.aaload, 1) := by decide +kernel
theorem own_dmr148 : decode prog_209_method_2_code 148 = .ok (.iconst 0, 1) := by decide +kernel
theorem own_dmr149 : decode prog_209_method_2_code 149 = .ok (.laload, 1) := by decide +kernel
theorem own_dmr150 : decode prog_209_method_2_code 150 = .ok (.lconst 0, 1) := by decide +kernel
theorem own_dmr151 : decode prog_209_method_2_code 151 = .ok (.lcmp, 1) := by decide +kernel
theorem own_dmr152 : decode prog_209_method_2_code 152 = .ok (.ifCond .ne 7, 3) := by decide +kernel
theorem own_dmr155 : decode prog_209_method_2_code 155 = .ok (.lconst 0, 1) := by decide +kernel
theorem own_dmr156 : decode prog_209_method_2_code 156 = .ok (.goto 4, 3) := by decide +kernel
theorem own_dmr159 : decode prog_209_method_2_code 159 = .ok (.lconst 1, 1) := by decide +kernel
theorem own_dmr160 : decode prog_209_method_2_code 160 = .ok (.lastore, 1) := by decide +kernel
theorem own_dmr161 : decode prog_209_method_2_code 161 = .ok (.iload_n 2, 1) := by decide +kernel
theorem own_dmr162 : decode prog_209_method_2_code 162 = .ok (.invokestatic 19, 3) := by decide +kernel
theorem own_dmr165 : decode prog_209_method_2_code 165 = .ok (.istore_n 2, 1) := by decide +kernel
theorem own_dmr166 : decode prog_209_method_2_code 166 = .ok (.iinc 6 1, 3) := by decide +kernel
theorem own_dmr169 : decode prog_209_method_2_code 169 = .ok (.goto (-77), 3) := by decide +kernel
theorem own_dmr172 : decode prog_209_method_2_code 172 = .ok (.aload_n 0, 1) := by decide +kernel
theorem own_dmr173 : decode prog_209_method_2_code 173 = .ok (.aload 5, 2) := by decide +kernel
theorem own_dmr175 : decode prog_209_method_2_code 175 = .ok (.putfield 11, 3) := by decide +kernel
theorem own_dmr178 : decode prog_209_method_2_code 178 = .ok (.aload_n 0, 1) := by decide +kernel
theorem own_dmr179 : decode prog_209_method_2_code 179 = .ok (.aload 4, 2) := by decide +kernel
theorem own_dmr181 : decode prog_209_method_2_code 181 = .ok (.putfield 15, 3) := by decide +kernel
theorem own_dmr184 : decode prog_209_method_2_code 184 = .ok (.return_, 1) := by decide +kernel
theorem own_mkr_pn : plainName "com/example/coersa/coersa/PlaceSet" = true := by first | (simp [plainName, overriddenIn]; done) | decide +kernel
theorem own_mkr_ef (m : MethodId) (ps : Addr) (q : Int32) : entryFrame m #[(.ref ps), (.int q)] 7 = mkF m 0 #[.val (.ref ps), .val (.int q), .unset, .unset, .unset, .unset, .unset] [] := by first | (simp [entryFrame, mkF, argsToLocals, Value.category]; done) | rfl
def own_mkr_Q (Z : State) (ps : Addr) (q : Int32) (B en : Nat) (lv bc : Addr) (K : Nat) (ls : Nat → Addr) (N : Nat → Nat) (f : Nat → Nat → Int64) (M : Nat) (g : Nat → Int32) (h0 : Heap) (n0 : Nat) (v : Option Value) (h : Heap) (L : List Loc) : Prop := v = none ∧ Fr n0 L ∧ own_Kb n0 h0 h ∧ ∃ (lv' bc' : Addr) (K' : Nat) (ls' : Nat → Addr) (N' : Nat → Nat) (f' : Nat → Nat → Int64) (M' : Nat) (g' : Nat → Int32), own_PS Z n0 h ps lv' bc' K' ls' N' f' M' g' ∧ own_GR en K N f M g K' N' f' M' g'
set_option maxRecDepth 65536 in
set_option maxHeartbeats 40000000 in
theorem own_mkr (l : Launch) (Z : State) (a0 : Array Value) (hw : ∀ d ∈ tables_1, d.before a0 Z = true) (ws : List Jvm.Cond) (ps : Addr) (q : Int32) (B en : Nat) (lv bc : Addr) (K : Nat) (ls : Nat → Addr) (N : Nat → Nat) (f : Nat → Nat → Int64) (M : Nat) (g : Nat → Int32) (h0 : Heap) (n0 : Nat) (Z0 : n0 ≤ h0.size) (hq : q = Int32.ofNat en) (hen : en ≤ 262144) (hKa : 1 ≤ K) (hKb : K ≤ 4) (hM : M = own_wf (N 0)) (hNi : ∀ l, l < K → N l = own_it (N 0) l) (hN1 : 1 ≤ N 0) (hN8 : N 0 ≤ 8192) (hB : N 0 < own_wf en → own_wf (own_gr en (N 0)) + 4 + (own_gr en (N 0) + 131) ≤ B) (P : own_PS Z n0 h0 ps lv bc K ls N f M g) :
  MetFree l (⟨"com/example/coersa/coersa/PlaceSet", "makeRoom", "(I)V"⟩ : MethodName) (head1 (Jvm.Cond.code (⟨"com/example/coersa/coersa/PlaceSet", "makeRoom", "(I)V"⟩ : MethodName) prog_209_method_2_code 7 none :: ws) ({ frames := 2, cells := 6, slots := B, locals := 72 } : Room)) (fun ars U => ars = #[(.ref ps), (.int q)] ∧ Z.Warmed39 U.vm ∧ U.heap = h0) (fun _ _ _ _ _ => True) (fun _ U o U' => ∃ v L, o = .returned v ∧ own_mkr_Q Z ps q B en lv bc K ls N f M g h0 n0 v U'.heap L ∧ FrameEnd U o U' L ({ frames := 2, cells := 6, slots := B, locals := 72 } : Room).cells ({ frames := 2, cells := 6, slots := B, locals := 72 } : Room).slots) := by
 refine MetFree.of_bodySF (plainFor_of_name own_mkr_pn) hisR ?_
 intro p e s m args below meth c s₁ Bd hml0 hP hK
 obtain ⟨rfl, hZ, hh⟩ := hP
 have hx := Bd.exec
 have hby := Bd.bytes
 have hml : c.maxLocals = 7 := hml0
 have hown : s.vm.findClass "com/example/coersa/coersa/PlaceSet" = some m.cls := findClass_of_methodNamed Bd.named
 have hnm := (name_of_methodNamed Bd.named Bd.method).1
 have X0 : Stand p l e ({ frames := 2, cells := 6, slots := B, locals := 72 } : Room) s m #[(.ref ps), (.int q)] below meth c s₁ [] 0 0 := Stand.of_body Bd
 have e0 : s₁.heap = h0 := by rw [← hh, Bd.state]; rfl
 have N0 := Fr.nil n0
 generalize hS0 : s₁.setTop (entryFrame m #[(.ref ps), (.int q)] 7) = S0
 have c0 : Steps p.tables e below S0 (s₁.setTop (mkF m 0 #[.val (.ref ps), .val (.int q), .unset, .unset, .unset, .unset, .unset] [])) := by rw [← hS0]; exact castTop (own_mkr_ef m ps q) (Steps.refl _)
 have K0 : Keep h0 h0 [ps] := Keep.refl _ _
 subst hq
 have hen31 : en < 2 ^ 31 := by omega
 have hwe : own_wf en ≤ 4096 := own_wf_le (by omega) (by decide)
 have P0 := P
 obtain ⟨p1, p2, p3, p4, p5, p6, p7, p8, p9, p10⟩ := P
 have EX0 := own_ext_refl h0
 have c1 : Steps p.tables e below S0 (s₁.setTop (mkF m 1 #[.val (.ref ps), .val (.int (Int32.ofNat en)), .unset, .unset, .unset, .unset, .unset] [(.int (Int32.ofNat en))])) := c0.trans (by
  refine XS.iloadN X0.here hx rfl (hb hby own_dmr0) rfl ?_
  exact Steps.refl _)
 obtain ⟨_, _, ⟨T2, L2, k2, n2⟩, -, X2, ⟨Lc2, hQ2, l2, y2, z2⟩, st2⟩ := Jvm.LawKit.callS X0 hx (y := (⟨"com/example/coersa/coersa/PlaceSet", "wordsFor", "(I)I"⟩ : MethodName)) hown (mvT hZ (hw _ (own_m 34 rfl))) (mvT hZ (hw _ (own_m 35 rfl))) (mvT hZ (hw _ (own_m 9 rfl))) (mvT hZ (hw _ (own_m 36 rfl))) (by decide) (backOf (W := 0) (own_wfm l Z a0 hw [] (Int32.ofNat en) en h0 n0 (Nat.le_trans Z0 K0.1) hen31 rfl) hZ (hw _ (own_m 36 rfl)) (hw _ (own_m 9 rfl)) (Nat.le_of_ble_eq_true rfl) (Nat.le_of_ble_eq_true rfl)) (g := (mkF m 1 #[.val (.ref ps), .val (.int (Int32.ofNat en)), .unset, .unset, .unset, .unset, .unset] [(.int (Int32.ofNat en))])) rfl (by rw [hml]; rfl) (argsL := [(.int (Int32.ofNat en))]) (rest := []) (lenOf own_pd0 rfl) rfl (by show 2 * 0 + _ ≤ _; exact Nat.le_of_eq rfl) (hb hby own_dmr1) (fun _ _ => ⟨rfl, e0, (Nat.le_of_ble_eq_true rfl), (Nat.zero_le _)⟩)
 dsimp only [Pt.U, Pt.locs, Pt.cells, Pt.slots] at X2 l2 y2 z2 st2 hQ2
 subst l2 y2 z2
 obtain ⟨rfl, N2q, ewa⟩ := hQ2
 have N2 := Fr.app N0 N2q
 obtain ⟨T5, X5, e5, st5⟩ := getF X2 hx hZ hown (host := "") (Or.inl (hw _ (own_m 20 rfl))) Via.refl ewa p2 (g := (mkF m 5 #[.val (.ref ps), .val (.int (Int32.ofNat en)), .unset, .unset, .unset, .unset, .unset] [(.ref ps), (.int (Int32.ofNat (own_wf en)))])) rfl rfl (hb hby own_dmr5)
 have Rqa := p4
 obtain ⟨cva, Ava, Ova, Sva, Hva⟩ := Rqa
 obtain ⟨cwa, Awa, -, Swa, -⟩ := p5 0 hKa
 have c9 : Steps p.tables e below S0 (T5.setTop (mkF m 11 #[.val (.ref ps), .val (.int (Int32.ofNat en)), .unset, .unset, .unset, .unset, .unset] [(.int (Int32.ofNat (N 0))), (.int (Int32.ofNat (own_wf en)))])) := c1.trans (by
  refine st2 _ ?_
  show Steps _ _ _ (.setTop _ (mkF _ 4 _ _)) _
  refine XS.aloadN X2.here hx rfl (hb hby own_dmr4) rfl rfl ?_
  show Steps _ _ _ (.setTop _ (mkF _ 5 _ _)) _
  refine st5 _ ?_
  show Steps _ _ _ (.setTop _ (mkF _ 8 _ _)) _
  refine XS.iconst X5.here hx rfl (hb hby own_dmr8) ?_
  show Steps _ _ _ (.setTop _ (mkF _ 9 _ _)) _
  refine X5.aaload hx (j := (0 : Int32)) (v := (.ref (ls 0))) (by rw [e5]; exact Ava.1) (State.isArrayOf_alike hZ.alike Ava.2.1) rfl Ava.2.2 (own_inb (j := 0) Sva hKa (by omega)) (Hva 0 hKa) (g := (mkF m 9 #[.val (.ref ps), .val (.int (Int32.ofNat en)), .unset, .unset, .unset, .unset, .unset] [(.int (0 : Int32)), (.ref lv), (.int (Int32.ofNat (own_wf en)))])) rfl rfl (hb hby own_dmr9) _ ?_
  show Steps _ _ _ (.setTop _ (mkF _ 10 _ _)) _
  refine X5.arraylength hx (by rw [e5]; exact Awa.1) (State.isArrayOf_alike hZ.alike Awa.2.1) (g := (mkF m 10 #[.val (.ref ps), .val (.int (Int32.ofNat en)), .unset, .unset, .unset, .unset, .unset] [(.ref (ls 0)), (.int (Int32.ofNat (own_wf en)))])) rfl rfl (hb hby own_dmr10) _ ?_
  rw [show cwa.slots.size.toInt32 = Int32.ofNat (N 0) by rw [Swa]]
  exact Steps.refl _)
 by_cases hgt : (Int32.ofNat (N 0)) < (Int32.ofNat (own_wf en))
 ·have hlt : N 0 < own_wf en := (own_ilt (by omega) (by omega)).mp hgt
  have hBB := hB hlt
  have c11 : Steps p.tables e below S0 (T5.setTop (mkF m 16 #[.val (.ref ps), .val (.int (Int32.ofNat en)), .unset, .unset, .unset, .unset, .unset] [(.int (Int32.ofNat en))])) := c9.trans (by
   refine XS.icmpYes X5.here hx rfl (pc0 := 11) (pc' := 15) rfl (hb hby own_dmr11) rfl (tlt hgt).2.2.1 (by decide) (by decide) ?_
   show Steps _ _ _ (.setTop _ (mkF _ 15 _ _)) _
   refine XS.iloadN X5.here hx rfl (hb hby own_dmr15) rfl ?_
   exact Steps.refl _)
  obtain ⟨_, _, ⟨T12, L12, k12, n12⟩, -, X12, ⟨Lc12, hQ12, l12, y12, z12⟩, st12⟩ := Jvm.LawKit.callS X5 hx (y := (⟨"com/example/coersa/coersa/PlaceSet", "wordsFor", "(I)I"⟩ : MethodName)) hown (mvT hZ (hw _ (own_m 34 rfl))) (mvT hZ (hw _ (own_m 35 rfl))) (mvT hZ (hw _ (own_m 9 rfl))) (mvT hZ (hw _ (own_m 36 rfl))) (by decide) (backOf (W := 0) (own_wfm l Z a0 hw [] (Int32.ofNat en) en h0 n0 (Nat.le_trans Z0 K0.1) hen31 rfl) hZ (hw _ (own_m 36 rfl)) (hw _ (own_m 9 rfl)) (Nat.le_of_ble_eq_true rfl) (Nat.le_of_ble_eq_true rfl)) (g := (mkF m 16 #[.val (.ref ps), .val (.int (Int32.ofNat en)), .unset, .unset, .unset, .unset, .unset] [(.int (Int32.ofNat en))])) rfl (by rw [hml]; rfl) (argsL := [(.int (Int32.ofNat en))]) (rest := []) (lenOf own_pd0 rfl) rfl (by show 2 * 0 + _ ≤ _; exact Nat.le_of_eq rfl) (hb hby own_dmr16) (fun _ _ => ⟨rfl, e5, (Nat.le_of_ble_eq_true rfl), (Nat.zero_le _)⟩)
  dsimp only [Pt.U, Pt.locs, Pt.cells, Pt.slots] at X12 l12 y12 z12 st12 hQ12
  subst l12 y12 z12
  obtain ⟨rfl, N12q, ewb⟩ := hQ12
  have N12 := Fr.app N2 N12q
  obtain ⟨T15, X15, e15, st15⟩ := getF X12 hx hZ hown (host := "") (Or.inl (hw _ (own_m 20 rfl))) Via.refl ewb p2 (g := (mkF m 24 #[.val (.ref ps), .val (.int (Int32.ofNat en)), .unset, .unset, .unset, .unset, .unset] [(.ref ps), (.long (2 : Int64)), (.long ((Int32.ofNat (own_wf en)).toInt64))])) rfl rfl (hb hby own_dmr24)
  have Rqb := p4
  obtain ⟨cvb, Avb, Ovb, Svb, Hvb⟩ := Rqb
  obtain ⟨cwb, Awb, -, Swb, -⟩ := p5 0 hKa
  have c20 : Steps p.tables e below S0 (T15.setTop (mkF m 32 #[.val (.ref ps), .val (.int (Int32.ofNat en)), .unset, .unset, .unset, .unset, .unset] [(.long ((2 : Int64) * ((Int32.ofNat (N 0)).toInt64))), (.long ((Int32.ofNat (own_wf en)).toInt64))])) := c11.trans (by
   refine st12 _ ?_
   show Steps _ _ _ (.setTop _ (mkF _ 19 _ _)) _
   refine XS.i2l X12.here hx rfl (hb hby own_dmr19) rfl ?_
   show Steps _ _ _ (.setTop _ (mkF _ 20 _ _)) _
   refine X12.ldc2Long hx hown (mvT hZ (hw _ (own_m 86 rfl))) (g := (mkF m 20 #[.val (.ref ps), .val (.int (Int32.ofNat en)), .unset, .unset, .unset, .unset, .unset] [(.long ((Int32.ofNat (own_wf en)).toInt64))])) rfl (hb hby own_dmr20) _ ?_
   show Steps _ _ _ (.setTop _ (mkF _ 23 _ _)) _
   refine XS.aloadN X12.here hx rfl (hb hby own_dmr23) rfl rfl ?_
   show Steps _ _ _ (.setTop _ (mkF _ 24 _ _)) _
   refine st15 _ ?_
   show Steps _ _ _ (.setTop _ (mkF _ 27 _ _)) _
   refine XS.iconst X15.here hx rfl (hb hby own_dmr27) ?_
   show Steps _ _ _ (.setTop _ (mkF _ 28 _ _)) _
   refine X15.aaload hx (j := (0 : Int32)) (v := (.ref (ls 0))) (by rw [e15]; exact Avb.1) (State.isArrayOf_alike hZ.alike Avb.2.1) rfl Avb.2.2 (own_inb (j := 0) Svb hKa (by omega)) (Hvb 0 hKa) (g := (mkF m 28 #[.val (.ref ps), .val (.int (Int32.ofNat en)), .unset, .unset, .unset, .unset, .unset] [(.int (0 : Int32)), (.ref lv), (.long (2 : Int64)), (.long ((Int32.ofNat (own_wf en)).toInt64))])) rfl rfl (hb hby own_dmr28) _ ?_
   show Steps _ _ _ (.setTop _ (mkF _ 29 _ _)) _
   refine X15.arraylength hx (by rw [e15]; exact Awb.1) (State.isArrayOf_alike hZ.alike Awb.2.1) (g := (mkF m 29 #[.val (.ref ps), .val (.int (Int32.ofNat en)), .unset, .unset, .unset, .unset, .unset] [(.ref (ls 0)), (.long (2 : Int64)), (.long ((Int32.ofNat (own_wf en)).toInt64))])) rfl rfl (hb hby own_dmr29) _ ?_
   rw [show cwb.slots.size.toInt32 = Int32.ofNat (N 0) by rw [Swb]]
   show Steps _ _ _ (.setTop _ (mkF _ 30 _ _)) _
   refine XS.i2l X15.here hx rfl (hb hby own_dmr30) rfl ?_
   show Steps _ _ _ (.setTop _ (mkF _ 31 _ _)) _
   refine XS.lmul X15.here hx rfl (hb hby own_dmr31) rfl ?_
   exact Steps.refl _)
  obtain ⟨_, _, ⟨T21, L21, k21, n21⟩, -, X21, ⟨Lc21, hQ21, l21, y21, z21⟩, st21⟩ := Jvm.LawKit.callS X15 hx (y := (⟨"java/lang/Math", "max", "(JJ)J"⟩ : MethodName)) hown (mvT hZ (hw _ (own_m 87 rfl))) (mvT hZ (hw _ (own_m 88 rfl))) (mvT hZ (hw _ (own_m 42 rfl))) (mvT hZ (hw _ (own_m 89 rfl))) (by decide) (backOf (W := 0) (own_maxJ l Z a0 hw [] ((Int32.ofNat (own_wf en)).toInt64) ((2 : Int64) * ((Int32.ofNat (N 0)).toInt64)) h0 n0 Z0) hZ (hw _ (own_m 89 rfl)) (hw _ (own_m 42 rfl)) (Nat.le_of_ble_eq_true rfl) (Nat.le_of_ble_eq_true rfl)) (g := (mkF m 32 #[.val (.ref ps), .val (.int (Int32.ofNat en)), .unset, .unset, .unset, .unset, .unset] [(.long ((2 : Int64) * ((Int32.ofNat (N 0)).toInt64))), (.long ((Int32.ofNat (own_wf en)).toInt64))])) rfl (by rw [hml]; rfl) (argsL := [(.long ((Int32.ofNat (own_wf en)).toInt64)), (.long ((2 : Int64) * ((Int32.ofNat (N 0)).toInt64)))]) (rest := []) (lenOf own_pd2 rfl) rfl (by show 2 * 0 + _ ≤ _; exact Nat.le_of_eq rfl) (hb hby own_dmr32) (fun _ _ => ⟨rfl, e15, (Nat.le_of_ble_eq_true rfl), (Nat.zero_le _)⟩)
  dsimp only [Pt.U, Pt.locs, Pt.cells, Pt.slots] at X21 l21 y21 z21 st21 hQ21
  subst l21 y21 z21
  obtain ⟨rfl, N21q, emx⟩ := hQ21
  have N21 := Fr.app N12 N21q
  have c23 : Steps p.tables e below S0 (T21.setTop (mkF m 37 #[.val (.ref ps), .val (.int (Int32.ofNat en)), .unset, .unset, .unset, .unset, .unset] [(.int (2147483647 : Int32)), (.long (if ((Int32.ofNat (own_wf en)).toInt64) < ((2 : Int64) * ((Int32.ofNat (N 0)).toInt64)) then ((2 : Int64) * ((Int32.ofNat (N 0)).toInt64)) else ((Int32.ofNat (own_wf en)).toInt64)))])) := c20.trans (by
   refine st21 _ ?_
   show Steps _ _ _ (.setTop _ (mkF _ 35 _ _)) _
   refine X21.ldcInt hx hown (mvT hZ (hw _ (own_m 90 rfl))) (g := (mkF m 35 #[.val (.ref ps), .val (.int (Int32.ofNat en)), .unset, .unset, .unset, .unset, .unset] [(.long (if ((Int32.ofNat (own_wf en)).toInt64) < ((2 : Int64) * ((Int32.ofNat (N 0)).toInt64)) then ((2 : Int64) * ((Int32.ofNat (N 0)).toInt64)) else ((Int32.ofNat (own_wf en)).toInt64)))])) rfl (hb hby own_dmr35) _ ?_
   exact Steps.refl _)
  obtain ⟨_, _, ⟨T24, L24, k24, n24⟩, -, X24, ⟨Lc24, hQ24, l24, y24, z24⟩, st24⟩ := Jvm.LawKit.callS X21 hx (y := (⟨"com/example/coersa/coersa/PlaceSet", "wordsFor", "(I)I"⟩ : MethodName)) hown (mvT hZ (hw _ (own_m 34 rfl))) (mvT hZ (hw _ (own_m 35 rfl))) (mvT hZ (hw _ (own_m 9 rfl))) (mvT hZ (hw _ (own_m 36 rfl))) (by decide) (backOf (W := 2) (own_wfm l Z a0 hw [] 2147483647 2147483647 h0 n0 (Nat.le_trans Z0 K0.1) (by decide) rfl) hZ (hw _ (own_m 36 rfl)) (hw _ (own_m 9 rfl)) (Nat.le_of_ble_eq_true rfl) (Nat.le_of_ble_eq_true rfl)) (g := (mkF m 37 #[.val (.ref ps), .val (.int (Int32.ofNat en)), .unset, .unset, .unset, .unset, .unset] [(.int (2147483647 : Int32)), (.long (if ((Int32.ofNat (own_wf en)).toInt64) < ((2 : Int64) * ((Int32.ofNat (N 0)).toInt64)) then ((2 : Int64) * ((Int32.ofNat (N 0)).toInt64)) else ((Int32.ofNat (own_wf en)).toInt64)))])) rfl (by rw [hml]; rfl) (argsL := [(.int (2147483647 : Int32))]) (rest := [(.long (if ((Int32.ofNat (own_wf en)).toInt64) < ((2 : Int64) * ((Int32.ofNat (N 0)).toInt64)) then ((2 : Int64) * ((Int32.ofNat (N 0)).toInt64)) else ((Int32.ofNat (own_wf en)).toInt64)))]) (lenOf own_pd0 rfl) rfl (by show 2 * 0 + _ ≤ _; exact Nat.le_of_eq rfl) (hb hby own_dmr37) (fun _ _ => ⟨rfl, emx, (Nat.le_of_ble_eq_true rfl), (Nat.zero_le _)⟩)
  dsimp only [Pt.U, Pt.locs, Pt.cells, Pt.slots] at X24 l24 y24 z24 st24 hQ24
  subst l24 y24 z24
  obtain ⟨rfl, N24q, ewc⟩ := hQ24
  have N24 := Fr.app N21 N24q
  have c26 : Steps p.tables e below S0 (T24.setTop (mkF m 41 #[.val (.ref ps), .val (.int (Int32.ofNat en)), .unset, .unset, .unset, .unset, .unset] [(.long ((Int32.ofNat (own_wf 2147483647)).toInt64)), (.long (if ((Int32.ofNat (own_wf en)).toInt64) < ((2 : Int64) * ((Int32.ofNat (N 0)).toInt64)) then ((2 : Int64) * ((Int32.ofNat (N 0)).toInt64)) else ((Int32.ofNat (own_wf en)).toInt64)))])) := c23.trans (by
   refine st24 _ ?_
   show Steps _ _ _ (.setTop _ (mkF _ 40 _ _)) _
   refine XS.i2l X24.here hx rfl (hb hby own_dmr40) rfl ?_
   exact Steps.refl _)
  obtain ⟨_, _, ⟨T27, L27, k27, n27⟩, -, X27, ⟨Lc27, hQ27, l27, y27, z27⟩, st27⟩ := Jvm.LawKit.callS X24 hx (y := (⟨"java/lang/Math", "min", "(JJ)J"⟩ : MethodName)) hown (mvT hZ (hw _ (own_m 91 rfl))) (mvT hZ (hw _ (own_m 92 rfl))) (mvT hZ (hw _ (own_m 42 rfl))) (mvT hZ (hw _ (own_m 93 rfl))) (by decide) (backOf (W := 0) (own_minJ l Z a0 hw [] (if ((Int32.ofNat (own_wf en)).toInt64) < ((2 : Int64) * ((Int32.ofNat (N 0)).toInt64)) then ((2 : Int64) * ((Int32.ofNat (N 0)).toInt64)) else ((Int32.ofNat (own_wf en)).toInt64)) ((Int32.ofNat (own_wf 2147483647)).toInt64) h0 n0 Z0) hZ (hw _ (own_m 93 rfl)) (hw _ (own_m 42 rfl)) (Nat.le_of_ble_eq_true rfl) (Nat.le_of_ble_eq_true rfl)) (g := (mkF m 41 #[.val (.ref ps), .val (.int (Int32.ofNat en)), .unset, .unset, .unset, .unset, .unset] [(.long ((Int32.ofNat (own_wf 2147483647)).toInt64)), (.long (if ((Int32.ofNat (own_wf en)).toInt64) < ((2 : Int64) * ((Int32.ofNat (N 0)).toInt64)) then ((2 : Int64) * ((Int32.ofNat (N 0)).toInt64)) else ((Int32.ofNat (own_wf en)).toInt64)))])) rfl (by rw [hml]; rfl) (argsL := [(.long (if ((Int32.ofNat (own_wf en)).toInt64) < ((2 : Int64) * ((Int32.ofNat (N 0)).toInt64)) then ((2 : Int64) * ((Int32.ofNat (N 0)).toInt64)) else ((Int32.ofNat (own_wf en)).toInt64))), (.long ((Int32.ofNat (own_wf 2147483647)).toInt64))]) (rest := []) (lenOf own_pd2 rfl) rfl (by show 2 * 0 + _ ≤ _; exact Nat.le_of_eq rfl) (hb hby own_dmr41) (fun _ _ => ⟨rfl, ewc, (Nat.le_of_ble_eq_true rfl), (Nat.zero_le _)⟩)
  dsimp only [Pt.U, Pt.locs, Pt.cells, Pt.slots] at X27 l27 y27 z27 st27 hQ27
  subst l27 y27 z27
  obtain ⟨rfl, N27q, emn⟩ := hQ27
  have N27 := Fr.app N24 N27q
  have c29 : Steps p.tables e below S0 (T27.setTop (mkF m 45 #[.val (.ref ps), .val (.int (Int32.ofNat en)), .unset, .unset, .unset, .unset, .unset] [(.int ((if ((Int32.ofNat (own_wf 2147483647)).toInt64) < (if ((Int32.ofNat (own_wf en)).toInt64) < ((2 : Int64) * ((Int32.ofNat (N 0)).toInt64)) then ((2 : Int64) * ((Int32.ofNat (N 0)).toInt64)) else ((Int32.ofNat (own_wf en)).toInt64)) then ((Int32.ofNat (own_wf 2147483647)).toInt64) else (if ((Int32.ofNat (own_wf en)).toInt64) < ((2 : Int64) * ((Int32.ofNat (N 0)).toInt64)) then ((2 : Int64) * ((Int32.ofNat (N 0)).toInt64)) else ((Int32.ofNat (own_wf en)).toInt64))).toInt32))])) := c26.trans (by
   refine st27 _ ?_
   show Steps _ _ _ (.setTop _ (mkF _ 44 _ _)) _
   refine XS.l2i X27.here hx rfl (hb hby own_dmr44) rfl ?_
   exact Steps.refl _)
  rw [own_grI (en := en) (n := N 0) (by omega) hN8] at c29
  obtain ⟨W, hWd⟩ : ∃ W, W = own_gr en (N 0) := ⟨_, rfl⟩
  rw [← hWd] at c29 hBB
  have hW2 : 2 ≤ W := by rw [hWd]; unfold own_gr; split <;> omega
  have hW8 : W ≤ 8192 := by rw [hWd]; unfold own_gr; split <;> omega
  have hWN : N 0 ≤ W := by rw [hWd]; unfold own_gr; split <;> omega
  have hw1 : own_wf W ≤ 128 := (own_it_le hW8).2.1
  have hw2 : own_wf (own_wf W) ≤ 2 := (own_it_le hW8).2.2.1
  have hw3 : own_wf (own_wf (own_wf W)) ≤ 1 := (own_it_le hW8).2.2.2
  have c30 : Steps p.tables e below S0 (T27.setTop (mkF m 51 #[.val (.ref ps), .val (.int (Int32.ofNat en)), .val (.int (Int32.ofNat W)), .val (.int (1 : Int32)), .val (.int (Int32.ofNat W)), .unset, .unset] [])) := c29.trans (by
   refine XS.istoreN X27.here hx rfl (hb hby own_dmr45) rfl rfl ?_
   show Steps _ _ _ (.setTop _ (mkF _ 46 _ _)) _
   refine XS.iconst X27.here hx rfl (hb hby own_dmr46) ?_
   show Steps _ _ _ (.setTop _ (mkF _ 47 _ _)) _
   refine XS.istoreN X27.here hx rfl (hb hby own_dmr47) rfl rfl ?_
   show Steps _ _ _ (.setTop _ (mkF _ 48 _ _)) _
   refine XS.iloadN X27.here hx rfl (hb hby own_dmr48) rfl ?_
   show Steps _ _ _ (.setTop _ (mkF _ 49 _ _)) _
   refine XS.istore X27.here hx rfl (hb hby own_dmr49) rfl rfl ?_
   exact Steps.refl _)
  have key : ∃ (T9 : State) (L9 : List Loc) (z9 : Int32), Stand p l e ({ frames := 2, cells := 6, slots := B, locals := 72 } : Room) s m #[(.ref ps), (.int (Int32.ofNat en))] below meth c T9 L9 0 0 ∧ Fr n0 L9 ∧ T9.heap = h0 ∧ Steps p.tables e below S0 (T9.setTop (mkF m 70 #[.val (.ref ps), .val (.int (Int32.ofNat en)), .val (.int (Int32.ofNat W)), .val (.int (Int32.ofNat (own_cnt W))), .val (.int z9), .unset, .unset] [])) := by
   have c33 : Steps p.tables e below S0 (T27.setTop (mkF m 62 #[.val (.ref ps), .val (.int (Int32.ofNat en)), .val (.int (Int32.ofNat W)), .val (.int ((1 : Int32) + (1 : Int32))), .val (.int (Int32.ofNat W)), .unset, .unset] [(.int (Int32.ofNat W))])) := c30.trans (by
    refine XS.iload X27.here hx rfl (hb hby own_dmr51) rfl ?_
    show Steps _ _ _ (.setTop _ (mkF _ 53 _ _)) _
    refine XS.iconst X27.here hx rfl (hb hby own_dmr53) ?_
    show Steps _ _ _ (.setTop _ (mkF _ 54 _ _)) _
    refine XS.icmpNo X27.here hx rfl (hb hby own_dmr54) rfl (tlt (own_1lt (by omega) (by omega))).2.2.2 ?_
    show Steps _ _ _ (.setTop _ (mkF _ 57 _ _)) _
    refine XS.iinc X27.here hx rfl (hb hby own_dmr57) rfl rfl ?_
    show Steps _ _ _ (.setTop _ (mkF _ 60 _ _)) _
    refine XS.iload X27.here hx rfl (hb hby own_dmr60) rfl ?_
    exact Steps.refl _)
   obtain ⟨_, _, ⟨T34, L34, k34, n34⟩, -, X34, ⟨Lc34, hQ34, l34, y34, z34⟩, st34⟩ := Jvm.LawKit.callS X27 hx (y := (⟨"com/example/coersa/coersa/PlaceSet", "wordsFor", "(I)I"⟩ : MethodName)) hown (mvT hZ (hw _ (own_m 34 rfl))) (mvT hZ (hw _ (own_m 35 rfl))) (mvT hZ (hw _ (own_m 9 rfl))) (mvT hZ (hw _ (own_m 36 rfl))) (by decide) (backOf (W := 0) (own_wfm l Z a0 hw [] (Int32.ofNat W) W h0 n0 (Nat.le_trans Z0 K0.1) (by omega) rfl) hZ (hw _ (own_m 36 rfl)) (hw _ (own_m 9 rfl)) (Nat.le_of_ble_eq_true rfl) (Nat.le_of_ble_eq_true rfl)) (g := (mkF m 62 #[.val (.ref ps), .val (.int (Int32.ofNat en)), .val (.int (Int32.ofNat W)), .val (.int ((1 : Int32) + (1 : Int32))), .val (.int (Int32.ofNat W)), .unset, .unset] [(.int (Int32.ofNat W))])) rfl (by rw [hml]; rfl) (argsL := [(.int (Int32.ofNat W))]) (rest := []) (lenOf own_pd0 rfl) rfl (by show 2 * 0 + _ ≤ _; exact Nat.le_of_eq rfl) (hb hby own_dmr62) (fun _ _ => ⟨rfl, emn, (Nat.le_of_ble_eq_true rfl), (Nat.zero_le _)⟩)
   dsimp only [Pt.U, Pt.locs, Pt.cells, Pt.slots] at X34 l34 y34 z34 st34 hQ34
   subst l34 y34 z34
   obtain ⟨rfl, N34q, ewk1⟩ := hQ34
   have N34 := Fr.app N27 N34q
   have c37 : Steps p.tables e below S0 (T34.setTop (mkF m 54 #[.val (.ref ps), .val (.int (Int32.ofNat en)), .val (.int (Int32.ofNat W)), .val (.int ((1 : Int32) + (1 : Int32))), .val (.int (Int32.ofNat (own_wf W))), .unset, .unset] [(.int (1 : Int32)), (.int (Int32.ofNat (own_wf W)))])) := c33.trans (by
    refine st34 _ ?_
    show Steps _ _ _ (.setTop _ (mkF _ 65 _ _)) _
    refine XS.istore X34.here hx rfl (hb hby own_dmr65) rfl rfl ?_
    show Steps _ _ _ (.setTop _ (mkF _ 67 _ _)) _
    refine XS.goto X34.here hx rfl (pc0 := 67) (pc' := 51) rfl (hb hby own_dmr67) (by decide) (by decide) ?_
    show Steps _ _ _ (.setTop _ (mkF _ 51 _ _)) _
    refine XS.iload X34.here hx rfl (hb hby own_dmr51) rfl ?_
    show Steps _ _ _ (.setTop _ (mkF _ 53 _ _)) _
    refine XS.iconst X34.here hx rfl (hb hby own_dmr53) ?_
    exact Steps.refl _)
   by_cases hk2 : (1 : Int32) < (Int32.ofNat (own_wf W))
   ·have hk2' := own_1lt' (by omega) hk2
    have c39 : Steps p.tables e below S0 (T34.setTop (mkF m 62 #[.val (.ref ps), .val (.int (Int32.ofNat en)), .val (.int (Int32.ofNat W)), .val (.int (((1 : Int32) + (1 : Int32)) + (1 : Int32))), .val (.int (Int32.ofNat (own_wf W))), .unset, .unset] [(.int (Int32.ofNat (own_wf W)))])) := c37.trans (by
     refine XS.icmpNo X34.here hx rfl (hb hby own_dmr54) rfl (tlt hk2).2.2.2 ?_
     show Steps _ _ _ (.setTop _ (mkF _ 57 _ _)) _
     refine XS.iinc X34.here hx rfl (hb hby own_dmr57) rfl rfl ?_
     show Steps _ _ _ (.setTop _ (mkF _ 60 _ _)) _
     refine XS.iload X34.here hx rfl (hb hby own_dmr60) rfl ?_
     exact Steps.refl _)
    obtain ⟨_, _, ⟨T40, L40, k40, n40⟩, -, X40, ⟨Lc40, hQ40, l40, y40, z40⟩, st40⟩ := Jvm.LawKit.callS X34 hx (y := (⟨"com/example/coersa/coersa/PlaceSet", "wordsFor", "(I)I"⟩ : MethodName)) hown (mvT hZ (hw _ (own_m 34 rfl))) (mvT hZ (hw _ (own_m 35 rfl))) (mvT hZ (hw _ (own_m 9 rfl))) (mvT hZ (hw _ (own_m 36 rfl))) (by decide) (backOf (W := 0) (own_wfm l Z a0 hw [] (Int32.ofNat (own_wf W)) (own_wf W) h0 n0 (Nat.le_trans Z0 K0.1) (by omega) rfl) hZ (hw _ (own_m 36 rfl)) (hw _ (own_m 9 rfl)) (Nat.le_of_ble_eq_true rfl) (Nat.le_of_ble_eq_true rfl)) (g := (mkF m 62 #[.val (.ref ps), .val (.int (Int32.ofNat en)), .val (.int (Int32.ofNat W)), .val (.int (((1 : Int32) + (1 : Int32)) + (1 : Int32))), .val (.int (Int32.ofNat (own_wf W))), .unset, .unset] [(.int (Int32.ofNat (own_wf W)))])) rfl (by rw [hml]; rfl) (argsL := [(.int (Int32.ofNat (own_wf W)))]) (rest := []) (lenOf own_pd0 rfl) rfl (by show 2 * 0 + _ ≤ _; exact Nat.le_of_eq rfl) (hb hby own_dmr62) (fun _ _ => ⟨rfl, ewk1, (Nat.le_of_ble_eq_true rfl), (Nat.zero_le _)⟩)
    dsimp only [Pt.U, Pt.locs, Pt.cells, Pt.slots] at X40 l40 y40 z40 st40 hQ40
    subst l40 y40 z40
    obtain ⟨rfl, N40q, ewk2⟩ := hQ40
    have N40 := Fr.app N34 N40q
    have c43 : Steps p.tables e below S0 (T40.setTop (mkF m 54 #[.val (.ref ps), .val (.int (Int32.ofNat en)), .val (.int (Int32.ofNat W)), .val (.int (((1 : Int32) + (1 : Int32)) + (1 : Int32))), .val (.int (Int32.ofNat (own_wf (own_wf W)))), .unset, .unset] [(.int (1 : Int32)), (.int (Int32.ofNat (own_wf (own_wf W))))])) := c39.trans (by
     refine st40 _ ?_
     show Steps _ _ _ (.setTop _ (mkF _ 65 _ _)) _
     refine XS.istore X40.here hx rfl (hb hby own_dmr65) rfl rfl ?_
     show Steps _ _ _ (.setTop _ (mkF _ 67 _ _)) _
     refine XS.goto X40.here hx rfl (pc0 := 67) (pc' := 51) rfl (hb hby own_dmr67) (by decide) (by decide) ?_
     show Steps _ _ _ (.setTop _ (mkF _ 51 _ _)) _
     refine XS.iload X40.here hx rfl (hb hby own_dmr51) rfl ?_
     show Steps _ _ _ (.setTop _ (mkF _ 53 _ _)) _
     refine XS.iconst X40.here hx rfl (hb hby own_dmr53) ?_
     exact Steps.refl _)
    by_cases hk3 : (1 : Int32) < (Int32.ofNat (own_wf (own_wf W)))
    ·have hk3' := own_1lt' (by omega) hk3
     have c45 : Steps p.tables e below S0 (T40.setTop (mkF m 62 #[.val (.ref ps), .val (.int (Int32.ofNat en)), .val (.int (Int32.ofNat W)), .val (.int ((((1 : Int32) + (1 : Int32)) + (1 : Int32)) + (1 : Int32))), .val (.int (Int32.ofNat (own_wf (own_wf W)))), .unset, .unset] [(.int (Int32.ofNat (own_wf (own_wf W))))])) := c43.trans (by
      refine XS.icmpNo X40.here hx rfl (hb hby own_dmr54) rfl (tlt hk3).2.2.2 ?_
      show Steps _ _ _ (.setTop _ (mkF _ 57 _ _)) _
      refine XS.iinc X40.here hx rfl (hb hby own_dmr57) rfl rfl ?_
      show Steps _ _ _ (.setTop _ (mkF _ 60 _ _)) _
      refine XS.iload X40.here hx rfl (hb hby own_dmr60) rfl ?_
      exact Steps.refl _)
     obtain ⟨_, _, ⟨T46, L46, k46, n46⟩, -, X46, ⟨Lc46, hQ46, l46, y46, z46⟩, st46⟩ := Jvm.LawKit.callS X40 hx (y := (⟨"com/example/coersa/coersa/PlaceSet", "wordsFor", "(I)I"⟩ : MethodName)) hown (mvT hZ (hw _ (own_m 34 rfl))) (mvT hZ (hw _ (own_m 35 rfl))) (mvT hZ (hw _ (own_m 9 rfl))) (mvT hZ (hw _ (own_m 36 rfl))) (by decide) (backOf (W := 0) (own_wfm l Z a0 hw [] (Int32.ofNat (own_wf (own_wf W))) (own_wf (own_wf W)) h0 n0 (Nat.le_trans Z0 K0.1) (by omega) rfl) hZ (hw _ (own_m 36 rfl)) (hw _ (own_m 9 rfl)) (Nat.le_of_ble_eq_true rfl) (Nat.le_of_ble_eq_true rfl)) (g := (mkF m 62 #[.val (.ref ps), .val (.int (Int32.ofNat en)), .val (.int (Int32.ofNat W)), .val (.int ((((1 : Int32) + (1 : Int32)) + (1 : Int32)) + (1 : Int32))), .val (.int (Int32.ofNat (own_wf (own_wf W)))), .unset, .unset] [(.int (Int32.ofNat (own_wf (own_wf W))))])) rfl (by rw [hml]; rfl) (argsL := [(.int (Int32.ofNat (own_wf (own_wf W))))]) (rest := []) (lenOf own_pd0 rfl) rfl (by show 2 * 0 + _ ≤ _; exact Nat.le_of_eq rfl) (hb hby own_dmr62) (fun _ _ => ⟨rfl, ewk2, (Nat.le_of_ble_eq_true rfl), (Nat.zero_le _)⟩)
     dsimp only [Pt.U, Pt.locs, Pt.cells, Pt.slots] at X46 l46 y46 z46 st46 hQ46
     subst l46 y46 z46
     obtain ⟨rfl, N46q, ewk3⟩ := hQ46
     have N46 := Fr.app N40 N46q
     have c50 : Steps p.tables e below S0 (T46.setTop (mkF m 70 #[.val (.ref ps), .val (.int (Int32.ofNat en)), .val (.int (Int32.ofNat W)), .val (.int ((((1 : Int32) + (1 : Int32)) + (1 : Int32)) + (1 : Int32))), .val (.int (Int32.ofNat (own_wf (own_wf (own_wf W))))), .unset, .unset] [])) := c45.trans (by
      refine st46 _ ?_
      show Steps _ _ _ (.setTop _ (mkF _ 65 _ _)) _
      refine XS.istore X46.here hx rfl (hb hby own_dmr65) rfl rfl ?_
      show Steps _ _ _ (.setTop _ (mkF _ 67 _ _)) _
      refine XS.goto X46.here hx rfl (pc0 := 67) (pc' := 51) rfl (hb hby own_dmr67) (by decide) (by decide) ?_
      show Steps _ _ _ (.setTop _ (mkF _ 51 _ _)) _
      refine XS.iload X46.here hx rfl (hb hby own_dmr51) rfl ?_
      show Steps _ _ _ (.setTop _ (mkF _ 53 _ _)) _
      refine XS.iconst X46.here hx rfl (hb hby own_dmr53) ?_
      show Steps _ _ _ (.setTop _ (mkF _ 54 _ _)) _
      refine XS.icmpYes X46.here hx rfl (pc0 := 54) (pc' := 70) rfl (hb hby own_dmr54) rfl (flt (fun q => absurd (own_1lt' (by omega) q) (by omega))).2.2.2 (by decide) (by decide) ?_
      exact Steps.refl _)
     have hc4 : ((((1 : Int32) + (1 : Int32)) + (1 : Int32)) + (1 : Int32)) = Int32.ofNat (own_cnt W) := by rw [show own_cnt W = 4 by unfold own_cnt; rw [if_neg (by omega), if_neg (by omega)]]; rfl
     rw [hc4] at c50
     exact ⟨T46, _, _, X46, N46, ewk3, c50⟩
    ·have c51 : Steps p.tables e below S0 (T40.setTop (mkF m 70 #[.val (.ref ps), .val (.int (Int32.ofNat en)), .val (.int (Int32.ofNat W)), .val (.int (((1 : Int32) + (1 : Int32)) + (1 : Int32))), .val (.int (Int32.ofNat (own_wf (own_wf W)))), .unset, .unset] [])) := c43.trans (by
      refine XS.icmpYes X40.here hx rfl (pc0 := 54) (pc' := 70) rfl (hb hby own_dmr54) rfl (flt hk3).2.2.2 (by decide) (by decide) ?_
      exact Steps.refl _)
     have hc3 : (((1 : Int32) + (1 : Int32)) + (1 : Int32)) = Int32.ofNat (own_cnt W) := by rw [show own_cnt W = 3 by unfold own_cnt; rw [if_neg (by omega), if_pos (own_1nlt (by omega) hk3)]]; rfl
     rw [hc3] at c51
     exact ⟨T40, _, _, X40, N40, ewk2, c51⟩
   ·have c52 : Steps p.tables e below S0 (T34.setTop (mkF m 70 #[.val (.ref ps), .val (.int (Int32.ofNat en)), .val (.int (Int32.ofNat W)), .val (.int ((1 : Int32) + (1 : Int32))), .val (.int (Int32.ofNat (own_wf W))), .unset, .unset] [])) := c37.trans (by
     refine XS.icmpYes X34.here hx rfl (pc0 := 54) (pc' := 70) rfl (hb hby own_dmr54) rfl (flt hk2).2.2.2 (by decide) (by decide) ?_
     exact Steps.refl _)
    have hc2 : ((1 : Int32) + (1 : Int32)) = Int32.ofNat (own_cnt W) := by rw [show own_cnt W = 2 by unfold own_cnt; rw [if_pos (own_1nlt (by omega) hk2)]]; rfl
    rw [hc2] at c52
    exact ⟨T34, _, _, X34, N34, ewk1, c52⟩
  obtain ⟨T9, L9, z9, X9, N9, e9, c9⟩ := key
  have hcn := own_cnt_le W
  obtain ⟨T54, X54, e54, st54⟩ := getF X9 hx hZ hown (host := "") (Or.inl (hw _ (own_m 22 rfl))) Via.refl e9 p3 (g := (mkF m 71 #[.val (.ref ps), .val (.int (Int32.ofNat en)), .val (.int (Int32.ofNat W)), .val (.int (Int32.ofNat (own_cnt W))), .val (.int z9), .unset, .unset] [(.ref ps)])) rfl rfl (hb hby own_dmr71)
  have c56 : Steps p.tables e below S0 (T54.setTop (mkF m 75 #[.val (.ref ps), .val (.int (Int32.ofNat en)), .val (.int (Int32.ofNat W)), .val (.int (Int32.ofNat (own_cnt W))), .val (.int z9), .unset, .unset] [(.int (Int32.ofNat W)), (.ref bc)])) := c9.trans (by
   refine XS.aloadN X9.here hx rfl (hb hby own_dmr70) rfl rfl ?_
   show Steps _ _ _ (.setTop _ (mkF _ 71 _ _)) _
   refine st54 _ ?_
   show Steps _ _ _ (.setTop _ (mkF _ 74 _ _)) _
   refine XS.iloadN X54.here hx rfl (hb hby own_dmr74) rfl ?_
   exact Steps.refl _)
  obtain ⟨_, _, ⟨T57, L57, k57, n57⟩, -, X57, ⟨Lc57, hQ57, l57, y57, z57⟩, st57⟩ := Jvm.LawKit.callS X54 hx (y := (⟨"com/example/coersa/coersa/PlaceSet", "wordsFor", "(I)I"⟩ : MethodName)) hown (mvT hZ (hw _ (own_m 34 rfl))) (mvT hZ (hw _ (own_m 35 rfl))) (mvT hZ (hw _ (own_m 9 rfl))) (mvT hZ (hw _ (own_m 36 rfl))) (by decide) (backOf (W := 1) (own_wfm l Z a0 hw [] (Int32.ofNat W) W h0 n0 (Nat.le_trans Z0 K0.1) (by omega) rfl) hZ (hw _ (own_m 36 rfl)) (hw _ (own_m 9 rfl)) (Nat.le_of_ble_eq_true rfl) (Nat.le_of_ble_eq_true rfl)) (g := (mkF m 75 #[.val (.ref ps), .val (.int (Int32.ofNat en)), .val (.int (Int32.ofNat W)), .val (.int (Int32.ofNat (own_cnt W))), .val (.int z9), .unset, .unset] [(.int (Int32.ofNat W)), (.ref bc)])) rfl (by rw [hml]; rfl) (argsL := [(.int (Int32.ofNat W))]) (rest := [(.ref bc)]) (lenOf own_pd0 rfl) rfl (by show 2 * 0 + _ ≤ _; exact Nat.le_of_eq rfl) (hb hby own_dmr75) (fun _ _ => ⟨rfl, e54, (Nat.le_of_ble_eq_true rfl), (Nat.zero_le _)⟩)
  dsimp only [Pt.U, Pt.locs, Pt.cells, Pt.slots] at X57 l57 y57 z57 st57 hQ57
  subst l57 y57 z57
  obtain ⟨rfl, N57q, ewd⟩ := hQ57
  have N57 := Fr.app N9 N57q
  have c58 : Steps p.tables e below S0 (T57.setTop (mkF m 78 #[.val (.ref ps), .val (.int (Int32.ofNat en)), .val (.int (Int32.ofNat W)), .val (.int (Int32.ofNat (own_cnt W))), .val (.int z9), .unset, .unset] [(.int (Int32.ofNat (own_wf W))), (.ref bc)])) := c56.trans (by
   refine st57 _ ?_
   exact Steps.refl _)
  obtain ⟨_, _, ⟨T59, L59, k59, n59⟩, -, X59, ⟨Lc59, hQ59, l59, y59, z59⟩, st59⟩ := Jvm.LawKit.callS X57 hx (y := (⟨"java/util/Arrays", "copyOf", "([II)[I"⟩ : MethodName)) hown (mvT hZ (hw _ (own_m 94 rfl))) (mvT hZ (hw _ (own_m 95 rfl))) (mvT hZ (hw _ (own_m 96 rfl))) (mvT hZ (hw _ (own_m 97 rfl))) (by decide) (backOf (W := 0) (own_cpI l Z a0 hw [] bc (Int32.ofNat (own_wf W)) M (own_wf W) g h0 n0 Z0 rfl (by rw [hM]; exact own_wf_mono hWN) (by omega) p6) hZ (hw _ (own_m 97 rfl)) (hw _ (own_m 96 rfl)) (Nat.le_of_ble_eq_true rfl) (Nat.le_of_ble_eq_true rfl)) (g := (mkF m 78 #[.val (.ref ps), .val (.int (Int32.ofNat en)), .val (.int (Int32.ofNat W)), .val (.int (Int32.ofNat (own_cnt W))), .val (.int z9), .unset, .unset] [(.int (Int32.ofNat (own_wf W))), (.ref bc)])) rfl (by rw [hml]; rfl) (argsL := [(.ref bc), (.int (Int32.ofNat (own_wf W)))]) (rest := []) (lenOf own_pd3 rfl) rfl (by show 2 * 0 + _ ≤ _; exact Nat.le_of_eq rfl) (hb hby own_dmr78) (fun _ _ => ⟨rfl, ewd, (Nat.le_of_ble_eq_true rfl), (by show 0 + 0 + own_wf W ≤ B; omega)⟩)
  dsimp only [Pt.U, Pt.locs, Pt.cells, Pt.slots] at X59 l59 y59 z59 st59 hQ59
  subst l59 y59 z59
  obtain ⟨cn, rfl, N59q, Kcn, szc, Icn⟩ := hQ59
  have N59 := Fr.app N57 N59q
  have gcn : n0 ≤ cn := Nat.le_trans Z0 szc
  have f59_Flv := p2.keep Kcn nin0
  have f59_Fbc := p3.keep Kcn nin0
  have f59_Exs := p1.keep Kcn
  have f59_Rlv := p4.keep Kcn nin0
  have K59 := K0.trans Kcn all0
  have EX1 := own_ext_keep EX0 Kcn
  obtain ⟨T62, h62, k62, X62, e62, E62, A62, B62, O62, st62⟩ := newRA X59 hx hZ hown (ty := .long) (C := "[J") (by decide) (hw _ (own_m 16 rfl)) (hw _ (own_m 17 rfl)) rfl (g := (mkF m 84 #[.val (.ref ps), .val (.int (Int32.ofNat en)), .val (.int (Int32.ofNat W)), .val (.int (Int32.ofNat (own_cnt W))), .val (.ref cn), .unset, .unset] [(.int (Int32.ofNat (own_cnt W)))])) rfl (hb hby own_dmr84) rfl (own_nn (by omega)) (cap := 4) (by rw [own_cl (by omega)]; exact hcn.1) (by decide) (by show 0 + 1 + 1 ≤ 6; omega) (by show 0 + own_wf W + 4 ≤ B; omega) (ad := "[[J") (by decide)
  obtain ⟨gr, g62⟩ : ∃ z, z = T59.heap.size := ⟨_, rfl⟩
  have ne_ps_gr : ps ≠ gr := Nat.ne_of_lt (Nat.lt_of_lt_of_le f59_Flv.lt (Nat.le_of_eq g62.symm))
  have ne_lv_gr : lv ≠ gr := Nat.ne_of_lt (Nat.lt_of_lt_of_le f59_Rlv.lt (Nat.le_of_eq g62.symm))
  have sz_gr : h0.size ≤ gr := Nat.le_trans K59.1 (Nat.le_of_eq g62.symm)
  have g_gr : n0 ≤ gr := Nat.le_trans Z0 sz_gr
  rw [← g62] at A62 B62 st62
  have f62_Flv := f59_Flv.ext E62
  have f62_Fbc := f59_Fbc.ext E62
  have f62_Exs := f59_Exs.ext E62
  have f62_Rlv := f59_Rlv.ext E62
  have K62 := K59.ext E62
  have EX2 := own_ext_trans EX1 E62
  have Icn2 := Icn.ext E62
  have G0 : own_RA Z .long "[J" h62 gr (own_cnt W) (fun i => if i < 0 then .ref (ls i) else .null) := ⟨_, A62, O62, by rw [sz_new, own_cl (by omega)], fun i hi => by
   show (Array.replicate (Int32.ofNat (own_cnt W)).toNatClampNeg Value.null)[i]? = _
   rw [own_cl (by omega)]; simp [hi]⟩
  have c64 : Steps p.tables e below S0 (T62.setTop (mkF m 92 #[.val (.ref ps), .val (.int (Int32.ofNat en)), .val (.int (Int32.ofNat W)), .val (.int (Int32.ofNat (own_cnt W))), .val (.ref cn), .val (.ref gr), .val (.int (0 : Int32))] [])) := c58.trans (by
   refine st59 _ ?_
   show Steps _ _ _ (.setTop _ (mkF _ 81 _ _)) _
   refine XS.astore X59.here hx rfl (hb hby own_dmr81) rfl rfl rfl ?_
   show Steps _ _ _ (.setTop _ (mkF _ 83 _ _)) _
   refine XS.iloadN X59.here hx rfl (hb hby own_dmr83) rfl ?_
   show Steps _ _ _ (.setTop _ (mkF _ 84 _ _)) _
   refine st62 _ ?_
   show Steps _ _ _ (.setTop _ (mkF _ 87 _ _)) _
   refine XS.astore X62.here hx rfl (hb hby own_dmr87) rfl rfl rfl ?_
   show Steps _ _ _ (.setTop _ (mkF _ 89 _ _)) _
   refine XS.iconst X62.here hx rfl (hb hby own_dmr89) ?_
   show Steps _ _ _ (.setTop _ (mkF _ 90 _ _)) _
   refine XS.istore X62.here hx rfl (hb hby own_dmr90) rfl rfl ?_
   exact Steps.refl _)
  have loop : ∀ (r lev : Nat), lev + r = own_cnt W → ∀ (Tq : State) (Lq : List Loc) (hq : Heap) (ns : Nat → Addr), Stand p l e ({ frames := 2, cells := 6, slots := B, locals := 72 } : Room) s m #[(.ref ps), (.int (Int32.ofNat en))] below meth c Tq Lq (2 + lev) (own_wf W + 4 + own_sum W lev) → Fr n0 Lq → Tq.heap = hq → Ext h0 hq → own_RA Z .long "[J" hq gr (own_cnt W) (fun i => if i < lev then .ref (ns i) else .null) → (∀ i, i < lev → own_LA Z hq (ns i) (own_it W i) (own_fg K N f i) ∧ h0.size ≤ ns i) → (∀ i j, i < j → j < lev → ns i ≠ ns j) → own_IA Z hq cn (own_wf W) (fun b => if b < M then g b else 0) → Steps p.tables e below S0 (Tq.setTop (mkF m 92 #[.val (.ref ps), .val (.int (Int32.ofNat en)), .val (.int (Int32.ofNat (own_it W lev))), .val (.int (Int32.ofNat (own_cnt W))), .val (.ref cn), .val (.ref gr), .val (.int (Int32.ofNat lev))] [])) → ∃ (Tz : State) (Lz : List Loc) (hz : Heap) (nz : Nat → Addr), Stand p l e ({ frames := 2, cells := 6, slots := B, locals := 72 } : Room) s m #[(.ref ps), (.int (Int32.ofNat en))] below meth c Tz Lz (2 + (own_cnt W)) (own_wf W + 4 + own_sum W (own_cnt W)) ∧ Fr n0 Lz ∧ Tz.heap = hz ∧ Ext h0 hz ∧ own_RA Z .long "[J" hz gr (own_cnt W) (fun i => if i < (own_cnt W) then .ref (nz i) else .null) ∧ (∀ i, i < (own_cnt W) → own_LA Z hz (nz i) (own_it W i) (own_fg K N f i) ∧ h0.size ≤ nz i) ∧ (∀ i j, i < j → j < (own_cnt W) → nz i ≠ nz j) ∧ own_IA Z hz cn (own_wf W) (fun b => if b < M then g b else 0) ∧ Steps p.tables e below S0 (Tz.setTop (mkF m 92 #[.val (.ref ps), .val (.int (Int32.ofNat en)), .val (.int (Int32.ofNat (own_it W (own_cnt W)))), .val (.int (Int32.ofNat (own_cnt W))), .val (.ref cn), .val (.ref gr), .val (.int (Int32.ofNat (own_cnt W)))] [])) := by
   intro r
   induction r with
   | zero =>
    intro lev hl Tq Lq hq ns i1 i2 i3 i4 i5 i6 i7 i8 i9
    have e : lev = own_cnt W := by omega
    subst e
    exact ⟨Tq, Lq, hq, ns, i1, i2, i3, i4, i5, i6, i7, i8, i9⟩
   | succ r ih =>
    intro lev hl Tq Lq hq ns XQ NQ eQ EQ GQ LQ dQ IQ cQ
    have hlev : lev < own_cnt W := by omega
    have hitb := own_it_b hW8 lev
    have hit1 := own_it1 (show 1 ≤ W by omega) lev
    have hsum : own_sum W (lev + 1) = own_sum W lev + own_it W lev := rfl
    have hs4 := own_sum_le hW8 (lev + 1) (by omega)
    have KQ : Keep h0 hq [ps] := (Keep.refl h0 [ps]).ext EQ
    have qlv := p2.ext EQ
    have qR := p4.ext EQ
    have qE := p1.ext EQ
    obtain ⟨T68, X68, e68, st68⟩ := getF XQ hx hZ hown (host := "") (Or.inl (hw _ (own_m 20 rfl))) Via.refl eQ qlv (g := (mkF m 101 #[.val (.ref ps), .val (.int (Int32.ofNat en)), .val (.int (Int32.ofNat (own_it W lev))), .val (.int (Int32.ofNat (own_cnt W))), .val (.ref cn), .val (.ref gr), .val (.int (Int32.ofNat lev))] [(.ref ps), (.int (Int32.ofNat lev))])) rfl rfl (hb hby own_dmr101)
    have qR2 := qR
    obtain ⟨cvl, Avl, -, Svl, -⟩ := qR2
    have c70 : Steps p.tables e below S0 (T68.setTop (mkF m 105 #[.val (.ref ps), .val (.int (Int32.ofNat en)), .val (.int (Int32.ofNat (own_it W lev))), .val (.int (Int32.ofNat (own_cnt W))), .val (.ref cn), .val (.ref gr), .val (.int (Int32.ofNat lev))] [(.int (Int32.ofNat K)), (.int (Int32.ofNat lev))])) := cQ.trans (by
     refine XS.iload XQ.here hx rfl (hb hby own_dmr92) rfl ?_
     show Steps _ _ _ (.setTop _ (mkF _ 94 _ _)) _
     refine XS.iloadN XQ.here hx rfl (hb hby own_dmr94) rfl ?_
     show Steps _ _ _ (.setTop _ (mkF _ 95 _ _)) _
     refine XS.icmpNo XQ.here hx rfl (hb hby own_dmr95) rfl (tlt ((own_ilt (by omega) (by omega)).mpr hlev)).2.1 ?_
     show Steps _ _ _ (.setTop _ (mkF _ 98 _ _)) _
     refine XS.iload XQ.here hx rfl (hb hby own_dmr98) rfl ?_
     show Steps _ _ _ (.setTop _ (mkF _ 100 _ _)) _
     refine XS.aloadN XQ.here hx rfl (hb hby own_dmr100) rfl rfl ?_
     show Steps _ _ _ (.setTop _ (mkF _ 101 _ _)) _
     refine st68 _ ?_
     show Steps _ _ _ (.setTop _ (mkF _ 104 _ _)) _
     refine X68.arraylength hx (by rw [e68]; exact Avl.1) (State.isArrayOf_alike hZ.alike Avl.2.1) (g := (mkF m 104 #[.val (.ref ps), .val (.int (Int32.ofNat en)), .val (.int (Int32.ofNat (own_it W lev))), .val (.int (Int32.ofNat (own_cnt W))), .val (.ref cn), .val (.ref gr), .val (.int (Int32.ofNat lev))] [(.ref lv), (.int (Int32.ofNat lev))])) rfl rfl (hb hby own_dmr104) _ ?_
     rw [show cvl.slots.size.toInt32 = Int32.ofNat K by rw [Svl]]
     exact Steps.refl _)
    by_cases hlk : (Int32.ofNat lev) < (Int32.ofNat K)
    ·have hlK : lev < K := (own_ilt (by omega) (by omega)).mp hlk
     obtain ⟨T73, X73, e73, st73⟩ := getF X68 hx hZ hown (host := "") (Or.inl (hw _ (own_m 20 rfl))) Via.refl e68 qlv (g := (mkF m 113 #[.val (.ref ps), .val (.int (Int32.ofNat en)), .val (.int (Int32.ofNat (own_it W lev))), .val (.int (Int32.ofNat (own_cnt W))), .val (.ref cn), .val (.ref gr), .val (.int (Int32.ofNat lev))] [(.ref ps), (.int (Int32.ofNat lev)), (.ref gr)])) rfl rfl (hb hby own_dmr113)
     have Rqx := qR
     obtain ⟨cvx, Avx, Ovx, Svx, Hvx⟩ := Rqx
     have c77 : Steps p.tables e below S0 (T73.setTop (mkF m 120 #[.val (.ref ps), .val (.int (Int32.ofNat en)), .val (.int (Int32.ofNat (own_it W lev))), .val (.int (Int32.ofNat (own_cnt W))), .val (.ref cn), .val (.ref gr), .val (.int (Int32.ofNat lev))] [(.int (Int32.ofNat (own_it W lev))), (.ref (ls lev)), (.int (Int32.ofNat lev)), (.ref gr)])) := c70.trans (by
      refine XS.icmpNo X68.here hx rfl (hb hby own_dmr105) rfl (tlt hlk).2.1 ?_
      show Steps _ _ _ (.setTop _ (mkF _ 108 _ _)) _
      refine XS.aload X68.here hx rfl (hb hby own_dmr108) rfl rfl ?_
      show Steps _ _ _ (.setTop _ (mkF _ 110 _ _)) _
      refine XS.iload X68.here hx rfl (hb hby own_dmr110) rfl ?_
      show Steps _ _ _ (.setTop _ (mkF _ 112 _ _)) _
      refine XS.aloadN X68.here hx rfl (hb hby own_dmr112) rfl rfl ?_
      show Steps _ _ _ (.setTop _ (mkF _ 113 _ _)) _
      refine st73 _ ?_
      show Steps _ _ _ (.setTop _ (mkF _ 116 _ _)) _
      refine XS.iload X73.here hx rfl (hb hby own_dmr116) rfl ?_
      show Steps _ _ _ (.setTop _ (mkF _ 118 _ _)) _
      refine X73.aaload hx (j := (Int32.ofNat lev)) (v := (.ref (ls lev))) (by rw [e73]; exact Avx.1) (State.isArrayOf_alike hZ.alike Avx.2.1) rfl Avx.2.2 (own_inb (j := lev) Svx hlK (by omega)) (by rw [own_cl (j := lev) (by omega)]; exact Hvx lev hlK) (g := (mkF m 118 #[.val (.ref ps), .val (.int (Int32.ofNat en)), .val (.int (Int32.ofNat (own_it W lev))), .val (.int (Int32.ofNat (own_cnt W))), .val (.ref cn), .val (.ref gr), .val (.int (Int32.ofNat lev))] [(.int (Int32.ofNat lev)), (.ref lv), (.int (Int32.ofNat lev)), (.ref gr)])) rfl rfl (hb hby own_dmr118) _ ?_
      show Steps _ _ _ (.setTop _ (mkF _ 119 _ _)) _
      refine XS.iloadN X73.here hx rfl (hb hby own_dmr119) rfl ?_
      exact Steps.refl _)
     have hLs := (p5 lev hlK).ext EQ
     have hNle : N lev ≤ own_it W lev := by rw [hNi lev hlK]; exact own_it_mono hWN lev
     obtain ⟨_, _, ⟨T78, L78, k78, n78⟩, -, X78, ⟨Lc78, hQ78, l78, y78, z78⟩, st78⟩ := Jvm.LawKit.callS X73 hx (y := (⟨"java/util/Arrays", "copyOf", "([JI)[J"⟩ : MethodName)) hown (mvT hZ (hw _ (own_m 106 rfl))) (mvT hZ (hw _ (own_m 107 rfl))) (mvT hZ (hw _ (own_m 96 rfl))) (mvT hZ (hw _ (own_m 108 rfl))) (by decide) (backOf (W := 2) (own_cpJ l Z a0 hw [] (ls lev) (Int32.ofNat (own_it W lev)) (N lev) (own_it W lev) (f lev) hq n0 (Nat.le_trans Z0 KQ.1) rfl hNle hitb hLs) hZ (hw _ (own_m 108 rfl)) (hw _ (own_m 96 rfl)) (Nat.le_of_ble_eq_true rfl) (Nat.le_of_ble_eq_true rfl)) (g := (mkF m 120 #[.val (.ref ps), .val (.int (Int32.ofNat en)), .val (.int (Int32.ofNat (own_it W lev))), .val (.int (Int32.ofNat (own_cnt W))), .val (.ref cn), .val (.ref gr), .val (.int (Int32.ofNat lev))] [(.int (Int32.ofNat (own_it W lev))), (.ref (ls lev)), (.int (Int32.ofNat lev)), (.ref gr)])) rfl (by rw [hml]; rfl) (argsL := [(.ref (ls lev)), (.int (Int32.ofNat (own_it W lev)))]) (rest := [(.int (Int32.ofNat lev)), (.ref gr)]) (lenOf own_pd4 rfl) rfl (by show 2 * 0 + _ ≤ _; exact Nat.le_of_eq rfl) (hb hby own_dmr120) (fun _ _ => ⟨rfl, e73, (by show 2 + lev + 1 ≤ 6; omega), (by show own_wf W + 4 + own_sum W lev + own_it W lev ≤ B; omega)⟩)
     dsimp only [Pt.U, Pt.locs, Pt.cells, Pt.slots] at X78 l78 y78 z78 st78 hQ78
     subst l78 y78 z78
     obtain ⟨d, rfl, N78q, Kd, szd, Ld⟩ := hQ78
     have N78 := Fr.app NQ N78q
     have K78 := KQ.trans Kd all0
     have Ed : Ext hq T78.heap := own_ext_keep (own_ext_refl hq) Kd
     have Ld' : own_LA Z T78.heap d (own_it W lev) (own_fg K N f lev) := by rw [own_fg_c K N f hKa hlK]; exact Ld
     have szd0 : h0.size ≤ d := Nat.le_trans EQ.1 szd
     have GD := GQ.ext Ed
     have LD := fun i hi => (LQ i hi).1.ext Ed
     have ID := IQ.ext Ed
     have ED := own_ext_trans EQ Ed
     obtain ⟨cg, Ag, Og, Sg, Hg⟩ := GD
     have GD : own_RA Z .long "[J" T78.heap gr (own_cnt W) (fun i => if i < lev then .ref (ns i) else .null) := ⟨cg, Ag, Og, Sg, Hg⟩
     have Ld2 := Ld'
     obtain ⟨cd, Ad, Edx, -⟩ := Ld2
     have ngd : gr ≠ d := own_ty_ne Ag Ad (by decide)
     obtain ⟨T80, h80, X80, e80, W80, st80⟩ := stR X78 hx hZ rfl Ag (j := (Int32.ofNat lev)) (own_inb (j := lev) Sg hlev (by omega)) rfl (Sto.ofVA Ag rfl Og (Ins.self Edx)) (g := (mkF m 123 #[.val (.ref ps), .val (.int (Int32.ofNat en)), .val (.int (Int32.ofNat (own_it W lev))), .val (.int (Int32.ofNat (own_cnt W))), .val (.ref cn), .val (.ref gr), .val (.int (Int32.ofNat lev))] [(.ref d), (.int (Int32.ofNat lev)), (.ref gr)])) rfl rfl (hb hby own_dmr123)
     have c81 : Steps p.tables e below S0 (T80.setTop (mkF m 124 #[.val (.ref ps), .val (.int (Int32.ofNat en)), .val (.int (Int32.ofNat (own_it W lev))), .val (.int (Int32.ofNat (own_cnt W))), .val (.ref cn), .val (.ref gr), .val (.int (Int32.ofNat lev))] [])) := c77.trans (by
      refine st78 _ ?_
      show Steps _ _ _ (.setTop _ (mkF _ 123 _ _)) _
      refine st80 _ ?_
      exact Steps.refl _)
     have K80 := K78.wr W80 (Or.inr sz_gr)
     have N80 := Fr.snoc X80 N78 g_gr
     rw [own_cl (by omega)] at W80
     have ndl : ∀ i, i < lev → ns i ≠ d := fun i hi => Nat.ne_of_lt (Nat.lt_of_lt_of_le (LQ i hi).1.lt szd)
     have ngl : ∀ i, i < lev → ns i ≠ gr := fun i hi => by
      obtain ⟨cx, Ax, -⟩ := LD i hi
      exact own_ty_ne Ax Ag (by decide)
     have GE : own_RA Z .long "[J" h80 gr (own_cnt W) (fun i => if i < lev + 1 then .ref ((fun i => if i = lev then d else ns i) i) else .null) := GD.set W80 hlev (fun i hi => by
      by_cases c1 : i = lev
      ·subst c1; simp
      ·simp only [c1, if_false]
       by_cases c2 : i < lev
       ·rw [if_pos c2, if_pos (by omega)]
       ·rw [if_neg c2, if_neg (by omega)])
     have LE := fun i hi => (LD i hi).other W80 (ngl i hi)
     have LdE := Ld'.other W80 ngd.symm
     have IE := ID.other W80 (by
      obtain ⟨cx, Ax, -⟩ := ID
      exact own_ty_ne Ax Ag (by decide))
     have EE := own_ext_wr ED W80 sz_gr
     have KW : Keep h0 h80 [ps] := (Keep.refl h0 [ps]).ext EE
     have c83 : Steps p.tables e below S0 (T80.setTop (mkF m 162 #[.val (.ref ps), .val (.int (Int32.ofNat en)), .val (.int (Int32.ofNat (own_it W lev))), .val (.int (Int32.ofNat (own_cnt W))), .val (.ref cn), .val (.ref gr), .val (.int (Int32.ofNat lev))] [(.int (Int32.ofNat (own_it W lev)))])) := c81.trans (by
      refine XS.goto X80.here hx rfl (pc0 := 124) (pc' := 161) rfl (hb hby own_dmr124) (by decide) (by decide) ?_
      show Steps _ _ _ (.setTop _ (mkF _ 161 _ _)) _
      refine XS.iloadN X80.here hx rfl (hb hby own_dmr161) rfl ?_
      exact Steps.refl _)
     obtain ⟨_, _, ⟨T84, L84, k84, n84⟩, -, X84, ⟨Lc84, hQ84, l84, y84, z84⟩, st84⟩ := Jvm.LawKit.callS X80 hx (y := (⟨"com/example/coersa/coersa/PlaceSet", "wordsFor", "(I)I"⟩ : MethodName)) hown (mvT hZ (hw _ (own_m 34 rfl))) (mvT hZ (hw _ (own_m 35 rfl))) (mvT hZ (hw _ (own_m 9 rfl))) (mvT hZ (hw _ (own_m 36 rfl))) (by decide) (backOf (W := 0) (own_wfm l Z a0 hw [] (Int32.ofNat (own_it W lev)) (own_it W lev) h80 n0 (Nat.le_trans Z0 KW.1) (by omega) rfl) hZ (hw _ (own_m 36 rfl)) (hw _ (own_m 9 rfl)) (Nat.le_of_ble_eq_true rfl) (Nat.le_of_ble_eq_true rfl)) (g := (mkF m 162 #[.val (.ref ps), .val (.int (Int32.ofNat en)), .val (.int (Int32.ofNat (own_it W lev))), .val (.int (Int32.ofNat (own_cnt W))), .val (.ref cn), .val (.ref gr), .val (.int (Int32.ofNat lev))] [(.int (Int32.ofNat (own_it W lev)))])) rfl (by rw [hml]; rfl) (argsL := [(.int (Int32.ofNat (own_it W lev)))]) (rest := []) (lenOf own_pd0 rfl) rfl (by show 2 * 0 + _ ≤ _; exact Nat.le_of_eq rfl) (hb hby own_dmr162) (fun _ _ => ⟨rfl, e80, (by show 2 + lev + 1 + 0 ≤ 6; omega), (by show own_wf W + 4 + own_sum W lev + own_it W lev + 0 ≤ B; omega)⟩)
     dsimp only [Pt.U, Pt.locs, Pt.cells, Pt.slots] at X84 l84 y84 z84 st84 hQ84
     subst l84 y84 z84
     obtain ⟨rfl, N84q, ewe⟩ := hQ84
     have N84 := Fr.app N80 N84q
     have c86 : Steps p.tables e below S0 (T84.setTop (mkF m 92 #[.val (.ref ps), .val (.int (Int32.ofNat en)), .val (.int (Int32.ofNat (own_wf (own_it W lev)))), .val (.int (Int32.ofNat (own_cnt W))), .val (.ref cn), .val (.ref gr), .val (.int ((Int32.ofNat lev) + (1 : Int32)))] [])) := c83.trans (by
      refine st84 _ ?_
      show Steps _ _ _ (.setTop _ (mkF _ 165 _ _)) _
      refine XS.istoreN X84.here hx rfl (hb hby own_dmr165) rfl rfl ?_
      show Steps _ _ _ (.setTop _ (mkF _ 166 _ _)) _
      refine XS.iinc X84.here hx rfl (hb hby own_dmr166) rfl rfl ?_
      show Steps _ _ _ (.setTop _ (mkF _ 169 _ _)) _
      refine XS.goto X84.here hx rfl (pc0 := 169) (pc' := 92) rfl (hb hby own_dmr169) (by decide) (by decide) ?_
      exact Steps.refl _)
     rw [(show Int32.ofNat lev + (1 : Int32) = Int32.ofNat (lev + 1) from own_iadd (i := lev) (j := 1))] at c86
     have hEh : T84.heap = h80 := ewe
     exact ih (lev + 1) (by omega) T84 _ h80 (fun i => if i = lev then d else ns i) (X84.more (by omega) (by omega)) N84 ewe EE GE (fun i hi => by
      by_cases c1 : i = lev
      ·subst c1; simp only [if_true]; exact ⟨LdE, szd0⟩
      ·simp only [c1, if_false]; exact ⟨LE i (by omega), (LQ i (by omega)).2⟩) (fun i j hij hj => by
      by_cases c2 : j = lev
      ·subst c2; simp only [if_true, show i ≠ j by omega, if_false]; exact ndl i (by omega)
      ·simp only [c2, show i ≠ lev by omega, if_false]; exact dQ i j hij (by omega)) IE c86
    ·have hlK : ¬ lev < K := fun q => hlk ((own_ilt (by omega) (by omega)).mpr q)
     have hl0 : 0 < lev := by omega
     obtain ⟨T89, h89, k89, X89, e89, E89, A89, B89, st89⟩ := newPE X68 hx hZ (hw _ (own_m 18 rfl)) e68 (g := (mkF m 132 #[.val (.ref ps), .val (.int (Int32.ofNat en)), .val (.int (Int32.ofNat (own_it W lev))), .val (.int (Int32.ofNat (own_cnt W))), .val (.ref cn), .val (.ref gr), .val (.int (Int32.ofNat lev))] [(.int (Int32.ofNat (own_it W lev))), (.int (Int32.ofNat lev)), (.ref gr)])) rfl (hb hby own_dmr132) rfl (own_nn (by omega)) (cap := own_it W lev) (by rw [own_cl (by omega)]; exact Nat.le_refl _) (by omega) (by show 2 + lev + 1 ≤ 6; omega) (by show own_wf W + 4 + own_sum W lev + own_it W lev ≤ B; omega) (ad := "[J") (by decide)
     obtain ⟨d, g89⟩ : ∃ z, z = hq.size := ⟨_, rfl⟩
     rw [← g89] at A89 B89 st89
     have c90 : Steps p.tables e below S0 (T89.setTop (mkF m 134 #[.val (.ref ps), .val (.int (Int32.ofNat en)), .val (.int (Int32.ofNat (own_it W lev))), .val (.int (Int32.ofNat (own_cnt W))), .val (.ref cn), .val (.ref gr), .val (.int (Int32.ofNat lev))] [(.ref d), (.int (Int32.ofNat lev)), (.ref gr)])) := c70.trans (by
      refine XS.icmpYes X68.here hx rfl (pc0 := 105) (pc' := 127) rfl (hb hby own_dmr105) rfl (flt hlk).2.1 (by decide) (by decide) ?_
      show Steps _ _ _ (.setTop _ (mkF _ 127 _ _)) _
      refine XS.aload X68.here hx rfl (hb hby own_dmr127) rfl rfl ?_
      show Steps _ _ _ (.setTop _ (mkF _ 129 _ _)) _
      refine XS.iload X68.here hx rfl (hb hby own_dmr129) rfl ?_
      show Steps _ _ _ (.setTop _ (mkF _ 131 _ _)) _
      refine XS.iloadN X68.here hx rfl (hb hby own_dmr131) rfl ?_
      show Steps _ _ _ (.setTop _ (mkF _ 132 _ _)) _
      refine st89 _ ?_
      exact Steps.refl _)
     have K89 := KQ.ext E89
     have Ed := E89
     have szd : hq.size ≤ d := Nat.le_of_eq g89.symm
     have szd0 : h0.size ≤ d := Nat.le_trans EQ.1 szd
     have GD := GQ.ext Ed
     have LD := fun i hi => (LQ i hi).1.ext Ed
     have ID := IQ.ext Ed
     have ED := own_ext_trans EQ Ed
     have Ldz : own_LA Z h89 d (own_it W lev) (fun _ => 0) := ⟨_, A89, B89, by rw [sz_new, own_cl (by omega)], fun i hi => by
      show (Array.replicate (Int32.ofNat (own_it W lev)).toNatClampNeg (Value.long 0))[i]? = _
      rw [own_cl (by omega)]; simp [hi]⟩
     have GD2 := GD
     obtain ⟨cg, Ag, Og, Sg, Hg⟩ := GD2
     have Ld2 := Ldz
     obtain ⟨cd, Ad, Edx, -⟩ := Ld2
     have ngd : gr ≠ d := own_ty_ne Ag Ad (by decide)
     obtain ⟨T91, h91, X91, e91, W91, st91⟩ := stR X89 hx hZ e89 Ag (j := (Int32.ofNat lev)) (own_inb (j := lev) Sg hlev (by omega)) rfl (Sto.ofVA Ag rfl Og (Ins.self Edx)) (g := (mkF m 134 #[.val (.ref ps), .val (.int (Int32.ofNat en)), .val (.int (Int32.ofNat (own_it W lev))), .val (.int (Int32.ofNat (own_cnt W))), .val (.ref cn), .val (.ref gr), .val (.int (Int32.ofNat lev))] [(.ref d), (.int (Int32.ofNat lev)), (.ref gr)])) rfl rfl (hb hby own_dmr134)
     have c92 : Steps p.tables e below S0 (T91.setTop (mkF m 135 #[.val (.ref ps), .val (.int (Int32.ofNat en)), .val (.int (Int32.ofNat (own_it W lev))), .val (.int (Int32.ofNat (own_cnt W))), .val (.ref cn), .val (.ref gr), .val (.int (Int32.ofNat lev))] [])) := c90.trans (by
      refine st91 _ ?_
      exact Steps.refl _)
     have K91 := K89.wr W91 (Or.inr sz_gr)
     have N91 := Fr.snoc X91 NQ g_gr
     rw [own_cl (by omega)] at W91
     have ndl : ∀ i, i < lev → ns i ≠ d := fun i hi => Nat.ne_of_lt (Nat.lt_of_lt_of_le (LQ i hi).1.lt szd)
     have ngl : ∀ i, i < lev → ns i ≠ gr := fun i hi => by
      obtain ⟨cx, Ax, -⟩ := LD i hi
      exact own_ty_ne Ax Ag (by decide)
     have GE : own_RA Z .long "[J" h91 gr (own_cnt W) (fun i => if i < lev + 1 then .ref ((fun i => if i = lev then d else ns i) i) else .null) := GD.set W91 hlev (fun i hi => by
      by_cases c1 : i = lev
      ·subst c1; simp
      ·simp only [c1, if_false]
       by_cases c2 : i < lev
       ·rw [if_pos c2, if_pos (by omega)]
       ·rw [if_neg c2, if_neg (by omega)])
     have LE := fun i hi => (LD i hi).other W91 (ngl i hi)
     have LdE := Ldz.other W91 ngd.symm
     have IE := ID.other W91 (by
      obtain ⟨cx, Ax, -⟩ := ID
      exact own_ty_ne Ax Ag (by decide))
     have EE := own_ext_wr ED W91 sz_gr
     obtain ⟨cvy, Avy, Ovy, Svy, Hvy⟩ := GE
     have GE : own_RA Z .long "[J" h91 gr (own_cnt W) (fun i => if i < lev + 1 then .ref ((fun i => if i = lev then d else ns i) i) else .null) := ⟨cvy, Avy, Ovy, Svy, Hvy⟩
     have at1 : cvy.slots[(Int32.ofNat lev).toNatClampNeg]? = some (.ref d) := by rw [own_cl (by omega), Hvy lev hlev]; simp
     have at2 : cvy.slots[(Int32.ofNat (lev - 1)).toNatClampNeg]? = some (.ref (ns (lev - 1))) := by rw [own_cl (by omega), Hvy (lev - 1) (by omega)]; show some (if lev - 1 < lev + 1 then Value.ref (if lev - 1 = lev then d else ns (lev - 1)) else Value.null) = _; rw [if_pos (by omega), if_neg (by omega)]
     have c95 : Steps p.tables e below S0 (T91.setTop (mkF m 147 #[.val (.ref ps), .val (.int (Int32.ofNat en)), .val (.int (Int32.ofNat (own_it W lev))), .val (.int (Int32.ofNat (own_cnt W))), .val (.ref cn), .val (.ref gr), .val (.int (Int32.ofNat lev))] [(.int ((Int32.ofNat lev) - (1 : Int32))), (.ref gr), (.int (0 : Int32)), (.ref d)])) := c92.trans (by
      refine XS.aload X91.here hx rfl (hb hby own_dmr135) rfl rfl ?_
      show Steps _ _ _ (.setTop _ (mkF _ 137 _ _)) _
      refine XS.iload X91.here hx rfl (hb hby own_dmr137) rfl ?_
      show Steps _ _ _ (.setTop _ (mkF _ 139 _ _)) _
      refine X91.aaload hx (j := (Int32.ofNat lev)) (v := (.ref d)) (by rw [e91]; exact Avy.1) (State.isArrayOf_alike hZ.alike Avy.2.1) rfl Avy.2.2 (own_inb (j := lev) Svy hlev (by omega)) at1 (g := (mkF m 139 #[.val (.ref ps), .val (.int (Int32.ofNat en)), .val (.int (Int32.ofNat (own_it W lev))), .val (.int (Int32.ofNat (own_cnt W))), .val (.ref cn), .val (.ref gr), .val (.int (Int32.ofNat lev))] [(.int (Int32.ofNat lev)), (.ref gr)])) rfl rfl (hb hby own_dmr139) _ ?_
      show Steps _ _ _ (.setTop _ (mkF _ 140 _ _)) _
      refine XS.iconst X91.here hx rfl (hb hby own_dmr140) ?_
      show Steps _ _ _ (.setTop _ (mkF _ 141 _ _)) _
      refine XS.aload X91.here hx rfl (hb hby own_dmr141) rfl rfl ?_
      show Steps _ _ _ (.setTop _ (mkF _ 143 _ _)) _
      refine XS.iload X91.here hx rfl (hb hby own_dmr143) rfl ?_
      show Steps _ _ _ (.setTop _ (mkF _ 145 _ _)) _
      refine XS.iconst X91.here hx rfl (hb hby own_dmr145) ?_
      show Steps _ _ _ (.setTop _ (mkF _ 146 _ _)) _
      refine XS.isub X91.here hx rfl (hb hby own_dmr146) rfl ?_
      exact Steps.refl _)
     rw [own_ins_sub hl0 (by omega)] at c95
     obtain ⟨cp, Ap, Epx, Sp, Hp⟩ := LE (lev - 1) (by omega)
     have hp1 := own_it1 (show 1 ≤ W by omega) (lev - 1)
     have hpb := own_it_b hW8 (lev - 1)
     have c99 : Steps p.tables e below S0 (T91.setTop (mkF m 152 #[.val (.ref ps), .val (.int (Int32.ofNat en)), .val (.int (Int32.ofNat (own_it W lev))), .val (.int (Int32.ofNat (own_cnt W))), .val (.ref cn), .val (.ref gr), .val (.int (Int32.ofNat lev))] [(.int (lcmpW (own_fg K N f (lev - 1) 0) (0 : Int64))), (.int (0 : Int32)), (.ref d)])) := c95.trans (by
      refine X91.aaload hx (j := (Int32.ofNat (lev - 1))) (v := (.ref (ns (lev - 1)))) (by rw [e91]; exact Avy.1) (State.isArrayOf_alike hZ.alike Avy.2.1) rfl Avy.2.2 (own_inb (j := lev - 1) Svy (by omega) (by omega)) at2 (g := (mkF m 147 #[.val (.ref ps), .val (.int (Int32.ofNat en)), .val (.int (Int32.ofNat (own_it W lev))), .val (.int (Int32.ofNat (own_cnt W))), .val (.ref cn), .val (.ref gr), .val (.int (Int32.ofNat lev))] [(.int (Int32.ofNat (lev - 1))), (.ref gr), (.int (0 : Int32)), (.ref d)])) rfl rfl (hb hby own_dmr147) _ ?_
      show Steps _ _ _ (.setTop _ (mkF _ 148 _ _)) _
      refine XS.iconst X91.here hx rfl (hb hby own_dmr148) ?_
      show Steps _ _ _ (.setTop _ (mkF _ 149 _ _)) _
      refine X91.laload hx (j := (0 : Int32)) (v := (.long (own_fg K N f (lev - 1) 0))) (by rw [e91]; exact Ap.1) (State.isArrayOf_alike hZ.alike Ap.2.1) Ap.2.2 (own_inb (j := 0) Sp (by omega) (by omega)) (Hp 0 (by omega)) (g := (mkF m 149 #[.val (.ref ps), .val (.int (Int32.ofNat en)), .val (.int (Int32.ofNat (own_it W lev))), .val (.int (Int32.ofNat (own_cnt W))), .val (.ref cn), .val (.ref gr), .val (.int (Int32.ofNat lev))] [(.int (0 : Int32)), (.ref (ns (lev - 1))), (.int (0 : Int32)), (.ref d)])) rfl rfl (hb hby own_dmr149) _ ?_
      show Steps _ _ _ (.setTop _ (mkF _ 150 _ _)) _
      refine XS.lconst X91.here hx rfl (hb hby own_dmr150) ?_
      show Steps _ _ _ (.setTop _ (mkF _ 151 _ _)) _
      refine XS.lcmp X91.here hx rfl (hb hby own_dmr151) rfl ?_
      exact Steps.refl _)
     have fin : ∃ (Tw : State) (Lw : List Loc) (hw_ : Heap), Stand p l e ({ frames := 2, cells := 6, slots := B, locals := 72 } : Room) s m #[(.ref ps), (.int (Int32.ofNat en))] below meth c Tw Lw (2 + lev + 1) (own_wf W + 4 + own_sum W lev + own_it W lev) ∧ Fr n0 Lw ∧ Tw.heap = hw_ ∧ Ext h0 hw_ ∧ own_RA Z .long "[J" hw_ gr (own_cnt W) (fun i => if i < lev + 1 then .ref ((fun i => if i = lev then d else ns i) i) else .null) ∧ (∀ i, i < lev → own_LA Z hw_ (ns i) (own_it W i) (own_fg K N f i)) ∧ own_LA Z hw_ d (own_it W lev) (own_fg K N f lev) ∧ own_IA Z hw_ cn (own_wf W) (fun b => if b < M then g b else 0) ∧ Steps p.tables e below S0 (Tw.setTop (mkF m 161 #[.val (.ref ps), .val (.int (Int32.ofNat en)), .val (.int (Int32.ofNat (own_it W lev))), .val (.int (Int32.ofNat (own_cnt W))), .val (.ref cn), .val (.ref gr), .val (.int (Int32.ofNat lev))] [])) := by
      by_cases hz : (lcmpW (own_fg K N f (lev - 1) 0) (0 : Int64)) = (0 : Int32)
      ·have Ldq := LdE
       obtain ⟨cdd, Add, Edd, Sdd, Hdd⟩ := Ldq
       obtain ⟨T102, h102, X102, e102, W102, st102⟩ := stJ X91 hx hZ e91 Add (j := (0 : Int32)) (own_inb (j := 0) Sdd (by omega) (by omega)) (g := (mkF m 160 #[.val (.ref ps), .val (.int (Int32.ofNat en)), .val (.int (Int32.ofNat (own_it W lev))), .val (.int (Int32.ofNat (own_cnt W))), .val (.ref cn), .val (.ref gr), .val (.int (Int32.ofNat lev))] [(.long (0 : Int64)), (.int (0 : Int32)), (.ref d)])) rfl rfl (hb hby own_dmr160)
       have c103 : Steps p.tables e below S0 (T102.setTop (mkF m 161 #[.val (.ref ps), .val (.int (Int32.ofNat en)), .val (.int (Int32.ofNat (own_it W lev))), .val (.int (Int32.ofNat (own_cnt W))), .val (.ref cn), .val (.ref gr), .val (.int (Int32.ofNat lev))] [])) := c99.trans (by
        refine XS.ifNo X91.here hx rfl (hb hby own_dmr152) rfl ((if0 _ _).trans (teq hz).2) ?_
        show Steps _ _ _ (.setTop _ (mkF _ 155 _ _)) _
        refine XS.lconst X91.here hx rfl (hb hby own_dmr155) ?_
        show Steps _ _ _ (.setTop _ (mkF _ 156 _ _)) _
        refine XS.goto X91.here hx rfl (pc0 := 156) (pc' := 160) rfl (hb hby own_dmr156) (by decide) (by decide) ?_
        show Steps _ _ _ (.setTop _ (mkF _ 160 _ _)) _
        refine st102 _ ?_
        exact Steps.refl _)
       have K102 := K91.wr W102 (Or.inr szd0)
       have N102 := Fr.snoc X102 N91 (Nat.le_trans Z0 szd0)
       have hfz : own_fg K N f lev = fun i => if i = 0 then (0 : Int64) else 0 := by rw [own_fg_z K N f hl0 hlK]; funext i; rw [if_pos ((lw_eq _ _).mp hz)]
       have W0 : Wr h91 h102 d 0 (.long (0 : Int64)) := W102
       have Lf : own_LA Z h102 d (own_it W lev) (own_fg K N f lev) := LdE.set W0 (by omega) (fun i hi => by rw [hfz])
       exact ⟨T102, _, h102, X102, N102, e102, own_ext_wr EE W102 szd0, GE.other W102 ngd, fun i hi => (LE i hi).other W102 (ndl i hi), Lf, IE.other W102 (by
        obtain ⟨cx, Ax, -⟩ := IE
        exact own_ty_ne Ax Add (by decide)), c103⟩
      ·have Ldq := LdE
       obtain ⟨cdd, Add, Edd, Sdd, Hdd⟩ := Ldq
       obtain ⟨T106, h106, X106, e106, W106, st106⟩ := stJ X91 hx hZ e91 Add (j := (0 : Int32)) (own_inb (j := 0) Sdd (by omega) (by omega)) (g := (mkF m 160 #[.val (.ref ps), .val (.int (Int32.ofNat en)), .val (.int (Int32.ofNat (own_it W lev))), .val (.int (Int32.ofNat (own_cnt W))), .val (.ref cn), .val (.ref gr), .val (.int (Int32.ofNat lev))] [(.long (1 : Int64)), (.int (0 : Int32)), (.ref d)])) rfl rfl (hb hby own_dmr160)
       have c107 : Steps p.tables e below S0 (T106.setTop (mkF m 161 #[.val (.ref ps), .val (.int (Int32.ofNat en)), .val (.int (Int32.ofNat (own_it W lev))), .val (.int (Int32.ofNat (own_cnt W))), .val (.ref cn), .val (.ref gr), .val (.int (Int32.ofNat lev))] [])) := c99.trans (by
        refine XS.ifYes X91.here hx rfl (pc0 := 152) (pc' := 159) rfl (hb hby own_dmr152) rfl ((if0 _ _).trans (feq hz).2) (by decide) (by decide) ?_
        show Steps _ _ _ (.setTop _ (mkF _ 159 _ _)) _
        refine XS.lconst X91.here hx rfl (hb hby own_dmr159) ?_
        show Steps _ _ _ (.setTop _ (mkF _ 160 _ _)) _
        refine st106 _ ?_
        exact Steps.refl _)
       have K106 := K91.wr W106 (Or.inr szd0)
       have N106 := Fr.snoc X106 N91 (Nat.le_trans Z0 szd0)
       have hfz : own_fg K N f lev = fun i => if i = 0 then (1 : Int64) else 0 := by rw [own_fg_z K N f hl0 hlK]; funext i; rw [if_neg (fun q => hz ((lw_eq _ _).mpr q))]
       have W0 : Wr h91 h106 d 0 (.long (1 : Int64)) := W106
       have Lf : own_LA Z h106 d (own_it W lev) (own_fg K N f lev) := LdE.set W0 (by omega) (fun i hi => by rw [hfz])
       exact ⟨T106, _, h106, X106, N106, e106, own_ext_wr EE W106 szd0, GE.other W106 ngd, fun i hi => (LE i hi).other W106 (ndl i hi), Lf, IE.other W106 (by
        obtain ⟨cx, Ax, -⟩ := IE
        exact own_ty_ne Ax Add (by decide)), c107⟩
     obtain ⟨Tw, Lw, hw_, XW, NW, eW, EE, GE, LE, LdE, IE, cW⟩ := fin
     have KW : Keep h0 hw_ [ps] := (Keep.refl h0 [ps]).ext EE
     have c108 : Steps p.tables e below S0 (Tw.setTop (mkF m 162 #[.val (.ref ps), .val (.int (Int32.ofNat en)), .val (.int (Int32.ofNat (own_it W lev))), .val (.int (Int32.ofNat (own_cnt W))), .val (.ref cn), .val (.ref gr), .val (.int (Int32.ofNat lev))] [(.int (Int32.ofNat (own_it W lev)))])) := cW.trans (by
      refine XS.iloadN XW.here hx rfl (hb hby own_dmr161) rfl ?_
      exact Steps.refl _)
     obtain ⟨_, _, ⟨T109, L109, k109, n109⟩, -, X109, ⟨Lc109, hQ109, l109, y109, z109⟩, st109⟩ := Jvm.LawKit.callS XW hx (y := (⟨"com/example/coersa/coersa/PlaceSet", "wordsFor", "(I)I"⟩ : MethodName)) hown (mvT hZ (hw _ (own_m 34 rfl))) (mvT hZ (hw _ (own_m 35 rfl))) (mvT hZ (hw _ (own_m 9 rfl))) (mvT hZ (hw _ (own_m 36 rfl))) (by decide) (backOf (W := 0) (own_wfm l Z a0 hw [] (Int32.ofNat (own_it W lev)) (own_it W lev) hw_ n0 (Nat.le_trans Z0 KW.1) (by omega) rfl) hZ (hw _ (own_m 36 rfl)) (hw _ (own_m 9 rfl)) (Nat.le_of_ble_eq_true rfl) (Nat.le_of_ble_eq_true rfl)) (g := (mkF m 162 #[.val (.ref ps), .val (.int (Int32.ofNat en)), .val (.int (Int32.ofNat (own_it W lev))), .val (.int (Int32.ofNat (own_cnt W))), .val (.ref cn), .val (.ref gr), .val (.int (Int32.ofNat lev))] [(.int (Int32.ofNat (own_it W lev)))])) rfl (by rw [hml]; rfl) (argsL := [(.int (Int32.ofNat (own_it W lev)))]) (rest := []) (lenOf own_pd0 rfl) rfl (by show 2 * 0 + _ ≤ _; exact Nat.le_of_eq rfl) (hb hby own_dmr162) (fun _ _ => ⟨rfl, eW, (by show 2 + lev + 1 + 0 ≤ 6; omega), (by show own_wf W + 4 + own_sum W lev + own_it W lev + 0 ≤ B; omega)⟩)
     dsimp only [Pt.U, Pt.locs, Pt.cells, Pt.slots] at X109 l109 y109 z109 st109 hQ109
     subst l109 y109 z109
     obtain ⟨rfl, N109q, ewe⟩ := hQ109
     have N109 := Fr.app NW N109q
     have c111 : Steps p.tables e below S0 (T109.setTop (mkF m 92 #[.val (.ref ps), .val (.int (Int32.ofNat en)), .val (.int (Int32.ofNat (own_wf (own_it W lev)))), .val (.int (Int32.ofNat (own_cnt W))), .val (.ref cn), .val (.ref gr), .val (.int ((Int32.ofNat lev) + (1 : Int32)))] [])) := c108.trans (by
      refine st109 _ ?_
      show Steps _ _ _ (.setTop _ (mkF _ 165 _ _)) _
      refine XS.istoreN X109.here hx rfl (hb hby own_dmr165) rfl rfl ?_
      show Steps _ _ _ (.setTop _ (mkF _ 166 _ _)) _
      refine XS.iinc X109.here hx rfl (hb hby own_dmr166) rfl rfl ?_
      show Steps _ _ _ (.setTop _ (mkF _ 169 _ _)) _
      refine XS.goto X109.here hx rfl (pc0 := 169) (pc' := 92) rfl (hb hby own_dmr169) (by decide) (by decide) ?_
      exact Steps.refl _)
     rw [(show Int32.ofNat lev + (1 : Int32) = Int32.ofNat (lev + 1) from own_iadd (i := lev) (j := 1))] at c111
     have hEh : T109.heap = hw_ := ewe
     exact ih (lev + 1) (by omega) T109 _ hw_ (fun i => if i = lev then d else ns i) (X109.more (by omega) (by omega)) N109 ewe EE GE (fun i hi => by
      by_cases c1 : i = lev
      ·subst c1; simp only [if_true]; exact ⟨LdE, szd0⟩
      ·simp only [c1, if_false]; exact ⟨LE i (by omega), (LQ i (by omega)).2⟩) (fun i j hij hj => by
      by_cases c2 : j = lev
      ·subst c2; simp only [if_true, show i ≠ j by omega, if_false]; exact ndl i (by omega)
      ·simp only [c2, show i ≠ lev by omega, if_false]; exact dQ i j hij (by omega)) IE c111
  obtain ⟨Tz, Lz, hz, nz, XZ, NZ, eZ, EZ, GZ, LZ, dZ, IZ, cZ⟩ := loop (own_cnt W) 0 (by omega) T62 _ h62 ls (X62.more (by omega) (by show 0 + own_wf W + 4 ≤ own_wf W + 4 + 0; omega)) N59 e62 EX2 G0 (fun i hi => absurd hi (Nat.not_lt_zero i)) (fun i j _ hj => absurd hj (Nat.not_lt_zero j)) Icn2 c64
  have KZ : Keep h0 hz [ps] := (Keep.refl h0 [ps]).ext EZ
  have zE := p1.ext EZ
  have zlv := p2.ext EZ
  have zbc := p3.ext EZ
  obtain ⟨T115, h115, X115, e115, W115, st115⟩ := putF XZ hx hZ hown (host := "") (Or.inl (hw _ (own_m 20 rfl))) Via.refl eZ zlv zE (Or.inl (hw _ (own_m 21 rfl))) (hw _ (own_m 8 rfl)) (ty := (.array (.array .long))) (by decide) rfl rfl (g := (mkF m 175 #[.val (.ref ps), .val (.int (Int32.ofNat en)), .val (.int (Int32.ofNat (own_it W (own_cnt W)))), .val (.int (Int32.ofNat (own_cnt W))), .val (.ref cn), .val (.ref gr), .val (.int (Int32.ofNat (own_cnt W)))] [(.ref gr), (.ref ps)])) rfl rfl (hb hby own_dmr175)
  have f115_Fbc := zbc.other W115 (Or.inr (slot_ne (Or.inl (hw _ (own_m 23 rfl))) (Or.inl (hw _ (own_m 21 rfl))) (by decide) (t := (.array .int)) (t' := (.array (.array .long))) (by decide) (by decide)))
  have f115_Exs := zE.wr W115
  have K115 := KZ.wr W115 (Or.inl (List.mem_of_getElem? (i := 0) rfl))
  have N115 := Fr.snoc X115 NZ p8
  have f115_Flv := zlv.same W115
  obtain ⟨T118, h118, X118, e118, W118, st118⟩ := putF X115 hx hZ hown (host := "") (Or.inl (hw _ (own_m 22 rfl))) Via.refl e115 f115_Fbc f115_Exs (Or.inl (hw _ (own_m 23 rfl))) (hw _ (own_m 8 rfl)) (ty := (.array .int)) (by decide) rfl rfl (g := (mkF m 181 #[.val (.ref ps), .val (.int (Int32.ofNat en)), .val (.int (Int32.ofNat (own_it W (own_cnt W)))), .val (.int (Int32.ofNat (own_cnt W))), .val (.ref cn), .val (.ref gr), .val (.int (Int32.ofNat (own_cnt W)))] [(.ref cn), (.ref ps)])) rfl rfl (hb hby own_dmr181)
  have c119 : Steps p.tables e below S0 (T118.setTop (mkF m 184 #[.val (.ref ps), .val (.int (Int32.ofNat en)), .val (.int (Int32.ofNat (own_it W (own_cnt W)))), .val (.int (Int32.ofNat (own_cnt W))), .val (.ref cn), .val (.ref gr), .val (.int (Int32.ofNat (own_cnt W)))] [])) := cZ.trans (by
   refine XS.iload XZ.here hx rfl (hb hby own_dmr92) rfl ?_
   show Steps _ _ _ (.setTop _ (mkF _ 94 _ _)) _
   refine XS.iloadN XZ.here hx rfl (hb hby own_dmr94) rfl ?_
   show Steps _ _ _ (.setTop _ (mkF _ 95 _ _)) _
   refine XS.icmpYes XZ.here hx rfl (pc0 := 95) (pc' := 172) rfl (hb hby own_dmr95) rfl (flt (fun q => absurd ((own_ilt (by omega) (by omega)).mp q) (Nat.lt_irrefl _))).2.1 (by decide) (by decide) ?_
   show Steps _ _ _ (.setTop _ (mkF _ 172 _ _)) _
   refine XS.aloadN XZ.here hx rfl (hb hby own_dmr172) rfl rfl ?_
   show Steps _ _ _ (.setTop _ (mkF _ 173 _ _)) _
   refine XS.aload XZ.here hx rfl (hb hby own_dmr173) rfl rfl ?_
   show Steps _ _ _ (.setTop _ (mkF _ 175 _ _)) _
   refine st115 _ ?_
   show Steps _ _ _ (.setTop _ (mkF _ 178 _ _)) _
   refine XS.aloadN X115.here hx rfl (hb hby own_dmr178) rfl rfl ?_
   show Steps _ _ _ (.setTop _ (mkF _ 179 _ _)) _
   refine XS.aload X115.here hx rfl (hb hby own_dmr179) rfl rfl ?_
   show Steps _ _ _ (.setTop _ (mkF _ 181 _ _)) _
   refine st118 _ ?_
   exact Steps.refl _)
  have f118_Flv := f115_Flv.other W118 (Or.inr (slot_ne (Or.inl (hw _ (own_m 21 rfl))) (Or.inl (hw _ (own_m 23 rfl))) (by decide) (t := (.array (.array .long))) (t' := (.array .int)) (by decide) (by decide)))
  have f118_Exs := f115_Exs.wr W118
  have K118 := K115.wr W118 (Or.inl (List.mem_of_getElem? (i := 0) rfl))
  have N118 := Fr.snoc X118 N115 p8
  have f118_Fbc := f115_Fbc.same W118
  have nps : ∀ {x : Addr} {ty : FieldType} {cx : Cell}, Arr Z hz x cx ty → x ≠ ps := fun Ax => (ne_arr zE (hw _ (own_m 8 rfl)) Ax).symm
  have GF := (GZ.other W115 (by obtain ⟨cx, Ax, -⟩ := GZ; exact nps Ax)).other W118 (by obtain ⟨cx, Ax, -⟩ := GZ; exact nps Ax)
  have LF := fun i hi => ((LZ i hi).1.other W115 (by obtain ⟨cx, Ax, -⟩ := (LZ i hi).1; exact nps Ax)).other W118 (by obtain ⟨cx, Ax, -⟩ := (LZ i hi).1; exact nps Ax)
  have IF := (IZ.other W115 (by obtain ⟨cx, Ax, -⟩ := IZ; exact nps Ax)).other W118 (by obtain ⟨cx, Ax, -⟩ := IZ; exact nps Ax)
  have GF2 : own_RA Z .long "[J" h118 gr (own_cnt W) (fun i => .ref (nz i)) := by
   obtain ⟨cx, a1, a2, a3, a4⟩ := GF
   exact ⟨cx, a1, a2, a3, fun i hi => by rw [a4 i hi]; show some (if i < own_cnt W then Value.ref (nz i) else Value.null) = _; rw [if_pos hi]⟩
  obtain ⟨fs, hr, hrun, hended, hW, hsame⟩ := X118.leave (v := none) (fun _ => rfl)
  exact ⟨_, _, c119.trans (X118.returnOut hx Bd.returns (hb hby own_dmr184) hr), hrun, hended, _, _, rfl, (by rw [show (T118.setFrames fs).heap = h118 from e118]; exact ⟨rfl, N118, ((own_Kb.of_ext EZ).wr W115 p8).wr W118 p8, gr, cn, own_cnt W, nz, own_it W, own_fg K N f, own_wf W, _, ⟨f118_Exs, f118_Flv, f118_Fbc, GF2, LF, IF, dZ, p8, gcn, fun i hi => Nat.le_trans Z0 (LZ i hi).2⟩, Or.inr ⟨hlt, by rw [hWd], by rw [hWd], rfl, by rw [hWd], rfl⟩⟩), ⟨_, rfl⟩, hW, hsame.mono (by show 2 + own_cnt W ≤ 6; omega) (by have := own_sum_le hW8 (own_cnt W) hcn.1; show own_wf W + 4 + own_sum W (own_cnt W) ≤ B; omega)⟩
 ·have c120 : Steps p.tables e below S0 (T5.setTop (mkF m 14 #[.val (.ref ps), .val (.int (Int32.ofNat en)), .unset, .unset, .unset, .unset, .unset] [])) := c9.trans (by
   refine XS.icmpNo X5.here hx rfl (hb hby own_dmr11) rfl (flt hgt).2.2.1 ?_
   exact Steps.refl _)
  obtain ⟨fs, hr, hrun, hended, hW, hsame⟩ := X5.leave (v := none) (fun _ => rfl)
  exact ⟨_, _, c120.trans (X5.returnOut hx Bd.returns (hb hby own_dmr14) hr), hrun, hended, _, _, rfl, (by rw [show (T5.setFrames fs).heap = h0 from e5]; exact ⟨rfl, N2, own_Kb.refl _ _, lv, bc, K, ls, N, f, M, g, P0, Or.inl ⟨Nat.le_of_not_lt (fun q => hgt ((own_ilt (by omega) (by omega)).mpr q)), rfl, rfl, rfl, rfl, rfl⟩⟩), ⟨_, rfl⟩, hW, hsame.mono (Nat.le_of_ble_eq_true rfl) (Nat.zero_le _)⟩
/-! F. the shape; adding and removing, level by level -/
def own_SH (K : Nat) (N : Nat → Nat) (M : Nat) : Prop := 1 ≤ K ∧ K ≤ 4 ∧ M = own_wf (N 0) ∧ (∀ l, l < K → N l = own_it (N 0) l) ∧ 1 ≤ N 0 ∧ N 0 ≤ 8192 ∧ own_it (N 0) (K - 1) = 1
theorem own_GR_SH {en K : Nat} {N : Nat → Nat} {f : Nat → Nat → Int64} {M : Nat} {g : Nat → Int32} {K' : Nat} {N' : Nat → Nat} {f' : Nat → Nat → Int64} {M' : Nat} {g' : Nat → Int32} (S : own_SH K N M) (G : own_GR en K N f M g K' N' f' M' g') (he : en ≤ 262144) : own_SH K' N' M' ∧ own_wf en ≤ N' 0 := by
 rcases G with ⟨a, rfl, rfl, rfl, rfl, rfl⟩ | ⟨a, b, c, -, d, -⟩
 ·exact ⟨S, a⟩
 ·have hwe : own_wf en ≤ 4096 := own_wf_le (by omega) (by decide)
  have hW8 : own_gr en (N 0) ≤ 8192 := by unfold own_gr; split <;> omega
  have hW1 : 1 ≤ own_gr en (N 0) := by have := own_wf1 en; unfold own_gr; split <;> omega
  have hWe : own_wf en ≤ own_gr en (N 0) := by unfold own_gr; split <;> omega
  have q := own_cnt_le (own_gr en (N 0))
  subst b c d
  exact ⟨⟨by omega, q.1, rfl, fun l _ => rfl, hW1, hW8, own_it_last hW8⟩, hWe⟩
def own_dv (p : Nat) : Nat → Nat
 | 0 => p
 | l + 1 => own_dv p l / 64
def own_fa (f : Nat → Nat → Int64) (p m : Nat) : Nat → Nat → Int64 := fun j i => if j < m ∧ i = own_dv p (j + 1) then f j i ||| own_bit (own_dv p j % 64) else f j i
def own_fr (f : Nat → Nat → Int64) (p m : Nat) : Nat → Nat → Int64 := fun j i => if j < m ∧ i = own_dv p (j + 1) then f j i &&& (own_bit (own_dv p j % 64) ^^^ (-1)) else f j i
theorem own_fa_at {f : Nat → Nat → Int64} {p m i : Nat} : own_fa f p m m i = f m i := if_neg (fun q => Nat.lt_irrefl _ q.1)
theorem own_fr_at {f : Nat → Nat → Int64} {p m i : Nat} : own_fr f p m m i = f m i := if_neg (fun q => Nat.lt_irrefl _ q.1)
theorem own_fa_zero (f : Nat → Nat → Int64) (p : Nat) : own_fa f p 0 = f := by funext j i; exact if_neg (fun q => Nat.not_lt_zero _ q.1)
theorem own_fr_zero (f : Nat → Nat → Int64) (p : Nat) : own_fr f p 0 = f := by funext j i; exact if_neg (fun q => Nat.not_lt_zero _ q.1)
theorem own_fa_step {f : Nat → Nat → Int64} {p m : Nat} (j i : Nat) : own_fa f p (m + 1) j i = if j = m ∧ i = own_dv p (m + 1) then f m (own_dv p (m + 1)) ||| own_bit (own_dv p m % 64) else own_fa f p m j i := by
 unfold own_fa
 by_cases c : j = m ∧ i = own_dv p (m + 1)
 ·obtain ⟨rfl, rfl⟩ := c; simp
 ·rw [if_neg c]
  by_cases c2 : j < m ∧ i = own_dv p (j + 1)
  ·rw [if_pos c2, if_pos ⟨by omega, c2.2⟩]
  ·rw [if_neg c2, if_neg]
   rintro ⟨a, b⟩
   by_cases e : j = m
   ·subst e; exact c ⟨rfl, b⟩
   ·exact c2 ⟨by omega, b⟩
theorem own_fr_step {f : Nat → Nat → Int64} {p m : Nat} (j i : Nat) : own_fr f p (m + 1) j i = if j = m ∧ i = own_dv p (m + 1) then f m (own_dv p (m + 1)) &&& (own_bit (own_dv p m % 64) ^^^ (-1)) else own_fr f p m j i := by
 unfold own_fr
 by_cases c : j = m ∧ i = own_dv p (m + 1)
 ·obtain ⟨rfl, rfl⟩ := c; simp
 ·rw [if_neg c]
  by_cases c2 : j < m ∧ i = own_dv p (j + 1)
  ·rw [if_pos c2, if_pos ⟨by omega, c2.2⟩]
  ·rw [if_neg c2, if_neg]
   rintro ⟨a, b⟩
   by_cases e : j = m
   ·subst e; exact c ⟨rfl, b⟩
   ·exact c2 ⟨by omega, b⟩
theorem own_wf_lt {x n : Nat} (h : x < n) : x / 64 < own_wf n := by unfold own_wf; split <;> omega
theorem own_idx {p w : Nat} (h : p < 64 * w) : ∀ l, own_dv p (l + 1) < own_it w l
 | 0 => by show p / 64 < w; omega
 | l + 1 => own_wf_lt (own_idx h l)
theorem own_wf_room {p n : Nat} (h : own_wf (p + 1) ≤ n) : p < 64 * n := by have := own_wf_ge (p + 1); omega
theorem own_dv_le (p : Nat) : ∀ l, own_dv p l ≤ p
 | 0 => Nat.le_refl _
 | l + 1 => by have := own_dv_le p l; show own_dv p l / 64 ≤ p; omega

theorem own_dad0 : decode prog_209_method_3_code 0 = .ok (.aload_n 0, 1) := by decide +kernel
theorem own_dad1 : decode prog_209_method_3_code 1 = .ok (.iload_n 1, 1) := by decide +kernel
theorem own_dad2 : decode prog_209_method_3_code 2 = .ok (.iconst 1, 1) := by decide +kernel
theorem own_dad3 : decode prog_209_method_3_code 3 = .ok (.iadd, 1) := by decide +kernel
theorem own_dad4 : decode prog_209_method_3_code 4 = .ok (.invokevirtual 46, 3) := by decide +kernel
theorem own_dad7 : decode prog_209_method_3_code 7 = .ok (.aload_n 0, 1) := by decide +kernel
theorem own_dad8 : decode prog_209_method_3_code 8 = .ok (.getfield 15, 3) := by decide +kernel
theorem own_dad11 : decode prog_209_method_3_code 11 = .ok (.iload_n 1, 1) := by decide +kernel
theorem own_dad12 : decode prog_209_method_3_code 12 = .ok (.bipush 12, 2) := by decide +kernel
theorem own_dad14 : decode prog_209_method_3_code 14 = .ok (.iushr, 1) := by decide +kernel
theorem own_dad15 : decode prog_209_method_3_code 15 = .ok (.dup2, 1) := by decide +kernel
theorem own_dad16 : decode prog_209_method_3_code 16 = .ok (.iaload, 1) := by decide +kernel
theorem own_dad17 : decode prog_209_method_3_code 17 = .ok (.iconst 1, 1) := by decide +kernel
theorem own_dad18 : decode prog_209_method_3_code 18 = .ok (.iadd, 1) := by decide +kernel
theorem own_dad19 : decode prog_209_method_3_code 19 = .ok (.iastore, 1) := by decide +kernel
theorem own_dad20 : decode prog_209_method_3_code 20 = .ok (.iload_n 1, 1) := by decide +kernel
theorem own_dad21 : decode prog_209_method_3_code 21 = .ok (.istore_n 2, 1) := by decide +kernel
theorem own_dad22 : decode prog_209_method_3_code 22 = .ok (.aload_n 0, 1) := by decide +kernel
theorem own_dad23 : decode prog_209_method_3_code 23 = .ok (.getfield 11, 3) := by decide +kernel
theorem own_dad26 : decode prog_209_method_3_code 26 = .ok (.astore_n 3, 1) := by decide +kernel
theorem own_dad27 : decode prog_209_method_3_code 27 = .ok (.aload_n 3, 1) := by decide +kernel
theorem own_dad28 : decode prog_209_method_3_code 28 = .ok (.arraylength, 1) := by decide +kernel
theorem own_dad29 : decode prog_209_method_3_code 29 = .ok (.istore 4, 2) := by decide +kernel
theorem own_dad31 : decode prog_209_method_3_code 31 = .ok (.iconst 0, 1) := by decide +kernel
theorem own_dad32 : decode prog_209_method_3_code 32 = .ok (.istore 5, 2) := by decide +kernel
theorem own_dad34 : decode prog_209_method_3_code 34 = .ok (.iload 5, 2) := by decide +kernel
theorem own_dad36 : decode prog_209_method_3_code 36 = .ok (.iload 4, 2) := by decide +kernel
theorem own_dad38 : decode prog_209_method_3_code 38 = .ok (.if_icmp .ge 53, 3) := by decide +kernel
theorem own_dad41 : decode prog_209_method_3_code 41 = .ok (.aload_n 3, 1) := by decide +kernel
theorem own_dad42 : decode prog_209_method_3_code 42 = .ok (.iload 5, 2) := by decide +kernel
theorem own_dad44 : decode prog_209_method_3_code 44 = .ok (.aaload, 1) := by decide +kernel
theorem own_dad45 : decode prog_209_method_3_code 45 = .ok (.astore 6, 2) := by decide +kernel
theorem own_dad47 : decode prog_209_method_3_code 47 = .ok (.iload_n 2, 1) := by decide +kernel
theorem own_dad48 : decode prog_209_method_3_code 48 = .ok (.bipush 6, 2) := by decide +kernel
theorem own_dad50 : decode prog_209_method_3_code 50 = .ok (.iushr, 1) := by decide +kernel
theorem own_dad51 : decode prog_209_method_3_code 51 = .ok (.istore 7, 2) := by decide +kernel
theorem own_dad53 : decode prog_209_method_3_code 53 = .ok (.aload 6, 2) := by decide +kernel
theorem own_dad55 : decode prog_209_method_3_code 55 = .ok (.iload 7, 2) := by decide +kernel
theorem own_dad57 : decode prog_209_method_3_code 57 = .ok (.laload, 1) := by decide +kernel
theorem own_dad58 : decode prog_209_method_3_code 58 = .ok (.lstore 8, 2) := by decide +kernel
theorem own_dad60 : decode prog_209_method_3_code 60 = .ok (.aload 6, 2) := by decide +kernel
theorem own_dad62 : decode prog_209_method_3_code 62 = .ok (.iload 7, 2) := by decide +kernel
theorem own_dad64 : decode prog_209_method_3_code 64 = .ok (.lload 8, 2) := by decide +kernel
theorem own_dad66 : decode prog_209_method_3_code 66 = .ok (.lconst 1, 1) := by decide +kernel
theorem own_dad67 : decode prog_209_method_3_code 67 = .ok (.iload_n 2, 1) := by decide +kernel
theorem own_dad68 : decode prog_209_method_3_code 68 = .ok (.bipush 63, 2) := by decide +kernel
theorem own_dad70 : decode prog_209_method_3_code 70 = .ok (.iand, 1) := by decide +kernel
theorem own_dad71 : decode prog_209_method_3_code 71 = .ok (.lshl, 1) := by decide +kernel
theorem own_dad72 : decode prog_209_method_3_code 72 = .ok (.lor, 1) := by decide +kernel
theorem own_dad73 : decode prog_209_method_3_code 73 = .ok (.lastore, 1) := by decide +kernel
theorem own_dad74 : decode prog_209_method_3_code 74 = .ok (.lload 8, 2) := by decide +kernel
theorem own_dad76 : decode prog_209_method_3_code 76 = .ok (.lconst 0, 1) := by decide +kernel
theorem own_dad77 : decode prog_209_method_3_code 77 = .ok (.lcmp, 1) := by decide +kernel
theorem own_dad78 : decode prog_209_method_3_code 78 = .ok (.ifCond .eq 4, 3) := by decide +kernel
theorem own_dad81 : decode prog_209_method_3_code 81 = .ok (.return_, 1) := by decide +kernel
theorem own_dad82 : decode prog_209_method_3_code 82 = .ok (.iload 7, 2) := by decide +kernel
theorem own_dad84 : decode prog_209_method_3_code 84 = .ok (.istore_n 2, 1) := by decide +kernel
theorem own_dad85 : decode prog_209_method_3_code 85 = .ok (.iinc 5 1, 3) := by decide +kernel
theorem own_dad88 : decode prog_209_method_3_code 88 = .ok (.goto (-54), 3) := by decide +kernel
theorem own_dad91 : decode prog_209_method_3_code 91 = .ok (.return_, 1) := by decide +kernel
theorem own_add_pn : plainName "com/example/coersa/coersa/PlaceSet" = true := by first | (simp [plainName, overriddenIn]; done) | decide +kernel
theorem own_add_ef (m : MethodId) (ps : Addr) (q : Int32) : entryFrame m #[(.ref ps), (.int q)] 10 = mkF m 0 #[.val (.ref ps), .val (.int q), .unset, .unset, .unset, .unset, .unset, .unset, .unset, .unset] [] := by first | (simp [entryFrame, mkF, argsToLocals, Value.category]; done) | rfl
def own_add_Q (Z : State) (ps : Addr) (q : Int32) (B pl : Nat) (lv bc : Addr) (K : Nat) (ls : Nat → Addr) (N : Nat → Nat) (f : Nat → Nat → Int64) (M : Nat) (g : Nat → Int32) (h0 : Heap) (n0 : Nat) (v : Option Value) (h : Heap) (L : List Loc) : Prop := v = none ∧ Fr n0 L ∧ own_Kb n0 h0 h ∧ ∃ (lv' bc' : Addr) (K' : Nat) (ls' : Nat → Addr) (N' : Nat → Nat) (f' : Nat → Nat → Int64) (M' : Nat) (g' : Nat → Int32) (m : Nat), own_GR (pl + 1) K N f M g K' N' f' M' g' ∧ own_PS Z n0 h ps lv' bc' K' ls' N' (own_fa f' pl m) M' (fun b => if b = pl / 4096 then g' b + 1 else g' b) ∧ m ≤ K' ∧ (m = K' ∨ (0 < m ∧ ¬ f' (m - 1) (own_dv pl m) = 0))
set_option maxRecDepth 65536 in
set_option maxHeartbeats 40000000 in
theorem own_add (l : Launch) (Z : State) (a0 : Array Value) (hw : ∀ d ∈ tables_1, d.before a0 Z = true) (ws : List Jvm.Cond) (ps : Addr) (q : Int32) (B pl : Nat) (lv bc : Addr) (K : Nat) (ls : Nat → Addr) (N : Nat → Nat) (f : Nat → Nat → Int64) (M : Nat) (g : Nat → Int32) (h0 : Heap) (n0 : Nat) (Z0 : n0 ≤ h0.size) (hq : q = Int32.ofNat pl) (hpl : pl < 262144) (SH : own_SH K N M) (hB : N 0 < own_wf (pl + 1) → own_wf (own_gr (pl + 1) (N 0)) + 4 + (own_gr (pl + 1) (N 0) + 131) ≤ B) (P : own_PS Z n0 h0 ps lv bc K ls N f M g) :
  MetFree l (⟨"com/example/coersa/coersa/PlaceSet", "add", "(I)V"⟩ : MethodName) (head1 (Jvm.Cond.code (⟨"com/example/coersa/coersa/PlaceSet", "add", "(I)V"⟩ : MethodName) prog_209_method_3_code 10 none :: ws) ({ frames := 3, cells := 6, slots := B, locals := 90 } : Room)) (fun ars U => ars = #[(.ref ps), (.int q)] ∧ Z.Warmed39 U.vm ∧ U.heap = h0) (fun _ _ _ _ _ => True) (fun _ U o U' => ∃ v L, o = .returned v ∧ own_add_Q Z ps q B pl lv bc K ls N f M g h0 n0 v U'.heap L ∧ FrameEnd U o U' L ({ frames := 3, cells := 6, slots := B, locals := 90 } : Room).cells ({ frames := 3, cells := 6, slots := B, locals := 90 } : Room).slots) := by
 refine MetFree.of_bodySF (plainFor_of_name own_add_pn) hisR ?_
 intro p e s m args below meth c s₁ Bd hml0 hP hK
 obtain ⟨rfl, hZ, hh⟩ := hP
 have hx := Bd.exec
 have hby := Bd.bytes
 have hml : c.maxLocals = 10 := hml0
 have hown : s.vm.findClass "com/example/coersa/coersa/PlaceSet" = some m.cls := findClass_of_methodNamed Bd.named
 have hnm := (name_of_methodNamed Bd.named Bd.method).1
 have X0 : Stand p l e ({ frames := 3, cells := 6, slots := B, locals := 90 } : Room) s m #[(.ref ps), (.int q)] below meth c s₁ [] 0 0 := Stand.of_body Bd
 have e0 : s₁.heap = h0 := by rw [← hh, Bd.state]; rfl
 have N0 := Fr.nil n0
 generalize hS0 : s₁.setTop (entryFrame m #[(.ref ps), (.int q)] 10) = S0
 have c0 : Steps p.tables e below S0 (s₁.setTop (mkF m 0 #[.val (.ref ps), .val (.int q), .unset, .unset, .unset, .unset, .unset, .unset, .unset, .unset] [])) := by rw [← hS0]; exact castTop (own_add_ef m ps q) (Steps.refl _)
 have K0 : Keep h0 h0 [] := Keep.refl _ _
 subst hq
 obtain ⟨s1, s2, s3, s4, s5, s6, s7⟩ := SH
 have SH : own_SH K N M := ⟨s1, s2, s3, s4, s5, s6, s7⟩
 have c1 : Steps p.tables e below S0 (s₁.setTop (mkF m 4 #[.val (.ref ps), .val (.int (Int32.ofNat pl)), .unset, .unset, .unset, .unset, .unset, .unset, .unset, .unset] [(.int ((Int32.ofNat pl) + (1 : Int32))), (.ref ps)])) := c0.trans (by
  refine XS.aloadN X0.here hx rfl (hb hby own_dad0) rfl rfl ?_
  show Steps _ _ _ (.setTop _ (mkF _ 1 _ _)) _
  refine XS.iloadN X0.here hx rfl (hb hby own_dad1) rfl ?_
  show Steps _ _ _ (.setTop _ (mkF _ 2 _ _)) _
  refine XS.iconst X0.here hx rfl (hb hby own_dad2) ?_
  show Steps _ _ _ (.setTop _ (mkF _ 3 _ _)) _
  refine XS.iadd X0.here hx rfl (hb hby own_dad3) rfl ?_
  exact Steps.refl _)
 rw [(show Int32.ofNat pl + (1 : Int32) = Int32.ofNat (pl + 1) from own_iadd (i := pl) (j := 1))] at c1
 obtain ⟨cq2, kq2, q2a, q2b, q2c⟩ := isOf hZ e0 P.1
 obtain ⟨_, _, ⟨T2, L2, k2, n2⟩, -, X2, ⟨Lc2, hQ2, l2, y2, z2⟩, st2⟩ := X0.virtualBack hx (y := (⟨"com/example/coersa/coersa/PlaceSet", "makeRoom", "(I)V"⟩ : MethodName)) (z := (⟨"com/example/coersa/coersa/PlaceSet", "makeRoom", "(I)V"⟩ : MethodName)) hown (mvT hZ (hw _ (own_m 29 rfl))) (mvT hZ (hw _ (own_m 30 rfl))) (notFace_of_selects (args := #[]) (mvT hZ (hw _ (own_m 32 rfl)))) (mvT hZ (hw _ (own_m 32 rfl))) (mvT hZ (hw _ (own_m 31 rfl))) (by decide) (backOf (W := 0) (own_mkr l Z a0 hw [] ps (Int32.ofNat (pl + 1)) B (pl + 1) lv bc K ls N f M g h0 n0 Z0 rfl (by omega) s1 s2 s3 s4 s5 s6 hB P) hZ (hw _ (own_m 33 rfl)) (hw _ (own_m 9 rfl)) (Nat.le_of_ble_eq_true rfl) (Nat.le_of_ble_eq_true rfl)) q2a q2c (g := (mkF m 4 #[.val (.ref ps), .val (.int (Int32.ofNat pl)), .unset, .unset, .unset, .unset, .unset, .unset, .unset, .unset] [(.int (Int32.ofNat (pl + 1))), (.ref ps)])) rfl (by rw [hml]; rfl) (Steps.refl _) (argsL := [(.int (Int32.ofNat (pl + 1)))]) (rest := []) (lenOf own_pd5 rfl) rfl (by show 2 * 0 + _ ≤ _; exact Nat.le_of_eq rfl) (hb hby own_dad4) (fun _ _ => ⟨rfl, e0, (Nat.le_of_ble_eq_true rfl), (by show 0 + B ≤ B; omega)⟩)
 dsimp only [Pt.U, Pt.locs, Pt.cells, Pt.slots] at X2 l2 y2 z2 st2 hQ2
 subst l2 y2 z2
 obtain ⟨rfl, N2q, Kbm, lv', bc', K', ls', N', f', M', g', Pm, GRm⟩ := hQ2
 have N2 := Fr.app N0 N2q
 obtain ⟨SH', hwr⟩ := own_GR_SH SH GRm (by omega)
 obtain ⟨t1, t2, t3, hNi, t5, hN8, t7⟩ := SH'
 have hroom : pl < 64 * N' 0 := own_wf_room hwr
 have hcM : pl / 4096 < M' := by rw [t3]; have := own_wf_lt (x := pl / 64) (n := N' 0) (by omega); omega
 have hM8 : M' ≤ 8192 := by rw [t3]; exact own_wf_le (by omega) (by decide)
 obtain ⟨T5, X5, e5, st5⟩ := getF X2 hx hZ hown (host := "") (Or.inl (hw _ (own_m 22 rfl))) Via.refl rfl Pm.2.2.1 (g := (mkF m 8 #[.val (.ref ps), .val (.int (Int32.ofNat pl)), .unset, .unset, .unset, .unset, .unset, .unset, .unset, .unset] [(.ref ps)])) rfl rfl (hb hby own_dad8)
 have c7 : Steps p.tables e below S0 (T5.setTop (mkF m 15 #[.val (.ref ps), .val (.int (Int32.ofNat pl)), .unset, .unset, .unset, .unset, .unset, .unset, .unset, .unset] [(.int (((Int32.ofNat pl).toUInt32 >>> ((12 : Int32) &&& 31).toUInt32).toInt32)), (.ref bc')])) := c1.trans (by
  refine st2.trans ?_
  show Steps _ _ _ (.setTop _ (mkF _ 7 _ _)) _
  refine XS.aloadN X2.here hx rfl (hb hby own_dad7) rfl rfl ?_
  show Steps _ _ _ (.setTop _ (mkF _ 8 _ _)) _
  refine st5 _ ?_
  show Steps _ _ _ (.setTop _ (mkF _ 11 _ _)) _
  refine XS.iloadN X5.here hx rfl (hb hby own_dad11) rfl ?_
  show Steps _ _ _ (.setTop _ (mkF _ 12 _ _)) _
  refine XS.bipush X5.here hx rfl (hb hby own_dad12) ?_
  show Steps _ _ _ (.setTop _ (mkF _ 14 _ _)) _
  refine XS.iushr X5.here hx rfl (hb hby own_dad14) rfl ?_
  exact Steps.refl _)
 rw [own_ushr12 (show pl < 2 ^ 31 by omega)] at c7
 have Iq := Pm.2.2.2.2.2.1
 obtain ⟨cI, AI, EI, SI, HI⟩ := Iq
 obtain ⟨T11, h11, X11, e11, W11, st11⟩ := stI X5 hx hZ e5 AI (j := (Int32.ofNat (pl / 4096))) (own_inb (j := pl / 4096) SI hcM (by omega)) (g := (mkF m 19 #[.val (.ref ps), .val (.int (Int32.ofNat pl)), .unset, .unset, .unset, .unset, .unset, .unset, .unset, .unset] [(.int ((g' (pl / 4096)) + (1 : Int32))), (.int (Int32.ofNat (pl / 4096))), (.ref bc')])) rfl rfl (hb hby own_dad19)
 have c12 : Steps p.tables e below S0 (T11.setTop (mkF m 20 #[.val (.ref ps), .val (.int (Int32.ofNat pl)), .unset, .unset, .unset, .unset, .unset, .unset, .unset, .unset] [])) := c7.trans (by
  jvm_step X5.here [X5.here.top, hx, (hb hby own_dad15), Value.category]
  show Steps _ _ _ (.setTop _ (mkF _ 16 _ _)) _
  refine X5.iaload hx (j := (Int32.ofNat (pl / 4096))) (v := (.int (g' (pl / 4096)))) (by rw [e5]; exact AI.1) (State.isArrayOf_alike hZ.alike AI.2.1) AI.2.2 (own_inb (j := pl / 4096) SI hcM (by omega)) (by rw [own_cl (j := pl / 4096) (by omega)]; exact HI _ hcM) (g := (mkF m 16 #[.val (.ref ps), .val (.int (Int32.ofNat pl)), .unset, .unset, .unset, .unset, .unset, .unset, .unset, .unset] [(.int (Int32.ofNat (pl / 4096))), (.ref bc'), (.int (Int32.ofNat (pl / 4096))), (.ref bc')])) rfl rfl (hb hby own_dad16) _ ?_
  show Steps _ _ _ (.setTop _ (mkF _ 17 _ _)) _
  refine XS.iconst X5.here hx rfl (hb hby own_dad17) ?_
  show Steps _ _ _ (.setTop _ (mkF _ 18 _ _)) _
  refine XS.iadd X5.here hx rfl (hb hby own_dad18) rfl ?_
  show Steps _ _ _ (.setTop _ (mkF _ 19 _ _)) _
  refine st11 _ ?_
  exact Steps.refl _)
 have N11 := Fr.snoc X11 N2 Pm.2.2.2.2.2.2.2.2.1
 have Kb11 := Kbm.wr W11 Pm.2.2.2.2.2.2.2.2.1
 rw [own_cl (j := pl / 4096) (by omega)] at W11
 have P11 := Pm.setC (g' := fun b => if b = pl / 4096 then g' b + 1 else g' b) hcM W11 (fun i _ => by
  by_cases c : i = pl / 4096
  ·subst c; simp
  ·simp [c])
 obtain ⟨T14, X14, e14, st14⟩ := getF X11 hx hZ hown (host := "") (Or.inl (hw _ (own_m 20 rfl))) Via.refl e11 P11.2.1 (g := (mkF m 23 #[.val (.ref ps), .val (.int (Int32.ofNat pl)), .val (.int (Int32.ofNat pl)), .unset, .unset, .unset, .unset, .unset, .unset, .unset] [(.ref ps)])) rfl rfl (hb hby own_dad23)
 have Rq0 := P11.2.2.2.1
 obtain ⟨cr0, Ar0, -, Sr0, -⟩ := Rq0
 have c18 : Steps p.tables e below S0 (T14.setTop (mkF m 34 #[.val (.ref ps), .val (.int (Int32.ofNat pl)), .val (.int (Int32.ofNat pl)), .val (.ref lv'), .val (.int (Int32.ofNat K')), .val (.int (0 : Int32)), .unset, .unset, .unset, .unset] [])) := c12.trans (by
  refine XS.iloadN X11.here hx rfl (hb hby own_dad20) rfl ?_
  show Steps _ _ _ (.setTop _ (mkF _ 21 _ _)) _
  refine XS.istoreN X11.here hx rfl (hb hby own_dad21) rfl rfl ?_
  show Steps _ _ _ (.setTop _ (mkF _ 22 _ _)) _
  refine XS.aloadN X11.here hx rfl (hb hby own_dad22) rfl rfl ?_
  show Steps _ _ _ (.setTop _ (mkF _ 23 _ _)) _
  refine st14 _ ?_
  show Steps _ _ _ (.setTop _ (mkF _ 26 _ _)) _
  refine XS.astoreN X14.here hx rfl (hb hby own_dad26) rfl rfl rfl ?_
  show Steps _ _ _ (.setTop _ (mkF _ 27 _ _)) _
  refine XS.aloadN X14.here hx rfl (hb hby own_dad27) rfl rfl ?_
  show Steps _ _ _ (.setTop _ (mkF _ 28 _ _)) _
  refine X14.arraylength hx (by rw [e14]; exact Ar0.1) (State.isArrayOf_alike hZ.alike Ar0.2.1) (g := (mkF m 28 #[.val (.ref ps), .val (.int (Int32.ofNat pl)), .val (.int (Int32.ofNat pl)), .val (.ref lv'), .unset, .unset, .unset, .unset, .unset, .unset] [(.ref lv')])) rfl rfl (hb hby own_dad28) _ ?_
  rw [show cr0.slots.size.toInt32 = Int32.ofNat K' by rw [Sr0]]
  show Steps _ _ _ (.setTop _ (mkF _ 29 _ _)) _
  refine XS.istore X14.here hx rfl (hb hby own_dad29) rfl rfl ?_
  show Steps _ _ _ (.setTop _ (mkF _ 31 _ _)) _
  refine XS.iconst X14.here hx rfl (hb hby own_dad31) ?_
  show Steps _ _ _ (.setTop _ (mkF _ 32 _ _)) _
  refine XS.istore X14.here hx rfl (hb hby own_dad32) rfl rfl ?_
  exact Steps.refl _)
 have Pz := P11
 rw [← own_fa_zero f' pl] at Pz
 have c20 : Steps p.tables e below S0 (T14.setTop (mkF m 41 #[.val (.ref ps), .val (.int (Int32.ofNat pl)), .val (.int (Int32.ofNat pl)), .val (.ref lv'), .val (.int (Int32.ofNat K')), .val (.int (0 : Int32)), .unset, .unset, .unset, .unset] [])) := c18.trans (by
  refine XS.iload X14.here hx rfl (hb hby own_dad34) rfl ?_
  show Steps _ _ _ (.setTop _ (mkF _ 36 _ _)) _
  refine XS.iload X14.here hx rfl (hb hby own_dad36) rfl ?_
  show Steps _ _ _ (.setTop _ (mkF _ 38 _ _)) _
  refine XS.icmpNo X14.here hx rfl (hb hby own_dad38) rfl (tlt ((own_ilt (i := 0) (by decide) (by omega)).mpr (by omega))).2.1 ?_
  exact Steps.refl _)
 have hx0 : (pl / 64) < N' 0 := by rw [hNi 0 (show 0 < K' by omega)]; exact own_idx hroom 0
 have hn0 : N' 0 ≤ 8192 := by rw [hNi 0 (show 0 < K' by omega)]; exact own_it_b hN8 0
 have Rqv0 := Pz.2.2.2.1
 obtain ⟨cvv0, Avv0, Ovv0, Svv0, Hvv0⟩ := Rqv0
 have c23 : Steps p.tables e below S0 (T14.setTop (mkF m 51 #[.val (.ref ps), .val (.int (Int32.ofNat pl)), .val (.int (Int32.ofNat pl)), .val (.ref lv'), .val (.int (Int32.ofNat K')), .val (.int (0 : Int32)), .val (.ref (ls' 0)), .unset, .unset, .unset] [(.int (((Int32.ofNat pl).toUInt32 >>> ((6 : Int32) &&& 31).toUInt32).toInt32))])) := c20.trans (by
  refine XS.aloadN X14.here hx rfl (hb hby own_dad41) rfl rfl ?_
  show Steps _ _ _ (.setTop _ (mkF _ 42 _ _)) _
  refine XS.iload X14.here hx rfl (hb hby own_dad42) rfl ?_
  show Steps _ _ _ (.setTop _ (mkF _ 44 _ _)) _
  refine X14.aaload hx (j := (0 : Int32)) (v := (.ref (ls' 0))) (by rw [e14]; exact Avv0.1) (State.isArrayOf_alike hZ.alike Avv0.2.1) rfl Avv0.2.2 (own_inb (j := 0) Svv0 (show 0 < K' by omega) (by omega)) (Hvv0 0 (show 0 < K' by omega)) (g := (mkF m 44 #[.val (.ref ps), .val (.int (Int32.ofNat pl)), .val (.int (Int32.ofNat pl)), .val (.ref lv'), .val (.int (Int32.ofNat K')), .val (.int (0 : Int32)), .unset, .unset, .unset, .unset] [(.int (0 : Int32)), (.ref lv')])) rfl rfl (hb hby own_dad44) _ ?_
  show Steps _ _ _ (.setTop _ (mkF _ 45 _ _)) _
  refine XS.astore X14.here hx rfl (hb hby own_dad45) rfl rfl rfl ?_
  show Steps _ _ _ (.setTop _ (mkF _ 47 _ _)) _
  refine XS.iloadN X14.here hx rfl (hb hby own_dad47) rfl ?_
  show Steps _ _ _ (.setTop _ (mkF _ 48 _ _)) _
  refine XS.bipush X14.here hx rfl (hb hby own_dad48) ?_
  show Steps _ _ _ (.setTop _ (mkF _ 50 _ _)) _
  refine XS.iushr X14.here hx rfl (hb hby own_dad50) rfl ?_
  exact Steps.refl _)
 rw [own_ushr6 (show pl < 2 ^ 31 by omega)] at c23
 obtain ⟨cL0, AL0, EL0, SL0, HL0⟩ := Pz.2.2.2.2.1 0 (show 0 < K' by omega)
 have c25 : Steps p.tables e below S0 (T14.setTop (mkF m 58 #[.val (.ref ps), .val (.int (Int32.ofNat pl)), .val (.int (Int32.ofNat pl)), .val (.ref lv'), .val (.int (Int32.ofNat K')), .val (.int (0 : Int32)), .val (.ref (ls' 0)), .val (.int (Int32.ofNat (pl / 64))), .unset, .unset] [(.long (own_fa f' pl 0 0 (pl / 64)))])) := c23.trans (by
  refine XS.istore X14.here hx rfl (hb hby own_dad51) rfl rfl ?_
  show Steps _ _ _ (.setTop _ (mkF _ 53 _ _)) _
  refine XS.aload X14.here hx rfl (hb hby own_dad53) rfl rfl ?_
  show Steps _ _ _ (.setTop _ (mkF _ 55 _ _)) _
  refine XS.iload X14.here hx rfl (hb hby own_dad55) rfl ?_
  show Steps _ _ _ (.setTop _ (mkF _ 57 _ _)) _
  refine X14.laload hx (j := (Int32.ofNat (pl / 64))) (v := (.long (own_fa f' pl 0 0 (pl / 64)))) (by rw [e14]; exact AL0.1) (State.isArrayOf_alike hZ.alike AL0.2.1) AL0.2.2 (own_inb (j := (pl / 64)) SL0 hx0 (by omega)) (by rw [own_cl (j := (pl / 64)) (by omega)]; exact HL0 (pl / 64) hx0) (g := (mkF m 57 #[.val (.ref ps), .val (.int (Int32.ofNat pl)), .val (.int (Int32.ofNat pl)), .val (.ref lv'), .val (.int (Int32.ofNat K')), .val (.int (0 : Int32)), .val (.ref (ls' 0)), .val (.int (Int32.ofNat (pl / 64))), .unset, .unset] [(.int (Int32.ofNat (pl / 64))), (.ref (ls' 0))])) rfl rfl (hb hby own_dad57) _ ?_
  exact Steps.refl _)
 rw [own_fa_at] at c25
 have c26 : Steps p.tables e below S0 (T14.setTop (mkF m 71 #[.val (.ref ps), .val (.int (Int32.ofNat pl)), .val (.int (Int32.ofNat pl)), .val (.ref lv'), .val (.int (Int32.ofNat K')), .val (.int (0 : Int32)), .val (.ref (ls' 0)), .val (.int (Int32.ofNat (pl / 64))), .val (.long (f' 0 (pl / 64))), .second] [(.int ((Int32.ofNat pl) &&& (63 : Int32))), (.long (1 : Int64)), (.long (f' 0 (pl / 64))), (.int (Int32.ofNat (pl / 64))), (.ref (ls' 0))])) := c25.trans (by
  refine XS.lstore X14.here hx rfl (hb hby own_dad58) rfl rfl ?_
  show Steps _ _ _ (.setTop _ (mkF _ 60 _ _)) _
  refine XS.aload X14.here hx rfl (hb hby own_dad60) rfl rfl ?_
  show Steps _ _ _ (.setTop _ (mkF _ 62 _ _)) _
  refine XS.iload X14.here hx rfl (hb hby own_dad62) rfl ?_
  show Steps _ _ _ (.setTop _ (mkF _ 64 _ _)) _
  refine XS.lload X14.here hx rfl (hb hby own_dad64) rfl ?_
  show Steps _ _ _ (.setTop _ (mkF _ 66 _ _)) _
  refine XS.lconst X14.here hx rfl (hb hby own_dad66) ?_
  show Steps _ _ _ (.setTop _ (mkF _ 67 _ _)) _
  refine XS.iloadN X14.here hx rfl (hb hby own_dad67) rfl ?_
  show Steps _ _ _ (.setTop _ (mkF _ 68 _ _)) _
  refine XS.bipush X14.here hx rfl (hb hby own_dad68) ?_
  show Steps _ _ _ (.setTop _ (mkF _ 70 _ _)) _
  refine XS.iand X14.here hx rfl (hb hby own_dad70) rfl ?_
  exact Steps.refl _)
 rw [own_and63 (show pl < 2 ^ 31 by omega)] at c26
 obtain ⟨T28, h28, X28, e28, W28, st28⟩ := stJ X14 hx hZ e14 AL0 (j := (Int32.ofNat (pl / 64))) (own_inb (j := (pl / 64)) SL0 hx0 (by omega)) (g := (mkF m 73 #[.val (.ref ps), .val (.int (Int32.ofNat pl)), .val (.int (Int32.ofNat pl)), .val (.ref lv'), .val (.int (Int32.ofNat K')), .val (.int (0 : Int32)), .val (.ref (ls' 0)), .val (.int (Int32.ofNat (pl / 64))), .val (.long (f' 0 (pl / 64))), .second] [(.long ((f' 0 (pl / 64)) ||| ((1 : Int64) <<< ((Int32.ofNat (pl % 64)) &&& 0x3f).toInt64))), (.int (Int32.ofNat (pl / 64))), (.ref (ls' 0))])) rfl rfl (hb hby own_dad73)
 have N28 := Fr.snoc X28 N11 (Pz.2.2.2.2.2.2.2.2.2 0 (show 0 < K' by omega))
 have Kb28 := Kb11.wr W28 (Pz.2.2.2.2.2.2.2.2.2 0 (show 0 < K' by omega))
 rw [own_cl (j := (pl / 64)) (by omega)] at W28
 have P28 := Pz.setL (f' := own_fa f' pl 1) (show 0 < K' by omega) hx0 W28 (fun l' _ i' _ => own_fa_step l' i')
 have c30 : Steps p.tables e below S0 (T28.setTop (mkF m 78 #[.val (.ref ps), .val (.int (Int32.ofNat pl)), .val (.int (Int32.ofNat pl)), .val (.ref lv'), .val (.int (Int32.ofNat K')), .val (.int (0 : Int32)), .val (.ref (ls' 0)), .val (.int (Int32.ofNat (pl / 64))), .val (.long (f' 0 (pl / 64))), .second] [(.int (lcmpW (f' 0 (pl / 64)) (0 : Int64)))])) := c26.trans (by
  refine XS.lshl X14.here hx rfl (hb hby own_dad71) rfl ?_
  show Steps _ _ _ (.setTop _ (mkF _ 72 _ _)) _
  refine XS.lor X14.here hx rfl (hb hby own_dad72) rfl ?_
  show Steps _ _ _ (.setTop _ (mkF _ 73 _ _)) _
  refine st28 _ ?_
  show Steps _ _ _ (.setTop _ (mkF _ 74 _ _)) _
  refine XS.lload X28.here hx rfl (hb hby own_dad74) rfl ?_
  show Steps _ _ _ (.setTop _ (mkF _ 76 _ _)) _
  refine XS.lconst X28.here hx rfl (hb hby own_dad76) ?_
  show Steps _ _ _ (.setTop _ (mkF _ 77 _ _)) _
  refine XS.lcmp X28.here hx rfl (hb hby own_dad77) rfl ?_
  exact Steps.refl _)
 by_cases hz0 : (lcmpW (f' 0 (pl / 64)) (0 : Int64)) = (0 : Int32)
 ·have c33 : Steps p.tables e below S0 (T28.setTop (mkF m 34 #[.val (.ref ps), .val (.int (Int32.ofNat pl)), .val (.int (Int32.ofNat (pl / 64))), .val (.ref lv'), .val (.int (Int32.ofNat K')), .val (.int ((0 : Int32) + (1 : Int32))), .val (.ref (ls' 0)), .val (.int (Int32.ofNat (pl / 64))), .val (.long (f' 0 (pl / 64))), .second] [])) := c30.trans (by
   refine XS.ifYes X28.here hx rfl (pc0 := 78) (pc' := 82) rfl (hb hby own_dad78) rfl ((if0 _ _).trans (teq hz0).1) (by decide) (by decide) ?_
   show Steps _ _ _ (.setTop _ (mkF _ 82 _ _)) _
   refine XS.iload X28.here hx rfl (hb hby own_dad82) rfl ?_
   show Steps _ _ _ (.setTop _ (mkF _ 84 _ _)) _
   refine XS.istoreN X28.here hx rfl (hb hby own_dad84) rfl rfl ?_
   show Steps _ _ _ (.setTop _ (mkF _ 85 _ _)) _
   refine XS.iinc X28.here hx rfl (hb hby own_dad85) rfl rfl ?_
   show Steps _ _ _ (.setTop _ (mkF _ 88 _ _)) _
   refine XS.goto X28.here hx rfl (pc0 := 88) (pc' := 34) rfl (hb hby own_dad88) (by decide) (by decide) ?_
   exact Steps.refl _)
  rw [(show (0 : Int32) + (1 : Int32) = 1 by decide)] at c33
  have c34 : Steps p.tables e below S0 (T28.setTop (mkF m 38 #[.val (.ref ps), .val (.int (Int32.ofNat pl)), .val (.int (Int32.ofNat (pl / 64))), .val (.ref lv'), .val (.int (Int32.ofNat K')), .val (.int (1 : Int32)), .val (.ref (ls' 0)), .val (.int (Int32.ofNat (pl / 64))), .val (.long (f' 0 (pl / 64))), .second] [(.int (Int32.ofNat K')), (.int (1 : Int32))])) := c33.trans (by
   refine XS.iload X28.here hx rfl (hb hby own_dad34) rfl ?_
   show Steps _ _ _ (.setTop _ (mkF _ 36 _ _)) _
   refine XS.iload X28.here hx rfl (hb hby own_dad36) rfl ?_
   exact Steps.refl _)
  by_cases hi1 : (1 : Int32) < Int32.ofNat K'
  ·have c36 : Steps p.tables e below S0 (T28.setTop (mkF m 41 #[.val (.ref ps), .val (.int (Int32.ofNat pl)), .val (.int (Int32.ofNat (pl / 64))), .val (.ref lv'), .val (.int (Int32.ofNat K')), .val (.int (1 : Int32)), .val (.ref (ls' 0)), .val (.int (Int32.ofNat (pl / 64))), .val (.long (f' 0 (pl / 64))), .second] [])) := c34.trans (by
    refine XS.icmpNo X28.here hx rfl (hb hby own_dad38) rfl (tlt hi1).2.1 ?_
    exact Steps.refl _)
   have hik1 : 1 < K' := (own_ilt (i := 1) (by decide) (by omega)).mp hi1
   have hx1 : (pl / 64 / 64) < N' 1 := by rw [hNi 1 hik1]; exact own_idx hroom 1
   have hn1 : N' 1 ≤ 8192 := by rw [hNi 1 hik1]; exact own_it_b hN8 1
   have Rqv1 := P28.2.2.2.1
   obtain ⟨cvv1, Avv1, Ovv1, Svv1, Hvv1⟩ := Rqv1
   have c39 : Steps p.tables e below S0 (T28.setTop (mkF m 51 #[.val (.ref ps), .val (.int (Int32.ofNat pl)), .val (.int (Int32.ofNat (pl / 64))), .val (.ref lv'), .val (.int (Int32.ofNat K')), .val (.int (1 : Int32)), .val (.ref (ls' 1)), .val (.int (Int32.ofNat (pl / 64))), .val (.long (f' 0 (pl / 64))), .second] [(.int (((Int32.ofNat (pl / 64)).toUInt32 >>> ((6 : Int32) &&& 31).toUInt32).toInt32))])) := c36.trans (by
    refine XS.aloadN X28.here hx rfl (hb hby own_dad41) rfl rfl ?_
    show Steps _ _ _ (.setTop _ (mkF _ 42 _ _)) _
    refine XS.iload X28.here hx rfl (hb hby own_dad42) rfl ?_
    show Steps _ _ _ (.setTop _ (mkF _ 44 _ _)) _
    refine X28.aaload hx (j := (1 : Int32)) (v := (.ref (ls' 1))) (by rw [e28]; exact Avv1.1) (State.isArrayOf_alike hZ.alike Avv1.2.1) rfl Avv1.2.2 (own_inb (j := 1) Svv1 hik1 (by omega)) (Hvv1 1 hik1) (g := (mkF m 44 #[.val (.ref ps), .val (.int (Int32.ofNat pl)), .val (.int (Int32.ofNat (pl / 64))), .val (.ref lv'), .val (.int (Int32.ofNat K')), .val (.int (1 : Int32)), .val (.ref (ls' 0)), .val (.int (Int32.ofNat (pl / 64))), .val (.long (f' 0 (pl / 64))), .second] [(.int (1 : Int32)), (.ref lv')])) rfl rfl (hb hby own_dad44) _ ?_
    show Steps _ _ _ (.setTop _ (mkF _ 45 _ _)) _
    refine XS.astore X28.here hx rfl (hb hby own_dad45) rfl rfl rfl ?_
    show Steps _ _ _ (.setTop _ (mkF _ 47 _ _)) _
    refine XS.iloadN X28.here hx rfl (hb hby own_dad47) rfl ?_
    show Steps _ _ _ (.setTop _ (mkF _ 48 _ _)) _
    refine XS.bipush X28.here hx rfl (hb hby own_dad48) ?_
    show Steps _ _ _ (.setTop _ (mkF _ 50 _ _)) _
    refine XS.iushr X28.here hx rfl (hb hby own_dad50) rfl ?_
    exact Steps.refl _)
   rw [own_ushr6 (show (pl / 64) < 2 ^ 31 by omega)] at c39
   obtain ⟨cL1, AL1, EL1, SL1, HL1⟩ := P28.2.2.2.2.1 1 hik1
   have c41 : Steps p.tables e below S0 (T28.setTop (mkF m 58 #[.val (.ref ps), .val (.int (Int32.ofNat pl)), .val (.int (Int32.ofNat (pl / 64))), .val (.ref lv'), .val (.int (Int32.ofNat K')), .val (.int (1 : Int32)), .val (.ref (ls' 1)), .val (.int (Int32.ofNat (pl / 64 / 64))), .val (.long (f' 0 (pl / 64))), .second] [(.long (own_fa f' pl 1 1 (pl / 64 / 64)))])) := c39.trans (by
    refine XS.istore X28.here hx rfl (hb hby own_dad51) rfl rfl ?_
    show Steps _ _ _ (.setTop _ (mkF _ 53 _ _)) _
    refine XS.aload X28.here hx rfl (hb hby own_dad53) rfl rfl ?_
    show Steps _ _ _ (.setTop _ (mkF _ 55 _ _)) _
    refine XS.iload X28.here hx rfl (hb hby own_dad55) rfl ?_
    show Steps _ _ _ (.setTop _ (mkF _ 57 _ _)) _
    refine X28.laload hx (j := (Int32.ofNat (pl / 64 / 64))) (v := (.long (own_fa f' pl 1 1 (pl / 64 / 64)))) (by rw [e28]; exact AL1.1) (State.isArrayOf_alike hZ.alike AL1.2.1) AL1.2.2 (own_inb (j := (pl / 64 / 64)) SL1 hx1 (by omega)) (by rw [own_cl (j := (pl / 64 / 64)) (by omega)]; exact HL1 (pl / 64 / 64) hx1) (g := (mkF m 57 #[.val (.ref ps), .val (.int (Int32.ofNat pl)), .val (.int (Int32.ofNat (pl / 64))), .val (.ref lv'), .val (.int (Int32.ofNat K')), .val (.int (1 : Int32)), .val (.ref (ls' 1)), .val (.int (Int32.ofNat (pl / 64 / 64))), .val (.long (f' 0 (pl / 64))), .second] [(.int (Int32.ofNat (pl / 64 / 64))), (.ref (ls' 1))])) rfl rfl (hb hby own_dad57) _ ?_
    exact Steps.refl _)
   rw [own_fa_at] at c41
   have c42 : Steps p.tables e below S0 (T28.setTop (mkF m 71 #[.val (.ref ps), .val (.int (Int32.ofNat pl)), .val (.int (Int32.ofNat (pl / 64))), .val (.ref lv'), .val (.int (Int32.ofNat K')), .val (.int (1 : Int32)), .val (.ref (ls' 1)), .val (.int (Int32.ofNat (pl / 64 / 64))), .val (.long (f' 1 (pl / 64 / 64))), .second] [(.int ((Int32.ofNat (pl / 64)) &&& (63 : Int32))), (.long (1 : Int64)), (.long (f' 1 (pl / 64 / 64))), (.int (Int32.ofNat (pl / 64 / 64))), (.ref (ls' 1))])) := c41.trans (by
    refine XS.lstore X28.here hx rfl (hb hby own_dad58) rfl rfl ?_
    show Steps _ _ _ (.setTop _ (mkF _ 60 _ _)) _
    refine XS.aload X28.here hx rfl (hb hby own_dad60) rfl rfl ?_
    show Steps _ _ _ (.setTop _ (mkF _ 62 _ _)) _
    refine XS.iload X28.here hx rfl (hb hby own_dad62) rfl ?_
    show Steps _ _ _ (.setTop _ (mkF _ 64 _ _)) _
    refine XS.lload X28.here hx rfl (hb hby own_dad64) rfl ?_
    show Steps _ _ _ (.setTop _ (mkF _ 66 _ _)) _
    refine XS.lconst X28.here hx rfl (hb hby own_dad66) ?_
    show Steps _ _ _ (.setTop _ (mkF _ 67 _ _)) _
    refine XS.iloadN X28.here hx rfl (hb hby own_dad67) rfl ?_
    show Steps _ _ _ (.setTop _ (mkF _ 68 _ _)) _
    refine XS.bipush X28.here hx rfl (hb hby own_dad68) ?_
    show Steps _ _ _ (.setTop _ (mkF _ 70 _ _)) _
    refine XS.iand X28.here hx rfl (hb hby own_dad70) rfl ?_
    exact Steps.refl _)
   rw [own_and63 (show (pl / 64) < 2 ^ 31 by omega)] at c42
   obtain ⟨T44, h44, X44, e44, W44, st44⟩ := stJ X28 hx hZ e28 AL1 (j := (Int32.ofNat (pl / 64 / 64))) (own_inb (j := (pl / 64 / 64)) SL1 hx1 (by omega)) (g := (mkF m 73 #[.val (.ref ps), .val (.int (Int32.ofNat pl)), .val (.int (Int32.ofNat (pl / 64))), .val (.ref lv'), .val (.int (Int32.ofNat K')), .val (.int (1 : Int32)), .val (.ref (ls' 1)), .val (.int (Int32.ofNat (pl / 64 / 64))), .val (.long (f' 1 (pl / 64 / 64))), .second] [(.long ((f' 1 (pl / 64 / 64)) ||| ((1 : Int64) <<< ((Int32.ofNat ((pl / 64) % 64)) &&& 0x3f).toInt64))), (.int (Int32.ofNat (pl / 64 / 64))), (.ref (ls' 1))])) rfl rfl (hb hby own_dad73)
   have N44 := Fr.snoc X44 N28 (P28.2.2.2.2.2.2.2.2.2 1 hik1)
   have Kb44 := Kb28.wr W44 (P28.2.2.2.2.2.2.2.2.2 1 hik1)
   rw [own_cl (j := (pl / 64 / 64)) (by omega)] at W44
   have P44 := P28.setL (f' := own_fa f' pl 2) hik1 hx1 W44 (fun l' _ i' _ => own_fa_step l' i')
   have c46 : Steps p.tables e below S0 (T44.setTop (mkF m 78 #[.val (.ref ps), .val (.int (Int32.ofNat pl)), .val (.int (Int32.ofNat (pl / 64))), .val (.ref lv'), .val (.int (Int32.ofNat K')), .val (.int (1 : Int32)), .val (.ref (ls' 1)), .val (.int (Int32.ofNat (pl / 64 / 64))), .val (.long (f' 1 (pl / 64 / 64))), .second] [(.int (lcmpW (f' 1 (pl / 64 / 64)) (0 : Int64)))])) := c42.trans (by
    refine XS.lshl X28.here hx rfl (hb hby own_dad71) rfl ?_
    show Steps _ _ _ (.setTop _ (mkF _ 72 _ _)) _
    refine XS.lor X28.here hx rfl (hb hby own_dad72) rfl ?_
    show Steps _ _ _ (.setTop _ (mkF _ 73 _ _)) _
    refine st44 _ ?_
    show Steps _ _ _ (.setTop _ (mkF _ 74 _ _)) _
    refine XS.lload X44.here hx rfl (hb hby own_dad74) rfl ?_
    show Steps _ _ _ (.setTop _ (mkF _ 76 _ _)) _
    refine XS.lconst X44.here hx rfl (hb hby own_dad76) ?_
    show Steps _ _ _ (.setTop _ (mkF _ 77 _ _)) _
    refine XS.lcmp X44.here hx rfl (hb hby own_dad77) rfl ?_
    exact Steps.refl _)
   by_cases hz1 : (lcmpW (f' 1 (pl / 64 / 64)) (0 : Int64)) = (0 : Int32)
   ·have c49 : Steps p.tables e below S0 (T44.setTop (mkF m 34 #[.val (.ref ps), .val (.int (Int32.ofNat pl)), .val (.int (Int32.ofNat (pl / 64 / 64))), .val (.ref lv'), .val (.int (Int32.ofNat K')), .val (.int ((1 : Int32) + (1 : Int32))), .val (.ref (ls' 1)), .val (.int (Int32.ofNat (pl / 64 / 64))), .val (.long (f' 1 (pl / 64 / 64))), .second] [])) := c46.trans (by
     refine XS.ifYes X44.here hx rfl (pc0 := 78) (pc' := 82) rfl (hb hby own_dad78) rfl ((if0 _ _).trans (teq hz1).1) (by decide) (by decide) ?_
     show Steps _ _ _ (.setTop _ (mkF _ 82 _ _)) _
     refine XS.iload X44.here hx rfl (hb hby own_dad82) rfl ?_
     show Steps _ _ _ (.setTop _ (mkF _ 84 _ _)) _
     refine XS.istoreN X44.here hx rfl (hb hby own_dad84) rfl rfl ?_
     show Steps _ _ _ (.setTop _ (mkF _ 85 _ _)) _
     refine XS.iinc X44.here hx rfl (hb hby own_dad85) rfl rfl ?_
     show Steps _ _ _ (.setTop _ (mkF _ 88 _ _)) _
     refine XS.goto X44.here hx rfl (pc0 := 88) (pc' := 34) rfl (hb hby own_dad88) (by decide) (by decide) ?_
     exact Steps.refl _)
    rw [(show (1 : Int32) + (1 : Int32) = 2 by decide)] at c49
    have c50 : Steps p.tables e below S0 (T44.setTop (mkF m 38 #[.val (.ref ps), .val (.int (Int32.ofNat pl)), .val (.int (Int32.ofNat (pl / 64 / 64))), .val (.ref lv'), .val (.int (Int32.ofNat K')), .val (.int (2 : Int32)), .val (.ref (ls' 1)), .val (.int (Int32.ofNat (pl / 64 / 64))), .val (.long (f' 1 (pl / 64 / 64))), .second] [(.int (Int32.ofNat K')), (.int (2 : Int32))])) := c49.trans (by
     refine XS.iload X44.here hx rfl (hb hby own_dad34) rfl ?_
     show Steps _ _ _ (.setTop _ (mkF _ 36 _ _)) _
     refine XS.iload X44.here hx rfl (hb hby own_dad36) rfl ?_
     exact Steps.refl _)
    by_cases hi2 : (2 : Int32) < Int32.ofNat K'
    ·have c52 : Steps p.tables e below S0 (T44.setTop (mkF m 41 #[.val (.ref ps), .val (.int (Int32.ofNat pl)), .val (.int (Int32.ofNat (pl / 64 / 64))), .val (.ref lv'), .val (.int (Int32.ofNat K')), .val (.int (2 : Int32)), .val (.ref (ls' 1)), .val (.int (Int32.ofNat (pl / 64 / 64))), .val (.long (f' 1 (pl / 64 / 64))), .second] [])) := c50.trans (by
      refine XS.icmpNo X44.here hx rfl (hb hby own_dad38) rfl (tlt hi2).2.1 ?_
      exact Steps.refl _)
     have hik2 : 2 < K' := (own_ilt (i := 2) (by decide) (by omega)).mp hi2
     have hx2 : (pl / 64 / 64 / 64) < N' 2 := by rw [hNi 2 hik2]; exact own_idx hroom 2
     have hn2 : N' 2 ≤ 8192 := by rw [hNi 2 hik2]; exact own_it_b hN8 2
     have Rqv2 := P44.2.2.2.1
     obtain ⟨cvv2, Avv2, Ovv2, Svv2, Hvv2⟩ := Rqv2
     have c55 : Steps p.tables e below S0 (T44.setTop (mkF m 51 #[.val (.ref ps), .val (.int (Int32.ofNat pl)), .val (.int (Int32.ofNat (pl / 64 / 64))), .val (.ref lv'), .val (.int (Int32.ofNat K')), .val (.int (2 : Int32)), .val (.ref (ls' 2)), .val (.int (Int32.ofNat (pl / 64 / 64))), .val (.long (f' 1 (pl / 64 / 64))), .second] [(.int (((Int32.ofNat (pl / 64 / 64)).toUInt32 >>> ((6 : Int32) &&& 31).toUInt32).toInt32))])) := c52.trans (by
      refine XS.aloadN X44.here hx rfl (hb hby own_dad41) rfl rfl ?_
      show Steps _ _ _ (.setTop _ (mkF _ 42 _ _)) _
      refine XS.iload X44.here hx rfl (hb hby own_dad42) rfl ?_
      show Steps _ _ _ (.setTop _ (mkF _ 44 _ _)) _
      refine X44.aaload hx (j := (2 : Int32)) (v := (.ref (ls' 2))) (by rw [e44]; exact Avv2.1) (State.isArrayOf_alike hZ.alike Avv2.2.1) rfl Avv2.2.2 (own_inb (j := 2) Svv2 hik2 (by omega)) (Hvv2 2 hik2) (g := (mkF m 44 #[.val (.ref ps), .val (.int (Int32.ofNat pl)), .val (.int (Int32.ofNat (pl / 64 / 64))), .val (.ref lv'), .val (.int (Int32.ofNat K')), .val (.int (2 : Int32)), .val (.ref (ls' 1)), .val (.int (Int32.ofNat (pl / 64 / 64))), .val (.long (f' 1 (pl / 64 / 64))), .second] [(.int (2 : Int32)), (.ref lv')])) rfl rfl (hb hby own_dad44) _ ?_
      show Steps _ _ _ (.setTop _ (mkF _ 45 _ _)) _
      refine XS.astore X44.here hx rfl (hb hby own_dad45) rfl rfl rfl ?_
      show Steps _ _ _ (.setTop _ (mkF _ 47 _ _)) _
      refine XS.iloadN X44.here hx rfl (hb hby own_dad47) rfl ?_
      show Steps _ _ _ (.setTop _ (mkF _ 48 _ _)) _
      refine XS.bipush X44.here hx rfl (hb hby own_dad48) ?_
      show Steps _ _ _ (.setTop _ (mkF _ 50 _ _)) _
      refine XS.iushr X44.here hx rfl (hb hby own_dad50) rfl ?_
      exact Steps.refl _)
     rw [own_ushr6 (show (pl / 64 / 64) < 2 ^ 31 by omega)] at c55
     obtain ⟨cL2, AL2, EL2, SL2, HL2⟩ := P44.2.2.2.2.1 2 hik2
     have c57 : Steps p.tables e below S0 (T44.setTop (mkF m 58 #[.val (.ref ps), .val (.int (Int32.ofNat pl)), .val (.int (Int32.ofNat (pl / 64 / 64))), .val (.ref lv'), .val (.int (Int32.ofNat K')), .val (.int (2 : Int32)), .val (.ref (ls' 2)), .val (.int (Int32.ofNat (pl / 64 / 64 / 64))), .val (.long (f' 1 (pl / 64 / 64))), .second] [(.long (own_fa f' pl 2 2 (pl / 64 / 64 / 64)))])) := c55.trans (by
      refine XS.istore X44.here hx rfl (hb hby own_dad51) rfl rfl ?_
      show Steps _ _ _ (.setTop _ (mkF _ 53 _ _)) _
      refine XS.aload X44.here hx rfl (hb hby own_dad53) rfl rfl ?_
      show Steps _ _ _ (.setTop _ (mkF _ 55 _ _)) _
      refine XS.iload X44.here hx rfl (hb hby own_dad55) rfl ?_
      show Steps _ _ _ (.setTop _ (mkF _ 57 _ _)) _
      refine X44.laload hx (j := (Int32.ofNat (pl / 64 / 64 / 64))) (v := (.long (own_fa f' pl 2 2 (pl / 64 / 64 / 64)))) (by rw [e44]; exact AL2.1) (State.isArrayOf_alike hZ.alike AL2.2.1) AL2.2.2 (own_inb (j := (pl / 64 / 64 / 64)) SL2 hx2 (by omega)) (by rw [own_cl (j := (pl / 64 / 64 / 64)) (by omega)]; exact HL2 (pl / 64 / 64 / 64) hx2) (g := (mkF m 57 #[.val (.ref ps), .val (.int (Int32.ofNat pl)), .val (.int (Int32.ofNat (pl / 64 / 64))), .val (.ref lv'), .val (.int (Int32.ofNat K')), .val (.int (2 : Int32)), .val (.ref (ls' 2)), .val (.int (Int32.ofNat (pl / 64 / 64 / 64))), .val (.long (f' 1 (pl / 64 / 64))), .second] [(.int (Int32.ofNat (pl / 64 / 64 / 64))), (.ref (ls' 2))])) rfl rfl (hb hby own_dad57) _ ?_
      exact Steps.refl _)
     rw [own_fa_at] at c57
     have c58 : Steps p.tables e below S0 (T44.setTop (mkF m 71 #[.val (.ref ps), .val (.int (Int32.ofNat pl)), .val (.int (Int32.ofNat (pl / 64 / 64))), .val (.ref lv'), .val (.int (Int32.ofNat K')), .val (.int (2 : Int32)), .val (.ref (ls' 2)), .val (.int (Int32.ofNat (pl / 64 / 64 / 64))), .val (.long (f' 2 (pl / 64 / 64 / 64))), .second] [(.int ((Int32.ofNat (pl / 64 / 64)) &&& (63 : Int32))), (.long (1 : Int64)), (.long (f' 2 (pl / 64 / 64 / 64))), (.int (Int32.ofNat (pl / 64 / 64 / 64))), (.ref (ls' 2))])) := c57.trans (by
      refine XS.lstore X44.here hx rfl (hb hby own_dad58) rfl rfl ?_
      show Steps _ _ _ (.setTop _ (mkF _ 60 _ _)) _
      refine XS.aload X44.here hx rfl (hb hby own_dad60) rfl rfl ?_
      show Steps _ _ _ (.setTop _ (mkF _ 62 _ _)) _
      refine XS.iload X44.here hx rfl (hb hby own_dad62) rfl ?_
      show Steps _ _ _ (.setTop _ (mkF _ 64 _ _)) _
      refine XS.lload X44.here hx rfl (hb hby own_dad64) rfl ?_
      show Steps _ _ _ (.setTop _ (mkF _ 66 _ _)) _
      refine XS.lconst X44.here hx rfl (hb hby own_dad66) ?_
      show Steps _ _ _ (.setTop _ (mkF _ 67 _ _)) _
      refine XS.iloadN X44.here hx rfl (hb hby own_dad67) rfl ?_
      show Steps _ _ _ (.setTop _ (mkF _ 68 _ _)) _
      refine XS.bipush X44.here hx rfl (hb hby own_dad68) ?_
      show Steps _ _ _ (.setTop _ (mkF _ 70 _ _)) _
      refine XS.iand X44.here hx rfl (hb hby own_dad70) rfl ?_
      exact Steps.refl _)
     rw [own_and63 (show (pl / 64 / 64) < 2 ^ 31 by omega)] at c58
     obtain ⟨T60, h60, X60, e60, W60, st60⟩ := stJ X44 hx hZ e44 AL2 (j := (Int32.ofNat (pl / 64 / 64 / 64))) (own_inb (j := (pl / 64 / 64 / 64)) SL2 hx2 (by omega)) (g := (mkF m 73 #[.val (.ref ps), .val (.int (Int32.ofNat pl)), .val (.int (Int32.ofNat (pl / 64 / 64))), .val (.ref lv'), .val (.int (Int32.ofNat K')), .val (.int (2 : Int32)), .val (.ref (ls' 2)), .val (.int (Int32.ofNat (pl / 64 / 64 / 64))), .val (.long (f' 2 (pl / 64 / 64 / 64))), .second] [(.long ((f' 2 (pl / 64 / 64 / 64)) ||| ((1 : Int64) <<< ((Int32.ofNat ((pl / 64 / 64) % 64)) &&& 0x3f).toInt64))), (.int (Int32.ofNat (pl / 64 / 64 / 64))), (.ref (ls' 2))])) rfl rfl (hb hby own_dad73)
     have N60 := Fr.snoc X60 N44 (P44.2.2.2.2.2.2.2.2.2 2 hik2)
     have Kb60 := Kb44.wr W60 (P44.2.2.2.2.2.2.2.2.2 2 hik2)
     rw [own_cl (j := (pl / 64 / 64 / 64)) (by omega)] at W60
     have P60 := P44.setL (f' := own_fa f' pl 3) hik2 hx2 W60 (fun l' _ i' _ => own_fa_step l' i')
     have c62 : Steps p.tables e below S0 (T60.setTop (mkF m 78 #[.val (.ref ps), .val (.int (Int32.ofNat pl)), .val (.int (Int32.ofNat (pl / 64 / 64))), .val (.ref lv'), .val (.int (Int32.ofNat K')), .val (.int (2 : Int32)), .val (.ref (ls' 2)), .val (.int (Int32.ofNat (pl / 64 / 64 / 64))), .val (.long (f' 2 (pl / 64 / 64 / 64))), .second] [(.int (lcmpW (f' 2 (pl / 64 / 64 / 64)) (0 : Int64)))])) := c58.trans (by
      refine XS.lshl X44.here hx rfl (hb hby own_dad71) rfl ?_
      show Steps _ _ _ (.setTop _ (mkF _ 72 _ _)) _
      refine XS.lor X44.here hx rfl (hb hby own_dad72) rfl ?_
      show Steps _ _ _ (.setTop _ (mkF _ 73 _ _)) _
      refine st60 _ ?_
      show Steps _ _ _ (.setTop _ (mkF _ 74 _ _)) _
      refine XS.lload X60.here hx rfl (hb hby own_dad74) rfl ?_
      show Steps _ _ _ (.setTop _ (mkF _ 76 _ _)) _
      refine XS.lconst X60.here hx rfl (hb hby own_dad76) ?_
      show Steps _ _ _ (.setTop _ (mkF _ 77 _ _)) _
      refine XS.lcmp X60.here hx rfl (hb hby own_dad77) rfl ?_
      exact Steps.refl _)
     by_cases hz2 : (lcmpW (f' 2 (pl / 64 / 64 / 64)) (0 : Int64)) = (0 : Int32)
     ·have c65 : Steps p.tables e below S0 (T60.setTop (mkF m 34 #[.val (.ref ps), .val (.int (Int32.ofNat pl)), .val (.int (Int32.ofNat (pl / 64 / 64 / 64))), .val (.ref lv'), .val (.int (Int32.ofNat K')), .val (.int ((2 : Int32) + (1 : Int32))), .val (.ref (ls' 2)), .val (.int (Int32.ofNat (pl / 64 / 64 / 64))), .val (.long (f' 2 (pl / 64 / 64 / 64))), .second] [])) := c62.trans (by
       refine XS.ifYes X60.here hx rfl (pc0 := 78) (pc' := 82) rfl (hb hby own_dad78) rfl ((if0 _ _).trans (teq hz2).1) (by decide) (by decide) ?_
       show Steps _ _ _ (.setTop _ (mkF _ 82 _ _)) _
       refine XS.iload X60.here hx rfl (hb hby own_dad82) rfl ?_
       show Steps _ _ _ (.setTop _ (mkF _ 84 _ _)) _
       refine XS.istoreN X60.here hx rfl (hb hby own_dad84) rfl rfl ?_
       show Steps _ _ _ (.setTop _ (mkF _ 85 _ _)) _
       refine XS.iinc X60.here hx rfl (hb hby own_dad85) rfl rfl ?_
       show Steps _ _ _ (.setTop _ (mkF _ 88 _ _)) _
       refine XS.goto X60.here hx rfl (pc0 := 88) (pc' := 34) rfl (hb hby own_dad88) (by decide) (by decide) ?_
       exact Steps.refl _)
      rw [(show (2 : Int32) + (1 : Int32) = 3 by decide)] at c65
      have c66 : Steps p.tables e below S0 (T60.setTop (mkF m 38 #[.val (.ref ps), .val (.int (Int32.ofNat pl)), .val (.int (Int32.ofNat (pl / 64 / 64 / 64))), .val (.ref lv'), .val (.int (Int32.ofNat K')), .val (.int (3 : Int32)), .val (.ref (ls' 2)), .val (.int (Int32.ofNat (pl / 64 / 64 / 64))), .val (.long (f' 2 (pl / 64 / 64 / 64))), .second] [(.int (Int32.ofNat K')), (.int (3 : Int32))])) := c65.trans (by
       refine XS.iload X60.here hx rfl (hb hby own_dad34) rfl ?_
       show Steps _ _ _ (.setTop _ (mkF _ 36 _ _)) _
       refine XS.iload X60.here hx rfl (hb hby own_dad36) rfl ?_
       exact Steps.refl _)
      by_cases hi3 : (3 : Int32) < Int32.ofNat K'
      ·have hik3 : 3 < K' := (own_ilt (i := 3) (by decide) (by omega)).mp hi3
       have hx3 : (pl / 64 / 64 / 64 / 64) < N' 3 := by rw [hNi 3 hik3]; exact own_idx hroom 3
       have hn3 : N' 3 ≤ 8192 := by rw [hNi 3 hik3]; exact own_it_b hN8 3
       have Rqv3 := P60.2.2.2.1
       obtain ⟨cvv3, Avv3, Ovv3, Svv3, Hvv3⟩ := Rqv3
       have c71 : Steps p.tables e below S0 (T60.setTop (mkF m 51 #[.val (.ref ps), .val (.int (Int32.ofNat pl)), .val (.int (Int32.ofNat (pl / 64 / 64 / 64))), .val (.ref lv'), .val (.int (Int32.ofNat K')), .val (.int (3 : Int32)), .val (.ref (ls' 3)), .val (.int (Int32.ofNat (pl / 64 / 64 / 64))), .val (.long (f' 2 (pl / 64 / 64 / 64))), .second] [(.int (((Int32.ofNat (pl / 64 / 64 / 64)).toUInt32 >>> ((6 : Int32) &&& 31).toUInt32).toInt32))])) := c66.trans (by
        refine XS.icmpNo X60.here hx rfl (hb hby own_dad38) rfl (tlt hi3).2.1 ?_
        show Steps _ _ _ (.setTop _ (mkF _ 41 _ _)) _
        refine XS.aloadN X60.here hx rfl (hb hby own_dad41) rfl rfl ?_
        show Steps _ _ _ (.setTop _ (mkF _ 42 _ _)) _
        refine XS.iload X60.here hx rfl (hb hby own_dad42) rfl ?_
        show Steps _ _ _ (.setTop _ (mkF _ 44 _ _)) _
        refine X60.aaload hx (j := (3 : Int32)) (v := (.ref (ls' 3))) (by rw [e60]; exact Avv3.1) (State.isArrayOf_alike hZ.alike Avv3.2.1) rfl Avv3.2.2 (own_inb (j := 3) Svv3 hik3 (by omega)) (Hvv3 3 hik3) (g := (mkF m 44 #[.val (.ref ps), .val (.int (Int32.ofNat pl)), .val (.int (Int32.ofNat (pl / 64 / 64 / 64))), .val (.ref lv'), .val (.int (Int32.ofNat K')), .val (.int (3 : Int32)), .val (.ref (ls' 2)), .val (.int (Int32.ofNat (pl / 64 / 64 / 64))), .val (.long (f' 2 (pl / 64 / 64 / 64))), .second] [(.int (3 : Int32)), (.ref lv')])) rfl rfl (hb hby own_dad44) _ ?_
        show Steps _ _ _ (.setTop _ (mkF _ 45 _ _)) _
        refine XS.astore X60.here hx rfl (hb hby own_dad45) rfl rfl rfl ?_
        show Steps _ _ _ (.setTop _ (mkF _ 47 _ _)) _
        refine XS.iloadN X60.here hx rfl (hb hby own_dad47) rfl ?_
        show Steps _ _ _ (.setTop _ (mkF _ 48 _ _)) _
        refine XS.bipush X60.here hx rfl (hb hby own_dad48) ?_
        show Steps _ _ _ (.setTop _ (mkF _ 50 _ _)) _
        refine XS.iushr X60.here hx rfl (hb hby own_dad50) rfl ?_
        exact Steps.refl _)
       rw [own_ushr6 (show (pl / 64 / 64 / 64) < 2 ^ 31 by omega)] at c71
       obtain ⟨cL3, AL3, EL3, SL3, HL3⟩ := P60.2.2.2.2.1 3 hik3
       have c73 : Steps p.tables e below S0 (T60.setTop (mkF m 58 #[.val (.ref ps), .val (.int (Int32.ofNat pl)), .val (.int (Int32.ofNat (pl / 64 / 64 / 64))), .val (.ref lv'), .val (.int (Int32.ofNat K')), .val (.int (3 : Int32)), .val (.ref (ls' 3)), .val (.int (Int32.ofNat (pl / 64 / 64 / 64 / 64))), .val (.long (f' 2 (pl / 64 / 64 / 64))), .second] [(.long (own_fa f' pl 3 3 (pl / 64 / 64 / 64 / 64)))])) := c71.trans (by
        refine XS.istore X60.here hx rfl (hb hby own_dad51) rfl rfl ?_
        show Steps _ _ _ (.setTop _ (mkF _ 53 _ _)) _
        refine XS.aload X60.here hx rfl (hb hby own_dad53) rfl rfl ?_
        show Steps _ _ _ (.setTop _ (mkF _ 55 _ _)) _
        refine XS.iload X60.here hx rfl (hb hby own_dad55) rfl ?_
        show Steps _ _ _ (.setTop _ (mkF _ 57 _ _)) _
        refine X60.laload hx (j := (Int32.ofNat (pl / 64 / 64 / 64 / 64))) (v := (.long (own_fa f' pl 3 3 (pl / 64 / 64 / 64 / 64)))) (by rw [e60]; exact AL3.1) (State.isArrayOf_alike hZ.alike AL3.2.1) AL3.2.2 (own_inb (j := (pl / 64 / 64 / 64 / 64)) SL3 hx3 (by omega)) (by rw [own_cl (j := (pl / 64 / 64 / 64 / 64)) (by omega)]; exact HL3 (pl / 64 / 64 / 64 / 64) hx3) (g := (mkF m 57 #[.val (.ref ps), .val (.int (Int32.ofNat pl)), .val (.int (Int32.ofNat (pl / 64 / 64 / 64))), .val (.ref lv'), .val (.int (Int32.ofNat K')), .val (.int (3 : Int32)), .val (.ref (ls' 3)), .val (.int (Int32.ofNat (pl / 64 / 64 / 64 / 64))), .val (.long (f' 2 (pl / 64 / 64 / 64))), .second] [(.int (Int32.ofNat (pl / 64 / 64 / 64 / 64))), (.ref (ls' 3))])) rfl rfl (hb hby own_dad57) _ ?_
        exact Steps.refl _)
       rw [own_fa_at] at c73
       have c74 : Steps p.tables e below S0 (T60.setTop (mkF m 71 #[.val (.ref ps), .val (.int (Int32.ofNat pl)), .val (.int (Int32.ofNat (pl / 64 / 64 / 64))), .val (.ref lv'), .val (.int (Int32.ofNat K')), .val (.int (3 : Int32)), .val (.ref (ls' 3)), .val (.int (Int32.ofNat (pl / 64 / 64 / 64 / 64))), .val (.long (f' 3 (pl / 64 / 64 / 64 / 64))), .second] [(.int ((Int32.ofNat (pl / 64 / 64 / 64)) &&& (63 : Int32))), (.long (1 : Int64)), (.long (f' 3 (pl / 64 / 64 / 64 / 64))), (.int (Int32.ofNat (pl / 64 / 64 / 64 / 64))), (.ref (ls' 3))])) := c73.trans (by
        refine XS.lstore X60.here hx rfl (hb hby own_dad58) rfl rfl ?_
        show Steps _ _ _ (.setTop _ (mkF _ 60 _ _)) _
        refine XS.aload X60.here hx rfl (hb hby own_dad60) rfl rfl ?_
        show Steps _ _ _ (.setTop _ (mkF _ 62 _ _)) _
        refine XS.iload X60.here hx rfl (hb hby own_dad62) rfl ?_
        show Steps _ _ _ (.setTop _ (mkF _ 64 _ _)) _
        refine XS.lload X60.here hx rfl (hb hby own_dad64) rfl ?_
        show Steps _ _ _ (.setTop _ (mkF _ 66 _ _)) _
        refine XS.lconst X60.here hx rfl (hb hby own_dad66) ?_
        show Steps _ _ _ (.setTop _ (mkF _ 67 _ _)) _
        refine XS.iloadN X60.here hx rfl (hb hby own_dad67) rfl ?_
        show Steps _ _ _ (.setTop _ (mkF _ 68 _ _)) _
        refine XS.bipush X60.here hx rfl (hb hby own_dad68) ?_
        show Steps _ _ _ (.setTop _ (mkF _ 70 _ _)) _
        refine XS.iand X60.here hx rfl (hb hby own_dad70) rfl ?_
        exact Steps.refl _)
       rw [own_and63 (show (pl / 64 / 64 / 64) < 2 ^ 31 by omega)] at c74
       obtain ⟨T76, h76, X76, e76, W76, st76⟩ := stJ X60 hx hZ e60 AL3 (j := (Int32.ofNat (pl / 64 / 64 / 64 / 64))) (own_inb (j := (pl / 64 / 64 / 64 / 64)) SL3 hx3 (by omega)) (g := (mkF m 73 #[.val (.ref ps), .val (.int (Int32.ofNat pl)), .val (.int (Int32.ofNat (pl / 64 / 64 / 64))), .val (.ref lv'), .val (.int (Int32.ofNat K')), .val (.int (3 : Int32)), .val (.ref (ls' 3)), .val (.int (Int32.ofNat (pl / 64 / 64 / 64 / 64))), .val (.long (f' 3 (pl / 64 / 64 / 64 / 64))), .second] [(.long ((f' 3 (pl / 64 / 64 / 64 / 64)) ||| ((1 : Int64) <<< ((Int32.ofNat ((pl / 64 / 64 / 64) % 64)) &&& 0x3f).toInt64))), (.int (Int32.ofNat (pl / 64 / 64 / 64 / 64))), (.ref (ls' 3))])) rfl rfl (hb hby own_dad73)
       have N76 := Fr.snoc X76 N60 (P60.2.2.2.2.2.2.2.2.2 3 hik3)
       have Kb76 := Kb60.wr W76 (P60.2.2.2.2.2.2.2.2.2 3 hik3)
       rw [own_cl (j := (pl / 64 / 64 / 64 / 64)) (by omega)] at W76
       have P76 := P60.setL (f' := own_fa f' pl 4) hik3 hx3 W76 (fun l' _ i' _ => own_fa_step l' i')
       have c78 : Steps p.tables e below S0 (T76.setTop (mkF m 78 #[.val (.ref ps), .val (.int (Int32.ofNat pl)), .val (.int (Int32.ofNat (pl / 64 / 64 / 64))), .val (.ref lv'), .val (.int (Int32.ofNat K')), .val (.int (3 : Int32)), .val (.ref (ls' 3)), .val (.int (Int32.ofNat (pl / 64 / 64 / 64 / 64))), .val (.long (f' 3 (pl / 64 / 64 / 64 / 64))), .second] [(.int (lcmpW (f' 3 (pl / 64 / 64 / 64 / 64)) (0 : Int64)))])) := c74.trans (by
        refine XS.lshl X60.here hx rfl (hb hby own_dad71) rfl ?_
        show Steps _ _ _ (.setTop _ (mkF _ 72 _ _)) _
        refine XS.lor X60.here hx rfl (hb hby own_dad72) rfl ?_
        show Steps _ _ _ (.setTop _ (mkF _ 73 _ _)) _
        refine st76 _ ?_
        show Steps _ _ _ (.setTop _ (mkF _ 74 _ _)) _
        refine XS.lload X76.here hx rfl (hb hby own_dad74) rfl ?_
        show Steps _ _ _ (.setTop _ (mkF _ 76 _ _)) _
        refine XS.lconst X76.here hx rfl (hb hby own_dad76) ?_
        show Steps _ _ _ (.setTop _ (mkF _ 77 _ _)) _
        refine XS.lcmp X76.here hx rfl (hb hby own_dad77) rfl ?_
        exact Steps.refl _)
       by_cases hz3 : (lcmpW (f' 3 (pl / 64 / 64 / 64 / 64)) (0 : Int64)) = (0 : Int32)
       ·have c81 : Steps p.tables e below S0 (T76.setTop (mkF m 34 #[.val (.ref ps), .val (.int (Int32.ofNat pl)), .val (.int (Int32.ofNat (pl / 64 / 64 / 64 / 64))), .val (.ref lv'), .val (.int (Int32.ofNat K')), .val (.int ((3 : Int32) + (1 : Int32))), .val (.ref (ls' 3)), .val (.int (Int32.ofNat (pl / 64 / 64 / 64 / 64))), .val (.long (f' 3 (pl / 64 / 64 / 64 / 64))), .second] [])) := c78.trans (by
         refine XS.ifYes X76.here hx rfl (pc0 := 78) (pc' := 82) rfl (hb hby own_dad78) rfl ((if0 _ _).trans (teq hz3).1) (by decide) (by decide) ?_
         show Steps _ _ _ (.setTop _ (mkF _ 82 _ _)) _
         refine XS.iload X76.here hx rfl (hb hby own_dad82) rfl ?_
         show Steps _ _ _ (.setTop _ (mkF _ 84 _ _)) _
         refine XS.istoreN X76.here hx rfl (hb hby own_dad84) rfl rfl ?_
         show Steps _ _ _ (.setTop _ (mkF _ 85 _ _)) _
         refine XS.iinc X76.here hx rfl (hb hby own_dad85) rfl rfl ?_
         show Steps _ _ _ (.setTop _ (mkF _ 88 _ _)) _
         refine XS.goto X76.here hx rfl (pc0 := 88) (pc' := 34) rfl (hb hby own_dad88) (by decide) (by decide) ?_
         exact Steps.refl _)
        rw [(show (3 : Int32) + (1 : Int32) = 4 by decide)] at c81
        have hKi : K' = 4 := by omega
        have c83 : Steps p.tables e below S0 (T76.setTop (mkF m 91 #[.val (.ref ps), .val (.int (Int32.ofNat pl)), .val (.int (Int32.ofNat (pl / 64 / 64 / 64 / 64))), .val (.ref lv'), .val (.int (Int32.ofNat K')), .val (.int (4 : Int32)), .val (.ref (ls' 3)), .val (.int (Int32.ofNat (pl / 64 / 64 / 64 / 64))), .val (.long (f' 3 (pl / 64 / 64 / 64 / 64))), .second] [])) := c81.trans (by
         refine XS.iload X76.here hx rfl (hb hby own_dad34) rfl ?_
         show Steps _ _ _ (.setTop _ (mkF _ 36 _ _)) _
         refine XS.iload X76.here hx rfl (hb hby own_dad36) rfl ?_
         show Steps _ _ _ (.setTop _ (mkF _ 38 _ _)) _
         refine XS.icmpYes X76.here hx rfl (pc0 := 38) (pc' := 91) rfl (hb hby own_dad38) rfl (flt (fun q => absurd ((own_ilt (i := 4) (by decide) (by omega)).mp q) (by omega))).2.1 (by decide) (by decide) ?_
         exact Steps.refl _)
        obtain ⟨fs, hr, hrun, hended, hW, hsame⟩ := X76.leave (v := none) (fun _ => rfl)
        exact ⟨_, _, c83.trans (X76.returnOut hx Bd.returns (hb hby own_dad91) hr), hrun, hended, _, _, rfl, (by rw [show (T76.setFrames fs).heap = h76 from e76]; exact ⟨rfl, N76, Kb76, lv', bc', K', ls', N', f', M', g', 4, GRm, P76, by omega, Or.inl hKi.symm⟩), ⟨_, rfl⟩, hW, hsame.mono (Nat.le_of_ble_eq_true rfl) (by show 0 + B ≤ B; omega)⟩
       ·have c79 : Steps p.tables e below S0 (T76.setTop (mkF m 81 #[.val (.ref ps), .val (.int (Int32.ofNat pl)), .val (.int (Int32.ofNat (pl / 64 / 64 / 64))), .val (.ref lv'), .val (.int (Int32.ofNat K')), .val (.int (3 : Int32)), .val (.ref (ls' 3)), .val (.int (Int32.ofNat (pl / 64 / 64 / 64 / 64))), .val (.long (f' 3 (pl / 64 / 64 / 64 / 64))), .second] [])) := c78.trans (by
         refine XS.ifNo X76.here hx rfl (hb hby own_dad78) rfl ((if0 _ _).trans (feq hz3).1) ?_
         exact Steps.refl _)
        obtain ⟨fs, hr, hrun, hended, hW, hsame⟩ := X76.leave (v := none) (fun _ => rfl)
        exact ⟨_, _, c79.trans (X76.returnOut hx Bd.returns (hb hby own_dad81) hr), hrun, hended, _, _, rfl, (by rw [show (T76.setFrames fs).heap = h76 from e76]; exact ⟨rfl, N76, Kb76, lv', bc', K', ls', N', f', M', g', 4, GRm, P76, by omega, Or.inr ⟨by omega, fun q => hz3 ((lw_eq _ _).mpr q)⟩⟩), ⟨_, rfl⟩, hW, hsame.mono (Nat.le_of_ble_eq_true rfl) (by show 0 + B ≤ B; omega)⟩
      ·have hKi : K' = 3 := by
        have q : ¬ 3 < K' := fun q => hi3 ((own_ilt (i := 3) (by decide) (by omega)).mpr q)
        omega
       have c67 : Steps p.tables e below S0 (T60.setTop (mkF m 91 #[.val (.ref ps), .val (.int (Int32.ofNat pl)), .val (.int (Int32.ofNat (pl / 64 / 64 / 64))), .val (.ref lv'), .val (.int (Int32.ofNat K')), .val (.int (3 : Int32)), .val (.ref (ls' 2)), .val (.int (Int32.ofNat (pl / 64 / 64 / 64))), .val (.long (f' 2 (pl / 64 / 64 / 64))), .second] [])) := c66.trans (by
        refine XS.icmpYes X60.here hx rfl (pc0 := 38) (pc' := 91) rfl (hb hby own_dad38) rfl (flt hi3).2.1 (by decide) (by decide) ?_
        exact Steps.refl _)
       obtain ⟨fs, hr, hrun, hended, hW, hsame⟩ := X60.leave (v := none) (fun _ => rfl)
       exact ⟨_, _, c67.trans (X60.returnOut hx Bd.returns (hb hby own_dad91) hr), hrun, hended, _, _, rfl, (by rw [show (T60.setFrames fs).heap = h60 from e60]; exact ⟨rfl, N60, Kb60, lv', bc', K', ls', N', f', M', g', 3, GRm, P60, by omega, Or.inl hKi.symm⟩), ⟨_, rfl⟩, hW, hsame.mono (Nat.le_of_ble_eq_true rfl) (by show 0 + B ≤ B; omega)⟩
     ·have c63 : Steps p.tables e below S0 (T60.setTop (mkF m 81 #[.val (.ref ps), .val (.int (Int32.ofNat pl)), .val (.int (Int32.ofNat (pl / 64 / 64))), .val (.ref lv'), .val (.int (Int32.ofNat K')), .val (.int (2 : Int32)), .val (.ref (ls' 2)), .val (.int (Int32.ofNat (pl / 64 / 64 / 64))), .val (.long (f' 2 (pl / 64 / 64 / 64))), .second] [])) := c62.trans (by
       refine XS.ifNo X60.here hx rfl (hb hby own_dad78) rfl ((if0 _ _).trans (feq hz2).1) ?_
       exact Steps.refl _)
      obtain ⟨fs, hr, hrun, hended, hW, hsame⟩ := X60.leave (v := none) (fun _ => rfl)
      exact ⟨_, _, c63.trans (X60.returnOut hx Bd.returns (hb hby own_dad81) hr), hrun, hended, _, _, rfl, (by rw [show (T60.setFrames fs).heap = h60 from e60]; exact ⟨rfl, N60, Kb60, lv', bc', K', ls', N', f', M', g', 3, GRm, P60, by omega, Or.inr ⟨by omega, fun q => hz2 ((lw_eq _ _).mpr q)⟩⟩), ⟨_, rfl⟩, hW, hsame.mono (Nat.le_of_ble_eq_true rfl) (by show 0 + B ≤ B; omega)⟩
    ·have hKi : K' = 2 := by
      have q : ¬ 2 < K' := fun q => hi2 ((own_ilt (i := 2) (by decide) (by omega)).mpr q)
      omega
     have c51 : Steps p.tables e below S0 (T44.setTop (mkF m 91 #[.val (.ref ps), .val (.int (Int32.ofNat pl)), .val (.int (Int32.ofNat (pl / 64 / 64))), .val (.ref lv'), .val (.int (Int32.ofNat K')), .val (.int (2 : Int32)), .val (.ref (ls' 1)), .val (.int (Int32.ofNat (pl / 64 / 64))), .val (.long (f' 1 (pl / 64 / 64))), .second] [])) := c50.trans (by
      refine XS.icmpYes X44.here hx rfl (pc0 := 38) (pc' := 91) rfl (hb hby own_dad38) rfl (flt hi2).2.1 (by decide) (by decide) ?_
      exact Steps.refl _)
     obtain ⟨fs, hr, hrun, hended, hW, hsame⟩ := X44.leave (v := none) (fun _ => rfl)
     exact ⟨_, _, c51.trans (X44.returnOut hx Bd.returns (hb hby own_dad91) hr), hrun, hended, _, _, rfl, (by rw [show (T44.setFrames fs).heap = h44 from e44]; exact ⟨rfl, N44, Kb44, lv', bc', K', ls', N', f', M', g', 2, GRm, P44, by omega, Or.inl hKi.symm⟩), ⟨_, rfl⟩, hW, hsame.mono (Nat.le_of_ble_eq_true rfl) (by show 0 + B ≤ B; omega)⟩
   ·have c47 : Steps p.tables e below S0 (T44.setTop (mkF m 81 #[.val (.ref ps), .val (.int (Int32.ofNat pl)), .val (.int (Int32.ofNat (pl / 64))), .val (.ref lv'), .val (.int (Int32.ofNat K')), .val (.int (1 : Int32)), .val (.ref (ls' 1)), .val (.int (Int32.ofNat (pl / 64 / 64))), .val (.long (f' 1 (pl / 64 / 64))), .second] [])) := c46.trans (by
     refine XS.ifNo X44.here hx rfl (hb hby own_dad78) rfl ((if0 _ _).trans (feq hz1).1) ?_
     exact Steps.refl _)
    obtain ⟨fs, hr, hrun, hended, hW, hsame⟩ := X44.leave (v := none) (fun _ => rfl)
    exact ⟨_, _, c47.trans (X44.returnOut hx Bd.returns (hb hby own_dad81) hr), hrun, hended, _, _, rfl, (by rw [show (T44.setFrames fs).heap = h44 from e44]; exact ⟨rfl, N44, Kb44, lv', bc', K', ls', N', f', M', g', 2, GRm, P44, by omega, Or.inr ⟨by omega, fun q => hz1 ((lw_eq _ _).mpr q)⟩⟩), ⟨_, rfl⟩, hW, hsame.mono (Nat.le_of_ble_eq_true rfl) (by show 0 + B ≤ B; omega)⟩
  ·have hKi : K' = 1 := by
    have q : ¬ 1 < K' := fun q => hi1 ((own_ilt (i := 1) (by decide) (by omega)).mpr q)
    omega
   have c35 : Steps p.tables e below S0 (T28.setTop (mkF m 91 #[.val (.ref ps), .val (.int (Int32.ofNat pl)), .val (.int (Int32.ofNat (pl / 64))), .val (.ref lv'), .val (.int (Int32.ofNat K')), .val (.int (1 : Int32)), .val (.ref (ls' 0)), .val (.int (Int32.ofNat (pl / 64))), .val (.long (f' 0 (pl / 64))), .second] [])) := c34.trans (by
    refine XS.icmpYes X28.here hx rfl (pc0 := 38) (pc' := 91) rfl (hb hby own_dad38) rfl (flt hi1).2.1 (by decide) (by decide) ?_
    exact Steps.refl _)
   obtain ⟨fs, hr, hrun, hended, hW, hsame⟩ := X28.leave (v := none) (fun _ => rfl)
   exact ⟨_, _, c35.trans (X28.returnOut hx Bd.returns (hb hby own_dad91) hr), hrun, hended, _, _, rfl, (by rw [show (T28.setFrames fs).heap = h28 from e28]; exact ⟨rfl, N28, Kb28, lv', bc', K', ls', N', f', M', g', 1, GRm, P28, by omega, Or.inl hKi.symm⟩), ⟨_, rfl⟩, hW, hsame.mono (Nat.le_of_ble_eq_true rfl) (by show 0 + B ≤ B; omega)⟩
 ·have c31 : Steps p.tables e below S0 (T28.setTop (mkF m 81 #[.val (.ref ps), .val (.int (Int32.ofNat pl)), .val (.int (Int32.ofNat pl)), .val (.ref lv'), .val (.int (Int32.ofNat K')), .val (.int (0 : Int32)), .val (.ref (ls' 0)), .val (.int (Int32.ofNat (pl / 64))), .val (.long (f' 0 (pl / 64))), .second] [])) := c30.trans (by
   refine XS.ifNo X28.here hx rfl (hb hby own_dad78) rfl ((if0 _ _).trans (feq hz0).1) ?_
   exact Steps.refl _)
  obtain ⟨fs, hr, hrun, hended, hW, hsame⟩ := X28.leave (v := none) (fun _ => rfl)
  exact ⟨_, _, c31.trans (X28.returnOut hx Bd.returns (hb hby own_dad81) hr), hrun, hended, _, _, rfl, (by rw [show (T28.setFrames fs).heap = h28 from e28]; exact ⟨rfl, N28, Kb28, lv', bc', K', ls', N', f', M', g', 1, GRm, P28, by omega, Or.inr ⟨by omega, fun q => hz0 ((lw_eq _ _).mpr q)⟩⟩), ⟨_, rfl⟩, hW, hsame.mono (Nat.le_of_ble_eq_true rfl) (by show 0 + B ≤ B; omega)⟩
theorem own_dre0 : decode prog_209_method_4_code 0 = .ok (.aload_n 0, 1) := by decide +kernel
theorem own_dre1 : decode prog_209_method_4_code 1 = .ok (.getfield 15, 3) := by decide +kernel
theorem own_dre4 : decode prog_209_method_4_code 4 = .ok (.iload_n 1, 1) := by decide +kernel
theorem own_dre5 : decode prog_209_method_4_code 5 = .ok (.bipush 12, 2) := by decide +kernel
theorem own_dre7 : decode prog_209_method_4_code 7 = .ok (.iushr, 1) := by decide +kernel
theorem own_dre8 : decode prog_209_method_4_code 8 = .ok (.dup2, 1) := by decide +kernel
theorem own_dre9 : decode prog_209_method_4_code 9 = .ok (.iaload, 1) := by decide +kernel
theorem own_dre10 : decode prog_209_method_4_code 10 = .ok (.iconst 1, 1) := by decide +kernel
theorem own_dre11 : decode prog_209_method_4_code 11 = .ok (.isub, 1) := by decide +kernel
theorem own_dre12 : decode prog_209_method_4_code 12 = .ok (.iastore, 1) := by decide +kernel
theorem own_dre13 : decode prog_209_method_4_code 13 = .ok (.iload_n 1, 1) := by decide +kernel
theorem own_dre14 : decode prog_209_method_4_code 14 = .ok (.istore_n 2, 1) := by decide +kernel
theorem own_dre15 : decode prog_209_method_4_code 15 = .ok (.aload_n 0, 1) := by decide +kernel
theorem own_dre16 : decode prog_209_method_4_code 16 = .ok (.getfield 11, 3) := by decide +kernel
theorem own_dre19 : decode prog_209_method_4_code 19 = .ok (.astore_n 3, 1) := by decide +kernel
theorem own_dre20 : decode prog_209_method_4_code 20 = .ok (.aload_n 3, 1) := by decide +kernel
theorem own_dre21 : decode prog_209_method_4_code 21 = .ok (.arraylength, 1) := by decide +kernel
theorem own_dre22 : decode prog_209_method_4_code 22 = .ok (.istore 4, 2) := by decide +kernel
theorem own_dre24 : decode prog_209_method_4_code 24 = .ok (.iconst 0, 1) := by decide +kernel
theorem own_dre25 : decode prog_209_method_4_code 25 = .ok (.istore 5, 2) := by decide +kernel
theorem own_dre27 : decode prog_209_method_4_code 27 = .ok (.iload 5, 2) := by decide +kernel
theorem own_dre29 : decode prog_209_method_4_code 29 = .ok (.iload 4, 2) := by decide +kernel
theorem own_dre31 : decode prog_209_method_4_code 31 = .ok (.if_icmp .ge 57, 3) := by decide +kernel
theorem own_dre34 : decode prog_209_method_4_code 34 = .ok (.aload_n 3, 1) := by decide +kernel
theorem own_dre35 : decode prog_209_method_4_code 35 = .ok (.iload 5, 2) := by decide +kernel
theorem own_dre37 : decode prog_209_method_4_code 37 = .ok (.aaload, 1) := by decide +kernel
theorem own_dre38 : decode prog_209_method_4_code 38 = .ok (.astore 6, 2) := by decide +kernel
theorem own_dre40 : decode prog_209_method_4_code 40 = .ok (.iload_n 2, 1) := by decide +kernel
theorem own_dre41 : decode prog_209_method_4_code 41 = .ok (.bipush 6, 2) := by decide +kernel
theorem own_dre43 : decode prog_209_method_4_code 43 = .ok (.iushr, 1) := by decide +kernel
theorem own_dre44 : decode prog_209_method_4_code 44 = .ok (.istore 7, 2) := by decide +kernel
theorem own_dre46 : decode prog_209_method_4_code 46 = .ok (.aload 6, 2) := by decide +kernel
theorem own_dre48 : decode prog_209_method_4_code 48 = .ok (.iload 7, 2) := by decide +kernel
theorem own_dre50 : decode prog_209_method_4_code 50 = .ok (.laload, 1) := by decide +kernel
theorem own_dre51 : decode prog_209_method_4_code 51 = .ok (.lconst 1, 1) := by decide +kernel
theorem own_dre52 : decode prog_209_method_4_code 52 = .ok (.iload_n 2, 1) := by decide +kernel
theorem own_dre53 : decode prog_209_method_4_code 53 = .ok (.bipush 63, 2) := by decide +kernel
theorem own_dre55 : decode prog_209_method_4_code 55 = .ok (.iand, 1) := by decide +kernel
theorem own_dre56 : decode prog_209_method_4_code 56 = .ok (.lshl, 1) := by decide +kernel
theorem own_dre57 : decode prog_209_method_4_code 57 = .ok (.ldc2_w 50, 3) := by decide +kernel
theorem own_dre60 : decode prog_209_method_4_code 60 = .ok (.lxor, 1) := by decide +kernel
theorem own_dre61 : decode prog_209_method_4_code 61 = .ok (.land, 1) := by decide +kernel
theorem own_dre62 : decode prog_209_method_4_code 62 = .ok (.lstore 8, 2) := by decide +kernel
theorem own_dre64 : decode prog_209_method_4_code 64 = .ok (.aload 6, 2) := by decide +kernel
theorem own_dre66 : decode prog_209_method_4_code 66 = .ok (.iload 7, 2) := by decide +kernel
theorem own_dre68 : decode prog_209_method_4_code 68 = .ok (.lload 8, 2) := by decide +kernel
theorem own_dre70 : decode prog_209_method_4_code 70 = .ok (.lastore, 1) := by decide +kernel
theorem own_dre71 : decode prog_209_method_4_code 71 = .ok (.lload 8, 2) := by decide +kernel
theorem own_dre73 : decode prog_209_method_4_code 73 = .ok (.lconst 0, 1) := by decide +kernel
theorem own_dre74 : decode prog_209_method_4_code 74 = .ok (.lcmp, 1) := by decide +kernel
theorem own_dre75 : decode prog_209_method_4_code 75 = .ok (.ifCond .eq 4, 3) := by decide +kernel
theorem own_dre78 : decode prog_209_method_4_code 78 = .ok (.return_, 1) := by decide +kernel
theorem own_dre79 : decode prog_209_method_4_code 79 = .ok (.iload 7, 2) := by decide +kernel
theorem own_dre81 : decode prog_209_method_4_code 81 = .ok (.istore_n 2, 1) := by decide +kernel
theorem own_dre82 : decode prog_209_method_4_code 82 = .ok (.iinc 5 1, 3) := by decide +kernel
theorem own_dre85 : decode prog_209_method_4_code 85 = .ok (.goto (-58), 3) := by decide +kernel
theorem own_dre88 : decode prog_209_method_4_code 88 = .ok (.return_, 1) := by decide +kernel
theorem own_rem_pn : plainName "com/example/coersa/coersa/PlaceSet" = true := by first | (simp [plainName, overriddenIn]; done) | decide +kernel
theorem own_rem_ef (m : MethodId) (ps : Addr) (q : Int32) : entryFrame m #[(.ref ps), (.int q)] 10 = mkF m 0 #[.val (.ref ps), .val (.int q), .unset, .unset, .unset, .unset, .unset, .unset, .unset, .unset] [] := by first | (simp [entryFrame, mkF, argsToLocals, Value.category]; done) | rfl
def own_rem_Q (Z : State) (ps : Addr) (q : Int32) (pl : Nat) (lv bc : Addr) (K : Nat) (ls : Nat → Addr) (N : Nat → Nat) (f : Nat → Nat → Int64) (M : Nat) (g : Nat → Int32) (h0 : Heap) (n0 : Nat) (v : Option Value) (h : Heap) (L : List Loc) : Prop := v = none ∧ Fr n0 L ∧ own_Kb n0 h0 h ∧ ∃ (m : Nat), own_PS Z n0 h ps lv bc K ls N (own_fr f pl m) M (fun b => if b = pl / 4096 then g b - 1 else g b) ∧ m ≤ K ∧ (m = K ∨ (0 < m ∧ ¬ (f (m - 1) (own_dv pl m) &&& (own_bit (own_dv pl (m - 1) % 64) ^^^ (-1))) = 0)) ∧ ∀ j, j + 1 < m → (f j (own_dv pl (j + 1)) &&& (own_bit (own_dv pl j % 64) ^^^ (-1))) = 0
set_option maxRecDepth 65536 in
set_option maxHeartbeats 40000000 in
theorem own_rem (l : Launch) (Z : State) (a0 : Array Value) (hw : ∀ d ∈ tables_1, d.before a0 Z = true) (ws : List Jvm.Cond) (ps : Addr) (q : Int32) (pl : Nat) (lv bc : Addr) (K : Nat) (ls : Nat → Addr) (N : Nat → Nat) (f : Nat → Nat → Int64) (M : Nat) (g : Nat → Int32) (h0 : Heap) (n0 : Nat) (Z0 : n0 ≤ h0.size) (hq : q = Int32.ofNat pl) (hpl : pl < 262144) (SH : own_SH K N M) (hroom : pl < 64 * N 0) (P : own_PS Z n0 h0 ps lv bc K ls N f M g) :
  MetFree l (⟨"com/example/coersa/coersa/PlaceSet", "remove", "(I)V"⟩ : MethodName) (head1 (Jvm.Cond.code (⟨"com/example/coersa/coersa/PlaceSet", "remove", "(I)V"⟩ : MethodName) prog_209_method_4_code 10 none :: ws) ({ frames := 0, cells := 0, slots := 0, locals := 0 } : Room)) (fun ars U => ars = #[(.ref ps), (.int q)] ∧ Z.Warmed39 U.vm ∧ U.heap = h0) (fun _ _ _ _ _ => True) (fun _ U o U' => ∃ v L, o = .returned v ∧ own_rem_Q Z ps q pl lv bc K ls N f M g h0 n0 v U'.heap L ∧ FrameEnd U o U' L ({ frames := 0, cells := 0, slots := 0, locals := 0 } : Room).cells ({ frames := 0, cells := 0, slots := 0, locals := 0 } : Room).slots) := by
 refine MetFree.of_bodySF (plainFor_of_name own_rem_pn) hisR ?_
 intro p e s m args below meth c s₁ Bd hml0 hP hK
 obtain ⟨rfl, hZ, hh⟩ := hP
 have hx := Bd.exec
 have hby := Bd.bytes
 have hml : c.maxLocals = 10 := hml0
 have hown : s.vm.findClass "com/example/coersa/coersa/PlaceSet" = some m.cls := findClass_of_methodNamed Bd.named
 have hnm := (name_of_methodNamed Bd.named Bd.method).1
 have X0 : Stand p l e ({ frames := 0, cells := 0, slots := 0, locals := 0 } : Room) s m #[(.ref ps), (.int q)] below meth c s₁ [] 0 0 := Stand.of_body Bd
 have e0 : s₁.heap = h0 := by rw [← hh, Bd.state]; rfl
 have N0 := Fr.nil n0
 generalize hS0 : s₁.setTop (entryFrame m #[(.ref ps), (.int q)] 10) = S0
 have c0 : Steps p.tables e below S0 (s₁.setTop (mkF m 0 #[.val (.ref ps), .val (.int q), .unset, .unset, .unset, .unset, .unset, .unset, .unset, .unset] [])) := by rw [← hS0]; exact castTop (own_rem_ef m ps q) (Steps.refl _)
 have K0 : Keep h0 h0 [] := Keep.refl _ _
 subst hq
 obtain ⟨t1, t2, t3, hNi, t5, hN8, t7⟩ := SH
 have hcM : pl / 4096 < M := by rw [t3]; have := own_wf_lt (x := pl / 64) (n := N 0) (by omega); omega
 have hM8 : M ≤ 8192 := by rw [t3]; exact own_wf_le (by omega) (by decide)
 have Kb0 := own_Kb.refl n0 h0
 obtain ⟨T2, X2, e2, st2⟩ := getF X0 hx hZ hown (host := "") (Or.inl (hw _ (own_m 22 rfl))) Via.refl e0 P.2.2.1 (g := (mkF m 1 #[.val (.ref ps), .val (.int (Int32.ofNat pl)), .unset, .unset, .unset, .unset, .unset, .unset, .unset, .unset] [(.ref ps)])) rfl rfl (hb hby own_dre1)
 have c4 : Steps p.tables e below S0 (T2.setTop (mkF m 8 #[.val (.ref ps), .val (.int (Int32.ofNat pl)), .unset, .unset, .unset, .unset, .unset, .unset, .unset, .unset] [(.int (((Int32.ofNat pl).toUInt32 >>> ((12 : Int32) &&& 31).toUInt32).toInt32)), (.ref bc)])) := c0.trans (by
  refine XS.aloadN X0.here hx rfl (hb hby own_dre0) rfl rfl ?_
  show Steps _ _ _ (.setTop _ (mkF _ 1 _ _)) _
  refine st2 _ ?_
  show Steps _ _ _ (.setTop _ (mkF _ 4 _ _)) _
  refine XS.iloadN X2.here hx rfl (hb hby own_dre4) rfl ?_
  show Steps _ _ _ (.setTop _ (mkF _ 5 _ _)) _
  refine XS.bipush X2.here hx rfl (hb hby own_dre5) ?_
  show Steps _ _ _ (.setTop _ (mkF _ 7 _ _)) _
  refine XS.iushr X2.here hx rfl (hb hby own_dre7) rfl ?_
  exact Steps.refl _)
 rw [own_ushr12 (show pl < 2 ^ 31 by omega)] at c4
 have Iq := P.2.2.2.2.2.1
 obtain ⟨cI, AI, EI, SI, HI⟩ := Iq
 obtain ⟨T8, h8, X8, e8, W8, st8⟩ := stI X2 hx hZ e2 AI (j := (Int32.ofNat (pl / 4096))) (own_inb (j := pl / 4096) SI hcM (by omega)) (g := (mkF m 12 #[.val (.ref ps), .val (.int (Int32.ofNat pl)), .unset, .unset, .unset, .unset, .unset, .unset, .unset, .unset] [(.int ((g (pl / 4096)) - (1 : Int32))), (.int (Int32.ofNat (pl / 4096))), (.ref bc)])) rfl rfl (hb hby own_dre12)
 have c9 : Steps p.tables e below S0 (T8.setTop (mkF m 13 #[.val (.ref ps), .val (.int (Int32.ofNat pl)), .unset, .unset, .unset, .unset, .unset, .unset, .unset, .unset] [])) := c4.trans (by
  jvm_step X2.here [X2.here.top, hx, (hb hby own_dre8), Value.category]
  show Steps _ _ _ (.setTop _ (mkF _ 9 _ _)) _
  refine X2.iaload hx (j := (Int32.ofNat (pl / 4096))) (v := (.int (g (pl / 4096)))) (by rw [e2]; exact AI.1) (State.isArrayOf_alike hZ.alike AI.2.1) AI.2.2 (own_inb (j := pl / 4096) SI hcM (by omega)) (by rw [own_cl (j := pl / 4096) (by omega)]; exact HI _ hcM) (g := (mkF m 9 #[.val (.ref ps), .val (.int (Int32.ofNat pl)), .unset, .unset, .unset, .unset, .unset, .unset, .unset, .unset] [(.int (Int32.ofNat (pl / 4096))), (.ref bc), (.int (Int32.ofNat (pl / 4096))), (.ref bc)])) rfl rfl (hb hby own_dre9) _ ?_
  show Steps _ _ _ (.setTop _ (mkF _ 10 _ _)) _
  refine XS.iconst X2.here hx rfl (hb hby own_dre10) ?_
  show Steps _ _ _ (.setTop _ (mkF _ 11 _ _)) _
  refine XS.isub X2.here hx rfl (hb hby own_dre11) rfl ?_
  show Steps _ _ _ (.setTop _ (mkF _ 12 _ _)) _
  refine st8 _ ?_
  exact Steps.refl _)
 have N8 := Fr.snoc X8 N0 P.2.2.2.2.2.2.2.2.1
 have Kb8 := Kb0.wr W8 P.2.2.2.2.2.2.2.2.1
 rw [own_cl (j := pl / 4096) (by omega)] at W8
 have P8 := P.setC (g' := fun b => if b = pl / 4096 then g b - 1 else g b) hcM W8 (fun i _ => by
  by_cases c : i = pl / 4096
  ·subst c; simp
  ·simp [c])
 obtain ⟨T11, X11, e11, st11⟩ := getF X8 hx hZ hown (host := "") (Or.inl (hw _ (own_m 20 rfl))) Via.refl e8 P8.2.1 (g := (mkF m 16 #[.val (.ref ps), .val (.int (Int32.ofNat pl)), .val (.int (Int32.ofNat pl)), .unset, .unset, .unset, .unset, .unset, .unset, .unset] [(.ref ps)])) rfl rfl (hb hby own_dre16)
 have Rq0 := P8.2.2.2.1
 obtain ⟨cr0, Ar0, -, Sr0, -⟩ := Rq0
 have c15 : Steps p.tables e below S0 (T11.setTop (mkF m 27 #[.val (.ref ps), .val (.int (Int32.ofNat pl)), .val (.int (Int32.ofNat pl)), .val (.ref lv), .val (.int (Int32.ofNat K)), .val (.int (0 : Int32)), .unset, .unset, .unset, .unset] [])) := c9.trans (by
  refine XS.iloadN X8.here hx rfl (hb hby own_dre13) rfl ?_
  show Steps _ _ _ (.setTop _ (mkF _ 14 _ _)) _
  refine XS.istoreN X8.here hx rfl (hb hby own_dre14) rfl rfl ?_
  show Steps _ _ _ (.setTop _ (mkF _ 15 _ _)) _
  refine XS.aloadN X8.here hx rfl (hb hby own_dre15) rfl rfl ?_
  show Steps _ _ _ (.setTop _ (mkF _ 16 _ _)) _
  refine st11 _ ?_
  show Steps _ _ _ (.setTop _ (mkF _ 19 _ _)) _
  refine XS.astoreN X11.here hx rfl (hb hby own_dre19) rfl rfl rfl ?_
  show Steps _ _ _ (.setTop _ (mkF _ 20 _ _)) _
  refine XS.aloadN X11.here hx rfl (hb hby own_dre20) rfl rfl ?_
  show Steps _ _ _ (.setTop _ (mkF _ 21 _ _)) _
  refine X11.arraylength hx (by rw [e11]; exact Ar0.1) (State.isArrayOf_alike hZ.alike Ar0.2.1) (g := (mkF m 21 #[.val (.ref ps), .val (.int (Int32.ofNat pl)), .val (.int (Int32.ofNat pl)), .val (.ref lv), .unset, .unset, .unset, .unset, .unset, .unset] [(.ref lv)])) rfl rfl (hb hby own_dre21) _ ?_
  rw [show cr0.slots.size.toInt32 = Int32.ofNat K by rw [Sr0]]
  show Steps _ _ _ (.setTop _ (mkF _ 22 _ _)) _
  refine XS.istore X11.here hx rfl (hb hby own_dre22) rfl rfl ?_
  show Steps _ _ _ (.setTop _ (mkF _ 24 _ _)) _
  refine XS.iconst X11.here hx rfl (hb hby own_dre24) ?_
  show Steps _ _ _ (.setTop _ (mkF _ 25 _ _)) _
  refine XS.istore X11.here hx rfl (hb hby own_dre25) rfl rfl ?_
  exact Steps.refl _)
 have Pz := P8
 rw [← own_fr_zero f pl] at Pz
 have c17 : Steps p.tables e below S0 (T11.setTop (mkF m 34 #[.val (.ref ps), .val (.int (Int32.ofNat pl)), .val (.int (Int32.ofNat pl)), .val (.ref lv), .val (.int (Int32.ofNat K)), .val (.int (0 : Int32)), .unset, .unset, .unset, .unset] [])) := c15.trans (by
  refine XS.iload X11.here hx rfl (hb hby own_dre27) rfl ?_
  show Steps _ _ _ (.setTop _ (mkF _ 29 _ _)) _
  refine XS.iload X11.here hx rfl (hb hby own_dre29) rfl ?_
  show Steps _ _ _ (.setTop _ (mkF _ 31 _ _)) _
  refine XS.icmpNo X11.here hx rfl (hb hby own_dre31) rfl (tlt ((own_ilt (i := 0) (by decide) (by omega)).mpr (by omega))).2.1 ?_
  exact Steps.refl _)
 have hx0 : (pl / 64) < N 0 := by rw [hNi 0 (show 0 < K by omega)]; exact own_idx hroom 0
 have hn0 : N 0 ≤ 8192 := by rw [hNi 0 (show 0 < K by omega)]; exact own_it_b hN8 0
 have Rqv0 := Pz.2.2.2.1
 obtain ⟨cvv0, Avv0, Ovv0, Svv0, Hvv0⟩ := Rqv0
 have c20 : Steps p.tables e below S0 (T11.setTop (mkF m 44 #[.val (.ref ps), .val (.int (Int32.ofNat pl)), .val (.int (Int32.ofNat pl)), .val (.ref lv), .val (.int (Int32.ofNat K)), .val (.int (0 : Int32)), .val (.ref (ls 0)), .unset, .unset, .unset] [(.int (((Int32.ofNat pl).toUInt32 >>> ((6 : Int32) &&& 31).toUInt32).toInt32))])) := c17.trans (by
  refine XS.aloadN X11.here hx rfl (hb hby own_dre34) rfl rfl ?_
  show Steps _ _ _ (.setTop _ (mkF _ 35 _ _)) _
  refine XS.iload X11.here hx rfl (hb hby own_dre35) rfl ?_
  show Steps _ _ _ (.setTop _ (mkF _ 37 _ _)) _
  refine X11.aaload hx (j := (0 : Int32)) (v := (.ref (ls 0))) (by rw [e11]; exact Avv0.1) (State.isArrayOf_alike hZ.alike Avv0.2.1) rfl Avv0.2.2 (own_inb (j := 0) Svv0 (show 0 < K by omega) (by omega)) (Hvv0 0 (show 0 < K by omega)) (g := (mkF m 37 #[.val (.ref ps), .val (.int (Int32.ofNat pl)), .val (.int (Int32.ofNat pl)), .val (.ref lv), .val (.int (Int32.ofNat K)), .val (.int (0 : Int32)), .unset, .unset, .unset, .unset] [(.int (0 : Int32)), (.ref lv)])) rfl rfl (hb hby own_dre37) _ ?_
  show Steps _ _ _ (.setTop _ (mkF _ 38 _ _)) _
  refine XS.astore X11.here hx rfl (hb hby own_dre38) rfl rfl rfl ?_
  show Steps _ _ _ (.setTop _ (mkF _ 40 _ _)) _
  refine XS.iloadN X11.here hx rfl (hb hby own_dre40) rfl ?_
  show Steps _ _ _ (.setTop _ (mkF _ 41 _ _)) _
  refine XS.bipush X11.here hx rfl (hb hby own_dre41) ?_
  show Steps _ _ _ (.setTop _ (mkF _ 43 _ _)) _
  refine XS.iushr X11.here hx rfl (hb hby own_dre43) rfl ?_
  exact Steps.refl _)
 rw [own_ushr6 (show pl < 2 ^ 31 by omega)] at c20
 obtain ⟨cL0, AL0, EL0, SL0, HL0⟩ := Pz.2.2.2.2.1 0 (show 0 < K by omega)
 have c22 : Steps p.tables e below S0 (T11.setTop (mkF m 51 #[.val (.ref ps), .val (.int (Int32.ofNat pl)), .val (.int (Int32.ofNat pl)), .val (.ref lv), .val (.int (Int32.ofNat K)), .val (.int (0 : Int32)), .val (.ref (ls 0)), .val (.int (Int32.ofNat (pl / 64))), .unset, .unset] [(.long (own_fr f pl 0 0 (pl / 64)))])) := c20.trans (by
  refine XS.istore X11.here hx rfl (hb hby own_dre44) rfl rfl ?_
  show Steps _ _ _ (.setTop _ (mkF _ 46 _ _)) _
  refine XS.aload X11.here hx rfl (hb hby own_dre46) rfl rfl ?_
  show Steps _ _ _ (.setTop _ (mkF _ 48 _ _)) _
  refine XS.iload X11.here hx rfl (hb hby own_dre48) rfl ?_
  show Steps _ _ _ (.setTop _ (mkF _ 50 _ _)) _
  refine X11.laload hx (j := (Int32.ofNat (pl / 64))) (v := (.long (own_fr f pl 0 0 (pl / 64)))) (by rw [e11]; exact AL0.1) (State.isArrayOf_alike hZ.alike AL0.2.1) AL0.2.2 (own_inb (j := (pl / 64)) SL0 hx0 (by omega)) (by rw [own_cl (j := (pl / 64)) (by omega)]; exact HL0 (pl / 64) hx0) (g := (mkF m 50 #[.val (.ref ps), .val (.int (Int32.ofNat pl)), .val (.int (Int32.ofNat pl)), .val (.ref lv), .val (.int (Int32.ofNat K)), .val (.int (0 : Int32)), .val (.ref (ls 0)), .val (.int (Int32.ofNat (pl / 64))), .unset, .unset] [(.int (Int32.ofNat (pl / 64))), (.ref (ls 0))])) rfl rfl (hb hby own_dre50) _ ?_
  exact Steps.refl _)
 rw [own_fr_at] at c22
 have c23 : Steps p.tables e below S0 (T11.setTop (mkF m 56 #[.val (.ref ps), .val (.int (Int32.ofNat pl)), .val (.int (Int32.ofNat pl)), .val (.ref lv), .val (.int (Int32.ofNat K)), .val (.int (0 : Int32)), .val (.ref (ls 0)), .val (.int (Int32.ofNat (pl / 64))), .unset, .unset] [(.int ((Int32.ofNat pl) &&& (63 : Int32))), (.long (1 : Int64)), (.long (f 0 (pl / 64)))])) := c22.trans (by
  refine XS.lconst X11.here hx rfl (hb hby own_dre51) ?_
  show Steps _ _ _ (.setTop _ (mkF _ 52 _ _)) _
  refine XS.iloadN X11.here hx rfl (hb hby own_dre52) rfl ?_
  show Steps _ _ _ (.setTop _ (mkF _ 53 _ _)) _
  refine XS.bipush X11.here hx rfl (hb hby own_dre53) ?_
  show Steps _ _ _ (.setTop _ (mkF _ 55 _ _)) _
  refine XS.iand X11.here hx rfl (hb hby own_dre55) rfl ?_
  exact Steps.refl _)
 rw [own_and63 (show pl < 2 ^ 31 by omega)] at c23
 obtain ⟨T25, h25, X25, e25, W25, st25⟩ := stJ X11 hx hZ e11 AL0 (j := (Int32.ofNat (pl / 64))) (own_inb (j := (pl / 64)) SL0 hx0 (by omega)) (g := (mkF m 70 #[.val (.ref ps), .val (.int (Int32.ofNat pl)), .val (.int (Int32.ofNat pl)), .val (.ref lv), .val (.int (Int32.ofNat K)), .val (.int (0 : Int32)), .val (.ref (ls 0)), .val (.int (Int32.ofNat (pl / 64))), .val (.long ((f 0 (pl / 64)) &&& (((1 : Int64) <<< ((Int32.ofNat (pl % 64)) &&& 0x3f).toInt64) ^^^ (-1 : Int64)))), .second] [(.long ((f 0 (pl / 64)) &&& (((1 : Int64) <<< ((Int32.ofNat (pl % 64)) &&& 0x3f).toInt64) ^^^ (-1 : Int64)))), (.int (Int32.ofNat (pl / 64))), (.ref (ls 0))])) rfl rfl (hb hby own_dre70)
 have c26 : Steps p.tables e below S0 (T25.setTop (mkF m 71 #[.val (.ref ps), .val (.int (Int32.ofNat pl)), .val (.int (Int32.ofNat pl)), .val (.ref lv), .val (.int (Int32.ofNat K)), .val (.int (0 : Int32)), .val (.ref (ls 0)), .val (.int (Int32.ofNat (pl / 64))), .val (.long ((f 0 (pl / 64)) &&& (((1 : Int64) <<< ((Int32.ofNat (pl % 64)) &&& 0x3f).toInt64) ^^^ (-1 : Int64)))), .second] [])) := c23.trans (by
  refine XS.lshl X11.here hx rfl (hb hby own_dre56) rfl ?_
  show Steps _ _ _ (.setTop _ (mkF _ 57 _ _)) _
  refine X11.ldc2Long hx hown (mvT hZ (hw _ (own_m 49 rfl))) (g := (mkF m 57 #[.val (.ref ps), .val (.int (Int32.ofNat pl)), .val (.int (Int32.ofNat pl)), .val (.ref lv), .val (.int (Int32.ofNat K)), .val (.int (0 : Int32)), .val (.ref (ls 0)), .val (.int (Int32.ofNat (pl / 64))), .unset, .unset] [(.long ((1 : Int64) <<< ((Int32.ofNat (pl % 64)) &&& 0x3f).toInt64)), (.long (f 0 (pl / 64)))])) rfl (hb hby own_dre57) _ ?_
  show Steps _ _ _ (.setTop _ (mkF _ 60 _ _)) _
  refine XS.lxor X11.here hx rfl (hb hby own_dre60) rfl ?_
  show Steps _ _ _ (.setTop _ (mkF _ 61 _ _)) _
  refine XS.land X11.here hx rfl (hb hby own_dre61) rfl ?_
  show Steps _ _ _ (.setTop _ (mkF _ 62 _ _)) _
  refine XS.lstore X11.here hx rfl (hb hby own_dre62) rfl rfl ?_
  show Steps _ _ _ (.setTop _ (mkF _ 64 _ _)) _
  refine XS.aload X11.here hx rfl (hb hby own_dre64) rfl rfl ?_
  show Steps _ _ _ (.setTop _ (mkF _ 66 _ _)) _
  refine XS.iload X11.here hx rfl (hb hby own_dre66) rfl ?_
  show Steps _ _ _ (.setTop _ (mkF _ 68 _ _)) _
  refine XS.lload X11.here hx rfl (hb hby own_dre68) rfl ?_
  show Steps _ _ _ (.setTop _ (mkF _ 70 _ _)) _
  refine st25 _ ?_
  exact Steps.refl _)
 have N25 := Fr.snoc X25 N8 (Pz.2.2.2.2.2.2.2.2.2 0 (show 0 < K by omega))
 have Kb25 := Kb8.wr W25 (Pz.2.2.2.2.2.2.2.2.2 0 (show 0 < K by omega))
 rw [own_cl (j := (pl / 64)) (by omega)] at W25
 have P25 := Pz.setL (f' := own_fr f pl 1) (show 0 < K by omega) hx0 W25 (fun l' _ i' _ => own_fr_step l' i')
 have c27 : Steps p.tables e below S0 (T25.setTop (mkF m 75 #[.val (.ref ps), .val (.int (Int32.ofNat pl)), .val (.int (Int32.ofNat pl)), .val (.ref lv), .val (.int (Int32.ofNat K)), .val (.int (0 : Int32)), .val (.ref (ls 0)), .val (.int (Int32.ofNat (pl / 64))), .val (.long ((f 0 (pl / 64)) &&& (((1 : Int64) <<< ((Int32.ofNat (pl % 64)) &&& 0x3f).toInt64) ^^^ (-1 : Int64)))), .second] [(.int (lcmpW ((f 0 (pl / 64)) &&& (((1 : Int64) <<< ((Int32.ofNat (pl % 64)) &&& 0x3f).toInt64) ^^^ (-1 : Int64))) (0 : Int64)))])) := c26.trans (by
  refine XS.lload X25.here hx rfl (hb hby own_dre71) rfl ?_
  show Steps _ _ _ (.setTop _ (mkF _ 73 _ _)) _
  refine XS.lconst X25.here hx rfl (hb hby own_dre73) ?_
  show Steps _ _ _ (.setTop _ (mkF _ 74 _ _)) _
  refine XS.lcmp X25.here hx rfl (hb hby own_dre74) rfl ?_
  exact Steps.refl _)
 by_cases hz0 : (lcmpW ((f 0 (pl / 64)) &&& (((1 : Int64) <<< ((Int32.ofNat (pl % 64)) &&& 0x3f).toInt64) ^^^ (-1 : Int64))) (0 : Int64)) = (0 : Int32)
 ·have c30 : Steps p.tables e below S0 (T25.setTop (mkF m 27 #[.val (.ref ps), .val (.int (Int32.ofNat pl)), .val (.int (Int32.ofNat (pl / 64))), .val (.ref lv), .val (.int (Int32.ofNat K)), .val (.int ((0 : Int32) + (1 : Int32))), .val (.ref (ls 0)), .val (.int (Int32.ofNat (pl / 64))), .val (.long ((f 0 (pl / 64)) &&& (((1 : Int64) <<< ((Int32.ofNat (pl % 64)) &&& 0x3f).toInt64) ^^^ (-1 : Int64)))), .second] [])) := c27.trans (by
   refine XS.ifYes X25.here hx rfl (pc0 := 75) (pc' := 79) rfl (hb hby own_dre75) rfl ((if0 _ _).trans (teq hz0).1) (by decide) (by decide) ?_
   show Steps _ _ _ (.setTop _ (mkF _ 79 _ _)) _
   refine XS.iload X25.here hx rfl (hb hby own_dre79) rfl ?_
   show Steps _ _ _ (.setTop _ (mkF _ 81 _ _)) _
   refine XS.istoreN X25.here hx rfl (hb hby own_dre81) rfl rfl ?_
   show Steps _ _ _ (.setTop _ (mkF _ 82 _ _)) _
   refine XS.iinc X25.here hx rfl (hb hby own_dre82) rfl rfl ?_
   show Steps _ _ _ (.setTop _ (mkF _ 85 _ _)) _
   refine XS.goto X25.here hx rfl (pc0 := 85) (pc' := 27) rfl (hb hby own_dre85) (by decide) (by decide) ?_
   exact Steps.refl _)
  rw [(show (0 : Int32) + (1 : Int32) = 1 by decide)] at c30
  have c31 : Steps p.tables e below S0 (T25.setTop (mkF m 31 #[.val (.ref ps), .val (.int (Int32.ofNat pl)), .val (.int (Int32.ofNat (pl / 64))), .val (.ref lv), .val (.int (Int32.ofNat K)), .val (.int (1 : Int32)), .val (.ref (ls 0)), .val (.int (Int32.ofNat (pl / 64))), .val (.long ((f 0 (pl / 64)) &&& (((1 : Int64) <<< ((Int32.ofNat (pl % 64)) &&& 0x3f).toInt64) ^^^ (-1 : Int64)))), .second] [(.int (Int32.ofNat K)), (.int (1 : Int32))])) := c30.trans (by
   refine XS.iload X25.here hx rfl (hb hby own_dre27) rfl ?_
   show Steps _ _ _ (.setTop _ (mkF _ 29 _ _)) _
   refine XS.iload X25.here hx rfl (hb hby own_dre29) rfl ?_
   exact Steps.refl _)
  by_cases hi1 : (1 : Int32) < Int32.ofNat K
  ·have c33 : Steps p.tables e below S0 (T25.setTop (mkF m 34 #[.val (.ref ps), .val (.int (Int32.ofNat pl)), .val (.int (Int32.ofNat (pl / 64))), .val (.ref lv), .val (.int (Int32.ofNat K)), .val (.int (1 : Int32)), .val (.ref (ls 0)), .val (.int (Int32.ofNat (pl / 64))), .val (.long ((f 0 (pl / 64)) &&& (((1 : Int64) <<< ((Int32.ofNat (pl % 64)) &&& 0x3f).toInt64) ^^^ (-1 : Int64)))), .second] [])) := c31.trans (by
    refine XS.icmpNo X25.here hx rfl (hb hby own_dre31) rfl (tlt hi1).2.1 ?_
    exact Steps.refl _)
   have hik1 : 1 < K := (own_ilt (i := 1) (by decide) (by omega)).mp hi1
   have hx1 : (pl / 64 / 64) < N 1 := by rw [hNi 1 hik1]; exact own_idx hroom 1
   have hn1 : N 1 ≤ 8192 := by rw [hNi 1 hik1]; exact own_it_b hN8 1
   have Rqv1 := P25.2.2.2.1
   obtain ⟨cvv1, Avv1, Ovv1, Svv1, Hvv1⟩ := Rqv1
   have c36 : Steps p.tables e below S0 (T25.setTop (mkF m 44 #[.val (.ref ps), .val (.int (Int32.ofNat pl)), .val (.int (Int32.ofNat (pl / 64))), .val (.ref lv), .val (.int (Int32.ofNat K)), .val (.int (1 : Int32)), .val (.ref (ls 1)), .val (.int (Int32.ofNat (pl / 64))), .val (.long ((f 0 (pl / 64)) &&& (((1 : Int64) <<< ((Int32.ofNat (pl % 64)) &&& 0x3f).toInt64) ^^^ (-1 : Int64)))), .second] [(.int (((Int32.ofNat (pl / 64)).toUInt32 >>> ((6 : Int32) &&& 31).toUInt32).toInt32))])) := c33.trans (by
    refine XS.aloadN X25.here hx rfl (hb hby own_dre34) rfl rfl ?_
    show Steps _ _ _ (.setTop _ (mkF _ 35 _ _)) _
    refine XS.iload X25.here hx rfl (hb hby own_dre35) rfl ?_
    show Steps _ _ _ (.setTop _ (mkF _ 37 _ _)) _
    refine X25.aaload hx (j := (1 : Int32)) (v := (.ref (ls 1))) (by rw [e25]; exact Avv1.1) (State.isArrayOf_alike hZ.alike Avv1.2.1) rfl Avv1.2.2 (own_inb (j := 1) Svv1 hik1 (by omega)) (Hvv1 1 hik1) (g := (mkF m 37 #[.val (.ref ps), .val (.int (Int32.ofNat pl)), .val (.int (Int32.ofNat (pl / 64))), .val (.ref lv), .val (.int (Int32.ofNat K)), .val (.int (1 : Int32)), .val (.ref (ls 0)), .val (.int (Int32.ofNat (pl / 64))), .val (.long ((f 0 (pl / 64)) &&& (((1 : Int64) <<< ((Int32.ofNat (pl % 64)) &&& 0x3f).toInt64) ^^^ (-1 : Int64)))), .second] [(.int (1 : Int32)), (.ref lv)])) rfl rfl (hb hby own_dre37) _ ?_
    show Steps _ _ _ (.setTop _ (mkF _ 38 _ _)) _
    refine XS.astore X25.here hx rfl (hb hby own_dre38) rfl rfl rfl ?_
    show Steps _ _ _ (.setTop _ (mkF _ 40 _ _)) _
    refine XS.iloadN X25.here hx rfl (hb hby own_dre40) rfl ?_
    show Steps _ _ _ (.setTop _ (mkF _ 41 _ _)) _
    refine XS.bipush X25.here hx rfl (hb hby own_dre41) ?_
    show Steps _ _ _ (.setTop _ (mkF _ 43 _ _)) _
    refine XS.iushr X25.here hx rfl (hb hby own_dre43) rfl ?_
    exact Steps.refl _)
   rw [own_ushr6 (show (pl / 64) < 2 ^ 31 by omega)] at c36
   obtain ⟨cL1, AL1, EL1, SL1, HL1⟩ := P25.2.2.2.2.1 1 hik1
   have c38 : Steps p.tables e below S0 (T25.setTop (mkF m 51 #[.val (.ref ps), .val (.int (Int32.ofNat pl)), .val (.int (Int32.ofNat (pl / 64))), .val (.ref lv), .val (.int (Int32.ofNat K)), .val (.int (1 : Int32)), .val (.ref (ls 1)), .val (.int (Int32.ofNat (pl / 64 / 64))), .val (.long ((f 0 (pl / 64)) &&& (((1 : Int64) <<< ((Int32.ofNat (pl % 64)) &&& 0x3f).toInt64) ^^^ (-1 : Int64)))), .second] [(.long (own_fr f pl 1 1 (pl / 64 / 64)))])) := c36.trans (by
    refine XS.istore X25.here hx rfl (hb hby own_dre44) rfl rfl ?_
    show Steps _ _ _ (.setTop _ (mkF _ 46 _ _)) _
    refine XS.aload X25.here hx rfl (hb hby own_dre46) rfl rfl ?_
    show Steps _ _ _ (.setTop _ (mkF _ 48 _ _)) _
    refine XS.iload X25.here hx rfl (hb hby own_dre48) rfl ?_
    show Steps _ _ _ (.setTop _ (mkF _ 50 _ _)) _
    refine X25.laload hx (j := (Int32.ofNat (pl / 64 / 64))) (v := (.long (own_fr f pl 1 1 (pl / 64 / 64)))) (by rw [e25]; exact AL1.1) (State.isArrayOf_alike hZ.alike AL1.2.1) AL1.2.2 (own_inb (j := (pl / 64 / 64)) SL1 hx1 (by omega)) (by rw [own_cl (j := (pl / 64 / 64)) (by omega)]; exact HL1 (pl / 64 / 64) hx1) (g := (mkF m 50 #[.val (.ref ps), .val (.int (Int32.ofNat pl)), .val (.int (Int32.ofNat (pl / 64))), .val (.ref lv), .val (.int (Int32.ofNat K)), .val (.int (1 : Int32)), .val (.ref (ls 1)), .val (.int (Int32.ofNat (pl / 64 / 64))), .val (.long ((f 0 (pl / 64)) &&& (((1 : Int64) <<< ((Int32.ofNat (pl % 64)) &&& 0x3f).toInt64) ^^^ (-1 : Int64)))), .second] [(.int (Int32.ofNat (pl / 64 / 64))), (.ref (ls 1))])) rfl rfl (hb hby own_dre50) _ ?_
    exact Steps.refl _)
   rw [own_fr_at] at c38
   have c39 : Steps p.tables e below S0 (T25.setTop (mkF m 56 #[.val (.ref ps), .val (.int (Int32.ofNat pl)), .val (.int (Int32.ofNat (pl / 64))), .val (.ref lv), .val (.int (Int32.ofNat K)), .val (.int (1 : Int32)), .val (.ref (ls 1)), .val (.int (Int32.ofNat (pl / 64 / 64))), .val (.long ((f 0 (pl / 64)) &&& (((1 : Int64) <<< ((Int32.ofNat (pl % 64)) &&& 0x3f).toInt64) ^^^ (-1 : Int64)))), .second] [(.int ((Int32.ofNat (pl / 64)) &&& (63 : Int32))), (.long (1 : Int64)), (.long (f 1 (pl / 64 / 64)))])) := c38.trans (by
    refine XS.lconst X25.here hx rfl (hb hby own_dre51) ?_
    show Steps _ _ _ (.setTop _ (mkF _ 52 _ _)) _
    refine XS.iloadN X25.here hx rfl (hb hby own_dre52) rfl ?_
    show Steps _ _ _ (.setTop _ (mkF _ 53 _ _)) _
    refine XS.bipush X25.here hx rfl (hb hby own_dre53) ?_
    show Steps _ _ _ (.setTop _ (mkF _ 55 _ _)) _
    refine XS.iand X25.here hx rfl (hb hby own_dre55) rfl ?_
    exact Steps.refl _)
   rw [own_and63 (show (pl / 64) < 2 ^ 31 by omega)] at c39
   obtain ⟨T41, h41, X41, e41, W41, st41⟩ := stJ X25 hx hZ e25 AL1 (j := (Int32.ofNat (pl / 64 / 64))) (own_inb (j := (pl / 64 / 64)) SL1 hx1 (by omega)) (g := (mkF m 70 #[.val (.ref ps), .val (.int (Int32.ofNat pl)), .val (.int (Int32.ofNat (pl / 64))), .val (.ref lv), .val (.int (Int32.ofNat K)), .val (.int (1 : Int32)), .val (.ref (ls 1)), .val (.int (Int32.ofNat (pl / 64 / 64))), .val (.long ((f 1 (pl / 64 / 64)) &&& (((1 : Int64) <<< ((Int32.ofNat ((pl / 64) % 64)) &&& 0x3f).toInt64) ^^^ (-1 : Int64)))), .second] [(.long ((f 1 (pl / 64 / 64)) &&& (((1 : Int64) <<< ((Int32.ofNat ((pl / 64) % 64)) &&& 0x3f).toInt64) ^^^ (-1 : Int64)))), (.int (Int32.ofNat (pl / 64 / 64))), (.ref (ls 1))])) rfl rfl (hb hby own_dre70)
   have c42 : Steps p.tables e below S0 (T41.setTop (mkF m 71 #[.val (.ref ps), .val (.int (Int32.ofNat pl)), .val (.int (Int32.ofNat (pl / 64))), .val (.ref lv), .val (.int (Int32.ofNat K)), .val (.int (1 : Int32)), .val (.ref (ls 1)), .val (.int (Int32.ofNat (pl / 64 / 64))), .val (.long ((f 1 (pl / 64 / 64)) &&& (((1 : Int64) <<< ((Int32.ofNat ((pl / 64) % 64)) &&& 0x3f).toInt64) ^^^ (-1 : Int64)))), .second] [])) := c39.trans (by
    refine XS.lshl X25.here hx rfl (hb hby own_dre56) rfl ?_
    show Steps _ _ _ (.setTop _ (mkF _ 57 _ _)) _
    refine X25.ldc2Long hx hown (mvT hZ (hw _ (own_m 49 rfl))) (g := (mkF m 57 #[.val (.ref ps), .val (.int (Int32.ofNat pl)), .val (.int (Int32.ofNat (pl / 64))), .val (.ref lv), .val (.int (Int32.ofNat K)), .val (.int (1 : Int32)), .val (.ref (ls 1)), .val (.int (Int32.ofNat (pl / 64 / 64))), .val (.long ((f 0 (pl / 64)) &&& (((1 : Int64) <<< ((Int32.ofNat (pl % 64)) &&& 0x3f).toInt64) ^^^ (-1 : Int64)))), .second] [(.long ((1 : Int64) <<< ((Int32.ofNat ((pl / 64) % 64)) &&& 0x3f).toInt64)), (.long (f 1 (pl / 64 / 64)))])) rfl (hb hby own_dre57) _ ?_
    show Steps _ _ _ (.setTop _ (mkF _ 60 _ _)) _
    refine XS.lxor X25.here hx rfl (hb hby own_dre60) rfl ?_
    show Steps _ _ _ (.setTop _ (mkF _ 61 _ _)) _
    refine XS.land X25.here hx rfl (hb hby own_dre61) rfl ?_
    show Steps _ _ _ (.setTop _ (mkF _ 62 _ _)) _
    refine XS.lstore X25.here hx rfl (hb hby own_dre62) rfl rfl ?_
    show Steps _ _ _ (.setTop _ (mkF _ 64 _ _)) _
    refine XS.aload X25.here hx rfl (hb hby own_dre64) rfl rfl ?_
    show Steps _ _ _ (.setTop _ (mkF _ 66 _ _)) _
    refine XS.iload X25.here hx rfl (hb hby own_dre66) rfl ?_
    show Steps _ _ _ (.setTop _ (mkF _ 68 _ _)) _
    refine XS.lload X25.here hx rfl (hb hby own_dre68) rfl ?_
    show Steps _ _ _ (.setTop _ (mkF _ 70 _ _)) _
    refine st41 _ ?_
    exact Steps.refl _)
   have N41 := Fr.snoc X41 N25 (P25.2.2.2.2.2.2.2.2.2 1 hik1)
   have Kb41 := Kb25.wr W41 (P25.2.2.2.2.2.2.2.2.2 1 hik1)
   rw [own_cl (j := (pl / 64 / 64)) (by omega)] at W41
   have P41 := P25.setL (f' := own_fr f pl 2) hik1 hx1 W41 (fun l' _ i' _ => own_fr_step l' i')
   have c43 : Steps p.tables e below S0 (T41.setTop (mkF m 75 #[.val (.ref ps), .val (.int (Int32.ofNat pl)), .val (.int (Int32.ofNat (pl / 64))), .val (.ref lv), .val (.int (Int32.ofNat K)), .val (.int (1 : Int32)), .val (.ref (ls 1)), .val (.int (Int32.ofNat (pl / 64 / 64))), .val (.long ((f 1 (pl / 64 / 64)) &&& (((1 : Int64) <<< ((Int32.ofNat ((pl / 64) % 64)) &&& 0x3f).toInt64) ^^^ (-1 : Int64)))), .second] [(.int (lcmpW ((f 1 (pl / 64 / 64)) &&& (((1 : Int64) <<< ((Int32.ofNat ((pl / 64) % 64)) &&& 0x3f).toInt64) ^^^ (-1 : Int64))) (0 : Int64)))])) := c42.trans (by
    refine XS.lload X41.here hx rfl (hb hby own_dre71) rfl ?_
    show Steps _ _ _ (.setTop _ (mkF _ 73 _ _)) _
    refine XS.lconst X41.here hx rfl (hb hby own_dre73) ?_
    show Steps _ _ _ (.setTop _ (mkF _ 74 _ _)) _
    refine XS.lcmp X41.here hx rfl (hb hby own_dre74) rfl ?_
    exact Steps.refl _)
   by_cases hz1 : (lcmpW ((f 1 (pl / 64 / 64)) &&& (((1 : Int64) <<< ((Int32.ofNat ((pl / 64) % 64)) &&& 0x3f).toInt64) ^^^ (-1 : Int64))) (0 : Int64)) = (0 : Int32)
   ·have c46 : Steps p.tables e below S0 (T41.setTop (mkF m 27 #[.val (.ref ps), .val (.int (Int32.ofNat pl)), .val (.int (Int32.ofNat (pl / 64 / 64))), .val (.ref lv), .val (.int (Int32.ofNat K)), .val (.int ((1 : Int32) + (1 : Int32))), .val (.ref (ls 1)), .val (.int (Int32.ofNat (pl / 64 / 64))), .val (.long ((f 1 (pl / 64 / 64)) &&& (((1 : Int64) <<< ((Int32.ofNat ((pl / 64) % 64)) &&& 0x3f).toInt64) ^^^ (-1 : Int64)))), .second] [])) := c43.trans (by
     refine XS.ifYes X41.here hx rfl (pc0 := 75) (pc' := 79) rfl (hb hby own_dre75) rfl ((if0 _ _).trans (teq hz1).1) (by decide) (by decide) ?_
     show Steps _ _ _ (.setTop _ (mkF _ 79 _ _)) _
     refine XS.iload X41.here hx rfl (hb hby own_dre79) rfl ?_
     show Steps _ _ _ (.setTop _ (mkF _ 81 _ _)) _
     refine XS.istoreN X41.here hx rfl (hb hby own_dre81) rfl rfl ?_
     show Steps _ _ _ (.setTop _ (mkF _ 82 _ _)) _
     refine XS.iinc X41.here hx rfl (hb hby own_dre82) rfl rfl ?_
     show Steps _ _ _ (.setTop _ (mkF _ 85 _ _)) _
     refine XS.goto X41.here hx rfl (pc0 := 85) (pc' := 27) rfl (hb hby own_dre85) (by decide) (by decide) ?_
     exact Steps.refl _)
    rw [(show (1 : Int32) + (1 : Int32) = 2 by decide)] at c46
    have c47 : Steps p.tables e below S0 (T41.setTop (mkF m 31 #[.val (.ref ps), .val (.int (Int32.ofNat pl)), .val (.int (Int32.ofNat (pl / 64 / 64))), .val (.ref lv), .val (.int (Int32.ofNat K)), .val (.int (2 : Int32)), .val (.ref (ls 1)), .val (.int (Int32.ofNat (pl / 64 / 64))), .val (.long ((f 1 (pl / 64 / 64)) &&& (((1 : Int64) <<< ((Int32.ofNat ((pl / 64) % 64)) &&& 0x3f).toInt64) ^^^ (-1 : Int64)))), .second] [(.int (Int32.ofNat K)), (.int (2 : Int32))])) := c46.trans (by
     refine XS.iload X41.here hx rfl (hb hby own_dre27) rfl ?_
     show Steps _ _ _ (.setTop _ (mkF _ 29 _ _)) _
     refine XS.iload X41.here hx rfl (hb hby own_dre29) rfl ?_
     exact Steps.refl _)
    by_cases hi2 : (2 : Int32) < Int32.ofNat K
    ·have c49 : Steps p.tables e below S0 (T41.setTop (mkF m 34 #[.val (.ref ps), .val (.int (Int32.ofNat pl)), .val (.int (Int32.ofNat (pl / 64 / 64))), .val (.ref lv), .val (.int (Int32.ofNat K)), .val (.int (2 : Int32)), .val (.ref (ls 1)), .val (.int (Int32.ofNat (pl / 64 / 64))), .val (.long ((f 1 (pl / 64 / 64)) &&& (((1 : Int64) <<< ((Int32.ofNat ((pl / 64) % 64)) &&& 0x3f).toInt64) ^^^ (-1 : Int64)))), .second] [])) := c47.trans (by
      refine XS.icmpNo X41.here hx rfl (hb hby own_dre31) rfl (tlt hi2).2.1 ?_
      exact Steps.refl _)
     have hik2 : 2 < K := (own_ilt (i := 2) (by decide) (by omega)).mp hi2
     have hx2 : (pl / 64 / 64 / 64) < N 2 := by rw [hNi 2 hik2]; exact own_idx hroom 2
     have hn2 : N 2 ≤ 8192 := by rw [hNi 2 hik2]; exact own_it_b hN8 2
     have Rqv2 := P41.2.2.2.1
     obtain ⟨cvv2, Avv2, Ovv2, Svv2, Hvv2⟩ := Rqv2
     have c52 : Steps p.tables e below S0 (T41.setTop (mkF m 44 #[.val (.ref ps), .val (.int (Int32.ofNat pl)), .val (.int (Int32.ofNat (pl / 64 / 64))), .val (.ref lv), .val (.int (Int32.ofNat K)), .val (.int (2 : Int32)), .val (.ref (ls 2)), .val (.int (Int32.ofNat (pl / 64 / 64))), .val (.long ((f 1 (pl / 64 / 64)) &&& (((1 : Int64) <<< ((Int32.ofNat ((pl / 64) % 64)) &&& 0x3f).toInt64) ^^^ (-1 : Int64)))), .second] [(.int (((Int32.ofNat (pl / 64 / 64)).toUInt32 >>> ((6 : Int32) &&& 31).toUInt32).toInt32))])) := c49.trans (by
      refine XS.aloadN X41.here hx rfl (hb hby own_dre34) rfl rfl ?_
      show Steps _ _ _ (.setTop _ (mkF _ 35 _ _)) _
      refine XS.iload X41.here hx rfl (hb hby own_dre35) rfl ?_
      show Steps _ _ _ (.setTop _ (mkF _ 37 _ _)) _
      refine X41.aaload hx (j := (2 : Int32)) (v := (.ref (ls 2))) (by rw [e41]; exact Avv2.1) (State.isArrayOf_alike hZ.alike Avv2.2.1) rfl Avv2.2.2 (own_inb (j := 2) Svv2 hik2 (by omega)) (Hvv2 2 hik2) (g := (mkF m 37 #[.val (.ref ps), .val (.int (Int32.ofNat pl)), .val (.int (Int32.ofNat (pl / 64 / 64))), .val (.ref lv), .val (.int (Int32.ofNat K)), .val (.int (2 : Int32)), .val (.ref (ls 1)), .val (.int (Int32.ofNat (pl / 64 / 64))), .val (.long ((f 1 (pl / 64 / 64)) &&& (((1 : Int64) <<< ((Int32.ofNat ((pl / 64) % 64)) &&& 0x3f).toInt64) ^^^ (-1 : Int64)))), .second] [(.int (2 : Int32)), (.ref lv)])) rfl rfl (hb hby own_dre37) _ ?_
      show Steps _ _ _ (.setTop _ (mkF _ 38 _ _)) _
      refine XS.astore X41.here hx rfl (hb hby own_dre38) rfl rfl rfl ?_
      show Steps _ _ _ (.setTop _ (mkF _ 40 _ _)) _
      refine XS.iloadN X41.here hx rfl (hb hby own_dre40) rfl ?_
      show Steps _ _ _ (.setTop _ (mkF _ 41 _ _)) _
      refine XS.bipush X41.here hx rfl (hb hby own_dre41) ?_
      show Steps _ _ _ (.setTop _ (mkF _ 43 _ _)) _
      refine XS.iushr X41.here hx rfl (hb hby own_dre43) rfl ?_
      exact Steps.refl _)
     rw [own_ushr6 (show (pl / 64 / 64) < 2 ^ 31 by omega)] at c52
     obtain ⟨cL2, AL2, EL2, SL2, HL2⟩ := P41.2.2.2.2.1 2 hik2
     have c54 : Steps p.tables e below S0 (T41.setTop (mkF m 51 #[.val (.ref ps), .val (.int (Int32.ofNat pl)), .val (.int (Int32.ofNat (pl / 64 / 64))), .val (.ref lv), .val (.int (Int32.ofNat K)), .val (.int (2 : Int32)), .val (.ref (ls 2)), .val (.int (Int32.ofNat (pl / 64 / 64 / 64))), .val (.long ((f 1 (pl / 64 / 64)) &&& (((1 : Int64) <<< ((Int32.ofNat ((pl / 64) % 64)) &&& 0x3f).toInt64) ^^^ (-1 : Int64)))), .second] [(.long (own_fr f pl 2 2 (pl / 64 / 64 / 64)))])) := c52.trans (by
      refine XS.istore X41.here hx rfl (hb hby own_dre44) rfl rfl ?_
      show Steps _ _ _ (.setTop _ (mkF _ 46 _ _)) _
      refine XS.aload X41.here hx rfl (hb hby own_dre46) rfl rfl ?_
      show Steps _ _ _ (.setTop _ (mkF _ 48 _ _)) _
      refine XS.iload X41.here hx rfl (hb hby own_dre48) rfl ?_
      show Steps _ _ _ (.setTop _ (mkF _ 50 _ _)) _
      refine X41.laload hx (j := (Int32.ofNat (pl / 64 / 64 / 64))) (v := (.long (own_fr f pl 2 2 (pl / 64 / 64 / 64)))) (by rw [e41]; exact AL2.1) (State.isArrayOf_alike hZ.alike AL2.2.1) AL2.2.2 (own_inb (j := (pl / 64 / 64 / 64)) SL2 hx2 (by omega)) (by rw [own_cl (j := (pl / 64 / 64 / 64)) (by omega)]; exact HL2 (pl / 64 / 64 / 64) hx2) (g := (mkF m 50 #[.val (.ref ps), .val (.int (Int32.ofNat pl)), .val (.int (Int32.ofNat (pl / 64 / 64))), .val (.ref lv), .val (.int (Int32.ofNat K)), .val (.int (2 : Int32)), .val (.ref (ls 2)), .val (.int (Int32.ofNat (pl / 64 / 64 / 64))), .val (.long ((f 1 (pl / 64 / 64)) &&& (((1 : Int64) <<< ((Int32.ofNat ((pl / 64) % 64)) &&& 0x3f).toInt64) ^^^ (-1 : Int64)))), .second] [(.int (Int32.ofNat (pl / 64 / 64 / 64))), (.ref (ls 2))])) rfl rfl (hb hby own_dre50) _ ?_
      exact Steps.refl _)
     rw [own_fr_at] at c54
     have c55 : Steps p.tables e below S0 (T41.setTop (mkF m 56 #[.val (.ref ps), .val (.int (Int32.ofNat pl)), .val (.int (Int32.ofNat (pl / 64 / 64))), .val (.ref lv), .val (.int (Int32.ofNat K)), .val (.int (2 : Int32)), .val (.ref (ls 2)), .val (.int (Int32.ofNat (pl / 64 / 64 / 64))), .val (.long ((f 1 (pl / 64 / 64)) &&& (((1 : Int64) <<< ((Int32.ofNat ((pl / 64) % 64)) &&& 0x3f).toInt64) ^^^ (-1 : Int64)))), .second] [(.int ((Int32.ofNat (pl / 64 / 64)) &&& (63 : Int32))), (.long (1 : Int64)), (.long (f 2 (pl / 64 / 64 / 64)))])) := c54.trans (by
      refine XS.lconst X41.here hx rfl (hb hby own_dre51) ?_
      show Steps _ _ _ (.setTop _ (mkF _ 52 _ _)) _
      refine XS.iloadN X41.here hx rfl (hb hby own_dre52) rfl ?_
      show Steps _ _ _ (.setTop _ (mkF _ 53 _ _)) _
      refine XS.bipush X41.here hx rfl (hb hby own_dre53) ?_
      show Steps _ _ _ (.setTop _ (mkF _ 55 _ _)) _
      refine XS.iand X41.here hx rfl (hb hby own_dre55) rfl ?_
      exact Steps.refl _)
     rw [own_and63 (show (pl / 64 / 64) < 2 ^ 31 by omega)] at c55
     obtain ⟨T57, h57, X57, e57, W57, st57⟩ := stJ X41 hx hZ e41 AL2 (j := (Int32.ofNat (pl / 64 / 64 / 64))) (own_inb (j := (pl / 64 / 64 / 64)) SL2 hx2 (by omega)) (g := (mkF m 70 #[.val (.ref ps), .val (.int (Int32.ofNat pl)), .val (.int (Int32.ofNat (pl / 64 / 64))), .val (.ref lv), .val (.int (Int32.ofNat K)), .val (.int (2 : Int32)), .val (.ref (ls 2)), .val (.int (Int32.ofNat (pl / 64 / 64 / 64))), .val (.long ((f 2 (pl / 64 / 64 / 64)) &&& (((1 : Int64) <<< ((Int32.ofNat ((pl / 64 / 64) % 64)) &&& 0x3f).toInt64) ^^^ (-1 : Int64)))), .second] [(.long ((f 2 (pl / 64 / 64 / 64)) &&& (((1 : Int64) <<< ((Int32.ofNat ((pl / 64 / 64) % 64)) &&& 0x3f).toInt64) ^^^ (-1 : Int64)))), (.int (Int32.ofNat (pl / 64 / 64 / 64))), (.ref (ls 2))])) rfl rfl (hb hby own_dre70)
     have c58 : Steps p.tables e below S0 (T57.setTop (mkF m 71 #[.val (.ref ps), .val (.int (Int32.ofNat pl)), .val (.int (Int32.ofNat (pl / 64 / 64))), .val (.ref lv), .val (.int (Int32.ofNat K)), .val (.int (2 : Int32)), .val (.ref (ls 2)), .val (.int (Int32.ofNat (pl / 64 / 64 / 64))), .val (.long ((f 2 (pl / 64 / 64 / 64)) &&& (((1 : Int64) <<< ((Int32.ofNat ((pl / 64 / 64) % 64)) &&& 0x3f).toInt64) ^^^ (-1 : Int64)))), .second] [])) := c55.trans (by
      refine XS.lshl X41.here hx rfl (hb hby own_dre56) rfl ?_
      show Steps _ _ _ (.setTop _ (mkF _ 57 _ _)) _
      refine X41.ldc2Long hx hown (mvT hZ (hw _ (own_m 49 rfl))) (g := (mkF m 57 #[.val (.ref ps), .val (.int (Int32.ofNat pl)), .val (.int (Int32.ofNat (pl / 64 / 64))), .val (.ref lv), .val (.int (Int32.ofNat K)), .val (.int (2 : Int32)), .val (.ref (ls 2)), .val (.int (Int32.ofNat (pl / 64 / 64 / 64))), .val (.long ((f 1 (pl / 64 / 64)) &&& (((1 : Int64) <<< ((Int32.ofNat ((pl / 64) % 64)) &&& 0x3f).toInt64) ^^^ (-1 : Int64)))), .second] [(.long ((1 : Int64) <<< ((Int32.ofNat ((pl / 64 / 64) % 64)) &&& 0x3f).toInt64)), (.long (f 2 (pl / 64 / 64 / 64)))])) rfl (hb hby own_dre57) _ ?_
      show Steps _ _ _ (.setTop _ (mkF _ 60 _ _)) _
      refine XS.lxor X41.here hx rfl (hb hby own_dre60) rfl ?_
      show Steps _ _ _ (.setTop _ (mkF _ 61 _ _)) _
      refine XS.land X41.here hx rfl (hb hby own_dre61) rfl ?_
      show Steps _ _ _ (.setTop _ (mkF _ 62 _ _)) _
      refine XS.lstore X41.here hx rfl (hb hby own_dre62) rfl rfl ?_
      show Steps _ _ _ (.setTop _ (mkF _ 64 _ _)) _
      refine XS.aload X41.here hx rfl (hb hby own_dre64) rfl rfl ?_
      show Steps _ _ _ (.setTop _ (mkF _ 66 _ _)) _
      refine XS.iload X41.here hx rfl (hb hby own_dre66) rfl ?_
      show Steps _ _ _ (.setTop _ (mkF _ 68 _ _)) _
      refine XS.lload X41.here hx rfl (hb hby own_dre68) rfl ?_
      show Steps _ _ _ (.setTop _ (mkF _ 70 _ _)) _
      refine st57 _ ?_
      exact Steps.refl _)
     have N57 := Fr.snoc X57 N41 (P41.2.2.2.2.2.2.2.2.2 2 hik2)
     have Kb57 := Kb41.wr W57 (P41.2.2.2.2.2.2.2.2.2 2 hik2)
     rw [own_cl (j := (pl / 64 / 64 / 64)) (by omega)] at W57
     have P57 := P41.setL (f' := own_fr f pl 3) hik2 hx2 W57 (fun l' _ i' _ => own_fr_step l' i')
     have c59 : Steps p.tables e below S0 (T57.setTop (mkF m 75 #[.val (.ref ps), .val (.int (Int32.ofNat pl)), .val (.int (Int32.ofNat (pl / 64 / 64))), .val (.ref lv), .val (.int (Int32.ofNat K)), .val (.int (2 : Int32)), .val (.ref (ls 2)), .val (.int (Int32.ofNat (pl / 64 / 64 / 64))), .val (.long ((f 2 (pl / 64 / 64 / 64)) &&& (((1 : Int64) <<< ((Int32.ofNat ((pl / 64 / 64) % 64)) &&& 0x3f).toInt64) ^^^ (-1 : Int64)))), .second] [(.int (lcmpW ((f 2 (pl / 64 / 64 / 64)) &&& (((1 : Int64) <<< ((Int32.ofNat ((pl / 64 / 64) % 64)) &&& 0x3f).toInt64) ^^^ (-1 : Int64))) (0 : Int64)))])) := c58.trans (by
      refine XS.lload X57.here hx rfl (hb hby own_dre71) rfl ?_
      show Steps _ _ _ (.setTop _ (mkF _ 73 _ _)) _
      refine XS.lconst X57.here hx rfl (hb hby own_dre73) ?_
      show Steps _ _ _ (.setTop _ (mkF _ 74 _ _)) _
      refine XS.lcmp X57.here hx rfl (hb hby own_dre74) rfl ?_
      exact Steps.refl _)
     by_cases hz2 : (lcmpW ((f 2 (pl / 64 / 64 / 64)) &&& (((1 : Int64) <<< ((Int32.ofNat ((pl / 64 / 64) % 64)) &&& 0x3f).toInt64) ^^^ (-1 : Int64))) (0 : Int64)) = (0 : Int32)
     ·have c62 : Steps p.tables e below S0 (T57.setTop (mkF m 27 #[.val (.ref ps), .val (.int (Int32.ofNat pl)), .val (.int (Int32.ofNat (pl / 64 / 64 / 64))), .val (.ref lv), .val (.int (Int32.ofNat K)), .val (.int ((2 : Int32) + (1 : Int32))), .val (.ref (ls 2)), .val (.int (Int32.ofNat (pl / 64 / 64 / 64))), .val (.long ((f 2 (pl / 64 / 64 / 64)) &&& (((1 : Int64) <<< ((Int32.ofNat ((pl / 64 / 64) % 64)) &&& 0x3f).toInt64) ^^^ (-1 : Int64)))), .second] [])) := c59.trans (by
       refine XS.ifYes X57.here hx rfl (pc0 := 75) (pc' := 79) rfl (hb hby own_dre75) rfl ((if0 _ _).trans (teq hz2).1) (by decide) (by decide) ?_
       show Steps _ _ _ (.setTop _ (mkF _ 79 _ _)) _
       refine XS.iload X57.here hx rfl (hb hby own_dre79) rfl ?_
       show Steps _ _ _ (.setTop _ (mkF _ 81 _ _)) _
       refine XS.istoreN X57.here hx rfl (hb hby own_dre81) rfl rfl ?_
       show Steps _ _ _ (.setTop _ (mkF _ 82 _ _)) _
       refine XS.iinc X57.here hx rfl (hb hby own_dre82) rfl rfl ?_
       show Steps _ _ _ (.setTop _ (mkF _ 85 _ _)) _
       refine XS.goto X57.here hx rfl (pc0 := 85) (pc' := 27) rfl (hb hby own_dre85) (by decide) (by decide) ?_
       exact Steps.refl _)
      rw [(show (2 : Int32) + (1 : Int32) = 3 by decide)] at c62
      have c63 : Steps p.tables e below S0 (T57.setTop (mkF m 31 #[.val (.ref ps), .val (.int (Int32.ofNat pl)), .val (.int (Int32.ofNat (pl / 64 / 64 / 64))), .val (.ref lv), .val (.int (Int32.ofNat K)), .val (.int (3 : Int32)), .val (.ref (ls 2)), .val (.int (Int32.ofNat (pl / 64 / 64 / 64))), .val (.long ((f 2 (pl / 64 / 64 / 64)) &&& (((1 : Int64) <<< ((Int32.ofNat ((pl / 64 / 64) % 64)) &&& 0x3f).toInt64) ^^^ (-1 : Int64)))), .second] [(.int (Int32.ofNat K)), (.int (3 : Int32))])) := c62.trans (by
       refine XS.iload X57.here hx rfl (hb hby own_dre27) rfl ?_
       show Steps _ _ _ (.setTop _ (mkF _ 29 _ _)) _
       refine XS.iload X57.here hx rfl (hb hby own_dre29) rfl ?_
       exact Steps.refl _)
      by_cases hi3 : (3 : Int32) < Int32.ofNat K
      ·have hik3 : 3 < K := (own_ilt (i := 3) (by decide) (by omega)).mp hi3
       have hx3 : (pl / 64 / 64 / 64 / 64) < N 3 := by rw [hNi 3 hik3]; exact own_idx hroom 3
       have hn3 : N 3 ≤ 8192 := by rw [hNi 3 hik3]; exact own_it_b hN8 3
       have Rqv3 := P57.2.2.2.1
       obtain ⟨cvv3, Avv3, Ovv3, Svv3, Hvv3⟩ := Rqv3
       have c68 : Steps p.tables e below S0 (T57.setTop (mkF m 44 #[.val (.ref ps), .val (.int (Int32.ofNat pl)), .val (.int (Int32.ofNat (pl / 64 / 64 / 64))), .val (.ref lv), .val (.int (Int32.ofNat K)), .val (.int (3 : Int32)), .val (.ref (ls 3)), .val (.int (Int32.ofNat (pl / 64 / 64 / 64))), .val (.long ((f 2 (pl / 64 / 64 / 64)) &&& (((1 : Int64) <<< ((Int32.ofNat ((pl / 64 / 64) % 64)) &&& 0x3f).toInt64) ^^^ (-1 : Int64)))), .second] [(.int (((Int32.ofNat (pl / 64 / 64 / 64)).toUInt32 >>> ((6 : Int32) &&& 31).toUInt32).toInt32))])) := c63.trans (by
        refine XS.icmpNo X57.here hx rfl (hb hby own_dre31) rfl (tlt hi3).2.1 ?_
        show Steps _ _ _ (.setTop _ (mkF _ 34 _ _)) _
        refine XS.aloadN X57.here hx rfl (hb hby own_dre34) rfl rfl ?_
        show Steps _ _ _ (.setTop _ (mkF _ 35 _ _)) _
        refine XS.iload X57.here hx rfl (hb hby own_dre35) rfl ?_
        show Steps _ _ _ (.setTop _ (mkF _ 37 _ _)) _
        refine X57.aaload hx (j := (3 : Int32)) (v := (.ref (ls 3))) (by rw [e57]; exact Avv3.1) (State.isArrayOf_alike hZ.alike Avv3.2.1) rfl Avv3.2.2 (own_inb (j := 3) Svv3 hik3 (by omega)) (Hvv3 3 hik3) (g := (mkF m 37 #[.val (.ref ps), .val (.int (Int32.ofNat pl)), .val (.int (Int32.ofNat (pl / 64 / 64 / 64))), .val (.ref lv), .val (.int (Int32.ofNat K)), .val (.int (3 : Int32)), .val (.ref (ls 2)), .val (.int (Int32.ofNat (pl / 64 / 64 / 64))), .val (.long ((f 2 (pl / 64 / 64 / 64)) &&& (((1 : Int64) <<< ((Int32.ofNat ((pl / 64 / 64) % 64)) &&& 0x3f).toInt64) ^^^ (-1 : Int64)))), .second] [(.int (3 : Int32)), (.ref lv)])) rfl rfl (hb hby own_dre37) _ ?_
        show Steps _ _ _ (.setTop _ (mkF _ 38 _ _)) _
        refine XS.astore X57.here hx rfl (hb hby own_dre38) rfl rfl rfl ?_
        show Steps _ _ _ (.setTop _ (mkF _ 40 _ _)) _
        refine XS.iloadN X57.here hx rfl (hb hby own_dre40) rfl ?_
        show Steps _ _ _ (.setTop _ (mkF _ 41 _ _)) _
        refine XS.bipush X57.here hx rfl (hb hby own_dre41) ?_
        show Steps _ _ _ (.setTop _ (mkF _ 43 _ _)) _
        refine XS.iushr X57.here hx rfl (hb hby own_dre43) rfl ?_
        exact Steps.refl _)
       rw [own_ushr6 (show (pl / 64 / 64 / 64) < 2 ^ 31 by omega)] at c68
       obtain ⟨cL3, AL3, EL3, SL3, HL3⟩ := P57.2.2.2.2.1 3 hik3
       have c70 : Steps p.tables e below S0 (T57.setTop (mkF m 51 #[.val (.ref ps), .val (.int (Int32.ofNat pl)), .val (.int (Int32.ofNat (pl / 64 / 64 / 64))), .val (.ref lv), .val (.int (Int32.ofNat K)), .val (.int (3 : Int32)), .val (.ref (ls 3)), .val (.int (Int32.ofNat (pl / 64 / 64 / 64 / 64))), .val (.long ((f 2 (pl / 64 / 64 / 64)) &&& (((1 : Int64) <<< ((Int32.ofNat ((pl / 64 / 64) % 64)) &&& 0x3f).toInt64) ^^^ (-1 : Int64)))), .second] [(.long (own_fr f pl 3 3 (pl / 64 / 64 / 64 / 64)))])) := c68.trans (by
        refine XS.istore X57.here hx rfl (hb hby own_dre44) rfl rfl ?_
        show Steps _ _ _ (.setTop _ (mkF _ 46 _ _)) _
        refine XS.aload X57.here hx rfl (hb hby own_dre46) rfl rfl ?_
        show Steps _ _ _ (.setTop _ (mkF _ 48 _ _)) _
        refine XS.iload X57.here hx rfl (hb hby own_dre48) rfl ?_
        show Steps _ _ _ (.setTop _ (mkF _ 50 _ _)) _
        refine X57.laload hx (j := (Int32.ofNat (pl / 64 / 64 / 64 / 64))) (v := (.long (own_fr f pl 3 3 (pl / 64 / 64 / 64 / 64)))) (by rw [e57]; exact AL3.1) (State.isArrayOf_alike hZ.alike AL3.2.1) AL3.2.2 (own_inb (j := (pl / 64 / 64 / 64 / 64)) SL3 hx3 (by omega)) (by rw [own_cl (j := (pl / 64 / 64 / 64 / 64)) (by omega)]; exact HL3 (pl / 64 / 64 / 64 / 64) hx3) (g := (mkF m 50 #[.val (.ref ps), .val (.int (Int32.ofNat pl)), .val (.int (Int32.ofNat (pl / 64 / 64 / 64))), .val (.ref lv), .val (.int (Int32.ofNat K)), .val (.int (3 : Int32)), .val (.ref (ls 3)), .val (.int (Int32.ofNat (pl / 64 / 64 / 64 / 64))), .val (.long ((f 2 (pl / 64 / 64 / 64)) &&& (((1 : Int64) <<< ((Int32.ofNat ((pl / 64 / 64) % 64)) &&& 0x3f).toInt64) ^^^ (-1 : Int64)))), .second] [(.int (Int32.ofNat (pl / 64 / 64 / 64 / 64))), (.ref (ls 3))])) rfl rfl (hb hby own_dre50) _ ?_
        exact Steps.refl _)
       rw [own_fr_at] at c70
       have c71 : Steps p.tables e below S0 (T57.setTop (mkF m 56 #[.val (.ref ps), .val (.int (Int32.ofNat pl)), .val (.int (Int32.ofNat (pl / 64 / 64 / 64))), .val (.ref lv), .val (.int (Int32.ofNat K)), .val (.int (3 : Int32)), .val (.ref (ls 3)), .val (.int (Int32.ofNat (pl / 64 / 64 / 64 / 64))), .val (.long ((f 2 (pl / 64 / 64 / 64)) &&& (((1 : Int64) <<< ((Int32.ofNat ((pl / 64 / 64) % 64)) &&& 0x3f).toInt64) ^^^ (-1 : Int64)))), .second] [(.int ((Int32.ofNat (pl / 64 / 64 / 64)) &&& (63 : Int32))), (.long (1 : Int64)), (.long (f 3 (pl / 64 / 64 / 64 / 64)))])) := c70.trans (by
        refine XS.lconst X57.here hx rfl (hb hby own_dre51) ?_
        show Steps _ _ _ (.setTop _ (mkF _ 52 _ _)) _
        refine XS.iloadN X57.here hx rfl (hb hby own_dre52) rfl ?_
        show Steps _ _ _ (.setTop _ (mkF _ 53 _ _)) _
        refine XS.bipush X57.here hx rfl (hb hby own_dre53) ?_
        show Steps _ _ _ (.setTop _ (mkF _ 55 _ _)) _
        refine XS.iand X57.here hx rfl (hb hby own_dre55) rfl ?_
        exact Steps.refl _)
       rw [own_and63 (show (pl / 64 / 64 / 64) < 2 ^ 31 by omega)] at c71
       obtain ⟨T73, h73, X73, e73, W73, st73⟩ := stJ X57 hx hZ e57 AL3 (j := (Int32.ofNat (pl / 64 / 64 / 64 / 64))) (own_inb (j := (pl / 64 / 64 / 64 / 64)) SL3 hx3 (by omega)) (g := (mkF m 70 #[.val (.ref ps), .val (.int (Int32.ofNat pl)), .val (.int (Int32.ofNat (pl / 64 / 64 / 64))), .val (.ref lv), .val (.int (Int32.ofNat K)), .val (.int (3 : Int32)), .val (.ref (ls 3)), .val (.int (Int32.ofNat (pl / 64 / 64 / 64 / 64))), .val (.long ((f 3 (pl / 64 / 64 / 64 / 64)) &&& (((1 : Int64) <<< ((Int32.ofNat ((pl / 64 / 64 / 64) % 64)) &&& 0x3f).toInt64) ^^^ (-1 : Int64)))), .second] [(.long ((f 3 (pl / 64 / 64 / 64 / 64)) &&& (((1 : Int64) <<< ((Int32.ofNat ((pl / 64 / 64 / 64) % 64)) &&& 0x3f).toInt64) ^^^ (-1 : Int64)))), (.int (Int32.ofNat (pl / 64 / 64 / 64 / 64))), (.ref (ls 3))])) rfl rfl (hb hby own_dre70)
       have c74 : Steps p.tables e below S0 (T73.setTop (mkF m 71 #[.val (.ref ps), .val (.int (Int32.ofNat pl)), .val (.int (Int32.ofNat (pl / 64 / 64 / 64))), .val (.ref lv), .val (.int (Int32.ofNat K)), .val (.int (3 : Int32)), .val (.ref (ls 3)), .val (.int (Int32.ofNat (pl / 64 / 64 / 64 / 64))), .val (.long ((f 3 (pl / 64 / 64 / 64 / 64)) &&& (((1 : Int64) <<< ((Int32.ofNat ((pl / 64 / 64 / 64) % 64)) &&& 0x3f).toInt64) ^^^ (-1 : Int64)))), .second] [])) := c71.trans (by
        refine XS.lshl X57.here hx rfl (hb hby own_dre56) rfl ?_
        show Steps _ _ _ (.setTop _ (mkF _ 57 _ _)) _
        refine X57.ldc2Long hx hown (mvT hZ (hw _ (own_m 49 rfl))) (g := (mkF m 57 #[.val (.ref ps), .val (.int (Int32.ofNat pl)), .val (.int (Int32.ofNat (pl / 64 / 64 / 64))), .val (.ref lv), .val (.int (Int32.ofNat K)), .val (.int (3 : Int32)), .val (.ref (ls 3)), .val (.int (Int32.ofNat (pl / 64 / 64 / 64 / 64))), .val (.long ((f 2 (pl / 64 / 64 / 64)) &&& (((1 : Int64) <<< ((Int32.ofNat ((pl / 64 / 64) % 64)) &&& 0x3f).toInt64) ^^^ (-1 : Int64)))), .second] [(.long ((1 : Int64) <<< ((Int32.ofNat ((pl / 64 / 64 / 64) % 64)) &&& 0x3f).toInt64)), (.long (f 3 (pl / 64 / 64 / 64 / 64)))])) rfl (hb hby own_dre57) _ ?_
        show Steps _ _ _ (.setTop _ (mkF _ 60 _ _)) _
        refine XS.lxor X57.here hx rfl (hb hby own_dre60) rfl ?_
        show Steps _ _ _ (.setTop _ (mkF _ 61 _ _)) _
        refine XS.land X57.here hx rfl (hb hby own_dre61) rfl ?_
        show Steps _ _ _ (.setTop _ (mkF _ 62 _ _)) _
        refine XS.lstore X57.here hx rfl (hb hby own_dre62) rfl rfl ?_
        show Steps _ _ _ (.setTop _ (mkF _ 64 _ _)) _
        refine XS.aload X57.here hx rfl (hb hby own_dre64) rfl rfl ?_
        show Steps _ _ _ (.setTop _ (mkF _ 66 _ _)) _
        refine XS.iload X57.here hx rfl (hb hby own_dre66) rfl ?_
        show Steps _ _ _ (.setTop _ (mkF _ 68 _ _)) _
        refine XS.lload X57.here hx rfl (hb hby own_dre68) rfl ?_
        show Steps _ _ _ (.setTop _ (mkF _ 70 _ _)) _
        refine st73 _ ?_
        exact Steps.refl _)
       have N73 := Fr.snoc X73 N57 (P57.2.2.2.2.2.2.2.2.2 3 hik3)
       have Kb73 := Kb57.wr W73 (P57.2.2.2.2.2.2.2.2.2 3 hik3)
       rw [own_cl (j := (pl / 64 / 64 / 64 / 64)) (by omega)] at W73
       have P73 := P57.setL (f' := own_fr f pl 4) hik3 hx3 W73 (fun l' _ i' _ => own_fr_step l' i')
       have c75 : Steps p.tables e below S0 (T73.setTop (mkF m 75 #[.val (.ref ps), .val (.int (Int32.ofNat pl)), .val (.int (Int32.ofNat (pl / 64 / 64 / 64))), .val (.ref lv), .val (.int (Int32.ofNat K)), .val (.int (3 : Int32)), .val (.ref (ls 3)), .val (.int (Int32.ofNat (pl / 64 / 64 / 64 / 64))), .val (.long ((f 3 (pl / 64 / 64 / 64 / 64)) &&& (((1 : Int64) <<< ((Int32.ofNat ((pl / 64 / 64 / 64) % 64)) &&& 0x3f).toInt64) ^^^ (-1 : Int64)))), .second] [(.int (lcmpW ((f 3 (pl / 64 / 64 / 64 / 64)) &&& (((1 : Int64) <<< ((Int32.ofNat ((pl / 64 / 64 / 64) % 64)) &&& 0x3f).toInt64) ^^^ (-1 : Int64))) (0 : Int64)))])) := c74.trans (by
        refine XS.lload X73.here hx rfl (hb hby own_dre71) rfl ?_
        show Steps _ _ _ (.setTop _ (mkF _ 73 _ _)) _
        refine XS.lconst X73.here hx rfl (hb hby own_dre73) ?_
        show Steps _ _ _ (.setTop _ (mkF _ 74 _ _)) _
        refine XS.lcmp X73.here hx rfl (hb hby own_dre74) rfl ?_
        exact Steps.refl _)
       by_cases hz3 : (lcmpW ((f 3 (pl / 64 / 64 / 64 / 64)) &&& (((1 : Int64) <<< ((Int32.ofNat ((pl / 64 / 64 / 64) % 64)) &&& 0x3f).toInt64) ^^^ (-1 : Int64))) (0 : Int64)) = (0 : Int32)
       ·have c78 : Steps p.tables e below S0 (T73.setTop (mkF m 27 #[.val (.ref ps), .val (.int (Int32.ofNat pl)), .val (.int (Int32.ofNat (pl / 64 / 64 / 64 / 64))), .val (.ref lv), .val (.int (Int32.ofNat K)), .val (.int ((3 : Int32) + (1 : Int32))), .val (.ref (ls 3)), .val (.int (Int32.ofNat (pl / 64 / 64 / 64 / 64))), .val (.long ((f 3 (pl / 64 / 64 / 64 / 64)) &&& (((1 : Int64) <<< ((Int32.ofNat ((pl / 64 / 64 / 64) % 64)) &&& 0x3f).toInt64) ^^^ (-1 : Int64)))), .second] [])) := c75.trans (by
         refine XS.ifYes X73.here hx rfl (pc0 := 75) (pc' := 79) rfl (hb hby own_dre75) rfl ((if0 _ _).trans (teq hz3).1) (by decide) (by decide) ?_
         show Steps _ _ _ (.setTop _ (mkF _ 79 _ _)) _
         refine XS.iload X73.here hx rfl (hb hby own_dre79) rfl ?_
         show Steps _ _ _ (.setTop _ (mkF _ 81 _ _)) _
         refine XS.istoreN X73.here hx rfl (hb hby own_dre81) rfl rfl ?_
         show Steps _ _ _ (.setTop _ (mkF _ 82 _ _)) _
         refine XS.iinc X73.here hx rfl (hb hby own_dre82) rfl rfl ?_
         show Steps _ _ _ (.setTop _ (mkF _ 85 _ _)) _
         refine XS.goto X73.here hx rfl (pc0 := 85) (pc' := 27) rfl (hb hby own_dre85) (by decide) (by decide) ?_
         exact Steps.refl _)
        rw [(show (3 : Int32) + (1 : Int32) = 4 by decide)] at c78
        have hKi : K = 4 := by omega
        have c80 : Steps p.tables e below S0 (T73.setTop (mkF m 88 #[.val (.ref ps), .val (.int (Int32.ofNat pl)), .val (.int (Int32.ofNat (pl / 64 / 64 / 64 / 64))), .val (.ref lv), .val (.int (Int32.ofNat K)), .val (.int (4 : Int32)), .val (.ref (ls 3)), .val (.int (Int32.ofNat (pl / 64 / 64 / 64 / 64))), .val (.long ((f 3 (pl / 64 / 64 / 64 / 64)) &&& (((1 : Int64) <<< ((Int32.ofNat ((pl / 64 / 64 / 64) % 64)) &&& 0x3f).toInt64) ^^^ (-1 : Int64)))), .second] [])) := c78.trans (by
         refine XS.iload X73.here hx rfl (hb hby own_dre27) rfl ?_
         show Steps _ _ _ (.setTop _ (mkF _ 29 _ _)) _
         refine XS.iload X73.here hx rfl (hb hby own_dre29) rfl ?_
         show Steps _ _ _ (.setTop _ (mkF _ 31 _ _)) _
         refine XS.icmpYes X73.here hx rfl (pc0 := 31) (pc' := 88) rfl (hb hby own_dre31) rfl (flt (fun q => absurd ((own_ilt (i := 4) (by decide) (by omega)).mp q) (by omega))).2.1 (by decide) (by decide) ?_
         exact Steps.refl _)
        obtain ⟨fs, hr, hrun, hended, hW, hsame⟩ := X73.leave (v := none) (fun _ => rfl)
        exact ⟨_, _, c80.trans (X73.returnOut hx Bd.returns (hb hby own_dre88) hr), hrun, hended, _, _, rfl, (by rw [show (T73.setFrames fs).heap = h73 from e73]; exact ⟨rfl, N73, Kb73, 4, P73, by omega, Or.inl hKi.symm, fun j hj => by
         rcases (show j = 0 ∨ j = 1 ∨ j = 2 by omega) with rfl | rfl | rfl
         ·exact (lw_eq _ _).mp hz0
         ·exact (lw_eq _ _).mp hz1
         ·exact (lw_eq _ _).mp hz2⟩), ⟨_, rfl⟩, hW, hsame.mono (Nat.le_refl _) (Nat.le_refl _)⟩
       ·have c76 : Steps p.tables e below S0 (T73.setTop (mkF m 78 #[.val (.ref ps), .val (.int (Int32.ofNat pl)), .val (.int (Int32.ofNat (pl / 64 / 64 / 64))), .val (.ref lv), .val (.int (Int32.ofNat K)), .val (.int (3 : Int32)), .val (.ref (ls 3)), .val (.int (Int32.ofNat (pl / 64 / 64 / 64 / 64))), .val (.long ((f 3 (pl / 64 / 64 / 64 / 64)) &&& (((1 : Int64) <<< ((Int32.ofNat ((pl / 64 / 64 / 64) % 64)) &&& 0x3f).toInt64) ^^^ (-1 : Int64)))), .second] [])) := c75.trans (by
         refine XS.ifNo X73.here hx rfl (hb hby own_dre75) rfl ((if0 _ _).trans (feq hz3).1) ?_
         exact Steps.refl _)
        obtain ⟨fs, hr, hrun, hended, hW, hsame⟩ := X73.leave (v := none) (fun _ => rfl)
        exact ⟨_, _, c76.trans (X73.returnOut hx Bd.returns (hb hby own_dre78) hr), hrun, hended, _, _, rfl, (by rw [show (T73.setFrames fs).heap = h73 from e73]; exact ⟨rfl, N73, Kb73, 4, P73, by omega, Or.inr ⟨by omega, fun q => hz3 ((lw_eq _ _).mpr q)⟩, fun j hj => by
         rcases (show j = 0 ∨ j = 1 ∨ j = 2 by omega) with rfl | rfl | rfl
         ·exact (lw_eq _ _).mp hz0
         ·exact (lw_eq _ _).mp hz1
         ·exact (lw_eq _ _).mp hz2⟩), ⟨_, rfl⟩, hW, hsame.mono (Nat.le_refl _) (Nat.le_refl _)⟩
      ·have hKi : K = 3 := by
        have q : ¬ 3 < K := fun q => hi3 ((own_ilt (i := 3) (by decide) (by omega)).mpr q)
        omega
       have c64 : Steps p.tables e below S0 (T57.setTop (mkF m 88 #[.val (.ref ps), .val (.int (Int32.ofNat pl)), .val (.int (Int32.ofNat (pl / 64 / 64 / 64))), .val (.ref lv), .val (.int (Int32.ofNat K)), .val (.int (3 : Int32)), .val (.ref (ls 2)), .val (.int (Int32.ofNat (pl / 64 / 64 / 64))), .val (.long ((f 2 (pl / 64 / 64 / 64)) &&& (((1 : Int64) <<< ((Int32.ofNat ((pl / 64 / 64) % 64)) &&& 0x3f).toInt64) ^^^ (-1 : Int64)))), .second] [])) := c63.trans (by
        refine XS.icmpYes X57.here hx rfl (pc0 := 31) (pc' := 88) rfl (hb hby own_dre31) rfl (flt hi3).2.1 (by decide) (by decide) ?_
        exact Steps.refl _)
       obtain ⟨fs, hr, hrun, hended, hW, hsame⟩ := X57.leave (v := none) (fun _ => rfl)
       exact ⟨_, _, c64.trans (X57.returnOut hx Bd.returns (hb hby own_dre88) hr), hrun, hended, _, _, rfl, (by rw [show (T57.setFrames fs).heap = h57 from e57]; exact ⟨rfl, N57, Kb57, 3, P57, by omega, Or.inl hKi.symm, fun j hj => by
        rcases (show j = 0 ∨ j = 1 by omega) with rfl | rfl
        ·exact (lw_eq _ _).mp hz0
        ·exact (lw_eq _ _).mp hz1⟩), ⟨_, rfl⟩, hW, hsame.mono (Nat.le_refl _) (Nat.le_refl _)⟩
     ·have c60 : Steps p.tables e below S0 (T57.setTop (mkF m 78 #[.val (.ref ps), .val (.int (Int32.ofNat pl)), .val (.int (Int32.ofNat (pl / 64 / 64))), .val (.ref lv), .val (.int (Int32.ofNat K)), .val (.int (2 : Int32)), .val (.ref (ls 2)), .val (.int (Int32.ofNat (pl / 64 / 64 / 64))), .val (.long ((f 2 (pl / 64 / 64 / 64)) &&& (((1 : Int64) <<< ((Int32.ofNat ((pl / 64 / 64) % 64)) &&& 0x3f).toInt64) ^^^ (-1 : Int64)))), .second] [])) := c59.trans (by
       refine XS.ifNo X57.here hx rfl (hb hby own_dre75) rfl ((if0 _ _).trans (feq hz2).1) ?_
       exact Steps.refl _)
      obtain ⟨fs, hr, hrun, hended, hW, hsame⟩ := X57.leave (v := none) (fun _ => rfl)
      exact ⟨_, _, c60.trans (X57.returnOut hx Bd.returns (hb hby own_dre78) hr), hrun, hended, _, _, rfl, (by rw [show (T57.setFrames fs).heap = h57 from e57]; exact ⟨rfl, N57, Kb57, 3, P57, by omega, Or.inr ⟨by omega, fun q => hz2 ((lw_eq _ _).mpr q)⟩, fun j hj => by
       rcases (show j = 0 ∨ j = 1 by omega) with rfl | rfl
       ·exact (lw_eq _ _).mp hz0
       ·exact (lw_eq _ _).mp hz1⟩), ⟨_, rfl⟩, hW, hsame.mono (Nat.le_refl _) (Nat.le_refl _)⟩
    ·have hKi : K = 2 := by
      have q : ¬ 2 < K := fun q => hi2 ((own_ilt (i := 2) (by decide) (by omega)).mpr q)
      omega
     have c48 : Steps p.tables e below S0 (T41.setTop (mkF m 88 #[.val (.ref ps), .val (.int (Int32.ofNat pl)), .val (.int (Int32.ofNat (pl / 64 / 64))), .val (.ref lv), .val (.int (Int32.ofNat K)), .val (.int (2 : Int32)), .val (.ref (ls 1)), .val (.int (Int32.ofNat (pl / 64 / 64))), .val (.long ((f 1 (pl / 64 / 64)) &&& (((1 : Int64) <<< ((Int32.ofNat ((pl / 64) % 64)) &&& 0x3f).toInt64) ^^^ (-1 : Int64)))), .second] [])) := c47.trans (by
      refine XS.icmpYes X41.here hx rfl (pc0 := 31) (pc' := 88) rfl (hb hby own_dre31) rfl (flt hi2).2.1 (by decide) (by decide) ?_
      exact Steps.refl _)
     obtain ⟨fs, hr, hrun, hended, hW, hsame⟩ := X41.leave (v := none) (fun _ => rfl)
     exact ⟨_, _, c48.trans (X41.returnOut hx Bd.returns (hb hby own_dre88) hr), hrun, hended, _, _, rfl, (by rw [show (T41.setFrames fs).heap = h41 from e41]; exact ⟨rfl, N41, Kb41, 2, P41, by omega, Or.inl hKi.symm, fun j hj => by
      rcases (show j = 0 by omega) with rfl
      ·exact (lw_eq _ _).mp hz0⟩), ⟨_, rfl⟩, hW, hsame.mono (Nat.le_refl _) (Nat.le_refl _)⟩
   ·have c44 : Steps p.tables e below S0 (T41.setTop (mkF m 78 #[.val (.ref ps), .val (.int (Int32.ofNat pl)), .val (.int (Int32.ofNat (pl / 64))), .val (.ref lv), .val (.int (Int32.ofNat K)), .val (.int (1 : Int32)), .val (.ref (ls 1)), .val (.int (Int32.ofNat (pl / 64 / 64))), .val (.long ((f 1 (pl / 64 / 64)) &&& (((1 : Int64) <<< ((Int32.ofNat ((pl / 64) % 64)) &&& 0x3f).toInt64) ^^^ (-1 : Int64)))), .second] [])) := c43.trans (by
     refine XS.ifNo X41.here hx rfl (hb hby own_dre75) rfl ((if0 _ _).trans (feq hz1).1) ?_
     exact Steps.refl _)
    obtain ⟨fs, hr, hrun, hended, hW, hsame⟩ := X41.leave (v := none) (fun _ => rfl)
    exact ⟨_, _, c44.trans (X41.returnOut hx Bd.returns (hb hby own_dre78) hr), hrun, hended, _, _, rfl, (by rw [show (T41.setFrames fs).heap = h41 from e41]; exact ⟨rfl, N41, Kb41, 2, P41, by omega, Or.inr ⟨by omega, fun q => hz1 ((lw_eq _ _).mpr q)⟩, fun j hj => by
     rcases (show j = 0 by omega) with rfl
     ·exact (lw_eq _ _).mp hz0⟩), ⟨_, rfl⟩, hW, hsame.mono (Nat.le_refl _) (Nat.le_refl _)⟩
  ·have hKi : K = 1 := by
    have q : ¬ 1 < K := fun q => hi1 ((own_ilt (i := 1) (by decide) (by omega)).mpr q)
    omega
   have c32 : Steps p.tables e below S0 (T25.setTop (mkF m 88 #[.val (.ref ps), .val (.int (Int32.ofNat pl)), .val (.int (Int32.ofNat (pl / 64))), .val (.ref lv), .val (.int (Int32.ofNat K)), .val (.int (1 : Int32)), .val (.ref (ls 0)), .val (.int (Int32.ofNat (pl / 64))), .val (.long ((f 0 (pl / 64)) &&& (((1 : Int64) <<< ((Int32.ofNat (pl % 64)) &&& 0x3f).toInt64) ^^^ (-1 : Int64)))), .second] [])) := c31.trans (by
    refine XS.icmpYes X25.here hx rfl (pc0 := 31) (pc' := 88) rfl (hb hby own_dre31) rfl (flt hi1).2.1 (by decide) (by decide) ?_
    exact Steps.refl _)
   obtain ⟨fs, hr, hrun, hended, hW, hsame⟩ := X25.leave (v := none) (fun _ => rfl)
   exact ⟨_, _, c32.trans (X25.returnOut hx Bd.returns (hb hby own_dre88) hr), hrun, hended, _, _, rfl, (by rw [show (T25.setFrames fs).heap = h25 from e25]; exact ⟨rfl, N25, Kb25, 1, P25, by omega, Or.inl hKi.symm, fun j hj => absurd hj (by omega)⟩), ⟨_, rfl⟩, hW, hsame.mono (Nat.le_refl _) (Nat.le_refl _)⟩
 ·have c28 : Steps p.tables e below S0 (T25.setTop (mkF m 78 #[.val (.ref ps), .val (.int (Int32.ofNat pl)), .val (.int (Int32.ofNat pl)), .val (.ref lv), .val (.int (Int32.ofNat K)), .val (.int (0 : Int32)), .val (.ref (ls 0)), .val (.int (Int32.ofNat (pl / 64))), .val (.long ((f 0 (pl / 64)) &&& (((1 : Int64) <<< ((Int32.ofNat (pl % 64)) &&& 0x3f).toInt64) ^^^ (-1 : Int64)))), .second] [])) := c27.trans (by
   refine XS.ifNo X25.here hx rfl (hb hby own_dre75) rfl ((if0 _ _).trans (feq hz0).1) ?_
   exact Steps.refl _)
  obtain ⟨fs, hr, hrun, hended, hW, hsame⟩ := X25.leave (v := none) (fun _ => rfl)
  exact ⟨_, _, c28.trans (X25.returnOut hx Bd.returns (hb hby own_dre78) hr), hrun, hended, _, _, rfl, (by rw [show (T25.setFrames fs).heap = h25 from e25]; exact ⟨rfl, N25, Kb25, 1, P25, by omega, Or.inr ⟨by omega, fun q => hz0 ((lw_eq _ _).mpr q)⟩, fun j hj => absurd hj (by omega)⟩), ⟨_, rfl⟩, hW, hsame.mono (Nat.le_refl _) (Nat.le_refl _)⟩
/-! G. what the levels say -/
def own_SEM (S : List Nat) (K : Nat) (N : Nat → Nat) (f : Nat → Nat → Int64) : Prop := (∀ p, p ∈ S → p < 64 * N 0) ∧ ∀ l, l < K → ∀ i, i < N l → ∀ k, k < 64 → (own_tb (f l i) k = true ↔ ∃ p, p ∈ S ∧ own_dv p l = 64 * i + k)
/-- the first at or behind q, or none -/
def own_IsN (S : List Nat) (q : Nat) (r : Int32) : Prop := (r = -1 ∧ ∀ p, p ∈ S → ¬ q ≤ p) ∨ ∃ p, p ∈ S ∧ q ≤ p ∧ (∀ p', p' ∈ S → q ≤ p' → p ≤ p') ∧ r = Int32.ofNat p
def own_HI (S : List Nat) (q L I : Nat) : Prop := ∀ p, p ∈ S → (q ≤ p ↔ I ≤ own_dv p L)
def own_HD (S : List Nat) (q L J : Nat) : Prop := (∃ p, p ∈ S ∧ own_dv p L = J) ∧ (∀ p, p ∈ S → q ≤ p → J ≤ own_dv p L) ∧ ∀ p, p ∈ S → own_dv p L = J → q ≤ p
section
variable {S : List Nat} {K : Nat} {N : Nat → Nat} {M : Nat} {f : Nat → Nat → Int64} {q L I J k : Nat}
theorem own_dvlt (SH : own_SH K N M) (E : own_SEM S K N f) (hL : L < K) {p : Nat} (hp : p ∈ S) : own_dv p (L + 1) < N L := by
 rw [SH.2.2.2.1 L hL]; exact own_idx (E.1 p hp) L
theorem own_HI_top (SH : own_SH K N M) (E : own_SEM S K N f) (H : own_HI S q K I) (hI : 1 ≤ I) : own_IsN S q (-1) := by
 refine Or.inl ⟨rfl, fun p hp h => ?_⟩
 have h1 := (H p hp).mp h
 have h2 := own_dvlt SH E (L := K - 1) (by have := SH.1; omega) hp
 rw [SH.2.2.2.1 (K - 1) (by have := SH.1; omega), SH.2.2.2.2.2.2, show K - 1 + 1 = K by have := SH.1; omega] at h2
 omega
theorem own_HI_far (SH : own_SH K N M) (E : own_SEM S K N f) (H : own_HI S q L I) (hL : L < K) (h : ¬ I / 64 < N L) : own_IsN S q (-1) := by
 refine Or.inl ⟨rfl, fun p hp h' => ?_⟩
 have h1 := (H p hp).mp h'
 have h2 : own_dv p L / 64 < N L := own_dvlt SH E hL hp
 omega
theorem own_bitof (E : own_SEM S K N f) (hL : L < K) (hi : I / 64 < N L) {j : Nat} (hj : j < 64) (hlo : I % 64 ≤ j) : own_tb (f L (I / 64) &&& own_msk (I % 64)) j = true ↔ ∃ p, p ∈ S ∧ own_dv p L = 64 * (I / 64) + j := by
 rw [own_tb_and, own_tb_msk (by omega) hj, decide_eq_true hlo, Bool.and_true]; exact E.2 L hL _ hi j hj
theorem own_HI_up (E : own_SEM S K N f) (H : own_HI S q L I) (hL : L < K) (hi : I / 64 < N L) (h0 : f L (I / 64) &&& own_msk (I % 64) = 0) : own_HI S q (L + 1) (I / 64 + 1) := by
 intro p hp
 rw [H p hp]
 show I ≤ own_dv p L ↔ I / 64 + 1 ≤ own_dv p L / 64
 constructor
 ·intro h
  apply Classical.byContradiction
  intro c
  have hw : own_dv p L / 64 = I / 64 := by omega
  have t := (own_bitof E hL hi (j := own_dv p L % 64) (by omega) (by omega)).mpr ⟨p, hp, by omega⟩
  rw [h0, own_tb_zero] at t; cases t
 ·intro h; omega
theorem own_HI_hit (E : own_SEM S K N f) (H : own_HI S q L I) (hL : L < K) (hi : I / 64 < N L) (hk : k < 64) (h1 : own_tb (f L (I / 64) &&& own_msk (I % 64)) k = true) (h2 : ∀ j, j < k → own_tb (f L (I / 64) &&& own_msk (I % 64)) j = false) : own_HD S q L (64 * (I / 64) + k) := by
 have hlo : I % 64 ≤ k := by
  rw [own_tb_and, own_tb_msk (by omega) hk] at h1
  exact of_decide_eq_true (Bool.and_eq_true_iff.mp h1).2
 obtain ⟨p0, hp0, e0⟩ := (own_bitof E hL hi hk hlo).mp h1
 refine ⟨⟨p0, hp0, e0⟩, fun p hp h => ?_, fun p hp e => (H p hp).mpr (by omega)⟩
 have h3 := (H p hp).mp h
 apply Classical.byContradiction
 intro c
 have t := (own_bitof E hL hi (j := own_dv p L % 64) (by omega) (by omega)).mpr ⟨p, hp, by omega⟩
 rw [h2 _ (by omega)] at t; cases t
theorem own_HD_ne (E : own_SEM S K N f) (H : own_HD S q (L + 1) J) (hL : L < K) (hJ : J < N L) : ¬ f L J = 0 := by
 intro e
 obtain ⟨⟨p, hp, hd⟩, -, -⟩ := H
 have hd' : own_dv p L / 64 = J := hd
 have t := (E.2 L hL J hJ (own_dv p L % 64) (by omega)).mpr ⟨p, hp, by omega⟩
 rw [e, own_tb_zero] at t; cases t
theorem own_HD_lt (SH : own_SH K N M) (E : own_SEM S K N f) (H : own_HD S q (L + 1) J) (hL : L < K) : J < N L := by
 obtain ⟨⟨p, hp, hd⟩, -, -⟩ := H
 rw [← hd]; exact own_dvlt SH E hL hp
theorem own_HD_down (E : own_SEM S K N f) (H : own_HD S q (L + 1) J) (hL : L < K) (hJ : J < N L) (hk : k < 64) (h1 : own_tb (f L J) k = true) (h2 : ∀ j, j < k → own_tb (f L J) j = false) : own_HD S q L (64 * J + k) := by
 obtain ⟨-, b, c⟩ := H
 obtain ⟨p0, hp0, e0⟩ := (E.2 L hL J hJ k hk).mp h1
 refine ⟨⟨p0, hp0, e0⟩, fun p hp h => ?_, fun p hp e => c p hp (by show own_dv p L / 64 = J; omega)⟩
 have h3 : J ≤ own_dv p L / 64 := b p hp h
 apply Classical.byContradiction
 intro d
 have t := (E.2 L hL J hJ (own_dv p L % 64) (by omega)).mpr ⟨p, hp, by omega⟩
 rw [h2 _ (by omega)] at t; cases t
theorem own_HD_zero (H : own_HD S q 0 J) : own_IsN S q (Int32.ofNat J) := by
 obtain ⟨⟨p, hp, rfl⟩, b, c⟩ := H
 exact Or.inr ⟨p, hp, c p hp rfl, fun p' hp' h => b p' hp' h, rfl⟩
theorem own_HI_first (S : List Nat) (q : Nat) : own_HI S q 0 q := fun p _ => Iff.rfl
end
theorem own_neg64 {n : Nat} (hn : n < 2 ^ 31) : (Int32.ofNat n &&& (-64)) = Int32.ofNat (64 * (n / 64)) := by
 have h : ∀ x : Int32, x = (x &&& (-64)) + (x &&& 63) := fun x => by
  apply Int32.toBitVec_inj.mp
  have e : (-64 : Int32).toBitVec = ~~~(63 : Int32).toBitVec := by decide
  rw [Int32.toBitVec_add, Int32.toBitVec_and, Int32.toBitVec_and, e]
  have z : (x.toBitVec &&& ~~~(63 : Int32).toBitVec) &&& (x.toBitVec &&& (63 : Int32).toBitVec) = 0#32 := by
   refine BitVec.eq_of_getLsbD_eq fun i hi => ?_
   rw [BitVec.getLsbD_zero]
   simp only [BitVec.getLsbD_and, BitVec.getLsbD_not, hi, decide_true, Bool.true_and]
   cases x.toBitVec.getLsbD i <;> cases ((63 : Int32).toBitVec.getLsbD i) <;> rfl
  rw [BitVec.add_eq_or_of_and_eq_zero _ _ z]
  refine BitVec.eq_of_getLsbD_eq fun i hi => ?_
  simp only [BitVec.getLsbD_or, BitVec.getLsbD_and, BitVec.getLsbD_not, hi, decide_true, Bool.true_and]
  cases x.toBitVec.getLsbD i <;> cases ((63 : Int32).toBitVec.getLsbD i) <;> rfl
 have q := h (Int32.ofNat n)
 rw [own_and63 hn] at q
 have t : Int32.ofNat n = Int32.ofNat (64 * (n / 64)) + Int32.ofNat (n % 64) := by rw [own_iadd]; congr 1; omega
 exact (Int32.add_left_inj _).mp (q.symm.trans t)
theorem own_shl6 {n : Nat} (hn : n < 2 ^ 24) : (Int32.ofNat n <<< ((6 : Int32) &&& 31)) = Int32.ofNat (64 * n) := by
 apply Int32.toInt_inj.mp
 rw [Jvm.Kit.i32_shl _ _ (k := 6) (by decide) (by rw [own_toInt (by omega)]; omega) (by rw [own_toInt (by omega)]; omega), own_toInt (by omega), own_toInt (by omega)]; omega
theorem own_nt_of {x : Int64} {k : Nat} (hk : k < 64) (h1 : own_tb x k = true) (h2 : ∀ j, j < k → own_tb x j = false) {n : Nat} : Int32.ofNat (64 * n) + own_nt64 x = Int32.ofNat (64 * n + k) := by rw [own_nt64_eq hk h1 h2, own_iadd]
theorem own_lc0 {x : Int64} (h : x = 0) : lcmpW x 0 = 0 := (lw_eq _ _).mpr h
theorem own_lc1 {x : Int64} (h : ¬ x = 0) : ¬ lcmpW x 0 = 0 := fun q => h ((lw_eq _ _).mp q)

theorem own_selq {s : State} {args : Array Value} {C : String} {y' y : MethodName} (hsel : (Jvm.Cond.selects C y' y').before args s = true) (hinst' : (Jvm.Cond.instanceMethod y').before args s = true) (hinst : (Jvm.Cond.instanceMethod y).before args s = true) (hpriv : s.PrivateAt y) (hc : y'.cls = y.cls) (hy : y.cls ≠ "java/lang/invoke/MethodHandle" ∧ y.cls ≠ "java/lang/invoke/VarHandle") : (Jvm.Cond.selects y.cls y y).before args s = true := by
 obtain ⟨mk, methM, hnamed, hmethM, -, -⟩ := Cond.instanceMethod_spec hinst'
 obtain ⟨kP, hkP, hkPi⟩ := notFace_of_selects hsel mk hnamed
 exact selects_self_of_private (by rw [← hc]; exact findClass_of_methodNamed hnamed) hkP hkPi hpriv hinst hy
theorem own_shl6' {n : Nat} (hn : n < 2 ^ 24) : (Int32.ofNat n <<< ((6 : Int32) &&& 31)) = Int32.ofNat (64 * n) := own_shl6 hn
theorem own_din0 : decode prog_209_method_1_code 0 = .ok (.aload_n 0, 1) := by decide +kernel
theorem own_din1 : decode prog_209_method_1_code 1 = .ok (.invokespecial 3, 3) := by decide +kernel
theorem own_din4 : decode prog_209_method_1_code 4 = .ok (.aload_n 0, 1) := by decide +kernel
theorem own_din5 : decode prog_209_method_1_code 5 = .ok (.iconst 1, 1) := by decide +kernel
theorem own_din6 : decode prog_209_method_1_code 6 = .ok (.anewarray 9, 3) := by decide +kernel
theorem own_din9 : decode prog_209_method_1_code 9 = .ok (.dup, 1) := by decide +kernel
theorem own_din10 : decode prog_209_method_1_code 10 = .ok (.iconst 0, 1) := by decide +kernel
theorem own_din11 : decode prog_209_method_1_code 11 = .ok (.iconst 1, 1) := by decide +kernel
theorem own_din12 : decode prog_209_method_1_code 12 = .ok (.newarray .long, 2) := by decide +kernel
theorem own_din14 : decode prog_209_method_1_code 14 = .ok (.aastore, 1) := by decide +kernel
theorem own_din15 : decode prog_209_method_1_code 15 = .ok (.putfield 11, 3) := by decide +kernel
theorem own_din18 : decode prog_209_method_1_code 18 = .ok (.aload_n 0, 1) := by decide +kernel
theorem own_din19 : decode prog_209_method_1_code 19 = .ok (.iconst 1, 1) := by decide +kernel
theorem own_din20 : decode prog_209_method_1_code 20 = .ok (.newarray .int, 2) := by decide +kernel
theorem own_din22 : decode prog_209_method_1_code 22 = .ok (.putfield 15, 3) := by decide +kernel
theorem own_din25 : decode prog_209_method_1_code 25 = .ok (.return_, 1) := by decide +kernel
theorem own_ini_pn : plainName "com/example/coersa/coersa/PlaceSet" = true := by first | (simp [plainName, overriddenIn]; done) | decide +kernel
theorem own_ini_ef (m : MethodId) (ps : Addr) : entryFrame m #[(.ref ps)] 1 = mkF m 0 #[.val (.ref ps)] [] := by first | (simp [entryFrame, mkF, argsToLocals, Value.category]; done) | rfl
def own_ini_Q (Z : State) (ps : Addr) (xl xb : Value) (h0 : Heap) (n0 : Nat) (v : Option Value) (h : Heap) (L : List Loc) : Prop := v = none ∧ Fr n0 L ∧ own_Kb n0 h0 h ∧ ∃ (lv bc : Addr) (ls : Nat → Addr), own_PS Z n0 h ps lv bc 1 ls (fun _ => 1) (fun _ _ => 0) 1 (fun _ => 0)
set_option maxRecDepth 65536 in
set_option maxHeartbeats 40000000 in
theorem own_ini (l : Launch) (Z : State) (a0 : Array Value) (hw : ∀ d ∈ tables_1, d.before a0 Z = true) (ws : List Jvm.Cond) (ps : Addr) (xl xb : Value) (h0 : Heap) (n0 : Nat) (Z0 : n0 ≤ h0.size) (hps : n0 ≤ ps) (Es : Exa Z h0 ps "com/example/coersa/coersa/PlaceSet") (Fl : Fld Z h0 ps "com/example/coersa/coersa/PlaceSet" "levels" "[[J" xl) (Fb : Fld Z h0 ps "com/example/coersa/coersa/PlaceSet" "blockCounts" "[I" xb) :
  MetFree l (⟨"com/example/coersa/coersa/PlaceSet", "<init>", "()V"⟩ : MethodName) (head1 (Jvm.Cond.code (⟨"com/example/coersa/coersa/PlaceSet", "<init>", "()V"⟩ : MethodName) prog_209_method_1_code 1 none :: ws) ({ frames := 1, cells := 3, slots := 3, locals := 12 } : Room)) (fun ars U => ars = #[(.ref ps)] ∧ Z.Warmed39 U.vm ∧ U.heap = h0) (fun _ _ _ _ _ => True) (fun _ U o U' => ∃ v L, o = .returned v ∧ own_ini_Q Z ps xl xb h0 n0 v U'.heap L ∧ FrameEnd U o U' L ({ frames := 1, cells := 3, slots := 3, locals := 12 } : Room).cells ({ frames := 1, cells := 3, slots := 3, locals := 12 } : Room).slots) := by
 refine MetFree.of_bodySF (plainFor_of_name own_ini_pn) hisR ?_
 intro p e s m args below meth c s₁ Bd hml0 hP hK
 obtain ⟨rfl, hZ, hh⟩ := hP
 have hx := Bd.exec
 have hby := Bd.bytes
 have hml : c.maxLocals = 1 := hml0
 have hown : s.vm.findClass "com/example/coersa/coersa/PlaceSet" = some m.cls := findClass_of_methodNamed Bd.named
 have hnm := (name_of_methodNamed Bd.named Bd.method).1
 have X0 : Stand p l e ({ frames := 1, cells := 3, slots := 3, locals := 12 } : Room) s m #[(.ref ps)] below meth c s₁ [] 0 0 := Stand.of_body Bd
 have e0 : s₁.heap = h0 := by rw [← hh, Bd.state]; rfl
 have N0 := Fr.nil n0
 generalize hS0 : s₁.setTop (entryFrame m #[(.ref ps)] 1) = S0
 have c0 : Steps p.tables e below S0 (s₁.setTop (mkF m 0 #[.val (.ref ps)] [])) := by rw [← hS0]; exact castTop (own_ini_ef m ps) (Steps.refl _)
 have K0 : Keep h0 h0 [ps] := Keep.refl _ _
 obtain ⟨T2, X2, e2, st2⟩ := initO X0 hx hZ hown (hw _ (own_m 13 rfl)) (hw _ (own_m 14 rfl)) (hw _ (own_m 15 rfl)) e0 (g := (mkF m 1 #[.val (.ref ps)] [(.ref ps)])) rfl (by rw [hml]; rfl) rfl (hb hby own_din1) (by decide) (W := 0) (by show 2 * 0 + _ ≤ _; exact Nat.le_of_eq rfl) (by decide)
 obtain ⟨T5, h5, k5, X5, e5, E5, A5, B5, O5, st5⟩ := newRA X2 hx hZ hown (by decide) (hw _ (own_m 16 rfl)) (hw _ (own_m 17 rfl)) e2 (g := (mkF m 6 #[.val (.ref ps)] [(.int (1 : Int32)), (.ref ps)])) rfl (hb hby own_din6) rfl (by decide) (cap := 1) (by decide) (by decide) (by decide) (by decide) (ad := "[[J") (by decide)
 obtain ⟨lv, g5⟩ : ∃ z, z = h0.size := ⟨_, rfl⟩
 have ne_ps_lv : ps ≠ lv := Nat.ne_of_lt (Nat.lt_of_lt_of_le Es.lt (Nat.le_of_eq g5.symm))
 have sz_lv : h0.size ≤ lv := Nat.le_trans K0.1 (Nat.le_of_eq g5.symm)
 have g_lv : n0 ≤ lv := Nat.le_trans Z0 sz_lv
 rw [← g5] at A5 B5 st5
 have c6 : Steps p.tables e below S0 (T5.setTop (mkF m 9 #[.val (.ref ps)] [(.ref lv), (.ref ps)])) := c0.trans (by
  refine XS.aloadN X0.here hx rfl (hb hby own_din0) rfl rfl ?_
  show Steps _ _ _ (.setTop _ (mkF _ 1 _ _)) _
  refine st2 _ ?_
  show Steps _ _ _ (.setTop _ (mkF _ 4 _ _)) _
  refine XS.aloadN X2.here hx rfl (hb hby own_din4) rfl rfl ?_
  show Steps _ _ _ (.setTop _ (mkF _ 5 _ _)) _
  refine XS.iconst X2.here hx rfl (hb hby own_din5) ?_
  show Steps _ _ _ (.setTop _ (mkF _ 6 _ _)) _
  refine st5 _ ?_
  exact Steps.refl _)
 have f5_Exs := Es.ext E5
 have f5_Flv := Fl.ext E5
 have f5_Fbc := Fb.ext E5
 have K5 := K0.ext E5
 have R_lv : own_RA Z .long "[J" h5 lv 1 (fun _ => .null) := ⟨_, A5, O5, by rw [sz_new]; rfl, fun i hi => by show (Array.replicate 1 Value.null)[i]? = _; simp [hi]⟩
 obtain ⟨T8, h8, k8, X8, e8, E8, A8, B8, st8⟩ := newPE X5 hx hZ (hw _ (own_m 18 rfl)) e5 (g := (mkF m 12 #[.val (.ref ps)] [(.int (1 : Int32)), (.int (0 : Int32)), (.ref lv), (.ref lv), (.ref ps)])) rfl (hb hby own_din12) rfl (by decide) (cap := 1) (by decide) (by decide) (by decide) (by decide) (ad := "[J") (by decide)
 obtain ⟨l0, g8⟩ : ∃ z, z = h5.size := ⟨_, rfl⟩
 have ne_ps_l0 : ps ≠ l0 := Nat.ne_of_lt (Nat.lt_of_lt_of_le f5_Exs.lt (Nat.le_of_eq g8.symm))
 have ne_lv_l0 : lv ≠ l0 := Nat.ne_of_lt (Nat.lt_of_lt_of_le R_lv.lt (Nat.le_of_eq g8.symm))
 have sz_l0 : h0.size ≤ l0 := Nat.le_trans K5.1 (Nat.le_of_eq g8.symm)
 have g_l0 : n0 ≤ l0 := Nat.le_trans Z0 sz_l0
 rw [← g8] at A8 B8 st8
 have c9 : Steps p.tables e below S0 (T8.setTop (mkF m 14 #[.val (.ref ps)] [(.ref l0), (.int (0 : Int32)), (.ref lv), (.ref lv), (.ref ps)])) := c6.trans (by
  refine XS.dup X5.here hx rfl (hb hby own_din9) rfl rfl ?_
  show Steps _ _ _ (.setTop _ (mkF _ 10 _ _)) _
  refine XS.iconst X5.here hx rfl (hb hby own_din10) ?_
  show Steps _ _ _ (.setTop _ (mkF _ 11 _ _)) _
  refine XS.iconst X5.here hx rfl (hb hby own_din11) ?_
  show Steps _ _ _ (.setTop _ (mkF _ 12 _ _)) _
  refine st8 _ ?_
  exact Steps.refl _)
 have f8_Exs := f5_Exs.ext E8
 have f8_Flv := f5_Flv.ext E8
 have f8_Fbc := f5_Fbc.ext E8
 have f8_R_lv := R_lv.ext E8
 have K8 := K5.ext E8
 have P_l0 : own_LA Z h8 l0 1 (fun _ => 0) := ⟨_, A8, B8, by rw [sz_new]; rfl, fun i hi => by show (Array.replicate 1 (Value.long 0))[i]? = _; simp [hi]⟩
 have q1 := f8_R_lv
 obtain ⟨cr, Ar, Or_, Sr, Hr⟩ := q1
 have q2 := P_l0
 obtain ⟨cd, Ad, Ed, Sd, Hd⟩ := q2
 obtain ⟨T10, h10, X10, e10, W10, st10⟩ := stR X8 hx hZ e8 Ar (j := (0 : Int32)) (own_inb (j := 0) Sr (by decide) (by decide)) rfl (Sto.ofVA Ar rfl Or_ (Ins.self Ed)) (g := (mkF m 14 #[.val (.ref ps)] [(.ref l0), (.int (0 : Int32)), (.ref lv), (.ref lv), (.ref ps)])) rfl rfl (hb hby own_din14)
 have c11 : Steps p.tables e below S0 (T10.setTop (mkF m 15 #[.val (.ref ps)] [(.ref lv), (.ref ps)])) := c9.trans (by
  refine st10 _ ?_
  exact Steps.refl _)
 have f10_Exs := f8_Exs.wr W10
 have f10_Flv := f8_Flv.other W10 (Or.inl ne_ps_lv)
 have f10_Fbc := f8_Fbc.other W10 (Or.inl ne_ps_lv)
 have f10_P_l0 := P_l0.other W10 (Ne.symm ne_lv_l0)
 have K10 := K8.wr W10 (Or.inr sz_lv)
 have N10 := Fr.snoc X10 N0 g_lv
 have R2 : own_RA Z .long "[J" h10 lv 1 (fun _ => .ref l0) := f8_R_lv.set (j := 0) W10 (by decide) (fun i hi => by rw [if_pos (show i = 0 by omega)])
 obtain ⟨T12, h12, X12, e12, W12, st12⟩ := putF X10 hx hZ hown (host := "") (Or.inl (hw _ (own_m 20 rfl))) Via.refl e10 f10_Flv f10_Exs (Or.inl (hw _ (own_m 21 rfl))) (hw _ (own_m 8 rfl)) (ty := (.array (.array .long))) (by decide) rfl rfl (g := (mkF m 15 #[.val (.ref ps)] [(.ref lv), (.ref ps)])) rfl rfl (hb hby own_din15)
 have f12_Exs := f10_Exs.wr W12
 have f12_Fbc := f10_Fbc.other W12 (Or.inr (slot_ne (Or.inl (hw _ (own_m 23 rfl))) (Or.inl (hw _ (own_m 21 rfl))) (by decide) (t := (.array .int)) (t' := (.array (.array .long))) (by decide) (by decide)))
 have f12_R_lv := R2.other W12 (Ne.symm ne_ps_lv)
 have f12_P_l0 := f10_P_l0.other W12 (Ne.symm ne_ps_l0)
 have K12 := K10.wr W12 (Or.inl (List.mem_of_getElem? (i := 0) rfl))
 have N12 := Fr.snoc X12 N10 hps
 have f12_Flv := f10_Flv.same W12
 obtain ⟨T15, h15, k15, X15, e15, E15, A15, B15, st15⟩ := newPE X12 hx hZ (hw _ (own_m 2 rfl)) e12 (g := (mkF m 20 #[.val (.ref ps)] [(.int (1 : Int32)), (.ref ps)])) rfl (hb hby own_din20) rfl (by decide) (cap := 1) (by decide) (by decide) (by decide) (by decide) (ad := "[I") (by decide)
 obtain ⟨bc, g15⟩ : ∃ z, z = h12.size := ⟨_, rfl⟩
 have ne_ps_bc : ps ≠ bc := Nat.ne_of_lt (Nat.lt_of_lt_of_le f12_Exs.lt (Nat.le_of_eq g15.symm))
 have ne_lv_bc : lv ≠ bc := Nat.ne_of_lt (Nat.lt_of_lt_of_le f12_R_lv.lt (Nat.le_of_eq g15.symm))
 have ne_l0_bc : l0 ≠ bc := Nat.ne_of_lt (Nat.lt_of_lt_of_le f12_P_l0.lt (Nat.le_of_eq g15.symm))
 have sz_bc : h0.size ≤ bc := Nat.le_trans K12.1 (Nat.le_of_eq g15.symm)
 have g_bc : n0 ≤ bc := Nat.le_trans Z0 sz_bc
 rw [← g15] at A15 B15 st15
 have c16 : Steps p.tables e below S0 (T15.setTop (mkF m 22 #[.val (.ref ps)] [(.ref bc), (.ref ps)])) := c11.trans (by
  refine st12 _ ?_
  show Steps _ _ _ (.setTop _ (mkF _ 18 _ _)) _
  refine XS.aloadN X12.here hx rfl (hb hby own_din18) rfl rfl ?_
  show Steps _ _ _ (.setTop _ (mkF _ 19 _ _)) _
  refine XS.iconst X12.here hx rfl (hb hby own_din19) ?_
  show Steps _ _ _ (.setTop _ (mkF _ 20 _ _)) _
  refine st15 _ ?_
  exact Steps.refl _)
 have f15_Exs := f12_Exs.ext E15
 have f15_Flv := f12_Flv.ext E15
 have f15_Fbc := f12_Fbc.ext E15
 have f15_R_lv := f12_R_lv.ext E15
 have f15_P_l0 := f12_P_l0.ext E15
 have K15 := K12.ext E15
 have P_bc : own_IA Z h15 bc 1 (fun _ => 0) := ⟨_, A15, B15, by rw [sz_new]; rfl, fun i hi => by show (Array.replicate 1 (Value.int 0))[i]? = _; simp [hi]⟩
 obtain ⟨T17, h17, X17, e17, W17, st17⟩ := putF X15 hx hZ hown (host := "") (Or.inl (hw _ (own_m 22 rfl))) Via.refl e15 f15_Fbc f15_Exs (Or.inl (hw _ (own_m 23 rfl))) (hw _ (own_m 8 rfl)) (ty := (.array .int)) (by decide) rfl rfl (g := (mkF m 22 #[.val (.ref ps)] [(.ref bc), (.ref ps)])) rfl rfl (hb hby own_din22)
 have c18 : Steps p.tables e below S0 (T17.setTop (mkF m 25 #[.val (.ref ps)] [])) := c16.trans (by
  refine st17 _ ?_
  exact Steps.refl _)
 have f17_Exs := f15_Exs.wr W17
 have f17_Flv := f15_Flv.other W17 (Or.inr (slot_ne (Or.inl (hw _ (own_m 21 rfl))) (Or.inl (hw _ (own_m 23 rfl))) (by decide) (t := (.array (.array .long))) (t' := (.array .int)) (by decide) (by decide)))
 have f17_R_lv := f15_R_lv.other W17 (Ne.symm ne_ps_lv)
 have f17_P_l0 := f15_P_l0.other W17 (Ne.symm ne_ps_l0)
 have f17_P_bc := P_bc.other W17 (Ne.symm ne_ps_bc)
 have K17 := K15.wr W17 (Or.inl (List.mem_of_getElem? (i := 0) rfl))
 have N17 := Fr.snoc X17 N12 hps
 have f17_Fbc := f15_Fbc.same W17
 have KB : own_Kb n0 h0 h17 := ⟨K17.1, fun x cx hx_ r => K17.2.1 x cx r (fun q => by cases q with | head => exact absurd hx_ (Nat.not_lt_of_le hps) | tail _ q => cases q)⟩
 obtain ⟨fs, hr, hrun, hended, hW, hsame⟩ := X17.leave (v := none) (fun _ => rfl)
 exact ⟨_, _, c18.trans (X17.returnOut hx Bd.returns (hb hby own_din25) hr), hrun, hended, _, _, rfl, (by rw [show (T17.setFrames fs).heap = h17 from e17]; exact ⟨rfl, N17, KB, lv, bc, fun _ => l0, f17_Exs, f17_Flv, f17_Fbc, f17_R_lv, fun _ _ => f17_P_l0, f17_P_bc, fun i j h1 h2 => absurd h1 (by omega), hps, g_bc, fun _ _ => g_l0⟩), ⟨_, rfl⟩, hW, hsame.mono (by decide) (by decide)⟩
theorem own_dna0 : decode prog_209_method_9_code 0 = .ok (.iconst 1, 1) := by decide +kernel
theorem own_dna1 : decode prog_209_method_9_code 1 = .ok (.istore_n 2, 1) := by decide +kernel
theorem own_dna2 : decode prog_209_method_9_code 2 = .ok (.iload_n 1, 1) := by decide +kernel
theorem own_dna3 : decode prog_209_method_9_code 3 = .ok (.iconst 1, 1) := by decide +kernel
theorem own_dna4 : decode prog_209_method_9_code 4 = .ok (.iadd, 1) := by decide +kernel
theorem own_dna5 : decode prog_209_method_9_code 5 = .ok (.istore_n 3, 1) := by decide +kernel
theorem own_dna6 : decode prog_209_method_9_code 6 = .ok (.lconst 0, 1) := by decide +kernel
theorem own_dna7 : decode prog_209_method_9_code 7 = .ok (.lstore 4, 2) := by decide +kernel
theorem own_dna9 : decode prog_209_method_9_code 9 = .ok (.lload 4, 2) := by decide +kernel
theorem own_dna11 : decode prog_209_method_9_code 11 = .ok (.lconst 0, 1) := by decide +kernel
theorem own_dna12 : decode prog_209_method_9_code 12 = .ok (.lcmp, 1) := by decide +kernel
theorem own_dna13 : decode prog_209_method_9_code 13 = .ok (.ifCond .ne 70, 3) := by decide +kernel
theorem own_dna16 : decode prog_209_method_9_code 16 = .ok (.iload_n 2, 1) := by decide +kernel
theorem own_dna17 : decode prog_209_method_9_code 17 = .ok (.aload_n 0, 1) := by decide +kernel
theorem own_dna18 : decode prog_209_method_9_code 18 = .ok (.getfield 11, 3) := by decide +kernel
theorem own_dna21 : decode prog_209_method_9_code 21 = .ok (.arraylength, 1) := by decide +kernel
theorem own_dna22 : decode prog_209_method_9_code 22 = .ok (.if_icmp .eq 17, 3) := by decide +kernel
theorem own_dna25 : decode prog_209_method_9_code 25 = .ok (.iload_n 3, 1) := by decide +kernel
theorem own_dna26 : decode prog_209_method_9_code 26 = .ok (.bipush 6, 2) := by decide +kernel
theorem own_dna28 : decode prog_209_method_9_code 28 = .ok (.iushr, 1) := by decide +kernel
theorem own_dna29 : decode prog_209_method_9_code 29 = .ok (.aload_n 0, 1) := by decide +kernel
theorem own_dna30 : decode prog_209_method_9_code 30 = .ok (.getfield 11, 3) := by decide +kernel
theorem own_dna33 : decode prog_209_method_9_code 33 = .ok (.iload_n 2, 1) := by decide +kernel
theorem own_dna34 : decode prog_209_method_9_code 34 = .ok (.aaload, 1) := by decide +kernel
theorem own_dna35 : decode prog_209_method_9_code 35 = .ok (.arraylength, 1) := by decide +kernel
theorem own_dna36 : decode prog_209_method_9_code 36 = .ok (.if_icmp .lt 5, 3) := by decide +kernel
theorem own_dna39 : decode prog_209_method_9_code 39 = .ok (.iconst (-1), 1) := by decide +kernel
theorem own_dna40 : decode prog_209_method_9_code 40 = .ok (.ireturn, 1) := by decide +kernel
theorem own_dna41 : decode prog_209_method_9_code 41 = .ok (.aload_n 0, 1) := by decide +kernel
theorem own_dna42 : decode prog_209_method_9_code 42 = .ok (.getfield 11, 3) := by decide +kernel
theorem own_dna45 : decode prog_209_method_9_code 45 = .ok (.iload_n 2, 1) := by decide +kernel
theorem own_dna46 : decode prog_209_method_9_code 46 = .ok (.aaload, 1) := by decide +kernel
theorem own_dna47 : decode prog_209_method_9_code 47 = .ok (.iload_n 3, 1) := by decide +kernel
theorem own_dna48 : decode prog_209_method_9_code 48 = .ok (.bipush 6, 2) := by decide +kernel
theorem own_dna50 : decode prog_209_method_9_code 50 = .ok (.iushr, 1) := by decide +kernel
theorem own_dna51 : decode prog_209_method_9_code 51 = .ok (.laload, 1) := by decide +kernel
theorem own_dna52 : decode prog_209_method_9_code 52 = .ok (.ldc2_w 50, 3) := by decide +kernel
theorem own_dna55 : decode prog_209_method_9_code 55 = .ok (.iload_n 3, 1) := by decide +kernel
theorem own_dna56 : decode prog_209_method_9_code 56 = .ok (.bipush 63, 2) := by decide +kernel
theorem own_dna58 : decode prog_209_method_9_code 58 = .ok (.iand, 1) := by decide +kernel
theorem own_dna59 : decode prog_209_method_9_code 59 = .ok (.lshl, 1) := by decide +kernel
theorem own_dna60 : decode prog_209_method_9_code 60 = .ok (.land, 1) := by decide +kernel
theorem own_dna61 : decode prog_209_method_9_code 61 = .ok (.lstore 4, 2) := by decide +kernel
theorem own_dna63 : decode prog_209_method_9_code 63 = .ok (.lload 4, 2) := by decide +kernel
theorem own_dna65 : decode prog_209_method_9_code 65 = .ok (.lconst 0, 1) := by decide +kernel
theorem own_dna66 : decode prog_209_method_9_code 66 = .ok (.lcmp, 1) := by decide +kernel
theorem own_dna67 : decode prog_209_method_9_code 67 = .ok (.ifCond .ne (-58), 3) := by decide +kernel
theorem own_dna70 : decode prog_209_method_9_code 70 = .ok (.iload_n 3, 1) := by decide +kernel
theorem own_dna71 : decode prog_209_method_9_code 71 = .ok (.bipush 6, 2) := by decide +kernel
theorem own_dna73 : decode prog_209_method_9_code 73 = .ok (.iushr, 1) := by decide +kernel
theorem own_dna74 : decode prog_209_method_9_code 74 = .ok (.iconst 1, 1) := by decide +kernel
theorem own_dna75 : decode prog_209_method_9_code 75 = .ok (.iadd, 1) := by decide +kernel
theorem own_dna76 : decode prog_209_method_9_code 76 = .ok (.istore_n 3, 1) := by decide +kernel
theorem own_dna77 : decode prog_209_method_9_code 77 = .ok (.iinc 2 1, 3) := by decide +kernel
theorem own_dna80 : decode prog_209_method_9_code 80 = .ok (.goto (-71), 3) := by decide +kernel
theorem own_dna83 : decode prog_209_method_9_code 83 = .ok (.iload_n 3, 1) := by decide +kernel
theorem own_dna84 : decode prog_209_method_9_code 84 = .ok (.bipush (-64), 2) := by decide +kernel
theorem own_dna86 : decode prog_209_method_9_code 86 = .ok (.iand, 1) := by decide +kernel
theorem own_dna87 : decode prog_209_method_9_code 87 = .ok (.lload 4, 2) := by decide +kernel
theorem own_dna89 : decode prog_209_method_9_code 89 = .ok (.invokestatic 68, 3) := by decide +kernel
theorem own_dna92 : decode prog_209_method_9_code 92 = .ok (.iadd, 1) := by decide +kernel
theorem own_dna93 : decode prog_209_method_9_code 93 = .ok (.istore_n 3, 1) := by decide +kernel
theorem own_dna94 : decode prog_209_method_9_code 94 = .ok (.iload_n 2, 1) := by decide +kernel
theorem own_dna95 : decode prog_209_method_9_code 95 = .ok (.ifCond .le 26, 3) := by decide +kernel
theorem own_dna98 : decode prog_209_method_9_code 98 = .ok (.iinc 2 (-1), 3) := by decide +kernel
theorem own_dna101 : decode prog_209_method_9_code 101 = .ok (.iload_n 3, 1) := by decide +kernel
theorem own_dna102 : decode prog_209_method_9_code 102 = .ok (.bipush 6, 2) := by decide +kernel
theorem own_dna104 : decode prog_209_method_9_code 104 = .ok (.ishl, 1) := by decide +kernel
theorem own_dna105 : decode prog_209_method_9_code 105 = .ok (.aload_n 0, 1) := by decide +kernel
theorem own_dna106 : decode prog_209_method_9_code 106 = .ok (.getfield 11, 3) := by decide +kernel
theorem own_dna109 : decode prog_209_method_9_code 109 = .ok (.iload_n 2, 1) := by decide +kernel
theorem own_dna110 : decode prog_209_method_9_code 110 = .ok (.aaload, 1) := by decide +kernel
theorem own_dna111 : decode prog_209_method_9_code 111 = .ok (.iload_n 3, 1) := by decide +kernel
theorem own_dna112 : decode prog_209_method_9_code 112 = .ok (.laload, 1) := by decide +kernel
theorem own_dna113 : decode prog_209_method_9_code 113 = .ok (.invokestatic 68, 3) := by decide +kernel
theorem own_dna116 : decode prog_209_method_9_code 116 = .ok (.iadd, 1) := by decide +kernel
theorem own_dna117 : decode prog_209_method_9_code 117 = .ok (.istore_n 3, 1) := by decide +kernel
theorem own_dna118 : decode prog_209_method_9_code 118 = .ok (.goto (-24), 3) := by decide +kernel
theorem own_dna121 : decode prog_209_method_9_code 121 = .ok (.iload_n 3, 1) := by decide +kernel
theorem own_dna122 : decode prog_209_method_9_code 122 = .ok (.ireturn, 1) := by decide +kernel
theorem own_nab_pn : plainName "com/example/coersa/coersa/PlaceSet" = true := by first | (simp [plainName, overriddenIn]; done) | decide +kernel
theorem own_nab_ef (m : MethodId) (ps : Addr) (xw : Int32) : entryFrame m #[(.ref ps), (.int xw)] 6 = mkF m 0 #[.val (.ref ps), .val (.int xw), .unset, .unset, .unset, .unset] [] := by first | (simp [entryFrame, mkF, argsToLocals, Value.category]; done) | rfl
def own_nab_Q (Z : State) (ps : Addr) (xw : Int32) (S : List Nat) (q ww : Nat) (lv bc : Addr) (K : Nat) (ls : Nat → Addr) (N : Nat → Nat) (f : Nat → Nat → Int64) (M : Nat) (g : Nat → Int32) (h0 : Heap) (n0 : Nat) (v : Option Value) (h : Heap) (L : List Loc) : Prop := (∃ r : Int32, v = some (.int r) ∧ own_IsN S q r) ∧ Fr n0 L ∧ h = h0
set_option maxRecDepth 65536 in
set_option maxHeartbeats 40000000 in
theorem own_nab (l : Launch) (Z : State) (a0 : Array Value) (hw : ∀ d ∈ tables_1, d.before a0 Z = true) (ws : List Jvm.Cond) (ps : Addr) (xw : Int32) (S : List Nat) (q ww : Nat) (lv bc : Addr) (K : Nat) (ls : Nat → Addr) (N : Nat → Nat) (f : Nat → Nat → Int64) (M : Nat) (g : Nat → Int32) (h0 : Heap) (n0 : Nat) (Z0 : n0 ≤ h0.size) (hxw : xw = Int32.ofNat ww) (SH : own_SH K N M) (SE : own_SEM S K N f) (hww : ww < N 0) (HQ : own_HI S q 1 (ww + 1)) (P : own_PS Z n0 h0 ps lv bc K ls N f M g) :
  MetFree l (⟨"com/example/coersa/coersa/PlaceSet", "nextAbove", "(I)I"⟩ : MethodName) (head1 (Jvm.Cond.code (⟨"com/example/coersa/coersa/PlaceSet", "nextAbove", "(I)I"⟩ : MethodName) prog_209_method_9_code 6 (some .int) :: ws) ({ frames := 2, cells := 0, slots := 0, locals := 29 } : Room)) (fun ars U => ars = #[(.ref ps), (.int xw)] ∧ Z.Warmed39 U.vm ∧ U.heap = h0) (fun _ _ _ _ _ => True) (fun _ U o U' => ∃ v L, o = .returned v ∧ own_nab_Q Z ps xw S q ww lv bc K ls N f M g h0 n0 v U'.heap L ∧ FrameEnd U o U' L ({ frames := 2, cells := 0, slots := 0, locals := 29 } : Room).cells ({ frames := 2, cells := 0, slots := 0, locals := 29 } : Room).slots) := by
 refine MetFree.of_bodySF (plainFor_of_name own_nab_pn) hisR ?_
 intro p e s m args below meth c s₁ Bd hml0 hP hK
 obtain ⟨rfl, hZ, hh⟩ := hP
 have hx := Bd.exec
 have hby := Bd.bytes
 have hml : c.maxLocals = 6 := hml0
 have hown : s.vm.findClass "com/example/coersa/coersa/PlaceSet" = some m.cls := findClass_of_methodNamed Bd.named
 have hnm := (name_of_methodNamed Bd.named Bd.method).1
 have X0 : Stand p l e ({ frames := 2, cells := 0, slots := 0, locals := 29 } : Room) s m #[(.ref ps), (.int xw)] below meth c s₁ [] 0 0 := Stand.of_body Bd
 have e0 : s₁.heap = h0 := by rw [← hh, Bd.state]; rfl
 have N0 := Fr.nil n0
 generalize hS0 : s₁.setTop (entryFrame m #[(.ref ps), (.int xw)] 6) = S0
 have c0 : Steps p.tables e below S0 (s₁.setTop (mkF m 0 #[.val (.ref ps), .val (.int xw), .unset, .unset, .unset, .unset] [])) := by rw [← hS0]; exact castTop (own_nab_ef m ps xw) (Steps.refl _)
 have K0 : Keep h0 h0 [] := Keep.refl _ _
 subst hxw
 have SH2 := SH
 obtain ⟨t1, t2, t3, hNi, t5, hN8, t7⟩ := SH2
 have H1 := HQ
 obtain ⟨I1, hI1⟩ : ∃ z, z = ww + 1 := ⟨_, rfl⟩
 rw [← hI1] at H1
 have b1 : I1 ≤ 8192 := by omega
 have b1' : 1 ≤ I1 := by omega
 have c1 : Steps p.tables e below S0 (s₁.setTop (mkF m 6 #[.val (.ref ps), .val (.int (Int32.ofNat ww)), .val (.int (1 : Int32)), .val (.int ((Int32.ofNat ww) + (1 : Int32))), .unset, .unset] [])) := c0.trans (by
  refine XS.iconst X0.here hx rfl (hb hby own_dna0) ?_
  show Steps _ _ _ (.setTop _ (mkF _ 1 _ _)) _
  refine XS.istoreN X0.here hx rfl (hb hby own_dna1) rfl rfl ?_
  show Steps _ _ _ (.setTop _ (mkF _ 2 _ _)) _
  refine XS.iloadN X0.here hx rfl (hb hby own_dna2) rfl ?_
  show Steps _ _ _ (.setTop _ (mkF _ 3 _ _)) _
  refine XS.iconst X0.here hx rfl (hb hby own_dna3) ?_
  show Steps _ _ _ (.setTop _ (mkF _ 4 _ _)) _
  refine XS.iadd X0.here hx rfl (hb hby own_dna4) rfl ?_
  show Steps _ _ _ (.setTop _ (mkF _ 5 _ _)) _
  refine XS.istoreN X0.here hx rfl (hb hby own_dna5) rfl rfl ?_
  exact Steps.refl _)
 rw [(show Int32.ofNat ww + (1 : Int32) = Int32.ofNat (ww + 1) from own_iadd (i := ww) (j := 1))] at c1
 rw [← hI1] at c1
 obtain ⟨T5, X5, e5, st5⟩ := getF X0 hx hZ hown (host := "") (Or.inl (hw _ (own_m 20 rfl))) Via.refl e0 P.2.1 (g := (mkF m 18 #[.val (.ref ps), .val (.int (Int32.ofNat ww)), .val (.int (1 : Int32)), .val (.int (Int32.ofNat I1)), .val (.long (0 : Int64)), .second] [(.ref ps), (.int (1 : Int32))])) rfl rfl (hb hby own_dna18)
 have Rlg1 := P.2.2.2.1
 obtain ⟨crg1, Arg1, -, Srg1, -⟩ := Rlg1
 have c7 : Steps p.tables e below S0 (T5.setTop (mkF m 22 #[.val (.ref ps), .val (.int (Int32.ofNat ww)), .val (.int (1 : Int32)), .val (.int (Int32.ofNat I1)), .val (.long (0 : Int64)), .second] [(.int (Int32.ofNat K)), (.int (1 : Int32))])) := c1.trans (by
  refine XS.lconst X0.here hx rfl (hb hby own_dna6) ?_
  show Steps _ _ _ (.setTop _ (mkF _ 7 _ _)) _
  refine XS.lstore X0.here hx rfl (hb hby own_dna7) rfl rfl ?_
  show Steps _ _ _ (.setTop _ (mkF _ 9 _ _)) _
  refine XS.lload X0.here hx rfl (hb hby own_dna9) rfl ?_
  show Steps _ _ _ (.setTop _ (mkF _ 11 _ _)) _
  refine XS.lconst X0.here hx rfl (hb hby own_dna11) ?_
  show Steps _ _ _ (.setTop _ (mkF _ 12 _ _)) _
  refine XS.lcmp X0.here hx rfl (hb hby own_dna12) rfl ?_
  show Steps _ _ _ (.setTop _ (mkF _ 13 _ _)) _
  refine XS.ifNo X0.here hx rfl (hb hby own_dna13) rfl ((if0 _ _).trans (teq (by decide)).2) ?_
  show Steps _ _ _ (.setTop _ (mkF _ 16 _ _)) _
  refine XS.iloadN X0.here hx rfl (hb hby own_dna16) rfl ?_
  show Steps _ _ _ (.setTop _ (mkF _ 17 _ _)) _
  refine XS.aloadN X0.here hx rfl (hb hby own_dna17) rfl rfl ?_
  show Steps _ _ _ (.setTop _ (mkF _ 18 _ _)) _
  refine st5 _ ?_
  show Steps _ _ _ (.setTop _ (mkF _ 21 _ _)) _
  refine X5.arraylength hx (by rw [e5]; exact Arg1.1) (State.isArrayOf_alike hZ.alike Arg1.2.1) (g := (mkF m 21 #[.val (.ref ps), .val (.int (Int32.ofNat ww)), .val (.int (1 : Int32)), .val (.int (Int32.ofNat I1)), .val (.long (0 : Int64)), .second] [(.ref lv), (.int (1 : Int32))])) rfl rfl (hb hby own_dna21) _ ?_
  rw [show crg1.slots.size.toInt32 = Int32.ofNat K by rw [Srg1]]
  exact Steps.refl _)
 by_cases hk1 : (1 : Int32) = (Int32.ofNat K)
 ·have c8 : Steps p.tables e below S0 (T5.setTop (mkF m 39 #[.val (.ref ps), .val (.int (Int32.ofNat ww)), .val (.int (1 : Int32)), .val (.int (Int32.ofNat I1)), .val (.long (0 : Int64)), .second] [])) := c7.trans (by
   refine XS.icmpYes X5.here hx rfl (pc0 := 22) (pc' := 39) rfl (hb hby own_dna22) rfl (teq hk1).1 (by decide) (by decide) ?_
   exact Steps.refl _)
  have hKe : K = 1 := ((own_ieq (i := 1) (by decide) (by omega)).mp hk1).symm
  have c9 : Steps p.tables e below S0 (T5.setTop (mkF m 40 #[.val (.ref ps), .val (.int (Int32.ofNat ww)), .val (.int (1 : Int32)), .val (.int (Int32.ofNat I1)), .val (.long (0 : Int64)), .second] [(.int (-1 : Int32))])) := c8.trans (by
   refine XS.iconst X5.here hx rfl (hb hby own_dna39) ?_
   exact Steps.refl _)
  obtain ⟨fs, hr, hrun, hended, hW, hsame⟩ := X5.leave (v := some (.int (-1 : Int32))) (fun h => by rw [Bd.returns] at h; cases h)
  exact ⟨_, _, c9.trans (retOut X5 hx (t := .int) (i := .ireturn) Bd.returns rfl (Or.inl ⟨rfl, Or.inl rfl, _, rfl⟩) (hb hby own_dna40) hr), hrun, hended, _, _, rfl, ⟨⟨_, rfl, own_HI_top SH SE (by rw [hKe]; exact H1) b1'⟩, N0, e5⟩, ⟨_, rfl⟩, hW, hsame.mono (by decide) (by decide)⟩
 ·have c10 : Steps p.tables e below S0 (T5.setTop (mkF m 25 #[.val (.ref ps), .val (.int (Int32.ofNat ww)), .val (.int (1 : Int32)), .val (.int (Int32.ofNat I1)), .val (.long (0 : Int64)), .second] [])) := c7.trans (by
   refine XS.icmpNo X5.here hx rfl (hb hby own_dna22) rfl (feq hk1).1 ?_
   exact Steps.refl _)
  have hKn : K ≠ 1 := fun q => hk1 (by rw [q]; rfl)
  have hKl1 : 1 < K := by omega
  have hn1 : N 1 ≤ 8192 := by rw [hNi 1 hKl1]; exact own_it_b hN8 1
  have c11 : Steps p.tables e below S0 (T5.setTop (mkF m 29 #[.val (.ref ps), .val (.int (Int32.ofNat ww)), .val (.int (1 : Int32)), .val (.int (Int32.ofNat I1)), .val (.long (0 : Int64)), .second] [(.int (((Int32.ofNat I1).toUInt32 >>> ((6 : Int32) &&& 31).toUInt32).toInt32))])) := c10.trans (by
   refine XS.iloadN X5.here hx rfl (hb hby own_dna25) rfl ?_
   show Steps _ _ _ (.setTop _ (mkF _ 26 _ _)) _
   refine XS.bipush X5.here hx rfl (hb hby own_dna26) ?_
   show Steps _ _ _ (.setTop _ (mkF _ 28 _ _)) _
   refine XS.iushr X5.here hx rfl (hb hby own_dna28) rfl ?_
   exact Steps.refl _)
  rw [own_ushr6 (show I1 < 2 ^ 31 by omega)] at c11
  obtain ⟨T13, X13, e13, st13⟩ := getF X5 hx hZ hown (host := "") (Or.inl (hw _ (own_m 20 rfl))) Via.refl e5 P.2.1 (g := (mkF m 30 #[.val (.ref ps), .val (.int (Int32.ofNat ww)), .val (.int (1 : Int32)), .val (.int (Int32.ofNat I1)), .val (.long (0 : Int64)), .second] [(.ref ps), (.int (Int32.ofNat (I1 / 64)))])) rfl rfl (hb hby own_dna30)
  have Rqg1a := P.2.2.2.1
  obtain ⟨cvg1a, Avg1a, Ovg1a, Svg1a, Hvg1a⟩ := Rqg1a
  have Lqg1 := P.2.2.2.2.1 1 hKl1
  obtain ⟨cLg1, ALg1, ELg1, SLg1, HLg1⟩ := Lqg1
  have c17 : Steps p.tables e below S0 (T13.setTop (mkF m 36 #[.val (.ref ps), .val (.int (Int32.ofNat ww)), .val (.int (1 : Int32)), .val (.int (Int32.ofNat I1)), .val (.long (0 : Int64)), .second] [(.int (Int32.ofNat (N 1))), (.int (Int32.ofNat (I1 / 64)))])) := c11.trans (by
   refine XS.aloadN X5.here hx rfl (hb hby own_dna29) rfl rfl ?_
   show Steps _ _ _ (.setTop _ (mkF _ 30 _ _)) _
   refine st13 _ ?_
   show Steps _ _ _ (.setTop _ (mkF _ 33 _ _)) _
   refine XS.iloadN X13.here hx rfl (hb hby own_dna33) rfl ?_
   show Steps _ _ _ (.setTop _ (mkF _ 34 _ _)) _
   refine X13.aaload hx (j := (1 : Int32)) (v := (.ref (ls 1))) (by rw [e13]; exact Avg1a.1) (State.isArrayOf_alike hZ.alike Avg1a.2.1) rfl Avg1a.2.2 (own_inb (j := 1) Svg1a hKl1 (by omega)) (Hvg1a 1 hKl1) (g := (mkF m 34 #[.val (.ref ps), .val (.int (Int32.ofNat ww)), .val (.int (1 : Int32)), .val (.int (Int32.ofNat I1)), .val (.long (0 : Int64)), .second] [(.int (1 : Int32)), (.ref lv), (.int (Int32.ofNat (I1 / 64)))])) rfl rfl (hb hby own_dna34) _ ?_
   show Steps _ _ _ (.setTop _ (mkF _ 35 _ _)) _
   refine X13.arraylength hx (by rw [e13]; exact ALg1.1) (State.isArrayOf_alike hZ.alike ALg1.2.1) (g := (mkF m 35 #[.val (.ref ps), .val (.int (Int32.ofNat ww)), .val (.int (1 : Int32)), .val (.int (Int32.ofNat I1)), .val (.long (0 : Int64)), .second] [(.ref (ls 1)), (.int (Int32.ofNat (I1 / 64)))])) rfl rfl (hb hby own_dna35) _ ?_
   rw [show cLg1.slots.size.toInt32 = Int32.ofNat (N 1) by rw [SLg1]]
   exact Steps.refl _)
  by_cases hf1 : (Int32.ofNat (I1 / 64)) < (Int32.ofNat (N 1))
  ·have c18 : Steps p.tables e below S0 (T13.setTop (mkF m 41 #[.val (.ref ps), .val (.int (Int32.ofNat ww)), .val (.int (1 : Int32)), .val (.int (Int32.ofNat I1)), .val (.long (0 : Int64)), .second] [])) := c17.trans (by
    refine XS.icmpYes X13.here hx rfl (pc0 := 36) (pc' := 41) rfl (hb hby own_dna36) rfl (tlt hf1).1 (by decide) (by decide) ?_
    exact Steps.refl _)
   have hfl1 : I1 / 64 < N 1 := (own_ilt (by omega) (by omega)).mp hf1
   obtain ⟨T20, X20, e20, st20⟩ := getF X13 hx hZ hown (host := "") (Or.inl (hw _ (own_m 20 rfl))) Via.refl e13 P.2.1 (g := (mkF m 42 #[.val (.ref ps), .val (.int (Int32.ofNat ww)), .val (.int (1 : Int32)), .val (.int (Int32.ofNat I1)), .val (.long (0 : Int64)), .second] [(.ref ps)])) rfl rfl (hb hby own_dna42)
   have Rqg1b := P.2.2.2.1
   obtain ⟨cvg1b, Avg1b, Ovg1b, Svg1b, Hvg1b⟩ := Rqg1b
   have c24 : Steps p.tables e below S0 (T20.setTop (mkF m 51 #[.val (.ref ps), .val (.int (Int32.ofNat ww)), .val (.int (1 : Int32)), .val (.int (Int32.ofNat I1)), .val (.long (0 : Int64)), .second] [(.int (((Int32.ofNat I1).toUInt32 >>> ((6 : Int32) &&& 31).toUInt32).toInt32)), (.ref (ls 1))])) := c18.trans (by
    refine XS.aloadN X13.here hx rfl (hb hby own_dna41) rfl rfl ?_
    show Steps _ _ _ (.setTop _ (mkF _ 42 _ _)) _
    refine st20 _ ?_
    show Steps _ _ _ (.setTop _ (mkF _ 45 _ _)) _
    refine XS.iloadN X20.here hx rfl (hb hby own_dna45) rfl ?_
    show Steps _ _ _ (.setTop _ (mkF _ 46 _ _)) _
    refine X20.aaload hx (j := (1 : Int32)) (v := (.ref (ls 1))) (by rw [e20]; exact Avg1b.1) (State.isArrayOf_alike hZ.alike Avg1b.2.1) rfl Avg1b.2.2 (own_inb (j := 1) Svg1b hKl1 (by omega)) (Hvg1b 1 hKl1) (g := (mkF m 46 #[.val (.ref ps), .val (.int (Int32.ofNat ww)), .val (.int (1 : Int32)), .val (.int (Int32.ofNat I1)), .val (.long (0 : Int64)), .second] [(.int (1 : Int32)), (.ref lv)])) rfl rfl (hb hby own_dna46) _ ?_
    show Steps _ _ _ (.setTop _ (mkF _ 47 _ _)) _
    refine XS.iloadN X20.here hx rfl (hb hby own_dna47) rfl ?_
    show Steps _ _ _ (.setTop _ (mkF _ 48 _ _)) _
    refine XS.bipush X20.here hx rfl (hb hby own_dna48) ?_
    show Steps _ _ _ (.setTop _ (mkF _ 50 _ _)) _
    refine XS.iushr X20.here hx rfl (hb hby own_dna50) rfl ?_
    exact Steps.refl _)
   rw [own_ushr6 (show I1 < 2 ^ 31 by omega)] at c24
   have c26 : Steps p.tables e below S0 (T20.setTop (mkF m 59 #[.val (.ref ps), .val (.int (Int32.ofNat ww)), .val (.int (1 : Int32)), .val (.int (Int32.ofNat I1)), .val (.long (0 : Int64)), .second] [(.int ((Int32.ofNat I1) &&& (63 : Int32))), (.long (-1 : Int64)), (.long (f 1 (I1 / 64)))])) := c24.trans (by
    refine X20.laload hx (j := (Int32.ofNat (I1 / 64))) (v := (.long (f 1 (I1 / 64)))) (by rw [e20]; exact ALg1.1) (State.isArrayOf_alike hZ.alike ALg1.2.1) ALg1.2.2 (own_inb (j := I1 / 64) SLg1 hfl1 (by omega)) (by rw [own_cl (j := I1 / 64) (by omega)]; exact HLg1 (I1 / 64) hfl1) (g := (mkF m 51 #[.val (.ref ps), .val (.int (Int32.ofNat ww)), .val (.int (1 : Int32)), .val (.int (Int32.ofNat I1)), .val (.long (0 : Int64)), .second] [(.int (Int32.ofNat (I1 / 64))), (.ref (ls 1))])) rfl rfl (hb hby own_dna51) _ ?_
    show Steps _ _ _ (.setTop _ (mkF _ 52 _ _)) _
    refine X20.ldc2Long hx hown (mvT hZ (hw _ (own_m 49 rfl))) (g := (mkF m 52 #[.val (.ref ps), .val (.int (Int32.ofNat ww)), .val (.int (1 : Int32)), .val (.int (Int32.ofNat I1)), .val (.long (0 : Int64)), .second] [(.long (f 1 (I1 / 64)))])) rfl (hb hby own_dna52) _ ?_
    show Steps _ _ _ (.setTop _ (mkF _ 55 _ _)) _
    refine XS.iloadN X20.here hx rfl (hb hby own_dna55) rfl ?_
    show Steps _ _ _ (.setTop _ (mkF _ 56 _ _)) _
    refine XS.bipush X20.here hx rfl (hb hby own_dna56) ?_
    show Steps _ _ _ (.setTop _ (mkF _ 58 _ _)) _
    refine XS.iand X20.here hx rfl (hb hby own_dna58) rfl ?_
    exact Steps.refl _)
   rw [own_and63 (show I1 < 2 ^ 31 by omega)] at c26
   have c27 : Steps p.tables e below S0 (T20.setTop (mkF m 61 #[.val (.ref ps), .val (.int (Int32.ofNat ww)), .val (.int (1 : Int32)), .val (.int (Int32.ofNat I1)), .val (.long (0 : Int64)), .second] [(.long ((f 1 (I1 / 64)) &&& ((-1 : Int64) <<< ((Int32.ofNat (I1 % 64)) &&& 0x3f).toInt64)))])) := c26.trans (by
    refine XS.lshl X20.here hx rfl (hb hby own_dna59) rfl ?_
    show Steps _ _ _ (.setTop _ (mkF _ 60 _ _)) _
    refine XS.land X20.here hx rfl (hb hby own_dna60) rfl ?_
    exact Steps.refl _)
   obtain ⟨x1, hx1⟩ : ∃ z, z = f 1 (I1 / 64) &&& own_msk (I1 % 64) := ⟨_, rfl⟩
   have c27x : Steps p.tables e below S0 (T20.setTop (mkF m 61 #[.val (.ref ps), .val (.int (Int32.ofNat ww)), .val (.int (1 : Int32)), .val (.int (Int32.ofNat I1)), .val (.long (0 : Int64)), .second] [(.long (f 1 (I1 / 64) &&& own_msk (I1 % 64)))])) := c27
   rw [← hx1] at c27x
   have c28 : Steps p.tables e below S0 (T20.setTop (mkF m 67 #[.val (.ref ps), .val (.int (Int32.ofNat ww)), .val (.int (1 : Int32)), .val (.int (Int32.ofNat I1)), .val (.long x1), .second] [(.int (lcmpW x1 (0 : Int64)))])) := c27x.trans (by
    refine XS.lstore X20.here hx rfl (hb hby own_dna61) rfl rfl ?_
    show Steps _ _ _ (.setTop _ (mkF _ 63 _ _)) _
    refine XS.lload X20.here hx rfl (hb hby own_dna63) rfl ?_
    show Steps _ _ _ (.setTop _ (mkF _ 65 _ _)) _
    refine XS.lconst X20.here hx rfl (hb hby own_dna65) ?_
    show Steps _ _ _ (.setTop _ (mkF _ 66 _ _)) _
    refine XS.lcmp X20.here hx rfl (hb hby own_dna66) rfl ?_
    exact Steps.refl _)
   by_cases hz1 : (lcmpW x1 (0 : Int64)) = (0 : Int32)
   ·have hze1 : x1 = 0 := (lw_eq _ _).mp hz1
    have H2 := own_HI_up SE H1 hKl1 hfl1 (by rw [← hx1]; exact hze1)
    obtain ⟨I2, hI2⟩ : ∃ z, z = I1 / 64 + 1 := ⟨_, rfl⟩
    rw [← hI2] at H2
    have b2 : I2 ≤ 8192 := by omega
    have b2' : 1 ≤ I2 := by omega
    have c30 : Steps p.tables e below S0 (T20.setTop (mkF m 74 #[.val (.ref ps), .val (.int (Int32.ofNat ww)), .val (.int (1 : Int32)), .val (.int (Int32.ofNat I1)), .val (.long x1), .second] [(.int (((Int32.ofNat I1).toUInt32 >>> ((6 : Int32) &&& 31).toUInt32).toInt32))])) := c28.trans (by
     refine XS.ifNo X20.here hx rfl (hb hby own_dna67) rfl ((if0 _ _).trans (teq hz1).2) ?_
     show Steps _ _ _ (.setTop _ (mkF _ 70 _ _)) _
     refine XS.iloadN X20.here hx rfl (hb hby own_dna70) rfl ?_
     show Steps _ _ _ (.setTop _ (mkF _ 71 _ _)) _
     refine XS.bipush X20.here hx rfl (hb hby own_dna71) ?_
     show Steps _ _ _ (.setTop _ (mkF _ 73 _ _)) _
     refine XS.iushr X20.here hx rfl (hb hby own_dna73) rfl ?_
     exact Steps.refl _)
    rw [own_ushr6 (show I1 < 2 ^ 31 by omega)] at c30
    have c31 : Steps p.tables e below S0 (T20.setTop (mkF m 76 #[.val (.ref ps), .val (.int (Int32.ofNat ww)), .val (.int (1 : Int32)), .val (.int (Int32.ofNat I1)), .val (.long x1), .second] [(.int ((Int32.ofNat (I1 / 64)) + (1 : Int32)))])) := c30.trans (by
     refine XS.iconst X20.here hx rfl (hb hby own_dna74) ?_
     show Steps _ _ _ (.setTop _ (mkF _ 75 _ _)) _
     refine XS.iadd X20.here hx rfl (hb hby own_dna75) rfl ?_
     exact Steps.refl _)
    rw [(show Int32.ofNat (I1 / 64) + (1 : Int32) = Int32.ofNat (I1 / 64 + 1) from own_iadd (i := I1 / 64) (j := 1))] at c31
    rw [← hI2] at c31
    have c32 : Steps p.tables e below S0 (T20.setTop (mkF m 80 #[.val (.ref ps), .val (.int (Int32.ofNat ww)), .val (.int ((1 : Int32) + (1 : Int32))), .val (.int (Int32.ofNat I2)), .val (.long x1), .second] [])) := c31.trans (by
     refine XS.istoreN X20.here hx rfl (hb hby own_dna76) rfl rfl ?_
     show Steps _ _ _ (.setTop _ (mkF _ 77 _ _)) _
     refine XS.iinc X20.here hx rfl (hb hby own_dna77) rfl rfl ?_
     exact Steps.refl _)
    rw [(show (1 : Int32) + (1 : Int32) = 2 by decide)] at c32
    rw [hze1] at c32
    obtain ⟨T37, X37, e37, st37⟩ := getF X20 hx hZ hown (host := "") (Or.inl (hw _ (own_m 20 rfl))) Via.refl e20 P.2.1 (g := (mkF m 18 #[.val (.ref ps), .val (.int (Int32.ofNat ww)), .val (.int (2 : Int32)), .val (.int (Int32.ofNat I2)), .val (.long (0 : Int64)), .second] [(.ref ps), (.int (2 : Int32))])) rfl rfl (hb hby own_dna18)
    have Rlg2 := P.2.2.2.1
    obtain ⟨crg2, Arg2, -, Srg2, -⟩ := Rlg2
    have c39 : Steps p.tables e below S0 (T37.setTop (mkF m 22 #[.val (.ref ps), .val (.int (Int32.ofNat ww)), .val (.int (2 : Int32)), .val (.int (Int32.ofNat I2)), .val (.long (0 : Int64)), .second] [(.int (Int32.ofNat K)), (.int (2 : Int32))])) := c32.trans (by
     refine XS.goto X20.here hx rfl (pc0 := 80) (pc' := 9) rfl (hb hby own_dna80) (by decide) (by decide) ?_
     show Steps _ _ _ (.setTop _ (mkF _ 9 _ _)) _
     refine XS.lload X20.here hx rfl (hb hby own_dna9) rfl ?_
     show Steps _ _ _ (.setTop _ (mkF _ 11 _ _)) _
     refine XS.lconst X20.here hx rfl (hb hby own_dna11) ?_
     show Steps _ _ _ (.setTop _ (mkF _ 12 _ _)) _
     refine XS.lcmp X20.here hx rfl (hb hby own_dna12) rfl ?_
     show Steps _ _ _ (.setTop _ (mkF _ 13 _ _)) _
     refine XS.ifNo X20.here hx rfl (hb hby own_dna13) rfl ((if0 _ _).trans (teq (by decide)).2) ?_
     show Steps _ _ _ (.setTop _ (mkF _ 16 _ _)) _
     refine XS.iloadN X20.here hx rfl (hb hby own_dna16) rfl ?_
     show Steps _ _ _ (.setTop _ (mkF _ 17 _ _)) _
     refine XS.aloadN X20.here hx rfl (hb hby own_dna17) rfl rfl ?_
     show Steps _ _ _ (.setTop _ (mkF _ 18 _ _)) _
     refine st37 _ ?_
     show Steps _ _ _ (.setTop _ (mkF _ 21 _ _)) _
     refine X37.arraylength hx (by rw [e37]; exact Arg2.1) (State.isArrayOf_alike hZ.alike Arg2.2.1) (g := (mkF m 21 #[.val (.ref ps), .val (.int (Int32.ofNat ww)), .val (.int (2 : Int32)), .val (.int (Int32.ofNat I2)), .val (.long (0 : Int64)), .second] [(.ref lv), (.int (2 : Int32))])) rfl rfl (hb hby own_dna21) _ ?_
     rw [show crg2.slots.size.toInt32 = Int32.ofNat K by rw [Srg2]]
     exact Steps.refl _)
    by_cases hk2 : (2 : Int32) = (Int32.ofNat K)
    ·have hKe : K = 2 := ((own_ieq (i := 2) (by decide) (by omega)).mp hk2).symm
     have c41 : Steps p.tables e below S0 (T37.setTop (mkF m 40 #[.val (.ref ps), .val (.int (Int32.ofNat ww)), .val (.int (2 : Int32)), .val (.int (Int32.ofNat I2)), .val (.long (0 : Int64)), .second] [(.int (-1 : Int32))])) := c39.trans (by
      refine XS.icmpYes X37.here hx rfl (pc0 := 22) (pc' := 39) rfl (hb hby own_dna22) rfl (teq hk2).1 (by decide) (by decide) ?_
      show Steps _ _ _ (.setTop _ (mkF _ 39 _ _)) _
      refine XS.iconst X37.here hx rfl (hb hby own_dna39) ?_
      exact Steps.refl _)
     obtain ⟨fs, hr, hrun, hended, hW, hsame⟩ := X37.leave (v := some (.int (-1 : Int32))) (fun h => by rw [Bd.returns] at h; cases h)
     exact ⟨_, _, c41.trans (retOut X37 hx (t := .int) (i := .ireturn) Bd.returns rfl (Or.inl ⟨rfl, Or.inl rfl, _, rfl⟩) (hb hby own_dna40) hr), hrun, hended, _, _, rfl, ⟨⟨_, rfl, own_HI_top SH SE (by rw [hKe]; exact H2) b2'⟩, N0, e37⟩, ⟨_, rfl⟩, hW, hsame.mono (by decide) (by decide)⟩
    ·have hKn : K ≠ 2 := fun q => hk2 (by rw [q]; rfl)
     have hKl2 : 2 < K := by omega
     have hn2 : N 2 ≤ 8192 := by rw [hNi 2 hKl2]; exact own_it_b hN8 2
     have c43 : Steps p.tables e below S0 (T37.setTop (mkF m 29 #[.val (.ref ps), .val (.int (Int32.ofNat ww)), .val (.int (2 : Int32)), .val (.int (Int32.ofNat I2)), .val (.long (0 : Int64)), .second] [(.int (((Int32.ofNat I2).toUInt32 >>> ((6 : Int32) &&& 31).toUInt32).toInt32))])) := c39.trans (by
      refine XS.icmpNo X37.here hx rfl (hb hby own_dna22) rfl (feq hk2).1 ?_
      show Steps _ _ _ (.setTop _ (mkF _ 25 _ _)) _
      refine XS.iloadN X37.here hx rfl (hb hby own_dna25) rfl ?_
      show Steps _ _ _ (.setTop _ (mkF _ 26 _ _)) _
      refine XS.bipush X37.here hx rfl (hb hby own_dna26) ?_
      show Steps _ _ _ (.setTop _ (mkF _ 28 _ _)) _
      refine XS.iushr X37.here hx rfl (hb hby own_dna28) rfl ?_
      exact Steps.refl _)
     rw [own_ushr6 (show I2 < 2 ^ 31 by omega)] at c43
     obtain ⟨T45, X45, e45, st45⟩ := getF X37 hx hZ hown (host := "") (Or.inl (hw _ (own_m 20 rfl))) Via.refl e37 P.2.1 (g := (mkF m 30 #[.val (.ref ps), .val (.int (Int32.ofNat ww)), .val (.int (2 : Int32)), .val (.int (Int32.ofNat I2)), .val (.long (0 : Int64)), .second] [(.ref ps), (.int (Int32.ofNat (I2 / 64)))])) rfl rfl (hb hby own_dna30)
     have Rqg2a := P.2.2.2.1
     obtain ⟨cvg2a, Avg2a, Ovg2a, Svg2a, Hvg2a⟩ := Rqg2a
     have Lqg2 := P.2.2.2.2.1 2 hKl2
     obtain ⟨cLg2, ALg2, ELg2, SLg2, HLg2⟩ := Lqg2
     have c49 : Steps p.tables e below S0 (T45.setTop (mkF m 36 #[.val (.ref ps), .val (.int (Int32.ofNat ww)), .val (.int (2 : Int32)), .val (.int (Int32.ofNat I2)), .val (.long (0 : Int64)), .second] [(.int (Int32.ofNat (N 2))), (.int (Int32.ofNat (I2 / 64)))])) := c43.trans (by
      refine XS.aloadN X37.here hx rfl (hb hby own_dna29) rfl rfl ?_
      show Steps _ _ _ (.setTop _ (mkF _ 30 _ _)) _
      refine st45 _ ?_
      show Steps _ _ _ (.setTop _ (mkF _ 33 _ _)) _
      refine XS.iloadN X45.here hx rfl (hb hby own_dna33) rfl ?_
      show Steps _ _ _ (.setTop _ (mkF _ 34 _ _)) _
      refine X45.aaload hx (j := (2 : Int32)) (v := (.ref (ls 2))) (by rw [e45]; exact Avg2a.1) (State.isArrayOf_alike hZ.alike Avg2a.2.1) rfl Avg2a.2.2 (own_inb (j := 2) Svg2a hKl2 (by omega)) (Hvg2a 2 hKl2) (g := (mkF m 34 #[.val (.ref ps), .val (.int (Int32.ofNat ww)), .val (.int (2 : Int32)), .val (.int (Int32.ofNat I2)), .val (.long (0 : Int64)), .second] [(.int (2 : Int32)), (.ref lv), (.int (Int32.ofNat (I2 / 64)))])) rfl rfl (hb hby own_dna34) _ ?_
      show Steps _ _ _ (.setTop _ (mkF _ 35 _ _)) _
      refine X45.arraylength hx (by rw [e45]; exact ALg2.1) (State.isArrayOf_alike hZ.alike ALg2.2.1) (g := (mkF m 35 #[.val (.ref ps), .val (.int (Int32.ofNat ww)), .val (.int (2 : Int32)), .val (.int (Int32.ofNat I2)), .val (.long (0 : Int64)), .second] [(.ref (ls 2)), (.int (Int32.ofNat (I2 / 64)))])) rfl rfl (hb hby own_dna35) _ ?_
      rw [show cLg2.slots.size.toInt32 = Int32.ofNat (N 2) by rw [SLg2]]
      exact Steps.refl _)
     by_cases hf2 : (Int32.ofNat (I2 / 64)) < (Int32.ofNat (N 2))
     ·have hfl2 : I2 / 64 < N 2 := (own_ilt (by omega) (by omega)).mp hf2
      obtain ⟨T52, X52, e52, st52⟩ := getF X45 hx hZ hown (host := "") (Or.inl (hw _ (own_m 20 rfl))) Via.refl e45 P.2.1 (g := (mkF m 42 #[.val (.ref ps), .val (.int (Int32.ofNat ww)), .val (.int (2 : Int32)), .val (.int (Int32.ofNat I2)), .val (.long (0 : Int64)), .second] [(.ref ps)])) rfl rfl (hb hby own_dna42)
      have Rqg2b := P.2.2.2.1
      obtain ⟨cvg2b, Avg2b, Ovg2b, Svg2b, Hvg2b⟩ := Rqg2b
      have c56 : Steps p.tables e below S0 (T52.setTop (mkF m 51 #[.val (.ref ps), .val (.int (Int32.ofNat ww)), .val (.int (2 : Int32)), .val (.int (Int32.ofNat I2)), .val (.long (0 : Int64)), .second] [(.int (((Int32.ofNat I2).toUInt32 >>> ((6 : Int32) &&& 31).toUInt32).toInt32)), (.ref (ls 2))])) := c49.trans (by
       refine XS.icmpYes X45.here hx rfl (pc0 := 36) (pc' := 41) rfl (hb hby own_dna36) rfl (tlt hf2).1 (by decide) (by decide) ?_
       show Steps _ _ _ (.setTop _ (mkF _ 41 _ _)) _
       refine XS.aloadN X45.here hx rfl (hb hby own_dna41) rfl rfl ?_
       show Steps _ _ _ (.setTop _ (mkF _ 42 _ _)) _
       refine st52 _ ?_
       show Steps _ _ _ (.setTop _ (mkF _ 45 _ _)) _
       refine XS.iloadN X52.here hx rfl (hb hby own_dna45) rfl ?_
       show Steps _ _ _ (.setTop _ (mkF _ 46 _ _)) _
       refine X52.aaload hx (j := (2 : Int32)) (v := (.ref (ls 2))) (by rw [e52]; exact Avg2b.1) (State.isArrayOf_alike hZ.alike Avg2b.2.1) rfl Avg2b.2.2 (own_inb (j := 2) Svg2b hKl2 (by omega)) (Hvg2b 2 hKl2) (g := (mkF m 46 #[.val (.ref ps), .val (.int (Int32.ofNat ww)), .val (.int (2 : Int32)), .val (.int (Int32.ofNat I2)), .val (.long (0 : Int64)), .second] [(.int (2 : Int32)), (.ref lv)])) rfl rfl (hb hby own_dna46) _ ?_
       show Steps _ _ _ (.setTop _ (mkF _ 47 _ _)) _
       refine XS.iloadN X52.here hx rfl (hb hby own_dna47) rfl ?_
       show Steps _ _ _ (.setTop _ (mkF _ 48 _ _)) _
       refine XS.bipush X52.here hx rfl (hb hby own_dna48) ?_
       show Steps _ _ _ (.setTop _ (mkF _ 50 _ _)) _
       refine XS.iushr X52.here hx rfl (hb hby own_dna50) rfl ?_
       exact Steps.refl _)
      rw [own_ushr6 (show I2 < 2 ^ 31 by omega)] at c56
      have c58 : Steps p.tables e below S0 (T52.setTop (mkF m 59 #[.val (.ref ps), .val (.int (Int32.ofNat ww)), .val (.int (2 : Int32)), .val (.int (Int32.ofNat I2)), .val (.long (0 : Int64)), .second] [(.int ((Int32.ofNat I2) &&& (63 : Int32))), (.long (-1 : Int64)), (.long (f 2 (I2 / 64)))])) := c56.trans (by
       refine X52.laload hx (j := (Int32.ofNat (I2 / 64))) (v := (.long (f 2 (I2 / 64)))) (by rw [e52]; exact ALg2.1) (State.isArrayOf_alike hZ.alike ALg2.2.1) ALg2.2.2 (own_inb (j := I2 / 64) SLg2 hfl2 (by omega)) (by rw [own_cl (j := I2 / 64) (by omega)]; exact HLg2 (I2 / 64) hfl2) (g := (mkF m 51 #[.val (.ref ps), .val (.int (Int32.ofNat ww)), .val (.int (2 : Int32)), .val (.int (Int32.ofNat I2)), .val (.long (0 : Int64)), .second] [(.int (Int32.ofNat (I2 / 64))), (.ref (ls 2))])) rfl rfl (hb hby own_dna51) _ ?_
       show Steps _ _ _ (.setTop _ (mkF _ 52 _ _)) _
       refine X52.ldc2Long hx hown (mvT hZ (hw _ (own_m 49 rfl))) (g := (mkF m 52 #[.val (.ref ps), .val (.int (Int32.ofNat ww)), .val (.int (2 : Int32)), .val (.int (Int32.ofNat I2)), .val (.long (0 : Int64)), .second] [(.long (f 2 (I2 / 64)))])) rfl (hb hby own_dna52) _ ?_
       show Steps _ _ _ (.setTop _ (mkF _ 55 _ _)) _
       refine XS.iloadN X52.here hx rfl (hb hby own_dna55) rfl ?_
       show Steps _ _ _ (.setTop _ (mkF _ 56 _ _)) _
       refine XS.bipush X52.here hx rfl (hb hby own_dna56) ?_
       show Steps _ _ _ (.setTop _ (mkF _ 58 _ _)) _
       refine XS.iand X52.here hx rfl (hb hby own_dna58) rfl ?_
       exact Steps.refl _)
      rw [own_and63 (show I2 < 2 ^ 31 by omega)] at c58
      have c59 : Steps p.tables e below S0 (T52.setTop (mkF m 61 #[.val (.ref ps), .val (.int (Int32.ofNat ww)), .val (.int (2 : Int32)), .val (.int (Int32.ofNat I2)), .val (.long (0 : Int64)), .second] [(.long ((f 2 (I2 / 64)) &&& ((-1 : Int64) <<< ((Int32.ofNat (I2 % 64)) &&& 0x3f).toInt64)))])) := c58.trans (by
       refine XS.lshl X52.here hx rfl (hb hby own_dna59) rfl ?_
       show Steps _ _ _ (.setTop _ (mkF _ 60 _ _)) _
       refine XS.land X52.here hx rfl (hb hby own_dna60) rfl ?_
       exact Steps.refl _)
      obtain ⟨x2, hx2⟩ : ∃ z, z = f 2 (I2 / 64) &&& own_msk (I2 % 64) := ⟨_, rfl⟩
      have c59x : Steps p.tables e below S0 (T52.setTop (mkF m 61 #[.val (.ref ps), .val (.int (Int32.ofNat ww)), .val (.int (2 : Int32)), .val (.int (Int32.ofNat I2)), .val (.long (0 : Int64)), .second] [(.long (f 2 (I2 / 64) &&& own_msk (I2 % 64)))])) := c59
      rw [← hx2] at c59x
      have c60 : Steps p.tables e below S0 (T52.setTop (mkF m 67 #[.val (.ref ps), .val (.int (Int32.ofNat ww)), .val (.int (2 : Int32)), .val (.int (Int32.ofNat I2)), .val (.long x2), .second] [(.int (lcmpW x2 (0 : Int64)))])) := c59x.trans (by
       refine XS.lstore X52.here hx rfl (hb hby own_dna61) rfl rfl ?_
       show Steps _ _ _ (.setTop _ (mkF _ 63 _ _)) _
       refine XS.lload X52.here hx rfl (hb hby own_dna63) rfl ?_
       show Steps _ _ _ (.setTop _ (mkF _ 65 _ _)) _
       refine XS.lconst X52.here hx rfl (hb hby own_dna65) ?_
       show Steps _ _ _ (.setTop _ (mkF _ 66 _ _)) _
       refine XS.lcmp X52.here hx rfl (hb hby own_dna66) rfl ?_
       exact Steps.refl _)
      by_cases hz2 : (lcmpW x2 (0 : Int64)) = (0 : Int32)
      ·have hze2 : x2 = 0 := (lw_eq _ _).mp hz2
       have H3 := own_HI_up SE H2 hKl2 hfl2 (by rw [← hx2]; exact hze2)
       obtain ⟨I3, hI3⟩ : ∃ z, z = I2 / 64 + 1 := ⟨_, rfl⟩
       rw [← hI3] at H3
       have b3 : I3 ≤ 8192 := by omega
       have b3' : 1 ≤ I3 := by omega
       have c62 : Steps p.tables e below S0 (T52.setTop (mkF m 74 #[.val (.ref ps), .val (.int (Int32.ofNat ww)), .val (.int (2 : Int32)), .val (.int (Int32.ofNat I2)), .val (.long x2), .second] [(.int (((Int32.ofNat I2).toUInt32 >>> ((6 : Int32) &&& 31).toUInt32).toInt32))])) := c60.trans (by
        refine XS.ifNo X52.here hx rfl (hb hby own_dna67) rfl ((if0 _ _).trans (teq hz2).2) ?_
        show Steps _ _ _ (.setTop _ (mkF _ 70 _ _)) _
        refine XS.iloadN X52.here hx rfl (hb hby own_dna70) rfl ?_
        show Steps _ _ _ (.setTop _ (mkF _ 71 _ _)) _
        refine XS.bipush X52.here hx rfl (hb hby own_dna71) ?_
        show Steps _ _ _ (.setTop _ (mkF _ 73 _ _)) _
        refine XS.iushr X52.here hx rfl (hb hby own_dna73) rfl ?_
        exact Steps.refl _)
       rw [own_ushr6 (show I2 < 2 ^ 31 by omega)] at c62
       have c63 : Steps p.tables e below S0 (T52.setTop (mkF m 76 #[.val (.ref ps), .val (.int (Int32.ofNat ww)), .val (.int (2 : Int32)), .val (.int (Int32.ofNat I2)), .val (.long x2), .second] [(.int ((Int32.ofNat (I2 / 64)) + (1 : Int32)))])) := c62.trans (by
        refine XS.iconst X52.here hx rfl (hb hby own_dna74) ?_
        show Steps _ _ _ (.setTop _ (mkF _ 75 _ _)) _
        refine XS.iadd X52.here hx rfl (hb hby own_dna75) rfl ?_
        exact Steps.refl _)
       rw [(show Int32.ofNat (I2 / 64) + (1 : Int32) = Int32.ofNat (I2 / 64 + 1) from own_iadd (i := I2 / 64) (j := 1))] at c63
       rw [← hI3] at c63
       have c64 : Steps p.tables e below S0 (T52.setTop (mkF m 80 #[.val (.ref ps), .val (.int (Int32.ofNat ww)), .val (.int ((2 : Int32) + (1 : Int32))), .val (.int (Int32.ofNat I3)), .val (.long x2), .second] [])) := c63.trans (by
        refine XS.istoreN X52.here hx rfl (hb hby own_dna76) rfl rfl ?_
        show Steps _ _ _ (.setTop _ (mkF _ 77 _ _)) _
        refine XS.iinc X52.here hx rfl (hb hby own_dna77) rfl rfl ?_
        exact Steps.refl _)
       rw [(show (2 : Int32) + (1 : Int32) = 3 by decide)] at c64
       rw [hze2] at c64
       obtain ⟨T69, X69, e69, st69⟩ := getF X52 hx hZ hown (host := "") (Or.inl (hw _ (own_m 20 rfl))) Via.refl e52 P.2.1 (g := (mkF m 18 #[.val (.ref ps), .val (.int (Int32.ofNat ww)), .val (.int (3 : Int32)), .val (.int (Int32.ofNat I3)), .val (.long (0 : Int64)), .second] [(.ref ps), (.int (3 : Int32))])) rfl rfl (hb hby own_dna18)
       have Rlg3 := P.2.2.2.1
       obtain ⟨crg3, Arg3, -, Srg3, -⟩ := Rlg3
       have c71 : Steps p.tables e below S0 (T69.setTop (mkF m 22 #[.val (.ref ps), .val (.int (Int32.ofNat ww)), .val (.int (3 : Int32)), .val (.int (Int32.ofNat I3)), .val (.long (0 : Int64)), .second] [(.int (Int32.ofNat K)), (.int (3 : Int32))])) := c64.trans (by
        refine XS.goto X52.here hx rfl (pc0 := 80) (pc' := 9) rfl (hb hby own_dna80) (by decide) (by decide) ?_
        show Steps _ _ _ (.setTop _ (mkF _ 9 _ _)) _
        refine XS.lload X52.here hx rfl (hb hby own_dna9) rfl ?_
        show Steps _ _ _ (.setTop _ (mkF _ 11 _ _)) _
        refine XS.lconst X52.here hx rfl (hb hby own_dna11) ?_
        show Steps _ _ _ (.setTop _ (mkF _ 12 _ _)) _
        refine XS.lcmp X52.here hx rfl (hb hby own_dna12) rfl ?_
        show Steps _ _ _ (.setTop _ (mkF _ 13 _ _)) _
        refine XS.ifNo X52.here hx rfl (hb hby own_dna13) rfl ((if0 _ _).trans (teq (by decide)).2) ?_
        show Steps _ _ _ (.setTop _ (mkF _ 16 _ _)) _
        refine XS.iloadN X52.here hx rfl (hb hby own_dna16) rfl ?_
        show Steps _ _ _ (.setTop _ (mkF _ 17 _ _)) _
        refine XS.aloadN X52.here hx rfl (hb hby own_dna17) rfl rfl ?_
        show Steps _ _ _ (.setTop _ (mkF _ 18 _ _)) _
        refine st69 _ ?_
        show Steps _ _ _ (.setTop _ (mkF _ 21 _ _)) _
        refine X69.arraylength hx (by rw [e69]; exact Arg3.1) (State.isArrayOf_alike hZ.alike Arg3.2.1) (g := (mkF m 21 #[.val (.ref ps), .val (.int (Int32.ofNat ww)), .val (.int (3 : Int32)), .val (.int (Int32.ofNat I3)), .val (.long (0 : Int64)), .second] [(.ref lv), (.int (3 : Int32))])) rfl rfl (hb hby own_dna21) _ ?_
        rw [show crg3.slots.size.toInt32 = Int32.ofNat K by rw [Srg3]]
        exact Steps.refl _)
       by_cases hk3 : (3 : Int32) = (Int32.ofNat K)
       ·have hKe : K = 3 := ((own_ieq (i := 3) (by decide) (by omega)).mp hk3).symm
        have c73 : Steps p.tables e below S0 (T69.setTop (mkF m 40 #[.val (.ref ps), .val (.int (Int32.ofNat ww)), .val (.int (3 : Int32)), .val (.int (Int32.ofNat I3)), .val (.long (0 : Int64)), .second] [(.int (-1 : Int32))])) := c71.trans (by
         refine XS.icmpYes X69.here hx rfl (pc0 := 22) (pc' := 39) rfl (hb hby own_dna22) rfl (teq hk3).1 (by decide) (by decide) ?_
         show Steps _ _ _ (.setTop _ (mkF _ 39 _ _)) _
         refine XS.iconst X69.here hx rfl (hb hby own_dna39) ?_
         exact Steps.refl _)
        obtain ⟨fs, hr, hrun, hended, hW, hsame⟩ := X69.leave (v := some (.int (-1 : Int32))) (fun h => by rw [Bd.returns] at h; cases h)
        exact ⟨_, _, c73.trans (retOut X69 hx (t := .int) (i := .ireturn) Bd.returns rfl (Or.inl ⟨rfl, Or.inl rfl, _, rfl⟩) (hb hby own_dna40) hr), hrun, hended, _, _, rfl, ⟨⟨_, rfl, own_HI_top SH SE (by rw [hKe]; exact H3) b3'⟩, N0, e69⟩, ⟨_, rfl⟩, hW, hsame.mono (by decide) (by decide)⟩
       ·have hKn : K ≠ 3 := fun q => hk3 (by rw [q]; rfl)
        have hKl3 : 3 < K := by omega
        have hn3 : N 3 ≤ 8192 := by rw [hNi 3 hKl3]; exact own_it_b hN8 3
        have c75 : Steps p.tables e below S0 (T69.setTop (mkF m 29 #[.val (.ref ps), .val (.int (Int32.ofNat ww)), .val (.int (3 : Int32)), .val (.int (Int32.ofNat I3)), .val (.long (0 : Int64)), .second] [(.int (((Int32.ofNat I3).toUInt32 >>> ((6 : Int32) &&& 31).toUInt32).toInt32))])) := c71.trans (by
         refine XS.icmpNo X69.here hx rfl (hb hby own_dna22) rfl (feq hk3).1 ?_
         show Steps _ _ _ (.setTop _ (mkF _ 25 _ _)) _
         refine XS.iloadN X69.here hx rfl (hb hby own_dna25) rfl ?_
         show Steps _ _ _ (.setTop _ (mkF _ 26 _ _)) _
         refine XS.bipush X69.here hx rfl (hb hby own_dna26) ?_
         show Steps _ _ _ (.setTop _ (mkF _ 28 _ _)) _
         refine XS.iushr X69.here hx rfl (hb hby own_dna28) rfl ?_
         exact Steps.refl _)
        rw [own_ushr6 (show I3 < 2 ^ 31 by omega)] at c75
        obtain ⟨T77, X77, e77, st77⟩ := getF X69 hx hZ hown (host := "") (Or.inl (hw _ (own_m 20 rfl))) Via.refl e69 P.2.1 (g := (mkF m 30 #[.val (.ref ps), .val (.int (Int32.ofNat ww)), .val (.int (3 : Int32)), .val (.int (Int32.ofNat I3)), .val (.long (0 : Int64)), .second] [(.ref ps), (.int (Int32.ofNat (I3 / 64)))])) rfl rfl (hb hby own_dna30)
        have Rqg3a := P.2.2.2.1
        obtain ⟨cvg3a, Avg3a, Ovg3a, Svg3a, Hvg3a⟩ := Rqg3a
        have Lqg3 := P.2.2.2.2.1 3 hKl3
        obtain ⟨cLg3, ALg3, ELg3, SLg3, HLg3⟩ := Lqg3
        have c81 : Steps p.tables e below S0 (T77.setTop (mkF m 36 #[.val (.ref ps), .val (.int (Int32.ofNat ww)), .val (.int (3 : Int32)), .val (.int (Int32.ofNat I3)), .val (.long (0 : Int64)), .second] [(.int (Int32.ofNat (N 3))), (.int (Int32.ofNat (I3 / 64)))])) := c75.trans (by
         refine XS.aloadN X69.here hx rfl (hb hby own_dna29) rfl rfl ?_
         show Steps _ _ _ (.setTop _ (mkF _ 30 _ _)) _
         refine st77 _ ?_
         show Steps _ _ _ (.setTop _ (mkF _ 33 _ _)) _
         refine XS.iloadN X77.here hx rfl (hb hby own_dna33) rfl ?_
         show Steps _ _ _ (.setTop _ (mkF _ 34 _ _)) _
         refine X77.aaload hx (j := (3 : Int32)) (v := (.ref (ls 3))) (by rw [e77]; exact Avg3a.1) (State.isArrayOf_alike hZ.alike Avg3a.2.1) rfl Avg3a.2.2 (own_inb (j := 3) Svg3a hKl3 (by omega)) (Hvg3a 3 hKl3) (g := (mkF m 34 #[.val (.ref ps), .val (.int (Int32.ofNat ww)), .val (.int (3 : Int32)), .val (.int (Int32.ofNat I3)), .val (.long (0 : Int64)), .second] [(.int (3 : Int32)), (.ref lv), (.int (Int32.ofNat (I3 / 64)))])) rfl rfl (hb hby own_dna34) _ ?_
         show Steps _ _ _ (.setTop _ (mkF _ 35 _ _)) _
         refine X77.arraylength hx (by rw [e77]; exact ALg3.1) (State.isArrayOf_alike hZ.alike ALg3.2.1) (g := (mkF m 35 #[.val (.ref ps), .val (.int (Int32.ofNat ww)), .val (.int (3 : Int32)), .val (.int (Int32.ofNat I3)), .val (.long (0 : Int64)), .second] [(.ref (ls 3)), (.int (Int32.ofNat (I3 / 64)))])) rfl rfl (hb hby own_dna35) _ ?_
         rw [show cLg3.slots.size.toInt32 = Int32.ofNat (N 3) by rw [SLg3]]
         exact Steps.refl _)
        by_cases hf3 : (Int32.ofNat (I3 / 64)) < (Int32.ofNat (N 3))
        ·have hfl3 : I3 / 64 < N 3 := (own_ilt (by omega) (by omega)).mp hf3
         obtain ⟨T84, X84, e84, st84⟩ := getF X77 hx hZ hown (host := "") (Or.inl (hw _ (own_m 20 rfl))) Via.refl e77 P.2.1 (g := (mkF m 42 #[.val (.ref ps), .val (.int (Int32.ofNat ww)), .val (.int (3 : Int32)), .val (.int (Int32.ofNat I3)), .val (.long (0 : Int64)), .second] [(.ref ps)])) rfl rfl (hb hby own_dna42)
         have Rqg3b := P.2.2.2.1
         obtain ⟨cvg3b, Avg3b, Ovg3b, Svg3b, Hvg3b⟩ := Rqg3b
         have c88 : Steps p.tables e below S0 (T84.setTop (mkF m 51 #[.val (.ref ps), .val (.int (Int32.ofNat ww)), .val (.int (3 : Int32)), .val (.int (Int32.ofNat I3)), .val (.long (0 : Int64)), .second] [(.int (((Int32.ofNat I3).toUInt32 >>> ((6 : Int32) &&& 31).toUInt32).toInt32)), (.ref (ls 3))])) := c81.trans (by
          refine XS.icmpYes X77.here hx rfl (pc0 := 36) (pc' := 41) rfl (hb hby own_dna36) rfl (tlt hf3).1 (by decide) (by decide) ?_
          show Steps _ _ _ (.setTop _ (mkF _ 41 _ _)) _
          refine XS.aloadN X77.here hx rfl (hb hby own_dna41) rfl rfl ?_
          show Steps _ _ _ (.setTop _ (mkF _ 42 _ _)) _
          refine st84 _ ?_
          show Steps _ _ _ (.setTop _ (mkF _ 45 _ _)) _
          refine XS.iloadN X84.here hx rfl (hb hby own_dna45) rfl ?_
          show Steps _ _ _ (.setTop _ (mkF _ 46 _ _)) _
          refine X84.aaload hx (j := (3 : Int32)) (v := (.ref (ls 3))) (by rw [e84]; exact Avg3b.1) (State.isArrayOf_alike hZ.alike Avg3b.2.1) rfl Avg3b.2.2 (own_inb (j := 3) Svg3b hKl3 (by omega)) (Hvg3b 3 hKl3) (g := (mkF m 46 #[.val (.ref ps), .val (.int (Int32.ofNat ww)), .val (.int (3 : Int32)), .val (.int (Int32.ofNat I3)), .val (.long (0 : Int64)), .second] [(.int (3 : Int32)), (.ref lv)])) rfl rfl (hb hby own_dna46) _ ?_
          show Steps _ _ _ (.setTop _ (mkF _ 47 _ _)) _
          refine XS.iloadN X84.here hx rfl (hb hby own_dna47) rfl ?_
          show Steps _ _ _ (.setTop _ (mkF _ 48 _ _)) _
          refine XS.bipush X84.here hx rfl (hb hby own_dna48) ?_
          show Steps _ _ _ (.setTop _ (mkF _ 50 _ _)) _
          refine XS.iushr X84.here hx rfl (hb hby own_dna50) rfl ?_
          exact Steps.refl _)
         rw [own_ushr6 (show I3 < 2 ^ 31 by omega)] at c88
         have c90 : Steps p.tables e below S0 (T84.setTop (mkF m 59 #[.val (.ref ps), .val (.int (Int32.ofNat ww)), .val (.int (3 : Int32)), .val (.int (Int32.ofNat I3)), .val (.long (0 : Int64)), .second] [(.int ((Int32.ofNat I3) &&& (63 : Int32))), (.long (-1 : Int64)), (.long (f 3 (I3 / 64)))])) := c88.trans (by
          refine X84.laload hx (j := (Int32.ofNat (I3 / 64))) (v := (.long (f 3 (I3 / 64)))) (by rw [e84]; exact ALg3.1) (State.isArrayOf_alike hZ.alike ALg3.2.1) ALg3.2.2 (own_inb (j := I3 / 64) SLg3 hfl3 (by omega)) (by rw [own_cl (j := I3 / 64) (by omega)]; exact HLg3 (I3 / 64) hfl3) (g := (mkF m 51 #[.val (.ref ps), .val (.int (Int32.ofNat ww)), .val (.int (3 : Int32)), .val (.int (Int32.ofNat I3)), .val (.long (0 : Int64)), .second] [(.int (Int32.ofNat (I3 / 64))), (.ref (ls 3))])) rfl rfl (hb hby own_dna51) _ ?_
          show Steps _ _ _ (.setTop _ (mkF _ 52 _ _)) _
          refine X84.ldc2Long hx hown (mvT hZ (hw _ (own_m 49 rfl))) (g := (mkF m 52 #[.val (.ref ps), .val (.int (Int32.ofNat ww)), .val (.int (3 : Int32)), .val (.int (Int32.ofNat I3)), .val (.long (0 : Int64)), .second] [(.long (f 3 (I3 / 64)))])) rfl (hb hby own_dna52) _ ?_
          show Steps _ _ _ (.setTop _ (mkF _ 55 _ _)) _
          refine XS.iloadN X84.here hx rfl (hb hby own_dna55) rfl ?_
          show Steps _ _ _ (.setTop _ (mkF _ 56 _ _)) _
          refine XS.bipush X84.here hx rfl (hb hby own_dna56) ?_
          show Steps _ _ _ (.setTop _ (mkF _ 58 _ _)) _
          refine XS.iand X84.here hx rfl (hb hby own_dna58) rfl ?_
          exact Steps.refl _)
         rw [own_and63 (show I3 < 2 ^ 31 by omega)] at c90
         have c91 : Steps p.tables e below S0 (T84.setTop (mkF m 61 #[.val (.ref ps), .val (.int (Int32.ofNat ww)), .val (.int (3 : Int32)), .val (.int (Int32.ofNat I3)), .val (.long (0 : Int64)), .second] [(.long ((f 3 (I3 / 64)) &&& ((-1 : Int64) <<< ((Int32.ofNat (I3 % 64)) &&& 0x3f).toInt64)))])) := c90.trans (by
          refine XS.lshl X84.here hx rfl (hb hby own_dna59) rfl ?_
          show Steps _ _ _ (.setTop _ (mkF _ 60 _ _)) _
          refine XS.land X84.here hx rfl (hb hby own_dna60) rfl ?_
          exact Steps.refl _)
         obtain ⟨x3, hx3⟩ : ∃ z, z = f 3 (I3 / 64) &&& own_msk (I3 % 64) := ⟨_, rfl⟩
         have c91x : Steps p.tables e below S0 (T84.setTop (mkF m 61 #[.val (.ref ps), .val (.int (Int32.ofNat ww)), .val (.int (3 : Int32)), .val (.int (Int32.ofNat I3)), .val (.long (0 : Int64)), .second] [(.long (f 3 (I3 / 64) &&& own_msk (I3 % 64)))])) := c91
         rw [← hx3] at c91x
         have c92 : Steps p.tables e below S0 (T84.setTop (mkF m 67 #[.val (.ref ps), .val (.int (Int32.ofNat ww)), .val (.int (3 : Int32)), .val (.int (Int32.ofNat I3)), .val (.long x3), .second] [(.int (lcmpW x3 (0 : Int64)))])) := c91x.trans (by
          refine XS.lstore X84.here hx rfl (hb hby own_dna61) rfl rfl ?_
          show Steps _ _ _ (.setTop _ (mkF _ 63 _ _)) _
          refine XS.lload X84.here hx rfl (hb hby own_dna63) rfl ?_
          show Steps _ _ _ (.setTop _ (mkF _ 65 _ _)) _
          refine XS.lconst X84.here hx rfl (hb hby own_dna65) ?_
          show Steps _ _ _ (.setTop _ (mkF _ 66 _ _)) _
          refine XS.lcmp X84.here hx rfl (hb hby own_dna66) rfl ?_
          exact Steps.refl _)
         by_cases hz3 : (lcmpW x3 (0 : Int64)) = (0 : Int32)
         ·have hze3 : x3 = 0 := (lw_eq _ _).mp hz3
          have H4 := own_HI_up SE H3 hKl3 hfl3 (by rw [← hx3]; exact hze3)
          obtain ⟨I4, hI4⟩ : ∃ z, z = I3 / 64 + 1 := ⟨_, rfl⟩
          rw [← hI4] at H4
          have b4 : I4 ≤ 8192 := by omega
          have b4' : 1 ≤ I4 := by omega
          have c94 : Steps p.tables e below S0 (T84.setTop (mkF m 74 #[.val (.ref ps), .val (.int (Int32.ofNat ww)), .val (.int (3 : Int32)), .val (.int (Int32.ofNat I3)), .val (.long x3), .second] [(.int (((Int32.ofNat I3).toUInt32 >>> ((6 : Int32) &&& 31).toUInt32).toInt32))])) := c92.trans (by
           refine XS.ifNo X84.here hx rfl (hb hby own_dna67) rfl ((if0 _ _).trans (teq hz3).2) ?_
           show Steps _ _ _ (.setTop _ (mkF _ 70 _ _)) _
           refine XS.iloadN X84.here hx rfl (hb hby own_dna70) rfl ?_
           show Steps _ _ _ (.setTop _ (mkF _ 71 _ _)) _
           refine XS.bipush X84.here hx rfl (hb hby own_dna71) ?_
           show Steps _ _ _ (.setTop _ (mkF _ 73 _ _)) _
           refine XS.iushr X84.here hx rfl (hb hby own_dna73) rfl ?_
           exact Steps.refl _)
          rw [own_ushr6 (show I3 < 2 ^ 31 by omega)] at c94
          have c95 : Steps p.tables e below S0 (T84.setTop (mkF m 76 #[.val (.ref ps), .val (.int (Int32.ofNat ww)), .val (.int (3 : Int32)), .val (.int (Int32.ofNat I3)), .val (.long x3), .second] [(.int ((Int32.ofNat (I3 / 64)) + (1 : Int32)))])) := c94.trans (by
           refine XS.iconst X84.here hx rfl (hb hby own_dna74) ?_
           show Steps _ _ _ (.setTop _ (mkF _ 75 _ _)) _
           refine XS.iadd X84.here hx rfl (hb hby own_dna75) rfl ?_
           exact Steps.refl _)
          rw [(show Int32.ofNat (I3 / 64) + (1 : Int32) = Int32.ofNat (I3 / 64 + 1) from own_iadd (i := I3 / 64) (j := 1))] at c95
          rw [← hI4] at c95
          have c96 : Steps p.tables e below S0 (T84.setTop (mkF m 80 #[.val (.ref ps), .val (.int (Int32.ofNat ww)), .val (.int ((3 : Int32) + (1 : Int32))), .val (.int (Int32.ofNat I4)), .val (.long x3), .second] [])) := c95.trans (by
           refine XS.istoreN X84.here hx rfl (hb hby own_dna76) rfl rfl ?_
           show Steps _ _ _ (.setTop _ (mkF _ 77 _ _)) _
           refine XS.iinc X84.here hx rfl (hb hby own_dna77) rfl rfl ?_
           exact Steps.refl _)
          rw [(show (3 : Int32) + (1 : Int32) = 4 by decide)] at c96
          rw [hze3] at c96
          obtain ⟨T101, X101, e101, st101⟩ := getF X84 hx hZ hown (host := "") (Or.inl (hw _ (own_m 20 rfl))) Via.refl e84 P.2.1 (g := (mkF m 18 #[.val (.ref ps), .val (.int (Int32.ofNat ww)), .val (.int (4 : Int32)), .val (.int (Int32.ofNat I4)), .val (.long (0 : Int64)), .second] [(.ref ps), (.int (4 : Int32))])) rfl rfl (hb hby own_dna18)
          have Rlg4 := P.2.2.2.1
          obtain ⟨crg4, Arg4, -, Srg4, -⟩ := Rlg4
          have c103 : Steps p.tables e below S0 (T101.setTop (mkF m 22 #[.val (.ref ps), .val (.int (Int32.ofNat ww)), .val (.int (4 : Int32)), .val (.int (Int32.ofNat I4)), .val (.long (0 : Int64)), .second] [(.int (Int32.ofNat K)), (.int (4 : Int32))])) := c96.trans (by
           refine XS.goto X84.here hx rfl (pc0 := 80) (pc' := 9) rfl (hb hby own_dna80) (by decide) (by decide) ?_
           show Steps _ _ _ (.setTop _ (mkF _ 9 _ _)) _
           refine XS.lload X84.here hx rfl (hb hby own_dna9) rfl ?_
           show Steps _ _ _ (.setTop _ (mkF _ 11 _ _)) _
           refine XS.lconst X84.here hx rfl (hb hby own_dna11) ?_
           show Steps _ _ _ (.setTop _ (mkF _ 12 _ _)) _
           refine XS.lcmp X84.here hx rfl (hb hby own_dna12) rfl ?_
           show Steps _ _ _ (.setTop _ (mkF _ 13 _ _)) _
           refine XS.ifNo X84.here hx rfl (hb hby own_dna13) rfl ((if0 _ _).trans (teq (by decide)).2) ?_
           show Steps _ _ _ (.setTop _ (mkF _ 16 _ _)) _
           refine XS.iloadN X84.here hx rfl (hb hby own_dna16) rfl ?_
           show Steps _ _ _ (.setTop _ (mkF _ 17 _ _)) _
           refine XS.aloadN X84.here hx rfl (hb hby own_dna17) rfl rfl ?_
           show Steps _ _ _ (.setTop _ (mkF _ 18 _ _)) _
           refine st101 _ ?_
           show Steps _ _ _ (.setTop _ (mkF _ 21 _ _)) _
           refine X101.arraylength hx (by rw [e101]; exact Arg4.1) (State.isArrayOf_alike hZ.alike Arg4.2.1) (g := (mkF m 21 #[.val (.ref ps), .val (.int (Int32.ofNat ww)), .val (.int (4 : Int32)), .val (.int (Int32.ofNat I4)), .val (.long (0 : Int64)), .second] [(.ref lv), (.int (4 : Int32))])) rfl rfl (hb hby own_dna21) _ ?_
           rw [show crg4.slots.size.toInt32 = Int32.ofNat K by rw [Srg4]]
           exact Steps.refl _)
          have hK4 : K = 4 := by omega
          have c105 : Steps p.tables e below S0 (T101.setTop (mkF m 40 #[.val (.ref ps), .val (.int (Int32.ofNat ww)), .val (.int (4 : Int32)), .val (.int (Int32.ofNat I4)), .val (.long (0 : Int64)), .second] [(.int (-1 : Int32))])) := c103.trans (by
           refine XS.icmpYes X101.here hx rfl (pc0 := 22) (pc' := 39) rfl (hb hby own_dna22) rfl (teq (show (4 : Int32) = Int32.ofNat K by rw [hK4]; rfl)).1 (by decide) (by decide) ?_
           show Steps _ _ _ (.setTop _ (mkF _ 39 _ _)) _
           refine XS.iconst X101.here hx rfl (hb hby own_dna39) ?_
           exact Steps.refl _)
          obtain ⟨fs, hr, hrun, hended, hW, hsame⟩ := X101.leave (v := some (.int (-1 : Int32))) (fun h => by rw [Bd.returns] at h; cases h)
          exact ⟨_, _, c105.trans (retOut X101 hx (t := .int) (i := .ireturn) Bd.returns rfl (Or.inl ⟨rfl, Or.inl rfl, _, rfl⟩) (hb hby own_dna40) hr), hrun, hended, _, _, rfl, ⟨⟨_, rfl, own_HI_top SH SE (by rw [hK4]; exact H4) b4'⟩, N0, e101⟩, ⟨_, rfl⟩, hW, hsame.mono (by decide) (by decide)⟩
         ·have hzn3 : ¬ x3 = 0 := fun q => hz3 (own_lc0 q)
          obtain ⟨k3, hk643, hb13, hb23⟩ := own_low hzn3
          have c109 : Steps p.tables e below S0 (T84.setTop (mkF m 87 #[.val (.ref ps), .val (.int (Int32.ofNat ww)), .val (.int (3 : Int32)), .val (.int (Int32.ofNat I3)), .val (.long x3), .second] [(.int ((Int32.ofNat I3) &&& (-64 : Int32)))])) := c92.trans (by
           refine XS.ifYes X84.here hx rfl (pc0 := 67) (pc' := 9) rfl (hb hby own_dna67) rfl ((if0 _ _).trans (feq hz3).2) (by decide) (by decide) ?_
           show Steps _ _ _ (.setTop _ (mkF _ 9 _ _)) _
           refine XS.lload X84.here hx rfl (hb hby own_dna9) rfl ?_
           show Steps _ _ _ (.setTop _ (mkF _ 11 _ _)) _
           refine XS.lconst X84.here hx rfl (hb hby own_dna11) ?_
           show Steps _ _ _ (.setTop _ (mkF _ 12 _ _)) _
           refine XS.lcmp X84.here hx rfl (hb hby own_dna12) rfl ?_
           show Steps _ _ _ (.setTop _ (mkF _ 13 _ _)) _
           refine XS.ifYes X84.here hx rfl (pc0 := 13) (pc' := 83) rfl (hb hby own_dna13) rfl ((if0 _ _).trans (feq hz3).2) (by decide) (by decide) ?_
           show Steps _ _ _ (.setTop _ (mkF _ 83 _ _)) _
           refine XS.iloadN X84.here hx rfl (hb hby own_dna83) rfl ?_
           show Steps _ _ _ (.setTop _ (mkF _ 84 _ _)) _
           refine XS.bipush X84.here hx rfl (hb hby own_dna84) ?_
           show Steps _ _ _ (.setTop _ (mkF _ 86 _ _)) _
           refine XS.iand X84.here hx rfl (hb hby own_dna86) rfl ?_
           exact Steps.refl _)
          rw [own_neg64 (show I3 < 2 ^ 31 by omega)] at c109
          have c110 : Steps p.tables e below S0 (T84.setTop (mkF m 89 #[.val (.ref ps), .val (.int (Int32.ofNat ww)), .val (.int (3 : Int32)), .val (.int (Int32.ofNat I3)), .val (.long x3), .second] [(.long x3), (.int (Int32.ofNat (64 * (I3 / 64))))])) := c109.trans (by
           refine XS.lload X84.here hx rfl (hb hby own_dna87) rfl ?_
           exact Steps.refl _)
          obtain ⟨_, _, ⟨T111, L111, k111, n111⟩, -, X111, ⟨Lc111, hQ111, l111, y111, z111⟩, st111⟩ := Jvm.LawKit.callS X84 hx (y := (⟨"java/lang/Long", "numberOfTrailingZeros", "(J)I"⟩ : MethodName)) hown (mvT hZ (hw _ (own_m 62 rfl))) (mvT hZ (hw _ (own_m 63 rfl))) (mvT hZ (hw _ (own_m 64 rfl))) (mvT hZ (hw _ (own_m 65 rfl))) (by decide) (backOf (W := 1) (own_ntL l Z a0 hw [] x3 h0 n0 Z0) hZ (hw _ (own_m 65 rfl)) (hw _ (own_m 64 rfl)) (Nat.le_of_ble_eq_true rfl) (Nat.le_of_ble_eq_true rfl)) (g := (mkF m 89 #[.val (.ref ps), .val (.int (Int32.ofNat ww)), .val (.int (3 : Int32)), .val (.int (Int32.ofNat I3)), .val (.long x3), .second] [(.long x3), (.int (Int32.ofNat (64 * (I3 / 64))))])) rfl (by rw [hml]; rfl) (argsL := [(.long x3)]) (rest := [(.int (Int32.ofNat (64 * (I3 / 64))))]) (lenOf own_pd6 rfl) rfl (by show 2 * 0 + _ ≤ _; exact Nat.le_of_eq rfl) (hb hby own_dna89) (fun _ _ => ⟨rfl, e84, (Nat.le_of_ble_eq_true rfl), (Nat.le_of_ble_eq_true rfl)⟩)
          dsimp only [Pt.U, Pt.locs, Pt.cells, Pt.slots] at X111 l111 y111 z111 st111 hQ111
          subst l111 y111 z111
          obtain ⟨rfl, N111q, eng3⟩ := hQ111
          have N111 := Fr.app N0 N111q
          have c113 : Steps p.tables e below S0 (T111.setTop (mkF m 93 #[.val (.ref ps), .val (.int (Int32.ofNat ww)), .val (.int (3 : Int32)), .val (.int (Int32.ofNat I3)), .val (.long x3), .second] [(.int ((Int32.ofNat (64 * (I3 / 64))) + (own_nt64 x3)))])) := c110.trans (by
           refine st111 _ ?_
           show Steps _ _ _ (.setTop _ (mkF _ 92 _ _)) _
           refine XS.iadd X111.here hx rfl (hb hby own_dna92) rfl ?_
           exact Steps.refl _)
          rw [own_nt_of hk643 hb13 hb23] at c113
          obtain ⟨J3, hJd3⟩ : ∃ z, z = 64 * (I3 / 64) + k3 := ⟨_, rfl⟩
          have HDJ3 := own_HI_hit SE H3 hKl3 hfl3 hk643 (by rw [← hx3]; exact hb13) (by rw [← hx3]; exact hb23)
          rw [← hJd3] at HDJ3
          rw [← hJd3] at c113
          have c117 : Steps p.tables e below S0 (T111.setTop (mkF m 101 #[.val (.ref ps), .val (.int (Int32.ofNat ww)), .val (.int ((3 : Int32) + (-1 : Int32))), .val (.int (Int32.ofNat J3)), .val (.long x3), .second] [])) := c113.trans (by
           refine XS.istoreN X111.here hx rfl (hb hby own_dna93) rfl rfl ?_
           show Steps _ _ _ (.setTop _ (mkF _ 94 _ _)) _
           refine XS.iloadN X111.here hx rfl (hb hby own_dna94) rfl ?_
           show Steps _ _ _ (.setTop _ (mkF _ 95 _ _)) _
           refine XS.ifNo X111.here hx rfl (hb hby own_dna95) rfl ((if0 _ _).trans (tlt (by decide)).2.2.2) ?_
           show Steps _ _ _ (.setTop _ (mkF _ 98 _ _)) _
           refine XS.iinc X111.here hx rfl (hb hby own_dna98) rfl rfl ?_
           exact Steps.refl _)
          rw [(show (3 : Int32) + (-1 : Int32) = 2 by decide)] at c117
          have hkg5 : 2 < K := by omega
          have hJg5 : J3 < N 2 := own_HD_lt SH SE HDJ3 hkg5
          have hng5 : N 2 ≤ 8192 := by rw [hNi 2 hkg5]; exact own_it_b hN8 2
          have c118 : Steps p.tables e below S0 (T111.setTop (mkF m 105 #[.val (.ref ps), .val (.int (Int32.ofNat ww)), .val (.int (2 : Int32)), .val (.int (Int32.ofNat J3)), .val (.long x3), .second] [(.int ((Int32.ofNat J3) <<< ((6 : Int32) &&& 31)))])) := c117.trans (by
           refine XS.iloadN X111.here hx rfl (hb hby own_dna101) rfl ?_
           show Steps _ _ _ (.setTop _ (mkF _ 102 _ _)) _
           refine XS.bipush X111.here hx rfl (hb hby own_dna102) ?_
           show Steps _ _ _ (.setTop _ (mkF _ 104 _ _)) _
           refine XS.ishl X111.here hx rfl (hb hby own_dna104) rfl ?_
           exact Steps.refl _)
          rw [own_shl6 (show J3 < 2 ^ 24 by omega)] at c118
          obtain ⟨T120, X120, e120, st120⟩ := getF X111 hx hZ hown (host := "") (Or.inl (hw _ (own_m 20 rfl))) Via.refl eng3 P.2.1 (g := (mkF m 106 #[.val (.ref ps), .val (.int (Int32.ofNat ww)), .val (.int (2 : Int32)), .val (.int (Int32.ofNat J3)), .val (.long x3), .second] [(.ref ps), (.int (Int32.ofNat (64 * J3)))])) rfl rfl (hb hby own_dna106)
          have Rqg5 := P.2.2.2.1
          obtain ⟨cvg5, Avg5, Ovg5, Svg5, Hvg5⟩ := Rqg5
          obtain ⟨cLg5, ALg5, ELg5, SLg5, HLg5⟩ := P.2.2.2.2.1 2 hkg5
          have c125 : Steps p.tables e below S0 (T120.setTop (mkF m 113 #[.val (.ref ps), .val (.int (Int32.ofNat ww)), .val (.int (2 : Int32)), .val (.int (Int32.ofNat J3)), .val (.long x3), .second] [(.long (f 2 J3)), (.int (Int32.ofNat (64 * J3)))])) := c118.trans (by
           refine XS.aloadN X111.here hx rfl (hb hby own_dna105) rfl rfl ?_
           show Steps _ _ _ (.setTop _ (mkF _ 106 _ _)) _
           refine st120 _ ?_
           show Steps _ _ _ (.setTop _ (mkF _ 109 _ _)) _
           refine XS.iloadN X120.here hx rfl (hb hby own_dna109) rfl ?_
           show Steps _ _ _ (.setTop _ (mkF _ 110 _ _)) _
           refine X120.aaload hx (j := (2 : Int32)) (v := (.ref (ls 2))) (by rw [e120]; exact Avg5.1) (State.isArrayOf_alike hZ.alike Avg5.2.1) rfl Avg5.2.2 (own_inb (j := 2) Svg5 hkg5 (by omega)) (Hvg5 2 hkg5) (g := (mkF m 110 #[.val (.ref ps), .val (.int (Int32.ofNat ww)), .val (.int (2 : Int32)), .val (.int (Int32.ofNat J3)), .val (.long x3), .second] [(.int (2 : Int32)), (.ref lv), (.int (Int32.ofNat (64 * J3)))])) rfl rfl (hb hby own_dna110) _ ?_
           show Steps _ _ _ (.setTop _ (mkF _ 111 _ _)) _
           refine XS.iloadN X120.here hx rfl (hb hby own_dna111) rfl ?_
           show Steps _ _ _ (.setTop _ (mkF _ 112 _ _)) _
           refine X120.laload hx (j := (Int32.ofNat J3)) (v := (.long (f 2 J3))) (by rw [e120]; exact ALg5.1) (State.isArrayOf_alike hZ.alike ALg5.2.1) ALg5.2.2 (own_inb (j := J3) SLg5 hJg5 (by omega)) (by rw [own_cl (j := J3) (by omega)]; exact HLg5 J3 hJg5) (g := (mkF m 112 #[.val (.ref ps), .val (.int (Int32.ofNat ww)), .val (.int (2 : Int32)), .val (.int (Int32.ofNat J3)), .val (.long x3), .second] [(.int (Int32.ofNat J3)), (.ref (ls 2)), (.int (Int32.ofNat (64 * J3)))])) rfl rfl (hb hby own_dna112) _ ?_
           exact Steps.refl _)
          obtain ⟨kg5, hk64g5, hb1g5, hb2g5⟩ := own_low (own_HD_ne SE HDJ3 hkg5 hJg5)
          obtain ⟨Jg5, hJdg5⟩ : ∃ z, z = 64 * J3 + kg5 := ⟨_, rfl⟩
          have HDJg5 := own_HD_down SE HDJ3 hkg5 hJg5 hk64g5 hb1g5 hb2g5
          rw [← hJdg5] at HDJg5
          obtain ⟨_, _, ⟨T126, L126, k126, n126⟩, -, X126, ⟨Lc126, hQ126, l126, y126, z126⟩, st126⟩ := Jvm.LawKit.callS X120 hx (y := (⟨"java/lang/Long", "numberOfTrailingZeros", "(J)I"⟩ : MethodName)) hown (mvT hZ (hw _ (own_m 62 rfl))) (mvT hZ (hw _ (own_m 63 rfl))) (mvT hZ (hw _ (own_m 64 rfl))) (mvT hZ (hw _ (own_m 65 rfl))) (by decide) (backOf (W := 1) (own_ntL l Z a0 hw [] (f 2 J3) h0 n0 Z0) hZ (hw _ (own_m 65 rfl)) (hw _ (own_m 64 rfl)) (Nat.le_of_ble_eq_true rfl) (Nat.le_of_ble_eq_true rfl)) (g := (mkF m 113 #[.val (.ref ps), .val (.int (Int32.ofNat ww)), .val (.int (2 : Int32)), .val (.int (Int32.ofNat J3)), .val (.long x3), .second] [(.long (f 2 J3)), (.int (Int32.ofNat (64 * J3)))])) rfl (by rw [hml]; rfl) (argsL := [(.long (f 2 J3))]) (rest := [(.int (Int32.ofNat (64 * J3)))]) (lenOf own_pd6 rfl) rfl (by show 2 * 0 + _ ≤ _; exact Nat.le_of_eq rfl) (hb hby own_dna113) (fun _ _ => ⟨rfl, e120, (Nat.le_of_ble_eq_true rfl), (Nat.le_of_ble_eq_true rfl)⟩)
          dsimp only [Pt.U, Pt.locs, Pt.cells, Pt.slots] at X126 l126 y126 z126 st126 hQ126
          subst l126 y126 z126
          obtain ⟨rfl, N126q, eng5⟩ := hQ126
          have N126 := Fr.app N111 N126q
          have c128 : Steps p.tables e below S0 (T126.setTop (mkF m 117 #[.val (.ref ps), .val (.int (Int32.ofNat ww)), .val (.int (2 : Int32)), .val (.int (Int32.ofNat J3)), .val (.long x3), .second] [(.int ((Int32.ofNat (64 * J3)) + (own_nt64 (f 2 J3))))])) := c125.trans (by
           refine st126 _ ?_
           show Steps _ _ _ (.setTop _ (mkF _ 116 _ _)) _
           refine XS.iadd X126.here hx rfl (hb hby own_dna116) rfl ?_
           exact Steps.refl _)
          rw [own_nt_of hk64g5 hb1g5 hb2g5] at c128
          rw [← hJdg5] at c128
          have c132 : Steps p.tables e below S0 (T126.setTop (mkF m 101 #[.val (.ref ps), .val (.int (Int32.ofNat ww)), .val (.int ((2 : Int32) + (-1 : Int32))), .val (.int (Int32.ofNat Jg5)), .val (.long x3), .second] [])) := c128.trans (by
           refine XS.istoreN X126.here hx rfl (hb hby own_dna117) rfl rfl ?_
           show Steps _ _ _ (.setTop _ (mkF _ 118 _ _)) _
           refine XS.goto X126.here hx rfl (pc0 := 118) (pc' := 94) rfl (hb hby own_dna118) (by decide) (by decide) ?_
           show Steps _ _ _ (.setTop _ (mkF _ 94 _ _)) _
           refine XS.iloadN X126.here hx rfl (hb hby own_dna94) rfl ?_
           show Steps _ _ _ (.setTop _ (mkF _ 95 _ _)) _
           refine XS.ifNo X126.here hx rfl (hb hby own_dna95) rfl ((if0 _ _).trans (tlt (by decide)).2.2.2) ?_
           show Steps _ _ _ (.setTop _ (mkF _ 98 _ _)) _
           refine XS.iinc X126.here hx rfl (hb hby own_dna98) rfl rfl ?_
           exact Steps.refl _)
          rw [(show (2 : Int32) + (-1 : Int32) = 1 by decide)] at c132
          have hkg6 : 1 < K := by omega
          have hJg6 : Jg5 < N 1 := own_HD_lt SH SE HDJg5 hkg6
          have hng6 : N 1 ≤ 8192 := by rw [hNi 1 hkg6]; exact own_it_b hN8 1
          have c133 : Steps p.tables e below S0 (T126.setTop (mkF m 105 #[.val (.ref ps), .val (.int (Int32.ofNat ww)), .val (.int (1 : Int32)), .val (.int (Int32.ofNat Jg5)), .val (.long x3), .second] [(.int ((Int32.ofNat Jg5) <<< ((6 : Int32) &&& 31)))])) := c132.trans (by
           refine XS.iloadN X126.here hx rfl (hb hby own_dna101) rfl ?_
           show Steps _ _ _ (.setTop _ (mkF _ 102 _ _)) _
           refine XS.bipush X126.here hx rfl (hb hby own_dna102) ?_
           show Steps _ _ _ (.setTop _ (mkF _ 104 _ _)) _
           refine XS.ishl X126.here hx rfl (hb hby own_dna104) rfl ?_
           exact Steps.refl _)
          rw [own_shl6 (show Jg5 < 2 ^ 24 by omega)] at c133
          obtain ⟨T135, X135, e135, st135⟩ := getF X126 hx hZ hown (host := "") (Or.inl (hw _ (own_m 20 rfl))) Via.refl eng5 P.2.1 (g := (mkF m 106 #[.val (.ref ps), .val (.int (Int32.ofNat ww)), .val (.int (1 : Int32)), .val (.int (Int32.ofNat Jg5)), .val (.long x3), .second] [(.ref ps), (.int (Int32.ofNat (64 * Jg5)))])) rfl rfl (hb hby own_dna106)
          have Rqg6 := P.2.2.2.1
          obtain ⟨cvg6, Avg6, Ovg6, Svg6, Hvg6⟩ := Rqg6
          obtain ⟨cLg6, ALg6, ELg6, SLg6, HLg6⟩ := P.2.2.2.2.1 1 hkg6
          have c140 : Steps p.tables e below S0 (T135.setTop (mkF m 113 #[.val (.ref ps), .val (.int (Int32.ofNat ww)), .val (.int (1 : Int32)), .val (.int (Int32.ofNat Jg5)), .val (.long x3), .second] [(.long (f 1 Jg5)), (.int (Int32.ofNat (64 * Jg5)))])) := c133.trans (by
           refine XS.aloadN X126.here hx rfl (hb hby own_dna105) rfl rfl ?_
           show Steps _ _ _ (.setTop _ (mkF _ 106 _ _)) _
           refine st135 _ ?_
           show Steps _ _ _ (.setTop _ (mkF _ 109 _ _)) _
           refine XS.iloadN X135.here hx rfl (hb hby own_dna109) rfl ?_
           show Steps _ _ _ (.setTop _ (mkF _ 110 _ _)) _
           refine X135.aaload hx (j := (1 : Int32)) (v := (.ref (ls 1))) (by rw [e135]; exact Avg6.1) (State.isArrayOf_alike hZ.alike Avg6.2.1) rfl Avg6.2.2 (own_inb (j := 1) Svg6 hkg6 (by omega)) (Hvg6 1 hkg6) (g := (mkF m 110 #[.val (.ref ps), .val (.int (Int32.ofNat ww)), .val (.int (1 : Int32)), .val (.int (Int32.ofNat Jg5)), .val (.long x3), .second] [(.int (1 : Int32)), (.ref lv), (.int (Int32.ofNat (64 * Jg5)))])) rfl rfl (hb hby own_dna110) _ ?_
           show Steps _ _ _ (.setTop _ (mkF _ 111 _ _)) _
           refine XS.iloadN X135.here hx rfl (hb hby own_dna111) rfl ?_
           show Steps _ _ _ (.setTop _ (mkF _ 112 _ _)) _
           refine X135.laload hx (j := (Int32.ofNat Jg5)) (v := (.long (f 1 Jg5))) (by rw [e135]; exact ALg6.1) (State.isArrayOf_alike hZ.alike ALg6.2.1) ALg6.2.2 (own_inb (j := Jg5) SLg6 hJg6 (by omega)) (by rw [own_cl (j := Jg5) (by omega)]; exact HLg6 Jg5 hJg6) (g := (mkF m 112 #[.val (.ref ps), .val (.int (Int32.ofNat ww)), .val (.int (1 : Int32)), .val (.int (Int32.ofNat Jg5)), .val (.long x3), .second] [(.int (Int32.ofNat Jg5)), (.ref (ls 1)), (.int (Int32.ofNat (64 * Jg5)))])) rfl rfl (hb hby own_dna112) _ ?_
           exact Steps.refl _)
          obtain ⟨kg6, hk64g6, hb1g6, hb2g6⟩ := own_low (own_HD_ne SE HDJg5 hkg6 hJg6)
          obtain ⟨Jg6, hJdg6⟩ : ∃ z, z = 64 * Jg5 + kg6 := ⟨_, rfl⟩
          have HDJg6 := own_HD_down SE HDJg5 hkg6 hJg6 hk64g6 hb1g6 hb2g6
          rw [← hJdg6] at HDJg6
          obtain ⟨_, _, ⟨T141, L141, k141, n141⟩, -, X141, ⟨Lc141, hQ141, l141, y141, z141⟩, st141⟩ := Jvm.LawKit.callS X135 hx (y := (⟨"java/lang/Long", "numberOfTrailingZeros", "(J)I"⟩ : MethodName)) hown (mvT hZ (hw _ (own_m 62 rfl))) (mvT hZ (hw _ (own_m 63 rfl))) (mvT hZ (hw _ (own_m 64 rfl))) (mvT hZ (hw _ (own_m 65 rfl))) (by decide) (backOf (W := 1) (own_ntL l Z a0 hw [] (f 1 Jg5) h0 n0 Z0) hZ (hw _ (own_m 65 rfl)) (hw _ (own_m 64 rfl)) (Nat.le_of_ble_eq_true rfl) (Nat.le_of_ble_eq_true rfl)) (g := (mkF m 113 #[.val (.ref ps), .val (.int (Int32.ofNat ww)), .val (.int (1 : Int32)), .val (.int (Int32.ofNat Jg5)), .val (.long x3), .second] [(.long (f 1 Jg5)), (.int (Int32.ofNat (64 * Jg5)))])) rfl (by rw [hml]; rfl) (argsL := [(.long (f 1 Jg5))]) (rest := [(.int (Int32.ofNat (64 * Jg5)))]) (lenOf own_pd6 rfl) rfl (by show 2 * 0 + _ ≤ _; exact Nat.le_of_eq rfl) (hb hby own_dna113) (fun _ _ => ⟨rfl, e135, (Nat.le_of_ble_eq_true rfl), (Nat.le_of_ble_eq_true rfl)⟩)
          dsimp only [Pt.U, Pt.locs, Pt.cells, Pt.slots] at X141 l141 y141 z141 st141 hQ141
          subst l141 y141 z141
          obtain ⟨rfl, N141q, eng6⟩ := hQ141
          have N141 := Fr.app N126 N141q
          have c143 : Steps p.tables e below S0 (T141.setTop (mkF m 117 #[.val (.ref ps), .val (.int (Int32.ofNat ww)), .val (.int (1 : Int32)), .val (.int (Int32.ofNat Jg5)), .val (.long x3), .second] [(.int ((Int32.ofNat (64 * Jg5)) + (own_nt64 (f 1 Jg5))))])) := c140.trans (by
           refine st141 _ ?_
           show Steps _ _ _ (.setTop _ (mkF _ 116 _ _)) _
           refine XS.iadd X141.here hx rfl (hb hby own_dna116) rfl ?_
           exact Steps.refl _)
          rw [own_nt_of hk64g6 hb1g6 hb2g6] at c143
          rw [← hJdg6] at c143
          have c147 : Steps p.tables e below S0 (T141.setTop (mkF m 101 #[.val (.ref ps), .val (.int (Int32.ofNat ww)), .val (.int ((1 : Int32) + (-1 : Int32))), .val (.int (Int32.ofNat Jg6)), .val (.long x3), .second] [])) := c143.trans (by
           refine XS.istoreN X141.here hx rfl (hb hby own_dna117) rfl rfl ?_
           show Steps _ _ _ (.setTop _ (mkF _ 118 _ _)) _
           refine XS.goto X141.here hx rfl (pc0 := 118) (pc' := 94) rfl (hb hby own_dna118) (by decide) (by decide) ?_
           show Steps _ _ _ (.setTop _ (mkF _ 94 _ _)) _
           refine XS.iloadN X141.here hx rfl (hb hby own_dna94) rfl ?_
           show Steps _ _ _ (.setTop _ (mkF _ 95 _ _)) _
           refine XS.ifNo X141.here hx rfl (hb hby own_dna95) rfl ((if0 _ _).trans (tlt (by decide)).2.2.2) ?_
           show Steps _ _ _ (.setTop _ (mkF _ 98 _ _)) _
           refine XS.iinc X141.here hx rfl (hb hby own_dna98) rfl rfl ?_
           exact Steps.refl _)
          rw [(show (1 : Int32) + (-1 : Int32) = 0 by decide)] at c147
          have hkg7 : 0 < K := by omega
          have hJg7 : Jg6 < N 0 := own_HD_lt SH SE HDJg6 hkg7
          have hng7 : N 0 ≤ 8192 := by rw [hNi 0 hkg7]; exact own_it_b hN8 0
          have c148 : Steps p.tables e below S0 (T141.setTop (mkF m 105 #[.val (.ref ps), .val (.int (Int32.ofNat ww)), .val (.int (0 : Int32)), .val (.int (Int32.ofNat Jg6)), .val (.long x3), .second] [(.int ((Int32.ofNat Jg6) <<< ((6 : Int32) &&& 31)))])) := c147.trans (by
           refine XS.iloadN X141.here hx rfl (hb hby own_dna101) rfl ?_
           show Steps _ _ _ (.setTop _ (mkF _ 102 _ _)) _
           refine XS.bipush X141.here hx rfl (hb hby own_dna102) ?_
           show Steps _ _ _ (.setTop _ (mkF _ 104 _ _)) _
           refine XS.ishl X141.here hx rfl (hb hby own_dna104) rfl ?_
           exact Steps.refl _)
          rw [own_shl6 (show Jg6 < 2 ^ 24 by omega)] at c148
          obtain ⟨T150, X150, e150, st150⟩ := getF X141 hx hZ hown (host := "") (Or.inl (hw _ (own_m 20 rfl))) Via.refl eng6 P.2.1 (g := (mkF m 106 #[.val (.ref ps), .val (.int (Int32.ofNat ww)), .val (.int (0 : Int32)), .val (.int (Int32.ofNat Jg6)), .val (.long x3), .second] [(.ref ps), (.int (Int32.ofNat (64 * Jg6)))])) rfl rfl (hb hby own_dna106)
          have Rqg7 := P.2.2.2.1
          obtain ⟨cvg7, Avg7, Ovg7, Svg7, Hvg7⟩ := Rqg7
          obtain ⟨cLg7, ALg7, ELg7, SLg7, HLg7⟩ := P.2.2.2.2.1 0 hkg7
          have c155 : Steps p.tables e below S0 (T150.setTop (mkF m 113 #[.val (.ref ps), .val (.int (Int32.ofNat ww)), .val (.int (0 : Int32)), .val (.int (Int32.ofNat Jg6)), .val (.long x3), .second] [(.long (f 0 Jg6)), (.int (Int32.ofNat (64 * Jg6)))])) := c148.trans (by
           refine XS.aloadN X141.here hx rfl (hb hby own_dna105) rfl rfl ?_
           show Steps _ _ _ (.setTop _ (mkF _ 106 _ _)) _
           refine st150 _ ?_
           show Steps _ _ _ (.setTop _ (mkF _ 109 _ _)) _
           refine XS.iloadN X150.here hx rfl (hb hby own_dna109) rfl ?_
           show Steps _ _ _ (.setTop _ (mkF _ 110 _ _)) _
           refine X150.aaload hx (j := (0 : Int32)) (v := (.ref (ls 0))) (by rw [e150]; exact Avg7.1) (State.isArrayOf_alike hZ.alike Avg7.2.1) rfl Avg7.2.2 (own_inb (j := 0) Svg7 hkg7 (by omega)) (Hvg7 0 hkg7) (g := (mkF m 110 #[.val (.ref ps), .val (.int (Int32.ofNat ww)), .val (.int (0 : Int32)), .val (.int (Int32.ofNat Jg6)), .val (.long x3), .second] [(.int (0 : Int32)), (.ref lv), (.int (Int32.ofNat (64 * Jg6)))])) rfl rfl (hb hby own_dna110) _ ?_
           show Steps _ _ _ (.setTop _ (mkF _ 111 _ _)) _
           refine XS.iloadN X150.here hx rfl (hb hby own_dna111) rfl ?_
           show Steps _ _ _ (.setTop _ (mkF _ 112 _ _)) _
           refine X150.laload hx (j := (Int32.ofNat Jg6)) (v := (.long (f 0 Jg6))) (by rw [e150]; exact ALg7.1) (State.isArrayOf_alike hZ.alike ALg7.2.1) ALg7.2.2 (own_inb (j := Jg6) SLg7 hJg7 (by omega)) (by rw [own_cl (j := Jg6) (by omega)]; exact HLg7 Jg6 hJg7) (g := (mkF m 112 #[.val (.ref ps), .val (.int (Int32.ofNat ww)), .val (.int (0 : Int32)), .val (.int (Int32.ofNat Jg6)), .val (.long x3), .second] [(.int (Int32.ofNat Jg6)), (.ref (ls 0)), (.int (Int32.ofNat (64 * Jg6)))])) rfl rfl (hb hby own_dna112) _ ?_
           exact Steps.refl _)
          obtain ⟨kg7, hk64g7, hb1g7, hb2g7⟩ := own_low (own_HD_ne SE HDJg6 hkg7 hJg7)
          obtain ⟨Jg7, hJdg7⟩ : ∃ z, z = 64 * Jg6 + kg7 := ⟨_, rfl⟩
          have HDJg7 := own_HD_down SE HDJg6 hkg7 hJg7 hk64g7 hb1g7 hb2g7
          rw [← hJdg7] at HDJg7
          obtain ⟨_, _, ⟨T156, L156, k156, n156⟩, -, X156, ⟨Lc156, hQ156, l156, y156, z156⟩, st156⟩ := Jvm.LawKit.callS X150 hx (y := (⟨"java/lang/Long", "numberOfTrailingZeros", "(J)I"⟩ : MethodName)) hown (mvT hZ (hw _ (own_m 62 rfl))) (mvT hZ (hw _ (own_m 63 rfl))) (mvT hZ (hw _ (own_m 64 rfl))) (mvT hZ (hw _ (own_m 65 rfl))) (by decide) (backOf (W := 1) (own_ntL l Z a0 hw [] (f 0 Jg6) h0 n0 Z0) hZ (hw _ (own_m 65 rfl)) (hw _ (own_m 64 rfl)) (Nat.le_of_ble_eq_true rfl) (Nat.le_of_ble_eq_true rfl)) (g := (mkF m 113 #[.val (.ref ps), .val (.int (Int32.ofNat ww)), .val (.int (0 : Int32)), .val (.int (Int32.ofNat Jg6)), .val (.long x3), .second] [(.long (f 0 Jg6)), (.int (Int32.ofNat (64 * Jg6)))])) rfl (by rw [hml]; rfl) (argsL := [(.long (f 0 Jg6))]) (rest := [(.int (Int32.ofNat (64 * Jg6)))]) (lenOf own_pd6 rfl) rfl (by show 2 * 0 + _ ≤ _; exact Nat.le_of_eq rfl) (hb hby own_dna113) (fun _ _ => ⟨rfl, e150, (Nat.le_of_ble_eq_true rfl), (Nat.le_of_ble_eq_true rfl)⟩)
          dsimp only [Pt.U, Pt.locs, Pt.cells, Pt.slots] at X156 l156 y156 z156 st156 hQ156
          subst l156 y156 z156
          obtain ⟨rfl, N156q, eng7⟩ := hQ156
          have N156 := Fr.app N141 N156q
          have c158 : Steps p.tables e below S0 (T156.setTop (mkF m 117 #[.val (.ref ps), .val (.int (Int32.ofNat ww)), .val (.int (0 : Int32)), .val (.int (Int32.ofNat Jg6)), .val (.long x3), .second] [(.int ((Int32.ofNat (64 * Jg6)) + (own_nt64 (f 0 Jg6))))])) := c155.trans (by
           refine st156 _ ?_
           show Steps _ _ _ (.setTop _ (mkF _ 116 _ _)) _
           refine XS.iadd X156.here hx rfl (hb hby own_dna116) rfl ?_
           exact Steps.refl _)
          rw [own_nt_of hk64g7 hb1g7 hb2g7] at c158
          rw [← hJdg7] at c158
          have c162 : Steps p.tables e below S0 (T156.setTop (mkF m 122 #[.val (.ref ps), .val (.int (Int32.ofNat ww)), .val (.int (0 : Int32)), .val (.int (Int32.ofNat Jg7)), .val (.long x3), .second] [(.int (Int32.ofNat Jg7))])) := c158.trans (by
           refine XS.istoreN X156.here hx rfl (hb hby own_dna117) rfl rfl ?_
           show Steps _ _ _ (.setTop _ (mkF _ 118 _ _)) _
           refine XS.goto X156.here hx rfl (pc0 := 118) (pc' := 94) rfl (hb hby own_dna118) (by decide) (by decide) ?_
           show Steps _ _ _ (.setTop _ (mkF _ 94 _ _)) _
           refine XS.iloadN X156.here hx rfl (hb hby own_dna94) rfl ?_
           show Steps _ _ _ (.setTop _ (mkF _ 95 _ _)) _
           refine XS.ifYes X156.here hx rfl (pc0 := 95) (pc' := 121) rfl (hb hby own_dna95) rfl ((if0 _ _).trans (flt (by decide)).2.2.2) (by decide) (by decide) ?_
           show Steps _ _ _ (.setTop _ (mkF _ 121 _ _)) _
           refine XS.iloadN X156.here hx rfl (hb hby own_dna121) rfl ?_
           exact Steps.refl _)
          obtain ⟨fs, hr, hrun, hended, hW, hsame⟩ := X156.leave (v := some (.int (Int32.ofNat Jg7))) (fun h => by rw [Bd.returns] at h; cases h)
          exact ⟨_, _, c162.trans (retOut X156 hx (t := .int) (i := .ireturn) Bd.returns rfl (Or.inl ⟨rfl, Or.inl rfl, _, rfl⟩) (hb hby own_dna122) hr), hrun, hended, _, _, rfl, ⟨⟨_, rfl, own_HD_zero HDJg7⟩, N156, eng7⟩, ⟨_, rfl⟩, hW, hsame.mono (by decide) (by decide)⟩
        ·have c164 : Steps p.tables e below S0 (T77.setTop (mkF m 40 #[.val (.ref ps), .val (.int (Int32.ofNat ww)), .val (.int (3 : Int32)), .val (.int (Int32.ofNat I3)), .val (.long (0 : Int64)), .second] [(.int (-1 : Int32))])) := c81.trans (by
          refine XS.icmpNo X77.here hx rfl (hb hby own_dna36) rfl (flt hf3).1 ?_
          show Steps _ _ _ (.setTop _ (mkF _ 39 _ _)) _
          refine XS.iconst X77.here hx rfl (hb hby own_dna39) ?_
          exact Steps.refl _)
         obtain ⟨fs, hr, hrun, hended, hW, hsame⟩ := X77.leave (v := some (.int (-1 : Int32))) (fun h => by rw [Bd.returns] at h; cases h)
         exact ⟨_, _, c164.trans (retOut X77 hx (t := .int) (i := .ireturn) Bd.returns rfl (Or.inl ⟨rfl, Or.inl rfl, _, rfl⟩) (hb hby own_dna40) hr), hrun, hended, _, _, rfl, ⟨⟨_, rfl, own_HI_far SH SE H3 hKl3 (fun q => hf3 ((own_ilt (by omega) (by omega)).mpr q))⟩, N0, e77⟩, ⟨_, rfl⟩, hW, hsame.mono (by decide) (by decide)⟩
      ·have hzn2 : ¬ x2 = 0 := fun q => hz2 (own_lc0 q)
       obtain ⟨k2, hk642, hb12, hb22⟩ := own_low hzn2
       have c168 : Steps p.tables e below S0 (T52.setTop (mkF m 87 #[.val (.ref ps), .val (.int (Int32.ofNat ww)), .val (.int (2 : Int32)), .val (.int (Int32.ofNat I2)), .val (.long x2), .second] [(.int ((Int32.ofNat I2) &&& (-64 : Int32)))])) := c60.trans (by
        refine XS.ifYes X52.here hx rfl (pc0 := 67) (pc' := 9) rfl (hb hby own_dna67) rfl ((if0 _ _).trans (feq hz2).2) (by decide) (by decide) ?_
        show Steps _ _ _ (.setTop _ (mkF _ 9 _ _)) _
        refine XS.lload X52.here hx rfl (hb hby own_dna9) rfl ?_
        show Steps _ _ _ (.setTop _ (mkF _ 11 _ _)) _
        refine XS.lconst X52.here hx rfl (hb hby own_dna11) ?_
        show Steps _ _ _ (.setTop _ (mkF _ 12 _ _)) _
        refine XS.lcmp X52.here hx rfl (hb hby own_dna12) rfl ?_
        show Steps _ _ _ (.setTop _ (mkF _ 13 _ _)) _
        refine XS.ifYes X52.here hx rfl (pc0 := 13) (pc' := 83) rfl (hb hby own_dna13) rfl ((if0 _ _).trans (feq hz2).2) (by decide) (by decide) ?_
        show Steps _ _ _ (.setTop _ (mkF _ 83 _ _)) _
        refine XS.iloadN X52.here hx rfl (hb hby own_dna83) rfl ?_
        show Steps _ _ _ (.setTop _ (mkF _ 84 _ _)) _
        refine XS.bipush X52.here hx rfl (hb hby own_dna84) ?_
        show Steps _ _ _ (.setTop _ (mkF _ 86 _ _)) _
        refine XS.iand X52.here hx rfl (hb hby own_dna86) rfl ?_
        exact Steps.refl _)
       rw [own_neg64 (show I2 < 2 ^ 31 by omega)] at c168
       have c169 : Steps p.tables e below S0 (T52.setTop (mkF m 89 #[.val (.ref ps), .val (.int (Int32.ofNat ww)), .val (.int (2 : Int32)), .val (.int (Int32.ofNat I2)), .val (.long x2), .second] [(.long x2), (.int (Int32.ofNat (64 * (I2 / 64))))])) := c168.trans (by
        refine XS.lload X52.here hx rfl (hb hby own_dna87) rfl ?_
        exact Steps.refl _)
       obtain ⟨_, _, ⟨T170, L170, k170, n170⟩, -, X170, ⟨Lc170, hQ170, l170, y170, z170⟩, st170⟩ := Jvm.LawKit.callS X52 hx (y := (⟨"java/lang/Long", "numberOfTrailingZeros", "(J)I"⟩ : MethodName)) hown (mvT hZ (hw _ (own_m 62 rfl))) (mvT hZ (hw _ (own_m 63 rfl))) (mvT hZ (hw _ (own_m 64 rfl))) (mvT hZ (hw _ (own_m 65 rfl))) (by decide) (backOf (W := 1) (own_ntL l Z a0 hw [] x2 h0 n0 Z0) hZ (hw _ (own_m 65 rfl)) (hw _ (own_m 64 rfl)) (Nat.le_of_ble_eq_true rfl) (Nat.le_of_ble_eq_true rfl)) (g := (mkF m 89 #[.val (.ref ps), .val (.int (Int32.ofNat ww)), .val (.int (2 : Int32)), .val (.int (Int32.ofNat I2)), .val (.long x2), .second] [(.long x2), (.int (Int32.ofNat (64 * (I2 / 64))))])) rfl (by rw [hml]; rfl) (argsL := [(.long x2)]) (rest := [(.int (Int32.ofNat (64 * (I2 / 64))))]) (lenOf own_pd6 rfl) rfl (by show 2 * 0 + _ ≤ _; exact Nat.le_of_eq rfl) (hb hby own_dna89) (fun _ _ => ⟨rfl, e52, (Nat.le_of_ble_eq_true rfl), (Nat.le_of_ble_eq_true rfl)⟩)
       dsimp only [Pt.U, Pt.locs, Pt.cells, Pt.slots] at X170 l170 y170 z170 st170 hQ170
       subst l170 y170 z170
       obtain ⟨rfl, N170q, eng2⟩ := hQ170
       have N170 := Fr.app N0 N170q
       have c172 : Steps p.tables e below S0 (T170.setTop (mkF m 93 #[.val (.ref ps), .val (.int (Int32.ofNat ww)), .val (.int (2 : Int32)), .val (.int (Int32.ofNat I2)), .val (.long x2), .second] [(.int ((Int32.ofNat (64 * (I2 / 64))) + (own_nt64 x2)))])) := c169.trans (by
        refine st170 _ ?_
        show Steps _ _ _ (.setTop _ (mkF _ 92 _ _)) _
        refine XS.iadd X170.here hx rfl (hb hby own_dna92) rfl ?_
        exact Steps.refl _)
       rw [own_nt_of hk642 hb12 hb22] at c172
       obtain ⟨J2, hJd2⟩ : ∃ z, z = 64 * (I2 / 64) + k2 := ⟨_, rfl⟩
       have HDJ2 := own_HI_hit SE H2 hKl2 hfl2 hk642 (by rw [← hx2]; exact hb12) (by rw [← hx2]; exact hb22)
       rw [← hJd2] at HDJ2
       rw [← hJd2] at c172
       have c176 : Steps p.tables e below S0 (T170.setTop (mkF m 101 #[.val (.ref ps), .val (.int (Int32.ofNat ww)), .val (.int ((2 : Int32) + (-1 : Int32))), .val (.int (Int32.ofNat J2)), .val (.long x2), .second] [])) := c172.trans (by
        refine XS.istoreN X170.here hx rfl (hb hby own_dna93) rfl rfl ?_
        show Steps _ _ _ (.setTop _ (mkF _ 94 _ _)) _
        refine XS.iloadN X170.here hx rfl (hb hby own_dna94) rfl ?_
        show Steps _ _ _ (.setTop _ (mkF _ 95 _ _)) _
        refine XS.ifNo X170.here hx rfl (hb hby own_dna95) rfl ((if0 _ _).trans (tlt (by decide)).2.2.2) ?_
        show Steps _ _ _ (.setTop _ (mkF _ 98 _ _)) _
        refine XS.iinc X170.here hx rfl (hb hby own_dna98) rfl rfl ?_
        exact Steps.refl _)
       rw [(show (2 : Int32) + (-1 : Int32) = 1 by decide)] at c176
       have hkg8 : 1 < K := by omega
       have hJg8 : J2 < N 1 := own_HD_lt SH SE HDJ2 hkg8
       have hng8 : N 1 ≤ 8192 := by rw [hNi 1 hkg8]; exact own_it_b hN8 1
       have c177 : Steps p.tables e below S0 (T170.setTop (mkF m 105 #[.val (.ref ps), .val (.int (Int32.ofNat ww)), .val (.int (1 : Int32)), .val (.int (Int32.ofNat J2)), .val (.long x2), .second] [(.int ((Int32.ofNat J2) <<< ((6 : Int32) &&& 31)))])) := c176.trans (by
        refine XS.iloadN X170.here hx rfl (hb hby own_dna101) rfl ?_
        show Steps _ _ _ (.setTop _ (mkF _ 102 _ _)) _
        refine XS.bipush X170.here hx rfl (hb hby own_dna102) ?_
        show Steps _ _ _ (.setTop _ (mkF _ 104 _ _)) _
        refine XS.ishl X170.here hx rfl (hb hby own_dna104) rfl ?_
        exact Steps.refl _)
       rw [own_shl6 (show J2 < 2 ^ 24 by omega)] at c177
       obtain ⟨T179, X179, e179, st179⟩ := getF X170 hx hZ hown (host := "") (Or.inl (hw _ (own_m 20 rfl))) Via.refl eng2 P.2.1 (g := (mkF m 106 #[.val (.ref ps), .val (.int (Int32.ofNat ww)), .val (.int (1 : Int32)), .val (.int (Int32.ofNat J2)), .val (.long x2), .second] [(.ref ps), (.int (Int32.ofNat (64 * J2)))])) rfl rfl (hb hby own_dna106)
       have Rqg8 := P.2.2.2.1
       obtain ⟨cvg8, Avg8, Ovg8, Svg8, Hvg8⟩ := Rqg8
       obtain ⟨cLg8, ALg8, ELg8, SLg8, HLg8⟩ := P.2.2.2.2.1 1 hkg8
       have c184 : Steps p.tables e below S0 (T179.setTop (mkF m 113 #[.val (.ref ps), .val (.int (Int32.ofNat ww)), .val (.int (1 : Int32)), .val (.int (Int32.ofNat J2)), .val (.long x2), .second] [(.long (f 1 J2)), (.int (Int32.ofNat (64 * J2)))])) := c177.trans (by
        refine XS.aloadN X170.here hx rfl (hb hby own_dna105) rfl rfl ?_
        show Steps _ _ _ (.setTop _ (mkF _ 106 _ _)) _
        refine st179 _ ?_
        show Steps _ _ _ (.setTop _ (mkF _ 109 _ _)) _
        refine XS.iloadN X179.here hx rfl (hb hby own_dna109) rfl ?_
        show Steps _ _ _ (.setTop _ (mkF _ 110 _ _)) _
        refine X179.aaload hx (j := (1 : Int32)) (v := (.ref (ls 1))) (by rw [e179]; exact Avg8.1) (State.isArrayOf_alike hZ.alike Avg8.2.1) rfl Avg8.2.2 (own_inb (j := 1) Svg8 hkg8 (by omega)) (Hvg8 1 hkg8) (g := (mkF m 110 #[.val (.ref ps), .val (.int (Int32.ofNat ww)), .val (.int (1 : Int32)), .val (.int (Int32.ofNat J2)), .val (.long x2), .second] [(.int (1 : Int32)), (.ref lv), (.int (Int32.ofNat (64 * J2)))])) rfl rfl (hb hby own_dna110) _ ?_
        show Steps _ _ _ (.setTop _ (mkF _ 111 _ _)) _
        refine XS.iloadN X179.here hx rfl (hb hby own_dna111) rfl ?_
        show Steps _ _ _ (.setTop _ (mkF _ 112 _ _)) _
        refine X179.laload hx (j := (Int32.ofNat J2)) (v := (.long (f 1 J2))) (by rw [e179]; exact ALg8.1) (State.isArrayOf_alike hZ.alike ALg8.2.1) ALg8.2.2 (own_inb (j := J2) SLg8 hJg8 (by omega)) (by rw [own_cl (j := J2) (by omega)]; exact HLg8 J2 hJg8) (g := (mkF m 112 #[.val (.ref ps), .val (.int (Int32.ofNat ww)), .val (.int (1 : Int32)), .val (.int (Int32.ofNat J2)), .val (.long x2), .second] [(.int (Int32.ofNat J2)), (.ref (ls 1)), (.int (Int32.ofNat (64 * J2)))])) rfl rfl (hb hby own_dna112) _ ?_
        exact Steps.refl _)
       obtain ⟨kg8, hk64g8, hb1g8, hb2g8⟩ := own_low (own_HD_ne SE HDJ2 hkg8 hJg8)
       obtain ⟨Jg8, hJdg8⟩ : ∃ z, z = 64 * J2 + kg8 := ⟨_, rfl⟩
       have HDJg8 := own_HD_down SE HDJ2 hkg8 hJg8 hk64g8 hb1g8 hb2g8
       rw [← hJdg8] at HDJg8
       obtain ⟨_, _, ⟨T185, L185, k185, n185⟩, -, X185, ⟨Lc185, hQ185, l185, y185, z185⟩, st185⟩ := Jvm.LawKit.callS X179 hx (y := (⟨"java/lang/Long", "numberOfTrailingZeros", "(J)I"⟩ : MethodName)) hown (mvT hZ (hw _ (own_m 62 rfl))) (mvT hZ (hw _ (own_m 63 rfl))) (mvT hZ (hw _ (own_m 64 rfl))) (mvT hZ (hw _ (own_m 65 rfl))) (by decide) (backOf (W := 1) (own_ntL l Z a0 hw [] (f 1 J2) h0 n0 Z0) hZ (hw _ (own_m 65 rfl)) (hw _ (own_m 64 rfl)) (Nat.le_of_ble_eq_true rfl) (Nat.le_of_ble_eq_true rfl)) (g := (mkF m 113 #[.val (.ref ps), .val (.int (Int32.ofNat ww)), .val (.int (1 : Int32)), .val (.int (Int32.ofNat J2)), .val (.long x2), .second] [(.long (f 1 J2)), (.int (Int32.ofNat (64 * J2)))])) rfl (by rw [hml]; rfl) (argsL := [(.long (f 1 J2))]) (rest := [(.int (Int32.ofNat (64 * J2)))]) (lenOf own_pd6 rfl) rfl (by show 2 * 0 + _ ≤ _; exact Nat.le_of_eq rfl) (hb hby own_dna113) (fun _ _ => ⟨rfl, e179, (Nat.le_of_ble_eq_true rfl), (Nat.le_of_ble_eq_true rfl)⟩)
       dsimp only [Pt.U, Pt.locs, Pt.cells, Pt.slots] at X185 l185 y185 z185 st185 hQ185
       subst l185 y185 z185
       obtain ⟨rfl, N185q, eng8⟩ := hQ185
       have N185 := Fr.app N170 N185q
       have c187 : Steps p.tables e below S0 (T185.setTop (mkF m 117 #[.val (.ref ps), .val (.int (Int32.ofNat ww)), .val (.int (1 : Int32)), .val (.int (Int32.ofNat J2)), .val (.long x2), .second] [(.int ((Int32.ofNat (64 * J2)) + (own_nt64 (f 1 J2))))])) := c184.trans (by
        refine st185 _ ?_
        show Steps _ _ _ (.setTop _ (mkF _ 116 _ _)) _
        refine XS.iadd X185.here hx rfl (hb hby own_dna116) rfl ?_
        exact Steps.refl _)
       rw [own_nt_of hk64g8 hb1g8 hb2g8] at c187
       rw [← hJdg8] at c187
       have c191 : Steps p.tables e below S0 (T185.setTop (mkF m 101 #[.val (.ref ps), .val (.int (Int32.ofNat ww)), .val (.int ((1 : Int32) + (-1 : Int32))), .val (.int (Int32.ofNat Jg8)), .val (.long x2), .second] [])) := c187.trans (by
        refine XS.istoreN X185.here hx rfl (hb hby own_dna117) rfl rfl ?_
        show Steps _ _ _ (.setTop _ (mkF _ 118 _ _)) _
        refine XS.goto X185.here hx rfl (pc0 := 118) (pc' := 94) rfl (hb hby own_dna118) (by decide) (by decide) ?_
        show Steps _ _ _ (.setTop _ (mkF _ 94 _ _)) _
        refine XS.iloadN X185.here hx rfl (hb hby own_dna94) rfl ?_
        show Steps _ _ _ (.setTop _ (mkF _ 95 _ _)) _
        refine XS.ifNo X185.here hx rfl (hb hby own_dna95) rfl ((if0 _ _).trans (tlt (by decide)).2.2.2) ?_
        show Steps _ _ _ (.setTop _ (mkF _ 98 _ _)) _
        refine XS.iinc X185.here hx rfl (hb hby own_dna98) rfl rfl ?_
        exact Steps.refl _)
       rw [(show (1 : Int32) + (-1 : Int32) = 0 by decide)] at c191
       have hkg9 : 0 < K := by omega
       have hJg9 : Jg8 < N 0 := own_HD_lt SH SE HDJg8 hkg9
       have hng9 : N 0 ≤ 8192 := by rw [hNi 0 hkg9]; exact own_it_b hN8 0
       have c192 : Steps p.tables e below S0 (T185.setTop (mkF m 105 #[.val (.ref ps), .val (.int (Int32.ofNat ww)), .val (.int (0 : Int32)), .val (.int (Int32.ofNat Jg8)), .val (.long x2), .second] [(.int ((Int32.ofNat Jg8) <<< ((6 : Int32) &&& 31)))])) := c191.trans (by
        refine XS.iloadN X185.here hx rfl (hb hby own_dna101) rfl ?_
        show Steps _ _ _ (.setTop _ (mkF _ 102 _ _)) _
        refine XS.bipush X185.here hx rfl (hb hby own_dna102) ?_
        show Steps _ _ _ (.setTop _ (mkF _ 104 _ _)) _
        refine XS.ishl X185.here hx rfl (hb hby own_dna104) rfl ?_
        exact Steps.refl _)
       rw [own_shl6 (show Jg8 < 2 ^ 24 by omega)] at c192
       obtain ⟨T194, X194, e194, st194⟩ := getF X185 hx hZ hown (host := "") (Or.inl (hw _ (own_m 20 rfl))) Via.refl eng8 P.2.1 (g := (mkF m 106 #[.val (.ref ps), .val (.int (Int32.ofNat ww)), .val (.int (0 : Int32)), .val (.int (Int32.ofNat Jg8)), .val (.long x2), .second] [(.ref ps), (.int (Int32.ofNat (64 * Jg8)))])) rfl rfl (hb hby own_dna106)
       have Rqg9 := P.2.2.2.1
       obtain ⟨cvg9, Avg9, Ovg9, Svg9, Hvg9⟩ := Rqg9
       obtain ⟨cLg9, ALg9, ELg9, SLg9, HLg9⟩ := P.2.2.2.2.1 0 hkg9
       have c199 : Steps p.tables e below S0 (T194.setTop (mkF m 113 #[.val (.ref ps), .val (.int (Int32.ofNat ww)), .val (.int (0 : Int32)), .val (.int (Int32.ofNat Jg8)), .val (.long x2), .second] [(.long (f 0 Jg8)), (.int (Int32.ofNat (64 * Jg8)))])) := c192.trans (by
        refine XS.aloadN X185.here hx rfl (hb hby own_dna105) rfl rfl ?_
        show Steps _ _ _ (.setTop _ (mkF _ 106 _ _)) _
        refine st194 _ ?_
        show Steps _ _ _ (.setTop _ (mkF _ 109 _ _)) _
        refine XS.iloadN X194.here hx rfl (hb hby own_dna109) rfl ?_
        show Steps _ _ _ (.setTop _ (mkF _ 110 _ _)) _
        refine X194.aaload hx (j := (0 : Int32)) (v := (.ref (ls 0))) (by rw [e194]; exact Avg9.1) (State.isArrayOf_alike hZ.alike Avg9.2.1) rfl Avg9.2.2 (own_inb (j := 0) Svg9 hkg9 (by omega)) (Hvg9 0 hkg9) (g := (mkF m 110 #[.val (.ref ps), .val (.int (Int32.ofNat ww)), .val (.int (0 : Int32)), .val (.int (Int32.ofNat Jg8)), .val (.long x2), .second] [(.int (0 : Int32)), (.ref lv), (.int (Int32.ofNat (64 * Jg8)))])) rfl rfl (hb hby own_dna110) _ ?_
        show Steps _ _ _ (.setTop _ (mkF _ 111 _ _)) _
        refine XS.iloadN X194.here hx rfl (hb hby own_dna111) rfl ?_
        show Steps _ _ _ (.setTop _ (mkF _ 112 _ _)) _
        refine X194.laload hx (j := (Int32.ofNat Jg8)) (v := (.long (f 0 Jg8))) (by rw [e194]; exact ALg9.1) (State.isArrayOf_alike hZ.alike ALg9.2.1) ALg9.2.2 (own_inb (j := Jg8) SLg9 hJg9 (by omega)) (by rw [own_cl (j := Jg8) (by omega)]; exact HLg9 Jg8 hJg9) (g := (mkF m 112 #[.val (.ref ps), .val (.int (Int32.ofNat ww)), .val (.int (0 : Int32)), .val (.int (Int32.ofNat Jg8)), .val (.long x2), .second] [(.int (Int32.ofNat Jg8)), (.ref (ls 0)), (.int (Int32.ofNat (64 * Jg8)))])) rfl rfl (hb hby own_dna112) _ ?_
        exact Steps.refl _)
       obtain ⟨kg9, hk64g9, hb1g9, hb2g9⟩ := own_low (own_HD_ne SE HDJg8 hkg9 hJg9)
       obtain ⟨Jg9, hJdg9⟩ : ∃ z, z = 64 * Jg8 + kg9 := ⟨_, rfl⟩
       have HDJg9 := own_HD_down SE HDJg8 hkg9 hJg9 hk64g9 hb1g9 hb2g9
       rw [← hJdg9] at HDJg9
       obtain ⟨_, _, ⟨T200, L200, k200, n200⟩, -, X200, ⟨Lc200, hQ200, l200, y200, z200⟩, st200⟩ := Jvm.LawKit.callS X194 hx (y := (⟨"java/lang/Long", "numberOfTrailingZeros", "(J)I"⟩ : MethodName)) hown (mvT hZ (hw _ (own_m 62 rfl))) (mvT hZ (hw _ (own_m 63 rfl))) (mvT hZ (hw _ (own_m 64 rfl))) (mvT hZ (hw _ (own_m 65 rfl))) (by decide) (backOf (W := 1) (own_ntL l Z a0 hw [] (f 0 Jg8) h0 n0 Z0) hZ (hw _ (own_m 65 rfl)) (hw _ (own_m 64 rfl)) (Nat.le_of_ble_eq_true rfl) (Nat.le_of_ble_eq_true rfl)) (g := (mkF m 113 #[.val (.ref ps), .val (.int (Int32.ofNat ww)), .val (.int (0 : Int32)), .val (.int (Int32.ofNat Jg8)), .val (.long x2), .second] [(.long (f 0 Jg8)), (.int (Int32.ofNat (64 * Jg8)))])) rfl (by rw [hml]; rfl) (argsL := [(.long (f 0 Jg8))]) (rest := [(.int (Int32.ofNat (64 * Jg8)))]) (lenOf own_pd6 rfl) rfl (by show 2 * 0 + _ ≤ _; exact Nat.le_of_eq rfl) (hb hby own_dna113) (fun _ _ => ⟨rfl, e194, (Nat.le_of_ble_eq_true rfl), (Nat.le_of_ble_eq_true rfl)⟩)
       dsimp only [Pt.U, Pt.locs, Pt.cells, Pt.slots] at X200 l200 y200 z200 st200 hQ200
       subst l200 y200 z200
       obtain ⟨rfl, N200q, eng9⟩ := hQ200
       have N200 := Fr.app N185 N200q
       have c202 : Steps p.tables e below S0 (T200.setTop (mkF m 117 #[.val (.ref ps), .val (.int (Int32.ofNat ww)), .val (.int (0 : Int32)), .val (.int (Int32.ofNat Jg8)), .val (.long x2), .second] [(.int ((Int32.ofNat (64 * Jg8)) + (own_nt64 (f 0 Jg8))))])) := c199.trans (by
        refine st200 _ ?_
        show Steps _ _ _ (.setTop _ (mkF _ 116 _ _)) _
        refine XS.iadd X200.here hx rfl (hb hby own_dna116) rfl ?_
        exact Steps.refl _)
       rw [own_nt_of hk64g9 hb1g9 hb2g9] at c202
       rw [← hJdg9] at c202
       have c206 : Steps p.tables e below S0 (T200.setTop (mkF m 122 #[.val (.ref ps), .val (.int (Int32.ofNat ww)), .val (.int (0 : Int32)), .val (.int (Int32.ofNat Jg9)), .val (.long x2), .second] [(.int (Int32.ofNat Jg9))])) := c202.trans (by
        refine XS.istoreN X200.here hx rfl (hb hby own_dna117) rfl rfl ?_
        show Steps _ _ _ (.setTop _ (mkF _ 118 _ _)) _
        refine XS.goto X200.here hx rfl (pc0 := 118) (pc' := 94) rfl (hb hby own_dna118) (by decide) (by decide) ?_
        show Steps _ _ _ (.setTop _ (mkF _ 94 _ _)) _
        refine XS.iloadN X200.here hx rfl (hb hby own_dna94) rfl ?_
        show Steps _ _ _ (.setTop _ (mkF _ 95 _ _)) _
        refine XS.ifYes X200.here hx rfl (pc0 := 95) (pc' := 121) rfl (hb hby own_dna95) rfl ((if0 _ _).trans (flt (by decide)).2.2.2) (by decide) (by decide) ?_
        show Steps _ _ _ (.setTop _ (mkF _ 121 _ _)) _
        refine XS.iloadN X200.here hx rfl (hb hby own_dna121) rfl ?_
        exact Steps.refl _)
       obtain ⟨fs, hr, hrun, hended, hW, hsame⟩ := X200.leave (v := some (.int (Int32.ofNat Jg9))) (fun h => by rw [Bd.returns] at h; cases h)
       exact ⟨_, _, c206.trans (retOut X200 hx (t := .int) (i := .ireturn) Bd.returns rfl (Or.inl ⟨rfl, Or.inl rfl, _, rfl⟩) (hb hby own_dna122) hr), hrun, hended, _, _, rfl, ⟨⟨_, rfl, own_HD_zero HDJg9⟩, N200, eng9⟩, ⟨_, rfl⟩, hW, hsame.mono (by decide) (by decide)⟩
     ·have c208 : Steps p.tables e below S0 (T45.setTop (mkF m 40 #[.val (.ref ps), .val (.int (Int32.ofNat ww)), .val (.int (2 : Int32)), .val (.int (Int32.ofNat I2)), .val (.long (0 : Int64)), .second] [(.int (-1 : Int32))])) := c49.trans (by
       refine XS.icmpNo X45.here hx rfl (hb hby own_dna36) rfl (flt hf2).1 ?_
       show Steps _ _ _ (.setTop _ (mkF _ 39 _ _)) _
       refine XS.iconst X45.here hx rfl (hb hby own_dna39) ?_
       exact Steps.refl _)
      obtain ⟨fs, hr, hrun, hended, hW, hsame⟩ := X45.leave (v := some (.int (-1 : Int32))) (fun h => by rw [Bd.returns] at h; cases h)
      exact ⟨_, _, c208.trans (retOut X45 hx (t := .int) (i := .ireturn) Bd.returns rfl (Or.inl ⟨rfl, Or.inl rfl, _, rfl⟩) (hb hby own_dna40) hr), hrun, hended, _, _, rfl, ⟨⟨_, rfl, own_HI_far SH SE H2 hKl2 (fun q => hf2 ((own_ilt (by omega) (by omega)).mpr q))⟩, N0, e45⟩, ⟨_, rfl⟩, hW, hsame.mono (by decide) (by decide)⟩
   ·have hzn1 : ¬ x1 = 0 := fun q => hz1 (own_lc0 q)
    obtain ⟨k1, hk641, hb11, hb21⟩ := own_low hzn1
    have c212 : Steps p.tables e below S0 (T20.setTop (mkF m 87 #[.val (.ref ps), .val (.int (Int32.ofNat ww)), .val (.int (1 : Int32)), .val (.int (Int32.ofNat I1)), .val (.long x1), .second] [(.int ((Int32.ofNat I1) &&& (-64 : Int32)))])) := c28.trans (by
     refine XS.ifYes X20.here hx rfl (pc0 := 67) (pc' := 9) rfl (hb hby own_dna67) rfl ((if0 _ _).trans (feq hz1).2) (by decide) (by decide) ?_
     show Steps _ _ _ (.setTop _ (mkF _ 9 _ _)) _
     refine XS.lload X20.here hx rfl (hb hby own_dna9) rfl ?_
     show Steps _ _ _ (.setTop _ (mkF _ 11 _ _)) _
     refine XS.lconst X20.here hx rfl (hb hby own_dna11) ?_
     show Steps _ _ _ (.setTop _ (mkF _ 12 _ _)) _
     refine XS.lcmp X20.here hx rfl (hb hby own_dna12) rfl ?_
     show Steps _ _ _ (.setTop _ (mkF _ 13 _ _)) _
     refine XS.ifYes X20.here hx rfl (pc0 := 13) (pc' := 83) rfl (hb hby own_dna13) rfl ((if0 _ _).trans (feq hz1).2) (by decide) (by decide) ?_
     show Steps _ _ _ (.setTop _ (mkF _ 83 _ _)) _
     refine XS.iloadN X20.here hx rfl (hb hby own_dna83) rfl ?_
     show Steps _ _ _ (.setTop _ (mkF _ 84 _ _)) _
     refine XS.bipush X20.here hx rfl (hb hby own_dna84) ?_
     show Steps _ _ _ (.setTop _ (mkF _ 86 _ _)) _
     refine XS.iand X20.here hx rfl (hb hby own_dna86) rfl ?_
     exact Steps.refl _)
    rw [own_neg64 (show I1 < 2 ^ 31 by omega)] at c212
    have c213 : Steps p.tables e below S0 (T20.setTop (mkF m 89 #[.val (.ref ps), .val (.int (Int32.ofNat ww)), .val (.int (1 : Int32)), .val (.int (Int32.ofNat I1)), .val (.long x1), .second] [(.long x1), (.int (Int32.ofNat (64 * (I1 / 64))))])) := c212.trans (by
     refine XS.lload X20.here hx rfl (hb hby own_dna87) rfl ?_
     exact Steps.refl _)
    obtain ⟨_, _, ⟨T214, L214, k214, n214⟩, -, X214, ⟨Lc214, hQ214, l214, y214, z214⟩, st214⟩ := Jvm.LawKit.callS X20 hx (y := (⟨"java/lang/Long", "numberOfTrailingZeros", "(J)I"⟩ : MethodName)) hown (mvT hZ (hw _ (own_m 62 rfl))) (mvT hZ (hw _ (own_m 63 rfl))) (mvT hZ (hw _ (own_m 64 rfl))) (mvT hZ (hw _ (own_m 65 rfl))) (by decide) (backOf (W := 1) (own_ntL l Z a0 hw [] x1 h0 n0 Z0) hZ (hw _ (own_m 65 rfl)) (hw _ (own_m 64 rfl)) (Nat.le_of_ble_eq_true rfl) (Nat.le_of_ble_eq_true rfl)) (g := (mkF m 89 #[.val (.ref ps), .val (.int (Int32.ofNat ww)), .val (.int (1 : Int32)), .val (.int (Int32.ofNat I1)), .val (.long x1), .second] [(.long x1), (.int (Int32.ofNat (64 * (I1 / 64))))])) rfl (by rw [hml]; rfl) (argsL := [(.long x1)]) (rest := [(.int (Int32.ofNat (64 * (I1 / 64))))]) (lenOf own_pd6 rfl) rfl (by show 2 * 0 + _ ≤ _; exact Nat.le_of_eq rfl) (hb hby own_dna89) (fun _ _ => ⟨rfl, e20, (Nat.le_of_ble_eq_true rfl), (Nat.le_of_ble_eq_true rfl)⟩)
    dsimp only [Pt.U, Pt.locs, Pt.cells, Pt.slots] at X214 l214 y214 z214 st214 hQ214
    subst l214 y214 z214
    obtain ⟨rfl, N214q, eng1⟩ := hQ214
    have N214 := Fr.app N0 N214q
    have c216 : Steps p.tables e below S0 (T214.setTop (mkF m 93 #[.val (.ref ps), .val (.int (Int32.ofNat ww)), .val (.int (1 : Int32)), .val (.int (Int32.ofNat I1)), .val (.long x1), .second] [(.int ((Int32.ofNat (64 * (I1 / 64))) + (own_nt64 x1)))])) := c213.trans (by
     refine st214 _ ?_
     show Steps _ _ _ (.setTop _ (mkF _ 92 _ _)) _
     refine XS.iadd X214.here hx rfl (hb hby own_dna92) rfl ?_
     exact Steps.refl _)
    rw [own_nt_of hk641 hb11 hb21] at c216
    obtain ⟨J1, hJd1⟩ : ∃ z, z = 64 * (I1 / 64) + k1 := ⟨_, rfl⟩
    have HDJ1 := own_HI_hit SE H1 hKl1 hfl1 hk641 (by rw [← hx1]; exact hb11) (by rw [← hx1]; exact hb21)
    rw [← hJd1] at HDJ1
    rw [← hJd1] at c216
    have c220 : Steps p.tables e below S0 (T214.setTop (mkF m 101 #[.val (.ref ps), .val (.int (Int32.ofNat ww)), .val (.int ((1 : Int32) + (-1 : Int32))), .val (.int (Int32.ofNat J1)), .val (.long x1), .second] [])) := c216.trans (by
     refine XS.istoreN X214.here hx rfl (hb hby own_dna93) rfl rfl ?_
     show Steps _ _ _ (.setTop _ (mkF _ 94 _ _)) _
     refine XS.iloadN X214.here hx rfl (hb hby own_dna94) rfl ?_
     show Steps _ _ _ (.setTop _ (mkF _ 95 _ _)) _
     refine XS.ifNo X214.here hx rfl (hb hby own_dna95) rfl ((if0 _ _).trans (tlt (by decide)).2.2.2) ?_
     show Steps _ _ _ (.setTop _ (mkF _ 98 _ _)) _
     refine XS.iinc X214.here hx rfl (hb hby own_dna98) rfl rfl ?_
     exact Steps.refl _)
    rw [(show (1 : Int32) + (-1 : Int32) = 0 by decide)] at c220
    have hkg10 : 0 < K := by omega
    have hJg10 : J1 < N 0 := own_HD_lt SH SE HDJ1 hkg10
    have hng10 : N 0 ≤ 8192 := by rw [hNi 0 hkg10]; exact own_it_b hN8 0
    have c221 : Steps p.tables e below S0 (T214.setTop (mkF m 105 #[.val (.ref ps), .val (.int (Int32.ofNat ww)), .val (.int (0 : Int32)), .val (.int (Int32.ofNat J1)), .val (.long x1), .second] [(.int ((Int32.ofNat J1) <<< ((6 : Int32) &&& 31)))])) := c220.trans (by
     refine XS.iloadN X214.here hx rfl (hb hby own_dna101) rfl ?_
     show Steps _ _ _ (.setTop _ (mkF _ 102 _ _)) _
     refine XS.bipush X214.here hx rfl (hb hby own_dna102) ?_
     show Steps _ _ _ (.setTop _ (mkF _ 104 _ _)) _
     refine XS.ishl X214.here hx rfl (hb hby own_dna104) rfl ?_
     exact Steps.refl _)
    rw [own_shl6 (show J1 < 2 ^ 24 by omega)] at c221
    obtain ⟨T223, X223, e223, st223⟩ := getF X214 hx hZ hown (host := "") (Or.inl (hw _ (own_m 20 rfl))) Via.refl eng1 P.2.1 (g := (mkF m 106 #[.val (.ref ps), .val (.int (Int32.ofNat ww)), .val (.int (0 : Int32)), .val (.int (Int32.ofNat J1)), .val (.long x1), .second] [(.ref ps), (.int (Int32.ofNat (64 * J1)))])) rfl rfl (hb hby own_dna106)
    have Rqg10 := P.2.2.2.1
    obtain ⟨cvg10, Avg10, Ovg10, Svg10, Hvg10⟩ := Rqg10
    obtain ⟨cLg10, ALg10, ELg10, SLg10, HLg10⟩ := P.2.2.2.2.1 0 hkg10
    have c228 : Steps p.tables e below S0 (T223.setTop (mkF m 113 #[.val (.ref ps), .val (.int (Int32.ofNat ww)), .val (.int (0 : Int32)), .val (.int (Int32.ofNat J1)), .val (.long x1), .second] [(.long (f 0 J1)), (.int (Int32.ofNat (64 * J1)))])) := c221.trans (by
     refine XS.aloadN X214.here hx rfl (hb hby own_dna105) rfl rfl ?_
     show Steps _ _ _ (.setTop _ (mkF _ 106 _ _)) _
     refine st223 _ ?_
     show Steps _ _ _ (.setTop _ (mkF _ 109 _ _)) _
     refine XS.iloadN X223.here hx rfl (hb hby own_dna109) rfl ?_
     show Steps _ _ _ (.setTop _ (mkF _ 110 _ _)) _
     refine X223.aaload hx (j := (0 : Int32)) (v := (.ref (ls 0))) (by rw [e223]; exact Avg10.1) (State.isArrayOf_alike hZ.alike Avg10.2.1) rfl Avg10.2.2 (own_inb (j := 0) Svg10 hkg10 (by omega)) (Hvg10 0 hkg10) (g := (mkF m 110 #[.val (.ref ps), .val (.int (Int32.ofNat ww)), .val (.int (0 : Int32)), .val (.int (Int32.ofNat J1)), .val (.long x1), .second] [(.int (0 : Int32)), (.ref lv), (.int (Int32.ofNat (64 * J1)))])) rfl rfl (hb hby own_dna110) _ ?_
     show Steps _ _ _ (.setTop _ (mkF _ 111 _ _)) _
     refine XS.iloadN X223.here hx rfl (hb hby own_dna111) rfl ?_
     show Steps _ _ _ (.setTop _ (mkF _ 112 _ _)) _
     refine X223.laload hx (j := (Int32.ofNat J1)) (v := (.long (f 0 J1))) (by rw [e223]; exact ALg10.1) (State.isArrayOf_alike hZ.alike ALg10.2.1) ALg10.2.2 (own_inb (j := J1) SLg10 hJg10 (by omega)) (by rw [own_cl (j := J1) (by omega)]; exact HLg10 J1 hJg10) (g := (mkF m 112 #[.val (.ref ps), .val (.int (Int32.ofNat ww)), .val (.int (0 : Int32)), .val (.int (Int32.ofNat J1)), .val (.long x1), .second] [(.int (Int32.ofNat J1)), (.ref (ls 0)), (.int (Int32.ofNat (64 * J1)))])) rfl rfl (hb hby own_dna112) _ ?_
     exact Steps.refl _)
    obtain ⟨kg10, hk64g10, hb1g10, hb2g10⟩ := own_low (own_HD_ne SE HDJ1 hkg10 hJg10)
    obtain ⟨Jg10, hJdg10⟩ : ∃ z, z = 64 * J1 + kg10 := ⟨_, rfl⟩
    have HDJg10 := own_HD_down SE HDJ1 hkg10 hJg10 hk64g10 hb1g10 hb2g10
    rw [← hJdg10] at HDJg10
    obtain ⟨_, _, ⟨T229, L229, k229, n229⟩, -, X229, ⟨Lc229, hQ229, l229, y229, z229⟩, st229⟩ := Jvm.LawKit.callS X223 hx (y := (⟨"java/lang/Long", "numberOfTrailingZeros", "(J)I"⟩ : MethodName)) hown (mvT hZ (hw _ (own_m 62 rfl))) (mvT hZ (hw _ (own_m 63 rfl))) (mvT hZ (hw _ (own_m 64 rfl))) (mvT hZ (hw _ (own_m 65 rfl))) (by decide) (backOf (W := 1) (own_ntL l Z a0 hw [] (f 0 J1) h0 n0 Z0) hZ (hw _ (own_m 65 rfl)) (hw _ (own_m 64 rfl)) (Nat.le_of_ble_eq_true rfl) (Nat.le_of_ble_eq_true rfl)) (g := (mkF m 113 #[.val (.ref ps), .val (.int (Int32.ofNat ww)), .val (.int (0 : Int32)), .val (.int (Int32.ofNat J1)), .val (.long x1), .second] [(.long (f 0 J1)), (.int (Int32.ofNat (64 * J1)))])) rfl (by rw [hml]; rfl) (argsL := [(.long (f 0 J1))]) (rest := [(.int (Int32.ofNat (64 * J1)))]) (lenOf own_pd6 rfl) rfl (by show 2 * 0 + _ ≤ _; exact Nat.le_of_eq rfl) (hb hby own_dna113) (fun _ _ => ⟨rfl, e223, (Nat.le_of_ble_eq_true rfl), (Nat.le_of_ble_eq_true rfl)⟩)
    dsimp only [Pt.U, Pt.locs, Pt.cells, Pt.slots] at X229 l229 y229 z229 st229 hQ229
    subst l229 y229 z229
    obtain ⟨rfl, N229q, eng10⟩ := hQ229
    have N229 := Fr.app N214 N229q
    have c231 : Steps p.tables e below S0 (T229.setTop (mkF m 117 #[.val (.ref ps), .val (.int (Int32.ofNat ww)), .val (.int (0 : Int32)), .val (.int (Int32.ofNat J1)), .val (.long x1), .second] [(.int ((Int32.ofNat (64 * J1)) + (own_nt64 (f 0 J1))))])) := c228.trans (by
     refine st229 _ ?_
     show Steps _ _ _ (.setTop _ (mkF _ 116 _ _)) _
     refine XS.iadd X229.here hx rfl (hb hby own_dna116) rfl ?_
     exact Steps.refl _)
    rw [own_nt_of hk64g10 hb1g10 hb2g10] at c231
    rw [← hJdg10] at c231
    have c235 : Steps p.tables e below S0 (T229.setTop (mkF m 122 #[.val (.ref ps), .val (.int (Int32.ofNat ww)), .val (.int (0 : Int32)), .val (.int (Int32.ofNat Jg10)), .val (.long x1), .second] [(.int (Int32.ofNat Jg10))])) := c231.trans (by
     refine XS.istoreN X229.here hx rfl (hb hby own_dna117) rfl rfl ?_
     show Steps _ _ _ (.setTop _ (mkF _ 118 _ _)) _
     refine XS.goto X229.here hx rfl (pc0 := 118) (pc' := 94) rfl (hb hby own_dna118) (by decide) (by decide) ?_
     show Steps _ _ _ (.setTop _ (mkF _ 94 _ _)) _
     refine XS.iloadN X229.here hx rfl (hb hby own_dna94) rfl ?_
     show Steps _ _ _ (.setTop _ (mkF _ 95 _ _)) _
     refine XS.ifYes X229.here hx rfl (pc0 := 95) (pc' := 121) rfl (hb hby own_dna95) rfl ((if0 _ _).trans (flt (by decide)).2.2.2) (by decide) (by decide) ?_
     show Steps _ _ _ (.setTop _ (mkF _ 121 _ _)) _
     refine XS.iloadN X229.here hx rfl (hb hby own_dna121) rfl ?_
     exact Steps.refl _)
    obtain ⟨fs, hr, hrun, hended, hW, hsame⟩ := X229.leave (v := some (.int (Int32.ofNat Jg10))) (fun h => by rw [Bd.returns] at h; cases h)
    exact ⟨_, _, c235.trans (retOut X229 hx (t := .int) (i := .ireturn) Bd.returns rfl (Or.inl ⟨rfl, Or.inl rfl, _, rfl⟩) (hb hby own_dna122) hr), hrun, hended, _, _, rfl, ⟨⟨_, rfl, own_HD_zero HDJg10⟩, N229, eng10⟩, ⟨_, rfl⟩, hW, hsame.mono (by decide) (by decide)⟩
  ·have c237 : Steps p.tables e below S0 (T13.setTop (mkF m 40 #[.val (.ref ps), .val (.int (Int32.ofNat ww)), .val (.int (1 : Int32)), .val (.int (Int32.ofNat I1)), .val (.long (0 : Int64)), .second] [(.int (-1 : Int32))])) := c17.trans (by
    refine XS.icmpNo X13.here hx rfl (hb hby own_dna36) rfl (flt hf1).1 ?_
    show Steps _ _ _ (.setTop _ (mkF _ 39 _ _)) _
    refine XS.iconst X13.here hx rfl (hb hby own_dna39) ?_
    exact Steps.refl _)
   obtain ⟨fs, hr, hrun, hended, hW, hsame⟩ := X13.leave (v := some (.int (-1 : Int32))) (fun h => by rw [Bd.returns] at h; cases h)
   exact ⟨_, _, c237.trans (retOut X13 hx (t := .int) (i := .ireturn) Bd.returns rfl (Or.inl ⟨rfl, Or.inl rfl, _, rfl⟩) (hb hby own_dna40) hr), hrun, hended, _, _, rfl, ⟨⟨_, rfl, own_HI_far SH SE H1 hKl1 (fun q => hf1 ((own_ilt (by omega) (by omega)).mpr q))⟩, N0, e13⟩, ⟨_, rfl⟩, hW, hsame.mono (by decide) (by decide)⟩
theorem own_dn10 : decode prog_209_method_7_code 0 = .ok (.aload_n 0, 1) := by decide +kernel
theorem own_dn11 : decode prog_209_method_7_code 1 = .ok (.getfield 11, 3) := by decide +kernel
theorem own_dn14 : decode prog_209_method_7_code 4 = .ok (.iconst 0, 1) := by decide +kernel
theorem own_dn15 : decode prog_209_method_7_code 5 = .ok (.aaload, 1) := by decide +kernel
theorem own_dn16 : decode prog_209_method_7_code 6 = .ok (.astore_n 2, 1) := by decide +kernel
theorem own_dn17 : decode prog_209_method_7_code 7 = .ok (.iload_n 1, 1) := by decide +kernel
theorem own_dn18 : decode prog_209_method_7_code 8 = .ok (.bipush 6, 2) := by decide +kernel
theorem own_dn110 : decode prog_209_method_7_code 10 = .ok (.iushr, 1) := by decide +kernel
theorem own_dn111 : decode prog_209_method_7_code 11 = .ok (.istore_n 3, 1) := by decide +kernel
theorem own_dn112 : decode prog_209_method_7_code 12 = .ok (.iload_n 3, 1) := by decide +kernel
theorem own_dn113 : decode prog_209_method_7_code 13 = .ok (.aload_n 2, 1) := by decide +kernel
theorem own_dn114 : decode prog_209_method_7_code 14 = .ok (.arraylength, 1) := by decide +kernel
theorem own_dn115 : decode prog_209_method_7_code 15 = .ok (.if_icmp .lt 5, 3) := by decide +kernel
theorem own_dn118 : decode prog_209_method_7_code 18 = .ok (.iconst (-1), 1) := by decide +kernel
theorem own_dn119 : decode prog_209_method_7_code 19 = .ok (.ireturn, 1) := by decide +kernel
theorem own_dn120 : decode prog_209_method_7_code 20 = .ok (.aload_n 2, 1) := by decide +kernel
theorem own_dn121 : decode prog_209_method_7_code 21 = .ok (.iload_n 3, 1) := by decide +kernel
theorem own_dn122 : decode prog_209_method_7_code 22 = .ok (.laload, 1) := by decide +kernel
theorem own_dn123 : decode prog_209_method_7_code 23 = .ok (.ldc2_w 50, 3) := by decide +kernel
theorem own_dn126 : decode prog_209_method_7_code 26 = .ok (.iload_n 1, 1) := by decide +kernel
theorem own_dn127 : decode prog_209_method_7_code 27 = .ok (.bipush 63, 2) := by decide +kernel
theorem own_dn129 : decode prog_209_method_7_code 29 = .ok (.iand, 1) := by decide +kernel
theorem own_dn130 : decode prog_209_method_7_code 30 = .ok (.lshl, 1) := by decide +kernel
theorem own_dn131 : decode prog_209_method_7_code 31 = .ok (.land, 1) := by decide +kernel
theorem own_dn132 : decode prog_209_method_7_code 32 = .ok (.lstore 4, 2) := by decide +kernel
theorem own_dn134 : decode prog_209_method_7_code 34 = .ok (.lload 4, 2) := by decide +kernel
theorem own_dn136 : decode prog_209_method_7_code 36 = .ok (.lconst 0, 1) := by decide +kernel
theorem own_dn137 : decode prog_209_method_7_code 37 = .ok (.lcmp, 1) := by decide +kernel
theorem own_dn138 : decode prog_209_method_7_code 38 = .ok (.ifCond .eq 16, 3) := by decide +kernel
theorem own_dn141 : decode prog_209_method_7_code 41 = .ok (.iload_n 3, 1) := by decide +kernel
theorem own_dn142 : decode prog_209_method_7_code 42 = .ok (.bipush 6, 2) := by decide +kernel
theorem own_dn144 : decode prog_209_method_7_code 44 = .ok (.ishl, 1) := by decide +kernel
theorem own_dn145 : decode prog_209_method_7_code 45 = .ok (.lload 4, 2) := by decide +kernel
theorem own_dn147 : decode prog_209_method_7_code 47 = .ok (.invokestatic 68, 3) := by decide +kernel
theorem own_dn150 : decode prog_209_method_7_code 50 = .ok (.iadd, 1) := by decide +kernel
theorem own_dn151 : decode prog_209_method_7_code 51 = .ok (.goto 8, 3) := by decide +kernel
theorem own_dn154 : decode prog_209_method_7_code 54 = .ok (.aload_n 0, 1) := by decide +kernel
theorem own_dn155 : decode prog_209_method_7_code 55 = .ok (.iload_n 3, 1) := by decide +kernel
theorem own_dn156 : decode prog_209_method_7_code 56 = .ok (.invokevirtual 74, 3) := by decide +kernel
theorem own_dn159 : decode prog_209_method_7_code 59 = .ok (.ireturn, 1) := by decide +kernel
theorem own_nx1_pn : plainName "com/example/coersa/coersa/PlaceSet" = true := by first | (simp [plainName, overriddenIn]; done) | decide +kernel
theorem own_nx1_ef (m : MethodId) (ps : Addr) (xq : Int32) : entryFrame m #[(.ref ps), (.int xq)] 6 = mkF m 0 #[.val (.ref ps), .val (.int xq), .unset, .unset, .unset, .unset] [] := by first | (simp [entryFrame, mkF, argsToLocals, Value.category]; done) | rfl
def own_nx1_Q (Z : State) (ps : Addr) (xq : Int32) (S : List Nat) (q : Nat) (lv bc : Addr) (K : Nat) (ls : Nat → Addr) (N : Nat → Nat) (f : Nat → Nat → Int64) (M : Nat) (g : Nat → Int32) (h0 : Heap) (n0 : Nat) (v : Option Value) (h : Heap) (L : List Loc) : Prop := (∃ r : Int32, v = some (.int r) ∧ own_IsN S q r) ∧ Fr n0 L ∧ h = h0
set_option maxRecDepth 65536 in
set_option maxHeartbeats 40000000 in
theorem own_nx1 (l : Launch) (Z : State) (a0 : Array Value) (hw : ∀ d ∈ tables_1, d.before a0 Z = true) (ws : List Jvm.Cond) (ps : Addr) (xq : Int32) (S : List Nat) (q : Nat) (lv bc : Addr) (K : Nat) (ls : Nat → Addr) (N : Nat → Nat) (f : Nat → Nat → Int64) (M : Nat) (g : Nat → Int32) (h0 : Heap) (n0 : Nat) (Z0 : n0 ≤ h0.size) (hxq : xq = Int32.ofNat q) (hq31 : q < 2 ^ 31) (SH : own_SH K N M) (SE : own_SEM S K N f) (P : own_PS Z n0 h0 ps lv bc K ls N f M g) :
  MetFree l (⟨"com/example/coersa/coersa/PlaceSet", "next", "(I)I"⟩ : MethodName) (head1 (Jvm.Cond.code (⟨"com/example/coersa/coersa/PlaceSet", "next", "(I)I"⟩ : MethodName) prog_209_method_7_code 6 (some .int) :: ws) ({ frames := 3, cells := 0, slots := 0, locals := 46 } : Room)) (fun ars U => ars = #[(.ref ps), (.int xq)] ∧ Z.Warmed39 U.vm ∧ U.heap = h0) (fun _ _ _ _ _ => True) (fun _ U o U' => ∃ v L, o = .returned v ∧ own_nx1_Q Z ps xq S q lv bc K ls N f M g h0 n0 v U'.heap L ∧ FrameEnd U o U' L ({ frames := 3, cells := 0, slots := 0, locals := 46 } : Room).cells ({ frames := 3, cells := 0, slots := 0, locals := 46 } : Room).slots) := by
 refine MetFree.of_bodySF (plainFor_of_name own_nx1_pn) hisR ?_
 intro p e s m args below meth c s₁ Bd hml0 hP hK
 obtain ⟨rfl, hZ, hh⟩ := hP
 have hx := Bd.exec
 have hby := Bd.bytes
 have hml : c.maxLocals = 6 := hml0
 have hown : s.vm.findClass "com/example/coersa/coersa/PlaceSet" = some m.cls := findClass_of_methodNamed Bd.named
 have hnm := (name_of_methodNamed Bd.named Bd.method).1
 have X0 : Stand p l e ({ frames := 3, cells := 0, slots := 0, locals := 46 } : Room) s m #[(.ref ps), (.int xq)] below meth c s₁ [] 0 0 := Stand.of_body Bd
 have e0 : s₁.heap = h0 := by rw [← hh, Bd.state]; rfl
 have N0 := Fr.nil n0
 generalize hS0 : s₁.setTop (entryFrame m #[(.ref ps), (.int xq)] 6) = S0
 have c0 : Steps p.tables e below S0 (s₁.setTop (mkF m 0 #[.val (.ref ps), .val (.int xq), .unset, .unset, .unset, .unset] [])) := by rw [← hS0]; exact castTop (own_nx1_ef m ps xq) (Steps.refl _)
 have K0 : Keep h0 h0 [] := Keep.refl _ _
 subst hxq
 have SH2 := SH
 obtain ⟨t1, t2, t3, hNi, t5, hN8, t7⟩ := SH2
 have hk0 : 0 < K := by omega
 have H0 := own_HI_first S q
 obtain ⟨T2, X2, e2, st2⟩ := getF X0 hx hZ hown (host := "") (Or.inl (hw _ (own_m 20 rfl))) Via.refl e0 P.2.1 (g := (mkF m 1 #[.val (.ref ps), .val (.int (Int32.ofNat q)), .unset, .unset, .unset, .unset] [(.ref ps)])) rfl rfl (hb hby own_dn11)
 have Rqa := P.2.2.2.1
 obtain ⟨cva, Ava, Ova, Sva, Hva⟩ := Rqa
 have c6 : Steps p.tables e below S0 (T2.setTop (mkF m 11 #[.val (.ref ps), .val (.int (Int32.ofNat q)), .val (.ref (ls 0)), .unset, .unset, .unset] [(.int (((Int32.ofNat q).toUInt32 >>> ((6 : Int32) &&& 31).toUInt32).toInt32))])) := c0.trans (by
  refine XS.aloadN X0.here hx rfl (hb hby own_dn10) rfl rfl ?_
  show Steps _ _ _ (.setTop _ (mkF _ 1 _ _)) _
  refine st2 _ ?_
  show Steps _ _ _ (.setTop _ (mkF _ 4 _ _)) _
  refine XS.iconst X2.here hx rfl (hb hby own_dn14) ?_
  show Steps _ _ _ (.setTop _ (mkF _ 5 _ _)) _
  refine X2.aaload hx (j := (0 : Int32)) (v := (.ref (ls 0))) (by rw [e2]; exact Ava.1) (State.isArrayOf_alike hZ.alike Ava.2.1) rfl Ava.2.2 (own_inb (j := 0) Sva hk0 (by omega)) (Hva 0 hk0) (g := (mkF m 5 #[.val (.ref ps), .val (.int (Int32.ofNat q)), .unset, .unset, .unset, .unset] [(.int (0 : Int32)), (.ref lv)])) rfl rfl (hb hby own_dn15) _ ?_
  show Steps _ _ _ (.setTop _ (mkF _ 6 _ _)) _
  refine XS.astoreN X2.here hx rfl (hb hby own_dn16) rfl rfl rfl ?_
  show Steps _ _ _ (.setTop _ (mkF _ 7 _ _)) _
  refine XS.iloadN X2.here hx rfl (hb hby own_dn17) rfl ?_
  show Steps _ _ _ (.setTop _ (mkF _ 8 _ _)) _
  refine XS.bipush X2.here hx rfl (hb hby own_dn18) ?_
  show Steps _ _ _ (.setTop _ (mkF _ 10 _ _)) _
  refine XS.iushr X2.here hx rfl (hb hby own_dn110) rfl ?_
  exact Steps.refl _)
 rw [own_ushr6 (show q < 2 ^ 31 by omega)] at c6
 have Lq := P.2.2.2.2.1 0 hk0
 obtain ⟨cL, AL, EL, SL, HL⟩ := Lq
 have c8 : Steps p.tables e below S0 (T2.setTop (mkF m 15 #[.val (.ref ps), .val (.int (Int32.ofNat q)), .val (.ref (ls 0)), .val (.int (Int32.ofNat (q / 64))), .unset, .unset] [(.int (Int32.ofNat (N 0))), (.int (Int32.ofNat (q / 64)))])) := c6.trans (by
  refine XS.istoreN X2.here hx rfl (hb hby own_dn111) rfl rfl ?_
  show Steps _ _ _ (.setTop _ (mkF _ 12 _ _)) _
  refine XS.iloadN X2.here hx rfl (hb hby own_dn112) rfl ?_
  show Steps _ _ _ (.setTop _ (mkF _ 13 _ _)) _
  refine XS.aloadN X2.here hx rfl (hb hby own_dn113) rfl rfl ?_
  show Steps _ _ _ (.setTop _ (mkF _ 14 _ _)) _
  refine X2.arraylength hx (by rw [e2]; exact AL.1) (State.isArrayOf_alike hZ.alike AL.2.1) (g := (mkF m 14 #[.val (.ref ps), .val (.int (Int32.ofNat q)), .val (.ref (ls 0)), .val (.int (Int32.ofNat (q / 64))), .unset, .unset] [(.ref (ls 0)), (.int (Int32.ofNat (q / 64)))])) rfl rfl (hb hby own_dn114) _ ?_
  rw [show cL.slots.size.toInt32 = Int32.ofNat (N 0) by rw [SL]]
  exact Steps.refl _)
 by_cases hf : (Int32.ofNat (q / 64)) < (Int32.ofNat (N 0))
 ·have hfl : q / 64 < N 0 := (own_ilt (by omega) (by omega)).mp hf
  have c12 : Steps p.tables e below S0 (T2.setTop (mkF m 30 #[.val (.ref ps), .val (.int (Int32.ofNat q)), .val (.ref (ls 0)), .val (.int (Int32.ofNat (q / 64))), .unset, .unset] [(.int ((Int32.ofNat q) &&& (63 : Int32))), (.long (-1 : Int64)), (.long (f 0 (q / 64)))])) := c8.trans (by
   refine XS.icmpYes X2.here hx rfl (pc0 := 15) (pc' := 20) rfl (hb hby own_dn115) rfl (tlt hf).1 (by decide) (by decide) ?_
   show Steps _ _ _ (.setTop _ (mkF _ 20 _ _)) _
   refine XS.aloadN X2.here hx rfl (hb hby own_dn120) rfl rfl ?_
   show Steps _ _ _ (.setTop _ (mkF _ 21 _ _)) _
   refine XS.iloadN X2.here hx rfl (hb hby own_dn121) rfl ?_
   show Steps _ _ _ (.setTop _ (mkF _ 22 _ _)) _
   refine X2.laload hx (j := (Int32.ofNat (q / 64))) (v := (.long (f 0 (q / 64)))) (by rw [e2]; exact AL.1) (State.isArrayOf_alike hZ.alike AL.2.1) AL.2.2 (own_inb (j := q / 64) SL hfl (by omega)) (by rw [own_cl (j := q / 64) (by omega)]; exact HL (q / 64) hfl) (g := (mkF m 22 #[.val (.ref ps), .val (.int (Int32.ofNat q)), .val (.ref (ls 0)), .val (.int (Int32.ofNat (q / 64))), .unset, .unset] [(.int (Int32.ofNat (q / 64))), (.ref (ls 0))])) rfl rfl (hb hby own_dn122) _ ?_
   show Steps _ _ _ (.setTop _ (mkF _ 23 _ _)) _
   refine X2.ldc2Long hx hown (mvT hZ (hw _ (own_m 49 rfl))) (g := (mkF m 23 #[.val (.ref ps), .val (.int (Int32.ofNat q)), .val (.ref (ls 0)), .val (.int (Int32.ofNat (q / 64))), .unset, .unset] [(.long (f 0 (q / 64)))])) rfl (hb hby own_dn123) _ ?_
   show Steps _ _ _ (.setTop _ (mkF _ 26 _ _)) _
   refine XS.iloadN X2.here hx rfl (hb hby own_dn126) rfl ?_
   show Steps _ _ _ (.setTop _ (mkF _ 27 _ _)) _
   refine XS.bipush X2.here hx rfl (hb hby own_dn127) ?_
   show Steps _ _ _ (.setTop _ (mkF _ 29 _ _)) _
   refine XS.iand X2.here hx rfl (hb hby own_dn129) rfl ?_
   exact Steps.refl _)
  rw [own_and63 (show q < 2 ^ 31 by omega)] at c12
  have c13 : Steps p.tables e below S0 (T2.setTop (mkF m 32 #[.val (.ref ps), .val (.int (Int32.ofNat q)), .val (.ref (ls 0)), .val (.int (Int32.ofNat (q / 64))), .unset, .unset] [(.long ((f 0 (q / 64)) &&& ((-1 : Int64) <<< ((Int32.ofNat (q % 64)) &&& 0x3f).toInt64)))])) := c12.trans (by
   refine XS.lshl X2.here hx rfl (hb hby own_dn130) rfl ?_
   show Steps _ _ _ (.setTop _ (mkF _ 31 _ _)) _
   refine XS.land X2.here hx rfl (hb hby own_dn131) rfl ?_
   exact Steps.refl _)
  obtain ⟨x0, hx0⟩ : ∃ z, z = f 0 (q / 64) &&& own_msk (q % 64) := ⟨_, rfl⟩
  have c13x : Steps p.tables e below S0 (T2.setTop (mkF m 32 #[.val (.ref ps), .val (.int (Int32.ofNat q)), .val (.ref (ls 0)), .val (.int (Int32.ofNat (q / 64))), .unset, .unset] [(.long (f 0 (q / 64) &&& own_msk (q % 64)))])) := c13
  rw [← hx0] at c13x
  have c14 : Steps p.tables e below S0 (T2.setTop (mkF m 38 #[.val (.ref ps), .val (.int (Int32.ofNat q)), .val (.ref (ls 0)), .val (.int (Int32.ofNat (q / 64))), .val (.long x0), .second] [(.int (lcmpW x0 (0 : Int64)))])) := c13x.trans (by
   refine XS.lstore X2.here hx rfl (hb hby own_dn132) rfl rfl ?_
   show Steps _ _ _ (.setTop _ (mkF _ 34 _ _)) _
   refine XS.lload X2.here hx rfl (hb hby own_dn134) rfl ?_
   show Steps _ _ _ (.setTop _ (mkF _ 36 _ _)) _
   refine XS.lconst X2.here hx rfl (hb hby own_dn136) ?_
   show Steps _ _ _ (.setTop _ (mkF _ 37 _ _)) _
   refine XS.lcmp X2.here hx rfl (hb hby own_dn137) rfl ?_
   exact Steps.refl _)
  by_cases hz : (lcmpW x0 (0 : Int64)) = (0 : Int32)
  ·have hze : x0 = 0 := (lw_eq _ _).mp hz
   have H1 := own_HI_up SE H0 hk0 hfl (by rw [← hx0]; exact hze)
   have c16 : Steps p.tables e below S0 (T2.setTop (mkF m 56 #[.val (.ref ps), .val (.int (Int32.ofNat q)), .val (.ref (ls 0)), .val (.int (Int32.ofNat (q / 64))), .val (.long x0), .second] [(.int (Int32.ofNat (q / 64))), (.ref ps)])) := c14.trans (by
    refine XS.ifYes X2.here hx rfl (pc0 := 38) (pc' := 54) rfl (hb hby own_dn138) rfl ((if0 _ _).trans (teq hz).1) (by decide) (by decide) ?_
    show Steps _ _ _ (.setTop _ (mkF _ 54 _ _)) _
    refine XS.aloadN X2.here hx rfl (hb hby own_dn154) rfl rfl ?_
    show Steps _ _ _ (.setTop _ (mkF _ 55 _ _)) _
    refine XS.iloadN X2.here hx rfl (hb hby own_dn155) rfl ?_
    exact Steps.refl _)
   obtain ⟨cq17, q17, q17'⟩ := P.1.cell
   obtain ⟨_, _, ⟨T17, L17, k17, n17⟩, -, X17, ⟨Lc17, hQ17, l17, y17, z17⟩, st17⟩ := X2.privateBack hx (y := (⟨"com/example/coersa/coersa/PlaceSet", "nextAbove", "(I)I"⟩ : MethodName)) hown (mvT hZ (hw _ (own_m 82 rfl))) (mvT hZ (hw _ (own_m 83 rfl))) (own_selq (mvT hZ (hw _ (own_m 60 rfl))) (mvT hZ (hw _ (own_m 59 rfl))) (mvT hZ (hw _ (own_m 83 rfl))) (Cond.privateMethod_at (mvP hZ (hw _ (own_m 84 rfl)) (args := #[]))) rfl (by decide)) (Cond.privateMethod_at (mvP hZ (hw _ (own_m 84 rfl)) (args := #[]))) (mvT hZ (hw _ (own_m 85 rfl))) (by decide) (backOf (W := 0) (own_nab l Z a0 hw [] ps (Int32.ofNat (q / 64)) S q (q / 64) lv bc K ls N f M g h0 n0 Z0 rfl SH SE hfl H1 P) hZ (hw _ (own_m 85 rfl)) (hw _ (own_m 9 rfl)) (Nat.le_of_ble_eq_true rfl) (Nat.le_of_ble_eq_true rfl)) (g := (mkF m 56 #[.val (.ref ps), .val (.int (Int32.ofNat q)), .val (.ref (ls 0)), .val (.int (Int32.ofNat (q / 64))), .val (.long x0), .second] [(.int (Int32.ofNat (q / 64))), (.ref ps)])) rfl (by rw [hml]; rfl) (Steps.refl _) (a := ps) (by rw [e2]; exact q17) q17' (argsL := [(.int (Int32.ofNat (q / 64)))]) (rest := []) (lenOf own_pd0 rfl) rfl (by show 2 * 0 + _ ≤ _; exact Nat.le_of_eq rfl) (hb hby own_dn156) (fun _ _ => ⟨rfl, e2, (Nat.le_of_ble_eq_true rfl), (Nat.le_of_ble_eq_true rfl)⟩)
   dsimp only [Pt.U, Pt.locs, Pt.cells, Pt.slots] at X17 l17 y17 z17 st17 hQ17
   subst l17 y17 z17
   obtain ⟨⟨r, rfl, hN⟩, N17q, ena⟩ := hQ17
   have N17 := Fr.app N0 N17q
   have c18 : Steps p.tables e below S0 (T17.setTop (mkF m 59 #[.val (.ref ps), .val (.int (Int32.ofNat q)), .val (.ref (ls 0)), .val (.int (Int32.ofNat (q / 64))), .val (.long x0), .second] [(.int r)])) := c16.trans (by
    refine st17.trans ?_
    exact Steps.refl _)
   obtain ⟨fs, hr, hrun, hended, hW, hsame⟩ := X17.leave (v := some (.int r)) (fun h => by rw [Bd.returns] at h; cases h)
   exact ⟨_, _, c18.trans (retOut X17 hx (t := .int) (i := .ireturn) Bd.returns rfl (Or.inl ⟨rfl, Or.inl rfl, _, rfl⟩) (hb hby own_dn159) hr), hrun, hended, _, _, rfl, ⟨⟨_, rfl, hN⟩, N17, ena⟩, ⟨_, rfl⟩, hW, hsame.mono (by decide) (by decide)⟩
  ·have hzn : ¬ x0 = 0 := fun q' => hz (own_lc0 q')
   obtain ⟨k, hk64, hb1, hb2⟩ := own_low hzn
   have c20 : Steps p.tables e below S0 (T2.setTop (mkF m 45 #[.val (.ref ps), .val (.int (Int32.ofNat q)), .val (.ref (ls 0)), .val (.int (Int32.ofNat (q / 64))), .val (.long x0), .second] [(.int ((Int32.ofNat (q / 64)) <<< ((6 : Int32) &&& 31)))])) := c14.trans (by
    refine XS.ifNo X2.here hx rfl (hb hby own_dn138) rfl ((if0 _ _).trans (feq hz).1) ?_
    show Steps _ _ _ (.setTop _ (mkF _ 41 _ _)) _
    refine XS.iloadN X2.here hx rfl (hb hby own_dn141) rfl ?_
    show Steps _ _ _ (.setTop _ (mkF _ 42 _ _)) _
    refine XS.bipush X2.here hx rfl (hb hby own_dn142) ?_
    show Steps _ _ _ (.setTop _ (mkF _ 44 _ _)) _
    refine XS.ishl X2.here hx rfl (hb hby own_dn144) rfl ?_
    exact Steps.refl _)
   rw [own_shl6 (show q / 64 < 2 ^ 24 by omega)] at c20
   have c21 : Steps p.tables e below S0 (T2.setTop (mkF m 47 #[.val (.ref ps), .val (.int (Int32.ofNat q)), .val (.ref (ls 0)), .val (.int (Int32.ofNat (q / 64))), .val (.long x0), .second] [(.long x0), (.int (Int32.ofNat (64 * (q / 64))))])) := c20.trans (by
    refine XS.lload X2.here hx rfl (hb hby own_dn145) rfl ?_
    exact Steps.refl _)
   obtain ⟨_, _, ⟨T22, L22, k22, n22⟩, -, X22, ⟨Lc22, hQ22, l22, y22, z22⟩, st22⟩ := Jvm.LawKit.callS X2 hx (y := (⟨"java/lang/Long", "numberOfTrailingZeros", "(J)I"⟩ : MethodName)) hown (mvT hZ (hw _ (own_m 62 rfl))) (mvT hZ (hw _ (own_m 63 rfl))) (mvT hZ (hw _ (own_m 64 rfl))) (mvT hZ (hw _ (own_m 65 rfl))) (by decide) (backOf (W := 1) (own_ntL l Z a0 hw [] x0 h0 n0 Z0) hZ (hw _ (own_m 65 rfl)) (hw _ (own_m 64 rfl)) (Nat.le_of_ble_eq_true rfl) (Nat.le_of_ble_eq_true rfl)) (g := (mkF m 47 #[.val (.ref ps), .val (.int (Int32.ofNat q)), .val (.ref (ls 0)), .val (.int (Int32.ofNat (q / 64))), .val (.long x0), .second] [(.long x0), (.int (Int32.ofNat (64 * (q / 64))))])) rfl (by rw [hml]; rfl) (argsL := [(.long x0)]) (rest := [(.int (Int32.ofNat (64 * (q / 64))))]) (lenOf own_pd6 rfl) rfl (by show 2 * 0 + _ ≤ _; exact Nat.le_of_eq rfl) (hb hby own_dn147) (fun _ _ => ⟨rfl, e2, (Nat.le_of_ble_eq_true rfl), (Nat.le_of_ble_eq_true rfl)⟩)
   dsimp only [Pt.U, Pt.locs, Pt.cells, Pt.slots] at X22 l22 y22 z22 st22 hQ22
   subst l22 y22 z22
   obtain ⟨rfl, N22q, en⟩ := hQ22
   have N22 := Fr.app N0 N22q
   have c24 : Steps p.tables e below S0 (T22.setTop (mkF m 51 #[.val (.ref ps), .val (.int (Int32.ofNat q)), .val (.ref (ls 0)), .val (.int (Int32.ofNat (q / 64))), .val (.long x0), .second] [(.int ((Int32.ofNat (64 * (q / 64))) + (own_nt64 x0)))])) := c21.trans (by
    refine st22 _ ?_
    show Steps _ _ _ (.setTop _ (mkF _ 50 _ _)) _
    refine XS.iadd X22.here hx rfl (hb hby own_dn150) rfl ?_
    exact Steps.refl _)
   rw [own_nt_of hk64 hb1 hb2] at c24
   have c25 : Steps p.tables e below S0 (T22.setTop (mkF m 59 #[.val (.ref ps), .val (.int (Int32.ofNat q)), .val (.ref (ls 0)), .val (.int (Int32.ofNat (q / 64))), .val (.long x0), .second] [(.int (Int32.ofNat (64 * (q / 64) + k)))])) := c24.trans (by
    refine XS.goto X22.here hx rfl (pc0 := 51) (pc' := 59) rfl (hb hby own_dn151) (by decide) (by decide) ?_
    exact Steps.refl _)
   obtain ⟨fs, hr, hrun, hended, hW, hsame⟩ := X22.leave (v := some (.int (Int32.ofNat (64 * (q / 64) + k)))) (fun h => by rw [Bd.returns] at h; cases h)
   exact ⟨_, _, c25.trans (retOut X22 hx (t := .int) (i := .ireturn) Bd.returns rfl (Or.inl ⟨rfl, Or.inl rfl, _, rfl⟩) (hb hby own_dn159) hr), hrun, hended, _, _, rfl, ⟨⟨_, rfl, own_HD_zero (own_HI_hit SE H0 hk0 hfl hk64 (by rw [← hx0]; exact hb1) (by rw [← hx0]; exact hb2))⟩, N22, en⟩, ⟨_, rfl⟩, hW, hsame.mono (by decide) (by decide)⟩
 ·have c27 : Steps p.tables e below S0 (T2.setTop (mkF m 19 #[.val (.ref ps), .val (.int (Int32.ofNat q)), .val (.ref (ls 0)), .val (.int (Int32.ofNat (q / 64))), .unset, .unset] [(.int (-1 : Int32))])) := c8.trans (by
   refine XS.icmpNo X2.here hx rfl (hb hby own_dn115) rfl (flt hf).1 ?_
   show Steps _ _ _ (.setTop _ (mkF _ 18 _ _)) _
   refine XS.iconst X2.here hx rfl (hb hby own_dn118) ?_
   exact Steps.refl _)
  obtain ⟨fs, hr, hrun, hended, hW, hsame⟩ := X2.leave (v := some (.int (-1 : Int32))) (fun h => by rw [Bd.returns] at h; cases h)
  exact ⟨_, _, c27.trans (retOut X2 hx (t := .int) (i := .ireturn) Bd.returns rfl (Or.inl ⟨rfl, Or.inl rfl, _, rfl⟩) (hb hby own_dn119) hr), hrun, hended, _, _, rfl, ⟨⟨_, rfl, own_HI_far SH SE H0 hk0 (fun q' => hf ((own_ilt (by omega) (by omega)).mpr q'))⟩, N0, e2⟩, ⟨_, rfl⟩, hW, hsame.mono (by decide) (by decide)⟩
def own_tk (xb xh xp xq : Int32) : Int32 := if xh = 0 then xb else if xp < xq then xb else if xb = -1 then xp else if xp < xb then xp else xb
theorem own_dtk0 : decode method_4_code 0 = .ok (.iload_n 1, 1) := by decide +kernel
theorem own_dtk1 : decode method_4_code 1 = .ok (.ifCond .eq 20, 3) := by decide +kernel
theorem own_dtk4 : decode method_4_code 4 = .ok (.iload_n 2, 1) := by decide +kernel
theorem own_dtk5 : decode method_4_code 5 = .ok (.iload_n 3, 1) := by decide +kernel
theorem own_dtk6 : decode method_4_code 6 = .ok (.if_icmp .lt 15, 3) := by decide +kernel
theorem own_dtk9 : decode method_4_code 9 = .ok (.iload_n 0, 1) := by decide +kernel
theorem own_dtk10 : decode method_4_code 10 = .ok (.iconst (-1), 1) := by decide +kernel
theorem own_dtk11 : decode method_4_code 11 = .ok (.if_icmp .eq 8, 3) := by decide +kernel
theorem own_dtk14 : decode method_4_code 14 = .ok (.iload_n 2, 1) := by decide +kernel
theorem own_dtk15 : decode method_4_code 15 = .ok (.iload_n 0, 1) := by decide +kernel
theorem own_dtk16 : decode method_4_code 16 = .ok (.if_icmp .ge 5, 3) := by decide +kernel
theorem own_dtk19 : decode method_4_code 19 = .ok (.iload_n 2, 1) := by decide +kernel
theorem own_dtk20 : decode method_4_code 20 = .ok (.ireturn, 1) := by decide +kernel
theorem own_dtk21 : decode method_4_code 21 = .ok (.iload_n 0, 1) := by decide +kernel
theorem own_dtk22 : decode method_4_code 22 = .ok (.ireturn, 1) := by decide +kernel
theorem own_tke_pn : plainName "com/example/coersa/coersa/PlaceSetRemovePinLaw" = true := by first | (simp [plainName, overriddenIn]; done) | decide +kernel
theorem own_tke_ef (m : MethodId) (xb : Int32) (xh : Int32) (xp : Int32) (xq : Int32) : entryFrame m #[(.int xb), (.int xh), (.int xp), (.int xq)] 4 = mkF m 0 #[.val (.int xb), .val (.int xh), .val (.int xp), .val (.int xq)] [] := by first | (simp [entryFrame, mkF, argsToLocals, Value.category]; done) | rfl
def own_tke_Q (Z : State) (xb : Int32) (xh : Int32) (xp : Int32) (xq : Int32) (h0 : Heap) (n0 : Nat) (v : Option Value) (h : Heap) (L : List Loc) : Prop := v = some (.int (own_tk xb xh xp xq)) ∧ Fr n0 L ∧ h = h0
set_option maxRecDepth 65536 in
set_option maxHeartbeats 40000000 in
theorem own_tke (l : Launch) (Z : State) (a0 : Array Value) (hw : ∀ d ∈ tables_1, d.before a0 Z = true) (ws : List Jvm.Cond) (xb : Int32) (xh : Int32) (xp : Int32) (xq : Int32) (h0 : Heap) (n0 : Nat) (Z0 : n0 ≤ h0.size) :
  MetFree l (⟨"com/example/coersa/coersa/PlaceSetRemovePinLaw", "take", "(IZII)I"⟩ : MethodName) (head1 (Jvm.Cond.code (⟨"com/example/coersa/coersa/PlaceSetRemovePinLaw", "take", "(IZII)I"⟩ : MethodName) method_4_code 4 (some .int) :: ws) ({ frames := 0, cells := 0, slots := 0, locals := 0 } : Room)) (fun ars U => ars = #[(.int xb), (.int xh), (.int xp), (.int xq)] ∧ Z.Warmed39 U.vm ∧ U.heap = h0) (fun _ _ _ _ _ => True) (fun _ U o U' => ∃ v L, o = .returned v ∧ own_tke_Q Z xb xh xp xq  h0 n0 v U'.heap L ∧ FrameEnd U o U' L ({ frames := 0, cells := 0, slots := 0, locals := 0 } : Room).cells ({ frames := 0, cells := 0, slots := 0, locals := 0 } : Room).slots) := by
 refine MetFree.of_bodySF (plainFor_of_name own_tke_pn) hisR ?_
 intro p e s m args below meth c s₁ Bd hml0 hP hK
 obtain ⟨rfl, hZ, hh⟩ := hP
 have hx := Bd.exec
 have hby := Bd.bytes
 have hml : c.maxLocals = 4 := hml0
 have hown : s.vm.findClass "com/example/coersa/coersa/PlaceSetRemovePinLaw" = some m.cls := findClass_of_methodNamed Bd.named
 have hnm := (name_of_methodNamed Bd.named Bd.method).1
 have X0 : Stand p l e ({ frames := 0, cells := 0, slots := 0, locals := 0 } : Room) s m #[(.int xb), (.int xh), (.int xp), (.int xq)] below meth c s₁ [] 0 0 := Stand.of_body Bd
 have e0 : s₁.heap = h0 := by rw [← hh, Bd.state]; rfl
 have N0 := Fr.nil n0
 generalize hS0 : s₁.setTop (entryFrame m #[(.int xb), (.int xh), (.int xp), (.int xq)] 4) = S0
 have c0 : Steps p.tables e below S0 (s₁.setTop (mkF m 0 #[.val (.int xb), .val (.int xh), .val (.int xp), .val (.int xq)] [])) := by rw [← hS0]; exact castTop (own_tke_ef m xb xh xp xq) (Steps.refl _)
 have c1 : Steps p.tables e below S0 (s₁.setTop (mkF m 1 #[.val (.int xb), .val (.int xh), .val (.int xp), .val (.int xq)] [(.int xh)])) := c0.trans (by
  refine XS.iloadN X0.here hx rfl (hb hby own_dtk0) rfl ?_
  exact Steps.refl _)
 by_cases hb1 : xh = (0 : Int32)
 ·have c3 : Steps p.tables e below S0 (s₁.setTop (mkF m 22 #[.val (.int xb), .val (.int xh), .val (.int xp), .val (.int xq)] [(.int xb)])) := c1.trans (by
   refine XS.ifYes X0.here hx rfl (pc0 := 1) (pc' := 21) rfl (hb hby own_dtk1) rfl ((if0 _ _).trans (teq hb1).1) (by decide) (by decide) ?_
   show Steps _ _ _ (.setTop _ (mkF _ 21 _ _)) _
   refine XS.iloadN X0.here hx rfl (hb hby own_dtk21) rfl ?_
   exact Steps.refl _)
  obtain ⟨fs, hr, hrun, hended, hW, hsame⟩ := X0.leave (v := some (.int xb)) (fun h => by rw [Bd.returns] at h; cases h)
  exact ⟨_, _, c3.trans (retOut X0 hx (t := .int) (i := .ireturn) Bd.returns rfl (Or.inl ⟨rfl, Or.inl rfl, _, rfl⟩) (hb hby own_dtk22) hr), hrun, hended, _, _, rfl, ⟨by unfold own_tk; rw [if_pos hb1], N0, e0⟩, ⟨_, rfl⟩, hW, hsame.mono (by decide) (by decide)⟩
 ·have c5 : Steps p.tables e below S0 (s₁.setTop (mkF m 6 #[.val (.int xb), .val (.int xh), .val (.int xp), .val (.int xq)] [(.int xq), (.int xp)])) := c1.trans (by
   refine XS.ifNo X0.here hx rfl (hb hby own_dtk1) rfl ((if0 _ _).trans (feq hb1).1) ?_
   show Steps _ _ _ (.setTop _ (mkF _ 4 _ _)) _
   refine XS.iloadN X0.here hx rfl (hb hby own_dtk4) rfl ?_
   show Steps _ _ _ (.setTop _ (mkF _ 5 _ _)) _
   refine XS.iloadN X0.here hx rfl (hb hby own_dtk5) rfl ?_
   exact Steps.refl _)
  by_cases hb6 : xp < xq
  ·have c7 : Steps p.tables e below S0 (s₁.setTop (mkF m 22 #[.val (.int xb), .val (.int xh), .val (.int xp), .val (.int xq)] [(.int xb)])) := c5.trans (by
    refine XS.icmpYes X0.here hx rfl (pc0 := 6) (pc' := 21) rfl (hb hby own_dtk6) rfl (tlt hb6).1 (by decide) (by decide) ?_
    show Steps _ _ _ (.setTop _ (mkF _ 21 _ _)) _
    refine XS.iloadN X0.here hx rfl (hb hby own_dtk21) rfl ?_
    exact Steps.refl _)
   obtain ⟨fs, hr, hrun, hended, hW, hsame⟩ := X0.leave (v := some (.int xb)) (fun h => by rw [Bd.returns] at h; cases h)
   exact ⟨_, _, c7.trans (retOut X0 hx (t := .int) (i := .ireturn) Bd.returns rfl (Or.inl ⟨rfl, Or.inl rfl, _, rfl⟩) (hb hby own_dtk22) hr), hrun, hended, _, _, rfl, ⟨by unfold own_tk; rw [if_neg hb1, if_pos hb6], N0, e0⟩, ⟨_, rfl⟩, hW, hsame.mono (by decide) (by decide)⟩
  ·have c9 : Steps p.tables e below S0 (s₁.setTop (mkF m 11 #[.val (.int xb), .val (.int xh), .val (.int xp), .val (.int xq)] [(.int (-1 : Int32)), (.int xb)])) := c5.trans (by
    refine XS.icmpNo X0.here hx rfl (hb hby own_dtk6) rfl (flt hb6).1 ?_
    show Steps _ _ _ (.setTop _ (mkF _ 9 _ _)) _
    refine XS.iloadN X0.here hx rfl (hb hby own_dtk9) rfl ?_
    show Steps _ _ _ (.setTop _ (mkF _ 10 _ _)) _
    refine XS.iconst X0.here hx rfl (hb hby own_dtk10) ?_
    exact Steps.refl _)
   by_cases hb11 : xb = (-1 : Int32)
   ·have c11 : Steps p.tables e below S0 (s₁.setTop (mkF m 20 #[.val (.int xb), .val (.int xh), .val (.int xp), .val (.int xq)] [(.int xp)])) := c9.trans (by
     refine XS.icmpYes X0.here hx rfl (pc0 := 11) (pc' := 19) rfl (hb hby own_dtk11) rfl (teq hb11).1 (by decide) (by decide) ?_
     show Steps _ _ _ (.setTop _ (mkF _ 19 _ _)) _
     refine XS.iloadN X0.here hx rfl (hb hby own_dtk19) rfl ?_
     exact Steps.refl _)
    obtain ⟨fs, hr, hrun, hended, hW, hsame⟩ := X0.leave (v := some (.int xp)) (fun h => by rw [Bd.returns] at h; cases h)
    exact ⟨_, _, c11.trans (retOut X0 hx (t := .int) (i := .ireturn) Bd.returns rfl (Or.inl ⟨rfl, Or.inl rfl, _, rfl⟩) (hb hby own_dtk20) hr), hrun, hended, _, _, rfl, ⟨by unfold own_tk; rw [if_neg hb1, if_neg hb6, if_pos hb11], N0, e0⟩, ⟨_, rfl⟩, hW, hsame.mono (by decide) (by decide)⟩
   ·have c13 : Steps p.tables e below S0 (s₁.setTop (mkF m 16 #[.val (.int xb), .val (.int xh), .val (.int xp), .val (.int xq)] [(.int xb), (.int xp)])) := c9.trans (by
     refine XS.icmpNo X0.here hx rfl (hb hby own_dtk11) rfl (feq hb11).1 ?_
     show Steps _ _ _ (.setTop _ (mkF _ 14 _ _)) _
     refine XS.iloadN X0.here hx rfl (hb hby own_dtk14) rfl ?_
     show Steps _ _ _ (.setTop _ (mkF _ 15 _ _)) _
     refine XS.iloadN X0.here hx rfl (hb hby own_dtk15) rfl ?_
     exact Steps.refl _)
    by_cases hb16 : xp < xb
    ·have c15 : Steps p.tables e below S0 (s₁.setTop (mkF m 20 #[.val (.int xb), .val (.int xh), .val (.int xp), .val (.int xq)] [(.int xp)])) := c13.trans (by
      refine XS.icmpNo X0.here hx rfl (hb hby own_dtk16) rfl (tlt hb16).2.1 ?_
      show Steps _ _ _ (.setTop _ (mkF _ 19 _ _)) _
      refine XS.iloadN X0.here hx rfl (hb hby own_dtk19) rfl ?_
      exact Steps.refl _)
     obtain ⟨fs, hr, hrun, hended, hW, hsame⟩ := X0.leave (v := some (.int xp)) (fun h => by rw [Bd.returns] at h; cases h)
     exact ⟨_, _, c15.trans (retOut X0 hx (t := .int) (i := .ireturn) Bd.returns rfl (Or.inl ⟨rfl, Or.inl rfl, _, rfl⟩) (hb hby own_dtk20) hr), hrun, hended, _, _, rfl, ⟨by unfold own_tk; rw [if_neg hb1, if_neg hb6, if_neg hb11, if_pos hb16], N0, e0⟩, ⟨_, rfl⟩, hW, hsame.mono (by decide) (by decide)⟩
    ·have c17 : Steps p.tables e below S0 (s₁.setTop (mkF m 22 #[.val (.int xb), .val (.int xh), .val (.int xp), .val (.int xq)] [(.int xb)])) := c13.trans (by
      refine XS.icmpYes X0.here hx rfl (pc0 := 16) (pc' := 21) rfl (hb hby own_dtk16) rfl (flt hb16).2.1 (by decide) (by decide) ?_
      show Steps _ _ _ (.setTop _ (mkF _ 21 _ _)) _
      refine XS.iloadN X0.here hx rfl (hb hby own_dtk21) rfl ?_
      exact Steps.refl _)
     obtain ⟨fs, hr, hrun, hended, hW, hsame⟩ := X0.leave (v := some (.int xb)) (fun h => by rw [Bd.returns] at h; cases h)
     exact ⟨_, _, c17.trans (retOut X0 hx (t := .int) (i := .ireturn) Bd.returns rfl (Or.inl ⟨rfl, Or.inl rfl, _, rfl⟩) (hb hby own_dtk22) hr), hrun, hended, _, _, rfl, ⟨by unfold own_tk; rw [if_neg hb1, if_neg hb6, if_neg hb11, if_neg hb16], N0, e0⟩, ⟨_, rfl⟩, hW, hsame.mono (by decide) (by decide)⟩
def own_rf (fa fz : Nat → Int32) (xq : Int32) : Int32 := own_tk (own_tk (own_tk (-1) (fz 0) (fa 0) xq) (fz 1) (fa 1) xq) (fz 2) (fa 2) xq
theorem own_drf0 : decode method_3_code 0 = .ok (.iconst (-1), 1) := by decide +kernel
theorem own_drf1 : decode method_3_code 1 = .ok (.istore_n 3, 1) := by decide +kernel
theorem own_drf2 : decode method_3_code 2 = .ok (.iload_n 3, 1) := by decide +kernel
theorem own_drf3 : decode method_3_code 3 = .ok (.aload_n 1, 1) := by decide +kernel
theorem own_drf4 : decode method_3_code 4 = .ok (.iconst 0, 1) := by decide +kernel
theorem own_drf5 : decode method_3_code 5 = .ok (.baload, 1) := by decide +kernel
theorem own_drf6 : decode method_3_code 6 = .ok (.aload_n 0, 1) := by decide +kernel
theorem own_drf7 : decode method_3_code 7 = .ok (.iconst 0, 1) := by decide +kernel
theorem own_drf8 : decode method_3_code 8 = .ok (.iaload, 1) := by decide +kernel
theorem own_drf9 : decode method_3_code 9 = .ok (.iload_n 2, 1) := by decide +kernel
theorem own_drf10 : decode method_3_code 10 = .ok (.invokestatic 35, 3) := by decide +kernel
theorem own_drf13 : decode method_3_code 13 = .ok (.istore_n 3, 1) := by decide +kernel
theorem own_drf14 : decode method_3_code 14 = .ok (.iload_n 3, 1) := by decide +kernel
theorem own_drf15 : decode method_3_code 15 = .ok (.aload_n 1, 1) := by decide +kernel
theorem own_drf16 : decode method_3_code 16 = .ok (.iconst 1, 1) := by decide +kernel
theorem own_drf17 : decode method_3_code 17 = .ok (.baload, 1) := by decide +kernel
theorem own_drf18 : decode method_3_code 18 = .ok (.aload_n 0, 1) := by decide +kernel
theorem own_drf19 : decode method_3_code 19 = .ok (.iconst 1, 1) := by decide +kernel
theorem own_drf20 : decode method_3_code 20 = .ok (.iaload, 1) := by decide +kernel
theorem own_drf21 : decode method_3_code 21 = .ok (.iload_n 2, 1) := by decide +kernel
theorem own_drf22 : decode method_3_code 22 = .ok (.invokestatic 35, 3) := by decide +kernel
theorem own_drf25 : decode method_3_code 25 = .ok (.istore_n 3, 1) := by decide +kernel
theorem own_drf26 : decode method_3_code 26 = .ok (.iload_n 3, 1) := by decide +kernel
theorem own_drf27 : decode method_3_code 27 = .ok (.aload_n 1, 1) := by decide +kernel
theorem own_drf28 : decode method_3_code 28 = .ok (.iconst 2, 1) := by decide +kernel
theorem own_drf29 : decode method_3_code 29 = .ok (.baload, 1) := by decide +kernel
theorem own_drf30 : decode method_3_code 30 = .ok (.aload_n 0, 1) := by decide +kernel
theorem own_drf31 : decode method_3_code 31 = .ok (.iconst 2, 1) := by decide +kernel
theorem own_drf32 : decode method_3_code 32 = .ok (.iaload, 1) := by decide +kernel
theorem own_drf33 : decode method_3_code 33 = .ok (.iload_n 2, 1) := by decide +kernel
theorem own_drf34 : decode method_3_code 34 = .ok (.invokestatic 35, 3) := by decide +kernel
theorem own_drf37 : decode method_3_code 37 = .ok (.istore_n 3, 1) := by decide +kernel
theorem own_drf38 : decode method_3_code 38 = .ok (.iload_n 3, 1) := by decide +kernel
theorem own_drf39 : decode method_3_code 39 = .ok (.ireturn, 1) := by decide +kernel
theorem own_rfm_pn : plainName "com/example/coersa/coersa/PlaceSetRemovePinLaw" = true := by first | (simp [plainName, overriddenIn]; done) | decide +kernel
theorem own_rfm_ef (m : MethodId) (pa : Addr) (za : Addr) (xq : Int32) : entryFrame m #[(.ref pa), (.ref za), (.int xq)] 4 = mkF m 0 #[.val (.ref pa), .val (.ref za), .val (.int xq), .unset] [] := by first | (simp [entryFrame, mkF, argsToLocals, Value.category]; done) | rfl
def own_rfm_Q (Z : State) (pa : Addr) (za : Addr) (xq : Int32) (fa fz : Nat → Int32) (h0 : Heap) (n0 : Nat) (v : Option Value) (h : Heap) (L : List Loc) : Prop := v = some (.int (own_rf fa fz xq)) ∧ Fr n0 L ∧ h = h0
set_option maxRecDepth 65536 in
set_option maxHeartbeats 40000000 in
theorem own_rfm (l : Launch) (Z : State) (a0 : Array Value) (hw : ∀ d ∈ tables_1, d.before a0 Z = true) (ws : List Jvm.Cond) (pa : Addr) (za : Addr) (xq : Int32) (fa fz : Nat → Int32) (h0 : Heap) (n0 : Nat) (Z0 : n0 ≤ h0.size) (IA : own_IA Z h0 pa 3 fa) (ZA : own_ZA Z h0 za 3 fz) :
  MetFree l (⟨"com/example/coersa/coersa/PlaceSetRemovePinLaw", "ref", "([I[ZI)I"⟩ : MethodName) (head1 (Jvm.Cond.code (⟨"com/example/coersa/coersa/PlaceSetRemovePinLaw", "ref", "([I[ZI)I"⟩ : MethodName) method_3_code 4 (some .int) :: ws) ({ frames := 1, cells := 0, slots := 0, locals := 15 } : Room)) (fun ars U => ars = #[(.ref pa), (.ref za), (.int xq)] ∧ Z.Warmed39 U.vm ∧ U.heap = h0) (fun _ _ _ _ _ => True) (fun _ U o U' => ∃ v L, o = .returned v ∧ own_rfm_Q Z pa za xq fa fz h0 n0 v U'.heap L ∧ FrameEnd U o U' L ({ frames := 1, cells := 0, slots := 0, locals := 15 } : Room).cells ({ frames := 1, cells := 0, slots := 0, locals := 15 } : Room).slots) := by
 refine MetFree.of_bodySF (plainFor_of_name own_rfm_pn) hisR ?_
 intro p e s m args below meth c s₁ Bd hml0 hP hK
 obtain ⟨rfl, hZ, hh⟩ := hP
 have hx := Bd.exec
 have hby := Bd.bytes
 have hml : c.maxLocals = 4 := hml0
 have hown : s.vm.findClass "com/example/coersa/coersa/PlaceSetRemovePinLaw" = some m.cls := findClass_of_methodNamed Bd.named
 have hnm := (name_of_methodNamed Bd.named Bd.method).1
 have X0 : Stand p l e ({ frames := 1, cells := 0, slots := 0, locals := 15 } : Room) s m #[(.ref pa), (.ref za), (.int xq)] below meth c s₁ [] 0 0 := Stand.of_body Bd
 have e0 : s₁.heap = h0 := by rw [← hh, Bd.state]; rfl
 have N0 := Fr.nil n0
 generalize hS0 : s₁.setTop (entryFrame m #[(.ref pa), (.ref za), (.int xq)] 4) = S0
 have c0 : Steps p.tables e below S0 (s₁.setTop (mkF m 0 #[.val (.ref pa), .val (.ref za), .val (.int xq), .unset] [])) := by rw [← hS0]; exact castTop (own_rfm_ef m pa za xq) (Steps.refl _)
 have K0 : Keep h0 h0 [] := Keep.refl _ _
 obtain ⟨cI, AI, EI, SI, HI⟩ := IA
 obtain ⟨cZ, AZ, SZ, HZ⟩ := ZA
 have c5 : Steps p.tables e below S0 (s₁.setTop (mkF m 10 #[.val (.ref pa), .val (.ref za), .val (.int xq), .val (.int (-1 : Int32))] [(.int xq), (.int (fa 0)), (.int (fz 0)), (.int (-1 : Int32))])) := c0.trans (by
  refine XS.iconst X0.here hx rfl (hb hby own_drf0) ?_
  show Steps _ _ _ (.setTop _ (mkF _ 1 _ _)) _
  refine XS.istoreN X0.here hx rfl (hb hby own_drf1) rfl rfl ?_
  show Steps _ _ _ (.setTop _ (mkF _ 2 _ _)) _
  refine XS.iloadN X0.here hx rfl (hb hby own_drf2) rfl ?_
  show Steps _ _ _ (.setTop _ (mkF _ 3 _ _)) _
  refine XS.aloadN X0.here hx rfl (hb hby own_drf3) rfl rfl ?_
  show Steps _ _ _ (.setTop _ (mkF _ 4 _ _)) _
  refine XS.iconst X0.here hx rfl (hb hby own_drf4) ?_
  show Steps _ _ _ (.setTop _ (mkF _ 5 _ _)) _
  refine X0.baloadBooleans hx (j := (0 : Int32)) (v := (.int (fz 0))) (by rw [e0]; exact AZ.1) (State.isArrayOf_alike hZ.alike AZ.2.1) AZ.2.2 (own_inb (j := 0) SZ (by decide) (by decide)) (HZ 0 (by decide)) (g := (mkF m 5 #[.val (.ref pa), .val (.ref za), .val (.int xq), .val (.int (-1 : Int32))] [(.int (0 : Int32)), (.ref za), (.int (-1 : Int32))])) rfl rfl (hb hby own_drf5) _ ?_
  show Steps _ _ _ (.setTop _ (mkF _ 6 _ _)) _
  refine XS.aloadN X0.here hx rfl (hb hby own_drf6) rfl rfl ?_
  show Steps _ _ _ (.setTop _ (mkF _ 7 _ _)) _
  refine XS.iconst X0.here hx rfl (hb hby own_drf7) ?_
  show Steps _ _ _ (.setTop _ (mkF _ 8 _ _)) _
  refine X0.iaload hx (j := (0 : Int32)) (v := (.int (fa 0))) (by rw [e0]; exact AI.1) (State.isArrayOf_alike hZ.alike AI.2.1) AI.2.2 (own_inb (j := 0) SI (by decide) (by decide)) (HI 0 (by decide)) (g := (mkF m 8 #[.val (.ref pa), .val (.ref za), .val (.int xq), .val (.int (-1 : Int32))] [(.int (0 : Int32)), (.ref pa), (.int (fz 0)), (.int (-1 : Int32))])) rfl rfl (hb hby own_drf8) _ ?_
  show Steps _ _ _ (.setTop _ (mkF _ 9 _ _)) _
  refine XS.iloadN X0.here hx rfl (hb hby own_drf9) rfl ?_
  exact Steps.refl _)
 obtain ⟨_, _, ⟨T6, L6, k6, n6⟩, -, X6, ⟨Lc6, hQ6, l6, y6, z6⟩, st6⟩ := Jvm.LawKit.callS X0 hx (y := (⟨"com/example/coersa/coersa/PlaceSetRemovePinLaw", "take", "(IZII)I"⟩ : MethodName)) hown (mvT hZ (hw _ (own_m 54 rfl))) (mvT hZ (hw _ (own_m 55 rfl))) (mvT hZ (hw _ (own_m 52 rfl))) (mvT hZ (hw _ (own_m 56 rfl))) (by decide) (backOf (W := 0) (own_tke l Z a0 hw [] (-1 : Int32) (fz 0) (fa 0) xq h0 n0 Z0) hZ (hw _ (own_m 56 rfl)) (hw _ (own_m 52 rfl)) (Nat.le_of_ble_eq_true rfl) (Nat.le_of_ble_eq_true rfl)) (g := (mkF m 10 #[.val (.ref pa), .val (.ref za), .val (.int xq), .val (.int (-1 : Int32))] [(.int xq), (.int (fa 0)), (.int (fz 0)), (.int (-1 : Int32))])) rfl (by rw [hml]; rfl) (argsL := [(.int (-1 : Int32)), (.int (fz 0)), (.int (fa 0)), (.int xq)]) (rest := []) (lenOf own_pd7 rfl) rfl (by show 2 * 0 + _ ≤ _; exact Nat.le_of_eq rfl) (hb hby own_drf10) (fun _ _ => ⟨rfl, e0, (Nat.le_of_ble_eq_true rfl), (Nat.le_of_ble_eq_true rfl)⟩)
 dsimp only [Pt.U, Pt.locs, Pt.cells, Pt.slots] at X6 l6 y6 z6 st6 hQ6
 subst l6 y6 z6
 obtain ⟨rfl, N6q, et0⟩ := hQ6
 have N6 := Fr.app N0 N6q
 have c12 : Steps p.tables e below S0 (T6.setTop (mkF m 22 #[.val (.ref pa), .val (.ref za), .val (.int xq), .val (.int (own_tk (-1 : Int32) (fz 0) (fa 0) xq))] [(.int xq), (.int (fa 1)), (.int (fz 1)), (.int (own_tk (-1 : Int32) (fz 0) (fa 0) xq))])) := c5.trans (by
  refine st6 _ ?_
  show Steps _ _ _ (.setTop _ (mkF _ 13 _ _)) _
  refine XS.istoreN X6.here hx rfl (hb hby own_drf13) rfl rfl ?_
  show Steps _ _ _ (.setTop _ (mkF _ 14 _ _)) _
  refine XS.iloadN X6.here hx rfl (hb hby own_drf14) rfl ?_
  show Steps _ _ _ (.setTop _ (mkF _ 15 _ _)) _
  refine XS.aloadN X6.here hx rfl (hb hby own_drf15) rfl rfl ?_
  show Steps _ _ _ (.setTop _ (mkF _ 16 _ _)) _
  refine XS.iconst X6.here hx rfl (hb hby own_drf16) ?_
  show Steps _ _ _ (.setTop _ (mkF _ 17 _ _)) _
  refine X6.baloadBooleans hx (j := (1 : Int32)) (v := (.int (fz 1))) (by rw [et0]; exact AZ.1) (State.isArrayOf_alike hZ.alike AZ.2.1) AZ.2.2 (own_inb (j := 1) SZ (by decide) (by decide)) (HZ 1 (by decide)) (g := (mkF m 17 #[.val (.ref pa), .val (.ref za), .val (.int xq), .val (.int (own_tk (-1 : Int32) (fz 0) (fa 0) xq))] [(.int (1 : Int32)), (.ref za), (.int (own_tk (-1 : Int32) (fz 0) (fa 0) xq))])) rfl rfl (hb hby own_drf17) _ ?_
  show Steps _ _ _ (.setTop _ (mkF _ 18 _ _)) _
  refine XS.aloadN X6.here hx rfl (hb hby own_drf18) rfl rfl ?_
  show Steps _ _ _ (.setTop _ (mkF _ 19 _ _)) _
  refine XS.iconst X6.here hx rfl (hb hby own_drf19) ?_
  show Steps _ _ _ (.setTop _ (mkF _ 20 _ _)) _
  refine X6.iaload hx (j := (1 : Int32)) (v := (.int (fa 1))) (by rw [et0]; exact AI.1) (State.isArrayOf_alike hZ.alike AI.2.1) AI.2.2 (own_inb (j := 1) SI (by decide) (by decide)) (HI 1 (by decide)) (g := (mkF m 20 #[.val (.ref pa), .val (.ref za), .val (.int xq), .val (.int (own_tk (-1 : Int32) (fz 0) (fa 0) xq))] [(.int (1 : Int32)), (.ref pa), (.int (fz 1)), (.int (own_tk (-1 : Int32) (fz 0) (fa 0) xq))])) rfl rfl (hb hby own_drf20) _ ?_
  show Steps _ _ _ (.setTop _ (mkF _ 21 _ _)) _
  refine XS.iloadN X6.here hx rfl (hb hby own_drf21) rfl ?_
  exact Steps.refl _)
 obtain ⟨_, _, ⟨T13, L13, k13, n13⟩, -, X13, ⟨Lc13, hQ13, l13, y13, z13⟩, st13⟩ := Jvm.LawKit.callS X6 hx (y := (⟨"com/example/coersa/coersa/PlaceSetRemovePinLaw", "take", "(IZII)I"⟩ : MethodName)) hown (mvT hZ (hw _ (own_m 54 rfl))) (mvT hZ (hw _ (own_m 55 rfl))) (mvT hZ (hw _ (own_m 52 rfl))) (mvT hZ (hw _ (own_m 56 rfl))) (by decide) (backOf (W := 0) (own_tke l Z a0 hw [] (own_tk (-1 : Int32) (fz 0) (fa 0) xq) (fz 1) (fa 1) xq h0 n0 Z0) hZ (hw _ (own_m 56 rfl)) (hw _ (own_m 52 rfl)) (Nat.le_of_ble_eq_true rfl) (Nat.le_of_ble_eq_true rfl)) (g := (mkF m 22 #[.val (.ref pa), .val (.ref za), .val (.int xq), .val (.int (own_tk (-1 : Int32) (fz 0) (fa 0) xq))] [(.int xq), (.int (fa 1)), (.int (fz 1)), (.int (own_tk (-1 : Int32) (fz 0) (fa 0) xq))])) rfl (by rw [hml]; rfl) (argsL := [(.int (own_tk (-1 : Int32) (fz 0) (fa 0) xq)), (.int (fz 1)), (.int (fa 1)), (.int xq)]) (rest := []) (lenOf own_pd7 rfl) rfl (by show 2 * 0 + _ ≤ _; exact Nat.le_of_eq rfl) (hb hby own_drf22) (fun _ _ => ⟨rfl, et0, (Nat.le_of_ble_eq_true rfl), (Nat.le_of_ble_eq_true rfl)⟩)
 dsimp only [Pt.U, Pt.locs, Pt.cells, Pt.slots] at X13 l13 y13 z13 st13 hQ13
 subst l13 y13 z13
 obtain ⟨rfl, N13q, et1⟩ := hQ13
 have N13 := Fr.app N6 N13q
 have c19 : Steps p.tables e below S0 (T13.setTop (mkF m 34 #[.val (.ref pa), .val (.ref za), .val (.int xq), .val (.int (own_tk (own_tk (-1 : Int32) (fz 0) (fa 0) xq) (fz 1) (fa 1) xq))] [(.int xq), (.int (fa 2)), (.int (fz 2)), (.int (own_tk (own_tk (-1 : Int32) (fz 0) (fa 0) xq) (fz 1) (fa 1) xq))])) := c12.trans (by
  refine st13 _ ?_
  show Steps _ _ _ (.setTop _ (mkF _ 25 _ _)) _
  refine XS.istoreN X13.here hx rfl (hb hby own_drf25) rfl rfl ?_
  show Steps _ _ _ (.setTop _ (mkF _ 26 _ _)) _
  refine XS.iloadN X13.here hx rfl (hb hby own_drf26) rfl ?_
  show Steps _ _ _ (.setTop _ (mkF _ 27 _ _)) _
  refine XS.aloadN X13.here hx rfl (hb hby own_drf27) rfl rfl ?_
  show Steps _ _ _ (.setTop _ (mkF _ 28 _ _)) _
  refine XS.iconst X13.here hx rfl (hb hby own_drf28) ?_
  show Steps _ _ _ (.setTop _ (mkF _ 29 _ _)) _
  refine X13.baloadBooleans hx (j := (2 : Int32)) (v := (.int (fz 2))) (by rw [et1]; exact AZ.1) (State.isArrayOf_alike hZ.alike AZ.2.1) AZ.2.2 (own_inb (j := 2) SZ (by decide) (by decide)) (HZ 2 (by decide)) (g := (mkF m 29 #[.val (.ref pa), .val (.ref za), .val (.int xq), .val (.int (own_tk (own_tk (-1 : Int32) (fz 0) (fa 0) xq) (fz 1) (fa 1) xq))] [(.int (2 : Int32)), (.ref za), (.int (own_tk (own_tk (-1 : Int32) (fz 0) (fa 0) xq) (fz 1) (fa 1) xq))])) rfl rfl (hb hby own_drf29) _ ?_
  show Steps _ _ _ (.setTop _ (mkF _ 30 _ _)) _
  refine XS.aloadN X13.here hx rfl (hb hby own_drf30) rfl rfl ?_
  show Steps _ _ _ (.setTop _ (mkF _ 31 _ _)) _
  refine XS.iconst X13.here hx rfl (hb hby own_drf31) ?_
  show Steps _ _ _ (.setTop _ (mkF _ 32 _ _)) _
  refine X13.iaload hx (j := (2 : Int32)) (v := (.int (fa 2))) (by rw [et1]; exact AI.1) (State.isArrayOf_alike hZ.alike AI.2.1) AI.2.2 (own_inb (j := 2) SI (by decide) (by decide)) (HI 2 (by decide)) (g := (mkF m 32 #[.val (.ref pa), .val (.ref za), .val (.int xq), .val (.int (own_tk (own_tk (-1 : Int32) (fz 0) (fa 0) xq) (fz 1) (fa 1) xq))] [(.int (2 : Int32)), (.ref pa), (.int (fz 2)), (.int (own_tk (own_tk (-1 : Int32) (fz 0) (fa 0) xq) (fz 1) (fa 1) xq))])) rfl rfl (hb hby own_drf32) _ ?_
  show Steps _ _ _ (.setTop _ (mkF _ 33 _ _)) _
  refine XS.iloadN X13.here hx rfl (hb hby own_drf33) rfl ?_
  exact Steps.refl _)
 obtain ⟨_, _, ⟨T20, L20, k20, n20⟩, -, X20, ⟨Lc20, hQ20, l20, y20, z20⟩, st20⟩ := Jvm.LawKit.callS X13 hx (y := (⟨"com/example/coersa/coersa/PlaceSetRemovePinLaw", "take", "(IZII)I"⟩ : MethodName)) hown (mvT hZ (hw _ (own_m 54 rfl))) (mvT hZ (hw _ (own_m 55 rfl))) (mvT hZ (hw _ (own_m 52 rfl))) (mvT hZ (hw _ (own_m 56 rfl))) (by decide) (backOf (W := 0) (own_tke l Z a0 hw [] (own_tk (own_tk (-1 : Int32) (fz 0) (fa 0) xq) (fz 1) (fa 1) xq) (fz 2) (fa 2) xq h0 n0 Z0) hZ (hw _ (own_m 56 rfl)) (hw _ (own_m 52 rfl)) (Nat.le_of_ble_eq_true rfl) (Nat.le_of_ble_eq_true rfl)) (g := (mkF m 34 #[.val (.ref pa), .val (.ref za), .val (.int xq), .val (.int (own_tk (own_tk (-1 : Int32) (fz 0) (fa 0) xq) (fz 1) (fa 1) xq))] [(.int xq), (.int (fa 2)), (.int (fz 2)), (.int (own_tk (own_tk (-1 : Int32) (fz 0) (fa 0) xq) (fz 1) (fa 1) xq))])) rfl (by rw [hml]; rfl) (argsL := [(.int (own_tk (own_tk (-1 : Int32) (fz 0) (fa 0) xq) (fz 1) (fa 1) xq)), (.int (fz 2)), (.int (fa 2)), (.int xq)]) (rest := []) (lenOf own_pd7 rfl) rfl (by show 2 * 0 + _ ≤ _; exact Nat.le_of_eq rfl) (hb hby own_drf34) (fun _ _ => ⟨rfl, et1, (Nat.le_of_ble_eq_true rfl), (Nat.le_of_ble_eq_true rfl)⟩)
 dsimp only [Pt.U, Pt.locs, Pt.cells, Pt.slots] at X20 l20 y20 z20 st20 hQ20
 subst l20 y20 z20
 obtain ⟨rfl, N20q, et2⟩ := hQ20
 have N20 := Fr.app N13 N20q
 have c22 : Steps p.tables e below S0 (T20.setTop (mkF m 39 #[.val (.ref pa), .val (.ref za), .val (.int xq), .val (.int (own_tk (own_tk (own_tk (-1 : Int32) (fz 0) (fa 0) xq) (fz 1) (fa 1) xq) (fz 2) (fa 2) xq))] [(.int (own_tk (own_tk (own_tk (-1 : Int32) (fz 0) (fa 0) xq) (fz 1) (fa 1) xq) (fz 2) (fa 2) xq))])) := c19.trans (by
  refine st20 _ ?_
  show Steps _ _ _ (.setTop _ (mkF _ 37 _ _)) _
  refine XS.istoreN X20.here hx rfl (hb hby own_drf37) rfl rfl ?_
  show Steps _ _ _ (.setTop _ (mkF _ 38 _ _)) _
  refine XS.iloadN X20.here hx rfl (hb hby own_drf38) rfl ?_
  exact Steps.refl _)
 obtain ⟨fs, hr, hrun, hended, hW, hsame⟩ := X20.leave (v := some (.int (own_tk (own_tk (own_tk (-1 : Int32) (fz 0) (fa 0) xq) (fz 1) (fa 1) xq) (fz 2) (fa 2) xq))) (fun h => by rw [Bd.returns] at h; cases h)
 exact ⟨_, _, c22.trans (retOut X20 hx (t := .int) (i := .ireturn) Bd.returns rfl (Or.inl ⟨rfl, Or.inl rfl, _, rfl⟩) (hb hby own_drf39) hr), hrun, hended, _, _, rfl, ⟨rfl, N20, et2⟩, ⟨_, rfl⟩, hW, hsame.mono (by decide) (by decide)⟩
/-! H. counting -/
def own_cb (S : List Nat) (i : Nat) : Nat := S.countP (fun p => decide (p < 64 * i))
def own_cw (S : List Nat) (i : Nat) : Nat := S.countP (fun p => decide (p / 64 = i))
def own_cc (S : List Nat) (b : Nat) : Nat := S.countP (fun p => decide (p / 4096 = b))
theorem own_cb_succ (S : List Nat) (i : Nat) : own_cb S (i + 1) = own_cb S i + own_cw S i := by
 unfold own_cb own_cw
 induction S with
 | nil => rfl
 | cons p S ih =>
  simp only [List.countP_cons, ih, decide_eq_true_eq]
  split <;> split <;> split <;> omega
theorem own_cb_blk (S : List Nat) {i : Nat} (h : i % 64 = 0) : own_cb S (i + 64) = own_cb S i + own_cc S (i / 64) := by
 unfold own_cb own_cc
 induction S with
 | nil => rfl
 | cons p S ih =>
  simp only [List.countP_cons, ih, decide_eq_true_eq]
  split <;> split <;> split <;> omega
theorem own_cb_all {S : List Nat} {i : Nat} (h : ∀ p, p ∈ S → p < 64 * i) : own_cb S i = S.length := List.countP_eq_length.mpr (fun p hp => decide_eq_true (h p hp))
theorem own_cb_zero (S : List Nat) : own_cb S 0 = 0 := List.countP_eq_zero.mpr (fun p _ => by simp)
theorem own_cb_cw (S : List Nat) (i : Nat) : own_cb S i + own_cw S i ≤ S.length := by rw [← own_cb_succ]; exact List.countP_le_length
theorem own_cb_pos {S : List Nat} {i : Nat} (h : 0 < own_cb S i) : ∃ p, p ∈ S ∧ p < 64 * i := by
 obtain ⟨p, hp, e⟩ := List.countP_pos_iff.mp h
 exact ⟨p, hp, of_decide_eq_true e⟩
theorem own_cw_pos {S : List Nat} {i : Nat} (h : 0 < own_cw S i) : ∃ p, p ∈ S ∧ p / 64 = i := by
 obtain ⟨p, hp, e⟩ := List.countP_pos_iff.mp h
 exact ⟨p, hp, of_decide_eq_true e⟩
theorem own_cw_two {S : List Nat} {i : Nat} (hl : S.length ≤ 2) (hd : S.Nodup) (h : 2 ≤ own_cw S i) (p0 : Nat) : ∃ p, p ∈ S ∧ p / 64 = i ∧ p ≠ p0 := by
 have h3 := List.countP_le_length (p := fun p => decide (p / 64 = i)) (l := S)
 have h4 : S.countP (fun p => decide (p / 64 = i)) = S.length := by unfold own_cw at h; omega
 have h5 := List.countP_eq_length.mp h4
 match S, hl, hd, h, h4, h5 with
 | [], _, _, h, _, _ => exact absurd h (by simp [own_cw])
 | [x], _, _, h, _, _ => exact absurd h (by have := own_cb_cw [x] i; simp at this; omega)
 | [x, y], _, hd, _, _, h5 =>
  have hx := of_decide_eq_true (h5 x (by simp))
  have hy := of_decide_eq_true (h5 y (by simp))
  by_cases c : x = p0
  ·exact ⟨y, by simp, hy, fun q => by rw [q, ← c] at hd; simp at hd⟩
  ·exact ⟨x, by simp, hx, c⟩
def own_wd (S : List Nat) (i : Nat) : Int64 := S.foldr (fun p x => if p / 64 = i then x ||| own_bit (p % 64) else x) 0
theorem own_tb_wd (S : List Nat) (i : Nat) {k : Nat} (hk : k < 64) : own_tb (own_wd S i) k = true ↔ ∃ p, p ∈ S ∧ p = 64 * i + k := by
 induction S with
 | nil => simp [own_wd, own_tb_zero]
 | cons p S ih =>
  show own_tb (if p / 64 = i then own_wd S i ||| own_bit (p % 64) else own_wd S i) k = true ↔ _
  by_cases c : p / 64 = i
  ·rw [if_pos c, own_tb_or, Bool.or_eq_true, ih, own_tb_bit (by omega) hk, decide_eq_true_eq]
   constructor
   ·rintro (⟨q, hq, e⟩ | e)
    ·exact ⟨q, List.mem_cons_of_mem _ hq, e⟩
    ·exact ⟨p, List.mem_cons_self, by omega⟩
   ·rintro ⟨q, hq, e⟩
    rcases List.mem_cons.mp hq with rfl | hq
    ·right; omega
    ·exact Or.inl ⟨q, hq, e⟩
  ·rw [if_neg c, ih]
   constructor
   ·rintro ⟨q, hq, e⟩; exact ⟨q, List.mem_cons_of_mem _ hq, e⟩
   ·rintro ⟨q, hq, e⟩
    rcases List.mem_cons.mp hq with rfl | hq
    ·exact absurd e (by omega)
    ·exact ⟨q, hq, e⟩
theorem own_pc2_fin : ∀ a b : Fin 64, a.1 ≠ b.1 → own_pc (0 ||| own_bit b.1 ||| own_bit a.1) = 2 := by decide +kernel
theorem own_pc1_fin : ∀ a : Fin 64, own_pc (0 ||| own_bit a.1) = 1 := by decide +kernel
theorem own_pcw {S : List Nat} (hl : S.length ≤ 2) (hd : S.Nodup) {x : Int64} {i : Nat} (hx : ∀ k, k < 64 → (own_tb x k = true ↔ ∃ p, p ∈ S ∧ p = 64 * i + k)) : own_pc x = Int32.ofNat (own_cw S i) := by
 have e : x = own_wd S i := own_tb_ext (fun k hk => by rw [Bool.eq_iff_iff, hx k hk, own_tb_wd S i hk])
 subst e
 have z0 : own_pc 0 = 0 := by decide +kernel
 match S, hl, hd with
 | [], _, _ => exact z0
 | [x], _, _ =>
  show own_pc (if x / 64 = i then 0 ||| own_bit (x % 64) else 0) = _
  by_cases c : x / 64 = i
  ·rw [if_pos c, own_pc1_fin ⟨x % 64, by omega⟩]; simp [own_cw, c]
  ·rw [if_neg c, z0]; simp [own_cw, c]
 | [x, y], _, hd =>
  show own_pc (if x / 64 = i then (if y / 64 = i then 0 ||| own_bit (y % 64) else 0) ||| own_bit (x % 64) else (if y / 64 = i then 0 ||| own_bit (y % 64) else 0)) = _
  have hne : x ≠ y := by simpa using hd
  by_cases c : x / 64 = i
  ·by_cases c2 : y / 64 = i
   ·rw [if_pos c, if_pos c2, own_pc2_fin ⟨x % 64, by omega⟩ ⟨y % 64, by omega⟩ (by show x % 64 ≠ y % 64; omega)]; simp [own_cw, c, c2]
   ·rw [if_pos c, if_neg c2, own_pc1_fin ⟨x % 64, by omega⟩]; simp [own_cw, c, c2]
  ·by_cases c2 : y / 64 = i
   ·rw [if_neg c, if_pos c2, own_pc1_fin ⟨y % 64, by omega⟩]; simp [own_cw, c, c2]
   ·rw [if_neg c, if_neg c2, z0]; simp [own_cw, c, c2]
def own_R2 (S : List Nat) (n : Nat) (r : Int32) : Prop := (S.length ≤ n ∧ r = -1) ∨ (n < S.length ∧ ∃ p, p ∈ S ∧ (∃ p', p' ∈ S ∧ p' < p) ∧ r = Int32.ofNat p)
theorem own_isub {i j : Nat} (h : j ≤ i) : Int32.ofNat i - Int32.ofNat j = Int32.ofNat (i - j) := by
 obtain ⟨k, rfl⟩ := Nat.exists_eq_add_of_le h
 rw [show j + k = k + j by omega, Int32.ofNat_add, Int32.add_sub_cancel, Nat.add_sub_cancel]
theorem own_msk0 (x : Int64) : x &&& own_msk 0 = x := own_tb_ext (fun k hk => by rw [own_tb_and, own_tb_msk (by decide) hk]; simp)
theorem own_lcs (x : Int64) : lcmpW x x = 0 := (lw_eq _ _).mpr rfl
theorem own_bit0 {S : List Nat} {K : Nat} {N : Nat → Nat} {f : Nat → Nat → Int64} (E : own_SEM S K N f) (hk : 0 < K) {i : Nat} (hi : i < N 0) {k : Nat} (h : k < 64) : own_tb (f 0 i) k = true ↔ ∃ p, p ∈ S ∧ p = 64 * i + k := E.2 0 hk i hi k h
/-- no clearing: the word's lowest -/
theorem own_fin0 {S : List Nat} {K : Nat} {N : Nat → Nat} {f : Nat → Nat → Int64} (E : own_SEM S K N f) (hk : 0 < K) {i n : Nat} (hi : i < N 0) (hn : 1 ≤ n) (h1 : own_cb S i = n) (h2 : 0 < own_cw S i) : ∃ k, k < 64 ∧ own_tb (f 0 i) k = true ∧ (∀ j, j < k → own_tb (f 0 i) j = false) ∧ own_R2 S n (Int32.ofNat (64 * i + k)) := by
 obtain ⟨p, hp, hd⟩ := own_cw_pos h2
 have hne : ¬ f 0 i = 0 := fun q => by
  have t := (own_bit0 E hk hi (k := p % 64) (by omega)).mpr ⟨p, hp, by omega⟩
  rw [q, own_tb_zero] at t; cases t
 obtain ⟨k, a, b, c⟩ := own_low hne
 obtain ⟨p2, hp2, e2⟩ := (own_bit0 E hk hi a).mp b
 obtain ⟨p3, hp3, e3⟩ := own_cb_pos (S := S) (i := i) (by omega)
 exact ⟨k, a, b, c, Or.inr ⟨by have := own_cb_cw S i; omega, p2, hp2, ⟨p3, hp3, by omega⟩, by rw [e2]⟩⟩
/-- cleared once: the word's second -/
theorem own_fin1 {S : List Nat} (hl : S.length ≤ 2) (hd : S.Nodup) {K : Nat} {N : Nat → Nat} {f : Nat → Nat → Int64} (E : own_SEM S K N f) (hk : 0 < K) {i n : Nat} (hi : i < N 0) (h1 : 1 + own_cb S i = n) (h2 : 1 < own_cw S i) : ∃ k, k < 64 ∧ own_tb (f 0 i &&& (f 0 i - 1)) k = true ∧ (∀ j, j < k → own_tb (f 0 i &&& (f 0 i - 1)) j = false) ∧ own_R2 S n (Int32.ofNat (64 * i + k)) := by
 obtain ⟨p, hp, hd'⟩ := own_cw_pos (S := S) (i := i) (by omega)
 have hne : ¬ f 0 i = 0 := fun q => by
  have t := (own_bit0 E hk hi (k := p % 64) (by omega)).mpr ⟨p, hp, by omega⟩
  rw [q, own_tb_zero] at t; cases t
 obtain ⟨k0, a0, b0, c0⟩ := own_low hne
 obtain ⟨p0, hp0, e0⟩ := (own_bit0 E hk hi a0).mp b0
 obtain ⟨p1, hp1, e1, n1⟩ := own_cw_two (i := i) hl hd (by omega) p0
 have t1 := (own_bit0 E hk hi (k := p1 % 64) (by omega)).mpr ⟨p1, hp1, by omega⟩
 have hne1 : ¬ f 0 i &&& (f 0 i - 1) = 0 := fun q => by
  have t := own_tb_clear a0 b0 c0 (p1 % 64) (by omega)
  rw [q, own_tb_zero, t1, Bool.true_and] at t
  have t2 : ¬ p1 % 64 = k0 := fun q => n1 (by omega)
  simp [t2] at t
 obtain ⟨k, a, b, c⟩ := own_low hne1
 have b' := b
 rw [own_tb_clear a0 b0 c0 k a, Bool.and_eq_true] at b'
 obtain ⟨b1, b2⟩ := b'
 have b3 : ¬ k = k0 := by simpa using b2
 obtain ⟨p2, hp2, e2⟩ := (own_bit0 E hk hi a).mp b1
 have hlt : k0 < k := by
  rcases Nat.lt_trichotomy k k0 with q | q | q
  ·rw [c0 k q] at b1; cases b1
  ·exact absurd q b3
  ·exact q
 exact ⟨k, a, b, c, Or.inr ⟨by have := own_cb_cw S i; omega, p2, hp2, ⟨p0, hp0, by omega⟩, by rw [e2]⟩⟩

theorem own_dn20 : decode prog_209_method_8_code 0 = .ok (.aload_n 0, 1) := by decide +kernel
theorem own_dn21 : decode prog_209_method_8_code 1 = .ok (.getfield 11, 3) := by decide +kernel
theorem own_dn24 : decode prog_209_method_8_code 4 = .ok (.iconst 0, 1) := by decide +kernel
theorem own_dn25 : decode prog_209_method_8_code 5 = .ok (.aaload, 1) := by decide +kernel
theorem own_dn26 : decode prog_209_method_8_code 6 = .ok (.astore_n 3, 1) := by decide +kernel
theorem own_dn27 : decode prog_209_method_8_code 7 = .ok (.iload_n 1, 1) := by decide +kernel
theorem own_dn28 : decode prog_209_method_8_code 8 = .ok (.bipush 6, 2) := by decide +kernel
theorem own_dn210 : decode prog_209_method_8_code 10 = .ok (.iushr, 1) := by decide +kernel
theorem own_dn211 : decode prog_209_method_8_code 11 = .ok (.istore 4, 2) := by decide +kernel
theorem own_dn213 : decode prog_209_method_8_code 13 = .ok (.iload 4, 2) := by decide +kernel
theorem own_dn215 : decode prog_209_method_8_code 15 = .ok (.aload_n 3, 1) := by decide +kernel
theorem own_dn216 : decode prog_209_method_8_code 16 = .ok (.arraylength, 1) := by decide +kernel
theorem own_dn217 : decode prog_209_method_8_code 17 = .ok (.if_icmp .lt 5, 3) := by decide +kernel
theorem own_dn220 : decode prog_209_method_8_code 20 = .ok (.iconst (-1), 1) := by decide +kernel
theorem own_dn221 : decode prog_209_method_8_code 21 = .ok (.ireturn, 1) := by decide +kernel
theorem own_dn222 : decode prog_209_method_8_code 22 = .ok (.aload_n 3, 1) := by decide +kernel
theorem own_dn223 : decode prog_209_method_8_code 23 = .ok (.iload 4, 2) := by decide +kernel
theorem own_dn225 : decode prog_209_method_8_code 25 = .ok (.laload, 1) := by decide +kernel
theorem own_dn226 : decode prog_209_method_8_code 26 = .ok (.ldc2_w 50, 3) := by decide +kernel
theorem own_dn229 : decode prog_209_method_8_code 29 = .ok (.iload_n 1, 1) := by decide +kernel
theorem own_dn230 : decode prog_209_method_8_code 30 = .ok (.bipush 63, 2) := by decide +kernel
theorem own_dn232 : decode prog_209_method_8_code 32 = .ok (.iand, 1) := by decide +kernel
theorem own_dn233 : decode prog_209_method_8_code 33 = .ok (.lshl, 1) := by decide +kernel
theorem own_dn234 : decode prog_209_method_8_code 34 = .ok (.land, 1) := by decide +kernel
theorem own_dn235 : decode prog_209_method_8_code 35 = .ok (.lstore 5, 2) := by decide +kernel
theorem own_dn237 : decode prog_209_method_8_code 37 = .ok (.iload_n 2, 1) := by decide +kernel
theorem own_dn238 : decode prog_209_method_8_code 38 = .ok (.istore 7, 2) := by decide +kernel
theorem own_dn240 : decode prog_209_method_8_code 40 = .ok (.lload 5, 2) := by decide +kernel
theorem own_dn242 : decode prog_209_method_8_code 42 = .ok (.invokestatic 77, 3) := by decide +kernel
theorem own_dn245 : decode prog_209_method_8_code 45 = .ok (.istore 8, 2) := by decide +kernel
theorem own_dn247 : decode prog_209_method_8_code 47 = .ok (.iload 7, 2) := by decide +kernel
theorem own_dn249 : decode prog_209_method_8_code 49 = .ok (.iload 8, 2) := by decide +kernel
theorem own_dn251 : decode prog_209_method_8_code 51 = .ok (.if_icmp .lt 93, 3) := by decide +kernel
theorem own_dn254 : decode prog_209_method_8_code 54 = .ok (.iload 4, 2) := by decide +kernel
theorem own_dn256 : decode prog_209_method_8_code 56 = .ok (.bipush 6, 2) := by decide +kernel
theorem own_dn258 : decode prog_209_method_8_code 58 = .ok (.iushr, 1) := by decide +kernel
theorem own_dn259 : decode prog_209_method_8_code 59 = .ok (.istore 9, 2) := by decide +kernel
theorem own_dn261 : decode prog_209_method_8_code 61 = .ok (.iload 4, 2) := by decide +kernel
theorem own_dn263 : decode prog_209_method_8_code 63 = .ok (.bipush 63, 2) := by decide +kernel
theorem own_dn265 : decode prog_209_method_8_code 65 = .ok (.iand, 1) := by decide +kernel
theorem own_dn266 : decode prog_209_method_8_code 66 = .ok (.ifCond .ne 43, 3) := by decide +kernel
theorem own_dn269 : decode prog_209_method_8_code 69 = .ok (.lload 5, 2) := by decide +kernel
theorem own_dn271 : decode prog_209_method_8_code 71 = .ok (.aload_n 3, 1) := by decide +kernel
theorem own_dn272 : decode prog_209_method_8_code 72 = .ok (.iload 4, 2) := by decide +kernel
theorem own_dn274 : decode prog_209_method_8_code 74 = .ok (.laload, 1) := by decide +kernel
theorem own_dn275 : decode prog_209_method_8_code 75 = .ok (.lcmp, 1) := by decide +kernel
theorem own_dn276 : decode prog_209_method_8_code 76 = .ok (.ifCond .ne 33, 3) := by decide +kernel
theorem own_dn279 : decode prog_209_method_8_code 79 = .ok (.aload_n 0, 1) := by decide +kernel
theorem own_dn280 : decode prog_209_method_8_code 80 = .ok (.getfield 15, 3) := by decide +kernel
theorem own_dn283 : decode prog_209_method_8_code 83 = .ok (.iload 9, 2) := by decide +kernel
theorem own_dn285 : decode prog_209_method_8_code 85 = .ok (.iaload, 1) := by decide +kernel
theorem own_dn286 : decode prog_209_method_8_code 86 = .ok (.iload 7, 2) := by decide +kernel
theorem own_dn288 : decode prog_209_method_8_code 88 = .ok (.if_icmp .gt 21, 3) := by decide +kernel
theorem own_dn291 : decode prog_209_method_8_code 91 = .ok (.iload 7, 2) := by decide +kernel
theorem own_dn293 : decode prog_209_method_8_code 93 = .ok (.aload_n 0, 1) := by decide +kernel
theorem own_dn294 : decode prog_209_method_8_code 94 = .ok (.getfield 15, 3) := by decide +kernel
theorem own_dn297 : decode prog_209_method_8_code 97 = .ok (.iload 9, 2) := by decide +kernel
theorem own_dn299 : decode prog_209_method_8_code 99 = .ok (.iaload, 1) := by decide +kernel
theorem own_dn2100 : decode prog_209_method_8_code 100 = .ok (.isub, 1) := by decide +kernel
theorem own_dn2101 : decode prog_209_method_8_code 101 = .ok (.istore 7, 2) := by decide +kernel
theorem own_dn2103 : decode prog_209_method_8_code 103 = .ok (.iinc 4 64, 3) := by decide +kernel
theorem own_dn2106 : decode prog_209_method_8_code 106 = .ok (.goto 13, 3) := by decide +kernel
theorem own_dn2109 : decode prog_209_method_8_code 109 = .ok (.iload 7, 2) := by decide +kernel
theorem own_dn2111 : decode prog_209_method_8_code 111 = .ok (.iload 8, 2) := by decide +kernel
theorem own_dn2113 : decode prog_209_method_8_code 113 = .ok (.isub, 1) := by decide +kernel
theorem own_dn2114 : decode prog_209_method_8_code 114 = .ok (.istore 7, 2) := by decide +kernel
theorem own_dn2116 : decode prog_209_method_8_code 116 = .ok (.iinc 4 1, 3) := by decide +kernel
theorem own_dn2119 : decode prog_209_method_8_code 119 = .ok (.iload 4, 2) := by decide +kernel
theorem own_dn2121 : decode prog_209_method_8_code 121 = .ok (.aload_n 3, 1) := by decide +kernel
theorem own_dn2122 : decode prog_209_method_8_code 122 = .ok (.arraylength, 1) := by decide +kernel
theorem own_dn2123 : decode prog_209_method_8_code 123 = .ok (.if_icmp .lt 5, 3) := by decide +kernel
theorem own_dn2126 : decode prog_209_method_8_code 126 = .ok (.iconst (-1), 1) := by decide +kernel
theorem own_dn2127 : decode prog_209_method_8_code 127 = .ok (.ireturn, 1) := by decide +kernel
theorem own_dn2128 : decode prog_209_method_8_code 128 = .ok (.aload_n 3, 1) := by decide +kernel
theorem own_dn2129 : decode prog_209_method_8_code 129 = .ok (.iload 4, 2) := by decide +kernel
theorem own_dn2131 : decode prog_209_method_8_code 131 = .ok (.laload, 1) := by decide +kernel
theorem own_dn2132 : decode prog_209_method_8_code 132 = .ok (.lstore 5, 2) := by decide +kernel
theorem own_dn2134 : decode prog_209_method_8_code 134 = .ok (.lload 5, 2) := by decide +kernel
theorem own_dn2136 : decode prog_209_method_8_code 136 = .ok (.invokestatic 77, 3) := by decide +kernel
theorem own_dn2139 : decode prog_209_method_8_code 139 = .ok (.istore 8, 2) := by decide +kernel
theorem own_dn2141 : decode prog_209_method_8_code 141 = .ok (.goto (-94), 3) := by decide +kernel
theorem own_dn2144 : decode prog_209_method_8_code 144 = .ok (.iload 7, 2) := by decide +kernel
theorem own_dn2146 : decode prog_209_method_8_code 146 = .ok (.ifCond .le 18, 3) := by decide +kernel
theorem own_dn2149 : decode prog_209_method_8_code 149 = .ok (.lload 5, 2) := by decide +kernel
theorem own_dn2151 : decode prog_209_method_8_code 151 = .ok (.lload 5, 2) := by decide +kernel
theorem own_dn2153 : decode prog_209_method_8_code 153 = .ok (.lconst 1, 1) := by decide +kernel
theorem own_dn2154 : decode prog_209_method_8_code 154 = .ok (.lsub, 1) := by decide +kernel
theorem own_dn2155 : decode prog_209_method_8_code 155 = .ok (.land, 1) := by decide +kernel
theorem own_dn2156 : decode prog_209_method_8_code 156 = .ok (.lstore 5, 2) := by decide +kernel
theorem own_dn2158 : decode prog_209_method_8_code 158 = .ok (.iinc 7 (-1), 3) := by decide +kernel
theorem own_dn2161 : decode prog_209_method_8_code 161 = .ok (.goto (-17), 3) := by decide +kernel
theorem own_dn2164 : decode prog_209_method_8_code 164 = .ok (.iload 4, 2) := by decide +kernel
theorem own_dn2166 : decode prog_209_method_8_code 166 = .ok (.bipush 6, 2) := by decide +kernel
theorem own_dn2168 : decode prog_209_method_8_code 168 = .ok (.ishl, 1) := by decide +kernel
theorem own_dn2169 : decode prog_209_method_8_code 169 = .ok (.lload 5, 2) := by decide +kernel
theorem own_dn2171 : decode prog_209_method_8_code 171 = .ok (.invokestatic 68, 3) := by decide +kernel
theorem own_dn2174 : decode prog_209_method_8_code 174 = .ok (.iadd, 1) := by decide +kernel
theorem own_dn2175 : decode prog_209_method_8_code 175 = .ok (.ireturn, 1) := by decide +kernel
theorem own_nx2_pn : plainName "com/example/coersa/coersa/PlaceSet" = true := by first | (simp [plainName, overriddenIn]; done) | decide +kernel
theorem own_nx2_ef (m : MethodId) (ps : Addr) (xz : Int32) (xn : Int32) : entryFrame m #[(.ref ps), (.int xz), (.int xn)] 10 = mkF m 0 #[.val (.ref ps), .val (.int xz), .val (.int xn), .unset, .unset, .unset, .unset, .unset, .unset, .unset] [] := by first | (simp [entryFrame, mkF, argsToLocals, Value.category]; done) | rfl
def own_nx2_Q (Z : State) (ps : Addr) (xz : Int32) (xn : Int32) (S : List Nat) (n : Nat) (lv bc : Addr) (K : Nat) (ls : Nat → Addr) (N : Nat → Nat) (f : Nat → Nat → Int64) (M : Nat) (g : Nat → Int32) (h0 : Heap) (n0 : Nat) (v : Option Value) (h : Heap) (L : List Loc) : Prop := (∃ r : Int32, v = some (.int r) ∧ own_R2 S n r) ∧ Fr n0 L ∧ h = h0
set_option maxRecDepth 65536 in
set_option maxHeartbeats 40000000 in
theorem own_nx2 (l : Launch) (Z : State) (a0 : Array Value) (hw : ∀ d ∈ tables_1, d.before a0 Z = true) (ws : List Jvm.Cond) (ps : Addr) (xz : Int32) (xn : Int32) (S : List Nat) (n : Nat) (lv bc : Addr) (K : Nat) (ls : Nat → Addr) (N : Nat → Nat) (f : Nat → Nat → Int64) (M : Nat) (g : Nat → Int32) (h0 : Heap) (n0 : Nat) (Z0 : n0 ≤ h0.size) (hxz : xz = 0) (hxn : xn = Int32.ofNat n) (hn1 : 1 ≤ n) (hn2 : n ≤ 2) (hS : S.length ≤ 2) (hSd : S.Nodup) (SH : own_SH K N M) (SE : own_SEM S K N f) (hG : ∀ b, b < M → g b = Int32.ofNat (own_cc S b)) (P : own_PS Z n0 h0 ps lv bc K ls N f M g) :
  MetFree l (⟨"com/example/coersa/coersa/PlaceSet", "next", "(II)I"⟩ : MethodName) (head1 (Jvm.Cond.code (⟨"com/example/coersa/coersa/PlaceSet", "next", "(II)I"⟩ : MethodName) prog_209_method_8_code 10 (some .int) :: ws) ({ frames := 2, cells := 0, slots := 0, locals := 29 } : Room)) (fun ars U => ars = #[(.ref ps), (.int xz), (.int xn)] ∧ Z.Warmed39 U.vm ∧ U.heap = h0) (fun _ _ _ _ _ => True) (fun _ U o U' => ∃ v L, o = .returned v ∧ own_nx2_Q Z ps xz xn S n lv bc K ls N f M g h0 n0 v U'.heap L ∧ FrameEnd U o U' L ({ frames := 2, cells := 0, slots := 0, locals := 29 } : Room).cells ({ frames := 2, cells := 0, slots := 0, locals := 29 } : Room).slots) := by
 refine MetFree.of_bodySF (plainFor_of_name own_nx2_pn) hisR ?_
 intro p e s m args below meth c s₁ Bd hml0 hP hK
 obtain ⟨rfl, hZ, hh⟩ := hP
 have hx := Bd.exec
 have hby := Bd.bytes
 have hml : c.maxLocals = 10 := hml0
 have hown : s.vm.findClass "com/example/coersa/coersa/PlaceSet" = some m.cls := findClass_of_methodNamed Bd.named
 have hnm := (name_of_methodNamed Bd.named Bd.method).1
 have X0 : Stand p l e ({ frames := 2, cells := 0, slots := 0, locals := 29 } : Room) s m #[(.ref ps), (.int xz), (.int xn)] below meth c s₁ [] 0 0 := Stand.of_body Bd
 have e0 : s₁.heap = h0 := by rw [← hh, Bd.state]; rfl
 have N0 := Fr.nil n0
 generalize hS0 : s₁.setTop (entryFrame m #[(.ref ps), (.int xz), (.int xn)] 10) = S0
 have c0 : Steps p.tables e below S0 (s₁.setTop (mkF m 0 #[.val (.ref ps), .val (.int xz), .val (.int xn), .unset, .unset, .unset, .unset, .unset, .unset, .unset] [])) := by rw [← hS0]; exact castTop (own_nx2_ef m ps xz xn) (Steps.refl _)
 have K0 : Keep h0 h0 [] := Keep.refl _ _
 subst hxz hxn
 have SH2 := SH
 obtain ⟨t1, t2, t3, hNi, t5, hN8, t7⟩ := SH2
 have hk0 : 0 < K := by omega
 have hM8 : M ≤ 8192 := by rw [t3]; exact own_wf_le (by omega) (by decide)
 have pcw : ∀ i, i < N 0 → own_pc (f 0 i) = Int32.ofNat (own_cw S i) := fun i hi => own_pcw hS hSd (fun k hk => own_bit0 SE hk0 hi hk)
 have cwl : ∀ i, own_cb S i + own_cw S i ≤ 2 := fun i => Nat.le_trans (own_cb_cw S i) hS
 obtain ⟨cL, AL, EL, SL, HL⟩ := P.2.2.2.2.1 0 hk0
 obtain ⟨cI, AI, EI, SI, HI⟩ := P.2.2.2.2.2.1
 obtain ⟨T2, X2, e2, st2⟩ := getF X0 hx hZ hown (host := "") (Or.inl (hw _ (own_m 20 rfl))) Via.refl e0 P.2.1 (g := (mkF m 1 #[.val (.ref ps), .val (.int (0 : Int32)), .val (.int (Int32.ofNat n)), .unset, .unset, .unset, .unset, .unset, .unset, .unset] [(.ref ps)])) rfl rfl (hb hby own_dn21)
 have Rqa := P.2.2.2.1
 obtain ⟨cva, Ava, Ova, Sva, Hva⟩ := Rqa
 have c6 : Steps p.tables e below S0 (T2.setTop (mkF m 11 #[.val (.ref ps), .val (.int (0 : Int32)), .val (.int (Int32.ofNat n)), .val (.ref (ls 0)), .unset, .unset, .unset, .unset, .unset, .unset] [(.int (((0 : Int32).toUInt32 >>> ((6 : Int32) &&& 31).toUInt32).toInt32))])) := c0.trans (by
  refine XS.aloadN X0.here hx rfl (hb hby own_dn20) rfl rfl ?_
  show Steps _ _ _ (.setTop _ (mkF _ 1 _ _)) _
  refine st2 _ ?_
  show Steps _ _ _ (.setTop _ (mkF _ 4 _ _)) _
  refine XS.iconst X2.here hx rfl (hb hby own_dn24) ?_
  show Steps _ _ _ (.setTop _ (mkF _ 5 _ _)) _
  refine X2.aaload hx (j := (0 : Int32)) (v := (.ref (ls 0))) (by rw [e2]; exact Ava.1) (State.isArrayOf_alike hZ.alike Ava.2.1) rfl Ava.2.2 (own_inb (j := 0) Sva hk0 (by omega)) (Hva 0 hk0) (g := (mkF m 5 #[.val (.ref ps), .val (.int (0 : Int32)), .val (.int (Int32.ofNat n)), .unset, .unset, .unset, .unset, .unset, .unset, .unset] [(.int (0 : Int32)), (.ref lv)])) rfl rfl (hb hby own_dn25) _ ?_
  show Steps _ _ _ (.setTop _ (mkF _ 6 _ _)) _
  refine XS.astoreN X2.here hx rfl (hb hby own_dn26) rfl rfl rfl ?_
  show Steps _ _ _ (.setTop _ (mkF _ 7 _ _)) _
  refine XS.iloadN X2.here hx rfl (hb hby own_dn27) rfl ?_
  show Steps _ _ _ (.setTop _ (mkF _ 8 _ _)) _
  refine XS.bipush X2.here hx rfl (hb hby own_dn28) ?_
  show Steps _ _ _ (.setTop _ (mkF _ 10 _ _)) _
  refine XS.iushr X2.here hx rfl (hb hby own_dn210) rfl ?_
  exact Steps.refl _)
 rw [(show (((0 : Int32).toUInt32 >>> ((6 : Int32) &&& 31).toUInt32).toInt32) = Int32.ofNat 0 by decide)] at c6
 have c12 : Steps p.tables e below S0 (T2.setTop (mkF m 33 #[.val (.ref ps), .val (.int (0 : Int32)), .val (.int (Int32.ofNat n)), .val (.ref (ls 0)), .val (.int (Int32.ofNat 0)), .unset, .unset, .unset, .unset, .unset] [(.int ((0 : Int32) &&& (63 : Int32))), (.long (-1 : Int64)), (.long (f 0 0))])) := c6.trans (by
  refine XS.istore X2.here hx rfl (hb hby own_dn211) rfl rfl ?_
  show Steps _ _ _ (.setTop _ (mkF _ 13 _ _)) _
  refine XS.iload X2.here hx rfl (hb hby own_dn213) rfl ?_
  show Steps _ _ _ (.setTop _ (mkF _ 15 _ _)) _
  refine XS.aloadN X2.here hx rfl (hb hby own_dn215) rfl rfl ?_
  show Steps _ _ _ (.setTop _ (mkF _ 16 _ _)) _
  refine X2.arraylength hx (by rw [e2]; exact AL.1) (State.isArrayOf_alike hZ.alike AL.2.1) (g := (mkF m 16 #[.val (.ref ps), .val (.int (0 : Int32)), .val (.int (Int32.ofNat n)), .val (.ref (ls 0)), .val (.int (Int32.ofNat 0)), .unset, .unset, .unset, .unset, .unset] [(.ref (ls 0)), (.int (Int32.ofNat 0))])) rfl rfl (hb hby own_dn216) _ ?_
  rw [show cL.slots.size.toInt32 = Int32.ofNat (N 0) by rw [SL]]
  show Steps _ _ _ (.setTop _ (mkF _ 17 _ _)) _
  refine XS.icmpYes X2.here hx rfl (pc0 := 17) (pc' := 22) rfl (hb hby own_dn217) rfl (tlt ((own_ilt (i := 0) (by decide) (by omega)).mpr (by omega))).1 (by decide) (by decide) ?_
  show Steps _ _ _ (.setTop _ (mkF _ 22 _ _)) _
  refine XS.aloadN X2.here hx rfl (hb hby own_dn222) rfl rfl ?_
  show Steps _ _ _ (.setTop _ (mkF _ 23 _ _)) _
  refine XS.iload X2.here hx rfl (hb hby own_dn223) rfl ?_
  show Steps _ _ _ (.setTop _ (mkF _ 25 _ _)) _
  refine X2.laload hx (j := (Int32.ofNat 0)) (v := (.long (f 0 0))) (by rw [e2]; exact AL.1) (State.isArrayOf_alike hZ.alike AL.2.1) AL.2.2 (own_inb (j := 0) SL (show 0 < N 0 by omega) (by omega)) (by rw [own_cl (j := 0) (by omega)]; exact HL 0 (show 0 < N 0 by omega)) (g := (mkF m 25 #[.val (.ref ps), .val (.int (0 : Int32)), .val (.int (Int32.ofNat n)), .val (.ref (ls 0)), .val (.int (Int32.ofNat 0)), .unset, .unset, .unset, .unset, .unset] [(.int (Int32.ofNat 0)), (.ref (ls 0))])) rfl rfl (hb hby own_dn225) _ ?_
  show Steps _ _ _ (.setTop _ (mkF _ 26 _ _)) _
  refine X2.ldc2Long hx hown (mvT hZ (hw _ (own_m 49 rfl))) (g := (mkF m 26 #[.val (.ref ps), .val (.int (0 : Int32)), .val (.int (Int32.ofNat n)), .val (.ref (ls 0)), .val (.int (Int32.ofNat 0)), .unset, .unset, .unset, .unset, .unset] [(.long (f 0 0))])) rfl (hb hby own_dn226) _ ?_
  show Steps _ _ _ (.setTop _ (mkF _ 29 _ _)) _
  refine XS.iloadN X2.here hx rfl (hb hby own_dn229) rfl ?_
  show Steps _ _ _ (.setTop _ (mkF _ 30 _ _)) _
  refine XS.bipush X2.here hx rfl (hb hby own_dn230) ?_
  show Steps _ _ _ (.setTop _ (mkF _ 32 _ _)) _
  refine XS.iand X2.here hx rfl (hb hby own_dn232) rfl ?_
  exact Steps.refl _)
 rw [(show ((0 : Int32) &&& (63 : Int32)) = Int32.ofNat 0 by decide)] at c12
 have c13 : Steps p.tables e below S0 (T2.setTop (mkF m 35 #[.val (.ref ps), .val (.int (0 : Int32)), .val (.int (Int32.ofNat n)), .val (.ref (ls 0)), .val (.int (Int32.ofNat 0)), .unset, .unset, .unset, .unset, .unset] [(.long ((f 0 0) &&& ((-1 : Int64) <<< ((Int32.ofNat 0) &&& 0x3f).toInt64)))])) := c12.trans (by
  refine XS.lshl X2.here hx rfl (hb hby own_dn233) rfl ?_
  show Steps _ _ _ (.setTop _ (mkF _ 34 _ _)) _
  refine XS.land X2.here hx rfl (hb hby own_dn234) rfl ?_
  exact Steps.refl _)
 have c13x : Steps p.tables e below S0 (T2.setTop (mkF m 35 #[.val (.ref ps), .val (.int (0 : Int32)), .val (.int (Int32.ofNat n)), .val (.ref (ls 0)), .val (.int (Int32.ofNat 0)), .unset, .unset, .unset, .unset, .unset] [(.long (f 0 0 &&& own_msk 0))])) := c13
 rw [own_msk0] at c13x
 have c14 : Steps p.tables e below S0 (T2.setTop (mkF m 42 #[.val (.ref ps), .val (.int (0 : Int32)), .val (.int (Int32.ofNat n)), .val (.ref (ls 0)), .val (.int (Int32.ofNat 0)), .val (.long (f 0 0)), .second, .val (.int (Int32.ofNat n)), .unset, .unset] [(.long (f 0 0))])) := c13x.trans (by
  refine XS.lstore X2.here hx rfl (hb hby own_dn235) rfl rfl ?_
  show Steps _ _ _ (.setTop _ (mkF _ 37 _ _)) _
  refine XS.iloadN X2.here hx rfl (hb hby own_dn237) rfl ?_
  show Steps _ _ _ (.setTop _ (mkF _ 38 _ _)) _
  refine XS.istore X2.here hx rfl (hb hby own_dn238) rfl rfl ?_
  show Steps _ _ _ (.setTop _ (mkF _ 40 _ _)) _
  refine XS.lload X2.here hx rfl (hb hby own_dn240) rfl ?_
  exact Steps.refl _)
 obtain ⟨_, _, ⟨T15, L15, k15, n15⟩, -, X15, ⟨Lc15, hQ15, l15, y15, z15⟩, st15⟩ := Jvm.LawKit.callS X2 hx (y := (⟨"java/lang/Long", "bitCount", "(J)I"⟩ : MethodName)) hown (mvT hZ (hw _ (own_m 76 rfl))) (mvT hZ (hw _ (own_m 77 rfl))) (mvT hZ (hw _ (own_m 64 rfl))) (mvT hZ (hw _ (own_m 78 rfl))) (by decide) (backOf (W := 0) (own_bcL l Z a0 hw [] (f 0 0) h0 n0 Z0) hZ (hw _ (own_m 78 rfl)) (hw _ (own_m 64 rfl)) (Nat.le_of_ble_eq_true rfl) (Nat.le_of_ble_eq_true rfl)) (g := (mkF m 42 #[.val (.ref ps), .val (.int (0 : Int32)), .val (.int (Int32.ofNat n)), .val (.ref (ls 0)), .val (.int (Int32.ofNat 0)), .val (.long (f 0 0)), .second, .val (.int (Int32.ofNat n)), .unset, .unset] [(.long (f 0 0))])) rfl (by rw [hml]; rfl) (argsL := [(.long (f 0 0))]) (rest := []) (lenOf own_pd6 rfl) rfl (by show 2 * 0 + _ ≤ _; exact Nat.le_of_eq rfl) (hb hby own_dn242) (fun _ _ => ⟨rfl, e2, (Nat.le_of_ble_eq_true rfl), (Nat.le_of_ble_eq_true rfl)⟩)
 dsimp only [Pt.U, Pt.locs, Pt.cells, Pt.slots] at X15 l15 y15 z15 st15 hQ15
 subst l15 y15 z15
 obtain ⟨rfl, N15q, eb0⟩ := hQ15
 have N15 := Fr.app N0 N15q
 have c16 : Steps p.tables e below S0 (T15.setTop (mkF m 45 #[.val (.ref ps), .val (.int (0 : Int32)), .val (.int (Int32.ofNat n)), .val (.ref (ls 0)), .val (.int (Int32.ofNat 0)), .val (.long (f 0 0)), .second, .val (.int (Int32.ofNat n)), .unset, .unset] [(.int (own_pc (f 0 0)))])) := c14.trans (by
  refine st15 _ ?_
  exact Steps.refl _)
 rw [pcw 0 (show 0 < N 0 by omega)] at c16
 have c17 : Steps p.tables e below S0 (T15.setTop (mkF m 47 #[.val (.ref ps), .val (.int (0 : Int32)), .val (.int (Int32.ofNat n)), .val (.ref (ls 0)), .val (.int (Int32.ofNat 0)), .val (.long (f 0 0)), .second, .val (.int (Int32.ofNat n)), .val (.int (Int32.ofNat (own_cw S 0))), .unset] [])) := c16.trans (by
  refine XS.istore X15.here hx rfl (hb hby own_dn245) rfl rfl ?_
  exact Steps.refl _)
 have loop : ∀ (d i rem : Nat), N 0 ≤ i + d → i < N 0 → rem + own_cb S i = n → ∀ (Tq : State) (Lq : List Loc) (z9 : Int32), Stand p l e ({ frames := 2, cells := 0, slots := 0, locals := 29 } : Room) s m #[(.ref ps), (.int (0 : Int32)), (.int (Int32.ofNat n))] below meth c Tq Lq 0 0 → Fr n0 Lq → Tq.heap = h0 → Steps p.tables e below S0 (Tq.setTop (mkF m 47 #[.val (.ref ps), .val (.int (0 : Int32)), .val (.int (Int32.ofNat n)), .val (.ref (ls 0)), .val (.int (Int32.ofNat i)), .val (.long (f 0 i)), .second, .val (.int (Int32.ofNat rem)), .val (.int (Int32.ofNat (own_cw S i))), .val (.int z9)] [])) → (∃ (Tz : State) (Lz : List Loc) (y4 : Int32) (y5 : Int64) (y7 y8 y9 : Int32), Stand p l e ({ frames := 2, cells := 0, slots := 0, locals := 29 } : Room) s m #[(.ref ps), (.int (0 : Int32)), (.int (Int32.ofNat n))] below meth c Tz Lz 0 0 ∧ Fr n0 Lz ∧ Tz.heap = h0 ∧ S.length ≤ n ∧ Steps p.tables e below S0 (Tz.setTop (mkF m 127 #[.val (.ref ps), .val (.int (0 : Int32)), .val (.int (Int32.ofNat n)), .val (.ref (ls 0)), .val (.int y4), .val (.long y5), .second, .val (.int y7), .val (.int y8), .val (.int y9)] [(.int (-1 : Int32))]))) ∨ (∃ (Tz : State) (Lz : List Loc) (i rem : Nat) (sl : Slot), Stand p l e ({ frames := 2, cells := 0, slots := 0, locals := 29 } : Room) s m #[(.ref ps), (.int (0 : Int32)), (.int (Int32.ofNat n))] below meth c Tz Lz 0 0 ∧ Fr n0 Lz ∧ Tz.heap = h0 ∧ i < N 0 ∧ rem < own_cw S i ∧ rem + own_cb S i = n ∧ Steps p.tables e below S0 (Tz.setTop (mkF m 144 #[.val (.ref ps), .val (.int (0 : Int32)), .val (.int (Int32.ofNat n)), .val (.ref (ls 0)), .val (.int (Int32.ofNat i)), .val (.long (f 0 i)), .second, .val (.int (Int32.ofNat rem)), .val (.int (Int32.ofNat (own_cw S i))), sl] []))) := by
  intro d
  induction d with
  | zero => intro i rem hd hi; omega
  | succ d ih =>
   intro i rem hd hi hsum Tq Lq z9 XQ NQ eQ cQ
   have hcw := cwl i
   have c18 : Steps p.tables e below S0 (Tq.setTop (mkF m 51 #[.val (.ref ps), .val (.int (0 : Int32)), .val (.int (Int32.ofNat n)), .val (.ref (ls 0)), .val (.int (Int32.ofNat i)), .val (.long (f 0 i)), .second, .val (.int (Int32.ofNat rem)), .val (.int (Int32.ofNat (own_cw S i))), .val (.int z9)] [(.int (Int32.ofNat (own_cw S i))), (.int (Int32.ofNat rem))])) := cQ.trans (by
    refine XS.iload XQ.here hx rfl (hb hby own_dn247) rfl ?_
    show Steps _ _ _ (.setTop _ (mkF _ 49 _ _)) _
    refine XS.iload XQ.here hx rfl (hb hby own_dn249) rfl ?_
    exact Steps.refl _)
   by_cases hlt : (Int32.ofNat rem) < (Int32.ofNat (own_cw S i))
   ·have c19 : Steps p.tables e below S0 (Tq.setTop (mkF m 144 #[.val (.ref ps), .val (.int (0 : Int32)), .val (.int (Int32.ofNat n)), .val (.ref (ls 0)), .val (.int (Int32.ofNat i)), .val (.long (f 0 i)), .second, .val (.int (Int32.ofNat rem)), .val (.int (Int32.ofNat (own_cw S i))), .val (.int z9)] [])) := c18.trans (by
     refine XS.icmpYes XQ.here hx rfl (pc0 := 51) (pc' := 144) rfl (hb hby own_dn251) rfl (tlt hlt).1 (by decide) (by decide) ?_
     exact Steps.refl _)
    exact Or.inr ⟨Tq, _, i, rem, .val (.int z9), XQ, NQ, eQ, hi, (own_ilt (by omega) (by omega)).mp hlt, hsum, c19⟩
   ·have hge : own_cw S i ≤ rem := Nat.le_of_not_lt (fun q => hlt ((own_ilt (by omega) (by omega)).mpr q))
    have c21 : Steps p.tables e below S0 (Tq.setTop (mkF m 59 #[.val (.ref ps), .val (.int (0 : Int32)), .val (.int (Int32.ofNat n)), .val (.ref (ls 0)), .val (.int (Int32.ofNat i)), .val (.long (f 0 i)), .second, .val (.int (Int32.ofNat rem)), .val (.int (Int32.ofNat (own_cw S i))), .val (.int z9)] [(.int (((Int32.ofNat i).toUInt32 >>> ((6 : Int32) &&& 31).toUInt32).toInt32))])) := c18.trans (by
     refine XS.icmpNo XQ.here hx rfl (hb hby own_dn251) rfl (flt hlt).1 ?_
     show Steps _ _ _ (.setTop _ (mkF _ 54 _ _)) _
     refine XS.iload XQ.here hx rfl (hb hby own_dn254) rfl ?_
     show Steps _ _ _ (.setTop _ (mkF _ 56 _ _)) _
     refine XS.bipush XQ.here hx rfl (hb hby own_dn256) ?_
     show Steps _ _ _ (.setTop _ (mkF _ 58 _ _)) _
     refine XS.iushr XQ.here hx rfl (hb hby own_dn258) rfl ?_
     exact Steps.refl _)
    rw [own_ushr6 (show i < 2 ^ 31 by omega)] at c21
    have c22 : Steps p.tables e below S0 (Tq.setTop (mkF m 66 #[.val (.ref ps), .val (.int (0 : Int32)), .val (.int (Int32.ofNat n)), .val (.ref (ls 0)), .val (.int (Int32.ofNat i)), .val (.long (f 0 i)), .second, .val (.int (Int32.ofNat rem)), .val (.int (Int32.ofNat (own_cw S i))), .val (.int (Int32.ofNat (i / 64)))] [(.int ((Int32.ofNat i) &&& (63 : Int32)))])) := c21.trans (by
     refine XS.istore XQ.here hx rfl (hb hby own_dn259) rfl rfl ?_
     show Steps _ _ _ (.setTop _ (mkF _ 61 _ _)) _
     refine XS.iload XQ.here hx rfl (hb hby own_dn261) rfl ?_
     show Steps _ _ _ (.setTop _ (mkF _ 63 _ _)) _
     refine XS.bipush XQ.here hx rfl (hb hby own_dn263) ?_
     show Steps _ _ _ (.setTop _ (mkF _ 65 _ _)) _
     refine XS.iand XQ.here hx rfl (hb hby own_dn265) rfl ?_
     exact Steps.refl _)
    rw [own_and63 (show i < 2 ^ 31 by omega)] at c22
    by_cases hm : (Int32.ofNat (i % 64)) = (0 : Int32)
    ·have hm0 : i % 64 = 0 := (own_ieq (j := 0) (by omega) (by decide)).mp hm
     have hbM : i / 64 < M := by rw [t3]; exact own_wf_lt hi
     obtain ⟨T29, X29, e29, st29⟩ := getF XQ hx hZ hown (host := "") (Or.inl (hw _ (own_m 22 rfl))) Via.refl eQ P.2.2.1 (g := (mkF m 80 #[.val (.ref ps), .val (.int (0 : Int32)), .val (.int (Int32.ofNat n)), .val (.ref (ls 0)), .val (.int (Int32.ofNat i)), .val (.long (f 0 i)), .second, .val (.int (Int32.ofNat rem)), .val (.int (Int32.ofNat (own_cw S i))), .val (.int (Int32.ofNat (i / 64)))] [(.ref ps)])) rfl rfl (hb hby own_dn280)
     have c31 : Steps p.tables e below S0 (T29.setTop (mkF m 85 #[.val (.ref ps), .val (.int (0 : Int32)), .val (.int (Int32.ofNat n)), .val (.ref (ls 0)), .val (.int (Int32.ofNat i)), .val (.long (f 0 i)), .second, .val (.int (Int32.ofNat rem)), .val (.int (Int32.ofNat (own_cw S i))), .val (.int (Int32.ofNat (i / 64)))] [(.int (Int32.ofNat (i / 64))), (.ref bc)])) := c22.trans (by
      refine XS.ifNo XQ.here hx rfl (hb hby own_dn266) rfl ((if0 _ _).trans (teq hm).2) ?_
      show Steps _ _ _ (.setTop _ (mkF _ 69 _ _)) _
      refine XS.lload XQ.here hx rfl (hb hby own_dn269) rfl ?_
      show Steps _ _ _ (.setTop _ (mkF _ 71 _ _)) _
      refine XS.aloadN XQ.here hx rfl (hb hby own_dn271) rfl rfl ?_
      show Steps _ _ _ (.setTop _ (mkF _ 72 _ _)) _
      refine XS.iload XQ.here hx rfl (hb hby own_dn272) rfl ?_
      show Steps _ _ _ (.setTop _ (mkF _ 74 _ _)) _
      refine XQ.laload hx (j := (Int32.ofNat i)) (v := (.long (f 0 i))) (by rw [eQ]; exact AL.1) (State.isArrayOf_alike hZ.alike AL.2.1) AL.2.2 (own_inb (j := i) SL hi (by omega)) (by rw [own_cl (j := i) (by omega)]; exact HL i hi) (g := (mkF m 74 #[.val (.ref ps), .val (.int (0 : Int32)), .val (.int (Int32.ofNat n)), .val (.ref (ls 0)), .val (.int (Int32.ofNat i)), .val (.long (f 0 i)), .second, .val (.int (Int32.ofNat rem)), .val (.int (Int32.ofNat (own_cw S i))), .val (.int (Int32.ofNat (i / 64)))] [(.int (Int32.ofNat i)), (.ref (ls 0)), (.long (f 0 i))])) rfl rfl (hb hby own_dn274) _ ?_
      show Steps _ _ _ (.setTop _ (mkF _ 75 _ _)) _
      refine XS.lcmp XQ.here hx rfl (hb hby own_dn275) rfl ?_
      show Steps _ _ _ (.setTop _ (mkF _ 76 _ _)) _
      refine XS.ifNo XQ.here hx rfl (hb hby own_dn276) rfl ((if0 _ _).trans (teq (own_lcs _)).2) ?_
      show Steps _ _ _ (.setTop _ (mkF _ 79 _ _)) _
      refine XS.aloadN XQ.here hx rfl (hb hby own_dn279) rfl rfl ?_
      show Steps _ _ _ (.setTop _ (mkF _ 80 _ _)) _
      refine st29 _ ?_
      show Steps _ _ _ (.setTop _ (mkF _ 83 _ _)) _
      refine XS.iload X29.here hx rfl (hb hby own_dn283) rfl ?_
      exact Steps.refl _)
     have hccl : own_cc S (i / 64) ≤ 2 := Nat.le_trans List.countP_le_length hS
     have c32 : Steps p.tables e below S0 (T29.setTop (mkF m 86 #[.val (.ref ps), .val (.int (0 : Int32)), .val (.int (Int32.ofNat n)), .val (.ref (ls 0)), .val (.int (Int32.ofNat i)), .val (.long (f 0 i)), .second, .val (.int (Int32.ofNat rem)), .val (.int (Int32.ofNat (own_cw S i))), .val (.int (Int32.ofNat (i / 64)))] [(.int (g (i / 64)))])) := c31.trans (by
      refine X29.iaload hx (j := (Int32.ofNat (i / 64))) (v := (.int (g (i / 64)))) (by rw [e29]; exact AI.1) (State.isArrayOf_alike hZ.alike AI.2.1) AI.2.2 (own_inb (j := i / 64) SI hbM (by omega)) (by rw [own_cl (j := i / 64) (by omega)]; exact HI _ hbM) (g := (mkF m 85 #[.val (.ref ps), .val (.int (0 : Int32)), .val (.int (Int32.ofNat n)), .val (.ref (ls 0)), .val (.int (Int32.ofNat i)), .val (.long (f 0 i)), .second, .val (.int (Int32.ofNat rem)), .val (.int (Int32.ofNat (own_cw S i))), .val (.int (Int32.ofNat (i / 64)))] [(.int (Int32.ofNat (i / 64))), (.ref bc)])) rfl rfl (hb hby own_dn285) _ ?_
      exact Steps.refl _)
     rw [hG _ hbM] at c32
     have c33 : Steps p.tables e below S0 (T29.setTop (mkF m 88 #[.val (.ref ps), .val (.int (0 : Int32)), .val (.int (Int32.ofNat n)), .val (.ref (ls 0)), .val (.int (Int32.ofNat i)), .val (.long (f 0 i)), .second, .val (.int (Int32.ofNat rem)), .val (.int (Int32.ofNat (own_cw S i))), .val (.int (Int32.ofNat (i / 64)))] [(.int (Int32.ofNat rem)), (.int (Int32.ofNat (own_cc S (i / 64))))])) := c32.trans (by
      refine XS.iload X29.here hx rfl (hb hby own_dn286) rfl ?_
      exact Steps.refl _)
     by_cases hgr : (Int32.ofNat rem) < (Int32.ofNat (own_cc S (i / 64)))
     ·have c34 : Steps p.tables e below S0 (T29.setTop (mkF m 109 #[.val (.ref ps), .val (.int (0 : Int32)), .val (.int (Int32.ofNat n)), .val (.ref (ls 0)), .val (.int (Int32.ofNat i)), .val (.long (f 0 i)), .second, .val (.int (Int32.ofNat rem)), .val (.int (Int32.ofNat (own_cw S i))), .val (.int (Int32.ofNat (i / 64)))] [])) := c33.trans (by
       refine XS.icmpYes X29.here hx rfl (pc0 := 88) (pc' := 109) rfl (hb hby own_dn288) rfl (tlt hgr).2.2.1 (by decide) (by decide) ?_
       exact Steps.refl _)
      have hsum' : rem - own_cw S i + own_cb S (i + 1) = n := by rw [own_cb_succ]; omega
      have c35 : Steps p.tables e below S0 (T29.setTop (mkF m 114 #[.val (.ref ps), .val (.int (0 : Int32)), .val (.int (Int32.ofNat n)), .val (.ref (ls 0)), .val (.int (Int32.ofNat i)), .val (.long (f 0 i)), .second, .val (.int (Int32.ofNat rem)), .val (.int (Int32.ofNat (own_cw S i))), .val (.int (Int32.ofNat (i / 64)))] [(.int ((Int32.ofNat rem) - (Int32.ofNat (own_cw S i))))])) := c34.trans (by
       refine XS.iload X29.here hx rfl (hb hby own_dn2109) rfl ?_
       show Steps _ _ _ (.setTop _ (mkF _ 111 _ _)) _
       refine XS.iload X29.here hx rfl (hb hby own_dn2111) rfl ?_
       show Steps _ _ _ (.setTop _ (mkF _ 113 _ _)) _
       refine XS.isub X29.here hx rfl (hb hby own_dn2113) rfl ?_
       exact Steps.refl _)
      rw [own_isub hge] at c35
      have c36 : Steps p.tables e below S0 (T29.setTop (mkF m 119 #[.val (.ref ps), .val (.int (0 : Int32)), .val (.int (Int32.ofNat n)), .val (.ref (ls 0)), .val (.int ((Int32.ofNat i) + (1 : Int32))), .val (.long (f 0 i)), .second, .val (.int (Int32.ofNat (rem - own_cw S i))), .val (.int (Int32.ofNat (own_cw S i))), .val (.int (Int32.ofNat (i / 64)))] [])) := c35.trans (by
       refine XS.istore X29.here hx rfl (hb hby own_dn2114) rfl rfl ?_
       show Steps _ _ _ (.setTop _ (mkF _ 116 _ _)) _
       refine XS.iinc X29.here hx rfl (hb hby own_dn2116) rfl rfl ?_
       exact Steps.refl _)
      rw [(show Int32.ofNat i + (1 : Int32) = Int32.ofNat (i + 1) from own_iadd (i := i) (j := 1))] at c36
      have c38 : Steps p.tables e below S0 (T29.setTop (mkF m 123 #[.val (.ref ps), .val (.int (0 : Int32)), .val (.int (Int32.ofNat n)), .val (.ref (ls 0)), .val (.int (Int32.ofNat (i + 1))), .val (.long (f 0 i)), .second, .val (.int (Int32.ofNat (rem - own_cw S i))), .val (.int (Int32.ofNat (own_cw S i))), .val (.int (Int32.ofNat (i / 64)))] [(.int (Int32.ofNat (N 0))), (.int (Int32.ofNat (i + 1)))])) := c36.trans (by
       refine XS.iload X29.here hx rfl (hb hby own_dn2119) rfl ?_
       show Steps _ _ _ (.setTop _ (mkF _ 121 _ _)) _
       refine XS.aloadN X29.here hx rfl (hb hby own_dn2121) rfl rfl ?_
       show Steps _ _ _ (.setTop _ (mkF _ 122 _ _)) _
       refine X29.arraylength hx (by rw [e29]; exact AL.1) (State.isArrayOf_alike hZ.alike AL.2.1) (g := (mkF m 122 #[.val (.ref ps), .val (.int (0 : Int32)), .val (.int (Int32.ofNat n)), .val (.ref (ls 0)), .val (.int (Int32.ofNat (i + 1))), .val (.long (f 0 i)), .second, .val (.int (Int32.ofNat (rem - own_cw S i))), .val (.int (Int32.ofNat (own_cw S i))), .val (.int (Int32.ofNat (i / 64)))] [(.ref (ls 0)), (.int (Int32.ofNat (i + 1)))])) rfl rfl (hb hby own_dn2122) _ ?_
       rw [show cL.slots.size.toInt32 = Int32.ofNat (N 0) by rw [SL]]
       exact Steps.refl _)
      by_cases hnx : (Int32.ofNat (i + 1)) < (Int32.ofNat (N 0))
      ·have c39 : Steps p.tables e below S0 (T29.setTop (mkF m 128 #[.val (.ref ps), .val (.int (0 : Int32)), .val (.int (Int32.ofNat n)), .val (.ref (ls 0)), .val (.int (Int32.ofNat (i + 1))), .val (.long (f 0 i)), .second, .val (.int (Int32.ofNat (rem - own_cw S i))), .val (.int (Int32.ofNat (own_cw S i))), .val (.int (Int32.ofNat (i / 64)))] [])) := c38.trans (by
        refine XS.icmpYes X29.here hx rfl (pc0 := 123) (pc' := 128) rfl (hb hby own_dn2123) rfl (tlt hnx).1 (by decide) (by decide) ?_
        exact Steps.refl _)
       have hi2 : (i + 1) < N 0 := (own_ilt (by omega) (by omega)).mp hnx
       have c42 : Steps p.tables e below S0 (T29.setTop (mkF m 136 #[.val (.ref ps), .val (.int (0 : Int32)), .val (.int (Int32.ofNat n)), .val (.ref (ls 0)), .val (.int (Int32.ofNat (i + 1))), .val (.long (f 0 (i + 1))), .second, .val (.int (Int32.ofNat (rem - own_cw S i))), .val (.int (Int32.ofNat (own_cw S i))), .val (.int (Int32.ofNat (i / 64)))] [(.long (f 0 (i + 1)))])) := c39.trans (by
        refine XS.aloadN X29.here hx rfl (hb hby own_dn2128) rfl rfl ?_
        show Steps _ _ _ (.setTop _ (mkF _ 129 _ _)) _
        refine XS.iload X29.here hx rfl (hb hby own_dn2129) rfl ?_
        show Steps _ _ _ (.setTop _ (mkF _ 131 _ _)) _
        refine X29.laload hx (j := (Int32.ofNat (i + 1))) (v := (.long (f 0 (i + 1)))) (by rw [e29]; exact AL.1) (State.isArrayOf_alike hZ.alike AL.2.1) AL.2.2 (own_inb (j := (i + 1)) SL hi2 (by omega)) (by rw [own_cl (j := (i + 1)) (by omega)]; exact HL (i + 1) hi2) (g := (mkF m 131 #[.val (.ref ps), .val (.int (0 : Int32)), .val (.int (Int32.ofNat n)), .val (.ref (ls 0)), .val (.int (Int32.ofNat (i + 1))), .val (.long (f 0 i)), .second, .val (.int (Int32.ofNat (rem - own_cw S i))), .val (.int (Int32.ofNat (own_cw S i))), .val (.int (Int32.ofNat (i / 64)))] [(.int (Int32.ofNat (i + 1))), (.ref (ls 0))])) rfl rfl (hb hby own_dn2131) _ ?_
        show Steps _ _ _ (.setTop _ (mkF _ 132 _ _)) _
        refine XS.lstore X29.here hx rfl (hb hby own_dn2132) rfl rfl ?_
        show Steps _ _ _ (.setTop _ (mkF _ 134 _ _)) _
        refine XS.lload X29.here hx rfl (hb hby own_dn2134) rfl ?_
        exact Steps.refl _)
       obtain ⟨_, _, ⟨T43, L43, k43, n43⟩, -, X43, ⟨Lc43, hQ43, l43, y43, z43⟩, st43⟩ := Jvm.LawKit.callS X29 hx (y := (⟨"java/lang/Long", "bitCount", "(J)I"⟩ : MethodName)) hown (mvT hZ (hw _ (own_m 76 rfl))) (mvT hZ (hw _ (own_m 77 rfl))) (mvT hZ (hw _ (own_m 64 rfl))) (mvT hZ (hw _ (own_m 78 rfl))) (by decide) (backOf (W := 0) (own_bcL l Z a0 hw [] (f 0 (i + 1)) h0 n0 Z0) hZ (hw _ (own_m 78 rfl)) (hw _ (own_m 64 rfl)) (Nat.le_of_ble_eq_true rfl) (Nat.le_of_ble_eq_true rfl)) (g := (mkF m 136 #[.val (.ref ps), .val (.int (0 : Int32)), .val (.int (Int32.ofNat n)), .val (.ref (ls 0)), .val (.int (Int32.ofNat (i + 1))), .val (.long (f 0 (i + 1))), .second, .val (.int (Int32.ofNat (rem - own_cw S i))), .val (.int (Int32.ofNat (own_cw S i))), .val (.int (Int32.ofNat (i / 64)))] [(.long (f 0 (i + 1)))])) rfl (by rw [hml]; rfl) (argsL := [(.long (f 0 (i + 1)))]) (rest := []) (lenOf own_pd6 rfl) rfl (by show 2 * 0 + _ ≤ _; exact Nat.le_of_eq rfl) (hb hby own_dn2136) (fun _ _ => ⟨rfl, e29, (Nat.le_of_ble_eq_true rfl), (Nat.le_of_ble_eq_true rfl)⟩)
       dsimp only [Pt.U, Pt.locs, Pt.cells, Pt.slots] at X43 l43 y43 z43 st43 hQ43
       subst l43 y43 z43
       obtain ⟨rfl, N43q, ebn⟩ := hQ43
       have N43 := Fr.app NQ N43q
       have c44 : Steps p.tables e below S0 (T43.setTop (mkF m 139 #[.val (.ref ps), .val (.int (0 : Int32)), .val (.int (Int32.ofNat n)), .val (.ref (ls 0)), .val (.int (Int32.ofNat (i + 1))), .val (.long (f 0 (i + 1))), .second, .val (.int (Int32.ofNat (rem - own_cw S i))), .val (.int (Int32.ofNat (own_cw S i))), .val (.int (Int32.ofNat (i / 64)))] [(.int (own_pc (f 0 (i + 1))))])) := c42.trans (by
        refine st43 _ ?_
        exact Steps.refl _)
       rw [pcw (i + 1) hi2] at c44
       have c45 : Steps p.tables e below S0 (T43.setTop (mkF m 47 #[.val (.ref ps), .val (.int (0 : Int32)), .val (.int (Int32.ofNat n)), .val (.ref (ls 0)), .val (.int (Int32.ofNat (i + 1))), .val (.long (f 0 (i + 1))), .second, .val (.int (Int32.ofNat (rem - own_cw S i))), .val (.int (Int32.ofNat (own_cw S (i + 1)))), .val (.int (Int32.ofNat (i / 64)))] [])) := c44.trans (by
        refine XS.istore X43.here hx rfl (hb hby own_dn2139) rfl rfl ?_
        show Steps _ _ _ (.setTop _ (mkF _ 141 _ _)) _
        refine XS.goto X43.here hx rfl (pc0 := 141) (pc' := 47) rfl (hb hby own_dn2141) (by decide) (by decide) ?_
        exact Steps.refl _)
       exact ih (i + 1) (rem - own_cw S i) (by omega) hi2 hsum' T43 _ _ X43 N43 ebn c45
      ·have c47 : Steps p.tables e below S0 (T29.setTop (mkF m 127 #[.val (.ref ps), .val (.int (0 : Int32)), .val (.int (Int32.ofNat n)), .val (.ref (ls 0)), .val (.int (Int32.ofNat (i + 1))), .val (.long (f 0 i)), .second, .val (.int (Int32.ofNat (rem - own_cw S i))), .val (.int (Int32.ofNat (own_cw S i))), .val (.int (Int32.ofNat (i / 64)))] [(.int (-1 : Int32))])) := c38.trans (by
        refine XS.icmpNo X29.here hx rfl (hb hby own_dn2123) rfl (flt hnx).1 ?_
        show Steps _ _ _ (.setTop _ (mkF _ 126 _ _)) _
        refine XS.iconst X29.here hx rfl (hb hby own_dn2126) ?_
        exact Steps.refl _)
       have hall := own_cb_all (S := S) (i := (i + 1)) (fun p hp => by have h1 := SE.1 p hp; have h2 : ¬ (i + 1) < N 0 := fun q => hnx ((own_ilt (by omega) (by omega)).mpr q); omega)
       exact Or.inl ⟨T29, _, _, _, _, _, _, X29, NQ, e29, by omega, c47⟩
     ·have hge2 : own_cc S (i / 64) ≤ rem := Nat.le_of_not_lt (fun q => hgr ((own_ilt (by omega) (by omega)).mpr q))
      have hsum' : rem - own_cc S (i / 64) + own_cb S (i + 64) = n := by rw [own_cb_blk S hm0]; omega
      obtain ⟨T50, X50, e50, st50⟩ := getF X29 hx hZ hown (host := "") (Or.inl (hw _ (own_m 22 rfl))) Via.refl e29 P.2.2.1 (g := (mkF m 94 #[.val (.ref ps), .val (.int (0 : Int32)), .val (.int (Int32.ofNat n)), .val (.ref (ls 0)), .val (.int (Int32.ofNat i)), .val (.long (f 0 i)), .second, .val (.int (Int32.ofNat rem)), .val (.int (Int32.ofNat (own_cw S i))), .val (.int (Int32.ofNat (i / 64)))] [(.ref ps), (.int (Int32.ofNat rem))])) rfl rfl (hb hby own_dn294)
      have c53 : Steps p.tables e below S0 (T50.setTop (mkF m 100 #[.val (.ref ps), .val (.int (0 : Int32)), .val (.int (Int32.ofNat n)), .val (.ref (ls 0)), .val (.int (Int32.ofNat i)), .val (.long (f 0 i)), .second, .val (.int (Int32.ofNat rem)), .val (.int (Int32.ofNat (own_cw S i))), .val (.int (Int32.ofNat (i / 64)))] [(.int (g (i / 64))), (.int (Int32.ofNat rem))])) := c33.trans (by
       refine XS.icmpNo X29.here hx rfl (hb hby own_dn288) rfl (flt hgr).2.2.1 ?_
       show Steps _ _ _ (.setTop _ (mkF _ 91 _ _)) _
       refine XS.iload X29.here hx rfl (hb hby own_dn291) rfl ?_
       show Steps _ _ _ (.setTop _ (mkF _ 93 _ _)) _
       refine XS.aloadN X29.here hx rfl (hb hby own_dn293) rfl rfl ?_
       show Steps _ _ _ (.setTop _ (mkF _ 94 _ _)) _
       refine st50 _ ?_
       show Steps _ _ _ (.setTop _ (mkF _ 97 _ _)) _
       refine XS.iload X50.here hx rfl (hb hby own_dn297) rfl ?_
       show Steps _ _ _ (.setTop _ (mkF _ 99 _ _)) _
       refine X50.iaload hx (j := (Int32.ofNat (i / 64))) (v := (.int (g (i / 64)))) (by rw [e50]; exact AI.1) (State.isArrayOf_alike hZ.alike AI.2.1) AI.2.2 (own_inb (j := i / 64) SI hbM (by omega)) (by rw [own_cl (j := i / 64) (by omega)]; exact HI _ hbM) (g := (mkF m 99 #[.val (.ref ps), .val (.int (0 : Int32)), .val (.int (Int32.ofNat n)), .val (.ref (ls 0)), .val (.int (Int32.ofNat i)), .val (.long (f 0 i)), .second, .val (.int (Int32.ofNat rem)), .val (.int (Int32.ofNat (own_cw S i))), .val (.int (Int32.ofNat (i / 64)))] [(.int (Int32.ofNat (i / 64))), (.ref bc), (.int (Int32.ofNat rem))])) rfl rfl (hb hby own_dn299) _ ?_
       exact Steps.refl _)
      rw [hG _ hbM] at c53
      have c54 : Steps p.tables e below S0 (T50.setTop (mkF m 101 #[.val (.ref ps), .val (.int (0 : Int32)), .val (.int (Int32.ofNat n)), .val (.ref (ls 0)), .val (.int (Int32.ofNat i)), .val (.long (f 0 i)), .second, .val (.int (Int32.ofNat rem)), .val (.int (Int32.ofNat (own_cw S i))), .val (.int (Int32.ofNat (i / 64)))] [(.int ((Int32.ofNat rem) - (Int32.ofNat (own_cc S (i / 64)))))])) := c53.trans (by
       refine XS.isub X50.here hx rfl (hb hby own_dn2100) rfl ?_
       exact Steps.refl _)
      rw [own_isub hge2] at c54
      have c55 : Steps p.tables e below S0 (T50.setTop (mkF m 106 #[.val (.ref ps), .val (.int (0 : Int32)), .val (.int (Int32.ofNat n)), .val (.ref (ls 0)), .val (.int ((Int32.ofNat i) + (64 : Int32))), .val (.long (f 0 i)), .second, .val (.int (Int32.ofNat (rem - own_cc S (i / 64)))), .val (.int (Int32.ofNat (own_cw S i))), .val (.int (Int32.ofNat (i / 64)))] [])) := c54.trans (by
       refine XS.istore X50.here hx rfl (hb hby own_dn2101) rfl rfl ?_
       show Steps _ _ _ (.setTop _ (mkF _ 103 _ _)) _
       refine XS.iinc X50.here hx rfl (hb hby own_dn2103) rfl rfl ?_
       exact Steps.refl _)
      rw [(show Int32.ofNat i + (64 : Int32) = Int32.ofNat (i + 64) from own_iadd (i := i) (j := 64))] at c55
      have c58 : Steps p.tables e below S0 (T50.setTop (mkF m 123 #[.val (.ref ps), .val (.int (0 : Int32)), .val (.int (Int32.ofNat n)), .val (.ref (ls 0)), .val (.int (Int32.ofNat (i + 64))), .val (.long (f 0 i)), .second, .val (.int (Int32.ofNat (rem - own_cc S (i / 64)))), .val (.int (Int32.ofNat (own_cw S i))), .val (.int (Int32.ofNat (i / 64)))] [(.int (Int32.ofNat (N 0))), (.int (Int32.ofNat (i + 64)))])) := c55.trans (by
       refine XS.goto X50.here hx rfl (pc0 := 106) (pc' := 119) rfl (hb hby own_dn2106) (by decide) (by decide) ?_
       show Steps _ _ _ (.setTop _ (mkF _ 119 _ _)) _
       refine XS.iload X50.here hx rfl (hb hby own_dn2119) rfl ?_
       show Steps _ _ _ (.setTop _ (mkF _ 121 _ _)) _
       refine XS.aloadN X50.here hx rfl (hb hby own_dn2121) rfl rfl ?_
       show Steps _ _ _ (.setTop _ (mkF _ 122 _ _)) _
       refine X50.arraylength hx (by rw [e50]; exact AL.1) (State.isArrayOf_alike hZ.alike AL.2.1) (g := (mkF m 122 #[.val (.ref ps), .val (.int (0 : Int32)), .val (.int (Int32.ofNat n)), .val (.ref (ls 0)), .val (.int (Int32.ofNat (i + 64))), .val (.long (f 0 i)), .second, .val (.int (Int32.ofNat (rem - own_cc S (i / 64)))), .val (.int (Int32.ofNat (own_cw S i))), .val (.int (Int32.ofNat (i / 64)))] [(.ref (ls 0)), (.int (Int32.ofNat (i + 64)))])) rfl rfl (hb hby own_dn2122) _ ?_
       rw [show cL.slots.size.toInt32 = Int32.ofNat (N 0) by rw [SL]]
       exact Steps.refl _)
      by_cases hnx : (Int32.ofNat (i + 64)) < (Int32.ofNat (N 0))
      ·have hi2 : (i + 64) < N 0 := (own_ilt (by omega) (by omega)).mp hnx
       have c62 : Steps p.tables e below S0 (T50.setTop (mkF m 136 #[.val (.ref ps), .val (.int (0 : Int32)), .val (.int (Int32.ofNat n)), .val (.ref (ls 0)), .val (.int (Int32.ofNat (i + 64))), .val (.long (f 0 (i + 64))), .second, .val (.int (Int32.ofNat (rem - own_cc S (i / 64)))), .val (.int (Int32.ofNat (own_cw S i))), .val (.int (Int32.ofNat (i / 64)))] [(.long (f 0 (i + 64)))])) := c58.trans (by
        refine XS.icmpYes X50.here hx rfl (pc0 := 123) (pc' := 128) rfl (hb hby own_dn2123) rfl (tlt hnx).1 (by decide) (by decide) ?_
        show Steps _ _ _ (.setTop _ (mkF _ 128 _ _)) _
        refine XS.aloadN X50.here hx rfl (hb hby own_dn2128) rfl rfl ?_
        show Steps _ _ _ (.setTop _ (mkF _ 129 _ _)) _
        refine XS.iload X50.here hx rfl (hb hby own_dn2129) rfl ?_
        show Steps _ _ _ (.setTop _ (mkF _ 131 _ _)) _
        refine X50.laload hx (j := (Int32.ofNat (i + 64))) (v := (.long (f 0 (i + 64)))) (by rw [e50]; exact AL.1) (State.isArrayOf_alike hZ.alike AL.2.1) AL.2.2 (own_inb (j := (i + 64)) SL hi2 (by omega)) (by rw [own_cl (j := (i + 64)) (by omega)]; exact HL (i + 64) hi2) (g := (mkF m 131 #[.val (.ref ps), .val (.int (0 : Int32)), .val (.int (Int32.ofNat n)), .val (.ref (ls 0)), .val (.int (Int32.ofNat (i + 64))), .val (.long (f 0 i)), .second, .val (.int (Int32.ofNat (rem - own_cc S (i / 64)))), .val (.int (Int32.ofNat (own_cw S i))), .val (.int (Int32.ofNat (i / 64)))] [(.int (Int32.ofNat (i + 64))), (.ref (ls 0))])) rfl rfl (hb hby own_dn2131) _ ?_
        show Steps _ _ _ (.setTop _ (mkF _ 132 _ _)) _
        refine XS.lstore X50.here hx rfl (hb hby own_dn2132) rfl rfl ?_
        show Steps _ _ _ (.setTop _ (mkF _ 134 _ _)) _
        refine XS.lload X50.here hx rfl (hb hby own_dn2134) rfl ?_
        exact Steps.refl _)
       obtain ⟨_, _, ⟨T63, L63, k63, n63⟩, -, X63, ⟨Lc63, hQ63, l63, y63, z63⟩, st63⟩ := Jvm.LawKit.callS X50 hx (y := (⟨"java/lang/Long", "bitCount", "(J)I"⟩ : MethodName)) hown (mvT hZ (hw _ (own_m 76 rfl))) (mvT hZ (hw _ (own_m 77 rfl))) (mvT hZ (hw _ (own_m 64 rfl))) (mvT hZ (hw _ (own_m 78 rfl))) (by decide) (backOf (W := 0) (own_bcL l Z a0 hw [] (f 0 (i + 64)) h0 n0 Z0) hZ (hw _ (own_m 78 rfl)) (hw _ (own_m 64 rfl)) (Nat.le_of_ble_eq_true rfl) (Nat.le_of_ble_eq_true rfl)) (g := (mkF m 136 #[.val (.ref ps), .val (.int (0 : Int32)), .val (.int (Int32.ofNat n)), .val (.ref (ls 0)), .val (.int (Int32.ofNat (i + 64))), .val (.long (f 0 (i + 64))), .second, .val (.int (Int32.ofNat (rem - own_cc S (i / 64)))), .val (.int (Int32.ofNat (own_cw S i))), .val (.int (Int32.ofNat (i / 64)))] [(.long (f 0 (i + 64)))])) rfl (by rw [hml]; rfl) (argsL := [(.long (f 0 (i + 64)))]) (rest := []) (lenOf own_pd6 rfl) rfl (by show 2 * 0 + _ ≤ _; exact Nat.le_of_eq rfl) (hb hby own_dn2136) (fun _ _ => ⟨rfl, e50, (Nat.le_of_ble_eq_true rfl), (Nat.le_of_ble_eq_true rfl)⟩)
       dsimp only [Pt.U, Pt.locs, Pt.cells, Pt.slots] at X63 l63 y63 z63 st63 hQ63
       subst l63 y63 z63
       obtain ⟨rfl, N63q, ebn⟩ := hQ63
       have N63 := Fr.app NQ N63q
       have c64 : Steps p.tables e below S0 (T63.setTop (mkF m 139 #[.val (.ref ps), .val (.int (0 : Int32)), .val (.int (Int32.ofNat n)), .val (.ref (ls 0)), .val (.int (Int32.ofNat (i + 64))), .val (.long (f 0 (i + 64))), .second, .val (.int (Int32.ofNat (rem - own_cc S (i / 64)))), .val (.int (Int32.ofNat (own_cw S i))), .val (.int (Int32.ofNat (i / 64)))] [(.int (own_pc (f 0 (i + 64))))])) := c62.trans (by
        refine st63 _ ?_
        exact Steps.refl _)
       rw [pcw (i + 64) hi2] at c64
       have c65 : Steps p.tables e below S0 (T63.setTop (mkF m 47 #[.val (.ref ps), .val (.int (0 : Int32)), .val (.int (Int32.ofNat n)), .val (.ref (ls 0)), .val (.int (Int32.ofNat (i + 64))), .val (.long (f 0 (i + 64))), .second, .val (.int (Int32.ofNat (rem - own_cc S (i / 64)))), .val (.int (Int32.ofNat (own_cw S (i + 64)))), .val (.int (Int32.ofNat (i / 64)))] [])) := c64.trans (by
        refine XS.istore X63.here hx rfl (hb hby own_dn2139) rfl rfl ?_
        show Steps _ _ _ (.setTop _ (mkF _ 141 _ _)) _
        refine XS.goto X63.here hx rfl (pc0 := 141) (pc' := 47) rfl (hb hby own_dn2141) (by decide) (by decide) ?_
        exact Steps.refl _)
       exact ih (i + 64) (rem - own_cc S (i / 64)) (by omega) hi2 hsum' T63 _ _ X63 N63 ebn c65
      ·have c67 : Steps p.tables e below S0 (T50.setTop (mkF m 127 #[.val (.ref ps), .val (.int (0 : Int32)), .val (.int (Int32.ofNat n)), .val (.ref (ls 0)), .val (.int (Int32.ofNat (i + 64))), .val (.long (f 0 i)), .second, .val (.int (Int32.ofNat (rem - own_cc S (i / 64)))), .val (.int (Int32.ofNat (own_cw S i))), .val (.int (Int32.ofNat (i / 64)))] [(.int (-1 : Int32))])) := c58.trans (by
        refine XS.icmpNo X50.here hx rfl (hb hby own_dn2123) rfl (flt hnx).1 ?_
        show Steps _ _ _ (.setTop _ (mkF _ 126 _ _)) _
        refine XS.iconst X50.here hx rfl (hb hby own_dn2126) ?_
        exact Steps.refl _)
       have hall := own_cb_all (S := S) (i := (i + 64)) (fun p hp => by have h1 := SE.1 p hp; have h2 : ¬ (i + 64) < N 0 := fun q => hnx ((own_ilt (by omega) (by omega)).mpr q); omega)
       exact Or.inl ⟨T50, _, _, _, _, _, _, X50, NQ, e50, by omega, c67⟩
    ·have hsum' : rem - own_cw S i + own_cb S (i + 1) = n := by rw [own_cb_succ]; omega
     have c69 : Steps p.tables e below S0 (Tq.setTop (mkF m 114 #[.val (.ref ps), .val (.int (0 : Int32)), .val (.int (Int32.ofNat n)), .val (.ref (ls 0)), .val (.int (Int32.ofNat i)), .val (.long (f 0 i)), .second, .val (.int (Int32.ofNat rem)), .val (.int (Int32.ofNat (own_cw S i))), .val (.int (Int32.ofNat (i / 64)))] [(.int ((Int32.ofNat rem) - (Int32.ofNat (own_cw S i))))])) := c22.trans (by
      refine XS.ifYes XQ.here hx rfl (pc0 := 66) (pc' := 109) rfl (hb hby own_dn266) rfl ((if0 _ _).trans (feq hm).2) (by decide) (by decide) ?_
      show Steps _ _ _ (.setTop _ (mkF _ 109 _ _)) _
      refine XS.iload XQ.here hx rfl (hb hby own_dn2109) rfl ?_
      show Steps _ _ _ (.setTop _ (mkF _ 111 _ _)) _
      refine XS.iload XQ.here hx rfl (hb hby own_dn2111) rfl ?_
      show Steps _ _ _ (.setTop _ (mkF _ 113 _ _)) _
      refine XS.isub XQ.here hx rfl (hb hby own_dn2113) rfl ?_
      exact Steps.refl _)
     rw [own_isub hge] at c69
     have c70 : Steps p.tables e below S0 (Tq.setTop (mkF m 119 #[.val (.ref ps), .val (.int (0 : Int32)), .val (.int (Int32.ofNat n)), .val (.ref (ls 0)), .val (.int ((Int32.ofNat i) + (1 : Int32))), .val (.long (f 0 i)), .second, .val (.int (Int32.ofNat (rem - own_cw S i))), .val (.int (Int32.ofNat (own_cw S i))), .val (.int (Int32.ofNat (i / 64)))] [])) := c69.trans (by
      refine XS.istore XQ.here hx rfl (hb hby own_dn2114) rfl rfl ?_
      show Steps _ _ _ (.setTop _ (mkF _ 116 _ _)) _
      refine XS.iinc XQ.here hx rfl (hb hby own_dn2116) rfl rfl ?_
      exact Steps.refl _)
     rw [(show Int32.ofNat i + (1 : Int32) = Int32.ofNat (i + 1) from own_iadd (i := i) (j := 1))] at c70
     have c72 : Steps p.tables e below S0 (Tq.setTop (mkF m 123 #[.val (.ref ps), .val (.int (0 : Int32)), .val (.int (Int32.ofNat n)), .val (.ref (ls 0)), .val (.int (Int32.ofNat (i + 1))), .val (.long (f 0 i)), .second, .val (.int (Int32.ofNat (rem - own_cw S i))), .val (.int (Int32.ofNat (own_cw S i))), .val (.int (Int32.ofNat (i / 64)))] [(.int (Int32.ofNat (N 0))), (.int (Int32.ofNat (i + 1)))])) := c70.trans (by
      refine XS.iload XQ.here hx rfl (hb hby own_dn2119) rfl ?_
      show Steps _ _ _ (.setTop _ (mkF _ 121 _ _)) _
      refine XS.aloadN XQ.here hx rfl (hb hby own_dn2121) rfl rfl ?_
      show Steps _ _ _ (.setTop _ (mkF _ 122 _ _)) _
      refine XQ.arraylength hx (by rw [eQ]; exact AL.1) (State.isArrayOf_alike hZ.alike AL.2.1) (g := (mkF m 122 #[.val (.ref ps), .val (.int (0 : Int32)), .val (.int (Int32.ofNat n)), .val (.ref (ls 0)), .val (.int (Int32.ofNat (i + 1))), .val (.long (f 0 i)), .second, .val (.int (Int32.ofNat (rem - own_cw S i))), .val (.int (Int32.ofNat (own_cw S i))), .val (.int (Int32.ofNat (i / 64)))] [(.ref (ls 0)), (.int (Int32.ofNat (i + 1)))])) rfl rfl (hb hby own_dn2122) _ ?_
      rw [show cL.slots.size.toInt32 = Int32.ofNat (N 0) by rw [SL]]
      exact Steps.refl _)
     by_cases hnx : (Int32.ofNat (i + 1)) < (Int32.ofNat (N 0))
     ·have c73 : Steps p.tables e below S0 (Tq.setTop (mkF m 128 #[.val (.ref ps), .val (.int (0 : Int32)), .val (.int (Int32.ofNat n)), .val (.ref (ls 0)), .val (.int (Int32.ofNat (i + 1))), .val (.long (f 0 i)), .second, .val (.int (Int32.ofNat (rem - own_cw S i))), .val (.int (Int32.ofNat (own_cw S i))), .val (.int (Int32.ofNat (i / 64)))] [])) := c72.trans (by
       refine XS.icmpYes XQ.here hx rfl (pc0 := 123) (pc' := 128) rfl (hb hby own_dn2123) rfl (tlt hnx).1 (by decide) (by decide) ?_
       exact Steps.refl _)
      have hi2 : (i + 1) < N 0 := (own_ilt (by omega) (by omega)).mp hnx
      have c76 : Steps p.tables e below S0 (Tq.setTop (mkF m 136 #[.val (.ref ps), .val (.int (0 : Int32)), .val (.int (Int32.ofNat n)), .val (.ref (ls 0)), .val (.int (Int32.ofNat (i + 1))), .val (.long (f 0 (i + 1))), .second, .val (.int (Int32.ofNat (rem - own_cw S i))), .val (.int (Int32.ofNat (own_cw S i))), .val (.int (Int32.ofNat (i / 64)))] [(.long (f 0 (i + 1)))])) := c73.trans (by
       refine XS.aloadN XQ.here hx rfl (hb hby own_dn2128) rfl rfl ?_
       show Steps _ _ _ (.setTop _ (mkF _ 129 _ _)) _
       refine XS.iload XQ.here hx rfl (hb hby own_dn2129) rfl ?_
       show Steps _ _ _ (.setTop _ (mkF _ 131 _ _)) _
       refine XQ.laload hx (j := (Int32.ofNat (i + 1))) (v := (.long (f 0 (i + 1)))) (by rw [eQ]; exact AL.1) (State.isArrayOf_alike hZ.alike AL.2.1) AL.2.2 (own_inb (j := (i + 1)) SL hi2 (by omega)) (by rw [own_cl (j := (i + 1)) (by omega)]; exact HL (i + 1) hi2) (g := (mkF m 131 #[.val (.ref ps), .val (.int (0 : Int32)), .val (.int (Int32.ofNat n)), .val (.ref (ls 0)), .val (.int (Int32.ofNat (i + 1))), .val (.long (f 0 i)), .second, .val (.int (Int32.ofNat (rem - own_cw S i))), .val (.int (Int32.ofNat (own_cw S i))), .val (.int (Int32.ofNat (i / 64)))] [(.int (Int32.ofNat (i + 1))), (.ref (ls 0))])) rfl rfl (hb hby own_dn2131) _ ?_
       show Steps _ _ _ (.setTop _ (mkF _ 132 _ _)) _
       refine XS.lstore XQ.here hx rfl (hb hby own_dn2132) rfl rfl ?_
       show Steps _ _ _ (.setTop _ (mkF _ 134 _ _)) _
       refine XS.lload XQ.here hx rfl (hb hby own_dn2134) rfl ?_
       exact Steps.refl _)
      obtain ⟨_, _, ⟨T77, L77, k77, n77⟩, -, X77, ⟨Lc77, hQ77, l77, y77, z77⟩, st77⟩ := Jvm.LawKit.callS XQ hx (y := (⟨"java/lang/Long", "bitCount", "(J)I"⟩ : MethodName)) hown (mvT hZ (hw _ (own_m 76 rfl))) (mvT hZ (hw _ (own_m 77 rfl))) (mvT hZ (hw _ (own_m 64 rfl))) (mvT hZ (hw _ (own_m 78 rfl))) (by decide) (backOf (W := 0) (own_bcL l Z a0 hw [] (f 0 (i + 1)) h0 n0 Z0) hZ (hw _ (own_m 78 rfl)) (hw _ (own_m 64 rfl)) (Nat.le_of_ble_eq_true rfl) (Nat.le_of_ble_eq_true rfl)) (g := (mkF m 136 #[.val (.ref ps), .val (.int (0 : Int32)), .val (.int (Int32.ofNat n)), .val (.ref (ls 0)), .val (.int (Int32.ofNat (i + 1))), .val (.long (f 0 (i + 1))), .second, .val (.int (Int32.ofNat (rem - own_cw S i))), .val (.int (Int32.ofNat (own_cw S i))), .val (.int (Int32.ofNat (i / 64)))] [(.long (f 0 (i + 1)))])) rfl (by rw [hml]; rfl) (argsL := [(.long (f 0 (i + 1)))]) (rest := []) (lenOf own_pd6 rfl) rfl (by show 2 * 0 + _ ≤ _; exact Nat.le_of_eq rfl) (hb hby own_dn2136) (fun _ _ => ⟨rfl, eQ, (Nat.le_of_ble_eq_true rfl), (Nat.le_of_ble_eq_true rfl)⟩)
      dsimp only [Pt.U, Pt.locs, Pt.cells, Pt.slots] at X77 l77 y77 z77 st77 hQ77
      subst l77 y77 z77
      obtain ⟨rfl, N77q, ebn⟩ := hQ77
      have N77 := Fr.app NQ N77q
      have c78 : Steps p.tables e below S0 (T77.setTop (mkF m 139 #[.val (.ref ps), .val (.int (0 : Int32)), .val (.int (Int32.ofNat n)), .val (.ref (ls 0)), .val (.int (Int32.ofNat (i + 1))), .val (.long (f 0 (i + 1))), .second, .val (.int (Int32.ofNat (rem - own_cw S i))), .val (.int (Int32.ofNat (own_cw S i))), .val (.int (Int32.ofNat (i / 64)))] [(.int (own_pc (f 0 (i + 1))))])) := c76.trans (by
       refine st77 _ ?_
       exact Steps.refl _)
      rw [pcw (i + 1) hi2] at c78
      have c79 : Steps p.tables e below S0 (T77.setTop (mkF m 47 #[.val (.ref ps), .val (.int (0 : Int32)), .val (.int (Int32.ofNat n)), .val (.ref (ls 0)), .val (.int (Int32.ofNat (i + 1))), .val (.long (f 0 (i + 1))), .second, .val (.int (Int32.ofNat (rem - own_cw S i))), .val (.int (Int32.ofNat (own_cw S (i + 1)))), .val (.int (Int32.ofNat (i / 64)))] [])) := c78.trans (by
       refine XS.istore X77.here hx rfl (hb hby own_dn2139) rfl rfl ?_
       show Steps _ _ _ (.setTop _ (mkF _ 141 _ _)) _
       refine XS.goto X77.here hx rfl (pc0 := 141) (pc' := 47) rfl (hb hby own_dn2141) (by decide) (by decide) ?_
       exact Steps.refl _)
      exact ih (i + 1) (rem - own_cw S i) (by omega) hi2 hsum' T77 _ _ X77 N77 ebn c79
     ·have c81 : Steps p.tables e below S0 (Tq.setTop (mkF m 127 #[.val (.ref ps), .val (.int (0 : Int32)), .val (.int (Int32.ofNat n)), .val (.ref (ls 0)), .val (.int (Int32.ofNat (i + 1))), .val (.long (f 0 i)), .second, .val (.int (Int32.ofNat (rem - own_cw S i))), .val (.int (Int32.ofNat (own_cw S i))), .val (.int (Int32.ofNat (i / 64)))] [(.int (-1 : Int32))])) := c72.trans (by
       refine XS.icmpNo XQ.here hx rfl (hb hby own_dn2123) rfl (flt hnx).1 ?_
       show Steps _ _ _ (.setTop _ (mkF _ 126 _ _)) _
       refine XS.iconst XQ.here hx rfl (hb hby own_dn2126) ?_
       exact Steps.refl _)
      have hall := own_cb_all (S := S) (i := (i + 1)) (fun p hp => by have h1 := SE.1 p hp; have h2 : ¬ (i + 1) < N 0 := fun q => hnx ((own_ilt (by omega) (by omega)).mpr q); omega)
      exact Or.inl ⟨Tq, _, _, _, _, _, _, XQ, NQ, eQ, by omega, c81⟩
 have ex : (∃ (Tz : State) (Lz : List Loc) (y4 : Int32) (y5 : Int64) (y7 y8 y9 : Int32), Stand p l e ({ frames := 2, cells := 0, slots := 0, locals := 29 } : Room) s m #[(.ref ps), (.int (0 : Int32)), (.int (Int32.ofNat n))] below meth c Tz Lz 0 0 ∧ Fr n0 Lz ∧ Tz.heap = h0 ∧ S.length ≤ n ∧ Steps p.tables e below S0 (Tz.setTop (mkF m 127 #[.val (.ref ps), .val (.int (0 : Int32)), .val (.int (Int32.ofNat n)), .val (.ref (ls 0)), .val (.int y4), .val (.long y5), .second, .val (.int y7), .val (.int y8), .val (.int y9)] [(.int (-1 : Int32))]))) ∨ (∃ (Tz : State) (Lz : List Loc) (i rem : Nat) (sl : Slot), Stand p l e ({ frames := 2, cells := 0, slots := 0, locals := 29 } : Room) s m #[(.ref ps), (.int (0 : Int32)), (.int (Int32.ofNat n))] below meth c Tz Lz 0 0 ∧ Fr n0 Lz ∧ Tz.heap = h0 ∧ i < N 0 ∧ rem < own_cw S i ∧ rem + own_cb S i = n ∧ Steps p.tables e below S0 (Tz.setTop (mkF m 144 #[.val (.ref ps), .val (.int (0 : Int32)), .val (.int (Int32.ofNat n)), .val (.ref (ls 0)), .val (.int (Int32.ofNat i)), .val (.long (f 0 i)), .second, .val (.int (Int32.ofNat rem)), .val (.int (Int32.ofNat (own_cw S i))), sl] []))) := by
  have hs0 : n + own_cb S 0 = n := by rw [own_cb_zero, Nat.add_zero]
  have hcw := cwl 0
  have c82 : Steps p.tables e below S0 (T15.setTop (mkF m 51 #[.val (.ref ps), .val (.int (0 : Int32)), .val (.int (Int32.ofNat n)), .val (.ref (ls 0)), .val (.int (Int32.ofNat 0)), .val (.long (f 0 0)), .second, .val (.int (Int32.ofNat n)), .val (.int (Int32.ofNat (own_cw S 0))), .unset] [(.int (Int32.ofNat (own_cw S 0))), (.int (Int32.ofNat n))])) := c17.trans (by
   refine XS.iload X15.here hx rfl (hb hby own_dn247) rfl ?_
   show Steps _ _ _ (.setTop _ (mkF _ 49 _ _)) _
   refine XS.iload X15.here hx rfl (hb hby own_dn249) rfl ?_
   exact Steps.refl _)
  by_cases hlt : (Int32.ofNat n) < (Int32.ofNat (own_cw S 0))
  ·have c83 : Steps p.tables e below S0 (T15.setTop (mkF m 144 #[.val (.ref ps), .val (.int (0 : Int32)), .val (.int (Int32.ofNat n)), .val (.ref (ls 0)), .val (.int (Int32.ofNat 0)), .val (.long (f 0 0)), .second, .val (.int (Int32.ofNat n)), .val (.int (Int32.ofNat (own_cw S 0))), .unset] [])) := c82.trans (by
    refine XS.icmpYes X15.here hx rfl (pc0 := 51) (pc' := 144) rfl (hb hby own_dn251) rfl (tlt hlt).1 (by decide) (by decide) ?_
    exact Steps.refl _)
   exact Or.inr ⟨T15, _, 0, n, .unset, X15, N15, eb0, (show 0 < N 0 by omega), (own_ilt (by omega) (by omega)).mp hlt, hs0, c83⟩
  ·have hge : own_cw S 0 ≤ n := Nat.le_of_not_lt (fun q => hlt ((own_ilt (by omega) (by omega)).mpr q))
   have c85 : Steps p.tables e below S0 (T15.setTop (mkF m 59 #[.val (.ref ps), .val (.int (0 : Int32)), .val (.int (Int32.ofNat n)), .val (.ref (ls 0)), .val (.int (Int32.ofNat 0)), .val (.long (f 0 0)), .second, .val (.int (Int32.ofNat n)), .val (.int (Int32.ofNat (own_cw S 0))), .unset] [(.int (((Int32.ofNat 0).toUInt32 >>> ((6 : Int32) &&& 31).toUInt32).toInt32))])) := c82.trans (by
    refine XS.icmpNo X15.here hx rfl (hb hby own_dn251) rfl (flt hlt).1 ?_
    show Steps _ _ _ (.setTop _ (mkF _ 54 _ _)) _
    refine XS.iload X15.here hx rfl (hb hby own_dn254) rfl ?_
    show Steps _ _ _ (.setTop _ (mkF _ 56 _ _)) _
    refine XS.bipush X15.here hx rfl (hb hby own_dn256) ?_
    show Steps _ _ _ (.setTop _ (mkF _ 58 _ _)) _
    refine XS.iushr X15.here hx rfl (hb hby own_dn258) rfl ?_
    exact Steps.refl _)
   rw [own_ushr6 (show 0 < 2 ^ 31 by omega)] at c85
   have c86 : Steps p.tables e below S0 (T15.setTop (mkF m 66 #[.val (.ref ps), .val (.int (0 : Int32)), .val (.int (Int32.ofNat n)), .val (.ref (ls 0)), .val (.int (Int32.ofNat 0)), .val (.long (f 0 0)), .second, .val (.int (Int32.ofNat n)), .val (.int (Int32.ofNat (own_cw S 0))), .val (.int (Int32.ofNat (0 / 64)))] [(.int ((Int32.ofNat 0) &&& (63 : Int32)))])) := c85.trans (by
    refine XS.istore X15.here hx rfl (hb hby own_dn259) rfl rfl ?_
    show Steps _ _ _ (.setTop _ (mkF _ 61 _ _)) _
    refine XS.iload X15.here hx rfl (hb hby own_dn261) rfl ?_
    show Steps _ _ _ (.setTop _ (mkF _ 63 _ _)) _
    refine XS.bipush X15.here hx rfl (hb hby own_dn263) ?_
    show Steps _ _ _ (.setTop _ (mkF _ 65 _ _)) _
    refine XS.iand X15.here hx rfl (hb hby own_dn265) rfl ?_
    exact Steps.refl _)
   rw [own_and63 (show 0 < 2 ^ 31 by omega)] at c86
   by_cases hm : (Int32.ofNat (0 % 64)) = (0 : Int32)
   ·have hm0 : 0 % 64 = 0 := (own_ieq (j := 0) (by omega) (by decide)).mp hm
    have hbM : 0 / 64 < M := by rw [t3]; exact own_wf_lt (show 0 < N 0 by omega)
    obtain ⟨T93, X93, e93, st93⟩ := getF X15 hx hZ hown (host := "") (Or.inl (hw _ (own_m 22 rfl))) Via.refl eb0 P.2.2.1 (g := (mkF m 80 #[.val (.ref ps), .val (.int (0 : Int32)), .val (.int (Int32.ofNat n)), .val (.ref (ls 0)), .val (.int (Int32.ofNat 0)), .val (.long (f 0 0)), .second, .val (.int (Int32.ofNat n)), .val (.int (Int32.ofNat (own_cw S 0))), .val (.int (Int32.ofNat (0 / 64)))] [(.ref ps)])) rfl rfl (hb hby own_dn280)
    have c95 : Steps p.tables e below S0 (T93.setTop (mkF m 85 #[.val (.ref ps), .val (.int (0 : Int32)), .val (.int (Int32.ofNat n)), .val (.ref (ls 0)), .val (.int (Int32.ofNat 0)), .val (.long (f 0 0)), .second, .val (.int (Int32.ofNat n)), .val (.int (Int32.ofNat (own_cw S 0))), .val (.int (Int32.ofNat (0 / 64)))] [(.int (Int32.ofNat (0 / 64))), (.ref bc)])) := c86.trans (by
     refine XS.ifNo X15.here hx rfl (hb hby own_dn266) rfl ((if0 _ _).trans (teq hm).2) ?_
     show Steps _ _ _ (.setTop _ (mkF _ 69 _ _)) _
     refine XS.lload X15.here hx rfl (hb hby own_dn269) rfl ?_
     show Steps _ _ _ (.setTop _ (mkF _ 71 _ _)) _
     refine XS.aloadN X15.here hx rfl (hb hby own_dn271) rfl rfl ?_
     show Steps _ _ _ (.setTop _ (mkF _ 72 _ _)) _
     refine XS.iload X15.here hx rfl (hb hby own_dn272) rfl ?_
     show Steps _ _ _ (.setTop _ (mkF _ 74 _ _)) _
     refine X15.laload hx (j := (Int32.ofNat 0)) (v := (.long (f 0 0))) (by rw [eb0]; exact AL.1) (State.isArrayOf_alike hZ.alike AL.2.1) AL.2.2 (own_inb (j := 0) SL (show 0 < N 0 by omega) (by omega)) (by rw [own_cl (j := 0) (by omega)]; exact HL 0 (show 0 < N 0 by omega)) (g := (mkF m 74 #[.val (.ref ps), .val (.int (0 : Int32)), .val (.int (Int32.ofNat n)), .val (.ref (ls 0)), .val (.int (Int32.ofNat 0)), .val (.long (f 0 0)), .second, .val (.int (Int32.ofNat n)), .val (.int (Int32.ofNat (own_cw S 0))), .val (.int (Int32.ofNat (0 / 64)))] [(.int (Int32.ofNat 0)), (.ref (ls 0)), (.long (f 0 0))])) rfl rfl (hb hby own_dn274) _ ?_
     show Steps _ _ _ (.setTop _ (mkF _ 75 _ _)) _
     refine XS.lcmp X15.here hx rfl (hb hby own_dn275) rfl ?_
     show Steps _ _ _ (.setTop _ (mkF _ 76 _ _)) _
     refine XS.ifNo X15.here hx rfl (hb hby own_dn276) rfl ((if0 _ _).trans (teq (own_lcs _)).2) ?_
     show Steps _ _ _ (.setTop _ (mkF _ 79 _ _)) _
     refine XS.aloadN X15.here hx rfl (hb hby own_dn279) rfl rfl ?_
     show Steps _ _ _ (.setTop _ (mkF _ 80 _ _)) _
     refine st93 _ ?_
     show Steps _ _ _ (.setTop _ (mkF _ 83 _ _)) _
     refine XS.iload X93.here hx rfl (hb hby own_dn283) rfl ?_
     exact Steps.refl _)
    have hccl : own_cc S (0 / 64) ≤ 2 := Nat.le_trans List.countP_le_length hS
    have c96 : Steps p.tables e below S0 (T93.setTop (mkF m 86 #[.val (.ref ps), .val (.int (0 : Int32)), .val (.int (Int32.ofNat n)), .val (.ref (ls 0)), .val (.int (Int32.ofNat 0)), .val (.long (f 0 0)), .second, .val (.int (Int32.ofNat n)), .val (.int (Int32.ofNat (own_cw S 0))), .val (.int (Int32.ofNat (0 / 64)))] [(.int (g (0 / 64)))])) := c95.trans (by
     refine X93.iaload hx (j := (Int32.ofNat (0 / 64))) (v := (.int (g (0 / 64)))) (by rw [e93]; exact AI.1) (State.isArrayOf_alike hZ.alike AI.2.1) AI.2.2 (own_inb (j := 0 / 64) SI hbM (by omega)) (by rw [own_cl (j := 0 / 64) (by omega)]; exact HI _ hbM) (g := (mkF m 85 #[.val (.ref ps), .val (.int (0 : Int32)), .val (.int (Int32.ofNat n)), .val (.ref (ls 0)), .val (.int (Int32.ofNat 0)), .val (.long (f 0 0)), .second, .val (.int (Int32.ofNat n)), .val (.int (Int32.ofNat (own_cw S 0))), .val (.int (Int32.ofNat (0 / 64)))] [(.int (Int32.ofNat (0 / 64))), (.ref bc)])) rfl rfl (hb hby own_dn285) _ ?_
     exact Steps.refl _)
    rw [hG _ hbM] at c96
    have c97 : Steps p.tables e below S0 (T93.setTop (mkF m 88 #[.val (.ref ps), .val (.int (0 : Int32)), .val (.int (Int32.ofNat n)), .val (.ref (ls 0)), .val (.int (Int32.ofNat 0)), .val (.long (f 0 0)), .second, .val (.int (Int32.ofNat n)), .val (.int (Int32.ofNat (own_cw S 0))), .val (.int (Int32.ofNat (0 / 64)))] [(.int (Int32.ofNat n)), (.int (Int32.ofNat (own_cc S (0 / 64))))])) := c96.trans (by
     refine XS.iload X93.here hx rfl (hb hby own_dn286) rfl ?_
     exact Steps.refl _)
    by_cases hgr : (Int32.ofNat n) < (Int32.ofNat (own_cc S (0 / 64)))
    ·have c98 : Steps p.tables e below S0 (T93.setTop (mkF m 109 #[.val (.ref ps), .val (.int (0 : Int32)), .val (.int (Int32.ofNat n)), .val (.ref (ls 0)), .val (.int (Int32.ofNat 0)), .val (.long (f 0 0)), .second, .val (.int (Int32.ofNat n)), .val (.int (Int32.ofNat (own_cw S 0))), .val (.int (Int32.ofNat (0 / 64)))] [])) := c97.trans (by
      refine XS.icmpYes X93.here hx rfl (pc0 := 88) (pc' := 109) rfl (hb hby own_dn288) rfl (tlt hgr).2.2.1 (by decide) (by decide) ?_
      exact Steps.refl _)
     have hsum' : n - own_cw S 0 + own_cb S (0 + 1) = n := by rw [own_cb_succ]; omega
     have c99 : Steps p.tables e below S0 (T93.setTop (mkF m 114 #[.val (.ref ps), .val (.int (0 : Int32)), .val (.int (Int32.ofNat n)), .val (.ref (ls 0)), .val (.int (Int32.ofNat 0)), .val (.long (f 0 0)), .second, .val (.int (Int32.ofNat n)), .val (.int (Int32.ofNat (own_cw S 0))), .val (.int (Int32.ofNat (0 / 64)))] [(.int ((Int32.ofNat n) - (Int32.ofNat (own_cw S 0))))])) := c98.trans (by
      refine XS.iload X93.here hx rfl (hb hby own_dn2109) rfl ?_
      show Steps _ _ _ (.setTop _ (mkF _ 111 _ _)) _
      refine XS.iload X93.here hx rfl (hb hby own_dn2111) rfl ?_
      show Steps _ _ _ (.setTop _ (mkF _ 113 _ _)) _
      refine XS.isub X93.here hx rfl (hb hby own_dn2113) rfl ?_
      exact Steps.refl _)
     rw [own_isub hge] at c99
     have c100 : Steps p.tables e below S0 (T93.setTop (mkF m 119 #[.val (.ref ps), .val (.int (0 : Int32)), .val (.int (Int32.ofNat n)), .val (.ref (ls 0)), .val (.int ((Int32.ofNat 0) + (1 : Int32))), .val (.long (f 0 0)), .second, .val (.int (Int32.ofNat (n - own_cw S 0))), .val (.int (Int32.ofNat (own_cw S 0))), .val (.int (Int32.ofNat (0 / 64)))] [])) := c99.trans (by
      refine XS.istore X93.here hx rfl (hb hby own_dn2114) rfl rfl ?_
      show Steps _ _ _ (.setTop _ (mkF _ 116 _ _)) _
      refine XS.iinc X93.here hx rfl (hb hby own_dn2116) rfl rfl ?_
      exact Steps.refl _)
     rw [(show Int32.ofNat 0 + (1 : Int32) = Int32.ofNat (0 + 1) from own_iadd (i := 0) (j := 1))] at c100
     have c102 : Steps p.tables e below S0 (T93.setTop (mkF m 123 #[.val (.ref ps), .val (.int (0 : Int32)), .val (.int (Int32.ofNat n)), .val (.ref (ls 0)), .val (.int (Int32.ofNat (0 + 1))), .val (.long (f 0 0)), .second, .val (.int (Int32.ofNat (n - own_cw S 0))), .val (.int (Int32.ofNat (own_cw S 0))), .val (.int (Int32.ofNat (0 / 64)))] [(.int (Int32.ofNat (N 0))), (.int (Int32.ofNat (0 + 1)))])) := c100.trans (by
      refine XS.iload X93.here hx rfl (hb hby own_dn2119) rfl ?_
      show Steps _ _ _ (.setTop _ (mkF _ 121 _ _)) _
      refine XS.aloadN X93.here hx rfl (hb hby own_dn2121) rfl rfl ?_
      show Steps _ _ _ (.setTop _ (mkF _ 122 _ _)) _
      refine X93.arraylength hx (by rw [e93]; exact AL.1) (State.isArrayOf_alike hZ.alike AL.2.1) (g := (mkF m 122 #[.val (.ref ps), .val (.int (0 : Int32)), .val (.int (Int32.ofNat n)), .val (.ref (ls 0)), .val (.int (Int32.ofNat (0 + 1))), .val (.long (f 0 0)), .second, .val (.int (Int32.ofNat (n - own_cw S 0))), .val (.int (Int32.ofNat (own_cw S 0))), .val (.int (Int32.ofNat (0 / 64)))] [(.ref (ls 0)), (.int (Int32.ofNat (0 + 1)))])) rfl rfl (hb hby own_dn2122) _ ?_
      rw [show cL.slots.size.toInt32 = Int32.ofNat (N 0) by rw [SL]]
      exact Steps.refl _)
     by_cases hnx : (Int32.ofNat (0 + 1)) < (Int32.ofNat (N 0))
     ·have c103 : Steps p.tables e below S0 (T93.setTop (mkF m 128 #[.val (.ref ps), .val (.int (0 : Int32)), .val (.int (Int32.ofNat n)), .val (.ref (ls 0)), .val (.int (Int32.ofNat (0 + 1))), .val (.long (f 0 0)), .second, .val (.int (Int32.ofNat (n - own_cw S 0))), .val (.int (Int32.ofNat (own_cw S 0))), .val (.int (Int32.ofNat (0 / 64)))] [])) := c102.trans (by
       refine XS.icmpYes X93.here hx rfl (pc0 := 123) (pc' := 128) rfl (hb hby own_dn2123) rfl (tlt hnx).1 (by decide) (by decide) ?_
       exact Steps.refl _)
      have hi2 : (0 + 1) < N 0 := (own_ilt (by omega) (by omega)).mp hnx
      have c106 : Steps p.tables e below S0 (T93.setTop (mkF m 136 #[.val (.ref ps), .val (.int (0 : Int32)), .val (.int (Int32.ofNat n)), .val (.ref (ls 0)), .val (.int (Int32.ofNat (0 + 1))), .val (.long (f 0 (0 + 1))), .second, .val (.int (Int32.ofNat (n - own_cw S 0))), .val (.int (Int32.ofNat (own_cw S 0))), .val (.int (Int32.ofNat (0 / 64)))] [(.long (f 0 (0 + 1)))])) := c103.trans (by
       refine XS.aloadN X93.here hx rfl (hb hby own_dn2128) rfl rfl ?_
       show Steps _ _ _ (.setTop _ (mkF _ 129 _ _)) _
       refine XS.iload X93.here hx rfl (hb hby own_dn2129) rfl ?_
       show Steps _ _ _ (.setTop _ (mkF _ 131 _ _)) _
       refine X93.laload hx (j := (Int32.ofNat (0 + 1))) (v := (.long (f 0 (0 + 1)))) (by rw [e93]; exact AL.1) (State.isArrayOf_alike hZ.alike AL.2.1) AL.2.2 (own_inb (j := (0 + 1)) SL hi2 (by omega)) (by rw [own_cl (j := (0 + 1)) (by omega)]; exact HL (0 + 1) hi2) (g := (mkF m 131 #[.val (.ref ps), .val (.int (0 : Int32)), .val (.int (Int32.ofNat n)), .val (.ref (ls 0)), .val (.int (Int32.ofNat (0 + 1))), .val (.long (f 0 0)), .second, .val (.int (Int32.ofNat (n - own_cw S 0))), .val (.int (Int32.ofNat (own_cw S 0))), .val (.int (Int32.ofNat (0 / 64)))] [(.int (Int32.ofNat (0 + 1))), (.ref (ls 0))])) rfl rfl (hb hby own_dn2131) _ ?_
       show Steps _ _ _ (.setTop _ (mkF _ 132 _ _)) _
       refine XS.lstore X93.here hx rfl (hb hby own_dn2132) rfl rfl ?_
       show Steps _ _ _ (.setTop _ (mkF _ 134 _ _)) _
       refine XS.lload X93.here hx rfl (hb hby own_dn2134) rfl ?_
       exact Steps.refl _)
      obtain ⟨_, _, ⟨T107, L107, k107, n107⟩, -, X107, ⟨Lc107, hQ107, l107, y107, z107⟩, st107⟩ := Jvm.LawKit.callS X93 hx (y := (⟨"java/lang/Long", "bitCount", "(J)I"⟩ : MethodName)) hown (mvT hZ (hw _ (own_m 76 rfl))) (mvT hZ (hw _ (own_m 77 rfl))) (mvT hZ (hw _ (own_m 64 rfl))) (mvT hZ (hw _ (own_m 78 rfl))) (by decide) (backOf (W := 0) (own_bcL l Z a0 hw [] (f 0 (0 + 1)) h0 n0 Z0) hZ (hw _ (own_m 78 rfl)) (hw _ (own_m 64 rfl)) (Nat.le_of_ble_eq_true rfl) (Nat.le_of_ble_eq_true rfl)) (g := (mkF m 136 #[.val (.ref ps), .val (.int (0 : Int32)), .val (.int (Int32.ofNat n)), .val (.ref (ls 0)), .val (.int (Int32.ofNat (0 + 1))), .val (.long (f 0 (0 + 1))), .second, .val (.int (Int32.ofNat (n - own_cw S 0))), .val (.int (Int32.ofNat (own_cw S 0))), .val (.int (Int32.ofNat (0 / 64)))] [(.long (f 0 (0 + 1)))])) rfl (by rw [hml]; rfl) (argsL := [(.long (f 0 (0 + 1)))]) (rest := []) (lenOf own_pd6 rfl) rfl (by show 2 * 0 + _ ≤ _; exact Nat.le_of_eq rfl) (hb hby own_dn2136) (fun _ _ => ⟨rfl, e93, (Nat.le_of_ble_eq_true rfl), (Nat.le_of_ble_eq_true rfl)⟩)
      dsimp only [Pt.U, Pt.locs, Pt.cells, Pt.slots] at X107 l107 y107 z107 st107 hQ107
      subst l107 y107 z107
      obtain ⟨rfl, N107q, ebn⟩ := hQ107
      have N107 := Fr.app N15 N107q
      have c108 : Steps p.tables e below S0 (T107.setTop (mkF m 139 #[.val (.ref ps), .val (.int (0 : Int32)), .val (.int (Int32.ofNat n)), .val (.ref (ls 0)), .val (.int (Int32.ofNat (0 + 1))), .val (.long (f 0 (0 + 1))), .second, .val (.int (Int32.ofNat (n - own_cw S 0))), .val (.int (Int32.ofNat (own_cw S 0))), .val (.int (Int32.ofNat (0 / 64)))] [(.int (own_pc (f 0 (0 + 1))))])) := c106.trans (by
       refine st107 _ ?_
       exact Steps.refl _)
      rw [pcw (0 + 1) hi2] at c108
      have c109 : Steps p.tables e below S0 (T107.setTop (mkF m 47 #[.val (.ref ps), .val (.int (0 : Int32)), .val (.int (Int32.ofNat n)), .val (.ref (ls 0)), .val (.int (Int32.ofNat (0 + 1))), .val (.long (f 0 (0 + 1))), .second, .val (.int (Int32.ofNat (n - own_cw S 0))), .val (.int (Int32.ofNat (own_cw S (0 + 1)))), .val (.int (Int32.ofNat (0 / 64)))] [])) := c108.trans (by
       refine XS.istore X107.here hx rfl (hb hby own_dn2139) rfl rfl ?_
       show Steps _ _ _ (.setTop _ (mkF _ 141 _ _)) _
       refine XS.goto X107.here hx rfl (pc0 := 141) (pc' := 47) rfl (hb hby own_dn2141) (by decide) (by decide) ?_
       exact Steps.refl _)
      exact loop (N 0) (0 + 1) (n - own_cw S 0) (by omega) hi2 hsum' T107 _ _ X107 N107 ebn c109
     ·have c111 : Steps p.tables e below S0 (T93.setTop (mkF m 127 #[.val (.ref ps), .val (.int (0 : Int32)), .val (.int (Int32.ofNat n)), .val (.ref (ls 0)), .val (.int (Int32.ofNat (0 + 1))), .val (.long (f 0 0)), .second, .val (.int (Int32.ofNat (n - own_cw S 0))), .val (.int (Int32.ofNat (own_cw S 0))), .val (.int (Int32.ofNat (0 / 64)))] [(.int (-1 : Int32))])) := c102.trans (by
       refine XS.icmpNo X93.here hx rfl (hb hby own_dn2123) rfl (flt hnx).1 ?_
       show Steps _ _ _ (.setTop _ (mkF _ 126 _ _)) _
       refine XS.iconst X93.here hx rfl (hb hby own_dn2126) ?_
       exact Steps.refl _)
      have hall := own_cb_all (S := S) (i := (0 + 1)) (fun p hp => by have h1 := SE.1 p hp; have h2 : ¬ (0 + 1) < N 0 := fun q => hnx ((own_ilt (by omega) (by omega)).mpr q); omega)
      exact Or.inl ⟨T93, _, _, _, _, _, _, X93, N15, e93, by omega, c111⟩
    ·have hge2 : own_cc S (0 / 64) ≤ n := Nat.le_of_not_lt (fun q => hgr ((own_ilt (by omega) (by omega)).mpr q))
     have hsum' : n - own_cc S (0 / 64) + own_cb S (0 + 64) = n := by rw [own_cb_blk S hm0]; omega
     obtain ⟨T114, X114, e114, st114⟩ := getF X93 hx hZ hown (host := "") (Or.inl (hw _ (own_m 22 rfl))) Via.refl e93 P.2.2.1 (g := (mkF m 94 #[.val (.ref ps), .val (.int (0 : Int32)), .val (.int (Int32.ofNat n)), .val (.ref (ls 0)), .val (.int (Int32.ofNat 0)), .val (.long (f 0 0)), .second, .val (.int (Int32.ofNat n)), .val (.int (Int32.ofNat (own_cw S 0))), .val (.int (Int32.ofNat (0 / 64)))] [(.ref ps), (.int (Int32.ofNat n))])) rfl rfl (hb hby own_dn294)
     have c117 : Steps p.tables e below S0 (T114.setTop (mkF m 100 #[.val (.ref ps), .val (.int (0 : Int32)), .val (.int (Int32.ofNat n)), .val (.ref (ls 0)), .val (.int (Int32.ofNat 0)), .val (.long (f 0 0)), .second, .val (.int (Int32.ofNat n)), .val (.int (Int32.ofNat (own_cw S 0))), .val (.int (Int32.ofNat (0 / 64)))] [(.int (g (0 / 64))), (.int (Int32.ofNat n))])) := c97.trans (by
      refine XS.icmpNo X93.here hx rfl (hb hby own_dn288) rfl (flt hgr).2.2.1 ?_
      show Steps _ _ _ (.setTop _ (mkF _ 91 _ _)) _
      refine XS.iload X93.here hx rfl (hb hby own_dn291) rfl ?_
      show Steps _ _ _ (.setTop _ (mkF _ 93 _ _)) _
      refine XS.aloadN X93.here hx rfl (hb hby own_dn293) rfl rfl ?_
      show Steps _ _ _ (.setTop _ (mkF _ 94 _ _)) _
      refine st114 _ ?_
      show Steps _ _ _ (.setTop _ (mkF _ 97 _ _)) _
      refine XS.iload X114.here hx rfl (hb hby own_dn297) rfl ?_
      show Steps _ _ _ (.setTop _ (mkF _ 99 _ _)) _
      refine X114.iaload hx (j := (Int32.ofNat (0 / 64))) (v := (.int (g (0 / 64)))) (by rw [e114]; exact AI.1) (State.isArrayOf_alike hZ.alike AI.2.1) AI.2.2 (own_inb (j := 0 / 64) SI hbM (by omega)) (by rw [own_cl (j := 0 / 64) (by omega)]; exact HI _ hbM) (g := (mkF m 99 #[.val (.ref ps), .val (.int (0 : Int32)), .val (.int (Int32.ofNat n)), .val (.ref (ls 0)), .val (.int (Int32.ofNat 0)), .val (.long (f 0 0)), .second, .val (.int (Int32.ofNat n)), .val (.int (Int32.ofNat (own_cw S 0))), .val (.int (Int32.ofNat (0 / 64)))] [(.int (Int32.ofNat (0 / 64))), (.ref bc), (.int (Int32.ofNat n))])) rfl rfl (hb hby own_dn299) _ ?_
      exact Steps.refl _)
     rw [hG _ hbM] at c117
     have c118 : Steps p.tables e below S0 (T114.setTop (mkF m 101 #[.val (.ref ps), .val (.int (0 : Int32)), .val (.int (Int32.ofNat n)), .val (.ref (ls 0)), .val (.int (Int32.ofNat 0)), .val (.long (f 0 0)), .second, .val (.int (Int32.ofNat n)), .val (.int (Int32.ofNat (own_cw S 0))), .val (.int (Int32.ofNat (0 / 64)))] [(.int ((Int32.ofNat n) - (Int32.ofNat (own_cc S (0 / 64)))))])) := c117.trans (by
      refine XS.isub X114.here hx rfl (hb hby own_dn2100) rfl ?_
      exact Steps.refl _)
     rw [own_isub hge2] at c118
     have c119 : Steps p.tables e below S0 (T114.setTop (mkF m 106 #[.val (.ref ps), .val (.int (0 : Int32)), .val (.int (Int32.ofNat n)), .val (.ref (ls 0)), .val (.int ((Int32.ofNat 0) + (64 : Int32))), .val (.long (f 0 0)), .second, .val (.int (Int32.ofNat (n - own_cc S (0 / 64)))), .val (.int (Int32.ofNat (own_cw S 0))), .val (.int (Int32.ofNat (0 / 64)))] [])) := c118.trans (by
      refine XS.istore X114.here hx rfl (hb hby own_dn2101) rfl rfl ?_
      show Steps _ _ _ (.setTop _ (mkF _ 103 _ _)) _
      refine XS.iinc X114.here hx rfl (hb hby own_dn2103) rfl rfl ?_
      exact Steps.refl _)
     rw [(show Int32.ofNat 0 + (64 : Int32) = Int32.ofNat (0 + 64) from own_iadd (i := 0) (j := 64))] at c119
     have c122 : Steps p.tables e below S0 (T114.setTop (mkF m 123 #[.val (.ref ps), .val (.int (0 : Int32)), .val (.int (Int32.ofNat n)), .val (.ref (ls 0)), .val (.int (Int32.ofNat (0 + 64))), .val (.long (f 0 0)), .second, .val (.int (Int32.ofNat (n - own_cc S (0 / 64)))), .val (.int (Int32.ofNat (own_cw S 0))), .val (.int (Int32.ofNat (0 / 64)))] [(.int (Int32.ofNat (N 0))), (.int (Int32.ofNat (0 + 64)))])) := c119.trans (by
      refine XS.goto X114.here hx rfl (pc0 := 106) (pc' := 119) rfl (hb hby own_dn2106) (by decide) (by decide) ?_
      show Steps _ _ _ (.setTop _ (mkF _ 119 _ _)) _
      refine XS.iload X114.here hx rfl (hb hby own_dn2119) rfl ?_
      show Steps _ _ _ (.setTop _ (mkF _ 121 _ _)) _
      refine XS.aloadN X114.here hx rfl (hb hby own_dn2121) rfl rfl ?_
      show Steps _ _ _ (.setTop _ (mkF _ 122 _ _)) _
      refine X114.arraylength hx (by rw [e114]; exact AL.1) (State.isArrayOf_alike hZ.alike AL.2.1) (g := (mkF m 122 #[.val (.ref ps), .val (.int (0 : Int32)), .val (.int (Int32.ofNat n)), .val (.ref (ls 0)), .val (.int (Int32.ofNat (0 + 64))), .val (.long (f 0 0)), .second, .val (.int (Int32.ofNat (n - own_cc S (0 / 64)))), .val (.int (Int32.ofNat (own_cw S 0))), .val (.int (Int32.ofNat (0 / 64)))] [(.ref (ls 0)), (.int (Int32.ofNat (0 + 64)))])) rfl rfl (hb hby own_dn2122) _ ?_
      rw [show cL.slots.size.toInt32 = Int32.ofNat (N 0) by rw [SL]]
      exact Steps.refl _)
     by_cases hnx : (Int32.ofNat (0 + 64)) < (Int32.ofNat (N 0))
     ·have hi2 : (0 + 64) < N 0 := (own_ilt (by omega) (by omega)).mp hnx
      have c126 : Steps p.tables e below S0 (T114.setTop (mkF m 136 #[.val (.ref ps), .val (.int (0 : Int32)), .val (.int (Int32.ofNat n)), .val (.ref (ls 0)), .val (.int (Int32.ofNat (0 + 64))), .val (.long (f 0 (0 + 64))), .second, .val (.int (Int32.ofNat (n - own_cc S (0 / 64)))), .val (.int (Int32.ofNat (own_cw S 0))), .val (.int (Int32.ofNat (0 / 64)))] [(.long (f 0 (0 + 64)))])) := c122.trans (by
       refine XS.icmpYes X114.here hx rfl (pc0 := 123) (pc' := 128) rfl (hb hby own_dn2123) rfl (tlt hnx).1 (by decide) (by decide) ?_
       show Steps _ _ _ (.setTop _ (mkF _ 128 _ _)) _
       refine XS.aloadN X114.here hx rfl (hb hby own_dn2128) rfl rfl ?_
       show Steps _ _ _ (.setTop _ (mkF _ 129 _ _)) _
       refine XS.iload X114.here hx rfl (hb hby own_dn2129) rfl ?_
       show Steps _ _ _ (.setTop _ (mkF _ 131 _ _)) _
       refine X114.laload hx (j := (Int32.ofNat (0 + 64))) (v := (.long (f 0 (0 + 64)))) (by rw [e114]; exact AL.1) (State.isArrayOf_alike hZ.alike AL.2.1) AL.2.2 (own_inb (j := (0 + 64)) SL hi2 (by omega)) (by rw [own_cl (j := (0 + 64)) (by omega)]; exact HL (0 + 64) hi2) (g := (mkF m 131 #[.val (.ref ps), .val (.int (0 : Int32)), .val (.int (Int32.ofNat n)), .val (.ref (ls 0)), .val (.int (Int32.ofNat (0 + 64))), .val (.long (f 0 0)), .second, .val (.int (Int32.ofNat (n - own_cc S (0 / 64)))), .val (.int (Int32.ofNat (own_cw S 0))), .val (.int (Int32.ofNat (0 / 64)))] [(.int (Int32.ofNat (0 + 64))), (.ref (ls 0))])) rfl rfl (hb hby own_dn2131) _ ?_
       show Steps _ _ _ (.setTop _ (mkF _ 132 _ _)) _
       refine XS.lstore X114.here hx rfl (hb hby own_dn2132) rfl rfl ?_
       show Steps _ _ _ (.setTop _ (mkF _ 134 _ _)) _
       refine XS.lload X114.here hx rfl (hb hby own_dn2134) rfl ?_
       exact Steps.refl _)
      obtain ⟨_, _, ⟨T127, L127, k127, n127⟩, -, X127, ⟨Lc127, hQ127, l127, y127, z127⟩, st127⟩ := Jvm.LawKit.callS X114 hx (y := (⟨"java/lang/Long", "bitCount", "(J)I"⟩ : MethodName)) hown (mvT hZ (hw _ (own_m 76 rfl))) (mvT hZ (hw _ (own_m 77 rfl))) (mvT hZ (hw _ (own_m 64 rfl))) (mvT hZ (hw _ (own_m 78 rfl))) (by decide) (backOf (W := 0) (own_bcL l Z a0 hw [] (f 0 (0 + 64)) h0 n0 Z0) hZ (hw _ (own_m 78 rfl)) (hw _ (own_m 64 rfl)) (Nat.le_of_ble_eq_true rfl) (Nat.le_of_ble_eq_true rfl)) (g := (mkF m 136 #[.val (.ref ps), .val (.int (0 : Int32)), .val (.int (Int32.ofNat n)), .val (.ref (ls 0)), .val (.int (Int32.ofNat (0 + 64))), .val (.long (f 0 (0 + 64))), .second, .val (.int (Int32.ofNat (n - own_cc S (0 / 64)))), .val (.int (Int32.ofNat (own_cw S 0))), .val (.int (Int32.ofNat (0 / 64)))] [(.long (f 0 (0 + 64)))])) rfl (by rw [hml]; rfl) (argsL := [(.long (f 0 (0 + 64)))]) (rest := []) (lenOf own_pd6 rfl) rfl (by show 2 * 0 + _ ≤ _; exact Nat.le_of_eq rfl) (hb hby own_dn2136) (fun _ _ => ⟨rfl, e114, (Nat.le_of_ble_eq_true rfl), (Nat.le_of_ble_eq_true rfl)⟩)
      dsimp only [Pt.U, Pt.locs, Pt.cells, Pt.slots] at X127 l127 y127 z127 st127 hQ127
      subst l127 y127 z127
      obtain ⟨rfl, N127q, ebn⟩ := hQ127
      have N127 := Fr.app N15 N127q
      have c128 : Steps p.tables e below S0 (T127.setTop (mkF m 139 #[.val (.ref ps), .val (.int (0 : Int32)), .val (.int (Int32.ofNat n)), .val (.ref (ls 0)), .val (.int (Int32.ofNat (0 + 64))), .val (.long (f 0 (0 + 64))), .second, .val (.int (Int32.ofNat (n - own_cc S (0 / 64)))), .val (.int (Int32.ofNat (own_cw S 0))), .val (.int (Int32.ofNat (0 / 64)))] [(.int (own_pc (f 0 (0 + 64))))])) := c126.trans (by
       refine st127 _ ?_
       exact Steps.refl _)
      rw [pcw (0 + 64) hi2] at c128
      have c129 : Steps p.tables e below S0 (T127.setTop (mkF m 47 #[.val (.ref ps), .val (.int (0 : Int32)), .val (.int (Int32.ofNat n)), .val (.ref (ls 0)), .val (.int (Int32.ofNat (0 + 64))), .val (.long (f 0 (0 + 64))), .second, .val (.int (Int32.ofNat (n - own_cc S (0 / 64)))), .val (.int (Int32.ofNat (own_cw S (0 + 64)))), .val (.int (Int32.ofNat (0 / 64)))] [])) := c128.trans (by
       refine XS.istore X127.here hx rfl (hb hby own_dn2139) rfl rfl ?_
       show Steps _ _ _ (.setTop _ (mkF _ 141 _ _)) _
       refine XS.goto X127.here hx rfl (pc0 := 141) (pc' := 47) rfl (hb hby own_dn2141) (by decide) (by decide) ?_
       exact Steps.refl _)
      exact loop (N 0) (0 + 64) (n - own_cc S (0 / 64)) (by omega) hi2 hsum' T127 _ _ X127 N127 ebn c129
     ·have c131 : Steps p.tables e below S0 (T114.setTop (mkF m 127 #[.val (.ref ps), .val (.int (0 : Int32)), .val (.int (Int32.ofNat n)), .val (.ref (ls 0)), .val (.int (Int32.ofNat (0 + 64))), .val (.long (f 0 0)), .second, .val (.int (Int32.ofNat (n - own_cc S (0 / 64)))), .val (.int (Int32.ofNat (own_cw S 0))), .val (.int (Int32.ofNat (0 / 64)))] [(.int (-1 : Int32))])) := c122.trans (by
       refine XS.icmpNo X114.here hx rfl (hb hby own_dn2123) rfl (flt hnx).1 ?_
       show Steps _ _ _ (.setTop _ (mkF _ 126 _ _)) _
       refine XS.iconst X114.here hx rfl (hb hby own_dn2126) ?_
       exact Steps.refl _)
      have hall := own_cb_all (S := S) (i := (0 + 64)) (fun p hp => by have h1 := SE.1 p hp; have h2 : ¬ (0 + 64) < N 0 := fun q => hnx ((own_ilt (by omega) (by omega)).mpr q); omega)
      exact Or.inl ⟨T114, _, _, _, _, _, _, X114, N15, e114, by omega, c131⟩
   ·have hsum' : n - own_cw S 0 + own_cb S (0 + 1) = n := by rw [own_cb_succ]; omega
    have c133 : Steps p.tables e below S0 (T15.setTop (mkF m 114 #[.val (.ref ps), .val (.int (0 : Int32)), .val (.int (Int32.ofNat n)), .val (.ref (ls 0)), .val (.int (Int32.ofNat 0)), .val (.long (f 0 0)), .second, .val (.int (Int32.ofNat n)), .val (.int (Int32.ofNat (own_cw S 0))), .val (.int (Int32.ofNat (0 / 64)))] [(.int ((Int32.ofNat n) - (Int32.ofNat (own_cw S 0))))])) := c86.trans (by
     refine XS.ifYes X15.here hx rfl (pc0 := 66) (pc' := 109) rfl (hb hby own_dn266) rfl ((if0 _ _).trans (feq hm).2) (by decide) (by decide) ?_
     show Steps _ _ _ (.setTop _ (mkF _ 109 _ _)) _
     refine XS.iload X15.here hx rfl (hb hby own_dn2109) rfl ?_
     show Steps _ _ _ (.setTop _ (mkF _ 111 _ _)) _
     refine XS.iload X15.here hx rfl (hb hby own_dn2111) rfl ?_
     show Steps _ _ _ (.setTop _ (mkF _ 113 _ _)) _
     refine XS.isub X15.here hx rfl (hb hby own_dn2113) rfl ?_
     exact Steps.refl _)
    rw [own_isub hge] at c133
    have c134 : Steps p.tables e below S0 (T15.setTop (mkF m 119 #[.val (.ref ps), .val (.int (0 : Int32)), .val (.int (Int32.ofNat n)), .val (.ref (ls 0)), .val (.int ((Int32.ofNat 0) + (1 : Int32))), .val (.long (f 0 0)), .second, .val (.int (Int32.ofNat (n - own_cw S 0))), .val (.int (Int32.ofNat (own_cw S 0))), .val (.int (Int32.ofNat (0 / 64)))] [])) := c133.trans (by
     refine XS.istore X15.here hx rfl (hb hby own_dn2114) rfl rfl ?_
     show Steps _ _ _ (.setTop _ (mkF _ 116 _ _)) _
     refine XS.iinc X15.here hx rfl (hb hby own_dn2116) rfl rfl ?_
     exact Steps.refl _)
    rw [(show Int32.ofNat 0 + (1 : Int32) = Int32.ofNat (0 + 1) from own_iadd (i := 0) (j := 1))] at c134
    have c136 : Steps p.tables e below S0 (T15.setTop (mkF m 123 #[.val (.ref ps), .val (.int (0 : Int32)), .val (.int (Int32.ofNat n)), .val (.ref (ls 0)), .val (.int (Int32.ofNat (0 + 1))), .val (.long (f 0 0)), .second, .val (.int (Int32.ofNat (n - own_cw S 0))), .val (.int (Int32.ofNat (own_cw S 0))), .val (.int (Int32.ofNat (0 / 64)))] [(.int (Int32.ofNat (N 0))), (.int (Int32.ofNat (0 + 1)))])) := c134.trans (by
     refine XS.iload X15.here hx rfl (hb hby own_dn2119) rfl ?_
     show Steps _ _ _ (.setTop _ (mkF _ 121 _ _)) _
     refine XS.aloadN X15.here hx rfl (hb hby own_dn2121) rfl rfl ?_
     show Steps _ _ _ (.setTop _ (mkF _ 122 _ _)) _
     refine X15.arraylength hx (by rw [eb0]; exact AL.1) (State.isArrayOf_alike hZ.alike AL.2.1) (g := (mkF m 122 #[.val (.ref ps), .val (.int (0 : Int32)), .val (.int (Int32.ofNat n)), .val (.ref (ls 0)), .val (.int (Int32.ofNat (0 + 1))), .val (.long (f 0 0)), .second, .val (.int (Int32.ofNat (n - own_cw S 0))), .val (.int (Int32.ofNat (own_cw S 0))), .val (.int (Int32.ofNat (0 / 64)))] [(.ref (ls 0)), (.int (Int32.ofNat (0 + 1)))])) rfl rfl (hb hby own_dn2122) _ ?_
     rw [show cL.slots.size.toInt32 = Int32.ofNat (N 0) by rw [SL]]
     exact Steps.refl _)
    by_cases hnx : (Int32.ofNat (0 + 1)) < (Int32.ofNat (N 0))
    ·have c137 : Steps p.tables e below S0 (T15.setTop (mkF m 128 #[.val (.ref ps), .val (.int (0 : Int32)), .val (.int (Int32.ofNat n)), .val (.ref (ls 0)), .val (.int (Int32.ofNat (0 + 1))), .val (.long (f 0 0)), .second, .val (.int (Int32.ofNat (n - own_cw S 0))), .val (.int (Int32.ofNat (own_cw S 0))), .val (.int (Int32.ofNat (0 / 64)))] [])) := c136.trans (by
      refine XS.icmpYes X15.here hx rfl (pc0 := 123) (pc' := 128) rfl (hb hby own_dn2123) rfl (tlt hnx).1 (by decide) (by decide) ?_
      exact Steps.refl _)
     have hi2 : (0 + 1) < N 0 := (own_ilt (by omega) (by omega)).mp hnx
     have c140 : Steps p.tables e below S0 (T15.setTop (mkF m 136 #[.val (.ref ps), .val (.int (0 : Int32)), .val (.int (Int32.ofNat n)), .val (.ref (ls 0)), .val (.int (Int32.ofNat (0 + 1))), .val (.long (f 0 (0 + 1))), .second, .val (.int (Int32.ofNat (n - own_cw S 0))), .val (.int (Int32.ofNat (own_cw S 0))), .val (.int (Int32.ofNat (0 / 64)))] [(.long (f 0 (0 + 1)))])) := c137.trans (by
      refine XS.aloadN X15.here hx rfl (hb hby own_dn2128) rfl rfl ?_
      show Steps _ _ _ (.setTop _ (mkF _ 129 _ _)) _
      refine XS.iload X15.here hx rfl (hb hby own_dn2129) rfl ?_
      show Steps _ _ _ (.setTop _ (mkF _ 131 _ _)) _
      refine X15.laload hx (j := (Int32.ofNat (0 + 1))) (v := (.long (f 0 (0 + 1)))) (by rw [eb0]; exact AL.1) (State.isArrayOf_alike hZ.alike AL.2.1) AL.2.2 (own_inb (j := (0 + 1)) SL hi2 (by omega)) (by rw [own_cl (j := (0 + 1)) (by omega)]; exact HL (0 + 1) hi2) (g := (mkF m 131 #[.val (.ref ps), .val (.int (0 : Int32)), .val (.int (Int32.ofNat n)), .val (.ref (ls 0)), .val (.int (Int32.ofNat (0 + 1))), .val (.long (f 0 0)), .second, .val (.int (Int32.ofNat (n - own_cw S 0))), .val (.int (Int32.ofNat (own_cw S 0))), .val (.int (Int32.ofNat (0 / 64)))] [(.int (Int32.ofNat (0 + 1))), (.ref (ls 0))])) rfl rfl (hb hby own_dn2131) _ ?_
      show Steps _ _ _ (.setTop _ (mkF _ 132 _ _)) _
      refine XS.lstore X15.here hx rfl (hb hby own_dn2132) rfl rfl ?_
      show Steps _ _ _ (.setTop _ (mkF _ 134 _ _)) _
      refine XS.lload X15.here hx rfl (hb hby own_dn2134) rfl ?_
      exact Steps.refl _)
     obtain ⟨_, _, ⟨T141, L141, k141, n141⟩, -, X141, ⟨Lc141, hQ141, l141, y141, z141⟩, st141⟩ := Jvm.LawKit.callS X15 hx (y := (⟨"java/lang/Long", "bitCount", "(J)I"⟩ : MethodName)) hown (mvT hZ (hw _ (own_m 76 rfl))) (mvT hZ (hw _ (own_m 77 rfl))) (mvT hZ (hw _ (own_m 64 rfl))) (mvT hZ (hw _ (own_m 78 rfl))) (by decide) (backOf (W := 0) (own_bcL l Z a0 hw [] (f 0 (0 + 1)) h0 n0 Z0) hZ (hw _ (own_m 78 rfl)) (hw _ (own_m 64 rfl)) (Nat.le_of_ble_eq_true rfl) (Nat.le_of_ble_eq_true rfl)) (g := (mkF m 136 #[.val (.ref ps), .val (.int (0 : Int32)), .val (.int (Int32.ofNat n)), .val (.ref (ls 0)), .val (.int (Int32.ofNat (0 + 1))), .val (.long (f 0 (0 + 1))), .second, .val (.int (Int32.ofNat (n - own_cw S 0))), .val (.int (Int32.ofNat (own_cw S 0))), .val (.int (Int32.ofNat (0 / 64)))] [(.long (f 0 (0 + 1)))])) rfl (by rw [hml]; rfl) (argsL := [(.long (f 0 (0 + 1)))]) (rest := []) (lenOf own_pd6 rfl) rfl (by show 2 * 0 + _ ≤ _; exact Nat.le_of_eq rfl) (hb hby own_dn2136) (fun _ _ => ⟨rfl, eb0, (Nat.le_of_ble_eq_true rfl), (Nat.le_of_ble_eq_true rfl)⟩)
     dsimp only [Pt.U, Pt.locs, Pt.cells, Pt.slots] at X141 l141 y141 z141 st141 hQ141
     subst l141 y141 z141
     obtain ⟨rfl, N141q, ebn⟩ := hQ141
     have N141 := Fr.app N15 N141q
     have c142 : Steps p.tables e below S0 (T141.setTop (mkF m 139 #[.val (.ref ps), .val (.int (0 : Int32)), .val (.int (Int32.ofNat n)), .val (.ref (ls 0)), .val (.int (Int32.ofNat (0 + 1))), .val (.long (f 0 (0 + 1))), .second, .val (.int (Int32.ofNat (n - own_cw S 0))), .val (.int (Int32.ofNat (own_cw S 0))), .val (.int (Int32.ofNat (0 / 64)))] [(.int (own_pc (f 0 (0 + 1))))])) := c140.trans (by
      refine st141 _ ?_
      exact Steps.refl _)
     rw [pcw (0 + 1) hi2] at c142
     have c143 : Steps p.tables e below S0 (T141.setTop (mkF m 47 #[.val (.ref ps), .val (.int (0 : Int32)), .val (.int (Int32.ofNat n)), .val (.ref (ls 0)), .val (.int (Int32.ofNat (0 + 1))), .val (.long (f 0 (0 + 1))), .second, .val (.int (Int32.ofNat (n - own_cw S 0))), .val (.int (Int32.ofNat (own_cw S (0 + 1)))), .val (.int (Int32.ofNat (0 / 64)))] [])) := c142.trans (by
      refine XS.istore X141.here hx rfl (hb hby own_dn2139) rfl rfl ?_
      show Steps _ _ _ (.setTop _ (mkF _ 141 _ _)) _
      refine XS.goto X141.here hx rfl (pc0 := 141) (pc' := 47) rfl (hb hby own_dn2141) (by decide) (by decide) ?_
      exact Steps.refl _)
     exact loop (N 0) (0 + 1) (n - own_cw S 0) (by omega) hi2 hsum' T141 _ _ X141 N141 ebn c143
    ·have c145 : Steps p.tables e below S0 (T15.setTop (mkF m 127 #[.val (.ref ps), .val (.int (0 : Int32)), .val (.int (Int32.ofNat n)), .val (.ref (ls 0)), .val (.int (Int32.ofNat (0 + 1))), .val (.long (f 0 0)), .second, .val (.int (Int32.ofNat (n - own_cw S 0))), .val (.int (Int32.ofNat (own_cw S 0))), .val (.int (Int32.ofNat (0 / 64)))] [(.int (-1 : Int32))])) := c136.trans (by
      refine XS.icmpNo X15.here hx rfl (hb hby own_dn2123) rfl (flt hnx).1 ?_
      show Steps _ _ _ (.setTop _ (mkF _ 126 _ _)) _
      refine XS.iconst X15.here hx rfl (hb hby own_dn2126) ?_
      exact Steps.refl _)
     have hall := own_cb_all (S := S) (i := (0 + 1)) (fun p hp => by have h1 := SE.1 p hp; have h2 : ¬ (0 + 1) < N 0 := fun q => hnx ((own_ilt (by omega) (by omega)).mpr q); omega)
     exact Or.inl ⟨T15, _, _, _, _, _, _, X15, N15, eb0, by omega, c145⟩
 rcases ex with ⟨Tz, Lz, y4, y5, y7, y8, y9, XZ, NZ, eZ, hlen, cZ⟩ | ⟨Tz, Lz, i, rem, sl, XZ, NZ, eZ, hi, hrem, hsum, cZ⟩
 ·obtain ⟨fs, hr, hrun, hended, hW, hsame⟩ := XZ.leave (v := some (.int (-1 : Int32))) (fun h => by rw [Bd.returns] at h; cases h)
  exact ⟨_, _, cZ.trans (retOut XZ hx (t := .int) (i := .ireturn) Bd.returns rfl (Or.inl ⟨rfl, Or.inl rfl, _, rfl⟩) (hb hby own_dn2127) hr), hrun, hended, _, _, rfl, ⟨⟨_, rfl, Or.inl ⟨hlen, rfl⟩⟩, NZ, eZ⟩, ⟨_, rfl⟩, hW, hsame.mono (by decide) (by decide)⟩
 ·have hcw := cwl i
  rcases (show rem = 0 ∨ rem = 1 by omega) with rfl | rfl
  ·obtain ⟨k, hk64, hb1, hb2, hR⟩ := own_fin0 SE hk0 hi hn1 (by omega) hrem
   have c148 : Steps p.tables e below S0 (Tz.setTop (mkF m 169 #[.val (.ref ps), .val (.int (0 : Int32)), .val (.int (Int32.ofNat n)), .val (.ref (ls 0)), .val (.int (Int32.ofNat i)), .val (.long (f 0 i)), .second, .val (.int (Int32.ofNat 0)), .val (.int (Int32.ofNat (own_cw S i))), sl] [(.int ((Int32.ofNat i) <<< ((6 : Int32) &&& 31)))])) := cZ.trans (by
    refine XS.iload XZ.here hx rfl (hb hby own_dn2144) rfl ?_
    show Steps _ _ _ (.setTop _ (mkF _ 146 _ _)) _
    refine XS.ifYes XZ.here hx rfl (pc0 := 146) (pc' := 164) rfl (hb hby own_dn2146) rfl ((if0 _ _).trans (flt (show ¬ (0 : Int32) < Int32.ofNat 0 by decide)).2.2.2) (by decide) (by decide) ?_
    show Steps _ _ _ (.setTop _ (mkF _ 164 _ _)) _
    refine XS.iload XZ.here hx rfl (hb hby own_dn2164) rfl ?_
    show Steps _ _ _ (.setTop _ (mkF _ 166 _ _)) _
    refine XS.bipush XZ.here hx rfl (hb hby own_dn2166) ?_
    show Steps _ _ _ (.setTop _ (mkF _ 168 _ _)) _
    refine XS.ishl XZ.here hx rfl (hb hby own_dn2168) rfl ?_
    exact Steps.refl _)
   rw [own_shl6 (show i < 2 ^ 24 by omega)] at c148
   have c149 : Steps p.tables e below S0 (Tz.setTop (mkF m 171 #[.val (.ref ps), .val (.int (0 : Int32)), .val (.int (Int32.ofNat n)), .val (.ref (ls 0)), .val (.int (Int32.ofNat i)), .val (.long (f 0 i)), .second, .val (.int (Int32.ofNat 0)), .val (.int (Int32.ofNat (own_cw S i))), sl] [(.long (f 0 i)), (.int (Int32.ofNat (64 * i)))])) := c148.trans (by
    refine XS.lload XZ.here hx rfl (hb hby own_dn2169) rfl ?_
    exact Steps.refl _)
   obtain ⟨_, _, ⟨T150, L150, k150, n150⟩, -, X150, ⟨Lc150, hQ150, l150, y150, z150⟩, st150⟩ := Jvm.LawKit.callS XZ hx (y := (⟨"java/lang/Long", "numberOfTrailingZeros", "(J)I"⟩ : MethodName)) hown (mvT hZ (hw _ (own_m 62 rfl))) (mvT hZ (hw _ (own_m 63 rfl))) (mvT hZ (hw _ (own_m 64 rfl))) (mvT hZ (hw _ (own_m 65 rfl))) (by decide) (backOf (W := 1) (own_ntL l Z a0 hw [] (f 0 i) h0 n0 Z0) hZ (hw _ (own_m 65 rfl)) (hw _ (own_m 64 rfl)) (Nat.le_of_ble_eq_true rfl) (Nat.le_of_ble_eq_true rfl)) (g := (mkF m 171 #[.val (.ref ps), .val (.int (0 : Int32)), .val (.int (Int32.ofNat n)), .val (.ref (ls 0)), .val (.int (Int32.ofNat i)), .val (.long (f 0 i)), .second, .val (.int (Int32.ofNat 0)), .val (.int (Int32.ofNat (own_cw S i))), sl] [(.long (f 0 i)), (.int (Int32.ofNat (64 * i)))])) rfl (by rw [hml]; rfl) (argsL := [(.long (f 0 i))]) (rest := [(.int (Int32.ofNat (64 * i)))]) (lenOf own_pd6 rfl) rfl (by show 2 * 0 + _ ≤ _; exact Nat.le_of_eq rfl) (hb hby own_dn2171) (fun _ _ => ⟨rfl, eZ, (Nat.le_of_ble_eq_true rfl), (Nat.le_of_ble_eq_true rfl)⟩)
   dsimp only [Pt.U, Pt.locs, Pt.cells, Pt.slots] at X150 l150 y150 z150 st150 hQ150
   subst l150 y150 z150
   obtain ⟨rfl, N150q, en⟩ := hQ150
   have N150 := Fr.app NZ N150q
   have c152 : Steps p.tables e below S0 (T150.setTop (mkF m 175 #[.val (.ref ps), .val (.int (0 : Int32)), .val (.int (Int32.ofNat n)), .val (.ref (ls 0)), .val (.int (Int32.ofNat i)), .val (.long (f 0 i)), .second, .val (.int (Int32.ofNat 0)), .val (.int (Int32.ofNat (own_cw S i))), sl] [(.int ((Int32.ofNat (64 * i)) + (own_nt64 (f 0 i))))])) := c149.trans (by
    refine st150 _ ?_
    show Steps _ _ _ (.setTop _ (mkF _ 174 _ _)) _
    refine XS.iadd X150.here hx rfl (hb hby own_dn2174) rfl ?_
    exact Steps.refl _)
   rw [own_nt_of hk64 hb1 hb2] at c152
   obtain ⟨fs, hr, hrun, hended, hW, hsame⟩ := X150.leave (v := some (.int (Int32.ofNat (64 * i + k)))) (fun h => by rw [Bd.returns] at h; cases h)
   exact ⟨_, _, c152.trans (retOut X150 hx (t := .int) (i := .ireturn) Bd.returns rfl (Or.inl ⟨rfl, Or.inl rfl, _, rfl⟩) (hb hby own_dn2175) hr), hrun, hended, _, _, rfl, ⟨⟨_, rfl, hR⟩, N150, en⟩, ⟨_, rfl⟩, hW, hsame.mono (by decide) (by decide)⟩
  ·have c155 : Steps p.tables e below S0 (Tz.setTop (mkF m 144 #[.val (.ref ps), .val (.int (0 : Int32)), .val (.int (Int32.ofNat n)), .val (.ref (ls 0)), .val (.int (Int32.ofNat i)), .val (.long ((f 0 i) &&& ((f 0 i) - (1 : Int64)))), .second, .val (.int ((Int32.ofNat 1) + (-1 : Int32))), .val (.int (Int32.ofNat (own_cw S i))), sl] [])) := cZ.trans (by
    refine XS.iload XZ.here hx rfl (hb hby own_dn2144) rfl ?_
    show Steps _ _ _ (.setTop _ (mkF _ 146 _ _)) _
    refine XS.ifNo XZ.here hx rfl (hb hby own_dn2146) rfl ((if0 _ _).trans (tlt (show (0 : Int32) < Int32.ofNat 1 by decide)).2.2.2) ?_
    show Steps _ _ _ (.setTop _ (mkF _ 149 _ _)) _
    refine XS.lload XZ.here hx rfl (hb hby own_dn2149) rfl ?_
    show Steps _ _ _ (.setTop _ (mkF _ 151 _ _)) _
    refine XS.lload XZ.here hx rfl (hb hby own_dn2151) rfl ?_
    show Steps _ _ _ (.setTop _ (mkF _ 153 _ _)) _
    refine XS.lconst XZ.here hx rfl (hb hby own_dn2153) ?_
    show Steps _ _ _ (.setTop _ (mkF _ 154 _ _)) _
    refine XS.lsub XZ.here hx rfl (hb hby own_dn2154) rfl ?_
    show Steps _ _ _ (.setTop _ (mkF _ 155 _ _)) _
    refine XS.land XZ.here hx rfl (hb hby own_dn2155) rfl ?_
    show Steps _ _ _ (.setTop _ (mkF _ 156 _ _)) _
    refine XS.lstore XZ.here hx rfl (hb hby own_dn2156) rfl rfl ?_
    show Steps _ _ _ (.setTop _ (mkF _ 158 _ _)) _
    refine XS.iinc XZ.here hx rfl (hb hby own_dn2158) rfl rfl ?_
    show Steps _ _ _ (.setTop _ (mkF _ 161 _ _)) _
    refine XS.goto XZ.here hx rfl (pc0 := 161) (pc' := 144) rfl (hb hby own_dn2161) (by decide) (by decide) ?_
    exact Steps.refl _)
   rw [(show Int32.ofNat 1 + (-1 : Int32) = Int32.ofNat 0 by decide)] at c155
   obtain ⟨k, hk64, hb1, hb2, hR⟩ := own_fin1 hS hSd SE hk0 hi hsum hrem
   have c158 : Steps p.tables e below S0 (Tz.setTop (mkF m 169 #[.val (.ref ps), .val (.int (0 : Int32)), .val (.int (Int32.ofNat n)), .val (.ref (ls 0)), .val (.int (Int32.ofNat i)), .val (.long ((f 0 i) &&& ((f 0 i) - (1 : Int64)))), .second, .val (.int (Int32.ofNat 0)), .val (.int (Int32.ofNat (own_cw S i))), sl] [(.int ((Int32.ofNat i) <<< ((6 : Int32) &&& 31)))])) := c155.trans (by
    refine XS.iload XZ.here hx rfl (hb hby own_dn2144) rfl ?_
    show Steps _ _ _ (.setTop _ (mkF _ 146 _ _)) _
    refine XS.ifYes XZ.here hx rfl (pc0 := 146) (pc' := 164) rfl (hb hby own_dn2146) rfl ((if0 _ _).trans (flt (show ¬ (0 : Int32) < Int32.ofNat 0 by decide)).2.2.2) (by decide) (by decide) ?_
    show Steps _ _ _ (.setTop _ (mkF _ 164 _ _)) _
    refine XS.iload XZ.here hx rfl (hb hby own_dn2164) rfl ?_
    show Steps _ _ _ (.setTop _ (mkF _ 166 _ _)) _
    refine XS.bipush XZ.here hx rfl (hb hby own_dn2166) ?_
    show Steps _ _ _ (.setTop _ (mkF _ 168 _ _)) _
    refine XS.ishl XZ.here hx rfl (hb hby own_dn2168) rfl ?_
    exact Steps.refl _)
   rw [own_shl6 (show i < 2 ^ 24 by omega)] at c158
   have c159 : Steps p.tables e below S0 (Tz.setTop (mkF m 171 #[.val (.ref ps), .val (.int (0 : Int32)), .val (.int (Int32.ofNat n)), .val (.ref (ls 0)), .val (.int (Int32.ofNat i)), .val (.long ((f 0 i) &&& ((f 0 i) - (1 : Int64)))), .second, .val (.int (Int32.ofNat 0)), .val (.int (Int32.ofNat (own_cw S i))), sl] [(.long ((f 0 i) &&& ((f 0 i) - (1 : Int64)))), (.int (Int32.ofNat (64 * i)))])) := c158.trans (by
    refine XS.lload XZ.here hx rfl (hb hby own_dn2169) rfl ?_
    exact Steps.refl _)
   obtain ⟨_, _, ⟨T160, L160, k160, n160⟩, -, X160, ⟨Lc160, hQ160, l160, y160, z160⟩, st160⟩ := Jvm.LawKit.callS XZ hx (y := (⟨"java/lang/Long", "numberOfTrailingZeros", "(J)I"⟩ : MethodName)) hown (mvT hZ (hw _ (own_m 62 rfl))) (mvT hZ (hw _ (own_m 63 rfl))) (mvT hZ (hw _ (own_m 64 rfl))) (mvT hZ (hw _ (own_m 65 rfl))) (by decide) (backOf (W := 1) (own_ntL l Z a0 hw [] (f 0 i &&& (f 0 i - 1)) h0 n0 Z0) hZ (hw _ (own_m 65 rfl)) (hw _ (own_m 64 rfl)) (Nat.le_of_ble_eq_true rfl) (Nat.le_of_ble_eq_true rfl)) (g := (mkF m 171 #[.val (.ref ps), .val (.int (0 : Int32)), .val (.int (Int32.ofNat n)), .val (.ref (ls 0)), .val (.int (Int32.ofNat i)), .val (.long ((f 0 i) &&& ((f 0 i) - (1 : Int64)))), .second, .val (.int (Int32.ofNat 0)), .val (.int (Int32.ofNat (own_cw S i))), sl] [(.long ((f 0 i) &&& ((f 0 i) - (1 : Int64)))), (.int (Int32.ofNat (64 * i)))])) rfl (by rw [hml]; rfl) (argsL := [(.long ((f 0 i) &&& ((f 0 i) - (1 : Int64))))]) (rest := [(.int (Int32.ofNat (64 * i)))]) (lenOf own_pd6 rfl) rfl (by show 2 * 0 + _ ≤ _; exact Nat.le_of_eq rfl) (hb hby own_dn2171) (fun _ _ => ⟨rfl, eZ, (Nat.le_of_ble_eq_true rfl), (Nat.le_of_ble_eq_true rfl)⟩)
   dsimp only [Pt.U, Pt.locs, Pt.cells, Pt.slots] at X160 l160 y160 z160 st160 hQ160
   subst l160 y160 z160
   obtain ⟨rfl, N160q, en⟩ := hQ160
   have N160 := Fr.app NZ N160q
   have c162 : Steps p.tables e below S0 (T160.setTop (mkF m 175 #[.val (.ref ps), .val (.int (0 : Int32)), .val (.int (Int32.ofNat n)), .val (.ref (ls 0)), .val (.int (Int32.ofNat i)), .val (.long ((f 0 i) &&& ((f 0 i) - (1 : Int64)))), .second, .val (.int (Int32.ofNat 0)), .val (.int (Int32.ofNat (own_cw S i))), sl] [(.int ((Int32.ofNat (64 * i)) + (own_nt64 (f 0 i &&& (f 0 i - 1)))))])) := c159.trans (by
    refine st160 _ ?_
    show Steps _ _ _ (.setTop _ (mkF _ 174 _ _)) _
    refine XS.iadd X160.here hx rfl (hb hby own_dn2174) rfl ?_
    exact Steps.refl _)
   rw [own_nt_of hk64 hb1 hb2] at c162
   obtain ⟨fs, hr, hrun, hended, hW, hsame⟩ := X160.leave (v := some (.int (Int32.ofNat (64 * i + k)))) (fun h => by rw [Bd.returns] at h; cases h)
   exact ⟨_, _, c162.trans (retOut X160 hx (t := .int) (i := .ireturn) Bd.returns rfl (Or.inl ⟨rfl, Or.inl rfl, _, rfl⟩) (hb hby own_dn2175) hr), hrun, hended, _, _, rfl, ⟨⟨_, rfl, hR⟩, N160, en⟩, ⟨_, rfl⟩, hW, hsame.mono (by decide) (by decide)⟩
/-! I. the meaning, kept by growing, adding, removing -/
def own_CNT (S : List Nat) (M : Nat) (g : Nat → Int32) : Prop := ∀ b, b < M → g b = Int32.ofNat (own_cc S b)
theorem own_dv_congr {p q m : Nat} (h : own_dv p m = own_dv q m) : ∀ {l}, m ≤ l → own_dv p l = own_dv q l := by
 intro l hl
 obtain ⟨d, rfl⟩ := Nat.exists_eq_add_of_le hl
 induction d with
 | zero => exact h
 | succ d ih => show own_dv p (m + d) / 64 = own_dv q (m + d) / 64; rw [ih (by omega)]
section
variable {S S' : List Nat} {K : Nat} {N : Nat → Nat} {M : Nat} {f : Nat → Nat → Int64} {g : Nat → Int32} {pl m : Nat}
theorem own_dv_top (SH : own_SH K N M) (E : own_SEM S K N f) {p : Nat} (hp : p ∈ S) {l : Nat} (hl : K ≤ l) : own_dv p l = 0 := by
 obtain ⟨d, rfl⟩ := Nat.exists_eq_add_of_le hl
 have h1 := SH.1
 induction d with
 | zero =>
  have h2 := own_dvlt SH E (L := K - 1) (by omega) hp
  rw [SH.2.2.2.1 (K - 1) (by omega), SH.2.2.2.2.2.2, show K - 1 + 1 = K by omega] at h2
  show own_dv p K = 0; omega
 | succ d ih => show own_dv p (K + d) / 64 = 0; rw [ih (by omega)]
theorem own_fg_sem (SH : own_SH K N M) (E : own_SEM S K N f) : ∀ l i k, k < 64 → (own_tb (own_fg K N f l i) k = true ↔ ∃ p, p ∈ S ∧ own_dv p l = 64 * i + k) := by
 have h1 := SH.1
 have low : ∀ l, l < K → ∀ i k, k < 64 → (own_tb (if i < N l then f l i else 0) k = true ↔ ∃ p, p ∈ S ∧ own_dv p l = 64 * i + k) := by
  intro l hl i k hk
  by_cases c : i < N l
  ·rw [if_pos c]; exact E.2 l hl i c k hk
  ·rw [if_neg c, own_tb_zero]
   constructor
   ·intro q; cases q
   ·rintro ⟨p, hp, e⟩
    have h2 : own_dv p l / 64 < N l := own_dvlt SH E hl hp
    exact absurd h2 (by omega)
 intro l
 induction l with
 | zero => exact low 0 h1
 | succ l ih =>
  intro i k hk
  by_cases hl : l + 1 < K
  ·rw [show own_fg K N f (l + 1) i = (if i < N (l + 1) then f (l + 1) i else 0) by simp only [own_fg, if_pos hl]]; exact low (l + 1) hl i k hk
  ·rw [show own_fg K N f (l + 1) i = (if i = 0 then (if own_fg K N f l 0 = 0 then 0 else 1) else 0) by simp only [own_fg, if_neg hl]]
   have top : ∀ p, p ∈ S → own_dv p (l + 1) = 0 := fun p hp => own_dv_top SH E hp (by omega)
   by_cases hi : i = 0
   ·subst hi
    rw [if_pos rfl]
    by_cases hz : own_fg K N f l 0 = 0
    ·rw [if_pos hz, own_tb_zero]
     constructor
     ·intro q; cases q
     ·rintro ⟨p, hp, -⟩
      have t : own_dv p l / 64 = 0 := top p hp
      have b := (ih 0 (own_dv p l) (by omega)).mpr ⟨p, hp, by omega⟩
      rw [hz, own_tb_zero] at b; cases b
    ·rw [if_neg hz]
     have one : own_tb 1 k = decide (k = 0) := by
      have := own_tb_bit (e := 0) (k := k) (by decide) hk
      rw [show own_bit 0 = 1 by decide] at this; exact this
     rw [one, decide_eq_true_eq]
     constructor
     ·rintro rfl
      obtain ⟨k2, h2, b2⟩ := own_tb_ne hz
      obtain ⟨p, hp, -⟩ := (ih 0 k2 h2).mp b2
      exact ⟨p, hp, by rw [top p hp]⟩
     ·rintro ⟨p, hp, e⟩; rw [top p hp] at e; omega
   ·rw [if_neg hi, own_tb_zero]
    constructor
    ·intro q; cases q
    ·rintro ⟨p, hp, e⟩; rw [top p hp] at e; omega
theorem own_GR_SEM {en K' M' : Nat} {N' : Nat → Nat} {f' : Nat → Nat → Int64} {g' : Nat → Int32} (SH : own_SH K N M) (G : own_GR en K N f M g K' N' f' M' g') (E : own_SEM S K N f) (C : own_CNT S M g) : own_SEM S K' N' f' ∧ own_CNT S M' g' := by
 rcases G with ⟨a, rfl, rfl, rfl, rfl, rfl⟩ | ⟨a, b, c, d, e, e2⟩
 ·exact ⟨E, C⟩
 ·subst b c d e e2
  refine ⟨⟨fun p hp => ?_, fun l _ i _ k hk => own_fg_sem SH E l i k hk⟩, fun b hb => ?_⟩
  ·have h1 := E.1 p hp
   have h2 : N 0 ≤ own_it (own_gr en (N 0)) 0 := by show N 0 ≤ own_gr en (N 0); unfold own_gr; split <;> omega
   omega
  ·show (if b < M then g b else 0) = _
   by_cases c : b < M
   ·rw [if_pos c]; exact C b c
   ·rw [if_neg c]
    have z : own_cc S b = 0 := List.countP_eq_zero.mpr (fun p hp => by
     have h1 := E.1 p hp
     have h2 := own_wf_lt (x := p / 64) (n := N 0) (by omega)
     rw [SH.2.2.1] at c
     simp only [decide_eq_true_eq]; omega)
    rw [z]; rfl
theorem own_fa_SEM (SH : own_SH K N M) (E : own_SEM S K N f) (hp : pl < 64 * N 0) (hm : m ≤ K) (hs : m = K ∨ (0 < m ∧ ¬ f (m - 1) (own_dv pl m) = 0)) : own_SEM (pl :: S) K N (own_fa f pl m) := by
 refine ⟨fun p h => ?_, fun l hl i hi k hk => ?_⟩
 ·rcases List.mem_cons.mp h with rfl | h
  ·exact hp
  ·exact E.1 p h
 ·have base := E.2 l hl i hi k hk
  have ex : (∃ p, p ∈ pl :: S ∧ own_dv p l = 64 * i + k) ↔ (own_dv pl l = 64 * i + k ∨ ∃ p, p ∈ S ∧ own_dv p l = 64 * i + k) := by
   constructor
   ·rintro ⟨p, h, e⟩
    rcases List.mem_cons.mp h with rfl | h
    ·exact Or.inl e
    ·exact Or.inr ⟨p, h, e⟩
   ·rintro (e | ⟨p, h, e⟩)
    ·exact ⟨pl, List.mem_cons_self, e⟩
    ·exact ⟨p, List.mem_cons_of_mem _ h, e⟩
  rw [ex, ← base]
  have dd : own_dv pl (l + 1) = own_dv pl l / 64 := rfl
  unfold own_fa
  by_cases c : l < m ∧ i = own_dv pl (l + 1)
  ·rw [if_pos c, own_tb_or, Bool.or_eq_true, own_tb_bit (by omega) hk, decide_eq_true_eq]
   constructor
   ·rintro (q | q)
    ·exact Or.inr q
    ·left; omega
   ·rintro (q | q)
    ·right; omega
    ·exact Or.inl q
  ·rw [if_neg c]
   constructor
   ·exact Or.inr
   ·rintro (q | q)
    ·by_cases c2 : l < m
     ·exact absurd ⟨c2, by omega⟩ c
     ·rcases hs with rfl | ⟨h0, hz⟩
      ·exact absurd hl c2
      ·obtain ⟨k2, hk2, b2⟩ := own_tb_ne hz
       have hi2 : own_dv pl m < N (m - 1) := by rw [SH.2.2.2.1 (m - 1) (by omega)]; have := own_idx hp (m - 1); rwa [show m - 1 + 1 = m by omega] at this
       obtain ⟨p, hpS, e⟩ := (E.2 (m - 1) (by omega) _ hi2 k2 hk2).mp b2
       have e2 : own_dv p m = own_dv pl m := by
        obtain ⟨m', rfl⟩ : ∃ m', m = m' + 1 := ⟨m - 1, by omega⟩
        rw [show m' + 1 - 1 = m' by omega] at e
        show own_dv p m' / 64 = _; omega
       rw [base]; exact ⟨p, hpS, by rw [own_dv_congr e2 (by omega)]; exact q⟩
    ·exact q
theorem own_fa_CNT (C : own_CNT S M g) : own_CNT (pl :: S) M (fun b => if b = pl / 4096 then g b + 1 else g b) := by
 intro b hb
 show (if b = pl / 4096 then g b + 1 else g b) = _
 unfold own_cc
 rw [List.countP_cons]
 by_cases c : b = pl / 4096
 ·rw [if_pos c, C b hb, if_pos (decide_eq_true c.symm)]; exact own_iadd (j := 1)
 ·rw [if_neg c, C b hb, if_neg (by simp only [decide_eq_true_eq]; exact fun q => c q.symm)]; rfl
theorem own_fr_SEM (SH : own_SH K N M) (E : own_SEM S K N f) (hP : S.Perm (pl :: S')) (hD : S.Nodup) (hm : m ≤ K) (hs : m = K ∨ (0 < m ∧ ¬ (f (m - 1) (own_dv pl m) &&& (own_bit (own_dv pl (m - 1) % 64) ^^^ (-1))) = 0))
  (hz : ∀ j, j + 1 < m → (f j (own_dv pl (j + 1)) &&& (own_bit (own_dv pl j % 64) ^^^ (-1))) = 0) : own_SEM S' K N (own_fr f pl m) := by
 have hpS : pl ∈ S := hP.mem_iff.mpr List.mem_cons_self
 have hp := E.1 pl hpS
 have hD' : (pl :: S').Nodup := hP.nodup_iff.mp hD
 have hpn : pl ∉ S' := (List.nodup_cons.mp hD').1
 have mem : ∀ p, p ∈ S' ↔ p ∈ S ∧ p ≠ pl := by
  intro p
  rw [hP.mem_iff, List.mem_cons]
  constructor
  ·intro h; exact ⟨Or.inr h, fun q => hpn (q ▸ h)⟩
  ·rintro ⟨h | h, n⟩
   ·exact absurd h n
   ·exact h
 have ix : ∀ l, l < K → own_dv pl (l + 1) < N l := fun l hl => by rw [SH.2.2.2.1 l hl]; exact own_idx hp l
 have clr : ∀ (l : Nat) {k : Nat}, k < 64 → own_tb (f l (own_dv pl (l + 1)) &&& (own_bit (own_dv pl l % 64) ^^^ (-1))) k = (own_tb (f l (own_dv pl (l + 1))) k && !decide (k = own_dv pl l % 64)) := fun l k hk => by
  rw [own_tb_and, own_tb_not _ hk, own_tb_bit (by omega) hk]
 have same : ∀ l, l < m → ∀ p, p ∈ S → own_dv p l = own_dv pl l → p = pl := by
  intro l
  induction l with
  | zero => intro _ p _ e; exact e
  | succ j ih =>
   intro hj p hpp e
   apply ih (by omega) p hpp
   have dj : own_dv p j / 64 = own_dv pl j / 64 := e
   apply Classical.byContradiction
   intro n
   have b := (E.2 j (by omega) _ (ix j (by omega)) (own_dv p j % 64) (by omega)).mpr ⟨p, hpp, by show own_dv p j = 64 * (own_dv pl j / 64) + _; omega⟩
   have t := clr j (k := own_dv p j % 64) (by omega)
   have n2 : ¬ own_dv p j % 64 = own_dv pl j % 64 := fun q => n (by omega)
   rw [hz j hj, own_tb_zero, b] at t
   simp [n2] at t
 refine ⟨fun p h => E.1 p ((mem p).mp h).1, fun l hl i hi k hk => ?_⟩
 have base := E.2 l hl i hi k hk
 have dd : own_dv pl (l + 1) = own_dv pl l / 64 := rfl
 unfold own_fr
 by_cases c : l < m ∧ i = own_dv pl (l + 1)
 ·rw [if_pos c]
  obtain ⟨c1, rfl⟩ := c
  rw [clr l hk, Bool.and_eq_true, base]
  constructor
  ·rintro ⟨⟨p, h1, h2⟩, h3⟩
   refine ⟨p, (mem p).mpr ⟨h1, ?_⟩, h2⟩
   rintro rfl
   have h4 : ¬ k = own_dv p l % 64 := by simpa using h3
   omega
  ·rintro ⟨p, h1, h2⟩
   obtain ⟨h3, h4⟩ := (mem p).mp h1
   refine ⟨⟨p, h3, h2⟩, ?_⟩
   have h5 : ¬ k = own_dv pl l % 64 := fun q => h4 (same l c1 p h3 (by omega))
   simpa using h5
 ·rw [if_neg c, base]
  constructor
  ·rintro ⟨p, h1, h2⟩
   by_cases q : p = pl
   ·subst q
    by_cases c2 : l < m
    ·exact absurd ⟨c2, by omega⟩ c
    ·rcases hs with rfl | ⟨h0, hn⟩
     ·exact absurd hl c2
     ·obtain ⟨k2, hk2, b2⟩ := own_tb_ne hn
      obtain ⟨m', rfl⟩ : ∃ m', m = m' + 1 := ⟨m - 1, by omega⟩
      rw [show m' + 1 - 1 = m' by omega] at b2
      rw [clr m' hk2, Bool.and_eq_true] at b2
      obtain ⟨p2, h3, h4⟩ := (E.2 m' (by omega) _ (ix m' (by omega)) k2 hk2).mp b2.1
      have n2 : ¬ k2 = own_dv p m' % 64 := by simpa using b2.2
      have dm : own_dv p (m' + 1) = own_dv p m' / 64 := rfl
      have e2 : own_dv p2 (m' + 1) = own_dv p (m' + 1) := by show own_dv p2 m' / 64 = _; omega
      refine ⟨p2, (mem p2).mpr ⟨h3, ?_⟩, by rw [own_dv_congr e2 (by omega)]; exact h2⟩
      rintro rfl
      omega
   ·exact ⟨p, (mem p).mpr ⟨h1, q⟩, h2⟩
  ·rintro ⟨p, h1, h2⟩; exact ⟨p, ((mem p).mp h1).1, h2⟩
theorem own_fr_CNT (C : own_CNT S M g) (hP : S.Perm (pl :: S')) : own_CNT S' M (fun b => if b = pl / 4096 then g b - 1 else g b) := by
 intro b hb
 show (if b = pl / 4096 then g b - 1 else g b) = _
 have e : own_cc S b = own_cc (pl :: S') b := hP.countP_eq _
 have e2 : own_cc (pl :: S') b = own_cc S' b + if decide (pl / 4096 = b) = true then 1 else 0 := List.countP_cons
 rw [C b hb, e, e2]
 by_cases c : b = pl / 4096
 ·rw [if_pos c, if_pos (decide_eq_true c.symm)]; exact (own_isub (i := own_cc S' b + 1) (j := 1) (by omega)).trans (by rw [Nat.add_sub_cancel])
 ·rw [if_neg c, if_neg (by simp only [decide_eq_true_eq]; exact fun q => c q.symm)]; rfl
end

/-! J. the law's own reckoning -/
theorem own_Fr_mono {k k' : Nat} {L : List Loc} (h : k ≤ k') (F : Fr k' L) : Fr k L := fun y q => Nat.le_trans h (F y q)
section
variable {Z : State} {k : Nat} {h h' : Heap} {a : Addr} {n : Nat}
theorem own_Arr_kb {cl : Cell} {ty : FieldType} (A : Arr Z h a cl ty) (K : own_Kb k h h') (q : a < k) : Arr Z h' a cl ty := ⟨K.2 a cl q A.1, A.2⟩
theorem own_Exa_kb {C : String} (A : Exa Z h a C) (K : own_Kb k h h') (q : a < k) : Exa Z h' a C := by
 obtain ⟨cl, kk, h1, r⟩ := A
 exact ⟨cl, kk, K.2 a cl q h1, r⟩
theorem own_IA.kb {f : Nat → Int32} (F : own_IA Z h a n f) (K : own_Kb k h h') (q : a < k) : own_IA Z h' a n f := by obtain ⟨cl, A, B, r⟩ := F; exact ⟨cl, own_Arr_kb A K q, own_Exa_kb B K q, r⟩
theorem own_ZA.kb {f : Nat → Int32} (F : own_ZA Z h a n f) (K : own_Kb k h h') (q : a < k) : own_ZA Z h' a n f := by obtain ⟨cl, A, r⟩ := F; exact ⟨cl, own_Arr_kb A K q, r⟩
theorem own_PS.otherZ {n0 : Nat} {ps lv bc : Addr} {K : Nat} {ls : Nat → Addr} {N : Nat → Nat} {f : Nat → Nat → Int64} {M : Nat} {g : Nat → Int32} (P : own_PS Z n0 h ps lv bc K ls N f M g) {cl : Cell} (A : Arr Z h a cl .boolean) (hne : ps ≠ a) {j : Nat} {v : Value} (W : Wr h h' a j v) : own_PS Z n0 h' ps lv bc K ls N f M g := by
 obtain ⟨p1, p2, p3, p4, p5, p6, p7⟩ := P
 have q4 := p4
 have q6 := p6
 obtain ⟨cR, AR, -⟩ := q4
 obtain ⟨cI, AI, -⟩ := q6
 exact ⟨p1.wr W, p2.other W (Or.inl hne), p3.other W (Or.inl hne), p4.other W (own_ty_ne AR A (by decide)), fun l hl => by
  have q5 := p5 l hl
  have q5' := q5
  obtain ⟨cL, AL, -⟩ := q5'
  exact q5.other W (own_ty_ne AL A (by decide)), p6.other W (own_ty_ne AI A (by decide)), p7⟩
end
theorem own_of31 {y : Int32} (h : 0 ≤ y.toInt) : y = Int32.ofNat y.toInt.toNat := by
 apply Int32.toInt_inj.mp
 have := y.toInt_lt
 rw [own_toInt (by omega)]; omega
theorem own_m18 (x : Int32) : ∃ n, n < 262144 ∧ (x &&& 262143) = Int32.ofNat n := by
 have e : (x &&& 262143).toInt = x.toInt % 2 ^ 18 := Jvm.Kit.i32_mask x 262143 (k := 18) (by decide) (by decide)
 exact ⟨_, by omega, own_of31 (by omega)⟩
theorem own_m12 (x : Int32) : ∃ n, n < 262144 ∧ (x &&& 4095) = Int32.ofNat n := by
 have e : (x &&& 4095).toInt = x.toInt % 2 ^ 12 := Jvm.Kit.i32_mask x 4095 (k := 12) (by decide) (by decide)
 exact ⟨_, by omega, own_of31 (by omega)⟩
theorem own_m6 (x : Int32) : ∃ n, n < 262144 ∧ (x &&& 63) = Int32.ofNat n := by
 have e : (x &&& 63).toInt = x.toInt % 2 ^ 6 := Jvm.Kit.i32_mask x 63 (k := 6) (by decide) (by decide)
 exact ⟨_, by omega, own_of31 (by omega)⟩
theorem own_m3 (x : Int32) : ∃ n, n < 8 ∧ (x &&& 7) = Int32.ofNat n := by
 have e : (x &&& 7).toInt = x.toInt % 2 ^ 3 := Jvm.Kit.i32_mask x 7 (k := 3) (by decide) (by decide)
 exact ⟨_, by omega, own_of31 (by omega)⟩
theorem own_m2 (x : Int32) : ∃ n, n < 4 ∧ (x &&& 3) = Int32.ofNat n := by
 have e : (x &&& 3).toInt = x.toInt % 2 ^ 2 := Jvm.Kit.i32_mask x 3 (k := 2) (by decide) (by decide)
 exact ⟨_, by omega, own_of31 (by omega)⟩
theorem own_m31 (x : Int32) : ∃ n, n < 2 ^ 31 ∧ (x &&& 2147483647) = Int32.ofNat n := by
 have e : (x &&& 2147483647).toInt = x.toInt % 2 ^ 31 := Jvm.Kit.i32_mask x 2147483647 (k := 31) (by decide) (by decide)
 exact ⟨_, by omega, own_of31 (by omega)⟩
theorem own_xor {a b : Nat} (ha : a < 262144) (hb : b < 262144) : ∃ n, n < 262144 ∧ (Int32.ofNat a ^^^ Int32.ofNat b) = Int32.ofNat n :=
 ⟨a ^^^ b, Nat.xor_lt_two_pow (n := 18) ha hb, by
  apply Int32.toBitVec_inj.mp
  rw [Int32.toBitVec_xor]
  show BitVec.ofNat 32 a ^^^ BitVec.ofNat 32 b = BitVec.ofNat 32 (a ^^^ b)
  exact BitVec.ofNat_xor.symm⟩
theorem own_x12 {a : Nat} (ha : a < 262144) (x : Int32) : ∃ n, n < 262144 ∧ (Int32.ofNat a ^^^ (x &&& 4095)) = Int32.ofNat n := by
 obtain ⟨n, h1, h2⟩ := own_m12 x
 rw [h2]; exact own_xor ha h1
theorem own_x6 {a : Nat} (ha : a < 262144) (x : Int32) : ∃ n, n < 262144 ∧ (Int32.ofNat a ^^^ (x &&& 63)) = Int32.ofNat n := by
 obtain ⟨n, h1, h2⟩ := own_m6 x
 rw [h2]; exact own_xor ha h1
theorem own_id6 (x : Int32) : ∃ n, n < 6 ∧ ((x &&& 7) % 6) = Int32.ofNat n := by
 obtain ⟨n, h1, h2⟩ := own_m3 x
 rw [h2]
 have t : ∀ n : Fin 8, (Int32.ofNat n.1 % 6) = Int32.ofNat (n.1 % 6) := by decide
 exact ⟨n % 6, by omega, t ⟨n, h1⟩⟩
theorem own_kk (x : Int32) : 1 + (x &&& 3) % 3 = 1 ∨ 1 + (x &&& 3) % 3 = 2 ∨ 1 + (x &&& 3) % 3 = 3 := by
 obtain ⟨n, h1, h2⟩ := own_m2 x
 rw [h2]
 have t : ∀ n : Fin 4, 1 + (Int32.ofNat n.1 % 3) = 1 ∨ 1 + (Int32.ofNat n.1 % 3) = 2 ∨ 1 + (Int32.ofNat n.1 % 3) = 3 := by decide
 exact t ⟨n, h1⟩
theorem own_nm1 {n : Nat} (h : n < 2 ^ 31) : ¬ Int32.ofNat n = -1 := fun q => by
 have := congrArg Int32.toInt q
 rw [own_toInt h] at this
 have z : (-1 : Int32).toInt = -1 := by decide
 omega
theorem own_IsN_congr {S S' : List Nat} {q : Nat} {r : Int32} (h : ∀ p, p ∈ S ↔ p ∈ S') (H : own_IsN S q r) : own_IsN S' q r := by
 rcases H with ⟨a, b⟩ | ⟨p, a, b, c, d⟩
 ·exact Or.inl ⟨a, fun p hp => b p ((h p).mpr hp)⟩
 ·exact Or.inr ⟨p, (h p).mp a, b, fun p' hp' => c p' ((h p').mpr hp'), d⟩
theorem own_IsN_uniq {S : List Nat} {q : Nat} {r r' : Int32} (A : own_IsN S q r) (B : own_IsN S q r') : r = r' := by
 rcases A with ⟨a, b⟩ | ⟨p, a, b, c, d⟩
 ·rcases B with ⟨a', -⟩ | ⟨p', a', b', -, -⟩
  ·rw [a, a']
  ·exact absurd b' (b p' a')
 ·rcases B with ⟨-, b'⟩ | ⟨p', a', b', c', d'⟩
  ·exact absurd b (b' p a)
  ·have h1 := c p' a' b'
   have h2 := c' p a b
   rw [d, d', show p = p' by omega]
theorem own_tk_isN {S : List Nat} {q p : Nat} {b h : Int32} (H : own_IsN S q b) (hS : ∀ p, p ∈ S → p < 2 ^ 31) (hp : p < 2 ^ 31) (hq : q < 2 ^ 31) : own_IsN (if h = 0 then S else p :: S) q (own_tk b h (Int32.ofNat p) (Int32.ofNat q)) := by
 unfold own_tk
 by_cases c : h = 0
 ·rw [if_pos c, if_pos c]; exact H
 ·rw [if_neg c, if_neg c]
  by_cases c2 : p < q
  ·rw [if_pos ((own_ilt hp hq).mpr c2)]
   rcases H with ⟨a, b⟩ | ⟨p0, a, b, d, e⟩
   ·refine Or.inl ⟨a, fun x hx => ?_⟩
    rcases List.mem_cons.mp hx with rfl | hx
    ·omega
    ·exact b x hx
   ·refine Or.inr ⟨p0, List.mem_cons_of_mem _ a, b, fun x hx hx2 => ?_, e⟩
    rcases List.mem_cons.mp hx with rfl | hx
    ·omega
    ·exact d x hx hx2
  ·rw [if_neg (fun z => c2 ((own_ilt hp hq).mp z))]
   rcases H with ⟨a, b⟩ | ⟨p0, a, b, d, e⟩
   ·rw [if_pos a]
    refine Or.inr ⟨p, List.mem_cons_self, by omega, fun x hx hx2 => ?_, rfl⟩
    rcases List.mem_cons.mp hx with rfl | hx
    ·exact Nat.le_refl _
    ·exact absurd hx2 (b x hx)
   ·have h0 := hS p0 a
    rw [e, if_neg (own_nm1 h0)]
    by_cases c3 : p < p0
    ·rw [if_pos ((own_ilt hp h0).mpr c3)]
     refine Or.inr ⟨p, List.mem_cons_self, by omega, fun x hx hx2 => ?_, rfl⟩
     rcases List.mem_cons.mp hx with rfl | hx
     ·exact Nat.le_refl _
     ·have := d x hx hx2; omega
    ·rw [if_neg (fun z => c3 ((own_ilt hp h0).mp z))]
     refine Or.inr ⟨p0, List.mem_cons_of_mem _ a, b, fun x hx hx2 => ?_, rfl⟩
     rcases List.mem_cons.mp hx with rfl | hx
     ·omega
     ·exact d x hx hx2
def own_H (S : List Nat) (pv : Nat → Nat) (fz : Nat → Int32) : Prop := ∀ p, p ∈ S ↔ ((¬ fz 0 = 0 ∧ p = pv 0) ∨ (¬ fz 1 = 0 ∧ p = pv 1) ∨ (¬ fz 2 = 0 ∧ p = pv 2))
theorem own_rf_isN {S : List Nat} {pv : Nat → Nat} {fa fz : Nat → Int32} {q : Nat} (hH : own_H S pv fz) (hfa : ∀ j, fa j = Int32.ofNat (pv j)) (hpv : ∀ j, pv j < 262144) (hq : q < 2 ^ 31) : own_IsN S q (own_rf fa fz (Int32.ofNat q)) := by
 have b := fun j => Nat.lt_trans (hpv j) (show 262144 < 2 ^ 31 by decide)
 have s0 : own_IsN [] q (-1) := Or.inl ⟨rfl, fun p hp => nomatch hp⟩
 have s1 := own_tk_isN (h := fz 0) s0 (fun p hp => nomatch hp) (b 0) hq
 have m1 : ∀ p, p ∈ (if fz 0 = 0 then [] else [pv 0]) ↔ (¬ fz 0 = 0 ∧ p = pv 0) := fun p => by
  by_cases c : fz 0 = 0 <;> simp [c]
 have s2 := own_tk_isN (h := fz 1) s1 (fun p hp => by rw [((m1 p).mp hp).2]; exact b 0) (b 1) hq
 have m2 : ∀ p, p ∈ (if fz 1 = 0 then (if fz 0 = 0 then [] else [pv 0]) else pv 1 :: (if fz 0 = 0 then [] else [pv 0])) ↔ ((¬ fz 0 = 0 ∧ p = pv 0) ∨ (¬ fz 1 = 0 ∧ p = pv 1)) := fun p => by
  by_cases c : fz 1 = 0
  ·rw [if_pos c, m1 p]; simp [c]
  ·rw [if_neg c, List.mem_cons, m1 p]; simp only [c, not_false_eq_true, true_and]; exact Or.comm
 have s3 := own_tk_isN (h := fz 2) s2 (fun p hp => by rcases (m2 p).mp hp with q | q <;> rw [q.2] <;> exact b _) (b 2) hq
 have m3 : ∀ p, p ∈ (if fz 2 = 0 then (if fz 1 = 0 then (if fz 0 = 0 then [] else [pv 0]) else pv 1 :: (if fz 0 = 0 then [] else [pv 0])) else pv 2 :: (if fz 1 = 0 then (if fz 0 = 0 then [] else [pv 0]) else pv 1 :: (if fz 0 = 0 then [] else [pv 0]))) ↔ p ∈ S := fun p => by
  rw [hH p]
  by_cases c : fz 2 = 0
  ·rw [if_pos c, m2 p]; simp [c]
  ·rw [if_neg c, List.mem_cons, m2 p]; simp only [c, not_false_eq_true, true_and]
   constructor
   ·rintro (q | q | q)
    ·exact Or.inr (Or.inr q)
    ·exact Or.inl q
    ·exact Or.inr (Or.inl q)
   ·rintro (q | q | q)
    ·exact Or.inr (Or.inl q)
    ·exact Or.inr (Or.inr q)
    ·exact Or.inl q
 have := own_IsN_congr m3 s3
 unfold own_rf
 rw [hfa 0, hfa 1, hfa 2]; exact this
def own_PM (o0 o1 o2 : Nat) : Prop := (o0 = 0 ∧ o1 = 1 ∧ o2 = 2) ∨ (o0 = 0 ∧ o1 = 2 ∧ o2 = 1) ∨ (o0 = 1 ∧ o1 = 0 ∧ o2 = 2) ∨ (o0 = 1 ∧ o1 = 2 ∧ o2 = 0) ∨ (o0 = 2 ∧ o1 = 0 ∧ o2 = 1) ∨ (o0 = 2 ∧ o1 = 1 ∧ o2 = 0)
def own_pv (q0 q1 q2 : Nat) (j : Nat) : Nat := if j = 2 then q2 else if j = 1 then q1 else q0
def own_z0 (i : Nat) : Int32 := if i = 2 then 1 else if i = 1 then 1 else if i = 0 then 1 else 0
def own_z1 (o : Nat) (z : Nat → Int32) (i : Nat) : Int32 := if i = o then 0 else z i
theorem own_H1 {o0 o1 o2 q0 q1 q2 : Nat} (h : own_PM o0 o1 o2) : own_H [own_pv q0 q1 q2 o1, own_pv q0 q1 q2 o2] (own_pv q0 q1 q2) (own_z1 o0 own_z0) := by
 intro p
 rcases h with ⟨rfl, rfl, rfl⟩ | ⟨rfl, rfl, rfl⟩ | ⟨rfl, rfl, rfl⟩ | ⟨rfl, rfl, rfl⟩ | ⟨rfl, rfl, rfl⟩ | ⟨rfl, rfl, rfl⟩ <;> simp [own_pv, own_z1, own_z0] <;> exact Or.comm
theorem own_H2 {o0 o1 o2 q0 q1 q2 : Nat} (h : own_PM o0 o1 o2) : own_H [own_pv q0 q1 q2 o2] (own_pv q0 q1 q2) (own_z1 o1 (own_z1 o0 own_z0)) := by
 intro p
 rcases h with ⟨rfl, rfl, rfl⟩ | ⟨rfl, rfl, rfl⟩ | ⟨rfl, rfl, rfl⟩ | ⟨rfl, rfl, rfl⟩ | ⟨rfl, rfl, rfl⟩ | ⟨rfl, rfl, rfl⟩ <;> simp [own_pv, own_z1, own_z0]
theorem own_H3 {o0 o1 o2 q0 q1 q2 : Nat} (h : own_PM o0 o1 o2) : own_H [] (own_pv q0 q1 q2) (own_z1 o2 (own_z1 o1 (own_z1 o0 own_z0))) := by
 intro p
 rcases h with ⟨rfl, rfl, rfl⟩ | ⟨rfl, rfl, rfl⟩ | ⟨rfl, rfl, rfl⟩ | ⟨rfl, rfl, rfl⟩ | ⟨rfl, rfl, rfl⟩ | ⟨rfl, rfl, rfl⟩ <;> simp [own_pv, own_z1, own_z0]
theorem own_perm {o0 o1 o2 q0 q1 q2 : Nat} (h : own_PM o0 o1 o2) : [q2, q1, q0].Perm [own_pv q0 q1 q2 o0, own_pv q0 q1 q2 o1, own_pv q0 q1 q2 o2] := by
 rw [List.perm_iff_count]
 intro a
 rcases h with ⟨rfl, rfl, rfl⟩ | ⟨rfl, rfl, rfl⟩ | ⟨rfl, rfl, rfl⟩ | ⟨rfl, rfl, rfl⟩ | ⟨rfl, rfl, rfl⟩ | ⟨rfl, rfl, rfl⟩ <;> simp only [own_pv, List.count_cons, List.count_nil] <;> simp <;> omega
theorem own_PM_lt {o0 o1 o2 : Nat} (h : own_PM o0 o1 o2) : o0 < 3 ∧ o1 < 3 ∧ o2 < 3 := by unfold own_PM at h; omega
theorem own_pv_lt {q0 q1 q2 : Nat} (h0 : q0 < 262144) (h1 : q1 < 262144) (h2 : q2 < 262144) (j : Nat) : own_pv q0 q1 q2 j < 262144 := by unfold own_pv; split <;> (try split) <;> assumption
def own_NX (S : List Nat) (r1 r2 : Int32) : Prop := (r1 = -1 ∧ r2 = -1) ∨ ∃ p, p < 262144 ∧ r1 = Int32.ofNat p ∧ own_IsN S (p + 1) r2
theorem own_len3 {S : List Nat} {a b c : Nat} (ha : a ∈ S) (hb : b ∈ S) (hc : c ∈ S) (h1 : a < b) (h2 : b < c) : 3 ≤ S.length := by
 match S, ha, hb, hc with
 | [x], ha, hb, hc => simp at ha hb; omega
 | [x, y], ha, hb, hc => simp at ha hb hc; omega
 | x :: y :: z :: t, _, _, _ => simp
theorem own_len2 {S : List Nat} {a b : Nat} (ha : a ∈ S) (hb : b ∈ S) (h1 : a < b) : 2 ≤ S.length := by
 match S, ha, hb with
 | [x], ha, hb => simp at ha hb; omega
 | x :: y :: t, _, _ => simp
theorem own_FIN {S : List Nat} {r1 r2 r3 x y : Int32} (hl : S.length ≤ 2) (hb : ∀ p, p ∈ S → p < 262144) (N1 : own_IsN S 0 r1) (N2 : own_NX S r1 r2) (N3 : own_NX S r2 r3) (R1 : own_R2 S 1 x) (R2 : own_R2 S 2 y) : x = r2 ∧ y = r3 := by
 have inj : ∀ {i j : Nat}, i < 262144 → j < 262144 → Int32.ofNat i = Int32.ofNat j → i = j := fun hi hj e => (own_ieq (by omega) (by omega)).mp e
 -- what r2 is
 have k2 : r2 = -1 ∨ ∃ p1 p2, p1 ∈ S ∧ p2 ∈ S ∧ p1 < p2 ∧ (∀ p, p ∈ S → p1 ≤ p) ∧ (∀ p, p ∈ S → p1 < p → p2 ≤ p) ∧ r2 = Int32.ofNat p2 := by
  rcases N2 with ⟨-, e⟩ | ⟨p, hp, e, n⟩
  ·exact Or.inl e
  ·rcases n with ⟨e2, -⟩ | ⟨p2, m2, l2, c2, e2⟩
   ·exact Or.inl e2
   ·rcases N1 with ⟨e1, -⟩ | ⟨p1, m1, l1, c1, e1⟩
    ·exact absurd (e.symm.trans e1) (own_nm1 (by omega))
    ·have := inj hp (hb p1 m1) (e.symm.trans e1)
     subst this
     exact Or.inr ⟨p, p2, m1, m2, by omega, fun z hz => c1 z hz (Nat.zero_le _), fun z hz h => c2 z hz (by omega), e2⟩
 constructor
 ·rcases R1 with ⟨h1, rfl⟩ | ⟨h1, p, mp, ⟨p', mp', lp⟩, rfl⟩
  ·rcases k2 with e | ⟨p1, p2, m1, m2, l, -⟩
   ·exact e.symm
   ·have := own_len2 m1 m2 l; omega
  ·rcases k2 with e | ⟨p1, p2, m1, m2, l, c1, c2, e⟩
   ·exfalso
    rcases N1 with ⟨-, n1⟩ | ⟨p1, m1, l1, c1, e1⟩
    ·exact n1 p mp (Nat.zero_le _)
    ·rcases N2 with ⟨e2, -⟩ | ⟨p0, hp0, e2, n2⟩
     ·exact own_nm1 (by have := hb p1 m1; omega) (e1.symm.trans e2)
     ·have := inj hp0 (hb p1 m1) (e2.symm.trans e1)
      subst this
      have h3 := c1 p' mp' (Nat.zero_le _)
      rcases n2 with ⟨-, n3⟩ | ⟨p2, m2, l2, -, e4⟩
      ·exact n3 p mp (by omega)
      ·exact own_nm1 (by have := hb p2 m2; omega) (e4.symm.trans e)
   ·rw [e]
    have h3 := c1 p' mp'
    have h4 := c2 p mp (by omega)
    by_cases q : p2 = p
    ·rw [q]
    ·have := own_len3 m1 m2 mp l (by omega); omega
 ·rcases R2 with ⟨-, rfl⟩ | ⟨h1, -⟩
  ·rcases N3 with ⟨-, e⟩ | ⟨p, hp, e, n⟩
   ·exact e.symm
   ·rcases n with ⟨e2, -⟩ | ⟨p3, m3, l3, -, -⟩
    ·exact e2.symm
    ·rcases k2 with e3 | ⟨p1, p2, m1, m2, l, -, -, e3⟩
     ·exact absurd (e.symm.trans e3) (own_nm1 (by omega))
     ·have := inj hp (hb p2 m2) (e.symm.trans e3)
      subst this
      have := own_len3 m1 m2 m3 l (by omega); omega
  ·omega

theorem own_SH0 : own_SH 1 (fun _ => 1) 1 := ⟨by decide, by decide, by decide, fun l hl => by rw [show l = 0 by omega]; rfl, by decide, by decide, by decide⟩
theorem own_SEM0 : own_SEM [] 1 (fun _ => 1) (fun _ _ => 0) := ⟨(fun p hp => nomatch hp), fun l _ i _ k _ => by
 rw [own_tb_zero]
 constructor
 ·intro q; cases q
 ·rintro ⟨p, hp, -⟩; cases hp⟩
theorem own_CNT0 : own_CNT [] 1 (fun _ => 0) := fun _ _ => rfl
theorem own_B1 {pl : Nat} (h : pl < 262144) (_ : 1 < own_wf (pl + 1)) : own_wf (own_gr (pl + 1) 1) + 4 + (own_gr (pl + 1) 1 + 131) ≤ 4300 := by
 have h1 : own_wf (pl + 1) ≤ 4096 := own_wf_le (by omega) (by decide)
 have h2 : own_gr (pl + 1) 1 ≤ 4096 := by unfold own_gr; split <;> omega
 have h3 : own_wf (own_gr (pl + 1) 1) ≤ 64 := own_wf_le (by omega) (by decide)
 omega
theorem own_B2 {pl n : Nat} (h : pl < 262144) (hn : n < own_wf (pl + 1)) : own_wf (own_gr (pl + 1) n) + 4 + (own_gr (pl + 1) n + 131) ≤ 8500 := by
 have h1 : own_wf (pl + 1) ≤ 4096 := own_wf_le (by omega) (by decide)
 have h2 : own_gr (pl + 1) n ≤ 8192 := by unfold own_gr; split <;> omega
 have h3 : own_wf (own_gr (pl + 1) n) ≤ 128 := own_wf_le (by omega) (by decide)
 omega
theorem own_IA3 {Z : State} {h : Heap} {a : Addr} {f f' : Nat → Int32} (F : own_IA Z h a 3 f) (h0 : f 0 = f' 0) (h1 : f 1 = f' 1) (h2 : f 2 = f' 2) : own_IA Z h a 3 f' := by
 obtain ⟨cl, A, B, hs, hv⟩ := F
 refine ⟨cl, A, B, hs, fun i hi => ?_⟩
 rw [hv i hi]
 rcases (show i = 0 ∨ i = 1 ∨ i = 2 by omega) with rfl | rfl | rfl
 ·rw [h0]
 ·rw [h1]
 ·rw [h2]
theorem own_ZA3 {Z : State} {h : Heap} {a : Addr} {f f' : Nat → Int32} (F : own_ZA Z h a 3 f) (h0 : f 0 = f' 0) (h1 : f 1 = f' 1) (h2 : f 2 = f' 2) : own_ZA Z h a 3 f' := by
 obtain ⟨cl, A, hs, hv⟩ := F
 refine ⟨cl, A, hs, fun i hi => ?_⟩
 rw [hv i hi]
 rcases (show i = 0 ∨ i = 1 ∨ i = 2 by omega) with rfl | rfl | rfl
 ·rw [h0]
 ·rw [h1]
 ·rw [h2]
theorem own_IsN_ne {S : List Nat} {q : Nat} {r : Int32} (H : own_IsN S q r) (h : ¬ r = -1) : ∃ p, p ∈ S ∧ r = Int32.ofNat p := by
 rcases H with ⟨a, -⟩ | ⟨p, a, -, -, d⟩
 ·exact absurd a h
 ·exact ⟨p, a, d⟩
theorem own_NX_ne {S : List Nat} {r1 r2 : Int32} (H : own_NX S r1 r2) (h : ¬ r2 = -1) : ∃ p, p ∈ S ∧ r2 = Int32.ofNat p := by
 rcases H with ⟨-, a⟩ | ⟨p, -, -, n⟩
 ·exact absurd a h
 ·exact own_IsN_ne n h
theorem own_nd3 {q0 q1 q2 : Nat} (h01 : ¬ Int32.ofNat q0 = Int32.ofNat q1) (h02 : ¬ Int32.ofNat q0 = Int32.ofNat q2) (h12 : ¬ Int32.ofNat q1 = Int32.ofNat q2) : [q2, q1, q0].Nodup := by
 have a : q0 ≠ q1 := fun e => h01 (by rw [e])
 have b : q0 ≠ q2 := fun e => h02 (by rw [e])
 have d : q1 ≠ q2 := fun e => h12 (by rw [e])
 simp only [List.nodup_cons, List.mem_cons, List.not_mem_nil, or_false, not_or, List.nodup_nil, and_true, not_false_eq_true]
 exact ⟨⟨Ne.symm d, Ne.symm b⟩, Ne.symm a⟩

theorem own_law_pn : plainName "com/example/coersa/coersa/PlaceSetRemovePinLaw" = true := by first | (simp [plainName, overriddenIn]; done) | decide +kernel
theorem own_law_ef (m : MethodId) (xa : Int32) (xb : Int32) (xc : Int32) (xq : Int32) (xm : Int32) : entryFrame m #[(.int xa), (.int xb), (.int xc), (.int xq), (.int xm)] maxLocals = mkF m 0 #[.val (.int xa), .val (.int xb), .val (.int xc), .val (.int xq), .val (.int xm), .unset, .unset, .unset, .unset, .unset, .unset, .unset, .unset, .unset, .unset, .unset, .unset, .unset, .unset, .unset, .unset, .unset] [] := by first | (simp [entryFrame, mkF, argsToLocals, Value.category, maxLocals]; done) | rfl
def own_law_Q (Z : State) (xa : Int32) (xb : Int32) (xc : Int32) (xq : Int32) (xm : Int32) (h0 : Heap) (n0 : Nat) (v : Option Value) (h : Heap) (L : List Loc) : Prop := v = some (.int 1) ∧ Fr n0 L
set_option maxRecDepth 65536 in
set_option maxHeartbeats 40000000 in
theorem own_law (l : Launch) (Z : State) (a0 : Array Value) (hw : ∀ d ∈ tables_1, d.before a0 Z = true) (ws : List Jvm.Cond) (xa : Int32) (xb : Int32) (xc : Int32) (xq : Int32) (xm : Int32) (h0 : Heap) (n0 : Nat) (Z0 : n0 ≤ h0.size) :
  MetFree l x (head1 (Jvm.Cond.code x code maxLocals ret :: ws) room_1) (fun ars U => ars = #[(.int xa), (.int xb), (.int xc), (.int xq), (.int xm)] ∧ Z.Warmed39 U.vm ∧ U.heap = h0) (fun _ _ _ _ _ => True) (fun _ U o U' => ∃ v L, o = .returned v ∧ own_law_Q Z xa xb xc xq xm  h0 n0 v U'.heap L ∧ FrameEnd U o U' L 31 21335) := by
 refine MetFree.of_bodySF (plainFor_of_name own_law_pn) hisR ?_
 intro p e s m args below meth c s₁ Bd hml0 hP hK
 obtain ⟨rfl, hZ, hh⟩ := hP
 have hx := Bd.exec
 have hby := Bd.bytes
 have hml : c.maxLocals = 22 := hml0
 have hown : s.vm.findClass "com/example/coersa/coersa/PlaceSetRemovePinLaw" = some m.cls := findClass_of_methodNamed Bd.named
 have hnm := (name_of_methodNamed Bd.named Bd.method).1
 have X0 : Stand p l e room_1 s m #[(.int xa), (.int xb), (.int xc), (.int xq), (.int xm)] below meth c s₁ [] 0 0 := Stand.of_body Bd
 have e0 : s₁.heap = h0 := by rw [← hh, Bd.state]; rfl
 have N0 := Fr.nil n0
 generalize hS0 : s₁.setTop (entryFrame m #[(.int xa), (.int xb), (.int xc), (.int xq), (.int xm)] maxLocals) = S0
 have c0 : Steps p.tables e below S0 (s₁.setTop (mkF m 0 #[.val (.int xa), .val (.int xb), .val (.int xc), .val (.int xq), .val (.int xm), .unset, .unset, .unset, .unset, .unset, .unset, .unset, .unset, .unset, .unset, .unset, .unset, .unset, .unset, .unset, .unset, .unset] [])) := by rw [← hS0]; exact castTop (own_law_ef m xa xb xc xq xm) (Steps.refl _)
 have K0 : Keep h0 h0 [] := Keep.refl _ _
 have c1 : Steps p.tables e below S0 (s₁.setTop (mkF m 4 #[.val (.int xa), .val (.int xb), .val (.int xc), .val (.int xq), .val (.int xm), .unset, .unset, .unset, .unset, .unset, .unset, .unset, .unset, .unset, .unset, .unset, .unset, .unset, .unset, .unset, .unset, .unset] [(.int (xa &&& (262143 : Int32)))])) := c0.trans (by
  refine XS.iloadN X0.here hx rfl (hb hby at_0) rfl ?_
  show Steps _ _ _ (.setTop _ (mkF _ 1 _ _)) _
  refine X0.ldcInt hx hown (mvT hZ (hw _ (own_m 0 rfl))) (g := (mkF m 1 #[.val (.int xa), .val (.int xb), .val (.int xc), .val (.int xq), .val (.int xm), .unset, .unset, .unset, .unset, .unset, .unset, .unset, .unset, .unset, .unset, .unset, .unset, .unset, .unset, .unset, .unset, .unset] [(.int xa)])) rfl (hb hby at_1) _ ?_
  show Steps _ _ _ (.setTop _ (mkF _ 3 _ _)) _
  refine XS.iand X0.here hx rfl (hb hby at_3) rfl ?_
  exact Steps.refl _)
 obtain ⟨q0, hq0, eq0⟩ := own_m18 xa
 rw [eq0] at c1
 have c2 : Steps p.tables e below S0 (s₁.setTop (mkF m 10 #[.val (.int xa), .val (.int xb), .val (.int xc), .val (.int xq), .val (.int xm), .val (.int (Int32.ofNat q0)), .unset, .unset, .unset, .unset, .unset, .unset, .unset, .unset, .unset, .unset, .unset, .unset, .unset, .unset, .unset, .unset] [(.int (xb &&& (262144 : Int32)))])) := c1.trans (by
  refine XS.istore X0.here hx rfl (hb hby at_4) rfl rfl ?_
  show Steps _ _ _ (.setTop _ (mkF _ 6 _ _)) _
  refine XS.iloadN X0.here hx rfl (hb hby at_6) rfl ?_
  show Steps _ _ _ (.setTop _ (mkF _ 7 _ _)) _
  refine X0.ldcInt hx hown (mvT hZ (hw _ (own_m 1 rfl))) (g := (mkF m 7 #[.val (.int xa), .val (.int xb), .val (.int xc), .val (.int xq), .val (.int xm), .val (.int (Int32.ofNat q0)), .unset, .unset, .unset, .unset, .unset, .unset, .unset, .unset, .unset, .unset, .unset, .unset, .unset, .unset, .unset, .unset] [(.int xb)])) rfl (hb hby at_7) _ ?_
  show Steps _ _ _ (.setTop _ (mkF _ 9 _ _)) _
  refine XS.iand X0.here hx rfl (hb hby at_9) rfl ?_
  exact Steps.refl _)
 have j_q1 : ∃ q1 : Nat, q1 < 262144 ∧ Steps p.tables e below S0 (s₁.setTop (mkF m 28 #[.val (.int xa), .val (.int xb), .val (.int xc), .val (.int xq), .val (.int xm), .val (.int (Int32.ofNat q0)), .unset, .unset, .unset, .unset, .unset, .unset, .unset, .unset, .unset, .unset, .unset, .unset, .unset, .unset, .unset, .unset] [(.int (Int32.ofNat q1))])) := by
  by_cases hbb : (xb &&& (262144 : Int32)) = (0 : Int32)
  ·have c4 : Steps p.tables e below S0 (s₁.setTop (mkF m 28 #[.val (.int xa), .val (.int xb), .val (.int xc), .val (.int xq), .val (.int xm), .val (.int (Int32.ofNat q0)), .unset, .unset, .unset, .unset, .unset, .unset, .unset, .unset, .unset, .unset, .unset, .unset, .unset, .unset, .unset, .unset] [(.int (xb &&& (262143 : Int32)))])) := c2.trans (by
    refine XS.ifYes X0.here hx rfl (pc0 := 10) (pc' := 24) rfl (hb hby at_10) rfl ((if0 _ _).trans (teq hbb).1) (by decide) (by decide) ?_
    show Steps _ _ _ (.setTop _ (mkF _ 24 _ _)) _
    refine XS.iloadN X0.here hx rfl (hb hby at_24) rfl ?_
    show Steps _ _ _ (.setTop _ (mkF _ 25 _ _)) _
    refine X0.ldcInt hx hown (mvT hZ (hw _ (own_m 0 rfl))) (g := (mkF m 25 #[.val (.int xa), .val (.int xb), .val (.int xc), .val (.int xq), .val (.int xm), .val (.int (Int32.ofNat q0)), .unset, .unset, .unset, .unset, .unset, .unset, .unset, .unset, .unset, .unset, .unset, .unset, .unset, .unset, .unset, .unset] [(.int xb)])) rfl (hb hby at_25) _ ?_
    show Steps _ _ _ (.setTop _ (mkF _ 27 _ _)) _
    refine XS.iand X0.here hx rfl (hb hby at_27) rfl ?_
    exact Steps.refl _)
   obtain ⟨nn, hnn, enn⟩ := own_m18 xb
   rw [enn] at c4
   exact ⟨nn, hnn, c4⟩
  ·have c6 : Steps p.tables e below S0 (s₁.setTop (mkF m 28 #[.val (.int xa), .val (.int xb), .val (.int xc), .val (.int xq), .val (.int xm), .val (.int (Int32.ofNat q0)), .unset, .unset, .unset, .unset, .unset, .unset, .unset, .unset, .unset, .unset, .unset, .unset, .unset, .unset, .unset, .unset] [(.int ((Int32.ofNat q0) ^^^ (xb &&& (4095 : Int32))))])) := c2.trans (by
    refine XS.ifNo X0.here hx rfl (hb hby at_10) rfl ((if0 _ _).trans (feq hbb).1) ?_
    show Steps _ _ _ (.setTop _ (mkF _ 13 _ _)) _
    refine XS.iload X0.here hx rfl (hb hby at_13) rfl ?_
    show Steps _ _ _ (.setTop _ (mkF _ 15 _ _)) _
    refine XS.iloadN X0.here hx rfl (hb hby at_15) rfl ?_
    show Steps _ _ _ (.setTop _ (mkF _ 16 _ _)) _
    refine XS.sipush X0.here hx rfl (hb hby at_16) ?_
    show Steps _ _ _ (.setTop _ (mkF _ 19 _ _)) _
    refine XS.iand X0.here hx rfl (hb hby at_19) rfl ?_
    show Steps _ _ _ (.setTop _ (mkF _ 20 _ _)) _
    refine XS.ixor X0.here hx rfl (hb hby at_20) rfl ?_
    show Steps _ _ _ (.setTop _ (mkF _ 21 _ _)) _
    refine XS.goto X0.here hx rfl (pc0 := 21) (pc' := 28) rfl (hb hby at_21) (by decide) (by decide) ?_
    exact Steps.refl _)
   obtain ⟨nn, hnn, enn⟩ := own_x12 hq0 xb
   rw [enn] at c6
   exact ⟨nn, hnn, c6⟩
 obtain ⟨q1, hq1, c_q1⟩ := j_q1
 have c7 : Steps p.tables e below S0 (s₁.setTop (mkF m 34 #[.val (.int xa), .val (.int xb), .val (.int xc), .val (.int xq), .val (.int xm), .val (.int (Int32.ofNat q0)), .val (.int (Int32.ofNat q1)), .unset, .unset, .unset, .unset, .unset, .unset, .unset, .unset, .unset, .unset, .unset, .unset, .unset, .unset, .unset] [(.int (xc &&& (262144 : Int32)))])) := c_q1.trans (by
  refine XS.istore X0.here hx rfl (hb hby at_28) rfl rfl ?_
  show Steps _ _ _ (.setTop _ (mkF _ 30 _ _)) _
  refine XS.iloadN X0.here hx rfl (hb hby at_30) rfl ?_
  show Steps _ _ _ (.setTop _ (mkF _ 31 _ _)) _
  refine X0.ldcInt hx hown (mvT hZ (hw _ (own_m 1 rfl))) (g := (mkF m 31 #[.val (.int xa), .val (.int xb), .val (.int xc), .val (.int xq), .val (.int xm), .val (.int (Int32.ofNat q0)), .val (.int (Int32.ofNat q1)), .unset, .unset, .unset, .unset, .unset, .unset, .unset, .unset, .unset, .unset, .unset, .unset, .unset, .unset, .unset] [(.int xc)])) rfl (hb hby at_31) _ ?_
  show Steps _ _ _ (.setTop _ (mkF _ 33 _ _)) _
  refine XS.iand X0.here hx rfl (hb hby at_33) rfl ?_
  exact Steps.refl _)
 have j_q2 : ∃ q2 : Nat, q2 < 262144 ∧ Steps p.tables e below S0 (s₁.setTop (mkF m 51 #[.val (.int xa), .val (.int xb), .val (.int xc), .val (.int xq), .val (.int xm), .val (.int (Int32.ofNat q0)), .val (.int (Int32.ofNat q1)), .unset, .unset, .unset, .unset, .unset, .unset, .unset, .unset, .unset, .unset, .unset, .unset, .unset, .unset, .unset] [(.int (Int32.ofNat q2))])) := by
  by_cases hbc : (xc &&& (262144 : Int32)) = (0 : Int32)
  ·have c9 : Steps p.tables e below S0 (s₁.setTop (mkF m 51 #[.val (.int xa), .val (.int xb), .val (.int xc), .val (.int xq), .val (.int xm), .val (.int (Int32.ofNat q0)), .val (.int (Int32.ofNat q1)), .unset, .unset, .unset, .unset, .unset, .unset, .unset, .unset, .unset, .unset, .unset, .unset, .unset, .unset, .unset] [(.int (xc &&& (262143 : Int32)))])) := c7.trans (by
    refine XS.ifYes X0.here hx rfl (pc0 := 34) (pc' := 47) rfl (hb hby at_34) rfl ((if0 _ _).trans (teq hbc).1) (by decide) (by decide) ?_
    show Steps _ _ _ (.setTop _ (mkF _ 47 _ _)) _
    refine XS.iloadN X0.here hx rfl (hb hby at_47) rfl ?_
    show Steps _ _ _ (.setTop _ (mkF _ 48 _ _)) _
    refine X0.ldcInt hx hown (mvT hZ (hw _ (own_m 0 rfl))) (g := (mkF m 48 #[.val (.int xa), .val (.int xb), .val (.int xc), .val (.int xq), .val (.int xm), .val (.int (Int32.ofNat q0)), .val (.int (Int32.ofNat q1)), .unset, .unset, .unset, .unset, .unset, .unset, .unset, .unset, .unset, .unset, .unset, .unset, .unset, .unset, .unset] [(.int xc)])) rfl (hb hby at_48) _ ?_
    show Steps _ _ _ (.setTop _ (mkF _ 50 _ _)) _
    refine XS.iand X0.here hx rfl (hb hby at_50) rfl ?_
    exact Steps.refl _)
   obtain ⟨nn, hnn, enn⟩ := own_m18 xc
   rw [enn] at c9
   exact ⟨nn, hnn, c9⟩
  ·have c11 : Steps p.tables e below S0 (s₁.setTop (mkF m 51 #[.val (.int xa), .val (.int xb), .val (.int xc), .val (.int xq), .val (.int xm), .val (.int (Int32.ofNat q0)), .val (.int (Int32.ofNat q1)), .unset, .unset, .unset, .unset, .unset, .unset, .unset, .unset, .unset, .unset, .unset, .unset, .unset, .unset, .unset] [(.int ((Int32.ofNat q0) ^^^ (xc &&& (63 : Int32))))])) := c7.trans (by
    refine XS.ifNo X0.here hx rfl (hb hby at_34) rfl ((if0 _ _).trans (feq hbc).1) ?_
    show Steps _ _ _ (.setTop _ (mkF _ 37 _ _)) _
    refine XS.iload X0.here hx rfl (hb hby at_37) rfl ?_
    show Steps _ _ _ (.setTop _ (mkF _ 39 _ _)) _
    refine XS.iloadN X0.here hx rfl (hb hby at_39) rfl ?_
    show Steps _ _ _ (.setTop _ (mkF _ 40 _ _)) _
    refine XS.bipush X0.here hx rfl (hb hby at_40) ?_
    show Steps _ _ _ (.setTop _ (mkF _ 42 _ _)) _
    refine XS.iand X0.here hx rfl (hb hby at_42) rfl ?_
    show Steps _ _ _ (.setTop _ (mkF _ 43 _ _)) _
    refine XS.ixor X0.here hx rfl (hb hby at_43) rfl ?_
    show Steps _ _ _ (.setTop _ (mkF _ 44 _ _)) _
    refine XS.goto X0.here hx rfl (pc0 := 44) (pc' := 51) rfl (hb hby at_44) (by decide) (by decide) ?_
    exact Steps.refl _)
   obtain ⟨nn, hnn, enn⟩ := own_x6 hq0 xc
   rw [enn] at c11
   exact ⟨nn, hnn, c11⟩
 obtain ⟨q2, hq2, c_q2⟩ := j_q2
 have c12 : Steps p.tables e below S0 (s₁.setTop (mkF m 57 #[.val (.int xa), .val (.int xb), .val (.int xc), .val (.int xq), .val (.int xm), .val (.int (Int32.ofNat q0)), .val (.int (Int32.ofNat q1)), .val (.int (Int32.ofNat q2)), .unset, .unset, .unset, .unset, .unset, .unset, .unset, .unset, .unset, .unset, .unset, .unset, .unset, .unset] [(.int (Int32.ofNat q1)), (.int (Int32.ofNat q0))])) := c_q2.trans (by
  refine XS.istore X0.here hx rfl (hb hby at_51) rfl rfl ?_
  show Steps _ _ _ (.setTop _ (mkF _ 53 _ _)) _
  refine XS.iload X0.here hx rfl (hb hby at_53) rfl ?_
  show Steps _ _ _ (.setTop _ (mkF _ 55 _ _)) _
  refine XS.iload X0.here hx rfl (hb hby at_55) rfl ?_
  exact Steps.refl _)
 by_cases h01 : (Int32.ofNat q0) = (Int32.ofNat q1)
 ·have c14 : Steps p.tables e below S0 (s₁.setTop (mkF m 75 #[.val (.int xa), .val (.int xb), .val (.int xc), .val (.int xq), .val (.int xm), .val (.int (Int32.ofNat q0)), .val (.int (Int32.ofNat q1)), .val (.int (Int32.ofNat q2)), .unset, .unset, .unset, .unset, .unset, .unset, .unset, .unset, .unset, .unset, .unset, .unset, .unset, .unset] [(.int (1 : Int32))])) := c12.trans (by
   refine XS.icmpYes X0.here hx rfl (pc0 := 57) (pc' := 74) rfl (hb hby at_57) rfl (teq h01).1 (by decide) (by decide) ?_
   show Steps _ _ _ (.setTop _ (mkF _ 74 _ _)) _
   refine XS.iconst X0.here hx rfl (hb hby at_74) ?_
   exact Steps.refl _)
  obtain ⟨fs, hr, hrun, hended, hW, hsame⟩ := X0.leave (v := some (.int (1 : Int32))) (fun h => by rw [Bd.returns] at h; cases h)
  exact ⟨_, _, c14.trans (retN X0 hx (t := .boolean) Bd.returns (by simp) (hb hby at_75) hr), hrun, hended, _, _, rfl, ⟨rfl, N0⟩, ⟨_, rfl⟩, hW, hsame.mono (by decide) (by decide)⟩
 ·have c16 : Steps p.tables e below S0 (s₁.setTop (mkF m 64 #[.val (.int xa), .val (.int xb), .val (.int xc), .val (.int xq), .val (.int xm), .val (.int (Int32.ofNat q0)), .val (.int (Int32.ofNat q1)), .val (.int (Int32.ofNat q2)), .unset, .unset, .unset, .unset, .unset, .unset, .unset, .unset, .unset, .unset, .unset, .unset, .unset, .unset] [(.int (Int32.ofNat q2)), (.int (Int32.ofNat q0))])) := c12.trans (by
   refine XS.icmpNo X0.here hx rfl (hb hby at_57) rfl (feq h01).1 ?_
   show Steps _ _ _ (.setTop _ (mkF _ 60 _ _)) _
   refine XS.iload X0.here hx rfl (hb hby at_60) rfl ?_
   show Steps _ _ _ (.setTop _ (mkF _ 62 _ _)) _
   refine XS.iload X0.here hx rfl (hb hby at_62) rfl ?_
   exact Steps.refl _)
  by_cases h02 : (Int32.ofNat q0) = (Int32.ofNat q2)
  ·have c18 : Steps p.tables e below S0 (s₁.setTop (mkF m 75 #[.val (.int xa), .val (.int xb), .val (.int xc), .val (.int xq), .val (.int xm), .val (.int (Int32.ofNat q0)), .val (.int (Int32.ofNat q1)), .val (.int (Int32.ofNat q2)), .unset, .unset, .unset, .unset, .unset, .unset, .unset, .unset, .unset, .unset, .unset, .unset, .unset, .unset] [(.int (1 : Int32))])) := c16.trans (by
    refine XS.icmpYes X0.here hx rfl (pc0 := 64) (pc' := 74) rfl (hb hby at_64) rfl (teq h02).1 (by decide) (by decide) ?_
    show Steps _ _ _ (.setTop _ (mkF _ 74 _ _)) _
    refine XS.iconst X0.here hx rfl (hb hby at_74) ?_
    exact Steps.refl _)
   obtain ⟨fs, hr, hrun, hended, hW, hsame⟩ := X0.leave (v := some (.int (1 : Int32))) (fun h => by rw [Bd.returns] at h; cases h)
   exact ⟨_, _, c18.trans (retN X0 hx (t := .boolean) Bd.returns (by simp) (hb hby at_75) hr), hrun, hended, _, _, rfl, ⟨rfl, N0⟩, ⟨_, rfl⟩, hW, hsame.mono (by decide) (by decide)⟩
  ·have c20 : Steps p.tables e below S0 (s₁.setTop (mkF m 71 #[.val (.int xa), .val (.int xb), .val (.int xc), .val (.int xq), .val (.int xm), .val (.int (Int32.ofNat q0)), .val (.int (Int32.ofNat q1)), .val (.int (Int32.ofNat q2)), .unset, .unset, .unset, .unset, .unset, .unset, .unset, .unset, .unset, .unset, .unset, .unset, .unset, .unset] [(.int (Int32.ofNat q2)), (.int (Int32.ofNat q1))])) := c16.trans (by
    refine XS.icmpNo X0.here hx rfl (hb hby at_64) rfl (feq h02).1 ?_
    show Steps _ _ _ (.setTop _ (mkF _ 67 _ _)) _
    refine XS.iload X0.here hx rfl (hb hby at_67) rfl ?_
    show Steps _ _ _ (.setTop _ (mkF _ 69 _ _)) _
    refine XS.iload X0.here hx rfl (hb hby at_69) rfl ?_
    exact Steps.refl _)
   by_cases h12 : (Int32.ofNat q1) = (Int32.ofNat q2)
   ·have c22 : Steps p.tables e below S0 (s₁.setTop (mkF m 75 #[.val (.int xa), .val (.int xb), .val (.int xc), .val (.int xq), .val (.int xm), .val (.int (Int32.ofNat q0)), .val (.int (Int32.ofNat q1)), .val (.int (Int32.ofNat q2)), .unset, .unset, .unset, .unset, .unset, .unset, .unset, .unset, .unset, .unset, .unset, .unset, .unset, .unset] [(.int (1 : Int32))])) := c20.trans (by
     refine XS.icmpNo X0.here hx rfl (hb hby at_71) rfl (teq h12).2 ?_
     show Steps _ _ _ (.setTop _ (mkF _ 74 _ _)) _
     refine XS.iconst X0.here hx rfl (hb hby at_74) ?_
     exact Steps.refl _)
    obtain ⟨fs, hr, hrun, hended, hW, hsame⟩ := X0.leave (v := some (.int (1 : Int32))) (fun h => by rw [Bd.returns] at h; cases h)
    exact ⟨_, _, c22.trans (retN X0 hx (t := .boolean) Bd.returns (by simp) (hb hby at_75) hr), hrun, hended, _, _, rfl, ⟨rfl, N0⟩, ⟨_, rfl⟩, hW, hsame.mono (by decide) (by decide)⟩
   ·obtain ⟨T25, h25, k25, X25, e25, E25, A25, B25, st25⟩ := newPE X0 hx hZ (hw _ (own_m 2 rfl)) e0 (g := (mkF m 77 #[.val (.int xa), .val (.int xb), .val (.int xc), .val (.int xq), .val (.int xm), .val (.int (Int32.ofNat q0)), .val (.int (Int32.ofNat q1)), .val (.int (Int32.ofNat q2)), .unset, .unset, .unset, .unset, .unset, .unset, .unset, .unset, .unset, .unset, .unset, .unset, .unset, .unset] [(.int (3 : Int32))])) rfl (hb hby at_77) rfl (by decide) (cap := 3) (by decide) (by decide) (by decide) (by decide) (ad := "[I") (by decide)
    obtain ⟨pa, g25⟩ : ∃ z, z = h0.size := ⟨_, rfl⟩
    have sz_pa : h0.size ≤ pa := Nat.le_trans K0.1 (Nat.le_of_eq g25.symm)
    have g_pa : n0 ≤ pa := Nat.le_trans Z0 sz_pa
    rw [← g25] at A25 B25 st25
    have c26 : Steps p.tables e below S0 (T25.setTop (mkF m 79 #[.val (.int xa), .val (.int xb), .val (.int xc), .val (.int xq), .val (.int xm), .val (.int (Int32.ofNat q0)), .val (.int (Int32.ofNat q1)), .val (.int (Int32.ofNat q2)), .unset, .unset, .unset, .unset, .unset, .unset, .unset, .unset, .unset, .unset, .unset, .unset, .unset, .unset] [(.ref pa)])) := c20.trans (by
     refine XS.icmpYes X0.here hx rfl (pc0 := 71) (pc' := 76) rfl (hb hby at_71) rfl (feq h12).2 (by decide) (by decide) ?_
     show Steps _ _ _ (.setTop _ (mkF _ 76 _ _)) _
     refine XS.iconst X0.here hx rfl (hb hby at_76) ?_
     show Steps _ _ _ (.setTop _ (mkF _ 77 _ _)) _
     refine st25 _ ?_
     exact Steps.refl _)
    have K25 := K0.ext E25
    have P_pa : own_IA Z h25 pa 3 (fun _ => 0) := ⟨_, A25, B25, by rw [sz_new]; rfl, fun i hi => by show (Array.replicate 3 (Value.int 0))[i]? = _; simp [hi]⟩
    have q28 := P_pa
    obtain ⟨cA28, AA28, EA28, SA28, HA28⟩ := q28
    obtain ⟨T29, h29, X29, e29, W29, st29⟩ := stI X25 hx hZ e25 AA28 (j := (0 : Int32)) (own_inb (j := 0) SA28 (by decide) (by decide)) (g := (mkF m 83 #[.val (.int xa), .val (.int xb), .val (.int xc), .val (.int xq), .val (.int xm), .val (.int (Int32.ofNat q0)), .val (.int (Int32.ofNat q1)), .val (.int (Int32.ofNat q2)), .unset, .unset, .unset, .unset, .unset, .unset, .unset, .unset, .unset, .unset, .unset, .unset, .unset, .unset] [(.int (Int32.ofNat q0)), (.int (0 : Int32)), (.ref pa), (.ref pa)])) rfl rfl (hb hby at_83)
    have c30 : Steps p.tables e below S0 (T29.setTop (mkF m 84 #[.val (.int xa), .val (.int xb), .val (.int xc), .val (.int xq), .val (.int xm), .val (.int (Int32.ofNat q0)), .val (.int (Int32.ofNat q1)), .val (.int (Int32.ofNat q2)), .unset, .unset, .unset, .unset, .unset, .unset, .unset, .unset, .unset, .unset, .unset, .unset, .unset, .unset] [(.ref pa)])) := c26.trans (by
     refine XS.dup X25.here hx rfl (hb hby at_79) rfl rfl ?_
     show Steps _ _ _ (.setTop _ (mkF _ 80 _ _)) _
     refine XS.iconst X25.here hx rfl (hb hby at_80) ?_
     show Steps _ _ _ (.setTop _ (mkF _ 81 _ _)) _
     refine XS.iload X25.here hx rfl (hb hby at_81) rfl ?_
     show Steps _ _ _ (.setTop _ (mkF _ 83 _ _)) _
     refine st29 _ ?_
     exact Steps.refl _)
    have K29 := K25.wr W29 (Or.inr sz_pa)
    have N29 := Fr.snoc X29 N0 g_pa
    have V29 : Wr h25 h29 pa 0 (.int (Int32.ofNat q0)) := W29
    have G29 : own_IA Z h29 pa 3 (fun i => if i = 0 then (Int32.ofNat q0) else (fun _ => 0) i) := P_pa.set V29 (by decide) (fun _ _ => rfl)
    have q32 := G29
    obtain ⟨cA32, AA32, EA32, SA32, HA32⟩ := q32
    obtain ⟨T33, h33, X33, e33, W33, st33⟩ := stI X29 hx hZ e29 AA32 (j := (1 : Int32)) (own_inb (j := 1) SA32 (by decide) (by decide)) (g := (mkF m 88 #[.val (.int xa), .val (.int xb), .val (.int xc), .val (.int xq), .val (.int xm), .val (.int (Int32.ofNat q0)), .val (.int (Int32.ofNat q1)), .val (.int (Int32.ofNat q2)), .unset, .unset, .unset, .unset, .unset, .unset, .unset, .unset, .unset, .unset, .unset, .unset, .unset, .unset] [(.int (Int32.ofNat q1)), (.int (1 : Int32)), (.ref pa), (.ref pa)])) rfl rfl (hb hby at_88)
    have c34 : Steps p.tables e below S0 (T33.setTop (mkF m 89 #[.val (.int xa), .val (.int xb), .val (.int xc), .val (.int xq), .val (.int xm), .val (.int (Int32.ofNat q0)), .val (.int (Int32.ofNat q1)), .val (.int (Int32.ofNat q2)), .unset, .unset, .unset, .unset, .unset, .unset, .unset, .unset, .unset, .unset, .unset, .unset, .unset, .unset] [(.ref pa)])) := c30.trans (by
     refine XS.dup X29.here hx rfl (hb hby at_84) rfl rfl ?_
     show Steps _ _ _ (.setTop _ (mkF _ 85 _ _)) _
     refine XS.iconst X29.here hx rfl (hb hby at_85) ?_
     show Steps _ _ _ (.setTop _ (mkF _ 86 _ _)) _
     refine XS.iload X29.here hx rfl (hb hby at_86) rfl ?_
     show Steps _ _ _ (.setTop _ (mkF _ 88 _ _)) _
     refine st33 _ ?_
     exact Steps.refl _)
    have K33 := K29.wr W33 (Or.inr sz_pa)
    have N33 := Fr.snoc X33 N29 g_pa
    have V33 : Wr h29 h33 pa 1 (.int (Int32.ofNat q1)) := W33
    have G33 : own_IA Z h33 pa 3 (fun i => if i = 1 then (Int32.ofNat q1) else ((fun i => if i = 0 then (Int32.ofNat q0) else (fun _ => 0) i)) i) := G29.set V33 (by decide) (fun _ _ => rfl)
    have q36 := G33
    obtain ⟨cA36, AA36, EA36, SA36, HA36⟩ := q36
    obtain ⟨T37, h37, X37, e37, W37, st37⟩ := stI X33 hx hZ e33 AA36 (j := (2 : Int32)) (own_inb (j := 2) SA36 (by decide) (by decide)) (g := (mkF m 93 #[.val (.int xa), .val (.int xb), .val (.int xc), .val (.int xq), .val (.int xm), .val (.int (Int32.ofNat q0)), .val (.int (Int32.ofNat q1)), .val (.int (Int32.ofNat q2)), .unset, .unset, .unset, .unset, .unset, .unset, .unset, .unset, .unset, .unset, .unset, .unset, .unset, .unset] [(.int (Int32.ofNat q2)), (.int (2 : Int32)), (.ref pa), (.ref pa)])) rfl rfl (hb hby at_93)
    have c38 : Steps p.tables e below S0 (T37.setTop (mkF m 94 #[.val (.int xa), .val (.int xb), .val (.int xc), .val (.int xq), .val (.int xm), .val (.int (Int32.ofNat q0)), .val (.int (Int32.ofNat q1)), .val (.int (Int32.ofNat q2)), .unset, .unset, .unset, .unset, .unset, .unset, .unset, .unset, .unset, .unset, .unset, .unset, .unset, .unset] [(.ref pa)])) := c34.trans (by
     refine XS.dup X33.here hx rfl (hb hby at_89) rfl rfl ?_
     show Steps _ _ _ (.setTop _ (mkF _ 90 _ _)) _
     refine XS.iconst X33.here hx rfl (hb hby at_90) ?_
     show Steps _ _ _ (.setTop _ (mkF _ 91 _ _)) _
     refine XS.iload X33.here hx rfl (hb hby at_91) rfl ?_
     show Steps _ _ _ (.setTop _ (mkF _ 93 _ _)) _
     refine st37 _ ?_
     exact Steps.refl _)
    have K37 := K33.wr W37 (Or.inr sz_pa)
    have N37 := Fr.snoc X37 N33 g_pa
    have V37 : Wr h33 h37 pa 2 (.int (Int32.ofNat q2)) := W37
    have G37 : own_IA Z h37 pa 3 (fun i => if i = 2 then (Int32.ofNat q2) else ((fun i => if i = 1 then (Int32.ofNat q1) else ((fun i => if i = 0 then (Int32.ofNat q0) else (fun _ => 0) i)) i)) i) := G33.set V37 (by decide) (fun _ _ => rfl)
    have Fpa : own_IA Z h37 pa 3 (fun j => Int32.ofNat (own_pv q0 q1 q2 j)) := own_IA3 G37 rfl rfl rfl
    obtain ⟨T40, h40, k40, X40, e40, E40, A40, B40, O40, st40⟩ := newRA X37 hx hZ hown (by decide) (hw _ (own_m 3 rfl)) (hw _ (own_m 4 rfl)) e37 (g := (mkF m 98 #[.val (.int xa), .val (.int xb), .val (.int xc), .val (.int xq), .val (.int xm), .val (.int (Int32.ofNat q0)), .val (.int (Int32.ofNat q1)), .val (.int (Int32.ofNat q2)), .val (.ref pa), .unset, .unset, .unset, .unset, .unset, .unset, .unset, .unset, .unset, .unset, .unset, .unset, .unset] [(.int (6 : Int32))])) rfl (hb hby at_98) rfl (by decide) (cap := 6) (by decide) (by decide) (by decide) (by decide) (ad := "[[I") (by decide)
    obtain ⟨pm, g40⟩ : ∃ z, z = h37.size := ⟨_, rfl⟩
    have ne_pa_pm : pa ≠ pm := Nat.ne_of_lt (Nat.lt_of_lt_of_le Fpa.lt (Nat.le_of_eq g40.symm))
    have sz_pm : h0.size ≤ pm := Nat.le_trans K37.1 (Nat.le_of_eq g40.symm)
    have g_pm : n0 ≤ pm := Nat.le_trans Z0 sz_pm
    rw [← g40] at A40 B40 st40
    have c41 : Steps p.tables e below S0 (T40.setTop (mkF m 101 #[.val (.int xa), .val (.int xb), .val (.int xc), .val (.int xq), .val (.int xm), .val (.int (Int32.ofNat q0)), .val (.int (Int32.ofNat q1)), .val (.int (Int32.ofNat q2)), .val (.ref pa), .unset, .unset, .unset, .unset, .unset, .unset, .unset, .unset, .unset, .unset, .unset, .unset, .unset] [(.ref pm)])) := c38.trans (by
     refine XS.astore X37.here hx rfl (hb hby at_94) rfl rfl rfl ?_
     show Steps _ _ _ (.setTop _ (mkF _ 96 _ _)) _
     refine XS.bipush X37.here hx rfl (hb hby at_96) ?_
     show Steps _ _ _ (.setTop _ (mkF _ 98 _ _)) _
     refine st40 _ ?_
     exact Steps.refl _)
    have f40_P_pa := Fpa.ext E40
    have K40 := K37.ext E40
    have R_pm : own_RA Z .int "[I" h40 pm 6 (fun _ => .null) := ⟨_, A40, O40, by rw [sz_new]; rfl, fun i hi => by show (Array.replicate 6 Value.null)[i]? = _; simp [hi]⟩
    obtain ⟨T43, h43, k43, X43, e43, E43, A43, B43, st43⟩ := newPE X40 hx hZ (hw _ (own_m 2 rfl)) e40 (g := (mkF m 104 #[.val (.int xa), .val (.int xb), .val (.int xc), .val (.int xq), .val (.int xm), .val (.int (Int32.ofNat q0)), .val (.int (Int32.ofNat q1)), .val (.int (Int32.ofNat q2)), .val (.ref pa), .unset, .unset, .unset, .unset, .unset, .unset, .unset, .unset, .unset, .unset, .unset, .unset, .unset] [(.int (3 : Int32)), (.int (0 : Int32)), (.ref pm), (.ref pm)])) rfl (hb hby at_104) rfl (by decide) (cap := 3) (by decide) (by decide) (by decide) (by decide) (ad := "[I") (by decide)
    obtain ⟨r0, g43⟩ : ∃ z, z = h40.size := ⟨_, rfl⟩
    have ne_pa_r0 : pa ≠ r0 := Nat.ne_of_lt (Nat.lt_of_lt_of_le f40_P_pa.lt (Nat.le_of_eq g43.symm))
    have ne_pm_r0 : pm ≠ r0 := Nat.ne_of_lt (Nat.lt_of_lt_of_le R_pm.lt (Nat.le_of_eq g43.symm))
    have sz_r0 : h0.size ≤ r0 := Nat.le_trans K40.1 (Nat.le_of_eq g43.symm)
    have g_r0 : n0 ≤ r0 := Nat.le_trans Z0 sz_r0
    rw [← g43] at A43 B43 st43
    have c44 : Steps p.tables e below S0 (T43.setTop (mkF m 106 #[.val (.int xa), .val (.int xb), .val (.int xc), .val (.int xq), .val (.int xm), .val (.int (Int32.ofNat q0)), .val (.int (Int32.ofNat q1)), .val (.int (Int32.ofNat q2)), .val (.ref pa), .unset, .unset, .unset, .unset, .unset, .unset, .unset, .unset, .unset, .unset, .unset, .unset, .unset] [(.ref r0), (.int (0 : Int32)), (.ref pm), (.ref pm)])) := c41.trans (by
     refine XS.dup X40.here hx rfl (hb hby at_101) rfl rfl ?_
     show Steps _ _ _ (.setTop _ (mkF _ 102 _ _)) _
     refine XS.iconst X40.here hx rfl (hb hby at_102) ?_
     show Steps _ _ _ (.setTop _ (mkF _ 103 _ _)) _
     refine XS.iconst X40.here hx rfl (hb hby at_103) ?_
     show Steps _ _ _ (.setTop _ (mkF _ 104 _ _)) _
     refine st43 _ ?_
     exact Steps.refl _)
    have f43_P_pa := f40_P_pa.ext E43
    have f43_R_pm := R_pm.ext E43
    have K43 := K40.ext E43
    have P_r0 : own_IA Z h43 r0 3 (fun _ => 0) := ⟨_, A43, B43, by rw [sz_new]; rfl, fun i hi => by show (Array.replicate 3 (Value.int 0))[i]? = _; simp [hi]⟩
    have q46 := P_r0
    obtain ⟨cA46, AA46, EA46, SA46, HA46⟩ := q46
    obtain ⟨T47, h47, X47, e47, W47, st47⟩ := stI X43 hx hZ e43 AA46 (j := (0 : Int32)) (own_inb (j := 0) SA46 (by decide) (by decide)) (g := (mkF m 109 #[.val (.int xa), .val (.int xb), .val (.int xc), .val (.int xq), .val (.int xm), .val (.int (Int32.ofNat q0)), .val (.int (Int32.ofNat q1)), .val (.int (Int32.ofNat q2)), .val (.ref pa), .unset, .unset, .unset, .unset, .unset, .unset, .unset, .unset, .unset, .unset, .unset, .unset, .unset] [(.int (0 : Int32)), (.int (0 : Int32)), (.ref r0), (.ref r0), (.int (0 : Int32)), (.ref pm), (.ref pm)])) rfl rfl (hb hby at_109)
    have c48 : Steps p.tables e below S0 (T47.setTop (mkF m 110 #[.val (.int xa), .val (.int xb), .val (.int xc), .val (.int xq), .val (.int xm), .val (.int (Int32.ofNat q0)), .val (.int (Int32.ofNat q1)), .val (.int (Int32.ofNat q2)), .val (.ref pa), .unset, .unset, .unset, .unset, .unset, .unset, .unset, .unset, .unset, .unset, .unset, .unset, .unset] [(.ref r0), (.int (0 : Int32)), (.ref pm), (.ref pm)])) := c44.trans (by
     refine XS.dup X43.here hx rfl (hb hby at_106) rfl rfl ?_
     show Steps _ _ _ (.setTop _ (mkF _ 107 _ _)) _
     refine XS.iconst X43.here hx rfl (hb hby at_107) ?_
     show Steps _ _ _ (.setTop _ (mkF _ 108 _ _)) _
     refine XS.iconst X43.here hx rfl (hb hby at_108) ?_
     show Steps _ _ _ (.setTop _ (mkF _ 109 _ _)) _
     refine st47 _ ?_
     exact Steps.refl _)
    have f47_P_pa := f43_P_pa.other W47 ne_pa_r0
    have f47_R_pm := f43_R_pm.other W47 ne_pm_r0
    have K47 := K43.wr W47 (Or.inr sz_r0)
    have N47 := Fr.snoc X47 N37 g_r0
    have V47 : Wr h43 h47 r0 0 (.int (0 : Int32)) := W47
    have G47 : own_IA Z h47 r0 3 (fun i => if i = 0 then (0 : Int32) else (fun _ => 0) i) := P_r0.set V47 (by decide) (fun _ _ => rfl)
    have q50 := G47
    obtain ⟨cA50, AA50, EA50, SA50, HA50⟩ := q50
    obtain ⟨T51, h51, X51, e51, W51, st51⟩ := stI X47 hx hZ e47 AA50 (j := (1 : Int32)) (own_inb (j := 1) SA50 (by decide) (by decide)) (g := (mkF m 113 #[.val (.int xa), .val (.int xb), .val (.int xc), .val (.int xq), .val (.int xm), .val (.int (Int32.ofNat q0)), .val (.int (Int32.ofNat q1)), .val (.int (Int32.ofNat q2)), .val (.ref pa), .unset, .unset, .unset, .unset, .unset, .unset, .unset, .unset, .unset, .unset, .unset, .unset, .unset] [(.int (1 : Int32)), (.int (1 : Int32)), (.ref r0), (.ref r0), (.int (0 : Int32)), (.ref pm), (.ref pm)])) rfl rfl (hb hby at_113)
    have c52 : Steps p.tables e below S0 (T51.setTop (mkF m 114 #[.val (.int xa), .val (.int xb), .val (.int xc), .val (.int xq), .val (.int xm), .val (.int (Int32.ofNat q0)), .val (.int (Int32.ofNat q1)), .val (.int (Int32.ofNat q2)), .val (.ref pa), .unset, .unset, .unset, .unset, .unset, .unset, .unset, .unset, .unset, .unset, .unset, .unset, .unset] [(.ref r0), (.int (0 : Int32)), (.ref pm), (.ref pm)])) := c48.trans (by
     refine XS.dup X47.here hx rfl (hb hby at_110) rfl rfl ?_
     show Steps _ _ _ (.setTop _ (mkF _ 111 _ _)) _
     refine XS.iconst X47.here hx rfl (hb hby at_111) ?_
     show Steps _ _ _ (.setTop _ (mkF _ 112 _ _)) _
     refine XS.iconst X47.here hx rfl (hb hby at_112) ?_
     show Steps _ _ _ (.setTop _ (mkF _ 113 _ _)) _
     refine st51 _ ?_
     exact Steps.refl _)
    have f51_P_pa := f47_P_pa.other W51 ne_pa_r0
    have f51_R_pm := f47_R_pm.other W51 ne_pm_r0
    have K51 := K47.wr W51 (Or.inr sz_r0)
    have N51 := Fr.snoc X51 N47 g_r0
    have V51 : Wr h47 h51 r0 1 (.int (1 : Int32)) := W51
    have G51 : own_IA Z h51 r0 3 (fun i => if i = 1 then (1 : Int32) else (fun i => if i = 0 then (0 : Int32) else (fun _ => 0) i) i) := G47.set V51 (by decide) (fun _ _ => rfl)
    have q54 := G51
    obtain ⟨cA54, AA54, EA54, SA54, HA54⟩ := q54
    obtain ⟨T55, h55, X55, e55, W55, st55⟩ := stI X51 hx hZ e51 AA54 (j := (2 : Int32)) (own_inb (j := 2) SA54 (by decide) (by decide)) (g := (mkF m 117 #[.val (.int xa), .val (.int xb), .val (.int xc), .val (.int xq), .val (.int xm), .val (.int (Int32.ofNat q0)), .val (.int (Int32.ofNat q1)), .val (.int (Int32.ofNat q2)), .val (.ref pa), .unset, .unset, .unset, .unset, .unset, .unset, .unset, .unset, .unset, .unset, .unset, .unset, .unset] [(.int (2 : Int32)), (.int (2 : Int32)), (.ref r0), (.ref r0), (.int (0 : Int32)), (.ref pm), (.ref pm)])) rfl rfl (hb hby at_117)
    have c56 : Steps p.tables e below S0 (T55.setTop (mkF m 118 #[.val (.int xa), .val (.int xb), .val (.int xc), .val (.int xq), .val (.int xm), .val (.int (Int32.ofNat q0)), .val (.int (Int32.ofNat q1)), .val (.int (Int32.ofNat q2)), .val (.ref pa), .unset, .unset, .unset, .unset, .unset, .unset, .unset, .unset, .unset, .unset, .unset, .unset, .unset] [(.ref r0), (.int (0 : Int32)), (.ref pm), (.ref pm)])) := c52.trans (by
     refine XS.dup X51.here hx rfl (hb hby at_114) rfl rfl ?_
     show Steps _ _ _ (.setTop _ (mkF _ 115 _ _)) _
     refine XS.iconst X51.here hx rfl (hb hby at_115) ?_
     show Steps _ _ _ (.setTop _ (mkF _ 116 _ _)) _
     refine XS.iconst X51.here hx rfl (hb hby at_116) ?_
     show Steps _ _ _ (.setTop _ (mkF _ 117 _ _)) _
     refine st55 _ ?_
     exact Steps.refl _)
    have f55_P_pa := f51_P_pa.other W55 ne_pa_r0
    have f55_R_pm := f51_R_pm.other W55 ne_pm_r0
    have K55 := K51.wr W55 (Or.inr sz_r0)
    have N55 := Fr.snoc X55 N51 g_r0
    have V55 : Wr h51 h55 r0 2 (.int (2 : Int32)) := W55
    have G55 : own_IA Z h55 r0 3 (fun i => if i = 2 then (2 : Int32) else (fun i => if i = 1 then (1 : Int32) else (fun i => if i = 0 then (0 : Int32) else (fun _ => 0) i) i) i) := G51.set V55 (by decide) (fun _ _ => rfl)
    have Fr0 : own_IA Z h55 r0 3 (fun j => Int32.ofNat (own_pv 0 1 2 j)) := own_IA3 G55 rfl rfl rfl
    have q57 := f55_R_pm
    obtain ⟨cr57, Ar57, Or57, Sr57, Hr57⟩ := q57
    have p57 := Fr0
    obtain ⟨cd57, Ad57, Ed57, -⟩ := p57
    obtain ⟨T58, h58, X58, e58, W58, st58⟩ := stR X55 hx hZ e55 Ar57 (j := (0 : Int32)) (own_inb (j := 0) Sr57 (by decide) (by decide)) rfl (Sto.ofVA Ar57 rfl Or57 (Ins.self Ed57)) (g := (mkF m 118 #[.val (.int xa), .val (.int xb), .val (.int xc), .val (.int xq), .val (.int xm), .val (.int (Int32.ofNat q0)), .val (.int (Int32.ofNat q1)), .val (.int (Int32.ofNat q2)), .val (.ref pa), .unset, .unset, .unset, .unset, .unset, .unset, .unset, .unset, .unset, .unset, .unset, .unset, .unset] [(.ref r0), (.int (0 : Int32)), (.ref pm), (.ref pm)])) rfl rfl (hb hby at_118)
    have c59 : Steps p.tables e below S0 (T58.setTop (mkF m 119 #[.val (.int xa), .val (.int xb), .val (.int xc), .val (.int xq), .val (.int xm), .val (.int (Int32.ofNat q0)), .val (.int (Int32.ofNat q1)), .val (.int (Int32.ofNat q2)), .val (.ref pa), .unset, .unset, .unset, .unset, .unset, .unset, .unset, .unset, .unset, .unset, .unset, .unset, .unset] [(.ref pm)])) := c56.trans (by
     refine st58 _ ?_
     exact Steps.refl _)
    have f58_P_pa := f55_P_pa.other W58 ne_pa_pm
    have f58_P_r0 := Fr0.other W58 (Ne.symm ne_pm_r0)
    have K58 := K55.wr W58 (Or.inr sz_pm)
    have N58 := Fr.snoc X58 N55 g_pm
    have V58 : Wr h55 h58 pm 0 (.ref r0) := W58
    have G58 : own_RA Z .int "[I" h58 pm 6 (fun i => if i = 0 then .ref r0 else (fun _ => Value.null) i) := f55_R_pm.set V58 (by decide) (fun _ _ => rfl)
    obtain ⟨T61, h61, k61, X61, e61, E61, A61, B61, st61⟩ := newPE X58 hx hZ (hw _ (own_m 2 rfl)) e58 (g := (mkF m 122 #[.val (.int xa), .val (.int xb), .val (.int xc), .val (.int xq), .val (.int xm), .val (.int (Int32.ofNat q0)), .val (.int (Int32.ofNat q1)), .val (.int (Int32.ofNat q2)), .val (.ref pa), .unset, .unset, .unset, .unset, .unset, .unset, .unset, .unset, .unset, .unset, .unset, .unset, .unset] [(.int (3 : Int32)), (.int (1 : Int32)), (.ref pm), (.ref pm)])) rfl (hb hby at_122) rfl (by decide) (cap := 3) (by decide) (by decide) (by decide) (by decide) (ad := "[I") (by decide)
    obtain ⟨r1, g61⟩ : ∃ z, z = h58.size := ⟨_, rfl⟩
    have ne_pa_r1 : pa ≠ r1 := Nat.ne_of_lt (Nat.lt_of_lt_of_le f58_P_pa.lt (Nat.le_of_eq g61.symm))
    have ne_pm_r1 : pm ≠ r1 := Nat.ne_of_lt (Nat.lt_of_lt_of_le G58.lt (Nat.le_of_eq g61.symm))
    have ne_r0_r1 : r0 ≠ r1 := Nat.ne_of_lt (Nat.lt_of_lt_of_le f58_P_r0.lt (Nat.le_of_eq g61.symm))
    have sz_r1 : h0.size ≤ r1 := Nat.le_trans K58.1 (Nat.le_of_eq g61.symm)
    have g_r1 : n0 ≤ r1 := Nat.le_trans Z0 sz_r1
    rw [← g61] at A61 B61 st61
    have c62 : Steps p.tables e below S0 (T61.setTop (mkF m 124 #[.val (.int xa), .val (.int xb), .val (.int xc), .val (.int xq), .val (.int xm), .val (.int (Int32.ofNat q0)), .val (.int (Int32.ofNat q1)), .val (.int (Int32.ofNat q2)), .val (.ref pa), .unset, .unset, .unset, .unset, .unset, .unset, .unset, .unset, .unset, .unset, .unset, .unset, .unset] [(.ref r1), (.int (1 : Int32)), (.ref pm), (.ref pm)])) := c59.trans (by
     refine XS.dup X58.here hx rfl (hb hby at_119) rfl rfl ?_
     show Steps _ _ _ (.setTop _ (mkF _ 120 _ _)) _
     refine XS.iconst X58.here hx rfl (hb hby at_120) ?_
     show Steps _ _ _ (.setTop _ (mkF _ 121 _ _)) _
     refine XS.iconst X58.here hx rfl (hb hby at_121) ?_
     show Steps _ _ _ (.setTop _ (mkF _ 122 _ _)) _
     refine st61 _ ?_
     exact Steps.refl _)
    have f61_P_pa := f58_P_pa.ext E61
    have f61_R_pm := G58.ext E61
    have f61_P_r0 := f58_P_r0.ext E61
    have K61 := K58.ext E61
    have P_r1 : own_IA Z h61 r1 3 (fun _ => 0) := ⟨_, A61, B61, by rw [sz_new]; rfl, fun i hi => by show (Array.replicate 3 (Value.int 0))[i]? = _; simp [hi]⟩
    have q64 := P_r1
    obtain ⟨cA64, AA64, EA64, SA64, HA64⟩ := q64
    obtain ⟨T65, h65, X65, e65, W65, st65⟩ := stI X61 hx hZ e61 AA64 (j := (0 : Int32)) (own_inb (j := 0) SA64 (by decide) (by decide)) (g := (mkF m 127 #[.val (.int xa), .val (.int xb), .val (.int xc), .val (.int xq), .val (.int xm), .val (.int (Int32.ofNat q0)), .val (.int (Int32.ofNat q1)), .val (.int (Int32.ofNat q2)), .val (.ref pa), .unset, .unset, .unset, .unset, .unset, .unset, .unset, .unset, .unset, .unset, .unset, .unset, .unset] [(.int (0 : Int32)), (.int (0 : Int32)), (.ref r1), (.ref r1), (.int (1 : Int32)), (.ref pm), (.ref pm)])) rfl rfl (hb hby at_127)
    have c66 : Steps p.tables e below S0 (T65.setTop (mkF m 128 #[.val (.int xa), .val (.int xb), .val (.int xc), .val (.int xq), .val (.int xm), .val (.int (Int32.ofNat q0)), .val (.int (Int32.ofNat q1)), .val (.int (Int32.ofNat q2)), .val (.ref pa), .unset, .unset, .unset, .unset, .unset, .unset, .unset, .unset, .unset, .unset, .unset, .unset, .unset] [(.ref r1), (.int (1 : Int32)), (.ref pm), (.ref pm)])) := c62.trans (by
     refine XS.dup X61.here hx rfl (hb hby at_124) rfl rfl ?_
     show Steps _ _ _ (.setTop _ (mkF _ 125 _ _)) _
     refine XS.iconst X61.here hx rfl (hb hby at_125) ?_
     show Steps _ _ _ (.setTop _ (mkF _ 126 _ _)) _
     refine XS.iconst X61.here hx rfl (hb hby at_126) ?_
     show Steps _ _ _ (.setTop _ (mkF _ 127 _ _)) _
     refine st65 _ ?_
     exact Steps.refl _)
    have f65_P_pa := f61_P_pa.other W65 ne_pa_r1
    have f65_R_pm := f61_R_pm.other W65 ne_pm_r1
    have f65_P_r0 := f61_P_r0.other W65 ne_r0_r1
    have K65 := K61.wr W65 (Or.inr sz_r1)
    have N65 := Fr.snoc X65 N58 g_r1
    have V65 : Wr h61 h65 r1 0 (.int (0 : Int32)) := W65
    have G65 : own_IA Z h65 r1 3 (fun i => if i = 0 then (0 : Int32) else (fun _ => 0) i) := P_r1.set V65 (by decide) (fun _ _ => rfl)
    have q68 := G65
    obtain ⟨cA68, AA68, EA68, SA68, HA68⟩ := q68
    obtain ⟨T69, h69, X69, e69, W69, st69⟩ := stI X65 hx hZ e65 AA68 (j := (1 : Int32)) (own_inb (j := 1) SA68 (by decide) (by decide)) (g := (mkF m 131 #[.val (.int xa), .val (.int xb), .val (.int xc), .val (.int xq), .val (.int xm), .val (.int (Int32.ofNat q0)), .val (.int (Int32.ofNat q1)), .val (.int (Int32.ofNat q2)), .val (.ref pa), .unset, .unset, .unset, .unset, .unset, .unset, .unset, .unset, .unset, .unset, .unset, .unset, .unset] [(.int (2 : Int32)), (.int (1 : Int32)), (.ref r1), (.ref r1), (.int (1 : Int32)), (.ref pm), (.ref pm)])) rfl rfl (hb hby at_131)
    have c70 : Steps p.tables e below S0 (T69.setTop (mkF m 132 #[.val (.int xa), .val (.int xb), .val (.int xc), .val (.int xq), .val (.int xm), .val (.int (Int32.ofNat q0)), .val (.int (Int32.ofNat q1)), .val (.int (Int32.ofNat q2)), .val (.ref pa), .unset, .unset, .unset, .unset, .unset, .unset, .unset, .unset, .unset, .unset, .unset, .unset, .unset] [(.ref r1), (.int (1 : Int32)), (.ref pm), (.ref pm)])) := c66.trans (by
     refine XS.dup X65.here hx rfl (hb hby at_128) rfl rfl ?_
     show Steps _ _ _ (.setTop _ (mkF _ 129 _ _)) _
     refine XS.iconst X65.here hx rfl (hb hby at_129) ?_
     show Steps _ _ _ (.setTop _ (mkF _ 130 _ _)) _
     refine XS.iconst X65.here hx rfl (hb hby at_130) ?_
     show Steps _ _ _ (.setTop _ (mkF _ 131 _ _)) _
     refine st69 _ ?_
     exact Steps.refl _)
    have f69_P_pa := f65_P_pa.other W69 ne_pa_r1
    have f69_R_pm := f65_R_pm.other W69 ne_pm_r1
    have f69_P_r0 := f65_P_r0.other W69 ne_r0_r1
    have K69 := K65.wr W69 (Or.inr sz_r1)
    have N69 := Fr.snoc X69 N65 g_r1
    have V69 : Wr h65 h69 r1 1 (.int (2 : Int32)) := W69
    have G69 : own_IA Z h69 r1 3 (fun i => if i = 1 then (2 : Int32) else (fun i => if i = 0 then (0 : Int32) else (fun _ => 0) i) i) := G65.set V69 (by decide) (fun _ _ => rfl)
    have q72 := G69
    obtain ⟨cA72, AA72, EA72, SA72, HA72⟩ := q72
    obtain ⟨T73, h73, X73, e73, W73, st73⟩ := stI X69 hx hZ e69 AA72 (j := (2 : Int32)) (own_inb (j := 2) SA72 (by decide) (by decide)) (g := (mkF m 135 #[.val (.int xa), .val (.int xb), .val (.int xc), .val (.int xq), .val (.int xm), .val (.int (Int32.ofNat q0)), .val (.int (Int32.ofNat q1)), .val (.int (Int32.ofNat q2)), .val (.ref pa), .unset, .unset, .unset, .unset, .unset, .unset, .unset, .unset, .unset, .unset, .unset, .unset, .unset] [(.int (1 : Int32)), (.int (2 : Int32)), (.ref r1), (.ref r1), (.int (1 : Int32)), (.ref pm), (.ref pm)])) rfl rfl (hb hby at_135)
    have c74 : Steps p.tables e below S0 (T73.setTop (mkF m 136 #[.val (.int xa), .val (.int xb), .val (.int xc), .val (.int xq), .val (.int xm), .val (.int (Int32.ofNat q0)), .val (.int (Int32.ofNat q1)), .val (.int (Int32.ofNat q2)), .val (.ref pa), .unset, .unset, .unset, .unset, .unset, .unset, .unset, .unset, .unset, .unset, .unset, .unset, .unset] [(.ref r1), (.int (1 : Int32)), (.ref pm), (.ref pm)])) := c70.trans (by
     refine XS.dup X69.here hx rfl (hb hby at_132) rfl rfl ?_
     show Steps _ _ _ (.setTop _ (mkF _ 133 _ _)) _
     refine XS.iconst X69.here hx rfl (hb hby at_133) ?_
     show Steps _ _ _ (.setTop _ (mkF _ 134 _ _)) _
     refine XS.iconst X69.here hx rfl (hb hby at_134) ?_
     show Steps _ _ _ (.setTop _ (mkF _ 135 _ _)) _
     refine st73 _ ?_
     exact Steps.refl _)
    have f73_P_pa := f69_P_pa.other W73 ne_pa_r1
    have f73_R_pm := f69_R_pm.other W73 ne_pm_r1
    have f73_P_r0 := f69_P_r0.other W73 ne_r0_r1
    have K73 := K69.wr W73 (Or.inr sz_r1)
    have N73 := Fr.snoc X73 N69 g_r1
    have V73 : Wr h69 h73 r1 2 (.int (1 : Int32)) := W73
    have G73 : own_IA Z h73 r1 3 (fun i => if i = 2 then (1 : Int32) else (fun i => if i = 1 then (2 : Int32) else (fun i => if i = 0 then (0 : Int32) else (fun _ => 0) i) i) i) := G69.set V73 (by decide) (fun _ _ => rfl)
    have Fr1 : own_IA Z h73 r1 3 (fun j => Int32.ofNat (own_pv 0 2 1 j)) := own_IA3 G73 rfl rfl rfl
    have q75 := f73_R_pm
    obtain ⟨cr75, Ar75, Or75, Sr75, Hr75⟩ := q75
    have p75 := Fr1
    obtain ⟨cd75, Ad75, Ed75, -⟩ := p75
    obtain ⟨T76, h76, X76, e76, W76, st76⟩ := stR X73 hx hZ e73 Ar75 (j := (1 : Int32)) (own_inb (j := 1) Sr75 (by decide) (by decide)) rfl (Sto.ofVA Ar75 rfl Or75 (Ins.self Ed75)) (g := (mkF m 136 #[.val (.int xa), .val (.int xb), .val (.int xc), .val (.int xq), .val (.int xm), .val (.int (Int32.ofNat q0)), .val (.int (Int32.ofNat q1)), .val (.int (Int32.ofNat q2)), .val (.ref pa), .unset, .unset, .unset, .unset, .unset, .unset, .unset, .unset, .unset, .unset, .unset, .unset, .unset] [(.ref r1), (.int (1 : Int32)), (.ref pm), (.ref pm)])) rfl rfl (hb hby at_136)
    have c77 : Steps p.tables e below S0 (T76.setTop (mkF m 137 #[.val (.int xa), .val (.int xb), .val (.int xc), .val (.int xq), .val (.int xm), .val (.int (Int32.ofNat q0)), .val (.int (Int32.ofNat q1)), .val (.int (Int32.ofNat q2)), .val (.ref pa), .unset, .unset, .unset, .unset, .unset, .unset, .unset, .unset, .unset, .unset, .unset, .unset, .unset] [(.ref pm)])) := c74.trans (by
     refine st76 _ ?_
     exact Steps.refl _)
    have f76_P_pa := f73_P_pa.other W76 ne_pa_pm
    have f76_P_r0 := f73_P_r0.other W76 (Ne.symm ne_pm_r0)
    have f76_P_r1 := Fr1.other W76 (Ne.symm ne_pm_r1)
    have K76 := K73.wr W76 (Or.inr sz_pm)
    have N76 := Fr.snoc X76 N73 g_pm
    have V76 : Wr h73 h76 pm 1 (.ref r1) := W76
    have G76 : own_RA Z .int "[I" h76 pm 6 (fun i => if i = 1 then .ref r1 else (fun i => if i = 0 then .ref r0 else (fun _ => Value.null) i) i) := f73_R_pm.set V76 (by decide) (fun _ _ => rfl)
    obtain ⟨T79, h79, k79, X79, e79, E79, A79, B79, st79⟩ := newPE X76 hx hZ (hw _ (own_m 2 rfl)) e76 (g := (mkF m 140 #[.val (.int xa), .val (.int xb), .val (.int xc), .val (.int xq), .val (.int xm), .val (.int (Int32.ofNat q0)), .val (.int (Int32.ofNat q1)), .val (.int (Int32.ofNat q2)), .val (.ref pa), .unset, .unset, .unset, .unset, .unset, .unset, .unset, .unset, .unset, .unset, .unset, .unset, .unset] [(.int (3 : Int32)), (.int (2 : Int32)), (.ref pm), (.ref pm)])) rfl (hb hby at_140) rfl (by decide) (cap := 3) (by decide) (by decide) (by decide) (by decide) (ad := "[I") (by decide)
    obtain ⟨r2, g79⟩ : ∃ z, z = h76.size := ⟨_, rfl⟩
    have ne_pa_r2 : pa ≠ r2 := Nat.ne_of_lt (Nat.lt_of_lt_of_le f76_P_pa.lt (Nat.le_of_eq g79.symm))
    have ne_pm_r2 : pm ≠ r2 := Nat.ne_of_lt (Nat.lt_of_lt_of_le G76.lt (Nat.le_of_eq g79.symm))
    have ne_r0_r2 : r0 ≠ r2 := Nat.ne_of_lt (Nat.lt_of_lt_of_le f76_P_r0.lt (Nat.le_of_eq g79.symm))
    have ne_r1_r2 : r1 ≠ r2 := Nat.ne_of_lt (Nat.lt_of_lt_of_le f76_P_r1.lt (Nat.le_of_eq g79.symm))
    have sz_r2 : h0.size ≤ r2 := Nat.le_trans K76.1 (Nat.le_of_eq g79.symm)
    have g_r2 : n0 ≤ r2 := Nat.le_trans Z0 sz_r2
    rw [← g79] at A79 B79 st79
    have c80 : Steps p.tables e below S0 (T79.setTop (mkF m 142 #[.val (.int xa), .val (.int xb), .val (.int xc), .val (.int xq), .val (.int xm), .val (.int (Int32.ofNat q0)), .val (.int (Int32.ofNat q1)), .val (.int (Int32.ofNat q2)), .val (.ref pa), .unset, .unset, .unset, .unset, .unset, .unset, .unset, .unset, .unset, .unset, .unset, .unset, .unset] [(.ref r2), (.int (2 : Int32)), (.ref pm), (.ref pm)])) := c77.trans (by
     refine XS.dup X76.here hx rfl (hb hby at_137) rfl rfl ?_
     show Steps _ _ _ (.setTop _ (mkF _ 138 _ _)) _
     refine XS.iconst X76.here hx rfl (hb hby at_138) ?_
     show Steps _ _ _ (.setTop _ (mkF _ 139 _ _)) _
     refine XS.iconst X76.here hx rfl (hb hby at_139) ?_
     show Steps _ _ _ (.setTop _ (mkF _ 140 _ _)) _
     refine st79 _ ?_
     exact Steps.refl _)
    have f79_P_pa := f76_P_pa.ext E79
    have f79_R_pm := G76.ext E79
    have f79_P_r0 := f76_P_r0.ext E79
    have f79_P_r1 := f76_P_r1.ext E79
    have K79 := K76.ext E79
    have P_r2 : own_IA Z h79 r2 3 (fun _ => 0) := ⟨_, A79, B79, by rw [sz_new]; rfl, fun i hi => by show (Array.replicate 3 (Value.int 0))[i]? = _; simp [hi]⟩
    have q82 := P_r2
    obtain ⟨cA82, AA82, EA82, SA82, HA82⟩ := q82
    obtain ⟨T83, h83, X83, e83, W83, st83⟩ := stI X79 hx hZ e79 AA82 (j := (0 : Int32)) (own_inb (j := 0) SA82 (by decide) (by decide)) (g := (mkF m 145 #[.val (.int xa), .val (.int xb), .val (.int xc), .val (.int xq), .val (.int xm), .val (.int (Int32.ofNat q0)), .val (.int (Int32.ofNat q1)), .val (.int (Int32.ofNat q2)), .val (.ref pa), .unset, .unset, .unset, .unset, .unset, .unset, .unset, .unset, .unset, .unset, .unset, .unset, .unset] [(.int (1 : Int32)), (.int (0 : Int32)), (.ref r2), (.ref r2), (.int (2 : Int32)), (.ref pm), (.ref pm)])) rfl rfl (hb hby at_145)
    have c84 : Steps p.tables e below S0 (T83.setTop (mkF m 146 #[.val (.int xa), .val (.int xb), .val (.int xc), .val (.int xq), .val (.int xm), .val (.int (Int32.ofNat q0)), .val (.int (Int32.ofNat q1)), .val (.int (Int32.ofNat q2)), .val (.ref pa), .unset, .unset, .unset, .unset, .unset, .unset, .unset, .unset, .unset, .unset, .unset, .unset, .unset] [(.ref r2), (.int (2 : Int32)), (.ref pm), (.ref pm)])) := c80.trans (by
     refine XS.dup X79.here hx rfl (hb hby at_142) rfl rfl ?_
     show Steps _ _ _ (.setTop _ (mkF _ 143 _ _)) _
     refine XS.iconst X79.here hx rfl (hb hby at_143) ?_
     show Steps _ _ _ (.setTop _ (mkF _ 144 _ _)) _
     refine XS.iconst X79.here hx rfl (hb hby at_144) ?_
     show Steps _ _ _ (.setTop _ (mkF _ 145 _ _)) _
     refine st83 _ ?_
     exact Steps.refl _)
    have f83_P_pa := f79_P_pa.other W83 ne_pa_r2
    have f83_R_pm := f79_R_pm.other W83 ne_pm_r2
    have f83_P_r0 := f79_P_r0.other W83 ne_r0_r2
    have f83_P_r1 := f79_P_r1.other W83 ne_r1_r2
    have K83 := K79.wr W83 (Or.inr sz_r2)
    have N83 := Fr.snoc X83 N76 g_r2
    have V83 : Wr h79 h83 r2 0 (.int (1 : Int32)) := W83
    have G83 : own_IA Z h83 r2 3 (fun i => if i = 0 then (1 : Int32) else (fun _ => 0) i) := P_r2.set V83 (by decide) (fun _ _ => rfl)
    have q86 := G83
    obtain ⟨cA86, AA86, EA86, SA86, HA86⟩ := q86
    obtain ⟨T87, h87, X87, e87, W87, st87⟩ := stI X83 hx hZ e83 AA86 (j := (1 : Int32)) (own_inb (j := 1) SA86 (by decide) (by decide)) (g := (mkF m 149 #[.val (.int xa), .val (.int xb), .val (.int xc), .val (.int xq), .val (.int xm), .val (.int (Int32.ofNat q0)), .val (.int (Int32.ofNat q1)), .val (.int (Int32.ofNat q2)), .val (.ref pa), .unset, .unset, .unset, .unset, .unset, .unset, .unset, .unset, .unset, .unset, .unset, .unset, .unset] [(.int (0 : Int32)), (.int (1 : Int32)), (.ref r2), (.ref r2), (.int (2 : Int32)), (.ref pm), (.ref pm)])) rfl rfl (hb hby at_149)
    have c88 : Steps p.tables e below S0 (T87.setTop (mkF m 150 #[.val (.int xa), .val (.int xb), .val (.int xc), .val (.int xq), .val (.int xm), .val (.int (Int32.ofNat q0)), .val (.int (Int32.ofNat q1)), .val (.int (Int32.ofNat q2)), .val (.ref pa), .unset, .unset, .unset, .unset, .unset, .unset, .unset, .unset, .unset, .unset, .unset, .unset, .unset] [(.ref r2), (.int (2 : Int32)), (.ref pm), (.ref pm)])) := c84.trans (by
     refine XS.dup X83.here hx rfl (hb hby at_146) rfl rfl ?_
     show Steps _ _ _ (.setTop _ (mkF _ 147 _ _)) _
     refine XS.iconst X83.here hx rfl (hb hby at_147) ?_
     show Steps _ _ _ (.setTop _ (mkF _ 148 _ _)) _
     refine XS.iconst X83.here hx rfl (hb hby at_148) ?_
     show Steps _ _ _ (.setTop _ (mkF _ 149 _ _)) _
     refine st87 _ ?_
     exact Steps.refl _)
    have f87_P_pa := f83_P_pa.other W87 ne_pa_r2
    have f87_R_pm := f83_R_pm.other W87 ne_pm_r2
    have f87_P_r0 := f83_P_r0.other W87 ne_r0_r2
    have f87_P_r1 := f83_P_r1.other W87 ne_r1_r2
    have K87 := K83.wr W87 (Or.inr sz_r2)
    have N87 := Fr.snoc X87 N83 g_r2
    have V87 : Wr h83 h87 r2 1 (.int (0 : Int32)) := W87
    have G87 : own_IA Z h87 r2 3 (fun i => if i = 1 then (0 : Int32) else (fun i => if i = 0 then (1 : Int32) else (fun _ => 0) i) i) := G83.set V87 (by decide) (fun _ _ => rfl)
    have q90 := G87
    obtain ⟨cA90, AA90, EA90, SA90, HA90⟩ := q90
    obtain ⟨T91, h91, X91, e91, W91, st91⟩ := stI X87 hx hZ e87 AA90 (j := (2 : Int32)) (own_inb (j := 2) SA90 (by decide) (by decide)) (g := (mkF m 153 #[.val (.int xa), .val (.int xb), .val (.int xc), .val (.int xq), .val (.int xm), .val (.int (Int32.ofNat q0)), .val (.int (Int32.ofNat q1)), .val (.int (Int32.ofNat q2)), .val (.ref pa), .unset, .unset, .unset, .unset, .unset, .unset, .unset, .unset, .unset, .unset, .unset, .unset, .unset] [(.int (2 : Int32)), (.int (2 : Int32)), (.ref r2), (.ref r2), (.int (2 : Int32)), (.ref pm), (.ref pm)])) rfl rfl (hb hby at_153)
    have c92 : Steps p.tables e below S0 (T91.setTop (mkF m 154 #[.val (.int xa), .val (.int xb), .val (.int xc), .val (.int xq), .val (.int xm), .val (.int (Int32.ofNat q0)), .val (.int (Int32.ofNat q1)), .val (.int (Int32.ofNat q2)), .val (.ref pa), .unset, .unset, .unset, .unset, .unset, .unset, .unset, .unset, .unset, .unset, .unset, .unset, .unset] [(.ref r2), (.int (2 : Int32)), (.ref pm), (.ref pm)])) := c88.trans (by
     refine XS.dup X87.here hx rfl (hb hby at_150) rfl rfl ?_
     show Steps _ _ _ (.setTop _ (mkF _ 151 _ _)) _
     refine XS.iconst X87.here hx rfl (hb hby at_151) ?_
     show Steps _ _ _ (.setTop _ (mkF _ 152 _ _)) _
     refine XS.iconst X87.here hx rfl (hb hby at_152) ?_
     show Steps _ _ _ (.setTop _ (mkF _ 153 _ _)) _
     refine st91 _ ?_
     exact Steps.refl _)
    have f91_P_pa := f87_P_pa.other W91 ne_pa_r2
    have f91_R_pm := f87_R_pm.other W91 ne_pm_r2
    have f91_P_r0 := f87_P_r0.other W91 ne_r0_r2
    have f91_P_r1 := f87_P_r1.other W91 ne_r1_r2
    have K91 := K87.wr W91 (Or.inr sz_r2)
    have N91 := Fr.snoc X91 N87 g_r2
    have V91 : Wr h87 h91 r2 2 (.int (2 : Int32)) := W91
    have G91 : own_IA Z h91 r2 3 (fun i => if i = 2 then (2 : Int32) else (fun i => if i = 1 then (0 : Int32) else (fun i => if i = 0 then (1 : Int32) else (fun _ => 0) i) i) i) := G87.set V91 (by decide) (fun _ _ => rfl)
    have Fr2 : own_IA Z h91 r2 3 (fun j => Int32.ofNat (own_pv 1 0 2 j)) := own_IA3 G91 rfl rfl rfl
    have q93 := f91_R_pm
    obtain ⟨cr93, Ar93, Or93, Sr93, Hr93⟩ := q93
    have p93 := Fr2
    obtain ⟨cd93, Ad93, Ed93, -⟩ := p93
    obtain ⟨T94, h94, X94, e94, W94, st94⟩ := stR X91 hx hZ e91 Ar93 (j := (2 : Int32)) (own_inb (j := 2) Sr93 (by decide) (by decide)) rfl (Sto.ofVA Ar93 rfl Or93 (Ins.self Ed93)) (g := (mkF m 154 #[.val (.int xa), .val (.int xb), .val (.int xc), .val (.int xq), .val (.int xm), .val (.int (Int32.ofNat q0)), .val (.int (Int32.ofNat q1)), .val (.int (Int32.ofNat q2)), .val (.ref pa), .unset, .unset, .unset, .unset, .unset, .unset, .unset, .unset, .unset, .unset, .unset, .unset, .unset] [(.ref r2), (.int (2 : Int32)), (.ref pm), (.ref pm)])) rfl rfl (hb hby at_154)
    have c95 : Steps p.tables e below S0 (T94.setTop (mkF m 155 #[.val (.int xa), .val (.int xb), .val (.int xc), .val (.int xq), .val (.int xm), .val (.int (Int32.ofNat q0)), .val (.int (Int32.ofNat q1)), .val (.int (Int32.ofNat q2)), .val (.ref pa), .unset, .unset, .unset, .unset, .unset, .unset, .unset, .unset, .unset, .unset, .unset, .unset, .unset] [(.ref pm)])) := c92.trans (by
     refine st94 _ ?_
     exact Steps.refl _)
    have f94_P_pa := f91_P_pa.other W94 ne_pa_pm
    have f94_P_r0 := f91_P_r0.other W94 (Ne.symm ne_pm_r0)
    have f94_P_r1 := f91_P_r1.other W94 (Ne.symm ne_pm_r1)
    have f94_P_r2 := Fr2.other W94 (Ne.symm ne_pm_r2)
    have K94 := K91.wr W94 (Or.inr sz_pm)
    have N94 := Fr.snoc X94 N91 g_pm
    have V94 : Wr h91 h94 pm 2 (.ref r2) := W94
    have G94 : own_RA Z .int "[I" h94 pm 6 (fun i => if i = 2 then .ref r2 else (fun i => if i = 1 then .ref r1 else (fun i => if i = 0 then .ref r0 else (fun _ => Value.null) i) i) i) := f91_R_pm.set V94 (by decide) (fun _ _ => rfl)
    obtain ⟨T97, h97, k97, X97, e97, E97, A97, B97, st97⟩ := newPE X94 hx hZ (hw _ (own_m 2 rfl)) e94 (g := (mkF m 158 #[.val (.int xa), .val (.int xb), .val (.int xc), .val (.int xq), .val (.int xm), .val (.int (Int32.ofNat q0)), .val (.int (Int32.ofNat q1)), .val (.int (Int32.ofNat q2)), .val (.ref pa), .unset, .unset, .unset, .unset, .unset, .unset, .unset, .unset, .unset, .unset, .unset, .unset, .unset] [(.int (3 : Int32)), (.int (3 : Int32)), (.ref pm), (.ref pm)])) rfl (hb hby at_158) rfl (by decide) (cap := 3) (by decide) (by decide) (by decide) (by decide) (ad := "[I") (by decide)
    obtain ⟨r3, g97⟩ : ∃ z, z = h94.size := ⟨_, rfl⟩
    have ne_pa_r3 : pa ≠ r3 := Nat.ne_of_lt (Nat.lt_of_lt_of_le f94_P_pa.lt (Nat.le_of_eq g97.symm))
    have ne_pm_r3 : pm ≠ r3 := Nat.ne_of_lt (Nat.lt_of_lt_of_le G94.lt (Nat.le_of_eq g97.symm))
    have ne_r0_r3 : r0 ≠ r3 := Nat.ne_of_lt (Nat.lt_of_lt_of_le f94_P_r0.lt (Nat.le_of_eq g97.symm))
    have ne_r1_r3 : r1 ≠ r3 := Nat.ne_of_lt (Nat.lt_of_lt_of_le f94_P_r1.lt (Nat.le_of_eq g97.symm))
    have ne_r2_r3 : r2 ≠ r3 := Nat.ne_of_lt (Nat.lt_of_lt_of_le f94_P_r2.lt (Nat.le_of_eq g97.symm))
    have sz_r3 : h0.size ≤ r3 := Nat.le_trans K94.1 (Nat.le_of_eq g97.symm)
    have g_r3 : n0 ≤ r3 := Nat.le_trans Z0 sz_r3
    rw [← g97] at A97 B97 st97
    have c98 : Steps p.tables e below S0 (T97.setTop (mkF m 160 #[.val (.int xa), .val (.int xb), .val (.int xc), .val (.int xq), .val (.int xm), .val (.int (Int32.ofNat q0)), .val (.int (Int32.ofNat q1)), .val (.int (Int32.ofNat q2)), .val (.ref pa), .unset, .unset, .unset, .unset, .unset, .unset, .unset, .unset, .unset, .unset, .unset, .unset, .unset] [(.ref r3), (.int (3 : Int32)), (.ref pm), (.ref pm)])) := c95.trans (by
     refine XS.dup X94.here hx rfl (hb hby at_155) rfl rfl ?_
     show Steps _ _ _ (.setTop _ (mkF _ 156 _ _)) _
     refine XS.iconst X94.here hx rfl (hb hby at_156) ?_
     show Steps _ _ _ (.setTop _ (mkF _ 157 _ _)) _
     refine XS.iconst X94.here hx rfl (hb hby at_157) ?_
     show Steps _ _ _ (.setTop _ (mkF _ 158 _ _)) _
     refine st97 _ ?_
     exact Steps.refl _)
    have f97_P_pa := f94_P_pa.ext E97
    have f97_R_pm := G94.ext E97
    have f97_P_r0 := f94_P_r0.ext E97
    have f97_P_r1 := f94_P_r1.ext E97
    have f97_P_r2 := f94_P_r2.ext E97
    have K97 := K94.ext E97
    have P_r3 : own_IA Z h97 r3 3 (fun _ => 0) := ⟨_, A97, B97, by rw [sz_new]; rfl, fun i hi => by show (Array.replicate 3 (Value.int 0))[i]? = _; simp [hi]⟩
    have q100 := P_r3
    obtain ⟨cA100, AA100, EA100, SA100, HA100⟩ := q100
    obtain ⟨T101, h101, X101, e101, W101, st101⟩ := stI X97 hx hZ e97 AA100 (j := (0 : Int32)) (own_inb (j := 0) SA100 (by decide) (by decide)) (g := (mkF m 163 #[.val (.int xa), .val (.int xb), .val (.int xc), .val (.int xq), .val (.int xm), .val (.int (Int32.ofNat q0)), .val (.int (Int32.ofNat q1)), .val (.int (Int32.ofNat q2)), .val (.ref pa), .unset, .unset, .unset, .unset, .unset, .unset, .unset, .unset, .unset, .unset, .unset, .unset, .unset] [(.int (1 : Int32)), (.int (0 : Int32)), (.ref r3), (.ref r3), (.int (3 : Int32)), (.ref pm), (.ref pm)])) rfl rfl (hb hby at_163)
    have c102 : Steps p.tables e below S0 (T101.setTop (mkF m 164 #[.val (.int xa), .val (.int xb), .val (.int xc), .val (.int xq), .val (.int xm), .val (.int (Int32.ofNat q0)), .val (.int (Int32.ofNat q1)), .val (.int (Int32.ofNat q2)), .val (.ref pa), .unset, .unset, .unset, .unset, .unset, .unset, .unset, .unset, .unset, .unset, .unset, .unset, .unset] [(.ref r3), (.int (3 : Int32)), (.ref pm), (.ref pm)])) := c98.trans (by
     refine XS.dup X97.here hx rfl (hb hby at_160) rfl rfl ?_
     show Steps _ _ _ (.setTop _ (mkF _ 161 _ _)) _
     refine XS.iconst X97.here hx rfl (hb hby at_161) ?_
     show Steps _ _ _ (.setTop _ (mkF _ 162 _ _)) _
     refine XS.iconst X97.here hx rfl (hb hby at_162) ?_
     show Steps _ _ _ (.setTop _ (mkF _ 163 _ _)) _
     refine st101 _ ?_
     exact Steps.refl _)
    have f101_P_pa := f97_P_pa.other W101 ne_pa_r3
    have f101_R_pm := f97_R_pm.other W101 ne_pm_r3
    have f101_P_r0 := f97_P_r0.other W101 ne_r0_r3
    have f101_P_r1 := f97_P_r1.other W101 ne_r1_r3
    have f101_P_r2 := f97_P_r2.other W101 ne_r2_r3
    have K101 := K97.wr W101 (Or.inr sz_r3)
    have N101 := Fr.snoc X101 N94 g_r3
    have V101 : Wr h97 h101 r3 0 (.int (1 : Int32)) := W101
    have G101 : own_IA Z h101 r3 3 (fun i => if i = 0 then (1 : Int32) else (fun _ => 0) i) := P_r3.set V101 (by decide) (fun _ _ => rfl)
    have q104 := G101
    obtain ⟨cA104, AA104, EA104, SA104, HA104⟩ := q104
    obtain ⟨T105, h105, X105, e105, W105, st105⟩ := stI X101 hx hZ e101 AA104 (j := (1 : Int32)) (own_inb (j := 1) SA104 (by decide) (by decide)) (g := (mkF m 167 #[.val (.int xa), .val (.int xb), .val (.int xc), .val (.int xq), .val (.int xm), .val (.int (Int32.ofNat q0)), .val (.int (Int32.ofNat q1)), .val (.int (Int32.ofNat q2)), .val (.ref pa), .unset, .unset, .unset, .unset, .unset, .unset, .unset, .unset, .unset, .unset, .unset, .unset, .unset] [(.int (2 : Int32)), (.int (1 : Int32)), (.ref r3), (.ref r3), (.int (3 : Int32)), (.ref pm), (.ref pm)])) rfl rfl (hb hby at_167)
    have c106 : Steps p.tables e below S0 (T105.setTop (mkF m 168 #[.val (.int xa), .val (.int xb), .val (.int xc), .val (.int xq), .val (.int xm), .val (.int (Int32.ofNat q0)), .val (.int (Int32.ofNat q1)), .val (.int (Int32.ofNat q2)), .val (.ref pa), .unset, .unset, .unset, .unset, .unset, .unset, .unset, .unset, .unset, .unset, .unset, .unset, .unset] [(.ref r3), (.int (3 : Int32)), (.ref pm), (.ref pm)])) := c102.trans (by
     refine XS.dup X101.here hx rfl (hb hby at_164) rfl rfl ?_
     show Steps _ _ _ (.setTop _ (mkF _ 165 _ _)) _
     refine XS.iconst X101.here hx rfl (hb hby at_165) ?_
     show Steps _ _ _ (.setTop _ (mkF _ 166 _ _)) _
     refine XS.iconst X101.here hx rfl (hb hby at_166) ?_
     show Steps _ _ _ (.setTop _ (mkF _ 167 _ _)) _
     refine st105 _ ?_
     exact Steps.refl _)
    have f105_P_pa := f101_P_pa.other W105 ne_pa_r3
    have f105_R_pm := f101_R_pm.other W105 ne_pm_r3
    have f105_P_r0 := f101_P_r0.other W105 ne_r0_r3
    have f105_P_r1 := f101_P_r1.other W105 ne_r1_r3
    have f105_P_r2 := f101_P_r2.other W105 ne_r2_r3
    have K105 := K101.wr W105 (Or.inr sz_r3)
    have N105 := Fr.snoc X105 N101 g_r3
    have V105 : Wr h101 h105 r3 1 (.int (2 : Int32)) := W105
    have G105 : own_IA Z h105 r3 3 (fun i => if i = 1 then (2 : Int32) else (fun i => if i = 0 then (1 : Int32) else (fun _ => 0) i) i) := G101.set V105 (by decide) (fun _ _ => rfl)
    have q108 := G105
    obtain ⟨cA108, AA108, EA108, SA108, HA108⟩ := q108
    obtain ⟨T109, h109, X109, e109, W109, st109⟩ := stI X105 hx hZ e105 AA108 (j := (2 : Int32)) (own_inb (j := 2) SA108 (by decide) (by decide)) (g := (mkF m 171 #[.val (.int xa), .val (.int xb), .val (.int xc), .val (.int xq), .val (.int xm), .val (.int (Int32.ofNat q0)), .val (.int (Int32.ofNat q1)), .val (.int (Int32.ofNat q2)), .val (.ref pa), .unset, .unset, .unset, .unset, .unset, .unset, .unset, .unset, .unset, .unset, .unset, .unset, .unset] [(.int (0 : Int32)), (.int (2 : Int32)), (.ref r3), (.ref r3), (.int (3 : Int32)), (.ref pm), (.ref pm)])) rfl rfl (hb hby at_171)
    have c110 : Steps p.tables e below S0 (T109.setTop (mkF m 172 #[.val (.int xa), .val (.int xb), .val (.int xc), .val (.int xq), .val (.int xm), .val (.int (Int32.ofNat q0)), .val (.int (Int32.ofNat q1)), .val (.int (Int32.ofNat q2)), .val (.ref pa), .unset, .unset, .unset, .unset, .unset, .unset, .unset, .unset, .unset, .unset, .unset, .unset, .unset] [(.ref r3), (.int (3 : Int32)), (.ref pm), (.ref pm)])) := c106.trans (by
     refine XS.dup X105.here hx rfl (hb hby at_168) rfl rfl ?_
     show Steps _ _ _ (.setTop _ (mkF _ 169 _ _)) _
     refine XS.iconst X105.here hx rfl (hb hby at_169) ?_
     show Steps _ _ _ (.setTop _ (mkF _ 170 _ _)) _
     refine XS.iconst X105.here hx rfl (hb hby at_170) ?_
     show Steps _ _ _ (.setTop _ (mkF _ 171 _ _)) _
     refine st109 _ ?_
     exact Steps.refl _)
    have f109_P_pa := f105_P_pa.other W109 ne_pa_r3
    have f109_R_pm := f105_R_pm.other W109 ne_pm_r3
    have f109_P_r0 := f105_P_r0.other W109 ne_r0_r3
    have f109_P_r1 := f105_P_r1.other W109 ne_r1_r3
    have f109_P_r2 := f105_P_r2.other W109 ne_r2_r3
    have K109 := K105.wr W109 (Or.inr sz_r3)
    have N109 := Fr.snoc X109 N105 g_r3
    have V109 : Wr h105 h109 r3 2 (.int (0 : Int32)) := W109
    have G109 : own_IA Z h109 r3 3 (fun i => if i = 2 then (0 : Int32) else (fun i => if i = 1 then (2 : Int32) else (fun i => if i = 0 then (1 : Int32) else (fun _ => 0) i) i) i) := G105.set V109 (by decide) (fun _ _ => rfl)
    have Fr3 : own_IA Z h109 r3 3 (fun j => Int32.ofNat (own_pv 1 2 0 j)) := own_IA3 G109 rfl rfl rfl
    have q111 := f109_R_pm
    obtain ⟨cr111, Ar111, Or111, Sr111, Hr111⟩ := q111
    have p111 := Fr3
    obtain ⟨cd111, Ad111, Ed111, -⟩ := p111
    obtain ⟨T112, h112, X112, e112, W112, st112⟩ := stR X109 hx hZ e109 Ar111 (j := (3 : Int32)) (own_inb (j := 3) Sr111 (by decide) (by decide)) rfl (Sto.ofVA Ar111 rfl Or111 (Ins.self Ed111)) (g := (mkF m 172 #[.val (.int xa), .val (.int xb), .val (.int xc), .val (.int xq), .val (.int xm), .val (.int (Int32.ofNat q0)), .val (.int (Int32.ofNat q1)), .val (.int (Int32.ofNat q2)), .val (.ref pa), .unset, .unset, .unset, .unset, .unset, .unset, .unset, .unset, .unset, .unset, .unset, .unset, .unset] [(.ref r3), (.int (3 : Int32)), (.ref pm), (.ref pm)])) rfl rfl (hb hby at_172)
    have c113 : Steps p.tables e below S0 (T112.setTop (mkF m 173 #[.val (.int xa), .val (.int xb), .val (.int xc), .val (.int xq), .val (.int xm), .val (.int (Int32.ofNat q0)), .val (.int (Int32.ofNat q1)), .val (.int (Int32.ofNat q2)), .val (.ref pa), .unset, .unset, .unset, .unset, .unset, .unset, .unset, .unset, .unset, .unset, .unset, .unset, .unset] [(.ref pm)])) := c110.trans (by
     refine st112 _ ?_
     exact Steps.refl _)
    have f112_P_pa := f109_P_pa.other W112 ne_pa_pm
    have f112_P_r0 := f109_P_r0.other W112 (Ne.symm ne_pm_r0)
    have f112_P_r1 := f109_P_r1.other W112 (Ne.symm ne_pm_r1)
    have f112_P_r2 := f109_P_r2.other W112 (Ne.symm ne_pm_r2)
    have f112_P_r3 := Fr3.other W112 (Ne.symm ne_pm_r3)
    have K112 := K109.wr W112 (Or.inr sz_pm)
    have N112 := Fr.snoc X112 N109 g_pm
    have V112 : Wr h109 h112 pm 3 (.ref r3) := W112
    have G112 : own_RA Z .int "[I" h112 pm 6 (fun i => if i = 3 then .ref r3 else (fun i => if i = 2 then .ref r2 else (fun i => if i = 1 then .ref r1 else (fun i => if i = 0 then .ref r0 else (fun _ => Value.null) i) i) i) i) := f109_R_pm.set V112 (by decide) (fun _ _ => rfl)
    obtain ⟨T115, h115, k115, X115, e115, E115, A115, B115, st115⟩ := newPE X112 hx hZ (hw _ (own_m 2 rfl)) e112 (g := (mkF m 176 #[.val (.int xa), .val (.int xb), .val (.int xc), .val (.int xq), .val (.int xm), .val (.int (Int32.ofNat q0)), .val (.int (Int32.ofNat q1)), .val (.int (Int32.ofNat q2)), .val (.ref pa), .unset, .unset, .unset, .unset, .unset, .unset, .unset, .unset, .unset, .unset, .unset, .unset, .unset] [(.int (3 : Int32)), (.int (4 : Int32)), (.ref pm), (.ref pm)])) rfl (hb hby at_176) rfl (by decide) (cap := 3) (by decide) (by decide) (by decide) (by decide) (ad := "[I") (by decide)
    obtain ⟨r4, g115⟩ : ∃ z, z = h112.size := ⟨_, rfl⟩
    have ne_pa_r4 : pa ≠ r4 := Nat.ne_of_lt (Nat.lt_of_lt_of_le f112_P_pa.lt (Nat.le_of_eq g115.symm))
    have ne_pm_r4 : pm ≠ r4 := Nat.ne_of_lt (Nat.lt_of_lt_of_le G112.lt (Nat.le_of_eq g115.symm))
    have ne_r0_r4 : r0 ≠ r4 := Nat.ne_of_lt (Nat.lt_of_lt_of_le f112_P_r0.lt (Nat.le_of_eq g115.symm))
    have ne_r1_r4 : r1 ≠ r4 := Nat.ne_of_lt (Nat.lt_of_lt_of_le f112_P_r1.lt (Nat.le_of_eq g115.symm))
    have ne_r2_r4 : r2 ≠ r4 := Nat.ne_of_lt (Nat.lt_of_lt_of_le f112_P_r2.lt (Nat.le_of_eq g115.symm))
    have ne_r3_r4 : r3 ≠ r4 := Nat.ne_of_lt (Nat.lt_of_lt_of_le f112_P_r3.lt (Nat.le_of_eq g115.symm))
    have sz_r4 : h0.size ≤ r4 := Nat.le_trans K112.1 (Nat.le_of_eq g115.symm)
    have g_r4 : n0 ≤ r4 := Nat.le_trans Z0 sz_r4
    rw [← g115] at A115 B115 st115
    have c116 : Steps p.tables e below S0 (T115.setTop (mkF m 178 #[.val (.int xa), .val (.int xb), .val (.int xc), .val (.int xq), .val (.int xm), .val (.int (Int32.ofNat q0)), .val (.int (Int32.ofNat q1)), .val (.int (Int32.ofNat q2)), .val (.ref pa), .unset, .unset, .unset, .unset, .unset, .unset, .unset, .unset, .unset, .unset, .unset, .unset, .unset] [(.ref r4), (.int (4 : Int32)), (.ref pm), (.ref pm)])) := c113.trans (by
     refine XS.dup X112.here hx rfl (hb hby at_173) rfl rfl ?_
     show Steps _ _ _ (.setTop _ (mkF _ 174 _ _)) _
     refine XS.iconst X112.here hx rfl (hb hby at_174) ?_
     show Steps _ _ _ (.setTop _ (mkF _ 175 _ _)) _
     refine XS.iconst X112.here hx rfl (hb hby at_175) ?_
     show Steps _ _ _ (.setTop _ (mkF _ 176 _ _)) _
     refine st115 _ ?_
     exact Steps.refl _)
    have f115_P_pa := f112_P_pa.ext E115
    have f115_R_pm := G112.ext E115
    have f115_P_r0 := f112_P_r0.ext E115
    have f115_P_r1 := f112_P_r1.ext E115
    have f115_P_r2 := f112_P_r2.ext E115
    have f115_P_r3 := f112_P_r3.ext E115
    have K115 := K112.ext E115
    have P_r4 : own_IA Z h115 r4 3 (fun _ => 0) := ⟨_, A115, B115, by rw [sz_new]; rfl, fun i hi => by show (Array.replicate 3 (Value.int 0))[i]? = _; simp [hi]⟩
    have q118 := P_r4
    obtain ⟨cA118, AA118, EA118, SA118, HA118⟩ := q118
    obtain ⟨T119, h119, X119, e119, W119, st119⟩ := stI X115 hx hZ e115 AA118 (j := (0 : Int32)) (own_inb (j := 0) SA118 (by decide) (by decide)) (g := (mkF m 181 #[.val (.int xa), .val (.int xb), .val (.int xc), .val (.int xq), .val (.int xm), .val (.int (Int32.ofNat q0)), .val (.int (Int32.ofNat q1)), .val (.int (Int32.ofNat q2)), .val (.ref pa), .unset, .unset, .unset, .unset, .unset, .unset, .unset, .unset, .unset, .unset, .unset, .unset, .unset] [(.int (2 : Int32)), (.int (0 : Int32)), (.ref r4), (.ref r4), (.int (4 : Int32)), (.ref pm), (.ref pm)])) rfl rfl (hb hby at_181)
    have c120 : Steps p.tables e below S0 (T119.setTop (mkF m 182 #[.val (.int xa), .val (.int xb), .val (.int xc), .val (.int xq), .val (.int xm), .val (.int (Int32.ofNat q0)), .val (.int (Int32.ofNat q1)), .val (.int (Int32.ofNat q2)), .val (.ref pa), .unset, .unset, .unset, .unset, .unset, .unset, .unset, .unset, .unset, .unset, .unset, .unset, .unset] [(.ref r4), (.int (4 : Int32)), (.ref pm), (.ref pm)])) := c116.trans (by
     refine XS.dup X115.here hx rfl (hb hby at_178) rfl rfl ?_
     show Steps _ _ _ (.setTop _ (mkF _ 179 _ _)) _
     refine XS.iconst X115.here hx rfl (hb hby at_179) ?_
     show Steps _ _ _ (.setTop _ (mkF _ 180 _ _)) _
     refine XS.iconst X115.here hx rfl (hb hby at_180) ?_
     show Steps _ _ _ (.setTop _ (mkF _ 181 _ _)) _
     refine st119 _ ?_
     exact Steps.refl _)
    have f119_P_pa := f115_P_pa.other W119 ne_pa_r4
    have f119_R_pm := f115_R_pm.other W119 ne_pm_r4
    have f119_P_r0 := f115_P_r0.other W119 ne_r0_r4
    have f119_P_r1 := f115_P_r1.other W119 ne_r1_r4
    have f119_P_r2 := f115_P_r2.other W119 ne_r2_r4
    have f119_P_r3 := f115_P_r3.other W119 ne_r3_r4
    have K119 := K115.wr W119 (Or.inr sz_r4)
    have N119 := Fr.snoc X119 N112 g_r4
    have V119 : Wr h115 h119 r4 0 (.int (2 : Int32)) := W119
    have G119 : own_IA Z h119 r4 3 (fun i => if i = 0 then (2 : Int32) else (fun _ => 0) i) := P_r4.set V119 (by decide) (fun _ _ => rfl)
    have q122 := G119
    obtain ⟨cA122, AA122, EA122, SA122, HA122⟩ := q122
    obtain ⟨T123, h123, X123, e123, W123, st123⟩ := stI X119 hx hZ e119 AA122 (j := (1 : Int32)) (own_inb (j := 1) SA122 (by decide) (by decide)) (g := (mkF m 185 #[.val (.int xa), .val (.int xb), .val (.int xc), .val (.int xq), .val (.int xm), .val (.int (Int32.ofNat q0)), .val (.int (Int32.ofNat q1)), .val (.int (Int32.ofNat q2)), .val (.ref pa), .unset, .unset, .unset, .unset, .unset, .unset, .unset, .unset, .unset, .unset, .unset, .unset, .unset] [(.int (0 : Int32)), (.int (1 : Int32)), (.ref r4), (.ref r4), (.int (4 : Int32)), (.ref pm), (.ref pm)])) rfl rfl (hb hby at_185)
    have c124 : Steps p.tables e below S0 (T123.setTop (mkF m 186 #[.val (.int xa), .val (.int xb), .val (.int xc), .val (.int xq), .val (.int xm), .val (.int (Int32.ofNat q0)), .val (.int (Int32.ofNat q1)), .val (.int (Int32.ofNat q2)), .val (.ref pa), .unset, .unset, .unset, .unset, .unset, .unset, .unset, .unset, .unset, .unset, .unset, .unset, .unset] [(.ref r4), (.int (4 : Int32)), (.ref pm), (.ref pm)])) := c120.trans (by
     refine XS.dup X119.here hx rfl (hb hby at_182) rfl rfl ?_
     show Steps _ _ _ (.setTop _ (mkF _ 183 _ _)) _
     refine XS.iconst X119.here hx rfl (hb hby at_183) ?_
     show Steps _ _ _ (.setTop _ (mkF _ 184 _ _)) _
     refine XS.iconst X119.here hx rfl (hb hby at_184) ?_
     show Steps _ _ _ (.setTop _ (mkF _ 185 _ _)) _
     refine st123 _ ?_
     exact Steps.refl _)
    have f123_P_pa := f119_P_pa.other W123 ne_pa_r4
    have f123_R_pm := f119_R_pm.other W123 ne_pm_r4
    have f123_P_r0 := f119_P_r0.other W123 ne_r0_r4
    have f123_P_r1 := f119_P_r1.other W123 ne_r1_r4
    have f123_P_r2 := f119_P_r2.other W123 ne_r2_r4
    have f123_P_r3 := f119_P_r3.other W123 ne_r3_r4
    have K123 := K119.wr W123 (Or.inr sz_r4)
    have N123 := Fr.snoc X123 N119 g_r4
    have V123 : Wr h119 h123 r4 1 (.int (0 : Int32)) := W123
    have G123 : own_IA Z h123 r4 3 (fun i => if i = 1 then (0 : Int32) else (fun i => if i = 0 then (2 : Int32) else (fun _ => 0) i) i) := G119.set V123 (by decide) (fun _ _ => rfl)
    have q126 := G123
    obtain ⟨cA126, AA126, EA126, SA126, HA126⟩ := q126
    obtain ⟨T127, h127, X127, e127, W127, st127⟩ := stI X123 hx hZ e123 AA126 (j := (2 : Int32)) (own_inb (j := 2) SA126 (by decide) (by decide)) (g := (mkF m 189 #[.val (.int xa), .val (.int xb), .val (.int xc), .val (.int xq), .val (.int xm), .val (.int (Int32.ofNat q0)), .val (.int (Int32.ofNat q1)), .val (.int (Int32.ofNat q2)), .val (.ref pa), .unset, .unset, .unset, .unset, .unset, .unset, .unset, .unset, .unset, .unset, .unset, .unset, .unset] [(.int (1 : Int32)), (.int (2 : Int32)), (.ref r4), (.ref r4), (.int (4 : Int32)), (.ref pm), (.ref pm)])) rfl rfl (hb hby at_189)
    have c128 : Steps p.tables e below S0 (T127.setTop (mkF m 190 #[.val (.int xa), .val (.int xb), .val (.int xc), .val (.int xq), .val (.int xm), .val (.int (Int32.ofNat q0)), .val (.int (Int32.ofNat q1)), .val (.int (Int32.ofNat q2)), .val (.ref pa), .unset, .unset, .unset, .unset, .unset, .unset, .unset, .unset, .unset, .unset, .unset, .unset, .unset] [(.ref r4), (.int (4 : Int32)), (.ref pm), (.ref pm)])) := c124.trans (by
     refine XS.dup X123.here hx rfl (hb hby at_186) rfl rfl ?_
     show Steps _ _ _ (.setTop _ (mkF _ 187 _ _)) _
     refine XS.iconst X123.here hx rfl (hb hby at_187) ?_
     show Steps _ _ _ (.setTop _ (mkF _ 188 _ _)) _
     refine XS.iconst X123.here hx rfl (hb hby at_188) ?_
     show Steps _ _ _ (.setTop _ (mkF _ 189 _ _)) _
     refine st127 _ ?_
     exact Steps.refl _)
    have f127_P_pa := f123_P_pa.other W127 ne_pa_r4
    have f127_R_pm := f123_R_pm.other W127 ne_pm_r4
    have f127_P_r0 := f123_P_r0.other W127 ne_r0_r4
    have f127_P_r1 := f123_P_r1.other W127 ne_r1_r4
    have f127_P_r2 := f123_P_r2.other W127 ne_r2_r4
    have f127_P_r3 := f123_P_r3.other W127 ne_r3_r4
    have K127 := K123.wr W127 (Or.inr sz_r4)
    have N127 := Fr.snoc X127 N123 g_r4
    have V127 : Wr h123 h127 r4 2 (.int (1 : Int32)) := W127
    have G127 : own_IA Z h127 r4 3 (fun i => if i = 2 then (1 : Int32) else (fun i => if i = 1 then (0 : Int32) else (fun i => if i = 0 then (2 : Int32) else (fun _ => 0) i) i) i) := G123.set V127 (by decide) (fun _ _ => rfl)
    have Fr4 : own_IA Z h127 r4 3 (fun j => Int32.ofNat (own_pv 2 0 1 j)) := own_IA3 G127 rfl rfl rfl
    have q129 := f127_R_pm
    obtain ⟨cr129, Ar129, Or129, Sr129, Hr129⟩ := q129
    have p129 := Fr4
    obtain ⟨cd129, Ad129, Ed129, -⟩ := p129
    obtain ⟨T130, h130, X130, e130, W130, st130⟩ := stR X127 hx hZ e127 Ar129 (j := (4 : Int32)) (own_inb (j := 4) Sr129 (by decide) (by decide)) rfl (Sto.ofVA Ar129 rfl Or129 (Ins.self Ed129)) (g := (mkF m 190 #[.val (.int xa), .val (.int xb), .val (.int xc), .val (.int xq), .val (.int xm), .val (.int (Int32.ofNat q0)), .val (.int (Int32.ofNat q1)), .val (.int (Int32.ofNat q2)), .val (.ref pa), .unset, .unset, .unset, .unset, .unset, .unset, .unset, .unset, .unset, .unset, .unset, .unset, .unset] [(.ref r4), (.int (4 : Int32)), (.ref pm), (.ref pm)])) rfl rfl (hb hby at_190)
    have c131 : Steps p.tables e below S0 (T130.setTop (mkF m 191 #[.val (.int xa), .val (.int xb), .val (.int xc), .val (.int xq), .val (.int xm), .val (.int (Int32.ofNat q0)), .val (.int (Int32.ofNat q1)), .val (.int (Int32.ofNat q2)), .val (.ref pa), .unset, .unset, .unset, .unset, .unset, .unset, .unset, .unset, .unset, .unset, .unset, .unset, .unset] [(.ref pm)])) := c128.trans (by
     refine st130 _ ?_
     exact Steps.refl _)
    have f130_P_pa := f127_P_pa.other W130 ne_pa_pm
    have f130_P_r0 := f127_P_r0.other W130 (Ne.symm ne_pm_r0)
    have f130_P_r1 := f127_P_r1.other W130 (Ne.symm ne_pm_r1)
    have f130_P_r2 := f127_P_r2.other W130 (Ne.symm ne_pm_r2)
    have f130_P_r3 := f127_P_r3.other W130 (Ne.symm ne_pm_r3)
    have f130_P_r4 := Fr4.other W130 (Ne.symm ne_pm_r4)
    have K130 := K127.wr W130 (Or.inr sz_pm)
    have N130 := Fr.snoc X130 N127 g_pm
    have V130 : Wr h127 h130 pm 4 (.ref r4) := W130
    have G130 : own_RA Z .int "[I" h130 pm 6 (fun i => if i = 4 then .ref r4 else (fun i => if i = 3 then .ref r3 else (fun i => if i = 2 then .ref r2 else (fun i => if i = 1 then .ref r1 else (fun i => if i = 0 then .ref r0 else (fun _ => Value.null) i) i) i) i) i) := f127_R_pm.set V130 (by decide) (fun _ _ => rfl)
    obtain ⟨T133, h133, k133, X133, e133, E133, A133, B133, st133⟩ := newPE X130 hx hZ (hw _ (own_m 2 rfl)) e130 (g := (mkF m 194 #[.val (.int xa), .val (.int xb), .val (.int xc), .val (.int xq), .val (.int xm), .val (.int (Int32.ofNat q0)), .val (.int (Int32.ofNat q1)), .val (.int (Int32.ofNat q2)), .val (.ref pa), .unset, .unset, .unset, .unset, .unset, .unset, .unset, .unset, .unset, .unset, .unset, .unset, .unset] [(.int (3 : Int32)), (.int (5 : Int32)), (.ref pm), (.ref pm)])) rfl (hb hby at_194) rfl (by decide) (cap := 3) (by decide) (by decide) (by decide) (by decide) (ad := "[I") (by decide)
    obtain ⟨r5, g133⟩ : ∃ z, z = h130.size := ⟨_, rfl⟩
    have ne_pa_r5 : pa ≠ r5 := Nat.ne_of_lt (Nat.lt_of_lt_of_le f130_P_pa.lt (Nat.le_of_eq g133.symm))
    have ne_pm_r5 : pm ≠ r5 := Nat.ne_of_lt (Nat.lt_of_lt_of_le G130.lt (Nat.le_of_eq g133.symm))
    have ne_r0_r5 : r0 ≠ r5 := Nat.ne_of_lt (Nat.lt_of_lt_of_le f130_P_r0.lt (Nat.le_of_eq g133.symm))
    have ne_r1_r5 : r1 ≠ r5 := Nat.ne_of_lt (Nat.lt_of_lt_of_le f130_P_r1.lt (Nat.le_of_eq g133.symm))
    have ne_r2_r5 : r2 ≠ r5 := Nat.ne_of_lt (Nat.lt_of_lt_of_le f130_P_r2.lt (Nat.le_of_eq g133.symm))
    have ne_r3_r5 : r3 ≠ r5 := Nat.ne_of_lt (Nat.lt_of_lt_of_le f130_P_r3.lt (Nat.le_of_eq g133.symm))
    have ne_r4_r5 : r4 ≠ r5 := Nat.ne_of_lt (Nat.lt_of_lt_of_le f130_P_r4.lt (Nat.le_of_eq g133.symm))
    have sz_r5 : h0.size ≤ r5 := Nat.le_trans K130.1 (Nat.le_of_eq g133.symm)
    have g_r5 : n0 ≤ r5 := Nat.le_trans Z0 sz_r5
    rw [← g133] at A133 B133 st133
    have c134 : Steps p.tables e below S0 (T133.setTop (mkF m 196 #[.val (.int xa), .val (.int xb), .val (.int xc), .val (.int xq), .val (.int xm), .val (.int (Int32.ofNat q0)), .val (.int (Int32.ofNat q1)), .val (.int (Int32.ofNat q2)), .val (.ref pa), .unset, .unset, .unset, .unset, .unset, .unset, .unset, .unset, .unset, .unset, .unset, .unset, .unset] [(.ref r5), (.int (5 : Int32)), (.ref pm), (.ref pm)])) := c131.trans (by
     refine XS.dup X130.here hx rfl (hb hby at_191) rfl rfl ?_
     show Steps _ _ _ (.setTop _ (mkF _ 192 _ _)) _
     refine XS.iconst X130.here hx rfl (hb hby at_192) ?_
     show Steps _ _ _ (.setTop _ (mkF _ 193 _ _)) _
     refine XS.iconst X130.here hx rfl (hb hby at_193) ?_
     show Steps _ _ _ (.setTop _ (mkF _ 194 _ _)) _
     refine st133 _ ?_
     exact Steps.refl _)
    have f133_P_pa := f130_P_pa.ext E133
    have f133_R_pm := G130.ext E133
    have f133_P_r0 := f130_P_r0.ext E133
    have f133_P_r1 := f130_P_r1.ext E133
    have f133_P_r2 := f130_P_r2.ext E133
    have f133_P_r3 := f130_P_r3.ext E133
    have f133_P_r4 := f130_P_r4.ext E133
    have K133 := K130.ext E133
    have P_r5 : own_IA Z h133 r5 3 (fun _ => 0) := ⟨_, A133, B133, by rw [sz_new]; rfl, fun i hi => by show (Array.replicate 3 (Value.int 0))[i]? = _; simp [hi]⟩
    have q136 := P_r5
    obtain ⟨cA136, AA136, EA136, SA136, HA136⟩ := q136
    obtain ⟨T137, h137, X137, e137, W137, st137⟩ := stI X133 hx hZ e133 AA136 (j := (0 : Int32)) (own_inb (j := 0) SA136 (by decide) (by decide)) (g := (mkF m 199 #[.val (.int xa), .val (.int xb), .val (.int xc), .val (.int xq), .val (.int xm), .val (.int (Int32.ofNat q0)), .val (.int (Int32.ofNat q1)), .val (.int (Int32.ofNat q2)), .val (.ref pa), .unset, .unset, .unset, .unset, .unset, .unset, .unset, .unset, .unset, .unset, .unset, .unset, .unset] [(.int (2 : Int32)), (.int (0 : Int32)), (.ref r5), (.ref r5), (.int (5 : Int32)), (.ref pm), (.ref pm)])) rfl rfl (hb hby at_199)
    have c138 : Steps p.tables e below S0 (T137.setTop (mkF m 200 #[.val (.int xa), .val (.int xb), .val (.int xc), .val (.int xq), .val (.int xm), .val (.int (Int32.ofNat q0)), .val (.int (Int32.ofNat q1)), .val (.int (Int32.ofNat q2)), .val (.ref pa), .unset, .unset, .unset, .unset, .unset, .unset, .unset, .unset, .unset, .unset, .unset, .unset, .unset] [(.ref r5), (.int (5 : Int32)), (.ref pm), (.ref pm)])) := c134.trans (by
     refine XS.dup X133.here hx rfl (hb hby at_196) rfl rfl ?_
     show Steps _ _ _ (.setTop _ (mkF _ 197 _ _)) _
     refine XS.iconst X133.here hx rfl (hb hby at_197) ?_
     show Steps _ _ _ (.setTop _ (mkF _ 198 _ _)) _
     refine XS.iconst X133.here hx rfl (hb hby at_198) ?_
     show Steps _ _ _ (.setTop _ (mkF _ 199 _ _)) _
     refine st137 _ ?_
     exact Steps.refl _)
    have f137_P_pa := f133_P_pa.other W137 ne_pa_r5
    have f137_R_pm := f133_R_pm.other W137 ne_pm_r5
    have f137_P_r0 := f133_P_r0.other W137 ne_r0_r5
    have f137_P_r1 := f133_P_r1.other W137 ne_r1_r5
    have f137_P_r2 := f133_P_r2.other W137 ne_r2_r5
    have f137_P_r3 := f133_P_r3.other W137 ne_r3_r5
    have f137_P_r4 := f133_P_r4.other W137 ne_r4_r5
    have K137 := K133.wr W137 (Or.inr sz_r5)
    have N137 := Fr.snoc X137 N130 g_r5
    have V137 : Wr h133 h137 r5 0 (.int (2 : Int32)) := W137
    have G137 : own_IA Z h137 r5 3 (fun i => if i = 0 then (2 : Int32) else (fun _ => 0) i) := P_r5.set V137 (by decide) (fun _ _ => rfl)
    have q140 := G137
    obtain ⟨cA140, AA140, EA140, SA140, HA140⟩ := q140
    obtain ⟨T141, h141, X141, e141, W141, st141⟩ := stI X137 hx hZ e137 AA140 (j := (1 : Int32)) (own_inb (j := 1) SA140 (by decide) (by decide)) (g := (mkF m 203 #[.val (.int xa), .val (.int xb), .val (.int xc), .val (.int xq), .val (.int xm), .val (.int (Int32.ofNat q0)), .val (.int (Int32.ofNat q1)), .val (.int (Int32.ofNat q2)), .val (.ref pa), .unset, .unset, .unset, .unset, .unset, .unset, .unset, .unset, .unset, .unset, .unset, .unset, .unset] [(.int (1 : Int32)), (.int (1 : Int32)), (.ref r5), (.ref r5), (.int (5 : Int32)), (.ref pm), (.ref pm)])) rfl rfl (hb hby at_203)
    have c142 : Steps p.tables e below S0 (T141.setTop (mkF m 204 #[.val (.int xa), .val (.int xb), .val (.int xc), .val (.int xq), .val (.int xm), .val (.int (Int32.ofNat q0)), .val (.int (Int32.ofNat q1)), .val (.int (Int32.ofNat q2)), .val (.ref pa), .unset, .unset, .unset, .unset, .unset, .unset, .unset, .unset, .unset, .unset, .unset, .unset, .unset] [(.ref r5), (.int (5 : Int32)), (.ref pm), (.ref pm)])) := c138.trans (by
     refine XS.dup X137.here hx rfl (hb hby at_200) rfl rfl ?_
     show Steps _ _ _ (.setTop _ (mkF _ 201 _ _)) _
     refine XS.iconst X137.here hx rfl (hb hby at_201) ?_
     show Steps _ _ _ (.setTop _ (mkF _ 202 _ _)) _
     refine XS.iconst X137.here hx rfl (hb hby at_202) ?_
     show Steps _ _ _ (.setTop _ (mkF _ 203 _ _)) _
     refine st141 _ ?_
     exact Steps.refl _)
    have f141_P_pa := f137_P_pa.other W141 ne_pa_r5
    have f141_R_pm := f137_R_pm.other W141 ne_pm_r5
    have f141_P_r0 := f137_P_r0.other W141 ne_r0_r5
    have f141_P_r1 := f137_P_r1.other W141 ne_r1_r5
    have f141_P_r2 := f137_P_r2.other W141 ne_r2_r5
    have f141_P_r3 := f137_P_r3.other W141 ne_r3_r5
    have f141_P_r4 := f137_P_r4.other W141 ne_r4_r5
    have K141 := K137.wr W141 (Or.inr sz_r5)
    have N141 := Fr.snoc X141 N137 g_r5
    have V141 : Wr h137 h141 r5 1 (.int (1 : Int32)) := W141
    have G141 : own_IA Z h141 r5 3 (fun i => if i = 1 then (1 : Int32) else (fun i => if i = 0 then (2 : Int32) else (fun _ => 0) i) i) := G137.set V141 (by decide) (fun _ _ => rfl)
    have q144 := G141
    obtain ⟨cA144, AA144, EA144, SA144, HA144⟩ := q144
    obtain ⟨T145, h145, X145, e145, W145, st145⟩ := stI X141 hx hZ e141 AA144 (j := (2 : Int32)) (own_inb (j := 2) SA144 (by decide) (by decide)) (g := (mkF m 207 #[.val (.int xa), .val (.int xb), .val (.int xc), .val (.int xq), .val (.int xm), .val (.int (Int32.ofNat q0)), .val (.int (Int32.ofNat q1)), .val (.int (Int32.ofNat q2)), .val (.ref pa), .unset, .unset, .unset, .unset, .unset, .unset, .unset, .unset, .unset, .unset, .unset, .unset, .unset] [(.int (0 : Int32)), (.int (2 : Int32)), (.ref r5), (.ref r5), (.int (5 : Int32)), (.ref pm), (.ref pm)])) rfl rfl (hb hby at_207)
    have c146 : Steps p.tables e below S0 (T145.setTop (mkF m 208 #[.val (.int xa), .val (.int xb), .val (.int xc), .val (.int xq), .val (.int xm), .val (.int (Int32.ofNat q0)), .val (.int (Int32.ofNat q1)), .val (.int (Int32.ofNat q2)), .val (.ref pa), .unset, .unset, .unset, .unset, .unset, .unset, .unset, .unset, .unset, .unset, .unset, .unset, .unset] [(.ref r5), (.int (5 : Int32)), (.ref pm), (.ref pm)])) := c142.trans (by
     refine XS.dup X141.here hx rfl (hb hby at_204) rfl rfl ?_
     show Steps _ _ _ (.setTop _ (mkF _ 205 _ _)) _
     refine XS.iconst X141.here hx rfl (hb hby at_205) ?_
     show Steps _ _ _ (.setTop _ (mkF _ 206 _ _)) _
     refine XS.iconst X141.here hx rfl (hb hby at_206) ?_
     show Steps _ _ _ (.setTop _ (mkF _ 207 _ _)) _
     refine st145 _ ?_
     exact Steps.refl _)
    have f145_P_pa := f141_P_pa.other W145 ne_pa_r5
    have f145_R_pm := f141_R_pm.other W145 ne_pm_r5
    have f145_P_r0 := f141_P_r0.other W145 ne_r0_r5
    have f145_P_r1 := f141_P_r1.other W145 ne_r1_r5
    have f145_P_r2 := f141_P_r2.other W145 ne_r2_r5
    have f145_P_r3 := f141_P_r3.other W145 ne_r3_r5
    have f145_P_r4 := f141_P_r4.other W145 ne_r4_r5
    have K145 := K141.wr W145 (Or.inr sz_r5)
    have N145 := Fr.snoc X145 N141 g_r5
    have V145 : Wr h141 h145 r5 2 (.int (0 : Int32)) := W145
    have G145 : own_IA Z h145 r5 3 (fun i => if i = 2 then (0 : Int32) else (fun i => if i = 1 then (1 : Int32) else (fun i => if i = 0 then (2 : Int32) else (fun _ => 0) i) i) i) := G141.set V145 (by decide) (fun _ _ => rfl)
    have Fr5 : own_IA Z h145 r5 3 (fun j => Int32.ofNat (own_pv 2 1 0 j)) := own_IA3 G145 rfl rfl rfl
    have q147 := f145_R_pm
    obtain ⟨cr147, Ar147, Or147, Sr147, Hr147⟩ := q147
    have p147 := Fr5
    obtain ⟨cd147, Ad147, Ed147, -⟩ := p147
    obtain ⟨T148, h148, X148, e148, W148, st148⟩ := stR X145 hx hZ e145 Ar147 (j := (5 : Int32)) (own_inb (j := 5) Sr147 (by decide) (by decide)) rfl (Sto.ofVA Ar147 rfl Or147 (Ins.self Ed147)) (g := (mkF m 208 #[.val (.int xa), .val (.int xb), .val (.int xc), .val (.int xq), .val (.int xm), .val (.int (Int32.ofNat q0)), .val (.int (Int32.ofNat q1)), .val (.int (Int32.ofNat q2)), .val (.ref pa), .unset, .unset, .unset, .unset, .unset, .unset, .unset, .unset, .unset, .unset, .unset, .unset, .unset] [(.ref r5), (.int (5 : Int32)), (.ref pm), (.ref pm)])) rfl rfl (hb hby at_208)
    have c149 : Steps p.tables e below S0 (T148.setTop (mkF m 209 #[.val (.int xa), .val (.int xb), .val (.int xc), .val (.int xq), .val (.int xm), .val (.int (Int32.ofNat q0)), .val (.int (Int32.ofNat q1)), .val (.int (Int32.ofNat q2)), .val (.ref pa), .unset, .unset, .unset, .unset, .unset, .unset, .unset, .unset, .unset, .unset, .unset, .unset, .unset] [(.ref pm)])) := c146.trans (by
     refine st148 _ ?_
     exact Steps.refl _)
    have f148_P_pa := f145_P_pa.other W148 ne_pa_pm
    have f148_P_r0 := f145_P_r0.other W148 (Ne.symm ne_pm_r0)
    have f148_P_r1 := f145_P_r1.other W148 (Ne.symm ne_pm_r1)
    have f148_P_r2 := f145_P_r2.other W148 (Ne.symm ne_pm_r2)
    have f148_P_r3 := f145_P_r3.other W148 (Ne.symm ne_pm_r3)
    have f148_P_r4 := f145_P_r4.other W148 (Ne.symm ne_pm_r4)
    have f148_P_r5 := Fr5.other W148 (Ne.symm ne_pm_r5)
    have K148 := K145.wr W148 (Or.inr sz_pm)
    have N148 := Fr.snoc X148 N145 g_pm
    have V148 : Wr h145 h148 pm 5 (.ref r5) := W148
    have G148 : own_RA Z .int "[I" h148 pm 6 (fun i => if i = 5 then .ref r5 else (fun i => if i = 4 then .ref r4 else (fun i => if i = 3 then .ref r3 else (fun i => if i = 2 then .ref r2 else (fun i => if i = 1 then .ref r1 else (fun i => if i = 0 then .ref r0 else (fun _ => Value.null) i) i) i) i) i) i) := f145_R_pm.set V148 (by decide) (fun _ _ => rfl)
    have c151 : Steps p.tables e below S0 (T148.setTop (mkF m 223 #[.val (.int xa), .val (.int xb), .val (.int xc), .val (.int xq), .val (.int xm), .val (.int (Int32.ofNat q0)), .val (.int (Int32.ofNat q1)), .val (.int (Int32.ofNat q2)), .val (.ref pa), .val (.ref pm), .unset, .unset, .unset, .unset, .unset, .unset, .unset, .unset, .unset, .unset, .unset, .unset] [(.int ((((xm.toUInt32 >>> ((2 : Int32) &&& 31).toUInt32).toInt32) &&& (7 : Int32)) % (6 : Int32))), (.ref pm)])) := c149.trans (by
     refine XS.astore X148.here hx rfl (hb hby at_209) rfl rfl rfl ?_
     show Steps _ _ _ (.setTop _ (mkF _ 211 _ _)) _
     refine XS.aload X148.here hx rfl (hb hby at_211) rfl rfl ?_
     show Steps _ _ _ (.setTop _ (mkF _ 213 _ _)) _
     refine XS.iload X148.here hx rfl (hb hby at_213) rfl ?_
     show Steps _ _ _ (.setTop _ (mkF _ 215 _ _)) _
     refine XS.iconst X148.here hx rfl (hb hby at_215) ?_
     show Steps _ _ _ (.setTop _ (mkF _ 216 _ _)) _
     refine XS.iushr X148.here hx rfl (hb hby at_216) rfl ?_
     show Steps _ _ _ (.setTop _ (mkF _ 217 _ _)) _
     refine XS.bipush X148.here hx rfl (hb hby at_217) ?_
     show Steps _ _ _ (.setTop _ (mkF _ 219 _ _)) _
     refine XS.iand X148.here hx rfl (hb hby at_219) rfl ?_
     show Steps _ _ _ (.setTop _ (mkF _ 220 _ _)) _
     refine XS.bipush X148.here hx rfl (hb hby at_220) ?_
     show Steps _ _ _ (.setTop _ (mkF _ 222 _ _)) _
     refine iremM X148 hx rfl (hb hby at_222) rfl (by decide) ?_
     exact Steps.refl _)
    obtain ⟨ix, hix, eix⟩ := own_id6 ((xm.toUInt32 >>> ((2 : Int32) &&& 31).toUInt32).toInt32)
    rw [eix] at c151
    have jo : ∃ (od : Addr) (o0 o1 o2 : Nat), own_PM o0 o1 o2 ∧ own_IA Z h148 od 3 (fun j => Int32.ofNat (own_pv o0 o1 o2 j)) ∧ Steps p.tables e below S0 (T148.setTop (mkF m 224 #[.val (.int xa), .val (.int xb), .val (.int xc), .val (.int xq), .val (.int xm), .val (.int (Int32.ofNat q0)), .val (.int (Int32.ofNat q1)), .val (.int (Int32.ofNat q2)), .val (.ref pa), .val (.ref pm), .unset, .unset, .unset, .unset, .unset, .unset, .unset, .unset, .unset, .unset, .unset, .unset] [(.ref od)])) := by
     rcases (show ix = 0 ∨ ix = 1 ∨ ix = 2 ∨ ix = 3 ∨ ix = 4 ∨ ix = 5 by omega) with rfl | rfl | rfl | rfl | rfl | rfl
     ·have qx := G148
      obtain ⟨cv, Av, Ov, Sv, Hv⟩ := qx
      have c152 : Steps p.tables e below S0 (T148.setTop (mkF m 224 #[.val (.int xa), .val (.int xb), .val (.int xc), .val (.int xq), .val (.int xm), .val (.int (Int32.ofNat q0)), .val (.int (Int32.ofNat q1)), .val (.int (Int32.ofNat q2)), .val (.ref pa), .val (.ref pm), .unset, .unset, .unset, .unset, .unset, .unset, .unset, .unset, .unset, .unset, .unset, .unset] [(.ref r0)])) := c151.trans (by
       refine X148.aaload hx (j := (Int32.ofNat 0)) (v := (.ref r0)) (by rw [e148]; exact Av.1) (State.isArrayOf_alike hZ.alike Av.2.1) rfl Av.2.2 (own_inb (j := 0) Sv (by decide) (by decide)) (Hv 0 (by decide)) (g := (mkF m 223 #[.val (.int xa), .val (.int xb), .val (.int xc), .val (.int xq), .val (.int xm), .val (.int (Int32.ofNat q0)), .val (.int (Int32.ofNat q1)), .val (.int (Int32.ofNat q2)), .val (.ref pa), .val (.ref pm), .unset, .unset, .unset, .unset, .unset, .unset, .unset, .unset, .unset, .unset, .unset, .unset] [(.int (Int32.ofNat 0)), (.ref pm)])) rfl rfl (hb hby at_223) _ ?_
       exact Steps.refl _)
      exact ⟨r0, 0, 1, 2, by unfold own_PM; decide, f148_P_r0, c152⟩
     ·have qx := G148
      obtain ⟨cv, Av, Ov, Sv, Hv⟩ := qx
      have c153 : Steps p.tables e below S0 (T148.setTop (mkF m 224 #[.val (.int xa), .val (.int xb), .val (.int xc), .val (.int xq), .val (.int xm), .val (.int (Int32.ofNat q0)), .val (.int (Int32.ofNat q1)), .val (.int (Int32.ofNat q2)), .val (.ref pa), .val (.ref pm), .unset, .unset, .unset, .unset, .unset, .unset, .unset, .unset, .unset, .unset, .unset, .unset] [(.ref r1)])) := c151.trans (by
       refine X148.aaload hx (j := (Int32.ofNat 1)) (v := (.ref r1)) (by rw [e148]; exact Av.1) (State.isArrayOf_alike hZ.alike Av.2.1) rfl Av.2.2 (own_inb (j := 1) Sv (by decide) (by decide)) (Hv 1 (by decide)) (g := (mkF m 223 #[.val (.int xa), .val (.int xb), .val (.int xc), .val (.int xq), .val (.int xm), .val (.int (Int32.ofNat q0)), .val (.int (Int32.ofNat q1)), .val (.int (Int32.ofNat q2)), .val (.ref pa), .val (.ref pm), .unset, .unset, .unset, .unset, .unset, .unset, .unset, .unset, .unset, .unset, .unset, .unset] [(.int (Int32.ofNat 1)), (.ref pm)])) rfl rfl (hb hby at_223) _ ?_
       exact Steps.refl _)
      exact ⟨r1, 0, 2, 1, by unfold own_PM; decide, f148_P_r1, c153⟩
     ·have qx := G148
      obtain ⟨cv, Av, Ov, Sv, Hv⟩ := qx
      have c154 : Steps p.tables e below S0 (T148.setTop (mkF m 224 #[.val (.int xa), .val (.int xb), .val (.int xc), .val (.int xq), .val (.int xm), .val (.int (Int32.ofNat q0)), .val (.int (Int32.ofNat q1)), .val (.int (Int32.ofNat q2)), .val (.ref pa), .val (.ref pm), .unset, .unset, .unset, .unset, .unset, .unset, .unset, .unset, .unset, .unset, .unset, .unset] [(.ref r2)])) := c151.trans (by
       refine X148.aaload hx (j := (Int32.ofNat 2)) (v := (.ref r2)) (by rw [e148]; exact Av.1) (State.isArrayOf_alike hZ.alike Av.2.1) rfl Av.2.2 (own_inb (j := 2) Sv (by decide) (by decide)) (Hv 2 (by decide)) (g := (mkF m 223 #[.val (.int xa), .val (.int xb), .val (.int xc), .val (.int xq), .val (.int xm), .val (.int (Int32.ofNat q0)), .val (.int (Int32.ofNat q1)), .val (.int (Int32.ofNat q2)), .val (.ref pa), .val (.ref pm), .unset, .unset, .unset, .unset, .unset, .unset, .unset, .unset, .unset, .unset, .unset, .unset] [(.int (Int32.ofNat 2)), (.ref pm)])) rfl rfl (hb hby at_223) _ ?_
       exact Steps.refl _)
      exact ⟨r2, 1, 0, 2, by unfold own_PM; decide, f148_P_r2, c154⟩
     ·have qx := G148
      obtain ⟨cv, Av, Ov, Sv, Hv⟩ := qx
      have c155 : Steps p.tables e below S0 (T148.setTop (mkF m 224 #[.val (.int xa), .val (.int xb), .val (.int xc), .val (.int xq), .val (.int xm), .val (.int (Int32.ofNat q0)), .val (.int (Int32.ofNat q1)), .val (.int (Int32.ofNat q2)), .val (.ref pa), .val (.ref pm), .unset, .unset, .unset, .unset, .unset, .unset, .unset, .unset, .unset, .unset, .unset, .unset] [(.ref r3)])) := c151.trans (by
       refine X148.aaload hx (j := (Int32.ofNat 3)) (v := (.ref r3)) (by rw [e148]; exact Av.1) (State.isArrayOf_alike hZ.alike Av.2.1) rfl Av.2.2 (own_inb (j := 3) Sv (by decide) (by decide)) (Hv 3 (by decide)) (g := (mkF m 223 #[.val (.int xa), .val (.int xb), .val (.int xc), .val (.int xq), .val (.int xm), .val (.int (Int32.ofNat q0)), .val (.int (Int32.ofNat q1)), .val (.int (Int32.ofNat q2)), .val (.ref pa), .val (.ref pm), .unset, .unset, .unset, .unset, .unset, .unset, .unset, .unset, .unset, .unset, .unset, .unset] [(.int (Int32.ofNat 3)), (.ref pm)])) rfl rfl (hb hby at_223) _ ?_
       exact Steps.refl _)
      exact ⟨r3, 1, 2, 0, by unfold own_PM; decide, f148_P_r3, c155⟩
     ·have qx := G148
      obtain ⟨cv, Av, Ov, Sv, Hv⟩ := qx
      have c156 : Steps p.tables e below S0 (T148.setTop (mkF m 224 #[.val (.int xa), .val (.int xb), .val (.int xc), .val (.int xq), .val (.int xm), .val (.int (Int32.ofNat q0)), .val (.int (Int32.ofNat q1)), .val (.int (Int32.ofNat q2)), .val (.ref pa), .val (.ref pm), .unset, .unset, .unset, .unset, .unset, .unset, .unset, .unset, .unset, .unset, .unset, .unset] [(.ref r4)])) := c151.trans (by
       refine X148.aaload hx (j := (Int32.ofNat 4)) (v := (.ref r4)) (by rw [e148]; exact Av.1) (State.isArrayOf_alike hZ.alike Av.2.1) rfl Av.2.2 (own_inb (j := 4) Sv (by decide) (by decide)) (Hv 4 (by decide)) (g := (mkF m 223 #[.val (.int xa), .val (.int xb), .val (.int xc), .val (.int xq), .val (.int xm), .val (.int (Int32.ofNat q0)), .val (.int (Int32.ofNat q1)), .val (.int (Int32.ofNat q2)), .val (.ref pa), .val (.ref pm), .unset, .unset, .unset, .unset, .unset, .unset, .unset, .unset, .unset, .unset, .unset, .unset] [(.int (Int32.ofNat 4)), (.ref pm)])) rfl rfl (hb hby at_223) _ ?_
       exact Steps.refl _)
      exact ⟨r4, 2, 0, 1, by unfold own_PM; decide, f148_P_r4, c156⟩
     ·have qx := G148
      obtain ⟨cv, Av, Ov, Sv, Hv⟩ := qx
      have c157 : Steps p.tables e below S0 (T148.setTop (mkF m 224 #[.val (.int xa), .val (.int xb), .val (.int xc), .val (.int xq), .val (.int xm), .val (.int (Int32.ofNat q0)), .val (.int (Int32.ofNat q1)), .val (.int (Int32.ofNat q2)), .val (.ref pa), .val (.ref pm), .unset, .unset, .unset, .unset, .unset, .unset, .unset, .unset, .unset, .unset, .unset, .unset] [(.ref r5)])) := c151.trans (by
       refine X148.aaload hx (j := (Int32.ofNat 5)) (v := (.ref r5)) (by rw [e148]; exact Av.1) (State.isArrayOf_alike hZ.alike Av.2.1) rfl Av.2.2 (own_inb (j := 5) Sv (by decide) (by decide)) (Hv 5 (by decide)) (g := (mkF m 223 #[.val (.int xa), .val (.int xb), .val (.int xc), .val (.int xq), .val (.int xm), .val (.int (Int32.ofNat q0)), .val (.int (Int32.ofNat q1)), .val (.int (Int32.ofNat q2)), .val (.ref pa), .val (.ref pm), .unset, .unset, .unset, .unset, .unset, .unset, .unset, .unset, .unset, .unset, .unset, .unset] [(.int (Int32.ofNat 5)), (.ref pm)])) rfl rfl (hb hby at_223) _ ?_
       exact Steps.refl _)
      exact ⟨r5, 2, 1, 0, by unfold own_PM; decide, f148_P_r5, c157⟩
    obtain ⟨od, o0, o1, o2, hPM, Fod, c_od⟩ := jo
    obtain ⟨ho0, ho1, ho2⟩ := own_PM_lt hPM
    have hpv := own_pv_lt hq0 hq1 hq2
    have c160 : Steps p.tables e below S0 (T148.setTop (mkF m 234 #[.val (.int xa), .val (.int xb), .val (.int xc), .val (.int xq), .val (.int xm), .val (.int (Int32.ofNat q0)), .val (.int (Int32.ofNat q1)), .val (.int (Int32.ofNat q2)), .val (.ref pa), .val (.ref pm), .val (.ref od), .unset, .unset, .unset, .unset, .unset, .unset, .unset, .unset, .unset, .unset, .unset] [(.int ((1 : Int32) + ((xm &&& (3 : Int32)) % (3 : Int32))))])) := c_od.trans (by
     refine XS.astore X148.here hx rfl (hb hby at_224) rfl rfl rfl ?_
     show Steps _ _ _ (.setTop _ (mkF _ 226 _ _)) _
     refine XS.iconst X148.here hx rfl (hb hby at_226) ?_
     show Steps _ _ _ (.setTop _ (mkF _ 227 _ _)) _
     refine XS.iload X148.here hx rfl (hb hby at_227) rfl ?_
     show Steps _ _ _ (.setTop _ (mkF _ 229 _ _)) _
     refine XS.iconst X148.here hx rfl (hb hby at_229) ?_
     show Steps _ _ _ (.setTop _ (mkF _ 230 _ _)) _
     refine XS.iand X148.here hx rfl (hb hby at_230) rfl ?_
     show Steps _ _ _ (.setTop _ (mkF _ 231 _ _)) _
     refine XS.iconst X148.here hx rfl (hb hby at_231) ?_
     show Steps _ _ _ (.setTop _ (mkF _ 232 _ _)) _
     refine iremM X148 hx rfl (hb hby at_232) rfl (by decide) ?_
     show Steps _ _ _ (.setTop _ (mkF _ 233 _ _)) _
     refine XS.iadd X148.here hx rfl (hb hby at_233) rfl ?_
     exact Steps.refl _)
    obtain ⟨kk, hkk⟩ : ∃ z : Int32, z = ((1 : Int32) + ((xm &&& (3 : Int32)) % (3 : Int32))) := ⟨_, rfl⟩
    rw [← hkk] at c160
    have hk3 := own_kk xm
    rw [← hkk] at hk3
    obtain ⟨T162, h162, k162, X162, e162, E162, A162, B162, st162⟩ := newPE X148 hx hZ (hw _ (own_m 6 rfl)) e148 (g := (mkF m 237 #[.val (.int xa), .val (.int xb), .val (.int xc), .val (.int xq), .val (.int xm), .val (.int (Int32.ofNat q0)), .val (.int (Int32.ofNat q1)), .val (.int (Int32.ofNat q2)), .val (.ref pa), .val (.ref pm), .val (.ref od), .val (.int kk), .unset, .unset, .unset, .unset, .unset, .unset, .unset, .unset, .unset, .unset] [(.int (3 : Int32))])) rfl (hb hby at_237) rfl (by decide) (cap := 3) (by decide) (by decide) (by decide) (by decide) (ad := "[Z") (by decide)
    obtain ⟨za, g162⟩ : ∃ z, z = h148.size := ⟨_, rfl⟩
    have ne_pa_za : pa ≠ za := Nat.ne_of_lt (Nat.lt_of_lt_of_le f148_P_pa.lt (Nat.le_of_eq g162.symm))
    have ne_od_za : od ≠ za := Nat.ne_of_lt (Nat.lt_of_lt_of_le Fod.lt (Nat.le_of_eq g162.symm))
    have sz_za : h0.size ≤ za := Nat.le_trans K148.1 (Nat.le_of_eq g162.symm)
    have g_za : n0 ≤ za := Nat.le_trans Z0 sz_za
    rw [← g162] at A162 B162 st162
    have c163 : Steps p.tables e below S0 (T162.setTop (mkF m 239 #[.val (.int xa), .val (.int xb), .val (.int xc), .val (.int xq), .val (.int xm), .val (.int (Int32.ofNat q0)), .val (.int (Int32.ofNat q1)), .val (.int (Int32.ofNat q2)), .val (.ref pa), .val (.ref pm), .val (.ref od), .val (.int kk), .unset, .unset, .unset, .unset, .unset, .unset, .unset, .unset, .unset, .unset] [(.ref za)])) := c160.trans (by
     refine XS.istore X148.here hx rfl (hb hby at_234) rfl rfl ?_
     show Steps _ _ _ (.setTop _ (mkF _ 236 _ _)) _
     refine XS.iconst X148.here hx rfl (hb hby at_236) ?_
     show Steps _ _ _ (.setTop _ (mkF _ 237 _ _)) _
     refine st162 _ ?_
     exact Steps.refl _)
    have f162_P_pa := f148_P_pa.ext E162
    have f162_P_od := Fod.ext E162
    have K162 := K148.ext E162
    have P_za : own_ZA Z h162 za 3 (fun _ => 0) := ⟨_, A162, by rw [sz_new]; rfl, fun i hi => by show (Array.replicate 3 (Value.int 0))[i]? = _; simp [hi]⟩
    have q165 := P_za
    obtain ⟨cA165, AA165, SA165, HA165⟩ := q165
    obtain ⟨T166, h166, X166, e166, W166, st166⟩ := stZ X162 hx hZ e162 AA165 (j := (0 : Int32)) (own_inb (j := 0) SA165 (by decide) (by decide)) (g := (mkF m 242 #[.val (.int xa), .val (.int xb), .val (.int xc), .val (.int xq), .val (.int xm), .val (.int (Int32.ofNat q0)), .val (.int (Int32.ofNat q1)), .val (.int (Int32.ofNat q2)), .val (.ref pa), .val (.ref pm), .val (.ref od), .val (.int kk), .unset, .unset, .unset, .unset, .unset, .unset, .unset, .unset, .unset, .unset] [(.int (1 : Int32)), (.int (0 : Int32)), (.ref za), (.ref za)])) rfl rfl (hb hby at_242)
    have c167 : Steps p.tables e below S0 (T166.setTop (mkF m 243 #[.val (.int xa), .val (.int xb), .val (.int xc), .val (.int xq), .val (.int xm), .val (.int (Int32.ofNat q0)), .val (.int (Int32.ofNat q1)), .val (.int (Int32.ofNat q2)), .val (.ref pa), .val (.ref pm), .val (.ref od), .val (.int kk), .unset, .unset, .unset, .unset, .unset, .unset, .unset, .unset, .unset, .unset] [(.ref za)])) := c163.trans (by
     refine XS.dup X162.here hx rfl (hb hby at_239) rfl rfl ?_
     show Steps _ _ _ (.setTop _ (mkF _ 240 _ _)) _
     refine XS.iconst X162.here hx rfl (hb hby at_240) ?_
     show Steps _ _ _ (.setTop _ (mkF _ 241 _ _)) _
     refine XS.iconst X162.here hx rfl (hb hby at_241) ?_
     show Steps _ _ _ (.setTop _ (mkF _ 242 _ _)) _
     refine st166 _ ?_
     exact Steps.refl _)
    have f166_P_pa := f162_P_pa.other W166 ne_pa_za
    have f166_P_od := f162_P_od.other W166 ne_od_za
    have K166 := K162.wr W166 (Or.inr sz_za)
    have N166 := Fr.snoc X166 N148 g_za
    have V166 : Wr h162 h166 za 0 (.int (1 : Int32)) := by
     have q := W166
     rw [show nar .boolean (1 : Int32) = 1 by decide] at q
     exact q
    have G166 : own_ZA Z h166 za 3 (fun i => if i = 0 then (1 : Int32) else (fun _ => 0) i) := P_za.set V166 (by decide) (fun _ _ => rfl)
    have q169 := G166
    obtain ⟨cA169, AA169, SA169, HA169⟩ := q169
    obtain ⟨T170, h170, X170, e170, W170, st170⟩ := stZ X166 hx hZ e166 AA169 (j := (1 : Int32)) (own_inb (j := 1) SA169 (by decide) (by decide)) (g := (mkF m 246 #[.val (.int xa), .val (.int xb), .val (.int xc), .val (.int xq), .val (.int xm), .val (.int (Int32.ofNat q0)), .val (.int (Int32.ofNat q1)), .val (.int (Int32.ofNat q2)), .val (.ref pa), .val (.ref pm), .val (.ref od), .val (.int kk), .unset, .unset, .unset, .unset, .unset, .unset, .unset, .unset, .unset, .unset] [(.int (1 : Int32)), (.int (1 : Int32)), (.ref za), (.ref za)])) rfl rfl (hb hby at_246)
    have c171 : Steps p.tables e below S0 (T170.setTop (mkF m 247 #[.val (.int xa), .val (.int xb), .val (.int xc), .val (.int xq), .val (.int xm), .val (.int (Int32.ofNat q0)), .val (.int (Int32.ofNat q1)), .val (.int (Int32.ofNat q2)), .val (.ref pa), .val (.ref pm), .val (.ref od), .val (.int kk), .unset, .unset, .unset, .unset, .unset, .unset, .unset, .unset, .unset, .unset] [(.ref za)])) := c167.trans (by
     refine XS.dup X166.here hx rfl (hb hby at_243) rfl rfl ?_
     show Steps _ _ _ (.setTop _ (mkF _ 244 _ _)) _
     refine XS.iconst X166.here hx rfl (hb hby at_244) ?_
     show Steps _ _ _ (.setTop _ (mkF _ 245 _ _)) _
     refine XS.iconst X166.here hx rfl (hb hby at_245) ?_
     show Steps _ _ _ (.setTop _ (mkF _ 246 _ _)) _
     refine st170 _ ?_
     exact Steps.refl _)
    have f170_P_pa := f166_P_pa.other W170 ne_pa_za
    have f170_P_od := f166_P_od.other W170 ne_od_za
    have K170 := K166.wr W170 (Or.inr sz_za)
    have N170 := Fr.snoc X170 N166 g_za
    have V170 : Wr h166 h170 za 1 (.int (1 : Int32)) := by
     have q := W170
     rw [show nar .boolean (1 : Int32) = 1 by decide] at q
     exact q
    have G170 : own_ZA Z h170 za 3 (fun i => if i = 1 then (1 : Int32) else (fun i => if i = 0 then (1 : Int32) else (fun _ => 0) i) i) := G166.set V170 (by decide) (fun _ _ => rfl)
    have q173 := G170
    obtain ⟨cA173, AA173, SA173, HA173⟩ := q173
    obtain ⟨T174, h174, X174, e174, W174, st174⟩ := stZ X170 hx hZ e170 AA173 (j := (2 : Int32)) (own_inb (j := 2) SA173 (by decide) (by decide)) (g := (mkF m 250 #[.val (.int xa), .val (.int xb), .val (.int xc), .val (.int xq), .val (.int xm), .val (.int (Int32.ofNat q0)), .val (.int (Int32.ofNat q1)), .val (.int (Int32.ofNat q2)), .val (.ref pa), .val (.ref pm), .val (.ref od), .val (.int kk), .unset, .unset, .unset, .unset, .unset, .unset, .unset, .unset, .unset, .unset] [(.int (1 : Int32)), (.int (2 : Int32)), (.ref za), (.ref za)])) rfl rfl (hb hby at_250)
    have c175 : Steps p.tables e below S0 (T174.setTop (mkF m 251 #[.val (.int xa), .val (.int xb), .val (.int xc), .val (.int xq), .val (.int xm), .val (.int (Int32.ofNat q0)), .val (.int (Int32.ofNat q1)), .val (.int (Int32.ofNat q2)), .val (.ref pa), .val (.ref pm), .val (.ref od), .val (.int kk), .unset, .unset, .unset, .unset, .unset, .unset, .unset, .unset, .unset, .unset] [(.ref za)])) := c171.trans (by
     refine XS.dup X170.here hx rfl (hb hby at_247) rfl rfl ?_
     show Steps _ _ _ (.setTop _ (mkF _ 248 _ _)) _
     refine XS.iconst X170.here hx rfl (hb hby at_248) ?_
     show Steps _ _ _ (.setTop _ (mkF _ 249 _ _)) _
     refine XS.iconst X170.here hx rfl (hb hby at_249) ?_
     show Steps _ _ _ (.setTop _ (mkF _ 250 _ _)) _
     refine st174 _ ?_
     exact Steps.refl _)
    have f174_P_pa := f170_P_pa.other W174 ne_pa_za
    have f174_P_od := f170_P_od.other W174 ne_od_za
    have K174 := K170.wr W174 (Or.inr sz_za)
    have N174 := Fr.snoc X174 N170 g_za
    have V174 : Wr h170 h174 za 2 (.int (1 : Int32)) := by
     have q := W174
     rw [show nar .boolean (1 : Int32) = 1 by decide] at q
     exact q
    have G174 : own_ZA Z h174 za 3 (fun i => if i = 2 then (1 : Int32) else (fun i => if i = 1 then (1 : Int32) else (fun i => if i = 0 then (1 : Int32) else (fun _ => 0) i) i) i) := G170.set V174 (by decide) (fun _ _ => rfl)
    have Fza : own_ZA Z h174 za 3 own_z0 := own_ZA3 G174 rfl rfl rfl
    have c176 : Steps p.tables e below S0 (T174.setTop (mkF m 254 #[.val (.int xa), .val (.int xb), .val (.int xc), .val (.int xq), .val (.int xm), .val (.int (Int32.ofNat q0)), .val (.int (Int32.ofNat q1)), .val (.int (Int32.ofNat q2)), .val (.ref pa), .val (.ref pm), .val (.ref od), .val (.int kk), .val (.ref za), .unset, .unset, .unset, .unset, .unset, .unset, .unset, .unset, .unset] [(.int xq)])) := c175.trans (by
     refine XS.astore X174.here hx rfl (hb hby at_251) rfl rfl rfl ?_
     show Steps _ _ _ (.setTop _ (mkF _ 253 _ _)) _
     refine XS.iloadN X174.here hx rfl (hb hby at_253) rfl ?_
     exact Steps.refl _)
    have j_qn : ∃ qn : Nat, qn < 2 ^ 31 ∧ Steps p.tables e below S0 (T174.setTop (mkF m 268 #[.val (.int xa), .val (.int xb), .val (.int xc), .val (.int xq), .val (.int xm), .val (.int (Int32.ofNat q0)), .val (.int (Int32.ofNat q1)), .val (.int (Int32.ofNat q2)), .val (.ref pa), .val (.ref pm), .val (.ref od), .val (.int kk), .val (.ref za), .unset, .unset, .unset, .unset, .unset, .unset, .unset, .unset, .unset] [(.int (Int32.ofNat qn))])) := by
     by_cases hqs : xq < (0 : Int32)
     ·have c178 : Steps p.tables e below S0 (T174.setTop (mkF m 268 #[.val (.int xa), .val (.int xb), .val (.int xc), .val (.int xq), .val (.int xm), .val (.int (Int32.ofNat q0)), .val (.int (Int32.ofNat q1)), .val (.int (Int32.ofNat q2)), .val (.ref pa), .val (.ref pm), .val (.ref od), .val (.int kk), .val (.ref za), .unset, .unset, .unset, .unset, .unset, .unset, .unset, .unset, .unset] [(.int (xq &&& (2147483647 : Int32)))])) := c176.trans (by
       refine XS.ifNo X174.here hx rfl (hb hby at_254) rfl ((if0 _ _).trans (tlt hqs).2.1) ?_
       show Steps _ _ _ (.setTop _ (mkF _ 257 _ _)) _
       refine XS.iloadN X174.here hx rfl (hb hby at_257) rfl ?_
       show Steps _ _ _ (.setTop _ (mkF _ 258 _ _)) _
       refine X174.ldcInt hx hown (mvT hZ (hw _ (own_m 121 rfl))) (g := (mkF m 258 #[.val (.int xa), .val (.int xb), .val (.int xc), .val (.int xq), .val (.int xm), .val (.int (Int32.ofNat q0)), .val (.int (Int32.ofNat q1)), .val (.int (Int32.ofNat q2)), .val (.ref pa), .val (.ref pm), .val (.ref od), .val (.int kk), .val (.ref za), .unset, .unset, .unset, .unset, .unset, .unset, .unset, .unset, .unset] [(.int xq)])) rfl (hb hby at_258) _ ?_
       show Steps _ _ _ (.setTop _ (mkF _ 260 _ _)) _
       refine XS.iand X174.here hx rfl (hb hby at_260) rfl ?_
       show Steps _ _ _ (.setTop _ (mkF _ 261 _ _)) _
       refine XS.goto X174.here hx rfl (pc0 := 261) (pc' := 268) rfl (hb hby at_261) (by decide) (by decide) ?_
       exact Steps.refl _)
      obtain ⟨nn, hnn, enn⟩ := own_m31 xq
      rw [enn] at c178
      exact ⟨nn, hnn, c178⟩
     ·have c180 : Steps p.tables e below S0 (T174.setTop (mkF m 268 #[.val (.int xa), .val (.int xb), .val (.int xc), .val (.int xq), .val (.int xm), .val (.int (Int32.ofNat q0)), .val (.int (Int32.ofNat q1)), .val (.int (Int32.ofNat q2)), .val (.ref pa), .val (.ref pm), .val (.ref od), .val (.int kk), .val (.ref za), .unset, .unset, .unset, .unset, .unset, .unset, .unset, .unset, .unset] [(.int (xq &&& (262143 : Int32)))])) := c176.trans (by
       refine XS.ifYes X174.here hx rfl (pc0 := 254) (pc' := 264) rfl (hb hby at_254) rfl ((if0 _ _).trans (flt hqs).2.1) (by decide) (by decide) ?_
       show Steps _ _ _ (.setTop _ (mkF _ 264 _ _)) _
       refine XS.iloadN X174.here hx rfl (hb hby at_264) rfl ?_
       show Steps _ _ _ (.setTop _ (mkF _ 265 _ _)) _
       refine X174.ldcInt hx hown (mvT hZ (hw _ (own_m 0 rfl))) (g := (mkF m 265 #[.val (.int xa), .val (.int xb), .val (.int xc), .val (.int xq), .val (.int xm), .val (.int (Int32.ofNat q0)), .val (.int (Int32.ofNat q1)), .val (.int (Int32.ofNat q2)), .val (.ref pa), .val (.ref pm), .val (.ref od), .val (.int kk), .val (.ref za), .unset, .unset, .unset, .unset, .unset, .unset, .unset, .unset, .unset] [(.int xq)])) rfl (hb hby at_265) _ ?_
       show Steps _ _ _ (.setTop _ (mkF _ 267 _ _)) _
       refine XS.iand X174.here hx rfl (hb hby at_267) rfl ?_
       exact Steps.refl _)
      obtain ⟨nn, hnn, enn⟩ := (show ∃ n, n < 2 ^ 31 ∧ (xq &&& 262143) = Int32.ofNat n by obtain ⟨n, a, b⟩ := own_m18 xq; exact ⟨n, by omega, b⟩)
      rw [enn] at c180
      exact ⟨nn, hnn, c180⟩
    obtain ⟨qn, hqn, c_qn⟩ := j_qn
    have lt_pa := f174_P_pa.lt
    have lt_od := f174_P_od.lt
    have lt_za := Fza.lt
    obtain ⟨T182, h182, X182, e182, E182, A182, D182, -, st182⟩ := newO X174 hx hZ hown (hw _ (own_m 7 rfl)) (hw _ (own_m 8 rfl)) (hw _ (own_m 9 rfl)) e174 (g := (mkF m 270 #[.val (.int xa), .val (.int xb), .val (.int xc), .val (.int xq), .val (.int xm), .val (.int (Int32.ofNat q0)), .val (.int (Int32.ofNat q1)), .val (.int (Int32.ofNat q2)), .val (.ref pa), .val (.ref pm), .val (.ref od), .val (.int kk), .val (.ref za), .val (.int (Int32.ofNat qn)), .unset, .unset, .unset, .unset, .unset, .unset, .unset, .unset] [])) rfl (hb hby at_270) (by decide) (by decide)
    obtain ⟨so, g182⟩ : ∃ z, z = h174.size := ⟨_, rfl⟩
    have ne_pa_so : pa ≠ so := Nat.ne_of_lt (Nat.lt_of_lt_of_le f174_P_pa.lt (Nat.le_of_eq g182.symm))
    have ne_od_so : od ≠ so := Nat.ne_of_lt (Nat.lt_of_lt_of_le f174_P_od.lt (Nat.le_of_eq g182.symm))
    have ne_za_so : za ≠ so := Nat.ne_of_lt (Nat.lt_of_lt_of_le Fza.lt (Nat.le_of_eq g182.symm))
    have sz_so : h0.size ≤ so := Nat.le_trans K174.1 (Nat.le_of_eq g182.symm)
    have g_so : n0 ≤ so := Nat.le_trans Z0 sz_so
    rw [← g182] at A182 D182 st182
    have f182_P_pa := f174_P_pa.ext E182
    have f182_P_od := f174_P_od.ext E182
    have f182_P_za := Fza.ext E182
    have K182 := K174.ext E182
    have E_so := A182
    have F_levels_so : Fld Z h182 so "com/example/coersa/coersa/PlaceSet" "levels" "[[J" .null := D182 (Or.inl (hw _ (own_m 21 rfl))) (ty := (.array (.array .long))) (by decide)
    have F_blockCounts_so : Fld Z h182 so "com/example/coersa/coersa/PlaceSet" "blockCounts" "[I" .null := D182 (Or.inl (hw _ (own_m 23 rfl))) (ty := (.array .int)) (by decide)
    rw [← g182] at lt_pa lt_od lt_za
    have hsz := Nat.le_of_lt E_so.lt
    obtain ⟨LL184, XL184, NL184⟩ : ∃ LL : List Loc, Stand p l e room_1 s m #[(.int xa), (.int xb), (.int xc), (.int xq), (.int xm)] below meth c T182 LL 10 32 ∧ Fr n0 LL := ⟨_, X182, N174⟩
    have c185 : Steps p.tables e below S0 (T182.setTop (mkF m 274 #[.val (.int xa), .val (.int xb), .val (.int xc), .val (.int xq), .val (.int xm), .val (.int (Int32.ofNat q0)), .val (.int (Int32.ofNat q1)), .val (.int (Int32.ofNat q2)), .val (.ref pa), .val (.ref pm), .val (.ref od), .val (.int kk), .val (.ref za), .val (.int (Int32.ofNat qn)), .unset, .unset, .unset, .unset, .unset, .unset, .unset, .unset] [(.ref so), (.ref so)])) := c_qn.trans (by
     refine XS.istore X174.here hx rfl (hb hby at_268) rfl rfl ?_
     show Steps _ _ _ (.setTop _ (mkF _ 270 _ _)) _
     refine st182 _ ?_
     show Steps _ _ _ (.setTop _ (mkF _ 273 _ _)) _
     refine XS.dup XL184.here hx rfl (hb hby at_273) rfl rfl ?_
     exact Steps.refl _)
    obtain ⟨_, _, ⟨T186, L186, k186, n186⟩, -, X186, ⟨Lc186, hQ186, l186, y186, z186⟩, st186⟩ := XL184.specialBack hx (y := (⟨"com/example/coersa/coersa/PlaceSet", "<init>", "()V"⟩ : MethodName)) rfl hown (mvT hZ (hw _ (own_m 10 rfl))) (mvT hZ (hw _ (own_m 11 rfl))) (mvT hZ (hw _ (own_m 12 rfl))) (by decide) (backOf (W := 1) (own_ini l Z a0 hw [] so .null .null h182 so hsz (Nat.le_refl _) E_so F_levels_so F_blockCounts_so) hZ (hw _ (own_m 12 rfl)) (hw _ (own_m 9 rfl)) (Nat.le_of_ble_eq_true rfl) (Nat.le_of_ble_eq_true rfl)) (g := (mkF m 274 #[.val (.int xa), .val (.int xb), .val (.int xc), .val (.int xq), .val (.int xm), .val (.int (Int32.ofNat q0)), .val (.int (Int32.ofNat q1)), .val (.int (Int32.ofNat q2)), .val (.ref pa), .val (.ref pm), .val (.ref od), .val (.int kk), .val (.ref za), .val (.int (Int32.ofNat qn)), .unset, .unset, .unset, .unset, .unset, .unset, .unset, .unset] [(.ref so), (.ref so)])) rfl (by rw [hml]; rfl) (Steps.refl _) (a := so) (argsL := []) (rest := [(.ref so)]) (lenOf own_pd8 rfl) rfl (by show 2 * 0 + _ ≤ _; exact Nat.le_of_eq rfl) (hb hby at_274) (fun _ _ => ⟨rfl, e182, (by show 10 + 3 ≤ 72; exact Nat.le_of_ble_eq_true rfl), (by show 32 + 3 ≤ 25408; exact Nat.le_of_ble_eq_true rfl)⟩)
    dsimp only [Pt.U, Pt.locs, Pt.cells, Pt.slots] at X186 l186 y186 z186 st186 hQ186
    subst l186 y186 z186
    obtain ⟨rfl, N186q, Kb186, lvx0, bcx0, lsx0, Px0⟩ := hQ186
    have N186 := Fr.app NL184 (own_Fr_mono g_so N186q)
    have Fpa186 := f182_P_pa.kb Kb186 lt_pa
    have Fod186 := f182_P_od.kb Kb186 lt_od
    have Fza186 := f182_P_za.kb Kb186 lt_za
    have hsz186 := Nat.le_trans hsz Kb186.1
    obtain ⟨LL188, XL188, NL188⟩ : ∃ LL : List Loc, Stand p l e room_1 s m #[(.int xa), (.int xb), (.int xc), (.int xq), (.int xm)] below meth c T186 LL 13 35 ∧ Fr n0 LL := ⟨_, X186, N186⟩
    have SHx0 := own_SH0
    have SEx0 := own_SEM0
    have Cx0 := own_CNT0
    have c189 : Steps p.tables e below S0 (T186.setTop (mkF m 283 #[.val (.int xa), .val (.int xb), .val (.int xc), .val (.int xq), .val (.int xm), .val (.int (Int32.ofNat q0)), .val (.int (Int32.ofNat q1)), .val (.int (Int32.ofNat q2)), .val (.ref pa), .val (.ref pm), .val (.ref od), .val (.int kk), .val (.ref za), .val (.int (Int32.ofNat qn)), .val (.ref so), .unset, .unset, .unset, .unset, .unset, .unset, .unset] [(.int (Int32.ofNat q0)), (.ref so)])) := c185.trans (by
     refine st186.trans ?_
     show Steps _ _ _ (.setTop _ (mkF _ 277 _ _)) _
     refine XS.astore XL188.here hx rfl (hb hby at_277) rfl rfl rfl ?_
     show Steps _ _ _ (.setTop _ (mkF _ 279 _ _)) _
     refine XS.aload XL188.here hx rfl (hb hby at_279) rfl rfl ?_
     show Steps _ _ _ (.setTop _ (mkF _ 281 _ _)) _
     refine XS.iload XL188.here hx rfl (hb hby at_281) rfl ?_
     exact Steps.refl _)
    obtain ⟨cq190, kq190, q190a, q190b, q190c⟩ := isOf hZ rfl Px0.1
    obtain ⟨_, _, ⟨T190, L190, k190, n190⟩, -, X190, ⟨Lc190, hQ190, l190, y190, z190⟩, st190⟩ := XL188.virtualBack hx (y := (⟨"com/example/coersa/coersa/PlaceSet", "add", "(I)V"⟩ : MethodName)) (z := (⟨"com/example/coersa/coersa/PlaceSet", "add", "(I)V"⟩ : MethodName)) hown (mvT hZ (hw _ (own_m 24 rfl))) (mvT hZ (hw _ (own_m 25 rfl))) (notFace_of_selects (args := #[]) (mvT hZ (hw _ (own_m 27 rfl)))) (mvT hZ (hw _ (own_m 27 rfl))) (mvT hZ (hw _ (own_m 26 rfl))) (by decide) (backOf (W := 0) (own_add l Z a0 hw [] so (Int32.ofNat q0) 4300 q0 lvx0 bcx0 1 lsx0 (fun _ => 1) (fun _ _ => 0) 1 (fun _ => 0) T186.heap so hsz186 rfl hq0 SHx0 (own_B1 hq0) Px0) hZ (hw _ (own_m 28 rfl)) (hw _ (own_m 9 rfl)) (Nat.le_of_ble_eq_true rfl) (Nat.le_of_ble_eq_true rfl)) q190a q190c (g := (mkF m 283 #[.val (.int xa), .val (.int xb), .val (.int xc), .val (.int xq), .val (.int xm), .val (.int (Int32.ofNat q0)), .val (.int (Int32.ofNat q1)), .val (.int (Int32.ofNat q2)), .val (.ref pa), .val (.ref pm), .val (.ref od), .val (.int kk), .val (.ref za), .val (.int (Int32.ofNat qn)), .val (.ref so), .unset, .unset, .unset, .unset, .unset, .unset, .unset] [(.int (Int32.ofNat q0)), (.ref so)])) rfl (by rw [hml]; rfl) (Steps.refl _) (argsL := [(.int (Int32.ofNat q0))]) (rest := []) (lenOf own_pd5 rfl) rfl (by show 2 * 0 + _ ≤ _; exact Nat.le_of_eq rfl) (hb hby at_283) (fun _ _ => ⟨rfl, rfl, (by show 13 + 6 ≤ 72; exact Nat.le_of_ble_eq_true rfl), (by show 35 + 4300 ≤ 25408; exact Nat.le_of_ble_eq_true rfl)⟩)
    dsimp only [Pt.U, Pt.locs, Pt.cells, Pt.slots] at X190 l190 y190 z190 st190 hQ190
    subst l190 y190 z190
    obtain ⟨rfl, N190q, Kb190, lvx1, bcx1, Kx1, lsx1, Nx1, fy1, Mx1, gy1, mx1, GRx1, Px1, hmx1, hsx1⟩ := hQ190
    have N190 := Fr.app NL188 (own_Fr_mono g_so N190q)
    have Fpa190 := Fpa186.kb Kb190 lt_pa
    have Fod190 := Fod186.kb Kb190 lt_od
    have Fza190 := Fza186.kb Kb190 lt_za
    have hsz190 := Nat.le_trans hsz186 Kb190.1
    obtain ⟨LL192, XL192, NL192⟩ : ∃ LL : List Loc, Stand p l e room_1 s m #[(.int xa), (.int xb), (.int xc), (.int xq), (.int xm)] below meth c T190 LL 19 4335 ∧ Fr n0 LL := ⟨_, X190, N190⟩
    obtain ⟨SHx1, hwx1⟩ := own_GR_SH SHx0 GRx1 (by omega)
    have hrx1 := own_wf_room hwx1
    obtain ⟨SEy1, Cy1⟩ := own_GR_SEM SHx0 GRx1 SEx0 Cx0
    have SEx1 := own_fa_SEM SHx1 SEy1 hrx1 hmx1 hsx1
    have Cx1 := own_fa_CNT (pl := q0) Cy1
    obtain ⟨fx1, hfx1⟩ : ∃ z, z = own_fa fy1 q0 mx1 := ⟨_, rfl⟩
    rw [← hfx1] at Px1 SEx1
    obtain ⟨gx1, hgx1⟩ : ∃ z : Nat → Int32, z = (fun b => if b = q0 / 4096 then gy1 b + 1 else gy1 b) := ⟨_, rfl⟩
    rw [← hgx1] at Px1 Cx1
    have c193 : Steps p.tables e below S0 (T190.setTop (mkF m 290 #[.val (.int xa), .val (.int xb), .val (.int xc), .val (.int xq), .val (.int xm), .val (.int (Int32.ofNat q0)), .val (.int (Int32.ofNat q1)), .val (.int (Int32.ofNat q2)), .val (.ref pa), .val (.ref pm), .val (.ref od), .val (.int kk), .val (.ref za), .val (.int (Int32.ofNat qn)), .val (.ref so), .unset, .unset, .unset, .unset, .unset, .unset, .unset] [(.int (Int32.ofNat q1)), (.ref so)])) := c189.trans (by
     refine st190.trans ?_
     show Steps _ _ _ (.setTop _ (mkF _ 286 _ _)) _
     refine XS.aload XL192.here hx rfl (hb hby at_286) rfl rfl ?_
     show Steps _ _ _ (.setTop _ (mkF _ 288 _ _)) _
     refine XS.iload XL192.here hx rfl (hb hby at_288) rfl ?_
     exact Steps.refl _)
    obtain ⟨cq194, kq194, q194a, q194b, q194c⟩ := isOf hZ rfl Px1.1
    obtain ⟨_, _, ⟨T194, L194, k194, n194⟩, -, X194, ⟨Lc194, hQ194, l194, y194, z194⟩, st194⟩ := XL192.virtualBack hx (y := (⟨"com/example/coersa/coersa/PlaceSet", "add", "(I)V"⟩ : MethodName)) (z := (⟨"com/example/coersa/coersa/PlaceSet", "add", "(I)V"⟩ : MethodName)) hown (mvT hZ (hw _ (own_m 24 rfl))) (mvT hZ (hw _ (own_m 25 rfl))) (notFace_of_selects (args := #[]) (mvT hZ (hw _ (own_m 27 rfl)))) (mvT hZ (hw _ (own_m 27 rfl))) (mvT hZ (hw _ (own_m 26 rfl))) (by decide) (backOf (W := 0) (own_add l Z a0 hw [] so (Int32.ofNat q1) 8500 q1 lvx1 bcx1 Kx1 lsx1 Nx1 fx1 Mx1 gx1 T190.heap so hsz190 rfl hq1 SHx1 (own_B2 hq1) Px1) hZ (hw _ (own_m 28 rfl)) (hw _ (own_m 9 rfl)) (Nat.le_of_ble_eq_true rfl) (Nat.le_of_ble_eq_true rfl)) q194a q194c (g := (mkF m 290 #[.val (.int xa), .val (.int xb), .val (.int xc), .val (.int xq), .val (.int xm), .val (.int (Int32.ofNat q0)), .val (.int (Int32.ofNat q1)), .val (.int (Int32.ofNat q2)), .val (.ref pa), .val (.ref pm), .val (.ref od), .val (.int kk), .val (.ref za), .val (.int (Int32.ofNat qn)), .val (.ref so), .unset, .unset, .unset, .unset, .unset, .unset, .unset] [(.int (Int32.ofNat q1)), (.ref so)])) rfl (by rw [hml]; rfl) (Steps.refl _) (argsL := [(.int (Int32.ofNat q1))]) (rest := []) (lenOf own_pd5 rfl) rfl (by show 2 * 0 + _ ≤ _; exact Nat.le_of_eq rfl) (hb hby at_290) (fun _ _ => ⟨rfl, rfl, (by show 19 + 6 ≤ 72; exact Nat.le_of_ble_eq_true rfl), (by show 4335 + 8500 ≤ 25408; exact Nat.le_of_ble_eq_true rfl)⟩)
    dsimp only [Pt.U, Pt.locs, Pt.cells, Pt.slots] at X194 l194 y194 z194 st194 hQ194
    subst l194 y194 z194
    obtain ⟨rfl, N194q, Kb194, lvx2, bcx2, Kx2, lsx2, Nx2, fy2, Mx2, gy2, mx2, GRx2, Px2, hmx2, hsx2⟩ := hQ194
    have N194 := Fr.app NL192 (own_Fr_mono g_so N194q)
    have Fpa194 := Fpa190.kb Kb194 lt_pa
    have Fod194 := Fod190.kb Kb194 lt_od
    have Fza194 := Fza190.kb Kb194 lt_za
    have hsz194 := Nat.le_trans hsz190 Kb194.1
    obtain ⟨LL196, XL196, NL196⟩ : ∃ LL : List Loc, Stand p l e room_1 s m #[(.int xa), (.int xb), (.int xc), (.int xq), (.int xm)] below meth c T194 LL 25 12835 ∧ Fr n0 LL := ⟨_, X194, N194⟩
    obtain ⟨SHx2, hwx2⟩ := own_GR_SH SHx1 GRx2 (by omega)
    have hrx2 := own_wf_room hwx2
    obtain ⟨SEy2, Cy2⟩ := own_GR_SEM SHx1 GRx2 SEx1 Cx1
    have SEx2 := own_fa_SEM SHx2 SEy2 hrx2 hmx2 hsx2
    have Cx2 := own_fa_CNT (pl := q1) Cy2
    obtain ⟨fx2, hfx2⟩ : ∃ z, z = own_fa fy2 q1 mx2 := ⟨_, rfl⟩
    rw [← hfx2] at Px2 SEx2
    obtain ⟨gx2, hgx2⟩ : ∃ z : Nat → Int32, z = (fun b => if b = q1 / 4096 then gy2 b + 1 else gy2 b) := ⟨_, rfl⟩
    rw [← hgx2] at Px2 Cx2
    have c197 : Steps p.tables e below S0 (T194.setTop (mkF m 297 #[.val (.int xa), .val (.int xb), .val (.int xc), .val (.int xq), .val (.int xm), .val (.int (Int32.ofNat q0)), .val (.int (Int32.ofNat q1)), .val (.int (Int32.ofNat q2)), .val (.ref pa), .val (.ref pm), .val (.ref od), .val (.int kk), .val (.ref za), .val (.int (Int32.ofNat qn)), .val (.ref so), .unset, .unset, .unset, .unset, .unset, .unset, .unset] [(.int (Int32.ofNat q2)), (.ref so)])) := c193.trans (by
     refine st194.trans ?_
     show Steps _ _ _ (.setTop _ (mkF _ 293 _ _)) _
     refine XS.aload XL196.here hx rfl (hb hby at_293) rfl rfl ?_
     show Steps _ _ _ (.setTop _ (mkF _ 295 _ _)) _
     refine XS.iload XL196.here hx rfl (hb hby at_295) rfl ?_
     exact Steps.refl _)
    obtain ⟨cq198, kq198, q198a, q198b, q198c⟩ := isOf hZ rfl Px2.1
    obtain ⟨_, _, ⟨T198, L198, k198, n198⟩, -, X198, ⟨Lc198, hQ198, l198, y198, z198⟩, st198⟩ := XL196.virtualBack hx (y := (⟨"com/example/coersa/coersa/PlaceSet", "add", "(I)V"⟩ : MethodName)) (z := (⟨"com/example/coersa/coersa/PlaceSet", "add", "(I)V"⟩ : MethodName)) hown (mvT hZ (hw _ (own_m 24 rfl))) (mvT hZ (hw _ (own_m 25 rfl))) (notFace_of_selects (args := #[]) (mvT hZ (hw _ (own_m 27 rfl)))) (mvT hZ (hw _ (own_m 27 rfl))) (mvT hZ (hw _ (own_m 26 rfl))) (by decide) (backOf (W := 0) (own_add l Z a0 hw [] so (Int32.ofNat q2) 8500 q2 lvx2 bcx2 Kx2 lsx2 Nx2 fx2 Mx2 gx2 T194.heap so hsz194 rfl hq2 SHx2 (own_B2 hq2) Px2) hZ (hw _ (own_m 28 rfl)) (hw _ (own_m 9 rfl)) (Nat.le_of_ble_eq_true rfl) (Nat.le_of_ble_eq_true rfl)) q198a q198c (g := (mkF m 297 #[.val (.int xa), .val (.int xb), .val (.int xc), .val (.int xq), .val (.int xm), .val (.int (Int32.ofNat q0)), .val (.int (Int32.ofNat q1)), .val (.int (Int32.ofNat q2)), .val (.ref pa), .val (.ref pm), .val (.ref od), .val (.int kk), .val (.ref za), .val (.int (Int32.ofNat qn)), .val (.ref so), .unset, .unset, .unset, .unset, .unset, .unset, .unset] [(.int (Int32.ofNat q2)), (.ref so)])) rfl (by rw [hml]; rfl) (Steps.refl _) (argsL := [(.int (Int32.ofNat q2))]) (rest := []) (lenOf own_pd5 rfl) rfl (by show 2 * 0 + _ ≤ _; exact Nat.le_of_eq rfl) (hb hby at_297) (fun _ _ => ⟨rfl, rfl, (by show 25 + 6 ≤ 72; exact Nat.le_of_ble_eq_true rfl), (by show 12835 + 8500 ≤ 25408; exact Nat.le_of_ble_eq_true rfl)⟩)
    dsimp only [Pt.U, Pt.locs, Pt.cells, Pt.slots] at X198 l198 y198 z198 st198 hQ198
    subst l198 y198 z198
    obtain ⟨rfl, N198q, Kb198, lvx3, bcx3, Kx3, lsx3, Nx3, fy3, Mx3, gy3, mx3, GRx3, Px3, hmx3, hsx3⟩ := hQ198
    have N198 := Fr.app NL196 (own_Fr_mono g_so N198q)
    have Fpa198 := Fpa194.kb Kb198 lt_pa
    have Fod198 := Fod194.kb Kb198 lt_od
    have Fza198 := Fza194.kb Kb198 lt_za
    have hsz198 := Nat.le_trans hsz194 Kb198.1
    obtain ⟨LL200, XL200, NL200⟩ : ∃ LL : List Loc, Stand p l e room_1 s m #[(.int xa), (.int xb), (.int xc), (.int xq), (.int xm)] below meth c T198 LL 31 21335 ∧ Fr n0 LL := ⟨_, X198, N198⟩
    obtain ⟨SHx3, hwx3⟩ := own_GR_SH SHx2 GRx3 (by omega)
    have hrx3 := own_wf_room hwx3
    obtain ⟨SEy3, Cy3⟩ := own_GR_SEM SHx2 GRx3 SEx2 Cx2
    have SEx3 := own_fa_SEM SHx3 SEy3 hrx3 hmx3 hsx3
    have Cx3 := own_fa_CNT (pl := q2) Cy3
    obtain ⟨fx3, hfx3⟩ : ∃ z, z = own_fa fy3 q2 mx3 := ⟨_, rfl⟩
    rw [← hfx3] at Px3 SEx3
    obtain ⟨gx3, hgx3⟩ : ∃ z : Nat → Int32, z = (fun b => if b = q2 / 4096 then gy3 b + 1 else gy3 b) := ⟨_, rfl⟩
    rw [← hgx3] at Px3 Cx3
    have hnd := own_nd3 h01 h02 h12
    have hpm := own_perm (q0 := q0) (q1 := q1) (q2 := q2) hPM
    have hnd0 := hpm.nodup_iff.mp hnd
    have hnd1 := (List.nodup_cons.mp hnd0).2
    have hnd2 := (List.nodup_cons.mp hnd1).2
    have nso : so ≠ za := Nat.ne_of_gt lt_za
    have qx202 := Fod198
    obtain ⟨cOx202, AOx202, EOx202, SOx202, HOx202⟩ := qx202
    have qx204 := Fpa198
    obtain ⟨cIx204, AIx204, EIx204, SIx204, HIx204⟩ := qx204
    have c205 : Steps p.tables e below S0 (T198.setTop (mkF m 309 #[.val (.int xa), .val (.int xb), .val (.int xc), .val (.int xq), .val (.int xm), .val (.int (Int32.ofNat q0)), .val (.int (Int32.ofNat q1)), .val (.int (Int32.ofNat q2)), .val (.ref pa), .val (.ref pm), .val (.ref od), .val (.int kk), .val (.ref za), .val (.int (Int32.ofNat qn)), .val (.ref so), .unset, .unset, .unset, .unset, .unset, .unset, .unset] [(.int (Int32.ofNat (own_pv q0 q1 q2 o0))), (.ref so)])) := c197.trans (by
     refine st198.trans ?_
     show Steps _ _ _ (.setTop _ (mkF _ 300 _ _)) _
     refine XS.aload XL200.here hx rfl (hb hby at_300) rfl rfl ?_
     show Steps _ _ _ (.setTop _ (mkF _ 302 _ _)) _
     refine XS.aload XL200.here hx rfl (hb hby at_302) rfl rfl ?_
     show Steps _ _ _ (.setTop _ (mkF _ 304 _ _)) _
     refine XS.aload XL200.here hx rfl (hb hby at_304) rfl rfl ?_
     show Steps _ _ _ (.setTop _ (mkF _ 306 _ _)) _
     refine XS.iconst XL200.here hx rfl (hb hby at_306) ?_
     show Steps _ _ _ (.setTop _ (mkF _ 307 _ _)) _
     refine XL200.iaload hx (j := (0 : Int32)) (v := (.int (Int32.ofNat o0))) AOx202.1 (State.isArrayOf_alike hZ.alike AOx202.2.1) AOx202.2.2 (own_inb (j := 0) SOx202 (by decide) (by decide)) (HOx202 0 (by decide)) (g := (mkF m 307 #[.val (.int xa), .val (.int xb), .val (.int xc), .val (.int xq), .val (.int xm), .val (.int (Int32.ofNat q0)), .val (.int (Int32.ofNat q1)), .val (.int (Int32.ofNat q2)), .val (.ref pa), .val (.ref pm), .val (.ref od), .val (.int kk), .val (.ref za), .val (.int (Int32.ofNat qn)), .val (.ref so), .unset, .unset, .unset, .unset, .unset, .unset, .unset] [(.int (0 : Int32)), (.ref od), (.ref pa), (.ref so)])) rfl rfl (hb hby at_307) _ ?_
     show Steps _ _ _ (.setTop _ (mkF _ 308 _ _)) _
     refine XL200.iaload hx (j := (Int32.ofNat o0)) (v := (.int (Int32.ofNat (own_pv q0 q1 q2 o0)))) AIx204.1 (State.isArrayOf_alike hZ.alike AIx204.2.1) AIx204.2.2 (own_inb (j := o0) SIx204 ho0 (by decide)) (by rw [own_cl (j := o0) (by omega)]; exact HIx204 o0 ho0) (g := (mkF m 308 #[.val (.int xa), .val (.int xb), .val (.int xc), .val (.int xq), .val (.int xm), .val (.int (Int32.ofNat q0)), .val (.int (Int32.ofNat q1)), .val (.int (Int32.ofNat q2)), .val (.ref pa), .val (.ref pm), .val (.ref od), .val (.int kk), .val (.ref za), .val (.int (Int32.ofNat qn)), .val (.ref so), .unset, .unset, .unset, .unset, .unset, .unset, .unset] [(.int (Int32.ofNat o0)), (.ref pa), (.ref so)])) rfl rfl (hb hby at_308) _ ?_
     exact Steps.refl _)
    have pmx204 : List.Perm [q2, q1, q0] ((own_pv q0 q1 q2 o0) :: [own_pv q0 q1 q2 o1, own_pv q0 q1 q2 o2]) := hpm
    have rox204 := SEx3.1 (own_pv q0 q1 q2 o0) (pmx204.mem_iff.mpr List.mem_cons_self)
    obtain ⟨cq206, kq206, q206a, q206b, q206c⟩ := isOf hZ rfl Px3.1
    obtain ⟨_, _, ⟨T206, L206, k206, n206⟩, -, X206, ⟨Lc206, hQ206, l206, y206, z206⟩, st206⟩ := XL200.virtualBack hx (y := (⟨"com/example/coersa/coersa/PlaceSet", "remove", "(I)V"⟩ : MethodName)) (z := (⟨"com/example/coersa/coersa/PlaceSet", "remove", "(I)V"⟩ : MethodName)) hown (mvT hZ (hw _ (own_m 44 rfl))) (mvT hZ (hw _ (own_m 45 rfl))) (notFace_of_selects (args := #[]) (mvT hZ (hw _ (own_m 47 rfl)))) (mvT hZ (hw _ (own_m 47 rfl))) (mvT hZ (hw _ (own_m 46 rfl))) (by decide) (backOf (W := 0) (own_rem l Z a0 hw [] so (Int32.ofNat (own_pv q0 q1 q2 o0)) (own_pv q0 q1 q2 o0) lvx3 bcx3 Kx3 lsx3 Nx3 fx3 Mx3 gx3 T198.heap so hsz198 rfl (hpv o0) SHx3 rox204 Px3) hZ (hw _ (own_m 48 rfl)) (hw _ (own_m 9 rfl)) (Nat.le_of_ble_eq_true rfl) (Nat.le_of_ble_eq_true rfl)) q206a q206c (g := (mkF m 309 #[.val (.int xa), .val (.int xb), .val (.int xc), .val (.int xq), .val (.int xm), .val (.int (Int32.ofNat q0)), .val (.int (Int32.ofNat q1)), .val (.int (Int32.ofNat q2)), .val (.ref pa), .val (.ref pm), .val (.ref od), .val (.int kk), .val (.ref za), .val (.int (Int32.ofNat qn)), .val (.ref so), .unset, .unset, .unset, .unset, .unset, .unset, .unset] [(.int (Int32.ofNat (own_pv q0 q1 q2 o0))), (.ref so)])) rfl (by rw [hml]; rfl) (Steps.refl _) (argsL := [(.int (Int32.ofNat (own_pv q0 q1 q2 o0)))]) (rest := []) (lenOf own_pd5 rfl) rfl (by show 2 * 0 + _ ≤ _; exact Nat.le_of_eq rfl) (hb hby at_309) (fun _ _ => ⟨rfl, rfl, (by show 31 + 0 ≤ 72; exact Nat.le_of_ble_eq_true rfl), (by show 21335 + 0 ≤ 25408; exact Nat.le_of_ble_eq_true rfl)⟩)
    dsimp only [Pt.U, Pt.locs, Pt.cells, Pt.slots] at X206 l206 y206 z206 st206 hQ206
    subst l206 y206 z206
    obtain ⟨rfl, N206q, Kb206, mrx204, Prx204, hmrx204, hsrx204, hzrx204⟩ := hQ206
    have N206 := Fr.app NL200 (own_Fr_mono g_so N206q)
    obtain ⟨LL208, XL208, NL208⟩ : ∃ LL : List Loc, Stand p l e room_1 s m #[(.int xa), (.int xb), (.int xc), (.int xq), (.int xm)] below meth c T206 LL 31 21335 ∧ Fr n0 LL := ⟨_, X206, N206⟩
    have Fpax206 := Fpa198.kb Kb206 lt_pa
    have Fodx206 := Fod198.kb Kb206 lt_od
    have Fzax206 := Fza198.kb Kb206 lt_za
    have hszx206 := Nat.le_trans hsz198 Kb206.1
    have SEx204 := own_fr_SEM SHx3 SEx3 pmx204 hnd hmrx204 hsrx204 hzrx204
    have Cx204 := own_fr_CNT Cx3 pmx204
    obtain ⟨fx204, hfx204⟩ : ∃ z, z = own_fr fx3 (own_pv q0 q1 q2 o0) mrx204 := ⟨_, rfl⟩
    rw [← hfx204] at Prx204 SEx204
    obtain ⟨gx204, hgx204⟩ : ∃ z : Nat → Int32, z = (fun b => if b = (own_pv q0 q1 q2 o0) / 4096 then gx3 b - 1 else gx3 b) := ⟨_, rfl⟩
    rw [← hgx204] at Prx204 Cx204
    have qx210 := Fodx206
    obtain ⟨cOx210, AOx210, EOx210, SOx210, HOx210⟩ := qx210
    have qx213 := Fzax206
    obtain ⟨cZx213, AZx213, SZx213, HZx213⟩ := qx213
    obtain ⟨T214, h214, X214, e214, W214, st214⟩ := stZ XL208 hx hZ rfl AZx213 (j := (Int32.ofNat o0)) (own_inb (j := o0) SZx213 ho0 (by decide)) (g := (mkF m 319 #[.val (.int xa), .val (.int xb), .val (.int xc), .val (.int xq), .val (.int xm), .val (.int (Int32.ofNat q0)), .val (.int (Int32.ofNat q1)), .val (.int (Int32.ofNat q2)), .val (.ref pa), .val (.ref pm), .val (.ref od), .val (.int kk), .val (.ref za), .val (.int (Int32.ofNat qn)), .val (.ref so), .unset, .unset, .unset, .unset, .unset, .unset, .unset] [(.int (0 : Int32)), (.int (Int32.ofNat o0)), (.ref za)])) rfl rfl (hb hby at_319)
    have c215 : Steps p.tables e below S0 (T214.setTop (mkF m 320 #[.val (.int xa), .val (.int xb), .val (.int xc), .val (.int xq), .val (.int xm), .val (.int (Int32.ofNat q0)), .val (.int (Int32.ofNat q1)), .val (.int (Int32.ofNat q2)), .val (.ref pa), .val (.ref pm), .val (.ref od), .val (.int kk), .val (.ref za), .val (.int (Int32.ofNat qn)), .val (.ref so), .unset, .unset, .unset, .unset, .unset, .unset, .unset] [])) := c205.trans (by
     refine st206.trans ?_
     show Steps _ _ _ (.setTop _ (mkF _ 312 _ _)) _
     refine XS.aload XL208.here hx rfl (hb hby at_312) rfl rfl ?_
     show Steps _ _ _ (.setTop _ (mkF _ 314 _ _)) _
     refine XS.aload XL208.here hx rfl (hb hby at_314) rfl rfl ?_
     show Steps _ _ _ (.setTop _ (mkF _ 316 _ _)) _
     refine XS.iconst XL208.here hx rfl (hb hby at_316) ?_
     show Steps _ _ _ (.setTop _ (mkF _ 317 _ _)) _
     refine XL208.iaload hx (j := (0 : Int32)) (v := (.int (Int32.ofNat o0))) AOx210.1 (State.isArrayOf_alike hZ.alike AOx210.2.1) AOx210.2.2 (own_inb (j := 0) SOx210 (by decide) (by decide)) (HOx210 0 (by decide)) (g := (mkF m 317 #[.val (.int xa), .val (.int xb), .val (.int xc), .val (.int xq), .val (.int xm), .val (.int (Int32.ofNat q0)), .val (.int (Int32.ofNat q1)), .val (.int (Int32.ofNat q2)), .val (.ref pa), .val (.ref pm), .val (.ref od), .val (.int kk), .val (.ref za), .val (.int (Int32.ofNat qn)), .val (.ref so), .unset, .unset, .unset, .unset, .unset, .unset, .unset] [(.int (0 : Int32)), (.ref od), (.ref za)])) rfl rfl (hb hby at_317) _ ?_
     show Steps _ _ _ (.setTop _ (mkF _ 318 _ _)) _
     refine XS.iconst XL208.here hx rfl (hb hby at_318) ?_
     show Steps _ _ _ (.setTop _ (mkF _ 319 _ _)) _
     refine st214 _ ?_
     exact Steps.refl _)
    have N214 := Fr.snoc X214 NL208 g_za
    rw [own_cl (j := o0) (by omega), show nar .boolean (0 : Int32) = 0 by decide] at W214
    obtain ⟨LL216, XL216, NL216⟩ : ∃ LL : List Loc, Stand p l e room_1 s m #[(.int xa), (.int xb), (.int xc), (.int xq), (.int xm)] below meth c T214 LL 31 21335 ∧ Fr n0 LL := ⟨_, X214, N214⟩
    have Px213 := Prx204.otherZ AZx213 nso W214
    have Fzx213 : own_ZA Z h214 za 3 (own_z1 o0 own_z0) := Fzax206.set W214 ho0 (fun _ _ => rfl)
    have Fpax213 := Fpax206.other W214 (by
     obtain ⟨cx, Ax, -⟩ := Fpax206
     exact own_ty_ne Ax AZx213 (by decide))
    have Fodx213 := Fodx206.other W214 (by
     obtain ⟨cx, Ax, -⟩ := Fodx206
     exact own_ty_ne Ax AZx213 (by decide))
    have hszx213 : so ≤ h214.size := by rw [W214.size]; exact hszx206
    have jr : ∃ (Tq : State) (Lq : List Loc) (hq : Heap) (S : List Nat) (fz : Nat → Int32) (ff : Nat → Nat → Int64) (gg : Nat → Int32), Stand p l e room_1 s m #[(.int xa), (.int xb), (.int xc), (.int xq), (.int xm)] below meth c Tq Lq 31 21335 ∧ Fr n0 Lq ∧ Tq.heap = hq ∧ own_PS Z so hq so lvx3 bcx3 Kx3 lsx3 Nx3 ff Mx3 gg ∧ own_SEM S Kx3 Nx3 ff ∧ own_CNT S Mx3 gg ∧ S.Nodup ∧ S.length ≤ 2 ∧ own_H S (own_pv q0 q1 q2) fz ∧ own_IA Z hq pa 3 (fun j => Int32.ofNat (own_pv q0 q1 q2 j)) ∧ own_ZA Z hq za 3 fz ∧ so ≤ hq.size ∧ Steps p.tables e below S0 (Tq.setTop (mkF m 372 #[.val (.int xa), .val (.int xb), .val (.int xc), .val (.int xq), .val (.int xm), .val (.int (Int32.ofNat q0)), .val (.int (Int32.ofNat q1)), .val (.int (Int32.ofNat q2)), .val (.ref pa), .val (.ref pm), .val (.ref od), .val (.int kk), .val (.ref za), .val (.int (Int32.ofNat qn)), .val (.ref so), .unset, .unset, .unset, .unset, .unset, .unset, .unset] [])) := by
     rcases hk3 with hk | hk | hk
     ·have c220 : Steps p.tables e below S0 (T214.setTop (mkF m 372 #[.val (.int xa), .val (.int xb), .val (.int xc), .val (.int xq), .val (.int xm), .val (.int (Int32.ofNat q0)), .val (.int (Int32.ofNat q1)), .val (.int (Int32.ofNat q2)), .val (.ref pa), .val (.ref pm), .val (.ref od), .val (.int kk), .val (.ref za), .val (.int (Int32.ofNat qn)), .val (.ref so), .unset, .unset, .unset, .unset, .unset, .unset, .unset] [])) := c215.trans (by
       refine XS.iload XL216.here hx rfl (hb hby at_320) rfl ?_
       show Steps _ _ _ (.setTop _ (mkF _ 322 _ _)) _
       refine XS.iconst XL216.here hx rfl (hb hby at_322) ?_
       show Steps _ _ _ (.setTop _ (mkF _ 323 _ _)) _
       refine XS.icmpYes XL216.here hx rfl (pc0 := 323) (pc' := 346) rfl (hb hby at_323) rfl (tlt (by rw [hk]; decide)).1 (by decide) (by decide) ?_
       show Steps _ _ _ (.setTop _ (mkF _ 346 _ _)) _
       refine XS.iload XL216.here hx rfl (hb hby at_346) rfl ?_
       show Steps _ _ _ (.setTop _ (mkF _ 348 _ _)) _
       refine XS.iconst XL216.here hx rfl (hb hby at_348) ?_
       show Steps _ _ _ (.setTop _ (mkF _ 349 _ _)) _
       refine XS.icmpYes XL216.here hx rfl (pc0 := 349) (pc' := 372) rfl (hb hby at_349) rfl (tlt (by rw [hk]; decide)).1 (by decide) (by decide) ?_
       exact Steps.refl _)
      exact ⟨T214, _, h214, _, _, _, _, XL216, NL216, e214, Px213, SEx204, Cx204, hnd1, (Nat.le_of_ble_eq_true rfl), own_H1 hPM, Fpax213, Fzx213, hszx213, c220⟩
     ·have qy2224 := Fodx213
      obtain ⟨cOy2224, AOy2224, EOy2224, SOy2224, HOy2224⟩ := qy2224
      have qy2226 := Fpax213
      obtain ⟨cIy2226, AIy2226, EIy2226, SIy2226, HIy2226⟩ := qy2226
      have c227 : Steps p.tables e below S0 (T214.setTop (mkF m 335 #[.val (.int xa), .val (.int xb), .val (.int xc), .val (.int xq), .val (.int xm), .val (.int (Int32.ofNat q0)), .val (.int (Int32.ofNat q1)), .val (.int (Int32.ofNat q2)), .val (.ref pa), .val (.ref pm), .val (.ref od), .val (.int kk), .val (.ref za), .val (.int (Int32.ofNat qn)), .val (.ref so), .unset, .unset, .unset, .unset, .unset, .unset, .unset] [(.int (Int32.ofNat (own_pv q0 q1 q2 o1))), (.ref so)])) := c215.trans (by
       refine XS.iload XL216.here hx rfl (hb hby at_320) rfl ?_
       show Steps _ _ _ (.setTop _ (mkF _ 322 _ _)) _
       refine XS.iconst XL216.here hx rfl (hb hby at_322) ?_
       show Steps _ _ _ (.setTop _ (mkF _ 323 _ _)) _
       refine XS.icmpNo XL216.here hx rfl (hb hby at_323) rfl (flt (by rw [hk]; decide)).1 ?_
       show Steps _ _ _ (.setTop _ (mkF _ 326 _ _)) _
       refine XS.aload XL216.here hx rfl (hb hby at_326) rfl rfl ?_
       show Steps _ _ _ (.setTop _ (mkF _ 328 _ _)) _
       refine XS.aload XL216.here hx rfl (hb hby at_328) rfl rfl ?_
       show Steps _ _ _ (.setTop _ (mkF _ 330 _ _)) _
       refine XS.aload XL216.here hx rfl (hb hby at_330) rfl rfl ?_
       show Steps _ _ _ (.setTop _ (mkF _ 332 _ _)) _
       refine XS.iconst XL216.here hx rfl (hb hby at_332) ?_
       show Steps _ _ _ (.setTop _ (mkF _ 333 _ _)) _
       refine XL216.iaload hx (j := (1 : Int32)) (v := (.int (Int32.ofNat o1))) (by rw [e214]; exact AOy2224.1) (State.isArrayOf_alike hZ.alike AOy2224.2.1) AOy2224.2.2 (own_inb (j := 1) SOy2224 (by decide) (by decide)) (HOy2224 1 (by decide)) (g := (mkF m 333 #[.val (.int xa), .val (.int xb), .val (.int xc), .val (.int xq), .val (.int xm), .val (.int (Int32.ofNat q0)), .val (.int (Int32.ofNat q1)), .val (.int (Int32.ofNat q2)), .val (.ref pa), .val (.ref pm), .val (.ref od), .val (.int kk), .val (.ref za), .val (.int (Int32.ofNat qn)), .val (.ref so), .unset, .unset, .unset, .unset, .unset, .unset, .unset] [(.int (1 : Int32)), (.ref od), (.ref pa), (.ref so)])) rfl rfl (hb hby at_333) _ ?_
       show Steps _ _ _ (.setTop _ (mkF _ 334 _ _)) _
       refine XL216.iaload hx (j := (Int32.ofNat o1)) (v := (.int (Int32.ofNat (own_pv q0 q1 q2 o1)))) (by rw [e214]; exact AIy2226.1) (State.isArrayOf_alike hZ.alike AIy2226.2.1) AIy2226.2.2 (own_inb (j := o1) SIy2226 ho1 (by decide)) (by rw [own_cl (j := o1) (by omega)]; exact HIy2226 o1 ho1) (g := (mkF m 334 #[.val (.int xa), .val (.int xb), .val (.int xc), .val (.int xq), .val (.int xm), .val (.int (Int32.ofNat q0)), .val (.int (Int32.ofNat q1)), .val (.int (Int32.ofNat q2)), .val (.ref pa), .val (.ref pm), .val (.ref od), .val (.int kk), .val (.ref za), .val (.int (Int32.ofNat qn)), .val (.ref so), .unset, .unset, .unset, .unset, .unset, .unset, .unset] [(.int (Int32.ofNat o1)), (.ref pa), (.ref so)])) rfl rfl (hb hby at_334) _ ?_
       exact Steps.refl _)
      have pmy2226 : List.Perm [own_pv q0 q1 q2 o1, own_pv q0 q1 q2 o2] ((own_pv q0 q1 q2 o1) :: [own_pv q0 q1 q2 o2]) := List.Perm.refl _
      have roy2226 := SEx204.1 (own_pv q0 q1 q2 o1) (pmy2226.mem_iff.mpr List.mem_cons_self)
      obtain ⟨cq228, kq228, q228a, q228b, q228c⟩ := isOf hZ e214 Px213.1
      obtain ⟨_, _, ⟨T228, L228, k228, n228⟩, -, X228, ⟨Lc228, hQ228, l228, y228, z228⟩, st228⟩ := XL216.virtualBack hx (y := (⟨"com/example/coersa/coersa/PlaceSet", "remove", "(I)V"⟩ : MethodName)) (z := (⟨"com/example/coersa/coersa/PlaceSet", "remove", "(I)V"⟩ : MethodName)) hown (mvT hZ (hw _ (own_m 44 rfl))) (mvT hZ (hw _ (own_m 45 rfl))) (notFace_of_selects (args := #[]) (mvT hZ (hw _ (own_m 47 rfl)))) (mvT hZ (hw _ (own_m 47 rfl))) (mvT hZ (hw _ (own_m 46 rfl))) (by decide) (backOf (W := 0) (own_rem l Z a0 hw [] so (Int32.ofNat (own_pv q0 q1 q2 o1)) (own_pv q0 q1 q2 o1) lvx3 bcx3 Kx3 lsx3 Nx3 fx204 Mx3 gx204 h214 so hszx213 rfl (hpv o1) SHx3 roy2226 Px213) hZ (hw _ (own_m 48 rfl)) (hw _ (own_m 9 rfl)) (Nat.le_of_ble_eq_true rfl) (Nat.le_of_ble_eq_true rfl)) q228a q228c (g := (mkF m 335 #[.val (.int xa), .val (.int xb), .val (.int xc), .val (.int xq), .val (.int xm), .val (.int (Int32.ofNat q0)), .val (.int (Int32.ofNat q1)), .val (.int (Int32.ofNat q2)), .val (.ref pa), .val (.ref pm), .val (.ref od), .val (.int kk), .val (.ref za), .val (.int (Int32.ofNat qn)), .val (.ref so), .unset, .unset, .unset, .unset, .unset, .unset, .unset] [(.int (Int32.ofNat (own_pv q0 q1 q2 o1))), (.ref so)])) rfl (by rw [hml]; rfl) (Steps.refl _) (argsL := [(.int (Int32.ofNat (own_pv q0 q1 q2 o1)))]) (rest := []) (lenOf own_pd5 rfl) rfl (by show 2 * 0 + _ ≤ _; exact Nat.le_of_eq rfl) (hb hby at_335) (fun _ _ => ⟨rfl, e214, (by show 31 + 0 ≤ 72; exact Nat.le_of_ble_eq_true rfl), (by show 21335 + 0 ≤ 25408; exact Nat.le_of_ble_eq_true rfl)⟩)
      dsimp only [Pt.U, Pt.locs, Pt.cells, Pt.slots] at X228 l228 y228 z228 st228 hQ228
      subst l228 y228 z228
      obtain ⟨rfl, N228q, Kb228, mry2226, Pry2226, hmry2226, hsry2226, hzry2226⟩ := hQ228
      have N228 := Fr.app NL216 (own_Fr_mono g_so N228q)
      obtain ⟨LL230, XL230, NL230⟩ : ∃ LL : List Loc, Stand p l e room_1 s m #[(.int xa), (.int xb), (.int xc), (.int xq), (.int xm)] below meth c T228 LL 31 21335 ∧ Fr n0 LL := ⟨_, X228, N228⟩
      have Fpay2228 := Fpax213.kb Kb228 lt_pa
      have Fody2228 := Fodx213.kb Kb228 lt_od
      have Fzay2228 := Fzx213.kb Kb228 lt_za
      have hszy2228 := Nat.le_trans hszx213 Kb228.1
      have SEy2226 := own_fr_SEM SHx3 SEx204 pmy2226 hnd1 hmry2226 hsry2226 hzry2226
      have Cy2226 := own_fr_CNT Cx204 pmy2226
      obtain ⟨fy2226, hfy2226⟩ : ∃ z, z = own_fr fx204 (own_pv q0 q1 q2 o1) mry2226 := ⟨_, rfl⟩
      rw [← hfy2226] at Pry2226 SEy2226
      obtain ⟨gy2226, hgy2226⟩ : ∃ z : Nat → Int32, z = (fun b => if b = (own_pv q0 q1 q2 o1) / 4096 then gx204 b - 1 else gx204 b) := ⟨_, rfl⟩
      rw [← hgy2226] at Pry2226 Cy2226
      have qy2232 := Fody2228
      obtain ⟨cOy2232, AOy2232, EOy2232, SOy2232, HOy2232⟩ := qy2232
      have qy2235 := Fzay2228
      obtain ⟨cZy2235, AZy2235, SZy2235, HZy2235⟩ := qy2235
      obtain ⟨T236, h236, X236, e236, W236, st236⟩ := stZ XL230 hx hZ rfl AZy2235 (j := (Int32.ofNat o1)) (own_inb (j := o1) SZy2235 ho1 (by decide)) (g := (mkF m 345 #[.val (.int xa), .val (.int xb), .val (.int xc), .val (.int xq), .val (.int xm), .val (.int (Int32.ofNat q0)), .val (.int (Int32.ofNat q1)), .val (.int (Int32.ofNat q2)), .val (.ref pa), .val (.ref pm), .val (.ref od), .val (.int kk), .val (.ref za), .val (.int (Int32.ofNat qn)), .val (.ref so), .unset, .unset, .unset, .unset, .unset, .unset, .unset] [(.int (0 : Int32)), (.int (Int32.ofNat o1)), (.ref za)])) rfl rfl (hb hby at_345)
      have c237 : Steps p.tables e below S0 (T236.setTop (mkF m 346 #[.val (.int xa), .val (.int xb), .val (.int xc), .val (.int xq), .val (.int xm), .val (.int (Int32.ofNat q0)), .val (.int (Int32.ofNat q1)), .val (.int (Int32.ofNat q2)), .val (.ref pa), .val (.ref pm), .val (.ref od), .val (.int kk), .val (.ref za), .val (.int (Int32.ofNat qn)), .val (.ref so), .unset, .unset, .unset, .unset, .unset, .unset, .unset] [])) := c227.trans (by
       refine st228.trans ?_
       show Steps _ _ _ (.setTop _ (mkF _ 338 _ _)) _
       refine XS.aload XL230.here hx rfl (hb hby at_338) rfl rfl ?_
       show Steps _ _ _ (.setTop _ (mkF _ 340 _ _)) _
       refine XS.aload XL230.here hx rfl (hb hby at_340) rfl rfl ?_
       show Steps _ _ _ (.setTop _ (mkF _ 342 _ _)) _
       refine XS.iconst XL230.here hx rfl (hb hby at_342) ?_
       show Steps _ _ _ (.setTop _ (mkF _ 343 _ _)) _
       refine XL230.iaload hx (j := (1 : Int32)) (v := (.int (Int32.ofNat o1))) AOy2232.1 (State.isArrayOf_alike hZ.alike AOy2232.2.1) AOy2232.2.2 (own_inb (j := 1) SOy2232 (by decide) (by decide)) (HOy2232 1 (by decide)) (g := (mkF m 343 #[.val (.int xa), .val (.int xb), .val (.int xc), .val (.int xq), .val (.int xm), .val (.int (Int32.ofNat q0)), .val (.int (Int32.ofNat q1)), .val (.int (Int32.ofNat q2)), .val (.ref pa), .val (.ref pm), .val (.ref od), .val (.int kk), .val (.ref za), .val (.int (Int32.ofNat qn)), .val (.ref so), .unset, .unset, .unset, .unset, .unset, .unset, .unset] [(.int (1 : Int32)), (.ref od), (.ref za)])) rfl rfl (hb hby at_343) _ ?_
       show Steps _ _ _ (.setTop _ (mkF _ 344 _ _)) _
       refine XS.iconst XL230.here hx rfl (hb hby at_344) ?_
       show Steps _ _ _ (.setTop _ (mkF _ 345 _ _)) _
       refine st236 _ ?_
       exact Steps.refl _)
      have N236 := Fr.snoc X236 NL230 g_za
      rw [own_cl (j := o1) (by omega), show nar .boolean (0 : Int32) = 0 by decide] at W236
      obtain ⟨LL238, XL238, NL238⟩ : ∃ LL : List Loc, Stand p l e room_1 s m #[(.int xa), (.int xb), (.int xc), (.int xq), (.int xm)] below meth c T236 LL 31 21335 ∧ Fr n0 LL := ⟨_, X236, N236⟩
      have Py2235 := Pry2226.otherZ AZy2235 nso W236
      have Fzy2235 : own_ZA Z h236 za 3 (own_z1 o1 (own_z1 o0 own_z0)) := Fzay2228.set W236 ho1 (fun _ _ => rfl)
      have Fpay2235 := Fpay2228.other W236 (by
       obtain ⟨cx, Ax, -⟩ := Fpay2228
       exact own_ty_ne Ax AZy2235 (by decide))
      have Fody2235 := Fody2228.other W236 (by
       obtain ⟨cx, Ax, -⟩ := Fody2228
       exact own_ty_ne Ax AZy2235 (by decide))
      have hszy2235 : so ≤ h236.size := by rw [W236.size]; exact hszy2228
      have c240 : Steps p.tables e below S0 (T236.setTop (mkF m 372 #[.val (.int xa), .val (.int xb), .val (.int xc), .val (.int xq), .val (.int xm), .val (.int (Int32.ofNat q0)), .val (.int (Int32.ofNat q1)), .val (.int (Int32.ofNat q2)), .val (.ref pa), .val (.ref pm), .val (.ref od), .val (.int kk), .val (.ref za), .val (.int (Int32.ofNat qn)), .val (.ref so), .unset, .unset, .unset, .unset, .unset, .unset, .unset] [])) := c237.trans (by
       refine XS.iload XL238.here hx rfl (hb hby at_346) rfl ?_
       show Steps _ _ _ (.setTop _ (mkF _ 348 _ _)) _
       refine XS.iconst XL238.here hx rfl (hb hby at_348) ?_
       show Steps _ _ _ (.setTop _ (mkF _ 349 _ _)) _
       refine XS.icmpYes XL238.here hx rfl (pc0 := 349) (pc' := 372) rfl (hb hby at_349) rfl (tlt (by rw [hk]; decide)).1 (by decide) (by decide) ?_
       exact Steps.refl _)
      exact ⟨T236, _, h236, _, _, _, _, XL238, NL238, e236, Py2235, SEy2226, Cy2226, hnd2, (Nat.le_of_ble_eq_true rfl), own_H2 hPM, Fpay2235, Fzy2235, hszy2235, c240⟩
     ·have qy3244 := Fodx213
      obtain ⟨cOy3244, AOy3244, EOy3244, SOy3244, HOy3244⟩ := qy3244
      have qy3246 := Fpax213
      obtain ⟨cIy3246, AIy3246, EIy3246, SIy3246, HIy3246⟩ := qy3246
      have c247 : Steps p.tables e below S0 (T214.setTop (mkF m 335 #[.val (.int xa), .val (.int xb), .val (.int xc), .val (.int xq), .val (.int xm), .val (.int (Int32.ofNat q0)), .val (.int (Int32.ofNat q1)), .val (.int (Int32.ofNat q2)), .val (.ref pa), .val (.ref pm), .val (.ref od), .val (.int kk), .val (.ref za), .val (.int (Int32.ofNat qn)), .val (.ref so), .unset, .unset, .unset, .unset, .unset, .unset, .unset] [(.int (Int32.ofNat (own_pv q0 q1 q2 o1))), (.ref so)])) := c215.trans (by
       refine XS.iload XL216.here hx rfl (hb hby at_320) rfl ?_
       show Steps _ _ _ (.setTop _ (mkF _ 322 _ _)) _
       refine XS.iconst XL216.here hx rfl (hb hby at_322) ?_
       show Steps _ _ _ (.setTop _ (mkF _ 323 _ _)) _
       refine XS.icmpNo XL216.here hx rfl (hb hby at_323) rfl (flt (by rw [hk]; decide)).1 ?_
       show Steps _ _ _ (.setTop _ (mkF _ 326 _ _)) _
       refine XS.aload XL216.here hx rfl (hb hby at_326) rfl rfl ?_
       show Steps _ _ _ (.setTop _ (mkF _ 328 _ _)) _
       refine XS.aload XL216.here hx rfl (hb hby at_328) rfl rfl ?_
       show Steps _ _ _ (.setTop _ (mkF _ 330 _ _)) _
       refine XS.aload XL216.here hx rfl (hb hby at_330) rfl rfl ?_
       show Steps _ _ _ (.setTop _ (mkF _ 332 _ _)) _
       refine XS.iconst XL216.here hx rfl (hb hby at_332) ?_
       show Steps _ _ _ (.setTop _ (mkF _ 333 _ _)) _
       refine XL216.iaload hx (j := (1 : Int32)) (v := (.int (Int32.ofNat o1))) (by rw [e214]; exact AOy3244.1) (State.isArrayOf_alike hZ.alike AOy3244.2.1) AOy3244.2.2 (own_inb (j := 1) SOy3244 (by decide) (by decide)) (HOy3244 1 (by decide)) (g := (mkF m 333 #[.val (.int xa), .val (.int xb), .val (.int xc), .val (.int xq), .val (.int xm), .val (.int (Int32.ofNat q0)), .val (.int (Int32.ofNat q1)), .val (.int (Int32.ofNat q2)), .val (.ref pa), .val (.ref pm), .val (.ref od), .val (.int kk), .val (.ref za), .val (.int (Int32.ofNat qn)), .val (.ref so), .unset, .unset, .unset, .unset, .unset, .unset, .unset] [(.int (1 : Int32)), (.ref od), (.ref pa), (.ref so)])) rfl rfl (hb hby at_333) _ ?_
       show Steps _ _ _ (.setTop _ (mkF _ 334 _ _)) _
       refine XL216.iaload hx (j := (Int32.ofNat o1)) (v := (.int (Int32.ofNat (own_pv q0 q1 q2 o1)))) (by rw [e214]; exact AIy3246.1) (State.isArrayOf_alike hZ.alike AIy3246.2.1) AIy3246.2.2 (own_inb (j := o1) SIy3246 ho1 (by decide)) (by rw [own_cl (j := o1) (by omega)]; exact HIy3246 o1 ho1) (g := (mkF m 334 #[.val (.int xa), .val (.int xb), .val (.int xc), .val (.int xq), .val (.int xm), .val (.int (Int32.ofNat q0)), .val (.int (Int32.ofNat q1)), .val (.int (Int32.ofNat q2)), .val (.ref pa), .val (.ref pm), .val (.ref od), .val (.int kk), .val (.ref za), .val (.int (Int32.ofNat qn)), .val (.ref so), .unset, .unset, .unset, .unset, .unset, .unset, .unset] [(.int (Int32.ofNat o1)), (.ref pa), (.ref so)])) rfl rfl (hb hby at_334) _ ?_
       exact Steps.refl _)
      have pmy3246 : List.Perm [own_pv q0 q1 q2 o1, own_pv q0 q1 q2 o2] ((own_pv q0 q1 q2 o1) :: [own_pv q0 q1 q2 o2]) := List.Perm.refl _
      have roy3246 := SEx204.1 (own_pv q0 q1 q2 o1) (pmy3246.mem_iff.mpr List.mem_cons_self)
      obtain ⟨cq248, kq248, q248a, q248b, q248c⟩ := isOf hZ e214 Px213.1
      obtain ⟨_, _, ⟨T248, L248, k248, n248⟩, -, X248, ⟨Lc248, hQ248, l248, y248, z248⟩, st248⟩ := XL216.virtualBack hx (y := (⟨"com/example/coersa/coersa/PlaceSet", "remove", "(I)V"⟩ : MethodName)) (z := (⟨"com/example/coersa/coersa/PlaceSet", "remove", "(I)V"⟩ : MethodName)) hown (mvT hZ (hw _ (own_m 44 rfl))) (mvT hZ (hw _ (own_m 45 rfl))) (notFace_of_selects (args := #[]) (mvT hZ (hw _ (own_m 47 rfl)))) (mvT hZ (hw _ (own_m 47 rfl))) (mvT hZ (hw _ (own_m 46 rfl))) (by decide) (backOf (W := 0) (own_rem l Z a0 hw [] so (Int32.ofNat (own_pv q0 q1 q2 o1)) (own_pv q0 q1 q2 o1) lvx3 bcx3 Kx3 lsx3 Nx3 fx204 Mx3 gx204 h214 so hszx213 rfl (hpv o1) SHx3 roy3246 Px213) hZ (hw _ (own_m 48 rfl)) (hw _ (own_m 9 rfl)) (Nat.le_of_ble_eq_true rfl) (Nat.le_of_ble_eq_true rfl)) q248a q248c (g := (mkF m 335 #[.val (.int xa), .val (.int xb), .val (.int xc), .val (.int xq), .val (.int xm), .val (.int (Int32.ofNat q0)), .val (.int (Int32.ofNat q1)), .val (.int (Int32.ofNat q2)), .val (.ref pa), .val (.ref pm), .val (.ref od), .val (.int kk), .val (.ref za), .val (.int (Int32.ofNat qn)), .val (.ref so), .unset, .unset, .unset, .unset, .unset, .unset, .unset] [(.int (Int32.ofNat (own_pv q0 q1 q2 o1))), (.ref so)])) rfl (by rw [hml]; rfl) (Steps.refl _) (argsL := [(.int (Int32.ofNat (own_pv q0 q1 q2 o1)))]) (rest := []) (lenOf own_pd5 rfl) rfl (by show 2 * 0 + _ ≤ _; exact Nat.le_of_eq rfl) (hb hby at_335) (fun _ _ => ⟨rfl, e214, (by show 31 + 0 ≤ 72; exact Nat.le_of_ble_eq_true rfl), (by show 21335 + 0 ≤ 25408; exact Nat.le_of_ble_eq_true rfl)⟩)
      dsimp only [Pt.U, Pt.locs, Pt.cells, Pt.slots] at X248 l248 y248 z248 st248 hQ248
      subst l248 y248 z248
      obtain ⟨rfl, N248q, Kb248, mry3246, Pry3246, hmry3246, hsry3246, hzry3246⟩ := hQ248
      have N248 := Fr.app NL216 (own_Fr_mono g_so N248q)
      obtain ⟨LL250, XL250, NL250⟩ : ∃ LL : List Loc, Stand p l e room_1 s m #[(.int xa), (.int xb), (.int xc), (.int xq), (.int xm)] below meth c T248 LL 31 21335 ∧ Fr n0 LL := ⟨_, X248, N248⟩
      have Fpay3248 := Fpax213.kb Kb248 lt_pa
      have Fody3248 := Fodx213.kb Kb248 lt_od
      have Fzay3248 := Fzx213.kb Kb248 lt_za
      have hszy3248 := Nat.le_trans hszx213 Kb248.1
      have SEy3246 := own_fr_SEM SHx3 SEx204 pmy3246 hnd1 hmry3246 hsry3246 hzry3246
      have Cy3246 := own_fr_CNT Cx204 pmy3246
      obtain ⟨fy3246, hfy3246⟩ : ∃ z, z = own_fr fx204 (own_pv q0 q1 q2 o1) mry3246 := ⟨_, rfl⟩
      rw [← hfy3246] at Pry3246 SEy3246
      obtain ⟨gy3246, hgy3246⟩ : ∃ z : Nat → Int32, z = (fun b => if b = (own_pv q0 q1 q2 o1) / 4096 then gx204 b - 1 else gx204 b) := ⟨_, rfl⟩
      rw [← hgy3246] at Pry3246 Cy3246
      have qy3252 := Fody3248
      obtain ⟨cOy3252, AOy3252, EOy3252, SOy3252, HOy3252⟩ := qy3252
      have qy3255 := Fzay3248
      obtain ⟨cZy3255, AZy3255, SZy3255, HZy3255⟩ := qy3255
      obtain ⟨T256, h256, X256, e256, W256, st256⟩ := stZ XL250 hx hZ rfl AZy3255 (j := (Int32.ofNat o1)) (own_inb (j := o1) SZy3255 ho1 (by decide)) (g := (mkF m 345 #[.val (.int xa), .val (.int xb), .val (.int xc), .val (.int xq), .val (.int xm), .val (.int (Int32.ofNat q0)), .val (.int (Int32.ofNat q1)), .val (.int (Int32.ofNat q2)), .val (.ref pa), .val (.ref pm), .val (.ref od), .val (.int kk), .val (.ref za), .val (.int (Int32.ofNat qn)), .val (.ref so), .unset, .unset, .unset, .unset, .unset, .unset, .unset] [(.int (0 : Int32)), (.int (Int32.ofNat o1)), (.ref za)])) rfl rfl (hb hby at_345)
      have c257 : Steps p.tables e below S0 (T256.setTop (mkF m 346 #[.val (.int xa), .val (.int xb), .val (.int xc), .val (.int xq), .val (.int xm), .val (.int (Int32.ofNat q0)), .val (.int (Int32.ofNat q1)), .val (.int (Int32.ofNat q2)), .val (.ref pa), .val (.ref pm), .val (.ref od), .val (.int kk), .val (.ref za), .val (.int (Int32.ofNat qn)), .val (.ref so), .unset, .unset, .unset, .unset, .unset, .unset, .unset] [])) := c247.trans (by
       refine st248.trans ?_
       show Steps _ _ _ (.setTop _ (mkF _ 338 _ _)) _
       refine XS.aload XL250.here hx rfl (hb hby at_338) rfl rfl ?_
       show Steps _ _ _ (.setTop _ (mkF _ 340 _ _)) _
       refine XS.aload XL250.here hx rfl (hb hby at_340) rfl rfl ?_
       show Steps _ _ _ (.setTop _ (mkF _ 342 _ _)) _
       refine XS.iconst XL250.here hx rfl (hb hby at_342) ?_
       show Steps _ _ _ (.setTop _ (mkF _ 343 _ _)) _
       refine XL250.iaload hx (j := (1 : Int32)) (v := (.int (Int32.ofNat o1))) AOy3252.1 (State.isArrayOf_alike hZ.alike AOy3252.2.1) AOy3252.2.2 (own_inb (j := 1) SOy3252 (by decide) (by decide)) (HOy3252 1 (by decide)) (g := (mkF m 343 #[.val (.int xa), .val (.int xb), .val (.int xc), .val (.int xq), .val (.int xm), .val (.int (Int32.ofNat q0)), .val (.int (Int32.ofNat q1)), .val (.int (Int32.ofNat q2)), .val (.ref pa), .val (.ref pm), .val (.ref od), .val (.int kk), .val (.ref za), .val (.int (Int32.ofNat qn)), .val (.ref so), .unset, .unset, .unset, .unset, .unset, .unset, .unset] [(.int (1 : Int32)), (.ref od), (.ref za)])) rfl rfl (hb hby at_343) _ ?_
       show Steps _ _ _ (.setTop _ (mkF _ 344 _ _)) _
       refine XS.iconst XL250.here hx rfl (hb hby at_344) ?_
       show Steps _ _ _ (.setTop _ (mkF _ 345 _ _)) _
       refine st256 _ ?_
       exact Steps.refl _)
      have N256 := Fr.snoc X256 NL250 g_za
      rw [own_cl (j := o1) (by omega), show nar .boolean (0 : Int32) = 0 by decide] at W256
      obtain ⟨LL258, XL258, NL258⟩ : ∃ LL : List Loc, Stand p l e room_1 s m #[(.int xa), (.int xb), (.int xc), (.int xq), (.int xm)] below meth c T256 LL 31 21335 ∧ Fr n0 LL := ⟨_, X256, N256⟩
      have Py3255 := Pry3246.otherZ AZy3255 nso W256
      have Fzy3255 : own_ZA Z h256 za 3 (own_z1 o1 (own_z1 o0 own_z0)) := Fzay3248.set W256 ho1 (fun _ _ => rfl)
      have Fpay3255 := Fpay3248.other W256 (by
       obtain ⟨cx, Ax, -⟩ := Fpay3248
       exact own_ty_ne Ax AZy3255 (by decide))
      have Fody3255 := Fody3248.other W256 (by
       obtain ⟨cx, Ax, -⟩ := Fody3248
       exact own_ty_ne Ax AZy3255 (by decide))
      have hszy3255 : so ≤ h256.size := by rw [W256.size]; exact hszy3248
      have qz262 := Fody3255
      obtain ⟨cOz262, AOz262, EOz262, SOz262, HOz262⟩ := qz262
      have qz264 := Fpay3255
      obtain ⟨cIz264, AIz264, EIz264, SIz264, HIz264⟩ := qz264
      have c265 : Steps p.tables e below S0 (T256.setTop (mkF m 361 #[.val (.int xa), .val (.int xb), .val (.int xc), .val (.int xq), .val (.int xm), .val (.int (Int32.ofNat q0)), .val (.int (Int32.ofNat q1)), .val (.int (Int32.ofNat q2)), .val (.ref pa), .val (.ref pm), .val (.ref od), .val (.int kk), .val (.ref za), .val (.int (Int32.ofNat qn)), .val (.ref so), .unset, .unset, .unset, .unset, .unset, .unset, .unset] [(.int (Int32.ofNat (own_pv q0 q1 q2 o2))), (.ref so)])) := c257.trans (by
       refine XS.iload XL258.here hx rfl (hb hby at_346) rfl ?_
       show Steps _ _ _ (.setTop _ (mkF _ 348 _ _)) _
       refine XS.iconst XL258.here hx rfl (hb hby at_348) ?_
       show Steps _ _ _ (.setTop _ (mkF _ 349 _ _)) _
       refine XS.icmpNo XL258.here hx rfl (hb hby at_349) rfl (flt (by rw [hk]; decide)).1 ?_
       show Steps _ _ _ (.setTop _ (mkF _ 352 _ _)) _
       refine XS.aload XL258.here hx rfl (hb hby at_352) rfl rfl ?_
       show Steps _ _ _ (.setTop _ (mkF _ 354 _ _)) _
       refine XS.aload XL258.here hx rfl (hb hby at_354) rfl rfl ?_
       show Steps _ _ _ (.setTop _ (mkF _ 356 _ _)) _
       refine XS.aload XL258.here hx rfl (hb hby at_356) rfl rfl ?_
       show Steps _ _ _ (.setTop _ (mkF _ 358 _ _)) _
       refine XS.iconst XL258.here hx rfl (hb hby at_358) ?_
       show Steps _ _ _ (.setTop _ (mkF _ 359 _ _)) _
       refine XL258.iaload hx (j := (2 : Int32)) (v := (.int (Int32.ofNat o2))) (by rw [e256]; exact AOz262.1) (State.isArrayOf_alike hZ.alike AOz262.2.1) AOz262.2.2 (own_inb (j := 2) SOz262 (by decide) (by decide)) (HOz262 2 (by decide)) (g := (mkF m 359 #[.val (.int xa), .val (.int xb), .val (.int xc), .val (.int xq), .val (.int xm), .val (.int (Int32.ofNat q0)), .val (.int (Int32.ofNat q1)), .val (.int (Int32.ofNat q2)), .val (.ref pa), .val (.ref pm), .val (.ref od), .val (.int kk), .val (.ref za), .val (.int (Int32.ofNat qn)), .val (.ref so), .unset, .unset, .unset, .unset, .unset, .unset, .unset] [(.int (2 : Int32)), (.ref od), (.ref pa), (.ref so)])) rfl rfl (hb hby at_359) _ ?_
       show Steps _ _ _ (.setTop _ (mkF _ 360 _ _)) _
       refine XL258.iaload hx (j := (Int32.ofNat o2)) (v := (.int (Int32.ofNat (own_pv q0 q1 q2 o2)))) (by rw [e256]; exact AIz264.1) (State.isArrayOf_alike hZ.alike AIz264.2.1) AIz264.2.2 (own_inb (j := o2) SIz264 ho2 (by decide)) (by rw [own_cl (j := o2) (by omega)]; exact HIz264 o2 ho2) (g := (mkF m 360 #[.val (.int xa), .val (.int xb), .val (.int xc), .val (.int xq), .val (.int xm), .val (.int (Int32.ofNat q0)), .val (.int (Int32.ofNat q1)), .val (.int (Int32.ofNat q2)), .val (.ref pa), .val (.ref pm), .val (.ref od), .val (.int kk), .val (.ref za), .val (.int (Int32.ofNat qn)), .val (.ref so), .unset, .unset, .unset, .unset, .unset, .unset, .unset] [(.int (Int32.ofNat o2)), (.ref pa), (.ref so)])) rfl rfl (hb hby at_360) _ ?_
       exact Steps.refl _)
      have pmz264 : List.Perm [own_pv q0 q1 q2 o2] ((own_pv q0 q1 q2 o2) :: []) := List.Perm.refl _
      have roz264 := SEy3246.1 (own_pv q0 q1 q2 o2) (pmz264.mem_iff.mpr List.mem_cons_self)
      obtain ⟨cq266, kq266, q266a, q266b, q266c⟩ := isOf hZ e256 Py3255.1
      obtain ⟨_, _, ⟨T266, L266, k266, n266⟩, -, X266, ⟨Lc266, hQ266, l266, y266, z266⟩, st266⟩ := XL258.virtualBack hx (y := (⟨"com/example/coersa/coersa/PlaceSet", "remove", "(I)V"⟩ : MethodName)) (z := (⟨"com/example/coersa/coersa/PlaceSet", "remove", "(I)V"⟩ : MethodName)) hown (mvT hZ (hw _ (own_m 44 rfl))) (mvT hZ (hw _ (own_m 45 rfl))) (notFace_of_selects (args := #[]) (mvT hZ (hw _ (own_m 47 rfl)))) (mvT hZ (hw _ (own_m 47 rfl))) (mvT hZ (hw _ (own_m 46 rfl))) (by decide) (backOf (W := 0) (own_rem l Z a0 hw [] so (Int32.ofNat (own_pv q0 q1 q2 o2)) (own_pv q0 q1 q2 o2) lvx3 bcx3 Kx3 lsx3 Nx3 fy3246 Mx3 gy3246 h256 so hszy3255 rfl (hpv o2) SHx3 roz264 Py3255) hZ (hw _ (own_m 48 rfl)) (hw _ (own_m 9 rfl)) (Nat.le_of_ble_eq_true rfl) (Nat.le_of_ble_eq_true rfl)) q266a q266c (g := (mkF m 361 #[.val (.int xa), .val (.int xb), .val (.int xc), .val (.int xq), .val (.int xm), .val (.int (Int32.ofNat q0)), .val (.int (Int32.ofNat q1)), .val (.int (Int32.ofNat q2)), .val (.ref pa), .val (.ref pm), .val (.ref od), .val (.int kk), .val (.ref za), .val (.int (Int32.ofNat qn)), .val (.ref so), .unset, .unset, .unset, .unset, .unset, .unset, .unset] [(.int (Int32.ofNat (own_pv q0 q1 q2 o2))), (.ref so)])) rfl (by rw [hml]; rfl) (Steps.refl _) (argsL := [(.int (Int32.ofNat (own_pv q0 q1 q2 o2)))]) (rest := []) (lenOf own_pd5 rfl) rfl (by show 2 * 0 + _ ≤ _; exact Nat.le_of_eq rfl) (hb hby at_361) (fun _ _ => ⟨rfl, e256, (by show 31 + 0 ≤ 72; exact Nat.le_of_ble_eq_true rfl), (by show 21335 + 0 ≤ 25408; exact Nat.le_of_ble_eq_true rfl)⟩)
      dsimp only [Pt.U, Pt.locs, Pt.cells, Pt.slots] at X266 l266 y266 z266 st266 hQ266
      subst l266 y266 z266
      obtain ⟨rfl, N266q, Kb266, mrz264, Prz264, hmrz264, hsrz264, hzrz264⟩ := hQ266
      have N266 := Fr.app NL258 (own_Fr_mono g_so N266q)
      obtain ⟨LL268, XL268, NL268⟩ : ∃ LL : List Loc, Stand p l e room_1 s m #[(.int xa), (.int xb), (.int xc), (.int xq), (.int xm)] below meth c T266 LL 31 21335 ∧ Fr n0 LL := ⟨_, X266, N266⟩
      have Fpaz266 := Fpay3255.kb Kb266 lt_pa
      have Fodz266 := Fody3255.kb Kb266 lt_od
      have Fzaz266 := Fzy3255.kb Kb266 lt_za
      have hszz266 := Nat.le_trans hszy3255 Kb266.1
      have SEz264 := own_fr_SEM SHx3 SEy3246 pmz264 hnd2 hmrz264 hsrz264 hzrz264
      have Cz264 := own_fr_CNT Cy3246 pmz264
      obtain ⟨fz264, hfz264⟩ : ∃ z, z = own_fr fy3246 (own_pv q0 q1 q2 o2) mrz264 := ⟨_, rfl⟩
      rw [← hfz264] at Prz264 SEz264
      obtain ⟨gz264, hgz264⟩ : ∃ z : Nat → Int32, z = (fun b => if b = (own_pv q0 q1 q2 o2) / 4096 then gy3246 b - 1 else gy3246 b) := ⟨_, rfl⟩
      rw [← hgz264] at Prz264 Cz264
      have qz270 := Fodz266
      obtain ⟨cOz270, AOz270, EOz270, SOz270, HOz270⟩ := qz270
      have qz273 := Fzaz266
      obtain ⟨cZz273, AZz273, SZz273, HZz273⟩ := qz273
      obtain ⟨T274, h274, X274, e274, W274, st274⟩ := stZ XL268 hx hZ rfl AZz273 (j := (Int32.ofNat o2)) (own_inb (j := o2) SZz273 ho2 (by decide)) (g := (mkF m 371 #[.val (.int xa), .val (.int xb), .val (.int xc), .val (.int xq), .val (.int xm), .val (.int (Int32.ofNat q0)), .val (.int (Int32.ofNat q1)), .val (.int (Int32.ofNat q2)), .val (.ref pa), .val (.ref pm), .val (.ref od), .val (.int kk), .val (.ref za), .val (.int (Int32.ofNat qn)), .val (.ref so), .unset, .unset, .unset, .unset, .unset, .unset, .unset] [(.int (0 : Int32)), (.int (Int32.ofNat o2)), (.ref za)])) rfl rfl (hb hby at_371)
      have c275 : Steps p.tables e below S0 (T274.setTop (mkF m 372 #[.val (.int xa), .val (.int xb), .val (.int xc), .val (.int xq), .val (.int xm), .val (.int (Int32.ofNat q0)), .val (.int (Int32.ofNat q1)), .val (.int (Int32.ofNat q2)), .val (.ref pa), .val (.ref pm), .val (.ref od), .val (.int kk), .val (.ref za), .val (.int (Int32.ofNat qn)), .val (.ref so), .unset, .unset, .unset, .unset, .unset, .unset, .unset] [])) := c265.trans (by
       refine st266.trans ?_
       show Steps _ _ _ (.setTop _ (mkF _ 364 _ _)) _
       refine XS.aload XL268.here hx rfl (hb hby at_364) rfl rfl ?_
       show Steps _ _ _ (.setTop _ (mkF _ 366 _ _)) _
       refine XS.aload XL268.here hx rfl (hb hby at_366) rfl rfl ?_
       show Steps _ _ _ (.setTop _ (mkF _ 368 _ _)) _
       refine XS.iconst XL268.here hx rfl (hb hby at_368) ?_
       show Steps _ _ _ (.setTop _ (mkF _ 369 _ _)) _
       refine XL268.iaload hx (j := (2 : Int32)) (v := (.int (Int32.ofNat o2))) AOz270.1 (State.isArrayOf_alike hZ.alike AOz270.2.1) AOz270.2.2 (own_inb (j := 2) SOz270 (by decide) (by decide)) (HOz270 2 (by decide)) (g := (mkF m 369 #[.val (.int xa), .val (.int xb), .val (.int xc), .val (.int xq), .val (.int xm), .val (.int (Int32.ofNat q0)), .val (.int (Int32.ofNat q1)), .val (.int (Int32.ofNat q2)), .val (.ref pa), .val (.ref pm), .val (.ref od), .val (.int kk), .val (.ref za), .val (.int (Int32.ofNat qn)), .val (.ref so), .unset, .unset, .unset, .unset, .unset, .unset, .unset] [(.int (2 : Int32)), (.ref od), (.ref za)])) rfl rfl (hb hby at_369) _ ?_
       show Steps _ _ _ (.setTop _ (mkF _ 370 _ _)) _
       refine XS.iconst XL268.here hx rfl (hb hby at_370) ?_
       show Steps _ _ _ (.setTop _ (mkF _ 371 _ _)) _
       refine st274 _ ?_
       exact Steps.refl _)
      have N274 := Fr.snoc X274 NL268 g_za
      rw [own_cl (j := o2) (by omega), show nar .boolean (0 : Int32) = 0 by decide] at W274
      obtain ⟨LL276, XL276, NL276⟩ : ∃ LL : List Loc, Stand p l e room_1 s m #[(.int xa), (.int xb), (.int xc), (.int xq), (.int xm)] below meth c T274 LL 31 21335 ∧ Fr n0 LL := ⟨_, X274, N274⟩
      have Pz273 := Prz264.otherZ AZz273 nso W274
      have Fzz273 : own_ZA Z h274 za 3 (own_z1 o2 (own_z1 o1 (own_z1 o0 own_z0))) := Fzaz266.set W274 ho2 (fun _ _ => rfl)
      have Fpaz273 := Fpaz266.other W274 (by
       obtain ⟨cx, Ax, -⟩ := Fpaz266
       exact own_ty_ne Ax AZz273 (by decide))
      have Fodz273 := Fodz266.other W274 (by
       obtain ⟨cx, Ax, -⟩ := Fodz266
       exact own_ty_ne Ax AZz273 (by decide))
      have hszz273 : so ≤ h274.size := by rw [W274.size]; exact hszz266
      exact ⟨T274, _, h274, _, _, _, _, XL276, NL276, e274, Pz273, SEz264, Cz264, List.nodup_nil, (Nat.le_of_ble_eq_true rfl), own_H3 hPM, Fpaz273, Fzz273, hszz273, c275⟩
    obtain ⟨Tq, Lq, hq, S, fz, ff, gg, XQ, NQ, eQ, PQ, SEQ, CQ, ndQ, lnQ, HHQ, IQ, ZQ, hszQ, cQ⟩ := jr
    have hSb : ∀ p, p ∈ S → p < 262144 := fun p hp => by
     rcases (HHQ p).mp hp with q | q | q <;> rw [q.2] <;> exact hpv _
    have c277 : Steps p.tables e below S0 (Tq.setTop (mkF m 377 #[.val (.int xa), .val (.int xb), .val (.int xc), .val (.int xq), .val (.int xm), .val (.int (Int32.ofNat q0)), .val (.int (Int32.ofNat q1)), .val (.int (Int32.ofNat q2)), .val (.ref pa), .val (.ref pm), .val (.ref od), .val (.int kk), .val (.ref za), .val (.int (Int32.ofNat qn)), .val (.ref so), .unset, .unset, .unset, .unset, .unset, .unset, .unset] [(.int (0 : Int32)), (.ref za), (.ref pa)])) := cQ.trans (by
     refine XS.aload XQ.here hx rfl (hb hby at_372) rfl rfl ?_
     show Steps _ _ _ (.setTop _ (mkF _ 374 _ _)) _
     refine XS.aload XQ.here hx rfl (hb hby at_374) rfl rfl ?_
     show Steps _ _ _ (.setTop _ (mkF _ 376 _ _)) _
     refine XS.iconst XQ.here hx rfl (hb hby at_376) ?_
     exact Steps.refl _)
    obtain ⟨_, _, ⟨T278, L278, k278, n278⟩, -, X278, ⟨Lc278, hQ278, l278, y278, z278⟩, st278⟩ := Jvm.LawKit.callS XQ hx (y := (⟨"com/example/coersa/coersa/PlaceSetRemovePinLaw", "ref", "([I[ZI)I"⟩ : MethodName)) hown (mvT hZ (hw _ (own_m 50 rfl))) (mvT hZ (hw _ (own_m 51 rfl))) (mvT hZ (hw _ (own_m 52 rfl))) (mvT hZ (hw _ (own_m 53 rfl))) (by decide) (backOf (W := 0) (own_rfm l Z a0 hw [] pa za (0 : Int32) (fun j => Int32.ofNat (own_pv q0 q1 q2 j)) fz hq n0 (Nat.le_trans g_so hszQ) IQ ZQ) hZ (hw _ (own_m 53 rfl)) (hw _ (own_m 52 rfl)) (Nat.le_of_ble_eq_true rfl) (Nat.le_of_ble_eq_true rfl)) (g := (mkF m 377 #[.val (.int xa), .val (.int xb), .val (.int xc), .val (.int xq), .val (.int xm), .val (.int (Int32.ofNat q0)), .val (.int (Int32.ofNat q1)), .val (.int (Int32.ofNat q2)), .val (.ref pa), .val (.ref pm), .val (.ref od), .val (.int kk), .val (.ref za), .val (.int (Int32.ofNat qn)), .val (.ref so), .unset, .unset, .unset, .unset, .unset, .unset, .unset] [(.int (0 : Int32)), (.ref za), (.ref pa)])) rfl (by rw [hml]; rfl) (argsL := [(.ref pa), (.ref za), (.int (0 : Int32))]) (rest := []) (lenOf own_pd9 rfl) rfl (by show 2 * 0 + _ ≤ _; exact Nat.le_of_eq rfl) (hb hby at_377) (fun _ _ => ⟨rfl, eQ, (by show 31 + 0 ≤ 72; exact Nat.le_of_ble_eq_true rfl), (by show 21335 + 0 ≤ 25408; exact Nat.le_of_ble_eq_true rfl)⟩)
    dsimp only [Pt.U, Pt.locs, Pt.cells, Pt.slots] at X278 l278 y278 z278 st278 hQ278
    subst l278 y278 z278
    obtain ⟨rfl, N278q, er1⟩ := hQ278
    have N278 := Fr.app NQ N278q
    obtain ⟨LL279, XL279, NL279⟩ : ∃ LL : List Loc, Stand p l e room_1 s m #[(.int xa), (.int xb), (.int xc), (.int xq), (.int xm)] below meth c T278 LL 31 21335 ∧ Fr n0 LL := ⟨_, X278, N278⟩
    have c280 : Steps p.tables e below S0 (T278.setTop (mkF m 380 #[.val (.int xa), .val (.int xb), .val (.int xc), .val (.int xq), .val (.int xm), .val (.int (Int32.ofNat q0)), .val (.int (Int32.ofNat q1)), .val (.int (Int32.ofNat q2)), .val (.ref pa), .val (.ref pm), .val (.ref od), .val (.int kk), .val (.ref za), .val (.int (Int32.ofNat qn)), .val (.ref so), .unset, .unset, .unset, .unset, .unset, .unset, .unset] [(.int (own_rf (fun j => Int32.ofNat (own_pv q0 q1 q2 j)) fz (0 : Int32)))])) := c277.trans (by
     refine st278 _ ?_
     exact Steps.refl _)
    obtain ⟨r1, hr1⟩ : ∃ z : Int32, z = (own_rf (fun j => Int32.ofNat (own_pv q0 q1 q2 j)) fz (0 : Int32)) := ⟨_, rfl⟩
    rw [← hr1] at c280
    have N1 : own_IsN S 0 r1 := by rw [hr1]; exact own_rf_isN (q := 0) HHQ (fun _ => rfl) hpv (by decide)
    have c281 : Steps p.tables e below S0 (T278.setTop (mkF m 385 #[.val (.int xa), .val (.int xb), .val (.int xc), .val (.int xq), .val (.int xm), .val (.int (Int32.ofNat q0)), .val (.int (Int32.ofNat q1)), .val (.int (Int32.ofNat q2)), .val (.ref pa), .val (.ref pm), .val (.ref od), .val (.int kk), .val (.ref za), .val (.int (Int32.ofNat qn)), .val (.ref so), .val (.int r1), .unset, .unset, .unset, .unset, .unset, .unset] [(.int (-1 : Int32)), (.int r1)])) := c280.trans (by
     refine XS.istore XL279.here hx rfl (hb hby at_380) rfl rfl ?_
     show Steps _ _ _ (.setTop _ (mkF _ 382 _ _)) _
     refine XS.iload XL279.here hx rfl (hb hby at_382) rfl ?_
     show Steps _ _ _ (.setTop _ (mkF _ 384 _ _)) _
     refine XS.iconst XL279.here hx rfl (hb hby at_384) ?_
     exact Steps.refl _)
    have j_r2 : ∃ (Tz : State) (Lz : List Loc) (r2 : Int32), Stand p l e room_1 s m #[(.int xa), (.int xb), (.int xc), (.int xq), (.int xm)] below meth c Tz Lz 31 21335 ∧ Fr n0 Lz ∧ Tz.heap = hq ∧ own_NX S r1 r2 ∧ Steps p.tables e below S0 (Tz.setTop (mkF m 403 #[.val (.int xa), .val (.int xb), .val (.int xc), .val (.int xq), .val (.int xm), .val (.int (Int32.ofNat q0)), .val (.int (Int32.ofNat q1)), .val (.int (Int32.ofNat q2)), .val (.ref pa), .val (.ref pm), .val (.ref od), .val (.int kk), .val (.ref za), .val (.int (Int32.ofNat qn)), .val (.ref so), .val (.int r1), .unset, .unset, .unset, .unset, .unset, .unset] [(.int r2)])) := by
     by_cases hm1 : r1 = (-1 : Int32)
     ·have c283 : Steps p.tables e below S0 (T278.setTop (mkF m 403 #[.val (.int xa), .val (.int xb), .val (.int xc), .val (.int xq), .val (.int xm), .val (.int (Int32.ofNat q0)), .val (.int (Int32.ofNat q1)), .val (.int (Int32.ofNat q2)), .val (.ref pa), .val (.ref pm), .val (.ref od), .val (.int kk), .val (.ref za), .val (.int (Int32.ofNat qn)), .val (.ref so), .val (.int r1), .unset, .unset, .unset, .unset, .unset, .unset] [(.int (-1 : Int32))])) := c281.trans (by
       refine XS.icmpNo XL279.here hx rfl (hb hby at_385) rfl (teq hm1).2 ?_
       show Steps _ _ _ (.setTop _ (mkF _ 388 _ _)) _
       refine XS.iconst XL279.here hx rfl (hb hby at_388) ?_
       show Steps _ _ _ (.setTop _ (mkF _ 389 _ _)) _
       refine XS.goto XL279.here hx rfl (pc0 := 389) (pc' := 403) rfl (hb hby at_389) (by decide) (by decide) ?_
       exact Steps.refl _)
      exact ⟨T278, _, _, XL279, NL279, er1, Or.inl ⟨hm1, rfl⟩, c283⟩
     ·obtain ⟨p1, mp1, e1⟩ := own_IsN_ne N1 hm1
      have c285 : Steps p.tables e below S0 (T278.setTop (mkF m 400 #[.val (.int xa), .val (.int xb), .val (.int xc), .val (.int xq), .val (.int xm), .val (.int (Int32.ofNat q0)), .val (.int (Int32.ofNat q1)), .val (.int (Int32.ofNat q2)), .val (.ref pa), .val (.ref pm), .val (.ref od), .val (.int kk), .val (.ref za), .val (.int (Int32.ofNat qn)), .val (.ref so), .val (.int r1), .unset, .unset, .unset, .unset, .unset, .unset] [(.int (r1 + (1 : Int32))), (.ref za), (.ref pa)])) := c281.trans (by
       refine XS.icmpYes XL279.here hx rfl (pc0 := 385) (pc' := 392) rfl (hb hby at_385) rfl (feq hm1).2 (by decide) (by decide) ?_
       show Steps _ _ _ (.setTop _ (mkF _ 392 _ _)) _
       refine XS.aload XL279.here hx rfl (hb hby at_392) rfl rfl ?_
       show Steps _ _ _ (.setTop _ (mkF _ 394 _ _)) _
       refine XS.aload XL279.here hx rfl (hb hby at_394) rfl rfl ?_
       show Steps _ _ _ (.setTop _ (mkF _ 396 _ _)) _
       refine XS.iload XL279.here hx rfl (hb hby at_396) rfl ?_
       show Steps _ _ _ (.setTop _ (mkF _ 398 _ _)) _
       refine XS.iconst XL279.here hx rfl (hb hby at_398) ?_
       show Steps _ _ _ (.setTop _ (mkF _ 399 _ _)) _
       refine XS.iadd XL279.here hx rfl (hb hby at_399) rfl ?_
       exact Steps.refl _)
      obtain ⟨s1, hs1⟩ : ∃ z : Int32, z = (r1 + (1 : Int32)) := ⟨_, rfl⟩
      rw [← hs1] at c285
      have es : s1 = Int32.ofNat (p1 + 1) := by rw [hs1, e1]; exact own_iadd (j := 1)
      have lp1 := hSb p1 mp1
      obtain ⟨_, _, ⟨T286, L286, k286, n286⟩, -, X286, ⟨Lc286, hQ286, l286, y286, z286⟩, st286⟩ := Jvm.LawKit.callS XL279 hx (y := (⟨"com/example/coersa/coersa/PlaceSetRemovePinLaw", "ref", "([I[ZI)I"⟩ : MethodName)) hown (mvT hZ (hw _ (own_m 50 rfl))) (mvT hZ (hw _ (own_m 51 rfl))) (mvT hZ (hw _ (own_m 52 rfl))) (mvT hZ (hw _ (own_m 53 rfl))) (by decide) (backOf (W := 0) (own_rfm l Z a0 hw [] pa za s1 (fun j => Int32.ofNat (own_pv q0 q1 q2 j)) fz hq n0 (Nat.le_trans g_so hszQ) IQ ZQ) hZ (hw _ (own_m 53 rfl)) (hw _ (own_m 52 rfl)) (Nat.le_of_ble_eq_true rfl) (Nat.le_of_ble_eq_true rfl)) (g := (mkF m 400 #[.val (.int xa), .val (.int xb), .val (.int xc), .val (.int xq), .val (.int xm), .val (.int (Int32.ofNat q0)), .val (.int (Int32.ofNat q1)), .val (.int (Int32.ofNat q2)), .val (.ref pa), .val (.ref pm), .val (.ref od), .val (.int kk), .val (.ref za), .val (.int (Int32.ofNat qn)), .val (.ref so), .val (.int r1), .unset, .unset, .unset, .unset, .unset, .unset] [(.int s1), (.ref za), (.ref pa)])) rfl (by rw [hml]; rfl) (argsL := [(.ref pa), (.ref za), (.int s1)]) (rest := []) (lenOf own_pd9 rfl) rfl (by show 2 * 0 + _ ≤ _; exact Nat.le_of_eq rfl) (hb hby at_400) (fun _ _ => ⟨rfl, er1, (by show 31 + 0 ≤ 72; exact Nat.le_of_ble_eq_true rfl), (by show 21335 + 0 ≤ 25408; exact Nat.le_of_ble_eq_true rfl)⟩)
      dsimp only [Pt.U, Pt.locs, Pt.cells, Pt.slots] at X286 l286 y286 z286 st286 hQ286
      subst l286 y286 z286
      obtain ⟨rfl, N286q, err⟩ := hQ286
      have N286 := Fr.app NL279 N286q
      obtain ⟨LL287, XL287, NL287⟩ : ∃ LL : List Loc, Stand p l e room_1 s m #[(.int xa), (.int xb), (.int xc), (.int xq), (.int xm)] below meth c T286 LL 31 21335 ∧ Fr n0 LL := ⟨_, X286, N286⟩
      have c288 : Steps p.tables e below S0 (T286.setTop (mkF m 403 #[.val (.int xa), .val (.int xb), .val (.int xc), .val (.int xq), .val (.int xm), .val (.int (Int32.ofNat q0)), .val (.int (Int32.ofNat q1)), .val (.int (Int32.ofNat q2)), .val (.ref pa), .val (.ref pm), .val (.ref od), .val (.int kk), .val (.ref za), .val (.int (Int32.ofNat qn)), .val (.ref so), .val (.int r1), .unset, .unset, .unset, .unset, .unset, .unset] [(.int (own_rf (fun j => Int32.ofNat (own_pv q0 q1 q2 j)) fz s1))])) := c285.trans (by
       refine st286 _ ?_
       exact Steps.refl _)
      obtain ⟨rr, hrr⟩ : ∃ z : Int32, z = (own_rf (fun j => Int32.ofNat (own_pv q0 q1 q2 j)) fz s1) := ⟨_, rfl⟩
      rw [← hrr] at c288
      exact ⟨T286, _, rr, XL287, NL287, err, Or.inr ⟨p1, lp1, e1, by rw [hrr, es]; exact own_rf_isN (q := p1 + 1) HHQ (fun _ => rfl) hpv (by omega)⟩, c288⟩
    obtain ⟨T_r2, L_r2, r2, X_r2, F_r2, e_r2, NX_r2, c_r2⟩ := j_r2
    have c289 : Steps p.tables e below S0 (T_r2.setTop (mkF m 408 #[.val (.int xa), .val (.int xb), .val (.int xc), .val (.int xq), .val (.int xm), .val (.int (Int32.ofNat q0)), .val (.int (Int32.ofNat q1)), .val (.int (Int32.ofNat q2)), .val (.ref pa), .val (.ref pm), .val (.ref od), .val (.int kk), .val (.ref za), .val (.int (Int32.ofNat qn)), .val (.ref so), .val (.int r1), .val (.int r2), .unset, .unset, .unset, .unset, .unset] [(.int (-1 : Int32)), (.int r2)])) := c_r2.trans (by
     refine XS.istore X_r2.here hx rfl (hb hby at_403) rfl rfl ?_
     show Steps _ _ _ (.setTop _ (mkF _ 405 _ _)) _
     refine XS.iload X_r2.here hx rfl (hb hby at_405) rfl ?_
     show Steps _ _ _ (.setTop _ (mkF _ 407 _ _)) _
     refine XS.iconst X_r2.here hx rfl (hb hby at_407) ?_
     exact Steps.refl _)
    have j_r3 : ∃ (Tz : State) (Lz : List Loc) (r3 : Int32), Stand p l e room_1 s m #[(.int xa), (.int xb), (.int xc), (.int xq), (.int xm)] below meth c Tz Lz 31 21335 ∧ Fr n0 Lz ∧ Tz.heap = hq ∧ own_NX S r2 r3 ∧ Steps p.tables e below S0 (Tz.setTop (mkF m 426 #[.val (.int xa), .val (.int xb), .val (.int xc), .val (.int xq), .val (.int xm), .val (.int (Int32.ofNat q0)), .val (.int (Int32.ofNat q1)), .val (.int (Int32.ofNat q2)), .val (.ref pa), .val (.ref pm), .val (.ref od), .val (.int kk), .val (.ref za), .val (.int (Int32.ofNat qn)), .val (.ref so), .val (.int r1), .val (.int r2), .unset, .unset, .unset, .unset, .unset] [(.int r3)])) := by
     by_cases hm1 : r2 = (-1 : Int32)
     ·have c291 : Steps p.tables e below S0 (T_r2.setTop (mkF m 426 #[.val (.int xa), .val (.int xb), .val (.int xc), .val (.int xq), .val (.int xm), .val (.int (Int32.ofNat q0)), .val (.int (Int32.ofNat q1)), .val (.int (Int32.ofNat q2)), .val (.ref pa), .val (.ref pm), .val (.ref od), .val (.int kk), .val (.ref za), .val (.int (Int32.ofNat qn)), .val (.ref so), .val (.int r1), .val (.int r2), .unset, .unset, .unset, .unset, .unset] [(.int (-1 : Int32))])) := c289.trans (by
       refine XS.icmpNo X_r2.here hx rfl (hb hby at_408) rfl (teq hm1).2 ?_
       show Steps _ _ _ (.setTop _ (mkF _ 411 _ _)) _
       refine XS.iconst X_r2.here hx rfl (hb hby at_411) ?_
       show Steps _ _ _ (.setTop _ (mkF _ 412 _ _)) _
       refine XS.goto X_r2.here hx rfl (pc0 := 412) (pc' := 426) rfl (hb hby at_412) (by decide) (by decide) ?_
       exact Steps.refl _)
      exact ⟨T_r2, _, _, X_r2, F_r2, e_r2, Or.inl ⟨hm1, rfl⟩, c291⟩
     ·obtain ⟨p1, mp1, e1⟩ := own_NX_ne NX_r2 hm1
      have c293 : Steps p.tables e below S0 (T_r2.setTop (mkF m 423 #[.val (.int xa), .val (.int xb), .val (.int xc), .val (.int xq), .val (.int xm), .val (.int (Int32.ofNat q0)), .val (.int (Int32.ofNat q1)), .val (.int (Int32.ofNat q2)), .val (.ref pa), .val (.ref pm), .val (.ref od), .val (.int kk), .val (.ref za), .val (.int (Int32.ofNat qn)), .val (.ref so), .val (.int r1), .val (.int r2), .unset, .unset, .unset, .unset, .unset] [(.int (r2 + (1 : Int32))), (.ref za), (.ref pa)])) := c289.trans (by
       refine XS.icmpYes X_r2.here hx rfl (pc0 := 408) (pc' := 415) rfl (hb hby at_408) rfl (feq hm1).2 (by decide) (by decide) ?_
       show Steps _ _ _ (.setTop _ (mkF _ 415 _ _)) _
       refine XS.aload X_r2.here hx rfl (hb hby at_415) rfl rfl ?_
       show Steps _ _ _ (.setTop _ (mkF _ 417 _ _)) _
       refine XS.aload X_r2.here hx rfl (hb hby at_417) rfl rfl ?_
       show Steps _ _ _ (.setTop _ (mkF _ 419 _ _)) _
       refine XS.iload X_r2.here hx rfl (hb hby at_419) rfl ?_
       show Steps _ _ _ (.setTop _ (mkF _ 421 _ _)) _
       refine XS.iconst X_r2.here hx rfl (hb hby at_421) ?_
       show Steps _ _ _ (.setTop _ (mkF _ 422 _ _)) _
       refine XS.iadd X_r2.here hx rfl (hb hby at_422) rfl ?_
       exact Steps.refl _)
      obtain ⟨s1, hs1⟩ : ∃ z : Int32, z = (r2 + (1 : Int32)) := ⟨_, rfl⟩
      rw [← hs1] at c293
      have es : s1 = Int32.ofNat (p1 + 1) := by rw [hs1, e1]; exact own_iadd (j := 1)
      have lp1 := hSb p1 mp1
      obtain ⟨_, _, ⟨T294, L294, k294, n294⟩, -, X294, ⟨Lc294, hQ294, l294, y294, z294⟩, st294⟩ := Jvm.LawKit.callS X_r2 hx (y := (⟨"com/example/coersa/coersa/PlaceSetRemovePinLaw", "ref", "([I[ZI)I"⟩ : MethodName)) hown (mvT hZ (hw _ (own_m 50 rfl))) (mvT hZ (hw _ (own_m 51 rfl))) (mvT hZ (hw _ (own_m 52 rfl))) (mvT hZ (hw _ (own_m 53 rfl))) (by decide) (backOf (W := 0) (own_rfm l Z a0 hw [] pa za s1 (fun j => Int32.ofNat (own_pv q0 q1 q2 j)) fz hq n0 (Nat.le_trans g_so hszQ) IQ ZQ) hZ (hw _ (own_m 53 rfl)) (hw _ (own_m 52 rfl)) (Nat.le_of_ble_eq_true rfl) (Nat.le_of_ble_eq_true rfl)) (g := (mkF m 423 #[.val (.int xa), .val (.int xb), .val (.int xc), .val (.int xq), .val (.int xm), .val (.int (Int32.ofNat q0)), .val (.int (Int32.ofNat q1)), .val (.int (Int32.ofNat q2)), .val (.ref pa), .val (.ref pm), .val (.ref od), .val (.int kk), .val (.ref za), .val (.int (Int32.ofNat qn)), .val (.ref so), .val (.int r1), .val (.int r2), .unset, .unset, .unset, .unset, .unset] [(.int s1), (.ref za), (.ref pa)])) rfl (by rw [hml]; rfl) (argsL := [(.ref pa), (.ref za), (.int s1)]) (rest := []) (lenOf own_pd9 rfl) rfl (by show 2 * 0 + _ ≤ _; exact Nat.le_of_eq rfl) (hb hby at_423) (fun _ _ => ⟨rfl, e_r2, (by show 31 + 0 ≤ 72; exact Nat.le_of_ble_eq_true rfl), (by show 21335 + 0 ≤ 25408; exact Nat.le_of_ble_eq_true rfl)⟩)
      dsimp only [Pt.U, Pt.locs, Pt.cells, Pt.slots] at X294 l294 y294 z294 st294 hQ294
      subst l294 y294 z294
      obtain ⟨rfl, N294q, err⟩ := hQ294
      have N294 := Fr.app F_r2 N294q
      obtain ⟨LL295, XL295, NL295⟩ : ∃ LL : List Loc, Stand p l e room_1 s m #[(.int xa), (.int xb), (.int xc), (.int xq), (.int xm)] below meth c T294 LL 31 21335 ∧ Fr n0 LL := ⟨_, X294, N294⟩
      have c296 : Steps p.tables e below S0 (T294.setTop (mkF m 426 #[.val (.int xa), .val (.int xb), .val (.int xc), .val (.int xq), .val (.int xm), .val (.int (Int32.ofNat q0)), .val (.int (Int32.ofNat q1)), .val (.int (Int32.ofNat q2)), .val (.ref pa), .val (.ref pm), .val (.ref od), .val (.int kk), .val (.ref za), .val (.int (Int32.ofNat qn)), .val (.ref so), .val (.int r1), .val (.int r2), .unset, .unset, .unset, .unset, .unset] [(.int (own_rf (fun j => Int32.ofNat (own_pv q0 q1 q2 j)) fz s1))])) := c293.trans (by
       refine st294 _ ?_
       exact Steps.refl _)
      obtain ⟨rr, hrr⟩ : ∃ z : Int32, z = (own_rf (fun j => Int32.ofNat (own_pv q0 q1 q2 j)) fz s1) := ⟨_, rfl⟩
      rw [← hrr] at c296
      exact ⟨T294, _, rr, XL295, NL295, err, Or.inr ⟨p1, lp1, e1, by rw [hrr, es]; exact own_rf_isN (q := p1 + 1) HHQ (fun _ => rfl) hpv (by omega)⟩, c296⟩
    obtain ⟨T_r3, L_r3, r3, X_r3, F_r3, e_r3, NX_r3, c_r3⟩ := j_r3
    have c297 : Steps p.tables e below S0 (T_r3.setTop (mkF m 434 #[.val (.int xa), .val (.int xb), .val (.int xc), .val (.int xq), .val (.int xm), .val (.int (Int32.ofNat q0)), .val (.int (Int32.ofNat q1)), .val (.int (Int32.ofNat q2)), .val (.ref pa), .val (.ref pm), .val (.ref od), .val (.int kk), .val (.ref za), .val (.int (Int32.ofNat qn)), .val (.ref so), .val (.int r1), .val (.int r2), .val (.int r3), .unset, .unset, .unset, .unset] [(.int (Int32.ofNat qn)), (.ref za), (.ref pa)])) := c_r3.trans (by
     refine XS.istore X_r3.here hx rfl (hb hby at_426) rfl rfl ?_
     show Steps _ _ _ (.setTop _ (mkF _ 428 _ _)) _
     refine XS.aload X_r3.here hx rfl (hb hby at_428) rfl rfl ?_
     show Steps _ _ _ (.setTop _ (mkF _ 430 _ _)) _
     refine XS.aload X_r3.here hx rfl (hb hby at_430) rfl rfl ?_
     show Steps _ _ _ (.setTop _ (mkF _ 432 _ _)) _
     refine XS.iload X_r3.here hx rfl (hb hby at_432) rfl ?_
     exact Steps.refl _)
    obtain ⟨_, _, ⟨T298, L298, k298, n298⟩, -, X298, ⟨Lc298, hQ298, l298, y298, z298⟩, st298⟩ := Jvm.LawKit.callS X_r3 hx (y := (⟨"com/example/coersa/coersa/PlaceSetRemovePinLaw", "ref", "([I[ZI)I"⟩ : MethodName)) hown (mvT hZ (hw _ (own_m 50 rfl))) (mvT hZ (hw _ (own_m 51 rfl))) (mvT hZ (hw _ (own_m 52 rfl))) (mvT hZ (hw _ (own_m 53 rfl))) (by decide) (backOf (W := 0) (own_rfm l Z a0 hw [] pa za (Int32.ofNat qn) (fun j => Int32.ofNat (own_pv q0 q1 q2 j)) fz hq n0 (Nat.le_trans g_so hszQ) IQ ZQ) hZ (hw _ (own_m 53 rfl)) (hw _ (own_m 52 rfl)) (Nat.le_of_ble_eq_true rfl) (Nat.le_of_ble_eq_true rfl)) (g := (mkF m 434 #[.val (.int xa), .val (.int xb), .val (.int xc), .val (.int xq), .val (.int xm), .val (.int (Int32.ofNat q0)), .val (.int (Int32.ofNat q1)), .val (.int (Int32.ofNat q2)), .val (.ref pa), .val (.ref pm), .val (.ref od), .val (.int kk), .val (.ref za), .val (.int (Int32.ofNat qn)), .val (.ref so), .val (.int r1), .val (.int r2), .val (.int r3), .unset, .unset, .unset, .unset] [(.int (Int32.ofNat qn)), (.ref za), (.ref pa)])) rfl (by rw [hml]; rfl) (argsL := [(.ref pa), (.ref za), (.int (Int32.ofNat qn))]) (rest := []) (lenOf own_pd9 rfl) rfl (by show 2 * 0 + _ ≤ _; exact Nat.le_of_eq rfl) (hb hby at_434) (fun _ _ => ⟨rfl, e_r3, (by show 31 + 0 ≤ 72; exact Nat.le_of_ble_eq_true rfl), (by show 21335 + 0 ≤ 25408; exact Nat.le_of_ble_eq_true rfl)⟩)
    dsimp only [Pt.U, Pt.locs, Pt.cells, Pt.slots] at X298 l298 y298 z298 st298 hQ298
    subst l298 y298 z298
    obtain ⟨rfl, N298q, er18⟩ := hQ298
    have N298 := Fr.app F_r3 N298q
    obtain ⟨LL299, XL299, NL299⟩ : ∃ LL : List Loc, Stand p l e room_1 s m #[(.int xa), (.int xb), (.int xc), (.int xq), (.int xm)] below meth c T298 LL 31 21335 ∧ Fr n0 LL := ⟨_, X298, N298⟩
    have c300 : Steps p.tables e below S0 (T298.setTop (mkF m 437 #[.val (.int xa), .val (.int xb), .val (.int xc), .val (.int xq), .val (.int xm), .val (.int (Int32.ofNat q0)), .val (.int (Int32.ofNat q1)), .val (.int (Int32.ofNat q2)), .val (.ref pa), .val (.ref pm), .val (.ref od), .val (.int kk), .val (.ref za), .val (.int (Int32.ofNat qn)), .val (.ref so), .val (.int r1), .val (.int r2), .val (.int r3), .unset, .unset, .unset, .unset] [(.int (own_rf (fun j => Int32.ofNat (own_pv q0 q1 q2 j)) fz (Int32.ofNat qn)))])) := c297.trans (by
     refine st298 _ ?_
     exact Steps.refl _)
    obtain ⟨r18, hr18⟩ : ∃ z : Int32, z = (own_rf (fun j => Int32.ofNat (own_pv q0 q1 q2 j)) fz (Int32.ofNat qn)) := ⟨_, rfl⟩
    rw [← hr18] at c300
    have N18 : own_IsN S qn r18 := by rw [hr18]; exact own_rf_isN HHQ (fun _ => rfl) hpv hqn
    have c301 : Steps p.tables e below S0 (T298.setTop (mkF m 443 #[.val (.int xa), .val (.int xb), .val (.int xc), .val (.int xq), .val (.int xm), .val (.int (Int32.ofNat q0)), .val (.int (Int32.ofNat q1)), .val (.int (Int32.ofNat q2)), .val (.ref pa), .val (.ref pm), .val (.ref od), .val (.int kk), .val (.ref za), .val (.int (Int32.ofNat qn)), .val (.ref so), .val (.int r1), .val (.int r2), .val (.int r3), .val (.int r18), .unset, .unset, .unset] [(.int (Int32.ofNat qn)), (.ref so)])) := c300.trans (by
     refine XS.istore XL299.here hx rfl (hb hby at_437) rfl rfl ?_
     show Steps _ _ _ (.setTop _ (mkF _ 439 _ _)) _
     refine XS.aload XL299.here hx rfl (hb hby at_439) rfl rfl ?_
     show Steps _ _ _ (.setTop _ (mkF _ 441 _ _)) _
     refine XS.iload XL299.here hx rfl (hb hby at_441) rfl ?_
     exact Steps.refl _)
    obtain ⟨cq302, kq302, q302a, q302b, q302c⟩ := isOf hZ er18 PQ.1
    obtain ⟨_, _, ⟨T302, L302, k302, n302⟩, -, X302, ⟨Lc302, hQ302, l302, y302, z302⟩, st302⟩ := XL299.virtualBack hx (y := (⟨"com/example/coersa/coersa/PlaceSet", "next", "(I)I"⟩ : MethodName)) (z := (⟨"com/example/coersa/coersa/PlaceSet", "next", "(I)I"⟩ : MethodName)) hown (mvT hZ (hw _ (own_m 57 rfl))) (mvT hZ (hw _ (own_m 58 rfl))) (notFace_of_selects (args := #[]) (mvT hZ (hw _ (own_m 60 rfl)))) (mvT hZ (hw _ (own_m 60 rfl))) (mvT hZ (hw _ (own_m 59 rfl))) (by decide) (backOf (W := 0) (own_nx1 l Z a0 hw [] so (Int32.ofNat qn) S qn lvx3 bcx3 Kx3 lsx3 Nx3 ff Mx3 gg hq so hszQ rfl hqn SHx3 SEQ PQ) hZ (hw _ (own_m 61 rfl)) (hw _ (own_m 9 rfl)) (Nat.le_of_ble_eq_true rfl) (Nat.le_of_ble_eq_true rfl)) q302a q302c (g := (mkF m 443 #[.val (.int xa), .val (.int xb), .val (.int xc), .val (.int xq), .val (.int xm), .val (.int (Int32.ofNat q0)), .val (.int (Int32.ofNat q1)), .val (.int (Int32.ofNat q2)), .val (.ref pa), .val (.ref pm), .val (.ref od), .val (.int kk), .val (.ref za), .val (.int (Int32.ofNat qn)), .val (.ref so), .val (.int r1), .val (.int r2), .val (.int r3), .val (.int r18), .unset, .unset, .unset] [(.int (Int32.ofNat qn)), (.ref so)])) rfl (by rw [hml]; rfl) (Steps.refl _) (argsL := [(.int (Int32.ofNat qn))]) (rest := []) (lenOf own_pd0 rfl) rfl (by show 2 * 0 + _ ≤ _; exact Nat.le_of_eq rfl) (hb hby at_443) (fun _ _ => ⟨rfl, er18, (by show 31 + 0 ≤ 72; exact Nat.le_of_ble_eq_true rfl), (by show 21335 + 0 ≤ 25408; exact Nat.le_of_ble_eq_true rfl)⟩)
    dsimp only [Pt.U, Pt.locs, Pt.cells, Pt.slots] at X302 l302 y302 z302 st302 hQ302
    subst l302 y302 z302
    obtain ⟨⟨ra, rfl, hNa⟩, N302q, ena⟩ := hQ302
    have N302 := Fr.app NL299 (own_Fr_mono g_so N302q)
    obtain ⟨LL304, XL304, NL304⟩ : ∃ LL : List Loc, Stand p l e room_1 s m #[(.int xa), (.int xb), (.int xc), (.int xq), (.int xm)] below meth c T302 LL 31 21335 ∧ Fr n0 LL := ⟨_, X302, N302⟩
    have era : ra = r18 := own_IsN_uniq hNa N18
    have c307 : Steps p.tables e below S0 (T302.setTop (mkF m 462 #[.val (.int xa), .val (.int xb), .val (.int xc), .val (.int xq), .val (.int xm), .val (.int (Int32.ofNat q0)), .val (.int (Int32.ofNat q1)), .val (.int (Int32.ofNat q2)), .val (.ref pa), .val (.ref pm), .val (.ref od), .val (.int kk), .val (.ref za), .val (.int (Int32.ofNat qn)), .val (.ref so), .val (.int r1), .val (.int r2), .val (.int r3), .val (.int r18), .val (.int (1 : Int32)), .unset, .unset] [(.int (1 : Int32)), (.int (0 : Int32)), (.ref so)])) := c301.trans (by
     refine st302.trans ?_
     show Steps _ _ _ (.setTop _ (mkF _ 446 _ _)) _
     refine XS.iload XL304.here hx rfl (hb hby at_446) rfl ?_
     show Steps _ _ _ (.setTop _ (mkF _ 448 _ _)) _
     refine XS.icmpNo XL304.here hx rfl (hb hby at_448) rfl (teq era).2 ?_
     show Steps _ _ _ (.setTop _ (mkF _ 451 _ _)) _
     refine XS.iconst XL304.here hx rfl (hb hby at_451) ?_
     show Steps _ _ _ (.setTop _ (mkF _ 452 _ _)) _
     refine XS.goto XL304.here hx rfl (pc0 := 452) (pc' := 456) rfl (hb hby at_452) (by decide) (by decide) ?_
     show Steps _ _ _ (.setTop _ (mkF _ 456 _ _)) _
     refine XS.istore XL304.here hx rfl (hb hby at_456) rfl rfl ?_
     show Steps _ _ _ (.setTop _ (mkF _ 458 _ _)) _
     refine XS.aload XL304.here hx rfl (hb hby at_458) rfl rfl ?_
     show Steps _ _ _ (.setTop _ (mkF _ 460 _ _)) _
     refine XS.iconst XL304.here hx rfl (hb hby at_460) ?_
     show Steps _ _ _ (.setTop _ (mkF _ 461 _ _)) _
     refine XS.iconst XL304.here hx rfl (hb hby at_461) ?_
     exact Steps.refl _)
    obtain ⟨cq308, kq308, q308a, q308b, q308c⟩ := isOf hZ ena PQ.1
    obtain ⟨_, _, ⟨T308, L308, k308, n308⟩, -, X308, ⟨Lc308, hQ308, l308, y308, z308⟩, st308⟩ := XL304.virtualBack hx (y := (⟨"com/example/coersa/coersa/PlaceSet", "next", "(II)I"⟩ : MethodName)) (z := (⟨"com/example/coersa/coersa/PlaceSet", "next", "(II)I"⟩ : MethodName)) hown (mvT hZ (hw _ (own_m 71 rfl))) (mvT hZ (hw _ (own_m 72 rfl))) (notFace_of_selects (args := #[]) (mvT hZ (hw _ (own_m 74 rfl)))) (mvT hZ (hw _ (own_m 74 rfl))) (mvT hZ (hw _ (own_m 73 rfl))) (by decide) (backOf (W := 0) (own_nx2 l Z a0 hw [] so (0 : Int32) (1 : Int32) S 1 lvx3 bcx3 Kx3 lsx3 Nx3 ff Mx3 gg hq so hszQ rfl rfl (by decide) (by decide) lnQ ndQ SHx3 SEQ CQ PQ) hZ (hw _ (own_m 75 rfl)) (hw _ (own_m 9 rfl)) (Nat.le_of_ble_eq_true rfl) (Nat.le_of_ble_eq_true rfl)) q308a q308c (g := (mkF m 462 #[.val (.int xa), .val (.int xb), .val (.int xc), .val (.int xq), .val (.int xm), .val (.int (Int32.ofNat q0)), .val (.int (Int32.ofNat q1)), .val (.int (Int32.ofNat q2)), .val (.ref pa), .val (.ref pm), .val (.ref od), .val (.int kk), .val (.ref za), .val (.int (Int32.ofNat qn)), .val (.ref so), .val (.int r1), .val (.int r2), .val (.int r3), .val (.int r18), .val (.int (1 : Int32)), .unset, .unset] [(.int (1 : Int32)), (.int (0 : Int32)), (.ref so)])) rfl (by rw [hml]; rfl) (Steps.refl _) (argsL := [(.int (0 : Int32)), (.int (1 : Int32))]) (rest := []) (lenOf own_pd1 rfl) rfl (by show 2 * 0 + _ ≤ _; exact Nat.le_of_eq rfl) (hb hby at_462) (fun _ _ => ⟨rfl, ena, (by show 31 + 0 ≤ 72; exact Nat.le_of_ble_eq_true rfl), (by show 21335 + 0 ≤ 25408; exact Nat.le_of_ble_eq_true rfl)⟩)
    dsimp only [Pt.U, Pt.locs, Pt.cells, Pt.slots] at X308 l308 y308 z308 st308 hQ308
    subst l308 y308 z308
    obtain ⟨⟨y1, rfl, hRy1⟩, N308q, eny1⟩ := hQ308
    have N308 := Fr.app NL304 (own_Fr_mono g_so N308q)
    obtain ⟨LL310, XL310, NL310⟩ : ∃ LL : List Loc, Stand p l e room_1 s m #[(.int xa), (.int xb), (.int xc), (.int xq), (.int xm)] below meth c T308 LL 31 21335 ∧ Fr n0 LL := ⟨_, X308, N308⟩
    have e_y1 : y1 = r2 := (own_FIN lnQ hSb N1 NX_r2 NX_r3 hRy1 (Or.inl ⟨lnQ, rfl⟩)).1
    have c313 : Steps p.tables e below S0 (T308.setTop (mkF m 481 #[.val (.int xa), .val (.int xb), .val (.int xc), .val (.int xq), .val (.int xm), .val (.int (Int32.ofNat q0)), .val (.int (Int32.ofNat q1)), .val (.int (Int32.ofNat q2)), .val (.ref pa), .val (.ref pm), .val (.ref od), .val (.int kk), .val (.ref za), .val (.int (Int32.ofNat qn)), .val (.ref so), .val (.int r1), .val (.int r2), .val (.int r3), .val (.int r18), .val (.int (1 : Int32)), .val (.int (1 : Int32)), .unset] [(.int (2 : Int32)), (.int (0 : Int32)), (.ref so)])) := c307.trans (by
     refine st308.trans ?_
     show Steps _ _ _ (.setTop _ (mkF _ 465 _ _)) _
     refine XS.iload XL310.here hx rfl (hb hby at_465) rfl ?_
     show Steps _ _ _ (.setTop _ (mkF _ 467 _ _)) _
     refine XS.icmpNo XL310.here hx rfl (hb hby at_467) rfl (teq e_y1).2 ?_
     show Steps _ _ _ (.setTop _ (mkF _ 470 _ _)) _
     refine XS.iconst XL310.here hx rfl (hb hby at_470) ?_
     show Steps _ _ _ (.setTop _ (mkF _ 471 _ _)) _
     refine XS.goto XL310.here hx rfl (pc0 := 471) (pc' := 475) rfl (hb hby at_471) (by decide) (by decide) ?_
     show Steps _ _ _ (.setTop _ (mkF _ 475 _ _)) _
     refine XS.istore XL310.here hx rfl (hb hby at_475) rfl rfl ?_
     show Steps _ _ _ (.setTop _ (mkF _ 477 _ _)) _
     refine XS.aload XL310.here hx rfl (hb hby at_477) rfl rfl ?_
     show Steps _ _ _ (.setTop _ (mkF _ 479 _ _)) _
     refine XS.iconst XL310.here hx rfl (hb hby at_479) ?_
     show Steps _ _ _ (.setTop _ (mkF _ 480 _ _)) _
     refine XS.iconst XL310.here hx rfl (hb hby at_480) ?_
     exact Steps.refl _)
    obtain ⟨cq314, kq314, q314a, q314b, q314c⟩ := isOf hZ eny1 PQ.1
    obtain ⟨_, _, ⟨T314, L314, k314, n314⟩, -, X314, ⟨Lc314, hQ314, l314, y314, z314⟩, st314⟩ := XL310.virtualBack hx (y := (⟨"com/example/coersa/coersa/PlaceSet", "next", "(II)I"⟩ : MethodName)) (z := (⟨"com/example/coersa/coersa/PlaceSet", "next", "(II)I"⟩ : MethodName)) hown (mvT hZ (hw _ (own_m 71 rfl))) (mvT hZ (hw _ (own_m 72 rfl))) (notFace_of_selects (args := #[]) (mvT hZ (hw _ (own_m 74 rfl)))) (mvT hZ (hw _ (own_m 74 rfl))) (mvT hZ (hw _ (own_m 73 rfl))) (by decide) (backOf (W := 0) (own_nx2 l Z a0 hw [] so (0 : Int32) (2 : Int32) S 2 lvx3 bcx3 Kx3 lsx3 Nx3 ff Mx3 gg hq so hszQ rfl rfl (by decide) (by decide) lnQ ndQ SHx3 SEQ CQ PQ) hZ (hw _ (own_m 75 rfl)) (hw _ (own_m 9 rfl)) (Nat.le_of_ble_eq_true rfl) (Nat.le_of_ble_eq_true rfl)) q314a q314c (g := (mkF m 481 #[.val (.int xa), .val (.int xb), .val (.int xc), .val (.int xq), .val (.int xm), .val (.int (Int32.ofNat q0)), .val (.int (Int32.ofNat q1)), .val (.int (Int32.ofNat q2)), .val (.ref pa), .val (.ref pm), .val (.ref od), .val (.int kk), .val (.ref za), .val (.int (Int32.ofNat qn)), .val (.ref so), .val (.int r1), .val (.int r2), .val (.int r3), .val (.int r18), .val (.int (1 : Int32)), .val (.int (1 : Int32)), .unset] [(.int (2 : Int32)), (.int (0 : Int32)), (.ref so)])) rfl (by rw [hml]; rfl) (Steps.refl _) (argsL := [(.int (0 : Int32)), (.int (2 : Int32))]) (rest := []) (lenOf own_pd1 rfl) rfl (by show 2 * 0 + _ ≤ _; exact Nat.le_of_eq rfl) (hb hby at_481) (fun _ _ => ⟨rfl, eny1, (by show 31 + 0 ≤ 72; exact Nat.le_of_ble_eq_true rfl), (by show 21335 + 0 ≤ 25408; exact Nat.le_of_ble_eq_true rfl)⟩)
    dsimp only [Pt.U, Pt.locs, Pt.cells, Pt.slots] at X314 l314 y314 z314 st314 hQ314
    subst l314 y314 z314
    obtain ⟨⟨y2, rfl, hRy2⟩, N314q, eny2⟩ := hQ314
    have N314 := Fr.app NL310 (own_Fr_mono g_so N314q)
    obtain ⟨LL316, XL316, NL316⟩ : ∃ LL : List Loc, Stand p l e room_1 s m #[(.int xa), (.int xb), (.int xc), (.int xq), (.int xm)] below meth c T314 LL 31 21335 ∧ Fr n0 LL := ⟨_, X314, N314⟩
    have e_y2 : y2 = r3 := (own_FIN lnQ hSb N1 NX_r2 NX_r3 hRy1 hRy2).2
    have c325 : Steps p.tables e below S0 (T314.setTop (mkF m 516 #[.val (.int xa), .val (.int xb), .val (.int xc), .val (.int xq), .val (.int xm), .val (.int (Int32.ofNat q0)), .val (.int (Int32.ofNat q1)), .val (.int (Int32.ofNat q2)), .val (.ref pa), .val (.ref pm), .val (.ref od), .val (.int kk), .val (.ref za), .val (.int (Int32.ofNat qn)), .val (.ref so), .val (.int r1), .val (.int r2), .val (.int r3), .val (.int r18), .val (.int (1 : Int32)), .val (.int (1 : Int32)), .val (.int (1 : Int32))] [(.int (1 : Int32))])) := c313.trans (by
     refine st314.trans ?_
     show Steps _ _ _ (.setTop _ (mkF _ 484 _ _)) _
     refine XS.iload XL316.here hx rfl (hb hby at_484) rfl ?_
     show Steps _ _ _ (.setTop _ (mkF _ 486 _ _)) _
     refine XS.icmpNo XL316.here hx rfl (hb hby at_486) rfl (teq e_y2).2 ?_
     show Steps _ _ _ (.setTop _ (mkF _ 489 _ _)) _
     refine XS.iconst XL316.here hx rfl (hb hby at_489) ?_
     show Steps _ _ _ (.setTop _ (mkF _ 490 _ _)) _
     refine XS.goto XL316.here hx rfl (pc0 := 490) (pc' := 494) rfl (hb hby at_490) (by decide) (by decide) ?_
     show Steps _ _ _ (.setTop _ (mkF _ 494 _ _)) _
     refine XS.istore XL316.here hx rfl (hb hby at_494) rfl rfl ?_
     show Steps _ _ _ (.setTop _ (mkF _ 496 _ _)) _
     refine XS.iload XL316.here hx rfl (hb hby at_496) rfl ?_
     show Steps _ _ _ (.setTop _ (mkF _ 498 _ _)) _
     refine XS.ifNo XL316.here hx rfl (hb hby at_498) rfl ((if0 _ _).trans (feq (by decide)).1) ?_
     show Steps _ _ _ (.setTop _ (mkF _ 501 _ _)) _
     refine XS.iload XL316.here hx rfl (hb hby at_501) rfl ?_
     show Steps _ _ _ (.setTop _ (mkF _ 503 _ _)) _
     refine XS.ifNo XL316.here hx rfl (hb hby at_503) rfl ((if0 _ _).trans (feq (by decide)).1) ?_
     show Steps _ _ _ (.setTop _ (mkF _ 506 _ _)) _
     refine XS.iload XL316.here hx rfl (hb hby at_506) rfl ?_
     show Steps _ _ _ (.setTop _ (mkF _ 508 _ _)) _
     refine XS.ifNo XL316.here hx rfl (hb hby at_508) rfl ((if0 _ _).trans (feq (by decide)).1) ?_
     show Steps _ _ _ (.setTop _ (mkF _ 511 _ _)) _
     refine XS.iconst XL316.here hx rfl (hb hby at_511) ?_
     show Steps _ _ _ (.setTop _ (mkF _ 512 _ _)) _
     refine XS.goto XL316.here hx rfl (pc0 := 512) (pc' := 516) rfl (hb hby at_512) (by decide) (by decide) ?_
     exact Steps.refl _)
    obtain ⟨fs, hr, hrun, hended, hW, hsame⟩ := XL316.leave (v := some (.int (1 : Int32))) (fun h => by rw [Bd.returns] at h; cases h)
    exact ⟨_, _, c325.trans (retN XL316 hx (t := .boolean) Bd.returns (by simp) (hb hby at_516) hr), hrun, hended, _, _, rfl, ⟨rfl, NL316⟩, ⟨_, rfl⟩, hW, hsame.mono (by decide) (by decide)⟩
set_option maxRecDepth 65536 in
set_option maxHeartbeats 40000000 in
theorem own_comes {Post : Tables → Env → Array Value → State → Outcome → State → Prop} (hpost : ∀ tb e args s v u, (limb_1_1.after args s (.returned v) u = true ∧ limb_1_2.after args s (.returned v) u = true) → FrameEnd s (.returned v) u (Jvm.fieldLocs frame_1_writes args s ++ Jvm.arrayLocs frame_1_arrays args s ++ Jvm.staticLocs frame_1_statics s) 72 25408 → Post tb e args s (.returned v) u) :
  ArmFor flags0 classFile x code maxLocals ret World_1 tables_1 room_1 Calls_1 rest_1 Pre_1 Post := by
 intro l hfl _ _ p e ha hc hk s m args below hf hA hF happ hP
 obtain ⟨hcalls, hrest, hpre⟩ := hP
 obtain ⟨-, -, -, hnamed, -, -, -, hat⟩ := (Spec.applies_iff hf).mp happ
 obtain ⟨hg, hn⟩ := and_e (Cond.before_iff.mp (show (Jvm.Cond.and given_1 narrow_1).before args s = true from hpre))
 obtain ⟨hcount, hgs⟩ := and_e hg
 obtain ⟨hi0, hgs0⟩ := and_e hgs
 obtain ⟨hi1, hgs1⟩ := and_e hgs0
 obtain ⟨hi2, hgs2⟩ := and_e hgs1
 obtain ⟨hi3, hgs3⟩ := and_e hgs2
 obtain ⟨w0, w1, w2, w3, w4, rfl⟩ : ∃ w0 w1 w2 w3 w4 : Value, args = #[w0, w1, w2, w3, w4] := by
  have hs : args.size = 5 := by simpa [Cond.value, given_1] using hcount
  obtain ⟨L⟩ := args
  match L, hs with
  | [w0, w1, w2, w3, w4], _ => exact ⟨w0, w1, w2, w3, w4, rfl⟩
 have hw := fun d (hd : d ∈ tables_1) => atoms_spec (ws := Jvm.Cond.code x code maxLocals ret :: tables_1) hat d (List.mem_cons_of_mem _ hd)
 have hfit : Fit s := fun {y c} hc i hi => by
  obtain ⟨ha, rfl⟩ := Array.getElem?_eq_some_iff.mp hc
  have q := List.all_eq_true.mp ((Array.all_eq_true_iff_forall_mem.mp hF) _ (Array.getElem_mem ha)) i (List.mem_range.mpr hi)
  simpa [Array.getElem?_eq_getElem hi] using q
 obtain ⟨i0, ei0⟩ := is_v hi0
 obtain rfl : w0 = (.int i0) := Option.some.inj ei0
 obtain ⟨i1, ei1⟩ := is_v hi1
 obtain rfl : w1 = (.int i1) := Option.some.inj ei1
 obtain ⟨i2, ei2⟩ := is_v hi2
 obtain rfl : w2 = (.int i2) := Option.some.inj ei2
 obtain ⟨i3, ei3⟩ := is_v hi3
 obtain rfl : w3 = (.int i3) := Option.some.inj ei3
 obtain ⟨i4, ei4⟩ := is_v hgs3
 obtain rfl : w4 = (.int i4) := Option.some.inj ei4
 obtain ⟨n, o, h1, h2, h3, _, L, rfl, ⟨rfl, N⟩, hq⟩ := own_law l s _ hw tables_1 i0 i1 i2 i3 i4 s.heap s.heap.size (Nat.le_refl _) p e ha hc hk s m _ below hf ((Spec.applies_iff_loose hf).mp happ).1 ⟨rfl, State.Warmed39.refl s, rfl⟩ trivial
 exact ⟨n, _, h1, h2, h3, hpost _ _ _ _ _ _ ⟨Cond.after_iff.mpr rfl, Cond.after_iff.mpr (eq_i res_at (Term.int_eval (1)) rfl)⟩ ⟨hq.1, hq.2.1, (hq.2.2.sift fun y hy => Or.inr (N y hy)).mono (by decide) (by decide)⟩⟩
theorem main_1_1 : Claimed_1_1 := own_comes fun _ _ _ _ _ _ h hF => ⟨h.1, hF⟩
theorem main_1_2 : Claimed_1_2 := own_comes fun _ _ _ _ _ _ h hF => ⟨h.2, hF⟩
end Jvm.Pilot.@@N@@
namespace Jvm.Pilot.@@N@@
open Jvm Jvm.ClassFile Sem Op Lib Jvm.Free Jvm.Stand Jvm.Pilot.@@N@@.Jvm.D
/-! MADE BY PROGRAM (witnessworld.py) out of the Statement's table words and the real class files: 22 classes; the members and pool entries that the words name. The judged class is class 1, her method 1. -/
namespace start1
open Jvm.ClassFile
def u (s : String) : CpInfo := .utf8 (stringToUtf16 s)
/-- a pool by its gaps: so many unusable entries, then the entry; so many at the end -/
def gap : Nat → List CpInfo → List CpInfo
  | 0, r => r
  | n + 1, r => .unusable :: gap n r
def poolList (es : List (Nat × CpInfo)) (last : Nat) : List CpInfo := es.foldr (fun e r => gap e.1 (e.2 :: r)) (gap last [])
def pool (es : List (Nat × CpInfo)) (last : Nat) : Array CpInfo := ⟨poolList es last⟩
def fileOf (pool : Array CpInfo) (this : Nat) (attrs : Array Attribute := #[]) (ms : Array MethodInfo := #[]) (fl : Nat := 33) (sup : Nat := 0) (ifs : Array Nat := #[]) (fds : Array FieldInfo := #[]) : ClassFile where
  minorVersion := 0
  majorVersion := 65
  constantPool := pool
  accessFlags := fl
  thisClass := this
  superClass := sup
  interfaces := ifs
  fields := fds
  methods := ms
  attributes := attrs
def plain (name : String) (sup : Option ClassId) : Class where
  name := name
  kind := .ordinary
  loader := none
  accessFlags := 33
  super := sup
  interfaces := #[]
  cf := none
  fields := #[]
  methods := #[]
  instanceTypes := #[]
  staticTypes := #[]
  resolved := #[]
  callSites := []
  init := .initialized
  statics := none
  mirror := none

def pool0 : Array CpInfo := pool [(5, u "<init>"), (0, u "()V"), (1, .class_ 10), (1, u "java/lang/Object"), (85, u "clone"), (0, u "()Ljava/lang/Object;")] 26

def k0c0 : Code := { maxStack := 0, maxLocals := 1, code := object_method_1_code, exceptionTable := #[], attributes := #[] }
def k0m0 : Method := { name := "<init>", desc := "()V", sig := { parameters := [], returnType := none }, accessFlags := 1, code := some k0c0 }
def k0m1 : Method := { name := "clone", desc := "()Ljava/lang/Object;", sig := { parameters := [], returnType := some (.object "java/lang/Object") }, accessFlags := 260, code := none }
/-- java/lang/Object -/
def k0 : Class := { plain "java/lang/Object" none with
  accessFlags := 33
  interfaces := #[]
  cf := some (fileOf pool0 8 #[] #[{ accessFlags := 1, nameIndex := 5, descriptorIndex := 6, attributes := #[] }, { accessFlags := 260, nameIndex := 96, descriptorIndex := 97, attributes := #[] }] 33 0 #[] #[])
  fields := #[]
  methods := #[k0m0, k0m1]
  instanceTypes := #[]
  staticTypes := #[]
  resolved := Array.replicate 124 none
  statics := none }

def pool1 : Array CpInfo := pool [(2, .class_ 4), (0, .nameAndType 5 6), (0, u "java/lang/Object"), (0, u "<init>"), (0, u "()V"), (0, .integer 262143), (0, .integer 262144), (0, .class_ 10), (0, u "[I"), (0, .integer 2147483647), (0, .class_ 13), (0, u "com/example/coersa/coersa/PlaceSet"), (0, .methodref 12 3), (0, .methodref 12 16), (0, .nameAndType 17 18), (0, u "add"), (0, u "(I)V"), (0, .methodref 12 20), (0, .nameAndType 21 18), (0, u "remove"), (0, .methodref 23 24), (0, .class_ 25), (0, .nameAndType 26 27), (0, u "com/example/coersa/coersa/PlaceSetRemovePinLaw"), (0, u "ref"), (0, u "([I[ZI)I"), (0, .methodref 12 29), (0, .nameAndType 30 31), (0, u "next"), (0, u "(I)I"), (0, .methodref 12 33), (0, .nameAndType 30 34), (0, u "(II)I"), (0, .methodref 23 36), (0, .nameAndType 37 38), (0, u "take"), (0, u "(IZII)I"), (2, u "law"), (0, u "(IIIII)Z")] 7

def k1m0 : Method := { name := "<init>", desc := "()V", sig := { parameters := [], returnType := none }, accessFlags := 1, code := none }
def k1c1 : Code := { maxStack := 7, maxLocals := 22, code := code, exceptionTable := #[], attributes := #[] }
def k1m1 : Method := { name := "law", desc := "(IIIII)Z", sig := { parameters := [.int, .int, .int, .int, .int], returnType := some .boolean }, accessFlags := 9, code := some k1c1 }
def k1c2 : Code := { maxStack := 4, maxLocals := 4, code := method_3_code, exceptionTable := #[], attributes := #[] }
def k1m2 : Method := { name := "ref", desc := "([I[ZI)I", sig := { parameters := [(.array .int), (.array .boolean), .int], returnType := some .int }, accessFlags := 10, code := some k1c2 }
def k1c3 : Code := { maxStack := 2, maxLocals := 4, code := method_4_code, exceptionTable := #[], attributes := #[] }
def k1m3 : Method := { name := "take", desc := "(IZII)I", sig := { parameters := [.int, .boolean, .int, .int], returnType := some .int }, accessFlags := 10, code := some k1c3 }
/-- com/example/coersa/coersa/PlaceSetRemovePinLaw -/
def k1 : Class := { plain "com/example/coersa/coersa/PlaceSetRemovePinLaw" (some 0) with
  accessFlags := 49
  interfaces := #[]
  cf := some (fileOf pool1 23 #[] #[{ accessFlags := 1, nameIndex := 5, descriptorIndex := 6, attributes := #[] }, { accessFlags := 9, nameIndex := 41, descriptorIndex := 42, attributes := #[] }, { accessFlags := 10, nameIndex := 26, descriptorIndex := 27, attributes := #[] }, { accessFlags := 10, nameIndex := 37, descriptorIndex := 38, attributes := #[] }] 49 2 #[] #[])
  fields := #[]
  methods := #[k1m0, k1m1, k1m2, k1m3]
  instanceTypes := #[]
  staticTypes := #[]
  resolved := Array.replicate 50 none
  statics := none }

def pool2 : Array CpInfo := pool [(1, .class_ 2), (0, u "com/example/coersa/coersa/PlaceSet"), (0, .methodref 4 5), (0, .class_ 6), (0, .nameAndType 7 8), (0, u "java/lang/Object"), (0, u "<init>"), (0, u "()V"), (0, .class_ 10), (0, u "[J"), (0, .fieldref 1 12), (0, .nameAndType 13 14), (0, u "levels"), (0, u "[[J"), (0, .fieldref 1 16), (0, .nameAndType 17 18), (0, u "blockCounts"), (0, u "[I"), (0, .methodref 1 20), (0, .nameAndType 21 22), (0, u "wordsFor"), (0, u "(I)I"), (0, .long 2), (1, .methodref 26 27), (0, .class_ 28), (0, .nameAndType 29 30), (0, u "java/lang/Math"), (0, u "max"), (0, u "(JJ)J"), (2, .integer 2147483647), (0, .methodref 26 35), (0, .nameAndType 36 30), (0, u "min"), (0, .methodref 38 39), (0, .class_ 40), (0, .nameAndType 41 42), (0, u "java/util/Arrays"), (0, u "copyOf"), (0, u "([II)[I"), (0, .methodref 38 44), (0, .nameAndType 41 45), (0, u "([JI)[J"), (0, .methodref 1 47), (0, .nameAndType 48 49), (0, u "makeRoom"), (0, u "(I)V"), (0, .long 18446744073709551615), (3, u "next"), (2, u "remove"), (7, .methodref 1 66), (0, .nameAndType 67 22), (0, u "wordsHolding"), (0, .methodref 69 70), (0, .class_ 71), (0, .nameAndType 72 73), (0, u "java/lang/Long"), (0, u "numberOfTrailingZeros"), (0, u "(J)I"), (0, .methodref 1 75), (0, .nameAndType 76 22), (0, u "nextAbove"), (0, .methodref 69 78), (0, .nameAndType 79 73), (0, u "bitCount"), (0, .methodref 26 81), (0, .nameAndType 29 82), (0, u "(II)I"), (0, u "NONE"), (0, u "I"), (2, u "WORD_SHIFT"), (1, u "COUNTED_IN_A_STEP"), (1, u "IN_WORD"), (1, u "BLOCK_SHIFT"), (1, u "IN_BLOCK"), (6, u "add")] 4

def k2c0 : Code := { maxStack := 5, maxLocals := 1, code := prog_209_method_1_code, exceptionTable := #[], attributes := #[] }
def k2m0 : Method := { name := "<init>", desc := "()V", sig := { parameters := [], returnType := none }, accessFlags := 0, code := some k2c0 }
def k2c1 : Code := { maxStack := 6, maxLocals := 7, code := prog_209_method_2_code, exceptionTable := #[], attributes := #[] }
def k2m1 : Method := { name := "makeRoom", desc := "(I)V", sig := { parameters := [.int], returnType := none }, accessFlags := 0, code := some k2c1 }
def k2c2 : Code := { maxStack := 8, maxLocals := 10, code := prog_209_method_3_code, exceptionTable := #[], attributes := #[] }
def k2m2 : Method := { name := "add", desc := "(I)V", sig := { parameters := [.int], returnType := none }, accessFlags := 0, code := some k2c2 }
def k2c3 : Code := { maxStack := 6, maxLocals := 10, code := prog_209_method_4_code, exceptionTable := #[], attributes := #[] }
def k2m3 : Method := { name := "remove", desc := "(I)V", sig := { parameters := [.int], returnType := none }, accessFlags := 0, code := some k2c3 }
def k2c4 : Code := { maxStack := 6, maxLocals := 6, code := prog_209_method_7_code, exceptionTable := #[], attributes := #[] }
def k2m4 : Method := { name := "next", desc := "(I)I", sig := { parameters := [.int], returnType := some .int }, accessFlags := 0, code := some k2c4 }
def k2c5 : Code := { maxStack := 6, maxLocals := 10, code := prog_209_method_8_code, exceptionTable := #[], attributes := #[] }
def k2m5 : Method := { name := "next", desc := "(II)I", sig := { parameters := [.int, .int], returnType := some .int }, accessFlags := 0, code := some k2c5 }
def k2c6 : Code := { maxStack := 6, maxLocals := 6, code := prog_209_method_9_code, exceptionTable := #[], attributes := #[] }
def k2m6 : Method := { name := "nextAbove", desc := "(I)I", sig := { parameters := [.int], returnType := some .int }, accessFlags := 2, code := some k2c6 }
def k2c7 : Code := { maxStack := 2, maxLocals := 1, code := prog_209_method_10_code, exceptionTable := #[], attributes := #[] }
def k2m7 : Method := { name := "wordsFor", desc := "(I)I", sig := { parameters := [.int], returnType := some .int }, accessFlags := 10, code := some k2c7 }
def k2c8 : Code := { maxStack := 2, maxLocals := 1, code := prog_209_method_11_code, exceptionTable := #[], attributes := #[] }
def k2m8 : Method := { name := "wordsHolding", desc := "(I)I", sig := { parameters := [.int], returnType := some .int }, accessFlags := 10, code := some k2c8 }
/-- com/example/coersa/coersa/PlaceSet -/
def k2 : Class := { plain "com/example/coersa/coersa/PlaceSet" (some 0) with
  accessFlags := 48
  interfaces := #[]
  cf := some (fileOf pool2 1 #[] #[{ accessFlags := 0, nameIndex := 7, descriptorIndex := 8, attributes := #[] }, { accessFlags := 0, nameIndex := 48, descriptorIndex := 49, attributes := #[] }, { accessFlags := 0, nameIndex := 102, descriptorIndex := 49, attributes := #[] }, { accessFlags := 0, nameIndex := 57, descriptorIndex := 49, attributes := #[] }, { accessFlags := 0, nameIndex := 54, descriptorIndex := 22, attributes := #[] }, { accessFlags := 0, nameIndex := 54, descriptorIndex := 82, attributes := #[] }, { accessFlags := 2, nameIndex := 76, descriptorIndex := 22, attributes := #[] }, { accessFlags := 10, nameIndex := 21, descriptorIndex := 22, attributes := #[] }, { accessFlags := 10, nameIndex := 67, descriptorIndex := 22, attributes := #[] }] 48 4 #[] #[{ accessFlags := 24, nameIndex := 83, descriptorIndex := 84, attributes := #[] }, { accessFlags := 26, nameIndex := 87, descriptorIndex := 84, attributes := #[] }, { accessFlags := 24, nameIndex := 89, descriptorIndex := 84, attributes := #[] }, { accessFlags := 26, nameIndex := 91, descriptorIndex := 84, attributes := #[] }, { accessFlags := 26, nameIndex := 93, descriptorIndex := 84, attributes := #[] }, { accessFlags := 26, nameIndex := 95, descriptorIndex := 84, attributes := #[] }, { accessFlags := 2, nameIndex := 13, descriptorIndex := 14, attributes := #[] }, { accessFlags := 2, nameIndex := 17, descriptorIndex := 18, attributes := #[] }])
  fields := #[{ name := "NONE", type := .int, accessFlags := 24, slot := 0, constantValue := 0 }, { name := "WORD_SHIFT", type := .int, accessFlags := 26, slot := 1, constantValue := 0 }, { name := "COUNTED_IN_A_STEP", type := .int, accessFlags := 24, slot := 2, constantValue := 0 }, { name := "IN_WORD", type := .int, accessFlags := 26, slot := 3, constantValue := 0 }, { name := "BLOCK_SHIFT", type := .int, accessFlags := 26, slot := 4, constantValue := 0 }, { name := "IN_BLOCK", type := .int, accessFlags := 26, slot := 5, constantValue := 0 }, { name := "levels", type := (.array (.array .long)), accessFlags := 2, slot := 0, constantValue := 0 }, { name := "blockCounts", type := (.array .int), accessFlags := 2, slot := 1, constantValue := 0 }]
  methods := #[k2m0, k2m1, k2m2, k2m3, k2m4, k2m5, k2m6, k2m7, k2m8]
  instanceTypes := #[(.array (.array .long)), (.array .int)]
  staticTypes := #[.int, .int, .int, .int, .int, .int]
  resolved := Array.replicate 107 none
  statics := none }

def pool3 : Array CpInfo := pool [(1, .class_ 2), (0, u "java/lang/Math"), (1, .class_ 6), (1, u "java/lang/Object"), (0, u "<init>"), (0, u "()V"), (89, .class_ 100), (1, u "java/lang/Math$RandomNumberGeneratorHolder"), (20, u "(JJ)J"), (50, u "negativeZeroFloatBits"), (0, u "J"), (2, u "negativeZeroDoubleBits"), (21, u "max"), (2, u "min"), (43, u "$assertionsDisabled"), (0, u "Z"), (88, u "(II)I"), (2, u "twoToTheDoubleScaleDown"), (0, u "D"), (4, u "twoToTheDoubleScaleUp"), (9, u "E"), (3, u "PI"), (2, u "TAU"), (2, u "DEGREES_TO_RADIANS"), (0, u "RADIANS_TO_DEGREES")] 94

def k3m0 : Method := { name := "<init>", desc := "()V", sig := { parameters := [], returnType := none }, accessFlags := 2, code := none }
def k3c1 : Code := { maxStack := 2, maxLocals := 2, code := jdk_29_method_65_code, exceptionTable := #[], attributes := #[] }
def k3m1 : Method := { name := "max", desc := "(II)I", sig := { parameters := [.int, .int], returnType := some .int }, accessFlags := 9, code := some k3c1 }
def k3c2 : Code := { maxStack := 4, maxLocals := 4, code := jdk_29_method_66_code, exceptionTable := #[], attributes := #[] }
def k3m2 : Method := { name := "max", desc := "(JJ)J", sig := { parameters := [.long, .long], returnType := some .long }, accessFlags := 9, code := some k3c2 }
def k3c3 : Code := { maxStack := 2, maxLocals := 2, code := jdk_29_method_69_code, exceptionTable := #[], attributes := #[] }
def k3m3 : Method := { name := "min", desc := "(II)I", sig := { parameters := [.int, .int], returnType := some .int }, accessFlags := 9, code := some k3c3 }
def k3c4 : Code := { maxStack := 4, maxLocals := 4, code := jdk_29_method_70_code, exceptionTable := #[], attributes := #[] }
def k3m4 : Method := { name := "min", desc := "(JJ)J", sig := { parameters := [.long, .long], returnType := some .long }, accessFlags := 9, code := some k3c4 }
/-- java/lang/Math -/
def k3 : Class := { plain "java/lang/Math" (some 0) with
  accessFlags := 49
  interfaces := #[]
  cf := some (fileOf pool3 1 #[.nestMembers #[98]] #[{ accessFlags := 2, nameIndex := 7, descriptorIndex := 8, attributes := #[] }, { accessFlags := 9, nameIndex := 198, descriptorIndex := 335, attributes := #[] }, { accessFlags := 9, nameIndex := 198, descriptorIndex := 121, attributes := #[] }, { accessFlags := 9, nameIndex := 201, descriptorIndex := 335, attributes := #[] }, { accessFlags := 9, nameIndex := 201, descriptorIndex := 121, attributes := #[] }] 49 4 #[] #[{ accessFlags := 25, nameIndex := 354, descriptorIndex := 339, attributes := #[] }, { accessFlags := 25, nameIndex := 358, descriptorIndex := 339, attributes := #[] }, { accessFlags := 25, nameIndex := 361, descriptorIndex := 339, attributes := #[] }, { accessFlags := 26, nameIndex := 364, descriptorIndex := 339, attributes := #[] }, { accessFlags := 26, nameIndex := 365, descriptorIndex := 339, attributes := #[] }, { accessFlags := 26, nameIndex := 172, descriptorIndex := 173, attributes := #[] }, { accessFlags := 26, nameIndex := 176, descriptorIndex := 173, attributes := #[] }, { accessFlags := 8, nameIndex := 344, descriptorIndex := 339, attributes := #[] }, { accessFlags := 8, nameIndex := 338, descriptorIndex := 339, attributes := #[] }, { accessFlags := 4120, nameIndex := 245, descriptorIndex := 246, attributes := #[] }])
  fields := #[{ name := "E", type := .double, accessFlags := 25, slot := 0, constantValue := 0 }, { name := "PI", type := .double, accessFlags := 25, slot := 1, constantValue := 0 }, { name := "TAU", type := .double, accessFlags := 25, slot := 2, constantValue := 0 }, { name := "DEGREES_TO_RADIANS", type := .double, accessFlags := 26, slot := 3, constantValue := 0 }, { name := "RADIANS_TO_DEGREES", type := .double, accessFlags := 26, slot := 4, constantValue := 0 }, { name := "negativeZeroFloatBits", type := .long, accessFlags := 26, slot := 5, constantValue := 0 }, { name := "negativeZeroDoubleBits", type := .long, accessFlags := 26, slot := 6, constantValue := 0 }, { name := "twoToTheDoubleScaleUp", type := .double, accessFlags := 8, slot := 7, constantValue := 0 }, { name := "twoToTheDoubleScaleDown", type := .double, accessFlags := 8, slot := 8, constantValue := 0 }, { name := "$assertionsDisabled", type := .boolean, accessFlags := 4120, slot := 9, constantValue := 0 }]
  methods := #[k3m0, k3m1, k3m2, k3m3, k3m4]
  instanceTypes := #[]
  staticTypes := #[.double, .double, .double, .double, .double, .long, .long, .double, .double, .boolean]
  resolved := Array.replicate 460 none
  statics := none }

def pool4 : Array CpInfo := pool [(1, .class_ 2), (0, u "java/io/Serializable"), (0, .class_ 4), (0, u "java/lang/Object")] 2

/-- java/io/Serializable -/
def k4 : Class := { plain "java/io/Serializable" (some 0) with
  accessFlags := 1537
  interfaces := #[]
  cf := some (fileOf pool4 1 #[] #[] 1537 3 #[] #[])
  fields := #[]
  methods := #[]
  instanceTypes := #[]
  staticTypes := #[]
  resolved := Array.replicate 7 none
  statics := none }

def pool5 : Array CpInfo := pool [(2, .class_ 4), (1, u "java/lang/Object"), (0, u "<init>"), (0, u "()V"), (1, .class_ 10), (1, u "java/lang/Number"), (2, .class_ 14), (0, u "java/io/Serializable"), (0, u "serialVersionUID"), (0, u "J")] 20

def k5m0 : Method := { name := "<init>", desc := "()V", sig := { parameters := [], returnType := none }, accessFlags := 1, code := none }
/-- java/lang/Number -/
def k5 : Class := { plain "java/lang/Number" (some 0) with
  accessFlags := 1057
  interfaces := #[4]
  cf := some (fileOf pool5 8 #[] #[{ accessFlags := 1, nameIndex := 5, descriptorIndex := 6, attributes := #[] }] 1057 2 #[13] #[{ accessFlags := 26, nameIndex := 15, descriptorIndex := 16, attributes := #[] }])
  fields := #[{ name := "serialVersionUID", type := .long, accessFlags := 26, slot := 0, constantValue := 0 }]
  methods := #[k5m0]
  instanceTypes := #[]
  staticTypes := #[.long]
  resolved := Array.replicate 37 none
  statics := none }

def pool6 : Array CpInfo := pool [(1, .class_ 2), (0, u "java/lang/Comparable"), (0, .class_ 4), (0, u "java/lang/Object")] 7

/-- java/lang/Comparable -/
def k6 : Class := { plain "java/lang/Comparable" (some 0) with
  accessFlags := 1537
  interfaces := #[]
  cf := some (fileOf pool6 1 #[] #[] 1537 3 #[] #[])
  fields := #[]
  methods := #[]
  instanceTypes := #[]
  staticTypes := #[]
  resolved := Array.replicate 12 none
  statics := none }

def pool7 : Array CpInfo := pool [(1, .class_ 2), (0, u "java/lang/constant/Constable"), (0, .class_ 4), (0, u "java/lang/Object")] 6

/-- java/lang/constant/Constable -/
def k7 : Class := { plain "java/lang/constant/Constable" (some 0) with
  accessFlags := 1537
  interfaces := #[]
  cf := some (fileOf pool7 1 #[] #[] 1537 3 #[] #[])
  fields := #[]
  methods := #[]
  instanceTypes := #[]
  staticTypes := #[]
  resolved := Array.replicate 11 none
  statics := none }

def pool8 : Array CpInfo := pool [(1, .class_ 2), (0, u "java/lang/constant/ConstantDesc"), (0, .class_ 4), (0, u "java/lang/Object")] 32

/-- java/lang/constant/ConstantDesc -/
def k8 : Class := { plain "java/lang/constant/ConstantDesc" (some 0) with
  accessFlags := 1537
  interfaces := #[]
  cf := some (fileOf pool8 1 #[] #[] 1537 3 #[] #[])
  fields := #[]
  methods := #[]
  instanceTypes := #[]
  staticTypes := #[]
  resolved := Array.replicate 37 none
  statics := none }

def pool9 : Array CpInfo := pool [(1, .class_ 2), (0, u "java/lang/Long"), (15, .class_ 20), (1, u "java/lang/Integer"), (80, u "(J)I"), (133, .class_ 237), (1, u "java/lang/Long$LongCache"), (33, .class_ 272), (0, u "java/lang/Number"), (2, u "value"), (0, u "J"), (33, u "(I)I"), (0, .methodref 18 312), (0, .nameAndType 313 310), (0, u "numberOfTrailingZeros"), (0, .long 6148914691236517205), (1, .long 3689348814741910323), (1, .long 1085102592571150095), (42, u "TYPE"), (0, u "Ljava/lang/Class;"), (0, .class_ 364), (0, u "java/lang/Comparable"), (0, .class_ 366), (0, u "java/lang/constant/Constable"), (0, .class_ 368), (0, u "java/lang/constant/ConstantDesc"), (0, u "MIN_VALUE"), (1, u "MAX_VALUE"), (4, u "SIZE"), (0, u "I"), (1, u "BYTES"), (1, u "serialVersionUID"), (94, u "bitCount")] 47

def k9c0 : Code := { maxStack := 4, maxLocals := 3, code := jdk_35_method_49_code, exceptionTable := #[], attributes := #[] }
def k9m0 : Method := { name := "numberOfTrailingZeros", desc := "(J)I", sig := { parameters := [.long], returnType := some .int }, accessFlags := 9, code := some k9c0 }
def k9c1 : Code := { maxStack := 6, maxLocals := 2, code := jdk_35_method_50_code, exceptionTable := #[], attributes := #[] }
def k9m1 : Method := { name := "bitCount", desc := "(J)I", sig := { parameters := [.long], returnType := some .int }, accessFlags := 9, code := some k9c1 }
/-- java/lang/Long -/
def k9 : Class := { plain "java/lang/Long" (some 5) with
  accessFlags := 49
  interfaces := #[6, 7, 8]
  cf := some (fileOf pool9 1 #[.nestMembers #[235]] #[{ accessFlags := 9, nameIndex := 313, descriptorIndex := 101, attributes := #[] }, { accessFlags := 9, nameIndex := 476, descriptorIndex := 101, attributes := #[] }] 49 271 #[363, 365, 367] #[{ accessFlags := 25, nameIndex := 369, descriptorIndex := 276, attributes := #[] }, { accessFlags := 25, nameIndex := 371, descriptorIndex := 276, attributes := #[] }, { accessFlags := 25, nameIndex := 361, descriptorIndex := 362, attributes := #[] }, { accessFlags := 18, nameIndex := 275, descriptorIndex := 276, attributes := #[] }, { accessFlags := 25, nameIndex := 376, descriptorIndex := 377, attributes := #[] }, { accessFlags := 25, nameIndex := 379, descriptorIndex := 377, attributes := #[] }, { accessFlags := 26, nameIndex := 381, descriptorIndex := 276, attributes := #[] }])
  fields := #[{ name := "MIN_VALUE", type := .long, accessFlags := 25, slot := 0, constantValue := 0 }, { name := "MAX_VALUE", type := .long, accessFlags := 25, slot := 1, constantValue := 0 }, { name := "TYPE", type := (.object "java/lang/Class"), accessFlags := 25, slot := 2, constantValue := 0 }, { name := "value", type := .long, accessFlags := 18, slot := 0, constantValue := 0 }, { name := "SIZE", type := .int, accessFlags := 25, slot := 3, constantValue := 0 }, { name := "BYTES", type := .int, accessFlags := 25, slot := 4, constantValue := 0 }, { name := "serialVersionUID", type := .long, accessFlags := 26, slot := 5, constantValue := 0 }]
  methods := #[k9m0, k9m1]
  instanceTypes := #[.long]
  staticTypes := #[.long, .long, (.object "java/lang/Class"), .int, .int, .long]
  resolved := Array.replicate 524 none
  statics := none }

def pool10 : Array CpInfo := pool [(1, .class_ 2), (0, u "java/lang/Integer"), (16, u "digits"), (0, u "[C"), (33, u "(I)I"), (30, u "DigitOnes"), (0, u "[B"), (2, u "DigitTens"), (99, .class_ 190), (0, u "java/lang/Integer$IntegerCache"), (3, u "I"), (8, .class_ 204), (0, u "java/lang/Number"), (2, u "value"), (56, .integer 65536), (37, u "TYPE"), (0, u "Ljava/lang/Class;"), (0, .class_ 305), (0, u "java/lang/Comparable"), (0, .class_ 307), (0, u "java/lang/constant/Constable"), (0, .class_ 309), (0, u "java/lang/constant/ConstantDesc"), (0, u "MIN_VALUE"), (1, u "MAX_VALUE"), (3, u "SIZE"), (1, u "BYTES"), (1, u "serialVersionUID"), (0, u "J"), (84, u "numberOfTrailingZeros")] 46

def k10c0 : Code := { maxStack := 3, maxLocals := 2, code := jdk_33_method_48_code, exceptionTable := #[], attributes := #[] }
def k10m0 : Method := { name := "numberOfTrailingZeros", desc := "(I)I", sig := { parameters := [.int], returnType := some .int }, accessFlags := 9, code := some k10c0 }
/-- java/lang/Integer -/
def k10 : Class := { plain "java/lang/Integer" (some 5) with
  accessFlags := 49
  interfaces := #[6, 7, 8]
  cf := some (fileOf pool10 1 #[.nestMembers #[189]] #[{ accessFlags := 9, nameIndex := 406, descriptorIndex := 54, attributes := #[] }] 49 203 #[304, 306, 308] #[{ accessFlags := 25, nameIndex := 310, descriptorIndex := 194, attributes := #[] }, { accessFlags := 25, nameIndex := 312, descriptorIndex := 194, attributes := #[] }, { accessFlags := 25, nameIndex := 302, descriptorIndex := 303, attributes := #[] }, { accessFlags := 24, nameIndex := 19, descriptorIndex := 20, attributes := #[] }, { accessFlags := 24, nameIndex := 89, descriptorIndex := 86, attributes := #[] }, { accessFlags := 24, nameIndex := 85, descriptorIndex := 86, attributes := #[] }, { accessFlags := 18, nameIndex := 207, descriptorIndex := 194, attributes := #[] }, { accessFlags := 25, nameIndex := 316, descriptorIndex := 194, attributes := #[] }, { accessFlags := 25, nameIndex := 318, descriptorIndex := 194, attributes := #[] }, { accessFlags := 26, nameIndex := 320, descriptorIndex := 321, attributes := #[] }])
  fields := #[{ name := "MIN_VALUE", type := .int, accessFlags := 25, slot := 0, constantValue := 0 }, { name := "MAX_VALUE", type := .int, accessFlags := 25, slot := 1, constantValue := 0 }, { name := "TYPE", type := (.object "java/lang/Class"), accessFlags := 25, slot := 2, constantValue := 0 }, { name := "digits", type := (.array .char), accessFlags := 24, slot := 3, constantValue := 0 }, { name := "DigitTens", type := (.array .byte), accessFlags := 24, slot := 4, constantValue := 0 }, { name := "DigitOnes", type := (.array .byte), accessFlags := 24, slot := 5, constantValue := 0 }, { name := "value", type := .int, accessFlags := 18, slot := 0, constantValue := 0 }, { name := "SIZE", type := .int, accessFlags := 25, slot := 6, constantValue := 0 }, { name := "BYTES", type := .int, accessFlags := 25, slot := 7, constantValue := 0 }, { name := "serialVersionUID", type := .long, accessFlags := 26, slot := 8, constantValue := 0 }]
  methods := #[k10m0]
  instanceTypes := #[.int]
  staticTypes := #[.int, .int, (.object "java/lang/Class"), (.array .char), (.array .byte), (.array .byte), .int, .int, .long]
  resolved := Array.replicate 453 none
  statics := none }

def pool11 : Array CpInfo := pool [(2, .class_ 4), (1, u "java/lang/Object"), (0, u "<init>"), (0, u "()V"), (7, .class_ 16), (1, u "java/util/Arrays"), (57, .class_ 76), (1, u "java/util/Arrays$NaturalOrder"), (32, u "()Ljava/lang/Object;"), (3, .class_ 115), (1, u "java/util/Arrays$LegacyMergeSort"), (1, u "Z"), (10, .nameAndType 129 109), (0, u "clone"), (20, .methodref 151 152), (0, .class_ 153), (0, .nameAndType 154 155), (0, u "java/lang/System"), (0, u "arraycopy"), (0, u "(Ljava/lang/Object;ILjava/lang/Object;II)V"), (146, u "copyOf"), (1, .methodref 305 306), (0, .class_ 307), (0, .nameAndType 308 309), (0, u "java/lang/Math"), (0, u "min"), (0, u "(II)I"), (6, .methodref 317 128), (0, .class_ 318), (0, u "[I"), (0, .methodref 320 128), (0, .class_ 321), (0, u "[J"), (53, .class_ 376), (0, u "java/util/Arrays$ArrayList"), (68, u "$assertionsDisabled"), (269, u "MIN_ARRAY_SORT_GRAN"), (0, u "I"), (2, u "INSERTIONSORT_THRESHOLD"), (151, u "([II)[I"), (0, u "([JI)[J"), (102, .class_ 976), (0, u "java/util/Arrays$ArrayItr")] 52

def k11m0 : Method := { name := "<init>", desc := "()V", sig := { parameters := [], returnType := none }, accessFlags := 2, code := none }
def k11c1 : Code := { maxStack := 6, maxLocals := 3, code := jdk_65_method_123_code, exceptionTable := #[], attributes := #[] }
def k11m1 : Method := { name := "copyOf", desc := "([II)[I", sig := { parameters := [(.array .int), .int], returnType := some (.array .int) }, accessFlags := 9, code := some k11c1 }
def k11c2 : Code := { maxStack := 6, maxLocals := 3, code := jdk_65_method_124_code, exceptionTable := #[], attributes := #[] }
def k11m2 : Method := { name := "copyOf", desc := "([JI)[J", sig := { parameters := [(.array .long), .int], returnType := some (.array .long) }, accessFlags := 9, code := some k11c2 }
/-- java/util/Arrays -/
def k11 : Class := { plain "java/util/Arrays" (some 0) with
  accessFlags := 49
  interfaces := #[]
  cf := some (fileOf pool11 14 #[.nestMembers #[975, 375, 113, 74]] #[{ accessFlags := 2, nameIndex := 5, descriptorIndex := 6, attributes := #[] }, { accessFlags := 9, nameIndex := 302, descriptorIndex := 871, attributes := #[] }, { accessFlags := 9, nameIndex := 302, descriptorIndex := 872, attributes := #[] }] 49 2 #[] #[{ accessFlags := 26, nameIndex := 715, descriptorIndex := 716, attributes := #[] }, { accessFlags := 26, nameIndex := 719, descriptorIndex := 716, attributes := #[] }, { accessFlags := 4120, nameIndex := 445, descriptorIndex := 117, attributes := #[] }])
  fields := #[{ name := "MIN_ARRAY_SORT_GRAN", type := .int, accessFlags := 26, slot := 0, constantValue := 0 }, { name := "INSERTIONSORT_THRESHOLD", type := .int, accessFlags := 26, slot := 1, constantValue := 0 }, { name := "$assertionsDisabled", type := .boolean, accessFlags := 4120, slot := 2, constantValue := 0 }]
  methods := #[k11m0, k11m1, k11m2]
  instanceTypes := #[]
  staticTypes := #[.int, .int, .boolean]
  resolved := Array.replicate 1029 none
  statics := none }

def pool12 : Array CpInfo := pool [(1, .class_ 2), (0, u "java/lang/Cloneable"), (0, .class_ 4), (0, u "java/lang/Object")] 2

/-- java/lang/Cloneable -/
def k12 : Class := { plain "java/lang/Cloneable" (some 0) with
  accessFlags := 1537
  interfaces := #[]
  cf := some (fileOf pool12 1 #[] #[] 1537 3 #[] #[])
  fields := #[]
  methods := #[]
  instanceTypes := #[]
  staticTypes := #[]
  resolved := Array.replicate 7 none
  statics := none }

def pool13 : Array CpInfo := pool [(2, .class_ 4), (1, u "java/lang/Object"), (0, u "<init>"), (0, u "()V"), (1, .class_ 10), (1, u "java/lang/System"), (0, u "allowSecurityManager"), (0, u "I"), (16, u "cons"), (0, u "Ljava/io/Console;"), (77, .class_ 110), (1, u "java/lang/System$CallersHolder"), (43, u "initialErrStream"), (0, u "Ljava/io/PrintStream;"), (19, u "security"), (0, u "Ljava/lang/SecurityManager;"), (31, .class_ 209), (0, u "java/lang/System$1"), (7, u "props"), (0, u "Ljava/util/Properties;"), (2, u "lineSeparator"), (0, u "Ljava/lang/String;"), (96, .class_ 321), (1, u "java/lang/System$LoggerFinder"), (5, .class_ 328), (0, u "java/lang/System$Logger"), (67, u "err"), (2, u "out"), (91, u "notSupportedJnuEncoding"), (15, u "in"), (17, u "initialIn"), (0, u "Ljava/io/InputStream;"), (35, u "bootLayer"), (0, u "Ljava/lang/ModuleLayer;"), (99, .class_ 664), (0, u "java/lang/System$2"), (9, u "NEVER"), (2, u "MAYBE"), (49, u "arraycopy"), (0, u "(Ljava/lang/Object;ILjava/lang/Object;II)V"), (72, .class_ 802), (0, u "java/lang/System$Logger$Level")] 31

def k13m0 : Method := { name := "<init>", desc := "()V", sig := { parameters := [], returnType := none }, accessFlags := 2, code := none }
def k13m1 : Method := { name := "arraycopy", desc := "(Ljava/lang/Object;ILjava/lang/Object;II)V", sig := { parameters := [(.object "java/lang/Object"), .int, (.object "java/lang/Object"), .int, .int], returnType := none }, accessFlags := 265, code := none }
/-- java/lang/System -/
def k13 : Class := { plain "java/lang/System" (some 0) with
  accessFlags := 49
  interfaces := #[]
  cf := some (fileOf pool13 8 #[.nestMembers #[319, 327, 801, 108, 663, 208]] #[{ accessFlags := 2, nameIndex := 5, descriptorIndex := 6, attributes := #[] }, { accessFlags := 265, nameIndex := 727, descriptorIndex := 728, attributes := #[] }] 49 2 #[] #[{ accessFlags := 25, nameIndex := 507, descriptorIndex := 526, attributes := #[] }, { accessFlags := 25, nameIndex := 399, descriptorIndex := 155, attributes := #[] }, { accessFlags := 25, nameIndex := 396, descriptorIndex := 155, attributes := #[] }, { accessFlags := 10, nameIndex := 525, descriptorIndex := 526, attributes := #[] }, { accessFlags := 26, nameIndex := 674, descriptorIndex := 12, attributes := #[] }, { accessFlags := 26, nameIndex := 677, descriptorIndex := 12, attributes := #[] }, { accessFlags := 10, nameIndex := 11, descriptorIndex := 12, attributes := #[] }, { accessFlags := 74, nameIndex := 175, descriptorIndex := 176, attributes := #[] }, { accessFlags := 10, nameIndex := 491, descriptorIndex := 222, attributes := #[] }, { accessFlags := 74, nameIndex := 29, descriptorIndex := 30, attributes := #[] }, { accessFlags := 74, nameIndex := 154, descriptorIndex := 155, attributes := #[] }, { accessFlags := 10, nameIndex := 217, descriptorIndex := 218, attributes := #[] }, { accessFlags := 10, nameIndex := 221, descriptorIndex := 222, attributes := #[] }, { accessFlags := 8, nameIndex := 562, descriptorIndex := 563, attributes := #[] }])
  fields := #[{ name := "in", type := (.object "java/io/InputStream"), accessFlags := 25, slot := 0, constantValue := 0 }, { name := "out", type := (.object "java/io/PrintStream"), accessFlags := 25, slot := 1, constantValue := 0 }, { name := "err", type := (.object "java/io/PrintStream"), accessFlags := 25, slot := 2, constantValue := 0 }, { name := "initialIn", type := (.object "java/io/InputStream"), accessFlags := 10, slot := 3, constantValue := 0 }, { name := "NEVER", type := .int, accessFlags := 26, slot := 4, constantValue := 0 }, { name := "MAYBE", type := .int, accessFlags := 26, slot := 5, constantValue := 0 }, { name := "allowSecurityManager", type := .int, accessFlags := 10, slot := 6, constantValue := 0 }, { name := "security", type := (.object "java/lang/SecurityManager"), accessFlags := 74, slot := 7, constantValue := 0 }, { name := "notSupportedJnuEncoding", type := (.object "java/lang/String"), accessFlags := 10, slot := 8, constantValue := 0 }, { name := "cons", type := (.object "java/io/Console"), accessFlags := 74, slot := 9, constantValue := 0 }, { name := "initialErrStream", type := (.object "java/io/PrintStream"), accessFlags := 74, slot := 10, constantValue := 0 }, { name := "props", type := (.object "java/util/Properties"), accessFlags := 10, slot := 11, constantValue := 0 }, { name := "lineSeparator", type := (.object "java/lang/String"), accessFlags := 10, slot := 12, constantValue := 0 }, { name := "bootLayer", type := (.object "java/lang/ModuleLayer"), accessFlags := 8, slot := 13, constantValue := 0 }]
  methods := #[k13m0, k13m1]
  instanceTypes := #[]
  staticTypes := #[(.object "java/io/InputStream"), (.object "java/io/PrintStream"), (.object "java/io/PrintStream"), (.object "java/io/InputStream"), .int, .int, .int, (.object "java/lang/SecurityManager"), (.object "java/lang/String"), (.object "java/io/Console"), (.object "java/io/PrintStream"), (.object "java/util/Properties"), (.object "java/lang/String"), (.object "java/lang/ModuleLayer")]
  resolved := Array.replicate 834 none
  statics := none }

/-- the primitive boolean -/
def k14 : Class := { plain "boolean" none with kind := .primitive 'Z', accessFlags := 0x411 }
/-- [Z -/
def k15 : Class := { plain "[Z" (some 0) with kind := .array 14 .boolean, interfaces := #[12, 4], accessFlags := 1041 }

/-- the primitive byte -/
def k16 : Class := { plain "byte" none with kind := .primitive 'B', accessFlags := 0x411 }
/-- [B -/
def k17 : Class := { plain "[B" (some 0) with kind := .array 16 .byte, interfaces := #[12, 4], accessFlags := 1041 }

/-- the primitive int -/
def k18 : Class := { plain "int" none with kind := .primitive 'I', accessFlags := 0x411 }
/-- [I -/
def k19 : Class := { plain "[I" (some 0) with kind := .array 18 .int, interfaces := #[12, 4], accessFlags := 1041 }

/-- the primitive long -/
def k20 : Class := { plain "long" none with kind := .primitive 'J', accessFlags := 0x411 }
/-- [J -/
def k21 : Class := { plain "[J" (some 0) with kind := .array 20 .long, interfaces := #[12, 4], accessFlags := 1041 }

/-- [[I -/
def k22 : Class := { plain "[[I" (some 0) with kind := .array 19 (.array .int), interfaces := #[12, 4], accessFlags := 1041 }
/-- [[J -/
def k23 : Class := { plain "[[J" (some 0) with kind := .array 21 (.array .long), interfaces := #[12, 4], accessFlags := 1041 }

def heap : Heap := #[]
def classes : Array Class := #[k0, k1, k2, k3, k4, k5, k6, k7, k8, k9, k10, k11, k12, k13, k14, k15, k16, k17, k18, k19, k20, k21, k22, k23]
def interned : List (Array UInt16 × Addr) := []
def slotsUsed : Nat := 0
def theMethod : MethodId := ⟨1, 1⟩
def args0 : Array Value := #[.int 5, .int 7, .int 9, .int 11, .int 13]
def aboutOver (below : List Frame) : State where
  vm := { classes := classes, interned := interned.toArray }
  heap := heap
  slotsUsed := slotsUsed
  threads := #[{ frames := .invoking theMethod args0 :: below }]
def below0 : List Frame := [.native { method := ⟨0, 0⟩, args := #[] }]
def about1 : State := aboutOver below0
def p0 : Program := .bare "" "" ""
def e0 : Env := launch0.env 0 0 0
theorem w_frames : about1.frames = Frame.invoking theMethod args0 :: below0 := rfl
set_option maxRecDepth 65536 in
theorem w_args : argsFit about1.vm theMethod args0 = true := by decide +kernel
set_option maxRecDepth 65536 in
theorem w_heap : heapFits about1 = true := by decide +kernel
set_option maxRecDepth 65536 in
theorem w_runnable : about1.curStatus? = some .runnable := by decide +kernel
set_option maxRecDepth 65536 in
theorem w_alone : about1.alone = true := by decide +kernel
set_option maxRecDepth 65536 in
theorem w_named : about1.methodNamed? x = some theMethod := by decide +kernel
set_option maxRecDepth 65536 in
theorem w_hears : about1.hears theMethod below0 = true := by decide +kernel
set_option maxRecDepth 65536 in
theorem w_ripe : about1.ripe theMethod args0 below0 = true := by decide +kernel
theorem w_running : about1.status = .running := rfl
set_option maxRecDepth 65536 in
theorem w_room : about1.hasRoom e0.platform room_1 = true :=
  launch0.hasRoom_least _ room_1 (by decide +kernel) (by decide +kernel) (by decide +kernel) (by decide +kernel) (by decide +kernel) (by decide +kernel)
theorem allAtoms_all (ts : List Jvm.Cond) (a : Array Jvm.Value) (st : Jvm.State) : (allAtoms ts).before a st = ts.all (fun c => c.before a st) := by
  induction ts with
  | nil => rfl
  | cons c t ih =>
    show (Jvm.Cond.and c (allAtoms t)).before a st = _
    rw [Jvm.Cond.before_and, ih, List.all_cons]
def words1 : List Jvm.Cond := Jvm.Cond.code x code maxLocals ret :: tables_1
/-- a 'code' word, met by the world's own term for the bytes: nothing is compared byte by byte -/
theorem code_word {y : MethodName} {bytes : ByteArray} {mx : Nat} {rt : Option FieldType} {a : Array Value} {s : State} {m : MethodId} {meth : Method} {c : Code} (h1 : s.methodNamed? y = some m) (h2 : s.vm.method? m = some meth) (h3 : meth.code = some c) (h4 : c.code = bytes)
    (h5 : (c.maxLocals == mx && c.exceptionTable.isEmpty && decide (c.maxStack ≤ mostOperands) && decide (meth.sig.returnType = rt) && !meth.locks && decide (parseMethodDescriptor y.desc = some meth.sig)) = true) : (Jvm.Cond.code y bytes mx rt).before a s = true := by
  simp only [Bool.and_eq_true, beq_iff_eq, Bool.not_eq_true', decide_eq_true_eq] at h5
  obtain ⟨⟨⟨⟨⟨g1, g2⟩, g3⟩, g4⟩, g5⟩, g6⟩ := h5
  simp [Cond.before, Cond.holds, Cond.value, h1, h2, h3, h4, g1, g2, g3, g4, g5, g6]
def isCode : Jvm.Cond → Bool
  | .code _ _ _ _ => true
  | _ => false
theorem all_split {L : List Jvm.Cond} {P : Jvm.Cond → Bool} (h1 : L.all (fun c => isCode c || P c) = true) (h2 : ∀ c ∈ L.filter isCode, P c = true) : L.all P = true := by
  refine List.all_eq_true.mpr fun c hc => ?_
  have h := List.all_eq_true.mp h1 c hc
  rcases Bool.eq_false_or_eq_true (isCode c) with hi | hi
  · exact h2 c (List.mem_filter.mpr ⟨hc, hi⟩)
  · simpa [hi] using h
set_option maxRecDepth 65536 in
theorem w_c0 : (Jvm.Cond.code x code maxLocals ret).before args0 about1 = true := code_word (m := ⟨1, 1⟩) (meth := k1m1) (c := k1c1) (by decide +kernel) rfl rfl rfl (by decide +kernel)
set_option maxRecDepth 65536 in
theorem w_c1 : (Jvm.Cond.code ({ cls := "com/example/coersa/coersa/PlaceSet", name := "<init>", desc := "()V" } : Jvm.MethodName) prog_209_method_1_code (1 : Nat) (Option.none : Option Jvm.ClassFile.FieldType)).before args0 about1 = true := code_word (m := ⟨2, 0⟩) (meth := k2m0) (c := k2c0) (by decide +kernel) rfl rfl rfl (by decide +kernel)
set_option maxRecDepth 65536 in
theorem w_c2 : (Jvm.Cond.code ({ cls := "java/lang/Object", name := "<init>", desc := "()V" } : Jvm.MethodName) object_method_1_code (1 : Nat) (Option.none : Option Jvm.ClassFile.FieldType)).before args0 about1 = true := code_word (m := ⟨0, 0⟩) (meth := k0m0) (c := k0c0) (by decide +kernel) rfl rfl rfl (by decide +kernel)
set_option maxRecDepth 65536 in
theorem w_c3 : (Jvm.Cond.code ({ cls := "com/example/coersa/coersa/PlaceSet", name := "add", desc := "(I)V" } : Jvm.MethodName) prog_209_method_3_code (10 : Nat) (Option.none : Option Jvm.ClassFile.FieldType)).before args0 about1 = true := code_word (m := ⟨2, 2⟩) (meth := k2m2) (c := k2c2) (by decide +kernel) rfl rfl rfl (by decide +kernel)
set_option maxRecDepth 65536 in
theorem w_c4 : (Jvm.Cond.code ({ cls := "com/example/coersa/coersa/PlaceSet", name := "makeRoom", desc := "(I)V" } : Jvm.MethodName) prog_209_method_2_code (7 : Nat) (Option.none : Option Jvm.ClassFile.FieldType)).before args0 about1 = true := code_word (m := ⟨2, 1⟩) (meth := k2m1) (c := k2c1) (by decide +kernel) rfl rfl rfl (by decide +kernel)
set_option maxRecDepth 65536 in
theorem w_c5 : (Jvm.Cond.code ({ cls := "com/example/coersa/coersa/PlaceSet", name := "wordsFor", desc := "(I)I" } : Jvm.MethodName) prog_209_method_10_code (1 : Nat) (Option.some Jvm.ClassFile.FieldType.int)).before args0 about1 = true := code_word (m := ⟨2, 7⟩) (meth := k2m7) (c := k2c7) (by decide +kernel) rfl rfl rfl (by decide +kernel)
set_option maxRecDepth 65536 in
theorem w_c6 : (Jvm.Cond.code ({ cls := "com/example/coersa/coersa/PlaceSet", name := "wordsHolding", desc := "(I)I" } : Jvm.MethodName) prog_209_method_11_code (1 : Nat) (Option.some Jvm.ClassFile.FieldType.int)).before args0 about1 = true := code_word (m := ⟨2, 8⟩) (meth := k2m8) (c := k2c8) (by decide +kernel) rfl rfl rfl (by decide +kernel)
set_option maxRecDepth 65536 in
theorem w_c7 : (Jvm.Cond.code ({ cls := "java/lang/Math", name := "max", desc := "(II)I" } : Jvm.MethodName) jdk_29_method_65_code (2 : Nat) (Option.some Jvm.ClassFile.FieldType.int)).before args0 about1 = true := code_word (m := ⟨3, 1⟩) (meth := k3m1) (c := k3c1) (by decide +kernel) rfl rfl rfl (by decide +kernel)
set_option maxRecDepth 65536 in
theorem w_c8 : (Jvm.Cond.code ({ cls := "com/example/coersa/coersa/PlaceSet", name := "remove", desc := "(I)V" } : Jvm.MethodName) prog_209_method_4_code (10 : Nat) (Option.none : Option Jvm.ClassFile.FieldType)).before args0 about1 = true := code_word (m := ⟨2, 3⟩) (meth := k2m3) (c := k2c3) (by decide +kernel) rfl rfl rfl (by decide +kernel)
set_option maxRecDepth 65536 in
theorem w_c9 : (Jvm.Cond.code ({ cls := "com/example/coersa/coersa/PlaceSetRemovePinLaw", name := "ref", desc := "([I[ZI)I" } : Jvm.MethodName) method_3_code (4 : Nat) (Option.some Jvm.ClassFile.FieldType.int)).before args0 about1 = true := code_word (m := ⟨1, 2⟩) (meth := k1m2) (c := k1c2) (by decide +kernel) rfl rfl rfl (by decide +kernel)
set_option maxRecDepth 65536 in
theorem w_c10 : (Jvm.Cond.code ({ cls := "com/example/coersa/coersa/PlaceSetRemovePinLaw", name := "take", desc := "(IZII)I" } : Jvm.MethodName) method_4_code (4 : Nat) (Option.some Jvm.ClassFile.FieldType.int)).before args0 about1 = true := code_word (m := ⟨1, 3⟩) (meth := k1m3) (c := k1c3) (by decide +kernel) rfl rfl rfl (by decide +kernel)
set_option maxRecDepth 65536 in
theorem w_c11 : (Jvm.Cond.code ({ cls := "com/example/coersa/coersa/PlaceSet", name := "next", desc := "(I)I" } : Jvm.MethodName) prog_209_method_7_code (6 : Nat) (Option.some Jvm.ClassFile.FieldType.int)).before args0 about1 = true := code_word (m := ⟨2, 4⟩) (meth := k2m4) (c := k2c4) (by decide +kernel) rfl rfl rfl (by decide +kernel)
set_option maxRecDepth 65536 in
theorem w_c12 : (Jvm.Cond.code ({ cls := "java/lang/Long", name := "numberOfTrailingZeros", desc := "(J)I" } : Jvm.MethodName) jdk_35_method_49_code (3 : Nat) (Option.some Jvm.ClassFile.FieldType.int)).before args0 about1 = true := code_word (m := ⟨9, 0⟩) (meth := k9m0) (c := k9c0) (by decide +kernel) rfl rfl rfl (by decide +kernel)
set_option maxRecDepth 65536 in
theorem w_c13 : (Jvm.Cond.code ({ cls := "java/lang/Integer", name := "numberOfTrailingZeros", desc := "(I)I" } : Jvm.MethodName) jdk_33_method_48_code (2 : Nat) (Option.some Jvm.ClassFile.FieldType.int)).before args0 about1 = true := code_word (m := ⟨10, 0⟩) (meth := k10m0) (c := k10c0) (by decide +kernel) rfl rfl rfl (by decide +kernel)
set_option maxRecDepth 65536 in
theorem w_c14 : (Jvm.Cond.code ({ cls := "com/example/coersa/coersa/PlaceSet", name := "next", desc := "(II)I" } : Jvm.MethodName) prog_209_method_8_code (10 : Nat) (Option.some Jvm.ClassFile.FieldType.int)).before args0 about1 = true := code_word (m := ⟨2, 5⟩) (meth := k2m5) (c := k2c5) (by decide +kernel) rfl rfl rfl (by decide +kernel)
set_option maxRecDepth 65536 in
theorem w_c15 : (Jvm.Cond.code ({ cls := "java/lang/Long", name := "bitCount", desc := "(J)I" } : Jvm.MethodName) jdk_35_method_50_code (2 : Nat) (Option.some Jvm.ClassFile.FieldType.int)).before args0 about1 = true := code_word (m := ⟨9, 1⟩) (meth := k9m1) (c := k9c1) (by decide +kernel) rfl rfl rfl (by decide +kernel)
set_option maxRecDepth 65536 in
theorem w_c16 : (Jvm.Cond.code ({ cls := "com/example/coersa/coersa/PlaceSet", name := "nextAbove", desc := "(I)I" } : Jvm.MethodName) prog_209_method_9_code (6 : Nat) (Option.some Jvm.ClassFile.FieldType.int)).before args0 about1 = true := code_word (m := ⟨2, 6⟩) (meth := k2m6) (c := k2c6) (by decide +kernel) rfl rfl rfl (by decide +kernel)
set_option maxRecDepth 65536 in
theorem w_c17 : (Jvm.Cond.code ({ cls := "java/lang/Math", name := "max", desc := "(JJ)J" } : Jvm.MethodName) jdk_29_method_66_code (4 : Nat) (Option.some Jvm.ClassFile.FieldType.long)).before args0 about1 = true := code_word (m := ⟨3, 2⟩) (meth := k3m2) (c := k3c2) (by decide +kernel) rfl rfl rfl (by decide +kernel)
set_option maxRecDepth 65536 in
theorem w_c18 : (Jvm.Cond.code ({ cls := "java/lang/Math", name := "min", desc := "(JJ)J" } : Jvm.MethodName) jdk_29_method_70_code (4 : Nat) (Option.some Jvm.ClassFile.FieldType.long)).before args0 about1 = true := code_word (m := ⟨3, 4⟩) (meth := k3m4) (c := k3c4) (by decide +kernel) rfl rfl rfl (by decide +kernel)
set_option maxRecDepth 65536 in
theorem w_c19 : (Jvm.Cond.code ({ cls := "java/util/Arrays", name := "copyOf", desc := "([II)[I" } : Jvm.MethodName) jdk_65_method_123_code (3 : Nat) (Option.some (Jvm.ClassFile.FieldType.array Jvm.ClassFile.FieldType.int))).before args0 about1 = true := code_word (m := ⟨11, 1⟩) (meth := k11m1) (c := k11c1) (by decide +kernel) rfl rfl rfl (by decide +kernel)
set_option maxRecDepth 65536 in
theorem w_c20 : (Jvm.Cond.code ({ cls := "java/util/Arrays", name := "copyOf", desc := "([JI)[J" } : Jvm.MethodName) jdk_65_method_124_code (3 : Nat) (Option.some (Jvm.ClassFile.FieldType.array Jvm.ClassFile.FieldType.long))).before args0 about1 = true := code_word (m := ⟨11, 2⟩) (meth := k11m2) (c := k11c2) (by decide +kernel) rfl rfl rfl (by decide +kernel)
set_option maxRecDepth 65536 in
theorem w_c21 : (Jvm.Cond.code ({ cls := "java/lang/Math", name := "min", desc := "(II)I" } : Jvm.MethodName) jdk_29_method_69_code (2 : Nat) (Option.some Jvm.ClassFile.FieldType.int)).before args0 about1 = true := code_word (m := ⟨3, 3⟩) (meth := k3m3) (c := k3c3) (by decide +kernel) rfl rfl rfl (by decide +kernel)
def codes1 : List Jvm.Cond := [Jvm.Cond.code x code maxLocals ret, Jvm.Cond.code ({ cls := "com/example/coersa/coersa/PlaceSet", name := "<init>", desc := "()V" } : Jvm.MethodName) prog_209_method_1_code (1 : Nat) (Option.none : Option Jvm.ClassFile.FieldType), Jvm.Cond.code ({ cls := "java/lang/Object", name := "<init>", desc := "()V" } : Jvm.MethodName) object_method_1_code (1 : Nat) (Option.none : Option Jvm.ClassFile.FieldType), Jvm.Cond.code ({ cls := "com/example/coersa/coersa/PlaceSet", name := "add", desc := "(I)V" } : Jvm.MethodName) prog_209_method_3_code (10 : Nat) (Option.none : Option Jvm.ClassFile.FieldType), Jvm.Cond.code ({ cls := "com/example/coersa/coersa/PlaceSet", name := "makeRoom", desc := "(I)V" } : Jvm.MethodName) prog_209_method_2_code (7 : Nat) (Option.none : Option Jvm.ClassFile.FieldType), Jvm.Cond.code ({ cls := "com/example/coersa/coersa/PlaceSet", name := "wordsFor", desc := "(I)I" } : Jvm.MethodName) prog_209_method_10_code (1 : Nat) (Option.some Jvm.ClassFile.FieldType.int), Jvm.Cond.code ({ cls := "com/example/coersa/coersa/PlaceSet", name := "wordsHolding", desc := "(I)I" } : Jvm.MethodName) prog_209_method_11_code (1 : Nat) (Option.some Jvm.ClassFile.FieldType.int), Jvm.Cond.code ({ cls := "java/lang/Math", name := "max", desc := "(II)I" } : Jvm.MethodName) jdk_29_method_65_code (2 : Nat) (Option.some Jvm.ClassFile.FieldType.int), Jvm.Cond.code ({ cls := "com/example/coersa/coersa/PlaceSet", name := "remove", desc := "(I)V" } : Jvm.MethodName) prog_209_method_4_code (10 : Nat) (Option.none : Option Jvm.ClassFile.FieldType), Jvm.Cond.code ({ cls := "com/example/coersa/coersa/PlaceSetRemovePinLaw", name := "ref", desc := "([I[ZI)I" } : Jvm.MethodName) method_3_code (4 : Nat) (Option.some Jvm.ClassFile.FieldType.int), Jvm.Cond.code ({ cls := "com/example/coersa/coersa/PlaceSetRemovePinLaw", name := "take", desc := "(IZII)I" } : Jvm.MethodName) method_4_code (4 : Nat) (Option.some Jvm.ClassFile.FieldType.int), Jvm.Cond.code ({ cls := "com/example/coersa/coersa/PlaceSet", name := "next", desc := "(I)I" } : Jvm.MethodName) prog_209_method_7_code (6 : Nat) (Option.some Jvm.ClassFile.FieldType.int), Jvm.Cond.code ({ cls := "java/lang/Long", name := "numberOfTrailingZeros", desc := "(J)I" } : Jvm.MethodName) jdk_35_method_49_code (3 : Nat) (Option.some Jvm.ClassFile.FieldType.int), Jvm.Cond.code ({ cls := "java/lang/Integer", name := "numberOfTrailingZeros", desc := "(I)I" } : Jvm.MethodName) jdk_33_method_48_code (2 : Nat) (Option.some Jvm.ClassFile.FieldType.int), Jvm.Cond.code ({ cls := "com/example/coersa/coersa/PlaceSet", name := "next", desc := "(II)I" } : Jvm.MethodName) prog_209_method_8_code (10 : Nat) (Option.some Jvm.ClassFile.FieldType.int), Jvm.Cond.code ({ cls := "java/lang/Long", name := "bitCount", desc := "(J)I" } : Jvm.MethodName) jdk_35_method_50_code (2 : Nat) (Option.some Jvm.ClassFile.FieldType.int), Jvm.Cond.code ({ cls := "com/example/coersa/coersa/PlaceSet", name := "nextAbove", desc := "(I)I" } : Jvm.MethodName) prog_209_method_9_code (6 : Nat) (Option.some Jvm.ClassFile.FieldType.int), Jvm.Cond.code ({ cls := "java/lang/Math", name := "max", desc := "(JJ)J" } : Jvm.MethodName) jdk_29_method_66_code (4 : Nat) (Option.some Jvm.ClassFile.FieldType.long), Jvm.Cond.code ({ cls := "java/lang/Math", name := "min", desc := "(JJ)J" } : Jvm.MethodName) jdk_29_method_70_code (4 : Nat) (Option.some Jvm.ClassFile.FieldType.long), Jvm.Cond.code ({ cls := "java/util/Arrays", name := "copyOf", desc := "([II)[I" } : Jvm.MethodName) jdk_65_method_123_code (3 : Nat) (Option.some (Jvm.ClassFile.FieldType.array Jvm.ClassFile.FieldType.int)), Jvm.Cond.code ({ cls := "java/util/Arrays", name := "copyOf", desc := "([JI)[J" } : Jvm.MethodName) jdk_65_method_124_code (3 : Nat) (Option.some (Jvm.ClassFile.FieldType.array Jvm.ClassFile.FieldType.long)), Jvm.Cond.code ({ cls := "java/lang/Math", name := "min", desc := "(II)I" } : Jvm.MethodName) jdk_29_method_69_code (2 : Nat) (Option.some Jvm.ClassFile.FieldType.int)]
set_option maxRecDepth 65536 in
theorem codes_eq : words1.filter isCode = codes1 := rfl
theorem w_codes : ∀ c ∈ words1.filter isCode, c.before args0 about1 = true := by
  rw [codes_eq]
  intro c hc
  simp only [codes1, List.mem_cons, List.not_mem_nil, or_false] at hc
  rcases hc with rfl | rfl | rfl | rfl | rfl | rfl | rfl | rfl | rfl | rfl | rfl | rfl | rfl | rfl | rfl | rfl | rfl | rfl | rfl | rfl | rfl | rfl
  · exact w_c0
  · exact w_c1
  · exact w_c2
  · exact w_c3
  · exact w_c4
  · exact w_c5
  · exact w_c6
  · exact w_c7
  · exact w_c8
  · exact w_c9
  · exact w_c10
  · exact w_c11
  · exact w_c12
  · exact w_c13
  · exact w_c14
  · exact w_c15
  · exact w_c16
  · exact w_c17
  · exact w_c18
  · exact w_c19
  · exact w_c20
  · exact w_c21
set_option maxRecDepth 65536 in
theorem w_t1 : (words1.take 24).all (fun c => isCode c || c.before args0 about1) = true := by decide +kernel
set_option maxRecDepth 65536 in
theorem w_t2 : ((words1.drop 24).take 24).all (fun c => isCode c || c.before args0 about1) = true := by decide +kernel
set_option maxRecDepth 65536 in
theorem w_t3 : (((words1.drop 24).drop 24).take 24).all (fun c => isCode c || c.before args0 about1) = true := by decide +kernel
set_option maxRecDepth 65536 in
theorem w_t4 : ((((words1.drop 24).drop 24).drop 24).take 24).all (fun c => isCode c || c.before args0 about1) = true := by decide +kernel
set_option maxRecDepth 65536 in
theorem w_t5 : (((((words1.drop 24).drop 24).drop 24).drop 24).take 24).all (fun c => isCode c || c.before args0 about1) = true := by decide +kernel
set_option maxRecDepth 65536 in
theorem w_t6 : (((((words1.drop 24).drop 24).drop 24).drop 24).drop 24).all (fun c => isCode c || c.before args0 about1) = true := by decide +kernel
theorem w_tables : (allAtoms (Jvm.Cond.code x code maxLocals ret :: tables_1)).before args0 about1 = true := by
  rw [allAtoms_all]
  show words1.all (fun c => c.before args0 about1) = true
  refine all_split ?_ w_codes
  rw [← List.take_append_drop 24 words1, List.all_append, w_t1, ← List.take_append_drop 24 (words1.drop 24), List.all_append, w_t2, ← List.take_append_drop 24 ((words1.drop 24).drop 24), List.all_append, w_t3, ← List.take_append_drop 24 (((words1.drop 24).drop 24).drop 24), List.all_append, w_t4, ← List.take_append_drop 24 ((((words1.drop 24).drop 24).drop 24).drop 24), List.all_append, w_t5, w_t6]
  rfl
set_option maxRecDepth 65536 in
theorem w_case : (Jvm.Cond.and given_1 narrow_1).before args0 about1 = true := by decide +kernel
theorem w_applies : (headSpec (Jvm.Cond.code x code maxLocals ret :: tables_1) room_1).applies x e0.platform about1 = true :=
  (Spec.applies_iff w_frames).mpr ⟨w_running, w_runnable, w_alone, w_named, w_hears, w_ripe, w_room, w_tables⟩
theorem atStart : AtStart classFile x code maxLocals ret World_1 tables_1 room_1 Calls_1 rest_1 Pre_1 launch0 p0 e0 about1 theMethod args0 below0 :=
  ⟨lists_1, trivial, launch0.admits_env _ _ _, launch0.least_env, fairChoices_fair.cas, fairChoices_fair.clock, w_frames, w_args, w_heap, w_applies, trivial, trivial, w_case⟩
end start1
theorem witness_1 : WitnessClaimed_1 := ⟨start1.p0, start1.e0, start1.about1, start1.theMethod, start1.args0, start1.below0, start1.atStart⟩
end Jvm.Pilot.@@N@@
