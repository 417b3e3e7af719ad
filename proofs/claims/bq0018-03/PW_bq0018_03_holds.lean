import PyProof.Rows.All
import PyProof.Rows.BitMore
import PyProof.Rows.SetFrom
import KE.BitLaws
import Wide.All
import OpenK.AllK
import Wide.FinOn
import PySem.Challenge.RW_bq0018_03
set_option Elab.async false
set_option linter.unusedVariables false

/-! ### part CrcMath -/
section
namespace Mine

def tbl : List Nat := [1304293916, 1342890616, 1993593556, 1801765552, 996258700, 651600872, 1020740, 498631456, 2684711228, 3182584152, 2607501812, 2262581648, 3604557996, 3412992200, 3988197476, 4026531840]
def tblL : List Nat := tbl.map (fun x => x ^^^ 1304293916)
def step4 (v : Nat) : Nat := (v >>> 4) ^^^ tbl.getD (v &&& 15) 0
def octet (v o : Nat) : Nat := step4 (step4 (v ^^^ o))
def crcN (v : Nat) (os : List Nat) : Nat := os.foldl octet v
def lin4 (v : Nat) : Nat := (v >>> 4) ^^^ tblL.getD (v &&& 15) 0
def octL (v o : Nat) : Nat := lin4 (lin4 (v ^^^ o))
def linN (v : Nat) (os : List Nat) : Nat := os.foldl octL v

theorem tbl_aff : ∀ i, i < 16 → ∀ j, j < 16 → tbl.getD (i ^^^ j) 0 = tbl.getD i 0 ^^^ tblL.getD j 0 := by decide +kernel
theorem tbl_lt : ∀ i, i < 16 → tbl.getD i 0 < 2 ^ 32 := by decide +kernel
theorem tblL_lt : ∀ i, i < 16 → tblL.getD i 0 < 2 ^ 32 := by decide +kernel

theorem and15_lt (v : Nat) : v &&& 15 < 16 := Nat.lt_of_le_of_lt Nat.and_le_right (by decide)

theorem step4_xor (v d : Nat) : step4 (v ^^^ d) = step4 v ^^^ lin4 d := by
  unfold step4 lin4
  rw [Nat.shiftRight_xor_distrib, Nat.and_xor_distrib_right, tbl_aff _ (and15_lt v) _ (and15_lt d)]
  ac_rfl
theorem lin4_xor (v d : Nat) : lin4 (v ^^^ d) = lin4 v ^^^ lin4 d := by
  have h := step4_xor (0 ^^^ v) d
  rw [Nat.xor_assoc, step4_xor, step4_xor, Nat.xor_assoc] at h
  have h' := congrArg (fun x => step4 0 ^^^ x) h
  simpa [← Nat.xor_assoc] using h'

theorem octet_xor (v d a b : Nat) : octet (v ^^^ d) (a ^^^ b) = octet v a ^^^ octL d b := by
  unfold octet octL
  rw [show (v ^^^ d) ^^^ (a ^^^ b) = (v ^^^ a) ^^^ (d ^^^ b) by ac_rfl, step4_xor, step4_xor]

theorem crc_xor : ∀ (as bs : List Nat) (v d : Nat), as.length = bs.length → crcN (v ^^^ d) (List.zipWith (· ^^^ ·) as bs) = crcN v as ^^^ linN d bs
  | [], [], v, d, _ => rfl
  | a :: as, b :: bs, v, d, h => by
    show crcN (octet (v ^^^ d) (a ^^^ b)) (List.zipWith (· ^^^ ·) as bs) = crcN (octet v a) as ^^^ linN (octL d b) bs
    rw [octet_xor]
    exact crc_xor as bs _ _ (Nat.succ.inj h)

theorem shr4_lt {v : Nat} (h : v < 2 ^ 32) : v >>> 4 < 2 ^ 32 := by
  rw [Nat.shiftRight_eq_div_pow]; exact Nat.lt_of_le_of_lt (Nat.div_le_self _ _) h
theorem step4_lt {v : Nat} (h : v < 2 ^ 32) : step4 v < 2 ^ 32 := Nat.xor_lt_two_pow (shr4_lt h) (tbl_lt _ (and15_lt v))
theorem lin4_lt {v : Nat} (h : v < 2 ^ 32) : lin4 v < 2 ^ 32 := Nat.xor_lt_two_pow (shr4_lt h) (tblL_lt _ (and15_lt v))
theorem octet_lt {v o : Nat} (h : v < 2 ^ 32) (ho : o < 256) : octet v o < 2 ^ 32 :=
  step4_lt (step4_lt (Nat.xor_lt_two_pow h (Nat.lt_trans ho (by decide))))
theorem crcN_lt : ∀ (os : List Nat) (v : Nat), v < 2 ^ 32 → (∀ o ∈ os, o < 256) → crcN v os < 2 ^ 32
  | [], _, h, _ => h
  | o :: os, _, h, ho => crcN_lt os _ (octet_lt h (ho o (.head _))) fun x hx => ho x (.tail _ hx)

/-- one bit, lowest first -/
def s1 (v : Nat) : Nat := (v >>> 1) ^^^ (if v.testBit 0 then 3988292384 else 0)
theorem s1_xor (a b : Nat) : s1 (a ^^^ b) = s1 a ^^^ s1 b := by
  unfold s1
  rw [Nat.shiftRight_xor_distrib, Nat.testBit_xor]
  have z : ∀ x y : Nat, x = 3988292384 ^^^ (3988292384 ^^^ x) := fun x _ => by rw [← Nat.xor_assoc, Nat.xor_self, Nat.zero_xor]
  cases a.testBit 0 <;> cases b.testBit 0 <;> simp
  · ac_rfl
  · ac_rfl
  · rw [show a >>> 1 ^^^ 3988292384 ^^^ (b >>> 1 ^^^ 3988292384) = 3988292384 ^^^ (3988292384 ^^^ (a >>> 1 ^^^ b >>> 1)) by ac_rfl]
    exact z _ 0
theorem s1_double (w : Nat) : s1 (w <<< 1) = w := by
  unfold s1
  have h : (w <<< 1).testBit 0 = false := by simp
  rw [h]; simp [Nat.shiftLeft_shiftRight]
theorem s1_low : ∀ i, i < 16 → s1 (s1 (s1 (s1 i))) = tblL.getD i 0 := by decide +kernel
theorem s1_high (w : Nat) : s1 (s1 (s1 (s1 (w <<< 4)))) = w := by
  have e : w <<< 4 = (((w <<< 1) <<< 1) <<< 1) <<< 1 := by simp [← Nat.shiftLeft_add]
  rw [e, s1_double, s1_double, s1_double, s1_double]
theorem split4 (v : Nat) : v = ((v >>> 4) <<< 4) ^^^ (v &&& 15) := by
  apply Nat.eq_of_testBit_eq
  intro i
  simp only [Nat.testBit_xor, Nat.testBit_shiftLeft, Nat.testBit_shiftRight, Nat.testBit_and]
  by_cases h : 4 ≤ i
  · have h15 : (15 : Nat).testBit i = false := Nat.testBit_lt_two_pow (Nat.lt_of_lt_of_le (by decide : 15 < 2 ^ 4) (Nat.pow_le_pow_right (by decide) h))
    rw [h15]
    simp [h, Nat.add_sub_cancel' h]
  · have hi : i = 0 ∨ i = 1 ∨ i = 2 ∨ i = 3 := by omega
    rcases hi with rfl | rfl | rfl | rfl <;> simp <;> (intro _; decide)
theorem lin4_s1 (v : Nat) : lin4 v = s1 (s1 (s1 (s1 v))) := by
  conv => rhs; rw [split4 v]
  rw [s1_xor, s1_xor, s1_xor, s1_xor, s1_high, s1_low _ (and15_lt v)]
  rfl

/-- one bit of the law's own remainder, highest power first -/
def rem1 (r b : Nat) : Nat := let x := (r * 2) ^^^ (b * 4294967296); if 4294967295 < x then x ^^^ 4374732215 else x
def revB : Nat → Nat → Nat
  | 0, _ => 0
  | m + 1, n => revB m (n / 2) + n % 2 * 2 ^ m
theorem revB_lt : ∀ m n, revB m n < 2 ^ m
  | 0, _ => Nat.one_pos
  | m + 1, n => by
    have h := revB_lt m (n / 2)
    have h2 : n % 2 ≤ 1 := by omega
    have h3 : n % 2 * 2 ^ m ≤ 1 * 2 ^ m := Nat.mul_le_mul_right _ h2
    rw [Nat.pow_succ]
    show revB m (n / 2) + n % 2 * 2 ^ m < 2 ^ m * 2
    omega
theorem revB_bit : ∀ m n i, (revB m n).testBit i = (decide (i < m) && n.testBit (m - 1 - i))
  | 0, n, i => by simp [revB]
  | m + 1, n, i => by
    show (revB m (n / 2) + n % 2 * 2 ^ m).testBit i = _
    have e : revB m (n / 2) + n % 2 * 2 ^ m = 2 ^ m * (n % 2) + revB m (n / 2) := by rw [Nat.add_comm, Nat.mul_comm]
    rw [e, Nat.testBit_two_pow_mul_add _ (revB_lt m (n / 2)), revB_bit m (n / 2) i]
    by_cases h : i < m
    · have h' : i < m + 1 := by omega
      have e2 : m + 1 - 1 - i = (m - 1 - i) + 1 := by omega
      simp only [h, h', if_true, decide_true, Bool.true_and]
      rw [e2, Nat.testBit_succ]
    · by_cases h2 : i = m
      · subst h2
        simp [Nat.testBit_zero]
      · have h' : ¬ i < m + 1 := by omega
        simp only [h, h', if_false, decide_false, Bool.false_and]
        have e3 : i - m = (i - m - 1) + 1 := by omega
        have e4 : n % 2 / 2 = 0 := by omega
        rw [e3, Nat.testBit_succ, e4, Nat.zero_testBit]
theorem revB_sum : ∀ m n, ((List.range m).map fun k => n / 2 ^ k % 2 * 2 ^ (m - 1 - k)).sum = revB m n
  | 0, _ => rfl
  | m + 1, n => by
    rw [List.range_succ_eq_map, List.map_cons, List.sum_cons, List.map_map]
    show n / 2 ^ 0 % 2 * 2 ^ (m + 1 - 1 - 0) + _ = revB m (n / 2) + n % 2 * 2 ^ m
    rw [← revB_sum m (n / 2), Nat.add_comm]
    have e : ∀ k ∈ List.range m, ((fun k => n / 2 ^ k % 2 * 2 ^ (m + 1 - 1 - k)) ∘ Nat.succ) k = n / 2 / 2 ^ k % 2 * 2 ^ (m - 1 - k) := by
      intro k hk
      have hk' := List.mem_range.mp hk
      show n / 2 ^ (k + 1) % 2 * 2 ^ (m + 1 - 1 - (k + 1)) = _
      rw [Nat.pow_succ, Nat.mul_comm (2 ^ k) 2, ← Nat.div_div_eq_div_mul]
      congr 2
      omega
    rw [List.map_congr_left e]
    simp
def rev32 (n : Nat) : Nat := revB 32 n

theorem poly_rev : ∀ i, i < 32 → Nat.testBit 3988292384 i = Nat.testBit 4374732215 (31 - i) := by decide +kernel

theorem rem1_cond {r b : Nat} (hr : r < 2 ^ 32) (hb : b < 2) : (4294967295 < (r * 2) ^^^ (b * 4294967296)) ↔ (r.testBit 31 ^^ b.testBit 0) = true := by
  have h1 : r * 2 < 2 ^ 33 := by omega
  have h2 : b * 4294967296 < 2 ^ 33 := by omega
  have h3 := Nat.xor_lt_two_pow h1 h2
  have h4 : ((r * 2) ^^^ (b * 4294967296)).testBit 32 = (r.testBit 31 ^^ b.testBit 0) := by
    rw [Nat.testBit_xor, show r * 2 = r <<< 1 by rw [Nat.shiftLeft_eq], show b * 4294967296 = b <<< 32 by rw [Nat.shiftLeft_eq], Nat.testBit_shiftLeft, Nat.testBit_shiftLeft]
    simp
  rw [← h4]
  generalize (r * 2) ^^^ (b * 4294967296) = x at h3
  rw [Nat.testBit_eq_decide_div_mod_eq]
  simp only [decide_eq_true_eq]
  omega
theorem rem1_bit {r b i : Nat} (hr : r < 2 ^ 32) (hb : b < 2) (hi : i < 32) :
    (rem1 r b).testBit i = ((decide (1 ≤ i) && r.testBit (i - 1)) ^^ ((r.testBit 31 ^^ b.testBit 0) && Nat.testBit 4374732215 i)) := by
  have h0 : ((r * 2) ^^^ (b * 4294967296)).testBit i = (decide (1 ≤ i) && r.testBit (i - 1)) := by
    rw [Nat.testBit_xor, show r * 2 = r <<< 1 by rw [Nat.shiftLeft_eq], show b * 4294967296 = b <<< 32 by rw [Nat.shiftLeft_eq], Nat.testBit_shiftLeft, Nat.testBit_shiftLeft]
    have : ¬ 32 ≤ i := by omega
    simp [this]
  unfold rem1
  by_cases c : 4294967295 < (r * 2) ^^^ (b * 4294967296)
  · have c' := (rem1_cond hr hb).mp c
    simp only [if_pos c, Nat.testBit_xor, c', h0, Bool.true_and]
  · have c' : (r.testBit 31 ^^ b.testBit 0) = false := by
      rw [← Bool.not_eq_true]
      exact fun e => c ((rem1_cond hr hb).mpr e)
    simp only [if_neg c, c', h0, Bool.false_and, Bool.xor_false]
theorem rem1_lt {r b : Nat} (hr : r < 2 ^ 32) (hb : b < 2) : rem1 r b < 2 ^ 32 := by
  have h1 : r * 2 < 2 ^ 33 := by omega
  have h2 : b * 4294967296 < 2 ^ 33 := by omega
  have h3 := Nat.xor_lt_two_pow h1 h2
  unfold rem1
  by_cases c : 4294967295 < (r * 2) ^^^ (b * 4294967296)
  · simp only [if_pos c]
    have h5 := Nat.xor_lt_two_pow h3 (show 4374732215 < 2 ^ 33 by decide)
    have h6 : (((r * 2) ^^^ (b * 4294967296)) ^^^ 4374732215).testBit 32 = false := by
      have h7 : ((r * 2) ^^^ (b * 4294967296)).testBit 32 = true := by
        generalize (r * 2) ^^^ (b * 4294967296) = x at h3 c
        rw [Nat.testBit_eq_decide_div_mod_eq]
        simp only [decide_eq_true_eq]
        omega
      rw [Nat.testBit_xor, h7]; rfl
    generalize ((r * 2) ^^^ (b * 4294967296)) ^^^ 4374732215 = x at h5 h6
    rw [Nat.testBit_eq_decide_div_mod_eq] at h6
    simp only [decide_eq_false_iff_not] at h6
    omega
  · simp only [if_neg c]
    omega
theorem rem1_rev {r b : Nat} (hr : r < 2 ^ 32) (hb : b < 2) : rev32 (rem1 r b) = s1 (rev32 r ^^^ b) := by
  apply Nat.eq_of_testBit_eq
  intro i
  have hb1 : ∀ j, b.testBit (j + 1) = false := fun j => by
    rw [Nat.testBit_succ, show b / 2 = 0 by omega, Nat.zero_testBit]
  have k0 : (rev32 r ^^^ b).testBit 0 = (r.testBit 31 ^^ b.testBit 0) := by
    rw [Nat.testBit_xor]; unfold rev32; rw [revB_bit]; rfl
  unfold s1
  rw [k0, Nat.testBit_xor, Nat.testBit_shiftRight, Nat.testBit_xor, show 1 + i = i + 1 by omega, hb1]
  unfold rev32
  rw [revB_bit, revB_bit]
  by_cases h : i < 32
  · rw [rem1_bit hr hb (by omega : 32 - 1 - i < 32), ← poly_rev i h]
    have e1 : 32 - 1 - i - 1 = 32 - 1 - (i + 1) := by omega
    have e2 : (1 ≤ 32 - 1 - i) ↔ (i + 1 < 32) := by omega
    simp only [h, decide_true, Bool.true_and, e1, e2, Bool.xor_false]
    congr 1
    cases (r.testBit 31 ^^ b.testBit 0) <;> simp
  · have h' : ¬ i + 1 < 32 := by omega
    have hK : Nat.testBit 3988292384 i = false := Nat.testBit_lt_two_pow (Nat.lt_of_lt_of_le (by decide : 3988292384 < 2 ^ 32) (Nat.pow_le_pow_right (by decide) (by omega)))
    simp only [h, h', decide_false, Bool.false_and, Bool.false_xor]
    cases (r.testBit 31 ^^ b.testBit 0) <;> simp [hK]

/-- the law's remainder over one octet -/
def remO (r o : Nat) : Nat := (List.range 8).foldl (fun r k => rem1 r (o / 2 ^ k % 2)) r
def remN (r : Nat) (os : List Nat) : Nat := os.foldl remO r
theorem remN_cons (r o : Nat) (os : List Nat) : remN r (o :: os) = remN (remO r o) os := List.foldl_cons ..
theorem linN_cons (r o : Nat) (os : List Nat) : linN r (o :: os) = linN (octL r o) os := List.foldl_cons ..
def iter1 : Nat → Nat → Nat
  | 0, x => x
  | m + 1, x => iter1 m (s1 x)
theorem iter1_succ (m x : Nat) : iter1 (m + 1) x = iter1 m (s1 x) := by simp only [iter1]
theorem iter1_zero (x : Nat) : iter1 0 x = x := by simp only [iter1]

theorem bit_of_div (o k : Nat) : o / 2 ^ (Nat.succ k) % 2 = (o / 2) / 2 ^ k % 2 := by
  rw [Nat.pow_succ, Nat.mul_comm (2 ^ k) 2, ← Nat.div_div_eq_div_mul]
theorem low_split (o : Nat) : o = (o / 2 ^ 0 % 2) ^^^ ((o / 2) <<< 1) := by
  apply Nat.eq_of_testBit_eq
  intro i
  rw [Nat.testBit_xor, Nat.testBit_shiftLeft]
  cases i with
  | zero => simp [Nat.testBit_zero]
  | succ j =>
    rw [Nat.testBit_succ, Nat.testBit_succ, show o / 2 ^ 0 % 2 / 2 = 0 by omega]
    simp
theorem s1_in (x o : Nat) : s1 (x ^^^ o / 2 ^ 0 % 2) ^^^ o / 2 = s1 (x ^^^ o) := by
  have e : x ^^^ o = (x ^^^ o / 2 ^ 0 % 2) ^^^ ((o / 2) <<< 1) := by
    rw [Nat.xor_assoc]
    exact congrArg (fun y => x ^^^ y) (low_split o)
  rw [e, s1_xor _ ((o / 2) <<< 1), s1_double]
theorem rem_bits : ∀ (m : Nat) (r o : Nat), r < 2 ^ 32 → o < 2 ^ m →
    ((List.range m).foldl (fun r k => rem1 r (o / 2 ^ k % 2)) r < 2 ^ 32) ∧ rev32 ((List.range m).foldl (fun r k => rem1 r (o / 2 ^ k % 2)) r) = iter1 m (rev32 r ^^^ o)
  | 0, r, o, hr, ho => by
    have h0 : o = 0 := by omega
    subst h0
    rw [List.range_zero, List.foldl_nil, iter1_zero, Nat.xor_zero]
    exact ⟨hr, Eq.refl _⟩
  | m + 1, r, o, hr, ho => by
    have hb : o / 2 ^ 0 % 2 < 2 := Nat.mod_lt _ (by decide)
    have ho' : o / 2 < 2 ^ m := by rw [Nat.pow_succ] at ho; omega
    have ih := rem_bits m (rem1 r (o / 2 ^ 0 % 2)) (o / 2) (rem1_lt hr hb) ho'
    rw [List.range_succ_eq_map, List.foldl_cons, List.foldl_map]
    simp only [bit_of_div]
    rw [rem1_rev hr hb, s1_in] at ih
    rw [iter1_succ]
    exact ih
theorem remO_rev {r o : Nat} (hr : r < 2 ^ 32) (ho : o < 256) : remO r o < 2 ^ 32 ∧ rev32 (remO r o) = octL (rev32 r) o := by
  have h := rem_bits 8 r o hr ho
  unfold octL remO
  rw [lin4_s1, lin4_s1]
  simp only [iter1_succ, iter1_zero] at h
  exact h
theorem remN_rev : ∀ (os : List Nat) (r : Nat), r < 2 ^ 32 → (∀ o ∈ os, o < 256) → remN r os < 2 ^ 32 ∧ rev32 (remN r os) = linN (rev32 r) os
  | [], r, hr, _ => by
    unfold remN linN
    rw [List.foldl_nil, List.foldl_nil]
    exact ⟨hr, Eq.refl _⟩
  | o :: os, r, hr, ho => by
    have h := remO_rev hr (ho o (.head _))
    have ih := remN_rev os (remO r o) h.1 fun x hx => ho x (.tail _ hx)
    rw [h.2] at ih
    rw [remN_cons, linN_cons]
    exact ih

/-- a hurt goes unseen where the number turned into the checksum is the pattern's remainder, and there alone -/
theorem unseen {tag data pat : List Nat} (hl : data.length = pat.length) (hp : ∀ o ∈ pat, o < 256) (t : Nat) :
    (crcN (crcN 0 tag) (List.zipWith (· ^^^ ·) data pat) = crcN (crcN 0 tag) data ^^^ t) ↔ t = rev32 (remN 0 pat) := by
  have h := crc_xor data pat (crcN 0 tag) 0 hl
  rw [Nat.xor_zero] at h
  have h2 := (remN_rev pat 0 (by decide) hp).2
  have h0 : rev32 0 = 0 := by decide +kernel
  rw [h0] at h2
  rw [h, h2]
  generalize linN 0 pat = l
  generalize crcN (crcN 0 tag) data = c
  constructor
  · intro e
    have h3 := congrArg (fun x => c ^^^ x) e
    simp only [← Nat.xor_assoc, Nat.xor_self, Nat.zero_xor] at h3
    exact h3.symm
  · intro e; rw [e]
end Mine
end

/-! ### part RemMath -/
section
open PySem PyProof.Rows
namespace Mine
theorem nat_xor_and (m : Nat) : ∀ n : Nat, (m ^^^ n) + 2 * (m &&& n) = m + n := by
  induction m using Nat.strongRecOn with
  | ind m ih =>
    intro n
    by_cases h0 : m = 0
    · subst h0; simp
    · have ih' := ih (m / 2) (by omega) (n / 2)
      rw [← Nat.xor_div_two, ← Nat.and_div_two] at ih'
      have o1 := @Nat.xor_mod_two_eq_one m n
      have a1 := @Nat.and_mod_two_eq_one m n
      omega
theorem bitXor_nat (x y : Nat) : Builtin.bitXor (x : Int) (y : Int) = ((x ^^^ y : Nat) : Int) := by
  rw [bitXor_and, bitAnd_pp (by omega) (by omega)]
  have h := nat_xor_and x y
  have e1 : ((x : Int)).toNat = x := by omega
  have e2 : ((y : Int)).toNat = y := by omega
  rw [e1, e2]
  omega
theorem bitXor_nn {x y : Int} (hx : 0 ≤ x) (hy : 0 ≤ y) : Builtin.bitXor x y = ((x.toNat ^^^ y.toNat : Nat) : Int) := by
  have h := bitXor_nat x.toNat y.toNat
  rw [show ((x.toNat : Nat) : Int) = x by omega, show ((y.toNat : Nat) : Int) = y by omega] at h
  exact h
theorem bit_int {n : Int} (h : 0 ≤ n) (j : Nat) : (n.fdiv (2 ^ j)).fmod 2 = ((n.toNat / 2 ^ j % 2 : Nat) : Int) := by
  obtain ⟨k, rfl⟩ : ∃ k : Nat, n = (k : Int) := ⟨n.toNat, by omega⟩
  have e : ((2 : Int) ^ j) = ((2 ^ j : Nat) : Int) := by rw [Int.natCast_pow]; rfl
  rw [e, Int.fdiv_eq_ediv_of_nonneg _ (Int.natCast_nonneg _), Int.fmod_eq_emod_of_nonneg _ (by omega)]
  have e2 : ((k : Int)).toNat = k := by omega
  rw [e2]
  norm_cast
def remX (r n : Nat) (j : Nat) : Nat := (r * 2) ^^^ ((n / 2 ^ j % 2) * 4294967296)
theorem remX_int {n : Int} (h : 0 ≤ n) (r j : Nat) {k : Int} (hk : k = 0 + (j : Int)) : Builtin.bitXor ((r : Int) * 2) ((n.fdiv (2 ^ k.toNat)).fmod 2 * 4294967296) = ((remX r n.toNat j : Nat) : Int) := by
  have e : k.toNat = j := by omega
  rw [e, bit_int h j]
  unfold remX
  rw [← bitXor_nat]
  generalize n.toNat / 2 ^ j % 2 = b
  have e1 : ((r * 2 : Nat) : Int) = (r : Int) * 2 := by omega
  have e2 : ((b * 4294967296 : Nat) : Int) = (b : Int) * 4294967296 := by omega
  rw [e1, e2]
theorem rem1_hi {r n j : Nat} (h : (4294967295 : Int) < ((remX r n j : Nat) : Int)) : Builtin.bitXor ((remX r n j : Nat) : Int) 4374732215 = ((rem1 r (n / 2 ^ j % 2) : Nat) : Int) := by
  have h' : 4294967295 < remX r n j := by omega
  have e := bitXor_nat (remX r n j) 4374732215
  rw [show ((4374732215 : Nat) : Int) = 4374732215 from rfl] at e
  rw [e]
  unfold rem1
  unfold remX at h' ⊢
  simp only [if_pos h']
theorem rem1_lo {r n j : Nat} (h : ¬ (4294967295 : Int) < ((remX r n j : Nat) : Int)) : ((remX r n j : Nat) : Int) = ((rem1 r (n / 2 ^ j % 2) : Nat) : Int) := by
  have h' : ¬ 4294967295 < remX r n j := by omega
  unfold rem1
  unfold remX at h' ⊢
  simp only [if_neg h']
theorem rem1_hi' {n k : Int} {r j : Nat} (hn : 0 ≤ n) (hk : k = 0 + (j : Int)) (h : 4294967295 < Builtin.bitXor ((r : Int) * 2) ((n.fdiv (2 ^ k.toNat)).fmod 2 * 4294967296)) :
    Builtin.bitXor (Builtin.bitXor ((r : Int) * 2) ((n.fdiv (2 ^ k.toNat)).fmod 2 * 4294967296)) 4374732215 = ((rem1 r (n.toNat / 2 ^ j % 2) : Nat) : Int) := by
  rw [remX_int hn r j hk] at h ⊢
  exact rem1_hi h
theorem rem1_lo' {n k : Int} {r j : Nat} (hn : 0 ≤ n) (hk : k = 0 + (j : Int)) (h : ¬ 4294967295 < Builtin.bitXor ((r : Int) * 2) ((n.fdiv (2 ^ k.toNat)).fmod 2 * 4294967296)) :
    Builtin.bitXor ((r : Int) * 2) ((n.fdiv (2 ^ k.toNat)).fmod 2 * 4294967296) = ((rem1 r (n.toNat / 2 ^ j % 2) : Nat) : Int) := by
  rw [remX_int hn r j hk] at h ⊢
  exact rem1_lo h
theorem remN_snoc (ns : List Int) (n : Int) : remN 0 ((ns ++ [n]).map Int.toNat) = (List.range 8).foldl (fun r k => rem1 r (n.toNat / 2 ^ k % 2)) (remN 0 (ns.map Int.toNat)) := by
  rw [List.map_append]
  unfold remN
  rw [List.foldl_append, List.map_cons, List.map_nil, List.foldl_cons, List.foldl_nil]
  rfl
theorem int_eq {x y : Int} {t : Tok} {o : Option Value} (h : o = some (.int x t)) (e : x = y) : o = some (.int y t) := e ▸ h
end Mine
end

/-! ### part KK -/
section
set_option linter.unusedVariables false
namespace Mine
open PySem PySem.W
noncomputable def topB : List Stmt := PySem.Challenge.pw_bq0018_03.main.body
noncomputable def stAt (l : List Stmt) (i : Nat) : Stmt := l.getD i default
noncomputable def clsBody (st : Stmt) : List Stmt := by
  cases st
  case ClassDef _ _ _ b _ _ _ _ _ _ _ => exact b
  all_goals exact []
noncomputable def fnBody (st : Stmt) : List Stmt := by
  cases st
  case FunctionDef _ _ b _ _ _ _ _ _ _ => exact b
  all_goals exact []
noncomputable def docOf (b : List Stmt) : Str := by
  cases b with
  | nil => exact Str.empty
  | cons s _ =>
    cases s
    case Expr e _ =>
      cases e
      case Constant c _ _ =>
        cases c
        case str x => exact x
        all_goals exact Str.empty
      all_goals exact Str.empty
    all_goals exact Str.empty
noncomputable def docV (x : Str) (t : Tok) : Value := .str x t
noncomputable def fdOf (st : Stmt) (qual : Str) (dV kV doc pm cd : Value) : FuncData := by
  cases st
  case FunctionDef name args body _ _ _ scope _ _ _ =>
    exact { name := name, qualname := qual, params := args, body := .stmts body, scope := scope, globals := mainNs, closure := [], defaults := dV, kwdefaults := kV, doc := doc, pyModule := pm, annotations := none, code := cd, closureTuple := .none, builtins := builtinsNs }
  all_goals exact default
noncomputable def o3 (P : Params) : Obj := ⟨.type "dict", none, .dict #[⟨PyData.keyHash P (PySem.Str.ofString "__name__"), .str (PySem.Str.ofString "__name__") 165, .str (PySem.Str.ofString "law_bq0018_03") 1425⟩,
    ⟨PyData.keyHash P (PySem.Str.ofString "__doc__"), .str (PySem.Str.ofString "__doc__") 166, .none⟩,
    ⟨PyData.keyHash P (PySem.Str.ofString "__package__"), .str (PySem.Str.ofString "__package__") 167, .none⟩,
    ⟨PyData.keyHash P (PySem.Str.ofString "__loader__"), .str (PySem.Str.ofString "__loader__") 168, .builtin "__main__.__loader__#opaque"⟩,
    ⟨PyData.keyHash P (PySem.Str.ofString "__spec__"), .str (PySem.Str.ofString "__spec__") 169, .none⟩,
    ⟨PyData.keyHash P (PySem.Str.ofString "__annotations__"), .str (PySem.Str.ofString "__annotations__") 170, .ref 6⟩,
    ⟨PyData.keyHash P (PySem.Str.ofString "__builtins__"), .str (PySem.Str.ofString "__builtins__") 171, .ref 4⟩,
    ⟨PyData.keyHash P (PySem.Str.ofString "__file__"), .str (PySem.Str.ofString "__file__") 173, .str (PySem.Str.ofString "/claim/cut.py") 172⟩,
    ⟨PyData.keyHash P (PySem.Str.ofString "__cached__"), .str (PySem.Str.ofString "__cached__") 174, .none⟩,
    ⟨PyData.keyHash P (PySem.Str.ofString "add"), .str (PySem.Str.ofString "add") 321, .builtin "_operator.add"⟩,
    ⟨PyData.keyHash P (PySem.Str.ofString "pack"), .str (PySem.Str.ofString "pack") 425, .builtin "_struct.pack"⟩,
    ⟨PyData.keyHash P (PySem.Str.ofString "unpack"), .str (PySem.Str.ofString "unpack") 428, .builtin "_struct.unpack"⟩,
    ⟨PyData.keyHash P (PySem.Str.ofString "_wall"), .str (PySem.Str.ofString "_wall") 441, .ref 60⟩,
    ⟨PyData.keyHash P (PySem.Str.ofString "_pe_name"), .str (PySem.Str.ofString "_pe_name") 448, .ref 67⟩,
    ⟨PyData.keyHash P (PySem.Str.ofString "CRC"), .str (PySem.Str.ofString "CRC") 467, .ref 68⟩,
    ⟨PyData.keyHash P (PySem.Str.ofString "BytesIO"), .str (PySem.Str.ofString "BytesIO") 544, .ref 126⟩,
    ⟨PyData.keyHash P (PySem.Str.ofString "Zlib"), .str (PySem.Str.ofString "Zlib") 594, .ref 163⟩,
    ⟨PyData.keyHash P (PySem.Str.ofString "zlib"), .str (PySem.Str.ofString "zlib") 595, .ref 169⟩,
    ⟨PyData.keyHash P (PySem.Str.ofString "_tuplegetter"), .str (PySem.Str.ofString "_tuplegetter") 654, .ref 208⟩,
    ⟨PyData.keyHash P (PySem.Str.ofString "signature"), .str (PySem.Str.ofString "signature") 656, .bytes #[137, 80, 78, 71, 13, 10, 26, 10] 655⟩,
    ⟨PyData.keyHash P (PySem.Str.ofString "adam7"), .str (PySem.Str.ofString "adam7") 685, .ref 220⟩,
    ⟨PyData.keyHash P (PySem.Str.ofString "adam7_generate"), .str (PySem.Str.ofString "adam7_generate") 698, .ref 227⟩,
    ⟨PyData.keyHash P (PySem.Str.ofString "_Resolution"), .str (PySem.Str.ofString "_Resolution") 826, .ref 298⟩,
    ⟨PyData.keyHash P (PySem.Str.ofString "Resolution"), .str (PySem.Str.ofString "Resolution") 827, .ref 298⟩,
    ⟨PyData.keyHash P (PySem.Str.ofString "group"), .str (PySem.Str.ofString "group") 835, .ref 308⟩,
    ⟨PyData.keyHash P (PySem.Str.ofString "isarray"), .str (PySem.Str.ofString "isarray") 842, .ref 315⟩,
    ⟨PyData.keyHash P (PySem.Str.ofString "Error"), .str (PySem.Str.ofString "Error") 869, .ref 332⟩,
    ⟨PyData.keyHash P (PySem.Str.ofString "FormatError"), .str (PySem.Str.ofString "FormatError") 887, .ref 345⟩,
    ⟨PyData.keyHash P (PySem.Str.ofString "ProtocolError"), .str (PySem.Str.ofString "ProtocolError") 905, .ref 357⟩,
    ⟨PyData.keyHash P (PySem.Str.ofString "ChunkError"), .str (PySem.Str.ofString "ChunkError") 921, .ref 369⟩,
    ⟨PyData.keyHash P (PySem.Str.ofString "write_chunk"), .str (PySem.Str.ofString "write_chunk") 933, .ref 379⟩,
    ⟨PyData.keyHash P (PySem.Str.ofString "write_chunks"), .str (PySem.Str.ofString "write_chunks") 943, .ref 386⟩,
    ⟨PyData.keyHash P (PySem.Str.ofString "_pull"), .str (PySem.Str.ofString "_pull") 952, .ref 393⟩,
    ⟨PyData.keyHash P (PySem.Str.ofString "chain"), .str (PySem.Str.ofString "chain") 1025, .ref 436⟩,
    ⟨PyData.keyHash P (PySem.Str.ofString "warn"), .str (PySem.Str.ofString "warn") 1035, .ref 447⟩,
    ⟨PyData.keyHash P (PySem.Str.ofString "Reader"), .str (PySem.Str.ofString "Reader") 1347, .ref 651⟩,
    ⟨PyData.keyHash P (PySem.Str.ofString "decompress"), .str (PySem.Str.ofString "decompress") 1357, .ref 662⟩,
    ⟨PyData.keyHash P (PySem.Str.ofString "undo_filter_sub"), .str (PySem.Str.ofString "undo_filter_sub") 1372, .ref 669⟩,
    ⟨PyData.keyHash P (PySem.Str.ofString "undo_filter_up"), .str (PySem.Str.ofString "undo_filter_up") 1386, .ref 676⟩,
    ⟨PyData.keyHash P (PySem.Str.ofString "undo_filter_average"), .str (PySem.Str.ofString "undo_filter_average") 1402, .ref 683⟩,
    ⟨PyData.keyHash P (PySem.Str.ofString "undo_filter_paeth"), .str (PySem.Str.ofString "undo_filter_paeth") 1424, .ref 690⟩,
    ⟨PyData.keyHash P (PySem.Str.ofString "_law_remainder"), .str (PySem.Str.ofString "_law_remainder") 1436, .ref 697⟩,
    ⟨PyData.keyHash P (PySem.Str.ofString "law"), .str (PySem.Str.ofString "law") 1442, .ref 702⟩] 43, #[]⟩
noncomputable def o68 (P : Params) : Obj := ⟨.type "tuple", none, .seq #[.int (1304293916) 451, .int (1342890616) 452, .int (1993593556) 453, .int (1801765552) 454, .int (996258700) 455, .int (651600872) 456, .int (1020740) 457, .int (498631456) 458, .int (2684711228) 459, .int (3182584152) 460, .int (2607501812) 461, .int (2262581648) 462, .int (3604557996) 463, .int (3412992200) 464, .int (3988197476) 465, .int (4026531840) 466] 0, #[]⟩
noncomputable def o76 (P : Params) : Obj := ⟨.type "tuple", none, .seq #[.bytes #[] 483] 0, #[]⟩
noncomputable def o82 (P : Params) : Obj := ⟨.type "code", none, .fields #[.str (PySem.Str.ofString "__init__") 484, .str (PySem.Str.ofString "BytesIO.__init__") 485, .str (PySem.Str.ofString "/claim/cut.py") 486, .int (16) 0, .int (2) 0, .int (0) 0, .int (0) 0, .int (3) 0, .ref 77, .bool true, .int (429) 0, .ref 78, .none, .ref 79, .ref 80, .ref 81, .int (489) 0, .int (16) 0, .str (PySem.Str.ofString "/claim/cut.py") 490], #[]⟩
noncomputable def o83 (P : Params) : Obj := ⟨.type "function", none, .func (fdOf (stAt (clsBody (stAt topB 6)) 1) (PySem.Str.ofString "BytesIO.__init__") (.ref 76) (.none) .none (.str (PySem.Str.ofString "pypng.standins") 449) (.ref 82)), #[]⟩
noncomputable def o89 (P : Params) : Obj := ⟨.type "code", none, .fields #[.str (PySem.Str.ofString "read") 492, .str (PySem.Str.ofString "BytesIO.read") 493, .str (PySem.Str.ofString "/claim/cut.py") 494, .int (19) 0, .int (2) 0, .int (0) 0, .int (0) 0, .int (3) 0, .ref 84, .bool true, .int (429) 0, .ref 85, .none, .ref 86, .ref 87, .ref 88, .int (498) 0, .int (19) 0, .str (PySem.Str.ofString "/claim/cut.py") 499], #[]⟩
noncomputable def o90 (P : Params) : Obj := ⟨.type "function", none, .func (fdOf (stAt (clsBody (stAt topB 6)) 2) (PySem.Str.ofString "BytesIO.read") (.none) (.none) .none (.str (PySem.Str.ofString "pypng.standins") 449) (.ref 89)), #[]⟩
noncomputable def o96 (P : Params) : Obj := ⟨.type "code", none, .fields #[.str (PySem.Str.ofString "write") 501, .str (PySem.Str.ofString "BytesIO.write") 502, .str (PySem.Str.ofString "/claim/cut.py") 503, .int (23) 0, .int (2) 0, .int (0) 0, .int (0) 0, .int (3) 0, .ref 91, .bool true, .int (429) 0, .ref 92, .none, .ref 93, .ref 94, .ref 95, .int (506) 0, .int (23) 0, .str (PySem.Str.ofString "/claim/cut.py") 507], #[]⟩
noncomputable def o97 (P : Params) : Obj := ⟨.type "function", none, .func (fdOf (stAt (clsBody (stAt topB 6)) 3) (PySem.Str.ofString "BytesIO.write") (.none) (.none) .none (.str (PySem.Str.ofString "pypng.standins") 449) (.ref 96)), #[]⟩
noncomputable def o103 (P : Params) : Obj := ⟨.type "code", none, .fields #[.str (PySem.Str.ofString "getvalue") 509, .str (PySem.Str.ofString "BytesIO.getvalue") 510, .str (PySem.Str.ofString "/claim/cut.py") 511, .int (26) 0, .int (1) 0, .int (0) 0, .int (0) 0, .int (3) 0, .ref 98, .bool true, .int (429) 0, .ref 99, .none, .ref 100, .ref 101, .ref 102, .int (513) 0, .int (26) 0, .str (PySem.Str.ofString "/claim/cut.py") 514], #[]⟩
noncomputable def o104 (P : Params) : Obj := ⟨.type "function", none, .func (fdOf (stAt (clsBody (stAt topB 6)) 4) (PySem.Str.ofString "BytesIO.getvalue") (.none) (.none) .none (.str (PySem.Str.ofString "pypng.standins") 449) (.ref 103)), #[]⟩
noncomputable def o125 (P : Params) : Obj := ⟨.type "dict", none, .dict #[⟨PyData.keyHash P (PySem.Str.ofString "__module__"), .str (PySem.Str.ofString "__module__") 475, .str (PySem.Str.ofString "pypng.standins") 449⟩,
    ⟨PyData.keyHash P (PySem.Str.ofString "__firstlineno__"), .str (PySem.Str.ofString "__firstlineno__") 479, .int (12) 478⟩,
    ⟨PyData.keyHash P (PySem.Str.ofString "__doc__"), .str (PySem.Str.ofString "__doc__") 481, docV (docOf (clsBody (stAt topB 6))) 480⟩,
    ⟨PyData.keyHash P (PySem.Str.ofString "__init__"), .str (PySem.Str.ofString "__init__") 491, .ref 83⟩,
    ⟨PyData.keyHash P (PySem.Str.ofString "read"), .str (PySem.Str.ofString "read") 500, .ref 90⟩,
    ⟨PyData.keyHash P (PySem.Str.ofString "write"), .str (PySem.Str.ofString "write") 508, .ref 97⟩,
    ⟨PyData.keyHash P (PySem.Str.ofString "getvalue"), .str (PySem.Str.ofString "getvalue") 515, .ref 104⟩,
    ⟨PyData.keyHash P (PySem.Str.ofString "compress"), .str (PySem.Str.ofString "compress") 521, .ref 109⟩,
    ⟨PyData.keyHash P (PySem.Str.ofString "decompress"), .str (PySem.Str.ofString "decompress") 529, .ref 116⟩,
    ⟨PyData.keyHash P (PySem.Str.ofString "flush"), .str (PySem.Str.ofString "flush") 536, .ref 123⟩,
    ⟨PyData.keyHash P (PySem.Str.ofString "__static_attributes__"), .str (PySem.Str.ofString "__static_attributes__") 538, .ref 124⟩,
    ⟨PyData.keyHash P (PySem.Str.ofString "__dict__"), .str (PySem.Str.ofString "__dict__") 540, .ref 127⟩,
    ⟨PyData.keyHash P (PySem.Str.ofString "__weakref__"), .str (PySem.Str.ofString "__weakref__") 542, .ref 128⟩] 3, #[]⟩
noncomputable def o126 (P : Params) : Obj := ⟨.type "type", none, .cls { name := (PySem.Str.ofString "BytesIO"), bases := [.type "object"], mro := [.ref 126, .type "object"], ns := 125, qualname := (PySem.Str.ofString "BytesIO"), hasDict := true, slotNames := [], subclasses := [], abstract := false, collection := none, hasDel := false }, #[none, none, some (.str (PySem.Str.ofString "BytesIO") 468), some (.str (PySem.Str.ofString "BytesIO") 476), some (.builtin "object.__new__"), some (.bool true)]⟩
noncomputable def o127 (P : Params) : Obj := ⟨.type "getset_descriptor", none, .fields #[.str (PySem.Str.ofString "__dict__") 539, .ref 126, .builtin "function.__dict__", .builtin "function.__dict__#set"], #[]⟩
noncomputable def o128 (P : Params) : Obj := ⟨.type "getset_descriptor", none, .fields #[.str (PySem.Str.ofString "__weakref__") 541, .ref 126, .builtin "ExceptionGroup.__weakref__", .none], #[]⟩
noncomputable def o138 (P : Params) : Obj := ⟨.type "tuple", none, .seq #[.int (0) 560] 0, #[]⟩
noncomputable def o144 (P : Params) : Obj := ⟨.type "code", none, .fields #[.str (PySem.Str.ofString "crc32") 561, .str (PySem.Str.ofString "Zlib.crc32") 562, .str (PySem.Str.ofString "/claim/cut.py") 563, .int (41) 0, .int (3) 0, .int (0) 0, .int (0) 0, .int (3) 0, .ref 139, .bool true, .int (429) 0, .ref 140, .none, .ref 141, .ref 142, .ref 143, .int (568) 0, .int (41) 0, .str (PySem.Str.ofString "/claim/cut.py") 569], #[]⟩
noncomputable def o145 (P : Params) : Obj := ⟨.type "function", none, .func (fdOf (stAt (clsBody (stAt topB 7)) 1) (PySem.Str.ofString "Zlib.crc32") (.ref 138) (.none) .none (.str (PySem.Str.ofString "pypng.standins") 449) (.ref 144)), #[]⟩
noncomputable def o162 (P : Params) : Obj := ⟨.type "dict", none, .dict #[⟨PyData.keyHash P (PySem.Str.ofString "__module__"), .str (PySem.Str.ofString "__module__") 552, .str (PySem.Str.ofString "pypng.standins") 449⟩,
    ⟨PyData.keyHash P (PySem.Str.ofString "__firstlineno__"), .str (PySem.Str.ofString "__firstlineno__") 556, .int (38) 555⟩,
    ⟨PyData.keyHash P (PySem.Str.ofString "__doc__"), .str (PySem.Str.ofString "__doc__") 558, docV (docOf (clsBody (stAt topB 7))) 557⟩,
    ⟨PyData.keyHash P (PySem.Str.ofString "crc32"), .str (PySem.Str.ofString "crc32") 570, .ref 145⟩,
    ⟨PyData.keyHash P (PySem.Str.ofString "compressobj"), .str (PySem.Str.ofString "compressobj") 580, .ref 153⟩,
    ⟨PyData.keyHash P (PySem.Str.ofString "decompressobj"), .str (PySem.Str.ofString "decompressobj") 587, .ref 160⟩,
    ⟨PyData.keyHash P (PySem.Str.ofString "__static_attributes__"), .str (PySem.Str.ofString "__static_attributes__") 588, .ref 161⟩,
    ⟨PyData.keyHash P (PySem.Str.ofString "__dict__"), .str (PySem.Str.ofString "__dict__") 590, .ref 164⟩,
    ⟨PyData.keyHash P (PySem.Str.ofString "__weakref__"), .str (PySem.Str.ofString "__weakref__") 592, .ref 165⟩] 3, #[]⟩
noncomputable def o163 (P : Params) : Obj := ⟨.type "type", none, .cls { name := (PySem.Str.ofString "Zlib"), bases := [.type "object"], mro := [.ref 163, .type "object"], ns := 162, qualname := (PySem.Str.ofString "Zlib"), hasDict := true, slotNames := [], subclasses := [], abstract := false, collection := none, hasDel := false }, #[none, none, some (.str (PySem.Str.ofString "Zlib") 545), some (.str (PySem.Str.ofString "Zlib") 553), some (.builtin "object.__new__"), some (.bool true)]⟩
noncomputable def o164 (P : Params) : Obj := ⟨.type "getset_descriptor", none, .fields #[.str (PySem.Str.ofString "__dict__") 589, .ref 163, .builtin "function.__dict__", .builtin "function.__dict__#set"], #[]⟩
noncomputable def o165 (P : Params) : Obj := ⟨.type "getset_descriptor", none, .fields #[.str (PySem.Str.ofString "__weakref__") 591, .ref 163, .builtin "ExceptionGroup.__weakref__", .none], #[]⟩
noncomputable def o168 (P : Params) : Obj := ⟨.type "dict", none, .dict #[] 0, #[]⟩
noncomputable def o169 (P : Params) : Obj := ⟨.ref 163, (some 168), .plain, #[]⟩
noncomputable def o331 (P : Params) : Obj := ⟨.type "dict", none, .dict #[⟨PyData.keyHash P (PySem.Str.ofString "__module__"), .str (PySem.Str.ofString "__module__") 850, .str (PySem.Str.ofString "pypng.png") 596⟩,
    ⟨PyData.keyHash P (PySem.Str.ofString "__firstlineno__"), .str (PySem.Str.ofString "__firstlineno__") 854, .int (138) 853⟩,
    ⟨PyData.keyHash P (PySem.Str.ofString "__str__"), .str (PySem.Str.ofString "__str__") 861, .ref 329⟩,
    ⟨PyData.keyHash P (PySem.Str.ofString "__static_attributes__"), .str (PySem.Str.ofString "__static_attributes__") 862, .ref 330⟩,
    ⟨PyData.keyHash P (PySem.Str.ofString "__weakref__"), .str (PySem.Str.ofString "__weakref__") 864, .ref 333⟩,
    ⟨PyData.keyHash P (PySem.Str.ofString "__doc__"), .str (PySem.Str.ofString "__doc__") 865, .none⟩] 3, #[]⟩
noncomputable def o332 (P : Params) : Obj := ⟨.type "type", none, .cls { name := (PySem.Str.ofString "Error"), bases := [.type "Exception"], mro := [.ref 332, .type "Exception", .type "BaseException", .type "object"], ns := 331, qualname := (PySem.Str.ofString "Error"), hasDict := true, slotNames := [], subclasses := [.ref 345, .ref 357], abstract := false, collection := none, hasDel := false }, #[some (.ref 316), none, some (.str (PySem.Str.ofString "Error") 843), some (.str (PySem.Str.ofString "Error") 851), some (.builtin "Exception.__new__"), some (.bool true)]⟩
noncomputable def o333 (P : Params) : Obj := ⟨.type "getset_descriptor", none, .fields #[.str (PySem.Str.ofString "__weakref__") 863, .ref 332, .builtin "ExceptionGroup.__weakref__", .none], #[]⟩
noncomputable def o344 (P : Params) : Obj := ⟨.type "dict", none, .dict #[⟨PyData.keyHash P (PySem.Str.ofString "__module__"), .str (PySem.Str.ofString "__module__") 877, .str (PySem.Str.ofString "pypng.png") 596⟩,
    ⟨PyData.keyHash P (PySem.Str.ofString "__firstlineno__"), .str (PySem.Str.ofString "__firstlineno__") 881, .int (142) 880⟩,
    ⟨PyData.keyHash P (PySem.Str.ofString "__doc__"), .str (PySem.Str.ofString "__doc__") 883, docV (docOf (clsBody (stAt topB 19))) 882⟩,
    ⟨PyData.keyHash P (PySem.Str.ofString "__static_attributes__"), .str (PySem.Str.ofString "__static_attributes__") 885, .ref 343⟩] 1, #[]⟩
noncomputable def o345 (P : Params) : Obj := ⟨.type "type", none, .cls { name := (PySem.Str.ofString "FormatError"), bases := [.ref 332], mro := [.ref 345, .ref 332, .type "Exception", .type "BaseException", .type "object"], ns := 344, qualname := (PySem.Str.ofString "FormatError"), hasDict := true, slotNames := [], subclasses := [.ref 369], abstract := false, collection := none, hasDel := false }, #[some (.ref 336), none, some (.str (PySem.Str.ofString "FormatError") 870), some (.str (PySem.Str.ofString "FormatError") 878), some (.builtin "Exception.__new__"), some (.bool true)]⟩
noncomputable def o368 (P : Params) : Obj := ⟨.type "dict", none, .dict #[⟨PyData.keyHash P (PySem.Str.ofString "__module__"), .str (PySem.Str.ofString "__module__") 913, .str (PySem.Str.ofString "pypng.png") 596⟩,
    ⟨PyData.keyHash P (PySem.Str.ofString "__firstlineno__"), .str (PySem.Str.ofString "__firstlineno__") 917, .int (153) 916⟩,
    ⟨PyData.keyHash P (PySem.Str.ofString "__static_attributes__"), .str (PySem.Str.ofString "__static_attributes__") 918, .ref 367⟩,
    ⟨PyData.keyHash P (PySem.Str.ofString "__doc__"), .str (PySem.Str.ofString "__doc__") 919, .none⟩] 2, #[]⟩
noncomputable def o369 (P : Params) : Obj := ⟨.type "type", none, .cls { name := (PySem.Str.ofString "ChunkError"), bases := [.ref 345], mro := [.ref 369, .ref 345, .ref 332, .type "Exception", .type "BaseException", .type "object"], ns := 368, qualname := (PySem.Str.ofString "ChunkError"), hasDict := true, slotNames := [], subclasses := [], abstract := false, collection := none, hasDel := false }, #[some (.ref 360), none, some (.str (PySem.Str.ofString "ChunkError") 906), some (.str (PySem.Str.ofString "ChunkError") 914), some (.builtin "Exception.__new__"), some (.bool true)]⟩
noncomputable def o372 (P : Params) : Obj := ⟨.type "tuple", none, .seq #[.bytes #[] 922] 0, #[]⟩
noncomputable def o378 (P : Params) : Obj := ⟨.type "code", none, .fields #[.str (PySem.Str.ofString "write_chunk") 923, .str (PySem.Str.ofString "write_chunk") 924, .str (PySem.Str.ofString "/claim/cut.py") 925, .int (155) 0, .int (3) 0, .int (0) 0, .int (0) 0, .int (3) 0, .ref 373, .bool true, .int (429) 0, .ref 374, .none, .ref 375, .ref 376, .ref 377, .int (930) 0, .int (155) 0, .str (PySem.Str.ofString "/claim/cut.py") 931], #[]⟩
noncomputable def o379 (P : Params) : Obj := ⟨.type "function", none, .func (fdOf (stAt topB 22) (PySem.Str.ofString "write_chunk") (.ref 372) (.none) (docV (docOf (fnBody (stAt topB 22))) 932) (.str (PySem.Str.ofString "pypng.png") 596) (.ref 378)), #[]⟩
noncomputable def o385 (P : Params) : Obj := ⟨.type "code", none, .fields #[.str (PySem.Str.ofString "write_chunks") 934, .str (PySem.Str.ofString "write_chunks") 935, .str (PySem.Str.ofString "/claim/cut.py") 936, .int (168) 0, .int (2) 0, .int (0) 0, .int (0) 0, .int (3) 0, .ref 380, .bool true, .int (429) 0, .ref 381, .none, .ref 382, .ref 383, .ref 384, .int (940) 0, .int (168) 0, .str (PySem.Str.ofString "/claim/cut.py") 941], #[]⟩
noncomputable def o386 (P : Params) : Obj := ⟨.type "function", none, .func (fdOf (stAt topB 23) (PySem.Str.ofString "write_chunks") (.none) (.none) (docV (docOf (fnBody (stAt topB 23))) 942) (.str (PySem.Str.ofString "pypng.png") 596) (.ref 385)), #[]⟩
noncomputable def o455 (P : Params) : Obj := ⟨.type "tuple", none, .seq #[.none, .none, .none] 0, #[]⟩
noncomputable def o461 (P : Params) : Obj := ⟨.type "code", none, .fields #[.str (PySem.Str.ofString "__init__") 1053, .str (PySem.Str.ofString "Reader.__init__") 1054, .str (PySem.Str.ofString "/claim/cut.py") 1055, .int (237) 0, .int (4) 0, .int (0) 0, .int (0) 0, .int (11) 0, .ref 456, .bool true, .int (429) 0, .ref 457, .none, .ref 458, .ref 459, .ref 460, .int (1062) 0, .int (237) 0, .str (PySem.Str.ofString "/claim/cut.py") 1063], #[]⟩
noncomputable def o462 (P : Params) : Obj := ⟨.type "function", none, .func (fdOf (stAt (clsBody (stAt topB 30)) 1) (PySem.Str.ofString "Reader.__init__") (.ref 455) (.none) (docV (docOf (fnBody (stAt (clsBody (stAt topB 30)) 1))) 1064) (.str (PySem.Str.ofString "pypng.png") 1036) (.ref 461)), #[]⟩
noncomputable def o463 (P : Params) : Obj := ⟨.type "tuple", none, .seq #[.bool false] 0, #[]⟩
noncomputable def o469 (P : Params) : Obj := ⟨.type "code", none, .fields #[.str (PySem.Str.ofString "chunk") 1066, .str (PySem.Str.ofString "Reader.chunk") 1067, .str (PySem.Str.ofString "/claim/cut.py") 1068, .int (272) 0, .int (2) 0, .int (0) 0, .int (0) 0, .int (3) 0, .ref 464, .bool true, .int (429) 0, .ref 465, .none, .ref 466, .ref 467, .ref 468, .int (1079) 0, .int (272) 0, .str (PySem.Str.ofString "/claim/cut.py") 1080], #[]⟩
noncomputable def o470 (P : Params) : Obj := ⟨.type "function", none, .func (fdOf (stAt (clsBody (stAt topB 30)) 2) (PySem.Str.ofString "Reader.chunk") (.ref 463) (.none) (docV (docOf (fnBody (stAt (clsBody (stAt topB 30)) 2))) 1081) (.str (PySem.Str.ofString "pypng.png") 1036) (.ref 469)), #[]⟩
noncomputable def o517 (P : Params) : Obj := ⟨.type "code", none, .fields #[.str (PySem.Str.ofString "validate_signature") 1166, .str (PySem.Str.ofString "Reader.validate_signature") 1167, .str (PySem.Str.ofString "/claim/cut.py") 1168, .int (436) 0, .int (1) 0, .int (0) 0, .int (0) 0, .int (3) 0, .ref 512, .bool true, .int (429) 0, .ref 513, .none, .ref 514, .ref 515, .ref 516, .int (1170) 0, .int (436) 0, .str (PySem.Str.ofString "/claim/cut.py") 1171], #[]⟩
noncomputable def o518 (P : Params) : Obj := ⟨.type "function", none, .func (fdOf (stAt (clsBody (stAt topB 30)) 9) (PySem.Str.ofString "Reader.validate_signature") (.none) (.none) (docV (docOf (fnBody (stAt (clsBody (stAt topB 30)) 9))) 1172) (.str (PySem.Str.ofString "pypng.png") 1036) (.ref 517)), #[]⟩
noncomputable def o532 (P : Params) : Obj := ⟨.type "code", none, .fields #[.str (PySem.Str.ofString "_chunk_len_type") 1183, .str (PySem.Str.ofString "Reader._chunk_len_type") 1184, .str (PySem.Str.ofString "/claim/cut.py") 1185, .int (476) 0, .int (1) 0, .int (0) 0, .int (0) 0, .int (3) 0, .ref 527, .bool true, .int (429) 0, .ref 528, .none, .ref 529, .ref 530, .ref 531, .int (1191) 0, .int (476) 0, .str (PySem.Str.ofString "/claim/cut.py") 1192], #[]⟩
noncomputable def o533 (P : Params) : Obj := ⟨.type "function", none, .func (fdOf (stAt (clsBody (stAt topB 30)) 11) (PySem.Str.ofString "Reader._chunk_len_type") (.none) (.none) (docV (docOf (fnBody (stAt (clsBody (stAt topB 30)) 11))) 1193) (.str (PySem.Str.ofString "pypng.png") 1036) (.ref 532)), #[]⟩
noncomputable def o650 (P : Params) : Obj := ⟨.type "dict", none, .dict #[⟨PyData.keyHash P (PySem.Str.ofString "__module__"), .str (PySem.Str.ofString "__module__") 1045, .str (PySem.Str.ofString "pypng.png") 1036⟩,
    ⟨PyData.keyHash P (PySem.Str.ofString "__firstlineno__"), .str (PySem.Str.ofString "__firstlineno__") 1049, .int (232) 1048⟩,
    ⟨PyData.keyHash P (PySem.Str.ofString "__doc__"), .str (PySem.Str.ofString "__doc__") 1051, docV (docOf (clsBody (stAt topB 30))) 1050⟩,
    ⟨PyData.keyHash P (PySem.Str.ofString "__init__"), .str (PySem.Str.ofString "__init__") 1065, .ref 462⟩,
    ⟨PyData.keyHash P (PySem.Str.ofString "chunk"), .str (PySem.Str.ofString "chunk") 1082, .ref 470⟩,
    ⟨PyData.keyHash P (PySem.Str.ofString "chunks"), .str (PySem.Str.ofString "chunks") 1092, .ref 477⟩,
    ⟨PyData.keyHash P (PySem.Str.ofString "undo_filter"), .str (PySem.Str.ofString "undo_filter") 1106, .ref 484⟩,
    ⟨PyData.keyHash P (PySem.Str.ofString "_deinterlace"), .str (PySem.Str.ofString "_deinterlace") 1133, .ref 491⟩,
    ⟨PyData.keyHash P (PySem.Str.ofString "_iter_bytes_to_values"), .str (PySem.Str.ofString "_iter_bytes_to_values") 1143, .ref 498⟩,
    ⟨PyData.keyHash P (PySem.Str.ofString "_bytes_to_values"), .str (PySem.Str.ofString "_bytes_to_values") 1150, .ref 504⟩,
    ⟨PyData.keyHash P (PySem.Str.ofString "_iter_straight_packed"), .str (PySem.Str.ofString "_iter_straight_packed") 1165, .ref 511⟩,
    ⟨PyData.keyHash P (PySem.Str.ofString "validate_signature"), .str (PySem.Str.ofString "validate_signature") 1173, .ref 518⟩,
    ⟨PyData.keyHash P (PySem.Str.ofString "preamble"), .str (PySem.Str.ofString "preamble") 1182, .ref 526⟩,
    ⟨PyData.keyHash P (PySem.Str.ofString "_chunk_len_type"), .str (PySem.Str.ofString "_chunk_len_type") 1194, .ref 533⟩,
    ⟨PyData.keyHash P (PySem.Str.ofString "process_chunk"), .str (PySem.Str.ofString "process_chunk") 1207, .ref 541⟩,
    ⟨PyData.keyHash P (PySem.Str.ofString "_process_IHDR"), .str (PySem.Str.ofString "_process_IHDR") 1215, .ref 548⟩,
    ⟨PyData.keyHash P (PySem.Str.ofString "_process_PLTE"), .str (PySem.Str.ofString "_process_PLTE") 1223, .ref 555⟩,
    ⟨PyData.keyHash P (PySem.Str.ofString "_process_bKGD"), .str (PySem.Str.ofString "_process_bKGD") 1231, .ref 562⟩,
    ⟨PyData.keyHash P (PySem.Str.ofString "_process_tRNS"), .str (PySem.Str.ofString "_process_tRNS") 1239, .ref 569⟩,
    ⟨PyData.keyHash P (PySem.Str.ofString "_process_sBIT"), .str (PySem.Str.ofString "_process_sBIT") 1247, .ref 576⟩,
    ⟨PyData.keyHash P (PySem.Str.ofString "_process_pHYs"), .str (PySem.Str.ofString "_process_pHYs") 1255, .ref 583⟩,
    ⟨PyData.keyHash P (PySem.Str.ofString "read"), .str (PySem.Str.ofString "read") 1273, .ref 591⟩,
    ⟨PyData.keyHash P (PySem.Str.ofString "read_flat"), .str (PySem.Str.ofString "read_flat") 1280, .ref 598⟩,
    ⟨PyData.keyHash P (PySem.Str.ofString "palette"), .str (PySem.Str.ofString "palette") 1292, .ref 606⟩,
    ⟨PyData.keyHash P (PySem.Str.ofString "asDirect"), .str (PySem.Str.ofString "asDirect") 1299, .ref 613⟩,
    ⟨PyData.keyHash P (PySem.Str.ofString "_as_rescale"), .str (PySem.Str.ofString "_as_rescale") 1308, .ref 620⟩,
    ⟨PyData.keyHash P (PySem.Str.ofString "asRGB8"), .str (PySem.Str.ofString "asRGB8") 1315, .ref 627⟩,
    ⟨PyData.keyHash P (PySem.Str.ofString "asRGBA8"), .str (PySem.Str.ofString "asRGBA8") 1322, .ref 634⟩,
    ⟨PyData.keyHash P (PySem.Str.ofString "asRGB"), .str (PySem.Str.ofString "asRGB") 1329, .ref 641⟩,
    ⟨PyData.keyHash P (PySem.Str.ofString "asRGBA"), .str (PySem.Str.ofString "asRGBA") 1336, .ref 648⟩,
    ⟨PyData.keyHash P (PySem.Str.ofString "__static_attributes__"), .str (PySem.Str.ofString "__static_attributes__") 1341, .ref 649⟩,
    ⟨PyData.keyHash P (PySem.Str.ofString "__dict__"), .str (PySem.Str.ofString "__dict__") 1343, .ref 652⟩,
    ⟨PyData.keyHash P (PySem.Str.ofString "__weakref__"), .str (PySem.Str.ofString "__weakref__") 1345, .ref 653⟩] 3, #[]⟩
noncomputable def o651 (P : Params) : Obj := ⟨.type "type", none, .cls { name := (PySem.Str.ofString "Reader"), bases := [.type "object"], mro := [.ref 651, .type "object"], ns := 650, qualname := (PySem.Str.ofString "Reader"), hasDict := true, slotNames := [], subclasses := [], abstract := false, collection := none, hasDel := false }, #[none, none, some (.str (PySem.Str.ofString "Reader") 1038), some (.str (PySem.Str.ofString "Reader") 1046), some (.builtin "object.__new__"), some (.bool true)]⟩
noncomputable def o652 (P : Params) : Obj := ⟨.type "getset_descriptor", none, .fields #[.str (PySem.Str.ofString "__dict__") 1342, .ref 651, .builtin "function.__dict__", .builtin "function.__dict__#set"], #[]⟩
noncomputable def o653 (P : Params) : Obj := ⟨.type "getset_descriptor", none, .fields #[.str (PySem.Str.ofString "__weakref__") 1344, .ref 651, .builtin "ExceptionGroup.__weakref__", .none], #[]⟩
noncomputable def o696 (P : Params) : Obj := ⟨.type "code", none, .fields #[.str (PySem.Str.ofString "_law_remainder") 1427, .str (PySem.Str.ofString "_law_remainder") 1428, .str (PySem.Str.ofString "/claim/cut.py") 1429, .int (690) 0, .int (1) 0, .int (0) 0, .int (0) 0, .int (3) 0, .ref 691, .bool true, .int (429) 0, .ref 692, .none, .ref 693, .ref 694, .ref 695, .int (1434) 0, .int (690) 0, .str (PySem.Str.ofString "/claim/cut.py") 1435], #[]⟩
noncomputable def o697 (P : Params) : Obj := ⟨.type "function", none, .func (fdOf (stAt topB 37) (PySem.Str.ofString "_law_remainder") (.none) (.none) .none (.str (PySem.Str.ofString "law_bq0018_03") 1425) (.ref 696)), #[]⟩
noncomputable def o701 (P : Params) : Obj := ⟨.type "code", none, .fields #[.str (PySem.Str.ofString "law") 1437, .str (PySem.Str.ofString "law") 1438, .str (PySem.Str.ofString "/claim/cut.py") 1439, .int (698) 0, .int (1) 0, .int (0) 0, .int (0) 0, .int (3) 0, .ref 698, .bool true, .int (429) 0, .ref 699, .none, .none, .none, .ref 700, .int (1440) 0, .int (698) 0, .str (PySem.Str.ofString "/claim/cut.py") 1441], #[]⟩
noncomputable def o702 (P : Params) : Obj := ⟨.type "function", none, .func (fdOf (stAt topB 38) (PySem.Str.ofString "law") (.none) (.none) .none (.str (PySem.Str.ofString "law_bq0018_03") 1425) (.ref 701)), #[]⟩
noncomputable def KK (P : Params) : Frag := (nat_lit 3, o3 P) :: (nat_lit 68, o68 P) :: (nat_lit 76, o76 P) :: (nat_lit 82, o82 P) :: (nat_lit 83, o83 P) :: (nat_lit 89, o89 P) :: (nat_lit 90, o90 P) :: (nat_lit 96, o96 P) :: (nat_lit 97, o97 P) :: (nat_lit 103, o103 P) :: (nat_lit 104, o104 P) :: (nat_lit 125, o125 P) :: (nat_lit 126, o126 P) :: (nat_lit 127, o127 P) :: (nat_lit 128, o128 P) :: (nat_lit 138, o138 P) :: (nat_lit 144, o144 P) :: (nat_lit 145, o145 P) :: (nat_lit 162, o162 P) :: (nat_lit 163, o163 P) :: (nat_lit 164, o164 P) :: (nat_lit 165, o165 P) :: (nat_lit 168, o168 P) :: (nat_lit 169, o169 P) :: (nat_lit 331, o331 P) :: (nat_lit 332, o332 P) :: (nat_lit 333, o333 P) :: (nat_lit 344, o344 P) :: (nat_lit 345, o345 P) :: (nat_lit 368, o368 P) :: (nat_lit 369, o369 P) :: (nat_lit 372, o372 P) :: (nat_lit 378, o378 P) :: (nat_lit 379, o379 P) :: (nat_lit 385, o385 P) :: (nat_lit 386, o386 P) :: (nat_lit 455, o455 P) :: (nat_lit 461, o461 P) :: (nat_lit 462, o462 P) :: (nat_lit 463, o463 P) :: (nat_lit 469, o469 P) :: (nat_lit 470, o470 P) :: (nat_lit 517, o517 P) :: (nat_lit 518, o518 P) :: (nat_lit 532, o532 P) :: (nat_lit 533, o533 P) :: (nat_lit 650, o650 P) :: (nat_lit 651, o651 P) :: (nat_lit 652, o652 P) :: (nat_lit 653, o653 P) :: (nat_lit 696, o696 P) :: (nat_lit 697, o697 P) :: (nat_lit 701, o701 P) :: (nat_lit 702, o702 P) :: []
def ka : List Addr := nat_lit 3 :: nat_lit 68 :: nat_lit 76 :: nat_lit 82 :: nat_lit 83 :: nat_lit 89 :: nat_lit 90 :: nat_lit 96 :: nat_lit 97 :: nat_lit 103 :: nat_lit 104 :: nat_lit 125 :: nat_lit 126 :: nat_lit 127 :: nat_lit 128 :: nat_lit 138 :: nat_lit 144 :: nat_lit 145 :: nat_lit 162 :: nat_lit 163 :: nat_lit 164 :: nat_lit 165 :: nat_lit 168 :: nat_lit 169 :: nat_lit 331 :: nat_lit 332 :: nat_lit 333 :: nat_lit 344 :: nat_lit 345 :: nat_lit 368 :: nat_lit 369 :: nat_lit 372 :: nat_lit 378 :: nat_lit 379 :: nat_lit 385 :: nat_lit 386 :: nat_lit 455 :: nat_lit 461 :: nat_lit 462 :: nat_lit 463 :: nat_lit 469 :: nat_lit 470 :: nat_lit 517 :: nat_lit 518 :: nat_lit 532 :: nat_lit 533 :: nat_lit 650 :: nat_lit 651 :: nat_lit 652 :: nat_lit 653 :: nat_lit 696 :: nat_lit 697 :: nat_lit 701 :: nat_lit 702 :: []
end Mine
end

/-! ### part FL -/
section
open PySem PySem.W PySem.Calls PyProof.Rows
namespace Mine
set_option maxRecDepth 100000
/-- a tree's run at ONE place (the library's `wpAny` speaks of all places at once) -/
def wpF {α : Type} (M : Model) (Γ : PySem.Ctx) (t : Sem α) (Q : α → Shared → Prop) (E : Value → Shared → Prop) (s : Shared) : Prop :=
  ∀ p, Sem.wp M Γ t (fun a _ s' => Q a s') (fun e _ s' => E e s') p s
def codeF (M : Model) (Γ : PySem.Ctx) (R : Result → Shared → Prop) (s : Shared) : Prop := ∀ p, wpCode M Γ R p s
section
variable {α β : Type} {M : Model} {Γ : PySem.Ctx} {A : Around} {E : Value → Shared → Prop} {s : Shared} {env : Env}
theorem F_of {t : Sem α} {Q : α → Shared → Prop} (hΓ : Γ.In A) (h : wpAny M A t Q E s) : wpF M Γ t Q E s := fun p => h Γ p hΓ
theorem F_pure {a : α} {Q : α → Shared → Prop} (h : Q a s) : wpF M Γ (pure a) Q E s := fun _ => h
theorem F_mono {t : Sem α} {Q Q' : α → Shared → Prop} {E' : Value → Shared → Prop} (h : wpF M Γ t Q E s) (hQ : ∀ a s, Q a s → Q' a s) (hE : ∀ e s, E e s → E' e s) : wpF M Γ t Q' E' s :=
  fun p => Sem.wp_mono M Γ t (fun a _ s => hQ a s) (fun e _ s => hE e s) p s (h p)
theorem F_bind {m : Sem α} {f : α → Sem β} {Q : β → Shared → Prop} (h : wpF M Γ m (fun a s' => wpF M Γ (f a) Q E s') E s) : wpF M Γ (m >>= f) Q E s := fun p => by
  rw [Sem.wp_bind']
  exact Sem.wp_mono M Γ m (fun a p' s' h' => h' p') (fun _ _ _ h' => h') p s (h p)
theorem F_holding {vs : List Value} {m : Sem α} {Q : α → Shared → Prop} (h : wpF M Γ m Q E s) : wpF M Γ (holding vs m) Q E s := fun p => by rw [Sem.wp_holding]; exact h p
theorem F_keep {vs : List Value} {m : Sem α} {Q : α → Shared → Prop} (h : wpF M Γ m Q E s) : wpF M Γ (m.keep vs) Q E s := fun p => by rw [Sem.wp_keep]; exact h p
theorem F_attempt {m : Sem α} {Q : Except Value α → Shared → Prop} (h : wpF M Γ m (fun a => Q (.ok a)) (fun e => Q (.error e)) s) : wpF M Γ m.attempt Q E s := fun p => by rw [Sem.wp_attempt]; exact h p
theorem F_onRaise {m : Sem α} {k : Value → Sem Unit} {Q : α → Shared → Prop} (h : wpF M Γ m Q (fun e s' => wpF M Γ (k e) (fun _ s'' => E e s'') E s') s) : wpF M Γ (m.onRaise k) Q E s := fun p => by
  rw [Sem.wp_onRaise]
  exact Sem.wp_mono M Γ m (fun _ _ _ h' => h') (fun e p' s' h' => h' p') p s (h p)
theorem F_standAt {pos : Pos} {Q : Unit → Shared → Prop} (h : Q () s) : wpF M Γ (standAt pos) Q E s := fun _ => h
theorem F_point {l : List Value} {Q : Unit → Shared → Prop} (h : Q () s) : wpF M Γ (Sem.point l .pure) Q E s := fun _ => h
theorem F_eq {t : Sem α} {a : α} {Q : α → Shared → Prop} (e : t = pure a) (h : Q a s) : wpF M Γ t Q E s := by subst e; exact F_pure h
/-- the statements, one after the other -/
theorem F_execs {st : Stmt} {rest : List Stmt} {Q : Flow → Shared → Prop} (h : wpF M Γ (exec st env) (fun f s' => match f with | .next => wpF M Γ (execs rest env) Q E s' | f => Q f s') E s) :
    wpF M Γ (execs (st :: rest) env) Q E s := by
  rw [execs_cons]
  refine F_bind (F_mono h (fun f s' h' => ?_) fun _ _ x => x)
  cases f <;> first | exact h' | exact F_pure h'
theorem F_execs_nil {Q : Flow → Shared → Prop} (h : Q .next s) : wpF M Γ (execs [] env) Q E s := fun _ => h
/-- a statement that the library walks -/
theorem F_stmt {st : Stmt} {rest : List Stmt} {Q : Flow → Shared → Prop} (hΓ : Γ.In A) (h : wpAny M A (exec st env) (fun f s' => match f with | .next => wpF M Γ (execs rest env) Q E s' | f => Q f s') E s) :
    wpF M Γ (execs (st :: rest) env) Q E s := F_execs (F_of hΓ h)
theorem F_Assign_Name {x : Str} {pos' pos : Pos} {value : Expr} {Q : Flow → Shared → Prop} (hΓ : Γ.In A)
    (h : wpF M Γ (eval value env) (fun v s₁ => wpAny M A (storeName env x v) (fun _ => Q .next) E s₁) E s)
    (hs : swapsWith value (some (.Name x pos')) pos.line env = pure false := by rfl) : wpF M Γ (exec (.Assign [.Name x pos'] value pos) env) Q E s := fun p => by
  simp only [exec_Assign_Name env x pos' value pos hs, Sem.wp_bind', Sem.wp_cmd_standAt, Sem.wp_bindName, Sem.wp_pure']
  exact Sem.wp_mono M Γ _ (fun v _ s₁ h₁ => h₁ Γ _ hΓ) (fun _ _ _ h' => h') _ _ (h _)
theorem F_Assign_Attribute {o : Expr} {attr : Str} {pos' pos : Pos} {value : Expr} {Q : Flow → Shared → Prop} (hΓ : Γ.In A)
    (h : wpF M Γ (eval value env) (fun v s₁ => wpAny M A (eval o env) (fun ov s₂ => wpAny M A (setAttr ov attr v) (fun _ => Q .next) E s₂) E s₁) E s)
    (hs : swapsWith value (some (.Attribute o attr pos')) pos.line env = pure false := by rfl) : wpF M Γ (exec (.Assign [.Attribute o attr pos'] value pos) env) Q E s := fun p => by
  simp only [plainObj_exec_Assign_Attribute o attr pos' value pos hs, assign_Attribute, Sem.wp_bind', Sem.wp_holding, Sem.wp_cmd_standAt, Sem.wp_release, Sem.wp_pure']
  exact Sem.wp_mono M Γ _ (fun v p₁ s₁ h₁ => Sem.wp_mono M Γ _ (fun ov _ s₂ h₂ => h₂ Γ _ hΓ) (fun _ _ _ h' => h') _ _ (h₁ Γ p₁ hΓ)) (fun _ _ _ h' => h') _ _ (h _)
theorem F_If {test : Expr} {body orelse : List Stmt} {pos : Pos} {Q : Flow → Shared → Prop} (hΓ : Γ.In A)
    (h : wpAny M A (isTrue test env (eval test env)) (fun b s₂ => if b then wpF M Γ (execs body env) Q E s₂ else wpF M Γ (execs orelse env) Q E s₂) E s) :
    wpF M Γ (exec (.If test body orelse pos) env) Q E s := fun p => by
  simp only [exec_If, Sem.wp_bind', Sem.wp_cmd_standAt]
  refine Sem.wp_mono M Γ _ (fun b p₂ s₂ h₂ => ?_) (fun _ _ _ h' => h') _ _ (h Γ _ hΓ)
  cases b <;> exact h₂ p₂
theorem F_Try {body : List Stmt} {h₀ : ExceptHandler} {hs : List ExceptHandler} {pos : Pos} {Q : Flow → Shared → Prop} (hΓ : Γ.In A)
    (h : wpF M Γ (execs body env) (fun f s₁ => Q f s₁)
      (fun e s₁ => wpAny M A (noteFrame e env) (fun _ s₂ => wpAny M A (setFlight e none) (fun _ s₃ => wpAny M A (handleBy e env (h₀ :: hs)) Q E s₃) E s₂) E s₁) s) :
    wpF M Γ (exec (.Try body (h₀ :: hs) [] [] pos) env) Q E s := by
  rw [arm_exec_Try]
  refine F_bind (F_standAt ?_)
  unfold tryStmt
  simp only [List.isEmpty_nil, if_true, List.isEmpty_cons, Bool.false_and, Bool.false_eq_true, if_false]
  refine F_bind (F_attempt (F_mono h (fun f s₁ h₁ => ?_) fun e s₁ h₁ => ?_))
  · cases f <;> first | exact F_pure h₁ | exact F_execs_nil h₁
  · exact F_of hΓ (wpAny_bind (wpAny_mono h₁ (fun _ _ h₂ => wpAny_bind h₂) fun _ _ x => x))
/-- a call: the callee runs one place deeper -/
theorem F_call {f : Value} {pos : List Value} {kw : List (Str × Value)} {Q : Value → Shared → Prop}
    (hc : ∀ p, codeF M (Γ.enter (.call f ⟨pos, kw⟩) none p) (fun r s' => match r with | .ok (.ret v) => Q v s' | .ok _ => False | .error e => E e s') s) :
    wpF M Γ (call f pos kw) Q E s := fun p => by
  show Sem.wp M Γ (runValue (.call f ⟨pos, kw⟩)) _ _ p s
  rw [Sem.wp_runValue]; exact hc p p
theorem F_tree {R : Result → Shared → Prop}
    (h : wpF M Γ (M.den Γ.code) (fun fin s' => match fin with | .done f => R (.ok f) s' | .again c' => c'.quiet = true ∧ codeF M (Γ.goto c') R s') (fun e s' => R (.error e) s') s) :
    codeF M Γ R s := fun p => by
  rw [wpCode_iff_wp]
  refine Sem.wp_mono M Γ _ (fun fin p' s' h' => ?_) (fun _ _ _ h' => h') p s (h p)
  cases fin with
  | done f => exact h'
  | again c' => exact ⟨h'.1, h'.2 p'⟩
theorem codeF_mono {R R' : Result → Shared → Prop} (h : codeF M Γ R s) (hR : ∀ r s, R r s → R' r s) : codeF M Γ R' s := fun p => wpCode_mono hR (h p)
theorem F_code {R : Result → Shared → Prop} (hB : Γ.Below A) (h : codeAny M A Γ.code R s) : codeF M Γ R s := fun p => h Γ p rfl hB
end
end Mine
end

/-! ### part FB -/
section
open PySem PySem.W PySem.Calls PyProof.Rows
namespace Mine
set_option maxRecDepth 1000000
theorem ba_mro : mroOf (.type "bytearray") = pure [.type "bytearray", .type "object"] := by rw [mroOf_type]; kernel_rfl
theorem ba_lookup_new : typeLookup (.type "bytearray") "__new__" = pure (some (.builtin "bytearray.__new__")) := by rw [typeLookup_type, builtinLookup_eq_fast]; kernel_rfl
theorem ba_slot_init : Slot "bytearray" "__init__" "bytearray.__init__" :=
  .of (owner := "bytearray") (n := "__init__") (by rw [typeLookup_type, builtinLookup_eq_fast]; kernel_rfl) (by decide +kernel) (by decide +kernel) (by decide +kernel)
    (by first | exact .inl (by decide +kernel) | exact .inr (by decide +kernel)) (by rw [isSubtype_type]; kernel_rfl)
theorem ba_called : TypeCalled "bytearray" "bytearray.__new__" "bytearray.__init__" :=
  ⟨by decide +kernel, by decide +kernel, ⟨_, _, ba_mro⟩, madeBy_type ba_mro ba_lookup_new (by decide +kernel), by decide +kernel, by rw [isSubtype_type]; kernel_rfl, ba_slot_init⟩
theorem ba_typeCall (a : Value) : checkTypeCall "bytearray" ⟨[a], []⟩ = pure () := by kernel_rfl
theorem ba_newCall (a : Value) : checkBuiltinCall "bytearray.__new__" ⟨[.type "bytearray", a], []⟩ = pure () := by kernel_rfl
theorem ba_entry_new : entryFor table "bytearray.__new__" = some Builtin.«list.__new__» :=
  entryFor_alias (id' := "list.__new__") (by rw [fastTable_eq_tree]; kernel_rfl) (by decide +kernel) (by decide +kernel) (by rw [fastTable_eq_tree]; kernel_rfl)
theorem ba_entry_init : entryFor table "bytearray.__init__" = some Builtin.«bytearray.__init__» := by first | exact entryFor_of_tree (by kernel_rfl) | exact entryFor_of_fast (by kernel_rfl) | kernel_rfl
theorem ba_plain_new : plainId "bytearray.__new__" = true := by decide +kernel
theorem ba_owner : ("bytearray.__new__".splitOn ".__new__").headD "" = "bytearray" := by simp +decide [String.splitOn, String.splitOnAux]
theorem ba_sub : isSubtype (.type "bytearray") (.type "bytearray") = pure true := by rw [isSubtype_type]; kernel_rfl
section
variable {prog : Program} {w : World} {A : Around} {E : Value → Shared → Prop} {s : Shared}
theorem code_ba_new (a : Value) {Q₁ : Value → Shared → Prop}
    (h : Q₁ (.ref s.heap.objs.size) { s with heap := s.heap.push { cls := .type "bytearray", data := .bytearray #[] } }) :
    codeAny (model prog w) A (.call (.builtin "bytearray.__new__") ⟨[.type "bytearray", a], []⟩) (wants Q₁ E) s := by
  refine codeAny_of_tree ?_
  show wpAny _ A.in1 (do checkBuiltinCall "bytearray.__new__" ⟨[.type "bytearray", a], []⟩; again (.builtin "bytearray.__new__" ⟨[.type "bytearray", a], []⟩)) _ _ s
  refine wpAny_bind (wpAny_of_eq (ba_newCall a) (wpAny_pure ⟨plainId_quiet ba_plain_new _, codeAny_builtin_stack ba_entry_new rfl fun p st => ?_⟩))
  rw [Around.under_plainId ba_plain_new _]
  have hsub := ba_sub
  have hown := ba_owner
  obtain ⟨hp, g, d, tk, os⟩ := s
  simp only [hown]
  wp_walk
  exact h
end
end Mine
end

/-! ### part FB2 -/
section
open PySem PySem.W PySem.Calls PyProof.Rows
namespace Mine
set_option maxRecDepth 1000000
def exIds : List String := ["bytearray.__contains__", "bytearray.__mod__", "bytearray.__rmod__", "_struct.pack_into.held", "bytearray.find.held"] ++ Builtin.Bytes.decodersThatHold
/-- a code that `exported` does not look for -/
def quietC : Code → Bool
  | .builtin id _ => !(exIds.contains id)
  | _ => true
def Clean (Γ : PySem.Ctx) : Prop := quietC Γ.code = true ∧ ∀ x ∈ Γ.below, quietC x.1 = true
theorem Clean.enter {Γ : PySem.Ctx} (h : Clean Γ) {c : Code} {o : Option Value} {p : Pos} (hc : quietC c = true) : Clean (Γ.enter c o p) :=
  ⟨hc, fun x hx => by rcases List.mem_cons.mp hx with rfl | hx <;> first | exact h.1 | exact h.2 x hx⟩
theorem Clean.goto {Γ : PySem.Ctx} (h : Clean Γ) {c : Code} (hc : quietC c = true) : Clean (Γ.goto c) := ⟨hc, h.2⟩
theorem F_exported {M : Model} {Γ : PySem.Ctx} {E : Value → Shared → Prop} {s : Shared} {Q : Bool → Shared → Prop} {self : Value} (hC : Clean Γ) (h : Q false s) : wpF M Γ (Builtin.Bytes.exported self) Q E s := fun p => by
  unfold Builtin.Bytes.exported
  rw [Sem.wp_bind']
  show Sem.wp M Γ (Sem.stack Sem.pure) _ _ p s
  rw [Sem.wp_stack, Sem.wp_pure, Sem.wp_pure']
  refine Eq.mp (congrArg (fun b => Q b s) (Eq.symm ?_)) h
  rw [List.any_eq_false]
  intro x hx
  have hq : quietC x.1 = true := by rcases List.mem_cons.mp hx with rfl | hx <;> first | exact hC.1 | exact hC.2 x hx
  obtain ⟨c, q⟩ := x
  revert hq
  dsimp only
  unfold quietC
  split <;> intro hq <;> (repeat' split) <;> simp_all [exIds]
end Mine
end

/-! ### part FB3 -/
section
open PySem PySem.W PySem.Calls PyProof.Rows
namespace Mine
set_option maxRecDepth 1000000
theorem bl_index : typeLookup (.type "bytes") "__index__" = pure none := by rw [typeLookup_type, builtinLookup_eq_fast]; kernel_rfl
theorem bl_release : typeLookup (.type "bytes") "__release_buffer__" = pure none := by rw [typeLookup_type, builtinLookup_eq_fast]; kernel_rfl
theorem bl_buffer : typeLookup (.type "bytes") "__buffer__" = pure (some (.builtin "bytes.__buffer__")) := by rw [typeLookup_type, builtinLookup_eq_fast]; kernel_rfl
theorem ba_release : typeLookup (.type "bytearray") "__release_buffer__" = pure (some (.builtin "bytearray.__release_buffer__")) := by rw [typeLookup_type, builtinLookup_eq_fast]; kernel_rfl
theorem ba_bind (v : Value) : Builtin.Bytes.bindOptional "bytearray.__init__" "bytearray" ["source", "encoding", "errors"] [v] [] = pure [some v, none, none] := by kernel_rfl
theorem buffer_b (id : String) (b : Array UInt8) (t : Tok) : Builtin.Bytes.buffer? id (.bytes b t) true = pure (some b) := by
  have e : specialOf (.bytes b t) "__buffer__" = typeLookup (.type "bytes") "__buffer__" := rfl
  unfold Builtin.Bytes.buffer?
  rw [e, bl_buffer]
  kernel_rfl
theorem F_if_false {α : Type} {M : Model} {Γ : PySem.Ctx} {E : Value → Shared → Prop} {s : Shared} {c : Bool} {a b : Sem α} {Q : α → Shared → Prop} (hc : c = false) (h : wpF M Γ b Q E s) : wpF M Γ (if c = true then a else b) Q E s := by
  subst hc; exact h
theorem F_if_true {α : Type} {M : Model} {Γ : PySem.Ctx} {E : Value → Shared → Prop} {s : Shared} {c : Bool} {a b : Sem α} {Q : α → Shared → Prop} (hc : c = true) (h : wpF M Γ a Q E s) : wpF M Γ (if c = true then a else b) Q E s := by
  subst hc; exact h
section
variable {prog : Program} {w : World} {A : Around} {Γ : PySem.Ctx} {E : Value → Shared → Prop} {s : Shared}
theorem wpAny_write_ba {M : Model} {S : Addr} {b : Array UInt8} {f : Array UInt8 → Array UInt8} {Q : Unit → Shared → Prop} (hS : s.heap.get? S = some { cls := .type "bytearray", data := .bytearray b }) (hz : (f b).size ≤ sizeLine)
    (h : ∀ h', (∀ a o, a ≠ S → s.heap.get? a = some o → h'.get? a = some o) → h'.get? S = some { cls := .type "bytearray", data := .bytearray (f b) } → Q () { s with heap := h' }) : wpAny M A (Builtin.Bytes.write (.ref S) f) Q E s := by
  show wpAny _ _ (updateBytearray S f) _ _ _
  unfold updateBytearray
  refine wpAny_bind (wpAny_load hS ?_)
  show wpAny _ _ (update S (Obj.mapBytearray f) >>= fun _ => lookBehind S) _ _ _
  refine wpAny_bind (wpAny_update hS ?_)
  have hS₂ : (s.heap.update S (Obj.mapBytearray f)).get? S = some { cls := .type "bytearray", data := .bytearray (f b) } := Heap.get?_update_self (Obj.mapBytearray f) hS rfl
  refine wpAny_lookBehind hS₂ ?_ (h _ (fun a o hne e => (Heap.get?_update_other _ _ (Ne.symm hne)).trans e) hS₂)
  show (if (f b).size > sizeLine then some "bytearray:memory" else none) = none
  rw [if_neg (by omega)]
theorem ownRelease_ba {M : Model} {S : Addr} {Q : Bool → Shared → Prop} (hT : s.TypeIs (.ref S) "bytearray") (h : Q false s) : wpAny M A (Builtin.Bytes.ownRelease (.ref S)) Q E s := by
  unfold Builtin.Bytes.ownRelease Builtin.Bytes.slotIsOwn
  refine wpAny_bind (wpAny_bind (wpAny_specialOf hT ba_release ?_))
  dsimp only
  refine bm_if_false (by decide +kernel) ?_
  refine wpAny_isInstance hT (b := true) ?_ ?_
  · rw [isSubtype_type]; kernel_rfl
  · exact wpAny_pure h
theorem F_ba_init {S : Addr} {b : Array UInt8} {t : Tok} {Q : PySem.Fin → Shared → Prop} (hΓ : Γ.In A) (hC : Clean Γ) (hS : s.heap.get? S = some { cls := .type "bytearray", data := .bytearray #[] }) (hz : b.size ≤ sizeLine)
    (h : ∀ h', (∀ a o, a ≠ S → s.heap.get? a = some o → h'.get? a = some o) → h'.get? S = some { cls := .type "bytearray", data := .bytearray b } → Q (.done (.ret .none)) { s with heap := h' }) :
    wpF (model prog w) Γ (Builtin.«bytearray.__init__» ⟨[.ref S, .bytes b t], []⟩) Q E s := by
  have hT : s.TypeIs (.ref S) "bytearray" := ⟨_, hS, rfl⟩
  unfold Builtin.«bytearray.__init__»
  dsimp only
  refine F_bind (F_of hΓ (ownRelease_ba hT ?_))
  refine F_if_false rfl ?_
  refine F_bind (F_eq (ba_bind _) ?_)
  refine F_bind (F_eq (a := ()) rfl ?_)
  refine F_bind (F_eq (a := ()) rfl ?_)
  refine F_bind ?_
  show wpF _ _ (Builtin.Bytes.exported (Value.ref S) >>= _) _ _ _
  refine F_bind (F_exported hC ?_)
  show wpF _ _ (Builtin.Bytes.exportsOf (Value.ref S) >>= _) _ _ _
  refine F_bind (F_of hΓ ?_)
  show wpAny _ _ (load S >>= _) _ _ _
  refine wpAny_bind (wpAny_load hS ?_)
  refine wpAny_pure ?_
  refine F_pure ?_
  refine F_if_false (by decide) ?_
  refine F_of hΓ ?_
  refine wpAny_bind (wpAny_write_ba hS (Nat.zero_le _) fun h₁ hk₁ hS₁ => ?_)
  dsimp only
  refine wpAny_bind (wpAny_of_eq (a := none) rfl ?_)
  refine bm_if_false rfl ?_
  refine wpAny_bind (wpAny_of_eq (a := ()) rfl ?_)
  refine wpAny_bind (wpAny_specialOf (PySem.W.typeIs_bytes _ _ _) bl_index ?_)
  refine bm_if_false rfl ?_
  refine wpAny_bind (wpAny_of_eq (buffer_b _ b t) ?_)
  dsimp only
  refine wpAny_bind (wpAny_rule ?_)
  refine wpAny_bind (wpAny_write_ba hS₁ hz fun h₂ hk₂ hS₂ => ?_)
  refine wpAny_bind (wpAny_pure (wpAny_pure ?_))
  exact h h₂ (fun a o hn e => hk₂ a o hn (hk₁ a o hn e)) hS₂
theorem quietC_builtin {id : String} (h : exIds.contains id = false) (args : Args) : quietC (.builtin id args) = true := by show (!(exIds.contains id)) = true; rw [h]; rfl
theorem F_builtin {R : Result → Shared → Prop} {id : String} {args : Args} {b : Builtin} (hc : Γ.code = .builtin id args) (hb : entryFor table id = some b)
    (h : wpF (model prog w) Γ (b args) (fun fin s' => match fin with | .done f => R (.ok f) s' | .again c' => c'.quiet = true ∧ codeF (model prog w) (Γ.goto c') R s') (fun e s' => R (.error e) s') s) :
    codeF (model prog w) Γ R s := by
  refine F_tree ?_
  rw [hc]
  show wpF _ _ (match entryFor table id with | some b => b args | none => unsupported ((withoutEnding? id "#data").getD id)) _ _ s
  rw [hb]; exact h
set_option maxHeartbeats 8000000 in
theorem F_call_bytearray {b : Array UInt8} {t : Tok} {Q : Value → Shared → Prop} (hΓ : Γ.In A) (hC : Clean Γ) (hz : b.size ≤ sizeLine)
    (h : ∀ h', (∀ a o, s.heap.get? a = some o → h'.get? a = some o) → h'.get? s.heap.objs.size = some { cls := .type "bytearray", data := .bytearray b } → Q (.ref s.heap.objs.size) { s with heap := h' }) :
    wpF (model prog w) Γ (call (.type "bytearray") [.bytes b t]) Q E s := by
  refine F_call fun p => F_tree ?_
  show wpF _ _ (callAny (.type "bytearray") _) _ _ _
  refine F_pure ⟨Code.quiet_builtin _ (by decide +kernel), F_builtin (id := "type.__call__") (args := ⟨[.type "bytearray", .bytes b t], []⟩) rfl F.entry_type_call ?_⟩
  have hB : ((Γ.enter (.call (.type "bytearray") ⟨[.bytes b t], []⟩) none p).goto (.builtin "type.__call__" ⟨[.type "bytearray", .bytes b t], []⟩)).Below A := hΓ.enter _ none p (by intro x; cases x)
  have hC1 : Clean ((Γ.enter (.call (.type "bytearray") ⟨[.bytes b t], []⟩) none p).goto (.builtin "type.__call__" ⟨[.type "bytearray", .bytes b t], []⟩)) := (hC.enter (by rfl)).goto (quietC_builtin (by decide +kernel) _)
  have hΓ1 := hB.in
  rw [show A.under ((Γ.enter (.call (.type "bytearray") ⟨[.bytes b t], []⟩) none p).goto (.builtin "type.__call__" ⟨[.type "bytearray", .bytes b t], []⟩)).code = A.in1 from Around.under_plain (weight_type_call_type "bytearray" [.bytes b t] []) rfl] at hΓ1
  change wpF _ ((Γ.enter (.call (.type "bytearray") ⟨[.bytes b t], []⟩) none p).goto (.builtin "type.__call__" ⟨[.type "bytearray", .bytes b t], []⟩)) _ _ _ _
  generalize ((Γ.enter (.call (.type "bytearray") ⟨[.bytes b t], []⟩) none p).goto (.builtin "type.__call__" ⟨[.type "bytearray", .bytes b t], []⟩)) = Γ1 at hΓ1 hC1 ⊢
  clear hB
  obtain ⟨c, tl, hmro⟩ := ba_called.mro
  unfold Builtin.«type.__call__»
  dsimp only
  refine F_if_false (by decide) ?_
  refine F_if_false ba_called.canCreate ?_
  refine F_bind (F_eq (ba_typeCall _) ?_)
  refine F_bind (F_eq hmro ?_)
  refine F_if_false rfl ?_
  refine F_bind (F_eq ba_called.made ?_)
  dsimp only
  refine F_bind (F_pure ?_)
  refine F_bind (F_holding (F_of hΓ1 (wpAny_call (code_ba_new (E := fun _ _ => False) (Q₁ := fun v s' => v = .ref s.heap.objs.size ∧ s' = { s with heap := s.heap.push { cls := .type "bytearray", data := .bytearray #[] } }) _ ⟨rfl, rfl⟩ |> codeAny_mono <| fun r s' hr => ?_))))
  rcases r with e | fl
  · exact hr.elim
  cases fl with
  | ret obj =>
    obtain ⟨rfl, rfl⟩ := hr
    have hS : (s.heap.push { cls := .type "bytearray", data := .bytearray #[] }).get? s.heap.objs.size = some { cls := .type "bytearray", data := .bytearray #[] } := Heap.get?_push_size _ rfl
    have hT : Shared.TypeIs { s with heap := s.heap.push { cls := .type "bytearray", data := .bytearray #[] } } (.ref s.heap.objs.size) "bytearray" := ⟨_, hS, rfl⟩
    refine F_bind (F_of hΓ1 (wpAny_isInstance hT ba_sub ?_))
    refine F_if_false rfl ?_
    refine F_bind (F_holding ?_)
    unfold callSpecial?
    refine F_bind (F_of hΓ1 (wpAny_specialOf hT ba_slot_init.lookup ?_))
    dsimp only
    refine F_holding ?_
    refine F_bind (F_eq (ba_slot_init.bind _) ?_)
    dsimp only
    refine F_bind (F_call fun p2 => F_tree ?_)
    have hB2 : (Γ1.enter (.call (.builtin "bytearray.__init__") ⟨[.ref s.heap.objs.size] ++ [.bytes b t], []⟩) none p2).Below A.in1 := hΓ1.enter _ none p2 (by intro x; cases x)
    have hC2 : Clean (Γ1.enter (.call (.builtin "bytearray.__init__") ⟨[.ref s.heap.objs.size] ++ [.bytes b t], []⟩) none p2) := hC1.enter (by rfl)
    show wpF _ _ (do checkBuiltinCall "bytearray.__init__" ⟨[.ref s.heap.objs.size, .bytes b t], []⟩; again (.builtin "bytearray.__init__" ⟨[.ref s.heap.objs.size, .bytes b t], []⟩)) _ _ _
    refine F_bind (F_of hB2.in (ba_slot_init.check _ _ _ _ _ _ _ _ hT (by unfold argsOk; kernel_rfl) ?_))
    refine F_pure ⟨plainId_quiet ba_slot_init.plain _, F_builtin (id := "bytearray.__init__") rfl ba_entry_init (F_ba_init (hB2.goto _).in (hC2.goto (quietC_builtin (by decide +kernel) _)) hS hz fun h' hk hS' => ?_)⟩
    refine F_pure ?_
    refine F_if_false (by decide) ?_
    refine F_pure ?_
    exact h h' (fun a o e => hk a o (Nat.ne_of_lt (Heap.lt_size e)) (Heap.get?_push_of_some _ e)) hS'
  | _ => exact hr.elim
end
end Mine
end

/-! ### part FE -/
section
open PySem PySem.W PySem.Calls PyProof.Rows
namespace Mine
set_option maxRecDepth 100000
section
variable {prog : Program} {w : World} {A A₀ : Around} {Γ : PySem.Ctx} {E : Value → Shared → Prop} {s : Shared}
/-- a function's code at one place, entered: the frame is made, the body stands -/
theorem F_function {R : Result → Shared → Prop} {a : Addr} {args : Args} {o : Obj} {fd : FuncData} {body : List Stmt} (hc : Γ.code = .call (.ref a) args) (hB : Γ.Below A) (hroom : A.depth < recursionLimit)
    (ho : s.heap.get? a = some o) (hd' : o.data = .func fd) (hco : fd.scope.isCoroutine = false) (hgen : fd.scope.isGenerator = false) (hbody : fd.body = .stmts body) (hcd : s.heap.CodeRec fd.code fd.qualname)
    (h : wpAny (model prog w) A.in1 (bindArgs fd args) (fun binds s₁ =>
      wpAny (model prog w) A.in1 (newFunctionEnv fd.scope fd.globals fd.closure binds (fd.qualname ++ ".<locals>.") (some a) fd.code none fd.builtins)
        (fun env s₂ => s₂.heap.NoLimit ∧ codeF (model prog w) (Γ.goto (.func body env)) R s₂) (fun e s' => R (.error e) s') s₁) (fun e s' => R (.error e) s') s) :
    codeF (model prog w) Γ R s := by
  have hΓ : Γ.In A.in1 := by
    have q := hB.in
    rw [hc] at q
    exact q
  refine F_tree (F_of hΓ ?_)
  rw [hc]
  show wpAny _ A.in1 (callAny (.ref a) args) _ _ s
  simp only [callAny]
  refine wpAny_bind (wpAny_load ho ?_)
  obtain ⟨c, oc, vs, tq, hc', hoc, hdc, hq⟩ := hcd
  simp only [hd', callFunction, hco, hgen, hbody, hc']
  rw [hc'] at h
  refine wpAny_bind (m := field (.ref c) 1) (wpAny_field hoc hdc hq (wpAny_bind (wpAny_pure ?_)))
  exact wpAny_bind (wpAny_mono h (fun binds s₁ h₁ => wpAny_bind (wpAny_mono h₁ (fun env s₂ h₂ => wpAny_bind (wpAny_enterFrame h₂.1 hroom
    (wpAny_pure (And.intro rfl h₂.2)))) fun _ _ h' => h')) fun _ _ h' => h')
theorem F_func {R : Result → Shared → Prop} {body : List Stmt} {env : Env} (hc : Γ.code = .func body env) (hΓ : Γ.In (A.deeper env))
    (h : wpF (model prog w) Γ (execs body env) (fun f s' => R (.ok (.ret (match f with | .ret v => v | _ => .none))) s')
      (fun e s' => wpAny (model prog w) (A.deeper env) (leaving env e) (fun _ s'' => R (.error e) s'') (fun e' s'' => R (.error e') s'') s') s) : codeF (model prog w) Γ R s := by
  refine F_tree ?_
  rw [hc]
  show wpF _ _ (do point; match ← (execs body env).onRaise (leaving env) with | .ret v => ret v | _ => ret .none) _ _ s
  refine F_bind (F_point (F_bind (F_onRaise (F_mono h (fun f s' h' => ?_) fun _ _ h' => F_of hΓ h'))))
  cases f <;> exact F_pure h'
theorem func_in {body : List Stmt} {env : Env} (hB : Γ.Below A) : (Γ.goto (.func body env)).In (A.deeper env) := (hB.goto (.func body env)).in
end
section
variable {prog : Program} {w : World} {A A₀ : Around} {Γ : PySem.Ctx} {s : Shared} {K : Frag} {L : Addr} {h₀ base : Heap} {m mg mb : Str → Option Value} {news : List (Addr × Obj)} {p : Program} {loose : List Str} {mean : ExcName → Option Value}
theorem F_def {env : Env} {outer : List Env} {R : Result → Shared → Prop} {name qual : Str} {params : Arguments} {body : List Stmt} {scope : Scope} {dV kV doc pm cdv ct oc : Value} {an od : Option Addr} {osl : Array (Option Value)} {f : Addr} {args : Args} {binds : List (Str × Value)}
    (hc : Γ.code = .call (.ref f) args) (hΓ : Γ.Below A)
    (B : Below A₀ base outer h₀) (F : Fr h₀ L s.heap m) (X₀ : K.In h₀) (N : News h₀ L s.heap news) (T : Top p loose mean mg mb h₀) (hA : A.frames = some (env :: outer)) (hf : env.frame = some L) (hke : env.scope.kind = .function)
    (ho : K.lookup f = some ⟨oc, od, .func (fnOf name qual params body scope dV kV doc pm an cdv ct), osl⟩) (hcd : codeIn K cdv qual = true) (hroom : A.depth < recursionLimit)
    (hbind : BindsTo s (fnOf name qual params body scope dV kV doc pm an cdv ct) args binds) (hloc : ∀ y ∈ binds, scope.names.lookup y.1 = some .local)
    (h : ∀ g L' h₁, Fr h₀ L g m → Fr g L' h₁ (fun y => binds.reverse.lookup y) → News g L' h₁ news → Below A base (env :: outer) g → K.In g → Top p loose mean mg mb g → (Γ.goto (.func body (envOf qual scope L' f cdv))).In (A.deeper (envOf qual scope L' f cdv)) →
      wpF (model prog w) (Γ.goto (.func body (envOf qual scope L' f cdv))) (execs body (envOf qual scope L' f cdv))
        (fun fl s' => LeaveK h₀ L m g R (match fl with | .ret v => v | _ => .none) s')
        (fun e s' => wpAny (model prog w) (A.deeper (envOf qual scope L' f cdv)) (leaving (envOf qual scope L' f cdv) e) (fun _ s'' => R (.error e) s'') (fun e' s'' => R (.error e') s'') s')
        { s with heap := h₁, toks := s.toks + binds.length })
    (hco : scope.isCoroutine = false) (hgen : scope.isGenerator = false) (hk : scope.kind = .function)
    (hcell : ∀ x ∈ scope.names, x.2 ≠ .cell) : codeF (model prog w) Γ R s := by
  have ho' := (X₀.keeps F.keep) _ _ ho
  obtain ⟨FG, BG, st, lv⟩ := groundX (R := R) B F N hA hf hke
  refine F_function hc hΓ hroom ho' (fd := fnOf name qual params body scope dV kV doc pm an cdv ct) rfl hco hgen rfl (codeRec_of (X₀.keeps F.keep) hcd) (hbind _ _ _ _ ?_)
  refine wpAny_newFunctionEnv hcell hloc (fun h₁ hns₀ hsb₀ => ⟨(T.nolimit.keeps F.keep).fresh _ hsb₀, F_func rfl (func_in hΓ) ?_⟩) hk
  have hk₁ : ∀ b o, s.heap.get? b = some o → h₁.get? b = some o := fun b o e => hsb₀.extBut b o (Nat.ne_of_lt (Heap.lt_size e)) (Heap.get?_push_of_some _ e)
  exact F_mono (h _ s.heap.objs.size h₁ FG ⟨hns₀, fun b o e => hk₁ b o (of_hideAll _ e), Nat.le_of_eq (hideAll_size _ _)⟩
    (fun p hp => ⟨hk₁ _ _ (N p hp).1, Nat.ne_of_lt (Heap.lt_size (N p hp).1), hideAll_none _ (List.mem_map_of_mem hp)⟩) BG (X₀.keeps st) (T.keeps st) (func_in hΓ)) (fun fl s' hl => lv _ _ hl) fun _ _ y => y
end
end Mine
end

/-! ### part FM -/
section
open PySem PySem.W PySem.Calls PyProof.Rows
namespace Mine
set_option maxRecDepth 100000
section
variable {M : Model} {A : Around} {Γ : PySem.Ctx} {E : Value → Shared → Prop} {s : Shared} {env : Env}
theorem F_method {o : Expr} {name : Str} {apos pos : Pos} {pl : Sem Bool} {Q : Value → Shared → Prop} (hΓ : Γ.In A)
    (h : wpAny M A (eval o env) (fun ov s₁ => wpAny M A (getMethod ov name pl) (fun fx s₂ => wpF M Γ (callWith pos fx.1 fx.2 [] []) Q E s₂) E s₁) E s)
    (he : eval (.Call (.Attribute o name apos) [] [] pos) env = (do
      let ov ← eval o env
      standAt apos.atName
      let (f, first) ← holding [ov] (getMethod ov name pl)
      callWith pos f first [] []) := by rfl) :
    wpF M Γ (eval (.Call (.Attribute o name apos) [] [] pos) env) Q E s := by
  rw [he]
  refine F_bind (F_of hΓ (wpAny_mono h (fun ov s₁ h₁ => F_bind (F_standAt (F_bind (F_holding (F_of hΓ (wpAny_mono h₁ (fun fx s₂ h₂ => h₂) fun _ _ x => x)))))) fun _ _ x => x))
theorem F_tail {t : Sem Value} {Q : Value → Shared → Prop} (ht : wpF M Γ t Q E s) : wpF M Γ (t >>= fun r => holding [r] point >>= fun _ => pure r) Q E s :=
  F_bind (F_mono ht (fun r s₂ hr => F_bind (F_holding (F_point (F_pure hr)))) fun _ _ x => x)
theorem F_callWith_fn0 {pos : Pos} {a : Addr} {o : Obj} {fd : FuncData} {first : List Value} {Q : Value → Shared → Prop} (hΓ : Γ.In A) (ho : s.heap.get? a = some o) (hd : o.data = .func fd)
    (h : wpF M Γ (call (.ref a) (first ++ [])) Q E s) : wpF M Γ (callWith pos (.ref a) first [] []) Q E s := by
  unfold callWith
  refine F_bind (F_holding (F_of hΓ (PyProof.Rows.evalArgs_none ?_)))
  refine F_bind (F_standAt ?_)
  simp only [List.any_nil, Bool.or_false]
  refine F_bind (m := keeperOf (.ref a)) ?_
  unfold keeperOf
  refine F_bind (F_of hΓ (wpAny_load ho ?_))
  rw [hd]
  refine F_pure ?_
  exact F_tail (by unfold callMarked; exact F_keep h)
theorem F_Call {func : Expr} {args : List Expr} {pos : Pos} {Q : Value → Shared → Prop} (hΓ : Γ.In A)
    (h : wpAny M A (eval func env) (fun f s₁ => wpF M Γ (callWith pos f [] (backTo pos (starEach args env)) []) Q E s₁) E s)
    (he : eval (.Call func args [] pos) env = (do callWith pos (← eval func env) [] (backTo pos (starEach args env)) (backToKw pos (keywordEach [] env))) := by rfl) :
    wpF M Γ (eval (.Call func args [] pos) env) Q E s := by
  rw [he]; exact F_bind (F_of hΓ h)
theorem F_args1 {f : Value} {x : Sem Value} {Q : Args → Shared → Prop} (h : wpF M Γ x (fun v s' => Q ⟨[v], []⟩ s') E s) : wpF M Γ (evalArgs f true [(false, x)] []) Q E s := by
  unfold evalArgs
  show wpF M Γ (spliced [(false, x)] >>= _) Q E s
  refine F_bind ?_
  rw [spliced]
  refine F_bind (F_mono h (fun v s' h' => ?_) fun _ _ x => x)
  simp only [Bool.false_eq_true, if_false]
  refine F_bind (F_pure (F_bind (F_holding ?_)))
  show wpF M Γ (pure []) _ _ _
  refine F_pure (F_pure ?_)
  refine F_holding ?_
  exact F_bind (F_pure (F_bind (F_pure (F_pure h'))))
theorem F_callWith_type1 {pos : Pos} {T : String} {x : Sem Value} {Q : Value → Shared → Prop}
    (h : wpF M Γ x (fun v s' => wpF M Γ (call (.type T) [v]) Q E s') E s) : wpF M Γ (callWith pos (.type T) [] [(false, x)] []) Q E s := by
  unfold callWith
  refine F_bind (F_holding (F_args1 (F_mono h (fun v s' h' => ?_) fun _ _ x => x)))
  refine F_bind (F_standAt ?_)
  refine F_bind (F_eq (a := Keeper.machine) rfl ?_)
  exact F_tail h'
end
end Mine
end

/-! ### part FT -/
section
open PySem PySem.W PySem.Calls PyProof.Rows
namespace Mine
set_option maxRecDepth 100000
def cleanB (st : List (Code × Pos)) : Bool := st.all fun x => quietC x.1
/-- the tree where the place is clean; elsewhere the answer that is asked for -/
def gd (t : Sem Value) : Sem Value := .stack fun st => if cleanB st = true then t else pure (.bool true)
def gdT (t : Sem PySem.Fin) : Sem PySem.Fin := .stack fun st => if cleanB st = true then t else pure (.done (.ret (.bool true)))
theorem clean_iff {Γ : PySem.Ctx} {p : Pos} : cleanB ((Γ.code, p) :: Γ.below) = true ↔ Clean Γ := by
  unfold cleanB Clean
  rw [List.all_cons, Bool.and_eq_true, List.all_eq_true]
theorem gd_any {M : Model} {A : Around} {E : Value → Shared → Prop} {s : Shared} {t : Sem Value} {Q : Value → Shared → Prop}
    (hT : Q (.bool true) s) (h : ∀ Γ, Γ.In A → Clean Γ → wpF M Γ t Q E s) : wpAny M A (gd t) Q E s := fun Γ p hΓ => by
  unfold gd
  rw [Sem.wp_stack]
  by_cases hc : cleanB ((Γ.code, p) :: Γ.below) = true
  · rw [if_pos hc]; exact h Γ hΓ (clean_iff.mp hc) p
  · rw [if_neg hc]; exact hT
section
variable {prog : Program} {w : World}
theorem gd_stub {A : Around} {E : Value → Shared → Prop} {s : Shared} {Q : PySem.Fin → Shared → Prop} {name : Str} {vs : List Value} {mg : Str → Option Value} {f : Value} (hg : s.heap.Ns mainGlobals mg) (hf : mg name = some f)
    (h : wpAny (model prog w) A (gd (PySem.call f vs)) (fun v s' => Q (.done (.ret v)) s') E s) :
    wpAny (model prog w) A (gdT (do match ← nsGet mainNs name with
      | some f => do ret (← PySem.call f vs)
      | none => unsupported "claim.caller:no-such-global")) Q E s := fun Γ p hΓ => by
  unfold gdT
  rw [Sem.wp_stack]
  have h' := h Γ
  unfold gd at h'
  by_cases hc : cleanB ((Γ.code, p) :: Γ.below) = true
  · rw [if_pos hc]
    have h2 : wpF (model prog w) Γ (PySem.call f vs) (fun v s' => Q (.done (.ret v)) s') E s := fun p' => by
      have h3 := h' p' hΓ
      rw [Sem.wp_stack, if_pos (clean_iff.mpr (clean_iff.mp hc))] at h3
      exact h3
    refine (F_bind (F_of hΓ (wpAny_nsGet hg ?_)) : wpF (model prog w) Γ _ Q E s) p
    rw [hf]
    exact F_bind (F_mono h2 (fun _ _ x => F_pure x) fun _ _ x => x)
  · rw [if_neg hc]
    have h3 := h' p hΓ
    rw [Sem.wp_stack, if_neg hc] at h3
    exact h3
theorem sched_unguard {t : Sem PySem.Fin} {n : Nat} {s s' : Shared} {o : Outcome} (hs : s.asleep)
    (h : schedN (denote table) prog w n (.single s ⟨gdT t, .builtin "claim.caller" {}, default, []⟩) = .halted o s') :
    ∃ n, schedN (denote table) prog w n (.single s ⟨t, .builtin "claim.caller" {}, default, []⟩) = .halted o s' := by
  cases n with
  | zero => cases h
  | succ n =>
    refine ⟨n, ?_⟩
    have hstep : step (denote table) prog w s ⟨gdT t, .builtin "claim.caller" {}, default, []⟩ = .go s ⟨t, .builtin "claim.caller" {}, default, []⟩ := by
      obtain ⟨a, b, c, d, e⟩ := s
      have hc : cleanB [((.builtin "claim.caller" {} : Code), (default : Pos))] = true := by decide +kernel
      show Step.go _ ⟨(if cleanB [((.builtin "claim.caller" {} : Code), (default : Pos))] = true then t else _), _, _, _⟩ = _
      rw [if_pos hc]
    have hss := (sstep_single (denote table) prog w s ⟨gdT t, .builtin "claim.caller" {}, default, []⟩ (by first | rfl | kernel_rfl) hs).resolve_right (by rw [hstep]; exact fun e => by cases e)
    rw [hstep] at hss
    unfold schedN at h
    rw [hss] at h
    exact h
end
theorem callFrom_unguard {c : ClaimW} {tree : List Value → Sem PySem.Fin} {w : World} {s : Shared} {free : Addr → Prop} {gens : Prop} {kept : Heap → Prop} (hz : s.asleep)
    (H : c.CallFrom (fun vs => ⟨gdT (tree vs), .builtin "claim.caller" {}, default, []⟩) w free gens kept s) : c.CallFrom (fun vs => ⟨tree vs, .builtin "claim.caller" {}, default, []⟩) w free gens kept s := by
  intro args hpre hlay ord hord
  obtain ⟨vs, s₁, hl, n, o, s', hrun, rest⟩ := H args hpre hlay ord hord
  obtain ⟨n', hrun'⟩ := sched_unguard (Shared.asleep_of_life (layAllW_rest _ _ _ hl).2.2.2 hz) hrun
  exact ⟨vs, s₁, hl, n', o, s', hrun', rest⟩
end Mine
namespace Mine
set_option maxRecDepth 100000
/-- the head, its walk at clean places alone -/
theorem PySem.W.holds_open {r : OpenRow} {q : Program} {loose : List Str} {Xt : Shared → Bool} {XP : (Str → Option Value) → Heap → Prop} {α : Type} {Yf : Shared → α} {Ya : World → α} {YP : World → Heap → Prop} {d : DefRec} {kwd : List (Str × Expr)} {N : Nat}
    (left : LeftO r.prog q loose Xt Yf Ya N) (hY : ∀ w s, Yf s = Ya w → YP w s.heap) (hYk : ∀ w h h', YP w h → (∀ b o, h.get? b = some o → h'.get? b = some o) → YP w h')
    (hX : ∀ s, Xt s = true → XP (s.heap.nsMap mainGlobals) s.heap) (hXk : ∀ mg h h', XP mg h → (∀ b o, h.get? b = some o → h'.get? b = some o) → XP mg h')
    (hdef : defOf q r.name = some (d, kwd)) (hp : r.prog.theDef r.name = some (d.params, d.body, d.scope)) (hk : kwWritten? d.params.kwonlyargs d.params.kw_defaults = some kwd) (hRf : ∀ s, Xt s = true → RecFacts r.records s.heap) (hwr : (!r.writes || r.records.isEmpty) = true)
    (k1 : r.wellSaid = true) (ok : (chainsOk q && opensWell r.prog && (frees r.toRowW && r.within.isEmpty)) = true) (hb : r.prog.bare) (hw : r.toRowW.promised)
    (call : WalkO q loose XP YP r.toRowW d kwd fun f vs => gd (_root_.PySem.call f vs)) : r.Holds := by
  have hch : chainsOk q = true := (Bool.and_eq_true_iff.mp (Bool.and_eq_true_iff.mp ok).1).1
  have H : r.toRowW.claim.HoldsOpenBy (fun vs => ⟨gdT (do match ← nsGet mainNs r.name with
      | some f => do ret (← _root_.PySem.call f vs)
      | none => unsupported "claim.caller:no-such-global"), .builtin "claim.caller" {}, default, []⟩) (if r.pinned then [r.name] else []) r.keeps r.writes :=
    open_anyG (r := r.toRowW) (run := fun f vs => gd (_root_.PySem.call f vs)) left hY hYk hX hXk hRf hwr ok hb hw
      (fun vs w s mg f Q E hg hf h => gd_stub hg hf h)
      (fun w s hg G n hn => by
        obtain rfl : n = r.name := by split at hn <;> simp_all
        exact pinned_of_view hg G hdef hp hk)
      fun w s₀ s₁ mg mb G Y args vs as hpre hlay L low => by
        obtain ⟨a, o, pm, cd, doc, dV, kV, h1, h2, h3, h4, h5⟩ := G.fn hdef
        exact ⟨.ref a, h1, call w s₀ s₁ mg mb G Y a o pm cd doc dV kV h2 h3 h4 h5 (defOf_name hdef ▸ h1) L.gens args vs as hpre hlay L.reads L.well (L.low low)⟩
  refine ⟨k1, hw, H.1, H.2.1, fun w => ⟨(H.2.2 w).1, fun s hs => ?_⟩⟩
  obtain ⟨s₀, hf, hg, s₁, T, hd, hr1, hr2, hcall⟩ := (H.2.2 w).2 s hs
  obtain ⟨s₀', hf', _, s₁', T', hz', _⟩ := (left.behind hX hch w).2 s hs
  obtain rfl : s₀' = s₀ := Option.some.inj (hf'.symm.trans hf)
  have hz : s₁.asleep := Shared.asleep_of_life (T.2.1.trans T'.2.1.symm) hz'
  exact ⟨s₀', hf, hg, s₁, T, hd, hr1, hr2, callFrom_unguard hz hcall⟩
end Mine
end

/-! ### part FC -/
section
open PySem PySem.W PySem.Calls PyProof.Rows
namespace Mine
set_option maxRecDepth 100000
theorem F_defC {prog : Program} {w : World} {A : Around} {Γ : PySem.Ctx} {s : Shared} {K : Frag} {mg mb : Str → Option Value} {p : Program} {loose : List Str} {mean : ExcName → Option Value}
    {R : Result → Shared → Prop} {name qual : Str} {params : Arguments} {body : List Stmt} {scope : Scope} {dV kV doc pm cdv ct oc : Value} {an od : Option Addr} {osl : Array (Option Value)} {f : Addr} {args : List Value} {binds : List (Str × Value)}
    (hc : Γ.code = .call (.ref f) ⟨args, []⟩) (hΓ : Γ.Below A) (X₀ : K.In s.heap) (T : Top p loose mean mg mb s.heap)
    (ho : K.lookup f = some ⟨oc, od, .func (fnOf name qual params body scope dV kV doc pm an cdv ct), osl⟩) (hcd : codeIn K cdv qual = true) (hroom : A.depth < recursionLimit)
    (hbind : bindArgs (fnOf name qual params body scope dV kV doc pm an cdv ct) ⟨args, []⟩ = pure binds)
    (hkind : ∀ x ∈ binds, scope.names.lookup x.1 = some .local ∨ (scope.names.lookup x.1 = some .cell ∧ ((cellsFrom (s.heap.objs.size + 1) scope.names []).lookup x.1).isSome = true))
    (hnd : ((cellsFrom 0 scope.names []).map (·.1)).Nodup)
    (hco : scope.isCoroutine = false) (hgen : scope.isGenerator = false) (hk : scope.kind = .function)
    (h : ∀ h₁ tk cells, Fr s.heap s.heap.objs.size h₁ (bindL (envOfC qual scope s.heap.objs.size f cdv).kindOf binds fun _ => none) → News s.heap s.heap.objs.size h₁ cells →
      CellsAre (bindC (envOfC qual scope s.heap.objs.size f cdv).kindOf binds fun _ => none) (cellsFrom (s.heap.objs.size + 1) scope.names []) cells →
      (Γ.goto (.func body (envOfC qual scope s.heap.objs.size f cdv))).In (A.deeper (envOfC qual scope s.heap.objs.size f cdv)) →
      wpF (model prog w) (Γ.goto (.func body (envOfC qual scope s.heap.objs.size f cdv))) (execs body (envOfC qual scope s.heap.objs.size f cdv))
        (fun f s' => R (.ok (.ret (match f with | .ret v => v | _ => .none))) s')
        (fun e s' => wpAny (model prog w) (A.deeper (envOfC qual scope s.heap.objs.size f cdv)) (leaving (envOfC qual scope s.heap.objs.size f cdv) e)
          (fun _ s'' => R (.error e) s'') (fun e' s'' => R (.error e') s'') s')
        { s with heap := h₁, toks := tk }) :
    codeF (model prog w) Γ R s := by
  refine F_function hc hΓ hroom (X₀ _ _ ho) (fd := fnOf name qual params body scope dV kV doc pm an cdv ct) rfl hco hgen rfl (codeRec_of X₀ hcd) ?_
  rw [hbind]
  refine wpAny_pure (wpAny_newFunctionEnv_cells hk hkind fun env he s' x => ?_)
  subst he
  refine ⟨T.nolimit.keeps x.toInCall.keep, F_func rfl (func_in hΓ) ?_⟩
  obtain ⟨h₁, tk, rfl, _⟩ := x.done
  have C : Cl s.heap.objs.size (cellsFrom (s.heap.objs.size + 1) scope.names []) h₁ (bindC (envOfC qual scope s.heap.objs.size f cdv).kindOf binds fun _ => none) := ⟨x.cell, x.apart, x.above⟩
  obtain ⟨cells, N, Y⟩ := Cl.news (h₀ := s.heap) (Nat.le_refl _) fun n c hm => ⟨C.cell n c (lookup_of_mem_nodup (cellsFrom_names scope.names 0 (s.heap.objs.size + 1) [] [] rfl ▸ hnd) hm), C.above n c hm⟩
  exact h h₁ tk cells ⟨x.toInCall.ns, x.toInCall.keep, x.toInCall.fresh⟩ N Y (func_in hΓ)
end Mine
end

/-! ### part FS -/
section
open PySem PySem.W PySem.Calls PyProof.Rows
namespace Mine
set_option maxRecDepth 100000
/-! a set of whole numbers, its table known -/
def layH (t : SetTable) (hs : Array Int) (h : Int) : Array Int × SetTable × Bool :=
  match t.freeSlot h with
  | some (slot, wasDummy) => (SetTable.insertAt hs (t.put slot).2 h, (t.put slot).1.orStandIn (SetTable.insertAt hs (t.put slot).2 h).size, wasDummy)
  | none => (hs.push h, t.standIn (hs.size + 1), false)
def relayH (t : SetTable) (hs : Array Int) (wanted : Nat) : Array Int × SetTable :=
  match t.relaid hs wanted with
  | some (t', order) => if coversAll order hs.size && t'.fits (order.filterMap (hs[·]?)).size then (order.filterMap (hs[·]?), t') else (hs, t.standIn hs.size)
  | none => (hs, t.standIn hs.size)
def addH (x : Array Int × SetTable) (h : Int) : Array Int × SetTable :=
  let L := layH x.2 x.1 h
  if (!L.2.2 && L.2.1.tooFull) = true then relayH L.2.1 L.1 (SetTable.grown L.1.size) else (L.1, L.2.1)
theorem map_insertAt {α β : Type} (f : α → β) (xs : Array α) (p : Nat) (x : α) : (SetTable.insertAt xs p x).map f = SetTable.insertAt (xs.map f) p (f x) := by
  unfold SetTable.insertAt
  simp
theorem layH_eq (t : SetTable) (es : Array (Int × Value)) (h : Int) (x : Value) :
    (layNew t es h x).1.map (·.1) = (layH t (es.map (·.1)) h).1 ∧ (layNew t es h x).2.1 = (layH t (es.map (·.1)) h).2.1 ∧ (layNew t es h x).2.2.1 = (layH t (es.map (·.1)) h).2.2 := by
  unfold layNew layH
  cases t.freeSlot h with
  | none => simp
  | some q =>
    obtain ⟨slot, wd⟩ := q
    dsimp only
    have e := map_insertAt (fun e : Int × Value => e.1) es (t.put slot).2 (h, x)
    dsimp only at e
    refine ⟨e, ?_, rfl⟩
    rw [← e, Array.size_map]
theorem map_pick (es : Array (Int × Value)) (order : Array Nat) : (order.filterMap (es[·]?)).map (·.1) = order.filterMap ((es.map (·.1))[·]?) := by
  rw [Array.map_filterMap]
  congr 1
  funext i
  simp
theorem relayH_eq (t : SetTable) (es : Array (Int × Value)) (wanted : Nat) :
    (relayAll t es wanted).1.map (·.1) = (relayH t (es.map (·.1)) wanted).1 ∧ (relayAll t es wanted).2.1 = (relayH t (es.map (·.1)) wanted).2 := by
  unfold relayAll relayH
  cases t.relaid (es.map (·.1)) wanted with
  | none => simp
  | some q =>
    obtain ⟨t', order⟩ := q
    dsimp only
    rw [Array.size_map, ← map_pick, Array.size_map]
    split
    · exact ⟨rfl, rfl⟩
    · exact ⟨rfl, rfl⟩
section
variable {prog : Program} {w : World} {A : Around} {E : Value → Shared → Prop} {s : Shared}
/-- the set object at `a`: its hashes and its table are these -/
def SetX (prog : Program) (w : World) (h : Heap) (a : Addr) (x : Array Int × SetTable) (S : Int → Bool) : Prop :=
  ∃ o es ep, h.get? a = some o ∧ o.ExactSet ∧ o.data = .set es ep x.2 ∧ ElemsOf (intKind prog w) es.toList ∧ es.map (·.1) = x.1 ∧ es.size < scanBound ∧ x.2.fits es.size = true ∧ (∀ k, S k = true ↔ ∃ e ∈ es.toList, (intKind prog w).is k e.2 = true)
theorem SetX.setOf {h : Heap} {a : Addr} {x : Array Int × SetTable} {S : Int → Bool} (H : SetX prog w h a x S) : h.SetOf (intKind prog w) a S x.1.size := by
  obtain ⟨o, es, ep, ho, hex, hd, hel, hmap, hb, hf, hm⟩ := H
  exact ⟨o, es, ep, x.2, ho, hex, hd, hel, hm, hb, hf, by rw [← hmap, Array.size_map]⟩
theorem SetX.keep {h h' : Heap} {a : Addr} {x : Array Int × SetTable} {S : Int → Bool} (H : SetX prog w h a x S) (k : ∀ o, h.get? a = some o → h'.get? a = some o) : SetX prog w h' a x S := by
  obtain ⟨o, es, ep, ho, r⟩ := H
  exact ⟨o, es, ep, k o ho, r⟩
theorem addX_tail {g : Bool → Sem Unit} (hg : ∀ (b : Bool) (s₁ : Shared) (Q' : Unit → Shared → Prop), Q' () s₁ → wpAny (model prog w) A (g b) Q' E s₁)
    {a : Addr} {o : Obj} {es : Array (Int × Value)} {ep : Nat} {t : SetTable} (ho : s.heap.get? a = some o) (hex : o.ExactSet) (hd : o.data = .set es ep t)
    {es1 : Array (Int × Value)} {t2 : SetTable} {wasDummy : Bool} {y : Array Int × SetTable} {S : Int → Bool} (hel1 : ElemsOf (intKind prog w) es1.toList) (hm1 : ∀ k, S k = true ↔ ∃ e ∈ es1.toList, (intKind prog w).is k e.2 = true) (hb1 : es1.size < scanBound) (hf2 : t2.fits es1.size = true)
    (hy : (if (!wasDummy && t2.tooFull) = true then relayH t2 (es1.map (·.1)) (SetTable.grown (es1.map (·.1)).size) else (es1.map (·.1), t2)) = y)
    {R : Option Bool → Shared → Prop}
    (h : ∀ h', Heap.SameBut a s.heap h' → SetX prog w h' a y S → R (some true) { s with heap := h' }) :
    wpAny (model prog w) A (do
        storeSet a es1 t2
        if (!wasDummy && t2.tooFull) = true then do
            g (relayAll t2 es1 (SetTable.grown es1.size)).2.2
            storeSet a (relayAll t2 es1 (SetTable.grown es1.size)).1 (relayAll t2 es1 (SetTable.grown es1.size)).2.1
            pure (some true)
          else pure (some true)) R E s := by
  refine wpAny_bind (wpAny_storeSet_of ho hd ?_ (fits_of_scanBound hb1))
  have ho1 : (s.heap.update a (Obj.putSet es1 t2)).get? a = some { o with data := .set es1 (ep + 1) t2 } := by
    have := Heap.get?_update_self (Obj.putSet es1 t2) ho (by rw [putSet_of es1 t2 hd]; rfl)
    rw [putSet_of es1 t2 hd] at this; exact this
  have hsb1 := Heap.SameBut.update s.heap a (Obj.putSet es1 t2)
  split
  · rename_i hc
    rw [if_pos hc] at hy
    have hp := relayAll_perm t2 es1 (SetTable.grown es1.size)
    have hfr := relayAll_fits t2 es1 (SetTable.grown es1.size)
    have hq := relayH_eq t2 es1 (SetTable.grown es1.size)
    rw [Array.size_map] at hy
    rw [hy] at hq
    generalize relayAll t2 es1 (SetTable.grown es1.size) = Rl at hp hfr hq ⊢
    obtain ⟨es2, t3, gave2⟩ := Rl
    dsimp only at hp hfr hq ⊢
    have hel2 : ElemsOf (intKind prog w) es2.toList := hel1.perm hp
    have hsz : es2.size = es1.size := by rw [← Array.length_toList, hp.length_eq, Array.length_toList]
    have hb2 : es2.size < scanBound := by rw [hsz]; exact hb1
    refine wpAny_bind (hg _ _ _ ?_)
    refine wpAny_bind (wpAny_storeSet_of ho1 rfl ?_ (fits_of_scanBound hb2))
    refine wpAny_pure (h _ (hsb1.trans (Heap.SameBut.update _ a _)) ?_)
    have ho2 := Heap.get?_update_self (Obj.putSet es2 t3) ho1 (by rw [putSet_of es2 t3 rfl]; rfl)
    rw [putSet_of es2 t3 rfl] at ho2
    exact ⟨_, es2, _, ho2, hex, by rw [hq.2], hel2, hq.1, hb2, by rw [← hq.2]; exact hfr, fun k' => (hm1 k').trans ⟨fun ⟨e, he, q⟩ => ⟨e, hp.mem_iff.mpr he, q⟩, fun ⟨e, he, q⟩ => ⟨e, hp.mem_iff.mp he, q⟩⟩⟩
  · rename_i hc
    rw [if_neg hc] at hy
    subst hy
    exact wpAny_pure (h _ hsb1 ⟨_, es1, _, ho1, hex, rfl, hel1, rfl, hb1, hf2, hm1⟩)
theorem add_exact {a : Addr} {x : Array Int × SetTable} {S : Int → Bool} {k : Int} {tk : Tok} {Q : Bool → Shared → Prop} (hS : SetX prog w s.heap a x S) (hno : ∀ i ∈ x.1.toList, i ≠ hashInt k) (hroom : x.1.size + 1 < scanBound)
    (h : ∀ h', Heap.SameBut a s.heap h' → SetX prog w h' a (addH x (hashInt k)) (fun k' => S k' || decide (k' = k)) → Q true { s with heap := h' }) :
    wpAny (model prog w) A (setAddHashed a (.int k tk) (hashInt k)) Q E s := by
  obtain ⟨o, es, ep, ho, hex, hd, hel, hmap, hb, hf, hmem⟩ := hS
  have hkey : (intKind prog w).is k (.int k tk) = true := intKind_is _ _ _ _
  have hsc : (Value.int k tk).scannable = true := rfl
  have hsz : x.1.size = es.size := by rw [← hmap, Array.size_map]
  have hb1 : es.size + 1 < scanBound := by rw [← hsz]; exact hroom
  unfold setAddHashed setAddHashedIn
  refine wpAny_holding (wpAny_bind (wpAny_setState_of ho hd hf ?_))
  dsimp only
  rw [byScan_of hsc hb hel]
  simp only [↓reduceIte]
  unfold setAddByScan
  refine wpAny_bind ?_
  refine wpAny_bind (wpAny_rule ?_)
  refine wpAny_bind (wpAny_setScan_of hkey ho hd hf hel ?_)
  have hr : List.findIdx? (fun e => (intKind prog w).is k e.2) es.toList = none := by
    rw [List.findIdx?_eq_none_iff]
    intro e he
    cases hq : (intKind prog w).is k e.2 with
    | false => rfl
    | true =>
      exfalso
      obtain ⟨⟨k', hk', hh⟩, _⟩ := hel e he
      have hkk := (intKind prog w).inj _ _ _ hq hk'
      subst hkk
      refine hno e.1 ?_ hh
      rw [← hmap, Array.toList_map]
      exact List.mem_map_of_mem he
  rw [hr]
  dsimp only
  have hperm := layNew_perm x.2 es (hashInt k) (.int k tk)
  have hfits := layNew_fits x.2 es (hashInt k) (.int k tk)
  have hlq := layH_eq x.2 es (hashInt k) (.int k tk)
  rw [hmap] at hlq
  have hgw : ∀ (b : Bool) {s₁ : Shared} {Q' : Unit → Shared → Prop}, Q' () s₁ → wpAny (model prog w) A (match b with | true => rule "set.scan.the-table-gave-way" | false => pure ()) Q' E s₁ :=
    fun b s₁ Q' hq => by cases b <;> first | exact wpAny_pure hq | exact wpAny_rule hq
  have hy : addH x (hashInt k) = (if (!(layH x.2 x.1 (hashInt k)).2.2 && (layH x.2 x.1 (hashInt k)).2.1.tooFull) = true then relayH (layH x.2 x.1 (hashInt k)).2.1 (layH x.2 x.1 (hashInt k)).1 (SetTable.grown (layH x.2 x.1 (hashInt k)).1.size) else ((layH x.2 x.1 (hashInt k)).1, (layH x.2 x.1 (hashInt k)).2.1)) := rfl
  rw [hy] at h
  rw [← hlq.1, ← hlq.2.1, ← hlq.2.2] at h
  clear hy hlq
  generalize layNew x.2 es (hashInt k) (.int k tk) = L at hperm hfits h ⊢
  obtain ⟨es1, t1, wasDummy, gave⟩ := L
  dsimp only at hperm hfits h ⊢
  rw [Array.toList_push] at hperm
  have hel1 : ElemsOf (intKind prog w) es1.toList := (hel.push hkey hsc).perm hperm
  have hmem1 : ∀ k', (S k' || decide (k' = k)) = true ↔ ∃ e ∈ es1.toList, (intKind prog w).is k' e.2 = true := mem_push_iff hkey hmem hperm
  have hb1' : es1.size < scanBound := by rw [← Array.length_toList, hperm.length_eq, List.length_append, Array.length_toList]; simpa using hb1
  refine wpAny_bind (hgw _ ?_)
  split
  · refine wpAny_bind ?_
    rw [hashByValue_scannable 8 hsc]
    refine wpAny_pure ?_
    dsimp only [plainKind]
    simp only [↓reduceIte]
    refine addX_tail ?_ ho hex hd hel1 hmem1 hb1' hfits rfl ?_
    · intro b s₁ Q' hq; cases b <;> first | exact wpAny_pure hq | exact wpAny_rule hq
    · intro h' hsb hS'; dsimp only; exact wpAny_pure (h h' hsb hS')
  · refine wpAny_bind (wpAny_pure ?_)
    simp only [↓reduceIte]
    refine addX_tail ?_ ho hex hd hel1 hmem1 hb1' hfits rfl ?_
    · intro b s₁ Q' hq; cases b <;> first | exact wpAny_pure hq | exact wpAny_rule hq
    · intro h' hsb hS'; dsimp only; exact wpAny_pure (h h' hsb hS')
theorem loopX {R : Result → Shared → Prop} {I : Addr} {fp wr : List Addr} {n : Nat} {P : Nat → Value → Prop} {St : Nat → Heap → Prop} (W : Walks prog w A.in1 I fp wr n P St) (S : Addr) (hSf : S ∉ fp)
    (val : Nat → Int) (hval : ∀ i v, P i v → ∃ t, v = .int (val i) t) (st : Nat → Array Int × SetTable) (hst : ∀ i, i < n → st (i + 1) = addH (st i) (hashInt (val i)))
    (hno : ∀ i, i < n → ∀ x ∈ (st i).1.toList, x ≠ hashInt (val i)) (hsz : ∀ i, i < n → (st i).1.size + 1 < scanBound) (T : Nat → Int → Bool) (hT : ∀ i k, T (i + 1) k = (T i k || decide (k = val i))) :
    ∀ (k i : Nat) (s : Shared), n - i = k → i ≤ n → St i s.heap → SetX prog w s.heap S (st i) (T i) →
      (∀ h' tk, (∀ b o, b ≠ S → b ∉ wr → s.heap.get? b = some o → h'.get? b = some o) → SetX prog w h' S (st n) (T n) → R (.ok (.ret .none)) { s with heap := h', toks := tk }) →
      codeAny (model prog w) A (.builtin "set.update.loop" ⟨[.ref S, .ref I], []⟩) R s := by
  have hSw : S ∉ wr := fun h => hSf (W.sub _ h)
  intro k
  induction k with
  | zero =>
    intro i s hk hi hst' hS hR
    have hin : i = n := by omega
    subst hin
    refine codeAny_builtin F.entry_set_update_loop ?_
    rw [Around.under_plainId F.plain_set_update_loop _]
    show wpAny _ A.in1 (pyNext (.ref I) >>= _) _ _ s
    refine wpAny_bind (W.done s _ _ hst' fun h' tk hm => ?_)
    show wpAny _ A.in1 (ret Value.none) _ _ _
    exact wpAny_pure (hR h' tk (fun b o _ hb e => hm b o hb e) (hS.keep fun o e => hm S o hSw e))
  | succ k ih =>
    intro i s hk hi hst' hS hR
    have hlt : i < n := by omega
    refine codeAny_builtin F.entry_set_update_loop ?_
    rw [Around.under_plainId F.plain_set_update_loop _]
    show wpAny _ A.in1 (pyNext (.ref I) >>= _) _ _ s
    refine wpAny_bind (W.item i s _ _ hlt hst' fun v h₁ tk hP hst₁ hm => ?_)
    obtain ⟨t, rfl⟩ := hval i v hP
    have hS₁ : SetX prog w h₁ S (st i) (T i) := hS.keep fun o e => hm S o hSw e
    show wpAny _ A.in1 (holding [Value.int (val i) t] (setAdd S (.int (val i) t)) >>= _) _ _ _
    refine wpAny_bind (wpAny_holding ?_)
    unfold setAdd
    refine wpAny_holding ?_
    refine wpAny_bind ((intKind prog w).pyHash (k := val i) (intKind_is _ _ _ _) ?_)
    refine add_exact (prog := prog) (w := w) (x := st i) (S := T i) hS₁ (hno i hlt) (hsz i hlt) fun h' hsb hS2 => ?_
    rw [← hst i hlt, show (fun k' => T i k' || decide (k' = val i)) = T (i + 1) from funext fun k' => (hT i k').symm] at hS2
    refine wpAny_pure ⟨plainId_quiet F.plain_set_update_loop _, ih (i + 1) _ (by omega) hlt (W.frame _ _ _ hst₁ fun b hb o e => ?_) hS2 fun h'' tk'' hm'' hS'' => ?_⟩
    · exact (hsb.2 b (fun h : b = S => hSf (by rw [← h]; exact hb))).trans e
    · refine hR h'' tk'' (fun b o hb1 hb2 e => hm'' b o hb1 hb2 ?_) hS''
      exact (hsb.2 b hb1).trans (hm b o hb2 e)
end
end Mine
end

/-! ### part FS2 -/
section
open PySem PySem.W PySem.Calls PyProof.Rows
namespace Mine
set_option maxRecDepth 100000
theorem bai_slot_iter : Slot "bytearray" "__iter__" "bytearray.__iter__" :=
  .of (owner := "bytearray") (n := "__iter__") (by rw [typeLookup_type, builtinLookup_eq_fast]; kernel_rfl) (by decide +kernel) (by decide +kernel) (by decide +kernel)
    (by first | exact .inl (by decide +kernel) | exact .inr (by decide +kernel)) (by rw [isSubtype_type]; kernel_rfl)
theorem bai_slot_next : Slot "bytearray_iterator" "__next__" "bytearray_iterator.__next__" :=
  .of (owner := "bytearray_iterator") (n := "__next__") (by rw [typeLookup_type, builtinLookup_eq_fast]; kernel_rfl) (by decide +kernel) (by decide +kernel) (by decide +kernel)
    (by first | exact .inl (by decide +kernel) | exact .inr (by decide +kernel)) (by rw [isSubtype_type]; kernel_rfl)
theorem bai_slot_self : Slot "bytearray_iterator" "__iter__" "bytearray_iterator.__iter__" :=
  .of (owner := "bytearray_iterator") (n := "__iter__") (by rw [typeLookup_type, builtinLookup_eq_fast]; kernel_rfl) (by decide +kernel) (by decide +kernel) (by decide +kernel)
    (by first | exact .inl (by decide +kernel) | exact .inr (by decide +kernel)) (by rw [isSubtype_type]; kernel_rfl)
theorem bai_entry_iter : entryFor table "bytearray.__iter__" = some Builtin.«bytearray.__iter__» := entryFor_of_tree (by kernel_rfl)
theorem bai_entry_next : entryFor table "bytearray_iterator.__next__" = some Builtin.«bytearray_iterator.__next__» := entryFor_of_tree (by kernel_rfl)
theorem bai_entry_self : entryFor table "bytearray_iterator.__iter__" = some Builtin.«dict_keyiterator.__iter__» := entryFor_alias (id' := "dict_keyiterator.__iter__") (by kernel_rfl) rfl (by decide +kernel) (by kernel_rfl)
theorem bai_args_iter (a : Value) : argsOk "bytearray.__iter__" ⟨[a], []⟩ := by unfold argsOk; kernel_rfl
theorem bai_args_next (a : Value) : argsOk "bytearray_iterator.__next__" ⟨[a], []⟩ := by unfold argsOk; kernel_rfl
theorem bai_args_self (a : Value) : argsOk "bytearray_iterator.__iter__" ⟨[a], []⟩ := by unfold argsOk; kernel_rfl
abbrev baO (b : Array UInt8) : Obj := { cls := .type "bytearray", data := .bytearray b }
def IsBaIter (h : Heap) (a x : Addr) (i : Nat) : Prop := ∃ o, h.get? a = some o ∧ o.cls = .type "bytearray_iterator" ∧ o.data = .fields #[.ref x, .int i 0]
theorem bai_typeIs {s : Shared} {a x : Addr} {i : Nat} (y : IsBaIter s.heap a x i) : s.TypeIs (.ref a) "bytearray_iterator" := let ⟨o, ho, hc, _⟩ := y; ⟨o, ho, hc⟩
section
variable {prog : Program} {w : World} {A : Around} {E : Value → Shared → Prop} {s : Shared} {b : Array UInt8}
theorem bai_iter {x : Addr} {Q : Value → Shared → Prop} (hx : s.heap.get? x = some (baO b)) (hQ : Q (.ref s.heap.objs.size) { s with heap := s.heap.push { cls := .type "bytearray_iterator", data := .fields #[.ref x, .int 0 0] } }) : wpAny (model prog w) A (pyIter (.ref x)) Q E s := by
  have hT : s.TypeIs (.ref x) "bytearray" := ⟨_, hx, rfl⟩
  refine wpAny_pyIter_slot hT bai_slot_iter (wpAny_call_entry bai_slot_iter hT bai_entry_iter ?_ (bai_args_iter _))
  show wpAny _ _ (do ret (← newFields "bytearray_iterator" [.ref x, rawInt 0])) _ _ s
  exact wpAny_bind (wpAny_newObj_type (wpAny_pure ⟨_, rfl, "bytearray_iterator", _, ⟨_, Heap.get?_push_size _ rfl, rfl⟩, bai_slot_next.lookup, hQ⟩))
theorem bai_self {it x : Addr} {i : Nat} {Q : Value → Shared → Prop} (hit : IsBaIter s.heap it x i) (h : Q (.ref it) s) : wpAny (model prog w) A (pyIter (.ref it)) Q E s := by
  refine wpAny_pyIter_slot (bai_typeIs hit) bai_slot_self (wpAny_call_entry bai_slot_self (bai_typeIs hit) bai_entry_self ?_ (bai_args_self _))
  show wpAny _ _ (ret (.ref it)) _ _ s
  exact wpAny_pure ⟨_, rfl, "bytearray_iterator", _, bai_typeIs hit, bai_slot_next.lookup, h⟩
theorem bai_next {it x : Addr} {i : Nat} {c : UInt8} {Q : Option Value → Shared → Prop} (hit : IsBaIter s.heap it x i) (hb : s.heap.get? x = some (baO b)) (hx : b[i]? = some c)
    (hQ : ∀ h', IsBaIter h' it x (i + 1) → Heap.SameBut it s.heap h' → Q (some (.int (c.toNat : Int) s.toks)) { s with heap := h', toks := s.toks + 1 }) : wpAny (model prog w) A (pyNext (.ref it)) Q E s := by
  obtain ⟨o, ho, hc, hd⟩ := id hit
  unfold pyNext
  refine wpAny_bind (wpAny_attempt (wpAny_callSpecial?_slot (name := PySem.Str.ofString "__next__") (bai_typeIs hit) bai_slot_next
    (wpAny_call_entry bai_slot_next (bai_typeIs hit) bai_entry_next ?_ (bai_args_next _))))
  show wpAny _ _ (field (.ref it) 0 >>= _) _ _ s
  refine wpAny_bind (wpAny_field ho hd (x := .ref x) rfl ?_)
  show wpAny _ _ (load x >>= _) _ _ s
  refine wpAny_bind (wpAny_load hb ?_)
  show wpAny _ _ (field (.ref it) 1 >>= _) _ _ s
  refine wpAny_bind (wpAny_field ho hd (x := .int i 0) rfl ?_)
  simp only [Int.toNat_natCast, hx]
  refine wpAny_bind (wpAny_setField ho hd (by simp) (wpAny_bind (wpAny_mkInt (wpAny_pure ⟨_, rfl, wpAny_pure (hQ _ ?_ (Heap.SameBut.update ..))⟩))))
  exact ⟨_, Heap.get?_update_self _ ho (Obj.isFreed_of_fields (Obj.data_mapFields hd _)), (Obj.cls_mapFields ..).trans hc, by
    rw [Obj.data_mapFields hd]; simp [rawInt]⟩
theorem bai_end {it x : Addr} {i : Nat} {Q : Option Value → Shared → Prop} (hh : A.handled = none) (hit : IsBaIter s.heap it x i) (hb : s.heap.get? x = some (baO b)) (hx : b[i]? = none)
    (hQ : ∀ h', Heap.ExtBut it s.heap h' → Q none { s with heap := h' }) : wpAny (model prog w) A (pyNext (.ref it)) Q E s := by
  obtain ⟨o, ho, hc, hd⟩ := id hit
  unfold pyNext
  refine wpAny_bind (wpAny_attempt (wpAny_callSpecial?_slot (name := PySem.Str.ofString "__next__") (bai_typeIs hit) bai_slot_next
    (wpAny_call_entry bai_slot_next (bai_typeIs hit) bai_entry_next ?_ (bai_args_next _))))
  show wpAny _ _ (field (.ref it) 0 >>= _) _ _ s
  refine wpAny_bind (wpAny_field ho hd (x := .ref x) rfl ?_)
  show wpAny _ _ (load x >>= _) _ _ s
  refine wpAny_bind (wpAny_load hb ?_)
  show wpAny _ _ (field (.ref it) 1 >>= _) _ _ s
  refine wpAny_bind (wpAny_field ho hd (x := .int i 0) rfl ?_)
  simp only [Int.toNat_natCast, hx]
  refine wpAny_bind (wpAny_rule (wpAny_bind (wpAny_setField ho hd (by simp) ?_)))
  refine wpAny_bind (wpAny_letGo ?_)
  show wpAny _ _ (newExc (.type "StopIteration") [] >>= _) _ _ _
  refine wpAny_bind ?_
  simp only [newExc, newTuple]
  refine wpAny_bind (wpAny_newObj_type ?_ (by size_fits))
  refine wpAny_bind (m := firstArgMember _ _) (wpAny_of_eq (a := Value.none) (by first | rfl | (simp only [firstArgMember]; rfl)) ?_)
  refine wpAny_newObj_type ?_ (by size_fits)
  simp only [raiseNew]
  refine wpAny_bind (wpAny_handled ?_)
  rw [show A.in1.handled = none from hh]
  refine wpAny_bind (wpAny_pure (wpAny_throw ?_))
  refine wpAny_bind (wpAny_isInstance (T := "StopIteration") (b := true) ⟨_, Heap.get?_push_size _ rfl, rfl⟩ isSubtype_stop ?_)
  exact wpAny_pure (hQ _ (((Heap.SameBut.update ..).extBut.push _).push _))
end
theorem bai_walks {prog : Program} {w : World} {A : Around} (hh : A.handled = none) (I x : Addr) (hne : x ≠ I) (b : Array UInt8) :
    Walks prog w A I [I, x] [I] b.size (fun i v => ∃ c u, b[i]? = some c ∧ v = .int (c.toNat : Int) u) (fun i h => IsBaIter h I x i ∧ h.get? x = some (baO b)) where
  sub := fun q hb => by rw [List.mem_singleton] at hb; subst hb; exact List.mem_cons_self
  frame := fun _ _ _ st hk => let ⟨⟨o, ho, r⟩, hx⟩ := st; ⟨⟨o, hk I (by simp) o ho, r⟩, hk x (by simp) _ hx⟩
  item := fun i s Q E hi st hQ => by
    refine bai_next st.1 st.2 (c := b[i]) (by simp [hi]) fun h' hit' hs' => ?_
    exact hQ _ h' (s.toks + 1) ⟨_, _, by simp [hi], rfl⟩ ⟨hit', (hs'.2 x hne).trans st.2⟩ fun q o hb e => hs'.extBut q o (fun h => hb (by simp [h])) e
  done := fun s Q E st hQ => bai_end hh st.1 st.2 (by simp) fun h' he' => hQ h' s.toks fun q o hb e => he' q o (fun h => hb (by simp [h])) e
  self := fun _ _ _ _ st hQ => bai_self st.1 hQ
end Mine
end

/-! ### part FS3 -/
section
open PySem PySem.W PySem.Calls PyProof.Rows
namespace Mine
section
variable {prog : Program} {w : World} {A : Around} {E : Value → Shared → Prop} {s : Shared}
set_option maxRecDepth 100000 in
set_option maxHeartbeats 3200000 in
theorem set_shell {src : Addr} {srcO : Obj} {T : String} {G : Value → Shared → Prop} (hsrc : s.heap.get? src = some srcO) (hcls : srcO.cls = .type T) (hsls : isSubtype (.type T) (.type "set") = pure false)
    (hslf : isSubtype (.type T) (.type "frozenset") = pure false) (hne : (Value.type T == Value.type "dict") = false)
    (hb : ∀ led : Bool, wpAny (model prog w) A.in1.in1 (pyIter (.ref src)) (fun it s' => codeAny (model prog w) A.in1.in1 (.builtin "set.update.loop" ⟨[.ref s.heap.objs.size, it], []⟩) (fun r s'' => match r with | .ok (.ret _) => G (.ref s.heap.objs.size) s'' | .ok _ => False | .error e => False) s') (fun _ _ => False) { s with heap := s.heap.push { cls := .type "set", dict := none, data := .set #[] 0 (.fresh 0 0 led) } }) :
    wpAny (model prog w) A (call (.type "set") [.ref src]) G E s := by
  refine wpAny_mono (?_ : wpAny (model prog w) A (call (.type "set") [.ref src]) G (fun _ _ => False) s) (fun _ _ x => x) fun _ _ x => x.elim
  obtain ⟨c, tl, hmro⟩ := F.called_set.mro
  have hmade := F.called_set.made
  have hsub := F.called_set.sub
  refine wpAny_call (codeAny_of_tree ?_)
  show wpAny _ _ (callAny (.type "set") _) _ _ _
  refine wpAny_pure ⟨Code.quiet_builtin _ (by decide +kernel), codeAny_builtin F.entry_type_call ?_⟩
  rw [Around.under_plain (weight_type_call_type "set" [.ref src] []) rfl]
  have h1 := F.called_set.notType
  have h2 := F.called_set.canCreate
  have hct := F.typeCall_set_1 (.ref src)
  repeat (any_goals (first | assumption | wp_step))
  refine codeAny_mono (code_set_new_1 (.ref src) (E := fun _ _ => False) (Q₁ := fun obj s₁ => ∃ led : Bool, obj = .ref s.heap.objs.size ∧ s₁ = { s with heap := s.heap.push { cls := .type "set", dict := none, data := .set #[] 0 (.fresh 0 0 led) } }) fun led => ⟨led, rfl, rfl⟩) fun r s₁ hr => ?_
  cases r with
  | error e => exact hr
  | ok fl =>
    cases fl with
    | ret obj =>
      obtain ⟨led, rfl, rfl⟩ := hr
      have hS : (s.heap.push { cls := .type "set", dict := none, data := .set #[] 0 (.fresh 0 0 led) }).get? s.heap.objs.size = some { cls := .type "set", dict := none, data := .set #[] 0 (.fresh 0 0 led) } := Heap.get?_push_size _ rfl
      have hT' : Shared.TypeIs { s with heap := s.heap.push { cls := .type "set", dict := none, data := .set #[] 0 (.fresh 0 0 led) } } (.ref s.heap.objs.size) "set" := ⟨_, hS, rfl⟩
      have hli := F.called_set.init.lookup
      have hbi := F.called_set.init.bind (.ref s.heap.objs.size)
      repeat (any_goals (first | assumption | wp_step))
      refine codeAny_mono (codeAny_call_builtin (R := wants (fun r s₂ => r = .none ∧ G (.ref s.heap.objs.size) s₂) (fun _ _ => False)) F.called_set.init.plain F.entry_set_init (check_set_init_1 hT' ?_)) fun r₂ s₂ hr₂ => ?_
      · have hol' : (s.heap.push { cls := .type "set", dict := none, data := .set #[] 0 (.fresh 0 0 led) }).get? src = some srcO := Heap.get?_push_of_some _ hsrc
        have hTs : Shared.TypeIs { s with heap := s.heap.push { cls := .type "set", dict := none, data := .set #[] 0 (.fresh 0 0 led) } } (.ref src) T := ⟨_, hol', hcls⟩
        unfold Builtin.«set.__init__» noKeywords Builtin.Frozenset.updateFrom
        have hb' := hb led
        clear hb hsrc hmro hmade hsub h1 h2 hct hli hbi
        generalize hPI : pyIter = PI at hb' ⊢
        wp_walk
        refine wpAny_mono hb' (fun it s' hq => ?_) fun _ _ x => x.elim
        refine wpAny_bind (wpAny_runValue (codeAny_mono hq fun r s'' hr => ?_))
        rcases r with e | fl
        · exact hr.elim
        cases fl with
        | ret v => exact wpAny_pure (wpAny_pure ⟨rfl, hr⟩)
        | _ => exact hr.elim
      · cases r₂ with
        | error e => exact hr₂
        | ok fl₂ =>
          cases fl₂ with
          | ret r =>
            obtain ⟨rfl, hG⟩ := hr₂
            repeat (any_goals (first | assumption | wp_step))
          | _ => exact hr₂.elim
    | _ => exact hr.elim
set_option maxRecDepth 100000 in
theorem call_setX {src : Addr} {srcO itO : Obj} {T : String} {Q : Value → Shared → Prop} (hsrc : s.heap.get? src = some srcO) (hcls : srcO.cls = .type T) (hsls : isSubtype (.type T) (.type "set") = pure false)
    (hslf : isSubtype (.type T) (.type "frozenset") = pure false) (hne : (Value.type T == Value.type "dict") = false) (hh : A.handled = none)
    (hiter : ∀ (A : Around) (E : Value → Shared → Prop) (s₁ : Shared) (Q : Value → Shared → Prop), s₁.heap.get? src = some srcO → Q (.ref s₁.heap.objs.size) { s₁ with heap := s₁.heap.push itO } → wpAny (model prog w) A (pyIter (.ref src)) Q E s₁)
    {n : Nat} {P : Nat → Value → Prop} {fp : Addr → List Addr} {St : Addr → Nat → Heap → Prop} (W : ∀ (A : Around) (I : Addr), A.handled = none → src ≠ I → Walks prog w A I (fp I) [I] n P (St I)) (hfp : ∀ I x, x ∈ fp I → x = I ∨ x = src)
    (hitf : itO.isFreed = false) (hSt0 : ∀ h I, h.get? I = some itO → h.get? src = some srcO → St I 0 h)
    (val : Nat → Int) (hval : ∀ i v, P i v → ∃ t, v = .int (val i) t) (st : Bool → Nat → Array Int × SetTable) (h0 : ∀ led, st led 0 = (#[], .fresh 0 0 led)) (hst : ∀ led i, i < n → st led (i + 1) = addH (st led i) (hashInt (val i)))
    (hno : ∀ led i, i < n → ∀ x ∈ (st led i).1.toList, x ≠ hashInt (val i)) (hsz : ∀ led i, i < n → (st led i).1.size + 1 < scanBound) (TS : Nat → Int → Bool) (hT0 : ∀ k, TS 0 k = false) (hT : ∀ i k, TS (i + 1) k = (TS i k || decide (k = val i)))
    (h : ∀ led h' tk, SetX prog w h' s.heap.objs.size (st led n) (TS n) → (∀ b o, s.heap.get? b = some o → h'.get? b = some o) → Q (.ref s.heap.objs.size) { s with heap := h', toks := tk }) :
    wpAny (model prog w) A (call (.type "set") [.ref src]) Q E s := by
  refine set_shell hsrc hcls hsls hslf hne fun led => ?_
  have hS : (s.heap.push { cls := .type "set", dict := none, data := .set #[] 0 (.fresh 0 0 led) }).get? s.heap.objs.size = some { cls := .type "set", dict := none, data := .set #[] 0 (.fresh 0 0 led) } := Heap.get?_push_size _ rfl
  have hol' : (s.heap.push { cls := .type "set", dict := none, data := .set #[] 0 (.fresh 0 0 led) }).get? src = some srcO := Heap.get?_push_of_some _ hsrc
  have hlS : src < s.heap.objs.size := Heap.lt_size hsrc
  refine hiter _ _ _ _ hol' ?_
  have hh3 : A.in1.in1.in1.handled = none := hh
  have hsz1 : (s.heap.push { cls := .type "set", dict := none, data := .set #[] 0 (.fresh 0 0 led) }).objs.size = s.heap.objs.size + 1 := Heap.size_push _ _
  have hneI : src ≠ (s.heap.push { cls := .type "set", dict := none, data := .set #[] 0 (.fresh 0 0 led) }).objs.size := by
    rw [hsz1]; exact Nat.ne_of_lt (Nat.lt_succ_of_lt hlS)
  have hSf : s.heap.objs.size ∉ fp (s.heap.push { cls := .type "set", dict := none, data := .set #[] 0 (.fresh 0 0 led) }).objs.size := fun hm => by
    rcases hfp _ _ hm with e | e
    · rw [hsz1] at e; exact absurd e (Nat.ne_of_lt (Nat.lt_succ_self _))
    · exact absurd e (Nat.ne_of_gt hlS)
  refine loopX (W _ (s.heap.push { cls := .type "set", dict := none, data := .set #[] 0 (.fresh 0 0 led) }).objs.size hh3 hneI) s.heap.objs.size hSf val hval (st led) (hst led) (hno led) (hsz led) TS hT (n - 0) 0 _ rfl (Nat.zero_le _)
    (hSt0 _ _ (Heap.get?_push_size _ hitf) (Heap.get?_push_of_some _ hol')) ⟨_, #[], 0, Heap.get?_push_of_some _ hS, ⟨rfl, rfl, rfl⟩, by rw [h0], fun e he => by simp at he, by rw [h0]; simp, by decide, by rw [h0]; rfl, fun k => by simp [hT0]⟩ fun h' tk hm hS' => ?_
  refine h led h' tk hS' fun b o e => ?_
  have hb := Heap.lt_size e
  refine hm b o (Nat.ne_of_lt hb) ?_ (Heap.get?_push_of_some _ (Heap.get?_push_of_some _ e))
  rw [hsz1, List.mem_singleton]
  exact Nat.ne_of_lt (Nat.lt_succ_of_lt hb)
end
end Mine
end

/-! ### part FS4 -/
section
open PySem PySem.W PySem.Calls PyProof.Rows
namespace Mine
set_option maxRecDepth 100000
theorem le_look : typeLookup (.type "set") "__le__" = pure (some (.builtin "set.__le__")) := by rw [typeLookup_type, builtinLookup_eq_fast]; kernel_rfl
theorem le_slot : Slot "set" "__le__" "set.__le__" :=
  .of (owner := "set") (n := "__le__") le_look (by decide +kernel) (by decide +kernel) (by decide +kernel)
    (by first | exact .inl (by decide +kernel) | exact .inr (by decide +kernel)) sub_set_self
theorem le_entry : entryFor table "set.__le__" = some Builtin.«frozenset.__le__» := entryFor_alias (id' := "frozenset.__le__") (by kernel_rfl) (by decide +kernel) (by decide +kernel) (by kernel_rfl)
theorem le_args (a b : Value) : argsOk "set.__le__" ⟨[a, b], []⟩ := by unfold argsOk; kernel_rfl
theorem or_slot : Slot "set" "__or__" "set.__or__" :=
  .of (owner := "set") (n := "__or__") (by rw [typeLookup_type, builtinLookup_eq_fast]; kernel_rfl) (by decide +kernel) (by decide +kernel) (by decide +kernel)
    (by first | exact .inl (by decide +kernel) | exact .inr (by decide +kernel)) sub_set_self
theorem or_entry : entryFor table "set.__or__" = some Builtin.«frozenset.__or__» := entryFor_alias (id' := "frozenset.__or__") (by kernel_rfl) (by decide +kernel) (by decide +kernel) (by kernel_rfl)
theorem or_args (a b : Value) : argsOk "set.__or__" ⟨[a, b], []⟩ := by unfold argsOk; kernel_rfl
theorem or_fills : fillsNumberSlot (.type "set") "or" = pure true := fillsNumberSlot_of (id := "set.__or__") (r := some (.builtin "set.__ror__")) (by rw [typeLookup_type, builtinLookup_eq_fast]; kernel_rfl) (by decide +kernel) (by rw [typeLookup_type, builtinLookup_eq_fast]; kernel_rfl)
open Builtin.Frozenset in
theorem le_tree (v w : Addr) : Builtin.«frozenset.__le__» ⟨[.ref v, .ref w], []⟩ = (do
    if !(← isAnySet (.ref w)) then rule s!"frozenset.__le__.declined"; return ← ret .notImplemented
    let _ ← sizeOf v
    let _ ← sizeOf w
    ret (.bool (← subsetOf "frozenset.__le__" v w))) := by kernel_rfl
open Builtin.Frozenset in
def unionT (l r : Addr) : Sem Value := do
  let result ← copyOf l
  if Value.ref r != .ref l then holding [result] (updateFrom "frozenset.__or__" (← addrOf result) (.ref r))
  return result
open Builtin.Frozenset in
theorem or_tree (l r : Addr) : Builtin.«frozenset.__or__» ⟨[.ref l, .ref r], []⟩ = (do
    if !(← isAnySet (.ref l) <&&> isAnySet (.ref r)) then rule s!"frozenset.__or__.declined"; return ← ret .notImplemented
    ret (← unionT l r)) := by kernel_rfl
section
variable {prog : Program} {w : World} {A : Around} {E : Value → Shared → Prop} {s : Shared}
theorem any_set {a : Addr} {Q : Bool → Shared → Prop} (hT : s.TypeIs (.ref a) "set") (h : Q true s) : wpAny (model prog w) A (Builtin.Frozenset.isAnySet (.ref a)) Q E s := by
  unfold Builtin.Frozenset.isAnySet
  show wpAny _ _ (isInstance _ _ >>= _) _ _ _
  refine wpAny_bind (wpAny_isInstance hT sub_set_self ?_)
  exact wpAny_pure h
theorem SetX.type {h : Heap} {a : Addr} {x : Array Int × SetTable} {S : Int → Bool} (H : SetX prog w s.heap a x S) : s.TypeIs (.ref a) "set" := by
  obtain ⟨o, es, ep, ho, hex, _⟩ := H
  exact ⟨o, ho, hex.1⟩
theorem setOf_type {a : Addr} {S : Int → Bool} {n : Nat} (H : s.heap.SetOf (intKind prog w) a S n) : s.TypeIs (.ref a) "set" := by
  obtain ⟨o, es, ep, t, ho, hex, _⟩ := H
  exact ⟨o, ho, hex.1⟩
theorem size_of {a : Addr} {S : Int → Bool} {n : Nat} {Q : Nat → Shared → Prop} (H : s.heap.SetOf (intKind prog w) a S n) (h : Q n s) : wpAny (model prog w) A (Builtin.Frozenset.sizeOf a) Q E s := by
  obtain ⟨o, es, ep, t, ho, hex, hd, hel, hmem, hb, hf, hn⟩ := H
  unfold Builtin.Frozenset.sizeOf
  refine wpAny_bind (wpAny_setEntries_of ho hd hf (wpAny_pure ?_))
  rw [hn]; exact h
end
end Mine
end

/-! ### part FS5 -/
section
open PySem PySem.W PySem.Calls PyProof.Rows
namespace Mine
set_option maxRecDepth 100000
section
variable {prog : Program} {w : World} {A : Around} {E : Value → Shared → Prop} {s : Shared}
/-- a walk along a list that changes nothing -/
theorem forIn_still {α σ : Type} (f : α → σ → Sem (ForInStep σ)) (b : σ) : ∀ (l : List α), (∀ e ∈ l, ∀ Q' : ForInStep σ → Shared → Prop, Q' (.yield b) s → wpAny (model prog w) A (f e b) Q' E s) → ∀ {Q : σ → Shared → Prop}, Q b s → wpAny (model prog w) A (forIn l b f) Q E s
  | [], _, _, h => wpAny_pure h
  | e :: l, hf, Q, h => by
    rw [List.forIn_cons]
    exact wpAny_bind (hf e List.mem_cons_self _ (forIn_still f b l (fun e he => hf e (List.mem_cons_of_mem _ he)) h))
theorem walkUnseen_of {v o : Addr} {S S' : Int → Bool} {n n' : Nat} {Q : List (Int × Value) → Shared → Prop} (H : s.heap.SetOf (intKind prog w) v S n) (H' : s.heap.SetOf (intKind prog w) o S' n')
    (h : ∀ l, (∀ e ∈ l, ∃ k t, e = (hashInt k, Value.int k t) ∧ S k = true) → Q l s) : wpAny (model prog w) A (Builtin.Frozenset.walkUnseen v o) Q E s := by
  obtain ⟨oo, es, ep, t, ho, hex, hd, hel, hmem, hb, hf, hn⟩ := H
  obtain ⟨oo', es', ep', t', ho', hex', hd', hel', hmem', hb', hf', hn'⟩ := H'
  unfold Builtin.Frozenset.walkUnseen
  refine wpAny_bind (wpAny_setEntries_of ho hd hf ?_)
  refine wpAny_bind (wpAny_setEntries_of ho' hd' hf' ?_)
  refine wpAny_bind (forIn_still _ _ _ (fun e he Q' hq => ?_) ?_)
  · have hee : ∃ k t, e.2 = Value.int k t := by
      rcases List.mem_append.mp he with he | he
      · obtain ⟨⟨k, hk, _⟩, _⟩ := hel e he
        obtain ⟨t, ht⟩ := Value.isInt_shape hk
        exact ⟨k, t, ht⟩
      · obtain ⟨⟨k, hk, _⟩, _⟩ := hel' e he
        obtain ⟨t, ht⟩ := Value.isInt_shape hk
        exact ⟨k, t, ht⟩
    obtain ⟨k, t, ht⟩ := hee
    obtain ⟨hh, x⟩ := e
    dsimp only at ht
    subst ht
    exact wpAny_bind (wpAny_of_eq (a := true) rfl (wpAny_pure hq))
  · refine wpAny_pure (h _ fun e he => ?_)
    obtain ⟨⟨k, hk, hh⟩, _⟩ := hel e he
    obtain ⟨t, ht⟩ := Value.isInt_shape hk
    exact ⟨k, t, Prod.ext hh ht, (hmem k).mpr ⟨e, he, hk⟩⟩
theorem subset_of {idn : String} {v o : Addr} {S S' : Int → Bool} {n n' : Nat} {Q : Bool → Shared → Prop} (H : s.heap.SetOf (intKind prog w) v S n) (H' : s.heap.SetOf (intKind prog w) o S' n') (hle : n ≤ n') (hsub : ∀ k, S k = true → S' k = true)
    (h : Q true s) : wpAny (model prog w) A (Builtin.Frozenset.subsetOf idn v o) Q E s := by
  unfold Builtin.Frozenset.subsetOf
  refine wpAny_bind (size_of H ?_)
  refine wpAny_bind (size_of H' ?_)
  rw [if_neg (Nat.not_lt.mpr hle)]
  obtain ⟨oo, es, ep, t, ho, hex, hd, hel, hmem, hb, hf, hn⟩ := id H
  refine wpAny_bind (wpAny_setEpoch_of ho hd hf ?_)
  refine wpAny_bind (walkUnseen_of H H' fun l hl => ?_)
  refine wpAny_bind (forIn_still _ _ _ (fun e he Q' hq => ?_) (wpAny_pure h))
  obtain ⟨k, t', rfl, hk⟩ := hl e he
  dsimp only
  refine wpAny_bind (wpAny_holding (wpAny_setFind_of (knd := intKind prog w) (k := k) (intKind_is _ _ _ _) rfl H' fun r hr => ?_))
  rw [hsub k hk] at hr
  cases r with
  | none => cases hr
  | some i =>
    refine bm_if_false rfl ?_
    refine wpAny_bind ?_
    unfold Builtin.Frozenset.unchanged
    refine wpAny_bind (wpAny_setEpoch_of ho hd hf ?_)
    refine bm_if_false (by simp) ?_
    exact wpAny_pure (wpAny_pure hq)
/-- `a <= b` of two sets of whole numbers, the first inside the second -/
theorem le_sets {a b : Addr} {S S' : Int → Bool} {n n' : Nat} {Q : Value → Shared → Prop} (H : s.heap.SetOf (intKind prog w) a S n) (H' : s.heap.SetOf (intKind prog w) b S' n') (hle : n ≤ n') (hsub : ∀ k, S k = true → S' k = true) (hu : A.units < cLine)
    (h : Q (.bool true) s) : wpAny (model prog w) A (richCompare .LtE (.ref a) (.ref b)) Q E s := by
  refine wpAny_richCompare_same_room (setOf_type H) (setOf_type H') le_slot (wpAny_call_entry le_slot (setOf_type H) le_entry ?_ (le_args _ _)) hu
  rw [le_tree]
  refine wpAny_bind (any_set (setOf_type H') ?_)
  refine bm_if_false rfl ?_
  refine wpAny_bind (size_of H ?_)
  refine wpAny_bind (size_of H' ?_)
  refine wpAny_bind (subset_of H H' hle hsub ?_)
  exact wpAny_pure ⟨_, rfl, (fun x => by cases x), h⟩
end
end Mine
end

/-! ### part FS6 -/
section
open PySem PySem.W PySem.Calls PyProof.Rows
namespace Mine
set_option maxRecDepth 100000
def relayT (x : Array Int × SetTable) (wanted : Nat) : Option (Array Int × SetTable) :=
  match x.2.relaid x.1 wanted with
  | some (t', order) => if coversAll order x.1.size && t'.fits x.1.size && decide (SetTable.sizeAbove wanted ≤ 4096) then some (order.filterMap (x.1[·]?), t') else none
  | none => none
def roomT (x : Array Int × SetTable) (more : Nat) : Option (Array Int × SetTable) :=
  match x.2.roomFor more with
  | none => some x
  | some w => relayT x w
theorem pick_perm {α : Type} {order : Array Nat} {es : Array α} (hc : coversAll order es.size = true) : List.Perm (order.filterMap (es[·]?)).toList es.toList := by
  have hp : List.Perm order.toList (List.range es.size) := List.isPerm_iff.mp (by simpa [coversAll] using hc)
  rw [Array.toList_filterMap]
  exact (hp.filterMap _).trans (by rw [filterMap_getElem?_range])
section
variable {prog : Program} {w : World} {A : Around} {E : Value → Shared → Prop} {s : Shared}
theorem put_get {h : Heap} {a : Addr} {o : Obj} {es : Array (Int × Value)} {ep : Nat} {t : SetTable} (ho : h.get? a = some o) (hd : o.data = .set es ep t) (es' : Array (Int × Value)) (t' : SetTable) :
    (h.update a (Obj.putSet es' t')).get? a = some { o with data := .set es' (ep + 1) t' } := by
  have := Heap.get?_update_self (Obj.putSet es' t') ho (by rw [putSet_of es' t' hd]; rfl)
  rw [putSet_of es' t' hd] at this; exact this
theorem setRelay_of {a : Addr} {x y : Array Int × SetTable} {S : Int → Bool} {wanted : Nat} {Q : Unit → Shared → Prop} (H : SetX prog w s.heap a x S) (e : relayT x wanted = some y)
    (h : ∀ h', Heap.SameBut a s.heap h' → SetX prog w h' a y S → Q () { s with heap := h' }) : wpAny (model prog w) A (setRelay a wanted) Q E s := by
  obtain ⟨o, es, ep, ho, hex, hd, hel, hmap, hb, hf, hm⟩ := H
  have hsz : x.1.size = es.size := by rw [← hmap, Array.size_map]
  unfold relayT at e
  cases hr : x.2.relaid x.1 wanted with
  | none => rw [hr] at e; cases e
  | some q =>
    obtain ⟨t', order⟩ := q
    rw [hr] at e
    dsimp only at e
    split at e
    · rename_i hc
      simp only [Bool.and_eq_true, decide_eq_true_eq] at hc
      obtain ⟨⟨hc1, hc2⟩, hc3⟩ := hc
      rw [hsz] at hc1 hc2
      have hp := pick_perm (es := es) hc1
      have hsz2 : (order.filterMap (es[·]?)).size = es.size := by rw [← Array.length_toList, hp.length_eq, Array.length_toList]
      unfold setRelay
      refine wpAny_bind (wpAny_setState_of ho hd hf ?_)
      dsimp only
      rw [if_neg (by rw [sizeLine_eq]; omega)]
      rw [hmap, hr]
      refine wpAny_bind (wpAny_of_eq (a := (order.filterMap (es[·]?), t')) ?_ ?_)
      · refine Eq.trans (b := (if ((order.filterMap (es[·]?)).size != es.size) = true then (unsupported "internal:set-table-lost-an-element" >>= fun _ => pure (order.filterMap (es[·]?), t')) else pure (order.filterMap (es[·]?), t'))) rfl ?_
        rw [if_neg (by rw [hsz2]; simp)]
      · dsimp only
        refine wpAny_storeSet_of ho hd ?_ (fits_of_scanBound (by rw [hsz2]; exact hb))
        cases e
        refine h _ (Heap.SameBut.update _ a _) ⟨_, _, _, put_get ho hd _ _, hex, rfl, hel.perm hp, ?_, by rw [hsz2]; exact hb, by rw [hsz2]; exact hc2, fun k' => (hm k').trans ⟨fun ⟨e, he, q⟩ => ⟨e, hp.mem_iff.mpr he, q⟩, fun ⟨e, he, q⟩ => ⟨e, hp.mem_iff.mp he, q⟩⟩⟩
        rw [map_pick, hmap]
    · cases e
theorem setRoomFor_of {a : Addr} {x y : Array Int × SetTable} {S : Int → Bool} {more : Nat} {Q : Unit → Shared → Prop} (H : SetX prog w s.heap a x S) (e : roomT x more = some y)
    (h : ∀ h', Heap.SameBut a s.heap h' → SetX prog w h' a y S → Q () { s with heap := h' }) : wpAny (model prog w) A (setRoomFor a more) Q E s := by
  obtain ⟨o, es, ep, ho, hex, hd, hel, hmap, hb, hf, hm⟩ := id H
  unfold setRoomFor
  refine wpAny_bind (wpAny_setState_of ho hd hf ?_)
  dsimp only
  unfold roomT at e
  cases hr : x.2.roomFor more with
  | none =>
    rw [hr] at e
    cases e
    exact wpAny_pure (h s.heap (Heap.SameBut.refl _ _) H)
  | some wd =>
    rw [hr] at e
    exact setRelay_of H e h
end
end Mine
end

/-! ### part FS7 -/
section
open PySem PySem.W PySem.Calls PyProof.Rows
namespace Mine
set_option maxRecDepth 100000
def cleanT (ts : SetTable) (x : Array Int × SetTable) : Option (Array Int × SetTable) :=
  match ts.road x.2 with
  | .clean => match SetTable.laid ts.mask ts.finger ts.moves (led := ts.led && x.2.led) (plain := ts.plain && x.2.plain) x.1 with
    | some (t', order) => if coversAll order x.1.size && t'.fits x.1.size then some (order.filterMap (x.1[·]?), t') else none
    | none => none
  | _ => none
theorem erase_perm {α : Type} : ∀ (l : List α) (i : Nat) (h : i < l.length), List.Perm (l[i] :: l.eraseIdx i) l
  | x :: l, 0, _ => List.Perm.refl _
  | x :: l, i + 1, h => (List.Perm.swap _ _ _).trans ((erase_perm l i (by simpa using h)).cons x)
theorem pick_go {α : Type} (next : Nat → Nat) : ∀ (fuel k : Nat) (left : List α) (out : Array α), fuel = left.length → List.Perm (pickOrder.go next fuel k left out).toList (out.toList ++ left)
  | 0, k, left, out, h => by
    have : left = [] := List.length_eq_zero_iff.mp h.symm
    subst this
    rw [pickOrder.go, List.append_nil]
  | fuel + 1, k, left, out, h => by
    have hlen : 0 < left.length := by omega
    have hlt : next k % left.length < left.length := Nat.mod_lt _ hlen
    rw [pickOrder.go]
    rw [List.getElem?_eq_getElem hlt]
    dsimp only
    have ih := pick_go next fuel (k + 1) (left.eraseIdx (next k % left.length)) (out.push left[next k % left.length]) (by rw [List.length_eraseIdx_of_lt hlt]; omega)
    refine ih.trans ?_
    rw [Array.toList_push, List.append_assoc]
    refine List.Perm.append_left _ ?_
    exact erase_perm left _ hlt
theorem pick_order {α : Type} (next : Nat → Nat) (xs : Array α) : List.Perm (pickOrder next xs).toList xs.toList := by
  unfold pickOrder
  have := pick_go next xs.size 0 xs.toList #[] (by simp)
  simpa using this
section
variable {prog : Program} {w : World} {A : Around} {E : Value → Shared → Prop} {s : Shared}
theorem copy_of {a : Addr} {x : Array Int × SetTable} {y z : Bool → Array Int × SetTable} {S : Int → Bool} {Q : Value → Shared → Prop} (H : SetX prog w s.heap a x S) (e1 : ∀ led', roomT (#[], .fresh 0 0 led') x.1.size = some (y led')) (e2 : ∀ led', cleanT (y led').2 x = some (z led'))
    (hne : x.1.size ≠ 0) (h : ∀ led' h', SetX prog w h' s.heap.objs.size (z led') S → (∀ b o, s.heap.get? b = some o → h'.get? b = some o) → Q (.ref s.heap.objs.size) { s with heap := h' }) : wpAny (model prog w) A (Builtin.Frozenset.copyOf a) Q E s := by
  have hT : s.TypeIs (.ref a) "set" := SetX.type (h := s.heap) H
  obtain ⟨o, es, ep, ho, hex, hd, hel, hmap, hb, hf, hm⟩ := id H
  have hsz : x.1.size = es.size := by rw [← hmap, Array.size_map]
  have hlt : a < s.heap.objs.size := Heap.lt_size ho
  unfold Builtin.Frozenset.copyOf Builtin.Frozenset.baseOf
  refine wpAny_bind (wpAny_bind (wpAny_isInstance hT sub_set_self ?_))
  refine wpAny_pure ?_
  unfold newSet setsByText
  refine wpAny_bind (wpAny_bind (wpAny_bind (wpAny_askSetting (wpAny_pure ?_))))
  dsimp only
  simp only [newObj, if_true]
  refine wpAny_bind (wpAny_alloc (wpAny_pure ?_))
  generalize (!_ : Bool) = led
  refine wpAny_bind (wpAny_pure ?_)
  have hN : (s.heap.push { cls := .type "set", dict := none, data := .set #[] 0 (.fresh 0 0 led) }).get? s.heap.objs.size = some { cls := .type "set", dict := none, data := .set #[] 0 (.fresh 0 0 led) } := Heap.get?_push_size _ rfl
  have HN : SetX prog w (s.heap.push { cls := .type "set", dict := none, data := .set #[] 0 (.fresh 0 0 led) }) s.heap.objs.size (#[], .fresh 0 0 led) (fun _ => false) :=
    ⟨_, #[], 0, hN, ⟨rfl, rfl, rfl⟩, rfl, fun e he => by simp at he, by simp, by decide, by rfl, fun k => by simp⟩
  have ho1 : (s.heap.push { cls := .type "set", dict := none, data := .set #[] 0 (.fresh 0 0 led) }).get? a = some o := Heap.get?_push_of_some _ ho
  refine wpAny_bind ?_
  unfold setMerge
  refine bm_if_false (by simpa using (Nat.ne_of_gt hlt)) ?_
  refine wpAny_bind (wpAny_setState_of ho1 hd hf ?_)
  dsimp only
  refine bm_if_false (by rw [Array.isEmpty_eq_false_iff]; intro hq; rw [hq] at hsz; exact hne (by simpa using hsz)) ?_
  rw [← hsz]
  refine wpAny_bind (setRoomFor_of HN (e1 led) fun h₁ hsb₁ H₁ => ?_)
  have ho2 : h₁.get? a = some o := (hsb₁.2 a (Nat.ne_of_lt hlt)).trans ho1
  obtain ⟨oN, esN, epN, hoN, hexN, hdN, helN, hmapN, hbN, hfN, hmN⟩ := H₁
  refine wpAny_bind (wpAny_setState_of hoN hdN hfN ?_)
  dsimp only
  have e2' := e2 led
  unfold cleanT at e2'
  cases hroad : (y led).2.road x.2 with
  | slotForSlot => rw [hroad] at e2'; cases e2'
  | oneByOne => rw [hroad] at e2'; cases e2'
  | clean =>
    rw [hroad] at e2'
    dsimp only at e2' ⊢
    cases hl : SetTable.laid (y led).2.mask (y led).2.finger (y led).2.moves ((y led).2.led && x.2.led) ((y led).2.plain && x.2.plain) x.1 with
    | none => rw [hl] at e2'; cases e2'
    | some q =>
      obtain ⟨t', order⟩ := q
      rw [hl] at e2'
      dsimp only at e2'
      split at e2'
      · rename_i hc
        simp only [Bool.and_eq_true] at hc
        obtain ⟨hc1, hc2⟩ := hc
        rw [hsz] at hc1 hc2
        have hp := pick_perm (es := es) hc1
        have hsz2 : (order.filterMap (es[·]?)).size = es.size := by rw [← Array.length_toList, hp.length_eq, Array.length_toList]
        rw [hmap, hl]
        refine wpAny_bind (wpAny_of_eq (a := (order.filterMap (es[·]?), t')) ?_ ?_)
        · refine Eq.trans (b := (if ((order.filterMap (es[·]?)).size != es.size) = true then (unsupported "internal:set-table-lost-an-element" >>= fun _ => pure (order.filterMap (es[·]?), t')) else pure (order.filterMap (es[·]?), t'))) rfl ?_
          rw [if_neg (by rw [hsz2]; simp)]
        · dsimp only
          refine wpAny_storeSet_of hoN hdN ?_ (fits_of_scanBound (by rw [hsz2]; exact hb))
          refine wpAny_pure ?_
          have e3 := Option.some.inj e2'
          refine h led _ ⟨_, _, _, put_get hoN hdN _ _, hexN, by rw [← e3], hel.perm hp, by rw [map_pick, hmap, ← e3], by rw [hsz2]; exact hb, by rw [hsz2, ← e3]; exact hc2, fun k' => (hm k').trans ⟨fun ⟨e, he, q⟩ => ⟨e, hp.mem_iff.mpr he, q⟩, fun ⟨e, he, q⟩ => ⟨e, hp.mem_iff.mp he, q⟩⟩⟩ fun b o' e => ?_
          have hbl := Heap.lt_size e
          exact ((Heap.SameBut.update h₁ _ _).2 b (Nat.ne_of_lt hbl)).trans ((hsb₁.2 b (Nat.ne_of_lt hbl)).trans (Heap.get?_push_of_some _ e))
      · cases e2'
end
end Mine
end

/-! ### part FS8 -/
section
open PySem PySem.W PySem.Calls PyProof.Rows
namespace Mine
set_option maxRecDepth 100000
section
variable {prog : Program} {w : World} {A : Around} {E : Value → Shared → Prop} {s : Shared}
theorem setWalk_of {b : Addr} {x : Array Int × SetTable} {S : Int → Bool} {Q : Array (Int × Value) → Shared → Prop} (H : SetX prog w s.heap b x S) (hpl : x.2.plain = true) (hled : (!(w.params.followText "set-order")) = true → x.2.led = true)
    (h : ∀ l, (∀ e ∈ l.toList, ∃ k t, e = (hashInt k, Value.int k t)) → (∀ k, S k = true ↔ ∃ t, (hashInt k, Value.int k t) ∈ l.toList) → l.size = x.1.size → Q l s) : wpAny (model prog w) A (setWalk b) Q E s := by
  obtain ⟨o, es, ep, ho, hex, hd, hel, hmap, hb, hf, hm⟩ := H
  have hsz : x.1.size = es.size := by rw [← hmap, Array.size_map]
  have fin : ∀ l : Array (Int × Value), l.toList.Perm es.toList → Q l s := fun l hp => by
    have key : ∀ e ∈ es.toList, ∃ k t, e = (hashInt k, Value.int k t) := fun e he => by
      obtain ⟨⟨k, hk, hh⟩, _⟩ := hel e he
      obtain ⟨t, ht⟩ := Value.isInt_shape hk
      exact ⟨k, t, Prod.ext hh ht⟩
    refine h l (fun e he => key e (hp.mem_iff.mp he)) (fun k => (hm k).trans ⟨fun ⟨e, he, q⟩ => ?_, fun ⟨t, ht⟩ => ⟨_, hp.mem_iff.mp ht, intKind_is _ _ _ _⟩⟩) (by rw [hsz, ← Array.length_toList, hp.length_eq, Array.length_toList])
    obtain ⟨k', t, rfl⟩ := key e he
    have hkk := (intKind prog w).inj _ _ _ q (intKind_is _ _ _ _)
    subst hkk
    exact ⟨t, hp.mem_iff.mpr he⟩
  unfold setWalk setsByText
  refine wpAny_bind (wpAny_setState_of ho hd hf ?_)
  dsimp only
  refine wpAny_bind (wpAny_bind (wpAny_askSetting (wpAny_pure ?_)))
  dsimp only
  cases hbt : w.params.followText "set-order" with
  | true =>
    refine bm_if_true hbt ?_
    exact wpAny_bind (wpAny_askSetting (wpAny_pure (fin _ (pick_order _ _))))
  | false =>
    refine bm_if_false hbt ?_
    have hl := hled (by rw [hbt]; rfl)
    refine bm_if_false (by show (!x.2.plain && decide (es.size > 1)) = false; rw [hpl]; rfl) ?_
    refine wpAny_bind (wpAny_of_eq (a := ()) ?_ ?_)
    · show (if (!x.2.led && decide (es.size > 1)) = true then unsupported "set:maker-not-led" else pure ()) = pure ()
      rw [hl]; rfl
    · exact wpAny_pure (fin _ (List.Perm.refl _))
theorem quiet_sets : ∀ (l : List Addr), (∀ a ∈ l, ∃ S n, s.heap.SetOf (intKind prog w) a S n) → ∀ {Q : Bool → Shared → Prop}, Q true s → wpAny (model prog w) A (setsQuiet l) Q E s := by
  intro l hl Q h
  unfold setsQuiet
  refine wpAny_bind (forIn_still _ _ _ (fun a ha Q' hq => ?_) (wpAny_pure h))
  obtain ⟨S, n, oo, es, ep, t, ho, hex, hd, hel, hmem, hb, hf, hn⟩ := hl a ha
  refine wpAny_bind (wpAny_setEntries_of ho hd hf ?_)
  rw [← Array.forIn_toList]
  refine wpAny_bind (forIn_still _ _ _ (fun e he Q'' hq'' => ?_) ?_)
  · obtain ⟨⟨k, hk, hh⟩, _⟩ := hel e he
    obtain ⟨t, ht⟩ := Value.isInt_shape hk
    obtain ⟨hh', x⟩ := e
    dsimp only at ht
    subst ht
    exact wpAny_pure hq''
  · exact wpAny_pure hq
theorem walkU_of {a b : Addr} {x : Array Int × SetTable} {S Sa : Int → Bool} {n : Nat} {Q : Array (Int × Value) → Shared → Prop} (hab : a ≠ b) (HA : s.heap.SetOf (intKind prog w) a Sa n) (H : SetX prog w s.heap b x S) (hpl : x.2.plain = true) (hsize : 1 < x.1.size)
    (h : ∀ l h', Heap.SameBut a s.heap h' → h'.SetOf (intKind prog w) a Sa n → (∀ e ∈ l.toList, ∃ k t, e = (hashInt k, Value.int k t)) → (∀ k, S k = true ↔ ∃ t, (hashInt k, Value.int k t) ∈ l.toList) → l.size = x.1.size → Q l { s with heap := h' }) :
    wpAny (model prog w) A (setWalkUnseen b [a] (some a)) Q E s := by
  obtain ⟨o, es, ep, ho, hex, hd, hel, hmap, hb, hf, hm⟩ := id H
  have hsz : x.1.size = es.size := by rw [← hmap, Array.size_map]
  have key : ∀ e ∈ es.toList, ∃ k t, e = (hashInt k, Value.int k t) := fun e he => by
    obtain ⟨⟨k, hk, hh⟩, _⟩ := hel e he
    obtain ⟨t, ht⟩ := Value.isInt_shape hk
    exact ⟨k, t, Prod.ext hh ht⟩
  have mem : ∀ k, S k = true ↔ ∃ t, (hashInt k, Value.int k t) ∈ es.toList := fun k => (hm k).trans ⟨fun ⟨e, he, q⟩ => by
    obtain ⟨k', t, rfl⟩ := key e he
    have hkk := (intKind prog w).inj _ _ _ q (intKind_is _ _ _ _)
    subst hkk
    exact ⟨t, he⟩, fun ⟨t, ht⟩ => ⟨_, ht, intKind_is _ _ _ _⟩⟩
  unfold setWalkUnseen setsByText
  refine wpAny_bind (wpAny_setState_of ho hd hf ?_)
  dsimp only
  refine wpAny_bind (wpAny_bind (wpAny_askSetting (wpAny_pure ?_)))
  dsimp only
  cases hbt : w.params.followText "set-order" with
  | true =>
    refine bm_if_true (by show (w.params.followText "set-order" || x.2.led && x.2.plain || decide (es.size ≤ 1)) = true; rw [hbt]; rfl) ?_
    exact setWalk_of H hpl (fun q => by rw [hbt] at q; cases q) fun l h1 h2 h3 => h l s.heap (Heap.SameBut.refl _ _) HA h1 h2 h3
  | false =>
    cases hl : x.2.led with
    | true =>
      refine bm_if_true (by show (w.params.followText "set-order" || true && x.2.plain || decide (es.size ≤ 1)) = true; rw [hbt, hpl]; rfl) ?_
      exact setWalk_of H hpl (fun _ => hl) fun l h1 h2 h3 => h l s.heap (Heap.SameBut.refl _ _) HA h1 h2 h3
    | false =>
      refine bm_if_false (by show (w.params.followText "set-order" || false && x.2.plain || decide (es.size ≤ 1)) = false; rw [hbt, ← hsz, decide_eq_false (by omega)]; rfl) ?_
      refine wpAny_bind (quiet_sets _ (fun q hq => ?_) ?_)
      · rcases List.mem_cons.mp hq with rfl | hq
        · exact ⟨_, _, H.setOf⟩
        · rw [List.mem_singleton] at hq; subst hq; exact ⟨_, _, HA⟩
      refine bm_if_false rfl ?_
      refine wpAny_bind (wpAny_rule ?_)
      obtain ⟨oa, esa, epa, ta, hoa, hexa, hda, hela, hmema, hba, hfa, hna⟩ := id HA
      refine wpAny_bind (wpAny_setState_of hoa hda hfa ?_)
      dsimp only
      split
      · refine wpAny_bind (wpAny_storeSet_of hoa hda ?_ (fits_of_scanBound hba))
        refine wpAny_pure (h es _ (Heap.SameBut.update _ _ _) ?_ key mem hsz.symm)
        exact ⟨_, esa, _, _, put_get hoa hda _ _, hexa, rfl, hela, hmema, hba, hfa, hna⟩
      · exact wpAny_pure (h es s.heap (Heap.SameBut.refl _ _) HA key mem hsz.symm)
end
end Mine
end

/-! ### part FS9 -/
section
open PySem PySem.W PySem.Calls PyProof.Rows
namespace Mine
set_option maxRecDepth 100000
section
variable {prog : Program} {w : World} {A : Around} {E : Value → Shared → Prop}
theorem add_loop {a b : Addr} (hab : a ≠ b) {ob : Obj} {es : Array (Int × Value)} {ep : Nat} {t : SetTable} (hd : ob.data = .set es ep t) (hf : t.fits es.size = true) {idn : String} :
    ∀ (l : List (Int × Value)) (s : Shared) (S : Int → Bool) (n : Nat), (∀ e ∈ l, ∃ k u, e = (hashInt k, Value.int k u)) → s.heap.SetOf (intKind prog w) a S n → n + l.length + 1 < scanBound → s.heap.get? b = some ob →
    ∀ {Q : PUnit → Shared → Prop}, (∀ h' n' S', Heap.SameBut a s.heap h' → h'.SetOf (intKind prog w) a S' n' → n ≤ n' → (∀ k, S' k = true ↔ S k = true ∨ ∃ u, (hashInt k, Value.int k u) ∈ l) → Q ⟨⟩ { s with heap := h' }) →
    wpAny (model prog w) A (forIn l PUnit.unit fun (x : Int × Value) _ => do
      match x with
      | (h, x) =>
        let _ ← holding [x] (setAddHashed a x h)
        Builtin.Frozenset.unchanged idn b ep
        if ((← setState b).2.1 != ep) = true then do
          unsupported "set.changed-during-merge"
          pure (ForInStep.yield PUnit.unit)
        else pure (ForInStep.yield PUnit.unit)) Q E s
  | [], s, S, n, _, HA, _, _, Q, h => wpAny_pure (by
      have := h s.heap n S (Heap.SameBut.refl _ _) HA (Nat.le_refl _) (fun k => by simp)
      exact this)
  | e :: l, s, S, n, hl, HA, hn, hb, Q, h => by
    obtain ⟨k, u, rfl⟩ := hl e List.mem_cons_self
    rw [List.forIn_cons]
    rw [List.length_cons] at hn
    refine wpAny_bind (wpAny_bind (wpAny_holding (wpAny_setAddHashed_of (knd := intKind prog w) (k := k) (intKind_is _ _ _ _) rfl HA (by omega) fun h₁ hsb₁ H₁ => ?_)))
    have hb₁ : h₁.get? b = some ob := (hsb₁.2 b (Ne.symm hab)).trans hb
    refine wpAny_bind ?_
    unfold Builtin.Frozenset.unchanged
    refine wpAny_bind (wpAny_setEpoch_of hb₁ hd hf ?_)
    refine bm_if_false (by simp) ?_
    refine wpAny_pure ?_
    refine wpAny_bind (wpAny_setState_of hb₁ hd hf ?_)
    refine bm_if_false (by simp) ?_
    refine wpAny_pure ?_
    dsimp only
    refine add_loop hab hd hf l _ _ _ (fun e he => hl e (List.mem_cons_of_mem _ he)) H₁ (by split <;> omega) hb₁ fun h' n' S' hsb' H' hle hS' => ?_
    refine h h' n' S' (hsb₁.trans hsb') H' (by revert hle; split <;> omega) fun k' => ?_
    rw [hS' k', Bool.or_eq_true, decide_eq_true_eq]
    constructor
    · rintro ((q | rfl) | ⟨u', hu'⟩)
      · exact .inl q
      · exact .inr ⟨u, List.mem_cons_self⟩
      · exact .inr ⟨u', List.mem_cons_of_mem _ hu'⟩
    · rintro (q | ⟨u', hu'⟩)
      · exact .inl (.inl q)
      · rcases List.mem_cons.mp hu' with q | q
        · exact .inl (.inr (Value.int.inj (Prod.mk.inj q).2).1)
        · exact .inr ⟨u', q⟩
theorem merge_of {s : Shared} {a b : Addr} {x y z : Array Int × SetTable} {S Sa : Int → Bool} {idn : String} {Q : Unit → Shared → Prop} (hab : a ≠ b) (HA : SetX prog w s.heap a z Sa) (H : SetX prog w s.heap b x S) (e : roomT z x.1.size = some y) (hy : y.2.fill ≠ 0)
    (hpl : x.2.plain = true) (hsize : 1 < x.1.size) (hroom : y.1.size + x.1.size + 1 < scanBound)
    (h : ∀ h' n' S', Heap.SameBut a s.heap h' → h'.SetOf (intKind prog w) a S' n' → y.1.size ≤ n' → (∀ k, S' k = true ↔ Sa k = true ∨ S k = true) → Q () { s with heap := h' }) :
    wpAny (model prog w) A (Builtin.Frozenset.merge idn a b) Q E s := by
  obtain ⟨o, es, ep, ho, hex, hd, hel, hmap, hb, hf, hm⟩ := id H
  have hsz : x.1.size = es.size := by rw [← hmap, Array.size_map]
  unfold Builtin.Frozenset.merge
  refine wpAny_bind (wpAny_setEpoch_of ho hd hf ?_)
  unfold setMerge
  refine bm_if_false (by simpa using hab) ?_
  refine wpAny_bind (wpAny_setState_of ho hd hf ?_)
  dsimp only
  refine bm_if_false (by rw [Array.isEmpty_eq_false_iff]; intro hq; have h0 : es.size = 0 := by rw [hq]; rfl
                         omega) ?_
  rw [← hsz]
  refine wpAny_bind (setRoomFor_of HA e fun h₁ hsb₁ H₁ => ?_)
  have ho1 : h₁.get? b = some o := (hsb₁.2 b (Ne.symm hab)).trans ho
  obtain ⟨oN, esN, epN, hoN, hexN, hdN, helN, hmapN, hbN, hfN, hmN⟩ := id H₁
  refine wpAny_bind (wpAny_setState_of hoN hdN hfN ?_)
  dsimp only
  have hroad : y.2.road x.2 = .oneByOne := by
    unfold SetTable.road
    rw [if_pos (by simpa using hy)]
  rw [hroad]
  dsimp only
  have HB₁ : SetX prog w h₁ b x S := H.keep fun o' eo => (hsb₁.2 b (Ne.symm hab)).trans eo
  refine wpAny_bind (walkU_of hab H₁.setOf HB₁ hpl hsize fun l h₂ hsb₂ H₂ hl hS hlen => ?_)
  have ho2 : h₂.get? b = some o := (hsb₂.2 b (Ne.symm hab)).trans ho1
  rw [← Array.forIn_toList]
  refine wpAny_bind (add_loop (idn := idn) hab hd hf l.toList _ Sa y.1.size hl H₂ (by rw [Array.length_toList, hlen]; omega) ho2 fun h' n' S' hsb' H' hle hS' => ?_)
  refine wpAny_pure (h h' n' S' ((hsb₁.trans hsb₂).trans hsb') H' hle fun k => (hS' k).trans ?_)
  rw [hS k]
/-- `a | b`, the first one's table known -/
theorem or_sets {s : Shared} {a b : Addr} {x xb : Array Int × SetTable} {y z y2 : Bool → Array Int × SetTable} {S Sb : Int → Bool} {Q : Value → Shared → Prop} (hab : a ≠ b) (H : SetX prog w s.heap a x S) (HB : SetX prog w s.heap b xb Sb)
    (e1 : ∀ led', roomT (#[], .fresh 0 0 led') x.1.size = some (y led')) (e2 : ∀ led', cleanT (y led').2 x = some (z led')) (hne : x.1.size ≠ 0) (e3 : ∀ led', roomT (z led') xb.1.size = some (y2 led')) (e4 : ∀ led', (y2 led').2.fill ≠ 0)
    (hpl : xb.2.plain = true) (hsize : 1 < xb.1.size) (hroom : ∀ led', (y2 led').1.size + xb.1.size + 1 < scanBound)
    (h : ∀ h' n' S' led, h'.SetOf (intKind prog w) s.heap.objs.size S' n' → (y2 led).1.size ≤ n' → (∀ k, S' k = true ↔ S k = true ∨ Sb k = true) → (∀ q o, s.heap.get? q = some o → h'.get? q = some o) → Q (.ref s.heap.objs.size) { s with heap := h' }) :
    wpAny (model prog w) A (binaryOp .BitOr (.ref a) (.ref b)) Q E s := by
  have hTa : s.TypeIs (.ref a) "set" := SetX.type (h := s.heap) H
  have hTb : s.TypeIs (.ref b) "set" := SetX.type (h := s.heap) HB
  refine wpAny_binaryOp_same hTa hTb or_fills or_slot (wpAny_call_entry or_slot hTa or_entry ?_ (or_args _ _))
  rw [or_tree]
  refine wpAny_bind ?_
  show wpAny _ _ (Builtin.Frozenset.isAnySet (.ref a) >>= _) _ _ _
  refine wpAny_bind (any_set hTa ?_)
  refine any_set hTb ?_
  refine bm_if_false rfl ?_
  refine wpAny_bind ?_
  unfold unionT
  refine wpAny_bind (copy_of H e1 e2 hne fun led h₁ H₁ k₁ => ?_)
  refine bm_if_true (by simpa using fun e : b = a => hab e.symm) ?_
  refine wpAny_bind (wpAny_pure ?_)
  refine wpAny_bind (wpAny_holding ?_)
  unfold Builtin.Frozenset.updateFrom
  have hlt : b < s.heap.objs.size := by obtain ⟨o, _, _, ho, _⟩ := HB; exact Heap.lt_size ho
  have HB₁ : SetX prog w h₁ b xb Sb := HB.keep fun o eo => k₁ _ _ eo
  refine wpAny_bind (any_set (SetX.type (h := h₁) (s := { s with heap := h₁ }) HB₁) ?_)
  refine bm_if_true rfl ?_
  refine wpAny_bind (wpAny_pure ?_)
  refine merge_of (s := { s with heap := h₁ }) (Nat.ne_of_gt hlt) H₁ HB₁ (e3 led) (e4 led) hpl hsize (hroom led) fun h' n' S' hsb' H' hle hS' => ?_
  refine wpAny_pure (wpAny_pure ⟨_, rfl, (fun x => by cases x), ?_⟩)
  refine h h' n' S' led H' hle hS' fun q o e => (hsb'.2 q (Nat.ne_of_lt (Heap.lt_size e))).trans (k₁ q o e)
end
end Mine
end

/-! ### part FS10 -/
section
open PySem PySem.W PySem.Calls PyProof.Rows
namespace Mine
set_option maxRecDepth 100000
def stN (val : Nat → Int) (led : Bool) : Nat → Array Int × SetTable
  | 0 => (#[], .fresh 0 0 led)
  | i + 1 => addH (stN val led i) (hashInt (val i))
def vR (lo : Int) (i : Nat) : Int := lo + (i : Int) * 1
def vK (i : Nat) : Int := [97, 98, 67, 100].getD i 0
/-- one pass along the numbers: each is new, and the last state is `y` -/
def pass (val : Nat → Int) (y : Array Int × SetTable) : Nat → Nat → Array Int × SetTable → Bool
  | 0, _, x => decide (x = y)
  | f + 1, i, x => x.1.toList.all (fun k => k != hashInt (val i)) && decide (x.1.size + 1 < 4096) && pass val y f (i + 1) (addH x (hashInt (val i)))
theorem pass_spec {val : Nat → Int} {led : Bool} {y : Array Int × SetTable} : ∀ (f i : Nat), pass val y f i (stN val led i) = true →
    (∀ j, i ≤ j → j < i + f → (∀ x ∈ (stN val led j).1.toList, x ≠ hashInt (val j)) ∧ (stN val led j).1.size + 1 < scanBound) ∧ stN val led (i + f) = y
  | 0, i, h => ⟨fun j h1 h2 => by omega, of_decide_eq_true h⟩
  | f + 1, i, h => by
    unfold pass at h
    simp only [Bool.and_eq_true, decide_eq_true_eq, List.all_eq_true, bne_iff_ne] at h
    obtain ⟨⟨h1, h2⟩, h3⟩ := h
    have ih := pass_spec (led := led) f (i + 1) h3
    refine ⟨fun j hj1 hj2 => ?_, ?_⟩
    · by_cases e : j = i
      · subst e; exact ⟨h1, h2⟩
      · exact ih.1 j (by omega) (by omega)
    · rw [show i + (f + 1) = i + 1 + f by omega]; exact ih.2
def up26 (lo : Nat) : Array Nat := ((List.range 26).map fun i => lo + i).toArray
def x65 (led : Bool) : Array Int × SetTable := ((up26 65).map Int.ofNat, { mask := 127, place := up26 65, dummies := #[], finger := 0, led, moves := 2, plain := true })
def x97 (led : Bool) : Array Int × SetTable := ((up26 97).map Int.ofNat, { mask := 127, place := up26 97, dummies := #[], finger := 0, led, moves := 2, plain := true })
def xK (led : Bool) : Array Int × SetTable := (#[97, 98, 67, 100], { mask := 7, place := #[1, 2, 3, 4], dummies := #[], finger := 0, led, moves := 0, plain := true })
theorem p65 : ∀ led, pass (vR 65) (x65 led) 26 0 (#[], .fresh 0 0 led) = true := by decide +kernel
theorem p97 : ∀ led, pass (vR 97) (x97 led) 26 0 (#[], .fresh 0 0 led) = true := by decide +kernel
theorem pK : ∀ led, pass vK (xK led) 4 0 (#[], .fresh 0 0 led) = true := by decide +kernel
def yT (led' : Bool) : Array Int × SetTable := (#[], { mask := 63, place := #[], dummies := #[], finger := 0, led := led', moves := 1, plain := true })
def zT (led led' : Bool) : Array Int × SetTable := ((up26 65).map Int.ofNat, { mask := 63, place := up26 1, dummies := #[], finger := 0, led := led' && led, moves := 1, plain := true })
def y2T (led led' : Bool) : Array Int × SetTable := ((up26 65).map Int.ofNat, { mask := 127, place := up26 65, dummies := #[], finger := 0, led := led' && led, moves := 2, plain := true })
theorem e1T : ∀ led', roomT (#[], .fresh 0 0 led') 26 = some (yT led') := by decide +kernel
theorem e2T : ∀ led led', cleanT (yT led').2 (x65 led) = some (zT led led') := by decide +kernel
theorem e3T : ∀ led led', roomT (zT led led') 26 = some (y2T led led') := by decide +kernel
theorem e5T : ∀ led led', (y2T led led').1.size = 26 := by decide +kernel
theorem e4T : ∀ led led', (y2T led led').2.fill ≠ 0 := by decide +kernel
theorem size65 : ∀ led, (x65 led).1.size = 26 := by decide +kernel
theorem size97 : ∀ led, (x97 led).1.size = 26 := by decide +kernel
end Mine
end

/-! ### part FS11 -/
section
open PySem PySem.W PySem.Calls PyProof.Rows
namespace Mine
set_option maxRecDepth 100000
section
variable {prog : Program} {w : World} {A : Around} {E : Value → Shared → Prop} {s : Shared} {h₀ : Heap} {L : Addr} {m : Str → Option Value} {news : List (Addr × Obj)} {Q : Value → Shared → Prop}
def SetO (prog : Program) (w : World) (o : Obj) (x : Array Int × SetTable) (S : Int → Bool) : Prop :=
  ∃ es ep, o.ExactSet ∧ o.data = .set es ep x.2 ∧ ElemsOf (intKind prog w) es.toList ∧ es.map (·.1) = x.1 ∧ es.size < scanBound ∧ x.2.fits es.size = true ∧ (∀ k, S k = true ↔ ∃ e ∈ es.toList, (intKind prog w).is k e.2 = true)
theorem SetX.split {h : Heap} {a : Addr} {x : Array Int × SetTable} {S : Int → Bool} (H : SetX prog w h a x S) : ∃ o, h.get? a = some o ∧ SetO prog w o x S := by
  obtain ⟨o, es, ep, ho, r⟩ := H; exact ⟨o, ho, es, ep, r⟩
theorem SetO.at {h : Heap} {a : Addr} {o : Obj} {x : Array Int × SetTable} {S : Int → Bool} (H : SetO prog w o x S) (ho : h.get? a = some o) : SetX prog w h a x S := by
  obtain ⟨es, ep, r⟩ := H; exact ⟨o, es, ep, ho, r⟩
/-- a set object of some `n` numbers -/
def SetN (prog : Program) (w : World) (o : Obj) (S : Int → Bool) (n : Nat) : Prop :=
  ∃ es ep t, o.ExactSet ∧ o.data = .set es ep t ∧ ElemsOf (intKind prog w) es.toList ∧ (∀ k, S k = true ↔ ∃ e ∈ es.toList, (intKind prog w).is k e.2 = true) ∧ es.size < scanBound ∧ t.fits es.size = true ∧ es.size = n
theorem SetN.at {h : Heap} {a : Addr} {o : Obj} {S : Int → Bool} {n : Nat} (H : SetN prog w o S n) (ho : h.get? a = some o) : h.SetOf (intKind prog w) a S n := by
  obtain ⟨es, ep, t, r⟩ := H; exact ⟨o, es, ep, t, ho, r⟩
theorem setOf_split {h : Heap} {a : Addr} {S : Int → Bool} {n : Nat} (H : h.SetOf (intKind prog w) a S n) : ∃ o, h.get? a = some o ∧ SetN prog w o S n := by
  obtain ⟨o, es, ep, t, ho, r⟩ := H; exact ⟨o, ho, es, ep, t, r⟩
def TSg (val : Nat → Int) (i : Nat) (k : Int) : Bool := (List.range i).any fun j => decide (k = val j)
theorem TSg_succ (val : Nat → Int) (i : Nat) (k : Int) : TSg val (i + 1) k = (TSg val i k || decide (k = val i)) := by
  unfold TSg; rw [List.range_succ, List.any_append]; simp
abbrev rangeO (a b : Int) (t u v : Tok) : Obj := { cls := .type "range", dict := none, data := .fields #[.int a t, .int b u, .int 1 v], slots := #[] }
/-- a new object on the ledger, all else as it was -/
theorem newsGrow {h : Heap} {a : Addr} {o : Obj} (F : Fr h₀ L s.heap m) (N : News h₀ L s.heap news) (ha : a = s.heap.objs.size) (ho : h.get? a = some o) (hk : ∀ b o, s.heap.get? b = some o → h.get? b = some o) :
    Fr h₀ L h m ∧ News h₀ L h ((a, o) :: news) ∧ (∀ p ∈ news, p.1 < a) := by
  subst ha
  refine ⟨F.kept hk, fun p hp => ?_, fun p hp => Heap.lt_size (N p hp).1⟩
  rcases List.mem_cons.mp hp with rfl | hp
  · exact ⟨ho, Nat.ne_of_gt F.ns.lt, F.fresh⟩
  · exact ⟨hk _ _ (N p hp).1, (N p hp).2⟩
theorem range_KL {a b : Int} {t u : Tok} (F : Fr h₀ L s.heap m) (N : News h₀ L s.heap news)
    (h : ∀ r h' tk t₁ u₁ v₁, Fr h₀ L h' m → News h₀ L h' ((r, rangeO a b t₁ u₁ v₁) :: news) → (∀ p ∈ news, p.1 < r) → Q (.ref r) { s with heap := h', toks := tk }) :
    wpAny (model prog w) A (call (.type "range") [.int a t, .int b u]) Q E s :=
  range2_rows F N fun h' tk t₁ u₁ v₁ R F' N' k => by
    obtain ⟨F2, N2, l⟩ := newsGrow F N rfl R k
    exact h _ h' tk t₁ u₁ v₁ F2 N2 l
theorem set_rangeL {lo hi : Int} {t u v : Tok} {r : Addr} {xs : Bool → Array Int × SetTable} (hh : A.handled = none) (F : Fr h₀ L s.heap m) (N : News h₀ L s.heap news) (hr : (r, rangeO lo hi t u v) ∈ news) (hsz : Builtin.Range.rangeSize lo hi 1 = 26) (hsm : Builtin.Range.small lo hi 1 = true)
    (hp : ∀ led, pass (vR lo) (xs led) 26 0 (#[], .fresh 0 0 led) = true)
    (h : ∀ a h' tk o led, Fr h₀ L h' m → News h₀ L h' ((a, o) :: news) → (∀ p ∈ news, p.1 < a) → SetO prog w o (xs led) (TSg (vR lo) 26) → Q (.ref a) { s with heap := h', toks := tk }) :
    wpAny (model prog w) A (call (.type "set") [.ref r]) Q E s := by
  have hR : s.heap.get? r = some (rangeO lo hi t u v) := (N _ hr).1
  have sp := fun led => pass_spec (led := led) 26 0 (hp led)
  refine call_setX (n := 26) (P := fun i v => ∃ t, v = .int (lo + i * 1) t) (fp := fun I => [I]) (St := fun I i h => IsRangeIter h I (lo + (i : Nat) * 1) ((26 : Nat) - (i : Nat)) 1) (T := "range")
    (itO := { cls := .type "range_iterator", data := .fields #[rawInt lo, rawInt (Builtin.Range.rangeSize lo hi 1), rawInt 1] }) hR rfl (by rw [isSubtype_type]; kernel_rfl) (by rw [isSubtype_type]; kernel_rfl) (by decide) hh
    (fun A E s₁ Q h1 hq => wpAny_pyIter_range h1 hsm hq) (fun A I hA hne => Walks.range hA I lo 1 26) (fun I x hx => .inl (List.mem_singleton.mp hx)) (by rfl) (fun h I hI _ => ?_) (vR lo) (fun i v hv => hv) (stN (vR lo)) (fun _ => rfl) (fun _ _ _ => rfl)
    (fun led i hi => ((sp led).1 i (Nat.zero_le _) (by omega)).1) (fun led i hi => ((sp led).1 i (Nat.zero_le _) (by omega)).2) (TSg (vR lo)) (fun k => rfl) (TSg_succ _) fun led h' tk HX k => ?_
  · rw [hsz] at hI
    show h.get? I = _
    rw [hI]
    simp
  · have e := (sp led).2
    rw [Nat.zero_add] at e
    rw [e] at HX
    obtain ⟨o, ho, HO⟩ := HX.split
    obtain ⟨F2, N2, l⟩ := newsGrow F N rfl ho k
    exact h _ h' tk o led F2 N2 l HO
theorem set_baL {x : Addr} {b : Array UInt8} (hh : A.handled = none) (F : Fr h₀ L s.heap m) (N : News h₀ L s.heap news) (hr : (x, baO b) ∈ news) (hb : KBw.bInts b = [97, 98, 67, 100])
    (h : ∀ a h' tk o, Fr h₀ L h' m → News h₀ L h' ((a, o) :: news) → (∀ p ∈ news, p.1 < a) → SetN prog w o (TSg vK 4) 4 → Q (.ref a) { s with heap := h', toks := tk }) :
    wpAny (model prog w) A (call (.type "set") [.ref x]) Q E s := by
  have hR : s.heap.get? x = some (baO b) := (N _ hr).1
  have hn : b.size = 4 := by rw [← KBw.ints_length, hb]; rfl
  have sp := fun led => pass_spec (led := led) 4 0 (pK led)
  refine call_setX (n := 4) (P := fun i v => ∃ c u, b[i]? = some c ∧ v = .int (c.toNat : Int) u) (fp := fun I => [I, x]) (St := fun I i h => IsBaIter h I x i ∧ h.get? x = some (baO b)) (T := "bytearray")
    (itO := { cls := .type "bytearray_iterator", data := .fields #[.ref x, .int 0 0] }) hR rfl (by rw [isSubtype_type]; kernel_rfl) (by rw [isSubtype_type]; kernel_rfl) (by decide) hh
    (fun A E s₁ Q h1 hq => bai_iter h1 hq) (fun A I hA hne => hn ▸ bai_walks hA I x hne b) (fun I y hy => by
      rcases List.mem_cons.mp hy with e | e
      · exact .inl e
      · exact .inr (List.mem_singleton.mp e)) (by rfl) (fun h I hI hx => ⟨⟨_, hI, rfl, rfl⟩, hx⟩) vK (fun i v ⟨c, u, hc, hv⟩ => ?_) (stN vK) (fun _ => rfl) (fun _ _ _ => rfl)
    (fun led i hi => ((sp led).1 i (Nat.zero_le _) (by omega)).1) (fun led i hi => ((sp led).1 i (Nat.zero_le _) (by omega)).2) (TSg vK) (fun k => rfl) (TSg_succ _) fun led h' tk HX k => ?_
  · refine ⟨u, ?_⟩
    rw [hv]
    have := KBw.ints_get hc
    rw [hb] at this
    unfold vK
    rw [List.getD_eq_getElem?_getD, this]
    rfl
  · have e := (sp led).2
    rw [Nat.zero_add] at e
    rw [e] at HX
    obtain ⟨o, ho, HO⟩ := setOf_split HX.setOf
    obtain ⟨F2, N2, l⟩ := newsGrow F N rfl ho k
    exact h _ h' tk o F2 N2 l HO
theorem or_KL {a b : Addr} {oa ob : Obj} {led ledb : Bool} (F : Fr h₀ L s.heap m) (N : News h₀ L s.heap news) (ha : (a, oa) ∈ news) (hb : (b, ob) ∈ news) (hab : a ≠ b) (Ha : SetO prog w oa (x65 led) (TSg (vR 65) 26)) (Hb : SetO prog w ob (x97 ledb) (TSg (vR 97) 26))
    (h : ∀ c h' o S n, Fr h₀ L h' m → News h₀ L h' ((c, o) :: news) → (∀ p ∈ news, p.1 < c) → SetN prog w o S n → 26 ≤ n → (∀ k, S k = true ↔ TSg (vR 65) 26 k = true ∨ TSg (vR 97) 26 k = true) → Q (.ref c) { s with heap := h' }) :
    wpAny (model prog w) A (binaryOp .BitOr (.ref a) (.ref b)) Q E s := by
  refine or_sets hab (Ha.at (N _ ha).1) (Hb.at (N _ hb).1) (y := yT) (z := zT led) (y2 := y2T led) (fun l => by rw [size65]; exact e1T l) (e2T led) (by rw [size65]; decide) (fun l => by rw [size97]; exact e3T led l) (e4T led) rfl (by rw [size97]; decide)
    (fun l => by rw [size97, e5T]; decide) fun h' n' S' l HS hle hS k => ?_
  obtain ⟨o, ho, HO⟩ := setOf_split HS
  obtain ⟨F2, N2, lt⟩ := newsGrow F N rfl ho k
  exact h _ h' o S' n' F2 N2 lt HO (by rw [e5T] at hle; exact hle) hS
theorem le_KL {a b : Addr} {oa ob : Obj} {S : Int → Bool} {n : Nat} (N : News h₀ L s.heap news) (ha : (a, oa) ∈ news) (hb : (b, ob) ∈ news) (Ha : SetN prog w oa (TSg vK 4) 4) (Hb : SetN prog w ob S n) (hn : 26 ≤ n) (hS : ∀ k, S k = true ↔ TSg (vR 65) 26 k = true ∨ TSg (vR 97) 26 k = true) (hu : A.units < cLine)
    (h : Q (.bool true) s) : wpAny (model prog w) A (compareOp .LtE (.ref a) (.ref b)) Q E s := by
  refine cmp_ofLtE (le_sets (Ha.at (N _ ha).1) (Hb.at (N _ hb).1) (by omega) (fun k hk => (hS k).mpr ?_) hu h)
  have : k = 97 ∨ k = 98 ∨ k = 67 ∨ k = 100 := by
    unfold TSg vK at hk
    simp [List.range_succ] at hk
    omega
  rcases this with rfl | rfl | rfl | rfl <;> first | exact .inl (by decide +kernel) | exact .inr (by decide +kernel)
end
end Mine
end

/-! ### part P1 -/
section
open PySem PySem.W PySem.Calls PyProof.Rows
namespace Mine
set_option maxRecDepth 100000
def fmtI : Builtin.Struct.Format := { bigEndian := true, native := false, codes := [⟨'I', 1, 0, 4⟩], size := 4, items := 1 }
theorem entry_pack : entryFor table "_struct.pack" = some Builtin.«_struct.pack» := by first | exact entryFor_of_fast (by kernel_rfl) | exact entryFor_of_tree (by kernel_rfl)
theorem fmt_I (t : Tok) : Builtin.Struct.moduleFormat (.str (Str.ofString "!I") t) = pure fmtI := by kernel_rfl
/-- a number in four octets, the highest first -/
def be4 (n : Nat) : List Int := [((n / 16777216 % 256 : Nat) : Int), ((n / 65536 % 256 : Nat) : Int), ((n / 256 % 256 : Nat) : Int), ((n % 256 : Nat) : Int)]
theorem u8_of (x : Nat) : (((x % 256).toUInt8).toNat : Int) = ((x % 256 : Nat) : Int) := by
  have h : ((x % 256).toUInt8).toNat = x % 256 := by simp
  rw [h]
theorem be4_ints (n : Nat) : KBw.bInts #[(n / 256 ^ 3 % 256).toUInt8, (n / 256 ^ 2 % 256).toUInt8, (n / 256 ^ 1 % 256).toUInt8, (n / 256 ^ 0 % 256).toUInt8] = be4 n := by
  show [(((n / 256 ^ 3 % 256).toUInt8).toNat : Int), (((n / 256 ^ 2 % 256).toUInt8).toNat : Int), (((n / 256 ^ 1 % 256).toUInt8).toNat : Int), (((n / 256 ^ 0 % 256).toUInt8).toNat : Int)] = _
  rw [u8_of, u8_of, u8_of, u8_of]
  unfold be4
  rw [show (256 : Nat) ^ 3 = 16777216 from rfl, show (256 : Nat) ^ 2 = 65536 from rfl, show (256 : Nat) ^ 1 = 256 from rfl, show (256 : Nat) ^ 0 = 1 from rfl, Nat.div_one]
theorem pack_I {prog : Program} {w : World} {A : Around} {E : Value → Shared → Prop} {s : Shared} {n : Nat} {t u : Tok} {Q : Value → Shared → Prop} (h1 : n < 4294967296)
    (h : ∀ (b : Array UInt8) t' k', KBw.bInts b = be4 n → Q (.bytes b t') { s with toks := k' }) :
    wpAny (model prog w) A (call (.builtin "_struct.pack") [.str (Str.ofString "!I") t, .int (n : Int) u]) Q E s := by
  refine Calls.call_function_entry (by decide +kernel) (by decide +kernel) entry_pack (by unfold argsOk; kernel_rfl) ?_
  unfold Builtin.«_struct.pack»
  refine wpAny_bind (wpAny_of_eq (a := ()) (by kernel_rfl) ?_)
  dsimp only
  refine wpAny_bind (wpAny_of_eq (fmt_I t) ?_)
  unfold Builtin.Struct.packed
  dsimp only [fmtI]
  refine wpAny_ite_false (by rfl) ?_
  refine wpAny_ite_false (by decide +kernel) ?_
  refine wpAny_bind ?_
  unfold Builtin.Struct.packEach
  dsimp only
  simp only [List.forIn_cons, List.forIn_nil]
  refine wpAny_bind (wpAny_bind ?_)
  refine wpAny_ite_false (by decide +kernel) ?_
  refine wpAny_ite_false (by decide +kernel) ?_
  refine wpAny_bind ?_
  rw [KPc.range_list]
  refine KPc.turn ?_
  dsimp only
  refine wpAny_bind ?_
  refine KTBy.if_not (c := decide ((n : Int) < 0) || decide ((n : Int) > 4294967295)) (by rw [decide_eq_false (show ¬ (n : Int) < 0 by omega), decide_eq_false (show ¬ (n : Int) > 4294967295 by omega)]; rfl) ?_
  refine wpAny_pure ?_
  refine wpAny_bind (wpAny_pure (wpAny_pure ?_))
  dsimp only
  refine wpAny_pure ?_
  refine wpAny_pure ?_
  dsimp only
  refine wpAny_pure ?_
  refine wpAny_pure ?_
  dsimp only
  refine wpAny_bind (wpAny_mkBytes (wpAny_pure ⟨_, rfl, h _ _ _ ?_⟩) ?_)
  · have e : ((n : Int) % 2 ^ (8 * 4)).toNat = n := by
      show ((n : Int) % 4294967296).toNat = n
      omega
    refine Eq.trans (congrArg KBw.bInts (?_ : _ = #[(((n : Int) % 2 ^ (8 * 4)).toNat / 256 ^ 3 % 256).toUInt8, (((n : Int) % 2 ^ (8 * 4)).toNat / 256 ^ 2 % 256).toUInt8, (((n : Int) % 2 ^ (8 * 4)).toNat / 256 ^ 1 % 256).toUInt8, (((n : Int) % 2 ^ (8 * 4)).toNat / 256 ^ 0 % 256).toUInt8])) ?_
    · kernel_rfl
    · rw [e]; exact be4_ints n
  · refine Nat.le_trans (Nat.le_of_eq (?_ : _ = 4)) ?_
    · kernel_rfl
    · rw [sizeLine_eq]; decide
end Mine
end

/-! ### part P2 -/
section
open PySem PySem.W PySem.Calls PyProof.Rows
namespace Mine
set_option maxRecDepth 100000
theorem entry_unpack : entryFor table "_struct.unpack" = some Builtin.«_struct.unpack» := by first | exact entryFor_of_fast (by kernel_rfl) | exact entryFor_of_tree (by kernel_rfl)
theorem buf_look : typeLookup (.type "bytes") "__buffer__" = pure (some (.builtin "bytes.__buffer__")) := by rw [typeLookup_type, builtinLookup_eq_fast]; kernel_rfl
theorem bytesLike_b (id : String) (b : Array UInt8) (t : Tok) : Builtin.Bytes.bytesLike id (.bytes b t) = pure b := by
  have e : specialOf (.bytes b t) "__buffer__" = typeLookup (.type "bytes") "__buffer__" := rfl
  unfold Builtin.Bytes.bytesLike Builtin.Bytes.buffer?
  rw [e, buf_look]
  kernel_rfl
def fmtI4 : Builtin.Struct.Format := { bigEndian := true, native := false, codes := [⟨'I', 1, 0, 4⟩, ⟨'s', 4, 4, 1⟩], size := 8, items := 2 }
theorem fmt_I4 (t : Tok) : Builtin.Struct.moduleFormat (.str (Str.ofString "!I4s") t) = pure fmtI4 := by kernel_rfl
theorem unpacked_I (id : String) (b : Array UInt8) : Builtin.Struct.unpacked id fmtI b 0 = (mkInt ((Builtin.Struct.natOf true (b.extract 0 4) : Nat) : Int) >>= fun v => newTuple [v]) := by kernel_rfl
theorem wpAny_eq {α : Type} {M : Model} {A : Around} {E : Value → Shared → Prop} {s : Shared} {t t' : Sem α} {Q : α → Shared → Prop} (e : t = t') (h : wpAny M A t' Q E s) : wpAny M A t Q E s := e ▸ h
section
variable {prog : Program} {w : World} {A : Around} {E : Value → Shared → Prop} {s : Shared} {h₀ : Heap} {L : Addr} {m : Str → Option Value} {news : List (Addr × Obj)} {t u : Tok} {Q : Value → Shared → Prop} {b : Array UInt8}
abbrev tupO (vs : List Value) : Obj := { cls := .type "tuple", data := .seq vs.toArray }
theorem unpack_I (F : Fr h₀ L s.heap m) (N : News h₀ L s.heap news) (hb : b.size = 4)
    (h : ∀ D h' tk ti, Fr h₀ L h' m → News h₀ L h' ((D, tupO [.int ((Builtin.Struct.natOf true (b.extract 0 4) : Nat) : Int) ti]) :: news) → (∀ p ∈ news, p.1 < D) → Q (.ref D) { s with heap := h', toks := tk }) :
    wpAny (model prog w) A (call (.builtin "_struct.unpack") [.str (Str.ofString "!I") t, .bytes b u]) Q E s := by
  refine Calls.call_function_entry (by decide +kernel) (by decide +kernel) entry_unpack (by unfold argsOk; kernel_rfl) ?_
  unfold Builtin.«_struct.unpack»
  refine wpAny_bind (wpAny_of_eq (a := ()) (by kernel_rfl) ?_)
  dsimp only
  refine wpAny_bind (wpAny_of_eq (a := ()) (by kernel_rfl) ?_)
  refine wpAny_bind (wpAny_of_eq (fmt_I t) ?_)
  unfold Builtin.Struct.unpackExact
  refine wpAny_bind (wpAny_of_eq (bytesLike_b _ b u) ?_)
  refine wpAny_bind (wpAny_pure ?_)
  refine wpAny_ite_false (decide_eq_false (by rw [bne_iff_ne]; exact fun hq => hq hb)) ?_
  rw [unpacked_I]
  refine wpAny_bind (wpAny_bind (wpAny_mkInt ?_))
  have l : ∀ p ∈ news, p.1 < s.heap.objs.size := fun p hp => Heap.lt_size (N p hp).1
  exact newTuple_N (s := { s with toks := s.toks + 1 }) F N (fun h' F' N' => wpAny_pure ⟨_, rfl, h _ _ _ _ F' N' l⟩) (by size_fits)
theorem unpack_I4 (F : Fr h₀ L s.heap m) (N : News h₀ L s.heap news) (hb : b.size = 8)
    (h : ∀ D h' tk ti tb, Fr h₀ L h' m → News h₀ L h' ((D, tupO [.int ((Builtin.Struct.natOf true (b.extract 0 4) : Nat) : Int) ti, .bytes (b.extract 4 8) tb]) :: news) → (∀ p ∈ news, p.1 < D) → Q (.ref D) { s with heap := h', toks := tk }) :
    wpAny (model prog w) A (call (.builtin "_struct.unpack") [.str (Str.ofString "!I4s") t, .bytes b u]) Q E s := by
  refine Calls.call_function_entry (by decide +kernel) (by decide +kernel) entry_unpack (by unfold argsOk; kernel_rfl) ?_
  unfold Builtin.«_struct.unpack»
  refine wpAny_bind (wpAny_of_eq (a := ()) (by kernel_rfl) ?_)
  dsimp only
  refine wpAny_bind (wpAny_of_eq (a := ()) (by kernel_rfl) ?_)
  refine wpAny_bind (wpAny_of_eq (fmt_I4 t) ?_)
  unfold Builtin.Struct.unpackExact
  refine wpAny_bind (wpAny_of_eq (bytesLike_b _ b u) ?_)
  refine wpAny_bind (wpAny_pure ?_)
  refine wpAny_ite_false (decide_eq_false (by rw [bne_iff_ne]; exact fun hq => hq hb)) ?_
  unfold Builtin.Struct.unpacked
  dsimp only [fmtI4]
  simp only [List.forIn_cons, List.forIn_nil]
  refine wpAny_bind (wpAny_bind (wpAny_bind (wpAny_eq (t' := mkInt ((Builtin.Struct.natOf true (b.extract 0 4) : Nat) : Int) >>= fun v => pure (ForInStep.yield #[v])) (by kernel_rfl) ?_)))
  refine wpAny_bind (wpAny_mkInt (wpAny_pure ?_))
  dsimp only
  refine wpAny_bind (wpAny_eq (t' := mkBytes (b.extract 4 8) >>= fun v => pure (ForInStep.yield #[.int ((Builtin.Struct.natOf true (b.extract 0 4) : Nat) : Int) s.toks, v])) (by kernel_rfl) ?_)
  have l : ∀ p ∈ news, p.1 < s.heap.objs.size := fun p hp => Heap.lt_size (N p hp).1
  refine wpAny_bind (wpAny_mkBytes ?_ ?_)
  · refine wpAny_pure (wpAny_pure ?_)
    exact newTuple_N (s := { s with toks := s.toks + 1 + 1 }) F N (fun h' F' N' => wpAny_pure ⟨_, rfl, h _ _ _ _ _ F' N' l⟩) (by size_fits)
  · rw [sizeLine_eq, Array.size_extract, hb]; decide
end
/-- a number out of four octets, the highest first -/
theorem natOf_be (b : Array UInt8) : (Builtin.Struct.natOf true b : Nat) = (KBw.bInts b).foldl (fun (a : Nat) (k : Int) => a * 256 + k.toNat) 0 := by
  unfold Builtin.Struct.natOf Builtin.Memoryview.littleEndian KBw.bInts
  rw [List.foldl_map]
  simp
theorem natOf_lt (b : Array UInt8) : Builtin.Struct.natOf true b < 256 ^ b.size := by
  have h : Builtin.Struct.natOf true b = b.toList.foldl (fun (a : Nat) (c : UInt8) => a * 256 + c.toNat) 0 := by
    unfold Builtin.Struct.natOf Builtin.Memoryview.littleEndian
    simp
  have h2 := KFB.fold_lt b.toList 0
  rw [h]
  simpa using h2
end Mine
end

/-! ### part P3 -/
section
open PySem PySem.W PySem.Calls PyProof.Rows
namespace Mine
set_option maxRecDepth 100000
theorem bm_own : typeLookup (.type "bytes") "__bytes__" = pure (some (.builtin "bytes.__bytes__")) := by rw [typeLookup_type, builtinLookup_eq_fast]; kernel_rfl
theorem bb_new {prog : Program} {w : World} {A : Around} {E : Value → Shared → Prop} {s : Shared} {b : Array UInt8} {t : Tok} {Q : Value → Shared → Prop}
    (hQ : Q (.bytes b t) s) :
    codeAny (model prog w) A (.call (.builtin "bytes.__new__") ⟨[.type "bytes", .bytes b t], []⟩) (wants Q E) s := by
  refine codeAny_of_tree ?_
  show wpAny _ A.in1 (do checkBuiltinCall "bytes.__new__" ⟨[.type "bytes", .bytes b t], []⟩; again (.builtin "bytes.__new__" ⟨[.type "bytes", .bytes b t], []⟩)) _ _ s
  refine wpAny_bind (wpAny_of_eq (F.bm_newCall _) (wpAny_pure ⟨plainId_quiet F.bm_plain _, codeAny_builtin F.bm_entry ?_⟩))
  rw [Around.under_plainId F.bm_plain _]
  have hT : s.TypeIs (.bytes b t) "bytes" := PySem.W.typeIs_bytes _ _ _
  unfold Builtin.«bytes.__new__»
  refine wpAny_bind (wpAny_of_eq (a := true) rfl ?_)
  refine bm_if_false rfl ?_
  refine wpAny_bind (wpAny_of_eq F.bm_sub ?_)
  refine bm_if_false rfl ?_
  refine wpAny_bind (wpAny_of_eq (F.bm_bind _) ?_)
  refine wpAny_bind (wpAny_of_eq (a := ()) rfl ?_)
  refine wpAny_bind (wpAny_of_eq (a := ()) rfl ?_)
  refine bm_if_false rfl ?_
  refine wpAny_bind (wpAny_specialOf hT bm_own ?_)
  dsimp only
  refine wpAny_bind (wpAny_rule ?_)
  refine wpAny_bind (wpAny_typeOf hT ?_)
  refine bm_if_true (by decide) ?_
  refine wpAny_of_eq (a := .done (.ret (.bytes b t))) (by kernel_rfl) ?_
  exact hQ
theorem call_bytes_bytes {prog : Program} {w : World} {A : Around} {E : Value → Shared → Prop} {s : Shared} {b : Array UInt8} {t : Tok} {Q : Value → Shared → Prop}
    (hQ : Q (.bytes b t) s) : wpAny (model prog w) A (call (.type "bytes") [.bytes b t]) Q E s := by
  refine callType_codes (Q₁ := fun obj s₁ => s₁.TypeIs obj "bytes" ∧ Q obj s₁) F.bm_called (F.bm_typeCall _) F.entry_object_init
    (bb_new ⟨PySem.W.typeIs_bytes _ _ _, hQ⟩) fun obj s₁ h₁ => ?_
  exact ⟨h₁.1, F.args_object_init_2 obj _, object_init_meets F.bm_called.init.lookup F.bm_called.made (by decide) prog w A.in1 _ s₁ ⟨h₁.1, rfl, h₁.2⟩⟩
theorem iadd_no : typeLookup (.type "bytes") (dunderI "add") = pure none := by rw [typeLookup_type, builtinLookup_eq_fast]; kernel_rfl
theorem iadd_bytes {prog : Program} {w : World} {A : Around} {E : Value → Shared → Prop} {s : Shared} {b c : Array UInt8} {t u : Tok} {Q : Value → Shared → Prop} {ks ls : List Int} (hb : KBw.bInts b = ks) (hc : KBw.bInts c = ls) (hsz : ks.length + ls.length ≤ 16777216)
    (h : ∀ d t' k, KBw.bInts d = ks ++ ls → Q (.bytes d t') { s with toks := k }) : wpAny (model prog w) A (inplaceOp .Add (.bytes b t) (.bytes c u)) Q E s := by
  have hsz' : b.size + c.size ≤ 16777216 := by rw [← KBw.ints_length b, ← KBw.ints_length c, hb, hc]; exact hsz
  have hh : KBw.bInts (b ++ c) = ks ++ ls := KBw.ints_app hb hc
  refine wpAny_inplaceOp_concat (PySem.W.typeIs_bytes s b t) (PySem.W.typeIs_bytes s c u) iadd_no KBy.noFill_bytes_add KBy.seq_bytes_add (call_gives FB.slot_bytes_add (PySem.W.typeIs_bytes s b t) FB.entry_bytes_add (FB.args_bytes_add_2 _ _) (KBy.gives_bytes_add (KBy.tooLong_not hsz')) ?_)
  by_cases hbe : b.isEmpty = true
  · rw [if_pos hbe]
    have e : b = #[] := Array.isEmpty_iff.1 hbe
    have h' := h (b ++ c) u s.toks hh
    rw [e, Array.empty_append] at h'
    exact h'
  · rw [if_neg hbe]
    by_cases hce : c.isEmpty = true
    · rw [if_pos hce]
      have e : c = #[] := Array.isEmpty_iff.1 hce
      have h' := h (b ++ c) t s.toks hh
      rw [e, Array.append_empty] at h'
      exact h'
    · rw [if_neg hce]
      exact ⟨by rw [Array.size_append, sizeLine_eq]; exact hsz', h _ s.toks (s.toks + 1) hh⟩
end Mine
end

/-! ### part P4 -/
section
open PySem PySem.W PySem.Calls PyProof.Rows
namespace Mine
set_option maxRecDepth 100000
theorem ints_extract (b : Array UInt8) (i j : Nat) : KBw.bInts (b.extract i j) = ((KBw.bInts b).drop i).take (j - i) := by
  unfold KBw.bInts
  rw [Array.toList_extract, List.extract_eq_take_drop, List.map_take, List.map_drop]
theorem be4_len (n : Nat) : (be4 n).length = 4 := rfl
theorem be4_fold {n : Nat} (h : n < 4294967296) : (be4 n).foldl (fun (a : Nat) (k : Int) => a * 256 + k.toNat) 0 = n := by
  unfold be4
  simp only [List.foldl_cons, List.foldl_nil, Int.toNat_natCast]
  omega
section
variable {prog : Program} {w : World} {A : Around} {E : Value → Shared → Prop} {s : Shared} {h₀ : Heap} {L : Addr} {m : Str → Option Value} {news : List (Addr × Obj)} {t u : Tok} {Q : Value → Shared → Prop} {b : Array UInt8}
theorem unpack_KL {n : Nat} {ls : List Int} (F : Fr h₀ L s.heap m) (N : News h₀ L s.heap news) (hb : KBw.bInts b = be4 n ++ ls) (hl : ls.length = 4) (hn : n < 4294967296)
    (h : ∀ D h' tk ti kb tb, KBw.bInts kb = ls → Fr h₀ L h' m → News h₀ L h' ((D, tupO [.int (n : Int) ti, .bytes kb tb]) :: news) → (∀ p ∈ news, p.1 < D) → Q (.ref D) { s with heap := h', toks := tk }) :
    wpAny (model prog w) A (call (.builtin "_struct.unpack") [.str (Str.ofString "!I4s") t, .bytes b u]) Q E s := by
  have hsz : b.size = 8 := by rw [← KBw.ints_length, hb, List.length_append, be4_len, hl]
  refine unpack_I4 F N hsz fun D h' tk ti tb F' N' l => ?_
  have e1 : Builtin.Struct.natOf true (b.extract 0 4) = n := by
    rw [natOf_be, ints_extract, hb]
    show ((be4 n ++ ls).take 4).foldl _ 0 = n
    rw [List.take_append_of_le_length (by rw [be4_len]; exact Nat.le_refl _), List.take_of_length_le (by rw [be4_len]; exact Nat.le_refl _)]
    exact be4_fold hn
  have e2 : KBw.bInts (b.extract 4 8) = ls := by
    rw [ints_extract, hb]
    show ((be4 n ++ ls).drop 4).take 4 = ls
    rw [List.drop_append_of_le_length (by rw [be4_len]; exact Nat.le_refl _), List.drop_eq_nil_of_le (by rw [be4_len]; exact Nat.le_refl _), List.nil_append, List.take_of_length_le (by omega)]
  rw [e1] at N'
  exact h D h' tk ti _ tb e2 F' N' l
theorem unpack_1L {n : Nat} (F : Fr h₀ L s.heap m) (N : News h₀ L s.heap news) (hb : KBw.bInts b = be4 n) (hn : n < 4294967296)
    (h : ∀ D h' tk ti, Fr h₀ L h' m → News h₀ L h' ((D, tupO [.int (n : Int) ti]) :: news) → (∀ p ∈ news, p.1 < D) → Q (.ref D) { s with heap := h', toks := tk }) :
    wpAny (model prog w) A (call (.builtin "_struct.unpack") [.str (Str.ofString "!I") t, .bytes b u]) Q E s := by
  have hsz : b.size = 4 := by rw [← KBw.ints_length, hb, be4_len]
  refine unpack_I F N hsz fun D h' tk ti F' N' l => ?_
  have e1 : Builtin.Struct.natOf true (b.extract 0 4) = n := by
    rw [natOf_be, ints_extract, hb]
    exact be4_fold hn
  rw [e1] at N'
  exact h D h' tk ti F' N' l
end
end Mine
end

/-! ### part C1 -/
section
open PySem PySem.W PySem.Calls PyProof.Rows
namespace Mine
def crcT : List Int := [1342890616, 1993593556, 1801765552, 996258700, 651600872, 1020740, 498631456, 2684711228, 3182584152, 2607501812, 2262581648, 3604557996, 3412992200, 3988197476, 4026531840]
def stp (v : Int) : Int := Builtin.bitXor (v.fdiv (2 ^ 4)) ((1304293916 :: crcT).getD (Builtin.bitAnd v 15).toNat 0)
def crcI (v : Int) (ks : List Int) : Int := ks.foldl (fun v o => stp (stp (Builtin.bitXor v o))) v
theorem crc_k (P : Params) : (KK P).lookup 68 = some ⟨.type "tuple", none, .seq (List.toArray [.int 1304293916 451, .int 1342890616 452, .int 1993593556 453, .int 1801765552 454, .int 996258700 455, .int 651600872 456, .int 1020740 457, .int 498631456 458, .int 2684711228 459, .int 3182584152 460, .int 2607501812 461, .int 2262581648 462, .int 3604557996 463, .int 3412992200 464, .int 3988197476 465, .int 4026531840 466]) 0, #[]⟩ := by kernel_rfl
theorem crc_item {prog : Program} {w : World} {A : Around} {E : Value → Shared → Prop} {s : Shared} {h₀ : Heap} {L : Addr} {m : Str → Option Value} {value slice : PySem.Expr} {v : Int} {u : Tok} {Q : Value → Shared → Prop}
    (F : Fr h₀ L s.heap m) (X₀ : (KK w.params).In h₀) (h : ∀ t, Q (.int ((1304293916 :: crcT).getD (Builtin.bitAnd v 15).toNat 0) t) s)
    (hs : subscripted slice false (.ref 68) (.int (Builtin.bitAnd v 15) u) = operate [.ref 68, .int (Builtin.bitAnd v 15) u] (getItem (.ref 68) (.int (Builtin.bitAnd v 15) u)) := by with_unfolding_all rfl) :
    wpAny (model prog w) A (subscriptTail value slice (.ref 68) (.int (Builtin.bitAnd v 15) u)) Q E s := by
  have e : Builtin.bitAnd v 15 = v % 16 := bitAnd_m4 v
  have h0 : 0 ≤ Builtin.bitAnd v 15 := by rw [e]; omega
  have h1 : Builtin.bitAnd v 15 < 16 := by rw [e]; omega
  refine topTupAny_K (ns := 1304293916 :: crcT) F X₀ (crc_k _) (by repeat constructor) h0 (by show _ < (16 : Int); exact h1) (by omega) h hs
local macro_rules | `(tactic| cell_enter) => `(tactic| (refine' code_def ?k1 ?k2 ?k3 ?k4 ?k5 ?kA ?kF ?kK ?k6 ?k7 ?k8 ?k9 ?kB ?_ ?c2 ?c3 ?c4 ?c5; (case kA => exact rfl); (case kF => exact rfl); (case kK => assumption); (case k1 => k_asm); (case k2 => k_asm); (case k3 => k_asm); (case k4 => k_asm); (case k5 => k_asm); (case k6 => k_is); (case k7 => k_is); (case k8 => ktr_room); (case k9 => first | exact BindsTo.of_eq rfl | exact binds_K (by k_in) rfl (by k_is) rfl rfl rfl); (case c5 => decide); (case kB => exact locs rfl); (case c2 => exact rfl); (case c3 => exact rfl); (case c4 => exact rfl); k_whole; intro g' L' h' FG' F' N' B' X' T'; (try dsimp only); (try k_lift B'); (try k_fold)))
local macro_rules | `(tactic| walk_at "subscriptTail") => `(tactic| (k_here; (with_reducible show wpAny _ _ (subscriptTail _ _ (Value.ref 68) (Value.int (Builtin.bitAnd _ 15) _)) _ _ _); k_dflt (refine' crc_item ?k1 ?k2 ?_ ?k3; (case k1 => k_asm); (case k2 => k_asm); (case k3 => with_unfolding_all rfl); k_whole); intro _))
set_option maxRecDepth 100000 in
set_option maxHeartbeats 80000000 in
theorem crc32_c (w : World) (p : Program) (loose : List Str) (mean : ExcName → Option Value) (mg mb : Str → Option Value) (news : List (Addr × Obj)) (b : Array UInt8) (tb : Tok) (v : Int) (tv : Tok) :
    CbClaim PySem.Challenge.rw_bq0018_03.row.prog w (KK w.params) p loose mean mg mb 145 news [] True [.ref 169, .bytes b tb, .int v tv] (fun t => .int (crcI v (KBw.bInts b)) t) := by
  k_fill
  dsimp only [CbClaim, CbLists, CbRet]
  intro dp un gd cn cs a ccd cl outer A₀ base h₀ L m s Q E hB hF hX hN hT hk _ hd hu hret
  refine wpAny_call ?_
  k_dflt cell_enter
  iterate 4 walk1
  rename Fr _ _ _ _ => hF2
  rename News _ _ _ _ => hN2
  refine' KBw.iterBytes_acc1 (y := Str.ofString "value") (fun v o => stp (stp (Builtin.bitXor v o))) rfl rfl hF2 hN2 rfl (fun k' t' a' ta' h' tk' own' hmem' hlo' hhi' hoff' F' N' => ?_) (fun u' t' h' tk' F' N' => ?_)
  · clear hF2 hN2
    k_steps
    refine InvEndN.intro (by assumption) (by assumption) ⟨rfl, ⟨_, rfl⟩, ?_⟩ rfl (fun p hp => List.mem_append.mpr (.inl hp)) (fun p hp => List.mem_append.mpr (.inr hp))
    intro z h1 h2
    simp only [h1, h2, if_false]
  · clear hF2 hN2
    k_steps
    exact hret _ _ _ (by assumption) (by assumption)
/-- the same, as a step of a walk -/
theorem crc32_k {w : World} {p : Program} {loose : List Str} {mean : ExcName → Option Value} {mg mb : Str → Option Value} {news : List (Addr × Obj)} {b : Array UInt8} {ks : List Int} {tb : Tok} {v : Int} {tv : Tok}
    {dp un : Nat} {gd : Option (List Code)} {cn : Str} {cs : Scope} {a : Addr} {ccd : Value} {cl : List (Str × Addr)} {outer : List Env} {A₀ : Around} {base h₀ : Heap} {L : Addr} {m : Str → Option Value} {s : Shared} {Q E : Value → Shared → Prop}
    (hB : Below A₀ base outer h₀) (hF : Fr h₀ L s.heap m) (hX : (KK w.params).In h₀) (hN : News h₀ L s.heap news) (hT : Top p loose mean mg mb h₀) (hk : cs.kind = .function) (hb : KBw.bInts b = ks) (hd : dp + 1 < recursionLimit) (hu : un + 8 < cLine)
    (hret : ∀ (t : Tok) (h' : Heap) (tk' : Nat), Fr h₀ L h' m → News h₀ L h' news → Q (.int (crcI v ks) t) { s with heap := h', toks := tk' }) :
    wpAny (model PySem.Challenge.rw_bq0018_03.row.prog w) (ktrTop dp un gd cn cs L a ccd cl outer) (call (.ref 145) [.ref 169, .bytes b tb, .int v tv]) Q E s := by
  subst hb
  exact crc32_c w p loose mean mg mb news b tb v tv dp un gd cn cs a ccd cl outer A₀ base h₀ L m s Q E hB hF hX hN hT hk trivial hd hu hret
set_option maxRecDepth 100000 in
set_option maxHeartbeats 80000000 in
theorem crc32_1c (w : World) (p : Program) (loose : List Str) (mean : ExcName → Option Value) (mg mb : Str → Option Value) (news : List (Addr × Obj)) (b : Array UInt8) (tb : Tok) :
    CbClaim PySem.Challenge.rw_bq0018_03.row.prog w (KK w.params) p loose mean mg mb 145 news [] True [.ref 169, .bytes b tb] (fun t => .int (crcI 0 (KBw.bInts b)) t) := by
  k_fill
  dsimp only [CbClaim, CbLists, CbRet]
  intro dp un gd cn cs a ccd cl outer A₀ base h₀ L m s Q E hB hF hX hN hT hk _ hd hu hret
  refine wpAny_call ?_
  k_dflt cell_enter
  iterate 4 walk1
  rename Fr _ _ _ _ => hF2
  rename News _ _ _ _ => hN2
  refine' KBw.iterBytes_acc1 (y := Str.ofString "value") (fun v o => stp (stp (Builtin.bitXor v o))) rfl rfl hF2 hN2 rfl (fun k' t' a' ta' h' tk' own' hmem' hlo' hhi' hoff' F' N' => ?_) (fun u' t' h' tk' F' N' => ?_)
  · clear hF2 hN2
    k_steps
    refine InvEndN.intro (by assumption) (by assumption) ⟨rfl, ⟨_, rfl⟩, ?_⟩ rfl (fun p hp => List.mem_append.mpr (.inl hp)) (fun p hp => List.mem_append.mpr (.inr hp))
    intro z h1 h2
    simp only [h1, h2, if_false]
  · clear hF2 hN2
    k_steps
    exact hret _ _ _ (by assumption) (by assumption)
/-- the same, as a step of a walk -/
theorem crc32_1k {w : World} {p : Program} {loose : List Str} {mean : ExcName → Option Value} {mg mb : Str → Option Value} {news : List (Addr × Obj)} {b : Array UInt8} {ks : List Int} {tb : Tok}
    {dp un : Nat} {gd : Option (List Code)} {cn : Str} {cs : Scope} {a : Addr} {ccd : Value} {cl : List (Str × Addr)} {outer : List Env} {A₀ : Around} {base h₀ : Heap} {L : Addr} {m : Str → Option Value} {s : Shared} {Q E : Value → Shared → Prop}
    (hB : Below A₀ base outer h₀) (hF : Fr h₀ L s.heap m) (hX : (KK w.params).In h₀) (hN : News h₀ L s.heap news) (hT : Top p loose mean mg mb h₀) (hk : cs.kind = .function) (hb : KBw.bInts b = ks) (hd : dp + 1 < recursionLimit) (hu : un + 8 < cLine)
    (hret : ∀ (t : Tok) (h' : Heap) (tk' : Nat), Fr h₀ L h' m → News h₀ L h' news → Q (.int (crcI 0 ks) t) { s with heap := h', toks := tk' }) :
    wpAny (model PySem.Challenge.rw_bq0018_03.row.prog w) (ktrTop dp un gd cn cs L a ccd cl outer) (call (.ref 145) [.ref 169, .bytes b tb]) Q E s := by
  subst hb
  exact crc32_1c w p loose mean mg mb news b tb dp un gd cn cs a ccd cl outer A₀ base h₀ L m s Q E hB hF hX hN hT hk trivial hd hu hret
end Mine
end

/-! ### part C2 -/
section
open PySem PySem.W PySem.Calls PyProof.Rows
namespace Mine
local macro_rules | `(tactic| cell_enter) => `(tactic| (refine' code_def ?k1 ?k2 ?k3 ?k4 ?k5 ?kA ?kF ?kK ?k6 ?k7 ?k8 ?k9 ?kB ?_ ?c2 ?c3 ?c4 ?c5; (case kA => exact rfl); (case kF => exact rfl); (case kK => assumption); (case k1 => k_asm); (case k2 => k_asm); (case k3 => k_asm); (case k4 => k_asm); (case k5 => k_asm); (case k6 => k_is); (case k7 => k_is); (case k8 => ktr_room); (case k9 => first | exact BindsTo.of_eq rfl | exact binds_K (by k_in) rfl (by k_is) rfl rfl rfl); (case c5 => decide); (case kB => exact locs rfl); (case c2 => exact rfl); (case c3 => exact rfl); (case c4 => exact rfl); k_whole; intro g' L' h' FG' F' N' B' X' T'; (try dsimp only); (try k_lift B'); (try k_fold)))
theorem end_nat {h₀ : Heap} {x y : Str} {led : List (Addr × Obj)} {stored : List Str} {m₀ : Str → Option Value} {P : List Int → Nat × Tok → Prop} {pre : List Int} {L : Addr} {m' : Str → Option Value} {own news' : List (Addr × Obj)} {adr : List Addr} {s₁ : Shared} {h' : Heap} {tk : Nat}
    (n : Nat) {z : Int} {t : Tok} (F : Fr h₀ L h' m') (N : News h₀ L h' news') (hn : ∀ p ∈ led, p ∈ news') (ho : ∀ p ∈ own, p ∈ news') (ha : led.map (·.1) = adr) (hy : m' y = some (.int z t)) (e : z = (n : Int))
    (hr : ∀ z, z ≠ x → z ≠ y → stored.contains z = false → m' z = m₀ z) (hp : P pre (n, t)) :
    InvEndN h₀ L (KstS (σ := Nat × Tok) (fun _ => led) (fun c => [(y, .int ((c.1 : Nat) : Int) c.2)]) (fun _ => True) x stored m₀ P pre) own adr s₁ { s₁ with heap := h', toks := tk } := by
  subst e
  exact kst_end (σ := Nat × Tok) (n, t) F N hn ho ha trivial (fun q hq => by rw [List.mem_singleton.mp hq]; exact hy) (fun z h1 h2 h3 => hr z h1 (h2 _ (List.mem_singleton.mpr rfl)) h3) hp
def Nats (ns : List Int) : List Nat := ns.map Int.toNat
set_option maxRecDepth 100000 in
set_option maxHeartbeats 80000000 in
theorem rem_c (w : World) (p : Program) (loose : List Str) (mean : ExcName → Option Value) (mg mb : Str → Option Value) (news : List (Addr × Obj)) (l : Addr) (vs : List Value) (ns : List Int) (nn : Nat) (hm : (l, listOf vs.toArray nn) ∈ news) (hi : IntsAre vs ns) (hns : ∀ n ∈ ns, 0 ≤ n ∧ n < 256) :
    CbClaim PySem.Challenge.rw_bq0018_03.row.prog w (KK w.params) p loose mean mg mb 697 news [] True [.ref l] (fun t => .int ((remN 0 (Nats ns) : Nat) : Int) t) := by
  k_fill
  dsimp only [CbClaim, CbLists, CbRet]
  intro dp un gd cn cs a ccd cl outer A₀ base h₀ L m s Q E hB hF hX hN hT hk _ hd hu hret
  refine wpAny_call ?_
  k_dflt cell_enter
  iterate 6 walk1
  rename Fr _ _ _ _ => lF'
  with_unfolding_all refine' For_invVF lF' ?k1 ?k2 ?_
  case k1 => exact rfl
  case k2 => exact rfl
  k_whole
  walk1
  rename News _ _ _ _ => hN2
  rename Fr _ _ _ _ => hF2
  refine' kst_listL (σ := Nat × Tok) (fun _ => news) (fun c => [(Str.ofString "rest", .int ((c.1 : Nat) : Int) c.2)]) (fun _ => True) [Str.ofString "k"] (fun pre c => c.1 = remN 0 (Nats pre)) (0, ?tk0) rfl (fun _ => hm) hi hF2 hN2 trivial ?_ ?_ ?_ ?_
  rotate_left
  · intro q hq; rw [List.mem_singleton.mp hq]; exact rfl
  · exact rfl
  · clear hF2 hN2 hm
    rintro ⟨r, tr⟩ pre post n t u h tk own hns9 hn hoff _ hp F₁ N₁
    dsimp only at hp F₁ N₁
    have hb := hns n hn
    have hr32 : r < 2 ^ 32 := by
      rw [hp]
      refine (remN_rev (Nats pre) 0 (by decide) ?_).1
      intro o ho
      obtain ⟨x, hx, rfl⟩ := List.mem_map.mp ho
      have := hns x (by rw [hns9]; exact List.mem_append.mpr (.inl hx))
      omega
    iterate 9 (first | (k_unfold; (try dsimp only)) | walk1 | (dsimp only; walk1))
    rename IsRange _ _ _ _ _ _ _ _ => hR
    rename News _ _ _ _ => hN3
    rename Fr _ _ _ _ => hF3
    refine' kst_range (σ := Nat × Tok) (fun _ => news ++ own) (fun c => [(Str.ofString "rest", .int ((c.1 : Nat) : Int) c.2)]) (fun _ => True) [] (fun pre c => c.1 = (List.range pre.length).foldl (fun r k => rem1 r (n.toNat / 2 ^ k % 2)) r ∧ c.1 < 2 ^ 32) (r, ?tk1) rfl hR (by decide) (n := 8) (by decide) hF3 hN3 trivial ?hk ?hp ?turn ?done
    case hk => intro q hq; rw [List.mem_singleton.mp hq]; exact rfl
    case hp => exact ⟨rfl, hr32⟩
    case turn =>
      clear hF3 hN3 hR
      rintro ⟨r', tr'⟩ pre' k t' u' h' tk' own' hk' hl' hoff' _ ⟨hp1, hp2⟩ F₂ N₂
      dsimp only at hp1 hp2 F₂ N₂
      repeat' ((fail_if_success (with_reducible show InvEndN _ _ _ _ _ _ _)); first | (k_unfold; (try dsimp only)) | walk1 | (dsimp only; walk1) | (leave1; try dsimp only))
      all_goals (
        rename Fr _ _ _ _ => hFz
        rename News _ _ _ _ => hNz
        refine end_nat (rem1 r' (n.toNat / 2 ^ pre'.length % 2)) hFz hNz (fun p hp => List.mem_append.mpr (.inl hp)) (fun p hp => List.mem_append.mpr (.inr hp)) rfl rfl ?_ ?_ ?_
        · first | (have h9 := rem1_hi' (r := r') hb.1 hk' (by assumption); exact h9) | (have h9 := rem1_lo' (r := r') hb.1 hk' (by assumption); exact h9)
        · intro z h1 h2 h3
          simp only [kstB, h1, h2, if_false, h3]
          rfl
        · refine ⟨?_, rem1_lt hp2 (Nat.mod_lt _ (by decide))⟩
          rw [List.length_append, List.length_singleton, List.range_succ, List.foldl_append, ← hp1, List.foldl_cons, List.foldl_nil])
    case done =>
      clear hF3 hN3 hR
      rintro ⟨r', tr'⟩ u' h' tk' _ ⟨hp1, hp2⟩ F₂ N₂
      dsimp only at hp1 hp2 F₂ N₂
      repeat' ((fail_if_success (with_reducible show InvEndN _ _ _ _ _ _ _)); first | (k_unfold; (try dsimp only)) | walk1 | (dsimp only; walk1) | (leave1; try dsimp only))
      rename Fr _ _ _ _ => hFz
      rename News _ _ _ _ => hNz
      refine end_nat r' hFz hNz (fun p hp => List.mem_append.mpr (.inl hp)) (fun p hp => List.mem_append.mpr (.inr hp)) rfl rfl rfl ?_ ?_
      · intro z h1 h2 h3
        by_cases h5 : z = Str.ofString "k"
        · rw [h5] at h3; exact absurd h3 (by decide)
        · simp only [kstB, h1, h2, h5, if_false, h3]
          rfl
      · rw [rangeKs_length] at hp1
        dsimp only
        rw [hp1, hp]
        exact (remN_snoc pre n).symm
  · clear hF2 hN2
    rintro ⟨r, tr⟩ u h tk _ hp F₁ N₁
    dsimp only at hp F₁ N₁
    subst hp
    k_steps
    exact hret _ _ _ (by assumption) (by assumption)
end Mine
end

/-! ### part CB -/
section
open PySem PySem.W PySem.Calls PyProof.Rows
namespace Mine
theorem stp_nat (n : Nat) : stp (n : Int) = ((step4 n : Nat) : Int) := by
  have e : Builtin.bitAnd (n : Int) 15 = (n : Int) % 16 := bitAnd_m4 _
  have et : ∀ i : Nat, i < 16 → (1304293916 :: crcT).getD i 0 = ((tbl.getD i 0 : Nat) : Int) := by decide +kernel
  have hm : n % 16 < 16 := Nat.mod_lt _ (by decide)
  unfold stp step4
  rw [e, show ((n : Int) % 16).toNat = n % 16 by omega, et _ hm, show (n &&& 15) = n % 16 from Nat.and_two_pow_sub_one_eq_mod n 4, Nat.shiftRight_eq_div_pow]
  rw [show ((n : Int).fdiv (2 ^ 4)) = ((n / 2 ^ 4 : Nat) : Int) by rw [Int.fdiv_eq_ediv_of_nonneg _ (by decide)]; rfl]
  exact bitXor_nat _ _
theorem crcI_nat : ∀ (ks : List Int) (n : Nat), (∀ k ∈ ks, 0 ≤ k ∧ k < 256) → crcI (n : Int) ks = ((crcN n (ks.map Int.toNat) : Nat) : Int)
  | [], n, _ => rfl
  | k :: ks, n, h => by
    have hk := h k List.mem_cons_self
    unfold crcI crcN
    rw [List.foldl_cons, List.map_cons, List.foldl_cons]
    have e : stp (stp (Builtin.bitXor (n : Int) k)) = ((octet n k.toNat : Nat) : Int) := by
      rw [bitXor_nn (by omega) hk.1, stp_nat, stp_nat]
      unfold octet
      simp
    rw [e]
    exact crcI_nat ks _ fun k' hk' => h k' (List.mem_cons_of_mem _ hk')
/-- the checksum of a kind and a content -/
def sumN (ks ls : List Int) : Nat := crcN (crcN 0 (ks.map Int.toNat)) (ls.map Int.toNat)
theorem toNat_lt {ks : List Int} (h : ∀ k ∈ ks, 0 ≤ k ∧ k < 256) : ∀ o ∈ ks.map Int.toNat, o < 256 := fun o ho => by
  obtain ⟨k, hk, rfl⟩ := List.mem_map.mp ho
  have := h k hk
  omega
theorem sumN_lt {ks ls : List Int} (h1 : ∀ k ∈ ks, 0 ≤ k ∧ k < 256) (h2 : ∀ k ∈ ls, 0 ≤ k ∧ k < 256) : sumN ks ls < 4294967296 :=
  crcN_lt _ _ (crcN_lt _ _ (by decide) (toNat_lt h1)) (toNat_lt h2)
theorem sumI {ks ls : List Int} (h1 : ∀ k ∈ ks, 0 ≤ k ∧ k < 256) (h2 : ∀ k ∈ ls, 0 ≤ k ∧ k < 256) : crcI (crcI 0 ks) ls = ((sumN ks ls : Nat) : Int) := by
  have e := crcI_nat ks 0 h1
  rw [show crcI 0 ks = _ from e, crcI_nat _ _ h2]
  rfl
theorem mask32 {n : Nat} (h : n < 4294967296) : Builtin.bitAnd (n : Int) (2 ^ Int.toNat 32 - 1) = (n : Int) := by
  rw [show (2 ^ Int.toNat 32 - 1 : Int) = 4294967295 by decide, bitAnd_m32]
  omega
section
variable {prog : Program} {w : World} {A : Around} {E : Value → Shared → Prop} {s : Shared} {t u : Tok} {Q : Value → Shared → Prop} {ks ls : List Int}
theorem pack_S (h1 : ∀ k ∈ ks, 0 ≤ k ∧ k < 256) (h2 : ∀ k ∈ ls, 0 ≤ k ∧ k < 256) (h : ∀ (b : Array UInt8) t' k', KBw.bInts b = be4 (sumN ks ls) → Q (.bytes b t') { s with toks := k' }) :
    wpAny (model prog w) A (call (.builtin "_struct.pack") [.str (Str.ofString "!I") t, .int (crcI (crcI 0 ks) ls) u]) Q E s := by
  rw [sumI h1 h2]; exact pack_I (sumN_lt h1 h2) h
theorem pack_M (h1 : ∀ k ∈ ks, 0 ≤ k ∧ k < 256) (h2 : ∀ k ∈ ls, 0 ≤ k ∧ k < 256) (h : ∀ (b : Array UInt8) t' k', KBw.bInts b = be4 (sumN ks ls) → Q (.bytes b t') { s with toks := k' }) :
    wpAny (model prog w) A (call (.builtin "_struct.pack") [.str (Str.ofString "!I") t, .int (Builtin.bitAnd (crcI (crcI 0 ks) ls) (2 ^ Int.toNat 32 - 1)) u]) Q E s := by
  rw [sumI h1 h2, mask32 (sumN_lt h1 h2)]; exact pack_I (sumN_lt h1 h2) h
end
end Mine
end

/-! ### part C3 -/
section
open PySem PySem.W PySem.Calls PyProof.Rows
namespace Mine
local macro_rules | `(tactic| k_enter) => `(tactic| (refine' code_def ?k1 ?k2 ?k3 ?k4 ?k5 ?kA ?kF ?kK ?k6 ?k7 ?k8 ?k9 ?kB ?_ ?c2 ?c3 ?c4 ?c5; (case kA => exact rfl); (case kF => exact rfl); (case kK => first | assumption | exact rfl); (case k1 => k_asm); (case k2 => k_asm); (case k3 => k_asm); (case k4 => k_asm); (case k5 => k_asm); (case k6 => k_is); (case k7 => k_is); (case k8 => first | ktr_room | k_room); (case k9 => first | exact BindsTo.of_eq rfl | exact binds_K (by k_in) rfl (by k_is) rfl rfl rfl); (case c5 => decide); (case kB => exact locs rfl); (case c2 => exact rfl); (case c3 => exact rfl); (case c4 => exact rfl); k_whole; intro g' L' h' FG' F' N' B' X' T'; (try dsimp only); (try k_lift B'); (try k_fold)))
local macro_rules | `(tactic| walk_at "call ref") => `(tactic| (k_here; (with_reducible show wpAny _ _ (call (Value.ref 145) [Value.ref 169, Value.bytes _ _, Value.int _ _]) _ _ _); k_dflt (refine' crc32_k ?k1 ?k2 ?k3 ?k4 ?k5 ?kK ?kb ?kd ?ku ?_; (case k1 => k_asm); (case k2 => k_asm); (case k3 => k_asm); (case k4 => k_asm); (case k5 => k_asm); (case kK => first | assumption | exact rfl); (case kb => first | assumption | kba_ints | exact rfl); (case kd => ktr_room); (case ku => ktr_units)); intro t9 h9 tk9 F9 N9; (try k_fold)))
local macro_rules | `(tactic| walk_at "call ref") => `(tactic| (k_here; (with_reducible show wpAny _ _ (call (Value.ref 145) [Value.ref 169, Value.bytes _ _]) _ _ _); k_dflt (refine' crc32_1k ?k1 ?k2 ?k3 ?k4 ?k5 ?kK ?kb ?kd ?ku ?_; (case k1 => k_asm); (case k2 => k_asm); (case k3 => k_asm); (case k4 => k_asm); (case k5 => k_asm); (case kK => first | assumption | exact rfl); (case kb => first | assumption | kba_ints | exact rfl); (case kd => ktr_room); (case ku => ktr_units)); intro t9 h9 tk9 F9 N9; (try k_fold)))
local macro_rules | `(tactic| walk_at "call builtin:_struct.pack") => `(tactic| (k_here; k_dflt (first | (refine' pack_M ?k1 ?k2 ?_; (case k1 => assumption); (case k2 => assumption)) | (refine' pack_S ?k1 ?k2 ?_; (case k1 => assumption); (case k2 => assumption)) | (refine' pack_I ?k1 ?_; (case k1 => omega))); intro b9 t9 tk9 hb9; (try k_fold)))
local macro_rules | `(tactic| walk_at "call type:bytes") => `(tactic| (k_here; (with_reducible show wpAny _ _ (call (Value.type "bytes") [Value.bytes _ _]) _ _ _); k_dflt (refine call_bytes_bytes ?_)))
local macro_rules | `(tactic| walk_at "inplaceOp Add bytes bytes") => `(tactic| (k_here; k_dflt (refine' iadd_bytes ?k1 ?k2 ?k3 ?_; (case k1 => assumption); (case k2 => assumption); (case k3 => (simp only [List.length_append, be4, List.length_cons, List.length_nil]; omega))); intro b9 t9 tk9 hb9; (try k_fold)))
local macro_rules | `(tactic| k_all) => `(tactic| assumption)
/-- a stream's dictionary -/
abbrev strmO (P : Params) (kt : Tok) (b : Array UInt8) (t : Tok) : Obj := dictOf [⟨PyData.keyHash P (Str.ofString "octets"), .str (Str.ofString "octets") kt, .bytes b t⟩] 1
set_option maxRecDepth 100000 in
set_option maxHeartbeats 80000000 in
theorem wchunk : ∀ {w : World} {p : Program} {loose : List Str} {mean : ExcName → Option Value} {mg mb : Str → Option Value} {news : List (Addr × Obj)} {x dx : Addr} {kt : Tok} {b0 tag data : Array UInt8} {ks0 ks1 ks2 : List Int} {tb0 tt td : Tok}
    {dp un : Nat} {gd : Option (List Code)} {cn : Str} {cs : Scope} {a : Addr} {ccd : Value} {cl : List (Str × Addr)} {outer : List Env} {A₀ : Around} {base h₀ : Heap} {L : Addr} {m : Str → Option Value} {s : Shared} {Q E : Value → Shared → Prop}
    (hlt : @LT.lt Nat _ dx x) (hoff : ∀ p ∈ news, p.1 ≠ dx) (hb0 : KBw.bInts b0 = ks0) (hb1 : KBw.bInts tag = ks1) (hb2 : KBw.bInts data = ks2) (hl0 : ks0.length = 8) (hl1 : ks1.length = 4) (hl2 : 6 ≤ ks2.length ∧ ks2.length ≤ 10)
    (hB : Below A₀ base outer h₀) (hF : Fr h₀ L s.heap m) (hX : (KK w.params).In h₀) (hN : News h₀ L s.heap ((x, instObj 126 dx) :: (dx, strmO w.params kt b0 tb0) :: news)) (hT : Top p loose mean mg mb h₀) (hk : cs.kind = .function) (hd : dp + 4 < recursionLimit) (hu : un + 40 < cLine)
    (hret : ∀ b' t' h' tk', KBw.bInts b' = (((ks0 ++ be4 ks2.length) ++ ks1) ++ ks2) ++ be4 (sumN ks1 ks2) → Fr h₀ L h' m → News h₀ L h' ((x, instObj 126 dx) :: (dx, strmO w.params kt b' t') :: news) → Q .none { s with heap := h', toks := tk' }),
    wpAny (model PySem.Challenge.rw_bq0018_03.row.prog w) (ktrTop dp un gd cn cs L a ccd cl outer) (call (.ref 379) [.ref x, .bytes tag tt, .bytes data td]) Q E s := by
  k_fill
  intro w p loose mean mg mb news x dx kt b0 tag data ks0 ks1 ks2 tb0 tt td dp un gd cn cs a ccd cl outer A₀ base h₀ L m s Q E hlt hoff hb0 hb1 hb2 hl0 hl1 hl2 hB hF hX hN hT hk hd hu hret
  have ho1 : ∀ k ∈ ks1, 0 ≤ k ∧ k < 256 := fun k hk' => KBw.ints_in (b := tag) (hb1 ▸ hk')
  have ho2 : ∀ k ∈ ks2, 0 ≤ k ∧ k < 256 := fun k hk' => KBw.ints_in (b := data) (hb2 ▸ hk')
  refine wpAny_call ?_
  k_dflt k_enter
  k_steps
  exact hret _ _ _ _ (by assumption) (by assumption) (by assumption)
theorem wchunk_k {w : World} {p : Program} {loose : List Str} {mean : ExcName → Option Value} {mg mb : Str → Option Value} {news : List (Addr × Obj)} {g : Obj → List (Addr × Obj)} {x dx : Addr} {kt : Tok} {b0 tag data : Array UInt8} {ks0 ks1 ks2 : List Int} {tb0 tt td : Tok}
    {dp un : Nat} {gd : Option (List Code)} {cn : Str} {cs : Scope} {a : Addr} {ccd : Value} {cl : List (Str × Addr)} {outer : List Env} {A₀ : Around} {base h₀ : Heap} {L : Addr} {m : Str → Option Value} {s : Shared} {Q E : Value → Shared → Prop}
    (hx : (x, instObj 126 dx) ∈ news) (U : UpdF dx (strmO w.params kt b0 tb0) news g) (hlt : @LT.lt Nat _ dx x) (hb0 : KBw.bInts b0 = ks0) (hb1 : KBw.bInts tag = ks1) (hb2 : KBw.bInts data = ks2) (hl0 : ks0.length = 8) (hl1 : ks1.length = 4) (hl2 : 6 ≤ ks2.length ∧ ks2.length ≤ 10)
    (hB : Below A₀ base outer h₀) (hF : Fr h₀ L s.heap m) (hX : (KK w.params).In h₀) (hN : News h₀ L s.heap news) (hT : Top p loose mean mg mb h₀) (hk : cs.kind = .function) (hd : dp + 4 < recursionLimit) (hu : un + 40 < cLine)
    (hret : ∀ b' t' h' tk', KBw.bInts b' = (((ks0 ++ be4 ks2.length) ++ ks1) ++ ks2) ++ be4 (sumN ks1 ks2) → Fr h₀ L h' m → News h₀ L h' (g (strmO w.params kt b' t')) → Q .none { s with heap := h', toks := tk' }) :
    wpAny (model PySem.Challenge.rw_bq0018_03.row.prog w) (ktrTop dp un gd cn cs L a ccd cl outer) (call (.ref 379) [.ref x, .bytes tag tt, .bytes data td]) Q E s := by
  obtain ⟨pre, post, e1, e2, h1, h2⟩ := U.split
  subst e1
  have hoff : ∀ p ∈ pre ++ post, p.1 ≠ dx := fun p hp => by
    rcases List.mem_append.mp hp with hp | hp
    · exact h1 p hp
    · exact h2 p hp
  have hxo : (x, instObj 126 dx) ∈ pre ++ post := by
    rcases List.mem_append.mp hx with hp | hp
    · exact List.mem_append.mpr (.inl hp)
    · rcases List.mem_cons.mp hp with e | hp
      · exact absurd (congrArg Prod.fst e) (Nat.ne_of_gt hlt)
      · exact List.mem_append.mpr (.inr hp)
  refine wchunk (news := pre ++ post) (kt := kt) (tb0 := tb0) hlt hoff hb0 hb1 hb2 hl0 hl1 hl2 hB hF hX (fun p hp => hN p ?_) hT hk hd hu fun b' t' h' tk' hb' F' N' => hret b' t' h' tk' hb' F' fun p hp => N' p ?_
  · rcases List.mem_cons.mp hp with rfl | hp
    · exact hx
    rcases List.mem_cons.mp hp with rfl | hp
    · exact List.mem_append.mpr (.inr List.mem_cons_self)
    rcases List.mem_append.mp hp with hp | hp
    · exact List.mem_append.mpr (.inl hp)
    · exact List.mem_append.mpr (.inr (List.mem_cons_of_mem _ hp))
  · rw [e2] at hp
    rcases List.mem_append.mp hp with hp | hp
    · exact List.mem_cons_of_mem _ (List.mem_cons_of_mem _ (List.mem_append.mpr (.inl hp)))
    · rcases List.mem_cons.mp hp with rfl | hp
      · exact List.mem_cons_of_mem _ List.mem_cons_self
      · exact List.mem_cons_of_mem _ (List.mem_cons_of_mem _ (List.mem_append.mpr (.inr hp)))
end Mine
end

/-! ### part LV -/
section
open PySem PySem.W PySem.Calls PyProof.Rows
namespace Mine
section
variable {prog : Program} {w : World} {A : Around} {E : Value → Shared → Prop} {s : Shared} {env : Env} {h₀ : Heap} {x : Str} {body : List Stmt} {Q : Flow → Shared → Prop}
/-- a walk along a stored list of any values, by a standing fact -/
theorem iter_vals {l : Addr} {vs : List Value} {nn : Nat} {m₀ : Str → Option Value} {news : List (Addr × Obj)} (J : Nat → (Str → Option Value) → List (Addr × Obj) → Prop)
    (hh : A.handled = none) (hl : (l, listOf vs.toArray nn) ∈ news) (F : Fr h₀ env.locals s.heap m₀) (N : News h₀ env.locals s.heap news) (hj : J 0 m₀ news)
    (turn : ∀ i v m₁ news₁ h tk own, vs[i]? = some v → OwnOff own (news.map (·.1)) → J i m₁ news₁ → Fr h₀ env.locals h (fun y => if y = x then some v else m₁ y) → News h₀ env.locals h (news₁ ++ own) →
      wpAny (model prog w) A (execs body env) (InvPostN h₀ env.locals (fun m' nx => (l, listOf vs.toArray nn) ∈ nx ∧ J (i + 1) m' nx) own (news.map (·.1)) { s with heap := h, toks := tk } Q) E { s with heap := h, toks := tk })
    (done : ∀ m₁ news₁ h tk, J vs.length m₁ news₁ → Fr h₀ env.locals h m₁ → News h₀ env.locals h news₁ → Q .next { s with heap := h, toks := tk }) :
    wpAny (model prog w) A (pyIter (.ref l)) (fun it s₂ => LoopAtV prog w A h₀ env x body Q E it s₂) E s := by
  have hol : s.heap.get? l = some (listOf vs.toArray nn) := (N _ hl).1
  have hls : s.heap.IsList l vs.toArray := ⟨_, hol, rfl, nn, rfl⟩
  have hne : l ≠ s.heap.objs.size := Nat.ne_of_lt (Heap.lt_size hol)
  refine wpAny_pyIter_list hls ?_
  refine ⟨s.heap.objs.size, [s.heap.objs.size, l], [s.heap.objs.size], vs.toArray.size, _, _, m₀, news, (fun i m nx => nx.map (·.1) = news.map (·.1) ∧ (l, listOf vs.toArray nn) ∈ nx ∧ J i m nx), rfl, Walks.list hh s.heap.objs.size l hne vs.toArray, ?_, ?_, ?_,
    ⟨⟨_, Heap.get?_push_size _ rfl, rfl, rfl⟩, hls.at fun o e => Heap.get?_push_of_some _ e⟩, F.push _, (fun p hp => ⟨Heap.get?_push_of_some _ (N p hp).1, (N p hp).2⟩), ⟨rfl, hl, hj⟩, ?_, ?_⟩
  · intro hm
    rcases List.mem_cons.mp hm with e | hm
    · exact absurd F.ns.lt (e ▸ Nat.lt_irrefl _)
    · exact (N _ hl).2.1 ((List.mem_singleton.mp hm).symm)
  · intro b hb
    rw [List.mem_singleton.mp hb]
    exact next_is_new F
  · intro p hp hI
    exact absurd (Heap.lt_size (N p hp).1) ((List.mem_singleton.mp hI) ▸ Nat.lt_irrefl _)
  · rintro i v m₁ news₁ s₁ own ⟨hh', tk', rfl⟩ hin hP ⟨hadr, hl₁, hJ⟩ hoff hown hget hfp _ F₁ N₁
    have hsep : OwnOff (own.filter fun p => decide (p.1 = s.heap.objs.size)) (news.map (·.1)) := by
      intro p hp b hb e
      obtain ⟨q, hq, rfl⟩ := List.mem_map.mp hb
      have h1 : p.1 = s.heap.objs.size := by simpa using (List.mem_filter.mp hp).2
      exact absurd (Heap.lt_size (N q hq).1) (by rw [← e, h1]; exact Nat.lt_irrefl _)
    have hv : vs[i]? = some v := by simpa using hP
    have N₂ : News h₀ env.locals hh' (news₁ ++ own.filter fun p => decide (p.1 = s.heap.objs.size)) := fun p hp => N₁ p ((List.mem_append.mp hp).elim (fun h => List.mem_append.mpr (.inr h)) fun h => List.mem_append.mpr (.inl ((List.mem_filter.mp h).1)))
    have hlo : hh'.get? l = some (listOf vs.toArray nn) := (N₁ _ (List.mem_append.mpr (.inr hl₁))).1
    refine wpAny_mono (turn i v m₁ news₁ hh' tk' _ hv hsep hJ F₁ N₂) (fun f s₂ p => ?_) fun _ _ e => e
    have fin : InvEndN h₀ env.locals (fun m' nx => (l, listOf vs.toArray nn) ∈ nx ∧ J (i + 1) m' nx) (own.filter fun p => decide (p.1 = s.heap.objs.size)) (news.map (·.1)) { s with heap := hh', toks := tk' } s₂ →
        LoopStepU h₀ env.locals [s.heap.objs.size] own (fun m nx => nx.map (·.1) = news.map (·.1) ∧ (l, listOf vs.toArray nn) ∈ nx ∧ J (i + 1) m nx) { s with heap := hh', toks := tk' } .next s₂ := by
      rintro ⟨h', tk, m', news', nx, e, F', N', hn, ho, ha, hm⟩
      refine ⟨rfl, h', tk, m', nx, e, F', fun p hp => ?_, fun p hp => ?_, ha, hm⟩
      · rcases List.mem_append.mp hp with h | h
        · by_cases hI : p.1 = s.heap.objs.size
          · exact N' p (ho p (List.mem_filter.mpr ⟨h, by simpa using hI⟩))
          · have h1 : p.1 = l := by
              rcases List.mem_cons.mp (hown p h) with h2 | h2
              · exact absurd h2 hI
              · exact List.mem_singleton.mp h2
            have h2 : hh'.get? p.1 = some p.2 := hget p h
            rw [h1, hlo] at h2
            have h3 : p = (l, listOf vs.toArray nn) := Prod.ext h1 (Option.some.inj h2).symm
            rw [h3]
            exact N' _ (hn _ hm.1)
        · exact N' p (hn p h)
      · have h1 : p.1 ∈ nx.map (·.1) := List.mem_map.mpr ⟨p, hp, rfl⟩
        rw [ha] at h1
        obtain ⟨q, hq, e⟩ := List.mem_map.mp h1
        intro hI
        exact absurd (Heap.lt_size (N q hq).1) (by rw [e, List.mem_singleton.mp hI]; exact Nat.lt_irrefl _)
    cases f with
    | ret v => exact .ret p
    | brk => exact .brk p
    | next => exact .next (fin p)
    | cont => exact .cont (fin p)
  · rintro h' tk m' news' F' N' _ ⟨_, hl', hJ⟩
    exact done m' news' h' tk (by simpa using hJ) F' N'
/-- the walk along a stored list of one value -/
theorem iter_one {l : Addr} {v : Value} {nn : Nat} {m₀ : Str → Option Value} {news : List (Addr × Obj)} (K : (Str → Option Value) → List (Addr × Obj) → Prop)
    (hh : A.handled = none) (hl : (l, listOf #[v] nn) ∈ news) (F : Fr h₀ env.locals s.heap m₀) (N : News h₀ env.locals s.heap news)
    (turn : ∀ h tk own, OwnOff own (news.map (·.1)) → Fr h₀ env.locals h (fun y => if y = x then some v else m₀ y) → News h₀ env.locals h (news ++ own) →
      wpAny (model prog w) A (execs body env) (InvPostN h₀ env.locals (fun m' nx => (l, listOf #[v] nn) ∈ nx ∧ K m' nx) own (news.map (·.1)) { s with heap := h, toks := tk } Q) E { s with heap := h, toks := tk })
    (done : ∀ m₁ news₁ h tk, K m₁ news₁ → Fr h₀ env.locals h m₁ → News h₀ env.locals h news₁ → Q .next { s with heap := h, toks := tk }) :
    wpAny (model prog w) A (pyIter (.ref l)) (fun it s₂ => LoopAtV prog w A h₀ env x body Q E it s₂) E s := by
  refine iter_vals (vs := [v]) (fun i m' n' => if i = 0 then m' = m₀ ∧ n' = news else K m' n') hh hl F N ⟨rfl, rfl⟩ (fun i v' m₁ news₁ h tk own hv hoff hJ F₁ N₁ => ?_) fun m₁ news₁ h tk hJ F₁ N₁ => done m₁ news₁ h tk hJ F₁ N₁
  cases i with
  | zero =>
    obtain rfl : v = v' := by simpa using hv
    obtain ⟨rfl, rfl⟩ := hJ
    exact turn h tk own hoff F₁ N₁
  | succ i => simp at hv
end
end Mine
end

/-! ### part C4 -/
section
open PySem PySem.W PySem.Calls PyProof.Rows
namespace Mine
local macro_rules | `(tactic| k_enter) => `(tactic| (refine' code_def ?k1 ?k2 ?k3 ?k4 ?k5 ?kA ?kF ?kK ?k6 ?k7 ?k8 ?k9 ?kB ?_ ?c2 ?c3 ?c4 ?c5; (case kA => exact rfl); (case kF => exact rfl); (case kK => first | assumption | exact rfl); (case k1 => k_asm); (case k2 => k_asm); (case k3 => k_asm); (case k4 => k_asm); (case k5 => k_asm); (case k6 => k_is); (case k7 => k_is); (case k8 => first | ktr_room | k_room); (case k9 => first | exact BindsTo.of_eq rfl | exact binds_K (by k_in) rfl (by k_is) rfl rfl rfl); (case c5 => decide); (case kB => exact locs rfl); (case c2 => exact rfl); (case c3 => exact rfl); (case c4 => exact rfl); k_whole; intro g' L' h' FG' F' N' B' X' T'; (try dsimp only); (try k_lift B'); (try k_fold)))
local macro_rules | `(tactic| walk_at "call ref") => `(tactic| (k_here; (with_reducible show wpAny _ _ (call (Value.ref 145) [Value.ref 169, Value.bytes _ _, Value.int _ _]) _ _ _); k_dflt (refine' crc32_k ?k1 ?k2 ?k3 ?k4 ?k5 ?kK ?kb ?kd ?ku ?_; (case k1 => k_asm); (case k2 => k_asm); (case k3 => k_asm); (case k4 => k_asm); (case k5 => k_asm); (case kK => first | assumption | exact rfl); (case kb => first | assumption | kba_ints | exact rfl); (case kd => ktr_room); (case ku => ktr_units)); intro t9 h9 tk9 F9 N9; (try k_fold)))
local macro_rules | `(tactic| walk_at "call ref") => `(tactic| (k_here; (with_reducible show wpAny _ _ (call (Value.ref 145) [Value.ref 169, Value.bytes _ _]) _ _ _); k_dflt (refine' crc32_1k ?k1 ?k2 ?k3 ?k4 ?k5 ?kK ?kb ?kd ?ku ?_; (case k1 => k_asm); (case k2 => k_asm); (case k3 => k_asm); (case k4 => k_asm); (case k5 => k_asm); (case kK => first | assumption | exact rfl); (case kb => first | assumption | kba_ints | exact rfl); (case kd => ktr_room); (case ku => ktr_units)); intro t9 h9 tk9 F9 N9; (try k_fold)))
local macro_rules | `(tactic| walk_at "call builtin:_struct.pack") => `(tactic| (k_here; k_dflt (first | (refine' pack_M ?k1 ?k2 ?_; (case k1 => assumption); (case k2 => assumption)) | (refine' pack_S ?k1 ?k2 ?_; (case k1 => assumption); (case k2 => assumption)) | (refine' pack_I ?k1 ?_; (case k1 => omega))); intro b9 t9 tk9 hb9; (try k_fold)))
local macro_rules | `(tactic| walk_at "call type:bytes") => `(tactic| (k_here; (with_reducible show wpAny _ _ (call (Value.type "bytes") [Value.bytes _ _]) _ _ _); k_dflt (refine call_bytes_bytes ?_)))
local macro_rules | `(tactic| walk_at "inplaceOp Add bytes bytes") => `(tactic| (k_here; k_dflt (refine' iadd_bytes ?k1 ?k2 ?k3 ?_; (case k1 => assumption); (case k2 => assumption); (case k3 => (simp only [List.length_append, be4, List.length_cons, List.length_nil]; omega))); intro b9 t9 tk9 hb9; (try k_fold)))
local macro_rules | `(tactic| k_all) => `(tactic| assumption)
local macro_rules | `(tactic| walk_at "call ref") => `(tactic| (k_here; (with_reducible show wpAny _ _ (call (Value.ref 379) [Value.ref _, Value.bytes _ _, Value.bytes _ _]) _ _ _); k_dflt (refine' wchunk_k ?k01 ?k02 ?k03 ?k04 ?k05 ?k06 ?k07 ?k08 ?k09 ?k1 ?k2 ?k3 ?k4 ?k5 ?kK ?kd ?ku ?_; (case k1 => k_asm); (case k2 => k_asm); (case k3 => k_asm); (case k4 => k_asm); (case k5 => k_asm); (case k01 => k_mem); (case k02 => k_updF); (case k03 => omega); (case k04 => assumption); (case k05 => assumption); (case k06 => assumption); (case k07 => exact rfl); (case k08 => assumption); (case k09 => assumption); (case kK => first | assumption | exact rfl); (case kd => ktr_room); (case ku => ktr_units)); intro b9 t9 h9 tk9 hb9 F9 N9; (try k_fold)))
theorem sig_ints : KBw.bInts #[137, 80, 78, 71, 13, 10, 26, 10] = [137, 80, 78, 71, 13, 10, 26, 10] := rfl
local macro_rules | `(tactic| walk_at "inplaceOp Add bytes bytes") => `(tactic| (k_here; k_dflt (refine' iadd_bytes ?k1 sig_ints ?k3 ?_; (case k1 => assumption); (case k3 => (simp only [List.length_append, be4, List.length_cons, List.length_nil]; omega))); intro b9 t9 tk9 hb9; (try k_fold)))
set_option maxRecDepth 100000 in
set_option maxHeartbeats 80000000 in
theorem wchunks : ∀ {w : World} {p : Program} {loose : List Str} {mean : ExcName → Option Value} {mg mb : Str → Option Value} {news : List (Addr × Obj)} {l tp x dx : Addr} {kt : Tok} {b0 tag data : Array UInt8} {ks1 ks2 : List Int} {tb0 tt td : Tok} {ln : Nat}
    {dp un : Nat} {gd : Option (List Code)} {cn : Str} {cs : Scope} {a : Addr} {ccd : Value} {cl : List (Str × Addr)} {outer : List Env} {A₀ : Around} {base h₀ : Heap} {L : Addr} {m : Str → Option Value} {s : Shared} {Q E : Value → Shared → Prop}
    (hlt : @LT.lt Nat _ dx x) (hlt2 : @LT.lt Nat _ x tp) (hlt3 : @LT.lt Nat _ tp l) (hoff : ∀ p ∈ news, p.1 ≠ dx) (hb0 : KBw.bInts b0 = []) (hb1 : KBw.bInts tag = ks1) (hb2 : KBw.bInts data = ks2) (hl1 : ks1.length = 4) (hl2 : 6 ≤ ks2.length ∧ ks2.length ≤ 10)
    (hB : Below A₀ base outer h₀) (hF : Fr h₀ L s.heap m) (hX : (KK w.params).In h₀) (hN : News h₀ L s.heap ((l, listOf #[.ref tp] ln) :: (tp, tupO [.bytes tag tt, .bytes data td]) :: (x, instObj 126 dx) :: (dx, strmO w.params kt b0 tb0) :: news)) (hT : Top p loose mean mg mb h₀) (hk : cs.kind = .function) (hd : dp + 6 < recursionLimit) (hu : un + 60 < cLine)
    (hret : ∀ b' t' h' tk', KBw.bInts b' = ((([137, 80, 78, 71, 13, 10, 26, 10] ++ be4 ks2.length) ++ ks1) ++ ks2) ++ be4 (sumN ks1 ks2) → Fr h₀ L h' m → News h₀ L h' ((l, listOf #[.ref tp] ln) :: (tp, tupO [.bytes tag tt, .bytes data td]) :: (x, instObj 126 dx) :: (dx, strmO w.params kt b' t') :: news) → Q .none { s with heap := h', toks := tk' }),
    wpAny (model PySem.Challenge.rw_bq0018_03.row.prog w) (ktrTop dp un gd cn cs L a ccd cl outer) (call (.ref 386) [.ref x, .ref l]) Q E s := by
  k_fill
  intro w p loose mean mg mb news l tp x dx kt b0 tag data ks1 ks2 tb0 tt td ln dp un gd cn cs a ccd cl outer A₀ base h₀ L m s Q E hlt hlt2 hlt3 hoff hb0 hb1 hb2 hl1 hl2 hB hF hX hN hT hk hd hu hret
  refine wpAny_call ?_
  k_dflt k_enter
  repeat' ((fail_if_success (with_reducible show wpAny _ _ (exec (Stmt.For _ _ _ _ _) _) _ _ _)); first | (k_unfold; (try dsimp only)) | walk1 | (dsimp only; walk1) | (leave1; try dsimp only))
  rename Fr _ _ _ _ => lF'
  with_unfolding_all refine' For_invVF lF' ?k1 ?k2 ?_
  case k1 => exact rfl
  case k2 => exact rfl
  k_whole
  walk1
  rename News _ _ _ _ => hN2
  rename Fr _ _ _ _ => hF2
  refine' iter_one (v := .ref tp) (nn := ln) (fun _ nx => ∃ b' t', KBw.bInts b' = ((([137, 80, 78, 71, 13, 10, 26, 10] ++ be4 ks2.length) ++ ks1) ++ ks2) ++ be4 (sumN ks1 ks2) ∧ nx = ((l, listOf #[.ref tp] ln) :: (tp, tupO [.bytes tag tt, .bytes data td]) :: (x, instObj 126 dx) :: (dx, strmO w.params kt b' t') :: news)) rfl (List.mem_cons_self) hF2 hN2 ?turn ?done
  case turn =>
    clear hF2 hN2
    intro h9 tk9 own9 hoff9 F9 N9
    have hoff8 : ∀ p ∈ news ++ own9, p.1 ≠ dx := fun p hp => by
      rcases List.mem_append.mp hp with hp | hp
      · exact hoff p hp
      · exact OwnOff.ne hoff9 (by simp) p hp
    clear hoff9
    simp only [List.cons_append] at N9
    repeat' ((fail_if_success (with_reducible show InvEndN _ _ _ _ _ _ _)); first | (k_unfold; (try dsimp only)) | walk1 | (dsimp only; walk1) | (leave1; try dsimp only))
    rename News _ _ _ _ => hNz
    rename Fr _ _ _ _ => hFz
    rename KBw.bInts _ = _ => hbz
    refine' InvEndN.intro hFz hNz ⟨List.mem_cons_self, _, ?t9, hbz, rfl⟩ rfl ?hn ?ho
    case hn =>
      intro p hp
      exact List.mem_append_left own9 hp
    case ho =>
      intro p hp
      exact List.mem_append_right ((l, listOf #[.ref tp] ln) :: (tp, tupO [.bytes tag tt, .bytes data td]) :: (x, instObj 126 dx) :: _ :: news) hp
  case done =>
    clear hF2 hN2
    rintro m9 n9 h9 tk9 ⟨b9, t9, hb9, rfl⟩ F9 N9
    k_steps
    exact hret _ _ _ _ hb9 (by assumption) (by assumption)
end Mine
end

/-! ### part C5 -/
section
open PySem PySem.W PySem.Calls PyProof.Rows
namespace Mine
local macro_rules | `(tactic| k_enter) => `(tactic| (refine' code_def ?k1 ?k2 ?k3 ?k4 ?k5 ?kA ?kF ?kK ?k6 ?k7 ?k8 ?k9 ?kB ?_ ?c2 ?c3 ?c4 ?c5; (case kA => exact rfl); (case kF => exact rfl); (case kK => first | assumption | exact rfl); (case k1 => k_asm); (case k2 => k_asm); (case k3 => k_asm); (case k4 => k_asm); (case k5 => k_asm); (case k6 => k_is); (case k7 => k_is); (case k8 => first | ktr_room | k_room); (case k9 => first | exact BindsTo.of_eq rfl | exact binds_K (by k_in) rfl (by k_is) rfl rfl rfl); (case c5 => decide); (case kB => exact locs rfl); (case c2 => exact rfl); (case c3 => exact rfl); (case c4 => exact rfl); k_whole; intro g' L' h' FG' F' N' B' X' T'; (try dsimp only); (try k_lift B'); (try k_fold)))
local macro_rules | `(tactic| walk_at "call ref") => `(tactic| (k_here; (with_reducible show wpAny _ _ (call (Value.ref 145) [Value.ref 169, Value.bytes _ _, Value.int _ _]) _ _ _); k_dflt (refine' crc32_k ?k1 ?k2 ?k3 ?k4 ?k5 ?kK ?kb ?kd ?ku ?_; (case k1 => k_asm); (case k2 => k_asm); (case k3 => k_asm); (case k4 => k_asm); (case k5 => k_asm); (case kK => first | assumption | exact rfl); (case kb => first | assumption | kba_ints | exact rfl); (case kd => ktr_room); (case ku => ktr_units)); intro t9 h9 tk9 F9 N9; (try k_fold)))
local macro_rules | `(tactic| walk_at "call ref") => `(tactic| (k_here; (with_reducible show wpAny _ _ (call (Value.ref 145) [Value.ref 169, Value.bytes _ _]) _ _ _); k_dflt (refine' crc32_1k ?k1 ?k2 ?k3 ?k4 ?k5 ?kK ?kb ?kd ?ku ?_; (case k1 => k_asm); (case k2 => k_asm); (case k3 => k_asm); (case k4 => k_asm); (case k5 => k_asm); (case kK => first | assumption | exact rfl); (case kb => first | assumption | kba_ints | exact rfl); (case kd => ktr_room); (case ku => ktr_units)); intro t9 h9 tk9 F9 N9; (try k_fold)))
local macro_rules | `(tactic| walk_at "call builtin:_struct.pack") => `(tactic| (k_here; k_dflt (first | (refine' pack_M ?k1 ?k2 ?_; (case k1 => assumption); (case k2 => assumption)) | (refine' pack_S ?k1 ?k2 ?_; (case k1 => assumption); (case k2 => assumption)) | (refine' pack_I ?k1 ?_; (case k1 => omega))); intro b9 t9 tk9 hb9; (try k_fold)))
local macro_rules | `(tactic| walk_at "call type:bytes") => `(tactic| (k_here; (with_reducible show wpAny _ _ (call (Value.type "bytes") [Value.bytes _ _]) _ _ _); k_dflt (refine call_bytes_bytes ?_)))
local macro_rules | `(tactic| walk_at "inplaceOp Add bytes bytes") => `(tactic| (k_here; k_dflt (refine' iadd_bytes ?k1 ?k2 ?k3 ?_; (case k1 => assumption); (case k2 => assumption); (case k3 => (simp only [List.length_append, be4, List.length_cons, List.length_nil]; omega))); intro b9 t9 tk9 hb9; (try k_fold)))
local macro_rules | `(tactic| k_all) => `(tactic| assumption)
theorem news_tail {h₀ h : Heap} {L : Addr} {q : Addr × Obj} {l : List (Addr × Obj)} (N : News h₀ L h (q :: l)) : News h₀ L h l := fun p hp => N p (List.mem_cons_of_mem _ hp)
theorem take_picked {b : Array UInt8} {ks : List Int} {n : Int} (hk : KBw.bInts b = ks) (h : 0 ≤ n) : KBw.bInts (KBy.picked b none (some n)) = ks.take n.toNat := by
  rw [KBc.ints_picked hk]
  have e : clipAt ks.length n = min n.toNat ks.length := by unfold clipAt; split <;> omega
  show (ks.drop 0).take (clipAt ks.length n - 0) = _
  rw [e, List.drop_zero, Nat.sub_zero]
  rcases Nat.le_total n.toNat ks.length with q | q
  · rw [Nat.min_eq_left q]
  · rw [Nat.min_eq_right q, List.take_of_length_le (Nat.le_refl _), List.take_of_length_le q]
theorem drop_picked {b : Array UInt8} {ks : List Int} {n : Int} (hk : KBw.bInts b = ks) (h : 0 ≤ n) : KBw.bInts (KBy.picked b (some n) none) = ks.drop n.toNat := by
  rw [KBc.ints_picked hk]
  have e : clipAt ks.length n = min n.toNat ks.length := by unfold clipAt; split <;> omega
  show (ks.drop (clipAt ks.length n)).take (ks.length - clipAt ks.length n) = _
  rw [e]
  rcases Nat.le_total n.toNat ks.length with q | q
  · rw [Nat.min_eq_left q, List.take_of_length_le (by rw [List.length_drop]; exact Nat.le_refl _)]
  · rw [Nat.min_eq_right q, Nat.sub_self, List.take_zero, List.drop_eq_nil_of_le q]
set_option maxRecDepth 100000 in
set_option maxHeartbeats 80000000 in
theorem read_c : ∀ {w : World} {p : Program} {loose : List Str} {mean : ExcName → Option Value} {mg mb : Str → Option Value} {news : List (Addr × Obj)} {x dx : Addr} {kt : Tok} {b0 : Array UInt8} {ks0 : List Int} {tb0 tn : Tok} {n : Int}
    {dp un : Nat} {gd : Option (List Code)} {cn : Str} {cs : Scope} {a : Addr} {ccd : Value} {cl : List (Str × Addr)} {outer : List Env} {A₀ : Around} {base h₀ : Heap} {L : Addr} {m : Str → Option Value} {s : Shared} {Q E : Value → Shared → Prop}
    (hlt : @LT.lt Nat _ dx x) (hoff : ∀ p ∈ news, p.1 ≠ dx) (hb0 : KBw.bInts b0 = ks0) (hn : 0 ≤ n ∧ n ≤ 100) (hl : ks0.length ≤ 100)
    (hB : Below A₀ base outer h₀) (hF : Fr h₀ L s.heap m) (hX : (KK w.params).In h₀) (hN : News h₀ L s.heap ((x, instObj 126 dx) :: (dx, strmO w.params kt b0 tb0) :: news)) (hT : Top p loose mean mg mb h₀) (hk : cs.kind = .function) (hd : dp + 4 < recursionLimit) (hu : un + 40 < cLine)
    (hret : ∀ p' tp' b' t' h' tk', KBw.bInts p' = ks0.take n.toNat → KBw.bInts b' = ks0.drop n.toNat → Fr h₀ L h' m → News h₀ L h' ((x, instObj 126 dx) :: (dx, strmO w.params kt b' t') :: news) → Q (.bytes p' tp') { s with heap := h', toks := tk' }),
    wpAny (model PySem.Challenge.rw_bq0018_03.row.prog w) (ktrTop dp un gd cn cs L a ccd cl outer) (call (.ref 90) [.ref x, .int n tn]) Q E s := by
  k_fill
  intro w p loose mean mg mb news x dx kt b0 ks0 tb0 tn n dp un gd cn cs a ccd cl outer A₀ base h₀ L m s Q E hlt hoff hb0 hn hl hB hF hX hN hT hk hd hu hret
  refine wpAny_call ?_
  k_dflt k_enter
  k_steps
  rename News _ _ _ _ => hNz
  rename Fr _ _ _ _ => hFz
  exact hret _ _ _ _ _ _ (take_picked hb0 hn.1) (drop_picked hb0 hn.1) hFz (news_tail hNz)
theorem read_k {w : World} {p : Program} {loose : List Str} {mean : ExcName → Option Value} {mg mb : Str → Option Value} {news : List (Addr × Obj)} {g : Obj → List (Addr × Obj)} {x dx : Addr} {kt : Tok} {b0 : Array UInt8} {ks0 : List Int} {tb0 tn : Tok} {n : Int}
    {dp un : Nat} {gd : Option (List Code)} {cn : Str} {cs : Scope} {a : Addr} {ccd : Value} {cl : List (Str × Addr)} {outer : List Env} {A₀ : Around} {base h₀ : Heap} {L : Addr} {m : Str → Option Value} {s : Shared} {Q E : Value → Shared → Prop}
    (hx : (x, instObj 126 dx) ∈ news) (U : UpdF dx (strmO w.params kt b0 tb0) news g) (hlt : @LT.lt Nat _ dx x) (hb0 : KBw.bInts b0 = ks0) (hn : 0 ≤ n ∧ n ≤ 100) (hl : ks0.length ≤ 100)
    (hB : Below A₀ base outer h₀) (hF : Fr h₀ L s.heap m) (hX : (KK w.params).In h₀) (hN : News h₀ L s.heap news) (hT : Top p loose mean mg mb h₀) (hk : cs.kind = .function) (hd : dp + 4 < recursionLimit) (hu : un + 40 < cLine)
    (hret : ∀ p' tp' b' t' h' tk', KBw.bInts p' = ks0.take n.toNat → KBw.bInts b' = ks0.drop n.toNat → Fr h₀ L h' m → News h₀ L h' (g (strmO w.params kt b' t')) → Q (.bytes p' tp') { s with heap := h', toks := tk' }) :
    wpAny (model PySem.Challenge.rw_bq0018_03.row.prog w) (ktrTop dp un gd cn cs L a ccd cl outer) (call (.ref 90) [.ref x, .int n tn]) Q E s := by
  obtain ⟨pre, post, e1, e2, h1, h2⟩ := U.split
  subst e1
  have hoff : ∀ p ∈ pre ++ post, p.1 ≠ dx := fun p hp => by
    rcases List.mem_append.mp hp with hp | hp
    · exact h1 p hp
    · exact h2 p hp
  refine read_c (news := pre ++ post) (kt := kt) (tb0 := tb0) hlt hoff hb0 hn hl hB hF hX (fun p hp => hN p ?_) hT hk hd hu fun p' tp' b' t' h' tk' hp' hb' F' N' => hret p' tp' b' t' h' tk' hp' hb' F' fun p hp => N' p ?_
  · rcases List.mem_cons.mp hp with rfl | hp
    · exact hx
    rcases List.mem_cons.mp hp with rfl | hp
    · exact List.mem_append.mpr (.inr List.mem_cons_self)
    rcases List.mem_append.mp hp with hp | hp
    · exact List.mem_append.mpr (.inl hp)
    · exact List.mem_append.mpr (.inr (List.mem_cons_of_mem _ hp))
  · rw [e2] at hp
    rcases List.mem_append.mp hp with hp | hp
    · exact List.mem_cons_of_mem _ (List.mem_cons_of_mem _ (List.mem_append.mpr (.inl hp)))
    · rcases List.mem_cons.mp hp with rfl | hp
      · exact List.mem_cons_of_mem _ List.mem_cons_self
      · exact List.mem_cons_of_mem _ (List.mem_cons_of_mem _ (List.mem_append.mpr (.inr hp)))
/-- the same, what lies in front read off whole -/
theorem read_kp {w : World} {p : Program} {loose : List Str} {mean : ExcName → Option Value} {mg mb : Str → Option Value} {news : List (Addr × Obj)} {g : Obj → List (Addr × Obj)} {x dx : Addr} {kt : Tok} {b0 : Array UInt8} {ks0 ls0 : List Int} {tb0 tn : Tok} {n : Int}
    {dp un : Nat} {gd : Option (List Code)} {cn : Str} {cs : Scope} {a : Addr} {ccd : Value} {cl : List (Str × Addr)} {outer : List Env} {A₀ : Around} {base h₀ : Heap} {L : Addr} {m : Str → Option Value} {s : Shared} {Q E : Value → Shared → Prop}
    (hx : (x, instObj 126 dx) ∈ news) (U : UpdF dx (strmO w.params kt b0 tb0) news g) (hlt : @LT.lt Nat _ dx x) (hb0 : KBw.bInts b0 = ks0 ++ ls0) (hn : (ks0.length : Int) = n) (hl : ks0.length ≤ 50) (hl2 : ls0.length ≤ 50)
    (hB : Below A₀ base outer h₀) (hF : Fr h₀ L s.heap m) (hX : (KK w.params).In h₀) (hN : News h₀ L s.heap news) (hT : Top p loose mean mg mb h₀) (hk : cs.kind = .function) (hd : dp + 4 < recursionLimit) (hu : un + 40 < cLine)
    (hret : ∀ p' tp' b' t' h' tk', KBw.bInts p' = ks0 → KBw.bInts b' = ls0 → Fr h₀ L h' m → News h₀ L h' (g (strmO w.params kt b' t')) → Q (.bytes p' tp') { s with heap := h', toks := tk' }) :
    wpAny (model PySem.Challenge.rw_bq0018_03.row.prog w) (ktrTop dp un gd cn cs L a ccd cl outer) (call (.ref 90) [.ref x, .int n tn]) Q E s := by
  have e : n.toNat = ks0.length := by omega
  refine read_k hx U hlt hb0 (by omega) (by rw [List.length_append]; omega) hB hF hX hN hT hk hd hu fun p' tp' b' t' h' tk' hp' hb' => hret p' tp' b' t' h' tk' ?_ ?_
  · rw [hp', e, List.take_append_of_le_length (Nat.le_refl _), List.take_of_length_le (Nat.le_refl _)]
  · rw [hb', e, List.drop_append_of_le_length (Nat.le_refl _), List.drop_eq_nil_of_le (Nat.le_refl _), List.nil_append]
end Mine
end

/-! ### part D1 -/
section
open PySem PySem.W PySem.Calls PyProof.Rows
namespace Mine
set_option maxRecDepth 100000
open Builtin in
theorem dec_road {id : String} {b : Array UInt8} : _codecs.decodeRoad id b (PySem.Str.ofString "ascii") none [] = (_codecs.runDecoder id _codecs.asciiDecoder none true b 0 [] >>= fun r => mkStr ⟨r.1⟩) := by kernel_rfl
open Builtin in
theorem dec_entry {c : UInt8} {cs : List UInt8} {t u : Tok} : «bytes.decode» ⟨[.bytes (c :: cs).toArray t, .str (PySem.Str.ofString "ascii") u], []⟩ = (mkStr (PySem.Str.ofString "utf-8") >>= fun _ => mkStr (PySem.Str.ofString "ascii") >>= fun e => mkStr (PySem.Str.ofString "bytes.decode") >>= fun d =>
    call (.builtin "_codecs.decode.text") [.bytes (c :: cs).toArray t, e, .none, d] >>= fun v => ret v) := by kernel_rfl
theorem dec_args (a b : Value) : argsOk "bytes.decode" ⟨[a, b], []⟩ := by
  unfold argsOk; rw [signature?_of (id := "bytes.decode") (n := ['e', 'd', 'o', 'c', 'e', 'd']) (o := ['s', 'e', 't', 'y', 'b']) (by kernel_rfl) FB.owner_bytes]; kernel_rfl
open Builtin in
theorem dec_run : ∀ id, _codecs.runDecoder id _codecs.asciiDecoder none true [97, 98, 67, 100].toArray 0 [] = pure ((PySem.Str.ofString "abCd").cps, 4) := by
  intro _; kernel_rfl
open Builtin in
theorem dec_text {t t1 t2 : Tok} {d : PySem.Str} :
    Meets («_codecs.decode.text» ⟨[.bytes #[97, 98, 67, 100] t, .str (PySem.Str.ofString "ascii") t1, .none, .str d t2], []⟩) (fun _ R s => R (.ok (.ret (.str (PySem.Str.ofString "abCd") s.toks))) { s with toks := s.toks + 1 }) := by
  refine .of_wp fun prog w A R s h => ?_
  show wpAny _ _ (Bytes.bytesLike _ (.bytes #[97, 98, 67, 100] t) >>= fun r => _) _ _ s
  refine wpAny_bind (wpAny_of_eq KBd.like_eq ?_)
  refine wpAny_bind (wpAny_of_eq KBd.held_eq ?_)
  show wpAny _ _ (_codecs.decodeRoad _ #[97, 98, 67, 100] (PySem.Str.ofString "ascii") none [] >>= fun v => _) _ _ s
  rw [dec_road, dec_run]
  refine wpAny_bind (wpAny_bind (wpAny_pure ?_))
  exact wpAny_mkStr (wpAny_pure ⟨_, rfl, h⟩) (by decide)
open Builtin in
theorem dec_meets {t u : Tok} :
    Meets («bytes.decode» ⟨[.bytes #[97, 98, 67, 100] t, .str (PySem.Str.ofString "ascii") u], []⟩) (fun _ R s => ∀ t' k, R (.ok (.ret (.str (PySem.Str.ofString "abCd") t'))) { s with toks := k }) := by
  refine .of_wp fun prog w A R s h => ?_
  rw [show (#[97, 98, 67, 100] : Array UInt8) = (97 :: [98, 67, 100]).toArray from rfl, dec_entry]
  refine wpAny_bind (wpAny_mkStr ?_ (by decide))
  refine wpAny_bind (wpAny_mkStr ?_ (by decide))
  refine wpAny_bind (wpAny_mkStr ?_ (by decide))
  exact wpAny_bind (call_function_meets KBd.kind_text KBd.plain_text KBd.entry_text (KBd.args_text _ _ _ _) dec_text (wpAny_pure ⟨_, rfl, h _ _⟩))
theorem decode_abcd {prog : Program} {w : World} {A : Around} {E : Value → Shared → Prop} {s : Shared} {t u : Tok} {Q : Value → Shared → Prop} (h : ∀ t' k, Q (.str (PySem.Str.ofString "abCd") t') { s with toks := k }) :
    wpAny (model prog w) A (call (.builtin "bytes.decode") [.bytes #[97, 98, 67, 100] t, .str (PySem.Str.ofString "ascii") u]) Q E s :=
  call_meets FB.slot_bytes_decode (typeIs_bytes _ _ _) FB.entry_bytes_decode (dec_args _ _) dec_meets h
end Mine
end

/-! ### part M1 -/
section
open PySem PySem.W PySem.Calls PyProof.Rows
namespace Mine
set_option maxRecDepth 100000
theorem meets_any {t : Sem PySem.Fin} {b : Addr} {its : Array Value}
    (h : ∀ (prog : Program) (w : World) (A : Around) (s : Shared) (Q : PySem.Fin → Shared → Prop) (E : Value → Shared → Prop), IsTup s.heap b its → (∀ T t' k, Q (.done (.ret (.str T t'))) { s with toks := k }) → wpAny (model prog w) A t Q E s) :
    Meets t (fun _ R s => IsTup s.heap b its ∧ ∀ T t' k, R (.ok (.ret (.str T t'))) { s with toks := k }) :=
  Meets.of_wp fun prog w A _ s hS => h prog w A.in1 s _ _ hS.1 fun T t' k => ⟨_, rfl, hS.2 T t' k⟩
theorem mod_any {prog : Program} {w : World} {A : Around} {E : Value → Shared → Prop} {s : Shared} {X : PySem.Str} {t : Tok} {Q : Value → Shared → Prop} {b L : Addr} {its : Array Value} {n : Nat} {h₀ : Heap} {news : List (Addr × Obj)} (N : News h₀ L s.heap news) (hb : (b, ({ cls := .type "tuple", data := .seq its n } : Obj)) ∈ news)
    (hm : Meets (Builtin.«str.__mod__» ⟨[.str X t, .ref b], []⟩) (fun _ R s => IsTup s.heap b its ∧ ∀ T t' k, R (.ok (.ret (.str T t'))) { s with toks := k }))
    (h : ∀ T t' k, Q (.str T t') { s with toks := k }) : wpAny (model prog w) A (binaryOp .Mod (.str X t) (.ref b)) Q E s := by
  have ht : IsTup s.heap b its := N.isTup hb
  have hT : s.TypeIs (.ref b) "tuple" := by
    obtain ⟨o, ho, hc, _⟩ := ht
    exact ⟨o, ho, hc⟩
  exact KPt.bin_left (T := "str") (U := "tuple") (op := .Mod) (by decide) (typeIs_str s X t) hT PySem.F.fills_str_mod KPt.fills_tuple PySem.F.slot_str_mod
    (call_meets PySem.F.slot_str_mod (typeIs_str s X t) PySem.F.entry_str_mod (PySem.F.args_str_mod_2 _ _) hm ⟨ht, fun T t' k => ⟨(fun e => nomatch e), h T t' k⟩⟩)
theorem hex_len {i : Int} (h0 : 0 ≤ i) (h1 : i < 4294967296) : (Nat.toDigits 16 i.natAbs).length ≤ 8 := by
  rw [Nat.length_toDigits_le_iff (by decide) (by decide)]
  omega
def hexF : Builtin.Str.Percent := { zero := true, width := some 8, type := 88 }
theorem hex_text {i : Int} (h0 : 0 ≤ i) (d : List Nat) : (Builtin.Str.percentInt hexF (decide (i < 0)) d).length = d.length := by
  have e : decide (i < 0) = false := decide_eq_false (by omega)
  unfold Builtin.Str.percentInt
  rw [e]
  simp [hexF]
open Builtin.Str in
theorem hex_field {text laid : List Nat} (hl : text.length ≤ 8) (h : percentField hexF true text = some laid) : laid.length ≤ 100 := by
  unfold percentField at h
  split at h
  · cases h
  simp [hexF] at h
  subst h
  split <;> (simp at hl ⊢; try omega)
theorem hex_after {M : Model} {A : Around} {E : Value → Shared → Prop} {s : Shared} {l : List Nat} {p : List Value} {r : List Nat}
  {f : Nat → List Value × Builtin.Str.Writer × List Nat → Sem (ForInStep (List Value × Builtin.Str.Writer × List Nat))} {Q : List Value × Builtin.Str.Writer × List Nat → Shared → Prop}
  {w : Builtin.Str.Writer} {T : PySem.Str} {N : Nat} {text : List Nat} {o : Option Value} (g : KPc.Good w T N) (ho : o = none) (hl : text.length ≤ 100) (h : ∀ w' T', KPc.Good w' T' (N + 100) → wpAny M A (forIn l (p, w', r) f) Q E s) : wpAny M A (forIn l (p, w.add ⟨text.toArray⟩ o, r) f) Q E s :=
  h _ _ (KPc.good_mono (KPc.good_add (x := ⟨text.toArray⟩) g (KPc.obj_none ho)) (Nat.add_le_add_left (by show text.toArray.size ≤ 100; simpa using hl) _))
theorem via_eq {α : Type} {M : Model} {A : Around} {E : Value → Shared → Prop} {s : Shared} {t : Sem α} {Q : α → Shared → Prop} (P : α → Prop) (h : ∃ a, t = pure a ∧ P a) (hq : ∀ a, P a → Q a s) : wpAny M A t Q E s := by
  obtain ⟨a, e, hP⟩ := h
  exact wpAny_of_eq e (hq a hP)
theorem hex_good {w : Builtin.Str.Writer} {T : PySem.Str} {N K : Nat} {text : List Nat} {o : Option Value} (g : KPc.Good w T N) (ho : o = none) (hl : text.length ≤ 100) (hK : N + 100 ≤ K) : ∃ T', KPc.Good (w.add ⟨text.toArray⟩ o) T' K :=
  ⟨_, KPc.good_mono (KPc.good_add (x := ⟨text.toArray⟩) g (KPc.obj_none ho)) (Nat.le_trans (Nat.add_le_add_left (by show text.toArray.size ≤ 100; simpa using hl) _) hK)⟩
theorem hex_text_len {i : Int} (h0 : 0 ≤ i) (h1 : i < 4294967296) : (Builtin.Str.percentInt hexF (decide (i < 0)) (List.map Char.toNat (Nat.toDigits 16 i.natAbs))).length ≤ 8 := by
  rw [hex_text h0, List.length_map]
  exact hex_len h0 h1
set_option maxHeartbeats 8000000 in
theorem msg_meets {b : Addr} {t t1 u1 u2 : Tok} {i j : Int} (hi0 : 0 ≤ i) (hi1 : i < 4294967296) (hj0 : 0 ≤ j) (hj1 : j < 4294967296) :
    Meets (Builtin.«str.__mod__» ⟨[.str ⟨#[67, 104, 101, 99, 107, 115, 117, 109, 32, 101, 114, 114, 111, 114, 32, 105, 110, 32, 37, 115, 32, 99, 104, 117, 110, 107, 58, 32, 48, 120, 37, 48, 56, 88, 32, 33, 61, 32, 48, 120, 37, 48, 56, 88, 46]⟩ t, .ref b], []⟩) (fun _ R s => IsTup s.heap b #[.str (PySem.Str.ofString "abCd") t1, .int i u1, .int j u2] ∧ ∀ T t' k, R (.ok (.ret (.str T t'))) { s with toks := k }) := by
  apply meets_any
  intro _ _ _ _ _ _ kptH hq
  obtain ⟨kptO, kptG, kptC, kptN, kptD⟩ := kptH
  rw [KPt.entry_is_r]
  unfold Builtin.Str.percentFormat
  refine wpAny_bind (wpAny_isInstance (T := "tuple") ⟨kptO, kptG, kptC⟩ KPt.sub_tt ?_)
  refine wpAny_bind (KPt.asStr_ref kptG kptD ?_)
  refine wpAny_bind (KPt.fills_ref ⟨kptO, kptG, kptC⟩ ?_)
  intro _
  kpc_if
  refine wpAny_bind (wpAny_seqItems kptG kptD ?_)
  refine wpAny_bind (wpAny_pure ?_)
  refine wpAny_bind ?_
  rw [KPc.range_list]
  refine KPc.start ?_
  intro _ _
  refine KPc.turn ?_; kpc_check; (repeat kpc_if); refine wpAny_pure ?_; kpt_piece
  refine KPc.turn ?_; kpc_check; (repeat kpc_if)
  refine wpAny_bind ?_; refine wpAny_holding ?_; (repeat kpc_if); kpt_conv; refine wpAny_pure ?_; refine wpAny_pure ?_; kpt_piece
  refine KPc.turn ?_; kpc_check; (repeat kpc_if); refine wpAny_pure ?_; kpt_piece
  refine KPc.turn ?_; kpc_check; (repeat kpc_if)
  refine wpAny_bind ?_; refine wpAny_holding ?_; (repeat kpc_if)
  refine wpAny_bind (wpAny_of_eq (a := _) rfl ?_); (repeat kpc_if)
  refine wpAny_bind (wpAny_pure ?_); refine wpAny_pure ?_
  refine via_eq (fun a => ∃ w' T', KPc.Good w' T' 1000 ∧ a = ForInStep.yield ([Value.int j u2], w', [32, 33, 61, 32, 48, 120, 37, 48, 56, 88, 46])) ?_ ?_
  · dsimp only
    generalize hpf : Builtin.Str.percentField _ true _ = pf
    cases pf with
    | none => 
      obtain ⟨T', hT⟩ := hex_good (K := 1000) (o := none) (by kpc_g) rfl (Nat.le_trans (hex_text_len hi0 hi1) (by decide)) (by decide +kernel)
      exact ⟨_, rfl, _, T', hT, rfl⟩
    | some laid =>
      obtain ⟨T', hT⟩ := hex_good (K := 1000) (o := none) (by kpc_g) rfl (hex_field (hex_text_len hi0 hi1) hpf) (by decide +kernel)
      exact ⟨_, rfl, _, T', hT, rfl⟩
  rintro _ ⟨_, _, _, rfl⟩
  refine KPc.turn ?_; kpc_check; (repeat kpc_if); refine wpAny_pure ?_; kpt_piece
  refine KPc.turn ?_; kpc_check; (repeat kpc_if)
  refine wpAny_bind ?_; refine wpAny_holding ?_; (repeat kpc_if)
  refine wpAny_bind (wpAny_of_eq (a := _) rfl ?_); (repeat kpc_if)
  refine wpAny_bind (wpAny_pure ?_); refine wpAny_pure ?_
  refine via_eq (fun a => ∃ w' T', KPc.Good w' T' 2000 ∧ a = ForInStep.yield ([], w', [46])) ?_ ?_
  · dsimp only
    generalize hpf : Builtin.Str.percentField _ true _ = pf
    cases pf with
    | none => 
      obtain ⟨T', hT⟩ := hex_good (K := 2000) (o := none) (by kpc_g) rfl (Nat.le_trans (hex_text_len hj0 hj1) (by decide)) (by decide +kernel)
      exact ⟨_, rfl, _, T', hT, rfl⟩
    | some laid =>
      obtain ⟨T', hT⟩ := hex_good (K := 2000) (o := none) (by kpc_g) rfl (hex_field (hex_text_len hj0 hj1) hpf) (by decide +kernel)
      exact ⟨_, rfl, _, T', hT, rfl⟩
  rintro _ ⟨_, _, _, rfl⟩
  refine KPc.turn ?_; kpc_check; (repeat kpc_if); refine wpAny_pure ?_; kpt_piece
  refine KPc.turn ?_; kpc_check; (repeat kpc_if)
  refine wpAny_pure ?_; kpc_if
  refine KPc.finish_ok (by kpc_g) (by decide +kernel) rfl ?_
  exact hq _
theorem msg_mod {prog : Program} {w : World} {A : Around} {E : Value → Shared → Prop} {s : Shared} {t t1 u1 u2 : Tok} {Q : Value → Shared → Prop} {b L : Addr} {i j : Nat} {k : Nat} {h₀ : Heap} {m : Str → Option Value} {news : List (Addr × Obj)} (_ : Fr h₀ L s.heap m) (N : News h₀ L s.heap news) (hb : (b, ({ cls := .type "tuple", data := .seq #[.str (PySem.Str.ofString "abCd") t1, .int (i : Int) u1, .int (j : Int) u2] k } : Obj)) ∈ news)
    (hi : i < 4294967296) (hj : j < 4294967296)
    (h : ∀ T t' k, Q (.str T t') { s with toks := k }) : wpAny (model prog w) A (binaryOp .Mod (.str (PySem.Str.ofString "Checksum error in %s chunk: 0x%08X != 0x%08X.") t) (.ref b)) Q E s := by
  have e : PySem.Str.ofString "Checksum error in %s chunk: 0x%08X != 0x%08X." = ⟨#[67, 104, 101, 99, 107, 115, 117, 109, 32, 101, 114, 114, 111, 114, 32, 105, 110, 32, 37, 115, 32, 99, 104, 117, 110, 107, 58, 32, 48, 120, 37, 48, 56, 88, 32, 33, 61, 32, 48, 120, 37, 48, 56, 88, 46]⟩ := by decide +kernel
  have hm := msg_meets (b := b) (t := t) (t1 := t1) (u1 := u1) (u2 := u2) (i := (i : Int)) (j := (j : Int)) (by omega) (by omega) (by omega) (by omega)
  rw [← e] at hm
  exact mod_any N hb hm h
end Mine
end

/-! ### part C6 -/
section
open PySem PySem.W PySem.Calls PyProof.Rows
namespace Mine
local macro_rules | `(tactic| k_enter) => `(tactic| (refine' code_def ?k1 ?k2 ?k3 ?k4 ?k5 ?kA ?kF ?kK ?k6 ?k7 ?k8 ?k9 ?kB ?_ ?c2 ?c3 ?c4 ?c5; (case kA => exact rfl); (case kF => exact rfl); (case kK => first | assumption | exact rfl); (case k1 => k_asm); (case k2 => k_asm); (case k3 => k_asm); (case k4 => k_asm); (case k5 => k_asm); (case k6 => k_is); (case k7 => k_is); (case k8 => first | ktr_room | k_room); (case k9 => first | exact BindsTo.of_eq rfl | exact binds_K (by k_in) rfl (by k_is) rfl rfl rfl); (case c5 => decide); (case kB => exact locs rfl); (case c2 => exact rfl); (case c3 => exact rfl); (case c4 => exact rfl); k_whole; intro g' L' h' FG' F' N' B' X' T'; (try dsimp only); (try k_lift B'); (try k_fold)))
local macro_rules | `(tactic| walk_at "call ref") => `(tactic| (k_here; (with_reducible show wpAny _ _ (call (Value.ref 145) [Value.ref 169, Value.bytes _ _, Value.int _ _]) _ _ _); k_dflt (refine' crc32_k ?k1 ?k2 ?k3 ?k4 ?k5 ?kK ?kb ?kd ?ku ?_; (case k1 => k_asm); (case k2 => k_asm); (case k3 => k_asm); (case k4 => k_asm); (case k5 => k_asm); (case kK => first | assumption | exact rfl); (case kb => first | assumption | kba_ints | exact rfl); (case kd => ktr_room); (case ku => ktr_units)); intro t9 h9 tk9 F9 N9; (try k_fold)))
local macro_rules | `(tactic| walk_at "call ref") => `(tactic| (k_here; (with_reducible show wpAny _ _ (call (Value.ref 145) [Value.ref 169, Value.bytes _ _]) _ _ _); k_dflt (refine' crc32_1k ?k1 ?k2 ?k3 ?k4 ?k5 ?kK ?kb ?kd ?ku ?_; (case k1 => k_asm); (case k2 => k_asm); (case k3 => k_asm); (case k4 => k_asm); (case k5 => k_asm); (case kK => first | assumption | exact rfl); (case kb => first | assumption | kba_ints | exact rfl); (case kd => ktr_room); (case ku => ktr_units)); intro t9 h9 tk9 F9 N9; (try k_fold)))
local macro_rules | `(tactic| walk_at "call builtin:_struct.pack") => `(tactic| (k_here; k_dflt (first | (refine' pack_M ?k1 ?k2 ?_; (case k1 => assumption); (case k2 => assumption)) | (refine' pack_S ?k1 ?k2 ?_; (case k1 => assumption); (case k2 => assumption)) | (refine' pack_I ?k1 ?_; (case k1 => omega))); intro b9 t9 tk9 hb9; (try k_fold)))
local macro_rules | `(tactic| walk_at "call type:bytes") => `(tactic| (k_here; (with_reducible show wpAny _ _ (call (Value.type "bytes") [Value.bytes _ _]) _ _ _); k_dflt (refine call_bytes_bytes ?_)))
local macro_rules | `(tactic| walk_at "inplaceOp Add bytes bytes") => `(tactic| (k_here; k_dflt (refine' iadd_bytes ?k1 ?k2 ?k3 ?_; (case k1 => assumption); (case k2 => assumption); (case k3 => (simp only [List.length_append, be4, List.length_cons, List.length_nil]; omega))); intro b9 t9 tk9 hb9; (try k_fold)))
local macro_rules | `(tactic| k_all) => `(tactic| assumption)
local macro_rules | `(tactic| walk_at "call ref") => `(tactic| (k_here; (with_reducible show wpAny _ _ (call (Value.ref 90) [Value.ref _, Value.int _ _]) _ _ _); k_dflt (refine' read_kp ?k01 ?k02 ?k03 ?k04 ?k05 ?k06 ?k07 ?k1 ?k2 ?k3 ?k4 ?k5 ?kK ?kd ?ku ?_; (case k1 => k_asm); (case k2 => k_asm); (case k3 => k_asm); (case k4 => k_asm); (case k5 => k_asm); (case k01 => k_mem); (case k02 => k_updF); (case k03 => omega); (case k04 => assumption); (case k05 => first | exact rfl | omega); (case k06 => first | exact Nat.le_of_ble_eq_true rfl | omega); (case k07 => first | exact Nat.le_of_ble_eq_true rfl | omega); (case kK => first | assumption | exact rfl); (case kd => ktr_room); (case ku => ktr_units)); intro p9 tp9 b9 t9 h9 tk9 hp9 hb9 F9 N9; (try k_fold)))
local macro_rules | `(tactic| walk_at "call builtin:_struct.unpack") => `(tactic| (k_here; k_dflt (refine' unpack_KL ?k1 ?k2 ?k3 ?k4 ?k5 ?_; (case k1 => k_asm); (case k2 => k_asm); (case k3 => assumption); (case k4 => exact rfl); (case k5 => omega)); intro D9 h9 tk9 ti9 kb9 tb9 hkb9 F9 N9 l9; (try k_lt l9); (try k_fold)))
theorem clean_of {Γ : PySem.Ctx} {c : Code} {A : Around} (h : Clean Γ) (_ : (Γ.goto c).In A) (hq : quietC c = true) : Clean (Γ.goto c) := h.goto hq
theorem truthy_bL {prog : Program} {w : World} {A : Around} {E : Value → Shared → Prop} {s : Shared} {b : Array UInt8} {t : Tok} {ks : List Int} {Q : Bool → Shared → Prop} (hb : KBw.bInts b = ks) (h1 : ks.length ≤ 100) (h2 : 1 ≤ ks.length) (h : ∀ k, Q true { s with toks := k }) : wpAny (model prog w) A (truthy (.bytes b t)) Q E s := by
  refine KBw.truthy_K hb (by omega) ?_
  rw [decide_eq_true (by omega)]
  exact h _
theorem len_bL {prog : Program} {w : World} {A : Around} {E : Value → Shared → Prop} {s : Shared} {b : Array UInt8} {t : Tok} {ks : List Int} {n : Int} {Q : Value → Shared → Prop} (hb : KBw.bInts b = ks) (h1 : ks.length ≤ 100) (h2 : (ks.length : Int) = n) (h : ∀ t k, Q (.int n t) { s with toks := k }) : wpAny (model prog w) A (call (.builtin "len") [.bytes b t]) Q E s := by
  refine KBw.len_K hb (by omega) ?_
  rw [h2]
  exact h _ _
local macro_rules | `(tactic| walk_at "truthy bytes") => `(tactic| (k_here; k_dflt (refine' truthy_bL ?k1 ?k2 ?k3 ?_; (case k1 => assumption); (case k2 => first | exact Nat.le_of_ble_eq_true rfl | omega); (case k3 => first | exact Nat.le_of_ble_eq_true rfl | omega)); intro k9; (try k_fold)))
local macro_rules | `(tactic| walk_at "call builtin:len") => `(tactic| (k_here; (with_reducible show wpAny _ _ (call (Value.builtin "len") [Value.bytes _ _]) _ _ _); k_dflt (refine' len_bL ?k1 ?k2 ?k3 ?_; (case k1 => assumption); (case k2 => first | exact Nat.le_of_ble_eq_true rfl | omega); (case k3 => first | exact (rfl : _ = (8 : Int)) | exact (rfl : _ = (4 : Int)) | assumption | exact rfl)); intro t9 k9; (try k_fold)))
theorem big_no {n : Nat} (h : n ≤ 10) : decide ((2 ^ Int.toNat 31 - 1 : Int) < (n : Int)) = false := by
  rw [show (2 ^ Int.toNat 31 - 1 : Int) = 2147483647 by decide]
  exact decide_eq_false (by omega)
theorem ite_off {c : Prop} [Decidable c] {X Y : Prop} (hc : ¬ c) (h : Y) : if c then X else Y := by rw [if_neg hc]; exact h
local macro_rules | `(tactic| walk_at "ite") => `(tactic| (k_here; refine ite_off (by rw [big_no (by omega)]; exact Bool.false_ne_true) ?_))
local macro_rules | `(tactic| walk_at "call type:range") => `(tactic| (k_here; k_dflt (refine' range_KL ?k1 ?k2 ?_; (case k1 => k_asm); (case k2 => k_asm)); intro r9 h9 tk9 t9 u9 v9 F9 N9 l9; (try k_lt l9); (try k_fold)))
local macro_rules | `(tactic| walk_at "call type:set") => `(tactic| (k_here; k_dflt (first
  | (refine' set_rangeL (lo := 65) (hi := 91) (xs := x65) rfl ?k1 ?k2 ?k3 ?k4 ?k5 p65 ?_; (case k1 => k_asm); (case k2 => k_asm); (case k3 => k_mem); (case k4 => decide); (case k5 => decide))
  | (refine' set_rangeL (lo := 97) (hi := 123) (xs := x97) rfl ?k1 ?k2 ?k3 ?k4 ?k5 p97 ?_; (case k1 => k_asm); (case k2 => k_asm); (case k3 => k_mem); (case k4 => decide); (case k5 => decide))); intro a9 h9 tk9 o9 led9 F9 N9 l9 HS9; (try k_lt l9); (try k_fold)))
local macro_rules | `(tactic| walk_at "binaryOp BitOr") => `(tactic| (k_here; k_dflt (refine' or_KL ?k1 ?k2 ?k3 ?k4 ?k5 ?k6 ?k7 ?_; (case k1 => k_asm); (case k2 => k_asm); (case k3 => k_mem); (case k4 => k_mem); (case k5 => k_ne); (case k6 => assumption); (case k7 => assumption)); intro c9 h9 o9 S9 n9 F9 N9 l9 HN9 hn9 hS9; (try k_lt l9); (try k_fold)))
local macro_rules | `(tactic| walk_at "compareOp LtE") => `(tactic| (k_here; k_dflt (refine' le_KL ?k1 ?k2 ?k3 ?k4 ?k5 ?k6 ?k7 ?k8 ?_; (case k1 => k_asm); (case k2 => k_mem); (case k3 => k_mem); (case k4 => assumption); (case k5 => assumption); (case k6 => assumption); (case k7 => assumption); (case k8 => ktr_units)); (try k_fold)))
theorem news_mid1 {h₀ h : Heap} {L : Addr} {d e : Addr × Obj} {l : List (Addr × Obj)} (N : News h₀ L h (d :: e :: l)) : News h₀ L h (d :: l) := fun p hp => N p (by
  rcases List.mem_cons.mp hp with rfl | hp
  · exact List.mem_cons_self
  · exact List.mem_cons_of_mem _ (List.mem_cons_of_mem _ hp))
/-- a Reader's dictionary -/
abbrev rdO (P : Params) (k1 k2 k3 k4 : Tok) (v1 v3 : Value) (st : Addr) : Obj :=
  dictOf [⟨PyData.keyHash P (Str.ofString "signature"), .str (Str.ofString "signature") k1, v1⟩, ⟨PyData.keyHash P (Str.ofString "transparent"), .str (Str.ofString "transparent") k2, .none⟩, ⟨PyData.keyHash P (Str.ofString "atchunk"), .str (Str.ofString "atchunk") k3, v3⟩, ⟨PyData.keyHash P (Str.ofString "file"), .str (Str.ofString "file") k4, .ref st⟩] 4
set_option maxRecDepth 100000 in
set_option maxHeartbeats 80000000 in
theorem clen_F : ∀ {w : World} {p : Program} {loose : List Str} {mean : ExcName → Option Value} {mg mb : Str → Option Value} {news : List (Addr × Obj)} {rd drd x dx : Addr} {k1 k2 k3 k4 kt : Tok} {v1 v3 : Value} {b0 : Array UInt8} {n : Nat} {rest : List Int} {tb0 : Tok} {Γ : PySem.Ctx}
    {dp un : Nat} {gd : Option (List Code)} {cn : Str} {cs : Scope} {a : Addr} {ccd : Value} {cl : List (Str × Addr)} {outer : List Env} {A₀ : Around} {base h₀ : Heap} {L : Addr} {m : Str → Option Value} {s : Shared} {R : Result → Shared → Prop}
    (hlt : @LT.lt Nat _ dx x) (hlt2 : @LT.lt Nat _ x drd) (hlt3 : @LT.lt Nat _ drd rd) (hoff : ∀ p ∈ news, p.1 ≠ dx) (hb0 : KBw.bInts b0 = (be4 n ++ [97, 98, 67, 100]) ++ rest) (hn : 6 ≤ n ∧ n ≤ 10) (hr : rest.length ≤ 50)
    (hc : Γ.code = .call (.ref 533) ⟨[.ref rd], []⟩) (hΓ : Γ.Below (ktrTop dp un gd cn cs L a ccd cl outer)) (hC : Clean Γ)
    (hB : Below A₀ base outer h₀) (hF : Fr h₀ L s.heap m) (hX : (KK w.params).In h₀) (hN : News h₀ L s.heap ((rd, instObj 651 drd) :: (drd, rdO w.params k1 k2 k3 k4 v1 v3 x) :: (x, instObj 126 dx) :: (dx, strmO w.params kt b0 tb0) :: news)) (hT : Top p loose mean mg mb h₀) (hk : cs.kind = .function) (hd : dp + 6 < recursionLimit) (hu : un + 60 < cLine)
    (hret : ∀ D ti kb tb b' t' h' tk', KBw.bInts kb = [97, 98, 67, 100] → KBw.bInts b' = rest → Fr h₀ L h' m → @LT.lt Nat _ rd D → News h₀ L h' ((D, tupO [.int (n : Int) ti, .bytes kb tb]) :: (rd, instObj 651 drd) :: (drd, rdO w.params k1 k2 k3 k4 v1 v3 x) :: (x, instObj 126 dx) :: (dx, strmO w.params kt b' t') :: news) → R (.ok (.ret (.ref D))) { s with heap := h', toks := tk' }),
    codeF (model PySem.Challenge.rw_bq0018_03.row.prog w) Γ R s := by
  k_fill
  intro w p loose mean mg mb news rd drd x dx k1 k2 k3 k4 kt v1 v3 b0 n rest tb0 Γ dp un gd cn cs a ccd cl outer A₀ base h₀ L m s R hlt hlt2 hlt3 hoff hb0 hn hr hc hΓ hC hB hF hX hN hT hk hd hu hret
  refine' F_def hc hΓ hB hF hX hN hT ?kA ?kF ?kK ?k6 ?k7 ?k8 ?k9 ?kB ?_ ?c2 ?c3 ?c4 ?c5
  case kA => exact rfl
  case kF => exact rfl
  case kK => assumption
  case k6 => k_is
  case k7 => k_is
  case k8 => ktr_room
  case k9 => exact BindsTo.of_eq rfl
  case kB => exact locs rfl
  case c2 => exact rfl
  case c3 => exact rfl
  case c4 => exact rfl
  case c5 => decide
  k_whole
  intro g' L' h' FG' F' N' B' X' T' hΓ1
  have hC1 := clean_of hC hΓ1 rfl
  generalize Γ.goto _ = Γ1 at hΓ1 hC1 ⊢
  clear hc hΓ hC
  (try dsimp only)
  refine F_stmt hΓ1 ?_
  k_steps
  (try dsimp only)
  refine F_stmt hΓ1 ?_
  k_steps
  (try dsimp only)
  refine F_stmt hΓ1 ?_
  k_steps
  (try dsimp only)
  refine F_stmt hΓ1 ?_
  k_steps
  (try dsimp only)
  refine F_stmt hΓ1 ?_
  k_steps
  (try dsimp only)
  refine F_stmt hΓ1 ?_
  k_steps
  (try dsimp only)
  refine F_execs (F_Assign_Name hΓ1 (F_Call hΓ1 ?_))
  k_steps
  refine F_callWith_type1 (x := eval _ _) (F_Call hΓ1 ?_)
  k_steps
  refine F_callWith_type1 (x := eval _ _) (F_of hΓ1 ?_)
  k_steps
  rename Fr _ _ _ _ => hF9
  rename News _ _ _ _ => hN9
  rename KBw.bInts _ = [97, 98, 67, 100] => hkb9
  refine F_call_bytearray hΓ1 hC1 (by rw [← KBw.ints_length, hkb9, sizeLine_eq]; decide) fun h9 hk9 ho9 => ?_
  obtain ⟨F9, N9, l9⟩ := newsGrow hF9 hN9 rfl ho9 hk9
  clear hF9 hN9 hk9 ho9
  refine F_of hΓ1 (set_baL rfl F9 N9 List.mem_cons_self hkb9 fun a8 h8 tk8 o8 F8 N8 l8 HK8 => ?_)
  clear F9 N9
  k_lt l8
  k_steps
  (try dsimp only)
  refine F_stmt hΓ1 ?_
  k_steps
  (try dsimp only)
  refine F_stmt hΓ1 ?_
  k_steps
  rename News _ _ _ _ => hNz
  rename Fr _ _ _ _ => hFz
  first
    | exact hret _ _ _ _ _ _ _ _ hkb9 (by assumption) hFz (by omega) (news_mid1 (news_mid1 (news_mid1 (news_mid1 (news_mid1 (news_mid1 (news_mid1 (news_mid1 hNz))))))))
    | exact hret _ _ _ _ _ _ _ _ hkb9 (by assumption) hFz (by omega) (news_mid1 (news_mid1 (news_mid1 (news_mid1 (news_mid1 (news_mid1 (news_mid1 hNz)))))))
    | exact hret _ _ _ _ _ _ _ _ hkb9 (by assumption) hFz (by omega) (news_mid1 (news_mid1 (news_mid1 (news_mid1 (news_mid1 (news_mid1 (news_mid1 (news_mid1 (news_mid1 hNz)))))))))
end Mine
end

/-! ### part C7 -/
section
open PySem PySem.W PySem.Calls PyProof.Rows
namespace Mine
local macro_rules | `(tactic| walk_at "an idle row") => `(tactic| fail "idle")
local macro_rules | `(tactic| k_enter) => `(tactic| (refine' code_def ?k1 ?k2 ?k3 ?k4 ?k5 ?kA ?kF ?kK ?k6 ?k7 ?k8 ?k9 ?kB ?_ ?c2 ?c3 ?c4 ?c5; (case kA => exact rfl); (case kF => exact rfl); (case kK => first | assumption | exact rfl); (case k1 => k_asm); (case k2 => k_asm); (case k3 => k_asm); (case k4 => k_asm); (case k5 => k_asm); (case k6 => k_is); (case k7 => k_is); (case k8 => first | ktr_room | k_room); (case k9 => first | exact BindsTo.of_eq rfl | exact binds_K (by k_in) rfl (by k_is) rfl rfl rfl); (case c5 => decide); (case kB => exact locs rfl); (case c2 => exact rfl); (case c3 => exact rfl); (case c4 => exact rfl); k_whole; intro g' L' h' FG' F' N' B' X' T'; (try dsimp only); (try k_lift B'); (try k_fold)))
local macro_rules | `(tactic| walk_at "call ref") => `(tactic| (k_here; (with_reducible show wpAny _ _ (call (Value.ref 145) [Value.ref 169, Value.bytes _ _, Value.int _ _]) _ _ _); k_dflt (refine' crc32_k ?k1 ?k2 ?k3 ?k4 ?k5 ?kK ?kb ?kd ?ku ?_; (case k1 => k_asm); (case k2 => k_asm); (case k3 => k_asm); (case k4 => k_asm); (case k5 => k_asm); (case kK => first | assumption | exact rfl); (case kb => first | assumption | kba_ints | exact rfl); (case kd => ktr_room); (case ku => ktr_units)); intro t9 h9 tk9 F9 N9; (try k_fold)))
local macro_rules | `(tactic| walk_at "call ref") => `(tactic| (k_here; (with_reducible show wpAny _ _ (call (Value.ref 145) [Value.ref 169, Value.bytes _ _]) _ _ _); k_dflt (refine' crc32_1k ?k1 ?k2 ?k3 ?k4 ?k5 ?kK ?kb ?kd ?ku ?_; (case k1 => k_asm); (case k2 => k_asm); (case k3 => k_asm); (case k4 => k_asm); (case k5 => k_asm); (case kK => first | assumption | exact rfl); (case kb => first | assumption | kba_ints | exact rfl); (case kd => ktr_room); (case ku => ktr_units)); intro t9 h9 tk9 F9 N9; (try k_fold)))
local macro_rules | `(tactic| walk_at "call builtin:_struct.pack") => `(tactic| (k_here; k_dflt (first | (refine' pack_M ?k1 ?k2 ?_; (case k1 => assumption); (case k2 => assumption)) | (refine' pack_S ?k1 ?k2 ?_; (case k1 => assumption); (case k2 => assumption)) | (refine' pack_I ?k1 ?_; (case k1 => omega))); intro b9 t9 tk9 hb9; (try k_fold)))
local macro_rules | `(tactic| walk_at "call type:bytes") => `(tactic| (k_here; (with_reducible show wpAny _ _ (call (Value.type "bytes") [Value.bytes _ _]) _ _ _); k_dflt (refine call_bytes_bytes ?_)))
local macro_rules | `(tactic| walk_at "inplaceOp Add bytes bytes") => `(tactic| (k_here; k_dflt (refine' iadd_bytes ?k1 ?k2 ?k3 ?_; (case k1 => assumption); (case k2 => assumption); (case k3 => (simp only [List.length_append, be4, List.length_cons, List.length_nil]; omega))); intro b9 t9 tk9 hb9; (try k_fold)))
local macro_rules | `(tactic| k_all) => `(tactic| assumption)
theorem app_nil {b : Array UInt8} {ks : List Int} (h : KBw.bInts b = ks) : KBw.bInts b = ks ++ [] := by rw [List.append_nil]; exact h
local macro_rules | `(tactic| walk_at "call ref") => `(tactic| (k_here; (with_reducible show wpAny _ _ (call (Value.ref 90) [Value.ref _, Value.int _ _]) _ _ _); k_dflt (refine' read_kp ?k01 ?k02 ?k03 ?k04 ?k05 ?k06 ?k07 ?k1 ?k2 ?k3 ?k4 ?k5 ?kK ?kd ?ku ?_; (case k1 => k_asm); (case k2 => k_asm); (case k3 => k_asm); (case k4 => k_asm); (case k5 => k_asm); (case k01 => k_mem); (case k02 => k_updF); (case k03 => omega); (case k04 => first | assumption | exact app_nil (by assumption)); (case k05 => first | exact rfl | omega); (case k06 => first | exact Nat.le_of_ble_eq_true rfl | omega); (case k07 => first | exact Nat.le_of_ble_eq_true rfl | omega | (simp only [List.length_append, be4_len, List.length_cons, List.length_nil]; omega)); (case kK => first | assumption | exact rfl); (case kd => ktr_room); (case ku => ktr_units)); intro p9 tp9 b9 t9 h9 tk9 hp9 hb9 F9 N9; (try k_fold)))
local macro_rules | `(tactic| walk_at "truthy bytes") => `(tactic| (k_here; k_dflt (refine' truthy_bL ?k1 ?k2 ?k3 ?_; (case k1 => assumption); (case k2 => first | exact Nat.le_of_ble_eq_true rfl | omega); (case k3 => first | exact Nat.le_of_ble_eq_true rfl | omega)); intro k9; (try k_fold)))
local macro_rules | `(tactic| walk_at "call builtin:len") => `(tactic| (k_here; (with_reducible show wpAny _ _ (call (Value.builtin "len") [Value.bytes _ _]) _ _ _); k_dflt (refine' len_bL ?k1 ?k2 ?k3 ?_; (case k1 => assumption); (case k2 => first | exact Nat.le_of_ble_eq_true rfl | omega); (case k3 => first | exact (rfl : _ = (8 : Int)) | exact (rfl : _ = (4 : Int)) | assumption | exact rfl)); intro t9 k9; (try k_fold)))
theorem ints_inj : ∀ {l l' : List UInt8}, l.map (fun c => (c.toNat : Int)) = l'.map (fun c => (c.toNat : Int)) → l = l'
  | [], [], _ => rfl
  | [], _ :: _, h => by simp at h
  | _ :: _, [], h => by simp at h
  | a :: l, b :: l', h => by
    rw [List.map_cons, List.map_cons] at h
    obtain ⟨h1, h2⟩ := List.cons.inj h
    have e : a.toNat = b.toNat := by omega
    rw [UInt8.toNat_inj.mp e, ints_inj h2]
theorem bytes_same {a b : Array UInt8} {ks : List Int} (ha : KBw.bInts a = ks) (hb : KBw.bInts b = ks) : (a.toList != b.toList) = false := by
  have e : a.toList = b.toList := ints_inj (ha.trans hb.symm)
  rw [e]
  simp
theorem be4_inj {a b : Nat} (ha : a < 4294967296) (hb : b < 4294967296) (h : be4 a = be4 b) : a = b := by
  rw [← be4_fold ha, h, be4_fold hb]
theorem bytes_diff {a b : Array UInt8} {v w : Nat} (ha : KBw.bInts a = be4 v) (hb : KBw.bInts b = be4 w) (hv : v < 4294967296) (hw : w < 4294967296) (hne : v ≠ w) : (a.toList != b.toList) = true := by
  rw [bne_iff_ne]
  intro e
  refine hne (be4_inj hv hw (ha.symm.trans (Eq.trans ?_ hb)))
  unfold KBw.bInts
  rw [e]
theorem ite_on {c : Prop} [Decidable c] {X Y : Prop} (hc : c) (h : X) : if c then X else Y := by rw [if_pos hc]; exact h
theorem int_same (n : Int) : ¬ ((n != n) = true) := by simp
theorem abcd_range : ∀ k ∈ ([97, 98, 67, 100] : List Int), 0 ≤ k ∧ k < 256 := by decide
local macro_rules | `(tactic| walk_at "ite") => `(tactic| (k_here; refine ite_off (int_same _) ?_))
local macro_rules | `(tactic| walk_at "ite") => `(tactic| (k_here; first | refine ite_off (by rw [bytes_same (ks := be4 (sumN _ _)) (by assumption) (by assumption)]; exact Bool.false_ne_true) ?_ | refine ite_on (bytes_diff (by assumption) (by assumption) (by assumption) (by assumption) (by assumption)) ?_))
local macro_rules | `(tactic| walk_at "call builtin:_struct.unpack") => `(tactic| (k_here; k_dflt (refine' unpack_1L ?k1 ?k2 ?k3 ?k4 ?_; (case k1 => k_asm); (case k2 => k_asm); (case k3 => assumption); (case k4 => assumption)); intro D9 h9 tk9 ti9 F9 N9 l9; (try k_lt l9); (try k_fold)))
local macro_rules | `(tactic| walk_at "ite") => `(tactic| (k_here; refine ite_off (by rw [bytes_same (ks := [137, 80, 78, 71, 13, 10, 26, 10]) (by assumption) rfl]; exact Bool.false_ne_true) ?_))
theorem abcd_lit {b : Array UInt8} (h : KBw.bInts b = [97, 98, 67, 100]) : b = #[97, 98, 67, 100] := by
  have e : b.toList = [97, 98, 67, 100] := ints_inj (l' := [97, 98, 67, 100]) h
  exact Array.ext' e
theorem RaisedK_nil {base h : Heap} {l : List Env} {e t : Addr} {cls : Value} {vs : List Value} {news : List (Addr × Obj)} (R : RaisedK base l e cls t vs news h) : RaisedK base l e cls t vs [] h := by
  obtain ⟨⟨B, h1, _, h3, h4⟩, h5⟩ := R
  exact ⟨⟨B, h1, (fun q hq => by cases hq), h3, h4⟩, h5⟩
local macro_rules | `(tactic| walk_at "binaryOp Mod str ref") => `(tactic| (k_here; k_dflt (refine' msg_mod ?k1 ?k2 ?k3 ?k4 ?k5 ?_; (case k1 => k_asm); (case k2 => k_asm); (case k3 => k_mem); (case k4 => assumption); (case k5 => assumption)); intro T9 t9 k9; (try k_fold)))
local macro_rules | `(tactic| walk_at "call builtin:bytes.decode") => `(tactic| (k_here; k_dflt (refine decode_abcd ?_); intro t9 k9; (try k_fold)))
set_option maxRecDepth 100000 in
set_option maxHeartbeats 80000000 in
theorem chunk_F : ∀ {w : World} {p : Program} {loose : List Str} {mean : ExcName → Option Value} {mg mb : Str → Option Value} {news : List (Addr × Obj)} {rd drd x dx : Addr} {k1 k2 k3 k4 kt : Tok} {b0 : Array UInt8} {n : Nat} {cont : List Int} {v : Nat} {tb0 : Tok} {Γ : PySem.Ctx}
    {dp un : Nat} {gd : Option (List Code)} {cn : Str} {cs : Scope} {a : Addr} {ccd : Value} {cl : List (Str × Addr)} {outer : List Env} {A₀ : Around} {base h₀ : Heap} {L : Addr} {m : Str → Option Value} {s : Shared} {R : Result → Shared → Prop}
    (hlt : @LT.lt Nat _ dx x) (hlt2 : @LT.lt Nat _ x drd) (hlt3 : @LT.lt Nat _ drd rd) (hoff : ∀ p ∈ news, p.1 ≠ dx) (hoff2 : ∀ p ∈ news, p.1 ≠ drd) (hb0 : KBw.bInts b0 = [137, 80, 78, 71, 13, 10, 26, 10] ++ ((be4 n ++ [97, 98, 67, 100]) ++ (cont ++ be4 v))) (hn : 6 ≤ n ∧ n ≤ 10) (hcl : (cont.length : Int) = (n : Int)) (hv : v < 4294967296)
    (hc : Γ.code = .call (.ref 470) ⟨[.ref rd], []⟩) (hΓ : Γ.Below (ktrTop dp un gd cn cs L a ccd cl outer)) (hC : Clean Γ)
    (hB : Below A₀ base outer h₀) (hF : Fr h₀ L s.heap m) (hX : (KK w.params).In h₀) (hN : News h₀ L s.heap ((rd, instObj 651 drd) :: (drd, rdO w.params k1 k2 k3 k4 .none .none x) :: (x, instObj 126 dx) :: (dx, strmO w.params kt b0 tb0) :: news)) (hT : Top p loose mean mg mb h₀) (hk : cs.kind = .function) (hd : dp + 12 < recursionLimit) (hu : un + 120 < cLine)
    (hcont : ∀ k ∈ cont, 0 ≤ k ∧ k < 256)
    (hok : v = sumN [97, 98, 67, 100] cont → ∀ D p' u1 u2 h' tk', KBw.bInts p' = cont → Fr h₀ L h' m → News h₀ L h' ((D, tupO [.bytes #[97, 98, 67, 100] u1, .bytes p' u2]) :: news) → R (.ok (.ret (.ref D))) { s with heap := h', toks := tk' })
    (hbad : v ≠ sumN [97, 98, 67, 100] cont → ∀ g e t vs h' tk', Fr h₀ L g m → g.UpToSlots h' → RaisedK base (envX cn cs L a ccd cl :: outer) e (.ref 369) t vs [] h' → R (.error (.ref e)) { s with heap := h', toks := tk' }),
    codeF (model PySem.Challenge.rw_bq0018_03.row.prog w) Γ R s := by
  k_fill
  intro w p loose mean mg mb news rd drd x dx k1 k2 k3 k4 kt b0 n cont v tb0 Γ dp un gd cn cs a ccd cl outer A₀ base h₀ L m s R hlt hlt2 hlt3 hoff hoff2 hb0 hn hcl hv hc hΓ hC hB hF hX hN hT hk hd hu hcont hok hbad
  have hsl : sumN [97, 98, 67, 100] cont < 4294967296 := sumN_lt abcd_range hcont
  have habr := abcd_range
  refine' F_def hc hΓ hB hF hX hN hT ?kA ?kF ?kK ?k6 ?k7 ?k8 ?k9 ?kB ?_ ?c2 ?c3 ?c4 ?c5
  case kA => exact rfl
  case kF => exact rfl
  case kK => assumption
  case k6 => k_is
  case k7 => k_is
  case k8 => ktr_room
  case k9 => first | exact BindsTo.of_eq rfl | exact binds_K (by k_in) rfl (by k_is) rfl rfl rfl
  case kB => exact locs rfl
  case c2 => exact rfl
  case c3 => exact rfl
  case c4 => exact rfl
  case c5 => decide
  k_whole
  intro g' L' h' FG' F' N' B' X' T' hΓ1
  have hC1 := clean_of hC hΓ1 rfl
  generalize Γ.goto _ = Γ1 at hΓ1 hC1 ⊢
  clear hc hΓ hC
  (try dsimp only)
  refine F_stmt hΓ1 ?_
  k_steps
  (try dsimp only)
  refine F_stmt hΓ1 ?_
  k_steps
  (try dsimp only)
  refine F_execs (F_If hΓ1 ?_)
  k_steps
  (try dsimp only)
  refine F_execs (F_Assign_Attribute hΓ1 (F_method hΓ1 ?_))
  k_steps
  rename Fr _ _ _ _ => hF9
  rename News _ _ _ _ => hN9
  rename KBw.bInts _ = be4 n ++ _ ++ _ => hb9
  refine F_callWith_fn0 (o := o533 w.params) hΓ1 ((X'.keeps hF9.keep) 533 _ (by k_is)) rfl (F_call fun p9 => ?_)
  refine clen_F (n := n) (rest := cont ++ be4 v) hlt hlt2 hlt3 hoff hb9 hn (by simp only [List.length_append, be4_len]; omega) rfl (hΓ1.enter _ none p9 (by intro x; cases x)) (hC1.enter rfl) B' hF9 X' hN9 T' rfl (by ktr_room) (by ktr_units) ?_
  clear hF9 hN9 hb9
  intro D8 ti8 kb8 tkb8 b8 t8 h8 tk8 hkb8 hb8 F8 hl8 N8
  obtain rfl := abcd_lit hkb8
  k_steps
  (try dsimp only)
  refine F_execs_nil ?_
  (try dsimp only)
  refine F_stmt hΓ1 ?_
  k_steps
  (try dsimp only)
  refine F_stmt hΓ1 ?_
  k_steps
  (try dsimp only)
  refine F_stmt hΓ1 ?_
  k_steps
  (try dsimp only)
  refine F_stmt hΓ1 ?_
  k_steps
  (try dsimp only)
  refine F_stmt hΓ1 ?_
  k_steps
  (try dsimp only)
  refine F_stmt hΓ1 ?_
  k_steps
  (try dsimp only)
  refine F_stmt hΓ1 ?_
  k_steps
  (try dsimp only)
  refine F_stmt hΓ1 ?_
  k_steps
  (try dsimp only)
  refine F_stmt hΓ1 ?_
  k_steps
  (try dsimp only)
  refine F_stmt hΓ1 ?_
  k_steps
  (try dsimp only)
  refine F_stmt hΓ1 ?_
  by_cases hve : v = sumN [97, 98, 67, 100] cont
  · subst hve
    k_steps
    (try dsimp only)
    refine F_stmt hΓ1 ?_
    k_steps
    rename News _ _ _ _ => hNz
    rename Fr _ _ _ _ => hFz
    rename KBw.bInts _ = cont => hpz
    exact hok rfl _ _ _ _ _ _ hpz hFz (news_mid1 (news_mid1 (news_mid1 (news_mid1 (news_mid1 hNz)))))
  · k_steps
    rename RaisedK _ _ _ _ _ _ _ _ => hRz
    rename Heap.UpToSlots g' _ => hUz
    exact hbad hve _ _ _ _ _ _ FG' hUz (RaisedK_nil hRz)
end Mine
end

/-! ### part LX -/
section
open PySem PySem.W PySem.Calls PyProof.Rows
namespace Mine
/-- the first i of B turned by q -/
def turnZ (B : List Int) (q : Nat → Int) (i : Nat) : List Int := (List.range i).map fun k => Builtin.bitXor (B.getD k 0) (q k)
theorem turnZ_len (B : List Int) (q : Nat → Int) (i : Nat) : (turnZ B q i).length = i := by simp [turnZ]
theorem turnZ_succ (B : List Int) (q : Nat → Int) (i : Nat) : turnZ B q (i + 1) = turnZ B q i ++ [Builtin.bitXor (B.getD i 0) (q i)] := by simp [turnZ, List.range_succ]
def half (A B C : List Int) (q : Nat → Int) (i : Nat) : List Int := A ++ (turnZ B q i ++ (B.drop i ++ C))
theorem half_len {A B C : List Int} {q : Nat → Int} {i : Nat} (hi : i ≤ B.length) : (half A B C q i).length = A.length + B.length + C.length := by
  simp only [half, List.length_append, turnZ_len, List.length_drop]; omega
theorem half_get {A B C : List Int} {q : Nat → Int} {i : Nat} (hi : i < B.length) : (half A B C q i).getD (A.length + i) 0 = B.getD i 0 := by
  simp only [half, List.getD_eq_getElem?_getD]
  rw [List.getElem?_append_right (by omega), List.getElem?_append_right (by rw [turnZ_len]; omega), turnZ_len, show A.length + i - A.length - i = 0 by omega, List.getElem?_append_left (by rw [List.length_drop]; omega), List.getElem?_drop]
  simp
theorem half_set {A B C : List Int} {q : Nat → Int} {i : Nat} (hi : i < B.length) :
    (half A B C q i).set (A.length + i) (Builtin.bitXor ((half A B C q i).getD (A.length + i) 0) (q i)) = half A B C q (i + 1) := by
  rw [half_get hi]
  unfold half
  rw [List.set_append_right _ _ (by omega), List.set_append_right _ _ (by rw [turnZ_len]; omega), turnZ_len, show A.length + i - A.length - i = 0 by omega, List.drop_eq_getElem_cons hi, turnZ_succ]
  simp only [List.cons_append, List.set_cons_zero, List.append_assoc, List.nil_append, List.getD_eq_getElem?_getD]
theorem half_zero {A B C : List Int} {q : Nat → Int} : half A B C q 0 = A ++ (B ++ C) := by simp [half, turnZ]
theorem half_all {A B C : List Int} {q : Nat → Int} {n : Nat} (h : n = B.length) : half A B C q n = A ++ (turnZ B q n ++ C) := by
  subst h
  simp [half]
theorem bx_range {x y : Int} (hx : 0 ≤ x ∧ x < 256) (hy : 0 ≤ y ∧ y < 256) : 0 ≤ Builtin.bitXor x y ∧ Builtin.bitXor x y < 256 := by
  rw [bitXor_nn hx.1 hy.1]
  have h1 : x.toNat < 2 ^ 8 := by omega
  have h2 : y.toNat < 2 ^ 8 := by omega
  have := Nat.xor_lt_two_pow h1 h2
  omega
theorem turnZ_range {B : List Int} {q : Nat → Int} {n : Nat} (hB : ∀ c ∈ B, 0 ≤ c ∧ c < 256) (hq : ∀ i, 0 ≤ q i ∧ q i < 256) : ∀ c ∈ turnZ B q n, 0 ≤ c ∧ c < 256 := fun c hc => by
  obtain ⟨k, _, rfl⟩ := List.mem_map.mp hc
  refine bx_range ?_ (hq k)
  rw [List.getD_eq_getElem?_getD]
  cases e : B[k]? with
  | none => exact ⟨Int.le_refl _, by decide⟩
  | some v => exact hB v (List.mem_of_getElem? e)
theorem byte_int (u e : Nat) : ((u : Int).fdiv (256 ^ e)).fmod 256 = ((u / 256 ^ e % 256 : Nat) : Int) := by
  rw [Int.fdiv_eq_ediv_of_nonneg _ (Int.le_of_lt (Int.pow_pos (by decide))), Int.fmod_eq_emod_of_nonneg _ (by decide)]
  rw [Int.natCast_emod, Int.natCast_ediv, Int.natCast_pow]
  rfl
theorem byte_xor (n u k : Nat) : ((n / 2 ^ k % 256 : Nat) : Int) = (n / 2 ^ k % 256 : Nat) → Builtin.bitXor ((n / 2 ^ k % 256 : Nat) : Int) ((u / 2 ^ k % 256 : Nat) : Int) = (((n ^^^ u) / 2 ^ k % 256 : Nat) : Int) := fun _ => by
  rw [bitXor_nat, show (256 : Nat) = 2 ^ 8 from rfl, ← Nat.xor_mod_two_pow, ← Nat.xor_div_two_pow]
/-- the checksum's octets turned in a number's octets -/
theorem be4_turn {n : Nat} {v : Int} (h0 : 0 ≤ v) :
    turnZ (be4 n) (fun i => (v.fdiv (256 ^ (3 - (0 + (i : Int))).toNat)).fmod 256) 4 = be4 (n ^^^ v.toNat) := by
  obtain ⟨u, rfl⟩ := Int.eq_ofNat_of_zero_le h0
  have e : turnZ (be4 n) (fun i => ((u : Int).fdiv (256 ^ (3 - (0 + (i : Int))).toNat)).fmod 256) 4 =
      [Builtin.bitXor ((n / 16777216 % 256 : Nat) : Int) (((u : Int).fdiv (256 ^ 3)).fmod 256), Builtin.bitXor ((n / 65536 % 256 : Nat) : Int) (((u : Int).fdiv (256 ^ 2)).fmod 256),
       Builtin.bitXor ((n / 256 % 256 : Nat) : Int) (((u : Int).fdiv (256 ^ 1)).fmod 256), Builtin.bitXor ((n % 256 : Nat) : Int) (((u : Int).fdiv (256 ^ 0)).fmod 256)] := rfl
  rw [e, byte_int, byte_int, byte_int, byte_int]
  have h3 := byte_xor n u 24 rfl
  have h2 := byte_xor n u 16 rfl
  have h1 := byte_xor n u 8 rfl
  have h4 : Builtin.bitXor ((n % 256 : Nat) : Int) ((u / 256 ^ 0 % 256 : Nat) : Int) = (((n ^^^ u) % 256 : Nat) : Int) := by
    rw [Nat.pow_zero, Nat.div_one, bitXor_nat, show (256 : Nat) = 2 ^ 8 from rfl, ← Nat.xor_mod_two_pow]
  unfold be4
  rw [Int.toNat_natCast]
  exact congr (congrArg List.cons h3) (congr (congrArg List.cons h2) (congr (congrArg List.cons h1) (congr (congrArg List.cons h4) rfl)))
end Mine
end

/-! ### part LK -/
section
open PySem PySem.W PySem.Calls PyProof.Rows
namespace Mine
theorem turnZ_nat {B P : List Int} {n : Nat} (hB : B.length = n) (hP : P.length = n) (h1 : ∀ c ∈ B, 0 ≤ c ∧ c < 256) (h2 : ∀ c ∈ P, 0 ≤ c ∧ c < 256) :
    (turnZ B (fun k => P.getD k 0) n).map Int.toNat = List.zipWith (· ^^^ ·) (B.map Int.toNat) (P.map Int.toNat) := by
  refine List.ext_getElem (by simp [turnZ, hB, hP]) fun i q1 q2 => ?_
  have hi : i < n := by simpa [turnZ] using q1
  have b := h1 _ (List.getElem_mem (l := B) (n := i) (by omega))
  have p := h2 _ (List.getElem_mem (l := P) (n := i) (by omega))
  simp only [turnZ, List.getElem_map, List.getElem_range, List.getElem_zipWith, List.getD_eq_getElem?_getD]
  rw [List.getElem?_eq_getElem (by omega : i < B.length), List.getElem?_eq_getElem (by omega : i < P.length), Option.getD_some, Option.getD_some, bitXor_nn b.1 p.1, Int.toNat_natCast]
/-- the file's checksum fits the turned content just where the number is the pattern's remainder -/
theorem key_iff {cs ps : List Int} {n dd : Nat} {tv : Int} (hc : cs.length = n) (hp : ps.length = n) (h1 : ∀ c ∈ cs, 0 ≤ c ∧ c < 256) (h2 : ∀ c ∈ ps, 0 ≤ c ∧ c < 256) (hdd : dd = rev32 (remN 0 (Nats ps))) (htv : 0 ≤ tv) :
    (sumN [97, 98, 67, 100] cs ^^^ tv.toNat = sumN [97, 98, 67, 100] (turnZ cs (fun k => ps.getD k 0) n)) ↔ tv = (dd : Int) := by
  have key := unseen (tag := ([97, 98, 67, 100] : List Int).map Int.toNat) (data := cs.map Int.toNat) (pat := ps.map Int.toNat) (by rw [List.length_map, List.length_map, hc, hp]) (toNat_lt h2) tv.toNat
  rw [← turnZ_nat hc hp h1 h2] at key
  unfold sumN
  unfold Nats at hdd
  constructor
  · intro h
    have := key.mp h.symm
    omega
  · intro h
    exact (key.mpr (by rw [← hdd]; omega)).symm
theorem be4_range (n : Nat) : ∀ c ∈ be4 n, 0 ≤ c ∧ c < 256 := fun c hc => by
  unfold be4 at hc
  simp only [List.mem_cons, List.not_mem_nil, or_false] at hc
  rcases hc with rfl | rfl | rfl | rfl <;> omega
theorem app_range {a b : List Int} (h1 : ∀ c ∈ a, 0 ≤ c ∧ c < 256) (h2 : ∀ c ∈ b, 0 ≤ c ∧ c < 256) : ∀ c ∈ a ++ b, 0 ≤ c ∧ c < 256 := fun c hc => by
  rcases List.mem_append.mp hc with hc | hc
  · exact h1 c hc
  · exact h2 c hc
theorem head_range (n : Nat) : ∀ c ∈ [137, 80, 78, 71, 13, 10, 26, 10] ++ (be4 n ++ [97, 98, 67, 100]), 0 ≤ c ∧ c < 256 :=
  app_range (by decide) (app_range (be4_range n) (by decide))
theorem head_len (n : Nat) : ([137, 80, 78, 71, 13, 10, 26, 10] ++ (be4 n ++ [97, 98, 67, 100])).length = 16 := by
  simp only [List.length_append, be4_len, List.length_cons, List.length_nil]
theorem xor32 {a : Nat} {v : Int} (ha : a < 4294967296) (h : v < 4294967296) : a ^^^ v.toNat < 4294967296 := Nat.xor_lt_two_pow (n := 32) ha (by omega)
end Mine
end

/-! ### part LL -/
section
open PySem PySem.W PySem.Calls PyProof.Rows
namespace Mine
section
variable {prog : Program} {w : World} {A : Around} {E : Value → Shared → Prop} {s : Shared} {env : Env} {h₀ : Heap} {x : Str} {body : List Stmt} {Q : Flow → Shared → Prop}
/-- what a loop holds that changes one list of zz (the list stands at the ledger's head) -/
abbrev LJ (DB : Addr) (rest : List (Addr × Obj)) (Facts : Nat → List Int → Prop) (x : Str) (stored : List Str) (m₀ : Str → Option Value) (pre : List Int) : (Str → Option Value) → List (Addr × Obj) → Prop :=
  KstS (σ := List Value × List Int × Nat) (fun c => (DB, PySem.W.listOf c.1.toArray c.2.2) :: rest) (fun _ => []) (fun c => IntsAre c.1 c.2.1) x stored m₀ (fun pre c => Facts pre.length c.2.1) pre
theorem kst_rangeL {r : Addr} {a₀ b₀ : Int} {t₀ u₀ v₀ : Tok} {n : Nat} {m₀ : Str → Option Value} {DB : Addr} {rest : List (Addr × Obj)} {its0 : List Value} {zz0 : List Int} {cap0 : Nat} (Facts : Nat → List Int → Prop) (stored : List Str)
    (hh : A.handled = none) (hr : IsRange s.heap r a₀ b₀ 1 t₀ u₀ v₀) (hsmall : Builtin.Range.small a₀ b₀ 1 = true) (hn : Builtin.Range.rangeSize a₀ b₀ 1 = (n : Int)) (F : Fr h₀ env.locals s.heap m₀) (N : News h₀ env.locals s.heap ((DB, PySem.W.listOf its0.toArray cap0) :: rest))
    (hi : IntsAre its0 zz0) (hf : Facts 0 zz0)
    (turn : ∀ (its : List Value) (zz : List Int) (cap : Nat) (i : Nat) (k : Int) t (u : Str → Option Value) h tk own pre, k = a₀ + (i : Int) → i < n → pre.length = i → OwnOff own (DB :: rest.map (·.1)) → IntsAre its zz → Facts i zz →
      Fr h₀ env.locals h (fun y => if y = x then some (.int k t) else (fun z => if stored.contains z then u z else m₀ z) y) → News h₀ env.locals h ((DB, PySem.W.listOf its.toArray cap) :: (rest ++ own)) →
      wpAny (model prog w) A (execs body env) (InvPostN h₀ env.locals (LJ DB rest Facts x stored m₀ (pre ++ [k])) own (DB :: rest.map (·.1)) { s with heap := h, toks := tk } Q) E { s with heap := h, toks := tk })
    (done : ∀ (its : List Value) (zz : List Int) (cap : Nat) (u : Str → Option Value) h tk, IntsAre its zz → Facts n zz → Fr h₀ env.locals h (fun y => if y = x then u y else (fun z => if stored.contains z then u z else m₀ z) y) → News h₀ env.locals h ((DB, PySem.W.listOf its.toArray cap) :: rest) → Q .next { s with heap := h, toks := tk }) :
    wpAny (model prog w) A (pyIter (.ref r)) (fun it s₂ => LoopAtV prog w A h₀ env x body Q E it s₂) E s := by
  refine kst_range (σ := List Value × List Int × Nat) (fun c => (DB, PySem.W.listOf c.1.toArray c.2.2) :: rest) (fun _ => []) (fun c => IntsAre c.1 c.2.1) stored (fun pre c => Facts pre.length c.2.1) (its0, zz0, cap0) hh hr hsmall hn F N hi (fun p hp => nomatch hp) hf ?_ ?_
  · rintro ⟨its, zz, cap⟩ pre k t u h tk own hk hl hoff hi' hf' F' N'
    exact turn its zz cap pre.length k t u h tk own pre hk hl rfl hoff hi' hf' F' N'
  · rintro ⟨its, zz, cap⟩ u h tk hi' hf' F' N'
    dsimp only at hf'
    rw [rangeKs_length] at hf'
    exact done its zz cap u h tk hi' hf' F' N'
theorem end_list {DB : Addr} {rest own news' : List (Addr × Obj)} {Facts : Nat → List Int → Prop} {stored : List Str} {m₀ m' : Str → Option Value} {pre : List Int} {k : Int} {i : Nat} {L : Addr} {s₁ : Shared} {h' : Heap} {tk : Nat} {its : List Value} {zz : List Int} {cap : Nat}
    (F : Fr h₀ L h' m') (N : News h₀ L h' news') (hb : (DB, PySem.W.listOf its.toArray cap) ∈ news') (hrest : ∀ p ∈ rest, p ∈ news') (ho : ∀ p ∈ own, p ∈ news') (hi : IntsAre its zz) (hpre : pre.length = i) (hf : Facts (i + 1) zz)
    (hr : ∀ z, z ≠ x → stored.contains z = false → m' z = m₀ z) : InvEndN h₀ L (LJ DB rest Facts x stored m₀ (pre ++ [k])) own (DB :: rest.map (·.1)) s₁ { s₁ with heap := h', toks := tk } :=
  kst_end (σ := List Value × List Int × Nat) (its, zz, cap) F N (fun p hp => by rcases List.mem_cons.mp hp with rfl | hp; exact hb; exact hrest p hp) ho rfl hi (fun p hp => nomatch hp) (fun z h1 _ h3 => hr z h1 h3) (by dsimp only; rw [List.length_append, List.length_singleton, hpre]; exact hf)
end
end Mine
end

/-! ### part LB -/
section
open PySem PySem.W PySem.Calls PyProof.Rows
namespace Mine
set_option maxRecDepth 100000
def OctAt (b : Array UInt8) (i : Nat) (v : Value) : Prop := ∃ c u, b[i]? = some c ∧ v = .int (c.toNat : Int) u
theorem ints_of_items {b : Array UInt8} {acc : Array Value} (h : ItemsOf (OctAt b) acc b.size) : IntsAre acc.toList (KBw.bInts b) := by
  have key : ∀ (l : List Value) (ks : List Int), l.length = ks.length → (∀ (j : Nat) v, l[j]? = some v → ∃ k u, ks[j]? = some k ∧ v = .int k u) → IntsAre l ks := by
    intro l
    induction l with
    | nil =>
      intro ks hl _
      cases ks with
      | nil => exact .nil
      | cons _ _ => cases hl
    | cons v l ih =>
      intro ks hl hp
      cases ks with
      | nil => cases hl
      | cons k ks =>
        obtain ⟨k', u, hk, hv⟩ := hp 0 v rfl
        cases hk
        subst hv
        exact .cons k u (ih ks (Nat.succ.inj hl) fun j v hj => hp (j + 1) v hj)
  refine key _ _ ?_ ?_
  · rw [Array.length_toList, h.1, KBw.ints_length]
  · intro j v hj
    obtain ⟨c, u, hc, rfl⟩ := h.2 j v (by rw [← Array.getElem?_toList]; exact hj)
    exact ⟨_, u, KBw.ints_get hc, rfl⟩
section
variable {prog : Program} {w : World} {A : Around} {E : Value → Shared → Prop} {s : Shared}
theorem extend_bytes {R : Result → Shared → Prop} (hh : A.handled = none) (b : Array UInt8) (t : Tok) (S : Addr) (res : Value) (c₀ : Nat) (hS : s.heap.get? S = some { cls := .type "list", data := .seq #[] c₀ })
    (hR : ∀ h' tk acc c', (∀ a o, a ≠ S → s.heap.get? a = some o → h'.get? a = some o) → h'.get? S = some { cls := .type "list", dict := none, data := .seq acc c', slots := #[] } →
      ItemsOf (OctAt b) acc b.size → R (.ok (.ret res)) { s with heap := h', toks := tk }) (hn : b.size ≤ sizeLine) :
    wpAny (model prog w) A.in1 (Builtin.List.listExtendWith (.ref S) (.bytes b t) res)
      (fun fin s' => match fin with | .done f => R (.ok f) s' | .again c' => c'.quiet = true ∧ codeAny (model prog w) A c' R s') (fun e s' => R (.error e) s') s := by
  have hSf : S ∉ [s.heap.objs.size] := fun hm => Nat.ne_of_lt (Heap.lt_size hS) (List.mem_singleton.mp hm)
  have hL : typeLookup (.type "bytes") "__len__" = pure (some (.builtin "bytes.__len__")) := FB.slot_bytes_len.lookup
  unfold Builtin.List.listExtendWith
  refine wpAny_bind (wpAny_typeOf (T := "bytes") (v := .bytes b t) rfl ?_)
  have h1 : Builtin.List.listSameRef (.ref S) (.bytes b t) = false := rfl
  have h2 : (Value.type "bytes" == Value.type "list") = false := by decide
  have h3 : (Value.type "bytes" == Value.type "tuple") = false := by decide
  simp only [h1, h2, h3, Bool.or_false, Bool.false_eq_true, if_false]
  refine wpAny_bind (KBw.pyIter_bytes ?_)
  refine wpAny_bind (wpAny_holding ?_)
  unfold Builtin.List.listLengthHint
  refine wpAny_bind (wpAny_specialOf (T := "bytes") (v := .bytes b t) rfl hL ?_)
  wp_delta
  refine wpAny_bind (wpAny_isInstance (T := "bytes") (v := .bytes b t) (b := true) rfl (by rw [isSubtype_type]; kernel_rfl) ?_)
  show wpAny _ _ (typeOf (Value.bytes b t) >>= _) _ _ _
  refine wpAny_bind (wpAny_typeOf (T := "bytes") (v := .bytes b t) rfl ?_)
  refine wpAny_pure ?_
  rw [if_neg (by decide)]
  refine wpAny_pure ⟨plainId_quiet F.plain_extend_loop _, codeAny_extend_loopS (KBw.walks (prog := prog) (w := w) (A := A.in1) hh s.heap.objs.size b t).toS hn _ hSf _ b.size 0 _ _ _ rfl (Nat.zero_le _) ⟨_, Heap.get?_push_size _ rfl, rfl, rfl⟩ (Heap.get?_push_of_some _ hS) (ItemsOf.nil _) fun s' acc c' hm hS' hacc => ?_⟩
  rw [Moved.eq_with hm]
  refine hR s'.heap s'.toks acc c' (fun a ob ha e => hm.heap a ob (fun hmem => ?_) (Heap.get?_push_of_some _ e)) hS' hacc
  rcases List.mem_cons.mp hmem with e' | hmem
  · exact ha e'
  · exact absurd (Heap.lt_size e) (by rw [List.mem_singleton.mp hmem]; exact Nat.lt_irrefl _)
theorem list_bytes {Q : Value → Shared → Prop} (hh : A.handled = none) (b : Array UInt8) (t : Tok)
    (hQ : ∀ h' tk acc c', (∀ a o, s.heap.get? a = some o → h'.get? a = some o) →
      h'.get? s.heap.objs.size = some { cls := .type "list", dict := none, data := .seq acc c', slots := #[] } → ItemsOf (OctAt b) acc b.size → Q (.ref s.heap.objs.size) { s with heap := h', toks := tk }) (hn : b.size ≤ sizeLine) :
    wpAny (model prog w) A (call (.type "list") [.bytes b t]) Q E s := by
  refine callType_codes (Q₁ := fun obj s₁ => obj = .ref s.heap.objs.size ∧ s₁ = { s with heap := s.heap.push { cls := .type "list", data := .seq #[] } }) F.called_list (F.typeCall_list_1 _) F.entry_list_init
    (code_list_new _ ⟨rfl, rfl⟩) fun obj s₁ h₁ => ?_
  obtain ⟨rfl, rfl⟩ := h₁
  have hS : (s.heap.push { cls := .type "list", data := .seq #[] }).get? s.heap.objs.size = some { cls := .type "list", data := .seq #[] } := Heap.get?_push_size _ rfl
  refine ⟨⟨_, hS, rfl⟩, F.args_list_init_2 _ _, ?_⟩
  generalize hH : s.heap.push { cls := .type "list", data := .seq #[] } = H at *
  have old : ∀ a o, s.heap.get? a = some o → H.get? a = some o := fun a o e => hH ▸ Heap.get?_push_of_some _ e
  show wpAny _ _ (do let old ← Builtin.List.listItems (.ref s.heap.objs.size); Builtin.List.listUpdate (.ref s.heap.objs.size) (fun _ => #[]); letGo old.toList.reverse; Builtin.List.listExtendWith (.ref s.heap.objs.size) (.bytes b t) .none) _ _ _
  refine wpAny_bind ?_
  unfold Builtin.List.listItems
  refine wpAny_bind (wpAny_seqItems hS rfl (wpAny_pure ?_))
  show wpAny _ _ (updateSeq s.heap.objs.size (fun _ => #[]) >>= fun _ => letGo (#[] : Array Value).toList.reverse >>= fun _ => Builtin.List.listExtendWith (.ref s.heap.objs.size) (.bytes b t) .none) _ _ _
  refine wpAny_bind (wpAny_updateSeq hS rfl ?_)
  have hS₂ := Heap.get?_update_self (Obj.mapSeq (fun _ => (#[] : Array Value))) hS rfl
  refine wpAny_bind (wpAny_letGo ?_)
  refine extend_bytes (A := A.in1) (hn := hn) hh b t _ .none _ hS₂ fun h' tk acc c' hk hS' hacc => ⟨rfl, hQ h' tk acc c' (fun a o e => hk a o (Nat.ne_of_lt (Heap.lt_size e)) ?_) hS' hacc⟩
  exact (Heap.get?_update_other _ _ (Ne.symm (Nat.ne_of_lt (Heap.lt_size e)))).trans (old a o e)
theorem list_bytesK {h₀ : Heap} {L : Addr} {m : PySem.Str → Option Value} {news : List (Addr × Obj)} {b : Array UInt8} {t : Tok} {ks : List Int} {Q : Value → Shared → Prop} (hh : A.handled = none) (F : Fr h₀ L s.heap m) (N : News h₀ L s.heap news) (hb : KBw.bInts b = ks) (hl : ks.length ≤ 1000)
    (h : ∀ D vs c h' tk, Fr h₀ L h' m → News h₀ L h' ((D, PySem.W.listOf vs.toArray c) :: news) → (∀ p ∈ news, p.1 < D) → IntsAre vs ks → Q (.ref D) { s with heap := h', toks := tk }) :
    wpAny (model prog w) A (call (.type "list") [.bytes b t]) Q E s := by
  refine list_bytes hh b t (fun h' tk acc c' hk hS hacc => ?_) (by rw [← KBw.ints_length, hb, sizeLine_eq]; omega)
  have hI := ints_of_items hacc
  rw [hb] at hI
  refine h _ acc.toList c' h' tk (F.keeps hk) (news_pushed F N hk (by rw [hS]) rfl) (fun q hq => Heap.lt_size (N q hq).1) hI
end
end Mine
end

/-! ### part CC -/
section
open PySem PySem.W PySem.Calls PyProof.Rows
namespace Mine
set_option maxRecDepth 100000
section
variable {prog : Program} {w : World} {A : Around} {E : Value → Shared → Prop} {s : Shared} {h₀ : Heap} {L : Addr} {m : Str → Option Value} {env : Env}
/-- a comprehension's frame where names are cells -/
theorem env_cells {M : Model} {scope : Scope} {globals : Addr} {cl : List (Str × Addr)} {qual : Str} {Q : Env → Shared → Prop}
    (hQ : Q (newEnv scope s.heap.objs.size globals (cellsFrom (s.heap.objs.size + 1) scope.names cl) qual none .none (some env) builtinsNs)
      { s with heap := pushCells (s.heap.push { cls := .type "dict", data := .dict #[] }) scope.names }) :
    wpAny M A (newFunctionEnv scope globals cl [] qual none .none (some env)) Q E s := by
  simp only [newFunctionEnv, Option.isSome_some, if_true]
  refine wpAny_bind (wpAny_alloc ?_)
  refine wpAny_bind (wpAny_layCells _ (fun name kind cells => by cases hkc : kind == NameKind.cell <;> simp [hkc]) _ _ _ _ ?_)
  rw [show ({ s with heap := s.heap.push { cls := .type "dict", data := .dict #[] } } : Shared).heap.objs.size = s.heap.objs.size + 1 from Heap.size_push ..]
  refine wpAny_bind ?_
  rw [List.forIn_nil]
  exact wpAny_pure (wpAny_pure hQ)
def dObj : Obj := { cls := .type "dict", data := .dict #[] }
theorem dObj_ns {h : Heap} {C : Addr} (e : h.get? C = some dObj) : h.Ns C (fun _ => none) :=
  ⟨dObj, #[], 0, e, rfl, (fun q hq => by simp at hq), fun _ => rfl⟩
/-- what the walk must bring at the range's end: one turn, and what follows -/
def CellSrc (prog : Program) (w : World) (A : Around) (h₀ : Heap) (L : Addr) (m : Str → Option Value) (env : Env) (elt : Expr) (x y : Str) (scope : Scope) (cl : List (Str × Addr)) (G : Int → Prop) (Qf : Flow → Shared → Prop) (xv : Value) (s₁ : Shared) : Prop :=
  ∃ (r : Addr) (b : Int) (t u v : Tok) (n : Nat) (news : List (Addr × Obj)), xv = .ref r ∧ A.handled = none ∧ Fr h₀ L s₁.heap m ∧ News h₀ L s₁.heap news ∧ IsRange s₁.heap r 0 b 1 t u v ∧ Builtin.Range.small 0 b 1 = true ∧ Builtin.Range.rangeSize 0 b 1 = ((n : Nat) : Int) ∧ n ≤ sizeLine ∧
    (∀ (k : Int) (tk0 : Tok) (I C K D : Addr) (oI oC oK : Obj) (ys : List Value) (h : Heap) (tk : Nat) (E' : Value → Shared → Prop), 0 ≤ k → k < (n : Int) → oK.data = .cell (some (.int k tk0)) → (∀ p ∈ news, @LT.lt Nat _ p.1 I) → @LT.lt Nat _ I D → @LT.lt Nat _ D C → @LT.lt Nat _ C K → ys.length ≤ n →
      Fr h₀ L h m → News h₀ L h ((I, oI) :: (C, oC) :: (K, oK) :: (D, LCg.lst ys) :: news) →
      wpAny (model prog w) A (eval elt (compEnvC scope ((x, K) :: cl) C env)) (fun yv s' => ∃ h' tk' z tz, s' = { s₁ with heap := h', toks := tk' } ∧ yv = .int z tz ∧ G z ∧ Fr h₀ L h' m ∧ News h₀ L h' ((I, oI) :: (C, oC) :: (K, oK) :: (D, LCg.lst ys) :: news)) E' { s₁ with heap := h, toks := tk }) ∧
    (∀ (D : Addr) (ys : List Value) (zs : List Int) (h : Heap) (tk : Nat), IntsAre ys zs → zs.length = n → (∀ z ∈ zs, G z) → (∀ p ∈ news, @LT.lt Nat _ p.1 D) → Fr h₀ L h (fun z => if z = y then some (.ref D) else m z) → News h₀ L h ((D, LCg.lst ys) :: news) → Qf .next { s₁ with heap := h, toks := tk })
theorem news_same {h h' : Heap} {d : Addr} {news : List (Addr × Obj)} (N : News h₀ L h news) (hs : Heap.SameBut d h h') (off : ∀ p ∈ news, p.1 ≠ d) : News h₀ L h' news := fun p hp => ⟨(hs.2 _ (off p hp)).trans (N p hp).1, (N p hp).2⟩
set_option maxHeartbeats 1000000 in
theorem comp_cell {elt iter : Expr} {x y : Str} {px py : Pos} {scope : Scope} {cl : List (Str × Addr)} {pos spos : Pos} {Qf : Flow → Shared → Prop} (G : Int → Prop)
    (F₀ : Fr h₀ L s.heap m) (hLe : env.locals = L) (hsw : swapsWith (.ListComp elt [⟨.Name x px, iter, [], 0⟩] scope pos) (some (.Name y py)) spos.line env = pure true)
    (hclos : closureFor scope env = pure cl) (hkind : scope.kind = .function) (hnames : ∀ z ∈ scope.names, z.2 = .local → scope.names.lookup z.1 = some .local)
    (hcells : ∀ n, cellsFrom n scope.names cl = (x, n) :: cl) (hpush : ∀ h, pushCells h scope.names = h.push { cls := .type "cell", data := .cell none })
    (hx : ∀ C K, (compEnvC scope ((x, K) :: cl) C env).kindOf x = some .cell)
    (hy : env.kindOf y = some .local) (hp : (env.scope.kind == .class || (env.scope.kind == .module && env.locals != env.globals)) = false)
    (h : wpAny (model prog w) A (eval iter env) (CellSrc prog w A h₀ L m env elt x y scope cl G Qf) E s)
    (hs : ∀ x, foldedSetIterable iter env x = pure x := by intro _; rfl) :
    wpAny (model prog w) A (exec (.Assign [.Name y py] (.ListComp elt [⟨.Name x px, iter, [], 0⟩] scope pos) spos) env) Qf E s := by
  clear F₀
  subst hLe
  rw [exec_Assign_Name_used _ _ _ _ hsw]
  refine wpAny_bind (wpAny_standAt (wpAny_bind ?_))
  show wpAny _ A (do let _ ← comprehension (.ListComp elt [⟨.Name x px, iter, [], 0⟩] scope pos) scope env _ (newList []) false (eval iter env) (some (assign (.Name y py) env))) _ _ s
  refine wpAny_bind (wpAny_mono (wpAny_comprehension_free (use := some (assign (.Name y py) env)) (Q := fun _ s' => Qf .next s') rfl hs hclos hkind hnames
    (wpAny_mono h (fun xv s₁ h₁ => ?_) fun _ _ e => e)) (fun _ s' hq => wpAny_pure (wpAny_pure hq)) fun _ _ e => e)
  obtain ⟨r, b, t, u, v, n, news, rfl, hh, F, N, hr, hsm, hn, hsz, turn, fin⟩ := h₁
  refine wpAny_pyIter_range hr hsm ?_
  generalize hH1 : s₁.heap.push { cls := .type "range_iterator", data := .fields #[rawInt 0, rawInt (Builtin.Range.rangeSize 0 b 1), rawInt 1] } = H1
  have old1 : ∀ b o, s₁.heap.get? b = some o → H1.get? b = some o := fun b o e => hH1 ▸ Heap.get?_push_of_some _ e
  have hI1 : H1.get? s₁.heap.objs.size = some { cls := .type "range_iterator", data := .fields #[rawInt 0, rawInt (Builtin.Range.rangeSize 0 b 1), rawInt 1] } := hH1 ▸ Heap.get?_push_size _ rfl
  have z1 : H1.objs.size = s₁.heap.objs.size + 1 := by rw [← hH1, Heap.size_push]
  refine wpAny_newObj_type ?_
  dsimp only
  generalize hH2 : H1.push { cls := .type "list", dict := none, data := .seq ([] : List Value).toArray } = H2
  have old2 : ∀ b o, H1.get? b = some o → H2.get? b = some o := fun b o e => hH2 ▸ Heap.get?_push_of_some _ e
  have hD2 : H2.get? H1.objs.size = some (LCg.lst []) := hH2 ▸ Heap.get?_push_size _ rfl
  have z2 : H2.objs.size = H1.objs.size + 1 := by rw [← hH2, Heap.size_push]
  refine env_cells ?_
  rw [hpush, hcells]
  dsimp only
  generalize hH3 : H2.push { cls := .type "dict", data := .dict #[] } = H3
  have old3 : ∀ b o, H2.get? b = some o → H3.get? b = some o := fun b o e => hH3 ▸ Heap.get?_push_of_some _ e
  have hC3 : H3.get? H2.objs.size = some dObj := hH3 ▸ Heap.get?_push_size _ rfl
  have z3 : H3.objs.size = H2.objs.size + 1 := by rw [← hH3, Heap.size_push]
  generalize hH4 : H3.push { cls := .type "cell", data := .cell none } = H4
  have old4 : ∀ b o, H3.get? b = some o → H4.get? b = some o := fun b o e => hH4 ▸ Heap.get?_push_of_some _ e
  have hK4 : H4.get? (H2.objs.size + 1) = some { cls := .type "cell", data := .cell none } := by rw [← z3, ← hH4]; exact Heap.get?_push_size _ rfl
  have old : ∀ b o, s₁.heap.get? b = some o → H4.get? b = some o := fun b o e => old4 _ _ (old3 _ _ (old2 _ _ (old1 _ _ e)))
  generalize hI : s₁.heap.objs.size = I at *
  generalize hD : H1.objs.size = D at *
  generalize hC : H2.objs.size = C at *
  generalize hK : C + 1 = K at *
  have lI : ∀ p ∈ news, @LT.lt Nat _ p.1 I := fun p hp => hI ▸ Heap.lt_size (N p hp).1
  have lD : @LT.lt Nat _ I D := by rw [z1]; exact Nat.lt_succ_self I
  have lC : @LT.lt Nat _ D C := by rw [z2]; exact Nat.lt_succ_self D
  have lK : @LT.lt Nat _ C K := by rw [← hK]; exact Nat.lt_succ_self C
  have lL : @LT.lt Nat _ env.locals I := hI ▸ F.ns.lt
  have nb : h₀.objs.size ≤ env.locals := F.above
  have fresh : ∀ a, @LE.le Nat _ I a → h₀.get? a = none := fun a ha => by
    cases e : h₀.get? a with
    | none => rfl
    | some o' => exact absurd (Nat.lt_of_lt_of_le (Heap.lt_size e) nb) (Nat.not_lt.mpr (Nat.le_of_lt (Nat.lt_of_lt_of_le lL ha)))
  rw [hn] at hI1
  clear hr hsm hn hs hH1 hH2 hH3 hH4
  have W := LCg.range_walks (prog := prog) (w := w) (A := A) (I := I) hh 0 n
  have st0 : IsRangeIter H4 I ((0 : Int) + (0 : Nat) * 1) ((n : Int) - (0 : Nat)) 1 := by
    show H4.get? I = some _
    rw [old4 _ _ (old3 _ _ (old2 _ _ hI1))]
    simp
  have hkind' : (compEnvC scope ((x, K) :: cl) C env).scope.kind = .function := by simp [compEnvC, relabel, hkind]
  have hlook : (compEnvC scope ((x, K) :: cl) C env).cells.lookup x = some K := by simp [compEnvC]
  have nL : env.locals ≠ I := Nat.ne_of_lt lL
  have nD : @Ne Nat D env.locals := Nat.ne_of_gt (Nat.lt_trans lL lD)
  have nC : @Ne Nat C env.locals := Nat.ne_of_gt (Nat.lt_trans (Nat.lt_trans lL lD) lC)
  have nK : @Ne Nat K env.locals := Nat.ne_of_gt (Nat.lt_trans (Nat.lt_trans (Nat.lt_trans lL lD) lC) lK)
  have fI := fresh I (Nat.le_refl _)
  have fD := fresh D (Nat.le_of_lt lD)
  have fC := fresh C (Nat.le_of_lt (Nat.lt_trans lD lC))
  have fK := fresh K (Nat.le_of_lt (Nat.lt_trans (Nat.lt_trans lD lC) lK))
  have loop : codeAny (model prog w) A (.compLoop (.ListComp elt [⟨.Name x px, iter, [], 0⟩] scope pos) 0 (.ref I) (.ref D) (compEnvC scope ((x, K) :: cl) C env))
      (compPost (model prog w) A E (some (assign (.Name y py) env)) (fun _ s' => Qf .next s') (.ref D) C) { s₁ with heap := H4 } := by
    refine codeAny_compLoop_tests (fun k s' => ∃ h' tk i ys zs oK v, s' = { s₁ with heap := h', toks := tk } ∧ i ≤ n ∧ k = n + 1 - i ∧ zs.length = i ∧ IntsAre ys zs ∧ (∀ z ∈ zs, G z) ∧
      IsRangeIter h' I ((0 : Int) + (i : Nat) * 1) ((n : Int) - (i : Nat)) 1 ∧ Fr h₀ env.locals h' m ∧ oK.data = .cell v ∧ News h₀ env.locals h' ((C, dObj) :: (K, oK) :: (D, LCg.lst ys) :: news)) ?_ (n + 1)
      ⟨H4, _, 0, [], [], { cls := .type "cell", data := .cell none }, none, rfl, Nat.zero_le _, rfl, rfl, .nil, (fun z hz => nomatch hz), st0, F.keeps old, rfl, fun p hp => ?_⟩
    · rintro k s' ⟨h', tk, i, ys, zs, oK, v', rfl, hi, rfl, hzl, hIA, hG, hst, F', hoK, N'⟩
      have hyl : ys.length = i := hIA.length.trans hzl
      by_cases hlt : i < n
      · refine W.item i _ _ _ hlt hst fun v₂ h₂ tk₂ hPv hst₂ hk₂ => ?_
        obtain ⟨t', rfl⟩ := hPv
        have N₂ := LCg.news_but N' hk₂ fun p hp => by
          rcases List.mem_cons.mp hp with rfl | hp
          · exact Nat.ne_of_gt (Nat.lt_trans lD lC)
          rcases List.mem_cons.mp hp with rfl | hp
          · exact Nat.ne_of_gt (Nat.lt_trans (Nat.lt_trans lD lC) lK)
          rcases List.mem_cons.mp hp with rfl | hp
          · exact Nat.ne_of_gt lD
          · exact Nat.ne_of_lt (lI p hp)
        have F₂ := LCg.fr_but F' hk₂ nL fI
        refine wpAny_assign_Name (wpAny_storeName_cell hkind' (hx C K) hlook ⟨oK, (N₂ (K, oK) (by simp)).1, hoK⟩ fun h₃ hc₃ hs₃ => ?_)
        refine wpAny_tests_nil ?_
        simp only [if_true]
        obtain ⟨oK', eK', dK'⟩ := hc₃
        have F₃ := F₂.change hs₃ nK fK
        have eI₃ : h₃.get? I = _ := (hs₃.2 I (Nat.ne_of_lt (Nat.lt_trans (Nat.lt_trans lD lC) lK))).trans hst₂
        have N₃ : News h₀ env.locals h₃ ((I, _) :: (C, dObj) :: (K, oK') :: (D, LCg.lst ys) :: news) := fun p hp => by
          rcases List.mem_cons.mp hp with rfl | hp
          · exact ⟨eI₃, Ne.symm nL, fI⟩
          rcases List.mem_cons.mp hp with rfl | hp
          · exact ⟨(hs₃.2 C (Nat.ne_of_lt lK)).trans (N₂ (C, dObj) (by simp)).1, nC, fC⟩
          rcases List.mem_cons.mp hp with rfl | hp
          · exact ⟨eK', nK, fK⟩
          rcases List.mem_cons.mp hp with rfl | hp
          · exact ⟨(hs₃.2 D (Nat.ne_of_lt (Nat.lt_trans lC lK))).trans (N₂ (D, LCg.lst ys) (by simp)).1, nD, fD⟩
          · have q := N₂ p (by simp [hp])
            exact ⟨(hs₃.2 _ (Nat.ne_of_lt (Nat.lt_trans (lI p hp) (Nat.lt_trans (Nat.lt_trans lD lC) lK)))).trans q.1, q.2⟩
        refine wpAny_mono (turn (0 + (i : Int)) t' I C K D _ dObj oK' ys h₃ tk₂ _ (by omega) (by omega) dK' lI lD lC lK (by omega) F₃ N₃) (fun yv s₄ h₄ => ?_) fun _ _ e => e
        obtain ⟨h₄, tk₄, z, tz, rfl, rfl, hz, F₄, N₄⟩ := h₄
        have zI := (N₄ (I, _) List.mem_cons_self).1
        have zD := (N₄ (D, LCg.lst ys) (by simp)).1
        refine append_at (hsz := by rw [List.size_toArray, hyl]; exact Nat.le_trans hi hsz) zD fun h₅ hs₅ hD₅ => ?_
        refine ⟨n + 1 - (i + 1), by omega, h₅, tk₄, i + 1, ys ++ [.int z tz], zs ++ [z], oK', _, rfl, hlt, rfl, by rw [List.length_append, List.length_singleton, hzl], IntsAre.append hIA (.cons z tz .nil), ?_, ?_, F₄.change hs₅ nD fD, dK', ?_⟩
        · intro z' hz'
          rcases List.mem_append.mp hz' with hz' | hz'
          · exact hG z' hz'
          · rw [List.mem_singleton.mp hz']; exact hz
        · show h₅.get? I = some _
          exact (hs₅.2 I (Nat.ne_of_lt lD)).trans zI
        · intro p hp
          rcases List.mem_cons.mp hp with rfl | hp
          · exact ⟨(hs₅.2 C (Nat.ne_of_gt lC)).trans (N₄ (C, dObj) (by simp)).1, nC, fC⟩
          rcases List.mem_cons.mp hp with rfl | hp
          · exact ⟨(hs₅.2 K (Nat.ne_of_gt (Nat.lt_trans lC lK))).trans (N₄ (K, oK') (by simp)).1, nK, fK⟩
          rcases List.mem_cons.mp hp with rfl | hp
          · exact ⟨hD₅.trans (congrArg some (LCg.lst_snoc ys _)), nD, fD⟩
          · have q := N₄ p (by simp [hp])
            exact ⟨(hs₅.2 _ (Nat.ne_of_lt (Nat.lt_trans (lI p hp) lD))).trans q.1, q.2⟩
      · obtain rfl : i = n := Nat.le_antisymm hi (Nat.not_lt.mp hlt)
        refine W.done _ _ _ hst fun h₂ tk₂ hk₂ => ?_
        have N₂ := LCg.news_but N' hk₂ fun p hp => by
          rcases List.mem_cons.mp hp with rfl | hp
          · exact Nat.ne_of_gt (Nat.lt_trans lD lC)
          rcases List.mem_cons.mp hp with rfl | hp
          · exact Nat.ne_of_gt (Nat.lt_trans (Nat.lt_trans lD lC) lK)
          rcases List.mem_cons.mp hp with rfl | hp
          · exact Nat.ne_of_gt lD
          · exact Nat.ne_of_lt (lI p hp)
        have F₂ := LCg.fr_but F' hk₂ nL fI
        show wpAny _ A (assign (.Name y py) env (.ref D)) _ _ _
        refine wpAny_assign_Name (wpAny_storeName_local hy F₂.ns (fun h₃ hn₃ hs₃ => ?_) hp)
        have F₃ := F₂.set hn₃ hs₃
        have N₃ : News h₀ env.locals h₃ _ := news_same N₂ hs₃ fun p hp => (N₂ p hp).2.1
        refine ⟨_, dObj_ns (N₃ (C, dObj) List.mem_cons_self).1, fun h₄ hs₄ => ?_⟩
        refine fin D ys zs h₄ _ hIA hzl hG (fun p hp => Nat.lt_trans (lI p hp) lD) (F₃.change hs₄ nC fC) fun p hp => ?_
        have q := N₃ p (List.mem_cons_of_mem _ (by
          rcases List.mem_cons.mp hp with rfl | hp
          · simp
          · exact List.mem_cons_of_mem _ (List.mem_cons_of_mem _ hp)))
        refine ⟨(hs₄.2 _ ?_).trans q.1, q.2⟩
        rcases List.mem_cons.mp hp with rfl | hp
        · exact Nat.ne_of_lt lC
        · exact Nat.ne_of_lt (Nat.lt_trans (lI p hp) (Nat.lt_trans lD lC))
    · rcases List.mem_cons.mp hp with rfl | hp
      · exact ⟨old4 _ _ hC3, nC, fC⟩
      rcases List.mem_cons.mp hp with rfl | hp
      · exact ⟨hK4, nK, fK⟩
      rcases List.mem_cons.mp hp with rfl | hp
      · exact ⟨old4 _ _ (old3 _ _ hD2), nD, fD⟩
      · exact ⟨old _ _ (N p hp).1, (N p hp).2⟩
  exact codeAny_compStart_list loop (W.self 0 _ _ _ st0 loop)
end
end Mine
end

/-! ### part CO -/
section
open PySem PySem.W PySem.Calls PyProof.Rows
namespace Mine
set_option maxRecDepth 100000
/-- an own exception caught by its own name, in a frame that has cells -/
theorem caught_cells {prog : Program} {w : World} {A₀ : Around} {E : Value → Shared → Prop} {s' : Shared} {h₀ h : Heap} {outer : List Env} {L a e t C : Addr} {m : Str → Option Value} {cn : Str} {cs : Scope} {ccd : Value} {cl : List (Str × Addr)}
    {vs : List Value} {b₀ : Stmt} {suite : List Stmt} {pos np : Pos} {rest : List ExceptHandler} {Q : Flow → Shared → Prop} {KF : Frag} {bmB : List Value} {newId : String}
    {p : Program} {loose : List Str} {mean : ExcName → Option Value} {mg mb : Str → Option Value} {x : Str}
    (K : Below A₀ h₀ outer h₀) (F : Fr h₀ L h m) (hsm : h.UpToSlots s'.heap) (R : RaisedK h₀ (envX cn cs L a ccd cl :: outer) e (.ref C) t vs [] s'.heap)
    (X : KF.In h₀) (T : Top p loose mean mg mb h₀) (ex : nsIn KF mainGlobals x = some (some (.ref C))) (q : excIn KF C bmB newId = true) (hbase : bmB.contains (.type "BaseException") = true)
    (k : ∀ h', Fr h₀ L h' m → wpAny (model prog w) ((A₀.deeper (envX cn cs L a ccd cl)).mark (some (.ref e))) (execs (b₀ :: suite) (envX cn cs L a ccd cl)) Q E { s' with heap := h' })
    (hE : PassesOwnAt (model prog w) ((A₀.deeper (envX cn cs L a ccd cl)).mark (some (.ref e))) (A₀.deeper (envX cn cs L a ccd cl)) (envX cn cs L a ccd cl) E)
    (hk : cs.kind = .function) (hx : (envX cn cs L a ccd cl).kindOf x = some .globalImplicit) (hd : (x == ("__debug__" : Str)) = false) :
    wpAny (model prog w) (A₀.deeper (envX cn cs L a ccd cl)) (noteFrame (.ref e) (envX cn cs L a ccd cl))
      (fun _ s₂ => wpAny (model prog w) (A₀.deeper (envX cn cs L a ccd cl)) (setFlight (.ref e) none) (fun _ s₃ =>
        wpAny (model prog w) (A₀.deeper (envX cn cs L a ccd cl)) (handleBy (.ref e) (envX cn cs L a ccd cl) (.ExceptHandler (some (.Name x np)) none (b₀ :: suite) pos :: rest)) Q E s₃) E s₂) E s' := by
  obtain ⟨⟨B, hB, _, fl, _⟩, _⟩ := R
  refine wpAny_looks_onW (Around.frames_deeper K.stack) rfl fl fun h₄ held u₄ => ?_
  refine wpAny_landsW held fun h₅ fl₅ u₅ => ?_
  have g₅ := flyingW_base hB fl₅
  have F₅ := F.of_stays g₅.1 (hsm.trans (u₄.trans u₅))
  obtain ⟨ob, eo, ec⟩ := g₅.there
  refine wpAny_handleBy_cons (codeAny_handlers_test (nameX_K F₅ X (topRead_of T) ex ?_ hk hx hd)) (by intro z; cases z)
  obtain ⟨bm, N, nm, qn, bs, hdct, sn, sub, ab, col, dd, k0, k1, k2, k3, k5, mN, hC, hN, hni, TL⟩ := ((own_of_in X (topRead_of T) ex q).keeps F₅.keep).obj
  refine wpAny_excMatches_sub_self hC eo ec (TL.hasType hbase) (codeAny_handlers_suite ?_)
  refine lands_againW fl₅ fun h₆ fl₆ u₆ => ?_
  have g₆ := flyingW_base hB fl₆
  exact wpAny_passesOwnAt hE (k h₆ (F.of_stays g₆.1 ((hsm.trans (u₄.trans u₅)).trans u₆)))
end Mine
end

/-! ### part TQ -/
section
open PySem PySem.W PySem.Calls PyProof.Rows
namespace Mine
set_option maxRecDepth 100000
theorem eqAt_bytes {A : Around} {s : Shared} (b : Array UInt8) (t u : Tok) : SeqAt.EqAt A s (.bytes b t) (.bytes b u) true := fun prog w E Q h => by
  unfold eqBool
  refine wpAny_holding ?_
  refine wpAny_ite_split (fun _ => wpAny_bind (wpAny_rule (wpAny_pure h))) (fun _ => ?_)
  refine wpAny_bind ?_
  show wpAny _ _ (compareOp .Eq (.bytes b t) (.bytes b u)) _ _ s
  refine eq_bytes (wpAny_truthy_bool ?_)
  rw [beq_self_eq_true]
  exact h
theorem eq_pair {prog : Program} {w : World} {A : Around} {E : Value → Shared → Prop} {s : Shared} {h₀ : Heap} {L D1 D2 : Addr} {news : List (Addr × Obj)} {b c : Array UInt8} {t1 t2 u1 u2 : Tok} {n1 n2 : Nat} {Q : Value → Shared → Prop}
    (N : News h₀ L s.heap news) (h1 : (D1, ({ cls := .type "tuple", data := .seq #[.bytes b t1, .bytes c t2] n1 } : Obj)) ∈ news) (h2 : (D2, ({ cls := .type "tuple", data := .seq #[.bytes b u1, .bytes c u2] n2 } : Obj)) ∈ news) (hu : A.units < cLine)
    (h : Q (.bool true) s) : wpAny (model prog w) A (compareOp .Eq (.ref D1) (.ref D2)) Q E s :=
  (SeqAt.RcAt.tuples (e := fun _ => true) ⟨_, (N _ h1).1, rfl, _, rfl⟩ ⟨_, (N _ h2).1, rfl, _, rfl⟩ hu (fun j q1 q2 => by
    match j, q1, q2 with
    | 0, _, _ => exact eqAt_bytes b t1 u1
    | 1, _, _ => exact eqAt_bytes c t2 u2
    | j + 2, q1, _ => exact absurd q1 (by simp)) : SeqAt.RcAt A s (.ref D1) (.ref D2) true) prog w E Q h
end Mine
end

/-! ### part L0 -/
section
open PySem PySem.W PySem.Calls PyProof.Rows
namespace Mine
noncomputable def lawB : List Stmt := fnBody (stAt topB 38)
noncomputable def scOf (st : Stmt) : Scope := by
  cases st
  case FunctionDef _ _ _ _ _ _ s _ _ _ => exact s
  all_goals exact default
noncomputable def lawS : Scope := scOf (stAt topB 38)
noncomputable abbrev lawE (L : Addr) : Env := envOfC (PySem.Str.ofString "law") lawS L 702 (.ref 701)
/-- what is asked of the law's end -/
abbrev lawQ (R : Result → Shared → Prop) : Flow → Shared → Prop := fun f s' => R (.ok (.ret (match f with | .ret v => v | _ => .none))) s'
noncomputable abbrev lawX (w : World) (R : Result → Shared → Prop) (L : Addr) : Value → Shared → Prop := fun e s' => wpAny (model PySem.Challenge.rw_bq0018_03.row.prog w) (callerA.deeper (lawE L)) (leaving (lawE L) e) (fun _ s'' => R (.error e) s'') (fun e' s'' => R (.error e') s'') s'
/-- the body from a statement on, written out -/
theorem F_at {M : Model} {Γ : PySem.Ctx} {E : Value → Shared → Prop} {s : Shared} {Q : Flow → Shared → Prop} {b b' : List Stmt} {e e' : Env} (hb : b = b') (he : e = e') (h : wpF M Γ (execs b' e') Q E s) : wpF M Γ (execs b e) Q E s := by subst hb he; exact h
theorem off_both {a b : List (Addr × Obj)} {D : Addr} (h1 : ∀ p ∈ a, p.1 ≠ D) (h2 : ∀ p ∈ b, p.1 ≠ D) : ∀ p ∈ a ++ b, p.1 ≠ D := fun p hp => by
  rcases List.mem_append.mp hp with hp | hp
  · exact h1 p hp
  · exact h2 p hp
theorem fmod2 (x : Int) : 0 ≤ x.fmod 2 ∧ x.fmod 2 ≤ 1 := by
  rw [Int.fmod_eq_emod_of_nonneg _ (by decide)]
  omega
theorem digits_ok : ∃ ds : List Int, ds = List.map (fun k' : Int => (Int.fdiv 4374732215 (2 ^ (32 - k').toNat)).fmod 2) (rangeKs 0 (33 - 0 : Int).toNat) ∧ ds.length = 33 ∧ ∀ d ∈ ds, 0 ≤ d ∧ d ≤ 1 :=
  ⟨_, rfl, by rw [List.length_map, rangeKs_length]; decide, fun d hd => by
    obtain ⟨k, _, rfl⟩ := List.mem_map.mp hd
    exact fmod2 _⟩
theorem xor01 {x y : Int} (hx : 0 ≤ x ∧ x ≤ 1) (hy : 0 ≤ y ∧ y ≤ 1) : 0 ≤ Builtin.bitXor x y ∧ Builtin.bitXor x y ≤ 1 := by
  have h1 : x = 0 ∨ x = 1 := by omega
  have h2 : y = 0 ∨ y = 1 := by omega
  rcases h1 with rfl | rfl <;> rcases h2 with rfl | rfl <;> decide
theorem getD_all {l : List Int} {P : Int → Prop} (h : ∀ x ∈ l, P x) (h0 : P 0) (i : Nat) : P (l.getD i 0) := by
  rw [List.getD_eq_getElem?_getD]
  cases e : l[i]? with
  | none => exact h0
  | some v => exact h v (List.mem_of_getElem? e)
theorem set_all {l : List Int} {P : Int → Prop} {v : Int} (h : ∀ x ∈ l, P x) (hv : P v) (i : Nat) : ∀ x ∈ l.set i v, P x := fun x hx => by
  rcases List.mem_or_eq_of_mem_set hx with hx | rfl
  · exact h x hx
  · exact hv
theorem keep_s {z x : PySem.Str} {stored : List PySem.Str} {v : Option Value} {u m₀ : PySem.Str → Option Value} (h1 : z ≠ x) (h2 : stored.contains z = false) : (if z = x then v else if stored.contains z = true then u z else m₀ z) = m₀ z := by
  rw [if_neg h1, if_neg (by rw [h2]; exact Bool.false_ne_true)]
theorem keep_k {z x y : PySem.Str} {v w : Option Value} {u u' m₀ : PySem.Str → Option Value} (h1 : z ≠ x) (h2 : [y].contains z = false) : (if z = y then w else if ([] : List PySem.Str).contains z = true then u' z else if z = x then v else if [y].contains z = true then u z else m₀ z) = m₀ z := by
  have h3 : z ≠ y := fun e => by
    rw [e, List.contains_cons, beq_self_eq_true, Bool.true_or] at h2
    cases h2
  rw [if_neg h3, if_neg (by simp), if_neg h1, if_neg (by rw [h2]; exact Bool.false_ne_true)]
theorem rng_size {z : Int} (h : 0 ≤ z) : Builtin.Range.rangeSize 0 z 1 = ((z.toNat : Nat) : Int) := by
  unfold Builtin.Range.rangeSize
  rw [if_pos (by decide)]
  split <;> omega
theorem rng_small {z : Int} (h : 0 ≤ z) (h2 : z ≤ 1000) : Builtin.Range.small 0 z 1 = true := by
  refine small_one ?_ ?_ ?_ ?_ <;> omega
theorem idx8_lo {k j : Int} (h1 : 0 ≤ k) (h2 : 0 ≤ j) : 0 ≤ 8 * k + j := by omega
theorem idx8_hi {k j sz : Int} {len : Nat} (h1 : k < ((sz.toNat : Nat) : Int)) (h2 : j < 0 + (((8 - 0 : Int).toNat : Nat) : Int)) (h3 : (len : Int) = 8 * sz) : 8 * k + j < (len : Int) := by omega
theorem idx8_fit {k j sz : Int} (h1 : k < ((sz.toNat : Nat) : Int)) (h2 : j < 0 + (((8 - 0 : Int).toNat : Nat) : Int)) (h3 : 6 ≤ sz ∧ sz ≤ 10) : 8 * k + j < 2 ^ 63 := by omega
theorem pow8_hi {j : Int} (h2 : j < 0 + (((8 - 0 : Int).toNat : Nat) : Int)) : j ≤ 1000000 := by omega
theorem mul01 {x y : Int} (h : 0 ≤ x ∧ x ≤ 1) : IntMulOk x y := IntMulOk.of_left (PySem.intBits_le_64 (by omega) (by omega))
theorem fr_put {h₀ h : Heap} {L : Addr} {m : PySem.Str → Option Value} {x : PySem.Str} {v : Value} (F : Fr h₀ L h m) (hx : m x = some v) : Fr h₀ L h (fun y => if y = x then some v else m y) := by
  have e : (fun y => if y = x then some v else m y) = m := by
    funext y
    by_cases h : y = x
    · rw [if_pos h, h, hx]
    · rw [if_neg h]
  rw [e]; exact F
theorem rem_k {w : World} {p : Program} {loose : List Str} {mean : ExcName → Option Value} {mg mb : Str → Option Value} {news : List (Addr × Obj)} {l : Addr} {vs : List Value} {ns : List Int} {nn : Nat}
    {dp un : Nat} {gd : Option (List Code)} {cn : Str} {cs : Scope} {a : Addr} {ccd : Value} {cl : List (Str × Addr)} {outer : List Env} {A₀ : Around} {base h₀ : Heap} {L : Addr} {m : Str → Option Value} {s : Shared} {Q E : Value → Shared → Prop}
    (hm : (l, PySem.W.listOf vs.toArray nn) ∈ news) (hi : IntsAre vs ns) (hns : ∀ n ∈ ns, 0 ≤ n ∧ n < 256)
    (hB : Below A₀ base outer h₀) (hF : Fr h₀ L s.heap m) (hX : (KK w.params).In h₀) (hN : News h₀ L s.heap news) (hT : Top p loose mean mg mb h₀) (hk : cs.kind = .function) (hd : dp + 1 < recursionLimit) (hu : un + 8 < cLine)
    (hret : ∀ (t : Tok) (h' : Heap) (tk' : Nat), Fr h₀ L h' m → News h₀ L h' news → Q (.int ((remN 0 (Nats ns) : Nat) : Int) t) { s with heap := h', toks := tk' }) :
    wpAny (model PySem.Challenge.rw_bq0018_03.row.prog w) (ktrTop dp un gd cn cs L a ccd cl outer) (call (.ref 697) [.ref l]) Q E s :=
  rem_c w p loose mean mg mb news l vs ns nn hm hi hns dp un gd cn cs a ccd cl outer A₀ base h₀ L m s Q E hB hF hX hN hT hk trivial hd hu hret
theorem pow32_hi {j : Int} (h2 : j < 0 + (((32 - 0 : Int).toNat : Nat) : Int)) : j ≤ 1000000 := by omega
theorem pow32_lt {j : Int} (h2 : j < 0 + (((32 - 0 : Int).toNat : Nat) : Int)) : j < 9000 := by omega
theorem sub31_lo {j : Int} (h2 : j < 0 + (((32 - 0 : Int).toNat : Nat) : Int)) : 0 ≤ 31 - j := by omega
theorem sub31_hi {j : Int} (h : 0 ≤ j) : 31 - j ≤ 1000000 := by omega
theorem ne2 (n : Nat) : ((2 : Int) ^ n) ≠ 0 := Int.ne_of_gt (Int.pow_pos (by decide))
theorem slice_eq {os cs : List Int} {v : Nat} {sz : Int} (hos : os = [137, 80, 78, 71, 13, 10, 26, 10] ++ ((be4 cs.length ++ [97, 98, 67, 100]) ++ (cs ++ be4 v))) (hol : os.length = 20 + cs.length) (hlc : (cs.length : Int) = sz) :
    List.take (min (16 + sz).toNat os.length - 16) (List.drop 16 os) = cs := by
  have e1 : min (16 + sz).toNat os.length - 16 = cs.length := by omega
  have e2 : List.drop 16 os = cs ++ be4 v := by
    rw [hos, ← List.append_assoc]
    exact List.drop_left' (by simp only [List.length_append, be4_len, List.length_cons, List.length_nil])
  rw [e1, e2, List.take_left]
theorem byteArr_of {p : Array UInt8} {cs : List Int} (h : KBw.bInts p = cs) (hc : ∀ c ∈ cs, 0 ≤ c ∧ c < 256) : p = byteArr cs :=
  Array.ext' (ints_inj (h.trans (KBa.ints_make hc).symm))
theorem news_first {h₀ h : Heap} {L : Addr} {a : Addr × Obj} {l : List (Addr × Obj)} (N : News h₀ L h (a :: l)) : News h₀ L h [a] := fun p hp => by
  rw [List.mem_singleton.mp hp]; exact N a List.mem_cons_self
theorem news_af {h₀ h : Heap} {L : Addr} {a b c d e f g : Addr × Obj} (N : News h₀ L h [a, b, c, d, e, f, g]) : News h₀ L h [a, f] := fun p hp => N p (by
  simp only [List.mem_cons, List.not_mem_nil, or_false] at hp ⊢
  rcases hp with rfl | rfl <;> simp)
theorem news_bc {h₀ h : Heap} {L : Addr} {a b c d e f g : Addr × Obj} (N : News h₀ L h [a, b, c, d, e, f, g]) : News h₀ L h [b, c] := fun p hp => N p (by
  simp only [List.mem_cons, List.not_mem_nil, or_false] at hp ⊢
  rcases hp with rfl | rfl <;> simp)
theorem fmod32 (x : Int) : 0 ≤ x.fmod 4294967296 ∧ x.fmod 4294967296 < 4294967296 := by
  rw [Int.fmod_eq_emod_of_nonneg _ (by decide)]
  omega
theorem sum_cast : ∀ l : List Nat, (l.map fun (n : Nat) => (n : Int)).sum = ((l.sum : Nat) : Int)
  | [] => rfl
  | a :: l => by rw [List.map_cons, List.sum_cons, List.sum_cons, sum_cast l, Int.natCast_add]
theorem due_eq (r : Nat) : (List.map (fun k' : Int => ((r : Int).fdiv (2 ^ k'.toNat)).fmod 2 * 2 ^ (31 - k').toNat) (rangeKs 0 (32 - 0 : Int).toNat)).sum = ((rev32 r : Nat) : Int) := by
  have e : List.map (fun k' : Int => ((r : Int).fdiv (2 ^ k'.toNat)).fmod 2 * 2 ^ (31 - k').toNat) (rangeKs 0 (32 - 0 : Int).toNat) = ((List.range 32).map fun k => r / 2 ^ k % 2 * 2 ^ (32 - 1 - k)).map fun (n : Nat) => (n : Int) := by
    rw [List.map_map]
    unfold rangeKs
    rw [List.map_map]
    refine List.map_congr_left fun k hk => ?_
    have hk' := List.mem_range.mp hk
    show ((r : Int).fdiv (2 ^ (0 + (k : Int)).toNat)).fmod 2 * 2 ^ (31 - (0 + (k : Int))).toNat = ((r / 2 ^ k % 2 * 2 ^ (32 - 1 - k) : Nat) : Int)
    have e1 : (0 + (k : Int)).toNat = k := by omega
    have e2 : (31 - (0 + (k : Int))).toNat = 32 - 1 - k := by
      have : (32 - 0 : Int).toNat = 32 := rfl
      omega
    rw [e1, e2, bit_int (Int.natCast_nonneg r) k, Int.toNat_natCast, Int.natCast_mul, Int.natCast_pow]
    rfl
  rw [e, sum_cast, revB_sum]
  rfl
theorem news_aiefgj {h₀ h : Heap} {L : Addr} {a b c d e f g i j : Addr × Obj} (N : News h₀ L h [a, b, c, d, e, f, g, i, j]) : News h₀ L h [a, i, e, f, g, j] := fun p hp => N p (by
  simp only [List.mem_cons, List.not_mem_nil, or_false] at hp ⊢
  rcases hp with rfl | rfl | rfl | rfl | rfl | rfl <;> simp)
theorem news_xefgij {h₀ h : Heap} {L : Addr} {x a i e f g j : Addr × Obj} (N : News h₀ L h [x, a, i, e, f, g, j]) : News h₀ L h [x, e, f, g, i, j] := fun p hp => N p (by
  simp only [List.mem_cons, List.not_mem_nil, or_false] at hp ⊢
  rcases hp with rfl | rfl | rfl | rfl | rfl | rfl <;> simp)
theorem zeros_ok {sz : Int} (h : 0 ≤ sz) : (((List.replicate (8 * sz).toNat [(0 : Int)]).flatten.length : Nat) : Int) = 8 * sz ∧ ∀ b ∈ (List.replicate (8 * sz).toNat [(0 : Int)]).flatten, 0 ≤ b ∧ b ≤ 1 := by
  rw [List.flatten_replicate_singleton]
  refine ⟨by rw [List.length_replicate]; omega, fun b hb => ?_⟩
  rw [List.eq_of_mem_replicate hb]
  decide
theorem ne_pack {a i e f g j : Addr × Obj} {X : Addr} (h : ∀ p ∈ [a, i, e, f, g, j], @LT.lt Nat _ p.1 X) : @Ne Nat e.1 X ∧ @Ne Nat f.1 X ∧ @Ne Nat g.1 X ∧ @Ne Nat i.1 X ∧ @Ne Nat j.1 X :=
  ⟨Nat.ne_of_lt (h e (by simp)), Nat.ne_of_lt (h f (by simp)), Nat.ne_of_lt (h g (by simp)), Nat.ne_of_lt (h i (by simp)), Nat.ne_of_lt (h j (by simp))⟩
theorem fmod256 (x : Int) : 0 ≤ x.fmod 256 ∧ x.fmod 256 < 256 := by
  rw [Int.fmod_eq_emod_of_nonneg _ (by decide)]
  omega
theorem pat_ok {zs : List Int} {sz : Int} (h : 6 ≤ sz ∧ sz ≤ 10) :
    (((List.map (fun k' : Int => if 3 < (zs.length : Int) then ((zs.getD (Int.toNat 3) 0).fdiv (256 ^ k'.toNat)).fmod 256 else 3 * k') (rangeKs 0 (sz - 0).toNat)).length : Nat) : Int) = sz ∧
    ∀ c ∈ List.map (fun k' : Int => if 3 < (zs.length : Int) then ((zs.getD (Int.toNat 3) 0).fdiv (256 ^ k'.toNat)).fmod 256 else 3 * k') (rangeKs 0 (sz - 0).toNat), 0 ≤ c ∧ c < 256 := by
  refine ⟨by rw [List.length_map, rangeKs_length]; omega, fun c hc => ?_⟩
  obtain ⟨k, hk, rfl⟩ := List.mem_map.mp hc
  have q := mem_rangeKs hk
  split
  · exact fmod256 _
  · omega
theorem cont_ok {zs : List Int} {sz : Int} (h : 6 ≤ sz ∧ sz ≤ 10) :
    (((List.map (fun k' : Int => if k' + 4 < (zs.length : Int) then (zs.getD (k' + 4).toNat 0).fmod 256 else (37 * k' + 11).fmod 256) (rangeKs 0 (sz - 0).toNat)).length : Nat) : Int) = sz ∧
    ∀ c ∈ List.map (fun k' : Int => if k' + 4 < (zs.length : Int) then (zs.getD (k' + 4).toNat 0).fmod 256 else (37 * k' + 11).fmod 256) (rangeKs 0 (sz - 0).toNat), 0 ≤ c ∧ c < 256 := by
  refine ⟨by rw [List.length_map, rangeKs_length]; omega, fun c hc => ?_⟩
  obtain ⟨k, hk, rfl⟩ := List.mem_map.mp hc
  split <;> exact fmod256 _
theorem news_afgh {h₀ h : Heap} {L : Addr} {a b c d e f g i : Addr × Obj} (N : News h₀ L h [a, b, c, d, e, f, g, i]) : News h₀ L h [a, f, g, i] := fun p hp => N p (by
  simp only [List.mem_cons, List.not_mem_nil, or_false] at hp ⊢
  rcases hp with rfl | rfl | rfl | rfl <;> simp)
theorem cells_len (ns : List Int) : 3 ≤ (List.take 16 ns ++ List.drop ((List.take 3 ns).length : Int).toNat [(0 : Int), 0, 0]).length ∧ (List.take 16 ns ++ List.drop ((List.take 3 ns).length : Int).toNat [(0 : Int), 0, 0]).length ≤ 19 := by
  simp only [List.length_append, List.length_take, List.length_drop, List.length_cons, List.length_nil]
  omega
theorem size_ok (x : Int) : 6 ≤ 6 + x.fmod 5 ∧ 6 + x.fmod 5 ≤ 10 := by
  rw [Int.fmod_eq_emod_of_nonneg _ (by decide)]
  omega
theorem ne256 (n : Nat) : ((256 : Int) ^ n) ≠ 0 := Int.ne_of_gt (Int.pow_pos (by decide))
theorem p256 {n : Int} (h0 : n < 1000) : ((256 : Int) ^ n.toNat).natAbs.log2 < 9000 := by
  have e : ((256 : Int) ^ n.toNat).natAbs = 256 ^ n.toNat := by
    rw [Int.natAbs_pow]; rfl
  rw [e]
  refine (Nat.log2_lt (Nat.ne_of_gt (Nat.pow_pos (by decide)))).mpr ?_
  rw [show (256 : Nat) = 2 ^ 8 from rfl, ← Nat.pow_mul]
  exact Nat.pow_lt_pow_right (by decide) (by omega)
end Mine
end

/-! ### part L5r -/
section
open PySem PySem.W PySem.Calls PyProof.Rows
namespace Mine
local macro_rules | `(tactic| walk_at "binaryOp FloorDiv int int") => `(tactic| (k_here; (with_reducible show wpAny _ _ (binaryOp _ _ (Value.int (256 ^ Int.toNat _) _)) _ _ _); (refine floordiv_int (ne256 _) ?_ (Or.inl (PyProof.noPylong_of_log2 (p256 ?kbp)))); (case kbp => omega)))
local macro_rules | `(tactic| k_all) => `(tactic| assumption)
local macro_rules | `(tactic| walk_at "subscriptTail Name BinOp ref int") => `(tactic| (k_here; (with_reducible show wpAny _ _ (subscriptTail _ _ (Value.ref _) (Value.int (8 * _ + _) _)) _ _ _); (with_unfolding_all refine' item_anyK ?k1 ?k2 ?k3 ?k4 ?k5 ?_ ?k6; (case k1 => is_list); (case k2 => first | assumption | l_ints); (case k3 => exact idx8_lo (by assumption) (by assumption)); (case k4 => exact idx8_hi (by assumption) (by assumption) (by assumption)); (case k5 => exact idx8_fit (by assumption) (by assumption) (by assumption)); (case k6 => with_unfolding_all rfl); k_whole); intro _))
local macro_rules | `(tactic| walk_at "binaryOp Pow int int") => `(tactic| (k_here; (with_reducible show wpAny _ _ (binaryOp _ (Value.int 2 _) (Value.int _ _)) _ _ _); (with_reducible refine pow_int_small ?kb1 ?kb2 ?kb3 ?_); (case kb1 => assumption); (case kb2 => exact pow8_hi (by assumption)); (case kb3 => decide)))
local macro_rules | `(tactic| walk_at "binaryOp Mult int int") => `(tactic| (k_here; (with_reducible show wpAny _ _ (binaryOp _ (Value.int (List.getD _ _ _) _) (Value.int (2 ^ _) _)) _ _ _); (refine mul_int ?_ (mul01 (getD_all (P := fun x => 0 ≤ x ∧ x ≤ 1) (by assumption) (by decide) _)))))
theorem row_bound {f : Int → Int} (h : ∀ k, 0 ≤ f k ∧ f k ≤ 1) : 0 ≤ (List.map (fun k => f k * 2 ^ k.toNat) (rangeKs 0 (8 - 0 : Int).toNat)).sum ∧ (List.map (fun k => f k * 2 ^ k.toNat) (rangeKs 0 (8 - 0 : Int).toNat)).sum < 256 := by
  have e : rangeKs 0 (8 - 0 : Int).toNat = [0, 1, 2, 3, 4, 5, 6, 7] := by decide
  rw [e]
  have h0 := h 0
  have h1 := h 1
  have h2 := h 2
  have h3 := h 3
  have h4 := h 4
  have h5 := h 5
  have h6 := h 6
  have h7 := h 7
  simp only [List.map_cons, List.map_nil, List.sum_cons, List.sum_nil, Int.reduceToNat, Int.reducePow]
  omega
/-- the fourth statement's branch -/
noncomputable def ifB (st : Stmt) : List Stmt := by
  cases st
  case If _ b _ _ => exact b
  all_goals exact []
noncomputable def asV (st : Stmt) : Expr := by
  cases st
  case Assign _ v _ => exact v
  all_goals exact default
noncomputable def lcE (e : Expr) : Expr := by
  cases e
  case ListComp e _ _ _ => exact e
  all_goals exact default
noncomputable def lcS (e : Expr) : Scope := by
  cases e
  case ListComp _ _ s _ => exact s
  all_goals exact default
noncomputable def rowC : Expr := asV (stAt (ifB (stAt lawB 4)) 3)
theorem F_evE {M : Model} {A : Around} {E : Value → Shared → Prop} {s : Shared} {Q : Value → Shared → Prop} {b b' : Expr} {e e' : Env} (hb : b = b') (he : e = e') (h : wpAny M A (eval b' e') Q E s) : wpAny M A (eval b e) Q E s := by subst hb he; exact h
set_option maxRecDepth 100000 in
set_option maxHeartbeats 80000000 in
theorem bits_row : ∀ {w : World} {p : Program} {loose : List Str} {mean : ExcName → Option Value} {mg mb : Str → Option Value} {h₀ : Heap} {L I C K D DB : Addr} {oI oC oK o2 : Obj} {ys its : List Value} {zz : List Int} {cap : Nat} {sz k : Int} {tk0 : Tok} {m : Str → Option Value} {rest : List (Addr × Obj)} {s : Shared} {Q E : Value → Shared → Prop}
    (hX : (KK w.params).In h₀) (hT : Top p loose mean mg mb h₀) (hF : Fr h₀ L s.heap m)
    (hN : News h₀ L s.heap ((I, oI) :: (C, oC) :: (K, oK) :: (D, LCg.lst ys) :: (DB, PySem.W.listOf its.toArray cap) :: (L + 1 + 1, o2) :: rest))
    (hK : oK.data = .cell (some (.int k tk0))) (h2 : o2.data = .cell (some (.ref DB))) (hI : IntsAre its zz) (hl : (zz.length : Int) = 8 * sz) (hb : ∀ b ∈ zz, 0 ≤ b ∧ b ≤ 1) (hsz : 6 ≤ sz ∧ sz ≤ 10) (hk0 : 0 ≤ k) (hk1 : k < ((sz.toNat : Nat) : Int))
    (hret : ∀ h' tk' z tz, 0 ≤ z ∧ z < 256 → Fr h₀ L h' m → News h₀ L h' ((I, oI) :: (C, oC) :: (K, oK) :: (D, LCg.lst ys) :: (DB, PySem.W.listOf its.toArray cap) :: (L + 1 + 1, o2) :: rest) → Q (.int z tz) { s with heap := h', toks := tk' }),
    wpAny (model PySem.Challenge.rw_bq0018_03.row.prog w) (callerA.deeper (lawE L)) (eval (lcE rowC) (compEnvC (lcS rowC) [(PySem.Str.ofString "k", K), (PySem.Str.ofString "bits", L + 1 + 1)] C (lawE L))) Q E s := by
  k_fill
  intro w p loose mean mg mb h₀ L I C K D DB oI oC oK o2 ys its zz cap sz k tk0 m rest s Q E hX hT hF hN hK h2 hI hl hb hsz hk0 hk1 hret
  refine' F_evE (b' := Expr.Call _ _ _ _) (e' := compEnvC ⟨_, _, _, _, _⟩ _ _ (envOfC _ ⟨_, _, _, _, _⟩ _ _ _)) rfl rfl ?_
  k_steps
  exact hret _ _ _ _ (row_bound fun _ => getD_all (P := fun x => 0 ≤ x ∧ x ≤ 1) hb (by decide) _) (by assumption) (news_tail (by assumption))
end Mine
end

/-! ### part L13 -/
section
open PySem PySem.W PySem.Calls PyProof.Rows
namespace Mine
local macro_rules | `(tactic| k_all) => `(tactic| assumption)
local macro_rules | `(tactic| walk_at "call type:bytes") => `(tactic| (k_here; (with_reducible show wpAny _ _ (call (Value.type "bytes") [Value.bytes _ _]) _ _ _); k_dflt (refine call_bytes_bytes ?_)))
local macro_rules | `(tactic| walk_at "compareOp Eq ref ref") => `(tactic| (k_here; k_dflt (refine' eq_pair ?k1 ?k2 ?k3 ?k4 ?_; (case k1 => k_asm); (case k2 => k_mem); (case k3 => k_mem); (case k4 => first | ktr_units | decide +kernel)); (try k_fold)))
set_option maxRecDepth 100000 in
set_option maxHeartbeats 80000000 in
theorem law_13 : ∀ {w : World} {p : Program} {loose : List Str} {mean : ExcName → Option Value} {mg mb : Str → Option Value} {Γ : PySem.Ctx} {h₀ : Heap} {L : Addr} {sz : Int} {tz : Tok} {m : Str → Option Value} {s : Shared} {R : Result → Shared → Prop}
    {DO : Addr} {vo : List Value} {cs os : List Int} {v dd co : Nat} {tv : Int} {td tt : Tok}
    (hΓ : Γ.In (callerA.deeper (lawE L))) (hC : Clean Γ) (hX : (KK w.params).In h₀) (hT : Top p loose mean mg mb h₀) (hB : Below callerA h₀ [] h₀)
    (hF : Fr h₀ L s.heap m) (hN : News h₀ L s.heap [(DO, PySem.W.listOf vo.toArray co)])
    (hm0 : m (PySem.Str.ofString "octets") = some (.ref DO)) (hm1 : m (PySem.Str.ofString "turned") = some (.int tv tt)) (hm2 : m (PySem.Str.ofString "due") = some (.int ((dd : Nat) : Int) td)) (hm3 : m (PySem.Str.ofString "size") = some (.int sz tz))
    (hsz : 6 ≤ sz ∧ sz ≤ 10)
    (hIO : IntsAre vo os) (hos : os = [137, 80, 78, 71, 13, 10, 26, 10] ++ ((be4 cs.length ++ [97, 98, 67, 100]) ++ (cs ++ be4 v))) (hor : ∀ k ∈ os, 0 ≤ k ∧ k < 256) (hol : os.length = 20 + cs.length) (hlc : (cs.length : Int) = sz) (hcs : ∀ c ∈ cs, 0 ≤ c ∧ c < 256) (hv : v < 4294967296) (hkey : v = sumN [97, 98, 67, 100] cs ↔ tv = (dd : Int))
    (hret : ∀ h' m' tk, Fr h₀ L h' m' → R (.ok (.ret (.bool true))) { s with heap := h', toks := tk }),
    wpF (model PySem.Challenge.rw_bq0018_03.row.prog w) Γ (execs (lawB.drop 13) (lawE L)) (lawQ R) (lawX w R L) s := by
  k_fill
  intro w p loose mean mg mb Γ h₀ L sz tz m s R DO vo cs os v dd co tv td tt hΓ hC hX hT hB hF hN hm0 hm1 hm2 hm3 hsz hIO hos hor hol hlc hcs hv hkey hret
  replace hF := fr_put hF (x := PySem.Str.ofString "size") (by (try dsimp only); exact hm3)
  replace hF := fr_put hF (x := PySem.Str.ofString "due") (by (try dsimp only); rw [if_neg (by decide)]; exact hm2)
  replace hF := fr_put hF (x := PySem.Str.ofString "turned") (by (try dsimp only); rw [if_neg (by decide)]; rw [if_neg (by decide)]; exact hm1)
  replace hF := fr_put hF (x := PySem.Str.ofString "octets") (by (try dsimp only); rw [if_neg (by decide)]; rw [if_neg (by decide)]; rw [if_neg (by decide)]; exact hm0)
  clear hm0 hm1 hm2 hm3
  refine' F_at (b' := _ :: _) (e' := envOfC _ ⟨_, _, _, _, _⟩ _ _ _) rfl rfl ?_
  unfold lawQ lawX lawE at *
  (try dsimp only [lawS] at *)
  refine F_execs (F_Try hΓ ?_)
  refine F_execs (F_Assign_Name hΓ (F_method hΓ ?_))
  repeat' (first | (k_unfold; (try dsimp only)) | walk1 | (dsimp only; walk1) | (leave1; try dsimp only))
  rename Fr _ _ _ _ => hF9
  rename News _ _ _ _ => hN9
  refine F_callWith_fn0 (o := o470 w.params) hΓ ((hX.keeps hF9.keep) 470 _ (by k_is)) rfl (F_call fun p9 => ?_)
  have hb0 : KBw.bInts (byteArr os) = _ := (KBa.ints_make hor).trans hos
  refine' chunk_F (n := cs.length) (cont := cs) (v := v) ?a1 ?a2 ?a3 ?a4 ?a5 hb0 ?a6 rfl hv rfl (hΓ.enter _ none p9 (by intro x; cases x)) (hC.enter rfl) hB hF9 hX (news_tail hN9) hT rfl ?kd ?ku hcs ?hok ?hbad
  case kd => ktr_room
  case ku => ktr_units
  case a6 => omega
  case a1 => omega
  case a2 => omega
  case a3 => omega
  case a4 => intro p hp; rw [List.mem_singleton.mp hp]; exact Nat.ne_of_lt (by omega)
  case a5 => intro p hp; rw [List.mem_singleton.mp hp]; exact Nat.ne_of_lt (by omega)
  case hbad =>
    intro hne g e t vs h' tk' Fg U Rz
    have htd : tv ≠ (dd : Int) := fun q => hne (hkey.mpr q)
    refine caught_cells (bmB := [.type "Exception", .type "BaseException", .type "object"]) (newId := "Exception.__new__") hB Fg U Rz hX hT (by k_is) (by k_exc) (by decide) ?_ (by passes_own) rfl rfl (by decide)
    intro h6 F6
    repeat' (first | (k_unfold; (try dsimp only)) | walk1 | (dsimp only; walk1) | (leave1; try dsimp only))
    rw [show (tv != (dd : Int)) = true from bne_iff_ne.mpr htd]
    exact hret _ _ _ F6
  case hok =>
    intro he D8 p8 u1 u2 h8 tk8 hp8 F8 N8
    have htd := hkey.mp he
    (try dsimp only)
    repeat' (first | (k_unfold; (try dsimp only)) | walk1 | (dsimp only; walk1) | (leave1; try dsimp only))
    obtain rfl := byteArr_of hp8 hcs
    refine F_stmt hΓ ?_
    repeat' ((fail_if_success (with_reducible show wpAny _ _ (call (Value.type "bytes") _) _ _ _)); first | (k_unfold; (try dsimp only)) | walk1 | (dsimp only; walk1) | (leave1; try dsimp only))
    rotate_left
    · exact absurd htd ‹tv ≠ _›
    rename IntsAre _ (List.take _ _) => hI6
    rw [slice_eq hos hol hlc] at hI6
    k_steps
    rename Fr _ _ _ _ => hFz
    exact hret _ _ _ hFz
end Mine
end

/-! ### part L12 -/
section
open PySem PySem.W PySem.Calls PyProof.Rows
namespace Mine
local macro_rules | `(tactic| k_all) => `(tactic| assumption)
local macro_rules | `(tactic| walk_at "binaryOp FloorDiv int int") => `(tactic| (k_here; (with_reducible show wpAny _ _ (binaryOp _ _ (Value.int (256 ^ Int.toNat _) _)) _ _ _); (refine floordiv_int (ne256 _) ?_ (Or.inl (PyProof.noPylong_of_log2 (p256 ?kbp)))); (case kbp => omega)))
set_option maxRecDepth 100000 in
set_option maxHeartbeats 80000000 in
theorem law_12 : ∀ {w : World} {p : Program} {loose : List Str} {mean : ExcName → Option Value} {mg mb : Str → Option Value} {Γ : PySem.Ctx} {h₀ : Heap} {L : Addr} {sz : Int} {tz : Tok} {m : Str → Option Value} {s : Shared} {R : Result → Shared → Prop}
    {DO : Addr} {vo : List Value} {HH cs : List Int} {sm dd co : Nat} {tv : Int} {td tt : Tok}
    (hΓ : Γ.In (callerA.deeper (lawE L))) (hC : Clean Γ) (hX : (KK w.params).In h₀) (hT : Top p loose mean mg mb h₀) (hB : Below callerA h₀ [] h₀)
    (hF : Fr h₀ L s.heap m) (hN : News h₀ L s.heap [(DO, PySem.W.listOf vo.toArray co)])
    (hm0 : m (PySem.Str.ofString "octets") = some (.ref DO)) (hm1 : m (PySem.Str.ofString "turned") = some (.int tv tt)) (hm2 : m (PySem.Str.ofString "due") = some (.int ((dd : Nat) : Int) td)) (hm3 : m (PySem.Str.ofString "size") = some (.int sz tz))
    (hsz : 6 ≤ sz ∧ sz ≤ 10)
    (hIO : IntsAre vo (HH ++ (cs ++ be4 sm))) (hHH : HH = [137, 80, 78, 71, 13, 10, 26, 10] ++ (be4 cs.length ++ [97, 98, 67, 100])) (hlc : (cs.length : Int) = sz) (htv : 0 ≤ tv ∧ tv < 4294967296) (hcs : ∀ c ∈ cs, 0 ≤ c ∧ c < 256) (hsm : sm < 4294967296) (hkey : sm ^^^ tv.toNat = sumN [97, 98, 67, 100] cs ↔ tv = (dd : Int))
    (hret : ∀ h' m' tk, Fr h₀ L h' m' → R (.ok (.ret (.bool true))) { s with heap := h', toks := tk }),
    wpF (model PySem.Challenge.rw_bq0018_03.row.prog w) Γ (execs (lawB.drop 12) (lawE L)) (lawQ R) (lawX w R L) s := by
  k_fill
  intro w p loose mean mg mb Γ h₀ L sz tz m s R DO vo HH cs sm dd co tv td tt hΓ hC hX hT hB hF hN hm0 hm1 hm2 hm3 hsz hIO hHH hlc htv hcs hsm hkey hret
  replace hF := fr_put hF (x := PySem.Str.ofString "size") (by (try dsimp only); exact hm3)
  replace hF := fr_put hF (x := PySem.Str.ofString "due") (by (try dsimp only); rw [if_neg (by decide)]; exact hm2)
  replace hF := fr_put hF (x := PySem.Str.ofString "turned") (by (try dsimp only); rw [if_neg (by decide)]; rw [if_neg (by decide)]; exact hm1)
  replace hF := fr_put hF (x := PySem.Str.ofString "octets") (by (try dsimp only); rw [if_neg (by decide)]; rw [if_neg (by decide)]; rw [if_neg (by decide)]; exact hm0)
  clear hm0 hm1 hm2 hm3
  refine' F_at (b' := _ :: _) (e' := envOfC _ ⟨_, _, _, _, _⟩ _ _ _) rfl rfl ?_
  unfold lawQ lawX lawE at *
  (try dsimp only [lawS] at *)
  have hH : HH.length = 16 := by rw [hHH]; exact head_len _
  refine F_stmt hΓ ?_
  rename Fr _ _ _ _ => lF'
  with_unfolding_all refine' For_invVF lF' ?k1 ?k2 ?_
  case k1 => exact rfl
  case k2 => exact rfl
  k_whole
  repeat' ((fail_if_success (with_reducible show wpAny _ _ (pyIter _) _ _ _)); first | (k_unfold; (try dsimp only)) | walk1 | (dsimp only; walk1) | (leave1; try dsimp only))
  rename IsRange _ _ _ _ _ _ _ _ => hR
  rename News _ _ _ _ => hN2
  rename Fr _ _ _ _ => hF2
  rw [← List.append_assoc] at hIO
  have hIO2 : IntsAre vo ((HH ++ cs) ++ (be4 sm ++ [])) := by rw [List.append_nil]; exact hIO
  clear hIO
  refine' kst_rangeL (n := 4) (fun i zz => zz = half (HH ++ cs) (be4 sm) [] (fun i => (tv.fdiv (256 ^ (3 - (0 + (i : Int))).toNat)).fmod 256) i) [] rfl hR (by decide) (by decide) hF2 hN2 hIO2 half_zero.symm ?turn ?done
  case turn =>
    clear hF2 hN2 hR hIO2
    intro its zz cap i k t u h tk own pre hk hi hpre hoff hI hf F1 N1
    simp only [List.cons_append, List.nil_append] at N1
    dsimp only [envOfC] at F1 N1
    have hoff8 := OwnOff.ne hoff List.mem_cons_self
    have hzl : zz.length = 20 + cs.length := by rw [hf, half_len (by rw [be4_len]; omega), List.length_append, hH, be4_len, List.length_nil]; omega
    repeat' ((fail_if_success (with_reducible show InvEndN _ _ _ _ _ _ _)); first | (k_unfold; (try dsimp only)) | walk1 | (dsimp only; walk1) | (leave1; try dsimp only))
    have e1 : (16 + sz + k).toNat = (HH ++ cs).length + i := by rw [List.length_append]; omega
    rename Fr _ _ _ _ => hFz
    rename News _ _ _ _ => hNz
    rename IntsAre _ _ => hIz
    exact end_list (i := i) hFz hNz List.mem_cons_self (fun p hp => List.mem_cons_of_mem _ (List.mem_append_left own hp)) (fun p hp => by repeat (first | with_reducible exact List.mem_append_right _ hp | with_reducible exact hp | refine List.mem_cons_of_mem _ ?_)) hIz hpre (by rw [e1, hk, hf]; exact half_set (A := HH ++ cs) (B := be4 sm) (C := []) (by rw [be4_len]; omega)) (by intro z h1 h2; simp only [h1, h2, if_false]; rfl)
  case done =>
    clear hF2 hN2 hR hIO2
    intro its zz cap u h tk hI hf F1 N1
    dsimp only [envOfC] at F1 N1
    (try dsimp only)
    rw [hf, half_all (by rw [be4_len]), be4_turn htv.1, List.append_nil, List.append_assoc] at hI
    have hv := xor32 hsm htv.2
    have h0 : HH ++ (cs ++ be4 (sm ^^^ tv.toNat)) = [137, 80, 78, 71, 13, 10, 26, 10] ++ ((be4 cs.length ++ [97, 98, 67, 100]) ++ (cs ++ be4 (sm ^^^ tv.toNat))) := by rw [hHH, List.append_assoc]
    refine law_13 hΓ hC hX hT hB F1 N1 rfl rfl rfl rfl hsz hI h0 ?_ ?_ hlc hcs hv hkey hret
    · rw [hHH]; exact app_range (head_range _) (app_range hcs (be4_range _))
    · rw [List.length_append, List.length_append, hH, be4_len]; omega
end Mine
end

/-! ### part L11 -/
section
open PySem PySem.W PySem.Calls PyProof.Rows
namespace Mine
local macro_rules | `(tactic| k_all) => `(tactic| assumption)
set_option maxRecDepth 100000 in
set_option maxHeartbeats 80000000 in
theorem law_11 : ∀ {w : World} {p : Program} {loose : List Str} {mean : ExcName → Option Value} {mg mb : Str → Option Value} {Γ : PySem.Ctx} {h₀ : Heap} {L : Addr} {sz : Int} {tz : Tok} {m : Str → Option Value} {s : Shared} {R : Result → Shared → Prop}
    {DO DP : Addr} {vo vp : List Value} {HH cs ps : List Int} {sm dd co : Nat} {tv : Int} {td tt : Tok}
    (hΓ : Γ.In (callerA.deeper (lawE L))) (hC : Clean Γ) (hX : (KK w.params).In h₀) (hT : Top p loose mean mg mb h₀) (hB : Below callerA h₀ [] h₀)
    (hF : Fr h₀ L s.heap m) (hN : News h₀ L s.heap [(DO, PySem.W.listOf vo.toArray co), (DP, LCg.lst vp)])
    (hm0 : m (PySem.Str.ofString "octets") = some (.ref DO)) (hm1 : m (PySem.Str.ofString "turned") = some (.int tv tt)) (hm2 : m (PySem.Str.ofString "due") = some (.int ((dd : Nat) : Int) td)) (hm3 : m (PySem.Str.ofString "pattern") = some (.ref DP)) (hm4 : m (PySem.Str.ofString "size") = some (.int sz tz))
    (hsz : 6 ≤ sz ∧ sz ≤ 10)
    (hDO : @LT.lt Nat _ DP DO) (hIO : IntsAre vo (HH ++ (cs ++ be4 sm))) (hHH : HH = [137, 80, 78, 71, 13, 10, 26, 10] ++ (be4 cs.length ++ [97, 98, 67, 100])) (hlc : (cs.length : Int) = sz) (hIP : IntsAre vp ps) (hlp : (ps.length : Int) = sz) (htv : 0 ≤ tv ∧ tv < 4294967296) (hcs : ∀ c ∈ cs, 0 ≤ c ∧ c < 256) (hps : ∀ c ∈ ps, 0 ≤ c ∧ c < 256) (hsm : sm = sumN [97, 98, 67, 100] cs) (hdd : dd = rev32 (remN 0 (Nats ps)))
    (hret : ∀ h' m' tk, Fr h₀ L h' m' → R (.ok (.ret (.bool true))) { s with heap := h', toks := tk }),
    wpF (model PySem.Challenge.rw_bq0018_03.row.prog w) Γ (execs (lawB.drop 11) (lawE L)) (lawQ R) (lawX w R L) s := by
  k_fill
  intro w p loose mean mg mb Γ h₀ L sz tz m s R DO DP vo vp HH cs ps sm dd co tv td tt hΓ hC hX hT hB hF hN hm0 hm1 hm2 hm3 hm4 hsz hDO hIO hHH hlc hIP hlp htv hcs hps hsm hdd hret
  replace hF := fr_put hF (x := PySem.Str.ofString "size") (by (try dsimp only); exact hm4)
  replace hF := fr_put hF (x := PySem.Str.ofString "pattern") (by (try dsimp only); rw [if_neg (by decide)]; exact hm3)
  replace hF := fr_put hF (x := PySem.Str.ofString "due") (by (try dsimp only); rw [if_neg (by decide)]; rw [if_neg (by decide)]; exact hm2)
  replace hF := fr_put hF (x := PySem.Str.ofString "turned") (by (try dsimp only); rw [if_neg (by decide)]; rw [if_neg (by decide)]; rw [if_neg (by decide)]; exact hm1)
  replace hF := fr_put hF (x := PySem.Str.ofString "octets") (by (try dsimp only); rw [if_neg (by decide)]; rw [if_neg (by decide)]; rw [if_neg (by decide)]; rw [if_neg (by decide)]; exact hm0)
  clear hm0 hm1 hm2 hm3 hm4
  refine' F_at (b' := _ :: _) (e' := envOfC _ ⟨_, _, _, _, _⟩ _ _ _) rfl rfl ?_
  unfold lawQ lawX lawE at *
  (try dsimp only [lawS] at *)
  have hH : HH.length = 16 := by rw [hHH]; exact head_len _
  refine F_stmt hΓ ?_
  rename Fr _ _ _ _ => lF'
  with_unfolding_all refine' For_invVF lF' ?k1 ?k2 ?_
  case k1 => exact rfl
  case k2 => exact rfl
  k_whole
  repeat' ((fail_if_success (with_reducible show wpAny _ _ (pyIter _) _ _ _)); first | (k_unfold; (try dsimp only)) | walk1 | (dsimp only; walk1) | (leave1; try dsimp only))
  rename IsRange _ _ _ _ _ _ _ _ => hR
  rename News _ _ _ _ => hN2
  rename Fr _ _ _ _ => hF2
  refine' kst_rangeL (n := sz.toNat) (fun i zz => zz = half HH cs (be4 sm) (fun k => ps.getD k 0) i) [] rfl hR (rng_small (by omega) (by omega)) (rng_size (by omega)) hF2 hN2 hIO half_zero.symm ?turn ?done
  case turn =>
    clear hF2 hN2 hR hIO
    intro its zz cap i k t u h tk own pre hk hi hpre hoff hI hf F1 N1
    simp only [List.cons_append, List.nil_append] at N1
    dsimp only [envOfC] at F1 N1
    have hoff8 := OwnOff.ne hoff List.mem_cons_self
    have hzl : zz.length = 20 + cs.length := by rw [hf, half_len (by omega), hH, be4_len]; omega
    repeat' ((fail_if_success (with_reducible show InvEndN _ _ _ _ _ _ _)); first | (k_unfold; (try dsimp only)) | walk1 | (dsimp only; walk1) | (leave1; try dsimp only))
    have e1 : (16 + k).toNat = HH.length + i := by omega
    have e2 : k.toNat = i := by omega
    rename Fr _ _ _ _ => hFz
    rename News _ _ _ _ => hNz
    rename IntsAre _ _ => hIz
    exact end_list (i := i) hFz hNz List.mem_cons_self (fun p hp => List.mem_cons_of_mem _ (List.mem_append_left own hp)) (fun p hp => by repeat (first | with_reducible exact List.mem_append_right _ hp | with_reducible exact hp | refine List.mem_cons_of_mem _ ?_)) hIz hpre (by rw [e1, e2, hf]; exact half_set (A := HH) (B := cs) (C := be4 sm) (q := fun k => ps.getD k 0) (by omega)) (by intro z h1 h2; simp only [h1, h2, if_false]; rfl)
  case done =>
    clear hF2 hN2 hR hIO
    intro its zz cap u h tk hI hf F1 N1
    dsimp only [envOfC] at F1 N1
    (try dsimp only)
    rw [hf, half_all (by omega)] at hI
    have hn : sz.toNat = cs.length := by omega
    refine law_12 (cs := turnZ cs (fun k => ps.getD k 0) sz.toNat) hΓ hC hX hT hB F1 (news_first N1) rfl rfl rfl rfl hsz hI ?_ (by rw [turnZ_len]; omega) htv (turnZ_range hcs fun i => getD_all (P := fun x => 0 ≤ x ∧ x < 256) hps (by decide) i) (by rw [hsm]; exact sumN_lt abcd_range hcs) ?_ hret
    · rw [turnZ_len, hn]; exact hHH
    · rw [hsm]; exact key_iff (by omega) (by omega) hcs hps hdd htv.1
end Mine
end

/-! ### part L8 -/
section
open PySem PySem.W PySem.Calls PyProof.Rows
namespace Mine
local macro_rules | `(tactic| k_all) => `(tactic| assumption)
local macro_rules | `(tactic| walk_at "call type:bytes") => `(tactic| (k_here; (with_reducible show wpAny _ _ (call (Value.type "bytes") [Value.bytes _ _]) _ _ _); k_dflt (refine call_bytes_bytes ?_)))
local macro_rules | `(tactic| walk_at "call type:list") => `(tactic| (k_here; (with_reducible show wpAny _ _ (call (Value.type "list") [Value.bytes _ _]) _ _ _); k_dflt (refine' list_bytesK rfl ?k1 ?k2 ?k3 ?k4 ?_; (case k1 => k_asm); (case k2 => k_asm); (case k3 => assumption); (case k4 => (simp only [List.length_append, be4_len, List.length_cons, List.length_nil]; omega))); intro D9 vs9 c9 h9 tk9 F9 N9 l9 I9; (try k_lt l9); (try k_fold)))
set_option maxRecDepth 100000 in
set_option maxHeartbeats 80000000 in
theorem law_8 : ∀ {w : World} {p : Program} {loose : List Str} {mean : ExcName → Option Value} {mg mb : Str → Option Value} {Γ : PySem.Ctx} {h₀ : Heap} {L : Addr} {sz : Int} {tz : Tok} {m : Str → Option Value} {s : Shared} {R : Result → Shared → Prop}
    {DC DP : Addr} {ys vp : List Value} {cs ps : List Int} {dd : Nat} {tv : Int} {td tt : Tok}
    (hΓ : Γ.In (callerA.deeper (lawE L))) (hC : Clean Γ) (hX : (KK w.params).In h₀) (hT : Top p loose mean mg mb h₀) (hB : Below callerA h₀ [] h₀)
    (hF : Fr h₀ L s.heap m) (hN : News h₀ L s.heap [(DP, LCg.lst vp), (DC, LCg.lst ys)])
    (hm0 : m (PySem.Str.ofString "turned") = some (.int tv tt)) (hm1 : m (PySem.Str.ofString "due") = some (.int ((dd : Nat) : Int) td)) (hm2 : m (PySem.Str.ofString "pattern") = some (.ref DP)) (hm3 : m (PySem.Str.ofString "content") = some (.ref DC)) (hm4 : m (PySem.Str.ofString "size") = some (.int sz tz))
    (hsz : 6 ≤ sz ∧ sz ≤ 10)
    (hIC : IntsAre ys cs) (hlc : (cs.length : Int) = sz) (hcs : ∀ c ∈ cs, 0 ≤ c ∧ c < 256) (hIP : IntsAre vp ps) (hlp : (ps.length : Int) = sz) (hps : ∀ c ∈ ps, 0 ≤ c ∧ c < 256) (hdd : dd = rev32 (remN 0 (Nats ps))) (hd32 : dd < 4294967296) (htv : 0 ≤ tv ∧ tv < 4294967296)
    (hret : ∀ h' m' tk, Fr h₀ L h' m' → R (.ok (.ret (.bool true))) { s with heap := h', toks := tk }),
    wpF (model PySem.Challenge.rw_bq0018_03.row.prog w) Γ (execs (lawB.drop 8) (lawE L)) (lawQ R) (lawX w R L) s := by
  k_fill
  intro w p loose mean mg mb Γ h₀ L sz tz m s R DC DP ys vp cs ps dd tv td tt hΓ hC hX hT hB hF hN hm0 hm1 hm2 hm3 hm4 hsz hIC hlc hcs hIP hlp hps hdd hd32 htv hret
  replace hF := fr_put hF (x := PySem.Str.ofString "size") (by (try dsimp only); exact hm4)
  replace hF := fr_put hF (x := PySem.Str.ofString "content") (by (try dsimp only); rw [if_neg (by decide)]; exact hm3)
  replace hF := fr_put hF (x := PySem.Str.ofString "pattern") (by (try dsimp only); rw [if_neg (by decide)]; rw [if_neg (by decide)]; exact hm2)
  replace hF := fr_put hF (x := PySem.Str.ofString "due") (by (try dsimp only); rw [if_neg (by decide)]; rw [if_neg (by decide)]; rw [if_neg (by decide)]; exact hm1)
  replace hF := fr_put hF (x := PySem.Str.ofString "turned") (by (try dsimp only); rw [if_neg (by decide)]; rw [if_neg (by decide)]; rw [if_neg (by decide)]; rw [if_neg (by decide)]; exact hm0)
  clear hm0 hm1 hm2 hm3 hm4
  refine' F_at (b' := _ :: _) (e' := envOfC _ ⟨_, _, _, _, _⟩ _ _ _) rfl rfl ?_
  unfold lawQ lawX lawE at *
  (try dsimp only [lawS] at *)
  refine F_stmt hΓ ?_
  k_steps
  (try dsimp only)
  refine F_stmt hΓ ?_
  repeat' ((fail_if_success (with_reducible show wpAny _ _ (call (Value.ref 386) _) _ _ _)); first | (k_unfold; (try dsimp only)) | walk1 | (dsimp only; walk1) | (leave1; try dsimp only))
  rename KBa.In cs => hKI
  rename News _ _ _ _ => hNw
  rename Fr _ _ _ _ => hFw
  refine' wchunks (ks1 := [97, 98, 67, 100]) ?a1 ?a2 ?a3 ?a4 ?b1 ?b2 (KBa.ints_make hKI) ?b3 ?b4 hB hFw hX hNw hT rfl ?kd ?ku ?_
  case b1 => exact rfl
  case b2 => exact (rfl : KBw.bInts #[97, 98, 67, 100] = [97, 98, 67, 100])
  case b3 => exact rfl
  case b4 => omega
  case a1 => omega
  case a2 => omega
  case a3 => omega
  case a4 =>
    intro p hp
    simp only [List.mem_cons, List.not_mem_nil, or_false] at hp
    rcases hp with rfl | rfl <;> (dsimp only; exact Nat.ne_of_lt (by omega))
  case kd => decide +kernel
  case ku => decide +kernel
  clear hNw hFw
  intro b8 t8 h8 tk8 hb8 F8 N8
  refine F_stmt hΓ ?_
  k_steps
  rename News _ _ _ _ => hNz
  rename Fr _ _ _ _ => hFz
  rename IntsAre _ (_ ++ _) => hIz
  exact law_11 (HH := [137, 80, 78, 71, 13, 10, 26, 10] ++ (be4 cs.length ++ [97, 98, 67, 100])) hΓ hC hX hT hB hFz (news_af hNz) rfl rfl rfl rfl rfl hsz (by omega) (by simpa only [List.append_assoc] using hIz) rfl hlc hIP hlp htv hcs hps rfl hdd hret
end Mine
end

/-! ### part L7 -/
section
open PySem PySem.W PySem.Calls PyProof.Rows
namespace Mine
set_option maxRecDepth 100000 in
set_option maxHeartbeats 80000000 in
theorem law_7 : ∀ {w : World} {p : Program} {loose : List Str} {mean : ExcName → Option Value} {mg mb : Str → Option Value} {Γ : PySem.Ctx} {h₀ : Heap} {L D : Addr} {wc : List Value} {zs : List Int} {sz : Int} {tz : Tok} {c1 c2 c3 : Obj} {n : Nat} {m : Str → Option Value} {s : Shared} {R : Result → Shared → Prop}
    {DC DP : Addr} {ys vp : List Value} {cs ps : List Int} {v2 v3 : Option Value} {dd : Nat} {td : Tok}
    (hΓ : Γ.In (callerA.deeper (lawE L))) (hC : Clean Γ) (hX : (KK w.params).In h₀) (hT : Top p loose mean mg mb h₀) (hB : Below callerA h₀ [] h₀)
    (hF : Fr h₀ L s.heap m)
    (hN : News h₀ L s.heap [(DP, LCg.lst vp), (DC, LCg.lst ys), (D, PySem.W.listOf wc.toArray n), (L + 1 + 1 + 1, c3), (L + 1 + 1, c2), (L + 1, c1)]) (hD : @LT.lt Nat _ (L + 1 + 1 + 1) D)
    (h1 : c1.data = .cell (some (.ref D))) (h2 : c2.data = .cell v2) (h3 : c3.data = .cell v3)
    (hI : IntsAre wc zs) (hz : 3 ≤ zs.length ∧ zs.length ≤ 19) (hsz : 6 ≤ sz ∧ sz ≤ 10)
    (hm0 : m (PySem.Str.ofString "due") = some (.int ((dd : Nat) : Int) td)) (hm1 : m (PySem.Str.ofString "pattern") = some (.ref DP)) (hm2 : m (PySem.Str.ofString "content") = some (.ref DC)) (hm3 : m (PySem.Str.ofString "size") = some (.int sz tz))
    (hIC : IntsAre ys cs) (hlc : (cs.length : Int) = sz) (hcs : ∀ c ∈ cs, 0 ≤ c ∧ c < 256) (hIP : IntsAre vp ps) (hlp : (ps.length : Int) = sz) (hps : ∀ c ∈ ps, 0 ≤ c ∧ c < 256) (hdd : dd = rev32 (remN 0 (Nats ps))) (hd32 : dd < 4294967296)
    (hret : ∀ h' m' tk, Fr h₀ L h' m' → R (.ok (.ret (.bool true))) { s with heap := h', toks := tk }),
    wpF (model PySem.Challenge.rw_bq0018_03.row.prog w) Γ (execs (lawB.drop 7) (lawE L)) (lawQ R) (lawX w R L) s := by
  k_fill
  intro w p loose mean mg mb Γ h₀ L D wc zs sz tz c1 c2 c3 n m s R DC DP ys vp cs ps v2 v3 dd td hΓ hC hX hT hB hF hN hD h1 h2 h3 hI hz hsz hm0 hm1 hm2 hm3 hIC hlc hcs hIP hlp hps hdd hd32 hret
  replace hF := fr_put hF (x := PySem.Str.ofString "size") (by (try dsimp only); exact hm3)
  replace hF := fr_put hF (x := PySem.Str.ofString "content") (by (try dsimp only); rw [if_neg (by decide)]; exact hm2)
  replace hF := fr_put hF (x := PySem.Str.ofString "pattern") (by (try dsimp only); rw [if_neg (by decide)]; rw [if_neg (by decide)]; exact hm1)
  replace hF := fr_put hF (x := PySem.Str.ofString "due") (by (try dsimp only); rw [if_neg (by decide)]; rw [if_neg (by decide)]; rw [if_neg (by decide)]; exact hm0)
  clear hm0 hm1 hm2 hm3
  refine' F_at (b' := _ :: _) (e' := envOfC _ ⟨_, _, _, _, _⟩ _ _ _) rfl rfl ?_
  unfold lawQ lawX lawE at *
  (try dsimp only [lawS] at *)
  refine F_stmt hΓ ?_
  k_steps
  all_goals (
    rename News _ _ _ _ => hNz
    rename Fr _ _ _ _ => hFz
    exact law_8 hΓ hC hX hT hB hFz (news_bc hNz) rfl rfl rfl rfl rfl hsz hIC hlc hcs hIP hlp hps hdd hd32 (by first | exact fmod32 _ | omega) hret)
end Mine
end

/-! ### part L6 -/
section
open PySem PySem.W PySem.Calls PyProof.Rows
namespace Mine
local macro_rules | `(tactic| walk_at "call ref") => `(tactic| (k_here; (with_reducible show wpAny _ _ (call (Value.ref 697) [Value.ref _]) _ _ _); k_dflt (refine' rem_k ?k01 ?k02 ?k03 ?k1 ?k2 ?k3 ?k4 ?k5 ?kK ?kd ?ku ?_; (case k1 => k_asm); (case k2 => k_asm); (case k3 => k_asm); (case k4 => k_asm); (case k5 => k_asm); (case k01 => k_mem); (case k02 => assumption); (case k03 => assumption); (case kK => first | assumption | exact rfl); (case kd => first | ktr_room | decide +kernel); (case ku => first | ktr_units | decide +kernel)); intro t9 h9 tk9 F9 N9; (try k_fold)))
local macro_rules | `(tactic| walk_at "binaryOp Pow int int") => `(tactic| (k_here; (with_reducible show wpAny _ _ (binaryOp _ (Value.int 2 _) (Value.int _ _)) _ _ _); (with_reducible refine pow_int_small ?kb1 ?kb2 ?kb3 ?_); (case kb1 => first | assumption | exact sub31_lo (by assumption)); (case kb2 => first | exact pow32_hi (by assumption) | exact sub31_hi (by assumption)); (case kb3 => decide)))
local macro_rules | `(tactic| walk_at "binaryOp FloorDiv int int") => `(tactic| (k_here; (with_reducible show wpAny _ _ (binaryOp _ _ (Value.int (2 ^ Int.toNat _) _)) _ _ _); (refine floordiv_int (ne2 _) ?_ (Or.inl (PyProof.noPylong_of_log2 (kbt_py (pow32_lt (by assumption))))))))
local macro_rules | `(tactic| walk_at "binaryOp Mult int int") => `(tactic| (k_here; (with_reducible show wpAny _ _ (binaryOp _ (Value.int (Int.fmod _ 2) _) (Value.int (2 ^ _) _)) _ _ _); (refine mul_int ?_ (mul01 (fmod2 _)))))
set_option maxRecDepth 100000 in
set_option maxHeartbeats 80000000 in
theorem law_6 : ∀ {w : World} {p : Program} {loose : List Str} {mean : ExcName → Option Value} {mg mb : Str → Option Value} {Γ : PySem.Ctx} {h₀ : Heap} {L D : Addr} {wc : List Value} {zs : List Int} {sz : Int} {tz : Tok} {c1 c2 c3 : Obj} {n : Nat} {m : Str → Option Value} {s : Shared} {R : Result → Shared → Prop}
    {DC DP : Addr} {ys vp : List Value} {cs ps : List Int} {v2 : Option Value}
    (hΓ : Γ.In (callerA.deeper (lawE L))) (hC : Clean Γ) (hX : (KK w.params).In h₀) (hT : Top p loose mean mg mb h₀) (hB : Below callerA h₀ [] h₀)
    (hF : Fr h₀ L s.heap m)
    (hN : News h₀ L s.heap [(DP, LCg.lst vp), (DC, LCg.lst ys), (D, PySem.W.listOf wc.toArray n), (L + 1 + 1 + 1, c3), (L + 1 + 1, c2), (L + 1, c1)]) (hD : @LT.lt Nat _ (L + 1 + 1 + 1) D)
    (h1 : c1.data = .cell (some (.ref D))) (h2 : c2.data = .cell v2) (h3 : c3.data = .cell none)
    (hI : IntsAre wc zs) (hz : 3 ≤ zs.length ∧ zs.length ≤ 19) (hsz : 6 ≤ sz ∧ sz ≤ 10)
    (hm0 : m (PySem.Str.ofString "pattern") = some (.ref DP)) (hm1 : m (PySem.Str.ofString "content") = some (.ref DC)) (hm2 : m (PySem.Str.ofString "size") = some (.int sz tz))
    (hDC : @Ne Nat D DC ∧ @Ne Nat (L + 1 + 1 + 1) DC ∧ @Ne Nat (L + 1 + 1) DC ∧ @Ne Nat (L + 1) DC) (hDP : @Ne Nat DC DP ∧ @Ne Nat D DP ∧ @Ne Nat (L + 1 + 1 + 1) DP ∧ @Ne Nat (L + 1 + 1) DP ∧ @Ne Nat (L + 1) DP) (hIC : IntsAre ys cs) (hlc : (cs.length : Int) = sz) (hcs : ∀ c ∈ cs, 0 ≤ c ∧ c < 256) (hIP : IntsAre vp ps) (hlp : (ps.length : Int) = sz) (hps : ∀ c ∈ ps, 0 ≤ c ∧ c < 256)
    (hret : ∀ h' m' tk, Fr h₀ L h' m' → R (.ok (.ret (.bool true))) { s with heap := h', toks := tk }),
    wpF (model PySem.Challenge.rw_bq0018_03.row.prog w) Γ (execs (lawB.drop 5) (lawE L)) (lawQ R) (lawX w R L) s := by
  k_fill
  intro w p loose mean mg mb Γ h₀ L D wc zs sz tz c1 c2 c3 n m s R DC DP ys vp cs ps v2 hΓ hC hX hT hB hF hN hD h1 h2 h3 hI hz hsz hm0 hm1 hm2 hDC hDP hIC hlc hcs hIP hlp hps hret
  replace hF := fr_put hF (x := PySem.Str.ofString "size") (by (try dsimp only); exact hm2)
  replace hF := fr_put hF (x := PySem.Str.ofString "content") (by (try dsimp only); rw [if_neg (by decide)]; exact hm1)
  replace hF := fr_put hF (x := PySem.Str.ofString "pattern") (by (try dsimp only); rw [if_neg (by decide)]; rw [if_neg (by decide)]; exact hm0)
  clear hm0 hm1 hm2
  refine' F_at (b' := _ :: _) (e' := envOfC _ ⟨_, _, _, _, _⟩ _ _ _) rfl rfl ?_
  unfold lawQ lawX lawE at *
  (try dsimp only [lawS] at *)
  refine F_stmt hΓ ?_
  k_steps
  (try dsimp only)
  have hr32 : remN 0 (Nats ps) < 4294967296 := (remN_rev (Nats ps) 0 (by decide) (toNat_lt hps)).1
  refine F_stmt hΓ ?_
  k_steps
  rename News _ _ _ _ => hNz
  rename Fr _ _ _ _ => hFz
  rw [due_eq] at hFz
  exact law_7 hΓ hC hX hT hB hFz (news_tail hNz) hD h1 h2 (by assumption) hI hz hsz rfl rfl rfl rfl hIC hlc hcs hIP hlp hps rfl (revB_lt 32 _) hret
end Mine
end

/-! ### part L5 -/
section
open PySem PySem.W PySem.Calls PyProof.Rows
namespace Mine
local macro_rules | `(tactic| walk_at "binaryOp FloorDiv int int") => `(tactic| (k_here; (with_reducible show wpAny _ _ (binaryOp _ _ (Value.int (256 ^ Int.toNat _) _)) _ _ _); (refine floordiv_int (ne256 _) ?_ (Or.inl (PyProof.noPylong_of_log2 (p256 ?kbp)))); (case kbp => omega)))
local macro_rules | `(tactic| k_all) => `(tactic| assumption)
local macro_rules | `(tactic| walk_at "subscriptTail Name BinOp ref int") => `(tactic| (k_here; (with_reducible show wpAny _ _ (subscriptTail _ _ (Value.ref _) (Value.int (8 * _ + _) _)) _ _ _); (with_unfolding_all refine' item_anyK ?k1 ?k2 ?k3 ?k4 ?k5 ?_ ?k6; (case k1 => is_list); (case k2 => first | assumption | l_ints); (case k3 => exact idx8_lo (by assumption) (by assumption)); (case k4 => exact idx8_hi (by assumption) (by assumption) (by assumption)); (case k5 => exact idx8_fit (by assumption) (by assumption) (by assumption)); (case k6 => with_unfolding_all rfl); k_whole); intro _))
set_option maxRecDepth 100000 in
set_option maxHeartbeats 80000000 in
theorem law_5 : ∀ {w : World} {p : Program} {loose : List Str} {mean : ExcName → Option Value} {mg mb : Str → Option Value} {Γ : PySem.Ctx} {h₀ : Heap} {L D : Addr} {wc : List Value} {zs : List Int} {sz : Int} {tz : Tok} {c1 c2 c3 : Obj} {n : Nat} {m : Str → Option Value} {s : Shared} {R : Result → Shared → Prop}
    {DC DP : Addr} {ys vp : List Value} {cs ps : List Int}
    (hΓ : Γ.In (callerA.deeper (lawE L))) (hC : Clean Γ) (hX : (KK w.params).In h₀) (hT : Top p loose mean mg mb h₀) (hB : Below callerA h₀ [] h₀)
    (hF : Fr h₀ L s.heap (fun y => if y = PySem.Str.ofString "pattern" then some (.ref DP) else if y = PySem.Str.ofString "content" then some (.ref DC) else if y = PySem.Str.ofString "size" then some (.int sz tz) else m y))
    (hN : News h₀ L s.heap [(DP, LCg.lst vp), (DC, LCg.lst ys), (D, PySem.W.listOf wc.toArray n), (L + 1 + 1 + 1, c3), (L + 1 + 1, c2), (L + 1, c1)]) (hD : @LT.lt Nat _ (L + 1 + 1 + 1) D)
    (h1 : c1.data = .cell (some (.ref D))) (h2 : c2.data = .cell none) (h3 : c3.data = .cell none)
    (hI : IntsAre wc zs) (hz : 3 ≤ zs.length ∧ zs.length ≤ 19) (hsz : 6 ≤ sz ∧ sz ≤ 10)
    (hDC : @Ne Nat D DC ∧ @Ne Nat (L + 1 + 1 + 1) DC ∧ @Ne Nat (L + 1 + 1) DC ∧ @Ne Nat (L + 1) DC) (hDP : @Ne Nat DC DP ∧ @Ne Nat D DP ∧ @Ne Nat (L + 1 + 1 + 1) DP ∧ @Ne Nat (L + 1 + 1) DP ∧ @Ne Nat (L + 1) DP) (hIC : IntsAre ys cs) (hlc : (cs.length : Int) = sz) (hcs : ∀ c ∈ cs, 0 ≤ c ∧ c < 256) (hIP : IntsAre vp ps) (hlp : (ps.length : Int) = sz) (hps : ∀ c ∈ ps, 0 ≤ c ∧ c < 256)
    (hret : ∀ h' m' tk, Fr h₀ L h' m' → R (.ok (.ret (.bool true))) { s with heap := h', toks := tk }),
    wpF (model PySem.Challenge.rw_bq0018_03.row.prog w) Γ (execs (lawB.drop 4) (lawE L)) (lawQ R) (lawX w R L) s := by
  k_fill
  intro w p loose mean mg mb Γ h₀ L D wc zs sz tz c1 c2 c3 n m s R DC DP ys vp cs ps hΓ hC hX hT hB hF hN hD h1 h2 h3 hI hz hsz hDC hDP hIC hlc hcs hIP hlp hps hret
  refine' F_at (b' := _ :: _) (e' := envOfC _ ⟨_, _, _, _, _⟩ _ _ _) rfl rfl ?_
  unfold lawQ lawX lawE at *
  (try dsimp only [lawS] at *)
  have hIw := hI
  refine F_stmt hΓ ?_
  repeat' ((fail_if_success (with_reducible show wpAny _ _ (exec (Stmt.For _ _ _ _ _) _) _ _ _)); first | (k_unfold; (try dsimp only)) | walk1 | (dsimp only; walk1) | (leave1; try dsimp only))
  · rename Fr _ _ _ _ => lF'
    with_unfolding_all refine' For_invVF lF' ?k1 ?k2 ?_
    case k1 => exact rfl
    case k2 => exact rfl
    k_whole
    repeat' ((fail_if_success (with_reducible show wpAny _ _ (pyIter _) _ _ _)); first | (k_unfold; (try dsimp only)) | walk1 | (dsimp only; walk1) | (leave1; try dsimp only))
    rename IsRange _ _ _ _ _ _ _ _ => hR
    rename News _ _ _ _ => hN2
    rename Fr _ _ _ _ => hF2
    rename IntsAre (List.flatten _) _ => hI2
    rename IntsAre _ (List.map _ (rangeKs 0 _)) => hI3
    rename List.length _ = List.length (List.map _ (rangeKs 0 _)) => hL3
    obtain ⟨ds, hds, hd1, hd2⟩ := digits_ok
    rw [← hds] at hI3
    clear hL3 hds
    refine' kst_rangeL (n := (8 * sz - 32).toNat) (fun _ zz => (zz.length : Int) = 8 * sz ∧ ∀ b ∈ zz, 0 ≤ b ∧ b ≤ 1) [PySem.Str.ofString "k"] rfl hR ?hsm ?hn hF2 hN2 hI2 ?hf ?turn ?done
    case hsm => exact rng_small (by omega) (by omega)
    case hn => exact rng_size (by omega)
    case hf => exact zeros_ok (by omega)
    case turn =>
      clear hF2 hN2 hI2 hR
      intro its zz cap i k t u h tk own pre hk hi hpre hoff hI hf F1 N1
      simp only [List.cons_append, List.nil_append] at N1
      dsimp only [envOfC] at F1 N1
      have hoff8 := OwnOff.ne hoff List.mem_cons_self
      repeat' ((fail_if_success (with_reducible show InvEndN _ _ _ _ _ _ _)); (fail_if_success (with_reducible show wpAny _ _ (exec (Stmt.For _ _ _ _ _) _) _ _ _)); first | (k_unfold; (try dsimp only)) | walk1 | (dsimp only; walk1) | (leave1; try dsimp only))
      · rename Fr _ _ _ _ => lF'
        with_unfolding_all refine' For_invVF lF' ?k1 ?k2 ?_
        case k1 => exact rfl
        case k2 => exact rfl
        k_whole
        repeat' ((fail_if_success (with_reducible show wpAny _ _ (pyIter _) _ _ _)); first | (k_unfold; (try dsimp only)) | walk1 | (dsimp only; walk1) | (leave1; try dsimp only))
        rename IsRange _ _ _ _ _ _ _ _ => hR
        rename News _ _ _ _ => hN2
        rename Fr _ _ _ _ => hF2
        refine' kst_rangeL (n := 33) (fun _ zz => (zz.length : Int) = 8 * sz ∧ ∀ b ∈ zz, 0 ≤ b ∧ b ≤ 1) [] rfl hR (by decide) (by decide) hF2 hN2 hI hf ?turn2 ?done2
        case turn2 =>
          clear hF2 hN2 hR hI hf
          intro its zz cap i2 k2 t u h tk own2 pre2 hk2 hi2 hpre2 hoff2 hI hf F1 N1
          simp only [List.cons_append, List.nil_append] at N1
          dsimp only [envOfC] at F1 N1
          have hoff9 := OwnOff.ne hoff2 List.mem_cons_self
          have hoff10 := off_both hoff8 hoff9
          repeat' ((fail_if_success (with_reducible show InvEndN _ _ _ _ _ _ _)); first | (k_unfold; (try dsimp only)) | walk1 | (dsimp only; walk1) | (leave1; try dsimp only))
          rename Fr _ _ _ _ => hFz
          rename News _ _ _ _ => hNz
          rename IntsAre _ _ => hIz
          exact end_list (i := i2) hFz hNz List.mem_cons_self (fun p hp => List.mem_cons_of_mem _ (List.mem_append_left own2 hp)) (fun p hp => by repeat (first | with_reducible exact List.mem_append_right _ hp | with_reducible exact hp | refine List.mem_cons_of_mem _ ?_)) hIz hpre2 ⟨by rw [List.length_set]; exact hf.1, set_all hf.2 (xor01 (getD_all hf.2 (by decide) _) (getD_all hd2 (by decide) _)) _⟩ (by intro z h1 h2; simp only [h1, if_false]; rfl)
        case done2 =>
          clear hF2 hN2 hR hI hf
          intro its zz cap u h tk hI hf F1 N1
          dsimp only [envOfC] at F1 N1
          repeat' ((fail_if_success (with_reducible show InvEndN _ _ _ _ _ _ _)); first | (k_unfold; (try dsimp only)) | walk1 | (dsimp only; walk1) | (leave1; try dsimp only))
          rename Fr _ _ _ _ => hFz
          rename News _ _ _ _ => hNz
          rename IntsAre _ _ => hIz
          exact end_list (i := i) hFz hNz List.mem_cons_self (fun p hp => List.mem_cons_of_mem _ (List.mem_append_left own hp)) (fun p hp => by repeat (first | with_reducible exact List.mem_append_right _ hp | with_reducible exact hp | refine List.mem_cons_of_mem _ ?_)) hIz hpre hf (by intro z h1 h2; by_cases h5 : z = PySem.Str.ofString "k"; (rw [h5] at h2; exact absurd h2 (by decide)); (simp only [h1, h5, h2, if_false]; rfl))
      · skip
        rename Fr _ _ _ _ => hFz
        rename News _ _ _ _ => hNz
        rename IntsAre _ _ => hIz
        exact end_list (i := i) hFz hNz List.mem_cons_self (fun p hp => List.mem_cons_of_mem _ (List.mem_append_left own hp)) (fun p hp => by repeat (first | with_reducible exact List.mem_append_right _ hp | with_reducible exact hp | refine List.mem_cons_of_mem _ ?_)) hIz hpre hf (by intro z h1 h2; simp only [h1, h2, if_false]; rfl)
    case done =>
      clear hF2 hN2 hI2 hR
      intro its zz cap u h tk hI hf F1 N1
      dsimp only [envOfC] at F1 N1
      repeat' ((fail_if_success (with_reducible show wpAny _ _ (exec (Stmt.Assign _ _ _) _) _ _ _)); first | (k_unfold; (try dsimp only)) | walk1 | (dsimp only; walk1) | (leave1; try dsimp only))
      refine comp_cell (fun z => 0 ≤ z ∧ z < 256) F1 rfl (by with_unfolding_all rfl) (by with_unfolding_all rfl) rfl (by decide) (fun _ => rfl) (fun _ => rfl) (fun _ _ => rfl) rfl rfl ?_
      repeat' first | (k_unfold; (try dsimp only)) | walk1 | (dsimp only; walk1) | (leave1; try dsimp only)
      rename IsRange _ _ _ _ _ _ _ _ => hR
      rename News _ _ _ _ => hN3
      rename Fr _ _ _ _ => hF3
      refine ⟨_, sz, _, _, _, sz.toNat, _, rfl, rfl, hF3, news_aiefgj hN3, hR, rng_small (by omega) (by omega), rng_size (by omega), ?_, ?_, ?_⟩
      · rw [sizeLine_eq]; omega
      · clear hR hN3 hF3
        intro k tk0 I C K D oI oC oK ys' h tk E' hk0 hk1 hdK lI lD lC lK hyl F2 N2
        refine bits_row hX hT F2 N2 hdK (by assumption) hI hf.1 hf.2 hsz hk0 hk1 ?_
        intro h' tk' z tz hz F' N'
        exact ⟨h', tk', z, tz, rfl, rfl, hz, F', N'⟩
      · clear hR hN3 hF3
        intro D2 ys2 zs2 h2 tk2 hIA2 hl2 hG2 lD2 F2 N2
        repeat' (first | (k_unfold; (try dsimp only)) | walk1 | (dsimp only; walk1) | (leave1; try dsimp only))
        exact law_6 hΓ hC hX hT hB F2 (news_xefgij N2) hD h1 (by assumption) h3 hIw hz hsz rfl rfl rfl hDC (ne_pack lD2) hIC hlc hcs hIA2 (by omega) hG2 hret
  · (try dsimp only)
    rename Fr _ _ _ _ => hFz
    exact law_6 hΓ hC hX hT hB hFz hN hD h1 h2 h3 hIw hz hsz rfl rfl rfl hDC hDP hIC hlc hcs hIP hlp hps hret
end Mine
end

/-! ### part L4 -/
section
open PySem PySem.W PySem.Calls PyProof.Rows
namespace Mine
local macro_rules | `(tactic| walk_at "binaryOp FloorDiv int int") => `(tactic| (k_here; (with_reducible show wpAny _ _ (binaryOp _ _ (Value.int (256 ^ Int.toNat _) _)) _ _ _); (refine floordiv_int (ne256 _) ?_ (Or.inl (PyProof.noPylong_of_log2 (p256 ?kbp)))); (case kbp => omega)))
set_option maxRecDepth 100000 in
set_option maxHeartbeats 80000000 in
theorem law_4 : ∀ {w : World} {p : Program} {loose : List Str} {mean : ExcName → Option Value} {mg mb : Str → Option Value} {Γ : PySem.Ctx} {h₀ : Heap} {L D : Addr} {wc : List Value} {zs : List Int} {sz : Int} {tz : Tok} {c1 c2 c3 : Obj} {n : Nat} {m : Str → Option Value} {s : Shared} {R : Result → Shared → Prop}
    {DC : Addr} {ys : List Value} {cs : List Int}
    (hΓ : Γ.In (callerA.deeper (lawE L))) (hC : Clean Γ) (hX : (KK w.params).In h₀) (hT : Top p loose mean mg mb h₀) (hB : Below callerA h₀ [] h₀)
    (hF : Fr h₀ L s.heap (fun y => if y = PySem.Str.ofString "content" then some (.ref DC) else if y = PySem.Str.ofString "size" then some (.int sz tz) else m y))
    (hN : News h₀ L s.heap [(DC, LCg.lst ys), (D, PySem.W.listOf wc.toArray n), (L + 1 + 1 + 1, c3), (L + 1 + 1, c2), (L + 1, c1)]) (hD : @LT.lt Nat _ (L + 1 + 1 + 1) D)
    (h1 : c1.data = .cell (some (.ref D))) (h2 : c2.data = .cell none) (h3 : c3.data = .cell none)
    (hI : IntsAre wc zs) (hz : 3 ≤ zs.length ∧ zs.length ≤ 19) (hsz : 6 ≤ sz ∧ sz ≤ 10)
    (hDC : @Ne Nat D DC ∧ @Ne Nat (L + 1 + 1 + 1) DC ∧ @Ne Nat (L + 1 + 1) DC ∧ @Ne Nat (L + 1) DC) (hIC : IntsAre ys cs) (hlc : (cs.length : Int) = sz) (hcs : ∀ c ∈ cs, 0 ≤ c ∧ c < 256)
    (hret : ∀ h' m' tk, Fr h₀ L h' m' → R (.ok (.ret (.bool true))) { s with heap := h', toks := tk }),
    wpF (model PySem.Challenge.rw_bq0018_03.row.prog w) Γ (execs (lawB.drop 3) (lawE L)) (lawQ R) (lawX w R L) s := by
  k_fill
  intro w p loose mean mg mb Γ h₀ L D wc zs sz tz c1 c2 c3 n m s R DC ys cs hΓ hC hX hT hB hF hN hD h1 h2 h3 hI hz hsz hDC hIC hlc hcs hret
  refine' F_at (b' := _ :: _) (e' := envOfC _ ⟨_, _, _, _, _⟩ _ _ _) rfl rfl ?_
  unfold lawQ lawX lawE at *
  (try dsimp only [lawS] at *)
  refine F_stmt hΓ ?_
  k_steps
  rename News _ _ _ _ => hNz
  rename Fr _ _ _ _ => hFz
  rename IntsAre _ (List.map _ _) => hIz
  rename @Ne Nat DC _ ∧ _ => hOz
  have hp := pat_ok (zs := zs) hsz
  exact law_5 hΓ hC hX hT hB hFz hNz hD h1 h2 h3 hI hz hsz hDC hOz hIC hlc hcs hIz hp.1 hp.2 hret
end Mine
end

/-! ### part L3 -/
section
open PySem PySem.W PySem.Calls PyProof.Rows
namespace Mine
set_option maxRecDepth 100000 in
set_option maxHeartbeats 80000000 in
theorem law_3 : ∀ {w : World} {p : Program} {loose : List Str} {mean : ExcName → Option Value} {mg mb : Str → Option Value} {Γ : PySem.Ctx} {h₀ : Heap} {L D : Addr} {wc : List Value} {zs : List Int} {sz : Int} {tz : Tok} {c1 c2 c3 : Obj} {n : Nat} {m : Str → Option Value} {s : Shared} {R : Result → Shared → Prop}
    
    (hΓ : Γ.In (callerA.deeper (lawE L))) (hC : Clean Γ) (hX : (KK w.params).In h₀) (hT : Top p loose mean mg mb h₀) (hB : Below callerA h₀ [] h₀)
    (hF : Fr h₀ L s.heap (fun y => if y = PySem.Str.ofString "size" then some (.int sz tz) else m y))
    (hN : News h₀ L s.heap [(D, PySem.W.listOf wc.toArray n), (L + 1 + 1 + 1, c3), (L + 1 + 1, c2), (L + 1, c1)]) (hD : @LT.lt Nat _ (L + 1 + 1 + 1) D)
    (h1 : c1.data = .cell (some (.ref D))) (h2 : c2.data = .cell none) (h3 : c3.data = .cell none)
    (hI : IntsAre wc zs) (hz : 3 ≤ zs.length ∧ zs.length ≤ 19) (hsz : 6 ≤ sz ∧ sz ≤ 10)
    
    (hret : ∀ h' m' tk, Fr h₀ L h' m' → R (.ok (.ret (.bool true))) { s with heap := h', toks := tk }),
    wpF (model PySem.Challenge.rw_bq0018_03.row.prog w) Γ (execs (lawB.drop 2) (lawE L)) (lawQ R) (lawX w R L) s := by
  k_fill
  intro w p loose mean mg mb Γ h₀ L D wc zs sz tz c1 c2 c3 n m s R  hΓ hC hX hT hB hF hN hD h1 h2 h3 hI hz hsz  hret
  refine' F_at (b' := _ :: _) (e' := envOfC _ ⟨_, _, _, _, _⟩ _ _ _) rfl rfl ?_
  unfold lawQ lawX lawE at *
  (try dsimp only [lawS] at *)
  refine F_stmt hΓ ?_
  k_steps
  rename News _ _ _ _ => hNz
  rename Fr _ _ _ _ => hFz
  rename IntsAre _ (List.map _ _) => hIz
  rename @Ne Nat D _ ∧ _ => hOz
  have hp := cont_ok (zs := zs) hsz
  exact law_4 hΓ hC hX hT hB hFz hNz hD h1 h2 h3 hI hz hsz hOz hIz hp.1 hp.2 hret
end Mine
end

/-! ### part L1 -/
section
open PySem PySem.W PySem.Calls PyProof.Rows
namespace Mine
local macro_rules | `(tactic| walk_at "an idle row") => `(tactic| fail "idle")
local macro_rules | `(tactic| walk_at "subscriptTail Name Slice ref ref") => `(tactic| (k_here; (with_reducible show wpAny _ _ (subscriptTail _ (PySem.Expr.Slice _ _ none _) (Value.ref _) (Value.ref _)) _ _ _); k_dflt (refine' kmk_slice_ints (vs := [Value.int 0 _, Value.int 0 _, Value.int 0 _]) (ns := [0, 0, 0]) ?F ?N ?l ?p ?q ?i ?m rfl ?_ ?s ?t ?z; (case F => k_asm); (case N => k_asm); (case l => kmk_list); (case p => kmk_part); (case q => kmk_part); (case i => l_ints); (case m => exact kmk_from (by l_ints) (by omega)); (case s => with_unfolding_all rfl); (case t => kmk_pure); (case z => kmk_size)); intro D' ws' h' F' N' l1 hI' hC' hL'; (try k_lt l1); (try k_sweep)))
set_option maxRecDepth 100000 in
set_option maxHeartbeats 80000000 in
theorem law_F : ∀ {w : World} {p : Program} {loose : List Str} {mean : ExcName → Option Value} {mg mb : Str → Option Value} {Γ : PySem.Ctx} {l : Addr} {vals : List Value} {ns : List Int} {s : Shared} {R : Result → Shared → Prop}
    (hc : Γ.code = .call (.ref 702) ⟨[.ref l], []⟩) (hΓ : Γ.Below callerA) (hC : Clean Γ) (hX : (KK w.params).In s.heap) (hT : Top p loose mean mg mb s.heap)
    (hl : s.heap.IsList l vals.toArray) (hI : IntsAre vals ns) (hlen : ns.length ≤ 63)
    (hret : ∀ L h' m tk, Fr s.heap L h' m → R (.ok (.ret (.bool true))) { s with heap := h', toks := tk }),
    codeF (model PySem.Challenge.rw_bq0018_03.row.prog w) Γ R s := by
  k_fill
  intro w p loose mean mg mb Γ l vals ns s R hc hΓ hC hX hT hl hI hlen hret
  have hB := below_caller (Top.heap hT)
  refine' F_defC hc hΓ hX hT ?kF ?kK ?k8 ?kb ?kk ?kn ?c2 ?c3 ?c4 ?_
  case kF => exact rfl
  case kK => exact rfl
  case k8 => decide +kernel
  case kb => exact rfl
  case kk => exact kinds_of (by kinds_ok)
  case kn => decide
  case c2 => exact rfl
  case c3 => exact rfl
  case c4 => exact rfl
  k_whole
  intro h₁ tk cells F N X0 hΓ1
  cells_open X0
  have hC1 := clean_of hC hΓ1 rfl
  generalize Γ.goto _ = Γ1 at hΓ1 hC1 ⊢
  clear hc hΓ hC
  refine F_stmt hΓ1 ?_
  k_steps
  (try dsimp only)
  refine F_stmt hΓ1 ?_
  k_steps
  (try dsimp only)
  rename News _ _ _ _ => hNz
  rename Fr _ _ _ _ => hFz
  rename IntsAre _ (_ ++ _) => hIz
  exact law_3 hΓ1 hC1 hX hT hB hFz (news_afgh hNz) (by omega) (by assumption) (by assumption) (by assumption) hIz (cells_len ns) (size_ok _) (fun h' m' tk F => hret _ h' m' tk F)
end Mine
end

/-! ### the head and the law -/
section
open PySem PySem.W PySem.Calls PyProof.Rows
namespace Mine
set_option maxRecDepth 100000 in
set_option maxHeartbeats 80000000 in
theorem fin : PySem.Challenge.rw_bq0018_03.Holds := by
  w_on; o_law; o_head (kHook Mine.KK Mine.ka (fun _ => by kernel_rfl)); (case hw => w_witness2)
  k_fill
  intro w s₀ s₁ mg mb G Y fa o pm cd doc dV kV ho hd hcd hD hmg hg args vals as hpre hlay hrd hwl hlo
  have KX := kIn_of Y
  have X := (Ground.X G).1
  have V := (Ground.X G).2
  refine Ground.open G ?_
  intro T B D TE TW
  try (refine guard_noD D (by decide +kernel) ?_; clear D)
  have hfa : fa = 702 := by
    have h1 : mg (PySem.Str.ofString "law") = some (.ref fa) := hmg
    have h2 : mg (PySem.Str.ofString "law") = some (.ref 702) := mg_of KX T.g (n := PySem.Str.ofString "law") (by k_is)
    rw [h2] at h1
    exact (Value.ref.inj (Option.some.inj h1)).symm
  wrow_args hpre hlay hrd hwl hlo
  dsimp only
  refine gd_any ?_ (fun Γ hΓ hC => F_call fun p => ?_)
  · refine ⟨.inl ⟨.bool true, .bool true, [], rfl, raisesW_false ?_, ReadsW.bool true, ?_, fun _ => ⟨List.nodup_nil, fun a h => nomatch h⟩⟩, .of_keep (fun _ _ e => e), rfl, .of_eq hg⟩
    · wrow_none_raised
    · wrow_post
  · subst hfa
    refine codeF_mono (R := GoodWG Challenge.rw_bq0018_03.row.claim (classAt s₀.heap) (ExcName.means s₀.heap) _ s₁) ?_ (fun res s' g => by rcases g.1 with ⟨v, _, _, rfl, _⟩ | ⟨e, _, _, rfl, _⟩ <;> exact g)
    refine law_F rfl (hΓ.enter _ none p (by intro x; cases x)) (hC.enter rfl) KX T (by assumption) (by assumption) (by omega) fun L h' m tk F => ?_
    refine GoodW.toG (goodW_bool F hg (raisesW_false ?_) ?_)
    · wrow_none_raised
    · wrow_post
end Mine
end

theorem PySem.Challenge.cw_bq0018_03_holds : PySem.Challenge.rw_bq0018_03.Holds :=
  Mine.fin
