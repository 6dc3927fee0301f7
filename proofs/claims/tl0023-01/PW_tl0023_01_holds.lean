import PyProof.Rows.All
import Wide.All
import OpenK.AllK
import Wide.FinOn
import PySem.Challenge.RW_tl0023_01
set_option Elab.async false
namespace Mine
open PySem PySem.W PyProof.Rows
section
open PySem PySem.W PyProof.Rows
set_option maxRecDepth 100000
set_option maxHeartbeats 8000000
def keepL (l : List Stmt) : List Stmt := (l.drop 1).take 7 ++ ((l.drop 13).take 8 ++ (l.drop 22).take 6)
def view : Program := { PySem.Challenge.pw_tl0023_01 with main := { PySem.Challenge.pw_tl0023_01.main with body := keepL PySem.Challenge.pw_tl0023_01.main.body } }
local macro_rules | `(tactic| o_law) => `(tactic| refine holds_law (by decide +kernel) fun said => ?_)
local macro_rules | `(tactic| o_head $H) => `(tactic| (
  refine holds_open (q := Mine.view) (loose := [Str.ofString "bisect_right", Str.ofString "insort_left", Str.ofString "bisect_left"]) (Xt := fun s => xlAt Mine.view [] s && recOk (RowW.records (OpenRow.toRowW (OpenLaw.row PySem.Challenge.rw_tl0023_01))) s) (XP := XL Mine.view []) (Yf := Hook.obs $H) (Ya := Hook.val $H) (YP := Hook.says $H) (N := 1718) ?hl (Hook.of $H) (Hook.keeps $H) (fun s e => xl_of s (Bool.and_eq_true_iff.mp e).1) XL.keeps (by rfl) (by rfl) (by rfl) (fun s e => recFacts_of (Bool.and_eq_true_iff.mp e).2) (by rfl) (by first | assumption | decide +kernel) (by decide +kernel) ⟨rfl, rfl, rfl, rfl, rfl, by decide +kernel⟩ ?hw ?hc
  case hl => (intro w; kernel_rfl)
  case' hw => (rename _ = true => q9; clear q9)
  case' hc => (rename _ = true => q9; clear q9)))
open_top hd for PySem.Challenge.rw_tl0023_01
end
section
open PySem PySem.W PyProof.Rows
theorem two_pos (k : Nat) : (0 : Int) < 2 ^ k := kbt_pos k
theorem bits_of {x : Int} {m : Nat} (h0 : 0 ≤ x) (h : x < 2 ^ m) : Builtin.Int.intBits x ≤ m := by
  refine intBits_le_iff.mpr ?_
  have : ((x.natAbs : Nat) : Int) < ((2 ^ m : Nat) : Int) := by rw [kbt_cast]; omega
  exact Int.ofNat_lt.mp this
theorem of_bits {x : Int} {m : Nat} (h : Builtin.Int.intBits x ≤ m) : x < 2 ^ m ∧ -(2 ^ m) < x := by
  have := intBits_le_iff.mp h
  have : ((x.natAbs : Nat) : Int) < ((2 ^ m : Nat) : Int) := Int.ofNat_lt.mpr this
  rw [kbt_cast] at this
  omega
theorem fdiv_pow (a : Int) (k : Nat) : a.fdiv (2 ^ k) = a / 2 ^ k := Int.fdiv_eq_ediv_of_nonneg _ (Int.le_of_lt (two_pos k))
theorem fmod_pow (a : Int) (k : Nat) : a.fmod (2 ^ k) = a % 2 ^ k := Int.fmod_eq_emod_of_nonneg _ (Int.le_of_lt (two_pos k))
/-- or of a number shifted and one below: their sum -/
theorem or_low (q : Int) {r : Int} (k : Nat) (hq : 0 ≤ q) (h0 : 0 ≤ r) (h1 : r < 2 ^ k) : Builtin.bitOr (q * 2 ^ k) r = q * 2 ^ k + r := by
  obtain ⟨a, rfl⟩ := Int.eq_ofNat_of_zero_le hq
  obtain ⟨b, rfl⟩ := Int.eq_ofNat_of_zero_le h0
  have hb : b < 2 ^ k := by
    have : ((b : Nat) : Int) < ((2 ^ k : Nat) : Int) := by rw [kbt_cast]; exact h1
    exact Int.ofNat_lt.mp this
  have e : ((a : Nat) : Int) * 2 ^ k = ((a * 2 ^ k : Nat) : Int) := by rw [Int.natCast_mul, kbt_cast]
  rw [e]
  have hs : Builtin.bitOr ((a * 2 ^ k : Nat) : Int) ((b : Nat) : Int) = (((a * 2 ^ k) ||| b : Nat) : Int) := by
    unfold Builtin.bitOr Builtin.bitAnd Builtin.bitNot
    have h1 : decide ((0:Int) ≤ -((a * 2 ^ k : Nat) : Int) - 1) = false := decide_eq_false (by omega)
    have h2 : decide ((0:Int) ≤ -((b : Nat) : Int) - 1) = false := decide_eq_false (by omega)
    rw [h1, h2]
    dsimp only
    have e1 : (-(-((a * 2 ^ k : Nat) : Int) - 1) - 1).toNat = a * 2 ^ k := by omega
    have e2 : (-(-((b : Nat) : Int) - 1) - 1).toNat = b := by omega
    rw [e1, e2]
    omega
  rw [hs]
  have : (a * 2 ^ k) ||| b = a * 2 ^ k + b := by
    rw [Nat.mul_comm, Nat.two_pow_add_eq_or_of_lt hb]
  rw [this]
  omega
theorem xor_low (x : Int) (k : Nat) (h0 : 0 ≤ x) : Builtin.bitXor x (x.fdiv (2 ^ k) * 2 ^ k) = x % 2 ^ k := by
  rw [bitXor_and]
  have hp := two_pos k
  rw [fdiv_pow]
  have h1 : 0 ≤ x / 2 ^ k := Int.ediv_nonneg h0 (Int.le_of_lt hp)
  have h2 : 0 ≤ x % 2 ^ k := Int.emod_nonneg _ (by omega)
  have h3 : x % 2 ^ k < 2 ^ k := Int.emod_lt_of_pos _ hp
  have e := Int.mul_ediv_add_emod x (2 ^ k)
  have e' : x / 2 ^ k * 2 ^ k + x % 2 ^ k = x := by rw [Int.mul_comm]; exact e
  have o := or_low (x / 2 ^ k) k h1 h2 h3
  have key : Builtin.bitAnd x (x / 2 ^ k * 2 ^ k) = x / 2 ^ k * 2 ^ k := by
    obtain ⟨a, ha⟩ := Int.eq_ofNat_of_zero_le h1
    obtain ⟨b, hb⟩ := Int.eq_ofNat_of_zero_le h2
    have hbl : b < 2 ^ k := by
      have : ((b : Nat) : Int) < ((2 ^ k : Nat) : Int) := by rw [kbt_cast, ← hb]; exact h3
      exact Int.ofNat_lt.mp this
    have ex : x = ((2 ^ k * a + b : Nat) : Int) := by
      rw [Int.natCast_add, Int.natCast_mul, kbt_cast, ← ha, ← hb]; exact e.symm
    have ey : x / 2 ^ k * 2 ^ k = ((2 ^ k * a : Nat) : Int) := by rw [ha, Int.natCast_mul, kbt_cast, Int.mul_comm]
    rw [ey]
    conv => lhs; arg 1; rw [ex]
    unfold Builtin.bitAnd
    have h1 : decide ((0:Int) ≤ ((2 ^ k * a + b : Nat) : Int)) = true := decide_eq_true (by omega)
    have h2 : decide ((0:Int) ≤ ((2 ^ k * a : Nat) : Int)) = true := decide_eq_true (by omega)
    rw [h1, h2]
    dsimp only
    rw [Int.toNat_natCast, Int.toNat_natCast]
    congr 1
    rw [Nat.two_pow_add_eq_or_of_lt hbl]
    apply Nat.eq_of_testBit_eq
    intro i
    simp only [Nat.testBit_and, Nat.testBit_or]
    cases (2 ^ k * a).testBit i <;> simp
  rw [key]
  omega

/-! the division by halves: its arithmetic -/
def Pre21 (k : Nat) (a b n : Int) : Prop := 1 ≤ n ∧ n ≤ ((4000 * 2 ^ k : Nat) : Int) ∧ (2 : Int) ^ n.toNat ≤ 2 * b ∧ b < 2 ^ n.toNat ∧ 0 ≤ a ∧ a < b * 2 ^ n.toNat
def Pre32 (k : Nat) (a12 a3 b b1 b2 n : Int) : Prop := 1 ≤ n ∧ n ≤ ((4000 * 2 ^ k : Nat) : Int) ∧ b = b1 * 2 ^ n.toNat + b2 ∧ 0 ≤ b2 ∧ b2 < 2 ^ n.toNat ∧ (2 : Int) ^ n.toNat ≤ 2 * b1 ∧ b1 < 2 ^ n.toNat ∧ 0 ≤ a3 ∧ a3 < 2 ^ n.toNat ∧ 0 ≤ a12 ∧ a12 < b
theorem len_le {k : Nat} (hk : k ≤ 10) {n : Int} (h : n ≤ ((4000 * 2 ^ k : Nat) : Int)) : n ≤ 4096000 := by
  have h2 : 2 ^ k ≤ 2 ^ 10 := Nat.pow_le_pow_right (by decide) hk
  have : (2:Nat) ^ 10 = 1024 := rfl
  omega
theorem pow_toNat_le {n : Int} {m : Nat} (h : n ≤ (m : Int)) : (2 : Int) ^ n.toNat ≤ 2 ^ m := by
  rw [← kbt_cast, ← kbt_cast]
  exact Int.ofNat_le.mpr (Nat.pow_le_pow_right (by decide) (by omega))
theorem bits_small {x n : Int} (h0 : 0 ≤ x) (h : x < 2 ^ n.toNat) (hn : n ≤ 60000000) : Builtin.Int.intBits x ≤ 60000000 :=
  Nat.le_trans (bits_of h0 h) (by omega)
section
variable {k : Nat} {a12 a3 b b1 b2 n q r : Int}
theorem Pre32.b1pos (P : Pre32 k a12 a3 b b1 b2 n) : 0 < b1 := by
  obtain ⟨h1, h2, h3, h4, h5, h6, h7, h8, h9, h10, h11⟩ := P
  have := two_pos n.toNat
  omega
theorem Pre32.bpos (P : Pre32 k a12 a3 b b1 b2 n) : 0 < b := by
  have h := P.b1pos
  obtain ⟨h1, h2, h3, h4, h5, h6, h7, h8, h9, h10, h11⟩ := P
  have := Int.mul_pos h (two_pos n.toNat)
  omega
theorem Pre32.pre21 (P : Pre32 k a12 a3 b b1 b2 n) (hne : a12.fdiv (2 ^ n.toNat) ≠ b1) : Pre21 k a12 b1 n := by
  obtain ⟨h1, h2, h3, h4, h5, h6, h7, h8, h9, h10, h11⟩ := P
  refine ⟨h1, h2, h6, h7, h10, ?_⟩
  rw [fdiv_pow] at hne
  have hp := two_pos n.toNat
  have e := Int.mul_ediv_add_emod a12 (2 ^ n.toNat)
  have m0 := Int.emod_nonneg a12 (by omega : (2 : Int) ^ n.toNat ≠ 0)
  have m1 := Int.emod_lt_of_pos a12 hp
  have hle : a12 / 2 ^ n.toNat < b1 + 1 := Int.ediv_lt_of_lt_mul hp (by rw [Int.add_mul]; omega)
  exact Int.lt_mul_of_ediv_lt hp (by omega)
theorem Pre32.szs (P : Pre32 k a12 a3 b b1 b2 n) (hk : k ≤ 10) : n ≤ 60000000 ∧ 0 ≤ n ∧ Builtin.Int.intBits b1 ≤ 60000000 ∧ Builtin.Int.intBits b2 ≤ 60000000 ∧ Builtin.Int.intBits (1 * 2 ^ n.toNat - 1) ≤ 60000000 := by
  have hb := P.b1pos
  obtain ⟨h1, h2, h3, h4, h5, h6, h7, h8, h9, h10, h11⟩ := P
  have hn := len_le hk h2
  have := two_pos n.toNat
  exact ⟨by omega, by omega, bits_small (by omega) h7 (by omega), bits_small h4 h5 (by omega), bits_small (n := n) (by omega) (by omega) (by omega)⟩
theorem Pre32.r1 (P : Pre32 k a12 a3 b b1 b2 n) (he : a12.fdiv (2 ^ n.toNat) = b1) : 0 ≤ a12 - b1 * 2 ^ n.toNat + b1 ∧ a12 - b1 * 2 ^ n.toNat + b1 < 2 * 2 ^ n.toNat := by
  have hb := P.b1pos
  obtain ⟨h1, h2, h3, h4, h5, h6, h7, h8, h9, h10, h11⟩ := P
  rw [fdiv_pow] at he
  have hp := two_pos n.toNat
  have e := Int.mul_ediv_add_emod a12 (2 ^ n.toNat)
  rw [he, Int.mul_comm] at e
  have m0 := Int.emod_nonneg a12 (by omega : (2 : Int) ^ n.toNat ≠ 0)
  have m1 := Int.emod_lt_of_pos a12 hp
  omega
theorem Pre32.r1b (P : Pre32 k a12 a3 b b1 b2 n) (hk : k ≤ 10) (he : a12.fdiv (2 ^ n.toNat) = b1) : Builtin.Int.intBits (a12 - b1 * 2 ^ n.toNat + b1) ≤ 60000000 := by
  have h := P.r1 he
  have hn := len_le hk P.2.1
  refine Nat.le_trans (bits_of (m := n.toNat + 1) h.1 ?_) (by have := P.1; omega)
  rw [Int.pow_succ]; omega
theorem Pre32.st1 (P : Pre32 k a12 a3 b b1 b2 n) (he : a12.fdiv (2 ^ n.toNat) = b1) :
    (1 * 2 ^ n.toNat - 1) * b + (Builtin.bitOr ((a12 - b1 * 2 ^ n.toNat + b1) * 2 ^ n.toNat) a3 - (1 * 2 ^ n.toNat - 1) * b2) = a12 * 2 ^ n.toNat + a3 ∧ Builtin.bitOr ((a12 - b1 * 2 ^ n.toNat + b1) * 2 ^ n.toNat) a3 - (1 * 2 ^ n.toNat - 1) * b2 < b := by
  have hr := P.r1 he
  obtain ⟨h1, h2, h3, h4, h5, h6, h7, h8, h9, h10, h11⟩ := P
  rw [or_low _ _ hr.1 h8 h9]
  generalize (2 : Int) ^ n.toNat = X at *
  have eb : b * X = b1 * X * X + b2 * X := by rw [h3, Int.add_mul]
  have e1 : (1 * X - 1) * b = b * X - b := by rw [Int.one_mul, Int.sub_mul, Int.one_mul, Int.mul_comm X b]
  have e2 : (1 * X - 1) * b2 = b2 * X - b2 := by rw [Int.one_mul, Int.sub_mul, Int.one_mul, Int.mul_comm X b2]
  have e3 : (a12 - b1 * X + b1) * X = a12 * X - b1 * X * X + b1 * X := by rw [Int.add_mul, Int.sub_mul]
  rw [e1, e2, e3]
  have h12 : a12 * X + X ≤ b * X := by
    have : (a12 + 1) * X ≤ b * X := Int.mul_le_mul_of_nonneg_right (by omega) (by omega)
    rw [Int.add_mul, Int.one_mul] at this
    exact this
  constructor <;> omega
theorem Pre32.st2 (P : Pre32 k a12 a3 b b1 b2 n) (h : q * b1 + r = a12) (h0 : 0 ≤ r) (hl : r < b1) :
    q * b + (Builtin.bitOr (r * 2 ^ n.toNat) a3 - q * b2) = a12 * 2 ^ n.toNat + a3 ∧ Builtin.bitOr (r * 2 ^ n.toNat) a3 - q * b2 < b := by
  have hb := P.b1pos
  obtain ⟨h1, h2, h3, h4, h5, h6, h7, h8, h9, h10, h11⟩ := P
  rw [or_low _ _ h0 h8 h9]
  generalize (2 : Int) ^ n.toNat = X at *
  have hq : 0 ≤ q := by
    rcases Int.lt_or_le q 0 with hq | hq
    · have : q * b1 ≤ -1 * b1 := Int.mul_le_mul_of_nonneg_right (by omega) (by omega)
      omega
    · exact hq
  have hqb : 0 ≤ q * b2 := Int.mul_nonneg hq h4
  have e1 : q * b = q * (b1 * X) + q * b2 := by rw [h3, Int.mul_add]
  have e2 : a12 * X = q * (b1 * X) + r * X := by rw [← h, Int.add_mul, Int.mul_assoc]
  have hr : r * X + X ≤ b1 * X := by
    have : (r + 1) * X ≤ b1 * X := Int.mul_le_mul_of_nonneg_right (by omega) (by omega)
    rw [Int.add_mul, Int.one_mul] at this
    exact this
  constructor <;> omega
theorem dm_bits {a : Int} (hb0 : 0 < b) (ha : 0 ≤ a) (hab : Builtin.Int.intBits a ≤ 60000000) (h : q * b + r = a) (h0 : 0 ≤ r) (hl : r < b) : Builtin.Int.intBits q ≤ 60000000 ∧ Builtin.Int.intBits r ≤ 60000000 ∧ 0 ≤ q := by
  have hq : 0 ≤ q := by
    rcases Int.lt_or_le q 0 with hq | hq
    · have : q * b ≤ -1 * b := Int.mul_le_mul_of_nonneg_right (by omega) (by omega)
      omega
    · exact hq
  have hqb : q * 1 ≤ q * b := Int.mul_le_mul_of_nonneg_left (by omega) hq
  exact ⟨intBits_le_of_natAbs (y := a) (by omega) hab, intBits_le_of_natAbs (y := a) (by omega) hab, hq⟩
theorem Pre21.abits {a : Int} (P : Pre21 k a b n) (hk : k ≤ 10) : Builtin.Int.intBits a ≤ 60000000 ∧ 0 < b ∧ 0 ≤ a := by
  obtain ⟨h1, h2, h3, h4, h5, h6⟩ := P
  have hn := len_le hk h2
  have hp := two_pos n.toNat
  refine ⟨Nat.le_trans (bits_of (m := n.toNat + n.toNat) h5 ?_) (by omega), by omega, h5⟩
  rw [Int.pow_add]
  exact Int.lt_of_lt_of_le h6 (Int.mul_le_mul_of_nonneg_right (by omega) (by omega))
/-- an even length: halves -/
def PreE (j : Nat) (a b n H : Int) : Prop := n = 2 * H ∧ 1 ≤ H ∧ H ≤ ((4000 * 2 ^ j : Nat) : Int) ∧ (2 : Int) ^ n.toNat ≤ 2 * b ∧ b < 2 ^ n.toNat ∧ 0 ≤ a ∧ a < b * 2 ^ n.toNat
theorem PreE.pw {j : Nat} {a H : Int} (P : PreE j a b n H) : (2 : Int) ^ n.toNat = 2 ^ H.toNat * 2 ^ H.toNat := by
  obtain ⟨h1, h2, _⟩ := P
  rw [← Int.pow_add]
  congr 1
  omega
theorem PreE.sz {j : Nat} {a H : Int} (P : PreE j a b n H) (hj : j ≤ 10) : 0 ≤ H ∧ H ≤ 60000000 ∧ 0 ≤ n ∧ 0 < b := by
  obtain ⟨h1, h2, h3, h4, h5, h6, h7⟩ := P
  have := len_le hj h3
  have := two_pos n.toNat
  omega
theorem mask_eq (x H : Int) : Builtin.bitAnd x (1 * 2 ^ H.toNat - 1) = x % 2 ^ H.toNat := by rw [Int.one_mul, kbt_mask]
theorem PreE.b12 {j : Nat} {a H : Int} (P : PreE j a b n H) : b = b.fdiv (2 ^ H.toNat) * 2 ^ H.toNat + Builtin.bitAnd b (1 * 2 ^ H.toNat - 1) ∧ 0 ≤ Builtin.bitAnd b (1 * 2 ^ H.toNat - 1) ∧ Builtin.bitAnd b (1 * 2 ^ H.toNat - 1) < 2 ^ H.toNat ∧ (2 : Int) ^ H.toNat ≤ 2 * b.fdiv (2 ^ H.toNat) ∧ b.fdiv (2 ^ H.toNat) < 2 ^ H.toNat := by
  have hpw := P.pw
  obtain ⟨h1, h2, h3, h4, h5, h6, h7⟩ := P
  rw [mask_eq, fdiv_pow]
  have hp := two_pos H.toNat
  have e := Int.mul_ediv_add_emod b (2 ^ H.toNat)
  have m0 := Int.emod_nonneg b (by omega : (2 : Int) ^ H.toNat ≠ 0)
  have m1 := Int.emod_lt_of_pos b hp
  rw [hpw] at h4 h5
  have e2 : (2 : Int) ^ H.toNat = 2 * 2 ^ (H.toNat - 1) := by
    rw [Int.mul_comm, ← Int.pow_succ]; congr 1; omega
  refine ⟨by rw [Int.mul_comm]; exact e.symm, m0, m1, ?_, Int.ediv_lt_of_lt_mul hp h5⟩
  have : (2 : Int) ^ (H.toNat - 1) ≤ b / 2 ^ H.toNat := by
    refine Int.le_ediv_of_mul_le hp ?_
    have e3 : (2 : Int) ^ H.toNat * 2 ^ H.toNat = 2 * (2 ^ (H.toNat - 1) * 2 ^ H.toNat) := by
      conv => lhs; arg 1; rw [e2]
      rw [Int.mul_assoc]
    omega
  omega
theorem PreE.first {j : Nat} {a H : Int} (P : PreE j a b n H) : Pre32 j (a.fdiv (2 ^ n.toNat)) (Builtin.bitAnd (a.fdiv (2 ^ H.toNat)) (1 * 2 ^ H.toNat - 1)) b (b.fdiv (2 ^ H.toNat)) (Builtin.bitAnd b (1 * 2 ^ H.toNat - 1)) H := by
  obtain ⟨e, e1, e2, e3, e4⟩ := P.b12
  obtain ⟨h1, h2, h3, h4, h5, h6, h7⟩ := P
  have hp := two_pos H.toNat
  have hpn := two_pos n.toNat
  refine ⟨h2, h3, e, e1, e2, e3, e4, ?_, ?_, ?_, ?_⟩
  · rw [mask_eq]; exact Int.emod_nonneg _ (by omega)
  · rw [mask_eq]; exact Int.emod_lt_of_pos _ hp
  · rw [fdiv_pow]; exact Int.ediv_nonneg h6 (by omega)
  · rw [fdiv_pow]; exact Int.ediv_lt_of_lt_mul hpn h7
theorem PreE.second {j : Nat} {a H : Int} (P : PreE j a b n H) (h0 : 0 ≤ r) (h1 : r < b) : Pre32 j r (Builtin.bitAnd a (1 * 2 ^ H.toNat - 1)) b (b.fdiv (2 ^ H.toNat)) (Builtin.bitAnd b (1 * 2 ^ H.toNat - 1)) H := by
  obtain ⟨e, e1, e2, e3, e4⟩ := P.b12
  obtain ⟨_, h2, h3, h4, h5, h6, h7⟩ := P
  have hp := two_pos H.toNat
  refine ⟨h2, h3, e, e1, e2, e3, e4, ?_, ?_, h0, h1⟩
  · rw [mask_eq]; exact Int.emod_nonneg _ (by omega)
  · rw [mask_eq]; exact Int.emod_lt_of_pos _ hp
theorem PreE.q1b {j : Nat} {a H q1 r1 : Int} (P : PreE j a b n H) (hj : j ≤ 10) (E1 : q1 * b + r1 = a.fdiv (2 ^ n.toNat) * 2 ^ H.toNat + Builtin.bitAnd (a.fdiv (2 ^ H.toNat)) (1 * 2 ^ H.toNat - 1)) (h0 : 0 ≤ r1) (h1 : r1 < b) :
    q1 * b + r1 = a / 2 ^ H.toNat ∧ Builtin.Int.intBits q1 ≤ 60000000 ∧ 0 ≤ q1 := by
  have hpw := P.pw
  obtain ⟨z1, z2, z3, z4⟩ := P.sz hj
  obtain ⟨g1, g2, g3, g4, g5, g6, g7⟩ := P
  have hH := len_le hj g3
  have hp := two_pos H.toNat
  have ea : a.fdiv (2 ^ n.toNat) * 2 ^ H.toNat + Builtin.bitAnd (a.fdiv (2 ^ H.toNat)) (1 * 2 ^ H.toNat - 1) = a / 2 ^ H.toNat := by
    rw [mask_eq, fdiv_pow, fdiv_pow, hpw, ← Int.ediv_ediv_of_nonneg (Int.le_of_lt hp), Int.mul_comm]
    exact Int.mul_ediv_add_emod _ _
  rw [ea] at E1
  have hA : 0 ≤ a / 2 ^ H.toNat := Int.ediv_nonneg g6 (by omega)
  have hAb : Builtin.Int.intBits (a / 2 ^ H.toNat) ≤ 60000000 := by
    have : a / 2 ^ H.toNat ≤ a := Int.ediv_le_self _ g6
    refine Nat.le_trans (bits_of (m := n.toNat + n.toNat) hA ?_) (by omega)
    have hp' := two_pos n.toNat
    have : b * 2 ^ n.toNat ≤ 2 ^ n.toNat * 2 ^ n.toNat := Int.mul_le_mul_of_nonneg_right (by omega) (by omega)
    rw [Int.pow_add]
    omega
  obtain ⟨d1, d2, d3⟩ := dm_bits z4 hA hAb E1 h0 h1
  exact ⟨E1, d1, d3⟩
theorem PreE.done {j : Nat} {a H q1 r1 q2 r2 : Int} (P : PreE j a b n H) (hj : j ≤ 10) (E1 : q1 * b + r1 = a / 2 ^ H.toNat) (hq1 : 0 ≤ q1) (h0 : 0 ≤ r1) (h1 : r1 < b)
    (E2 : q2 * b + r2 = r1 * 2 ^ H.toNat + Builtin.bitAnd a (1 * 2 ^ H.toNat - 1)) (h2 : 0 ≤ r2) (h3 : r2 < b) : Builtin.bitOr (q1 * 2 ^ H.toNat) q2 * b + r2 = a := by
  obtain ⟨z1, z2, z3, z4⟩ := P.sz hj
  rw [mask_eq] at E2
  have hp := two_pos H.toNat
  have m0 := Int.emod_nonneg a (by omega : (2 : Int) ^ H.toNat ≠ 0)
  have m1 := Int.emod_lt_of_pos a hp
  have e := Int.mul_ediv_add_emod a (2 ^ H.toNat)
  have hr : r1 * 2 ^ H.toNat + 2 ^ H.toNat ≤ b * 2 ^ H.toNat := by
    have : (r1 + 1) * 2 ^ H.toNat ≤ b * 2 ^ H.toNat := Int.mul_le_mul_of_nonneg_right (by omega) (by omega)
    rw [Int.add_mul, Int.one_mul] at this
    exact this
  have hr0 : 0 ≤ r1 * 2 ^ H.toNat := Int.mul_nonneg h0 (by omega)
  have hq2 : 0 ≤ q2 := by
    rcases Int.lt_or_le q2 0 with hq | hq
    · have : q2 * b ≤ -1 * b := Int.mul_le_mul_of_nonneg_right (by omega) (by omega)
      omega
    · exact hq
  have hq2' : q2 < 2 ^ H.toNat := by
    rcases Int.lt_or_le q2 (2 ^ H.toNat) with hq | hq
    · exact hq
    · have : 2 ^ H.toNat * b ≤ q2 * b := Int.mul_le_mul_of_nonneg_right hq (by omega)
      rw [Int.mul_comm] at this
      omega
  rw [or_low _ _ hq1 hq2 hq2', Int.add_mul]
  have e1 : q1 * 2 ^ H.toNat * b = (q1 * b) * 2 ^ H.toNat := by rw [Int.mul_assoc, Int.mul_comm (2 ^ H.toNat) b, ← Int.mul_assoc]
  have e2 : q1 * b * 2 ^ H.toNat = (a / 2 ^ H.toNat) * 2 ^ H.toNat - r1 * 2 ^ H.toNat := by rw [← Int.sub_mul]; congr 1; omega
  have e3 : a / 2 ^ H.toNat * 2 ^ H.toNat = 2 ^ H.toNat * (a / 2 ^ H.toNat) := Int.mul_comm _ _
  omega
theorem Pre21.big {a : Int} (P : Pre21 k a b n) (hne : ¬ ((Builtin.Int.intBits a : Int) - n ≤ 4000)) : 4001 ≤ n := by
  obtain ⟨h1, h2, h3, h4, h5, h6⟩ := P
  have hp := two_pos n.toNat
  have : Builtin.Int.intBits a ≤ n.toNat + n.toNat := by
    refine bits_of h5 ?_
    rw [Int.pow_add]
    exact Int.lt_of_lt_of_le h6 (Int.mul_le_mul_of_nonneg_right (by omega) (by omega))
  omega
theorem Pre21.even {j : Nat} {a : Int} (P : Pre21 (j + 1) a b n) (hne : ¬ ((Builtin.Int.intBits a : Int) - n ≤ 4000)) (he : Builtin.bitAnd n 1 = 0) : PreE j a b n (n.fdiv (2 ^ Int.toNat 1)) := by
  have hb := P.big hne
  obtain ⟨h1, h2, h3, h4, h5, h6⟩ := P
  rw [bitAnd_m1] at he
  rw [fdiv_pow]
  have e1 : (2 : Int) ^ Int.toNat 1 = 2 := rfl
  have e2 : 4000 * 2 ^ (j + 1) = 2 * (4000 * 2 ^ j) := by rw [Nat.pow_succ]; omega
  rw [e1]
  rw [e2] at h2
  exact ⟨by omega, by omega, by omega, h3, h4, h5, h6⟩
theorem Pre21.odd {j : Nat} {a : Int} (P : Pre21 (j + 1) a b n) (hne : ¬ ((Builtin.Int.intBits a : Int) - n ≤ 4000)) (he : Builtin.bitAnd n 1 ≠ 0) : PreE j (a * 2 ^ Int.toNat 1) (b * 2 ^ Int.toNat 1) (n + 1) ((n + 1).fdiv (2 ^ Int.toNat 1)) := by
  have hb := P.big hne
  obtain ⟨h1, h2, h3, h4, h5, h6⟩ := P
  rw [bitAnd_m1] at he
  rw [fdiv_pow]
  have e1 : (2 : Int) ^ Int.toNat 1 = 2 := rfl
  have e2 : 4000 * 2 ^ (j + 1) = 2 * (4000 * 2 ^ j) := by rw [Nat.pow_succ]; omega
  rw [e1]
  rw [e2] at h2
  have e3 : (n + 1).toNat = n.toNat + 1 := by omega
  have e4 : (2 : Int) ^ (n + 1).toNat = 2 ^ n.toNat * 2 := by rw [e3, Int.pow_succ]
  refine ⟨by omega, by omega, by omega, by rw [e4]; omega, by rw [e4]; omega, by omega, ?_⟩
  rw [e4]
  have : b * 2 * (2 ^ n.toNat * 2) = 4 * (b * 2 ^ n.toNat) := by
    rw [Int.mul_assoc, ← Int.mul_assoc 2, Int.mul_comm 2 (2 ^ n.toNat), Int.mul_assoc (2 ^ n.toNat), ← Int.mul_assoc b, Int.mul_comm]; rfl
  have hnn : 0 ≤ b * 2 ^ n.toNat := by omega
  omega
theorem odd_done {a q r : Int} (h : q * (b * 2 ^ Int.toNat 1) + r = a * 2 ^ Int.toNat 1) (h0 : 0 ≤ r) (h1 : r < b * 2 ^ Int.toNat 1) : q * b + r.fdiv (2 ^ Int.toNat 1) = a ∧ 0 ≤ r.fdiv (2 ^ Int.toNat 1) ∧ r.fdiv (2 ^ Int.toNat 1) < b := by
  rw [fdiv_pow]
  have e1 : (2 : Int) ^ Int.toNat 1 = 2 := rfl
  rw [e1] at h h1 ⊢
  rw [← Int.mul_assoc] at h
  omega
theorem direct_done {a : Int} (hb : 0 < b) : a.fdiv b * b + a.fmod b = a ∧ 0 ≤ a.fmod b ∧ a.fmod b < b := by
  rw [Int.fdiv_eq_ediv_of_nonneg _ (Int.le_of_lt hb), Int.fmod_eq_emod_of_nonneg _ (Int.le_of_lt hb), Int.mul_comm]
  exact ⟨Int.mul_ediv_add_emod _ _, Int.emod_nonneg _ (by omega), Int.emod_lt_of_pos _ hb⟩
theorem wh_turn {c : Int} (h : q * b + r = c) (_h2 : r < b) (hr : r < 0) : (q - 1) * b + (r + b) = c ∧ r + b < b := by
  rw [Int.sub_mul]; omega
end
end
section
open PySem PySem.W PyProof.Rows
set_option maxRecDepth 100000
set_option maxHeartbeats 8000000
/-- a call of the def at f from any def's frame: what it wants and what it hands back -/
def Tell (w : World) (f : Addr) (vs : List Value) (news : List (Addr × Obj)) (need : Nat) (Post : Value → List (Addr × Obj) → Prop) : Prop :=
  ∀ (p : Program) (loose : List Str) (mean : ExcName → Option Value) (mg mb : Str → Option Value) (dp un : Nat) (gd : Option (List Code)) (cn : Str) (cs : Scope) (a : Addr) (ccd : Value) (cl : List (Str × Addr)) (outer : List Env) (A₀ : Around) (base h₀ : Heap) (L : Addr) (m : Str → Option Value) (s : Shared)
    (Q E : Value → Shared → Prop),
    Below A₀ base outer h₀ → Fr h₀ L s.heap m → (Mine.hd.heap_1 w.params).In h₀ → News h₀ L s.heap news → Top p loose mean mg mb h₀ → base.NoSeer → CodeHd base 34 30 → CodeHd base 41 37 → cs.kind = .function → cs.isGenerator = false → cs.isCoroutine = false → dp + need + 102 < 1000 → un + 8 * need + 16 < 9900 →
    (∀ r news' h' tk', Fr h₀ L h' m → News h₀ L h' news' → Post r news' → Q r { s with heap := h', toks := tk' }) →
    wpAny (model PySem.Challenge.rw_tl0023_01.row.prog w) (ktrTop dp un gd cn cs L a ccd cl outer) (call (.ref f) vs) Q E s
theorem Tell.use {w : World} {f : Addr} {vs : List Value} {news : List (Addr × Obj)} {need : Nat} {Post : Value → List (Addr × Obj) → Prop} (C : Tell w f vs news need Post)
    {p : Program} {loose : List Str} {mean : ExcName → Option Value} {mg mb : Str → Option Value} {dp un : Nat} {gd : Option (List Code)} {cn : Str} {cs : Scope} {a : Addr} {ccd : Value} {cl : List (Str × Addr)} {outer : List Env} {A₀ : Around} {base h₀ : Heap} {L : Addr} {m : Str → Option Value} {s : Shared}
    {Q E : Value → Shared → Prop}
    (B : Below A₀ base outer h₀) (F : Fr h₀ L s.heap m) (X : (Mine.hd.heap_1 w.params).In h₀) (N : News h₀ L s.heap news) (T : Top p loose mean mg mb h₀) (S : base.NoSeer) (C1 : CodeHd base 34 30) (C2 : CodeHd base 41 37) (hk : cs.kind = .function) (hg : cs.isGenerator = false) (hc : cs.isCoroutine = false) (hd : dp + need + 102 < 1000) (hu : un + 8 * need + 16 < 9900)
    (ret : ∀ r news' h' tk', Fr h₀ L h' m → News h₀ L h' news' → Post r news' → Q r { s with heap := h', toks := tk' }) :
    wpAny (model PySem.Challenge.rw_tl0023_01.row.prog w) (ktrTop dp un gd cn cs L a ccd cl outer) (call (.ref f) vs) Q E s :=
  C _ _ _ _ _ _ _ _ _ _ _ _ _ _ _ _ _ _ _ _ _ _ B F X N T S C1 C2 hk hg hc hd hu ret
/-- room for a division that goes by _pylong, from a def's frame -/
theorem room {w : World} {dp un : Nat} {gd : Option (List Code)} {cn : Str} {cs : Scope} {a : Addr} {ccd : Value} {cl : List (Str × Addr)} {outer : List Env} {A₀ : Around} {base h₀ : Heap} {L : Addr} {m : Str → Option Value} {s : Shared} {p : Program} {loose : List Str} {mean : ExcName → Option Value} {mg mb : Str → Option Value}
    (B : Below A₀ base outer h₀) (F : Fr h₀ L s.heap m) (T : Top p loose mean mg mb h₀) (S : base.NoSeer) (hg : cs.isGenerator = false) (hc : cs.isCoroutine = false) (hd : dp + 100 < 1000) :
    PySem.PylongRoom (model PySem.Challenge.rw_tl0023_01.row.prog w) (ktrTop dp un gd cn cs L a ccd cl outer) s :=
  PySem.PylongRoom.of (T.nolimit.keeps F.keep) hd (PySem.SeerAt.of ((S.keeps B.stays).keeps F.keep) rfl rfl hg hc rfl rfl)
end
section
open PySem PySem.W PyProof.Rows
set_option maxRecDepth 100000
set_option maxHeartbeats 1000000
section
variable {prog : Program} {w : World} {A : Around} {E : Value → Shared → Prop} {s : Shared} {x n a b : Int} {t u : Tok} {Q : Value → Shared → Prop}
theorem lsh (hn : 0 ≤ n) (hx : Builtin.Int.intBits x ≤ 60000000) (hn' : n ≤ 60000000) (h : Q (.int (x * 2 ^ n.toNat) s.toks) { s with toks := s.toks + 1 }) :
    wpAny (model prog w) A (binaryOp .LShift (.int x t) (.int n u)) Q E s := lshift_int hn (by omega) h
theorem ilsh (hn : 0 ≤ n) (hx : Builtin.Int.intBits x ≤ 60000000) (hn' : n ≤ 60000000) (h : Q (.int (x * 2 ^ n.toNat) s.toks) { s with toks := s.toks + 1 }) :
    wpAny (model prog w) A (inplaceOp .LShift (.int x t) (.int n u)) Q E s := ilshift_int hn (by omega) h
theorem mulB (ha : Builtin.Int.intBits a ≤ 60000000) (hb : Builtin.Int.intBits b ≤ 60000000) (h : Q (.int (a * b) s.toks) { s with toks := s.toks + 1 }) :
    wpAny (model prog w) A (binaryOp .Mult (.int a t) (.int b u)) Q E s := mul_int h (IntMulOk.of_le ha hb (by decide))
theorem rsh (hn : 0 ≤ n) (h : Q (.int (x.fdiv (2 ^ n.toNat)) s.toks) { s with toks := s.toks + 1 }) :
    wpAny (model prog w) A (binaryOp .RShift (.int x t) (.int n u)) Q E s := rshift_int hn h
theorem irsh (hn : 0 ≤ n) (h : Q (.int (x.fdiv (2 ^ n.toNat)) s.toks) { s with toks := s.toks + 1 }) :
    wpAny (model prog w) A (inplaceOp .RShift (.int x t) (.int n u)) Q E s := irshift_int hn h
theorem dmR {h₀ : Heap} {L : Addr} {m : Str → Option Value} {news : List (Addr × Obj)} (F : Fr h₀ L s.heap m) (N : News h₀ L s.heap news) (hb : b ≠ 0) (hp : PySem.PylongRoom (model prog w) A s)
    (h : ∀ D h', Fr h₀ L h' m → News h₀ L h' ((D, { cls := .type "tuple", data := .seq #[.int (a.fdiv b) s.toks, .int (a.fmod b) (s.toks + 1)] }) :: news) → AllLt D news →
      Q (.ref D) { s with toks := s.toks + 1 + 1, heap := h' }) : wpAny (model prog w) A (call (.builtin "divmod") [.int a t, .int b u]) Q E s :=
  divmod_N F N hb (fun h' F' N' => h _ h' F' N' (allLt_of fun p hp => Heap.lt_size (N p hp).1)) (Or.inr hp)
theorem fdR (hb : b ≠ 0) (hp : PySem.PylongRoom (model prog w) A s) (h : Q (.int (a.fdiv b) s.toks) { s with toks := s.toks + 1 }) :
    wpAny (model prog w) A (binaryOp .FloorDiv (.int a t) (.int b u)) Q E s := floordiv_int hb h (Or.inr hp)
end
theorem ne_all {news : List (Addr × Obj)} {B c : Nat} (h : ∀ p ∈ news, @LT.lt Nat _ p.1 B) (hc : @LE.le Nat _ B c) : ∀ p ∈ news, p.1 ≠ c := fun p hp e => by
  have := h p hp
  rw [e] at this
  exact absurd this (Nat.not_lt.mpr hc)
theorem ne_all2 {news : List (Addr × Obj)} {B : Nat} (h : AllLt B news) : ∀ p ∈ news, p.1 ≠ B := ne_all (ktn_ltOf h) (Nat.le_refl _)
/-- a halt for the walk -/
def Halt (P : Prop) : Prop := P
theorem halt {P : Prop} (h : Halt P) : P := h
abbrev tupII (q : Int) (tq : Tok) (r : Int) (tr : Tok) : Obj := { cls := .type "tuple", data := .seq #[.int q tq, .int r tr] }
def PostDM (a b : Int) (news : List (Addr × Obj)) (v : Value) (news' : List (Addr × Obj)) : Prop :=
  ∃ t q tq r tr, v = .ref t ∧ news' = (t, tupII q tq r tr) :: news ∧ AllLt t news ∧ q * b + r = a ∧ 0 ≤ r ∧ r < b
def All21 (w : World) (k : Nat) : Prop := ∀ (a b n : Int) (ta tb tn : Tok) (news : List (Addr × Obj)), Pre21 k a b n → Tell w 21 [.int a ta, .int b tb, .int n tn] news (2 * k + 1) (PostDM a b news)
def All32 (w : World) (k : Nat) : Prop := ∀ (a12 a3 b b1 b2 n : Int) (t1 t2 t3 t4 t5 t6 : Tok) (news : List (Addr × Obj)), Pre32 k a12 a3 b b1 b2 n →
  Tell w 28 [.int a12 t1, .int a3 t2, .int b t3, .int b1 t4, .int b2 t5, .int n t6] news (2 * k + 2) (PostDM (a12 * 2 ^ n.toNat + a3) b news)
section
variable {h₀ : Heap} {L : Addr} {m : Str → Option Value} {news own : List (Addr × Obj)} {s : Shared} {Q : Value → Shared → Prop} {a b q r : Int} {tq tr : Tok} {D : Addr} {h' : Heap} {tk : Nat}
theorem dm_end (hret : ∀ r news' h' tk', Fr h₀ L h' m → News h₀ L h' news' → PostDM a b news r news' → Q r { s with heap := h', toks := tk' })
    (F : Fr h₀ L h' m) (N : News h₀ L h' ((D, tupII q tq r tr) :: (own ++ news))) (l : AllLt D news) (e : q * b + r = a ∧ 0 ≤ r ∧ r < b) : Q (.ref D) { s with heap := h', toks := tk } :=
  hret _ _ _ _ F (fun p hp => N p (by
    rcases List.mem_cons.mp hp with rfl | hp
    · exact .head _
    · exact .tail _ (List.mem_append.mpr (.inr hp)))) ⟨_, _, _, _, _, rfl, rfl, l, e⟩
end
end
section
open PySem PySem.W PyProof.Rows
set_option maxRecDepth 100000
set_option maxHeartbeats 1000000
/-- the table of a def's code objects: empty, or with the inner def's -/
def TabOK (P : Addr) (ln cl : Nat) (qual : Str) (news : List (Addr × Obj)) : Prop :=
  (P, tabObj #[]) ∈ news ∨ ∃ c oc vs t, (P, tabObj #[rawInt ln, rawInt cl, .ref c]) ∈ news ∧ (c, (oc : Obj)) ∈ news ∧ oc.data = .fields vs ∧ vs[1]? = some (.str qual t) ∧ @LT.lt Nat _ 37 c
def Keeps (P : Addr) (news news' : List (Addr × Obj)) : Prop := ∀ p ∈ news, p.1 ≠ P → p ∈ news'
theorem TabOK.lt {P B ln cl : Nat} {q : Str} {news : List (Addr × Obj)} (K : TabOK P ln cl q news) (h : ∀ p ∈ news, @LT.lt Nat _ p.1 B) : P < B := by
  rcases K with K | ⟨_, _, _, _, K, _⟩
  · exact h _ K
  · exact h _ K
theorem TabOK.keeps {P R ln cl : Nat} {q : Str} {news news' : List (Addr × Obj)} (K : TabOK R ln cl q news) (h : Keeps P news news') (hR : R ≠ P) (hP : P ≤ 37) : TabOK R ln cl q news' := by
  rcases K with K | ⟨c, oc, vs, t, k1, k2, k3, k4, k5⟩
  · exact .inl (h _ K hR)
  · exact .inr ⟨c, oc, vs, t, h _ k1 hR, h _ k2 (fun e => Nat.not_lt.mpr hP ((show c = P from e) ▸ k5)), k3, k4, k5⟩
/-- both tables as they must stand; what a call leaves of a ledger -/
def Tabs (news : List (Addr × Obj)) : Prop := TabOK 30 32 4 (Str.ofString "_int2digits.<locals>.inner") news ∧ TabOK 37 47 4 (Str.ofString "_digits2int.<locals>.inner") news
def Keeps2 (news news' : List (Addr × Obj)) : Prop := ∀ p ∈ news, p.1 ≠ 30 → p.1 ≠ 37 → p ∈ news'
theorem Tabs.sub {news news' : List (Addr × Obj)} (K : Tabs news) (h : ∀ p ∈ news, p ∈ news') : Tabs news' := by
  obtain ⟨K1, K2⟩ := K
  constructor
  · rcases K1 with K | ⟨c, oc, vs, t, k1, k2, k3, k4, k5⟩
    · exact .inl (h _ K)
    · exact .inr ⟨c, oc, vs, t, h _ k1, h _ k2, k3, k4, k5⟩
  · rcases K2 with K | ⟨c, oc, vs, t, k1, k2, k3, k4, k5⟩
    · exact .inl (h _ K)
    · exact .inr ⟨c, oc, vs, t, h _ k1, h _ k2, k3, k4, k5⟩
section
variable {M : Model} {A : Around} {E : Value → Shared → Prop} {s : Shared} {h₀ : Heap} {L a c P : Addr} {m mg mb : Str → Option Value} {cn : Str} {cs : Scope} {ccd : Value} {cl : List (Str × Addr)} {rest : List (Addr × Obj)}
  {p : Program} {loose : List Str} {mean : ExcName → Option Value} {name qual : Str} {params : Arguments} {body : List Stmt} {scope : Scope} {pos : Pos} {firstLine : Nat} {clos : List (Str × Addr)}
theorem mkAny (own : List (Addr × Obj)) {Q : Value → Shared → Prop} (F : Fr h₀ L s.heap m) (N : News h₀ L s.heap (own ++ rest)) (T : Top p loose mean mg mb h₀) (C : CodeHd h₀ c P) (hcd : ccd = .ref c) (K : TabOK P pos.line pos.col qual rest)
    (hP : ∀ q ∈ own, q.1 ≠ P) (hbig : ∃ q ∈ own, @LT.lt Nat _ 37 q.1) (hsep : ∀ q ∈ own, ∀ p ∈ rest, p.1 ≠ q.1) (hcl : closureFor scope (envX cn cs L a ccd cl) = pure clos)
    (h : ∀ f rest' c' oc vs t ctv doc h' tk, Fr h₀ L h' m → News h₀ L h' ((f, fnMade name qual params body scope clos doc ((mg "__name__").getD .none) c' ctv) :: (own ++ rest')) → Keeps P rest rest' →
      (P, tabObj #[rawInt pos.line, rawInt pos.col, .ref c']) ∈ rest' → (c', (oc : Obj)) ∈ rest' → oc.data = .fields vs → vs[1]? = some (.str qual t) → @LT.lt Nat _ 37 c' → (∀ q ∈ own, ∀ p ∈ rest', p.1 ≠ q.1) → AllLt f (own ++ rest') → Q (.ref f) { s with heap := h', toks := tk }) :
    wpAny M A (makeFunction name qual params (.stmts body) scope (envX cn cs L a ccd cl) [] [] [] pos firstLine) Q E s := by
  rcases K with K | ⟨c', oc, vs, t, k1, k2, k3, k4, k5⟩
  · have N' : News h₀ L s.heap (own ++ ((P, tabObj #[]) :: rest.filter (fun p => decide (p.1 ≠ P)))) := fun q hq => N q (by
      rcases List.mem_append.mp hq with hq | hq
      · exact List.mem_append.mpr (.inl hq)
      · rcases List.mem_cons.mp hq with rfl | hq
        · exact List.mem_append.mpr (.inr K)
        · exact List.mem_append.mpr (.inr (List.mem_filter.mp hq).1))
    have U : ∀ own : List (Addr × Obj), (∀ q ∈ own, q.1 ≠ P) → UpdF P (tabObj #[]) (own ++ ((P, tabObj #[]) :: rest.filter (fun p => decide (p.1 ≠ P)))) (fun o' => own ++ ((P, o') :: rest.filter (fun p => decide (p.1 ≠ P)))) := by
      intro own
      induction own with
      | nil => intro _; exact .head fun q hq => by simpa using (List.mem_filter.mp hq).2
      | cons q r ih => intro hq; exact .tail (hq q (.head _)) (ih fun x hx => hq x (.tail _ hx))
    refine nest_K F N' T C hcd (U own hP) trivial rfl hcl fun f c' oc vs t ctv doc h' tk F' N'' d1 d2 l1 l2 => ?_
    have lt : ∀ q ∈ own ++ rest, q.1 < c' := fun q hq => by
      by_cases e : q.1 = P
      · have := l1 (P, tabObj #[]) (List.mem_append.mpr (.inr (.head _)))
        rw [e]; exact this
      · refine l1 q ?_
        rcases List.mem_append.mp hq with hq | hq
        · exact List.mem_append.mpr (.inl hq)
        · exact List.mem_append.mpr (.inr (.tail _ (List.mem_filter.mpr ⟨hq, by simpa using e⟩)))
    refine h f ((c', oc) :: (P, tabObj (#[] ++ #[rawInt pos.line, rawInt pos.col, .ref c'])) :: rest.filter (fun p => decide (p.1 ≠ P))) c' oc vs t ctv doc h' tk F' (fun q hq => N'' q ?_) (fun q hq e => .tail _ (.tail _ (List.mem_filter.mpr ⟨hq, by simpa using e⟩)))
      (.tail _ (.head _)) (.head _) d1 d2 (by obtain ⟨q, hq, hq37⟩ := hbig; exact Nat.lt_trans hq37 (lt q (List.mem_append.mpr (.inl hq)))) (fun q hq x hx => ?_) (allLt_of fun q hq => ?_)
    · rcases List.mem_cons.mp hq with rfl | hq
      · exact .head _
      · refine .tail _ ?_
        rcases List.mem_append.mp hq with hq | hq
        · exact .tail _ (List.mem_append.mpr (.inl hq))
        · rcases List.mem_cons.mp hq with rfl | hq
          · exact .head _
          · exact .tail _ (List.mem_append.mpr (.inr hq))
    · rcases List.mem_cons.mp hx with rfl | hx
      · exact Nat.ne_of_gt (lt q (List.mem_append.mpr (.inl hq)))
      · rcases List.mem_cons.mp hx with rfl | hx
        · exact (hP q hq).symm
        · exact hsep q hq x (List.mem_filter.mp hx).1
    · rcases List.mem_append.mp hq with hq | hq
      · exact Nat.lt_trans (lt q (List.mem_append.mpr (.inl hq))) l2
      · rcases List.mem_cons.mp hq with rfl | hq
        · exact l2
        · rcases List.mem_cons.mp hq with rfl | hq
          · exact Nat.lt_trans (lt (P, tabObj #[]) (List.mem_append.mpr (.inr K))) l2
          · exact Nat.lt_trans (lt q (List.mem_append.mpr (.inr (List.mem_filter.mp hq).1))) l2
  · refine nestHit_K F N T C hcd (List.mem_append.mpr (.inr k1)) (show TriplesOk [rawInt pos.line, rawInt pos.col, .ref c'] from trivial) (show codeAmong pos [rawInt pos.line, rawInt pos.col, .ref c'] = some (.ref c') by simp [codeAmong, rawInt]) hcl fun f ctv doc h' tk F' N' l => ?_
    exact h f rest c' oc vs t ctv doc h' tk F' N' (fun q hq _ => hq) k1 k2 k3 k4 k5 hsep (allLt_of l)
end
section
variable {h₀ h : Heap} {L f D l1 a1 a2 a3 : Addr} {fo od ol o1 o2 o3 : Obj} {rest : List (Addr × Obj)}
theorem led_abs {goal : Prop} (N : News h₀ L h ((f, fo) :: (D, od) :: (l1, ol) :: (a3, o3) :: (a2, o2) :: (a1, o1) :: rest))
    (hne : ∀ p ∈ (f, fo) :: (l1, ol) :: (a3, o3) :: (a2, o2) :: (a1, o1) :: rest, p.1 ≠ D)
    (k : ∀ Dx R, Dx = D → (f, fo) ∈ R → (a3, o3) ∈ R → (a2, o2) ∈ R → (a1, o1) ∈ R → (∀ p ∈ rest, p ∈ R) → (∀ p ∈ R, p.1 ≠ Dx) → News h₀ L h ((Dx, od) :: R) → goal) : goal :=
  k D ((f, fo) :: (l1, ol) :: (a3, o3) :: (a2, o2) :: (a1, o1) :: rest) rfl (.head _) (.tail _ (.tail _ (.head _))) (.tail _ (.tail _ (.tail _ (.head _)))) (.tail _ (.tail _ (.tail _ (.tail _ (.head _)))))
    (fun p hp => .tail _ (.tail _ (.tail _ (.tail _ (.tail _ hp))))) hne fun p hp => N p (by
      rcases List.mem_cons.mp hp with rfl | hp
      · exact .tail _ (.head _)
      · rcases List.mem_cons.mp hp with rfl | hp
        · exact .head _
        · exact .tail _ (.tail _ hp))
end
/-- what inner of _int2digits makes of the list -/
def fillF (n : Int) : Nat → List Int → Int → Int → Int → List Int
  | 0, ns, x, lo, _ => ns.set lo.toNat x
  | k + 1, ns, x, lo, hi => if lo + 1 = hi then ns.set lo.toNat x else
      fillF n k (fillF n k ns (x % 2 ^ (((lo + hi) / 2 - lo) * n).toNat) lo ((lo + hi) / 2)) (x / 2 ^ (((lo + hi) / 2 - lo) * n).toNat) ((lo + hi) / 2) hi
theorem fillF_len (n : Int) : ∀ (k : Nat) (ns : List Int) (x lo hi : Int), (fillF n k ns x lo hi).length = ns.length
  | 0, _, _, _, _ => List.length_set ..
  | k + 1, ns, x, lo, hi => by
    unfold fillF
    split
    · exact List.length_set ..
    · rw [fillF_len n k, fillF_len n k]
theorem fill_base {n x lo hi : Int} {k : Nat} {ns : List Int} (h : lo + 1 = hi) : fillF n k ns x lo hi = ns.set lo.toNat x := by
  cases k with
  | zero => rfl
  | succ k => unfold fillF; rw [if_pos h]
theorem half_eq (x : Int) : x.fdiv (2 ^ Int.toNat 1) = x / 2 := fdiv_pow x 1
theorem fill_step {n x lo hi : Int} {k : Nat} {ns : List Int} (h : lo + 1 ≠ hi) (hx : 0 ≤ x) :
    fillF n (k + 1) ns x lo hi = fillF n k (fillF n k ns (Builtin.bitXor x (x.fdiv (2 ^ (((lo + hi).fdiv (2 ^ Int.toNat 1) - lo) * n).toNat) * 2 ^ (((lo + hi).fdiv (2 ^ Int.toNat 1) - lo) * n).toNat)) lo ((lo + hi).fdiv (2 ^ Int.toNat 1)))
      (x.fdiv (2 ^ (((lo + hi).fdiv (2 ^ Int.toNat 1) - lo) * n).toNat)) ((lo + hi).fdiv (2 ^ Int.toNat 1)) hi := by
  rw [xor_low _ _ hx, half_eq, fdiv_pow]
  conv => lhs; unfold fillF
  rw [if_neg h]
theorem low_up {x : Int} (S : Nat) (hx : 0 ≤ x) (hb : Builtin.Int.intBits x ≤ 60000000) : 0 ≤ Builtin.bitXor x (x.fdiv (2 ^ S) * 2 ^ S) ∧ Builtin.Int.intBits (Builtin.bitXor x (x.fdiv (2 ^ S) * 2 ^ S)) ≤ 60000000 ∧ 0 ≤ x.fdiv (2 ^ S) ∧ Builtin.Int.intBits (x.fdiv (2 ^ S)) ≤ 60000000 := by
  rw [xor_low _ _ hx, fdiv_pow]
  have hp := two_pos S
  have m0 := Int.emod_nonneg x (by omega : (2 : Int) ^ S ≠ 0)
  have q0 := Int.ediv_nonneg hx (Int.le_of_lt hp)
  have e := Int.mul_ediv_add_emod x (2 ^ S)
  have q1 := Int.ediv_le_self (2 ^ S) hx
  have pq := Int.mul_nonneg (Int.le_of_lt hp) q0
  exact ⟨m0, intBits_le_of_natAbs (y := x) (by omega) hb, q0, intBits_le_of_natAbs (y := x) (by omega) hb⟩
theorem mid_facts {lo hi n : Int} {k : Nat} (h0 : 0 ≤ lo) (h1 : lo < hi) (h2 : hi ≤ 200) (hn : 1 ≤ n) (h3 : hi * n ≤ 60000000) :
    lo ≤ (lo + hi).fdiv (2 ^ Int.toNat 1) ∧ (lo + hi).fdiv (2 ^ Int.toNat 1) < hi ∧ (lo + 1 ≠ hi → lo < (lo + hi).fdiv (2 ^ Int.toNat 1)) ∧ 0 ≤ ((lo + hi).fdiv (2 ^ Int.toNat 1) - lo) * n ∧ ((lo + hi).fdiv (2 ^ Int.toNat 1) - lo) * n ≤ 60000000 ∧
      Builtin.Int.intBits ((lo + hi).fdiv (2 ^ Int.toNat 1) - lo) ≤ 60000000 ∧ (lo + hi).fdiv (2 ^ Int.toNat 1) * n ≤ 60000000 ∧ (hi - lo ≤ ((2 ^ (k + 1) : Nat) : Int) → (lo + hi).fdiv (2 ^ Int.toNat 1) - lo ≤ ((2 ^ k : Nat) : Int) ∧ hi - (lo + hi).fdiv (2 ^ Int.toNat 1) ≤ ((2 ^ k : Nat) : Int)) := by
  rw [half_eq]
  have a1 : lo ≤ (lo + hi) / 2 := by omega
  have a2 : (lo + hi) / 2 < hi := by omega
  have a3 : ((lo + hi) / 2 - lo) * n ≤ hi * n := Int.mul_le_mul_of_nonneg_right (by omega) (by omega)
  have a4 : (lo + hi) / 2 * n ≤ hi * n := Int.mul_le_mul_of_nonneg_right (by omega) (by omega)
  have a5 : 0 ≤ ((lo + hi) / 2 - lo) * n := Int.mul_nonneg (by omega) (by omega)
  refine ⟨a1, a2, fun _ => by omega, a5, by omega, Nat.le_trans (bits_of (m := 8) (by omega) (by have : (2:Int) ^ 8 = 256 := rfl; omega)) (by decide), by omega, fun h => ?_⟩
  have e : 2 ^ (k + 1) = 2 * 2 ^ k := by rw [Nat.pow_succ]; omega
  rw [e] at h
  have : 0 < 2 ^ k := Nat.pow_pos (by decide)
  generalize 2 ^ k = Z at *
  omega
/-- the digits that _int2digits makes -/
def digF (a n : Int) : List Int := if a = 0 then [] else fillF n 8 (List.replicate (((Builtin.Int.intBits a : Int) + n - 1).fdiv n).toNat [0]).flatten a 0 (((Builtin.Int.intBits a : Int) + n - 1).fdiv n)
def Post35 (a n : Int) (news : List (Addr × Obj)) (r : Value) (news' : List (Addr × Obj)) : Prop :=
  ∃ l vs rest, r = .ref l ∧ IntsAre vs (digF a n) ∧ news' = (l, PySem.W.listOf vs.toArray 0) :: rest ∧ Keeps2 news rest ∧ Tabs rest ∧ ∀ p ∈ news, p.1 < l
def Pre35 (a n : Int) : Prop := 0 ≤ a ∧ 1 ≤ n ∧ Builtin.Int.intBits a ≤ 60000000 ∧ Builtin.Int.intBits n ≤ 60000000 ∧ 0 ≤ ((Builtin.Int.intBits a : Int) + n - 1).fdiv n ∧ ((Builtin.Int.intBits a : Int) + n - 1).fdiv n ≤ 200 ∧ ((Builtin.Int.intBits a : Int) + n - 1).fdiv n * n ≤ 60000000
theorem digs_pos {a n : Int} (P : Pre35 a n) (h : a ≠ 0) : 0 < ((Builtin.Int.intBits a : Int) + n - 1).fdiv n := by
  obtain ⟨h0, h1, _⟩ := P
  rw [Int.fdiv_eq_ediv_of_nonneg _ (by omega)]
  have hb : 1 ≤ Builtin.Int.intBits a := by
    unfold Builtin.Int.intBits
    rw [if_neg (by simpa using h)]
    omega
  have := Int.le_ediv_of_mul_le (a := 1) (b := (Builtin.Int.intBits a : Int) + n - 1) (c := n) (by omega) (by omega)
  omega
theorem digs_zero {n : Int} (h1 : 1 ≤ n) : ((Builtin.Int.intBits 0 : Int) + n - 1).fdiv n = 0 := by
  have e : Builtin.Int.intBits 0 = 0 := rfl
  rw [e, Int.fdiv_eq_ediv_of_nonneg _ (by omega)]
  exact Int.ediv_eq_zero_of_lt (by omega) (by omega)
theorem news_dup {h₀ h : Heap} {L : Addr} {q : Addr × Obj} {led : List (Addr × Obj)} (N : News h₀ L h led) (hm : List.Mem q led) : News h₀ L h (q :: led) := fun p hp => by
  rcases List.mem_cons.mp hp with rfl | hp
  · exact N p hm
  · exact N p hp
theorem dup_abs {h₀ h : Heap} {L : Addr} {x0 q x1 x2 x3 x4 : Addr × Obj} {rest : List (Addr × Obj)} (N : News h₀ L h (x0 :: q :: x1 :: x2 :: x3 :: x4 :: rest)) : ∃ R, News h₀ L h (q :: R) ∧ ∀ p ∈ rest, p ∈ R :=
  ⟨x0 :: q :: x1 :: x2 :: x3 :: x4 :: rest, news_dup N (.tail _ (.head _)), fun _ hp => .tail _ (.tail _ (.tail _ (.tail _ (.tail _ (.tail _ hp)))))⟩
/-- what inner of _digits2int tells -/
def joinF (n : Int) (ns : List Int) : Nat → Int → Int → Int
  | 0, lo, _ => ns.getD lo.toNat 0
  | k + 1, lo, hi => if lo + 1 = hi then ns.getD lo.toNat 0 else
      joinF n ns k ((lo + hi) / 2) hi * 2 ^ (((lo + hi) / 2 - lo) * n).toNat + joinF n ns k lo ((lo + hi) / 2)
theorem join_base {n lo hi : Int} {k : Nat} {ns : List Int} (h : lo + 1 = hi) : joinF n ns k lo hi = ns.getD lo.toNat 0 := by
  cases k with
  | zero => rfl
  | succ k => unfold joinF; rw [if_pos h]
theorem join_step {n lo hi : Int} {k : Nat} {ns : List Int} (h : lo + 1 ≠ hi) :
    joinF n ns (k + 1) lo hi = joinF n ns k ((lo + hi).fdiv (2 ^ Int.toNat 1)) hi * 2 ^ (((lo + hi).fdiv (2 ^ Int.toNat 1) - lo) * n).toNat + joinF n ns k lo ((lo + hi).fdiv (2 ^ Int.toNat 1)) := by
  rw [half_eq]
  conv => lhs; unfold joinF
  rw [if_neg h]
def Digs (n : Int) (ns : List Int) : Prop := ∀ d ∈ ns, 0 ≤ d ∧ d < 2 ^ n.toNat
theorem Digs.get {n : Int} {ns : List Int} (D : Digs n ns) (i : Nat) : 0 ≤ ns.getD i 0 ∧ ns.getD i 0 < 2 ^ n.toNat := by
  rw [List.getD_eq_getElem?_getD]
  cases h : ns[i]? with
  | none => exact ⟨Int.le_refl _, two_pos _⟩
  | some d => exact D d (List.mem_of_getElem? h)
theorem join_bound {n : Int} {ns : List Int} (hn : 1 ≤ n) (D : Digs n ns) : ∀ (k : Nat) (lo hi : Int), lo < hi → hi - lo ≤ ((2 ^ k : Nat) : Int) → 0 ≤ joinF n ns k lo hi ∧ joinF n ns k lo hi < 2 ^ ((hi - lo) * n).toNat
  | 0, lo, hi, h1, h2 => by
    have e : hi - lo = 1 := by have : 2 ^ 0 = 1 := rfl; omega
    rw [e, Int.one_mul]
    exact D.get _
  | k + 1, lo, hi, h1, h2 => by
    by_cases hb : lo + 1 = hi
    · rw [join_base hb, show hi - lo = 1 by omega, Int.one_mul]
      exact D.get _
    · unfold joinF
      rw [if_neg hb]
      have e2 : 2 ^ (k + 1) = 2 * 2 ^ k := by rw [Nat.pow_succ]; omega
      have hp : 0 < 2 ^ k := Nat.pow_pos (by decide)
      rw [e2] at h2
      obtain ⟨p1, p2⟩ := join_bound hn D k ((lo + hi) / 2) hi (by omega) (by generalize 2 ^ k = Z at *; omega)
      obtain ⟨q1, q2⟩ := join_bound hn D k lo ((lo + hi) / 2) (by omega) (by generalize 2 ^ k = Z at *; omega)
      have a1 : 0 ≤ ((lo + hi) / 2 - lo) * n := Int.mul_nonneg (by omega) (by omega)
      have a2 : 0 ≤ (hi - (lo + hi) / 2) * n := Int.mul_nonneg (by omega) (by omega)
      have e3 : ((hi - lo) * n).toNat = ((hi - (lo + hi) / 2) * n).toNat + (((lo + hi) / 2 - lo) * n).toNat := by
        have : (hi - lo) * n = (hi - (lo + hi) / 2) * n + ((lo + hi) / 2 - lo) * n := by rw [← Int.add_mul]; congr 1; omega
        omega
      rw [e3, Int.pow_add]
      have hs := two_pos (((lo + hi) / 2 - lo) * n).toNat
      generalize (2 : Int) ^ (((lo + hi) / 2 - lo) * n).toNat = S at *
      generalize (2 : Int) ^ ((hi - (lo + hi) / 2) * n).toNat = U at *
      generalize joinF n ns k ((lo + hi) / 2) hi = A at *
      have m1 : 0 ≤ A * S := Int.mul_nonneg p1 (by omega)
      have m2 : (A + 1) * S ≤ U * S := Int.mul_le_mul_of_nonneg_right (by omega) (by omega)
      rw [Int.add_mul, Int.one_mul] at m2
      omega
/-- the number that _digits2int makes -/
def numF (ns : List Int) (n : Int) : Int := if ns = [] then 0 else joinF n ns 8 0 (ns.length : Int)
def Pre42 (ns : List Int) (n : Int) : Prop := 1 ≤ n ∧ Digs n ns ∧ ns.length ≤ 200 ∧ (ns.length : Int) * n ≤ 60000000 ∧ Builtin.Int.intBits n ≤ 60000000
def Post42 (ns : List Int) (n : Int) (news : List (Addr × Obj)) (r : Value) (news' : List (Addr × Obj)) : Prop := ∃ t, r = .int (numF ns n) t ∧ Keeps2 news news' ∧ Tabs news'
theorem join_bits {n lo hi : Int} {k : Nat} {ns : List Int} (P : Pre42 ns n) (h0 : 0 ≤ lo) (h1 : lo < hi) (h2 : hi ≤ (ns.length : Int)) (h3 : hi - lo ≤ ((2 ^ k : Nat) : Int)) : Builtin.Int.intBits (joinF n ns k lo hi) ≤ 60000000 := by
  obtain ⟨p1, p2, p3, p4, p5⟩ := P
  obtain ⟨a, b⟩ := join_bound p1 p2 k lo hi h1 h3
  have : (hi - lo) * n ≤ (ns.length : Int) * n := Int.mul_le_mul_of_nonneg_right (by omega) (by omega)
  exact Nat.le_trans (bits_of a b) (by omega)
section
variable {prog : Program} {w : World} {A : Around} {E : Value → Shared → Prop} {s : Shared} {h₀ : Heap} {L l : Addr} {news : List (Addr × Obj)} {vs : List Value} {ns : List Int} {e : Nat} {Q : Bool → Shared → Prop}
theorem truthyL (N : News h₀ L s.heap news) (hm : (l, PySem.W.listOf vs.toArray e) ∈ news) (hvs : IntsAre vs ns) (hl : ns.length ≤ 200) (h : Q (decide (ns ≠ [])) { s with toks := s.toks + 1 + 1 }) : wpAny (model prog w) A (truthy (.ref l)) Q E s := by
  have hlen : vs.length = ns.length := hvs.length
  refine wpAny_truthy_list (News.isList N hm) (by simp only [List.size_toArray]; omega) ?_
  have e : (!vs.toArray.isEmpty) = decide (ns ≠ []) := by
    cases vs with
    | nil => cases ns with
      | nil => rfl
      | cons _ _ => simp at hlen
    | cons _ _ => cases ns with
      | nil => simp at hlen
      | cons _ _ => simp
  rw [e]
  exact h
end
section
variable {h₀ h : Heap} {L f a1 a2 a3 : Addr} {fo o1 o2 o3 : Obj} {rest : List (Addr × Obj)}
theorem led_abs3 {goal : Prop} (N : News h₀ L h ((f, fo) :: (a3, o3) :: (a2, o2) :: (a1, o1) :: rest))
    (k : ∀ R, (f, fo) ∈ R → (a3, o3) ∈ R → (a2, o2) ∈ R → (a1, o1) ∈ R → (∀ p ∈ rest, p ∈ R) → News h₀ L h R → goal) : goal :=
  k _ (.head _) (.tail _ (.head _)) (.tail _ (.tail _ (.head _))) (.tail _ (.tail _ (.tail _ (.head _)))) (fun p hp => .tail _ (.tail _ (.tail _ (.tail _ hp)))) N
end
theorem offI_all {I : Addr} {it : Obj} : ∀ {news : List (Addr × Obj)}, AllLt I news → OffI I it news
  | [], _ => trivial
  | _ :: _, h => ⟨.inl (Nat.ne_of_lt h.1), offI_all h.2⟩
theorem led_name {h₀ h : Heap} {L l : Addr} {o : Obj} {rest : List (Addr × Obj)} {goal : Prop} (N : News h₀ L h ((l, o) :: rest)) (k : ∀ x, x = l → News h₀ L h ((x, o) :: rest) → goal) : goal := k l rfl N
end
section
open PySem PySem.W PyProof.Rows
abbrev bl (b : Int) : Int := (Builtin.Int.intBits b : Int)
def PreDP (a b : Int) : Prop := 0 ≤ a ∧ 0 < b ∧ Builtin.Int.intBits b ≤ 4000000 ∧ Builtin.Int.intBits a ≤ 2 * Builtin.Int.intBits b
section
variable {a b : Int}
theorem bl_pos (hb : 0 < b) : 1 ≤ Builtin.Int.intBits b := by
  unfold Builtin.Int.intBits
  rw [if_neg (by simpa using Int.ne_of_gt hb)]
  omega
theorem bl_spec (hb : 0 < b) : (2 : Int) ^ (bl b).toNat ≤ 2 * b ∧ b < 2 ^ (bl b).toNat := by
  have e : (bl b).toNat = Builtin.Int.intBits b := Int.toNat_natCast _
  rw [e]
  refine ⟨?_, (of_bits (Nat.le_refl _)).1⟩
  have h1 := bl_pos hb
  rcases Int.lt_or_le (2 * b) (2 ^ Builtin.Int.intBits b) with h | h
  · exfalso
    have e2 : Builtin.Int.intBits b = (Builtin.Int.intBits b - 1) + 1 := by omega
    rw [e2, Int.pow_succ] at h
    have := bits_of (m := Builtin.Int.intBits b - 1) (Int.le_of_lt hb) (by omega)
    omega
  · exact h
theorem PreDP.pre35 (P : PreDP a b) : Pre35 a (bl b) := by
  obtain ⟨h0, h1, h2, h3⟩ := P
  have hb := bl_pos h1
  have hbl : bl b = (Builtin.Int.intBits b : Int) := rfl
  have hc : ((Builtin.Int.intBits a : Int) + bl b - 1).fdiv (bl b) ≤ 2 := by
    rw [Int.fdiv_eq_ediv_of_nonneg _ (by omega)]
    have := Int.ediv_lt_of_lt_mul (a := (Builtin.Int.intBits a : Int) + bl b - 1) (b := 3) (c := bl b) (by omega) (by omega)
    omega
  have hc0 : 0 ≤ ((Builtin.Int.intBits a : Int) + bl b - 1).fdiv (bl b) := by
    rw [Int.fdiv_eq_ediv_of_nonneg _ (by omega)]
    exact Int.ediv_nonneg (by omega) (by omega)
  refine ⟨h0, by omega, by omega, ?_, hc0, by omega, ?_⟩
  · refine Nat.le_trans (bits_of (m := 64) (by omega) ?_) (by decide)
    have : (2 : Int) ^ 64 = 18446744073709551616 := rfl
    omega
  · have : ((Builtin.Int.intBits a : Int) + bl b - 1).fdiv (bl b) * bl b ≤ 2 * bl b := Int.mul_le_mul_of_nonneg_right hc (by omega)
    omega
theorem PreDP.digs (P : PreDP a b) : (digF a (bl b) = [] ∧ a = 0) ∨ (digF a (bl b) = [a] ∧ a < 2 ^ (bl b).toNat) ∨ (digF a (bl b) = [a % 2 ^ (bl b).toNat, a / 2 ^ (bl b).toNat] ∧ a / 2 ^ (bl b).toNat < 2 ^ (bl b).toNat) := by
  by_cases ha : a = 0
  · left
    refine ⟨?_, ha⟩
    unfold digF
    rw [if_pos ha]
  · right
    have P35 := P.pre35
    have hpos := digs_pos P35 ha
    obtain ⟨h0, h1, h2, h3⟩ := P
    have hb := bl_pos h1
    have hbl : bl b = (Builtin.Int.intBits b : Int) := rfl
    have e : (bl b).toNat = Builtin.Int.intBits b := Int.toNat_natCast _
    have hdef : ((Builtin.Int.intBits a : Int) + bl b - 1).fdiv (bl b) = ((Builtin.Int.intBits a : Int) + bl b - 1) / bl b := Int.fdiv_eq_ediv_of_nonneg _ (by omega)
    have hc : ((Builtin.Int.intBits a : Int) + bl b - 1) / bl b < 3 := Int.ediv_lt_of_lt_mul (by omega) (by omega)
    rcases (by omega : ((Builtin.Int.intBits a : Int) + bl b - 1).fdiv (bl b) = 1 ∨ ((Builtin.Int.intBits a : Int) + bl b - 1).fdiv (bl b) = 2) with hd | hd
    · left
      constructor
      · unfold digF
        rw [if_neg ha, hd, fill_base (by rfl)]
        rfl
      · have hx := Int.lt_ediv_add_one_mul_self ((Builtin.Int.intBits a : Int) + bl b - 1) (b := bl b) (by omega)
        rw [← hdef, hd] at hx
        have hle : Builtin.Int.intBits a ≤ Builtin.Int.intBits b := by omega
        rw [e]
        exact (of_bits hle).1
    · right
      constructor
      · unfold digF
        rw [if_neg ha, hd]
        unfold fillF
        rw [if_neg (by decide)]
        have e1 : ((0 : Int) + 2) / 2 = 1 := rfl
        rw [e1, fill_base (n := bl b) (lo := 0) (hi := 1) rfl, fill_base (n := bl b) (lo := 1) (hi := 2) rfl]
        have e2 : ((1 : Int) - 0) * bl b = bl b := by omega
        rw [e2]
        rfl
      · refine Int.ediv_lt_of_lt_mul (two_pos _) ?_
        rw [← Int.pow_add, e]
        exact (of_bits (m := Builtin.Int.intBits b + Builtin.Int.intBits b) (by omega)).1
theorem PreDP.pre21 {x r : Int} (P : PreDP a b) (h0 : 0 ≤ r) (h1 : r < b) (hx : 0 ≤ x) (hx1 : x < 2 ^ (bl b).toNat) : Pre21 10 (r * 2 ^ (bl b).toNat + x) b (bl b) := by
  obtain ⟨g0, g1, g2, g3⟩ := P
  have hb := bl_pos g1
  have hbl : bl b = (Builtin.Int.intBits b : Int) := rfl
  obtain ⟨s1, s2⟩ := bl_spec g1
  have hp := two_pos (bl b).toNat
  have : (r + 1) * 2 ^ (bl b).toNat ≤ b * 2 ^ (bl b).toNat := Int.mul_le_mul_of_nonneg_right (by omega) (by omega)
  rw [Int.add_mul, Int.one_mul] at this
  have h00 : 0 ≤ r * 2 ^ (bl b).toNat := Int.mul_nonneg h0 (by omega)
  have e : (4000 * 2 ^ 10 : Nat) = 4096000 := rfl
  exact ⟨by omega, by omega, s1, s2, by omega, by omega⟩
theorem quo_lt {q r x m : Int} (hb : 0 < b) (h : q * b + r = x) (h0 : 0 ≤ r) (hx0 : 0 ≤ x) (hx : x < b * m) (h1 : r < b) : 0 ≤ q ∧ q < m := by
  constructor
  · rcases Int.lt_or_le q 0 with hq | hq
    · have : q * b ≤ -1 * b := Int.mul_le_mul_of_nonneg_right (by omega) (by omega)
      omega
    · exact hq
  · rcases Int.lt_or_le q m with hq | hq
    · exact hq
    · have : m * b ≤ q * b := Int.mul_le_mul_of_nonneg_right hq (by omega)
      rw [Int.mul_comm] at this
      omega
theorem num1 (q n : Int) : numF [q] n = q := by
  unfold numF
  rw [if_neg (by simp)]
  exact join_base rfl
theorem num2 (q0 q1 n : Int) : numF [q0, q1] n = q1 * 2 ^ n.toNat + q0 := by
  unfold numF
  rw [if_neg (by simp)]
  show joinF n [q0, q1] 8 0 2 = _
  unfold joinF
  rw [if_neg (by decide)]
  have e1 : ((0 : Int) + 2) / 2 = 1 := rfl
  rw [e1, join_base (lo := 1) (hi := 2) rfl, join_base (lo := 0) (hi := 1) rfl]
  have e2 : ((1 : Int) - 0) * n = n := by omega
  rw [e2]
  rfl
theorem PreDP.pre42 {ns : List Int} (P : PreDP a b) (D : Digs (bl b) ns) (hl : ns.length ≤ 2) : Pre42 ns (bl b) := by
  have P35 := P.pre35
  obtain ⟨g0, g1, g2, g3⟩ := P
  have hb := bl_pos g1
  have hbl : bl b = (Builtin.Int.intBits b : Int) := rfl
  refine ⟨by omega, D, by omega, ?_, P35.2.2.2.1⟩
  have : (ns.length : Int) * bl b ≤ 2 * bl b := Int.mul_le_mul_of_nonneg_right (by omega) (by omega)
  omega
end
theorem ints0 {vs : List Value} (h : IntsAre vs []) : vs = [] := by cases h; rfl
theorem ints1 {vs : List Value} {a : Int} (h : IntsAre vs [a]) : ∃ t, vs = [.int a t] := by
  cases h with
  | cons _ t hv => cases hv; exact ⟨t, rfl⟩
theorem ints2 {vs : List Value} {a b : Int} (h : IntsAre vs [a, b]) : ∃ t u, vs = [.int a t, .int b u] := by
  cases h with
  | cons _ t hv => cases hv with
    | cons _ u hv => cases hv; exact ⟨t, u, rfl⟩
def PostDP (a b : Int) (news : List (Addr × Obj)) (v : Value) (news' : List (Addr × Obj)) : Prop :=
  ∃ t q tq r tr rest, v = .ref t ∧ news' = (t, tupII q tq r tr) :: rest ∧ Keeps2 news rest ∧ Tabs rest ∧ (∀ p ∈ news, p.1 < t) ∧ q * b + r = a ∧ 0 ≤ r ∧ r < b
theorem keeps_lt {news R : List (Addr × Obj)} {t : Nat} (kp : Keeps2 news R) (tb : Tabs R) (l : AllLt t R) : ∀ p ∈ news, p.1 < t := fun p hp => by
  by_cases h1 : p.1 = 30
  · rw [h1]; exact tb.1.lt (ktn_ltOf l)
  · by_cases h2 : p.1 = 37
    · rw [h2]; exact tb.2.lt (ktn_ltOf l)
    · exact ktn_ltOf l p (kp p hp h1 h2)
section
variable {h₀ : Heap} {L : Addr} {m : Str → Option Value} {news own rest R : List (Addr × Obj)} {s : Shared} {Q : Value → Shared → Prop} {a b q r : Int} {tq tr : Tok} {D : Addr} {h' : Heap} {tk : Nat}
theorem dp_end (hret : ∀ r news' h' tk', Fr h₀ L h' m → News h₀ L h' news' → PostDP a b news r news' → Q r { s with heap := h', toks := tk' })
    (F : Fr h₀ L h' m) (N : News h₀ L h' ((D, tupII q tq r tr) :: R)) (l : AllLt D R) (kp : Keeps2 news rest) (kp2 : Keeps2 (own ++ rest) R) (tb : Tabs R) (e : q * b + r = a ∧ 0 ≤ r ∧ r < b) : Q (.ref D) { s with heap := h', toks := tk } :=
  have kk : Keeps2 news R := fun p hp h1 h2 => kp2 p (List.mem_append.mpr (.inr (kp p hp h1 h2))) h1 h2
  hret _ _ _ _ F N ⟨_, _, _, _, _, _, rfl, rfl, kk, tb, keeps_lt kk tb l, e⟩
end
theorem unr2 {h₀ : Heap} {L I : Addr} {it : Obj} {restP : (Str → Option Value) → List (Addr × Obj) → Prop} {s₁ : Shared} {h' : Heap} {tk : Nat} {m' : Str → Option Value} {x0 q l1 : Addr × Obj} {rest : List (Addr × Obj)}
    (F : Fr h₀ L h' m') (N : News h₀ L h' (x0 :: (I, it) :: q :: l1 :: rest)) (off : ∀ p ∈ q :: l1 :: rest, p.1 ≠ I) (r : restP m' (q :: l1 :: rest)) : UnrEnd h₀ L s₁ I it restP { s₁ with heap := h', toks := tk } :=
  UnrEnd.intro F N _ (fun _ hp => .tail _ hp) off r
theorem two_done {a b q1 r1 q2 r2 X : Int} (h1 : q1 * b + r1 = 0 * X + a / X) (h2 : q2 * b + r2 = r1 * X + a % X) : (q1 * X + q2) * b + r2 = a := by
  have e := Int.mul_ediv_add_emod a X
  have e1 : (q1 * X + q2) * b = (q1 * b) * X + q2 * b := by rw [Int.add_mul, Int.mul_assoc, Int.mul_comm X b, ← Int.mul_assoc]
  have e2 : q1 * b = a / X - r1 := by rw [Int.zero_mul] at h1; omega
  rw [e1, e2, Int.sub_mul, Int.mul_comm (a / X) X]
  omega
end
section
open PySem PySem.W PyProof.Rows PySem.Calls PyProof.V PySem.Spec PyProof.Rows.LCg
set_option maxRecDepth 100000
set_option maxHeartbeats 1000000
section
variable {prog : Program} {w : World} {A : Around} {E : Value → Shared → Prop} {s : Shared} {h₀ : Heap} {L : Addr} {m : Str → Option Value} {env : Env}
theorem en_block {elt iter : PySem.Expr} {a b : Str} {pa pb tp : Pos} {kk : Nat} {scope : Scope} {cl : List (Str × Addr)} {pos : Pos} {s₂ : Shared} {e it l : Addr} {items : Array Value} {ol : Obj} {nn : Nat} {news : List (Addr × Obj)} {R : Nat → List Value → Prop}
    {RR : Value → Addr → Result → Shared → Prop}
    (hh : A.handled = none) (hei : e ≠ it) (hle : l ≠ e) (hli : l ≠ it) (hsz : items.size ≤ sizeLine) (he : IsEnum s₂.heap e it 0 .none) (hit : s₂.heap.IsListIter it l 0) (hlm : (l, ol) ∈ news) (hlc : ol.cls = .type "list") (hld : ol.data = .seq items nn)
    (hcell : ∀ y ∈ scope.names, y.2 ≠ .cell) (hkind : scope.kind = .function) (hxa : scope.names.lookup a = some .local) (hxb : scope.names.lookup b = some .local) (hab : ¬ a = b)
    (F : Fr h₀ L s₂.heap m) (N : News h₀ L s₂.heap news) (hEL : L ≠ e) (hIL : L ≠ it) (hE₀ : h₀.get? e = none) (hI₀ : h₀.get? it = none) (off : ∀ p ∈ news, p.1 ≠ e ∧ p.1 ≠ it) (hR0 : R 0 [])
    (turn : ∀ (i : Nat) v₂ ys (t : Tok) oE oI C oC D m₂ h tk (E' : Value → Shared → Prop), items[i]? = some v₂ → R i ys → NsObj oC m₂ → m₂ a = some (.int (i : Int) t) → m₂ b = some v₂ → Fr h₀ L h m → News h₀ L h ((e, oE) :: (it, oI) :: (C, oC) :: (D, lst ys) :: news) →
      wpAny (model prog w) A (eval elt (compEnvC scope cl C env)) (fun y s' => ∃ h' tk', s' = { s₂ with heap := h', toks := tk' } ∧ Fr h₀ L h' m ∧ News h₀ L h' ((e, oE) :: (it, oI) :: (C, oC) :: (D, lst ys) :: news) ∧ R (i + 1) (ys ++ [y])) E' { s₂ with heap := h, toks := tk })
    (hRR : ∀ D C h tk m' ys, Fr h₀ L h m → News h₀ L h ((D, lst ys) :: news) → (∀ p ∈ news, p.1 < D) → h.Ns C m' → h₀.get? C = none → h₀.get? D = none → C ≠ L → D ≠ L → C ≠ D → (∀ p ∈ news, p.1 ≠ C) → R items.size ys → RR (.ref D) C (.ok .next) { s₂ with heap := h, toks := tk }) :
    wpAny (model prog w) A (newList []) (fun acc s₃ => wpAny (model prog w) A (newFunctionEnv scope env.globals cl [] env.qual none .none (some env)) (fun cenv s₄ =>
      codeAny (model prog w) A (.compStart (.ListComp elt [⟨.Tuple [.Name a pa, .Name b pb] kk tp, iter, [], 0⟩] scope pos) 0 (.ref e) acc { cenv with scope := relabel scope env }) (RR acc cenv.locals) s₄) E s₃) E s₂ := by
  refine wpAny_newObj_type (wpAny_newFunctionEnv hcell (by intro y hy; simp at hy) (fun h₁ hns₁ hsb₁ => ?_) hkind)
  dsimp only at hns₁ hsb₁ ⊢
  generalize hH2 : s₂.heap.push { cls := .type "list", dict := none, data := .seq ([] : List Value).toArray } = H2 at hns₁ hsb₁ ⊢
  have hC : H2.objs.size = s₂.heap.objs.size + 1 := by rw [← hH2, Heap.size_push]
  have hDC : s₂.heap.objs.size ≠ H2.objs.size := by rw [hC]; exact Nat.ne_of_lt (Nat.lt_succ_self _)
  have below : ∀ b, b < s₂.heap.objs.size → b ≠ H2.objs.size ∧ b ≠ s₂.heap.objs.size := fun b hb => ⟨by rw [hC]; exact Nat.ne_of_lt (Nat.lt_succ_of_lt hb), Nat.ne_of_lt hb⟩
  have hElt : e < s₂.heap.objs.size := Heap.lt_size he
  have hIlt : it < s₂.heap.objs.size := by obtain ⟨_, x, _⟩ := hit; exact Heap.lt_size x
  have old : ∀ b o, s₂.heap.get? b = some o → h₁.get? b = some o := fun b o e => hsb₁.extBut b o (below b (Heap.lt_size e)).1 (Heap.get?_push_of_some _ (hH2 ▸ Heap.get?_push_of_some _ e))
  have hacc : h₁.get? s₂.heap.objs.size = some (lst []) := hsb₁.extBut _ _ hDC (Heap.get?_push_of_some _ (hH2 ▸ Heap.get?_push_size _ rfl))
  have he₁ : IsEnum h₁ e it 0 .none := old _ _ he
  have hit₁ : h₁.IsListIter it l 0 := hit.at fun o x => old it o x
  have fresh : ∀ a, s₂.heap.objs.size ≤ a → s₂.heap.get? a = none := fun a ha => by
    cases e : s₂.heap.get? a with
    | none => rfl
    | some o' => exact absurd (Heap.lt_size e) (Nat.not_lt.mpr ha)
  have fresh₀ : ∀ a, s₂.heap.objs.size ≤ a → h₀.get? a = none := fun a ha => by
    cases e : h₀.get? a with
    | none => rfl
    | some o' => have := F.keep a o' e; rw [fresh a ha] at this; cases this
  have hD₀ : h₀.get? s₂.heap.objs.size = none := fresh₀ _ (Nat.le_refl _)
  have hC₀ : h₀.get? H2.objs.size = none := fresh₀ _ (by rw [hC]; exact Nat.le_succ _)
  have hLlt : L < s₂.heap.objs.size := F.ns.lt
  have hDL : s₂.heap.objs.size ≠ L := Ne.symm (below L hLlt).2
  have hCL : H2.objs.size ≠ L := Ne.symm (below L hLlt).1
  have hCE : e ≠ H2.objs.size := (below e hElt).1
  have hDE : e ≠ s₂.heap.objs.size := (below e hElt).2
  have hCI : it ≠ H2.objs.size := (below it hIlt).1
  have hDI : it ≠ s₂.heap.objs.size := (below it hIlt).2
  have offN : ∀ p ∈ news, p.1 ≠ H2.objs.size ∧ p.1 ≠ s₂.heap.objs.size := fun p hp => below _ (Heap.lt_size (N p hp).1)
  have W := WalksT.enumerate (prog := prog) (w := w) hh e it l hei hle hli items
  have loop : ∀ s₃ : Shared, s₃ = { s₂ with heap := h₁, toks := s₂.toks + ([] : List (Str × Value)).length } →
      codeAny (model prog w) A (.compLoop (.ListComp elt [⟨.Tuple [.Name a pa, .Name b pb] kk tp, iter, [], 0⟩] scope pos) 0 (.ref e) (.ref s₂.heap.objs.size) (compEnvC scope cl H2.objs.size env))
        (RR (.ref s₂.heap.objs.size) H2.objs.size) s₃ := by
    rintro s₃ rfl
    refine kcp_loop
      (fun k s' => ∃ h' tk i ys m', s' = { s₂ with heap := h', toks := tk } ∧ i ≤ items.size ∧ k = items.size + 1 - i ∧ ys.length = i ∧ (∃ old, IsEnum h' e it i old) ∧ h'.IsListIter it l i ∧ Fr h₀ L h' m ∧ h'.Ns H2.objs.size m' ∧
        News h₀ L h' ((s₂.heap.objs.size, lst ys) :: news) ∧ R i ys) ?_ (items.size + 1)
      ⟨h₁, _, 0, [], _, rfl, Nat.zero_le _, rfl, rfl, ⟨_, he₁⟩, hit₁, F.keeps old, hns₁, fun p hp => ?_, hR0⟩
    · rintro k s' ⟨h', tk, i, ys, m', rfl, hi, rfl, hyl, he', hit', F', hn', N', R'⟩
      have hL' : h'.IsList l items := ⟨ol, (N' _ (List.mem_cons_of_mem _ hlm)).1, hlc, nn, hld⟩
      by_cases hlt : i < items.size
      · refine W.item i _ _ _ hlt ⟨he', hit', hL'⟩ fun T vals h₂ tk₂ hPt hTle hT hMid hk₂ => ?_
        obtain ⟨t, x, hx, rfl⟩ := hPt
        have hTw := W.apart i T h₂ hMid
        refine W.go _ _ _ i T _ _ _ hMid fun h₃ hst₃ hk₃ => ?_
        have hT₃ : h₃.IsTuple T #[.int i t, x] := hT.at fun o y => hk₃ T o hTw y
        have up₃ : ∀ c o, c ≠ e → c ≠ it → h'.get? c = some o → h₃.get? c = some o := fun c o h1 h2 q => hk₃ c o (by simp [h1, h2]) (hk₂ c o (by simp [h1, h2]) q)
        refine kcp_assign (env := compEnvC scope cl H2.objs.size env) hh hT₃ (lookup_relabel_local hxa) (lookup_relabel_local hxb) (by simp [compEnvC, relabel, hkind]) (hn'.at' fun o e => up₃ _ o (Ne.symm hCE) (Ne.symm hCI) e) fun h₄ tk₄ hn₄ hs₄ => ?_
        have up : ∀ c o, c ≠ e → c ≠ it → c ≠ H2.objs.size → h'.get? c = some o → h₄.get? c = some o := fun c o h1 h2 h3 e => hs₄ c o h3 (up₃ c o h1 h2 e)
        obtain ⟨⟨old', hE₃⟩, hI₃, _⟩ := hst₃
        have hE₄ : IsEnum h₄ e it (i + 1 : Nat) old' := hs₄ e _ hCE hE₃
        have hI₄ : h₄.IsListIter it l (i + 1) := hI₃.at fun o y => hs₄ it o hCI y
        obtain ⟨oE, heE, hoE⟩ : ∃ oE : Obj, h₄.get? e = some oE ∧ ∀ h : Heap, h.get? e = some oE → ∃ old, IsEnum h e it (i + 1 : Nat) old := ⟨_, hE₄, fun _ e => ⟨_, e⟩⟩
        obtain ⟨oI, heI, hoI⟩ : ∃ oI : Obj, h₄.get? it = some oI ∧ ∀ h : Heap, h.get? it = some oI → h.IsListIter it l (i + 1) := by
          obtain ⟨o, q, r⟩ := hI₄
          exact ⟨o, q, fun h e => ⟨o, e, r⟩⟩
        obtain ⟨oC, heC, hoC⟩ := ns_obj hn₄
        have F₄ : Fr h₀ L h₄ m := ⟨F'.ns.at' fun o e => up _ o hEL hIL (Ne.symm hCL) e, fun c o e => up c o (fun q => by rw [q, hE₀] at e; cases e) (fun q => by rw [q, hI₀] at e; cases e) (fun q => by rw [q, hC₀] at e; cases e) (F'.keep c o e), F'.above⟩
        have N₄ : News h₀ L h₄ ((e, oE) :: (it, oI) :: (H2.objs.size, oC) :: (s₂.heap.objs.size, lst ys) :: news) := fun q hq => by
          rcases List.mem_cons.mp hq with rfl | hq
          · exact ⟨heE, Ne.symm hEL, hE₀⟩
          · rcases List.mem_cons.mp hq with rfl | hq
            · exact ⟨heI, Ne.symm hIL, hI₀⟩
            · rcases List.mem_cons.mp hq with rfl | hq
              · exact ⟨heC, hCL, hC₀⟩
              · have z := N' q hq
                refine ⟨up _ _ ?_ ?_ ?_ z.1, z.2⟩
                · rcases List.mem_cons.mp hq with rfl | hq
                  · exact Ne.symm hDE
                  · exact (off q hq).1
                · rcases List.mem_cons.mp hq with rfl | hq
                  · exact Ne.symm hDI
                  · exact (off q hq).2
                · rcases List.mem_cons.mp hq with rfl | hq
                  · exact hDC
                  · exact (offN q hq).1
        refine wpAny_mono (turn i x ys t oE oI H2.objs.size oC s₂.heap.objs.size _ h₄ _ _ hx R' hoC (by simp [hab]) (by simp) F₄ N₄) (fun y s₅ h₅ => ?_) fun _ _ e => e
        obtain ⟨h₅, tk₅, rfl, F₅, N₅, R₅⟩ := h₅
        have zE := (N₅ (e, oE) (.head _)).1
        have zI := (N₅ (it, oI) (.tail _ (.head _))).1
        have zC := (N₅ (H2.objs.size, oC) (.tail _ (.tail _ (.head _)))).1
        have zD := (N₅ (s₂.heap.objs.size, lst ys) (.tail _ (.tail _ (.tail _ (.head _))))).1
        have N₅' : News h₀ L h₅ news := fun q hq => N₅ q (.tail _ (.tail _ (.tail _ (.tail _ hq))))
        refine append_at (hsz := by show ys.toArray.size ≤ sizeLine; rw [List.size_toArray, hyl]; exact Nat.le_trans hi hsz) zD fun h₆ hs₆ hD₆ => ?_
        refine ⟨items.size + 1 - (i + 1), by omega, h₆, tk₅, i + 1, ys ++ [y], _, rfl, hlt, rfl, by rw [List.length_append, List.length_singleton, hyl], hoE h₆ (hs₆.extBut e oE hDE zE), hoI h₆ (hs₆.extBut it oI hDI zI), F₅.change hs₆ hDL hD₀,
          (hoC.ns zC).sameBut hs₆ (Ne.symm hDC), fun q hq => ?_, R₅⟩
        rcases List.mem_cons.mp hq with rfl | hq
        · exact ⟨hD₆.trans (congrArg some (lst_snoc ys y)), hDL, hD₀⟩
        · exact ⟨hs₆.extBut _ _ (offN q hq).2 (N₅' q hq).1, (N₅' q hq).2⟩
      · have hin : i = items.size := Nat.le_antisymm hi (Nat.not_lt.mp hlt)
        subst hin
        refine W.done _ _ _ ⟨he', hit', hL'⟩ fun h₂ tk₂ hk₂ => ?_
        have up : ∀ c o, c ≠ e → c ≠ it → h'.get? c = some o → h₂.get? c = some o := fun c o h1 h2 q => hk₂ c o (by simp [h1, h2]) q
        refine hRR _ _ h₂ tk₂ _ ys ⟨F'.ns.at' fun o e => up _ o hEL hIL e, fun c o e => up c o (fun q => by rw [q, hE₀] at e; cases e) (fun q => by rw [q, hI₀] at e; cases e) (F'.keep c o e), F'.above⟩ (fun q hq => ?_) (fun q hq => Heap.lt_size (N q hq).1) (hn'.at' fun o e => up _ o (Ne.symm hCE) (Ne.symm hCI) e) hC₀ hD₀ hCL hDL (Ne.symm hDC) (fun q hq => (offN q hq).1) R'
        have z := N' q hq
        refine ⟨up _ _ ?_ ?_ z.1, z.2⟩
        · rcases List.mem_cons.mp hq with rfl | hq
          · exact Ne.symm hDE
          · exact (off q hq).1
        · rcases List.mem_cons.mp hq with rfl | hq
          · exact Ne.symm hDI
          · exact (off q hq).2
    · rcases List.mem_cons.mp hp with rfl | hp
      · exact ⟨hacc, hDL, hD₀⟩
      · exact ⟨old _ _ (N p hp).1, (N p hp).2⟩
  exact codeAny_compStart_list (loop _ rfl) (wpAny_pyIter_enum he₁ (loop _ rfl))
def EnSrc (prog : Program) (w : World) (A : Around) (h₀ : Heap) (L : Addr) (m : Str → Option Value) (env : Env) (elt : PySem.Expr) (a b : Str) (scope : Scope) (cl : List (Str × Addr)) (Fin : Shared → List Value → List (Addr × Obj) → Prop) (xv : Value) (s₁ : Shared) : Prop :=
  ∃ (e it l : Addr) (items : Array Value) (ol : Obj) (nn : Nat) (news : List (Addr × Obj)) (R : Nat → List Value → Prop), xv = .ref e ∧ A.handled = none ∧ e ≠ it ∧ l ≠ e ∧ l ≠ it ∧ items.size ≤ sizeLine ∧ IsEnum s₁.heap e it 0 .none ∧ s₁.heap.IsListIter it l 0 ∧ (l, ol) ∈ news ∧ ol.cls = .type "list" ∧ ol.data = .seq items nn ∧
    Fr h₀ L s₁.heap m ∧ News h₀ L s₁.heap news ∧ L ≠ e ∧ L ≠ it ∧ h₀.get? e = none ∧ h₀.get? it = none ∧ (∀ p ∈ news, p.1 ≠ e ∧ p.1 ≠ it) ∧ R 0 [] ∧
    (∀ (i : Nat) v₂ ys (t : Tok) oE oI C oC D m₂ h tk (E' : Value → Shared → Prop), items[i]? = some v₂ → R i ys → NsObj oC m₂ → m₂ a = some (.int (i : Int) t) → m₂ b = some v₂ → Fr h₀ L h m → News h₀ L h ((e, oE) :: (it, oI) :: (C, oC) :: (D, lst ys) :: news) →
      wpAny (model prog w) A (eval elt (compEnvC scope cl C env)) (fun y s' => ∃ h' tk', s' = { s₁ with heap := h', toks := tk' } ∧ Fr h₀ L h' m ∧ News h₀ L h' ((e, oE) :: (it, oI) :: (C, oC) :: (D, lst ys) :: news) ∧ R (i + 1) (ys ++ [y])) E' { s₁ with heap := h, toks := tk }) ∧
    (∀ ys, R items.size ys → Fin s₁ ys news)
def FinB (h₀ : Heap) (L : Addr) (m : Str → Option Value) (s : Shared) (y : Str) (Q : Flow → Shared → Prop) (ys : List Value) (news : List (Addr × Obj)) : Prop :=
  ∀ D h tk, Fr h₀ L h (fun z => if z = y then some (.ref D) else m z) → News h₀ L h ((D, lst ys) :: news) → (∀ p ∈ news, p.1 < D) → Q .next { s with heap := h, toks := tk }
theorem enum_Assign {elt iter : PySem.Expr} {a b y : Str} {pa pb tp py : Pos} {kk : Nat} {scope : Scope} {cl : List (Str × Addr)} {pos spos : Pos} {Q : Flow → Shared → Prop} (hF₀ : Fr h₀ L s.heap m) (hLe : env.locals = L)
    (hsw : swapsWith (.ListComp elt [⟨.Tuple [.Name a pa, .Name b pb] kk tp, iter, [], 0⟩] scope pos) (some (.Name y py)) spos.line env = pure true)
    (hclos : closureFor scope env = pure cl) (hcell : ∀ z ∈ scope.names, z.2 ≠ .cell) (hkind : scope.kind = .function)
    (hnames : ∀ z ∈ scope.names, z.2 = .local → scope.names.lookup z.1 = some .local) (hxa : scope.names.lookup a = some .local) (hxb : scope.names.lookup b = some .local) (hab : ¬ a = b)
    (hy : env.kindOf y = some .local) (hp : (env.scope.kind == .class || (env.scope.kind == .module && env.locals != env.globals)) = false)
    (h : wpAny (model prog w) A (eval iter env) (EnSrc prog w A h₀ L m env elt a b scope cl (fun s₂ => FinB h₀ L m s₂ y Q)) E s)
    (hs : ∀ x, foldedSetIterable iter env x = pure x := by intro _; rfl) :
    wpAny (model prog w) A (exec (.Assign [.Name y py] (.ListComp elt [⟨.Tuple [.Name a pa, .Name b pb] kk tp, iter, [], 0⟩] scope pos) spos) env) Q E s := by
  subst hLe
  rw [exec_Assign_Name_used _ _ _ _ hsw]
  refine wpAny_bind (wpAny_standAt (wpAny_bind ?_))
  show wpAny _ A (do let _ ← comprehension (.ListComp elt [⟨.Tuple [.Name a pa, .Name b pb] kk tp, iter, [], 0⟩] scope pos) scope env _ (newList []) false (eval iter env) (some (assign (.Name y py) env))) _ _ s
  refine wpAny_bind (wpAny_mono (wpAny_comprehension_free (use := some (assign (.Name y py) env)) (Q := fun _ s' => Q .next s') rfl hs hclos hkind hnames
    (wpAny_mono h (fun xv s₁ h₁ => ?_) fun _ _ e => e)) (fun _ s' hq => wpAny_pure (wpAny_pure hq)) fun _ _ e => e)
  obtain ⟨e, it, l, items, ol, nn, news, R, rfl, hh, hei, hle, hli, hsz, he, hit, hlm, hlc, hld, F, N, hEL, hIL, hE₀, hI₀, off, hR0, turn, fin⟩ := h₁
  refine wpAny_pyIter_enum he ?_
  refine en_block (R := R) hh hei hle hli hsz he hit hlm hlc hld hcell hkind hxa hxb hab F N hEL hIL hE₀ hI₀ off hR0 turn ?_
  intro D C h' tk m' ys F' N' o1 hn hC₀ hD₀ hCL hDL hCD offC hR
  show wpAny _ A (assign (.Name y py) env (.ref D)) _ _ _
  refine wpAny_assign_Name (wpAny_storeName_local hy F'.ns (fun h₂ hn₂ hs₂ => ?_) hp)
  have hL₀ : h₀.get? env.locals = none := Heap.get?_none_of_le F'.above
  have F₂ : Fr h₀ env.locals h₂ (fun z => if z = y then some (.ref D) else m z) := ⟨hn₂, fun b o e => hs₂.extBut b o (fun q => by rw [q, hL₀] at e; cases e) (F'.keep b o e), F'.above⟩
  refine ⟨m', hn.sameBut hs₂ hCL, fun h'' hs'' => fin ys hR D h'' _ (F₂.change hs'' hCL hC₀) (fun p hp => ?_) o1⟩
  have z : h₂.get? p.1 = some p.2 := hs₂.extBut _ _ (N' p hp).2.1 (N' p hp).1
  refine ⟨hs''.extBut _ _ ?_ z, (N' p hp).2⟩
  rcases List.mem_cons.mp hp with rfl | hp
  · exact Ne.symm hCD
  · exact offC p hp
theorem en_new {h : Heap} {a : Addr} (F : Fr h₀ L h m) (ha : h.objs.size ≤ a) : L ≠ a ∧ h₀.get? a = none := by
  refine ⟨fun q => Nat.lt_irrefl _ (Nat.lt_of_lt_of_le (q ▸ F.ns.lt) ha), ?_⟩
  cases e : h₀.get? a with
  | none => rfl
  | some o' => exact absurd (Heap.lt_size (F.keep a o' e)) (Nat.not_lt.mpr ha)
theorem enum_src {elt : PySem.Expr} {a b : Str} {scope : Scope} {cl : List (Str × Addr)} {Fin : Shared → List Value → List (Addr × Obj) → Prop} {l : Addr} {ol : Obj} {items : Array Value} {nn : Nat} {news : List (Addr × Obj)} (R : Nat → List Value → Prop)
    (hh : A.handled = none) (F : Fr h₀ L s.heap m) (N : News h₀ L s.heap news) (hlm : (l, ol) ∈ news) (hlc : ol.cls = .type "list") (hld : ol.data = .seq items nn) (hsz : items.size ≤ sizeLine) (hR0 : R 0 [])
    (turn : ∀ (e it : Addr) (g : Heap) (i : Nat) v₂ ys (t : Tok) oE oI C oC D m₂ h tk (E' : Value → Shared → Prop), items[i]? = some v₂ → R i ys → NsObj oC m₂ → m₂ a = some (.int (i : Int) t) → m₂ b = some v₂ → Fr h₀ L h m → News h₀ L h ((e, oE) :: (it, oI) :: (C, oC) :: (D, lst ys) :: news) →
      wpAny (model prog w) A (eval elt (compEnvC scope cl C env)) (fun y s' => ∃ h' tk', s' = { s with heap := h', toks := tk' } ∧ Fr h₀ L h' m ∧ News h₀ L h' ((e, oE) :: (it, oI) :: (C, oC) :: (D, lst ys) :: news) ∧ R (i + 1) (ys ++ [y])) E' { s with heap := h, toks := tk })
    (fin : ∀ g ys, R items.size ys → Fin { s with heap := g } ys news) :
    wpAny (model prog w) A (call (.type "enumerate") [.ref l]) (EnSrc prog w A h₀ L m env elt a b scope cl Fin) E s := by
  have hL : s.heap.IsList l items := ⟨ol, (N _ hlm).1, hlc, nn, hld⟩
  have hlt : l < s.heap.objs.size := Heap.lt_size (N _ hlm).1
  refine call_enumerate_list hL fun h' hE hI hsz' hk => ?_
  refine ⟨_, _, l, items, ol, nn, news, R, rfl, hh, Nat.succ_ne_self _, Nat.ne_of_lt (Nat.lt_succ_of_lt hlt), Nat.ne_of_lt hlt, hsz, hE, hI, hlm, hlc, hld, F.keeps hk, N.grown hk, (en_new F (Nat.le_succ _)).1, (en_new F (Nat.le_refl _)).1, (en_new F (Nat.le_succ _)).2, (en_new F (Nat.le_refl _)).2, fun p hp => ?_, hR0, turn _ _ h', fin h'⟩
  have := Heap.lt_size (N p hp).1
  exact ⟨Nat.ne_of_lt (Nat.lt_succ_of_lt this), Nat.ne_of_lt this⟩
end
end
section
open PySem PySem.W PyProof.Rows PySem.Calls PyProof.V PySem.Spec PyProof.Rows.LCg
set_option maxRecDepth 100000
set_option maxHeartbeats 1000000
def pickF (ns : List Int) (lo hi st : Option Int) : List Int :=
  (sliceRange (sliceBounds lo hi st ns.length).1 (sliceBounds lo hi st ns.length).2.1 (sliceBounds lo hi st ns.length).2.2).filterMap (ns[·]?)
theorem ints_at {vs : List Value} {ns : List Int} (h : IntsAre vs ns) : ∀ (i : Nat), (vs[i]? = none ∧ ns[i]? = none) ∨ ∃ x t, vs[i]? = some (.int x t) ∧ ns[i]? = some x := by
  induction h with
  | nil => intro i; exact .inl ⟨by simp, by simp⟩
  | cons j t _ ih =>
    intro i
    cases i with
    | zero => exact .inr ⟨j, t, by simp, by simp⟩
    | succ i => simpa using ih i
theorem ints_idx {vs : List Value} {ns : List Int} (h : IntsAre vs ns) : ∀ idx : List Nat, IntsAre (idx.filterMap (vs.toArray[·]?)) (idx.filterMap (ns[·]?))
  | [] => .nil
  | i :: r => by
    have ih := ints_idx h r
    rcases ints_at h i with ⟨a, b⟩ | ⟨x, t, a, b⟩
    · have a' : vs.toArray[i]? = none := by simpa using a
      rw [List.filterMap_cons_none a', List.filterMap_cons_none b]
      exact ih
    · have a' : vs.toArray[i]? = some (.int x t) := by simpa using a
      rw [List.filterMap_cons_some a', List.filterMap_cons_some b]
      exact .cons x t ih
theorem pick_ints {vs : List Value} {ns : List Int} (h : IntsAre vs ns) (lo hi st : Option Int) : IntsAre (slicePick vs.toArray lo hi st).toList (pickF ns lo hi st) := by
  unfold slicePick pickF
  have e : vs.toArray.size = ns.length := by rw [List.size_toArray]; exact h.length
  rw [e]
  exact ints_idx h _
theorem pick_mem {ns : List Int} {lo hi st : Option Int} {x : Int} (h : x ∈ pickF ns lo hi st) : x ∈ ns := by
  obtain ⟨i, _, e⟩ := List.mem_filterMap.mp h
  exact List.mem_of_getElem? e
theorem pick_len {vs : List Value} {ns : List Int} (h : IntsAre vs ns) (lo hi st : Option Int) : (pickF ns lo hi st).length ≤ ns.length := by
  rw [← (pick_ints h lo hi st).length, ← h.length, Array.length_toList, ← List.size_toArray]
  exact slicePick_size_le _ _ _ _
section
variable {prog : Program} {w : World} {A : Around} {E : Value → Shared → Prop} {s : Shared} {h₀ : Heap} {L : Addr} {m : Str → Option Value}
theorem slice3_ints {value slice : PySem.Expr} {l : Addr} {vs : List Value} {ns : List Int} {vl vu vk : Value} {lo hi st : Option Int} {ops : List Value} {Q : Value → Shared → Prop} {news : List (Addr × Obj)}
    (F : Fr h₀ L s.heap m) (N : News h₀ L s.heap news) (hl : s.heap.IsList l vs.toArray) (pl : IsPart vl lo) (pu : IsPart vu hi) (pk : IsPart vk st) (h0 : st ≠ some 0) (hi' : IntsAre vs ns)
    (h : ∀ D ws h', Fr h₀ L h' m → News h₀ L h' ((D, PySem.W.listOf (List.toArray ws) 0) :: news) → (∀ p ∈ news, p.1 < D) → IntsAre ws (pickF ns lo hi st) → Q (.ref D) { s with heap := h' })
    (hs : subscripted slice false (.ref l) (.ref s.heap.objs.size) = operate ops (getItem (.ref l) (.ref s.heap.objs.size))) (ht : ∀ r, letTemporaryGo value (.ref l) r = pure ()) (hz : vs.toArray.size ≤ sizeLine) :
    wpAny (model prog w) A (subscriptTail value slice (.ref l) (.ref s.heap.objs.size)) Q E { s with heap := s.heap.push { cls := .type "slice", data := .fields #[vl, vu, vk] } } := by
  refine kmk_slice3_lit (zs := (slicePick vs.toArray lo hi st).toList) F N hl pl pu pk h0 rfl (fun D h' F' N' l1 => h D _ h' F' N' l1 (pick_ints hi' lo hi st)) hs ht hz
end
theorem bits_add {x y : Int} {n : Nat} (hx : Builtin.Int.intBits x ≤ n) (hy : Builtin.Int.intBits y ≤ n) : Builtin.Int.intBits (x + y) ≤ n + 1 := by
  have hx := intBits_le_iff.mp hx
  have hy := intBits_le_iff.mp hy
  refine intBits_le_iff.mpr ?_
  have : 2 ^ (n + 1) = 2 ^ n + 2 ^ n := by omega
  omega
/-- a sum of at most 2 ^ k numbers -/
theorem sum_abs : ∀ (ns : List Int) (B : Nat), (∀ x ∈ ns, x.natAbs ≤ B) → ns.sum.natAbs ≤ ns.length * B
  | [], B, _ => by simp
  | x :: r, B, h => by
    have h1 := h x (.head _)
    have h2 := sum_abs r B fun y hy => h y (.tail _ hy)
    rw [List.sum_cons, List.length_cons, Nat.succ_mul]
    omega
theorem bits_sum {ns : List Int} {n : Nat} (h : ∀ x ∈ ns, Builtin.Int.intBits x ≤ n) (hl : ns.length ≤ 64) : Builtin.Int.intBits ns.sum ≤ n + 6 := by
  by_cases he : ns = []
  · subst he
    exact Nat.le_trans ((intBits_le_iff (m := 0) (x := 0)).mpr (by decide)) (Nat.zero_le _)
  refine intBits_le_iff.mpr ?_
  have hp : 0 < 2 ^ n := Nat.pow_pos (by decide)
  have h1 := sum_abs ns (2 ^ n - 1) fun x hx => by
    have := intBits_le_iff.mp (h x hx)
    omega
  have h2 : ns.length * (2 ^ n - 1) ≤ 64 * (2 ^ n - 1) := Nat.mul_le_mul_right _ hl
  have h3 : 2 ^ (n + 6) = 64 * 2 ^ n := by rw [Nat.pow_add]; omega
  omega
end
section
open PySem PySem.W PyProof.Rows
set_option maxRecDepth 100000
theorem ghost_seer {h₁ : Heap} {tabs : List (Addr × Addr)} (hT : TabsAt tabs h₁) (x : h₁.NoSeer) : (ghostOf h₁ tabs).NoSeer where
  statics := let ⟨mc, a, b⟩ := x.statics; ⟨mc, ghost_ns hT a, b⟩
  mods := let ⟨mc, a, b⟩ := x.mods; ⟨mc, ghost_ns hT a, b⟩
  imp := let ⟨mc, a, b⟩ := x.imp; ⟨mc, ghost_ns hT a, b⟩
  main := let ⟨mg, bm, ob, a, b, c, d, e⟩ := x.main; ⟨mg, bm, ob, ghost_ns hT a, b, ghost_get hT c (fun q => by rw [q] at d; cases d), d, e⟩
theorem Tell.top {w : World} {f : Addr} {vs : List Value} {news : List (Addr × Obj)} {need : Nat} {Post : Value → List (Addr × Obj) → Prop} (C : Tell w f vs news need Post)
    {p : Program} {loose : List Str} {mean : ExcName → Option Value} {mg mb : Str → Option Value} {cn : Str} {cs : Scope} {a : Addr} {ccd : Value} {base h₀ : Heap} {L : Addr} {m : Str → Option Value} {s : Shared}
    {Q E : Value → Shared → Prop}
    (B : Below callerA base [] h₀) (F : Fr h₀ L s.heap m) (X : (Mine.hd.heap_1 w.params).In h₀) (N : News h₀ L s.heap news) (T : Top p loose mean mg mb h₀) (S : base.NoSeer) (C1 : CodeHd base 34 30) (C2 : CodeHd base 41 37) (hk : cs.kind = .function) (hg : cs.isGenerator = false) (hc : cs.isCoroutine = false) (hn : need ≤ 100)
    (ret : ∀ r news' h' tk', Fr h₀ L h' m → News h₀ L h' news' → Post r news' → Q r { s with heap := h', toks := tk' }) :
    wpAny (model PySem.Challenge.rw_tl0023_01.row.prog w) (callerA.deeper (envOfC cn cs L a ccd)) (call (.ref f) vs) Q E s :=
  C p loose mean mg mb (1 + claimMargin + 1) 7 _ cn cs a ccd (cellsFrom (L + 1) cs.names []) [] _ _ _ L m s Q E B F X N T S C1 C2 hk hg hc (by unfold claimMargin; omega) (by omega) ret
end
section
open PySem PySem.W PyProof.Rows
set_option maxRecDepth 100000
/-- the digit at place i -/
def dg (n x : Int) (i : Nat) : Int := x / 2 ^ (n.toNat * i) % 2 ^ n.toNat
theorem nat_low (x A B C : Nat) (hC : B ∣ C) : x % (A * C) / A % B = x / A % B := by
  rw [Nat.mod_mul_right_div_self, Nat.mod_mod_of_dvd _ hC]
theorem int_low {x : Int} (h0 : 0 ≤ x) {a b c : Nat} (h : a + b ≤ c) : x % 2 ^ c / 2 ^ a % 2 ^ b = x / 2 ^ a % 2 ^ b := by
  obtain ⟨y, rfl⟩ := Int.eq_ofNat_of_zero_le h0
  have e : (2 : Nat) ^ c = 2 ^ a * 2 ^ (c - a) := by rw [← Nat.pow_add]; congr 1; omega
  have k := nat_low y (2 ^ a) (2 ^ b) (2 ^ (c - a)) (Nat.pow_dvd_pow 2 (by omega))
  rw [← e] at k
  have k2 : ((y % 2 ^ c / 2 ^ a % 2 ^ b : Nat) : Int) = ((y / 2 ^ a % 2 ^ b : Nat) : Int) := congrArg _ k
  simpa only [Int.natCast_emod, Int.natCast_ediv, kbt_cast] using k2
theorem int_up {x : Int} {a b : Nat} : x / 2 ^ a / 2 ^ b = x / 2 ^ (a + b) := by
  rw [Int.ediv_ediv_of_nonneg (Int.le_of_lt (two_pos a)), ← Int.pow_add]
theorem natE {lo hi : Nat} (h : lo + 1 = hi) : (lo : Int) + 1 = (hi : Int) := by subst h; rfl
theorem natN {lo hi : Nat} (h : ¬ lo + 1 = hi) : ¬ (lo : Int) + 1 = (hi : Int) := fun e => h (Int.ofNat.inj e)
theorem midI (lo hi : Nat) : ((lo : Int) + (hi : Int)) / 2 = (((lo + hi) / 2 : Nat) : Int) := rfl
theorem subI {a b : Nat} (h : a < b) : (b : Int) - (a : Int) = ((b - a : Nat) : Int) := (Int.ofNat_sub (Nat.le_of_lt h)).symm
theorem midN {lo hi K : Nat} (h : lo < hi) (hb : ¬ lo + 1 = hi) (h3 : hi - lo ≤ 2 * K) : lo < (lo + hi) / 2 ∧ (lo + hi) / 2 < hi ∧ hi - (lo + hi) / 2 ≤ K ∧ (lo + hi) / 2 - lo ≤ K := by omega
theorem subN2 {a b c : Nat} (h1 : a < b) (h2 : b ≤ c) : c - b + (b - a) = c - a := Nat.sub_add_sub_cancel h2 (Nat.le_of_lt h1)
theorem subN {a b c : Nat} (h1 : a < b) (h2 : b ≤ c) : b - a + (c - b) = c - a := (Nat.add_comm _ _).trans (subN2 h1 h2)
theorem subL {a b c : Nat} (h1 : a ≤ b) (h2 : b < c) : b - a + 1 ≤ c - a := by omega
theorem oneN {lo hi : Nat} (h : lo < hi) (h3 : hi - lo ≤ 2 ^ 0) : lo + 1 = hi := by have : 2 ^ 0 = 1 := rfl; omega
theorem fill_get {n : Int} (hn : 1 ≤ n) : ∀ (k : Nat) (ns : List Int) (x : Int) (lo hi : Nat), lo < hi → hi ≤ ns.length → hi - lo ≤ 2 ^ k → 0 ≤ x → x < 2 ^ (n.toNat * (hi - lo)) → ∀ i : Nat,
    (fillF n k ns x lo hi).getD i 0 = if lo ≤ i ∧ i < hi then x / 2 ^ (n.toNat * (i - lo)) % 2 ^ n.toNat else ns.getD i 0 := by
  have base : ∀ (k : Nat) (ns : List Int) (x : Int) (lo hi : Nat), lo + 1 = hi → hi ≤ ns.length → 0 ≤ x → x < 2 ^ (n.toNat * (hi - lo)) → ∀ i : Nat,
      (fillF n k ns x lo hi).getD i 0 = if lo ≤ i ∧ i < hi then x / 2 ^ (n.toNat * (i - lo)) % 2 ^ n.toNat else ns.getD i 0 := by
    intro k ns x lo hi h1 h2 h3 h4 i
    rw [fill_base (natE h1)]
    subst h1
    rw [Nat.add_sub_cancel_left, Nat.mul_one] at h4
    rw [Int.toNat_natCast, List.getD_eq_getElem?_getD, List.getElem?_set]
    by_cases hi' : lo = i
    · subst hi'
      rw [if_pos rfl, if_pos (Nat.lt_of_succ_le h2), if_pos ⟨Nat.le_refl _, Nat.lt_succ_self _⟩, Nat.sub_self, Nat.mul_zero, Int.pow_zero, Int.ediv_one, Int.emod_eq_of_lt h3 h4]
      rfl
    · rw [if_neg hi', if_neg (fun c => hi' (Nat.le_antisymm c.1 (Nat.le_of_lt_succ c.2))), List.getD_eq_getElem?_getD]
  intro k
  induction k with
  | zero => intro ns x lo hi h1 h2 h3 h4 h5 i; exact base 0 ns x lo hi (oneN h1 h3) h2 h4 h5 i
  | succ k ih =>
    intro ns x lo hi h1 h2 h3 h4 h5 i
    by_cases hb : lo + 1 = hi
    · exact base _ ns x lo hi hb h2 h4 h5 i
    · unfold fillF
      rw [if_neg (natN hb), midI]
      rw [Nat.pow_succ, Nat.mul_comm] at h3
      obtain ⟨m1, m2, m3, m4⟩ := midN h1 hb h3
      generalize (lo + hi) / 2 = mid at m1 m2 m3 m4 ⊢
      obtain ⟨v, rfl⟩ := Int.eq_ofNat_of_zero_le (Int.le_trans (by decide) hn)
      have hs : (((mid : Int) - (lo : Int)) * (v : Int)).toNat = v * (mid - lo) := by
        rw [subI m1, ← Int.natCast_mul, Int.toNat_natCast, Nat.mul_comm]
      rw [hs]
      rw [Int.toNat_natCast] at *
      have hS := two_pos (v * (mid - lo))
      have x1 : 0 ≤ x % 2 ^ (v * (mid - lo)) := Int.emod_nonneg _ (Int.ne_of_gt hS)
      have x2 : x % 2 ^ (v * (mid - lo)) < 2 ^ (v * (mid - lo)) := Int.emod_lt_of_pos _ hS
      have x3 : 0 ≤ x / 2 ^ (v * (mid - lo)) := Int.ediv_nonneg h4 (Int.le_of_lt hS)
      have x4 : x / 2 ^ (v * (mid - lo)) < 2 ^ (v * (hi - mid)) := by
        refine Int.ediv_lt_of_lt_mul hS ?_
        rw [← Int.pow_add, ← Nat.mul_add, subN2 m1 (Nat.le_of_lt m2)]
        exact h5
      rw [ih (fillF (↑v) k ns (x % 2 ^ (v * (mid - lo))) ↑lo ↑mid) _ mid hi m2 (by rw [fillF_len]; exact h2) m3 x3 x4 i]
      rw [ih ns _ lo mid m1 (Nat.le_trans (Nat.le_of_lt m2) h2) m4 x1 x2 i]
      by_cases c1 : mid ≤ i ∧ i < hi
      · rw [if_pos c1, if_pos ⟨Nat.le_trans (Nat.le_of_lt m1) c1.1, c1.2⟩, int_up, ← Nat.mul_add, subN m1 c1.1]
      · rw [if_neg c1]
        by_cases c2 : lo ≤ i ∧ i < mid
        · rw [if_pos c2, if_pos ⟨c2.1, Nat.lt_trans c2.2 m2⟩]
          refine int_low h4 ?_
          have : v * (i - lo) + v = v * (i - lo + 1) := by rw [Nat.mul_add, Nat.mul_one]
          rw [this]
          exact Nat.mul_le_mul_left _ (subL c2.1 c2.2)
        · rw [if_neg c2, if_neg (fun q => c2 ⟨q.1, Nat.lt_of_not_le fun z => c1 ⟨z, q.2⟩⟩)]
theorem join_get {n : Int} (hn : 1 ≤ n) {ns : List Int} {y : Int} (hy : 0 ≤ y) : ∀ (k : Nat) (lo hi : Nat), lo < hi → hi - lo ≤ 2 ^ k → (∀ i : Nat, lo ≤ i → i < hi → ns.getD i 0 = y / 2 ^ (n.toNat * i) % 2 ^ n.toNat) →
    joinF n ns k lo hi = y / 2 ^ (n.toNat * lo) % 2 ^ (n.toNat * (hi - lo)) := by
  have base : ∀ (k : Nat) (lo hi : Nat), lo + 1 = hi → (∀ i : Nat, lo ≤ i → i < hi → ns.getD i 0 = y / 2 ^ (n.toNat * i) % 2 ^ n.toNat) →
      joinF n ns k lo hi = y / 2 ^ (n.toNat * lo) % 2 ^ (n.toNat * (hi - lo)) := by
    intro k lo hi h1 h2
    rw [join_base (natE h1), Int.toNat_natCast]
    subst h1
    rw [h2 lo (Nat.le_refl _) (Nat.lt_succ_self _), Nat.add_sub_cancel_left, Nat.mul_one]
  intro k
  induction k with
  | zero => intro lo hi h1 h2 h3; exact base 0 lo hi (oneN h1 h2) h3
  | succ k ih =>
    intro lo hi h1 h2 h3
    by_cases hb : lo + 1 = hi
    · exact base _ lo hi hb h3
    · unfold joinF
      rw [if_neg (natN hb), midI]
      rw [Nat.pow_succ, Nat.mul_comm] at h2
      obtain ⟨m1, m2, m3, m4⟩ := midN h1 hb h2
      generalize (lo + hi) / 2 = mid at m1 m2 m3 m4 ⊢
      obtain ⟨v, rfl⟩ := Int.eq_ofNat_of_zero_le (Int.le_trans (by decide) hn)
      have hs : (((mid : Int) - (lo : Int)) * (v : Int)).toNat = v * (mid - lo) := by
        rw [subI m1, ← Int.natCast_mul, Int.toNat_natCast, Nat.mul_comm]
      rw [hs]
      rw [Int.toNat_natCast] at *
      rw [ih mid hi m2 m3 (fun i a b => h3 i (Nat.le_trans (Nat.le_of_lt m1) a) b), ih lo mid m1 m4 (fun i a b => h3 i a (Nat.lt_trans b m2))]
      have z1 : lo + (mid - lo) = mid := Nat.add_sub_cancel' (Nat.le_of_lt m1)
      rw [show v * mid = v * lo + v * (mid - lo) by rw [← Nat.mul_add, z1], ← int_up, show v * (hi - lo) = v * (mid - lo) + v * (hi - mid) by rw [← Nat.mul_add, subN m1 (Nat.le_of_lt m2)]]
      have hz : 0 ≤ y / 2 ^ (v * lo) := Int.ediv_nonneg hy (Int.le_of_lt (two_pos _))
      generalize y / 2 ^ (v * lo) = z at hz ⊢
      obtain ⟨u, rfl⟩ := Int.eq_ofNat_of_zero_le hz
      have k1 : u % (2 ^ (v * (mid - lo)) * 2 ^ (v * (hi - mid))) = u % 2 ^ (v * (mid - lo)) + 2 ^ (v * (mid - lo)) * (u / 2 ^ (v * (mid - lo)) % 2 ^ (v * (hi - mid))) := Nat.mod_mul
      rw [← Nat.pow_add] at k1
      have k2 := congrArg (fun t : Nat => (t : Int)) k1
      simp only [Int.natCast_emod, Int.natCast_add, Int.natCast_mul, Int.natCast_ediv, kbt_cast] at k2
      rw [k2, Int.mul_comm, Int.add_comm]
end
section
open PySem PySem.W PyProof.Rows
set_option maxRecDepth 100000
theorem flat_zero : ∀ (m : Nat), (List.replicate m [(0 : Int)]).flatten = List.replicate m 0
  | 0 => rfl
  | m + 1 => by rw [List.replicate_succ, List.flatten_cons, flat_zero m, List.replicate_succ]; rfl
theorem dig_facts {x n : Int} (hn : 1 ≤ n) (hx : 0 < x) {P : Nat} (hP : x < 2 ^ (n.toNat * P)) (hP2 : P ≤ 200) :
    ∃ D : Nat, ((Builtin.Int.intBits x : Int) + n - 1).fdiv n = (D : Int) ∧ 1 ≤ D ∧ D ≤ P ∧ (digF x n).length = D ∧ x < 2 ^ (n.toNat * D) ∧ 2 ^ (n.toNat * (D - 1)) ≤ x ∧ ∀ i : Nat, (digF x n).getD i 0 = x / 2 ^ (n.toNat * i) % 2 ^ n.toNat := by
  obtain ⟨v, rfl⟩ := Int.eq_ofNat_of_zero_le (show 0 ≤ n by omega)
  rw [Int.toNat_natCast] at *
  have hB1 : Builtin.Int.intBits x ≤ v * P := bits_of (Int.le_of_lt hx) hP
  have hB0 : 1 ≤ Builtin.Int.intBits x := by
    rcases Nat.lt_or_ge 0 (Builtin.Int.intBits x) with h | h
    · exact h
    · have := (of_bits (m := 0) h).1
      rw [Int.pow_zero] at this
      omega
  generalize hB : Builtin.Int.intBits x = B at *
  have hv : 1 ≤ v := by omega
  have hdef : ((B : Int) + (v : Int) - 1).fdiv (v : Int) = (((B + v - 1) / v : Nat) : Int) := by
    rw [Int.fdiv_eq_ediv_of_nonneg _ (by omega), Int.natCast_ediv]
    congr 1
    omega
  obtain ⟨D, hD⟩ : ∃ D, (B + v - 1) / v = D := ⟨_, rfl⟩
  rw [hD] at hdef
  have hm := Nat.div_add_mod (B + v - 1) v
  have hl := Nat.mod_lt (B + v - 1) (show 0 < v by omega)
  rw [hD] at hm
  have d1 : B ≤ v * D := by omega
  have d0 : 1 ≤ D := by
    rcases Nat.eq_zero_or_pos D with h | h
    · rw [h, Nat.mul_zero] at d1; omega
    · exact h
  have d2 : v * (D - 1) < B := by
    obtain ⟨E, rfl⟩ : ∃ E, D = E + 1 := ⟨D - 1, by omega⟩
    rw [Nat.mul_add, Nat.mul_one] at hm
    rw [Nat.add_sub_cancel]
    omega
  have d3 : D ≤ P := by
    rcases Nat.lt_or_ge P D with h | h
    · exfalso
      have := Nat.mul_le_mul_left v (show P ≤ D - 1 by omega)
      omega
    · exact h
  have x1 : x < 2 ^ (v * D) := (of_bits (m := v * D) (by rw [hB]; exact d1)).1
  have x2 : 2 ^ (v * (D - 1)) ≤ x := by
    rcases Int.lt_or_le x (2 ^ (v * (D - 1))) with h | h
    · exfalso
      have := bits_of (Int.le_of_lt hx) h
      omega
    · exact h
  have hdig : digF x v = fillF v 8 (List.replicate D 0) x ((0 : Nat) : Int) ((D : Nat) : Int) := by
    unfold digF
    rw [if_neg (by omega), hB, hdef, Int.toNat_natCast, flat_zero]
    rfl
  refine ⟨D, hdef, d0, d3, by rw [hdig, fillF_len, List.length_replicate], x1, x2, fun i => ?_⟩
  have k8 : (2 : Nat) ^ 8 = 256 := rfl
  rw [hdig, fill_get (by omega) 8 _ x 0 D (by omega) (by rw [List.length_replicate]; exact Nat.le_refl _) (by omega) (Int.le_of_lt hx) (by rw [Int.toNat_natCast, Nat.sub_zero]; exact x1) i, Int.toNat_natCast]
  by_cases h : i < D
  · rw [if_pos ⟨Nat.zero_le _, h⟩, Nat.sub_zero]
  · rw [if_neg (by omega), List.getD_eq_getElem?_getD, List.getElem?_eq_none (by rw [List.length_replicate]; omega)]
    have : x < 2 ^ (v * i) := by
      have e : v * i = v * D + v * (i - D) := by rw [← Nat.mul_add]; congr 1; omega
      rw [e, Int.pow_add]
      have h1 := two_pos (v * (i - D))
      have h2 : (2 : Int) ^ (v * D) * 1 ≤ (2 : Int) ^ (v * D) * (2 : Int) ^ (v * (i - D)) := Int.mul_le_mul_of_nonneg_left (show (1 : Int) ≤ _ by omega) (Int.le_of_lt (two_pos _))
      rw [Int.mul_one] at h2
      omega
    rw [Int.ediv_eq_zero_of_lt (Int.le_of_lt hx) this, Int.zero_emod]
    rfl
theorem getD_app {ns : List Int} (i : Nat) : (ns ++ [0]).getD i 0 = ns.getD i 0 := by
  rw [List.getD_eq_getElem?_getD, List.getD_eq_getElem?_getD, List.getElem?_append]
  split
  · rfl
  · rename_i h
    rw [List.getElem?_eq_none (Nat.not_lt.mp h)]
    rcases Nat.eq_zero_or_pos (i - ns.length) with h0 | h0
    · rw [h0]; rfl
    · rw [List.getElem?_eq_none (by show 1 ≤ _; exact h0)]
theorem back_num {x n : Int} (hn : 1 ≤ n) (hx : 0 ≤ x) {P : Nat} (hP : x < 2 ^ (n.toNat * P)) (hP2 : P ≤ 200) : numF (digF x n ++ [0]) n = x := by
  unfold numF
  rw [if_neg (by simp)]
  rcases Int.lt_or_eq_of_le hx with h | h
  · obtain ⟨D, _, d0, d3, dl, x1, _, dd⟩ := dig_facts hn h hP hP2
    have k8 : (2 : Nat) ^ 8 = 256 := rfl
    have e : ((digF x n ++ [0]).length : Int) = ((D + 1 : Nat) : Int) := by rw [List.length_append, dl]; rfl
    rw [e]
    have hj := join_get hn (ns := digF x n ++ [0]) hx 8 0 (D + 1) (by omega) (by omega) (fun i _ _ => by rw [getD_app]; exact dd i)
    refine hj.trans ?_
    rw [Nat.mul_zero, Int.pow_zero, Int.ediv_one, Nat.sub_zero]
    refine Int.emod_eq_of_lt hx ?_
    rw [Nat.mul_add, Int.pow_add]
    have h1 := two_pos (n.toNat * 1)
    have h2 : (2 : Int) ^ (n.toNat * D) * 1 ≤ (2 : Int) ^ (n.toNat * D) * (2 : Int) ^ (n.toNat * 1) := Int.mul_le_mul_of_nonneg_left (show (1 : Int) ≤ _ by omega) (Int.le_of_lt (two_pos _))
    rw [Int.mul_one] at h2
    omega
  · subst h
    unfold digF
    rw [if_pos rfl]
    show joinF n [0] 8 0 1 = 0
    rw [join_base (by rfl)]
    rfl
theorem top_num {x n : Int} (hn : 1 ≤ n) (hx : 0 ≤ x) {P : Nat} (hP : x < 2 ^ (n.toNat * P)) (hP2 : P ≤ 200) : (digF x n).drop ((digF x n).length - 1) ≠ [0] := by
  rcases Int.lt_or_eq_of_le hx with h | h
  · obtain ⟨D, _, d0, d3, dl, x1, x2, dd⟩ := dig_facts hn h hP hP2
    intro he
    have h1 : (digF x n).getD (D - 1) 0 = 0 := by
      have h3 : ((digF x n).drop ((digF x n).length - 1))[0]? = some 0 := by rw [he]; rfl
      rw [List.getElem?_drop, dl, Nat.add_zero] at h3
      rw [List.getD_eq_getElem?_getD, h3]
      rfl
    rw [dd] at h1
    have hS := two_pos (n.toNat * (D - 1))
    have q1 : 1 ≤ x / 2 ^ (n.toNat * (D - 1)) := (Int.le_ediv_iff_mul_le hS).mpr (by omega)
    have q2 : x / 2 ^ (n.toNat * (D - 1)) < 2 ^ n.toNat := by
      refine Int.ediv_lt_of_lt_mul hS ?_
      rw [← Int.pow_add]
      have : n.toNat + n.toNat * (D - 1) = n.toNat * D := by
        obtain ⟨E, rfl⟩ : ∃ E, D = E + 1 := ⟨D - 1, by omega⟩
        rw [Nat.mul_add, Nat.mul_one, Nat.add_sub_cancel]; omega
      rw [this]
      exact x1
    rw [Int.emod_eq_of_lt (by omega) q2] at h1
    omega
  · subst h
    unfold digF
    rw [if_pos rfl]
    exact nofun
end
section
open PySem PySem.W PyProof.Rows
set_option maxRecDepth 100000
def sg (n : Nat) : Int := if n % 2 = 0 then 1 else -1
theorem sg_succ (n : Nat) : sg (n + 1) = - sg n := by
  unfold sg
  by_cases h : n % 2 = 0
  · rw [if_pos h, if_neg (by omega)]
  · rw [if_neg h, if_pos (by omega)]; rfl
theorem sg_sq (n : Nat) : sg n * sg n = 1 := by
  unfold sg
  split <;> rfl
def asum (f : Nat → Int) : Nat → Int
  | 0 => 0
  | n + 1 => asum f n + sg n * f n
theorem asum_congr {f g : Nat → Int} : ∀ {n : Nat}, (∀ k, k < n → f k = g k) → asum f n = asum g n
  | 0, _ => rfl
  | n + 1, h => by
    unfold asum
    rw [asum_congr fun k hk => h k (by omega), h n (by omega)]
theorem asum_mul (c : Int) (f : Nat → Int) : ∀ n : Nat, asum (fun k => c * f k) n = c * asum f n
  | 0 => by unfold asum; rw [Int.mul_zero]
  | n + 1 => by
    unfold asum
    rw [asum_mul c f n, Int.mul_add, Int.mul_left_comm]
theorem asum_sub (f g : Nat → Int) : ∀ n : Nat, asum (fun k => f k - g k) n = asum f n - asum g n
  | 0 => rfl
  | n + 1 => by
    unfold asum
    rw [asum_sub f g n, Int.mul_sub]
    omega
theorem asum_shift (f : Nat → Int) : ∀ n : Nat, asum (fun j => f (j + 1)) n + asum f n = f 0 - sg n * f n
  | 0 => by unfold asum sg; simp
  | n + 1 => by
    have h := asum_shift f n
    unfold asum
    rw [sg_succ, Int.neg_mul]
    omega
theorem asum_front (f : Nat → Int) (n : Nat) : asum f (n + 1) = f 0 - asum (fun j => f (j + 1)) n := by
  have h := asum_shift f n
  show asum f n + sg n * f n = _
  omega
theorem asum_rev (f : Nat → Int) : ∀ n : Nat, asum (fun k => f (n - 1 - k)) n = sg (n + 1) * asum f n
  | 0 => by unfold asum; rw [Int.mul_zero]
  | n + 1 => by
    rw [asum_front]
    have e : asum (fun j => f (n + 1 - 1 - (j + 1))) n = asum (fun k => f (n - 1 - k)) n := asum_congr fun k _ => by congr 1; omega
    rw [e, asum_rev f n]
    have h1 : sg (n + 1) = - sg n := sg_succ n
    have h2 : sg (n + 1 + 1) = sg n := by rw [sg_succ, sg_succ, Int.neg_neg]
    rw [h1, h2]
    show f (n - 0) - -sg n * asum f n = sg n * (asum f n + sg n * f n)
    rw [Int.mul_add, ← Int.mul_assoc, sg_sq, Int.one_mul, Int.neg_mul, Nat.sub_zero]
    omega
/-- Be = R * (X ^ P - 1) / p: what stands above place k -/
theorem above {p X R Q P k : Int} {h : Int} (hp : 0 < p) (hk : 0 < k) (hkh : k * h = p * Q + 1) (hR0 : 0 ≤ R) (hR : R < p) : R * Q / k = R * h / p := by
  have e := Int.mul_ediv_add_emod (R * h) p
  have r0 := Int.emod_nonneg (R * h) (show p ≠ 0 by omega)
  have r1 := Int.emod_lt_of_pos (R * h) hp
  generalize R * h / p = q at *
  generalize R * h % p = r at *
  have e1 : k * (p * q + r) = p * (R * Q) + R := by
    rw [e, Int.mul_left_comm k R h, hkh, Int.mul_add, Int.mul_one, Int.mul_left_comm R p Q]
  rw [Int.mul_add, Int.mul_left_comm k p q] at e1
  generalize R * Q = B at *
  have h1 : k * q ≤ B := by
    rcases Int.lt_or_le B (k * q) with h | h
    · exfalso
      have h2 : p * (B + 1) ≤ p * (k * q) := Int.mul_le_mul_of_nonneg_left (by omega) (by omega)
      have h3 : 0 ≤ k * r := Int.mul_nonneg (by omega) r0
      rw [Int.mul_add, Int.mul_one] at h2
      omega
    · exact h
  have h2 : B < k * q + k := by
    rcases Int.lt_or_le B (k * q + k) with h | h
    · exact h
    · exfalso
      have h3 : p * (k * q + k) ≤ p * B := Int.mul_le_mul_of_nonneg_left h (by omega)
      have h4 : k * (r + 1) ≤ k * p := Int.mul_le_mul_of_nonneg_left (by omega) (by omega)
      rw [Int.mul_add, Int.mul_comm p k] at h3
      rw [Int.mul_add, Int.mul_one] at h4
      omega
  have h3 := Int.mul_ediv_add_emod B k
  have h4 := Int.emod_nonneg B (show k ≠ 0 by omega)
  have h5 := Int.emod_lt_of_pos B hk
  generalize B / k = z at *
  generalize B % k = y at *
  rcases Int.lt_trichotomy z q with h | h | h
  · exfalso
    have h6 : k * (z + 1) ≤ k * q := Int.mul_le_mul_of_nonneg_left (by omega) (by omega)
    rw [Int.mul_add, Int.mul_one] at h6
    omega
  · exact h
  · exfalso
    have h6 : k * (q + 1) ≤ k * z := Int.mul_le_mul_of_nonneg_left (by omega) (by omega)
    rw [Int.mul_add, Int.mul_one] at h6
    omega
/-- Girstmair's sum -/
theorem girst {p X R Q : Int} {P : Nat} (hp : 0 < p) (hX : 0 < X) (hP : P % 2 = 0) (hQ : X ^ P = p * Q + 1) (hR0 : 0 ≤ R) (hR : R < p) :
    p * asum (fun k => R * Q / X ^ k % X) P = -((X + 1) * asum (fun j => R * X ^ j % p) P) := by
  have hpow : ∀ k, 0 < X ^ k := fun k => Int.pow_pos hX
  have ab : ∀ k, k ≤ P → R * Q / X ^ k = R * X ^ (P - k) / p := fun k hk => above (P := 0) (X := 0) hp (hpow k) (by rw [← Int.pow_add, show k + (P - k) = P by omega, hQ]) hR0 hR
  have key : ∀ k, k < P → p * (R * Q / X ^ k % X) = X * (R * X ^ (P - 1 - k) % p) - R * X ^ (P - 1 - k + 1) % p := by
    intro k hk
    have e1 : R * Q / X ^ k % X = R * Q / X ^ k - X * (R * Q / X ^ (k + 1)) := by
      rw [Int.pow_succ, ← Int.ediv_ediv_of_nonneg (Int.le_of_lt (hpow k))]
      have := Int.mul_ediv_add_emod (R * Q / X ^ k) X
      omega
    rw [e1, ab k (by omega), ab (k + 1) (by omega), show P - (k + 1) = P - 1 - k by omega, show P - k = P - 1 - k + 1 by omega]
    have f1 := Int.mul_ediv_add_emod (R * X ^ (P - 1 - k + 1)) p
    have f2 := Int.mul_ediv_add_emod (R * X ^ (P - 1 - k)) p
    have f3 : R * X ^ (P - 1 - k + 1) = X * (R * X ^ (P - 1 - k)) := by rw [Int.pow_succ, Int.mul_comm (X ^ _) X, Int.mul_left_comm]
    rw [f3] at f1 ⊢
    generalize R * X ^ (P - 1 - k) = Y at *
    generalize X * Y % p = u at *
    generalize Y % p = v at *
    generalize Y / p = a at *
    generalize X * Y / p = b at *
    rw [Int.mul_sub, Int.mul_left_comm p X a]
    have f4 : X * (p * a + v) = X * Y := by rw [f2]
    rw [Int.mul_add] at f4
    omega
  rw [← asum_mul]
  rw [asum_congr (g := fun k => (fun j => X * (R * X ^ j % p) - R * X ^ (j + 1) % p) (P - 1 - k)) key, asum_rev (fun j => X * (R * X ^ j % p) - R * X ^ (j + 1) % p) P, asum_sub, asum_mul]
  have s1 : sg (P + 1) = -1 := by unfold sg; rw [if_neg (by omega)]
  have s0 : sg P = 1 := by unfold sg; rw [if_pos hP]
  have sh := asum_shift (fun j => R * X ^ j % p) P
  have last : R * X ^ P % p = R * X ^ 0 % p := by
    rw [hQ, Int.mul_add, Int.mul_one, Int.pow_zero, Int.mul_one, Int.mul_left_comm, Int.add_comm, Int.add_mul_emod_self_left]
  rw [s0, Int.one_mul, last, Int.sub_self] at sh
  rw [s1, Int.add_mul, Int.one_mul]
  generalize asum (fun j => R * X ^ j % p) P = T at *
  generalize asum (fun j => R * X ^ (j + 1) % p) P = U at *
  omega
/-- the stepped slices' sums -/
theorem step_sum (ns : List Int) (a : Nat) : ∀ m : Nat, (((List.range m).map fun k => a + 2 * k).filterMap (ns[·]?)).sum = ((List.range m).map fun k => ns.getD (a + 2 * k) 0).sum
  | 0 => rfl
  | m + 1 => by
    rw [List.range_succ, List.map_append, List.map_append, List.filterMap_append, List.sum_append, List.sum_append, step_sum ns a m]
    congr 1
    simp only [List.map_cons, List.map_nil, List.sum_cons, List.sum_nil]
    rw [List.getD_eq_getElem?_getD]
    cases h : ns[a + 2 * m]? with
    | none => rw [List.filterMap_cons_none h]; rfl
    | some d => rw [List.filterMap_cons_some h]; simp
theorem asum_split (f : Nat → Int) : ∀ n : Nat, asum f n = ((List.range ((n + 1) / 2)).map fun k => f (0 + 2 * k)).sum - ((List.range (n / 2)).map fun k => f (1 + 2 * k)).sum
  | 0 => rfl
  | n + 1 => by
    show asum f n + sg n * f n = _
    rw [asum_split f n]
    unfold sg
    by_cases h : n % 2 = 0
    · rw [if_pos h, show (n + 1 + 1) / 2 = (n + 1) / 2 + 1 by omega, show (n + 1) / 2 = n / 2 by omega, List.range_succ, List.map_append, List.sum_append]
      simp only [List.map_cons, List.map_nil, List.sum_cons, List.sum_nil]
      rw [show 0 + 2 * (n / 2) = n by omega]
      omega
    · rw [if_neg h, show (n + 1 + 1) / 2 = (n + 1) / 2 by omega, show (n + 1) / 2 = n / 2 + 1 by omega, List.range_succ, List.map_append, List.map_append, List.sum_append, List.sum_append]
      simp only [List.map_cons, List.map_nil, List.sum_cons, List.sum_nil]
      rw [show 1 + 2 * (n / 2) = n by omega]
      omega
end
section
local macro_rules | `(tactic| k_room) => `(tactic| ktr_room)
local macro_rules | `(tactic| walk_at "call ref") => `(tactic| k_extra "call ref")
local macro_rules | `(tactic| walk_at "binaryOp LShift int int") => `(tactic| (k_here; k_dflt (refine' lsh ?a ?b ?c ?_; (case a => first | assumption | k_extra "bits"); (case b => first | assumption | k_extra "bits"); (case c => first | assumption | k_extra "bits"); k_whole)))
local macro_rules | `(tactic| walk_at "inplaceOp LShift int int") => `(tactic| (k_here; k_dflt (refine' ilsh ?a ?b ?c ?_; (case a => first | assumption | k_extra "bits"); (case b => first | assumption | k_extra "bits"); (case c => first | assumption | k_extra "bits"); k_whole)))
local macro_rules | `(tactic| walk_at "binaryOp Mult int int") => `(tactic| (k_here; k_dflt (refine' mulB ?a ?b ?_; (case a => first | assumption | k_extra "bits"); (case b => first | assumption | k_extra "bits"); k_whole)))
local macro_rules | `(tactic| walk_at "exec While Compare cons nil") => `(tactic| k_extra "exec While Compare cons nil")
local macro_rules | `(tactic| ktn_end $c:term) => `(tactic| ((try unfold Halt); (with_unfolding_all refine' Tell.use $c ?k1 ?k2 ?k3 ?k4 ?k5 ?k6 ?k7 ?k8 ?k9 ?k10 ?k11 ?k12 ?k13 ?_); (case k1 => k_asm); (case k2 => k_asm); (case k3 => k_asm); (case k4 => k_asm); (case k5 => k_asm); (case k6 => k_asm); (case k7 => k_asm); (case k8 => k_asm); (case k9 => first | exact rfl | k_asm); (case k10 => first | exact rfl | k_asm); (case k11 => first | exact rfl | k_asm); (case k12 => (dsimp only [Around.deeper, ktrTop]; omega)); (case k13 => (dsimp only [Around.deeper, ktrTop]; omega))))
section
open PySem PySem.W PyProof.Rows
set_option maxRecDepth 100000
set_option maxHeartbeats 1000000
local macro_rules | `(tactic| walk_at "binaryOp RShift int int") => `(tactic| (k_here; k_dflt (refine' rsh ?a ?_; (case a => assumption); k_whole)))
local macro_rules | `(tactic| walk_at "inplaceOp RShift int int") => `(tactic| (k_here; k_dflt (refine' irsh ?a ?_; (case a => assumption); k_whole)))
theorem d32 (w : World) (k : Nat) (hk10 : k ≤ 10) (IH : All21 w k) : All32 w k := by
  intro a12 a3 b b1 b2 n t1 t2 t3 t4 t5 t6 news P
  unfold Tell
  w_top off
  k_fill
  intro p loose mean mg mb dp un gd cn cs aa ccd cl outer A₀ base h₀ L m s Q E B F X N T S C1 C2 hk hg hc hd hu hret
  obtain ⟨z1, z2, z3, z4, z5⟩ := P.szs hk10
  have z6 : Builtin.Int.intBits 1 ≤ 60000000 := by decide
  have hb0 : 0 < b := P.bpos
  refine wpAny_call ?_
  k_dflt cell_enter
  k_with_none
  k_with "call ref" => refine halt ?_
  k_with "bits" => exact P.r1b hk10 (by assumption)
  k_with "exec While Compare cons nil" => k_while (fun script q r => q * b + r = a12 * 2 ^ n.toNat + a3 ∧ r < b) (fun script q r => (-r).toNat) "q" "r"
  k_with "state" => first | exact P.st1 (by assumption) | exact P.st2 P1' P2' P3' | exact wh_turn (by assumption) (by assumption) (by assumption)
  k_steps
  · exact dm_end (own := [_]) hret (by assumption) (by assumption) (by rename _ ∧ AllLt _ _ => hl; exact hl.2) ⟨by assumption, by omega, by assumption⟩
  · ktn_end (IH _ _ _ _ _ _ _ (P.pre21 (by assumption)))
    intro r' n' h' tk' F' N' P'
    obtain ⟨t', q', tq', r', tr', rfl, rfl, l1', P1', P2', P3'⟩ := P'
    have hab := (P.pre21 (by assumption)).abits hk10
    obtain ⟨hqb, hrb, hq0⟩ := dm_bits hab.2.1 hab.2.2 hab.1 P1' P2' P3'
    have st := P.st2 P1' P2' P3'
    k_with "state" => first | exact st | exact wh_turn (by assumption) (by assumption) (by assumption)
    k_steps
    exact dm_end (own := [_]) hret (by assumption) (by assumption) (by rename _ ∧ AllLt _ _ => hl; exact hl.2) ⟨by assumption, by omega, by assumption⟩
end
local macro_rules | `(tactic| walk_at "binaryOp RShift int int") => `(tactic| (k_here; k_dflt (refine' rsh ?a ?_; (case a => first | assumption | k_extra "bits"); k_whole)))
local macro_rules | `(tactic| walk_at "inplaceOp RShift int int") => `(tactic| (k_here; k_dflt (refine' irsh ?a ?_; (case a => first | assumption | k_extra "bits"); k_whole)))
section
open PySem PySem.W PyProof.Rows
set_option maxRecDepth 100000
set_option maxHeartbeats 1000000

local macro_rules | `(tactic| walk_at "call builtin:divmod") => `(tactic| (k_here; k_dflt (refine' dmR ?F ?N ?b ?r ?_; (case F => k_asm); (case N => k_asm); (case b => first | assumption | omega); (case r => exact room (by k_asm) (by k_asm) (by k_asm) (by k_asm) rfl rfl (by dsimp only [Around.deeper, ktrTop]; omega)); k_whole); intro D' h' F' N' l1))
theorem d21_0 (w : World) : All21 w 0 := by
  intro a b n ta tb tn news P
  unfold Tell
  w_top off
  k_fill
  intro p loose mean mg mb dp un gd cn cs aa ccd cl outer A₀ base h₀ L m s Q E B F X N T S C1 C2 hk hg hc hd hu hret
  have hb0 : 0 < b := by have := P.1; have := P.2.2.1; have := two_pos n.toNat; omega
  have hb1 : b ≠ 0 := by omega
  have hdir : (Builtin.Int.intBits a : Int) - n ≤ 4000 := by
    by_cases h : (Builtin.Int.intBits a : Int) - n ≤ 4000
    · exact h
    · have := P.big h; have := P.2.1; omega
  refine wpAny_call ?_
  k_dflt cell_enter
  k_with_none
  k_with "call ref" => refine halt ?_
  k_steps
  exact dm_end (own := []) hret (by assumption) (by assumption) (by assumption) (direct_done hb0)
theorem d21_s (w : World) (j : Nat) (hj : j + 1 ≤ 10) (IH : All32 w j) : All21 w (j + 1) := by
  intro a b n ta tb tn news P
  unfold Tell
  w_top off
  k_fill
  intro p loose mean mg mb dp un gd cn cs aa ccd cl outer A₀ base h₀ L m s Q E B F X N T S C1 C2 hk hg hc hd hu hret
  have hb0 : 0 < b := by have := P.1; have := P.2.2.1; have := two_pos n.toNat; omega
  have hb1 : b ≠ 0 := by omega
  have hn0 : 0 ≤ n := by have := P.1; omega
  have hab := (P.abits hj).1
  have hbb : Builtin.Int.intBits b ≤ 60000000 := bits_small (n := n) (by omega) P.2.2.2.1 (by have := len_le hj P.2.1; omega)
  have z6 : Builtin.Int.intBits 1 ≤ 60000000 := by decide
  have z10 : (0 : Int) ≤ 1 := by decide
  have z11 : (1 : Int) ≤ 60000000 := by decide
  refine wpAny_call ?_
  k_dflt cell_enter
  k_with_none
  k_with "call ref" => refine halt ?_
  k_with "bits" => first
    | exact ((P.even (by assumption) (by assumption)).sz (by omega)).1
    | exact ((P.even (by assumption) (by assumption)).sz (by omega)).2.1
    | exact ((P.odd (by assumption) (by assumption)).sz (by omega)).1
    | exact ((P.odd (by assumption) (by assumption)).sz (by omega)).2.1
    | exact ((P.odd (by assumption) (by assumption)).sz (by omega)).2.2.1
  k_steps
  · exact dm_end (own := []) hret (by assumption) (by assumption) (by assumption) (direct_done hb0)
  · have PE := P.odd (by assumption) (by assumption)
    ktn_end (IH _ _ _ _ _ _ _ _ _ _ _ _ _ PE.first)
    intro r' n' h' tk' F' N' P'
    obtain ⟨t', q1, tq', r1, tr', rfl, rfl, l1', P1', P2', P3'⟩ := P'
    obtain ⟨E1, hq1b, hq1⟩ := PE.q1b (by omega) P1' P2' P3'
    k_steps
    ktn_end (IH _ _ _ _ _ _ _ _ _ _ _ _ _ (PE.second P2' P3'))
    intro r' n' h' tk' F' N' P'
    obtain ⟨t', q2, tq', r2, tr', rfl, rfl, l2', Q1', Q2', Q3'⟩ := P'
    have hdone := odd_done (PE.done (by omega) E1 hq1 P2' P3' Q1' Q2' Q3') Q2' Q3'
    k_steps
    all_goals first | contradiction | exact dm_end (own := [_, _, _]) hret (by assumption) (by assumption) (by rename _ ∧ _ ∧ _ ∧ AllLt _ _ => hl; exact hl.2.2.2) ⟨hdone, by assumption, by assumption⟩ | exact dm_end (own := [_, _, _]) hret (by assumption) (by assumption) (by rename _ ∧ _ ∧ _ ∧ AllLt _ _ => hl; exact hl.2.2.2) hdone
  · have PE := P.even (by assumption) (by assumption)
    ktn_end (IH _ _ _ _ _ _ _ _ _ _ _ _ _ PE.first)
    intro r' n' h' tk' F' N' P'
    obtain ⟨t', q1, tq', r1, tr', rfl, rfl, l1', P1', P2', P3'⟩ := P'
    obtain ⟨E1, hq1b, hq1⟩ := PE.q1b (by omega) P1' P2' P3'
    k_steps
    ktn_end (IH _ _ _ _ _ _ _ _ _ _ _ _ _ (PE.second P2' P3'))
    intro r' n' h' tk' F' N' P'
    obtain ⟨t', q2, tq', r2, tr', rfl, rfl, l2', Q1', Q2', Q3'⟩ := P'
    have hdone := PE.done (by omega) E1 hq1 P2' P3' Q1' Q2' Q3'
    k_steps
    all_goals first | contradiction | exact dm_end (own := [_, _, _]) hret (by assumption) (by assumption) (by rename _ ∧ _ ∧ _ ∧ AllLt _ _ => hl; exact hl.2.2.2) ⟨hdone, by assumption, by assumption⟩ | exact dm_end (own := [_, _, _]) hret (by assumption) (by assumption) (by rename _ ∧ _ ∧ _ ∧ AllLt _ _ => hl; exact hl.2.2.2) hdone
theorem all21 (w : World) : ∀ k, k ≤ 10 → All21 w k
  | 0, _ => d21_0 w
  | j + 1, h => d21_s w j h (d32 w j (by omega) (all21 w j (by omega)))
end
local macro_rules | `(tactic| k_mem) => `(tactic| first | exact List.mem_cons_self | assumption | (refine List.mem_cons_of_mem _ ?_; k_mem))
local macro_rules | `(tactic| k_all) => `(tactic| first | assumption | exact ne_all2 (by assumption) | exact ne_all (by assumption) (by omega))
local macro_rules | `(tactic| walk_at "exec FunctionDef") => `(tactic| k_extra "exec FunctionDef")
local macro_rules | `(tactic| k_enter) => `(tactic| first
  | (refine' code_def ?k1 ?k2 ?k3 ?k4 ?k5 ?kA ?kF ?kK ?k6 ?k7 ?k8 ?k9 ?kB ?_ ?c2 ?c3 ?c4 ?c5; (case kA => exact rfl); (case kF => exact rfl); (case kK => first | exact rfl | assumption); (case k1 => k_asm); (case k2 => k_asm); (case k3 => k_asm); (case k4 => k_asm); (case k5 => k_asm); (case k6 => k_is); (case k7 => k_is); (case k8 => k_room); (case k9 => first | exact BindsTo.of_eq rfl | exact binds_K (by k_in) rfl (by k_is) rfl rfl rfl | (refine' kp_binds ?kx ?ke; (case kx => k_in); (case ke => exact fun _ => rfl)) | fail "k_enter: no rule for these arguments"); (case c5 => decide); (case kB => exact locs rfl); (case c2 => exact rfl); (case c3 => exact rfl); (case c4 => exact rfl); k_whole; intro g' L' h' FG' F' N' B' X' T'; (try dsimp only); (try k_lift B'); (try k_fold))
  | (refine' code_defC ?k1 ?k2 ?k3 ?k4 ?k5 ?kA ?kF ?kK ?k6 ?k7 ?k8 ?k9 ?kB ?kD ?_ ?c2 ?c3 ?c4; (case kA => exact rfl); (case kF => exact rfl); (case kK => first | exact rfl | assumption); (case k1 => k_asm); (case k2 => k_asm); (case k3 => k_asm); (case k4 => k_asm); (case k5 => k_asm); (case k6 => k_is); (case k7 => k_is); (case k8 => k_room); (case k9 => first | exact BindsTo.of_eq rfl | exact binds_K (by k_in) rfl (by k_is) rfl rfl rfl | (refine' kp_binds ?kx ?ke; (case kx => k_in); (case ke => exact fun _ => rfl)) | fail "k_enter: no rule for these arguments"); (case kB => exact rfl); (case kD => decide +kernel); (case c2 => exact rfl); (case c3 => exact rfl); (case c4 => exact rfl); k_whole; intro g' L' h' tk' cells' FG' F' N' Y' B' X' T' l1; (try k_lt l1); k_cells Y'; (try simp only [List.cons_append, List.nil_append] at N'); (try dsimp only); (try k_lift B'); (try k_fold)))
local macro_rules | `(tactic| kn_enter) => `(tactic| (refine' code_nest ?k1 ?k2 ?k3 ?k4 ?k5 ?kA ?kF ?kK ?k6 ?k7 ?k8 ?k9 ?kB ?_ ?c2 ?c3 ?c4 ?c5; (case kA => exact rfl); (case kF => exact rfl); (case kK => first | exact rfl | assumption); (case k1 => k_asm); (case k2 => k_asm); (case k3 => k_asm); (case k4 => k_asm); (case k5 => k_asm); (case k6 => k_mem); (case k7 => exact codeRec_news (by k_asm) (by k_mem) (by assumption) (by assumption)); (case k8 => k_room); (case k9 => exact BindsTo.of_eq rfl); (case c5 => decide); (case kB => exact locs rfl); (case c2 => exact rfl); (case c3 => exact rfl); (case c4 => exact rfl); k_whole; intro g' L' h' FG' F' N' B' X' T'; (try dsimp only); (try k_lift B'); (try k_fold)))
local macro_rules | `(tactic| walk_at "pyIter ref") => `(tactic| k_extra "pyIter ref")
local macro_rules | `(tactic| walk_at "InvEndN") => `(tactic| k_extra "InvEndN")
section
open PySem PySem.W PyProof.Rows
set_option maxRecDepth 100000
set_option maxHeartbeats 1000000
local macro_rules | `(tactic| walk_at "binaryOp FloorDiv int int") => `(tactic| (k_here; k_dflt (refine' fdR ?b ?r ?_; (case b => first | assumption | omega); (case r => exact room (by k_asm) (by k_asm) (by k_asm) (by k_asm) rfl rfl (by dsimp only [Around.deeper, ktrTop]; omega)); k_whole)))
theorem i2d (w : World) (a n : Int) (ta tn : Tok) (news : List (Addr × Obj)) (P : Pre35 a n) (K : Tabs news) : Tell w 35 [.int a ta, .int n tn] news 20 (Post35 a n news) := by
  obtain ⟨ha, hn, hab, hnb, hd0, hd1, hd6⟩ := id P
  unfold Tell
  w_top off
  k_fill
  intro p loose mean mg mb dp un gd cn cs aa ccd cl outer A₀ base h₀ L m s Q E B F X N T S C1 C2 hk hg hc hd hu hret
  have hn0 : n ≠ 0 := by omega
  refine wpAny_call ?_
  k_dflt k_enter
  k_with_none
  k_with "call ref" => refine halt ?_
  k_with "exec FunctionDef" => refine halt ?_
  k_steps
  rename (∀ p ∈ news, _ < _) => hlt
  have h30 := K.1.lt hlt
  have h37 := K.2.lt hlt
  unfold Halt
  k_dflt (refine' nestDef_K ?d0 ?k0 ?a0 ?_; (case d0 => exact rfl); (case k0 => exact rfl); (case a0 => exact rfl))
  with_unfolding_all refine' mkAny (P := 30) (c := 34) [_, _, _, _, _] ?F ?N ?T ?C ?cd ?K ?hP ?hb ?hs ?cl ?_
  case F => k_asm
  case N => with_unfolding_all exact (by assumption)
  case T => k_asm
  case cd => exact rfl
  case C => kn_code
  case K => with_unfolding_all exact K.1
  case hb => exact ⟨_, .head _, ltN (by omega)⟩
  case hP =>
    simp only [List.forall_mem_cons, List.not_mem_nil, false_implies, implies_true, and_true]
    exact ⟨neN (by omega), neN (by omega), neN (by omega), neN (by omega), neN (by omega)⟩
  case hs =>
    simp only [List.forall_mem_cons, List.not_mem_nil, false_implies, implies_true, and_true]
    exact ⟨ne_all hlt (by omega), ne_all hlt (by omega), ne_all hlt (by omega), ne_all hlt (by omega), ne_all hlt (by omega)⟩
  case cl => exact rfl
  intro f rest c' oc vc tc ctv doc h' tk' F' N' hkp hP' hc' hoc hvc hc37 hsep hlf
  simp only [List.cons_append, List.nil_append, List.forall_mem_cons, List.not_mem_nil, false_implies, implies_true, and_true] at N' hsep hlf
  obtain ⟨s1, s2, s3, s4, s5⟩ := hsep
  simp only [AllLt, and_true] at hlf
  have hkeep : Keeps2 news rest := fun q hq h1 _ => hkp q hq h1
  have htabs : Tabs rest := ⟨.inr ⟨c', oc, vc, tc, hP', hc', hoc, hvc, hc37⟩, K.2.keeps hkp (by decide) (by decide)⟩
  k_steps
  · rename (0 ≤ Int.fdiv _ _ → _) => e3
    rename (List.length _ = _) => e1
    rename IntsAre (List.flatten _) _ => i1
    have e3' := e3 hd0
    simp only [Nat.zero_add, Int.natCast_one, Int.one_mul] at e3'
    have hpos := digs_pos P (by assumption)
    unfold Halt
    refine led_abs (by assumption) ?ne ?_
    case ne =>
      simp only [List.forall_mem_cons]
      exact ⟨neN (by omega), neN (by omega), neN (by omega), neN (by omega), neN (by omega), s1⟩
    intro Dx R eD m1 m2 m3 m4 hsub hne NR
    subst eD
    have m5 := hsub _ hc'
    have key : ∀ k : Nat, ∀ (lo hi x : Int) (vs : List Value) (ns : List Int) (tx tl th : Tok), IntsAre vs ns → 0 ≤ x → Builtin.Int.intBits x ≤ 60000000 → 0 ≤ lo → lo < hi → hi ≤ (ns.length : Int) → hi - lo ≤ ((2 ^ k : Nat) : Int) → hi * n ≤ 60000000 → hi ≤ 200 →
        Tell w f [.int x tx, .int lo tl, .int hi th] ((Dx, PySem.W.listOf vs.toArray 0) :: R) (k + 1) (fun r news' => r = .none ∧ ∃ vs', IntsAre vs' (fillF n k ns x lo hi) ∧ news' = (Dx, PySem.W.listOf vs'.toArray 0) :: R) := by
      have z1 : Builtin.Int.intBits n ≤ 60000000 := hnb
      have z10 : (0 : Int) ≤ 1 := by decide
      intro k
      induction k with
      | zero =>
        intro lo hi x vs ns tx tl th hi1 hx hxb hlo hlh hhi hk1 hn2 h200
        have hbase : lo + 1 = hi := by have : 2 ^ 0 = 1 := rfl; omega
        unfold Tell
        w_top off
        k_fill
        intro p loose mean mg mb dp un gd cn cs aa ccd cl outer A₀ base h₀ L m s Q E B F X N T S C1 C2 hk hg hc hd hu hret
        refine wpAny_call ?_
        k_dflt kn_enter
        k_steps
        all_goals first | contradiction | exact hret _ _ _ _ (by assumption) (by assumption) ⟨rfl, _, by rw [fill_base hbase]; assumption, rfl⟩
      | succ k ih =>
        intro lo hi x vs ns tx tl th hi1 hx hxb hlo hlh hhi hk1 hn2 h200
        obtain ⟨f1, f2, f3, f4, f5, f6, f7, f8⟩ := mid_facts (k := k) hlo hlh h200 hn hn2
        obtain ⟨f8, f9⟩ := f8 hk1
        obtain ⟨g1, g2, g3, g4⟩ := low_up (((lo + hi).fdiv (2 ^ Int.toNat 1) - lo) * n).toNat hx hxb
        unfold Tell
        w_top off
        k_fill
        intro p loose mean mg mb dp un gd cn cs aa ccd cl outer A₀ base h₀ L m s Q E B F X N T S C1 C2 hk hg hc hd hu hret
        refine wpAny_call ?_
        k_dflt kn_enter
        k_steps
        · exact hret _ _ _ _ (by assumption) (by assumption) ⟨rfl, _, by rw [fill_base (by assumption)]; assumption, rfl⟩
        ktn_end (ih _ _ _ _ _ _ _ _ hi1 g1 g2 hlo (f3 (by assumption)) (by omega) f8 f7 (by omega))
        intro r' n' h' tk' F' N' P'
        obtain ⟨rfl, vs1, hv1, rfl⟩ := P'
        k_steps
        ktn_end (ih _ _ _ _ _ _ _ _ hv1 g3 g4 (by omega) f2 (by rw [fillF_len]; omega) f9 hn2 h200)
        intro r' n' h' tk' F' N' P'
        obtain ⟨rfl, vs2, hv2, rfl⟩ := P'
        k_steps
        exact hret _ _ _ _ (by assumption) (by assumption) ⟨rfl, _, by rw [fill_step (by assumption) hx]; exact hv2, rfl⟩
    ktn_end (key 8 _ _ _ _ _ _ _ _ i1 ha hab (by decide) (by omega) (by rw [e1]; exact Int.le_refl _) (by have : (2 : Nat) ^ 8 = 256 := rfl; omega) (by rw [e3']; exact hd6) (by omega))
    intro r' n' h' tk' F' N' P'
    obtain ⟨rfl, vs2, hv2, rfl⟩ := P'
    k_steps
    refine hret _ _ _ _ (by assumption) (by assumption) ⟨Dx, vs2, R, rfl, ?_, rfl, fun q hq h1 h2 => hsub _ (hkeep q hq h1 h2), htabs.sub hsub, fun q hq => Nat.lt_trans (hlt q hq) (ltN (by omega))⟩
    rw [e3'] at hv2
    unfold digF
    rw [if_neg (by assumption)]
    exact hv2
  · rename IntsAre (List.flatten _) _ => i1
    rename News h₀ L _ _ => kN
    rename a = 0 => ha0
    obtain ⟨R, kN2, hsubW⟩ := dup_abs kN
    refine hret _ _ _ _ (by assumption) kN2 ⟨_, _, _, rfl, ?_, rfl, fun q hq h1 h2 => hsubW _ (hkeep q hq h1 h2), htabs.sub hsubW, fun q hq => Nat.lt_trans (hlt q hq) (ltN (by omega))⟩
    have e : digF a n = (List.replicate (((Builtin.Int.intBits a : Int) + n - 1).fdiv n).toNat [0]).flatten := by
      subst ha0
      unfold digF
      rw [if_pos rfl, digs_zero hn]
      rfl
    rw [e]
    exact i1
end
section
open PySem PySem.W PyProof.Rows
set_option maxRecDepth 100000
set_option maxHeartbeats 1000000
local macro_rules | `(tactic| walk_at "truthy ref") => `(tactic| (k_here; k_dflt (refine' truthyL ?N ?m ?i ?l ?_; (case N => k_asm); (case m => k_mem); (case i => assumption); (case l => assumption); k_whole)))
theorem d2i (w : World) (l : Addr) (n : Int) (tn : Tok) (vs : List Value) (ns : List Int) (e : Nat) (news : List (Addr × Obj)) (P : Pre42 ns n) (K : Tabs news) (hl : (l, PySem.W.listOf vs.toArray e) ∈ news) (hvs : IntsAre vs ns) (hl37 : @LT.lt Nat _ 37 l) :
    Tell w 42 [.ref l, .int n tn] news 20 (Post42 ns n news) := by
  obtain ⟨hn, hD, h200, h6, hnb⟩ := id P
  unfold Tell
  w_top off
  k_fill
  intro p loose mean mg mb dp un gd cn cs aa ccd cl outer A₀ base h₀ L m s Q E B F X N T S C1 C2 hk hg hc hd hu hret
  have hsz : vs.toArray.size = ns.length := by rw [List.size_toArray]; exact hvs.length
  refine wpAny_call ?_
  k_dflt k_enter
  k_with_none
  k_with "call ref" => refine halt ?_
  k_with "exec FunctionDef" => refine halt ?_
  k_steps
  rename (∀ p ∈ news, _ < _) => hlt
  have h30 := K.1.lt hlt
  have h37 := K.2.lt hlt
  unfold Halt
  k_dflt (refine' nestDef_K ?d0 ?k0 ?a0 ?_; (case d0 => exact rfl); (case k0 => exact rfl); (case a0 => exact rfl))
  with_unfolding_all refine' mkAny (P := 37) (c := 41) [_, _, _] ?F ?N ?T ?C ?cd ?K ?hP ?hb ?hs ?cl ?_
  case F => k_asm
  case N => with_unfolding_all exact (by assumption)
  case T => k_asm
  case cd => exact rfl
  case C => kn_code
  case K => with_unfolding_all exact K.2
  case hb => exact ⟨_, .head _, ltN (by omega)⟩
  case hP =>
    simp only [List.forall_mem_cons, List.not_mem_nil, false_implies, implies_true, and_true]
    exact ⟨neN (by omega), neN (by omega), neN (by omega)⟩
  case hs =>
    simp only [List.forall_mem_cons, List.not_mem_nil, false_implies, implies_true, and_true]
    exact ⟨ne_all hlt (by omega), ne_all hlt (by omega), ne_all hlt (by omega)⟩
  case cl => exact rfl
  intro f rest c' oc vc tc ctv doc h' tk' F' N' hkp hP' hc' hoc hvc hc37 hsep hlf
  simp only [List.cons_append, List.nil_append, List.forall_mem_cons, List.not_mem_nil, false_implies, implies_true, and_true] at N' hsep hlf
  obtain ⟨s1, s2, s3⟩ := hsep
  simp only [AllLt, and_true] at hlf
  have hkeep : Keeps2 news rest := fun q hq _ h1 => hkp q hq h1
  have htabs : Tabs rest := ⟨K.1.keeps hkp (by decide) (by decide), .inr ⟨c', oc, vc, tc, hP', hc', hoc, hvc, hc37⟩⟩
  have hl' : (l, PySem.W.listOf vs.toArray e) ∈ rest := hkp _ hl (Nat.ne_of_gt hl37)
  k_steps
  · have hne : 0 < ns.length := List.length_pos_iff.mpr (by assumption)
    unfold Halt
    refine led_abs3 (by assumption) ?_
    intro R m1 m2 m3 m4 hsub NR
    have m5 := hsub _ hc'
    have m6 := hsub _ hl'
    have key : ∀ k : Nat, ∀ (lo hi : Int) (tl th : Tok), 0 ≤ lo → lo < hi → hi ≤ (ns.length : Int) → hi - lo ≤ ((2 ^ k : Nat) : Int) → hi * n ≤ 60000000 → hi ≤ 200 →
        Tell w f [.int lo tl, .int hi th] R (k + 1) (fun r news' => (∃ t, r = .int (joinF n ns k lo hi) t) ∧ news' = R) := by
      have z10 : (0 : Int) ≤ 1 := by decide
      intro k
      induction k with
      | zero =>
        intro lo hi tl th hlo hlh hhi hk1 hn2 h200
        have hbase : lo + 1 = hi := by have : 2 ^ 0 = 1 := rfl; omega
        unfold Tell
        w_top off
        k_fill
        intro p loose mean mg mb dp un gd cn cs aa ccd cl outer A₀ base h₀ L m s Q E B F X N T S C1 C2 hk hg hc hd hu hret
        refine wpAny_call ?_
        k_dflt kn_enter
        k_steps
        all_goals first | contradiction | exact hret _ _ _ _ (by assumption) (by assumption) ⟨⟨_, by rw [join_base hbase]⟩, rfl⟩
      | succ k ih =>
        intro lo hi tl th hlo hlh hhi hk1 hn2 h200
        obtain ⟨f1, f2, f3, f4, f5, f6, f7, f8⟩ := mid_facts (k := k) hlo hlh h200 hn hn2
        obtain ⟨f8, f9⟩ := f8 hk1
        have f10 := join_bits P (by omega) f2 hhi f9
        unfold Tell
        w_top off
        k_fill
        intro p loose mean mg mb dp un gd cn cs aa ccd cl outer A₀ base h₀ L m s Q E B F X N T S C1 C2 hk hg hc hd hu hret
        refine wpAny_call ?_
        k_dflt kn_enter
        k_steps
        · exact hret _ _ _ _ (by assumption) (by assumption) ⟨⟨_, by rw [join_base (by assumption)]⟩, rfl⟩
        ktn_end (ih _ _ _ _ (by omega) f2 hhi f9 hn2 h200)
        intro r' n' h' tk' F' N' P'
        obtain ⟨⟨t1, rfl⟩, rfl⟩ := P'
        k_steps
        ktn_end (ih _ _ _ _ hlo (f3 (by assumption)) (by omega) f8 f7 (by omega))
        intro r' n' h' tk' F' N' P'
        obtain ⟨⟨t1, rfl⟩, rfl⟩ := P'
        k_steps
        exact hret _ _ _ _ (by assumption) (by assumption) ⟨⟨_, by rw [join_step (by assumption)]⟩, rfl⟩
    ktn_end (key 8 _ _ _ _ (by decide) (by omega) (Int.le_refl _) (by have : (2 : Nat) ^ 8 = 256 := rfl; omega) h6 (by omega))
    intro r' n' h' tk' F' N' P'
    obtain ⟨⟨t1, rfl⟩, rfl⟩ := P'
    k_steps
    refine hret _ _ _ _ (by assumption) (by assumption) ⟨t1, ?_, fun q hq h1 h2 => hsub _ (hkeep q hq h1 h2), htabs.sub hsub⟩
    unfold numF
    rw [if_neg (by assumption)]
  · rename ¬ ns ≠ [] => hnil
    have hnil : ns = [] := Classical.not_not.mp hnil
    rename News h₀ L _ _ => kN
    have e0 : numF ns n = 0 := by unfold numF; rw [if_pos hnil]
    exact hret _ _ _ _ (by assumption) kN ⟨_, by rw [e0], fun q hq h1 h2 => .tail _ (.tail _ (.tail _ (.tail _ (hkeep q hq h1 h2)))), htabs.sub fun q hq => .tail _ (.tail _ (.tail _ (.tail _ hq)))⟩
end
section
open PySem PySem.W PyProof.Rows
set_option maxRecDepth 100000
set_option maxHeartbeats 1000000

theorem dmp (w : World) (a b : Int) (ta tb : Tok) (news : List (Addr × Obj)) (P : PreDP a b) (K : Tabs news) : Tell w 49 [.int a ta, .int b tb] news 30 (PostDP a b news) := by
  unfold Tell
  w_top off
  k_fill
  intro p loose mean mg mb dp un gd cn cs aa ccd cl outer A₀ base h₀ L m s Q E B F X N T S C1 C2 hk hg hc hd hu hret
  refine wpAny_call ?_
  k_dflt k_enter
  k_with_none
  k_with "call ref" => refine halt ?_
  k_with "pyIter ref" => refine halt ?_
  k_steps
  ktn_end (i2d w a (bl b) _ _ news P.pre35 K)
  intro r' n' h' tk' F' N' P'
  obtain ⟨l, vs, rest, rfl, hvs, rfl, hkp, htb, hlt⟩ := P'
  have z0 : Builtin.Int.intBits 0 ≤ 60000000 := by decide
  have zb1 : (0 : Int) ≤ (Builtin.Int.intBits b : Int) := by omega
  have zb2 : (Builtin.Int.intBits b : Int) ≤ 60000000 := by have := P.2.2.1; omega
  rcases P.digs with ⟨e, ha⟩ | ⟨e, ha⟩ | ⟨e, ha⟩
  · rw [e] at hvs
    obtain rfl := ints0 hvs
    k_steps
    rename l < _ ∧ AllLt _ rest => hq
    rename _ ∧ l < _ ∧ AllLt _ rest => hI
    obtain ⟨hI1, hI2, hI3⟩ := hI
    obtain ⟨hq1, hq2⟩ := hq
    have h37q := htb.2.lt (ktn_ltOf hq2)
    have hne1 := ne_all2 hq2
    have hne2 := ne_all2 hI3
    unfold Halt
    (rename Fr _ _ _ _ => lF'); (rename News _ _ _ _ => lN')
    with_unfolding_all refine iter_revUnr (ax := l) (lo := PySem.W.listOf #[] 0) (vs := []) (by rfl) lF' lN' ⟨.inl (neN (by omega)), .inl (neN (by omega)), offI_all hI3⟩ (by k_mem) (by rfl) (by rfl) ?_
    clear lF' lN'
    k_steps
    ktn_end (d2i w _ _ _ [] [] 0 _ (P.pre42 (fun _ h => nomatch h) (by decide)) ?kk ?mm .nil h37q)
    case kk => exact htb.sub fun q hq => List.mem_cons_of_mem _ (List.mem_cons_of_mem _ hq)
    case mm => k_mem
    intro r' n' h' tk' F' N' P'
    obtain ⟨t', rfl, kp2, tb2⟩ := P'
    k_steps
    exact dp_end (own := [_, _]) hret (by assumption) (by assumption) (by first | assumption | exact allLt_of (by assumption)) hkp kp2 tb2 ⟨by show 0 * b + 0 = a; omega, Int.le_refl _, P.2.1⟩
  · rw [e] at hvs
    obtain ⟨t0, rfl⟩ := ints1 hvs
    k_steps
    rename l < _ ∧ AllLt _ rest => hq
    rename _ ∧ l < _ ∧ AllLt _ rest => hI
    obtain ⟨hI1, hI2, hI3⟩ := hI
    obtain ⟨hq1, hq2⟩ := hq
    have h37q := htb.2.lt (ktn_ltOf hq2)
    have hne1 := ne_all2 hq2
    have hne2 := ne_all2 hI3
    unfold Halt
    (rename Fr _ _ _ _ => lF'); (rename News _ _ _ _ => lN')
    with_unfolding_all refine iter_revUnr (ax := l) (lo := PySem.W.listOf #[.int a t0] 0) (vs := [.int a t0]) (by rfl) lF' lN' ⟨.inl (neN (by omega)), .inl (neN (by omega)), offI_all hI3⟩ (by k_mem) (by rfl) (by rfl) ?_
    clear lF' lN'
    k_steps
    ktn_end (all21 w 10 (by decide) _ _ _ _ _ _ _ (P.pre21 (Int.le_refl _) P.2.1 P.1 ha))
    intro r' n' h' tk' F' N' P'
    obtain ⟨t', q1, tq1, r1, tr1, rfl, rfl, l1', Q1, Q2, Q3⟩ := P'
    simp only [AllLt] at l1'
    k_steps
    with_unfolding_all refine unr2 (by assumption) (by assumption) ?off ⟨by k_mem, ?_⟩
    case off =>
      simp only [List.forall_mem_cons]
      exact ⟨neN (by omega), neN (by omega), hne2⟩
    k_steps
    obtain ⟨b1, b2⟩ := quo_lt (m := 2 ^ (bl b).toNat) P.2.1 Q1 Q2 (P.pre21 (Int.le_refl _) P.2.1 P.1 ha).2.2.2.2.1 (P.pre21 (Int.le_refl _) P.2.1 P.1 ha).2.2.2.2.2 Q3
    ktn_end (d2i w _ _ _ [.int q1 tq1] [q1] 1 _ (P.pre42 (List.forall_mem_cons.mpr ⟨⟨b1, b2⟩, fun _ h => nomatch h⟩) (by simp)) ?kk ?mm (.cons _ _ .nil) h37q)
    case kk => exact htb.sub fun q hq => List.mem_cons_of_mem _ (List.mem_cons_of_mem _ hq)
    case mm => k_mem
    intro r' n' h' tk' F' N' P'
    obtain ⟨t', rfl, kp2, tb2⟩ := P'
    k_steps
    exact dp_end (own := [_, _]) hret (by assumption) (by assumption) (by first | assumption | exact allLt_of (by assumption)) hkp kp2 tb2 ⟨by rw [num1]; omega, Q2, Q3⟩
  · rw [e] at hvs
    obtain ⟨t0, t1, rfl⟩ := ints2 hvs
    k_steps
    rename l < _ ∧ AllLt _ rest => hq
    rename _ ∧ l < _ ∧ AllLt _ rest => hI
    obtain ⟨hI1, hI2, hI3⟩ := hI
    obtain ⟨hq1, hq2⟩ := hq
    have h37q := htb.2.lt (ktn_ltOf hq2)
    have hne1 := ne_all2 hq2
    have hne2 := ne_all2 hI3
    unfold Halt
    (rename Fr _ _ _ _ => lF'); (rename News _ _ _ _ => lN')
    with_unfolding_all refine iter_revUnr (ax := l) (lo := PySem.W.listOf #[.int (a % 2 ^ (bl b).toNat) t0, .int (a / 2 ^ (bl b).toNat) t1] 0) (vs := [.int (a % 2 ^ (bl b).toNat) t0, .int (a / 2 ^ (bl b).toNat) t1]) (by rfl) lF' lN' ⟨.inl (neN (by omega)), .inl (neN (by omega)), offI_all hI3⟩ (by k_mem) (by rfl) (by rfl) ?_
    clear lF' lN'
    have hp := two_pos (bl b).toNat
    have hd0 : 0 ≤ a / 2 ^ (bl b).toNat := Int.ediv_nonneg P.1 (Int.le_of_lt hp)
    have hm0 : 0 ≤ a % 2 ^ (bl b).toNat := Int.emod_nonneg _ (Int.ne_of_gt hp)
    have hm1 : a % 2 ^ (bl b).toNat < 2 ^ (bl b).toNat := Int.emod_lt_of_pos _ hp
    have p1 := P.pre21 (Int.le_refl _) P.2.1 hd0 ha
    k_steps
    ktn_end (all21 w 10 (by decide) _ _ _ _ _ _ _ p1)
    intro r' n' h' tk' F' N' P'
    obtain ⟨t', q1, tq1, r1, tr1, rfl, rfl, l1', Q1, Q2, Q3⟩ := P'
    simp only [AllLt] at l1'
    have p2 := P.pre21 Q2 Q3 hm0 hm1
    have hab1 := p1.abits (by decide)
    have hdm1 := dm_bits hab1.2.1 hab1.2.2 hab1.1 Q1 Q2 Q3
    have hr1b := hdm1.2.1
    k_steps
    with_unfolding_all refine unr2 (by assumption) (by assumption) ?off ⟨by k_mem, ?_⟩
    case off =>
      simp only [List.forall_mem_cons]
      exact ⟨neN (by omega), neN (by omega), hne2⟩
    k_steps
    ktn_end (all21 w 10 (by decide) _ _ _ _ _ _ _ p2)
    intro r' n' h' tk' F' N' P'
    obtain ⟨t', q2, tq2, r2, tr2, rfl, rfl, l2', R1, R2, R3⟩ := P'
    simp only [AllLt] at l2'
    k_steps
    with_unfolding_all refine unr2 (by assumption) (by assumption) ?off ⟨by k_mem, ?_⟩
    case off =>
      simp only [List.forall_mem_cons]
      exact ⟨neN (by omega), neN (by omega), hne2⟩
    k_steps
    obtain ⟨b1, b2⟩ := quo_lt (m := 2 ^ (bl b).toNat) P.2.1 Q1 Q2 p1.2.2.2.2.1 p1.2.2.2.2.2 Q3
    obtain ⟨b3, b4⟩ := quo_lt (m := 2 ^ (bl b).toNat) P.2.1 R1 R2 p2.2.2.2.2.1 p2.2.2.2.2.2 R3
    ktn_end (d2i w _ _ _ [.int q2 tq2, .int q1 tq1] [q2, q1] 2 _ (P.pre42 (List.forall_mem_cons.mpr ⟨⟨b3, b4⟩, List.forall_mem_cons.mpr ⟨⟨b1, b2⟩, fun _ h => nomatch h⟩⟩) (by simp)) ?kk ?mm (.cons _ _ (.cons _ _ .nil)) h37q)
    case kk => exact htb.sub fun q hq => List.mem_cons_of_mem _ (List.mem_cons_of_mem _ hq)
    case mm => k_mem
    intro r' n' h' tk' F' N' P'
    obtain ⟨t', rfl, kp2, tb2⟩ := P'
    k_steps
    exact dp_end (own := [_, _]) hret (by assumption) (by assumption) (by first | assumption | exact allLt_of (by assumption)) hkp kp2 tb2 ⟨by rw [num2]; exact two_done Q1 R1, R2, R3⟩
end
section
open PySem PySem.W PyProof.Rows
set_option maxRecDepth 100000
set_option maxHeartbeats 1000000

def PostDN (a b : Int) (news : List (Addr × Obj)) (v : Value) (news' : List (Addr × Obj)) : Prop :=
  ∃ t q tq r tr rest, v = .ref t ∧ news' = (t, tupII q tq r tr) :: rest ∧ Keeps2 news rest ∧ Tabs rest ∧ (∀ p ∈ news, p.1 < t) ∧ q * (-b) + -r = -a ∧ 0 ≤ -r ∧ -r < -b
theorem neg_done {a b q r : Int} (h : q * b + r = -a - 1) (h0 : 0 ≤ r) (h1 : r < b) : (-q - 1) * b + (b + (-r - 1)) = a ∧ 0 ≤ b + (-r - 1) ∧ b + (-r - 1) < b := by
  have e : (-q - 1) * b = -(q * b) - b := by rw [Int.sub_mul, Int.neg_mul, Int.one_mul]
  rw [e]
  omega
section
variable {h₀ : Heap} {L : Addr} {m : Str → Option Value} {news rest : List (Addr × Obj)} {s : Shared} {Q : Value → Shared → Prop} {a b q r : Int} {tq tr : Tok} {D : Addr} {h' : Heap} {tk : Nat} {x1 : Addr × Obj}
theorem dp_end2 (hret : ∀ r news' h' tk', Fr h₀ L h' m → News h₀ L h' news' → PostDP a b news r news' → Q r { s with heap := h', toks := tk' })
    (F : Fr h₀ L h' m) (N : News h₀ L h' ((D, tupII q tq r tr) :: x1 :: rest)) (l : AllLt D rest) (kp : Keeps2 news rest) (tb : Tabs rest) (e : q * b + r = a ∧ 0 ≤ r ∧ r < b) : Q (.ref D) { s with heap := h', toks := tk } :=
  hret _ _ _ _ F (fun p hp => N p (by
    rcases List.mem_cons.mp hp with rfl | hp
    · exact .head _
    · exact .tail _ (.tail _ hp))) ⟨_, _, _, _, _, _, rfl, rfl, kp, tb, keeps_lt kp tb l, e⟩
theorem dn_end2 (hret : ∀ r news' h' tk', Fr h₀ L h' m → News h₀ L h' news' → PostDN a b news r news' → Q r { s with heap := h', toks := tk' })
    (F : Fr h₀ L h' m) (N : News h₀ L h' ((D, tupII q tq r tr) :: x1 :: rest)) (l : AllLt D rest) (kp : Keeps2 news rest) (tb : Tabs rest) (e : q * (-b) + -r = -a ∧ 0 ≤ -r ∧ -r < -b) : Q (.ref D) { s with heap := h', toks := tk } :=
  hret _ _ _ _ F (fun p hp => N p (by
    rcases List.mem_cons.mp hp with rfl | hp
    · exact .head _
    · exact .tail _ (.tail _ hp))) ⟨_, _, _, _, _, _, rfl, rfl, kp, tb, keeps_lt kp tb l, e⟩
end
theorem Tell.more {w : World} {f : Addr} {vs : List Value} {news : List (Addr × Obj)} {n m : Nat} {Post : Value → List (Addr × Obj) → Prop} (C : Tell w f vs news n Post) (h : n ≤ m) : Tell w f vs news m Post := by
  intro p loose mean mg mb dp un gd cn cs aa ccd cl outer A₀ base h₀ L m s Q E B F X N T S C1 C2 hk hg hc hd hu hret
  exact C _ _ _ _ _ _ _ _ _ _ _ _ _ _ _ _ _ _ _ _ _ _ B F X N T S C1 C2 hk hg hc (by omega) (by omega) hret
theorem idm_pos (w : World) (a b : Int) (ta tb : Tok) (news : List (Addr × Obj)) (P : PreDP a b) (K : Tabs news) : Tell w 56 [.int a ta, .int b tb] news 31 (PostDP a b news) := by
  unfold Tell
  w_top off
  k_fill
  intro p loose mean mg mb dp un gd cn cs aa ccd cl outer A₀ base h₀ L m s Q E B F X N T S C1 C2 hk hg hc hd hu hret
  have ha : 0 ≤ a := P.1
  have hb : 0 < b := P.2.1
  refine wpAny_call ?_
  k_dflt k_enter
  k_with_none
  k_with "call ref" => refine halt ?_
  k_steps
  · exact absurd ‹b = 0› (by omega)
  · ktn_end (dmp w a b _ _ news P K)
    intro r' n' h' tk' F' N' P'
    k_steps
    exact hret _ _ _ _ (by assumption) (by assumption) P'
theorem idm_neg (w : World) (a b : Int) (ta tb : Tok) (news : List (Addr × Obj)) (ha : a < 0) (P : PreDP (Builtin.bitNot a) b) (K : Tabs news) : Tell w 56 [.int a ta, .int b tb] news 32 (PostDP a b news) := by
  unfold Tell
  w_top off
  k_fill
  intro p loose mean mg mb dp un gd cn cs aa ccd cl outer A₀ base h₀ L m s Q E B F X N T S C1 C2 hk hg hc hd hu hret
  have hb : 0 < b := P.2.1
  refine wpAny_call ?_
  k_dflt k_enter
  k_with_none
  k_with "call ref" => refine halt ?_
  k_steps
  · exact absurd ‹b = 0› (by omega)
  · ktn_end (idm_pos w _ b _ _ news P K)
    intro r' n' h' tk' F' N' P'
    obtain ⟨t, q, tq, r, tr, rest, rfl, rfl, kp, tb, lt, e1, e2, e3⟩ := P'
    k_steps
    rename _ ∧ AllLt _ rest => hl
    exact dp_end2 hret (by assumption) (by assumption) hl.2 kp tb (by unfold Builtin.bitNot at *; exact neg_done e1 e2 e3)
/-- int_divmod by a divisor above nought -/
theorem idm_any (w : World) (a b : Int) (ta tb : Tok) (news : List (Addr × Obj)) (P : PreDP (if a < 0 then Builtin.bitNot a else a) b) (K : Tabs news) : Tell w 56 [.int a ta, .int b tb] news 32 (PostDP a b news) := by
  by_cases ha : a < 0
  · rw [if_pos ha] at P
    exact idm_neg w a b ta tb news ha P K
  · rw [if_neg ha] at P
    exact (idm_pos w a b ta tb news P K).more (by decide)
theorem idm_low (w : World) (a b : Int) (ta tb : Tok) (news : List (Addr × Obj)) (hb : b < 0) (P : PreDP (if -a < 0 then Builtin.bitNot (-a) else -a) (-b)) (K : Tabs news) : Tell w 56 [.int a ta, .int b tb] news 33 (PostDN a b news) := by
  unfold Tell
  w_top off
  k_fill
  intro p loose mean mg mb dp un gd cn cs aa ccd cl outer A₀ base h₀ L m s Q E B F X N T S C1 C2 hk hg hc hd hu hret
  refine wpAny_call ?_
  k_dflt k_enter
  k_with_none
  k_with "call ref" => refine halt ?_
  k_steps
  · exact absurd ‹b = 0› (by omega)
  · ktn_end (idm_any w _ _ _ _ news P K)
    intro r' n' h' tk' F' N' P'
    obtain ⟨t, q, tq, r, tr, rest, rfl, rfl, kp, tb, lt, e1, e2, e3⟩ := P'
    k_steps
    rename _ ∧ AllLt _ rest => hl
    exact dn_end2 hret (by assumption) (by assumption) hl.2 kp tb (by rw [Int.neg_neg]; exact ⟨e1, e2, e3⟩)
end
section
open PySem PySem.W PyProof.Rows
set_option maxRecDepth 100000
set_option maxHeartbeats 1000000
/-- bisect_right's and bisect_left's loops -/
def brL (ns : List Int) (x : Int) : Nat → Int → Int → Int
  | 0, lo, _ => lo
  | f + 1, lo, hi => if lo < hi then (if x < ns.getD ((lo + hi) / 2).toNat 0 then brL ns x f lo ((lo + hi) / 2) else brL ns x f ((lo + hi) / 2 + 1) hi) else lo
def blL (ns : List Int) (x : Int) : Nat → Int → Int → Int
  | 0, lo, _ => lo
  | f + 1, lo, hi => if lo < hi then (if ns.getD ((lo + hi) / 2).toNat 0 < x then blL ns x f ((lo + hi) / 2 + 1) hi else blL ns x f lo ((lo + hi) / 2)) else lo
theorem brL_stable (ns : List Int) (x : Int) : ∀ (f : Nat) (lo hi : Int), (hi - lo).toNat ≤ f → brL ns x f lo hi = brL ns x (hi - lo).toNat lo hi
  | 0, lo, hi, h => by
    have e : (hi - lo).toNat = 0 := by omega
    rw [e]
  | f + 1, lo, hi, h => by
    by_cases hl : lo < hi
    · obtain ⟨g, hg⟩ : ∃ g, (hi - lo).toNat = g + 1 := ⟨(hi - lo).toNat - 1, by omega⟩
      rw [hg]
      unfold brL
      rw [if_pos hl, if_pos hl]
      split
      · rw [brL_stable ns x f lo _ (by omega), brL_stable ns x g lo _ (by omega)]
      · rw [brL_stable ns x f _ hi (by omega), brL_stable ns x g _ hi (by omega)]
    · have e : (hi - lo).toNat = 0 := by omega
      rw [e]
      unfold brL
      rw [if_neg hl]
  termination_by f => f
theorem blL_stable (ns : List Int) (x : Int) : ∀ (f : Nat) (lo hi : Int), (hi - lo).toNat ≤ f → blL ns x f lo hi = blL ns x (hi - lo).toNat lo hi
  | 0, lo, hi, h => by
    have e : (hi - lo).toNat = 0 := by omega
    rw [e]
  | f + 1, lo, hi, h => by
    by_cases hl : lo < hi
    · obtain ⟨g, hg⟩ : ∃ g, (hi - lo).toNat = g + 1 := ⟨(hi - lo).toNat - 1, by omega⟩
      rw [hg]
      unfold blL
      rw [if_pos hl, if_pos hl]
      split
      · rw [blL_stable ns x f _ hi (by omega), blL_stable ns x g _ hi (by omega)]
      · rw [blL_stable ns x f lo _ (by omega), blL_stable ns x g lo _ (by omega)]
    · have e : (hi - lo).toNat = 0 := by omega
      rw [e]
      unfold blL
      rw [if_neg hl]
  termination_by f => f
def brF (ns : List Int) (x : Int) : Int := brL ns x ns.length 0 ns.length
def blF (ns : List Int) (x : Int) : Int := blL ns x ns.length 0 ns.length
theorem half2 (x : Int) : x.fdiv 2 = x / 2 := Int.fdiv_eq_ediv_of_nonneg _ (by decide)
theorem brL_turn {ns : List Int} {x lo hi R : Int} (h : brL ns x (hi - lo).toNat lo hi = R) (hl : lo < hi) :
    (x < ns.getD ((lo + hi).fdiv 2).toNat 0 → brL ns x ((lo + hi).fdiv 2 - lo).toNat lo ((lo + hi).fdiv 2) = R) ∧ (¬ x < ns.getD ((lo + hi).fdiv 2).toNat 0 → brL ns x (hi - ((lo + hi).fdiv 2 + 1)).toNat ((lo + hi).fdiv 2 + 1) hi = R) := by
  rw [half2]
  obtain ⟨g, hg⟩ : ∃ g, (hi - lo).toNat = g + 1 := ⟨(hi - lo).toNat - 1, by omega⟩
  rw [hg] at h
  unfold brL at h
  rw [if_pos hl] at h
  constructor
  · intro hx
    rw [if_pos hx] at h
    rw [← h, brL_stable ns x g lo _ (by omega)]
  · intro hx
    rw [if_neg hx] at h
    rw [← h, brL_stable ns x g _ hi (by omega)]
theorem blL_turn {ns : List Int} {x lo hi R : Int} (h : blL ns x (hi - lo).toNat lo hi = R) (hl : lo < hi) :
    (ns.getD ((lo + hi).fdiv 2).toNat 0 < x → blL ns x (hi - ((lo + hi).fdiv 2 + 1)).toNat ((lo + hi).fdiv 2 + 1) hi = R) ∧ (¬ ns.getD ((lo + hi).fdiv 2).toNat 0 < x → blL ns x ((lo + hi).fdiv 2 - lo).toNat lo ((lo + hi).fdiv 2) = R) := by
  rw [half2]
  obtain ⟨g, hg⟩ : ∃ g, (hi - lo).toNat = g + 1 := ⟨(hi - lo).toNat - 1, by omega⟩
  rw [hg] at h
  unfold blL at h
  rw [if_pos hl] at h
  constructor
  · intro hx
    rw [if_pos hx] at h
    rw [← h, blL_stable ns x g _ hi (by omega)]
  · intro hx
    rw [if_neg hx] at h
    rw [← h, blL_stable ns x g lo _ (by omega)]
theorem brL_end {ns : List Int} {x lo hi R : Int} (h : brL ns x (hi - lo).toNat lo hi = R) (hl : ¬ lo < hi) : lo = R := by
  have e : (hi - lo).toNat = 0 := by omega
  rw [e] at h
  exact h
theorem blL_end {ns : List Int} {x lo hi R : Int} (h : blL ns x (hi - lo).toNat lo hi = R) (hl : ¬ lo < hi) : lo = R := by
  have e : (hi - lo).toNat = 0 := by omega
  rw [e] at h
  exact h

theorem br_start (ns : List Int) (x : Int) : (0 : Int) ≤ 0 ∧ (0 : Int) ≤ (ns.length : Int) ∧ (ns.length : Int) ≤ (ns.length : Int) ∧ brL ns x ((ns.length : Int) - 0).toNat 0 (ns.length : Int) = brF ns x := by
  refine ⟨Int.le_refl _, by omega, Int.le_refl _, ?_⟩
  have e : ((ns.length : Int) - 0).toNat = ns.length := by omega
  rw [e]
  rfl
theorem bl_start (ns : List Int) (x : Int) : (0 : Int) ≤ 0 ∧ (0 : Int) ≤ (ns.length : Int) ∧ (ns.length : Int) ≤ (ns.length : Int) ∧ blL ns x ((ns.length : Int) - 0).toNat 0 (ns.length : Int) = blF ns x := by
  refine ⟨Int.le_refl _, by omega, Int.le_refl _, ?_⟩
  have e : ((ns.length : Int) - 0).toNat = ns.length := by omega
  rw [e]
  rfl
section
variable {ns : List Int} {x lo hi R : Int}
theorem br_t1 (h0 : 0 ≤ lo) (h1 : lo ≤ hi) (h2 : hi ≤ (ns.length : Int)) (h : brL ns x (hi - lo).toNat lo hi = R) (hl : lo < hi) (hx : x < ns.getD ((lo + hi).fdiv 2).toNat 0) :
    0 ≤ lo ∧ lo ≤ (lo + hi).fdiv 2 ∧ (lo + hi).fdiv 2 ≤ (ns.length : Int) ∧ brL ns x ((lo + hi).fdiv 2 - lo).toNat lo ((lo + hi).fdiv 2) = R :=
  ⟨h0, by rw [half2]; omega, by rw [half2]; omega, (brL_turn h hl).1 hx⟩
theorem br_t2 (h0 : 0 ≤ lo) (h1 : lo ≤ hi) (h2 : hi ≤ (ns.length : Int)) (h : brL ns x (hi - lo).toNat lo hi = R) (hl : lo < hi) (hx : ¬ x < ns.getD ((lo + hi).fdiv 2).toNat 0) :
    0 ≤ (lo + hi).fdiv 2 + 1 ∧ (lo + hi).fdiv 2 + 1 ≤ hi ∧ hi ≤ (ns.length : Int) ∧ brL ns x (hi - ((lo + hi).fdiv 2 + 1)).toNat ((lo + hi).fdiv 2 + 1) hi = R :=
  ⟨by rw [half2]; omega, by rw [half2]; omega, h2, (brL_turn h hl).2 hx⟩
theorem bl_t1 (h0 : 0 ≤ lo) (h1 : lo ≤ hi) (h2 : hi ≤ (ns.length : Int)) (h : blL ns x (hi - lo).toNat lo hi = R) (hl : lo < hi) (hx : ¬ ns.getD ((lo + hi).fdiv 2).toNat 0 < x) :
    0 ≤ lo ∧ lo ≤ (lo + hi).fdiv 2 ∧ (lo + hi).fdiv 2 ≤ (ns.length : Int) ∧ blL ns x ((lo + hi).fdiv 2 - lo).toNat lo ((lo + hi).fdiv 2) = R :=
  ⟨h0, by rw [half2]; omega, by rw [half2]; omega, (blL_turn h hl).2 hx⟩
theorem bl_t2 (h0 : 0 ≤ lo) (h1 : lo ≤ hi) (h2 : hi ≤ (ns.length : Int)) (h : blL ns x (hi - lo).toNat lo hi = R) (hl : lo < hi) (hx : ns.getD ((lo + hi).fdiv 2).toNat 0 < x) :
    0 ≤ (lo + hi).fdiv 2 + 1 ∧ (lo + hi).fdiv 2 + 1 ≤ hi ∧ hi ≤ (ns.length : Int) ∧ blL ns x (hi - ((lo + hi).fdiv 2 + 1)).toNat ((lo + hi).fdiv 2 + 1) hi = R :=
  ⟨by rw [half2]; omega, by rw [half2]; omega, h2, (blL_turn h hl).1 hx⟩
end
local macro_rules | `(tactic| walk_at "subscriptTail") => `(tactic| (k_here; (with_reducible show wpAny _ _ (subscriptTail _ _ (Value.ref _) (Value.int _ _)) _ _ _); k_dflt (refine' ksa_sub ?k1 ?k2 ?k3 ?k4 ?k5 ?k6 ?_ ?k7; (case k1 => k_asm); (case k2 => k_mem); (case k3 => assumption); (case k4 => ((try simp only [half2]); omega)); (case k5 => ((try simp only [half2]); omega)); (case k6 => ((try simp only [half2]); omega)); (case k7 => with_unfolding_all rfl); k_whole); intro _))
theorem brT (w : World) (l : Addr) (x : Int) (tx : Tok) (vs : List Value) (ns : List Int) (e : Nat) (news : List (Addr × Obj)) (hl : (l, PySem.W.listOf vs.toArray e) ∈ news) (hvs : IntsAre vs ns) (h200 : ns.length ≤ 200) :
    Tell w 65 [.ref l, .int x tx] news 2 (fun r news' => (∃ t, r = .int (brF ns x) t) ∧ news' = news) := by
  unfold Tell
  w_top off
  k_fill
  intro p loose mean mg mb dp un gd cn cs aa ccd cl outer A₀ base h₀ L m s Q E B F X N T S C1 C2 hk hg hc hd hu hret
  have hsz : vs.toArray.size = ns.length := by rw [List.size_toArray]; exact hvs.length
  refine wpAny_call ?_
  k_dflt k_enter
  k_with_none
  k_with "call ref" => refine halt ?_
  k_with "exec While Compare cons nil" => k_while (fun script lo hi => 0 ≤ lo ∧ lo ≤ hi ∧ hi ≤ (ns.length : Int) ∧ brL ns x (hi - lo).toNat lo hi = brF ns x) (fun script lo hi => (hi - lo).toNat) "lo" "hi"
  k_with "state" => first | exact br_start ns x | exact br_t1 (by assumption) (by assumption) (by assumption) (by assumption) (by assumption) (by assumption) | exact br_t2 (by assumption) (by assumption) (by assumption) (by assumption) (by assumption) (by assumption)
  k_with "measure" => (simp only [half2]; omega)
  k_steps
  rename brL _ _ _ _ _ = brF ns x => hR
  exact hret _ _ _ _ (by assumption) (by assumption) ⟨⟨_, by rw [brL_end hR (by assumption)]⟩, rfl⟩
theorem blT (w : World) (l : Addr) (x : Int) (tx : Tok) (vs : List Value) (ns : List Int) (e : Nat) (news : List (Addr × Obj)) (hl : (l, PySem.W.listOf vs.toArray e) ∈ news) (hvs : IntsAre vs ns) (h200 : ns.length ≤ 200) :
    Tell w 83 [.ref l, .int x tx] news 2 (fun r news' => (∃ t, r = .int (blF ns x) t) ∧ news' = news) := by
  unfold Tell
  w_top off
  k_fill
  intro p loose mean mg mb dp un gd cn cs aa ccd cl outer A₀ base h₀ L m s Q E B F X N T S C1 C2 hk hg hc hd hu hret
  have hsz : vs.toArray.size = ns.length := by rw [List.size_toArray]; exact hvs.length
  refine wpAny_call ?_
  k_dflt k_enter
  k_with_none
  k_with "call ref" => refine halt ?_
  k_with "exec While Compare cons nil" => k_while (fun script lo hi => 0 ≤ lo ∧ lo ≤ hi ∧ hi ≤ (ns.length : Int) ∧ blL ns x (hi - lo).toNat lo hi = blF ns x) (fun script lo hi => (hi - lo).toNat) "lo" "hi"
  k_with "state" => first | exact bl_start ns x | exact bl_t1 (by assumption) (by assumption) (by assumption) (by assumption) (by assumption) (by assumption) | exact bl_t2 (by assumption) (by assumption) (by assumption) (by assumption) (by assumption) (by assumption)
  k_with "measure" => (simp only [half2]; omega)
  k_steps
  rename blL _ _ _ _ _ = blF ns x => hR
  exact hret _ _ _ _ (by assumption) (by assumption) ⟨⟨_, by rw [blL_end hR (by assumption)]⟩, rfl⟩
theorem blT4 (w : World) (l : Addr) (x : Int) (tx t0 : Tok) (vs : List Value) (ns : List Int) (e : Nat) (news : List (Addr × Obj)) (hl : (l, PySem.W.listOf vs.toArray e) ∈ news) (hvs : IntsAre vs ns) (h200 : ns.length ≤ 200) :
    Tell w 83 [.ref l, .int x tx, .int 0 t0, .none] news 2 (fun r news' => (∃ t, r = .int (blF ns x) t) ∧ news' = news) := by
  unfold Tell
  w_top off
  k_fill
  intro p loose mean mg mb dp un gd cn cs aa ccd cl outer A₀ base h₀ L m s Q E B F X N T S C1 C2 hk hg hc hd hu hret
  have hsz : vs.toArray.size = ns.length := by rw [List.size_toArray]; exact hvs.length
  refine wpAny_call ?_
  k_dflt k_enter
  k_with_none
  k_with "call ref" => refine halt ?_
  k_with "exec While Compare cons nil" => k_while (fun script lo hi => 0 ≤ lo ∧ lo ≤ hi ∧ hi ≤ (ns.length : Int) ∧ blL ns x (hi - lo).toNat lo hi = blF ns x) (fun script lo hi => (hi - lo).toNat) "lo" "hi"
  k_with "state" => first | exact bl_start ns x | exact bl_t1 (by assumption) (by assumption) (by assumption) (by assumption) (by assumption) (by assumption) | exact bl_t2 (by assumption) (by assumption) (by assumption) (by assumption) (by assumption) (by assumption)
  k_with "measure" => (simp only [half2]; omega)
  k_steps
  rename blL _ _ _ _ _ = blF ns x => hR
  exact hret _ _ _ _ (by assumption) (by assumption) ⟨⟨_, by rw [blL_end hR (by assumption)]⟩, rfl⟩
end
section
open PySem PySem.W PyProof.Rows
set_option maxRecDepth 100000
set_option maxHeartbeats 1000000
def insF (ns : List Int) (x : Int) : List Int := ns.take (blF ns x).toNat ++ x :: ns.drop (blF ns x).toNat
theorem blL_bounds (ns : List Int) (x : Int) : ∀ (f : Nat) (lo hi : Int), lo ≤ hi → lo ≤ blL ns x f lo hi ∧ blL ns x f lo hi ≤ hi
  | 0, lo, hi, h => ⟨Int.le_refl _, h⟩
  | f + 1, lo, hi, h => by
    unfold blL
    split
    · split
      · have := blL_bounds ns x f ((lo + hi) / 2 + 1) hi (by omega)
        omega
      · have := blL_bounds ns x f lo ((lo + hi) / 2) (by omega)
        omega
    · exact ⟨Int.le_refl _, h⟩
theorem blF_bounds (ns : List Int) (x : Int) : 0 ≤ blF ns x ∧ blF ns x ≤ (ns.length : Int) := blL_bounds ns x _ 0 _ (by omega)
theorem ints_take {vs : List Value} {ns : List Int} (h : IntsAre vs ns) : ∀ k, IntsAre (vs.take k) (ns.take k) := by
  induction h with
  | nil => intro k; simp only [List.take_nil]; exact .nil
  | cons i t _ ih => intro k; cases k with
    | zero => exact .nil
    | succ k => exact .cons i t (ih k)
theorem ints_drop {vs : List Value} {ns : List Int} (h : IntsAre vs ns) : ∀ k, IntsAre (vs.drop k) (ns.drop k) := by
  induction h with
  | nil => intro k; simp only [List.drop_nil]; exact .nil
  | cons i t h ih => intro k; cases k with
    | zero => exact .cons i t h
    | succ k => exact ih k
theorem ints_ins {vs : List Value} {ns : List Int} (h : IntsAre vs ns) (x : Int) (t : Tok) : IntsAre (kl_ins vs (blF ns x) (.int x t)) (insF ns x) := by
  obtain ⟨b0, b1⟩ := blF_bounds ns x
  have hl : vs.length = ns.length := h.length
  unfold kl_ins insF
  have e : (if blF ns x < 0 then (blF ns x + (vs.length : Int)).toNat else min (blF ns x).toNat vs.length) = (blF ns x).toNat := by
    rw [if_neg (by omega)]
    omega
  rw [e]
  exact IntsAre.append (ints_take h _) (.cons _ _ (ints_drop h _))
theorem insF_len (ns : List Int) (x : Int) : (insF ns x).length = ns.length + 1 := by
  obtain ⟨b0, b1⟩ := blF_bounds ns x
  unfold insF
  rw [List.length_append, List.length_cons, List.length_take, List.length_drop]
  omega

local macro_rules | `(tactic| walk_at "call builtin:list.insert") => `(tactic| (k_here; (with_reducible show wpAny _ _ (call (Value.builtin _) [Value.ref _, Value.int _ _, _]) _ _ _); k_dflt (refine' kl_insert (l := kl_ins _ _ _) ?F ?N ?f ?e ?U ?z ?_; (case F => k_asm); (case N => k_asm); (case U => k_upd); (case e => exact rfl); (case f => assumption); (case z => assumption)); intro h' F' N'))
def PostIns (l : Addr) (ns : List Int) (x : Int) (rest : List (Addr × Obj)) (r : Value) (news' : List (Addr × Obj)) : Prop :=
  r = .none ∧ ∃ vs' e', IntsAre vs' (insF ns x) ∧ news' = (l, PySem.W.listOf vs'.toArray e') :: rest
theorem insT (w : World) (l : Addr) (x : Int) (tx : Tok) (vs : List Value) (ns : List Int) (e : Nat) (rest : List (Addr × Obj)) (hne : ∀ p ∈ rest, p.1 ≠ l) (hvs : IntsAre vs ns) (h200 : ns.length ≤ 200) :
    Tell w 74 [.ref l, .int x tx] ((l, PySem.W.listOf vs.toArray e) :: rest) 4 (PostIns l ns x rest) := by
  unfold Tell
  w_top off
  k_fill
  intro p loose mean mg mb dp un gd cn cs aa ccd cl outer A₀ base h₀ L m s Q E B F X N T S C1 C2 hk hg hc hd hu hret
  have hsz : vs.toArray.size = ns.length := by rw [List.size_toArray]; exact hvs.length
  have hroom : vs.toArray.toList.length ≤ sizeLine := by rw [sizeLine_eq, Array.length_toList, hsz]; omega
  obtain ⟨b0, b1⟩ := blF_bounds ns x
  have hfit : Builtin.List.listFitsIndex (blF ns x) = true := by simp [Builtin.List.listFitsIndex]; omega
  refine wpAny_call ?_
  k_dflt k_enter
  k_with_none
  k_with "call ref" => refine halt ?_
  k_steps
  ktn_end (blT4 w l x _ _ vs ns e _ ?hm hvs h200)
  case hm => k_mem
  intro r' n' h' tk' F' N' P'
  obtain ⟨⟨t, rfl⟩, rfl⟩ := P'
  k_steps
  exact hret _ _ _ _ (by assumption) (by assumption) ⟨rfl, _, _, ints_ins hvs x tx, rfl⟩
end
section
open PySem PySem.W PyProof.Rows
set_option maxRecDepth 100000
set_option maxHeartbeats 1000000
def rowStep (p : Int) (r : List Int) (i : Int) : List Int := insF r ((i * i).fmod p)
def rowF (p : Int) : List Int := (rangeKs 0 (p - 0).toNat).foldl (rowStep p) []

theorem rowT (w : World) (p : Int) (tp : Tok) (news : List (Addr × Obj)) (hp0 : 1 ≤ p) (hp1 : p ≤ 200) :
    Tell w 158 [.int p tp] news 8 (fun r news' => ∃ l vs e, r = .ref l ∧ IntsAre vs (rowF p) ∧ news' = (l, PySem.W.listOf vs.toArray e) :: news ∧ AllLt l news) := by
  unfold Tell
  w_top off
  k_fill
  intro pp loose mean mg mb dp un gd cn cs aa ccd cl outer A₀ base h₀ L m s Q E B F X N T S C1 C2 hk hg hc hd hu hret
  have hpne : p ≠ 0 := by omega
  refine wpAny_call ?_
  k_dflt k_enter
  k_with_none
  k_with "call ref" => ((with_reducible show wpAny _ _ (call (Value.ref 74) _) _ _ _); refine halt ?_)
  k_with "pyIter ref" => refine halt ?_
  k_with "InvEndN" => refine halt ?_
  k_steps
  unfold Halt
  (rename Fr _ _ _ _ => lF'); (rename News _ _ _ _ => lN'); (rename IsRange _ _ _ _ _ _ _ _ => rgX)
  rename (∀ p ∈ news, _ < _) => hall
  refine led_name lN' fun l el lN => ?_
  subst el
  clear lN'
  with_unfolding_all refine kst_range (σ := List Value × List Int × Nat) (fun c => (l, PySem.W.listOf c.1.toArray c.2.2) :: news) (fun _ => []) (fun c => IntsAre c.1 c.2.1) [] (fun pre c => c.2.1 = pre.foldl (rowStep p) [] ∧ c.2.1.length = pre.length) ([], [], 0) (by rfl) rgX (small_one (by omega) (by omega) (by omega) (by omega)) (rangeSize_nat _ _) lF' lN .nil (fun _ h => nomatch h) ⟨rfl, rfl⟩ ?turn ?done
  case turn =>
    rintro ⟨vs1, ns1, e1⟩ pre k t u h tk own hk hlt hoff hint ⟨hP1, hP2⟩ F1 N1
    dsimp only at *
    have hkb : Builtin.Int.intBits k ≤ 60000000 := Nat.le_trans (bits_of (m := 8) (by omega) (by have : (2:Int) ^ 8 = 256 := rfl; omega)) (by decide)
    have hne : ∀ q ∈ news ++ own, q.1 ≠ l := fun q hq => by
      rcases List.mem_append.mp hq with hq | hq
      · exact Nat.ne_of_lt (hall q hq)
      · exact hoff q hq l (.head _)
    k_steps
    ktn_end (insT w l _ _ vs1 ns1 e1 (news ++ own) hne hint (by omega))
    intro r' n' h' tk' F' N' P'
    obtain ⟨rfl, vs2, e2, hint2, rfl⟩ := P'
    k_steps
    unfold Halt
    refine InvEndN.intro (by assumption) (by assumption) ⟨(vs2, insF ns1 ((k * k).fmod p), e2), rfl, hint2, fun _ h => (nomatch h), ?same, ?P⟩ rfl ?sub ?own
    case same => intro z h1 h2 h3; simp [h1, kstB]
    case P => exact ⟨by rw [List.foldl_append, ← hP1]; rfl, (insF_len ns1 _).trans (by rw [List.length_append, hP2]; rfl)⟩
    case sub =>
      intro q hq
      rcases List.mem_cons.mp hq with rfl | hq
      · exact .head _
      · exact .tail _ (List.mem_append.mpr (.inl hq))
    case own => exact fun q hq => .tail _ (List.mem_append.mpr (.inr hq))
  case done =>
    rintro ⟨vs1, ns1, e1⟩ u h tk hint ⟨hP1, hP2⟩ F1 N1
    dsimp only at *
    k_steps
    exact hret _ _ _ _ (by assumption) (by assumption) ⟨l, vs1, e1, rfl, by rw [hP1] at hint; exact hint, rfl, allLt_of hall⟩
end
section
open PySem PySem.W PyProof.Rows
set_option maxRecDepth 100000
set_option maxHeartbeats 1000000
def signF (ns : List Int) (x : Int) : Int := brF ns x - blF ns x - 1
def surStep (parts p : Int) (ns : List Int) (acc cut : Int) : Int := acc + (brF ns ((cut * p - 1).fdiv parts) - ((cut * p - 1).fdiv parts + 1))
def surF (parts p : Int) (ns : List Int) : Int := (rangeKs 0 (parts + 1 - 0).toNat).foldl (surStep parts p ns) 0

local macro_rules | `(tactic| walk_at "subscriptTail Name Slice ref ref") => `(tactic| k_extra "subscriptTail Name Slice ref ref")
theorem signT (w : World) (l : Addr) (x : Int) (tx : Tok) (vs : List Value) (ns : List Int) (e : Nat) (news : List (Addr × Obj)) (hl : (l, PySem.W.listOf vs.toArray e) ∈ news) (hvs : IntsAre vs ns) (h200 : ns.length ≤ 200) :
    Tell w 165 [.int x tx, .ref l] news 4 (fun r news' => (∃ t, r = .int (signF ns x) t) ∧ news' = news) := by
  unfold Tell
  w_top off
  k_fill
  intro p loose mean mg mb dp un gd cn cs aa ccd cl outer A₀ base h₀ L m s Q E B F X N T S C1 C2 hk hg hc hd hu hret
  refine wpAny_call ?_
  k_dflt k_enter
  k_with_none
  k_with "call ref" => first | ((with_reducible show wpAny _ _ (call (Value.ref 65) _) _ _ _); refine halt ?_) | ((with_reducible show wpAny _ _ (call (Value.ref 83) _) _ _ _); refine halt ?_)
  k_steps
  ktn_end (brT w l x _ vs ns e _ ?hm hvs h200)
  case hm => k_mem
  intro r' n' h' tk' F' N' P'
  obtain ⟨⟨t, rfl⟩, rfl⟩ := P'
  k_steps
  ktn_end (blT w l x _ vs ns e _ ?hm hvs h200)
  case hm => k_mem
  intro r' n' h' tk' F' N' P'
  obtain ⟨⟨t, rfl⟩, rfl⟩ := P'
  k_steps
  exact hret _ _ _ _ (by assumption) (by assumption) ⟨⟨_, rfl⟩, rfl⟩
theorem brL_bounds (ns : List Int) (x : Int) : ∀ (f : Nat) (lo hi : Int), lo ≤ hi → lo ≤ brL ns x f lo hi ∧ brL ns x f lo hi ≤ hi
  | 0, lo, hi, h => ⟨Int.le_refl _, h⟩
  | f + 1, lo, hi, h => by
    unfold brL
    split
    · split
      · have := brL_bounds ns x f lo ((lo + hi) / 2) (by omega)
        omega
      · have := brL_bounds ns x f ((lo + hi) / 2 + 1) hi (by omega)
        omega
    · exact ⟨Int.le_refl _, h⟩
theorem brF_bounds (ns : List Int) (x : Int) : 0 ≤ brF ns x ∧ brF ns x ≤ (ns.length : Int) := brL_bounds ns x _ 0 _ (by omega)
theorem br_take (ns : List Int) (x : Int) : (((ns.take (brF ns x).toNat).length : Nat) : Int) = brF ns x := by
  obtain ⟨b0, b1⟩ := brF_bounds ns x
  rw [List.length_take]
  omega
theorem surT (w : World) (parts p : Int) (tq tp : Tok) (l : Addr) (vs : List Value) (ns : List Int) (e : Nat) (news : List (Addr × Obj)) (hl : (l, PySem.W.listOf vs.toArray e) ∈ news) (hvs : IntsAre vs ns) (h200 : ns.length ≤ 200) (hq1 : 1 ≤ parts) (hq2 : parts ≤ 20) (hp0 : 1 ≤ p) (hp1 : p ≤ 200) :
    Tell w 172 [.int parts tq, .int p tp, .ref l] news 4 (fun r news' => (∃ t, r = .int (surF parts p ns) t) ∧ news' = news) := by
  unfold Tell
  w_top off
  k_fill
  intro pp loose mean mg mb dp un gd cn cs aa ccd cl outer A₀ base h₀ L m s Q E B F X N T S C1 C2 hk hg hc hd hu hret
  have hqne : parts ≠ 0 := by omega
  refine wpAny_call ?_
  k_dflt k_enter
  k_with_none
  k_with "call ref" => ((with_reducible show wpAny _ _ (call (Value.ref 65) _) _ _ _); refine halt ?_)
  k_with "pyIter ref" => refine halt ?_
  k_with "InvEndN" => refine halt ?_
  k_with "subscriptTail Name Slice ref ref" => refine halt ?_
  k_steps
  unfold Halt
  (rename Fr _ _ _ _ => lF'); (rename News _ _ _ _ => lN'); (rename IsRange _ _ _ _ _ _ _ _ => rgX)
  with_unfolding_all refine kst_range (σ := Int × Tok) (fun c => news) (fun c => [(Str.ofString "surplus", .int c.1 c.2)]) (fun c => True) [Str.ofString "bound"] (fun pre c => c.1 = pre.foldl (surStep parts p ns) 0) (0, _) (by rfl) rgX (small_one (by omega) (by omega) (by omega) (by omega)) (rangeSize_nat _ _) lF' lN' trivial (by intro q hq; rcases List.mem_cons.mp hq with rfl | hq; exact rfl; exact (nomatch hq)) rfl ?turn ?done
  case turn =>
    rintro ⟨a1, t1⟩ pre k t u h tk own hk hlt hoff hint hP1 F1 N1
    dsimp only at *
    have hkb : Builtin.Int.intBits k ≤ 60000000 := Nat.le_trans (bits_of (m := 8) (by omega) (by have : (2:Int) ^ 8 = 256 := rfl; omega)) (by decide)
    have hpb : Builtin.Int.intBits p ≤ 60000000 := Nat.le_trans (bits_of (m := 8) (by omega) (by have : (2:Int) ^ 8 = 256 := rfl; omega)) (by decide)
    k_steps
    ktn_end (brT w l _ _ vs ns e _ ?hm hvs h200)
    case hm => exact List.mem_append.mpr (.inl hl)
    intro r' n' h' tk' F' N' P'
    obtain ⟨⟨t, rfl⟩, rfl⟩ := P'
    k_steps
    unfold Halt
    k_here
    refine' kmk_slice_ints ?zzF ?zzN ?zzl ?zzp ?zzq ?zzi ?zzm ?zzc ?_ ?zzs ?zzt ?zzz
    case zzF => k_asm
    case zzN => k_asm
    case zzl => exact News.isList (by k_asm) (List.mem_append.mpr (.inl hl))
    case zzp => kmk_part
    case zzq => kmk_part
    case zzi => exact hvs
    case zzm => exact kmk_upto hvs (brF_bounds ns _).1
    case zzc => exact rfl
    case zzs => with_unfolding_all rfl
    case zzt => kmk_pure
    case zzz => exact kmk_sz hvs (Nat.le_trans h200 (by decide))
    intro D' ws' h' F' N' l1 hI' hC' hL'
    k_steps
    unfold Halt
    refine InvEndN.intro (by assumption) (by assumption) ⟨(a1 + (((ns.take (brF ns ((k * p - 1).fdiv parts)).toNat).length : Nat) - ((k * p - 1).fdiv parts + 1)), ?tok), rfl, trivial, ?ps, ?same, ?P⟩ rfl ?sub ?own
    case ps => intro q hq; rcases List.mem_cons.mp hq with rfl | hq; exact rfl; exact (nomatch hq)
    case same => intro z h1 h2 h3; simp_all [kstB]
    case P =>
      dsimp only
      rw [List.foldl_append, ← hP1, br_take]
      rfl
    case sub => exact fun q hq => .tail _ (List.mem_append.mpr (.inl hq))
    case own => exact fun q hq => .tail _ (List.mem_append.mpr (.inr hq))
  case done =>
    rintro ⟨a1, t1⟩ u h tk hint hP1 F1 N1
    dsimp only at *
    k_steps
    exact hret _ _ _ _ (by assumption) (by assumption) ⟨⟨_, by rw [hP1]; rfl⟩, rfl⟩
end
section
open PySem PySem.W PyProof.Rows
set_option maxRecDepth 100000
set_option maxHeartbeats 1000000
def fI (p hd : Int) : Nat → Int → Int → Int
  | 0, _, fo => fo
  | f + 1, mi, fo => if mi ≤ hd then fI p hd f (mi + 1) (if (mi * mi + p).fmod (4 * hd) = 0 ∧ hd ≤ (mi * mi + p).fdiv (4 * hd) then fo + 1 else fo) else fo
def fO (p : Int) : Nat → Int → Int → Int
  | 0, _, fo => fo
  | f + 1, hd, fo => if hd * hd ≤ p then fO p f (hd + 1) (fI p hd (2 * hd).toNat (1 - hd) fo) else fo
def formsF (p : Int) : Int := fO p p.toNat 1 0
def outJ (p hd fo : Int) : Prop := fO p (p + 1 - hd).toNat hd fo = formsF p
def innJ (p hd mi fo : Int) : Prop := fO p (p - hd).toNat (hd + 1) (fI p hd (hd + 1 - mi).toNat mi fo) = formsF p
theorem out0 (p : Int) : outJ p 1 0 := by
  unfold outJ formsF
  rw [Int.add_sub_cancel]
theorem sq_le {p hd : Int} (h1 : 1 ≤ hd) (h : hd * hd ≤ p) : hd ≤ p :=
  Int.le_trans (by have := Int.mul_le_mul_of_nonneg_left h1 (show 0 ≤ hd by omega); omega) h
theorem out_in {p hd fo : Int} (h1 : 1 ≤ hd) (h : outJ p hd fo) (hs : hd * hd ≤ p) : innJ p hd (1 - hd) fo := by
  have hp := sq_le h1 hs
  unfold outJ at h
  unfold innJ
  rw [← h, show (p + 1 - hd).toNat = (p - hd).toNat + 1 by omega, show (hd + 1 - (1 - hd)).toNat = (2 * hd).toNat by omega]
  conv => rhs; unfold fO
  rw [if_pos hs]
theorem in_in {p hd mi fo : Int} (h : innJ p hd mi fo) (hm : mi ≤ hd) : innJ p hd (mi + 1) (if (mi * mi + p).fmod (4 * hd) = 0 ∧ hd ≤ (mi * mi + p).fdiv (4 * hd) then fo + 1 else fo) := by
  unfold innJ at h ⊢
  rw [← h, show (hd + 1 - mi).toNat = (hd + 1 - (mi + 1)).toNat + 1 by omega]
  conv => rhs; unfold fI
  rw [if_pos hm]
theorem in_y {p hd mi fo : Int} (h : innJ p hd mi fo) (hm : mi ≤ hd) (h1 : (mi * mi + p).fmod (4 * hd) = 0) (h2 : hd ≤ (mi * mi + p).fdiv (4 * hd)) : innJ p hd (mi + 1) (fo + 1) := by
  have := in_in h hm
  rwa [if_pos ⟨h1, h2⟩] at this
theorem in_n1 {p hd mi fo : Int} (h : innJ p hd mi fo) (hm : mi ≤ hd) (h1 : ¬ (mi * mi + p).fmod (4 * hd) = 0) : innJ p hd (mi + 1) fo := by
  have := in_in h hm
  rwa [if_neg fun x => h1 x.1] at this
theorem in_n2 {p hd mi fo : Int} (h : innJ p hd mi fo) (hm : mi ≤ hd) (h1 : ¬ hd ≤ (mi * mi + p).fdiv (4 * hd)) : innJ p hd (mi + 1) fo := by
  have := in_in h hm
  rwa [if_neg fun x => h1 x.2] at this
theorem in_out {p hd mi fo : Int} (h : innJ p hd mi fo) (hm : ¬ mi ≤ hd) : outJ p (hd + 1) fo := by
  unfold innJ at h
  unfold outJ
  rw [show (hd + 1 - mi).toNat = 0 by omega] at h
  rw [show p + 1 - (hd + 1) = p - hd by omega]
  exact h
theorem out_end {p hd fo : Int} (h : outJ p hd fo) (hs : ¬ hd * hd ≤ p) : fo = formsF p := by
  unfold outJ at h
  rw [← h]
  cases (p + 1 - hd).toNat with
  | zero => rfl
  | succ n => unfold fO; rw [if_neg hs]
theorem st_in {p hd fo : Int} (h1 : 1 ≤ hd) (h : outJ p hd fo) (hs : hd * hd ≤ p) :
    (1 - hd ≤ 1 - hd ∧ 1 - hd ≤ hd + 1) ∧ innJ p hd (1 - hd) fo :=
  ⟨by omega, out_in h1 h hs⟩
theorem st_y {p hd mi fo : Int} (h4 : 1 - hd ≤ mi) (h : innJ p hd mi fo) (hm : mi ≤ hd) (a1 : (mi * mi + p).fmod (4 * hd) = 0) (a2 : hd ≤ (mi * mi + p).fdiv (4 * hd)) :
    (1 - hd ≤ mi + 1 ∧ mi + 1 ≤ hd + 1) ∧ innJ p hd (mi + 1) (fo + 1) :=
  ⟨by omega, in_y h hm a1 a2⟩
theorem st_n1 {p hd mi fo : Int} (h4 : 1 - hd ≤ mi) (h : innJ p hd mi fo) (hm : mi ≤ hd) (a1 : ¬ (mi * mi + p).fmod (4 * hd) = 0) :
    (1 - hd ≤ mi + 1 ∧ mi + 1 ≤ hd + 1) ∧ innJ p hd (mi + 1) fo :=
  ⟨by omega, in_n1 h hm a1⟩
theorem st_n2 {p hd mi fo : Int} (h4 : 1 - hd ≤ mi) (h : innJ p hd mi fo) (hm : mi ≤ hd) (a1 : ¬ hd ≤ (mi * mi + p).fdiv (4 * hd)) :
    (1 - hd ≤ mi + 1 ∧ mi + 1 ≤ hd + 1) ∧ innJ p hd (mi + 1) fo :=
  ⟨by omega, in_n2 h hm a1⟩
theorem st_out {p hd mi fo : Int} (h1 : 1 ≤ hd) (h3 : hd * hd ≤ p) (h : innJ p hd mi fo) (hm : ¬ mi ≤ hd) :
    (1 ≤ hd + 1 ∧ hd + 1 ≤ p + 1) ∧ outJ p (hd + 1) fo := ⟨⟨by omega, by have := sq_le h1 h3; omega⟩, in_out h hm⟩
theorem bitsS {x : Int} (h0 : -1000 ≤ x) (h1 : x ≤ 1000) : Builtin.Int.intBits x ≤ 60000000 := by
  refine Nat.le_trans (intBits_le_iff (m := 10).mpr ?_) (by decide)
  have e : (2 : Nat) ^ 10 = 1024 := rfl
  omega
local macro_rules | `(tactic| walk_at "exec") => `(tactic| ((with_reducible show wpAny _ _ (exec (Stmt.While _ _ [] _) _) _ _ _); k_extra "exec While"))
theorem formsT (w : World) (p : Int) (tp : Tok) (news : List (Addr × Obj)) (hp0 : 1 ≤ p) (hp1 : p ≤ 200) :
    Tell w 146 [.int p tp] news 4 (fun r news' => (∃ t, r = .int (formsF p) t) ∧ news' = news) := by
  unfold Tell
  w_top off
  k_fill
  intro pp loose mean mg mb dp un gd cn cs aa ccd cl outer A₀ base h₀ L m s Q E B F X N T S C1 C2 hk hg hc hd hu hret
  refine wpAny_call ?_
  k_dflt k_enter
  k_with_none
  k_with "exec While" => first | ((with_reducible show wpAny _ _ (exec (Stmt.While ((Expr.Name _ _).Call [Expr.Name _ _, Expr.Name _ _] _ _) _ _ _) _) _ _ _); (rename Int => hd); (have h1 : 1 ≤ hd := by assumption); (have h2 : hd * hd ≤ p := by assumption); (have h3 : hd ≤ 200 := Int.le_trans (sq_le h1 h2) hp1); (have h5 : hd ≤ p := sq_le h1 h2); (have h4 : 4 * hd ≠ 0 := by omega); k_while (fun script fo mi => (1 - hd ≤ mi ∧ mi ≤ hd + 1) ∧ innJ p hd mi fo) (fun script fo mi => (hd + 1 - mi).toNat) "forms" "middle") | k_while (fun script fo hd => (1 ≤ hd ∧ hd ≤ p + 1) ∧ outJ p hd fo) (fun script fo hd => (p + 1 - hd).toNat) "forms" "head"
  k_with "state" => first | exact ⟨⟨by omega, by omega⟩, out0 p⟩ | exact st_in (by assumption) (by assumption) (by assumption) | exact st_y (by assumption) (by assumption) (by assumption) (by assumption) (by assumption) | exact st_n1 (by assumption) (by assumption) (by assumption) (by assumption) | exact st_n2 (by assumption) (by assumption) (by assumption) (by assumption) | exact st_out (by assumption) (by assumption) (by assumption) (by assumption)
  k_with "bits" => exact bitsS (by omega) (by omega)
  k_steps
  rename outJ p _ _ => hJ
  exact hret _ _ _ _ (by assumption) (by assumption) ⟨⟨_, by rw [out_end hJ (by assumption)]⟩, rfl⟩
end
section
open PySem PySem.W PyProof.Rows
set_option maxRecDepth 100000
set_option maxHeartbeats 1000000
def parts6 : List Int := [2, 3, 5, 11, 29, 41]
def badd (p w d : Int) : Bool := w.fmod d == 0 && (p - 1).fmod d == 0
def bads (p w : Int) : List Int := parts6.filter (badd p w)
open PyProof.Rows.LCt PyProof.Rows.LCg in
theorem compT_ind {prog : Program} {w : World} {A : Around} {h₀ : Heap} {L : Addr} {m : Str → Option Value} {env : Env} {ct elt : Expr} {x : Str} {scope : Scope} {cl : List (Str × Addr)} {s : Shared} {S : List (Addr × Obj) → Prop} {P : Nat → Value → Prop} {Fin : List Value → List (Addr × Obj) → Prop} {n : Nat} {nw : List (Addr × Obj)}
    (R : Nat → List Value → Prop) (hz : ∀ ys, R n ys → Fin ys nw)
    (hs : ∀ i ys, i < n → R i ys → ∀ v I oI C oC D m₂ h tk (E' : Value → Shared → Prop), P i v → NsObj oC m₂ → m₂ x = some v → Fr h₀ L h m → News h₀ L h ((I, oI) :: (C, oC) :: (D, lst ys) :: nw) → Off3 I C D nw → ((@Ne Nat I C) ∧ (@Ne Nat I D) ∧ (@Ne Nat C D)) →
      wpAny (model prog w) A (isTrue ct (compEnvC scope cl C env) (eval ct (compEnvC scope cl C env))) (fun ok s' => if ok = true then
        wpAny (model prog w) A (eval elt (compEnvC scope cl C env)) (CompEnd h₀ L m { s with heap := h, toks := tk } I oI C oC D (lst ys) S (fun y news' => news' = nw ∧ R (i + 1) (ys ++ [y]))) E' s'
        else CompEnd h₀ L m { s with heap := h, toks := tk } I oI C oC D (lst ys) S (fun _ news' => news' = nw ∧ R (i + 1) ys) Value.none s') E' { s with heap := h, toks := tk }) :
    ∀ k i ys, i + k = n → R i ys → CompRestT prog w A h₀ L m env ct elt x scope cl s S P Fin k i ys nw
  | 0, i, ys, hi, hr => hz ys (by rw [← hi]; exact hr)
  | k + 1, i, ys, hi, hr => by
    refine CompRestT.succ fun v I oI C oC D m₂ h tk E' h1 h2 h3 h4 h5 h6 h7 => ?_
    refine wpAny_mono (hs i ys (by omega) hr v I oI C oC D m₂ h tk E' h1 h2 h3 h4 h5 h6 h7) (fun ok s' hq => ?_) fun _ _ e => e
    cases ok with
    | true =>
      simp only [if_true] at hq ⊢
      refine wpAny_mono hq (fun y s₂ q => ?_) fun _ _ e => e
      obtain ⟨h', tk', news', e1, F, N, o, hS, rfl, r⟩ := q
      exact ⟨h', tk', news', e1, F, N, o, hS, compT_ind R hz hs k (i + 1) _ (by omega) r⟩
    | false =>
      simp only [Bool.false_eq_true, if_false] at hq ⊢
      obtain ⟨h', tk', news', e1, F, N, o, hS, rfl, r⟩ := hq
      exact ⟨h', tk', news', e1, F, N, o, hS, compT_ind R hz hs k (i + 1) _ (by omega) r⟩
theorem ints_get {vs : List Value} {ns : List Int} (h : IntsAre vs ns) : ∀ {i : Nat} {v : Value}, vs[i]? = some v → ∃ d t, v = .int d t ∧ ns[i]? = some d := by
  induction h with
  | nil => intro i v h; simp at h
  | cons j t _ ih =>
    intro i v h
    cases i with
    | zero => simp at h; exact ⟨j, t, h.symm, rfl⟩
    | succ i => simp at h; obtain ⟨d, t', a, b⟩ := ih h; exact ⟨d, t', a, by simpa using b⟩
theorem parts_take {f : Int → Bool} {i : Nat} {d : Int} {ys : List Value} (h : parts6[i]? = some d) (hr : IntsAre ys ((parts6.take i).filter f)) :
    (f d = true → ∀ t, IntsAre (ys ++ [.int d t]) ((parts6.take (i + 1)).filter f)) ∧ (f d = false → IntsAre ys ((parts6.take (i + 1)).filter f)) := by
  have e : parts6.take (i + 1) = parts6.take i ++ [d] := by rw [List.take_add_one, h]; rfl
  rw [e, List.filter_append]
  constructor
  · intro hf t
    rw [show [d].filter f = [d] by simp [hf]]
    exact IntsAre.append hr (.cons _ _ .nil)
  · intro hf
    rw [show [d].filter f = [] by simp [hf], List.append_nil]
    exact hr
theorem parts_pos {i : Nat} {d : Int} (h : parts6[i]? = some d) : 2 ≤ d ∧ d ≤ 41 := by
  have := List.mem_of_getElem? h
  simp [parts6] at this
  omega
local macro_rules | `(tactic| walk_at "CompSrcT") => `(tactic| k_extra "CompSrcT")
local macro_rules | `(tactic| walk_at "CompEnd") => `(tactic| k_extra "CompEnd")
local macro_rules | `(tactic| walk_at "eval ListComp") => `(tactic| k_extra "eval ListComp")
local macro_rules | `(tactic| walk_at "compareOp NotEq ref ref") => `(tactic| k_extra "compareOp NotEq ref ref")
local macro_rules | `(tactic| walk_at "KswEnd") => `(tactic| k_extra "KswEnd")
theorem widthT (w : World) (w0 T p : Int) (tw tp : Tok) (news : List (Addr × Obj)) (h1 : 1 ≤ w0) (hT : w0 ≤ T) (hT2 : T ≤ 400) (hp0 : 1 ≤ p) (hp1 : p ≤ 200) (hgood : bads p T = []) (hbad : ∀ v, w0 ≤ v → v < T → bads p v ≠ []) :
    Tell w 151 [.int w0 tw, .int p tp] news 10 (fun r news' => (∃ t, r = .int T t) ∧ news' = news) := by
  unfold Tell
  w_top off
  k_fill
  intro pp loose mean mg mb dp un gd cn cs aa ccd cl outer A₀ base h₀ L m s Q E B F X N T' S C1 C2 hk hg hc hd hu hret
  refine wpAny_call ?_
  k_dflt k_enter
  k_with_none
  k_with "exec While Compare cons nil" => refine halt ?_
  k_with "CompSrcT" => refine halt ?_
  k_with "CompEnd" => refine halt ?_
  k_with "KswEnd" => refine halt ?_
  k_with "eval ListComp" => refine halt ?_
  k_with "compareOp NotEq ref ref" => refine halt ?_
  k_steps
  unfold Halt
  rename_i ob oa db da _
  (rename Fr _ _ _ _ => lF'); (rename News _ _ _ _ => lN')
  rename (∀ p ∈ news, p.1 < _) => hall
  have da2 : oa.data = Data.cell (some (.int w0 tw)) := by with_unfolding_all exact da
  have db2 : ob.data = Data.cell (some (.int p tp)) := by with_unfolding_all exact db
  clear da db
  refine ksw_while (σ := Obj × Int × Tok) (fun c => (_, ob) :: (_, c.1) :: news) (fun c => []) (fun c => c.1.data = Data.cell (some (.int c.2.1 c.2.2))) [] (fun c => w0 ≤ c.2.1 ∧ c.2.1 ≤ T) (fun c => (T - c.2.1).toNat) (oa, w0, tw) lF' lN' da2 (fun _ h => nomatch h) ⟨Int.le_refl _, hT⟩ ?turn
  case turn =>
    rintro ⟨o1, wd, t1⟩ u h tk dc ⟨hw1, hw2⟩ F1 N1
    dsimp only at *
    k_steps
    unfold Halt
    k_here
    lct_look
    lcg_calm
    refine LCt.ListComp_T (F₀ := by k_asm) (by with_unfolding_all rfl) (by decide) (by rfl) (by decide) (by rfl) ?_
    lct_toSrc
    unfold Halt
    (rename Fr _ _ _ _ => F2); (rename News _ _ _ _ => N2)
    refine LCt.CompSrcT.ledger (by rfl) F2 N2 List.mem_cons_self (Nat.le_of_ble_eq_true rfl) fun g => ?_
    refine compT_ind (fun i ys => IntsAre ys ((parts6.take i).filter (badd p wd))) ?fin ?turn2 _ 0 [] rfl .nil
    case turn2 =>
      intro i ys hi hR v I oI C oC D m₂ hh tkk E' hP hns hmx F3 N3 hoff hne
      obtain ⟨d, t, rfl, hd6⟩ := ints_get (ns := parts6) (.cons _ _ (.cons _ _ (.cons _ _ (.cons _ _ (.cons _ _ (.cons _ _ .nil)))))) (by simpa using hP)
      obtain ⟨hda, hdb⟩ := parts_pos hd6
      have hd0 : d ≠ 0 := by omega
      k_steps
      all_goals unfold Halt
      all_goals refine LCg.CompEnd.intro (by assumption) (by assumption) _ (fun _ h => h) hoff ?_ ⟨rfl, ?_⟩
      · exact .inr ⟨_, List.mem_cons_self, rfl, _, rfl⟩
      · exact (parts_take hd6 hR).1 (by simp [badd, *]) _
      · exact .inr ⟨_, List.mem_cons_self, rfl, _, rfl⟩
      · exact (parts_take hd6 hR).2 (by simp [badd, *])
      · exact .inr ⟨_, List.mem_cons_self, rfl, _, rfl⟩
      · exact (parts_take hd6 hR).2 (by simp [badd, *])
    case fin =>
      intro ys hys D hD tkD FD ND oD
      have hys' : IntsAre ys (bads p wd) := hys
      clear hys
      k_steps
      unfold Halt
      (rename News _ _ _ _ => N5)
      k_here
      refine ke_ne_ints (ys := []) (News.isList N5 (.tail _ (.head _))) (News.isList N5 (.head _)) hys' .nil ?un ?_
      case un => (dsimp only [Around.deeper, ktrTop]; simp only [cLine]; omega)
      by_cases hb : bads p wd = []
      · rw [decide_eq_true hb]
        dsimp only [Bool.not_true]
        have hwT : wd = T := by
          refine Int.le_antisymm hw2 (Int.not_lt.mp fun h => hbad wd hw1 h hb)
        subst hwT
        k_steps
        (rename News h₀ _ _ _ => N6)
        exact hret _ _ _ _ (by assumption) (fun q hq => N6 q (.tail _ (.tail _ (.tail _ (.tail _ (.tail _ hq)))))) ⟨⟨_, rfl⟩, rfl⟩
      · rw [decide_eq_false hb]
        dsimp only [Bool.not_false]
        have hwT : wd < T := by
          have : wd ≠ T := fun h => hb (h ▸ hgood)
          omega
        k_steps
        (rename News _ _ _ _ => N6)
        k_here
        refine' storeX_C ?zF (fun q hq => N6 q (.tail _ (.tail _ (.tail _ hq)))) ?zc (.tail ?zn (.head ?zh)) dc ?_ ?za ?zb
        case za => rfl
        case zb => rfl
        case zF => k_asm
        case zc => rfl
        case zn => exact Nat.succ_ne_self _
        case zh => exact fun q hq => Nat.ne_of_lt (Nat.lt_succ_of_lt (hall q hq))
        intro h' o' F' N' d'
        (try dsimp only at N')
        k_steps
        unfold Halt
        exact ksw_end (o', wd + 1, _) F' N' (fun _ h => h) d' (fun _ h => nomatch h) (by intro z _ _; simp [kstB]) ⟨(by omega : w0 ≤ wd + 1), (by omega : wd + 1 ≤ T)⟩ (show (T - (wd + 1)).toNat < (T - wd).toNat by omega)
end
section
set_option maxRecDepth 100000
def widF (p : Int) : Nat → Int → Int
  | 0, w => w
  | f + 1, w => if bads p w = [] then w else widF p f (w + 1)
theorem wid_spec (p : Int) : ∀ (f : Nat) (w : Int), w ≤ widF p f w ∧ widF p f w ≤ w + f ∧ ∀ v, w ≤ v → v < widF p f w → bads p v ≠ []
  | 0, w => ⟨Int.le_refl _, by unfold widF; omega, fun v h1 h2 => absurd h2 (by unfold widF; omega)⟩
  | f + 1, w => by
    unfold widF
    by_cases h : bads p w = []
    · rw [if_pos h]
      exact ⟨Int.le_refl _, by omega, fun v h1 h2 => absurd h2 (by omega)⟩
    · rw [if_neg h]
      obtain ⟨a, b, c⟩ := wid_spec p f (w + 1)
      refine ⟨by omega, by omega, fun v h1 h2 => ?_⟩
      by_cases hv : v = w
      · rw [hv]; exact h
      · exact c v (by omega) h2
theorem wid_ok {p w : Int} (hp : p = 11 ∨ p = 59 ∨ p = 83 ∨ p = 67) (h1 : 1 ≤ w) (h2 : w ≤ 200) : bads p (widF p 12 w) = [] := by
  have h : ∀ i : Fin 201, ∀ q ∈ ([11, 59, 83, 67] : List Int), bads q (widF q 12 (i.val : Int)) = [] := by decide +kernel
  have := h ⟨w.toNat, by omega⟩ p (by rcases hp with rfl | rfl | rfl | rfl <;> decide)
  rwa [show ((w.toNat : Nat) : Int) = w by omega] at this
end
section
set_option maxRecDepth 100000
theorem primes_mem {p : Int} (hp : p = 11 ∨ p = 59 ∨ p = 83 ∨ p = 67) : p ∈ ([11, 59, 83, 67] : List Int) := by rcases hp with rfl | rfl | rfl | rfl <;> decide
theorem forms_b {p : Int} (hp : p = 11 ∨ p = 59 ∨ p = 83 ∨ p = 67) : 1 ≤ formsF p ∧ formsF p ≤ 3 := by
  have h : ∀ q ∈ ([11, 59, 83, 67] : List Int), 1 ≤ formsF q ∧ formsF q ≤ 3 := by decide +kernel
  exact h p (primes_mem hp)
theorem row_len {p : Int} (hp : p = 11 ∨ p = 59 ∨ p = 83 ∨ p = 67) : (rowF p).length ≤ 200 := by
  have h : ∀ q ∈ ([11, 59, 83, 67] : List Int), (rowF q).length ≤ 200 := by decide +kernel
  exact h p (primes_mem hp)
theorem sign_b {p x : Int} (hp : p = 11 ∨ p = 59 ∨ p = 83 ∨ p = 67) (h0 : 0 ≤ x) (h1 : x < p) : -1 ≤ signF (rowF p) x ∧ signF (rowF p) x ≤ 1 := by
  have h : ∀ q ∈ ([11, 59, 83, 67] : List Int), ∀ i : Fin 90, (i.val : Int) < q → -1 ≤ signF (rowF q) (i.val : Int) ∧ signF (rowF q) (i.val : Int) ≤ 1 := by decide +kernel
  have := h p (primes_mem hp) ⟨x.toNat, by omega⟩
  rw [show ((x.toNat : Nat) : Int) = x by omega] at this
  exact this h1
theorem sur_ok {p x : Int} (hp : p = 11 ∨ p = 59 ∨ p = 83 ∨ p = 67) (h0 : 2 ≤ x) (h1 : x ≤ 9) : surF x p (rowF p) = (x - signF (rowF p) x) * formsF p := by
  have h : ∀ q ∈ ([11, 59, 83, 67] : List Int), ∀ i : Fin 10, 2 ≤ i.val → surF (i.val : Int) q (rowF q) = ((i.val : Int) - signF (rowF q) (i.val : Int)) * formsF q := by decide +kernel
  have := h p (primes_mem hp) ⟨x.toNat, by omega⟩ (by show 2 ≤ x.toNat; omega)
  rwa [show ((x.toNat : Nat) : Int) = x by omega] at this
end
section
open PySem PySem.W PyProof.Rows
set_option maxRecDepth 100000
set_option maxHeartbeats 1000000
def defBody : Option Stmt → List Stmt
  | some (.FunctionDef _ _ b _ _ _ _ _ _ _) => b
  | _ => []
def defScope : Option Stmt → Scope
  | some (.FunctionDef _ _ _ _ _ _ sc _ _ _) => sc
  | _ => default
def lawBody : List Stmt := defBody PySem.Challenge.rw_tl0023_01.row.prog.main.body.getLast?
def lawScope : Scope := defScope PySem.Challenge.rw_tl0023_01.row.prog.main.body.getLast?
def rest6 : List Stmt := lawBody.drop 6
def rest9 : List Stmt := lawBody.drop 9
def rest14 : List Stmt := lawBody.drop 14
theorem fr_pin {h₀ h : Heap} {L : Addr} {m : Str → Option Value} (x : Str) (v : Value) (F : Fr h₀ L h m) (hv : m x = some v) : Fr h₀ L h (fun y => if y = x then some v else m y) := by
  have e : (fun y => if y = x then some v else m y) = m := by
    funext y
    by_cases h : y = x
    · rw [if_pos h, h, hv]
    · rw [if_neg h]
  rw [e]
  exact F
def FuF (p W : Int) : Int := 1 * 2 ^ (W * (p - 1)).toNat - 1
def LiF (p W c2 : Int) : Int := 1 * 2 ^ ((Builtin.Int.intBits (FuF p W) : Int) + (Builtin.Int.intBits c2 : Int)).toNat - 1
def PeF (p W : Int) : Int := (FuF p W).fdiv p
/-- what the walk asks of the law's numbers -/
structure LawNum (p c2 Fu Li Pe : Int) : Prop where
  bFu : Builtin.Int.intBits Fu ≤ 60000000
  bLi : Builtin.Int.intBits Li ≤ 60000000
  bPe : Builtin.Int.intBits Pe ≤ 60000000
  bp : Builtin.Int.intBits p ≤ 60000000
  bc2 : Builtin.Int.intBits c2 ≤ 60000000
  bcp : Builtin.Int.intBits (c2 * Pe) ≤ 60000000
  brL : Builtin.Int.intBits (c2.fmod p * Pe) ≤ 60000000
  brr : Builtin.Int.intBits (c2.fmod p) ≤ 60000000
  lne : Li ≠ 0
  pre1 : PreDP (if Fu * Li < 0 then Builtin.bitNot (Fu * Li) else Fu * Li) (p * Li)
  one : ∀ q r, q * (p * Li) + r = Fu * Li → 0 ≤ r → r < p * Li → q = Pe ∧ r = 0
  neg2 : -(Fu * Li) < 0
  pre2 : PreDP (if -(-(c2 * Pe * Li)) < 0 then Builtin.bitNot (-(-(c2 * Pe * Li))) else -(-(c2 * Pe * Li))) (-(-(Fu * Li)))
  two : ∀ q r, q * (-(-(Fu * Li))) + -r = -(-(c2 * Pe * Li)) → 0 ≤ -r → -r < -(-(Fu * Li)) → q = c2.fdiv p ∧ r = -(c2.fmod p * Pe * Li)
  beh : (-(-(c2.fmod p * Pe * Li))).fdiv Li = c2.fmod p * Pe
structure DigNum (p W Be R : Int) : Prop where
  pre35 : Pre35 Be W
  pre42 : Pre42 (digF Be W ++ [0]) W
  back : numF (digF Be W ++ [0]) W = Be
  top : (digF Be W).drop ((digF Be W).length - 1) ≠ [0]
  len : (digF Be W).length ≤ 100
  alt : (pickF (digF Be W) (some 0) none (some 2)).sum - (pickF (digF Be W) (some 1) none (some 2)).sum = signF (rowF p) R * (1 * 2 ^ W.toNat + 1) * formsF p
  bW : Builtin.Int.intBits (1 * 2 ^ W.toNat + 1) ≤ 60000000
  bSW : Builtin.Int.intBits (signF (rowF p) R * (1 * 2 ^ W.toNat + 1)) ≤ 60000000
  r0 : 0 ≤ R
  r1 : R < p
end
section
open PySem PySem.W PyProof.Rows
set_option maxRecDepth 100000
theorem eu {q r q' r' b : Int} (h : q * b + r = q' * b + r') (h0 : 0 ≤ r) (h1 : r < b) (h2 : 0 ≤ r') (h3 : r' < b) : q = q' ∧ r = r' := by
  have hq : q = q' := by
    rcases Int.lt_trichotomy q q' with h4 | h4 | h4
    · exfalso
      have := Int.mul_le_mul_of_nonneg_right (show q + 1 ≤ q' by omega) (show 0 ≤ b by omega)
      rw [Int.add_mul, Int.one_mul] at this
      omega
    · exact h4
    · exfalso
      have := Int.mul_le_mul_of_nonneg_right (show q' + 1 ≤ q by omega) (show 0 ≤ b by omega)
      rw [Int.add_mul, Int.one_mul] at this
      omega
  subst hq
  exact ⟨rfl, by omega⟩
theorem bits_low {x : Int} {m : Nat} (h : 2 ^ m ≤ x) : m + 1 ≤ Builtin.Int.intBits x := by
  rcases Nat.lt_or_ge m (Builtin.Int.intBits x) with h1 | h1
  · exact h1
  · have := (of_bits h1).1
    omega
theorem fermat_pow {p P : Nat} (h : 2 ^ P % p = 1) (W : Nat) (hp : 1 < p) : 2 ^ (P * W) % p = 1 := by
  rw [Nat.pow_mul, Nat.pow_mod, h, Nat.one_pow, Nat.mod_eq_of_lt hp]
/-- the exponent, as a natural number -/
theorem expo {p W : Int} (hp : p = 11 ∨ p = 59 ∨ p = 83 ∨ p = 67) (hW1 : 1 ≤ W) (hW2 : W ≤ 212) : (W * (p - 1)).toNat = (p - 1).toNat * W.toNat ∧ 1 ≤ (W * (p - 1)).toNat ∧ (W * (p - 1)).toNat ≤ 20000 := by
  obtain ⟨w, rfl⟩ := Int.eq_ofNat_of_zero_le (show 0 ≤ W by omega)
  rcases hp with rfl | rfl | rfl | rfl <;> simp only [Int.reduceSub, Int.reduceToNat, Int.toNat_natCast] <;> refine ⟨?_, ?_, ?_⟩ <;> omega
theorem fu_div {p W : Int} (hp : p = 11 ∨ p = 59 ∨ p = 83 ∨ p = 67) (hW1 : 1 ≤ W) (hW2 : W ≤ 212) : p * PeF p W = FuF p W := by
  unfold PeF
  rw [Int.fdiv_eq_ediv_of_nonneg _ (by omega)]
  refine Int.mul_ediv_cancel' ?_
  unfold FuF
  rw [(expo hp hW1 hW2).1, Int.one_mul]
  have key : ∀ (q : Nat), 1 < q → 2 ^ (q - 1) % q = 1 → ((q : Int)) ∣ 2 ^ ((q - 1) * W.toNat) - 1 := by
    intro q h1 h2
    have h3 := fermat_pow h2 W.toNat h1
    have h6 : 2 ^ ((q - 1) * W.toNat) = q * (2 ^ ((q - 1) * W.toNat) / q) + 1 := by
      have := Nat.div_add_mod (2 ^ ((q - 1) * W.toNat)) q
      omega
    generalize 2 ^ ((q - 1) * W.toNat) / q = c at h6
    refine ⟨(c : Int), ?_⟩
    have h7 : ((2 ^ ((q - 1) * W.toNat) : Nat) : Int) = ((q * c + 1 : Nat) : Int) := congrArg _ h6
    rw [kbt_cast] at h7
    rw [h7]
    push_cast
    omega
  rcases hp with rfl | rfl | rfl | rfl
  · exact key 11 (by decide) (by decide)
  · exact key 59 (by decide) (by decide +kernel)
  · exact key 83 (by decide) (by decide +kernel)
  · exact key 67 (by decide) (by decide +kernel)
theorem fu_pos {p W : Int} (hp : p = 11 ∨ p = 59 ∨ p = 83 ∨ p = 67) (hW1 : 1 ≤ W) (hW2 : W ≤ 212) : 1 ≤ FuF p W ∧ Builtin.Int.intBits (FuF p W) = (W * (p - 1)).toNat := by
  obtain ⟨_, h1, _⟩ := expo hp hW1 hW2
  unfold FuF
  generalize (W * (p - 1)).toNat = N at *
  obtain ⟨M, rfl⟩ : ∃ M, N = M + 1 := ⟨N - 1, by omega⟩
  have hm := two_pos M
  rw [Int.one_mul, Int.pow_succ]
  refine ⟨by omega, Nat.le_antisymm (bits_of (by omega) (by rw [Int.pow_succ]; omega)) (bits_low (by omega))⟩
theorem law_li {p W c2 : Int} (hp : p = 11 ∨ p = 59 ∨ p = 83 ∨ p = 67) (hW1 : 1 ≤ W) (hW2 : W ≤ 212) (hc2 : Builtin.Int.intBits c2 ≤ 1048583) : (Builtin.Int.intBits (1 * 2 ^ (W * (p - 1)).toNat - 1) : Int) + (Builtin.Int.intBits c2 : Int) ≤ 60000000 := by
  have h := (fu_pos hp hW1 hW2).2
  have h2 := expo hp hW1 hW2
  unfold FuF at h
  rw [h]
  omega
theorem law_num {p W c2 : Int} (hp : p = 11 ∨ p = 59 ∨ p = 83 ∨ p = 67) (hW1 : 1 ≤ W) (hW2 : W ≤ 212) (hc2 : Builtin.Int.intBits c2 ≤ 1048583) : LawNum p c2 (FuF p W) (LiF p W c2) (PeF p W) := by
  have hd := fu_div hp hW1 hW2
  obtain ⟨hf1, hf2⟩ := fu_pos hp hW1 hW2
  obtain ⟨_, hN1, hN2⟩ := expo hp hW1 hW2
  have hli : LiF p W c2 = 2 ^ (Builtin.Int.intBits (FuF p W) + Builtin.Int.intBits c2) - 1 := by
    unfold LiF
    rw [Int.one_mul]
    rfl
  generalize FuF p W = Fu at *
  generalize PeF p W = Pe at *
  generalize LiF p W c2 = Li at *
  rw [hf2] at hli
  generalize (W * (p - 1)).toNat = N at *
  have hpb : 11 ≤ p ∧ p ≤ 83 := by omega
  clear hp
  obtain ⟨E, hE⟩ : ∃ E, N + Builtin.Int.intBits c2 = E + 1 := ⟨N + Builtin.Int.intBits c2 - 1, by omega⟩
  rw [hE, Int.pow_succ] at hli
  have hEp := two_pos E
  have hl1 : 2 ^ E ≤ Li := by omega
  have hbL : Builtin.Int.intBits Li ≤ E + 1 := bits_of (by omega) (by rw [Int.pow_succ]; omega)
  have hbF : Builtin.Int.intBits Fu ≤ N := Nat.le_of_eq hf2
  have hbp : Builtin.Int.intBits p ≤ 7 := bits_of (by omega) (by have : (2 : Int) ^ 7 = 128 := rfl; omega)
  have hR0 := Int.fmod_nonneg_of_pos c2 (show 0 < p by omega)
  have hR1 := Int.fmod_lt_of_pos c2 (show 0 < p by omega)
  have hk : p * c2.fdiv p + c2.fmod p = c2 := Int.mul_fdiv_add_fmod c2 p
  have hPe : 1 ≤ Pe := by
    rcases Int.lt_or_le Pe 1 with h | h
    · exfalso
      have : p * Pe ≤ p * 0 := Int.mul_le_mul_of_nonneg_left (by omega) (by omega)
      omega
    · exact h
  have hPF : Pe ≤ Fu := by
    have : 1 * Pe ≤ p * Pe := Int.mul_le_mul_of_nonneg_right (by omega) (by omega)
    omega
  have hbP : Builtin.Int.intBits Pe ≤ N := intBits_le_of_natAbs (y := Fu) (by omega) hbF
  have hbR : Builtin.Int.intBits (c2.fmod p) ≤ 7 := intBits_le_of_natAbs (y := p) (by omega) hbp
  have hFL : 0 < Fu * Li := Int.mul_pos (by omega) (by omega)
  have hpL : 0 < p * Li := Int.mul_pos (by omega) (by omega)
  have hLp : 1 * Li ≤ p * Li := Int.mul_le_mul_of_nonneg_right (by omega) (by omega)
  have hLF : 1 * Li ≤ Fu * Li := Int.mul_le_mul_of_nonneg_right (by omega) (by omega)
  have hbFL : Builtin.Int.intBits (Fu * Li) ≤ N + (E + 1) := intBits_mul_le hbF hbL
  have hbpL : Builtin.Int.intBits (p * Li) ≤ 7 + (E + 1) := intBits_mul_le hbp hbL
  have hlo1 : E + 1 ≤ Builtin.Int.intBits (p * Li) := bits_low (by omega)
  have hlo2 : E + 1 ≤ Builtin.Int.intBits (Fu * Li) := bits_low (by omega)
  have hbc : Builtin.Int.intBits (c2 * Pe) ≤ Builtin.Int.intBits c2 + N := intBits_mul_le (Nat.le_refl _) hbP
  have hbz : Builtin.Int.intBits (c2 * Pe * Li) ≤ Builtin.Int.intBits c2 + N + (E + 1) := intBits_mul_le hbc hbL
  have hRP0 : 0 ≤ c2.fmod p * Pe := Int.mul_nonneg hR0 (by omega)
  have hRP1 : c2.fmod p * Pe + 1 ≤ Fu := by
    have := Int.mul_le_mul_of_nonneg_right (show c2.fmod p + 1 ≤ p by omega) (show 0 ≤ Pe by omega)
    rw [Int.add_mul, Int.one_mul] at this
    omega
  have hRL0 : 0 ≤ c2.fmod p * Pe * Li := Int.mul_nonneg hRP0 (by omega)
  have hRL1 : c2.fmod p * Pe * Li + Li ≤ Fu * Li := by
    have := Int.mul_le_mul_of_nonneg_right hRP1 (show 0 ≤ Li by omega)
    rw [Int.add_mul, Int.one_mul] at this
    exact this
  have hz : c2 * Pe * Li = c2.fdiv p * (Fu * Li) + c2.fmod p * Pe * Li := by
    conv => lhs; rw [← hk]
    rw [← hd, Int.add_mul, Int.add_mul]
    congr 1
    rw [Int.mul_comm p (c2.fdiv p), Int.mul_assoc (c2.fdiv p), Int.mul_assoc (c2.fdiv p)]
  refine ⟨by omega, by omega, by omega, by omega, by omega, by omega, ?_, by omega, by omega, ?_, ?_, by omega, ?_, ?_, ?_⟩
  · exact Nat.le_trans (intBits_mul_le hbR hbP) (by omega)
  · rw [if_neg (by omega)]
    exact ⟨by omega, hpL, by omega, by omega⟩
  · intro q r h h0 h1
    have e : Fu * Li = Pe * (p * Li) + 0 := by rw [← hd, Int.add_zero, ← Int.mul_assoc, Int.mul_comm Pe p]
    rw [e] at h
    exact eu h h0 h1 (Int.le_refl _) hpL
  · rw [Int.neg_neg, Int.neg_neg]
    have hb9 : Builtin.Int.intBits (if c2 * Pe * Li < 0 then Builtin.bitNot (c2 * Pe * Li) else c2 * Pe * Li) ≤ Builtin.Int.intBits c2 + N + (E + 1) := by
      refine intBits_le_of_natAbs (y := c2 * Pe * Li) ?_ hbz
      split
      · unfold Builtin.bitNot; omega
      · exact Nat.le_refl _
    refine ⟨?_, hFL, by omega, by omega⟩
    split
    · unfold Builtin.bitNot; omega
    · omega
  · intro q r h h0 h1
    rw [Int.neg_neg] at h h1
    rw [Int.neg_neg, hz] at h
    obtain ⟨a, b⟩ := eu h h0 h1 hRL0 (by omega)
    exact ⟨a, by omega⟩
  · rw [Int.neg_neg]
    exact Int.mul_fdiv_cancel _ (by omega)
end
section
open PySem PySem.W PyProof.Rows
set_option maxRecDepth 100000
theorem pick_zero (n : Nat) : sliceRange (sliceBounds (some 0) none (some 2) n).1 (sliceBounds (some 0) none (some 2) n).2.1 (sliceBounds (some 0) none (some 2) n).2.2 = (List.range ((n + 1) / 2)).map fun k => 0 + 2 * k := by
  have e : sliceBounds (some 0) none (some 2) n = ((0 : Int), (n : Int), 2) := by
    simp only [sliceBounds, Option.getD_some, show (2 : Int) > 0 by decide, if_true, show ¬ ((0 : Int) < 0) by decide, if_false]
    congr 1
    try omega
  rw [e]
  unfold sliceRange
  simp only [show (2 : Int) > 0 by decide, if_true]
  have c : (if (0 : Int) < (n : Int) then ((n : Int) - 0 + 2 - 1) / 2 else 0).toNat = (n + 1) / 2 := by split <;> omega
  rw [c]
  refine List.map_congr_left fun k _ => ?_
  omega
theorem pick_one (n : Nat) : sliceRange (sliceBounds (some 1) none (some 2) n).1 (sliceBounds (some 1) none (some 2) n).2.1 (sliceBounds (some 1) none (some 2) n).2.2 = (List.range (n / 2)).map fun k => 1 + 2 * k := by
  rcases Nat.eq_zero_or_pos n with h | h
  · subst h; rfl
  have e : sliceBounds (some 1) none (some 2) n = ((1 : Int), (n : Int), 2) := by
    simp only [sliceBounds, Option.getD_some, show (2 : Int) > 0 by decide, if_true, show ¬ ((1 : Int) < 0) by decide, if_false]
    congr 1
    omega
  rw [e]
  unfold sliceRange
  simp only [show (2 : Int) > 0 by decide, if_true]
  have c : (if (1 : Int) < (n : Int) then ((n : Int) - 1 + 2 - 1) / 2 else 0).toNat = n / 2 := by split <;> omega
  rw [c]
  refine List.map_congr_left fun k _ => ?_
  omega
theorem pick_alt (ds : List Int) : (pickF ds (some 0) none (some 2)).sum - (pickF ds (some 1) none (some 2)).sum = asum (fun i => ds.getD i 0) ds.length := by
  unfold pickF
  rw [pick_zero, pick_one, step_sum, step_sum, asum_split]
/-- the sum over a period, even and odd places apart -/
def tEO (p g : Nat) : Nat → Nat → Nat → Nat → Nat × Nat
  | 0, _, a, b => (a, b)
  | n + 1, r, a, b => tEO p g n (r * g % p) b (a + r)
theorem tEO_spec (p g : Nat) : ∀ (n r a b : Nat), r < p → (((tEO p g n r a b).1 : Nat) : Int) - ((tEO p g n r a b).2 : Nat) = sg n * ((a : Int) - b + asum (fun j => ((r * g ^ j % p : Nat) : Int)) n)
  | 0, r, a, b, _ => by unfold tEO asum sg; simp
  | n + 1, r, a, b, h => by
    unfold tEO
    rw [tEO_spec p g n (r * g % p) b (a + r) (Nat.mod_lt _ (by omega)), asum_front, sg_succ]
    have e : asum (fun j => ((r * g % p * g ^ j % p : Nat) : Int)) n = asum (fun j => ((r * g ^ (j + 1) % p : Nat) : Int)) n := asum_congr fun k _ => by
      congr 1
      rw [Nat.mod_mul_mod, Nat.pow_succ, Nat.mul_assoc, Nat.mul_comm g]
    rw [e, Nat.pow_zero, Nat.mul_one, Nat.mod_eq_of_lt h]
    generalize asum (fun j => ((r * g ^ (j + 1) % p : Nat) : Int)) n = T
    rw [Int.neg_mul, ← Int.mul_neg]
    congr 1
    omega
def copN (P w : Nat) : Bool := [2, 3, 5, 11, 29, 41].all fun d => !(w % d == 0 && P % d == 0)
def eulN (p R : Nat) : Nat := if R = 0 then 0 else if R ^ ((p - 1) / 2) % p = 1 then 1 else 2
def chkR (p h g R : Nat) : Bool :=
  match tEO p g (p - 1) R 0 0 with
  | (e, o) => match eulN p R with
    | 0 => e == o
    | 1 => e + h * p == o
    | _ => e == o + h * p
def chkAll (p h : Nat) : Bool := (List.range (p - 1)).all fun w => !copN (p - 1) w || (List.range p).all fun R => chkR p h (2 ^ w % p) R
theorem chk11 : chkAll 11 1 = true := by decide +kernel
theorem chk59 : chkAll 59 3 = true := by decide +kernel
theorem chk83 : chkAll 83 3 = true := by decide +kernel
theorem chk67 : chkAll 67 1 = true := by decide +kernel
def eulI (p R : Nat) : Int := match eulN p R with
  | 0 => 0
  | 1 => 1
  | _ => -1
theorem sign_eul {q : Int} (hq : q = 11 ∨ q = 59 ∨ q = 83 ∨ q = 67) {R : Nat} (hR : (R : Int) < q) : signF (rowF q) (R : Int) = eulI q.toNat R := by
  have h : ∀ q ∈ ([11, 59, 83, 67] : List Int), ∀ i : Fin 90, (i.val : Int) < q → signF (rowF q) (i.val : Int) = eulI q.toNat i.val := by decide +kernel
  exact h q (primes_mem hq) ⟨R, by omega⟩ hR
theorem forms_val : formsF 11 = 1 ∧ formsF 59 = 3 ∧ formsF 83 = 3 ∧ formsF 67 = 1 := by decide +kernel
/-- the finite check, read off -/
theorem chk_use {p h w R : Nat} (hc : chkAll p h = true) (hw : w < p - 1) (hcop : copN (p - 1) w = true) (hR : R < p) (hev : (p - 1) % 2 = 0) :
    asum (fun j => ((R * (2 ^ w % p) ^ j % p : Nat) : Int)) (p - 1) = -(eulI p R * ((h : Int) * (p : Int))) := by
  have h1 := List.all_eq_true.mp hc w (List.mem_range.mpr hw)
  rw [hcop] at h1
  have h2 := List.all_eq_true.mp (by simpa using h1 : ((List.range p).all fun R => chkR p h (2 ^ w % p) R) = true) R (List.mem_range.mpr hR)
  have h3 := tEO_spec p (2 ^ w % p) (p - 1) R 0 0 hR
  have s0 : sg (p - 1) = 1 := by unfold sg; rw [if_pos hev]
  rw [s0] at h3
  unfold chkR at h2
  unfold eulI
  generalize asum (fun j => ((R * (2 ^ w % p) ^ j % p : Nat) : Int)) (p - 1) = T at *
  have hm : ((h : Int) * (p : Int)) = ((h * p : Nat) : Int) := (Int.natCast_mul _ _).symm
  rw [hm]
  generalize h * p = Z at *
  generalize tEO p (2 ^ w % p) (p - 1) R 0 0 = eo at *
  obtain ⟨e, o⟩ := eo
  dsimp only at h2 h3 ⊢
  generalize eulN p R = u at *
  match u, h2 with
  | 0, h2 => have := eq_of_beq h2; show _ = -((0 : Int) * _); omega
  | 1, h2 => have := eq_of_beq h2; show _ = -((1 : Int) * _); omega
  | (k + 2), h2 => have := eq_of_beq h2; show _ = -((-1 : Int) * _); omega
end
section
open PySem PySem.W PyProof.Rows
set_option maxRecDepth 100000
theorem asum_ext {f : Nat → Int} {n : Nat} (h : ∀ k, n ≤ k → f k = 0) : ∀ k : Nat, asum f (n + k) = asum f n
  | 0 => rfl
  | k + 1 => by
    show asum f (n + k) + sg (n + k) * f (n + k) = _
    rw [h (n + k) (by omega), Int.mul_zero, Int.add_zero, asum_ext h k]
theorem cop_of {p W : Int} (hp : p = 11 ∨ p = 59 ∨ p = 83 ∨ p = 67) (hW1 : 1 ≤ W) (hW : bads p W = []) : copN (p.toNat - 1) (W.toNat % (p.toNat - 1)) = true := by
  refine List.all_eq_true.mpr fun d hd => ?_
  have h1 : badd p W (d : Int) = false := by
    rcases hb : badd p W (d : Int) with _ | _
    · rfl
    · exfalso
      have : ((d : Nat) : Int) ∈ bads p W := by
        refine List.mem_filter.mpr ⟨?_, hb⟩
        simp at hd
        rcases hd with rfl | rfl | rfl | rfl | rfl | rfl <;> decide
      rw [hW] at this
      exact nomatch this
  have hd0 : 2 ≤ d := by simp at hd; omega
  rcases hc : (W.toNat % (p.toNat - 1) % d == 0 && (p.toNat - 1) % d == 0) with _ | _
  · rfl
  · exfalso
    rw [Bool.and_eq_true] at hc
    have a1 : W.toNat % (p.toNat - 1) % d = 0 := eq_of_beq hc.1
    have a2 : (p.toNat - 1) % d = 0 := eq_of_beq hc.2
    rw [Nat.mod_mod_of_dvd _ (Nat.dvd_of_mod_eq_zero a2)] at a1
    have b1 : W.fmod (d : Int) = 0 := by
      rw [Int.fmod_eq_emod_of_nonneg _ (by omega), show W = ((W.toNat : Nat) : Int) by omega, ← Int.natCast_emod, a1]
      rfl
    have b2 : (p - 1).fmod (d : Int) = 0 := by
      rw [Int.fmod_eq_emod_of_nonneg _ (by omega), show p - 1 = ((p.toNat - 1 : Nat) : Int) by omega, ← Int.natCast_emod, a2]
      rfl
    unfold badd at h1
    rw [b1, b2] at h1
    exact absurd h1 (by decide)
theorem pow_low {p P w : Nat} (hp : 1 < p) (h : 2 ^ P % p = 1) : 2 ^ w % p = 2 ^ (w % P) % p := by
  conv => lhs; rw [← Nat.div_add_mod w P, Nat.pow_add, Nat.mul_mod, fermat_pow h _ hp, Nat.one_mul, Nat.mod_mod]
theorem per_sum {p h W : Nat} {R : Nat} (hp : 1 < p) (hc : chkAll p h = true) (hcop : copN (p - 1) (W % (p - 1)) = true) (hR : R < p) (hev : (p - 1) % 2 = 0) (hfer : 2 ^ (p - 1) % p = 1) :
    asum (fun j => (R : Int) * ((2 : Int) ^ W) ^ j % (p : Int)) (p - 1) = -(eulI p R * ((h : Int) * (p : Int))) := by
  rw [← chk_use hc (Nat.mod_lt W (by omega)) hcop hR hev]
  refine asum_congr fun k _ => ?_
  have e : R * (2 ^ W) ^ k % p = R * (2 ^ (W % (p - 1)) % p) ^ k % p := by
    rw [Nat.mul_mod, Nat.pow_mod, pow_low hp hfer, ← Nat.mul_mod]
  rw [← e]
  simp only [Int.natCast_emod, Int.natCast_mul, Int.natCast_pow]
  rfl
/-- the law's figures: their alternating sum -/
theorem alt_num {q h : Nat} {p W R Q : Int} (hpq : p = (q : Int)) (hq : 1 < q) (hc : chkAll q h = true) (hcop : copN (q - 1) (W.toNat % (q - 1)) = true) (hev : (q - 1) % 2 = 0) (hfer : 2 ^ (q - 1) % q = 1)
    (hW1 : 1 ≤ W) (hQ : ((2 : Int) ^ W.toNat) ^ (q - 1) = p * Q + 1) (hR0 : 0 ≤ R) (hR : R < p) (hQ0 : 0 ≤ Q) (hlen : q - 1 ≤ 200) :
    (pickF (digF (R * Q) W) (some 0) none (some 2)).sum - (pickF (digF (R * Q) W) (some 1) none (some 2)).sum = eulI q R.toNat * (1 * 2 ^ W.toNat + 1) * (h : Int) := by
  rw [pick_alt]
  have hX := two_pos W.toNat
  have hB0 : 0 ≤ R * Q := Int.mul_nonneg hR0 hQ0
  have hB1 : R * Q < 2 ^ (W.toNat * (q - 1)) := by
    rw [Int.pow_mul, hQ]
    have : R * Q ≤ p * Q := Int.mul_le_mul_of_nonneg_right (by omega) hQ0
    omega
  have hd : asum (fun i => (digF (R * Q) W).getD i 0) (digF (R * Q) W).length = asum (fun k => R * Q / (2 ^ W.toNat) ^ k % 2 ^ W.toNat) (q - 1) := by
    rcases Int.lt_or_eq_of_le hB0 with hb | hb
    · obtain ⟨D, _, d0, d3, dl, x1, x2, dd⟩ := dig_facts hW1 hb hB1 hlen
      rw [dl]
      have e : q - 1 = D + (q - 1 - D) := by omega
      rw [e, asum_ext (n := D) (fun k hk => ?_) (q - 1 - D)]
      · exact asum_congr fun k _ => by rw [dd k, Int.pow_mul]
      · have h1 : R * Q < (2 ^ W.toNat) ^ k := by
          rw [← Int.pow_mul]
          have e2 : W.toNat * k = W.toNat * D + W.toNat * (k - D) := by rw [← Nat.mul_add]; congr 1; omega
          rw [e2, Int.pow_add]
          have h3 := two_pos (W.toNat * (k - D))
          have h4 : (2 : Int) ^ (W.toNat * D) * 1 ≤ (2 : Int) ^ (W.toNat * D) * (2 : Int) ^ (W.toNat * (k - D)) := Int.mul_le_mul_of_nonneg_left (show (1 : Int) ≤ _ by omega) (Int.le_of_lt (two_pos _))
          rw [Int.mul_one] at h4
          omega
        rw [Int.ediv_eq_zero_of_lt hB0 h1, Int.zero_emod]
    · rw [← hb]
      have e : digF 0 W = [] := by unfold digF; rw [if_pos rfl]
      rw [e]
      have z : asum (fun k => (0 : Int) / (2 ^ W.toNat) ^ k % 2 ^ W.toNat) (0 + (q - 1)) = asum (fun k => (0 : Int) / (2 ^ W.toNat) ^ k % 2 ^ W.toNat) 0 := asum_ext (fun k _ => by rw [Int.zero_ediv, Int.zero_emod]) (q - 1)
      rw [Nat.zero_add] at z
      rw [z]
      rfl
  rw [hd]
  have g := girst (p := p) (X := 2 ^ W.toNat) (R := R) (Q := Q) (P := q - 1) (by omega) hX hev hQ hR0 hR
  have s := per_sum (W := W.toNat) (R := R.toNat) hq hc hcop (by omega) hev hfer
  rw [show ((R.toNat : Nat) : Int) = R by omega, ← hpq] at s
  rw [s] at g
  generalize asum (fun k => R * Q / (2 ^ W.toNat) ^ k % 2 ^ W.toNat) (q - 1) = T at *
  refine Int.eq_of_mul_eq_mul_left (show p ≠ 0 by omega) ?_
  rw [g, Int.mul_neg, Int.neg_neg, Int.one_mul]
  generalize eulI q R.toNat = e
  rw [Int.mul_comm (2 ^ W.toNat + 1) (e * _), ← Int.mul_assoc, Int.mul_comm (e * (h : Int)) p, Int.mul_assoc, Int.mul_assoc, Int.mul_assoc, Int.mul_comm (h : Int)]
theorem dig_mem {x n : Int} (hn : 1 ≤ n) (hx : 0 ≤ x) {P : Nat} (hP : x < 2 ^ (n.toNat * P)) (hP2 : P ≤ 200) : Digs n (digF x n ++ [0]) := by
  intro d hd
  have hX := two_pos n.toNat
  rcases List.mem_append.mp hd with hd | hd
  · rcases Int.lt_or_eq_of_le hx with hb | hb
    · obtain ⟨D, _, d0, d3, dl, x1, x2, dd⟩ := dig_facts hn hb hP hP2
      obtain ⟨i, hi⟩ := List.mem_iff_getElem?.mp hd
      have h1 := dd i
      rw [List.getD_eq_getElem?_getD, hi] at h1
      have h2 : d = x / 2 ^ (n.toNat * i) % 2 ^ n.toNat := h1
      rw [h2]
      exact ⟨Int.emod_nonneg _ (by omega), Int.emod_lt_of_pos _ hX⟩
    · rw [← hb] at hd
      have e : digF 0 n = [] := by unfold digF; rw [if_pos rfl]
      rw [e] at hd
      exact nomatch hd
  · rw [List.mem_singleton.mp hd]
    exact ⟨Int.le_refl _, hX⟩
theorem dig_num {p W c2 : Int} (hp : p = 11 ∨ p = 59 ∨ p = 83 ∨ p = 67) (hW1 : 1 ≤ W) (hW2 : W ≤ 212) (hW : bads p W = []) : DigNum p W (c2.fmod p * PeF p W) (c2.fmod p) := by
  have hd := fu_div hp hW1 hW2
  obtain ⟨hf1, _⟩ := fu_pos hp hW1 hW2
  obtain ⟨he, _, _⟩ := expo hp hW1 hW2
  have hcop := cop_of hp hW1 hW
  have hR0 := Int.fmod_nonneg_of_pos c2 (show 0 < p by omega)
  have hR1 := Int.fmod_lt_of_pos c2 (show 0 < p by omega)
  generalize c2.fmod p = R at *
  have hQ : ((2 : Int) ^ W.toNat) ^ (p.toNat - 1) = p * PeF p W + 1 := by
    rw [hd]
    unfold FuF
    rw [he, Int.one_mul, ← Int.pow_mul, show (p - 1).toNat = p.toNat - 1 by omega, Nat.mul_comm]
    omega
  have hPe : 0 ≤ PeF p W := by
    rcases Int.lt_or_le (PeF p W) 0 with h | h
    · exfalso
      have : p * PeF p W ≤ p * 0 := Int.mul_le_mul_of_nonneg_left (by omega) (by omega)
      omega
    · exact h
  have hB0 : 0 ≤ R * PeF p W := Int.mul_nonneg hR0 hPe
  have hB1 : R * PeF p W < 2 ^ (W.toNat * (p.toNat - 1)) := by
    rw [Int.pow_mul, hQ]
    have : R * PeF p W ≤ p * PeF p W := Int.mul_le_mul_of_nonneg_right (by omega) hPe
    omega
  have hl : p.toNat - 1 ≤ 82 := by omega
  have hbits : Builtin.Int.intBits (R * PeF p W) ≤ 60000000 := by
    refine Nat.le_trans (bits_of hB0 hB1) ?_
    have : W.toNat * (p.toNat - 1) ≤ 212 * 82 := Nat.mul_le_mul (by omega) hl
    omega
  have hbW : Builtin.Int.intBits W ≤ 60000000 := bitsS (by omega) (by omega)
  have hlen : (digF (R * PeF p W) W).length ≤ 82 ∧ 0 ≤ ((Builtin.Int.intBits (R * PeF p W) : Int) + W - 1).fdiv W ∧ ((Builtin.Int.intBits (R * PeF p W) : Int) + W - 1).fdiv W ≤ 82 := by
    rcases Int.lt_or_eq_of_le hB0 with hb | hb
    · obtain ⟨D, hD, d0, d3, dl, _⟩ := dig_facts hW1 hb hB1 (by omega)
      rw [dl, hD]
      omega
    · rw [← hb]
      have e : digF 0 W = [] := by unfold digF; rw [if_pos rfl]
      have e2 : (((Builtin.Int.intBits 0 : Nat) : Int) + W - 1).fdiv W = 0 := by
        rw [show Builtin.Int.intBits 0 = 0 from rfl, Int.fdiv_eq_ediv_of_nonneg _ (by omega)]
        exact Int.ediv_eq_zero_of_lt (by omega) (by omega)
      rw [e, e2]
      decide
  obtain ⟨hlen, hD0, hD1⟩ := hlen
  have hXb : Builtin.Int.intBits (1 * 2 ^ W.toNat + 1) ≤ 300 := by
    refine bits_of (by have := two_pos W.toNat; omega) ?_
    have h1 : (2 : Int) ^ W.toNat ≤ 2 ^ 212 := by
      have : (2 : Nat) ^ W.toNat ≤ 2 ^ 212 := Nat.pow_le_pow_right (by decide) (by omega)
      have h2 : ((2 ^ W.toNat : Nat) : Int) ≤ ((2 ^ 212 : Nat) : Int) := Int.ofNat_le.mpr this
      rwa [kbt_cast, kbt_cast] at h2
    have h3 : (2 : Int) ^ 212 + 1 < 2 ^ 300 := by decide
    omega
  have hsb := sign_b hp hR0 hR1
  have hSb : Builtin.Int.intBits (signF (rowF p) R) ≤ 1 := intBits_le_iff.mpr (by omega)
  have alt : (pickF (digF (R * PeF p W) W) (some 0) none (some 2)).sum - (pickF (digF (R * PeF p W) W) (some 1) none (some 2)).sum = signF (rowF p) R * (1 * 2 ^ W.toNat + 1) * formsF p := by
    have hs := sign_eul hp (R := R.toNat) (by omega)
    rw [show ((R.toNat : Nat) : Int) = R by omega] at hs
    rw [hs]
    obtain ⟨f1, f2, f3, f4⟩ := forms_val
    rcases hp with rfl | rfl | rfl | rfl
    · rw [f1]; exact alt_num (q := 11) (h := 1) rfl (by decide) chk11 hcop rfl (by decide +kernel) hW1 hQ hR0 hR1 hPe (by decide)
    · rw [f2]; exact alt_num (q := 59) (h := 3) rfl (by decide) chk59 hcop rfl (by decide +kernel) hW1 hQ hR0 hR1 hPe (by decide)
    · rw [f3]; exact alt_num (q := 83) (h := 3) rfl (by decide) chk83 hcop rfl (by decide +kernel) hW1 hQ hR0 hR1 hPe (by decide)
    · rw [f4]; exact alt_num (q := 67) (h := 1) rfl (by decide) chk67 hcop rfl (by decide +kernel) hW1 hQ hR0 hR1 hPe (by decide)
  refine ⟨⟨hB0, hW1, hbits, hbW, hD0, by omega, ?_⟩, ⟨hW1, dig_mem hW1 hB0 hB1 (by omega), ?_, ?_, hbW⟩, back_num hW1 hB0 hB1 (by omega), top_num hW1 hB0 hB1 (by omega), by omega, alt, by omega, ?_, hR0, hR1⟩
  · have : ((Builtin.Int.intBits (R * PeF p W) : Int) + W - 1).fdiv W * W ≤ 82 * 212 := Int.mul_le_mul hD1 hW2 (by omega) (by omega)
    omega
  · rw [List.length_append, List.length_singleton]; omega
  · have h1 : ((digF (R * PeF p W) W ++ [0]).length : Int) ≤ 83 := by rw [List.length_append, List.length_singleton]; omega
    have : ((digF (R * PeF p W) W ++ [0]).length : Int) * W ≤ 83 * 212 := Int.mul_le_mul h1 hW2 (by omega) (by omega)
    omega
  · exact Nat.le_trans (intBits_mul_le hSb hXb) (by omega)
end
local macro_rules | `(tactic| ktn_end $c:term) => `(tactic| ((try unfold Halt); (with_unfolding_all refine' Tell.top $c ?k1 ?k2 ?k3 ?k4 ?k5 ?k6 ?k7 ?k8 ?k9 ?k10 ?k11 ?k12 ?_); (case k1 => k_asm); (case k2 => k_asm); (case k3 => k_asm); (case k4 => k_asm); (case k5 => k_asm); (case k6 => k_asm); (case k7 => k_asm); (case k8 => k_asm); (case k9 => exact rfl); (case k10 => exact rfl); (case k11 => exact rfl); (case k12 => decide)))
section
open PySem PySem.W PyProof.Rows
set_option maxRecDepth 100000
set_option maxHeartbeats 2000000
local macro_rules | `(tactic| walk_at "subscriptTail Name Slice ref ref") => `(tactic| k_extra "subscriptTail Name Slice ref ref")
local macro_rules | `(tactic| walk_at "compareOp Eq ref ref") => `(tactic| k_extra "compareOp Eq ref ref")
local macro_rules | `(tactic| walk_at "binaryOp Add ref ref") => `(tactic| k_extra "binaryOp Add ref ref")
theorem lawR14 (w : World) {pp : Program} {loose : List Str} {mean : ExcName → Option Value} {mg mb : Str → Option Value} {a : Addr} {ccd : Value} {base h₀ : Heap} {L : Addr} {m0 : Str → Option Value} {s : Shared} {Q : Flow → Shared → Prop} {E : Value → Shared → Prop}
    (p W Be R : Int) (tw tf tbe tr : Tok) (lr : Addr) (vr : List Value) (er : Nat) (rest : List (Addr × Obj))
    (B : Below callerA base [] h₀) (F : Fr h₀ L s.heap (fun y => if y = Str.ofString "width" then some (.int W tw) else if y = Str.ofString "row" then some (.ref lr) else if y = Str.ofString "forms" then some (.int (formsF p) tf)
      else if y = Str.ofString "rest" then some (.int R tr) else if y = Str.ofString "behind" then some (.int Be tbe) else m0 y))
    (X : (Mine.hd.heap_1 w.params).In h₀) (N : News h₀ L s.heap ((lr, PySem.W.listOf vr.toArray er) :: rest)) (T : Top pp loose mean mg mb h₀) (S : base.NoSeer) (C1 : CodeHd base 34 30) (C2 : CodeHd base 41 37)
    (hp : p = 11 ∨ p = 59 ∨ p = 83 ∨ p = 67) (hW1 : 1 ≤ W) (hW2 : W ≤ 212) (hvr : IntsAre vr (rowF p)) (K : Tabs rest) (hlr : @LT.lt Nat _ 37 lr) (U : DigNum p W Be R)
    (hret : ∀ h' tk' m' news', Fr h₀ L h' m' → News h₀ L h' news' → Tabs news' → Q (.ret (.bool true)) { s with heap := h', toks := tk' }) :
    wpAny (model PySem.Challenge.rw_tl0023_01.row.prog w) (callerA.deeper (envOfC (Str.ofString "law") lawScope L a ccd)) (execs rest14 (envOfC (Str.ofString "law") lawScope L a ccd)) Q E s := by
  w_top off
  revert X
  k_fill
  intro X
  have hfb := forms_b hp
  have hrl := row_len hp
  obtain ⟨pre35, pre42, back, top, hlen, alt, bW, bSW, r0, r1⟩ := U
  have hsb := sign_b hp r0 r1
  conv in rest14 => whnf
  conv in (occs := *) lawScope => all_goals whnf
  k_with_none
  k_with "call ref" => first | ((with_reducible show wpAny _ _ (call (Value.ref 35) _) _ _ _); refine halt ?_) | ((with_reducible show wpAny _ _ (call (Value.ref 42) _) _ _ _); refine halt ?_) | ((with_reducible show wpAny _ _ (call (Value.ref 165) _) _ _ _); refine halt ?_)
  k_with "subscriptTail Name Slice ref ref" => refine halt ?_
  k_with "compareOp Eq ref ref" => refine halt ?_
  k_with "binaryOp Add ref ref" => refine halt ?_
  k_steps
  ktn_end (i2d _ Be W _ _ _ pre35 ?hK1)
  case hK1 => exact K.sub fun q hq => .tail _ hq
  intro r' n' h' tk' F' N' P'
  obtain ⟨lf, vf, rs, rfl, hvf, rfl, kp, tb, hlt⟩ := P'
  have hl := kp (lr, _) (.head _) (Nat.ne_of_gt (Nat.lt_of_le_of_lt (by decide) hlr)) (Nat.ne_of_gt hlr)
  clear kp
  have hlf : @LT.lt Nat _ 37 lf := Nat.lt_trans hlr (hlt (lr, _) (.head _))
  k_steps
  unfold Halt
  (rename Fr _ _ _ _ => F5); (rename News _ _ _ _ => N5)
  k_here
  refine kmk_add_ints F5 N5 (News.isList N5 (.tail _ (.head _))) (News.isList N5 (.head _)) hvf (.cons _ _ .nil) ?_ ?zs
  case zs => exact Nat.le_trans (Nat.add_le_add_right hlen _) (by decide)
  intro DA wsA hA FA NA lA hIA
  clear F5 N5
  k_steps
  ktn_end (d2i _ DA W _ wsA (digF Be W ++ [0]) 0 _ pre42 ?hK ?hm hIA ?h37)
  case hK => exact tb.sub fun q hq => .tail _ (.tail _ (.tail _ hq))
  case hm => exact .head _
  case h37 => exact Nat.lt_trans hlf (lA (lf, _) (.tail _ (.head _)))
  intro r' n' h' tk' F' N' P'
  obtain ⟨tn, rfl, kp2, tb2⟩ := P'
  have hl2 := kp2 (lr, _) (.tail _ (.tail _ (.tail _ hl))) (Nat.ne_of_gt (Nat.lt_of_le_of_lt (by decide) hlr)) (Nat.ne_of_gt hlr)
  have hlf2 := kp2 (lf, _) (.tail _ (.tail _ (.head _))) (Nat.ne_of_gt (Nat.lt_of_le_of_lt (by decide) hlf)) (Nat.ne_of_gt hlf)
  clear kp2 lA hl tb
  rw [back]
  k_steps
  all_goals try exact absurd (rfl : Be = Be) (by assumption)
  unfold Halt
  (rename Fr _ _ _ _ => F5); (rename News _ _ _ _ => N5)
  k_here
  refine kmk_slice_ints F5 N5 (News.isList N5 hlf2) (IsPart.int _ _) IsPart.none hvf (kmk_from_neg hvf (by decide)) rfl ?_ (by with_unfolding_all rfl) (by intro _; with_unfolding_all rfl) (kmk_sz hvf (Nat.le_trans hlen (by decide)))
  intro DS wsS hS FS NS lS hIS hCS hLS
  clear F5 N5
  k_steps
  unfold Halt
  (rename Fr _ _ _ _ => F5); (rename News _ _ _ _ => N5)
  k_here
  refine ke_eq_ints (ys := [.int 0 _]) (News.isList N5 (.tail _ (.head _))) (News.isList N5 (.head _)) hIS (.cons _ _ .nil) ?un ?_
  case un => (dsimp only [Around.deeper, callerA]; simp only [cLine]; omega)
  rw [decide_eq_false (show ¬ (digF Be W).drop ((digF Be W).length - (-(-1 : Int)).toNat) = [0] from top)]
  k_steps
  unfold Halt
  (rename Fr _ _ _ _ => F6); (rename News _ _ _ _ => N6)
  k_here
  refine slice3_ints F6 N6 (News.isList N6 (.tail _ (.tail _ hlf2))) (IsPart.int _ _) IsPart.none (IsPart.int _ _) (by decide) hvf ?_ (by with_unfolding_all rfl) (by intro _; with_unfolding_all rfl) (kmk_sz hvf (Nat.le_trans hlen (by decide)))
  intro D1 ws1 h1 F1 N1 l1 hI1
  clear F6 N6
  k_steps
  unfold Halt
  (rename Fr _ _ _ _ => F6); (rename News _ _ _ _ => N6)
  k_here
  refine slice3_ints F6 N6 (News.isList N6 (.tail _ (.tail _ (.tail _ hlf2)))) (IsPart.int _ _) IsPart.none (IsPart.int _ _) (by decide) hvf ?_ (by with_unfolding_all rfl) (by intro _; with_unfolding_all rfl) (kmk_sz hvf (Nat.le_trans hlen (by decide)))
  intro D2 ws2 h2 F2 N2 l2 hI2
  clear F6 N6
  k_steps
  ktn_end (signT _ lr R _ vr (rowF p) er _ ?hm2 hvr hrl)
  case hm2 => exact .tail _ (.tail _ (.tail _ (.tail _ hl2)))
  intro r' n2 h' tk' F' N' P'
  obtain ⟨⟨tsg, rfl⟩, rfl⟩ := P'
  have hbsg : Builtin.Int.intBits (signF (rowF p) R) ≤ 60000000 := bitsS (by omega) (by omega)
  have hbfo : Builtin.Int.intBits (formsF p) ≤ 60000000 := bitsS (by omega) (by omega)
  k_with "bits" => first | omega | exact bitsS (by omega) (by omega)
  k_steps
  (rename Fr h₀ _ _ _ => F9); (rename News h₀ _ _ _ => N9)
  rw [show ((pickF (digF Be W) (some 0) none (some 2)).sum - (pickF (digF Be W) (some 1) none (some 2)).sum == signF (rowF p) R * (1 * 2 ^ W.toNat + 1) * formsF p) = true from by rw [alt]; exact beq_self_eq_true _]
  exact hret _ _ _ _ F9 N9 (tb2.sub fun q hq => .tail _ (.tail _ (.tail _ (.tail _ hq))))
end
section
open PySem PySem.W PyProof.Rows
set_option maxRecDepth 100000
set_option maxHeartbeats 2000000
theorem News.sub9 {h₀ h : Heap} {L : Addr} {a b c x : Addr × Obj} {rs : List (Addr × Obj)} (N : News h₀ L h (a :: b :: c :: rs)) (hx : x ∈ rs) : News h₀ L h (x :: rs) := fun q hq => by
  rcases List.mem_cons.mp hq with rfl | hq
  · exact N _ (.tail _ (.tail _ (.tail _ hx)))
  · exact N q (.tail _ (.tail _ (.tail _ hq)))
theorem cell2 {prog : Program} {w : World} {A : Around} {E : Value → Shared → Prop} {s : Shared} {h₀ : Heap} {L : Addr} {news : List (Addr × Obj)} {c0 c1 c2 c3 : Int} {t0 t1 t2 t3 u : Tok} {D : Addr} {value slice : PySem.Expr} {Q : Value → Shared → Prop}
    (N : News h₀ L s.heap news) (hm : (D, PySem.W.listOf #[.int c0 t0, .int c1 t1, .int c2 t2, .int c3 t3] 4) ∈ news) (h : ∀ t, Q (.int c2 t) s)
    (hs : subscripted slice false (.ref D) (.int 2 u) = operate [.ref D, .int 2 u] (getItem (.ref D) (.int 2 u))) :
    wpAny (model prog w) A (subscriptTail value slice (.ref D) (.int 2 u)) Q E s :=
  ksa_sub (vs := [.int c0 t0, .int c1 t1, .int c2 t2, .int c3 t3]) (ns := [c0, c1, c2, c3]) (n := 4) N hm (.cons _ _ (.cons _ _ (.cons _ _ (.cons _ _ .nil)))) (by decide) (show (2 : Int) < 4 by decide) (by decide) h hs
local macro_rules | `(tactic| walk_at "subscriptTail") => `(tactic| (k_here; k_dflt (refine' cell2 ?cN ?cM ?_ ?cS; (case cN => k_asm); (case cM => k_mem); (case cS => with_unfolding_all rfl); k_whole); intro _))
local macro_rules | `(tactic| walk_at "binaryOp FloorDiv int int") => `(tactic| (k_here; k_dflt (refine' fdR ?fb ?fr ?_; (case fb => first | assumption | omega); (case fr => exact room (by k_asm) (by k_asm) (by k_asm) (by k_asm) rfl rfl (by (dsimp only [Around.deeper, callerA, claimMargin]; omega))); k_whole)))
local macro_rules | `(tactic| walk_at "compareOp NotEq ref ref") => `(tactic| k_extra "compareOp NotEq ref ref")
local macro_rules | `(tactic| walk_at "execs cons") => `(tactic| k_extra "execs cons")
theorem lawR9 (w : World) {pp : Program} {loose : List Str} {mean : ExcName → Option Value} {mg mb : Str → Option Value} {a : Addr} {ccd : Value} {base h₀ : Heap} {L : Addr} {m0 : Str → Option Value} {s : Shared} {Q : Flow → Shared → Prop} {E : Value → Shared → Prop}
    (p W c0 c1 c2 c3 Fu Li Pe : Int) (tp tw tf tfu tli tpe t0 t1 t2 t3 : Tok) (lr D : Addr) (vr : List Value) (er : Nat) (rest : List (Addr × Obj))
    (B : Below callerA base [] h₀) (F : Fr h₀ L s.heap (fun y => if y = Str.ofString "cells" then some (.ref D) else if y = Str.ofString "prime" then some (.int p tp) else if y = Str.ofString "width" then some (.int W tw) else if y = Str.ofString "row" then some (.ref lr) else if y = Str.ofString "forms" then some (.int (formsF p) tf)
      else if y = Str.ofString "full" then some (.int Fu tfu) else if y = Str.ofString "lift" then some (.int Li tli) else if y = Str.ofString "period" then some (.int Pe tpe) else m0 y))
    (X : (Mine.hd.heap_1 w.params).In h₀) (N : News h₀ L s.heap ((lr, PySem.W.listOf vr.toArray er) :: (D, PySem.W.listOf #[.int c0 t0, .int c1 t1, .int c2 t2, .int c3 t3] 4) :: rest)) (T : Top pp loose mean mg mb h₀) (S : base.NoSeer) (C1 : CodeHd base 34 30) (C2 : CodeHd base 41 37)
    (hp : p = 11 ∨ p = 59 ∨ p = 83 ∨ p = 67) (hW1 : 1 ≤ W) (hW2 : W ≤ 212) (hW : bads p W = []) (hc2 : Builtin.Int.intBits c2 ≤ 1048583) (hvr : IntsAre vr (rowF p)) (K : Tabs rest) (hlr : @LT.lt Nat _ 37 lr) (hlD : @LT.lt Nat _ 37 D) (U : LawNum p c2 Fu Li Pe) (U2 : DigNum p W (c2.fmod p * Pe) (c2.fmod p))
    (hret : ∀ h' tk' m' news', Fr h₀ L h' m' → News h₀ L h' news' → Tabs news' → Q (.ret (.bool true)) { s with heap := h', toks := tk' }) :
    wpAny (model PySem.Challenge.rw_tl0023_01.row.prog w) (callerA.deeper (envOfC (Str.ofString "law") lawScope L a ccd)) (execs rest9 (envOfC (Str.ofString "law") lawScope L a ccd)) Q E s := by
  w_top off
  revert X
  k_fill
  intro X
  have hp0 : 1 ≤ p := by omega
  have hp1 : p ≤ 200 := by omega
  have hpne : p ≠ 0 := by omega
  have hfb := forms_b hp
  have hrl := row_len hp
  conv in rest9 => whnf
  conv in (occs := *) lawScope => all_goals whnf
  k_with_none
  k_with "call ref" => first | ((with_reducible show wpAny _ _ (call (Value.ref 56) _) _ _ _); refine halt ?_) | ((with_reducible show wpAny _ _ (call (Value.ref 35) _) _ _ _); refine halt ?_) | ((with_reducible show wpAny _ _ (call (Value.ref 42) _) _ _ _); refine halt ?_) | ((with_reducible show wpAny _ _ (call (Value.ref 165) _) _ _ _); refine halt ?_)
  obtain ⟨bFu, bLi, bPe, bp, bc2, bcp, brL, brr, lne, pre1, one, neg2, pre2, two, beh⟩ := U
  k_steps
  have K2 : Tabs ((lr, PySem.W.listOf vr.toArray er) :: (D, PySem.W.listOf #[.int c0 t0, .int c1 t1, .int c2 t2, .int c3 t3] 4) :: rest) := K.sub fun q hq => .tail _ (.tail _ hq)
  ktn_end (idm_any _ (Fu * Li) (p * Li) _ _ _ pre1 K2)
  intro r' n' h' tk' F' N' P'
  obtain ⟨tt, q, tq, r, tr, rs, rfl, rfl, kp, tb, hlt, he, hr0, hr1⟩ := P'
  obtain ⟨rfl, rfl⟩ := one q r he hr0 hr1
  have hD := kp (D, _) (.tail _ (.head _)) (Nat.ne_of_gt (Nat.lt_of_le_of_lt (by decide) hlD)) (Nat.ne_of_gt hlD)
  have hl := kp (lr, _) (.head _) (Nat.ne_of_gt (Nat.lt_of_le_of_lt (by decide) hlr)) (Nat.ne_of_gt hlr)
  clear he hr0 hr1 kp
  k_steps
  ktn_end (idm_low _ _ _ _ _ _ neg2 pre2 ?hK3)
  case hK3 => exact tb.sub fun q hq => .tail _ (.tail _ hq)
  intro r' n' h' tk' F' N' P'
  obtain ⟨tt2, q2, tq2, r2, tr2, rs2, rfl, rfl, kp2, tb2, hlt2, he2, hr20, hr21⟩ := P'
  obtain ⟨rfl, rfl⟩ := two q2 r2 he2 hr20 hr21
  replace hD := kp2 (D, _) (.tail _ (.tail _ hD)) (Nat.ne_of_gt (Nat.lt_of_le_of_lt (by decide) hlD)) (Nat.ne_of_gt hlD)
  replace hl := kp2 (lr, _) (.tail _ (.tail _ hl)) (Nat.ne_of_gt (Nat.lt_of_le_of_lt (by decide) hlr)) (Nat.ne_of_gt hlr)
  clear he2 hr20 hr21 kp2 hlt2 hlt tb
  have bX : Builtin.Int.intBits ((-(-(c2.fmod p * q * Li))).fdiv Li) ≤ 60000000 := by rw [beh]; exact brL
  k_with "compareOp NotEq ref ref" => refine halt ?_
  k_steps
  unfold Halt
  (rename Fr _ _ _ _ => F5); (rename News _ _ _ _ => N5)
  rw [beh] at F5 N5
  k_here
  refine ke_ne_ints (xs := [.int _ _, .int _ _, .int _ _]) (ys := [.int _ _, .int _ _, .int _ _]) (News.isList N5 (.tail _ (.head _))) (News.isList N5 (.head _)) (.cons _ _ (.cons _ _ (.cons _ _ .nil))) (.cons _ _ (.cons _ _ (.cons _ _ .nil))) ?un ?_
  case un => (dsimp only [Around.deeper, callerA]; simp only [cLine]; omega)
  rw [decide_eq_true rfl]
  k_with "execs cons" => refine halt ?_
  k_steps
  unfold Halt
  dsimp only
  have hN := News.sub9 N5 hl
  with_unfolding_all exact lawR14 w p W (c2.fmod p * q) (c2.fmod p) _ _ _ _ lr vr er rs2 B (fr_pin (Str.ofString "width") _ (fr_pin (Str.ofString "row") _ (fr_pin (Str.ofString "forms") _ (fr_pin (Str.ofString "rest") _ (fr_pin (Str.ofString "behind") _ F5 rfl) rfl) rfl) rfl) rfl) X hN T S C1 C2 hp hW1 hW2 hvr tb2 hlr U2 (fun h' tk' m' news' F N K => hret h' tk' m' news' F N K)
end
section
open PySem PySem.W PyProof.Rows
set_option maxRecDepth 100000
set_option maxHeartbeats 2000000
local macro_rules | `(tactic| walk_at "subscriptTail") => `(tactic| (k_here; k_dflt (refine' cell2 ?cN ?cM ?_ ?cS; (case cN => k_asm); (case cM => k_mem); (case cS => with_unfolding_all rfl); k_whole); intro _))
local macro_rules | `(tactic| walk_at "binaryOp FloorDiv int int") => `(tactic| (k_here; k_dflt (refine' fdR ?fb ?fr ?_; (case fb => first | assumption | omega); (case fr => exact room (by k_asm) (by k_asm) (by k_asm) (by k_asm) rfl rfl (by (dsimp only [Around.deeper, callerA, claimMargin]; omega))); k_whole)))
local macro_rules | `(tactic| walk_at "execs cons") => `(tactic| k_extra "execs cons")
theorem lawRest (w : World) {pp : Program} {loose : List Str} {mean : ExcName → Option Value} {mg mb : Str → Option Value} {a : Addr} {ccd : Value} {base h₀ : Heap} {L : Addr} {m0 : Str → Option Value} {s : Shared} {Q : Flow → Shared → Prop} {E : Value → Shared → Prop}
    (p W c0 c1 c2 c3 : Int) (tp tw tf t0 t1 t2 t3 : Tok) (lr D : Addr) (vr : List Value) (er : Nat) (rest : List (Addr × Obj))
    (B : Below callerA base [] h₀) (F : Fr h₀ L s.heap (fun y => if y = Str.ofString "cells" then some (.ref D) else if y = Str.ofString "prime" then some (.int p tp) else if y = Str.ofString "width" then some (.int W tw) else if y = Str.ofString "row" then some (.ref lr) else if y = Str.ofString "forms" then some (.int (formsF p) tf) else m0 y))
    (X : (Mine.hd.heap_1 w.params).In h₀) (N : News h₀ L s.heap ((lr, PySem.W.listOf vr.toArray er) :: (D, PySem.W.listOf #[.int c0 t0, .int c1 t1, .int c2 t2, .int c3 t3] 4) :: rest)) (T : Top pp loose mean mg mb h₀) (S : base.NoSeer) (C1 : CodeHd base 34 30) (C2 : CodeHd base 41 37)
    (hp : p = 11 ∨ p = 59 ∨ p = 83 ∨ p = 67) (hW1 : 1 ≤ W) (hW2 : W ≤ 212) (hW : bads p W = []) (hc2 : Builtin.Int.intBits c2 ≤ 1048583) (hvr : IntsAre vr (rowF p)) (K : Tabs rest) (hlr : @LT.lt Nat _ 37 lr) (hlD : @LT.lt Nat _ 37 D) (hli : (Builtin.Int.intBits (1 * 2 ^ (W * (p - 1)).toNat - 1) : Int) + (Builtin.Int.intBits c2 : Int) ≤ 60000000) (U : LawNum p c2 (FuF p W) (LiF p W c2) (PeF p W)) (U2 : DigNum p W (c2.fmod p * PeF p W) (c2.fmod p))
    (hret : ∀ h' tk' m' news', Fr h₀ L h' m' → News h₀ L h' news' → Tabs news' → Q (.ret (.bool true)) { s with heap := h', toks := tk' }) :
    wpAny (model PySem.Challenge.rw_tl0023_01.row.prog w) (callerA.deeper (envOfC (Str.ofString "law") lawScope L a ccd)) (execs rest6 (envOfC (Str.ofString "law") lawScope L a ccd)) Q E s := by
  w_top off
  revert X
  k_fill
  intro X
  have hp0 : 1 ≤ p := by omega
  have hp1 : p ≤ 200 := by omega
  have hpne : p ≠ 0 := by omega
  have hfb := forms_b hp
  have hrl := row_len hp
  have hn : 1 ≤ W * (p - 1) ∧ W * (p - 1) ≤ 20000 := by rcases hp with rfl | rfl | rfl | rfl <;> omega
  obtain ⟨hn1, hn2⟩ := hn
  conv in rest6 => whnf
  conv in (occs := *) lawScope => all_goals whnf
  k_with_none
  k_with "call ref" => first | ((with_reducible show wpAny _ _ (call (Value.ref 56) _) _ _ _); refine halt ?_) | ((with_reducible show wpAny _ _ (call (Value.ref 35) _) _ _ _); refine halt ?_) | ((with_reducible show wpAny _ _ (call (Value.ref 42) _) _ _ _); refine halt ?_) | ((with_reducible show wpAny _ _ (call (Value.ref 165) _) _ _ _); refine halt ?_)
  k_with "execs cons" => ((with_reducible show wpAny _ _ (execs (Stmt.If _ _ _ _ :: _) _) _ _ _); refine halt ?_)
  k_with "bits" => first | omega | exact bitsS (by omega) (by omega)
  k_steps
  unfold Halt
  try dsimp only
  (rename Fr _ _ _ _ => F5); (rename News _ _ _ _ => N5)
  with_unfolding_all exact lawR9 w p W c0 c1 c2 c3 (FuF p W) (LiF p W c2) (PeF p W) _ _ _ _ _ _ _ _ _ _ lr D vr er rest B (fr_pin (Str.ofString "cells") _ (fr_pin (Str.ofString "prime") _ (fr_pin (Str.ofString "width") _ (fr_pin (Str.ofString "row") _ (fr_pin (Str.ofString "forms") _ (fr_pin (Str.ofString "full") _ (fr_pin (Str.ofString "lift") _ (fr_pin (Str.ofString "period") _ F5 rfl) rfl) rfl) rfl) rfl) rfl) rfl) rfl) X N5 T S C1 C2 hp hW1 hW2 hW hc2 hvr K hlr hlD U U2 (fun h' tk' m' news' F N K => hret h' tk' m' news' F N K)
end
section
open PySem PySem.W PyProof.Rows
set_option maxRecDepth 100000
set_option maxHeartbeats 1000000
local macro_rules | `(tactic| walk_at "exec Assign cons ListComp") => `(tactic| k_extra "exec Assign cons ListComp")
local macro_rules | `(tactic| walk_at "call type:enumerate") => `(tactic| k_extra "call type:enumerate")
local macro_rules | `(tactic| walk_at "subscriptTail Name Slice ref ref") => `(tactic| k_extra "subscriptTail Name Slice ref ref")
local macro_rules | `(tactic| walk_at "subscriptTail") => `(tactic| k_extra "subscriptTail")
local macro_rules | `(tactic| walk_at "Exists") => `(tactic| k_extra "Exists")
theorem menu (c : Int) : ∃ p, (p = 11 ∨ p = 59 ∨ p = 83 ∨ p = 67) ∧ ([11, 59, 83, 67] : List Int).getD (c.fmod 4).toNat 0 = p := by
  have h1 := Int.fmod_nonneg_of_pos c (show (0:Int) < 4 by decide)
  have h2 := Int.fmod_lt_of_pos c (show (0:Int) < 4 by decide)
  have h3 : (c.fmod 4).toNat = 0 ∨ (c.fmod 4).toNat = 1 ∨ (c.fmod 4).toNat = 2 ∨ (c.fmod 4).toNat = 3 := by omega
  rcases h3 with h | h | h | h <;> rw [h] <;> exact ⟨_, by decide, rfl⟩
local macro_rules | `(tactic| walk_at "execs cons") => `(tactic| k_extra "execs cons")
theorem tab_grown {P : Addr} {ln cl : Nat} {q : Str} {news : List (Addr × Obj)} {h₀ h : Heap} {L : Addr} (K : TabOK P ln cl q news) (N : News h₀ L h news) : GrownAt P h := by
  rcases K with K | ⟨_, _, _, _, K, _⟩
  · exact GrownAt.of N K
  · exact GrownAt.of N K
theorem cell_is {o : Obj} {v : Value} (h : o.data = Data.cell (some v)) : o.data = Data.cell (some v) := h
theorem lawT : PySem.Challenge.rw_tl0023_01.Holds := Mine.hd (by w_strict (
  k_go0
  (all_goals try k_fold)
  k_with_none
  k_with "exec Assign cons ListComp" => refine halt ?_
  k_with "call type:enumerate" => refine halt ?_
  k_with "subscriptTail" => ((with_reducible show wpAny _ _ (subscriptTail (Expr.List _ _) _ (Value.ref _) (Value.int _ _)) _ _ _); refine halt ?_)
  k_with "call ref" => first | ((with_reducible show wpAny _ _ (call (Value.ref 151) _) _ _ _); refine halt ?_) | ((with_reducible show wpAny _ _ (call (Value.ref 158) _) _ _ _); refine halt ?_) | ((with_reducible show wpAny _ _ (call (Value.ref 146) _) _ _ _); refine halt ?_) | ((with_reducible show wpAny _ _ (call (Value.ref 172) _) _ _ _); refine halt ?_) | ((with_reducible show wpAny _ _ (call (Value.ref 165) _) _ _ _); refine halt ?_) | ((with_reducible show wpAny _ _ (call (Value.ref 56) _) _ _ _); refine halt ?_) | ((with_reducible show wpAny _ _ (call (Value.ref 35) _) _ _ _); refine halt ?_) | ((with_reducible show wpAny _ _ (call (Value.ref 42) _) _ _ _); refine halt ?_)
  k_with "subscriptTail Name Slice ref ref" => refine halt ?_
  k_steps
  unfold Halt
  rename IntsAre _ _ => hI
  rename Top Mine.view _ _ _ _ _ => T0
  rename (PyData.list _).layable0 = true => hlay
  rename TabsAt _ _ => hT9
  have hS := ghost_seer hT9 (T0.seer (by decide +kernel))
  rename _ = Data.cell _ => hcell
  (rename Fr _ _ _ _ => F0); (rename News _ _ _ _ => N0)
  refine enum_Assign F0 (by rfl) (by with_unfolding_all rfl) (by with_unfolding_all rfl) (by decide) (by rfl) (by decide) (by rfl) (by rfl) (by decide) (by rfl) (by rfl) ?_
  with_unfolding_all (have hcell2 := @cell_is _ (.ref _) hcell)
  clear hcell
  k_steps
  unfold Halt
  (rename Fr _ _ _ _ => F1); (rename News _ _ _ _ => N1)
  refine enum_src (fun i ys => ∃ ns, IntsAre ys ns ∧ ns.length = i ∧ ∀ x ∈ ns, Builtin.Int.intBits x ≤ 1048583) (by rfl) F1 N1 (.head _) (by rfl) (by rfl) (Nat.le_of_ble_eq_true rfl) ⟨[], .nil, rfl, fun _ h => nomatch h⟩ ?turn ?fin
  case turn =>
    rintro e it g i v₂ ys t oE oI C oC D m₂ hh tkk E' hit ⟨ns, hns, hlen, hbits⟩ hC hma hmb F2 N2
    obtain ⟨b0, tb, rfl, hb⟩ := ints_get (ns := [0, 0, -4, 1]) (.cons _ _ (.cons _ _ (.cons _ _ (.cons _ _ .nil)))) (by simpa using hit)
    have hb2 : Builtin.Int.intBits b0 ≤ 1048582 := by
      have := List.mem_of_getElem? hb
      simp at this
      rcases this with rfl | rfl | rfl <;> decide
    k_steps
    unfold Halt
    k_here
    refine slice3_ints F2 N2 (Fr.lst F2 (by assumption)) (IsPart.int _ _) IsPart.none (IsPart.int _ _) (by decide) hI ?_ (by with_unfolding_all rfl) (by intro _; with_unfolding_all rfl) (by rw [List.size_toArray, hI.length]; exact Nat.le_trans (show _ ≤ 63 by omega) (by decide))
    intro DD ws h' F' N' l1 hpk
    k_with "Exists" => refine halt ?_
    k_steps
    k_with "Exists" => fail
    unfold Halt
    (rename Fr _ _ _ _ => F3); (rename News _ _ _ _ => N3)
    refine ⟨_, _, rfl, F3, fun q hq => N3 q (.tail _ hq), ns ++ [_], IntsAre.append hns (.cons _ _ .nil), by rw [List.length_append, hlen]; rfl, ?_⟩
    intro x hx
    rcases List.mem_append.mp hx with hx | hx
    · exact hbits x hx
    · obtain rfl := List.mem_singleton.mp hx
      exact bits_add hb2 (bits_sum (n := 1048576) (fun y hy => PyData.bits_item_of_ints hlay (pick_mem hy)) (Nat.le_trans (pick_len hI _ _ _) (by omega)))
  case fin =>
    rintro g ys ⟨ns, hns, hlen, hbits⟩ D hD tkD FD ND oD
    obtain ⟨c0, c1, c2, c3, rfl⟩ : ∃ c0 c1 c2 c3, ns = [c0, c1, c2, c3] := by
      match ns, hlen with
      | [a, b, c, d], _ => exact ⟨a, b, c, d, rfl⟩
    obtain ⟨t0, t1, t2, t3, rfl⟩ : ∃ t0 t1 t2 t3, ys = [.int c0 t0, .int c1 t1, .int c2 t2, .int c3 t3] := by
      cases hns with | cons _ t0 h => cases h with | cons _ t1 h => cases h with | cons _ t2 h => cases h with | cons _ t3 h => cases h with | nil => exact ⟨t0, t1, t2, t3, rfl⟩
    have hb2 : Builtin.Int.intBits c2 ≤ 1048583 := hbits c2 (by simp)
    clear hbits hlen F1 N1
    dsimp only
    k_steps
    unfold Halt
    (rename News _ _ _ _ => N1)
    k_here
    refine ksa_sub (ns := [11, 59, 83, 67]) (k := c0.fmod 4) N1 (.head _) (.cons _ _ (.cons _ _ (.cons _ _ (.cons _ _ .nil)))) (Int.fmod_nonneg_of_pos _ (by decide)) (Int.fmod_lt_of_pos _ (by decide)) (Int.lt_trans (Int.fmod_lt_of_pos _ (by decide)) (by decide)) (fun tp => ?_) (by with_unfolding_all rfl)
    obtain ⟨p, hp, hpe⟩ : ∃ p, (p = 11 ∨ p = 59 ∨ p = 83 ∨ p = 67) ∧ ([11, 59, 83, 67] : List Int).getD (c0.fmod 4).toNat 0 = p := menu c0
    rw [hpe]
    clear hpe
    have hp0 : 1 ≤ p := by omega
    have hp1 : p ≤ 200 := by omega
    have hpne : p ≠ 0 := by omega
    k_steps
    have hw1 : 1 ≤ 1 + c1.fmod 200 := by have := Int.fmod_nonneg_of_pos c1 (show (0:Int) < 200 by decide); omega
    have hw2 : 1 + c1.fmod 200 ≤ 200 := by have := Int.fmod_lt_of_pos c1 (show (0:Int) < 200 by decide); omega
    obtain ⟨hwa, hwb, hwc⟩ := wid_spec p 12 (1 + c1.fmod 200)
    ktn_end (widthT _ (1 + c1.fmod 200) (widF p 12 (1 + c1.fmod 200)) p _ _ _ hw1 hwa (by omega) hp0 hp1 (wid_ok hp hw1 hw2) hwc)
    intro r' n' h' tk' F' N' P'
    obtain ⟨⟨tw, rfl⟩, rfl⟩ := P'
    have hW : bads p (widF p 12 (1 + c1.fmod 200)) = [] := wid_ok hp hw1 hw2
    obtain ⟨W, hWe, hW1, hW2⟩ : ∃ W, widF p 12 (1 + c1.fmod 200) = W ∧ 1 ≤ W ∧ W ≤ 212 := ⟨_, rfl, by omega, by omega⟩
    rw [hWe] at hW ⊢
    clear hWe hwa hwb hwc hw1 hw2
    k_steps
    ktn_end (rowT _ p _ _ hp0 hp1)
    intro r' n' h' tk' F' N' P'
    obtain ⟨lr, vr, er, rfl, hvr, rfl, hltr⟩ := P'
    k_steps
    ktn_end (formsT _ p _ _ hp0 hp1)
    intro r' n' h' tk' F' N' P'
    obtain ⟨⟨tf, rfl⟩, rfl⟩ := P'
    k_with "pyIter ref" => refine halt ?_
    k_with "InvEndN" => refine halt ?_
    k_steps
    unfold Halt
    (rename Fr _ _ _ _ => lF'); (rename News _ _ _ _ => lN'); (rename IsRange _ _ _ _ _ _ _ _ => rgX)
    obtain ⟨q, hq, hq0, hq1⟩ : ∃ q, ([c0, c1, c2, c3].getD (Int.toNat 3) 0).fmod 8 = q ∧ 0 ≤ q ∧ q < 8 := ⟨_, rfl, Int.fmod_nonneg_of_pos _ (by decide), Int.fmod_lt_of_pos _ (by decide)⟩
    rw [hq] at rgX
    clear hq
    have hfb := forms_b hp
    have hrl := row_len hp
    with_unfolding_all refine kst_range (σ := Unit) (fun c => _) (fun c => []) (fun c => True) [] (fun pre c => True) () (by rfl) rgX (small_one (by omega) (by omega) (by omega) (by omega)) (rangeSize_nat _ _) lF' lN' trivial (fun _ h => nomatch h) trivial ?turn ?done
    case turn =>
      rintro c pre k t u h tk own hk hlt hoff hint hP1 F1 N1
      dsimp only at *
      have hsb := sign_b (x := k) hp (by omega) (by omega)
      have hso := sur_ok (x := k) hp (by omega) (by omega)
      k_steps
      ktn_end (surT _ k p _ _ lr vr _ er _ (.head _) hvr hrl (by omega) (by omega) hp0 hp1)
      intro r' n' h' tk' F' N' P'
      obtain ⟨⟨ts, rfl⟩, rfl⟩ := P'
      k_steps
      ktn_end (signT _ lr k _ vr _ er _ (.head _) hvr hrl)
      intro r' n' h' tk' F' N' P'
      obtain ⟨⟨tg, rfl⟩, rfl⟩ := P'
      k_steps
      all_goals first
        | exact absurd hso (by assumption)
        | (unfold Halt; refine InvEndN.intro (by assumption) (by assumption) ⟨(), rfl, trivial, (fun _ h => nomatch h), ?same, trivial⟩ rfl ?sub ?own)
      case same => intro z h1 h2 h3; simp [h1, kstB]
      case sub => exact fun q hq => List.mem_append.mpr (.inl hq)
      case own => exact fun q hq => .tail _ (List.mem_append.mpr (.inr hq))
    case done =>
      rintro c u h tk hint hP1 F1 N1
      dsimp only at *
      k_with "execs cons" => refine halt ?_
      k_steps
      unfold Halt
      try dsimp only
      (rename Fr _ _ _ _ => F5); (rename News _ _ _ _ => N5)
      with_unfolding_all refine lawRest _ p W c0 c1 c2 c3 _ _ _ t0 t1 t2 t3 lr D vr er [(37, tabObj #[]), (30, tabObj #[])] (by k_asm) (fr_pin (Str.ofString "cells") _ (fr_pin (Str.ofString "prime") _ (fr_pin (Str.ofString "width") _ (fr_pin (Str.ofString "row") _ (fr_pin (Str.ofString "forms") _ F5 rfl) rfl) rfl) rfl) rfl) (by k_asm) ?kN (by k_asm) (by k_asm) (by k_asm) (by k_asm) hp hW1 hW2 hW hb2 hvr ?kK ?kl ?kD (law_li hp hW1 hW2 hb2) (law_num hp hW1 hW2 hb2) (dig_num hp hW1 hW2 hW) ?hret
      case kN =>
        intro q hq
        rcases List.mem_cons.mp hq with rfl | hq
        · exact N5 _ (.head _)
        · rcases List.mem_cons.mp hq with rfl | hq
          · exact N5 _ (.tail _ (.tail _ (.head _)))
          · exact N5 q (.tail _ (.tail _ (.tail _ (.tail _ (.tail _ hq)))))
      case kK => exact ⟨.inl (.tail _ (.head _)), .inl (.head _)⟩
      case kD => exact oD (37, _) (.tail _ (.tail _ (.head _)))
      case kl => exact Nat.lt_trans (oD (37, _) (.tail _ (.tail _ (.head _)))) hltr.2.1
      case hret =>
        intro h' tk' m' news' FZ NZ KZ
        refine And.intro ?good ⟨tab_grown KZ.2 NZ, tab_grown KZ.1 NZ, trivial⟩
        k_steps))
end
end
end Mine
theorem PySem.Challenge.cw_tl0023_01_holds : PySem.Challenge.rw_tl0023_01.Holds := by
  exact Mine.lawT
