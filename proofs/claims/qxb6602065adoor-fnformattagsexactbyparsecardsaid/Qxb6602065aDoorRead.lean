/-
  SEAT b6602065aD: readQuotedDecimalB1 (11): at a place where a numeral in double quotes stands it reads that number.
-/
import Derived.Test.Qxb6602065aDoorTags
import Derived.PlainAid
namespace Go.Proofs.Qxb6602065aDoor
open Go.ChangeShapes Go.WideShapes Go.ChangeAt Go.RowKit Go.Sort
open Go.PlainAid (bt get_bt bt_nonneg bt_le)
set_option linter.unusedVariables false

/-- The first j of u's D digits, as a number; the digit behind them. -/
def vj (u D j : Nat) : Nat := u / 10 ^ (D - j)
def dj (u D j : Nat) : Nat := u / 10 ^ (D - 1 - j) % 10

theorem vj_zero {u D : Nat} (h : u < 10 ^ D) : vj u D 0 = 0 := by unfold vj; rw [Nat.sub_zero]; exact Nat.div_eq_of_lt h
theorem vj_end (u D : Nat) : vj u D D = u := by unfold vj; rw [Nat.sub_self]; simp
theorem vj_succ {u D j : Nat} (h : j < D) : vj u D (j + 1) = vj u D j * 10 + dj u D j := by
  unfold vj dj
  have e : D - j = (D - 1 - j) + 1 := by omega
  have e2 : D - (j + 1) = D - 1 - j := by omega
  rw [e, e2, Nat.pow_succ, ← Nat.div_div_eq_div_mul]
  omega
theorem vj_le (u D j : Nat) : vj u D j ≤ u := by unfold vj; exact Nat.div_le_self _ _
theorem dj_lt (u D j : Nat) : dj u D j < 10 := by unfold dj; exact Nat.mod_lt _ (by omega)

/-- The leading digit of a numeral of more than one digit is not 0. -/
theorem lead {u : Nat} (h : 1 < Lib.nDigits u) : dj u (Lib.nDigits u) 0 ≠ 0 := by
  have hb : ∀ n u : Nat, Lib.nDigits u = n + 2 → 10 ^ (n + 1) ≤ u := by
    intro n
    induction n with
    | zero =>
      intro u hu
      by_cases h10 : u < 10
      · rw [Lib.nDigits_small h10] at hu; omega
      · omega
    | succ n ih =>
      intro u hu
      by_cases h10 : u < 10
      · rw [Lib.nDigits_small h10] at hu; omega
      · rw [Lib.nDigits_big h10] at hu
        have := ih (u / 10) (by omega)
        rw [Nat.pow_succ]
        omega
  obtain ⟨n, hn⟩ : ∃ n, Lib.nDigits u = n + 2 := ⟨Lib.nDigits u - 2, by omega⟩
  have h1 := hb n u hn
  have h2 := Lib.lt_pow_nDigits u
  rw [hn] at h2 ⊢
  unfold dj
  have e : n + 2 - 1 - 0 = n + 1 := by omega
  rw [e]
  have h3 : 1 ≤ u / 10 ^ (n + 1) := (Nat.le_div_iff_mul_le (Nat.pow_pos (by omega))).2 (by omega)
  have h4 : u / 10 ^ (n + 1) < 10 := (Nat.div_lt_iff_lt_mul (Nat.pow_pos (by omega))).2 (by rw [Nat.pow_succ, Nat.mul_comm] at h2; exact h2)
  omega

theorem ret3 {a b i j : Int} (h1 : a = b) (h2 : i = j) : Ending.returned (.tuple #[.int .u64 a, .int .i64 i, .bool true]) = .returned (.tuple #[.int .u64 b, .int .i64 j, .bool true]) := by rw [h1, h2]

set_option maxHeartbeats 2000000 in
set_option maxRecDepth 100000 in
theorem read_any (s : ByteArray) (p u D : Nat) (w : World) (hu : u < 18446744073709551616) (hD : D = Lib.nDigits u) (hsz : p + D + 2 ≤ s.size) (hs : s.size ≤ 1099511627776)
    (hq0 : bt s p = 34) (hd : ∀ t, t < D → bt s (p + 1 + t) = 48 + (dj u D t : Int)) (hq1 : bt s (p + 1 + D) = 34) :
    Calls Tryd.prog 11 #[.string s, .int .i64 p] w fun e w' => e = .returned (.tuple #[.int .u64 u, .int .i64 ((p : Int) + D + 2), .bool true]) ∧ w' = w := by
  have hb := get_bt s
  have hD1 : 1 ≤ D := by rw [hD]; exact Lib.nDigits_pos u
  have hu10 : Hid (u < 10 ^ D) := by rw [hD]; exact Lib.lt_pow_nDigits u
  have HLEAD : Hid (1 < D → dj u D 0 ≠ 0) := by rw [hD]; exact lead
  have HD := hide hD
  have HDG := hide hd
  clear hD hd
  have i1 : (p : Int) < (s.size : Int) := by omega
  have d1 : decide ((p : Int) < 0) = false := decide_eq_false (by omega)
  have d2 : decide ((s.size : Int) ≤ (p : Int)) = false := decide_eq_false (by omega)
  have d2' : decide (s.size ≤ p) = false := decide_eq_false (by omega)
  have n1 : p < s.size := by omega
  go_enter Tryd.func11, Tryd.ntmps11
  go_wp2
  go_loop [7, 9] (fun i v => ∃ (m : Nat) (a : Int), p + 1 ≤ m ∧ m ≤ p + 1 + D ∧ i = .int .i64 m ∧ v = .int .u64 a ∧ a = ((vj u D (m - (p + 1)) : Nat) : Int)) (fun i _ => s.size - (intOf i).toNat)
  case atStart => exact ⟨p + 1, 0, Nat.le_refl _, by omega, by go_num, rfl, by rw [Nat.sub_self, vj_zero (unhide hu10)]; rfl⟩
  case round =>
    obtain ⟨m, a, hm1, hm2, rfl, rfl, ha⟩ := hrel
    have im : (m : Int) < (s.size : Int) := by omega
    have nm : m < s.size := by omega
    by_cases hlt : m < p + 1 + D
    · obtain ⟨c, hc1, hc2, hbm, a0, amax, anot, S⟩ : ∃ c : Int, 48 ≤ c ∧ c ≤ 57 ∧ bt s m = c ∧ 0 ≤ a ∧ a * 10 + (c - 48) ≤ 18446744073709551615 ∧ ¬ ((18446744073709551615 - (c - 48)) / 10 < a) ∧ Hid (a * 10 + (c - 48) = ((vj u D (m + 1 - (p + 1)) : Nat) : Int)) := by
        obtain ⟨t, ht⟩ : ∃ t, t = m - (p + 1) := ⟨_, rfl⟩
        have htD : t < D := by omega
        have hbm := unhide HDG t htD
        rw [show p + 1 + t = m by omega] at hbm
        have hsucc := vj_succ (u := u) htD
        have hle2 := vj_le u D (t + 1)
        have hd9 := dj_lt u D t
        rw [← ht] at ha
        have e : m + 1 - (p + 1) = t + 1 := by omega
        refine ⟨48 + (dj u D t : Int), by omega, by omega, hbm, by omega, by omega, by omega, ?_⟩
        show _ = _
        rw [e]
        omega
      clear ha hu
      go_wp2
      go_round
      case rel => exact ⟨m + 1, a * 10 + (c - 48), by omega, by omega, by go_num, by go_num, unhide S⟩
      case measure => simp [intOf]; omega
    · have hm : m = p + 1 + D := by omega
      have hbm : bt s m = 34 := by rw [hm]; exact hq1
      have HA : Hid (a = (u : Int)) := by
        have e : m - (p + 1) = D := by omega
        rw [e, vj_end] at ha
        exact ha
      have hf0 := unhide HDG 0 (by omega)
      have hd9 := dj_lt u D 0
      have hlead := unhide HLEAD
      obtain ⟨c, hc1, hc2, hb1, hL⟩ : ∃ c : Int, 48 ≤ c ∧ c ≤ 57 ∧ bt s (p + 1) = c ∧ (1 < D → (c == 48) = false) := by
        refine ⟨48 + (dj u D 0 : Int), by omega, by omega, by simpa using hf0, fun h => ?_⟩
        have := hlead h
        rw [beq_eq_false_iff_ne]
        omega
      clear ha hf0 hlead hu
      have np : p + 1 < s.size := by omega
      have ip : (p : Int) + 1 < (s.size : Int) := by omega
      have e1 : ((m : Int) == (p : Int) + 1) = false := by simp; omega
      have e2 : decide ((s.size : Int) ≤ (m : Int)) = false := decide_eq_false (by omega)
      have e2' : decide (s.size ≤ m) = false := decide_eq_false (by omega)
      have HM := hide hm
      have HL := hide hL
      clear hm hL
      by_cases hD2 : 1 < D
      · have hcl := unhide HL hD2
        go_wp2
        go_ret3
        exact ⟨ret3 (unhide HA) (by have := unhide HM; omega), rfl⟩
      · have hmp : (m : Int) - ((p : Int) + 1) ≤ 1 := by have := unhide HM; omega
        by_cases h48 : c = 48
        · subst h48
          go_wp2
          go_ret3
          exact ⟨ret3 (unhide HA) (by have := unhide HM; omega), rfl⟩
        · have hcl : (c == 48) = false := by simp [h48]
          go_wp2
          go_ret3
          exact ⟨ret3 (unhide HA) (by have := unhide HM; omega), rfl⟩
end Go.Proofs.Qxb6602065aDoor
