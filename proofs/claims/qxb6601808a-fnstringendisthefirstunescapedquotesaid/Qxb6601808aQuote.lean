/-
  SEAT b6601808a: the contracts of sjClosingQuote (15), stringEnd (23), ZZstringEnd (16), and the plain law between them.
-/
import Derived.Test.Qxb6601808aParts
namespace Go.Proofs.Qxb6601808a
open Go.ChangeShapes Go.WideShapes Go.ChangeAt Go.RowKit
set_option linter.unusedVariables false

/-- How many backslashes stand right before place q, none counted ahead of place p. -/
def slashes (zs : List Int) (p : Nat) : Nat → Nat
  | 0 => 0
  | q + 1 => if p ≤ q ∧ zs.getD q 0 = 92 then slashes zs p q + 1 else 0

theorem slashes_yes {zs : List Int} {p q : Nat} (h : p ≤ q) (hz : zs.getD q 0 = 92) : slashes zs p (q + 1) = slashes zs p q + 1 := by
  show (if p ≤ q ∧ zs.getD q 0 = 92 then slashes zs p q + 1 else 0) = _
  rw [if_pos ⟨h, hz⟩]
theorem slashes_no {zs : List Int} {p q : Nat} (hz : zs.getD q 0 ≠ 92) : slashes zs p (q + 1) = 0 := by
  show (if p ≤ q ∧ zs.getD q 0 = 92 then slashes zs p q + 1 else 0) = _
  rw [if_neg (fun h => hz h.2)]
theorem slashes_at (zs : List Int) (p : Nat) : slashes zs p p = 0 := by
  cases p with
  | zero => rfl
  | succ p =>
    show (if p + 1 ≤ p ∧ zs.getD p 0 = 92 then slashes zs (p + 1) p + 1 else 0) = 0
    rw [if_neg (by omega)]

/-- Counted backwards from q down to m. -/
theorem slashes_count (zs : List Int) (p m : Nat) (hpm : p ≤ m) (hend : m = p ∨ zs.getD (m - 1) 0 ≠ 92) :
    ∀ t, (∀ j, m ≤ j → j < m + t → zs.getD j 0 = 92) → slashes zs p (m + t) = t := by
  intro t
  induction t with
  | zero =>
    intro _
    rcases hend with rfl | h
    · exact slashes_at zs m
    · cases m with
      | zero => rfl
      | succ m => exact slashes_no h
  | succ t ih =>
    intro h
    rw [← Nat.add_assoc, slashes_yes (by omega) (h (m + t) (by omega) (by omega)), ih (fun j h1 h2 => h j h1 (by omega))]

/-- Place q is the first quote from p on that an even run of backslashes precedes. -/
def Closes (zs : List Int) (p j : Nat) : Prop := zs.getD j 0 = 34 ∧ slashes zs p j % 2 = 0
def FirstClose (zs : List Int) (n p q : Nat) : Prop := p ≤ q ∧ q < n ∧ Closes zs p q ∧ ∀ j, p ≤ j → j < q → ¬ Closes zs p j

theorem str_step_quote {zs : List Int} {n p q i : Nat} (h : FirstClose zs n p q) (h1 : p ≤ i) (h2 : i ≤ q) (h3 : slashes zs p i % 2 = 0) (hz : zs.getD i 0 = 34) : i = q := by
  obtain ⟨a, b, c, d⟩ := h
  by_cases e : i = q
  · exact e
  · exact absurd ⟨hz, h3⟩ (d i h1 (by omega))
theorem str_step_slash {zs : List Int} {n p q i : Nat} (h : FirstClose zs n p q) (h1 : p ≤ i) (h2 : i ≤ q) (h3 : slashes zs p i % 2 = 0) (hz : zs.getD i 0 = 92) :
    i + 2 ≤ q ∧ slashes zs p (i + 2) % 2 = 0 := by
  obtain ⟨a, b, ⟨c1, c2⟩, d⟩ := h
  have e1 := slashes_yes h1 hz
  have ne1 : i ≠ q := by intro e; subst e; rw [hz] at c1; exact absurd c1 (by decide)
  have ne2 : i + 1 ≠ q := by intro e; rw [← e, e1] at c2; omega
  refine ⟨by omega, ?_⟩
  by_cases h92 : zs.getD (i + 1) 0 = 92
  · rw [show i + 2 = (i + 1) + 1 from rfl, slashes_yes (by omega) h92, e1]; omega
  · rw [show i + 2 = (i + 1) + 1 from rfl, slashes_no h92]
theorem str_step_other {zs : List Int} {n p q i : Nat} (h : FirstClose zs n p q) (h1 : p ≤ i) (h2 : i ≤ q) (hq : zs.getD i 0 ≠ 34) (hz : zs.getD i 0 ≠ 92) :
    i + 1 ≤ q ∧ slashes zs p (i + 1) % 2 = 0 := by
  obtain ⟨a, b, ⟨c1, c2⟩, d⟩ := h
  have ne1 : i ≠ q := by intro e; subst e; exact hq c1
  exact ⟨by omega, by rw [slashes_no hz]⟩

set_option maxHeartbeats 1000000 in
/-- stringEnd, where a closing quote stands: one past the first. -/
theorem strEnd_any (b off n c : Nat) (zs : List Int) (p q : Nat) (w : World) (hn : n ≤ 1048576)
    (hcell : ∀ k, k < n → w.cell? ⟨b, off + k, none⟩ = some (.int .u8 (zs.getD k 0))) (hF : FirstClose zs n p q) :
    Calls Try.prog 23 #[.slice (some ⟨b, off, none⟩) n c, .int .i64 ((p : Int) - 1)] w fun e w' => e = .returned (.int .i64 ((q : Int) + 1)) ∧ w' = w := by
  have HC := hide hcell
  have HF := hide hF
  have hpq : p ≤ q := hF.1
  have hqn : q < n := hF.2.1
  clear hcell hF
  go_enter Try.func23, Try.ntmps23
  go_wp2
  go_loop [5] (fun v => ∃ i : Nat, p ≤ i ∧ i ≤ q ∧ v = .int .i64 i ∧ slashes zs p i % 2 = 0) (fun v => q - (intOf v).toNat)
  case atStart => exact ⟨p, Nat.le_refl _, hpq, by go_num, by rw [slashes_at]⟩
  case round =>
    obtain ⟨i, hpi, hiq, rfl, hev⟩ := hrel
    have HEV := hide hev
    clear hev
    have hci := unhide HC i (by omega)
    obtain ⟨z, hz⟩ : ∃ z, z = zs.getD i 0 := ⟨_, rfl⟩
    rw [← hz] at hci
    have HZ := hide hz
    clear hz
    have hin : (i : Int) < (n : Int) := by omega
    by_cases h34 : z = 34
    · have e := str_step_quote (unhide HF) hpi hiq (unhide HEV) (by rw [← unhide HZ]; exact h34)
      subst h34
      subst e
      go_wp2
      go_ret
      exact ⟨rfl, rfl⟩
    · have d34 : (z == 34) = false := by simp [h34]
      by_cases h92 : z = 92
      · have S := hide (str_step_slash (unhide HF) hpi hiq (unhide HEV) (by rw [← unhide HZ]; exact h92))
        subst h92
        go_wp2
        go_round
        case rel => exact ⟨i + 2, by omega, (unhide S).1, by go_num, (unhide S).2⟩
        case measure => have := (unhide S).1; simp [intOf]; omega
      · have d92 : (z == 92) = false := by simp [h92]
        have S := hide (str_step_other (unhide HF) hpi hiq (by rw [← unhide HZ]; exact h34) (by rw [← unhide HZ]; exact h92))
        go_wp2
        go_round
        case rel => exact ⟨i + 1, by omega, (unhide S).1, by go_num, (unhide S).2⟩
        case measure => have := (unhide S).1; simp [intOf]; omega

theorem zzStrEnd_any (b off n c : Nat) (zs : List Int) (p q : Nat) (w : World) (hn : n ≤ 1048576)
    (hcell : ∀ k, k < n → w.cell? ⟨b, off + k, none⟩ = some (.int .u8 (zs.getD k 0))) (hF : FirstClose zs n p q) :
    Calls Try.prog 16 #[.slice (some ⟨b, off, none⟩) n c, .int .i64 ((p : Int) - 1)] w fun e w' => e = .returned (.int .i64 ((q : Int) + 1)) ∧ w' = w := by
  have HC := hide hcell
  have HF := hide hF
  clear hcell hF
  go_enter Try.func16, Try.ntmps16
  go_wp2_with fail
  refine (strEnd_any b off n c zs p q w hn (unhide HC) (unhide HF)).mono ?_
  rintro e w' ⟨rfl, rfl⟩
  go_wp2
  go_ret
  exact ⟨rfl, rfl⟩

set_option maxHeartbeats 2000000 in
/-- sjClosingQuote: the first closing quote, or none. -/
theorem closing_any (b off n c : Nat) (zs : List Int) (p : Nat) (w : World) (hn : n ≤ 1048576) (hp : p ≤ n)
    (hcell : ∀ k, k < n → w.cell? ⟨b, off + k, none⟩ = some (.int .u8 (zs.getD k 0))) :
    Calls Try.prog 15 #[.slice (some ⟨b, off, none⟩) n c, .int .i64 ((p : Int) - 1)] w fun e w' =>
      ((∃ q : Nat, e = .returned (.tuple #[.int .i64 q, .bool true]) ∧ FirstClose zs n p q) ∨ e = .returned (.tuple #[.int .i64 0, .bool false])) ∧ w' = w := by
  have HC := hide hcell
  clear hcell
  go_enter Try.func15, Try.ntmps15
  go_wp2
  go_loop [6] (fun v => ∃ q : Nat, p ≤ q ∧ q ≤ n ∧ v = .int .i64 q ∧ (∀ j, p ≤ j → j < q → ¬ Closes zs p j)) (fun v => n - (intOf v).toNat)
  case atStart => exact ⟨p, Nat.le_refl _, hp, by go_num, fun j h1 h2 => by omega⟩
  case round =>
    obtain ⟨q, hpq, hqn, rfl, hno⟩ := hrel
    have HNO := hide hno
    clear hno
    by_cases hlt : q < n
    · have hci := unhide HC q hlt
      obtain ⟨z, hz⟩ : ∃ z, z = zs.getD q 0 := ⟨_, rfl⟩
      rw [← hz] at hci
      have HZ := hide hz
      clear hz
      have hin : (q : Int) < (n : Int) := by omega
      by_cases h34 : z = 34
      · subst h34
        go_wp2
        go_loop [7, 8] (fun r k => ∃ m t : Nat, p ≤ m ∧ m + t = q ∧ r = .int .i64 t ∧ k = .int .i64 ((m : Int) - 1) ∧ (∀ j, m ≤ j → j < m + t → zs.getD j 0 = 92)) (fun _ k => (intOf k + 1).toNat)
        case atStart => exact ⟨q, 0, hpq, rfl, rfl, rfl, fun j h1 h2 => by omega⟩
        case round =>
          obtain ⟨m, t, hpm, hmt, rfl, rfl, hall⟩ := hrel
          have HALL := hide hall
          have HMT := hide hmt
          have hmq : m ≤ q := by omega
          have htq : t ≤ q := by omega
          clear hall hmt
          by_cases hmp : m = p
          · have C : Hid (slashes zs p q = t) := by
              have := slashes_count zs p m hpm (.inl hmp) t (unhide HALL)
              rw [unhide HMT] at this; exact this
            subst hmp
            by_cases hev : t % 2 = 0
            · have F : Hid (FirstClose zs n m q) := ⟨hpq, hlt, ⟨(unhide HZ).symm, by rw [unhide C]; exact hev⟩, unhide HNO⟩
              go_wp2
              go_ret2
              exact ⟨.inl ⟨q, rfl, unhide F⟩, rfl⟩
            · have N : Hid (∀ j, m ≤ j → j < q + 1 → ¬ Closes zs m j) := by
                intro j h1 h2 hc
                by_cases e : j = q
                · subst e; have := hc.2; rw [unhide C] at this; exact hev this
                · exact unhide HNO j h1 (by omega) hc
              go_wp2
              go_round
              case rel => exact ⟨q + 1, by omega, by omega, by go_num, unhide N⟩
              case measure => simp [intOf]; omega
          · obtain ⟨m', rfl⟩ : ∃ m', m = m' + 1 := ⟨m - 1, by omega⟩
            have hcm := unhide HC m' (by omega)
            obtain ⟨y, hy⟩ : ∃ y, y = zs.getD m' 0 := ⟨_, rfl⟩
            rw [← hy] at hcm
            have HY := hide hy
            clear hy
            have hmn : (m' : Int) < (n : Int) := by omega
            rw [show (((m' + 1 : Nat) : Int) - 1) = (m' : Int) by omega]
            by_cases h92 : y = 92
            · have A : Hid (∀ j, m' ≤ j → j < m' + (t + 1) → zs.getD j 0 = 92) := by
                intro j h1 h2
                by_cases e : j = m'
                · subst e; rw [← unhide HY]; exact h92
                · exact unhide HALL j (by omega) (by omega)
              subst h92
              go_wp2
              go_round
              case rel => exact ⟨m', t + 1, by omega, by have := unhide HMT; omega, by go_num, rfl, unhide A⟩
              case measure => simp [intOf]
            · have C : Hid (slashes zs p q = t) := by
                have := slashes_count zs p (m' + 1) hpm (.inr (by rw [Nat.add_sub_cancel, ← unhide HY]; exact h92)) t (unhide HALL)
                rw [unhide HMT] at this; exact this
              have d92 : (y == 92) = false := by simp [h92]
              by_cases hev : t % 2 = 0
              · have F : Hid (FirstClose zs n p q) := ⟨hpq, hlt, ⟨(unhide HZ).symm, by rw [unhide C]; exact hev⟩, unhide HNO⟩
                go_wp2
                go_ret2
                exact ⟨.inl ⟨q, rfl, unhide F⟩, rfl⟩
              · have N : Hid (∀ j, p ≤ j → j < q + 1 → ¬ Closes zs p j) := by
                  intro j h1 h2 hc
                  by_cases e : j = q
                  · subst e; have := hc.2; rw [unhide C] at this; exact hev this
                  · exact unhide HNO j h1 (by omega) hc
                go_wp2
                go_round
                case rel => exact ⟨q + 1, by omega, by omega, by go_num, unhide N⟩
                case measure => simp [intOf]; omega
      · have d34 : (z == 34) = false := by simp [h34]
        go_wp2
        go_round
        case rel =>
          refine ⟨q + 1, by omega, by omega, by go_num, fun j h1 h2 hc => ?_⟩
          by_cases e : j = q
          · subst e; exact h34 (by rw [unhide HZ]; exact hc.1)
          · exact unhide HNO j h1 (by omega) hc
        case measure => simp [intOf]; omega
    · go_wp2
      go_ret2
      exact ⟨.inr rfl, rfl⟩

/-- sjClosingQuote of an empty body: none. -/
theorem closing_empty (a : Option Addr) (c : Nat) (w : World) :
    Calls Try.prog 15 #[.slice a 0 c, .int .i64 (-1)] w fun e w' => e = .returned (.tuple #[.int .i64 0, .bool false]) ∧ w' = w := by
  go_enter Try.func15, Try.ntmps15
  go_wp2
  go_loop [6] (fun v => v = .int .i64 0) (fun _ => 0)
  case atStart => rfl
  case round =>
    subst hrel
    go_wp2
    go_ret2
    exact ⟨rfl, rfl⟩
end Go.Proofs.Qxb6601808a
