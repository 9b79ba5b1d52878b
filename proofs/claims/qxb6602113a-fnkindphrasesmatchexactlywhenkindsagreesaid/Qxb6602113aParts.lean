/-
  SEAT b6602113a: the contracts of the law's callees.
-/
import Derived.Test.Qxb6602113aRows
import Derived.WalkKit
import Derived.ProofKit
import Derived.OpenShut
import Derived.RowKit3
import Derived.Outline
namespace Go.Proofs.Qxb6602113a
open Go.ChangeShapes Go.WideShapes Go.ChangeAt Go.RowKit
set_option linter.unusedVariables false

theorem hide {p : Prop} (h : p) : Hid p := h
theorem unhide {p : Prop} (h : Hid p) : p := h

/-- The string opens with '[]'. -/
def lst (s : ByteArray) : Bool := (s.extract 0 2).toList == [91, 93]

theorem toList_data (s : ByteArray) : s.toList = s.data.toList := ByteArray.toList_eq s
theorem two (s : ByteArray) : (s.extract 0 2).toList = s.data.toList.take 2 := by rw [toList_data]; simp

theorem lst_short {s : ByteArray} (h : s.size < 2) : lst s = false := by
  unfold lst
  rw [beq_eq_false_iff_ne]
  intro e
  have := congrArg List.length e
  rw [two] at this
  have h2 : s.data.toList.length = s.size := by simp
  simp at this
  omega

theorem lst_long {s : ByteArray} (h : 2 ≤ s.size) : lst s = (((s[0].toNat : Int) == 91) && ((s[1].toNat : Int) == 93)) := by
  obtain ⟨⟨l⟩⟩ := s
  match l, h with
  | x :: y :: r, _ =>
    unfold lst
    rw [two]
    show ([x, y] == [91, 93]) = (((x.toNat : Int) == 91) && ((y.toNat : Int) == 93))
    rw [Bool.eq_iff_iff]
    simp [← UInt8.toNat_inj]
    omega

theorem hasPrefix_any (s : ByteArray) (w : World) (hs : s.size ≤ 262144) :
    Calls Try.prog 11 #[.string s, .string ⟨#[91, 93]⟩] w fun e w' => e = .returned (.bool (lst s)) ∧ w' = w := by
  by_cases h : 2 ≤ s.size
  · have h2 : (2 : Int) ≤ (s.size : Int) := by omega
    go_enter Try.func11, Try.ntmps11
    go_wp2
    go_ret
    exact ⟨rfl, rfl⟩
  · rw [lst_short (by omega)]
    have h2 : decide ((2 : Int) ≤ (s.size : Int)) = false := decide_eq_false (by omega)
    go_enter Try.func11, Try.ntmps11
    go_wp2
    go_ret
    exact ⟨rfl, rfl⟩

theorem isList_any (s : ByteArray) (w : World) (hs : s.size ≤ 262144) :
    Calls Try.prog 5 #[.string s] w fun e w' => e = .returned (.bool (lst s)) ∧ w' = w := by
  by_cases h : 2 ≤ s.size
  · have h2 : (2 : Int) ≤ (s.size : Int) := by omega
    have h1 : (1 : Int) < (s.size : Int) := by omega
    have h0 : (0 : Int) < (s.size : Int) := by omega
    rw [lst_long h]
    go_enter Try.func5, Try.ntmps5
    go_wp2
    · have e : (s[0].toNat : Int) = 91 := by assumption
      go_ret
      exact ⟨by rw [e]; rfl, rfl⟩
    · have e : ¬ (s[0].toNat : Int) = 91 := by assumption
      go_ret
      exact ⟨by rw [beq_eq_false_iff_ne.2 e]; rfl, rfl⟩
  · rw [lst_short (by omega)]
    have h2 : decide ((2 : Int) ≤ (s.size : Int)) = false := decide_eq_false (by omega)
    go_enter Try.func5, Try.ntmps5
    go_wp2
    go_ret
    exact ⟨rfl, rfl⟩

/-! ### What kindWanted answers, a case each -/
theorem wanted_list (s : ByteArray) (w : World) (hs : s.size ≤ 262144) (h : lst s = true) :
    Calls Try.prog 6 #[.string s] w fun e w' => e = .returned (.string ⟨#[97, 32, 108, 105, 115, 116]⟩) ∧ w' = w := by
  have H := hide h
  clear h
  go_enter Try.func6, Try.ntmps6
  go_wp2_with (first | (go_at_call 11; refine (hasPrefix_any s _ hs).mono ?_; rintro e w' ⟨rfl, rfl⟩; rw [unhide H]) | go_in)
  go_ret
  exact ⟨rfl, rfl⟩
theorem wanted_string (s : ByteArray) (w : World) (hs : s.size ≤ 262144) (h : lst s = false) (h1 : (s.toList == [115, 116, 114, 105, 110, 103]) = true) :
    Calls Try.prog 6 #[.string s] w fun e w' => e = .returned (.string ⟨#[97, 32, 115, 105, 110, 103, 108, 101, 32, 118, 97, 108, 117, 101]⟩) ∧ w' = w := by
  have H := hide h
  clear h
  go_enter Try.func6, Try.ntmps6
  go_wp2_with (first | (go_at_call 11; refine (hasPrefix_any s _ hs).mono ?_; rintro e w' ⟨rfl, rfl⟩; rw [unhide H]) | go_in)
  go_ret
  exact ⟨rfl, rfl⟩
theorem wanted_int (s : ByteArray) (w : World) (hs : s.size ≤ 262144) (h : lst s = false) (h1 : (s.toList == [115, 116, 114, 105, 110, 103]) = false) (h2 : (s.toList == [105, 110, 116]) = true) :
    Calls Try.prog 6 #[.string s] w fun e w' => e = .returned (.string ⟨#[97, 32, 119, 104, 111, 108, 101, 32, 110, 117, 109, 98, 101, 114]⟩) ∧ w' = w := by
  have H := hide h
  clear h
  go_enter Try.func6, Try.ntmps6
  go_wp2_with (first | (go_at_call 11; refine (hasPrefix_any s _ hs).mono ?_; rintro e w' ⟨rfl, rfl⟩; rw [unhide H]) | go_in)
  go_ret
  exact ⟨rfl, rfl⟩
theorem wanted_map (s : ByteArray) (w : World) (hs : s.size ≤ 262144) (h : lst s = false) (h1 : (s.toList == [115, 116, 114, 105, 110, 103]) = false) (h2 : (s.toList == [105, 110, 116]) = false) :
    Calls Try.prog 6 #[.string s] w fun e w' => e = .returned (.string ⟨#[97, 32, 109, 97, 112, 112, 105, 110, 103]⟩) ∧ w' = w := by
  have H := hide h
  clear h
  go_enter Try.func6, Try.ntmps6
  go_wp2_with (first | (go_at_call 11; refine (hasPrefix_any s _ hs).mono ?_; rintro e w' ⟨rfl, rfl⟩; rw [unhide H]) | go_in)
  go_ret
  exact ⟨rfl, rfl⟩

/-! ### What kindFound answers, a case each -/
theorem found_map (t v : ByteArray) (w : World) (hs : v.size ≤ 262144) (h1 : (t.toList == [109, 97, 112]) = true) :
    Calls Try.prog 7 #[.string t, .string v] w fun e w' => e = .returned (.string ⟨#[97, 32, 109, 97, 112, 112, 105, 110, 103]⟩) ∧ w' = w := by
  go_enter Try.func7, Try.ntmps7
  go_wp2
  go_ret
  exact ⟨rfl, rfl⟩
theorem found_seq (t v : ByteArray) (w : World) (hs : v.size ≤ 262144) (h1 : (t.toList == [109, 97, 112]) = false) (h2 : (t.toList == [115, 101, 113]) = true) :
    Calls Try.prog 7 #[.string t, .string v] w fun e w' => e = .returned (.string ⟨#[97, 32, 108, 105, 115, 116]⟩) ∧ w' = w := by
  go_enter Try.func7, Try.ntmps7
  go_wp2
  go_ret
  exact ⟨rfl, rfl⟩
/-- The value in backquotes. -/
def quoted (v : ByteArray) : ByteArray := ⟨#[96]⟩ ++ v ++ ⟨#[96]⟩
theorem found_other (t v : ByteArray) (w : World) (hs : v.size ≤ 262144) (h1 : (t.toList == [109, 97, 112]) = false) (h2 : (t.toList == [115, 101, 113]) = false) :
    Calls Try.prog 7 #[.string t, .string v] w fun e w' => e = .returned (.string (quoted v)) ∧ w' = w := by
  go_enter Try.func7, Try.ntmps7
  go_wp2
  go_ret
  exact ⟨rfl, rfl⟩

theorem quoted_not (v : ByteArray) (r : List UInt8) : ((97 :: r : List UInt8) == (quoted v).toList) = false := by
  rw [beq_eq_false_iff_ne, toList_data]
  obtain ⟨⟨l⟩⟩ := v
  intro e
  have h := congrArg (fun l => l[0]?) e
  simp [quoted] at h

/-- The bound on the lengths, laid by program. -/
theorem bytes_any (a b c : ByteArray) (w : World) : Calls Try.prog 4 #[.string a, .string b, .string c] w fun e w' => (∃ v : Bool, e = .returned (.bool v)) ∧ w' = w := by
  go_enter Try.func4, Try.ntmps4
  go_wp2
  all_goals go_ret
  all_goals exact ⟨⟨_, rfl⟩, rfl⟩
end Go.Proofs.Qxb6602113a
