/-
  'Rows.FnKindPhrasesMatchExactlyWhenKindsAgreeSaid' PROVED ('example.com/vestline/vestline/zzlaws_pkg_plan_b1.FnKindPhrasesMatchExactlyWhenKindsAgree'). The frame is the one that the kit's program wrote (proof-skeleton.mjs); the walk is typed by hand.
-/
import Derived.Test.Qxb6602113aRows
import Derived.WalkKit
import Derived.ProofKit
import Derived.OpenShut
import Derived.ShutString
import Derived.Test.Qxb6602113aParts
namespace Go.Proofs.Qxb6602113a.fnKindPhrasesMatchExactlyWhenKindsAgree
open Go.ChangeShapes Go.WideShapes Go.ChangeAt Go.RowKit
open Go.ChangeMaps (open_string shut_string)
set_option linter.unusedVariables false      -- a walk need not use every 'w<i>' (that an integer argument fits its kind)

theorem own : ownKnob Try.prog.godebug = none := by kernel_rfl

/-- A string that opens with '[]' is neither 'string' nor 'int'. -/
theorem lst_not {s : ByteArray} (h : lst s = true) : (s.toList == [115, 116, 114, 105, 110, 103]) = false ∧ (s.toList == [105, 110, 116]) = false := by
  unfold lst at h
  rw [two] at h
  have h2 := beq_iff_eq.1 h
  rw [toList_data]
  constructor
  · rw [beq_eq_false_iff_ne]; intro e; rw [e] at h2; exact absurd h2 (by decide)
  · rw [beq_eq_false_iff_ne]; intro e; rw [e] at h2; exact absurd h2 (by decide)

/-! ### The law's walk, a case each: the type (list, string, int, mapping) by the tag (map, seq, other) -/
theorem walkLm (a0 a1 a2 : ByteArray) (w : World) (s0 : a0.size ≤ 262144) (s1 : a1.size ≤ 262144) (s2 : a2.size ≤ 262144) (H : Hid (lst a0 = true)) (k1 : (a0.toList == [115, 116, 114, 105, 110, 103]) = false) (k2 : (a0.toList == [105, 110, 116]) = false) (t1 : (a1.toList == [109, 97, 112]) = true) (t2 : (a1.toList == [115, 101, 113]) = false) :
    Calls Try.prog 3 #[.string a0, .string a1, .string a2] w fun e w' => e = .returned (.bool true) ∧ Grown w w' := by
    go_enter Try.func3, Try.ntmps3
    go_wp2_with fail
    refine (bytes_any _ _ _ _).mono ?_
    rintro e w' ⟨⟨v, rfl⟩, rfl⟩
    cases v
    · go_wp2
      go_ret
      exact ⟨rfl, Grown.refl _⟩
    · go_wp2_with fail
      refine (isList_any a0 _ s0).mono ?_
      rintro e w' ⟨rfl, rfl⟩
      rw [unhide H]
      go_wp2_with fail
      refine (wanted_list a0 _ s0 (unhide H)).mono ?_
      rintro e w' ⟨rfl, rfl⟩
      go_wp2_with fail
      refine (found_map a1 a2 _ s2 t1).mono ?_
      rintro e w' ⟨rfl, rfl⟩
      go_wp2
      go_ret
      exact ⟨rfl, Grown.refl _⟩

theorem walkLs (a0 a1 a2 : ByteArray) (w : World) (s0 : a0.size ≤ 262144) (s1 : a1.size ≤ 262144) (s2 : a2.size ≤ 262144) (H : Hid (lst a0 = true)) (k1 : (a0.toList == [115, 116, 114, 105, 110, 103]) = false) (k2 : (a0.toList == [105, 110, 116]) = false) (t1 : (a1.toList == [109, 97, 112]) = false) (t2 : (a1.toList == [115, 101, 113]) = true) :
    Calls Try.prog 3 #[.string a0, .string a1, .string a2] w fun e w' => e = .returned (.bool true) ∧ Grown w w' := by
    go_enter Try.func3, Try.ntmps3
    go_wp2_with fail
    refine (bytes_any _ _ _ _).mono ?_
    rintro e w' ⟨⟨v, rfl⟩, rfl⟩
    cases v
    · go_wp2
      go_ret
      exact ⟨rfl, Grown.refl _⟩
    · go_wp2_with fail
      refine (isList_any a0 _ s0).mono ?_
      rintro e w' ⟨rfl, rfl⟩
      rw [unhide H]
      go_wp2_with fail
      refine (wanted_list a0 _ s0 (unhide H)).mono ?_
      rintro e w' ⟨rfl, rfl⟩
      go_wp2_with fail
      refine (found_seq a1 a2 _ s2 t1 t2).mono ?_
      rintro e w' ⟨rfl, rfl⟩
      go_wp2
      go_ret
      exact ⟨rfl, Grown.refl _⟩

theorem walkLo (a0 a1 a2 : ByteArray) (w : World) (s0 : a0.size ≤ 262144) (s1 : a1.size ≤ 262144) (s2 : a2.size ≤ 262144) (H : Hid (lst a0 = true)) (k1 : (a0.toList == [115, 116, 114, 105, 110, 103]) = false) (k2 : (a0.toList == [105, 110, 116]) = false) (t1 : (a1.toList == [109, 97, 112]) = false) (t2 : (a1.toList == [115, 101, 113]) = false) :
    Calls Try.prog 3 #[.string a0, .string a1, .string a2] w fun e w' => e = .returned (.bool true) ∧ Grown w w' := by
    go_enter Try.func3, Try.ntmps3
    go_wp2_with fail
    refine (bytes_any _ _ _ _).mono ?_
    rintro e w' ⟨⟨v, rfl⟩, rfl⟩
    cases v
    · go_wp2
      go_ret
      exact ⟨rfl, Grown.refl _⟩
    · go_wp2_with fail
      refine (isList_any a0 _ s0).mono ?_
      rintro e w' ⟨rfl, rfl⟩
      rw [unhide H]
      go_wp2_with fail
      refine (wanted_list a0 _ s0 (unhide H)).mono ?_
      rintro e w' ⟨rfl, rfl⟩
      go_wp2_with fail
      refine (found_other a1 a2 _ s2 t1 t2).mono ?_
      rintro e w' ⟨rfl, rfl⟩
      have nq := quoted_not a2 [32, 108, 105, 115, 116]
      go_wp2
      go_ret
      exact ⟨rfl, Grown.refl _⟩

theorem walkSm (a0 a1 a2 : ByteArray) (w : World) (s0 : a0.size ≤ 262144) (s1 : a1.size ≤ 262144) (s2 : a2.size ≤ 262144) (H : Hid (lst a0 = false)) (k1 : (a0.toList == [115, 116, 114, 105, 110, 103]) = true) (t1 : (a1.toList == [109, 97, 112]) = true) (t2 : (a1.toList == [115, 101, 113]) = false) :
    Calls Try.prog 3 #[.string a0, .string a1, .string a2] w fun e w' => e = .returned (.bool true) ∧ Grown w w' := by
    go_enter Try.func3, Try.ntmps3
    go_wp2_with fail
    refine (bytes_any _ _ _ _).mono ?_
    rintro e w' ⟨⟨v, rfl⟩, rfl⟩
    cases v
    · go_wp2
      go_ret
      exact ⟨rfl, Grown.refl _⟩
    · go_wp2_with fail
      refine (isList_any a0 _ s0).mono ?_
      rintro e w' ⟨rfl, rfl⟩
      rw [unhide H]
      go_wp2_with fail
      refine (wanted_string a0 _ s0 (unhide H) k1).mono ?_
      rintro e w' ⟨rfl, rfl⟩
      go_wp2_with fail
      refine (found_map a1 a2 _ s2 t1).mono ?_
      rintro e w' ⟨rfl, rfl⟩
      go_wp2
      go_ret
      exact ⟨rfl, Grown.refl _⟩

theorem walkSs (a0 a1 a2 : ByteArray) (w : World) (s0 : a0.size ≤ 262144) (s1 : a1.size ≤ 262144) (s2 : a2.size ≤ 262144) (H : Hid (lst a0 = false)) (k1 : (a0.toList == [115, 116, 114, 105, 110, 103]) = true) (t1 : (a1.toList == [109, 97, 112]) = false) (t2 : (a1.toList == [115, 101, 113]) = true) :
    Calls Try.prog 3 #[.string a0, .string a1, .string a2] w fun e w' => e = .returned (.bool true) ∧ Grown w w' := by
    go_enter Try.func3, Try.ntmps3
    go_wp2_with fail
    refine (bytes_any _ _ _ _).mono ?_
    rintro e w' ⟨⟨v, rfl⟩, rfl⟩
    cases v
    · go_wp2
      go_ret
      exact ⟨rfl, Grown.refl _⟩
    · go_wp2_with fail
      refine (isList_any a0 _ s0).mono ?_
      rintro e w' ⟨rfl, rfl⟩
      rw [unhide H]
      go_wp2_with fail
      refine (wanted_string a0 _ s0 (unhide H) k1).mono ?_
      rintro e w' ⟨rfl, rfl⟩
      go_wp2_with fail
      refine (found_seq a1 a2 _ s2 t1 t2).mono ?_
      rintro e w' ⟨rfl, rfl⟩
      go_wp2
      go_ret
      exact ⟨rfl, Grown.refl _⟩

theorem walkSo (a0 a1 a2 : ByteArray) (w : World) (s0 : a0.size ≤ 262144) (s1 : a1.size ≤ 262144) (s2 : a2.size ≤ 262144) (H : Hid (lst a0 = false)) (k1 : (a0.toList == [115, 116, 114, 105, 110, 103]) = true) (t1 : (a1.toList == [109, 97, 112]) = false) (t2 : (a1.toList == [115, 101, 113]) = false) :
    Calls Try.prog 3 #[.string a0, .string a1, .string a2] w fun e w' => e = .returned (.bool true) ∧ Grown w w' := by
    go_enter Try.func3, Try.ntmps3
    go_wp2_with fail
    refine (bytes_any _ _ _ _).mono ?_
    rintro e w' ⟨⟨v, rfl⟩, rfl⟩
    cases v
    · go_wp2
      go_ret
      exact ⟨rfl, Grown.refl _⟩
    · go_wp2_with fail
      refine (isList_any a0 _ s0).mono ?_
      rintro e w' ⟨rfl, rfl⟩
      rw [unhide H]
      go_wp2_with fail
      refine (wanted_string a0 _ s0 (unhide H) k1).mono ?_
      rintro e w' ⟨rfl, rfl⟩
      go_wp2_with fail
      refine (found_other a1 a2 _ s2 t1 t2).mono ?_
      rintro e w' ⟨rfl, rfl⟩
      have nq := quoted_not a2 [32, 115, 105, 110, 103, 108, 101, 32, 118, 97, 108, 117, 101]
      go_wp2
      go_ret
      exact ⟨rfl, Grown.refl _⟩

theorem walkIm (a0 a1 a2 : ByteArray) (w : World) (s0 : a0.size ≤ 262144) (s1 : a1.size ≤ 262144) (s2 : a2.size ≤ 262144) (H : Hid (lst a0 = false)) (k1 : (a0.toList == [115, 116, 114, 105, 110, 103]) = false) (k2 : (a0.toList == [105, 110, 116]) = true) (t1 : (a1.toList == [109, 97, 112]) = true) (t2 : (a1.toList == [115, 101, 113]) = false) :
    Calls Try.prog 3 #[.string a0, .string a1, .string a2] w fun e w' => e = .returned (.bool true) ∧ Grown w w' := by
    go_enter Try.func3, Try.ntmps3
    go_wp2_with fail
    refine (bytes_any _ _ _ _).mono ?_
    rintro e w' ⟨⟨v, rfl⟩, rfl⟩
    cases v
    · go_wp2
      go_ret
      exact ⟨rfl, Grown.refl _⟩
    · go_wp2_with fail
      refine (isList_any a0 _ s0).mono ?_
      rintro e w' ⟨rfl, rfl⟩
      rw [unhide H]
      go_wp2_with fail
      refine (wanted_int a0 _ s0 (unhide H) k1 k2).mono ?_
      rintro e w' ⟨rfl, rfl⟩
      go_wp2_with fail
      refine (found_map a1 a2 _ s2 t1).mono ?_
      rintro e w' ⟨rfl, rfl⟩
      go_wp2
      go_ret
      exact ⟨rfl, Grown.refl _⟩

theorem walkIs (a0 a1 a2 : ByteArray) (w : World) (s0 : a0.size ≤ 262144) (s1 : a1.size ≤ 262144) (s2 : a2.size ≤ 262144) (H : Hid (lst a0 = false)) (k1 : (a0.toList == [115, 116, 114, 105, 110, 103]) = false) (k2 : (a0.toList == [105, 110, 116]) = true) (t1 : (a1.toList == [109, 97, 112]) = false) (t2 : (a1.toList == [115, 101, 113]) = true) :
    Calls Try.prog 3 #[.string a0, .string a1, .string a2] w fun e w' => e = .returned (.bool true) ∧ Grown w w' := by
    go_enter Try.func3, Try.ntmps3
    go_wp2_with fail
    refine (bytes_any _ _ _ _).mono ?_
    rintro e w' ⟨⟨v, rfl⟩, rfl⟩
    cases v
    · go_wp2
      go_ret
      exact ⟨rfl, Grown.refl _⟩
    · go_wp2_with fail
      refine (isList_any a0 _ s0).mono ?_
      rintro e w' ⟨rfl, rfl⟩
      rw [unhide H]
      go_wp2_with fail
      refine (wanted_int a0 _ s0 (unhide H) k1 k2).mono ?_
      rintro e w' ⟨rfl, rfl⟩
      go_wp2_with fail
      refine (found_seq a1 a2 _ s2 t1 t2).mono ?_
      rintro e w' ⟨rfl, rfl⟩
      go_wp2
      go_ret
      exact ⟨rfl, Grown.refl _⟩

theorem walkIo (a0 a1 a2 : ByteArray) (w : World) (s0 : a0.size ≤ 262144) (s1 : a1.size ≤ 262144) (s2 : a2.size ≤ 262144) (H : Hid (lst a0 = false)) (k1 : (a0.toList == [115, 116, 114, 105, 110, 103]) = false) (k2 : (a0.toList == [105, 110, 116]) = true) (t1 : (a1.toList == [109, 97, 112]) = false) (t2 : (a1.toList == [115, 101, 113]) = false) :
    Calls Try.prog 3 #[.string a0, .string a1, .string a2] w fun e w' => e = .returned (.bool true) ∧ Grown w w' := by
    go_enter Try.func3, Try.ntmps3
    go_wp2_with fail
    refine (bytes_any _ _ _ _).mono ?_
    rintro e w' ⟨⟨v, rfl⟩, rfl⟩
    cases v
    · go_wp2
      go_ret
      exact ⟨rfl, Grown.refl _⟩
    · go_wp2_with fail
      refine (isList_any a0 _ s0).mono ?_
      rintro e w' ⟨rfl, rfl⟩
      rw [unhide H]
      go_wp2_with fail
      refine (wanted_int a0 _ s0 (unhide H) k1 k2).mono ?_
      rintro e w' ⟨rfl, rfl⟩
      go_wp2_with fail
      refine (found_other a1 a2 _ s2 t1 t2).mono ?_
      rintro e w' ⟨rfl, rfl⟩
      have nq := quoted_not a2 [32, 119, 104, 111, 108, 101, 32, 110, 117, 109, 98, 101, 114]
      go_wp2
      go_ret
      exact ⟨rfl, Grown.refl _⟩

theorem walkMm (a0 a1 a2 : ByteArray) (w : World) (s0 : a0.size ≤ 262144) (s1 : a1.size ≤ 262144) (s2 : a2.size ≤ 262144) (H : Hid (lst a0 = false)) (k1 : (a0.toList == [115, 116, 114, 105, 110, 103]) = false) (k2 : (a0.toList == [105, 110, 116]) = false) (t1 : (a1.toList == [109, 97, 112]) = true) (t2 : (a1.toList == [115, 101, 113]) = false) :
    Calls Try.prog 3 #[.string a0, .string a1, .string a2] w fun e w' => e = .returned (.bool true) ∧ Grown w w' := by
    go_enter Try.func3, Try.ntmps3
    go_wp2_with fail
    refine (bytes_any _ _ _ _).mono ?_
    rintro e w' ⟨⟨v, rfl⟩, rfl⟩
    cases v
    · go_wp2
      go_ret
      exact ⟨rfl, Grown.refl _⟩
    · go_wp2_with fail
      refine (isList_any a0 _ s0).mono ?_
      rintro e w' ⟨rfl, rfl⟩
      rw [unhide H]
      go_wp2_with fail
      refine (wanted_map a0 _ s0 (unhide H) k1 k2).mono ?_
      rintro e w' ⟨rfl, rfl⟩
      go_wp2_with fail
      refine (found_map a1 a2 _ s2 t1).mono ?_
      rintro e w' ⟨rfl, rfl⟩
      go_wp2
      go_ret
      exact ⟨rfl, Grown.refl _⟩

theorem walkMs (a0 a1 a2 : ByteArray) (w : World) (s0 : a0.size ≤ 262144) (s1 : a1.size ≤ 262144) (s2 : a2.size ≤ 262144) (H : Hid (lst a0 = false)) (k1 : (a0.toList == [115, 116, 114, 105, 110, 103]) = false) (k2 : (a0.toList == [105, 110, 116]) = false) (t1 : (a1.toList == [109, 97, 112]) = false) (t2 : (a1.toList == [115, 101, 113]) = true) :
    Calls Try.prog 3 #[.string a0, .string a1, .string a2] w fun e w' => e = .returned (.bool true) ∧ Grown w w' := by
    go_enter Try.func3, Try.ntmps3
    go_wp2_with fail
    refine (bytes_any _ _ _ _).mono ?_
    rintro e w' ⟨⟨v, rfl⟩, rfl⟩
    cases v
    · go_wp2
      go_ret
      exact ⟨rfl, Grown.refl _⟩
    · go_wp2_with fail
      refine (isList_any a0 _ s0).mono ?_
      rintro e w' ⟨rfl, rfl⟩
      rw [unhide H]
      go_wp2_with fail
      refine (wanted_map a0 _ s0 (unhide H) k1 k2).mono ?_
      rintro e w' ⟨rfl, rfl⟩
      go_wp2_with fail
      refine (found_seq a1 a2 _ s2 t1 t2).mono ?_
      rintro e w' ⟨rfl, rfl⟩
      go_wp2
      go_ret
      exact ⟨rfl, Grown.refl _⟩

theorem walkMo (a0 a1 a2 : ByteArray) (w : World) (s0 : a0.size ≤ 262144) (s1 : a1.size ≤ 262144) (s2 : a2.size ≤ 262144) (H : Hid (lst a0 = false)) (k1 : (a0.toList == [115, 116, 114, 105, 110, 103]) = false) (k2 : (a0.toList == [105, 110, 116]) = false) (t1 : (a1.toList == [109, 97, 112]) = false) (t2 : (a1.toList == [115, 101, 113]) = false) :
    Calls Try.prog 3 #[.string a0, .string a1, .string a2] w fun e w' => e = .returned (.bool true) ∧ Grown w w' := by
    go_enter Try.func3, Try.ntmps3
    go_wp2_with fail
    refine (bytes_any _ _ _ _).mono ?_
    rintro e w' ⟨⟨v, rfl⟩, rfl⟩
    cases v
    · go_wp2
      go_ret
      exact ⟨rfl, Grown.refl _⟩
    · go_wp2_with fail
      refine (isList_any a0 _ s0).mono ?_
      rintro e w' ⟨rfl, rfl⟩
      rw [unhide H]
      go_wp2_with fail
      refine (wanted_map a0 _ s0 (unhide H) k1 k2).mono ?_
      rintro e w' ⟨rfl, rfl⟩
      go_wp2_with fail
      refine (found_other a1 a2 _ s2 t1 t2).mono ?_
      rintro e w' ⟨rfl, rfl⟩
      have nq := quoted_not a2 [32, 109, 97, 112, 112, 105, 110, 103]
      go_wp2
      go_ret
      exact ⟨rfl, Grown.refl _⟩

/-! ### STEP 1: THE WALK: the Go text returns true. 'Grown w w'': the world has at most new blocks (Derived/RowKit3.lean). Part the cases AHEAD of 'go_enter' where a test parts the walk; take each callee by a contract of your own. -/
theorem walk (a0 : ByteArray) (a1 : ByteArray) (a2 : ByteArray) (w0 : a0.size ≤ maxLen) (w1 : a1.size ≤ maxLen) (w2 : a2.size ≤ maxLen) (w : World) :
    Calls Try.prog 3 #[.string a0, .string a1, .string a2] w fun e w' => e = .returned (.bool true) ∧ Grown w w' := by
  clear w0 w1 w2
  by_cases s0 : a0.size ≤ 262144
  · by_cases s1 : a1.size ≤ 262144
    · by_cases s2 : a2.size ≤ 262144
      · have ht : ((a1.toList == [109, 97, 112]) = true ∧ (a1.toList == [115, 101, 113]) = false) ∨ ((a1.toList == [109, 97, 112]) = false ∧ (a1.toList == [115, 101, 113]) = true) ∨ ((a1.toList == [109, 97, 112]) = false ∧ (a1.toList == [115, 101, 113]) = false) := by
          by_cases h : a1.toList = [109, 97, 112]
          · exact .inl (by rw [h]; exact ⟨rfl, rfl⟩)
          · by_cases h2 : a1.toList = [115, 101, 113]
            · exact .inr (.inl (by rw [h2]; exact ⟨rfl, rfl⟩))
            · exact .inr (.inr ⟨beq_eq_false_iff_ne.2 h, beq_eq_false_iff_ne.2 h2⟩)
        cases hl : lst a0 with
        | true =>
          obtain ⟨k1, k2⟩ := lst_not hl
          rcases ht with ⟨t1, t2⟩ | ⟨t1, t2⟩ | ⟨t1, t2⟩
          · exact walkLm a0 a1 a2 w s0 s1 s2 hl k1 k2 t1 t2
          · exact walkLs a0 a1 a2 w s0 s1 s2 hl k1 k2 t1 t2
          · exact walkLo a0 a1 a2 w s0 s1 s2 hl k1 k2 t1 t2
        | false =>
          cases k1 : (a0.toList == [115, 116, 114, 105, 110, 103]) with
          | true =>
            rcases ht with ⟨t1, t2⟩ | ⟨t1, t2⟩ | ⟨t1, t2⟩
            · exact walkSm a0 a1 a2 w s0 s1 s2 hl k1 t1 t2
            · exact walkSs a0 a1 a2 w s0 s1 s2 hl k1 t1 t2
            · exact walkSo a0 a1 a2 w s0 s1 s2 hl k1 t1 t2
          | false =>
            cases k2 : (a0.toList == [105, 110, 116]) with
            | true =>
              rcases ht with ⟨t1, t2⟩ | ⟨t1, t2⟩ | ⟨t1, t2⟩
              · exact walkIm a0 a1 a2 w s0 s1 s2 hl k1 k2 t1 t2
              · exact walkIs a0 a1 a2 w s0 s1 s2 hl k1 k2 t1 t2
              · exact walkIo a0 a1 a2 w s0 s1 s2 hl k1 k2 t1 t2
            | false =>
              rcases ht with ⟨t1, t2⟩ | ⟨t1, t2⟩ | ⟨t1, t2⟩
              · exact walkMm a0 a1 a2 w s0 s1 s2 hl k1 k2 t1 t2
              · exact walkMs a0 a1 a2 w s0 s1 s2 hl k1 k2 t1 t2
              · exact walkMo a0 a1 a2 w s0 s1 s2 hl k1 k2 t1 t2
      · go_enter Try.func3, Try.ntmps3
        go_wp2_with fail
        refine (bytes_any _ _ _ _).mono ?_
        rintro e w' ⟨⟨v, rfl⟩, rfl⟩
        cases v
        all_goals
          go_wp2
          go_ret
          exact ⟨rfl, Grown.refl _⟩
    · go_enter Try.func3, Try.ntmps3
      go_wp2_with fail
      refine (bytes_any _ _ _ _).mono ?_
      rintro e w' ⟨⟨v, rfl⟩, rfl⟩
      cases v
      all_goals
        go_wp2
        go_ret
        exact ⟨rfl, Grown.refl _⟩
  · go_enter Try.func3, Try.ntmps3
    go_wp2_with fail
    refine (bytes_any _ _ _ _).mono ?_
    rintro e w' ⟨⟨v, rfl⟩, rfl⟩
    cases v
    all_goals
      go_wp2
      go_ret
      exact ⟨rfl, Grown.refl _⟩

/-! ### THE ROW's STEP: WRITTEN OUT: LEAVE IT -/
set_option maxRecDepth 100000 in
theorem lifted (os : Os) (started : os.Started) (H : Type) (enc : TypeId × Value → H) :
    ReturnsInHanded {} Try.checked os 3 .any (Rows.fnKindPhrasesMatchExactlyWhenKindsAgreeSpec.pre6 enc Try.prog Try.f3 Rows.fnKindPhrasesMatchExactlyWhenKindsAgreeRow.domain false) (Rows.fnKindPhrasesMatchExactlyWhenKindsAgreeSpec.post enc Try.prog Try.f3 false true false false) := by
  refine returnsInHanded_of_change (C := Try.checked) own started (by kernel_rfl) Try.func3
    (ChangeSpec.witness6 (enc := enc) (C := Try.checked) false ⟨#[], #[.string ByteArray.empty, .string ByteArray.empty, .string ByteArray.empty], []⟩ 8 (by kernel_rfl) (by kernel_rfl) (by kernel_rfl) (by kernel_rfl)) ?_
  intro W base args ds gs before hval0 hW hcnd _
  have hval : ∀ (j : Nat) t v, Try.f3.params[j]? = some t → args[j]? = some v → Value.okWide Try.prog W .any base t v := hval0
  have hW' := hW
  obtain ⟨p, q, hA0, hV, rfl, hfz, hnd⟩ := hW
  have hA : DataW.TrodAll enc Try.prog W 0 (fun _ => true) true Try.f3.params.toList args.toList ds p := hA0
  rw [Try.params3] at hA hval
  obtain ⟨v0, vs0, d0, ds0, p0, q0, hargs, rfl, rfl, h0, r0⟩ := trodAll_cons hA
  obtain ⟨v1, vs1, d1, ds1, p1, q1, rfl, rfl, rfl, h1, r1⟩ := trodAll_cons r0
  obtain ⟨v2, vs2, d2, ds2, p2, q2, rfl, rfl, rfl, h2, r2⟩ := trodAll_cons r1
  obtain ⟨rfl, rfl, rfl⟩ := trodAll_nil r2
  obtain rfl : args = #[v0, v1, v2] := by cases args; simp_all
  obtain ⟨rfl, rfl⟩ := trodVars_none hV
  obtain ⟨a0, rfl, rfl, rfl, w0⟩ := open_string Try.underlying9 (hval 0 9 v0 rfl rfl) h0
  obtain ⟨a1, rfl, rfl, rfl, w1⟩ := open_string Try.underlying9 (hval 1 9 v1 rfl rfl) h1
  obtain ⟨a2, rfl, rfl, rfl, w2⟩ := open_string Try.underlying9 (hval 2 9 v2 rfl rfl) h2
  clear hA0 hval0
  simp only [List.append_nil] at hW'
  refine (walk a0 a1 a2 w0 w1 w2 W).mono fun e W' ⟨he, hg⟩ => ?_
  subst he
  exact ⟨_, rfl, post_of_same (pa := []) (pv := []) hW' (fun _ _ _ => (trodAll_cons_mk (shut_bool Try.underlying4 _) trodAll_mk0)) (fun sp _ => (trodAll_cons_mk (shut_string Try.underlying9 w0) (trodAll_cons_mk (shut_string Try.underlying9 w1) (trodAll_cons_mk (shut_string Try.underlying9 w2) trodAll_mk0)))) (fun _ _ => rfl) rfl
    (hg.frame _) hg.2.1 (ok_one (by kernel_rfl) rfl (okWide_bool_mk Try.underlying4 _))⟩

theorem over : Rows.fnKindPhrasesMatchExactlyWhenKindsAgreeRow.holds Try.pinned (OpenSpec.ofChange Rows.fnKindPhrasesMatchExactlyWhenKindsAgreeSpec) :=
  OpenClaim.holds_of_wide 3 Try.f3 rfl rfl rfl rfl rfl rfl rfl ⟨rfl, rfl, rfl, rfl, rfl⟩ rfl rfl rfl rfl rfl (by kernel_rfl) Try.func3 (by kernel_rfl)
    (of_decide_eq_true (by kernel_rfl)) (by unfold Func.isWrapper; first | (rw [if_pos (by decide +kernel)]; kernel_rfl) | (rw [if_neg (by decide +kernel)]; exact ⟨rfl, rfl⟩))
    (fun os started H enc _ => lifted os started H enc)

/-- ████ THE STATEMENT ████ -/
theorem proved : Rows.FnKindPhrasesMatchExactlyWhenKindsAgreeSaid :=
  over
end Go.Proofs.Qxb6602113a.fnKindPhrasesMatchExactlyWhenKindsAgree
