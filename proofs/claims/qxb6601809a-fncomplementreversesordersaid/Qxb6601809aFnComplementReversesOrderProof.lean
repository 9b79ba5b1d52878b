/-
  'Rows.FnComplementReversesOrderSaid' PROVED ('example.com/unearned/unearned/zzlaws_money_b1.FnComplementReversesOrder'). The frame is the one that the kit's program wrote (proof-skeleton.mjs); the walk is typed by hand.
-/
import Derived.Test.Qxb6601809aRows
import Derived.WalkKit
import Derived.ProofKit
import Derived.OpenShut
import Derived.ShutString
import Derived.Test.Qxb6601809aParts
namespace Go.Proofs.Qxb6601809a.fnComplementReversesOrder
open Go.ChangeShapes Go.WideShapes Go.ChangeAt Go.RowKit
open Go.ChangeMaps (open_string shut_string)
set_option linter.unusedVariables false      -- a walk need not use every 'w<i>' (that an integer argument fits its kind)

theorem own : ownKnob Try.prog.godebug = none := by kernel_rfl

/-! ### STEP 1: THE WALK: the Go text returns true. 'Grown w w'': the world has at most new blocks (Derived/RowKit3.lean). Part the cases AHEAD of 'go_enter' where a test parts the walk; take each callee by a contract of your own. -/
set_option maxHeartbeats 1000000 in
theorem walk (a0 : Int) (a1 : Int) (a2 : Int) (w0 : (Lit.int .u64 a0).wf = true) (w1 : (Lit.int .u64 a1).wf = true) (w2 : (Lit.int .u64 a2).wf = true) (w : World) :
    Calls Try.prog 5 #[.int .u64 a0, .int .u64 a1, .int .u64 a2] w fun e w' => e = .returned (.bool true) ∧ Grown w w' := by
  have b0 := bounds_u64 w0
  have b1 := bounds_u64 w1
  have b2 := bounds_u64 w2
  clear w0 w1 w2
  obtain ⟨p0, p1⟩ := b0
  obtain ⟨q0, q1⟩ := b1
  obtain ⟨r0, r1⟩ := b2
  have HC := hide (fun w => compl_any a0 a2 w r0 (by omega))
  have HD := hide (fun w => compl_any a1 a2 w r0 (by omega))
  have hW : (a2 = 0 ∧ whole a2 = 1) ∨ (a2 ≠ 0 ∧ whole a2 = a2) := by
    by_cases h : a2 = 0
    · exact .inl ⟨h, by rw [h]; rfl⟩
    · exact .inr ⟨h, by unfold whole; rw [if_neg h]⟩
  have L0 : a0 ≤ whole a2 → cpl a0 a2 = whole a2 - a0 := fun h => cpl_le p0 h r0 (by omega)
  have L1 : a1 ≤ whole a2 → cpl a1 a2 = whole a2 - a1 := fun h => cpl_le q0 h r0 (by omega)
  generalize cpl a0 a2 = c0 at *
  generalize cpl a1 a2 = c1 at *
  generalize whole a2 = W at *
  by_cases h01 : a1 < a0
  · clear L0 L1 HC HD
    rcases hW with ⟨rfl, rfl⟩ | ⟨hne, rfl⟩
    · go_enter Try.func5, Try.ntmps5
      go_wp2
      go_ret
      exact ⟨rfl, Grown.refl _⟩
    · have hq : (W == 0) = false := by simp [hne]
      go_enter Try.func5, Try.ntmps5
      go_wp2
      go_ret
      exact ⟨rfl, Grown.refl _⟩
  · have d1 : decide (a1 < a0) = false := decide_eq_false h01
    by_cases hw1 : W < a1
    · clear L0 L1 HC HD
      rcases hW with ⟨rfl, rfl⟩ | ⟨hne, rfl⟩
      · go_enter Try.func5, Try.ntmps5
        go_wp2
        go_ret
        exact ⟨rfl, Grown.refl _⟩
      · have hq : (W == 0) = false := by simp [hne]
        go_enter Try.func5, Try.ntmps5
        go_wp2
        go_ret
        exact ⟨rfl, Grown.refl _⟩
    · have d2 : decide (W < a1) = false := decide_eq_false hw1
      obtain rfl := L0 (by omega)
      obtain rfl := L1 (by omega)
      clear L0 L1
      have e1 : W - a0 - (W - a1) = a1 - a0 := by omega
      have E1 := hide e1
      clear e1
      rcases hW with ⟨rfl, rfl⟩ | ⟨hne, rfl⟩
      · go_enter Try.func5, Try.ntmps5
        go_wp2_with fail
        refine (make_any _ _ _).mono ?_
        rintro e w1 ⟨rfl, g1⟩
        have G1 := hide g1
        clear g1
        go_wp2_with fail
        refine (unhide HC _).mono ?_
        rintro e w2 ⟨rfl, g2⟩
        have G2 := hide ((unhide G1).trans g2)
        clear g2 G1
        go_wp2_with fail
        refine (parts_any _ _ _).mono ?_
        rintro e w3 ⟨rfl, g3⟩
        have G3 := hide ((unhide G2).trans g3)
        clear g3 G2
        go_wp2_with fail
        refine (make_any _ _ _).mono ?_
        rintro e w4 ⟨rfl, g4⟩
        have G4 := hide ((unhide G3).trans g4)
        clear g4 G3
        go_wp2_with fail
        refine (unhide HD _).mono ?_
        rintro e w5 ⟨rfl, g5⟩
        have G5 := hide ((unhide G4).trans g5)
        clear g5 G4
        go_wp2_with fail
        refine (parts_any _ _ _).mono ?_
        rintro e w6 ⟨rfl, g6⟩
        have G6 := hide ((unhide G5).trans g6)
        clear g6 G5 HC HD
        have h1 : ¬ (1 - a0 < 1 - a1) := by omega
        have h2 := unhide E1
        go_wp2
        go_ret
        exact ⟨rfl, (unhide G6).grown⟩
      · have hq : (W == 0) = false := by simp [hne]
        go_enter Try.func5, Try.ntmps5
        go_wp2_with fail
        refine (make_any _ _ _).mono ?_
        rintro e w1 ⟨rfl, g1⟩
        have G1 := hide g1
        clear g1
        go_wp2_with fail
        refine (unhide HC _).mono ?_
        rintro e w2 ⟨rfl, g2⟩
        have G2 := hide ((unhide G1).trans g2)
        clear g2 G1
        go_wp2_with fail
        refine (parts_any _ _ _).mono ?_
        rintro e w3 ⟨rfl, g3⟩
        have G3 := hide ((unhide G2).trans g3)
        clear g3 G2
        go_wp2_with fail
        refine (make_any _ _ _).mono ?_
        rintro e w4 ⟨rfl, g4⟩
        have G4 := hide ((unhide G3).trans g4)
        clear g4 G3
        go_wp2_with fail
        refine (unhide HD _).mono ?_
        rintro e w5 ⟨rfl, g5⟩
        have G5 := hide ((unhide G4).trans g5)
        clear g5 G4
        go_wp2_with fail
        refine (parts_any _ _ _).mono ?_
        rintro e w6 ⟨rfl, g6⟩
        have G6 := hide ((unhide G5).trans g6)
        clear g6 G5 HC HD
        have h1 : ¬ (W - a0 < W - a1) := by omega
        have h2 := unhide E1
        go_wp2
        go_ret
        exact ⟨rfl, (unhide G6).grown⟩

/-! ### THE ROW's STEP: WRITTEN OUT: LEAVE IT -/
set_option maxRecDepth 100000 in
theorem lifted (os : Os) (started : os.Started) (H : Type) (enc : TypeId × Value → H) :
    ReturnsInHanded {} Try.checked os 5 .any (Rows.fnComplementReversesOrderSpec.pre6 enc Try.prog Try.f5 Rows.fnComplementReversesOrderRow.domain false) (Rows.fnComplementReversesOrderSpec.post enc Try.prog Try.f5 false true false false) := by
  refine returnsInHanded_of_change (C := Try.checked) own started (by kernel_rfl) Try.func5
    (ChangeSpec.witness6 (enc := enc) (C := Try.checked) false ⟨#[], #[.int .u64 0, .int .u64 0, .int .u64 0], []⟩ 8 (by kernel_rfl) (by kernel_rfl) (by kernel_rfl) (by kernel_rfl)) ?_
  intro W base args ds gs before hval0 hW hcnd _
  have hval : ∀ (j : Nat) t v, Try.f5.params[j]? = some t → args[j]? = some v → Value.okWide Try.prog W .any base t v := hval0
  have hW' := hW
  obtain ⟨p, q, hA0, hV, rfl, hfz, hnd⟩ := hW
  have hA : DataW.TrodAll enc Try.prog W 0 (fun _ => true) true Try.f5.params.toList args.toList ds p := hA0
  rw [Try.params5] at hA hval
  obtain ⟨v0, vs0, d0, ds0, p0, q0, hargs, rfl, rfl, h0, r0⟩ := trodAll_cons hA
  obtain ⟨v1, vs1, d1, ds1, p1, q1, rfl, rfl, rfl, h1, r1⟩ := trodAll_cons r0
  obtain ⟨v2, vs2, d2, ds2, p2, q2, rfl, rfl, rfl, h2, r2⟩ := trodAll_cons r1
  obtain ⟨rfl, rfl, rfl⟩ := trodAll_nil r2
  obtain rfl : args = #[v0, v1, v2] := by cases args; simp_all
  obtain ⟨rfl, rfl⟩ := trodVars_none hV
  obtain ⟨a0, rfl, rfl, rfl, w0⟩ := open_int Try.underlying22 (hval 0 22 v0 rfl rfl) h0
  obtain ⟨a1, rfl, rfl, rfl, w1⟩ := open_int Try.underlying22 (hval 1 22 v1 rfl rfl) h1
  obtain ⟨a2, rfl, rfl, rfl, w2⟩ := open_int Try.underlying22 (hval 2 22 v2 rfl rfl) h2
  clear hA0 hval0
  simp only [List.append_nil] at hW'
  refine (walk a0 a1 a2 w0 w1 w2 W).mono fun e W' ⟨he, hg⟩ => ?_
  subst he
  exact ⟨_, rfl, post_of_same (pa := []) (pv := []) hW' (fun _ _ _ => (trodAll_cons_mk (shut_bool Try.underlying4 _) trodAll_mk0)) (fun sp _ => (trodAll_cons_mk (shut_int Try.underlying22 w0) (trodAll_cons_mk (shut_int Try.underlying22 w1) (trodAll_cons_mk (shut_int Try.underlying22 w2) trodAll_mk0)))) (fun _ _ => rfl) rfl
    (hg.frame _) hg.2.1 (ok_one (by kernel_rfl) rfl (okWide_bool_mk Try.underlying4 _))⟩

theorem over : Rows.fnComplementReversesOrderRow.holds Try.pinned (OpenSpec.ofChange Rows.fnComplementReversesOrderSpec) :=
  OpenClaim.holds_of_wide 5 Try.f5 rfl rfl rfl rfl rfl rfl rfl ⟨rfl, rfl, rfl, rfl, rfl⟩ rfl rfl rfl rfl rfl (by kernel_rfl) Try.func5 (by kernel_rfl)
    (of_decide_eq_true (by kernel_rfl)) (by unfold Func.isWrapper; first | (rw [if_pos (by decide +kernel)]; kernel_rfl) | (rw [if_neg (by decide +kernel)]; exact ⟨rfl, rfl⟩))
    (fun os started H enc _ => lifted os started H enc)

/-- ████ THE STATEMENT ████ -/
theorem proved : Rows.FnComplementReversesOrderSaid :=
  over
end Go.Proofs.Qxb6601809a.fnComplementReversesOrder
