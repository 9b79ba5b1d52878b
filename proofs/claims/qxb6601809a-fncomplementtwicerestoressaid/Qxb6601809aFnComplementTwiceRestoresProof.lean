/-
  'Rows.FnComplementTwiceRestoresSaid' PROVED ('example.com/unearned/unearned/zzlaws_money_b1.FnComplementTwiceRestores'). The frame is the one that the kit's program wrote (proof-skeleton.mjs); the walk is typed by hand.
-/
import Derived.Test.Qxb6601809aRows
import Derived.WalkKit
import Derived.ProofKit
import Derived.OpenShut
import Derived.ShutString
import Derived.Test.Qxb6601809aParts
namespace Go.Proofs.Qxb6601809a.fnComplementTwiceRestores
open Go.ChangeShapes Go.WideShapes Go.ChangeAt Go.RowKit
open Go.ChangeMaps (open_string shut_string)
set_option linter.unusedVariables false      -- a walk need not use every 'w<i>' (that an integer argument fits its kind)

theorem own : ownKnob Try.prog.godebug = none := by kernel_rfl

/-! ### STEP 1: THE WALK: the Go text returns true. 'Grown w w'': the world has at most new blocks (Derived/RowKit3.lean). Part the cases AHEAD of 'go_enter' where a test parts the walk; take each callee by a contract of your own. -/
set_option maxHeartbeats 1000000 in
theorem walk (a0 : Int) (a1 : Int) (w0 : (Lit.int .u64 a0).wf = true) (w1 : (Lit.int .u64 a1).wf = true) (w : World) :
    Calls Try.prog 4 #[.int .u64 a0, .int .u64 a1] w fun e w' => e = .returned (.bool true) ∧ Grown w w' := by
  have b0 := bounds_u64 w0
  have b1 := bounds_u64 w1
  clear w0 w1
  obtain ⟨p0, p1⟩ := b0
  obtain ⟨q0, q1⟩ := b1
  have hWb := whole_bd q0 (show a1 < 18446744073709551616 by omega)
  have HC := hide (fun w => compl_any a0 a1 w q0 (by omega))
  have HD : Hid (∀ w, Calls Try.prog 8 #[.agg #[.int .u64 (cpl a0 a1), .int .u64 (whole a1)]] w fun e w' => e = .returned (.agg #[.int .u64 a0, .int .u64 (whole a1)]) ∧ Gr w w') := fun w => by
    have := compl_any (cpl a0 a1) (whole a1) w (by omega) (by omega)
    rw [cpl_cpl p0 (by omega) q0 (by omega), whole_whole] at this
    exact this
  have hW : (a1 = 0 ∧ whole a1 = 1) ∨ (a1 ≠ 0 ∧ whole a1 = a1) := by
    by_cases h : a1 = 0
    · exact .inl ⟨h, by rw [h]; rfl⟩
    · exact .inr ⟨h, by unfold whole; rw [if_neg h]⟩
  generalize cpl a0 a1 = c at *
  generalize whole a1 = W at *
  go_enter Try.func4, Try.ntmps4
  go_wp2_with fail
  refine (make_any a0 a1 _).mono ?_
  rintro e w1 ⟨rfl, g1⟩
  have G1 := hide g1
  clear g1
  go_wp2_with fail
  refine (unhide HC _).mono ?_
  rintro e w2 ⟨rfl, g2⟩
  have G2 := hide g2
  clear g2
  go_wp2_with fail
  refine (unhide HD _).mono ?_
  rintro e w3 ⟨rfl, g3⟩
  have G3 := hide g3
  clear g3
  go_wp2_with fail
  refine (parts_any a0 W _).mono ?_
  rintro e w4 ⟨rfl, g4⟩
  have g23 := (unhide G2).trans (unhide G3)
  have g24 := (g23.alloc #[.int .u64 a0, .int .u64 W] 24).trans g4
  have cs0 : w4.cell? ⟨w1.heap.size, 0, none⟩ = some (.int .u64 a0) := (g24.1.cell (p := ⟨w1.heap.size, 0, none⟩) (by simp)).trans (by simp [go_sem])
  have cs1 : w4.cell? ⟨w1.heap.size, 1, none⟩ = some (.int .u64 a1) := (g24.1.cell (p := ⟨w1.heap.size, 1, none⟩) (by simp)).trans (by simp [go_sem])
  have cc0 : w4.cell? ⟨w3.heap.size, 0, none⟩ = some (.int .u64 a0) := (g4.1.cell (p := ⟨w3.heap.size, 0, none⟩) (by simp)).trans (by simp [go_sem])
  have cc1 : w4.cell? ⟨w3.heap.size, 1, none⟩ = some (.int .u64 W) := (g4.1.cell (p := ⟨w3.heap.size, 1, none⟩) (by simp)).trans (by simp [go_sem])
  have fin : Hid (Grown w w4) := (((unhide G1).alloc _ _).trans g24).grown
  clear g4 g23 g24 G1 G2 G3 HC HD
  rcases hW with ⟨rfl, rfl⟩ | ⟨hne, rfl⟩
  · go_wp2
    go_ret
    exact ⟨rfl, unhide fin⟩
  · have hq : (W == 0) = false := by simp [hne]
    go_wp2
    go_ret
    exact ⟨rfl, unhide fin⟩

/-! ### THE ROW's STEP: WRITTEN OUT: LEAVE IT -/
set_option maxRecDepth 100000 in
theorem lifted (os : Os) (started : os.Started) (H : Type) (enc : TypeId × Value → H) :
    ReturnsInHanded {} Try.checked os 4 .any (Rows.fnComplementTwiceRestoresSpec.pre6 enc Try.prog Try.f4 Rows.fnComplementTwiceRestoresRow.domain false) (Rows.fnComplementTwiceRestoresSpec.post enc Try.prog Try.f4 false true false false) := by
  refine returnsInHanded_of_change (C := Try.checked) own started (by kernel_rfl) Try.func4
    (ChangeSpec.witness6 (enc := enc) (C := Try.checked) false ⟨#[], #[.int .u64 0, .int .u64 0], []⟩ 8 (by kernel_rfl) (by kernel_rfl) (by kernel_rfl) (by kernel_rfl)) ?_
  intro W base args ds gs before hval0 hW hcnd _
  have hval : ∀ (j : Nat) t v, Try.f4.params[j]? = some t → args[j]? = some v → Value.okWide Try.prog W .any base t v := hval0
  have hW' := hW
  obtain ⟨p, q, hA0, hV, rfl, hfz, hnd⟩ := hW
  have hA : DataW.TrodAll enc Try.prog W 0 (fun _ => true) true Try.f4.params.toList args.toList ds p := hA0
  rw [Try.params4] at hA hval
  obtain ⟨v0, vs0, d0, ds0, p0, q0, hargs, rfl, rfl, h0, r0⟩ := trodAll_cons hA
  obtain ⟨v1, vs1, d1, ds1, p1, q1, rfl, rfl, rfl, h1, r1⟩ := trodAll_cons r0
  obtain ⟨rfl, rfl, rfl⟩ := trodAll_nil r1
  obtain rfl : args = #[v0, v1] := by cases args; simp_all
  obtain ⟨rfl, rfl⟩ := trodVars_none hV
  obtain ⟨a0, rfl, rfl, rfl, w0⟩ := open_int Try.underlying22 (hval 0 22 v0 rfl rfl) h0
  obtain ⟨a1, rfl, rfl, rfl, w1⟩ := open_int Try.underlying22 (hval 1 22 v1 rfl rfl) h1
  clear hA0 hval0
  simp only [List.append_nil] at hW'
  refine (walk a0 a1 w0 w1 W).mono fun e W' ⟨he, hg⟩ => ?_
  subst he
  exact ⟨_, rfl, post_of_same (pa := []) (pv := []) hW' (fun _ _ _ => (trodAll_cons_mk (shut_bool Try.underlying4 _) trodAll_mk0)) (fun sp _ => (trodAll_cons_mk (shut_int Try.underlying22 w0) (trodAll_cons_mk (shut_int Try.underlying22 w1) trodAll_mk0))) (fun _ _ => rfl) rfl
    (hg.frame _) hg.2.1 (ok_one (by kernel_rfl) rfl (okWide_bool_mk Try.underlying4 _))⟩

theorem over : Rows.fnComplementTwiceRestoresRow.holds Try.pinned (OpenSpec.ofChange Rows.fnComplementTwiceRestoresSpec) :=
  OpenClaim.holds_of_wide 4 Try.f4 rfl rfl rfl rfl rfl rfl rfl ⟨rfl, rfl, rfl, rfl, rfl⟩ rfl rfl rfl rfl rfl (by kernel_rfl) Try.func4 (by kernel_rfl)
    (of_decide_eq_true (by kernel_rfl)) (by unfold Func.isWrapper; first | (rw [if_pos (by decide +kernel)]; kernel_rfl) | (rw [if_neg (by decide +kernel)]; exact ⟨rfl, rfl⟩))
    (fun os started H enc _ => lifted os started H enc)

/-- ████ THE STATEMENT ████ -/
theorem proved : Rows.FnComplementTwiceRestoresSaid :=
  over
end Go.Proofs.Qxb6601809a.fnComplementTwiceRestores
