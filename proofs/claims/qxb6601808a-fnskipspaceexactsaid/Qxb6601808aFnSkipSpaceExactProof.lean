/-
  'Rows.FnSkipSpaceExactSaid' PROVED ('example.com/corral/corral/zzlaws_internal_openai_b1.FnSkipSpaceExact'). The frame is the one that the kit's program wrote (proof-skeleton.mjs); the walk and the lemma ahead of it are typed by hand.
-/
import Derived.Test.Qxb6601808aRows
import Derived.WalkKit
import Derived.ProofKit
import Derived.OpenShut
import Derived.ShutString
import Derived.ChangeOld
import Derived.Below
import Derived.Test.Qxb6601808aParts
namespace Go.Proofs.Qxb6601808a.fnSkipSpaceExact
open Go.ChangeShapes Go.WideShapes Go.ChangeAt Go.RowKit
open Go.ChangeMaps (open_string shut_string)
set_option linter.unusedVariables false

theorem own : ownKnob Try.prog.godebug = none := by kernel_rfl
theorem laidOut : laidOutB Try.prog = true := by kernel_rfl

/-- WHAT THE WALK IS TOLD OF A SLICE OF INTEGERS THAT CAME IN: it is nil; or it leads to a row of 'cap' cells, the numbers 'zs' (the first 'len' are its elements, the rest its spare room), each fitting its kind. -/
def IsRow (k : IntKind) (w : World) (a : Option Addr) (len cap : Nat) (zs : List Int) : Prop :=
  (a = none ∧ len = 0 ∧ cap = 0 ∧ zs = []) ∨
  ∃ x, a = some x ∧ len ≤ cap ∧ cap ≤ maxLen ∧ zs.length = cap ∧ (∀ i, i < zs.length → w.cell? (x.add i) = some (.int k (zs.getD i 0))) ∧ ∀ n ∈ zs, (Lit.int k n).wf = true

theorem bytes8 (a : Option Addr) (n c : Nat) (i : Int) (w : World) (h : n ≤ 1048576) :
    Calls Try.prog 8 #[.slice a n c, .int .i64 i] w fun e w' => e = .returned (.bool true) ∧ w' = w := by
  go_enter Try.func8, Try.ntmps8
  go_wp2
  go_ret
  exact ⟨rfl, rfl⟩

/-! ### STEP 1: THE WALK: the Go text returns true, AND WRITES NOTHING THAT WAS THERE: 'Below w.heap.size w w'' (Derived/Below.lean: '.refl', '.alloc', '.drew', '.setCell' at a new block, '.trans'). Open each 'IsRow' by 'rcases' AHEAD of 'go_enter'; part every test ahead of the walk. -/
set_option maxHeartbeats 1000000 in
theorem walk (a0 : Option Addr) (len0 cap0 : Nat) (z0 : List Int) (a1 : Int) (w : World) (w0 : IsRow .u8 w a0 len0 cap0 z0) (w1 : (Lit.int .i64 a1).wf = true) :
    Calls Try.prog 3 #[.slice a0 len0 cap0, .int .i64 a1] w fun e w' => e = .returned (.bool true) ∧ Below w.heap.size w w' := by
  have hlen : Hid ((a0 = none ∧ len0 = 0 ∧ cap0 = 0 ∧ z0 = []) ∨ ∃ x, a0 = some x ∧ len0 ≤ cap0 ∧ z0.length = cap0 ∧ (∀ i, i < z0.length → w.cell? (x.add i) = some (.int .u8 (z0.getD i 0)))) := by
    rcases w0 with h | ⟨x, h1, h2, h3, h4, h5, h6⟩
    · exact .inl h
    · exact .inr ⟨x, h1, h2, h4, h5⟩
  have hmax : (len0 : Int) ≤ 9223372036854775807 := by
    rcases w0 with ⟨_, h, _, _⟩ | ⟨x, h1, h2, h3, h4, h5, h6⟩
    · omega
    · unfold maxLen at h3; omega
  have hb1 := bounds_i64 w1
  clear w0 w1
  by_cases hbig : len0 ≤ 1048576
  · by_cases hneg : a1 < 0
    · go_enter Try.func3, Try.ntmps3
      go_wp2
      go_ret
      exact ⟨rfl, Below.refl _ _⟩
    · obtain ⟨i, rfl⟩ := Int.eq_ofNat_of_zero_le (show 0 ≤ a1 by omega)
      have d5 : decide ((1048576 : Int) < (len0 : Int)) = false := decide_eq_false (by omega)
      have d6 : decide ((i : Int) < 0) = false := decide_eq_false (by omega)
      go_enter Try.func3, Try.ntmps3
      go_wp2_with fail
      refine (bytes8 _ _ _ _ _ hbig).mono ?_
      rintro e w' ⟨rfl, rfl⟩
      go_wp2_with fail
      refine (clone_any hbig hlen.out).mono ?_
      rintro e w1 ⟨a', c', rfl, hB, hbel⟩
      have HB := hide hB
      have HBEL := hide hbel
      clear hB hbel
      generalize hzs : z0.take len0 = zs at HB
      clear hzs hlen
      go_wp2_with fail
      refine (zzskip_any a' len0 c' zs i w1 (unhide HB) (by omega)).mono ?_
      rintro e w2 ⟨⟨r, rfl, hr⟩, rfl⟩
      obtain ⟨hir, hri, hsp, hend⟩ := hr
      have HSP := hide hsp
      have HEND := hide hend
      clear hsp hend
      by_cases hil : len0 ≤ i
      · have hr : r = i := by omega
        subst hr
        clear hri
        go_wp2
        go_ret
        exact ⟨rfl, unhide HBEL⟩
      · have hrn : r ≤ len0 := by omega
        clear hri
        obtain ⟨hq1, hq2, hc⟩ := unhide HB
        clear hq1 hq2
        obtain ⟨b, off, rfl, hcell⟩ : ∃ b off, a' = some ⟨b, off, none⟩ ∧ ∀ k, k < len0 → w2.cell? ⟨b, off + k, none⟩ = some (.int .u8 (zs.getD k 0)) := by
          rcases hc with h | h
          · omega
          · exact h
        have HCELL := hide hcell
        clear hc hcell
        have d1 : decide (r < i) = false := decide_eq_false (by omega)
        have d3 : decide (len0 < r) = false := decide_eq_false (by omega)
        have d4 : decide ((len0 : Int) ≤ (i : Int)) = false := decide_eq_false (by omega)
        go_wp2
        go_loop [6] (fun v => ∃ k : Nat, i ≤ k ∧ k ≤ r ∧ v = .int .i64 k) (fun v => r - (intOf v).toNat)
        case atStart => exact ⟨i, Nat.le_refl _, hir, rfl⟩
        case round =>
          obtain ⟨k, hik, hkr, rfl⟩ := hrel
          by_cases hlt : k < r
          · have hck := unhide HCELL k (by omega)
            have hs := unhide HSP k hik hlt
            obtain ⟨z, hz⟩ : ∃ z, z = zs.getD k 0 := ⟨_, rfl⟩
            rw [← hz] at hck hs
            clear hz
            have HS := hide hs
            clear hs
            go_wp2_with (go_at_call 11; refine (isSpace_any _ _).mono ?_; rintro e w3 ⟨rfl, rfl⟩; rw [unhide HS])
            go_round
            case rel => exact ⟨k + 1, by omega, by omega, by go_num⟩
            case measure => simp [intOf]; omega
          · have hkr' : k = r := by omega
            subst hkr'
            by_cases hkn : k = len0
            · subst hkn
              go_wp2
              go_ret
              exact ⟨rfl, unhide HBEL⟩
            · have hck := unhide HCELL k (by omega)
              have hs := unhide HEND (by omega)
              obtain ⟨z, hz⟩ : ∃ z, z = zs.getD k 0 := ⟨_, rfl⟩
              rw [← hz] at hck hs
              clear hz
              have HS := hide hs
              clear hs
              have d2 : ((k : Int) == (len0 : Int)) = false := by simp; omega
              go_wp2_with (go_at_call 11; refine (isSpace_any _ _).mono ?_; rintro e w3 ⟨rfl, rfl⟩; rw [unhide HS])
              go_ret
              exact ⟨rfl, unhide HBEL⟩
  · go_enter Try.func3, Try.ntmps3
    go_wp2
    go_ret
    exact ⟨rfl, Below.refl _ _⟩

/-! ### THE ROW's STEP: WRITTEN OUT: LEAVE IT -/
set_option maxRecDepth 100000 in
theorem lifted (os : Os) (started : os.Started) (H : Type) (enc : TypeId × Value → H) :
    ReturnsInHanded {} Try.checked os 3 .any (Rows.fnSkipSpaceExactSpec.pre6 enc Try.prog Try.f3 Rows.fnSkipSpaceExactRow.domain false) (Rows.fnSkipSpaceExactSpec.post enc Try.prog Try.f3 false true false false) := by
  refine returnsInHanded_of_change (C := Try.checked) own started (by kernel_rfl) Try.func3
    (ChangeSpec.witness6 (enc := enc) (C := Try.checked) false ⟨#[], #[.slice none 0 0, .int .i64 0], []⟩ 8 (by kernel_rfl) (by kernel_rfl) (by kernel_rfl) (by kernel_rfl)) ?_
  intro W base args ds gs before hval0 hW hcnd _
  have hval : ∀ (j : Nat) t v, Try.f3.params[j]? = some t → args[j]? = some v → Value.okWide Try.prog W .any base t v := hval0
  have hW' := hW
  obtain ⟨p, q, hA0, hV, rfl, hfz, hnd⟩ := hW
  have hA : DataW.TrodAll enc Try.prog W 0 (fun _ => true) true Try.f3.params.toList args.toList ds p := hA0
  rw [Try.params3] at hA hval
  obtain ⟨v0, vs0, d0, ds0, p0, q0, hargs, rfl, rfl, h0, r0⟩ := trodAll_cons hA
  obtain ⟨v1, vs1, d1, ds1, p1, q1, rfl, rfl, rfl, h1, r1⟩ := trodAll_cons r0
  obtain ⟨rfl, rfl, rfl⟩ := trodAll_nil r1
  obtain rfl : args = #[v0, v1] := by cases args; simp_all
  obtain ⟨rfl, rfl⟩ := trodVars_none hV
  obtain ⟨a0, len0, cap0, rfl⟩ := okWide_slice Try.underlying22 (hval 0 22 v0 rfl rfl)
  have k0 := h0
  have lt0 : ∀ x ∈ p0, x.block < W.heap.size := by obtain ⟨m, hm⟩ := k0; exact DataW.trod_lt m _ _ _ hm
  obtain ⟨z0, w0⟩ : ∃ zs, IsRow .u8 W a0 len0 cap0 zs := by
    obtain ⟨fuel, hf⟩ := h0
    rcases open_ints Try.underlying22 Try.underlying5 (by kernel_rfl) hf with ⟨hcs, _⟩ | ⟨x, l, c, zs, hcs, _, hl, hm, hz, _, hcell, hwz⟩
    · simp [Value.cells] at hcs
      obtain ⟨rfl, rfl, rfl⟩ := hcs
      exact ⟨[], .inl ⟨rfl, rfl, rfl, rfl⟩⟩
    · simp [Value.cells] at hcs
      obtain ⟨rfl, rfl, rfl⟩ := hcs
      exact ⟨zs, .inr ⟨_, rfl, hl, hm, by simpa using hz, hcell, hwz⟩⟩
  obtain ⟨a1, rfl, rfl, rfl, w1⟩ := open_int Try.underlying3 (hval 1 3 v1 rfl rfl) h1
  clear hA0 hval0
  refine (walk a0 len0 cap0 z0 a1 W w0 w1).mono fun e W' ⟨he, bel⟩ => ?_
  subst he
  exact ⟨_, rfl, _, _, _, [], _, [], hW', trodAll_mk1 (shut_bool Try.underlying4 _), (trodAll_cons_mk (Below.trod laidOut (by kernel_rfl) (of_decide_eq_true (by kernel_rfl)) k0 bel lt0) (trodAll_cons_mk (shut_int Try.underlying3 w1) trodAll_mk0)), rfl, bel.frame _, fun h => by cases h⟩

theorem over : Rows.fnSkipSpaceExactRow.holds Try.pinned (OpenSpec.ofChange Rows.fnSkipSpaceExactSpec) :=
  OpenClaim.holds_of_wide 3 Try.f3 rfl rfl rfl rfl rfl rfl rfl ⟨rfl, rfl, rfl, rfl, rfl⟩ rfl rfl rfl rfl rfl (by kernel_rfl) Try.func3 (by kernel_rfl)
    (of_decide_eq_true (by kernel_rfl)) (by unfold Func.isWrapper; first | (rw [if_pos (by decide +kernel)]; kernel_rfl) | (rw [if_neg (by decide +kernel)]; exact ⟨rfl, rfl⟩))
    (fun os started H enc _ => lifted os started H enc)

/-- ████ THE STATEMENT ████ -/
theorem proved : Rows.FnSkipSpaceExactSaid := over
end Go.Proofs.Qxb6601808a.fnSkipSpaceExact
