/-
  SEAT b6601808a: the contracts of the callees that the three laws share: sjClone (9), skipSpace (22), ZZskipSpace (10), sjIsSpace (11).
-/
import Derived.Test.Qxb6601808aRows
import Derived.WalkKit
import Derived.ProofKit
import Derived.OpenShut
import Derived.Below
import Derived.Deep.OwnRows
import Derived.Lib.SliceRun
import Derived.Outline
namespace Go.Proofs.Qxb6601808a
open Go.ChangeShapes Go.WideShapes Go.ChangeAt Go.RowKit
set_option linter.unusedVariables false

/-- A fact kept from the walk. -/
theorem hide {p : Prop} (h : p) : Hid p := h
theorem unhide {p : Prop} (h : Hid p) : p := h

theorem info5 : (Try.prog.info? 5).map (fun i => (i.zero, i.size, i.bytes)) = some (some (.int .u8 0), 1, 1) := by kernel_rfl

/-- A slice of bytes that can be read: 'zs' its elements. -/
def Body (w : World) (a : Option Addr) (n : Nat) (zs : List Int) : Prop :=
  zs.length = n ∧ n ≤ 1048576 ∧ (n = 0 ∨ ∃ b off, a = some ⟨b, off, none⟩ ∧ ∀ k, k < n → w.cell? ⟨b, off + k, none⟩ = some (.int .u8 (zs.getD k 0)))

set_option maxHeartbeats 1000000 in
/-- sjClone of a slice that is not nil. -/
theorem clone_some (x : Addr) (n c : Nat) (zs : List Int) (w : World) (hB : Body w (some x) n zs) (hx : n ≠ 0 → x.block < w.heap.size) :
    Calls Try.prog 9 #[.slice (some x) n c] w fun e w' => (∃ c', e = .returned (.slice (some ⟨w.heap.size, 0, none⟩) n c')) ∧ Body w' (some ⟨w.heap.size, 0, none⟩) n zs ∧ Below w.heap.size w w' := by
  obtain ⟨hz, hn, hc⟩ := hB
  have hmk := run_make_row' (P := Try.prog) 22 5 (.int .u8 0) 1 Try.underlying22 info5 rfl .i64 .i64 n (by omega) (by omega)
  have hnil := fun (w : World) (a : Option Addr) (n c : Nat) => Lib.run_eql_slice_nil (P := Try.prog) w 22 5 a n c 0 0 Try.underlying22
  have HC : Hid (∀ k, k < n → x = ⟨x.block, x.off, none⟩ ∧ w.cell? ⟨x.block, x.off + k, none⟩ = some (.int .u8 (zs.getD k 0))) := by
    intro k hk
    rcases hc with h | ⟨b, off, h, hcell⟩
    · omega
    · simp at h; subst h; exact ⟨rfl, hcell k hk⟩
  have HX : Hid (n ≠ 0 → x.block < w.heap.size) := hx
  have HZ : Hid (zs.length = n) := hz
  clear hc hx hz
  go_enter Try.func9, Try.ntmps9
  go_wp2
  go_loopw [4] (fun v wr => ∃ k : Nat, k ≤ n ∧ v = .int .i64 k ∧ wr.rowIs w.heap.size 5 n (fun j => if j < k then .int .u8 (zs.getD j 0) else .int .u8 0) ∧ Below w.heap.size w wr) (fun v _ => n - (intOf v).toNat)
  case atStart =>
    exact ⟨0, Nat.zero_le _, rfl, (World.rowIs_made w (.int .u8 0) n 5).congr (fun i _ => by simp), (Below.refl _ _).alloc (Nat.le_refl _) _⟩
  case round =>
    obtain ⟨k, hk, rfl, hrow, hbel⟩ := hrel
    by_cases hlt : k < n
    · obtain ⟨hxe, hcx⟩ := HC.out k hlt
      have hxb := HX.out (by omega)
      obtain ⟨b, off, sp⟩ := x
      simp only [Addr.mk.injEq, true_and] at hxe
      subst hxe
      have hcr : wr.cell? ⟨b, off + k, none⟩ = some (.int .u8 (zs.getD k 0)) := (hbel.cell (p := ⟨b, off + k, none⟩) hxb).trans hcx
      obtain ⟨z, hzz⟩ : ∃ z, z = zs.getD k 0 := ⟨_, rfl⟩
      rw [← hzz] at hcr
      have HZZ : Hid (z = zs.getD k 0) := hzz
      have hcB : wr.cell? ⟨w.heap.size, k, none⟩ = some (.int .u8 0) := by
        have := hrow.cell hlt
        simpa using this
      have hfB : wr.frozen? ⟨w.heap.size, k, none⟩ = false := hrow.frozen k
      have HROW := hide hrow
      have HBEL := hide hbel
      clear hrow hbel hcx hzz
      go_wp2
      go_roundw
      case rel =>
        refine ⟨k + 1, by omega, by go_num, ((unhide HROW).set k _).congr (fun i hi => ?_), (unhide HBEL).setCell (Nat.le_refl _) _⟩
        rw [HZZ.out]
        by_cases h1 : i = k
        · simp [h1]
        · by_cases h2 : i < k
          · simp [h1, h2, show i < k + 1 by omega]
          · simp [h1, h2, show ¬ i < k + 1 by omega]
      case measure => simp [intOf]; omega
    · have HROW := hide hrow
      have HBEL := hide hbel
      clear hrow hbel
      go_wp2
      go_ret
      refine ⟨⟨n, rfl⟩, ⟨HZ.out, hn, .inr ⟨w.heap.size, 0, rfl, fun j hj => ?_⟩⟩, unhide HBEL⟩
      rw [Nat.zero_add, (unhide HROW).cell hj, if_pos (by omega)]

/-- sjClone of nil: nil. -/
theorem clone_nil (w : World) :
    Calls Try.prog 9 #[.slice none 0 0] w fun e w' => e = .returned (.slice none 0 0) ∧ w' = w := by
  have hnil := fun (w : World) (a : Option Addr) (n c : Nat) => Lib.run_eql_slice_nil (P := Try.prog) w 22 5 a n c 0 0 Try.underlying22
  go_enter Try.func9, Try.ntmps9
  go_wp2
  go_ret
  exact ⟨rfl, rfl⟩

/-- What skipSpace answers: the first place from i on that is the end or no white space. -/
def isSp (z : Int) : Bool := z == 32 || z == 9 || z == 10 || z == 13
def SkipIs (zs : List Int) (n i r : Nat) : Prop :=
  i ≤ r ∧ (r = i ∨ r ≤ n) ∧ (∀ k, i ≤ k → k < r → isSp (zs.getD k 0) = true) ∧ (r < n → isSp (zs.getD r 0) = false)

set_option maxHeartbeats 1000000 in
theorem skip_any (a : Option Addr) (n c : Nat) (zs : List Int) (i : Nat) (w : World) (hB : Body w a n zs) (hi : (i : Int) ≤ 9223372036854775807) :
    Calls Try.prog 22 #[.slice a n c, .int .i64 i] w fun e w' => (∃ r : Nat, e = .returned (.int .i64 r) ∧ SkipIs zs n i r) ∧ w' = w := by
  obtain ⟨hz, hn, hc⟩ := hB
  have HC : Hid (∀ k, k < n → ∃ b off, a = some ⟨b, off, none⟩ ∧ w.cell? ⟨b, off + k, none⟩ = some (.int .u8 (zs.getD k 0))) := by
    intro k hk
    rcases hc with h | ⟨b, off, h, hcell⟩
    · omega
    · exact ⟨b, off, h, hcell k hk⟩
  have HZ : Hid (zs.length = n) := hz
  clear hc hz
  go_enter Try.func22, Try.ntmps22
  go_wp2
  go_loop [1] (fun v => ∃ k : Nat, i ≤ k ∧ (k = i ∨ k ≤ n) ∧ v = .int .i64 k ∧ (∀ j, i ≤ j → j < k → isSp (zs.getD j 0) = true)) (fun v => n - (intOf v).toNat)
  case atStart => exact ⟨i, Nat.le_refl _, .inl rfl, rfl, fun j h1 h2 => by omega⟩
  case round =>
    obtain ⟨k, hik, hkn, rfl, hsp⟩ := hrel
    have HSP := hide hsp
    have HKN := hide hkn
    have hk9 : (k : Int) ≤ 9223372036854775807 := by omega
    clear hsp hkn
    by_cases hlt : k < n
    · obtain ⟨b, off, rfl, hcell⟩ := HC.out k hlt
      obtain ⟨z, hzz⟩ : ∃ z, z = zs.getD k 0 := ⟨_, rfl⟩
      rw [← hzz] at hcell
      have HZZ : Hid (z = zs.getD k 0) := hzz
      clear hzz
      by_cases hs : z = 32 ∨ z = 9 ∨ z = 10 ∨ z = 13
      · have hsp : isSp z = true := by unfold isSp; rcases hs with rfl | rfl | rfl | rfl <;> rfl
        have HS := hide hsp
        clear hsp
        rcases hs with rfl | rfl | rfl | rfl
        all_goals
          go_wp2
          go_round
          case rel =>
            refine ⟨k + 1, by omega, .inr (by omega), by go_num, fun j h1 h2 => ?_⟩
            by_cases hj : j = k
            · subst hj; rw [← HZZ.out]; exact unhide HS
            · exact unhide HSP j h1 (by omega)
          case measure => simp [intOf]; omega
      · have hsp : isSp z = false := by unfold isSp; simp; omega
        have HS := hide hsp
        clear hsp
        have h1 : (z == 32) = false := by simp; omega
        have h2 : (z == 9) = false := by simp; omega
        have h3 : (z == 10) = false := by simp; omega
        have h4 : (z == 13) = false := by simp; omega
        go_wp2
        go_ret
        exact ⟨⟨k, rfl, hik, unhide HKN, unhide HSP, fun _ => by rw [← HZZ.out]; exact unhide HS⟩, rfl⟩
    · go_wp2
      go_ret
      exact ⟨⟨k, rfl, hik, unhide HKN, unhide HSP, fun h => absurd h hlt⟩, rfl⟩

theorem zzskip_any (a : Option Addr) (n c : Nat) (zs : List Int) (i : Nat) (w : World) (hB : Body w a n zs) (hi : (i : Int) ≤ 9223372036854775807) :
    Calls Try.prog 10 #[.slice a n c, .int .i64 i] w fun e w' => (∃ r : Nat, e = .returned (.int .i64 r) ∧ SkipIs zs n i r) ∧ w' = w := by
  go_enter Try.func10, Try.ntmps10
  go_wp2_with (go_at_call 22; refine (skip_any a n c zs i w hB hi).mono ?_; rintro e w' ⟨⟨r, rfl, hr⟩, rfl⟩)
  go_ret
  exact ⟨⟨_, rfl, by assumption⟩, rfl⟩

theorem isSpace_any (z : Int) (w : World) :
    Calls Try.prog 11 #[.int .u8 z] w fun e w' => e = .returned (.bool (isSp z)) ∧ w' = w := by
  by_cases h1 : z = 32
  · subst h1
    go_enter Try.func11, Try.ntmps11
    go_wp2
    go_ret
    exact ⟨rfl, rfl⟩
  by_cases h2 : z = 9
  · subst h2
    go_enter Try.func11, Try.ntmps11
    go_wp2
    go_ret
    exact ⟨rfl, rfl⟩
  by_cases h3 : z = 10
  · subst h3
    go_enter Try.func11, Try.ntmps11
    go_wp2
    go_ret
    exact ⟨rfl, rfl⟩
  by_cases h4 : z = 13
  · subst h4
    go_enter Try.func11, Try.ntmps11
    go_wp2
    go_ret
    exact ⟨rfl, rfl⟩
  have e : isSp z = false := by unfold isSp; simp; omega
  have HE := hide e
  clear e
  have e1 : (z == 32) = false := by simp; omega
  have e2 : (z == 9) = false := by simp; omega
  have e3 : (z == 10) = false := by simp; omega
  have e4 : (z == 13) = false := by simp; omega
  go_enter Try.func11, Try.ntmps11
  go_wp2
  go_ret
  exact ⟨by rw [unhide HE]; rfl, rfl⟩

/-- From what the frame tells of a slice that came in to 'Body'. -/
theorem body_of {w : World} {x : Addr} {len cap : Nat} {z0 : List Int} (hl : len ≤ cap) (hz : z0.length = cap) (hn : len ≤ 1048576)
    (hcell : ∀ i, i < z0.length → w.cell? (x.add i) = some (.int .u8 (z0.getD i 0))) : Body w (some x) len (z0.take len) ∧ (len ≠ 0 → x.block < w.heap.size) := by
  obtain ⟨b, off, spot⟩ := x
  by_cases h0 : len = 0
  · exact ⟨⟨by simp; omega, hn, .inl h0⟩, fun h => absurd h0 h⟩
  · have hc := hcell 0 (by omega)
    have hspot : spot = none := by simpa [Addr.add] using World.cell?_spot hc
    subst hspot
    refine ⟨⟨by simp; omega, hn, .inr ⟨b, off, rfl, fun k hk => ?_⟩⟩, fun _ => ?_⟩
    · have := hcell k (by omega)
      rw [show (z0.take len).getD k 0 = z0.getD k 0 by simp [List.getD_eq_getElem?_getD, hk]]
      rw [← add_plain]; exact this
    · show b < w.heap.size
      by_cases hb : b < w.heap.size
      · exact hb
      · have e : w.heap[b]? = none := Array.getElem?_eq_none (by omega)
        simp [World.cell?, Addr.add, e] at hc

/-- sjClone, whatever came in (its length within the law's bound). -/
theorem clone_any {a0 : Option Addr} {len cap : Nat} {z0 : List Int} {w : World} (hn : len ≤ 1048576)
    (h : (a0 = none ∧ len = 0 ∧ cap = 0 ∧ z0 = []) ∨ ∃ x, a0 = some x ∧ len ≤ cap ∧ z0.length = cap ∧ (∀ i, i < z0.length → w.cell? (x.add i) = some (.int .u8 (z0.getD i 0)))) :
    Calls Try.prog 9 #[.slice a0 len cap] w fun e w' => ∃ a' c', e = .returned (.slice a' len c') ∧ Body w' a' len (z0.take len) ∧ Below w.heap.size w w' := by
  rcases h with ⟨rfl, rfl, rfl, rfl⟩ | ⟨x, rfl, hl, hz, hcell⟩
  · refine (clone_nil w).mono ?_
    rintro e w' ⟨rfl, rfl⟩
    exact ⟨none, 0, rfl, ⟨rfl, by omega, .inl rfl⟩, Below.refl _ _⟩
  · obtain ⟨h1, h2⟩ := body_of hl hz hn hcell
    refine (clone_some x len cap _ w h1 h2).mono ?_
    rintro e w' ⟨⟨c', rfl⟩, hb, hbel⟩
    exact ⟨_, c', rfl, hb, hbel⟩
end Go.Proofs.Qxb6601808a
