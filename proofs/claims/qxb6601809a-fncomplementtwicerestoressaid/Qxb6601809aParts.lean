/-
  SEAT b6601809a: the contracts of the callees that the three laws share: ZZMakeShare (6), ZZShareParts (7), Complement (8), fraction (9).
-/
import Derived.Test.Qxb6601809aRows
import Derived.WalkKit
import Derived.ProofKit
import Derived.OpenShut
import Derived.Below
import Derived.RowKit3
import Derived.RegionTactic
import Derived.ChangeAlike
import Derived.Deep.QuietTactic
import Derived.BigQuiet
import Derived.Outline
namespace Go.Proofs.Qxb6601809a
open Go.ChangeShapes Go.WideShapes Go.ChangeAt Go.RowKit
set_option linter.unusedVariables false

theorem hide {p : Prop} (h : p) : Hid p := h
theorem unhide {p : Prop} (h : Hid p) : p := h

/-- w' is W with new blocks behind it: nothing old has turned. -/
def Gr (W w' : World) : Prop := Below W.heap.size W w' ∧ ∀ a, w'.frozen? a = W.frozen? a
theorem Gr.grown {W w' : World} (h : Gr W w') : Grown W w' := ⟨h.1.frame _, h.2, h.1.size⟩
theorem Gr.refl (W : World) : Gr W W := ⟨Below.refl _ _, fun _ => rfl⟩
theorem Gr.trans {a b c : World} (h : Gr a b) (k : Gr b c) : Gr a c := ⟨h.1.trans (k.1.mono h.1.size), fun x => (k.2 x).trans (h.2 x)⟩
theorem Gr.alloc {a b : World} (h : Gr a b) (c : Array Value) (t : TypeId) : Gr a (b.alloc (.cells c t)) :=
  ⟨h.1.alloc h.1.size _, fun x => (frozen?_alloc_cells b c t x).trans (h.2 x)⟩
theorem Gr.drew {a b : World} (h : Gr a b) : Gr a b.drew := ⟨h.1.drew, h.2⟩

theorem Gr.setCell {a b : World} (h : Gr a b) {p : Addr} (hp : a.heap.size ≤ p.block) (u : Value) : Gr a (b.setCell p u) :=
  ⟨h.1.setCell hp u, fun x => (World.frozen?_setCell (w := b) (a := p) (v := u) (b := x)).trans (h.2 x)⟩

/-- The whole as it is read: 0 is read as 1. -/
def whole (q : Int) : Int := if q = 0 then 1 else q
/-- The complement's part. -/
def cpl (p q : Int) : Int := IntKind.u64.wrap (whole q - p)

theorem make_any (p q : Int) (w : World) : Calls Try.prog 6 #[.int .u64 p, .int .u64 q] w fun e w' => e = .returned (.agg #[.int .u64 p, .int .u64 q]) ∧ Gr w w' := by
  go_enter Try.func6, Try.ntmps6
  go_wp2
  exact bodyPost_ret (v := .agg #[.int .u64 p, .int .u64 q]) (by simp [results, Try.results6, go_sem]) rfl ⟨rfl, (Gr.refl _).alloc _ _⟩

theorem parts_any (p q : Int) (w : World) : Calls Try.prog 7 #[.agg #[.int .u64 p, .int .u64 q]] w fun e w' => e = .returned (.tuple #[.int .u64 p, .int .u64 q]) ∧ Gr w w' := by
  go_enter Try.func7, Try.ntmps7
  go_wp2
  go_region
  all_goals go_wp2
  all_goals go_ret2
  all_goals exact ⟨rfl, ((Gr.refl _).alloc _ _).drew⟩

theorem fraction_any (p q : Int) (w : World) (hq : 0 ≤ q) (hq2 : q < 18446744073709551616) :
    Calls Try.prog 9 #[.agg #[.int .u64 p, .int .u64 q]] w fun e w' => e = .returned (.tuple #[.int .u64 p, .int .u64 (whole q)]) ∧ Gr w w' := by
  by_cases h : q = 0
  · subst h
    go_enter Try.func9, Try.ntmps9
    go_wp2
    go_region
    all_goals go_wp2
    all_goals go_ret2
    all_goals exact ⟨rfl, ((Gr.refl _).alloc _ _).drew⟩
  · have e : whole q = q := by unfold whole; rw [if_neg h]
    rw [e]
    have h1 : 1 ≤ q := by omega
    clear e h
    go_enter Try.func9, Try.ntmps9
    go_wp2
    go_region
    all_goals go_wp2
    all_goals go_ret2
    all_goals exact ⟨rfl, ((Gr.refl _).alloc _ _).drew⟩

theorem compl_any (p q : Int) (w : World) (hq : 0 ≤ q) (hq2 : q < 18446744073709551616) :
    Calls Try.prog 8 #[.agg #[.int .u64 p, .int .u64 q]] w fun e w' => e = .returned (.agg #[.int .u64 (cpl p q), .int .u64 (whole q)]) ∧ Gr w w' := by
  unfold cpl
  go_enter Try.func8, Try.ntmps8
  go_wp2_with fail
  refine (fraction_any p q _ hq hq2).mono ?_
  rintro e w1 ⟨rfl, hg⟩
  have hc0 : w1.cell? ⟨w.heap.size + 1, 0, none⟩ = some (.int .u64 0) := (hg.1.cell (p := ⟨w.heap.size + 1, 0, none⟩) (by simp)).trans (by simp [go_sem])
  have hc1 : w1.cell? ⟨w.heap.size + 1, 1, none⟩ = some (.int .u64 0) := (hg.1.cell (p := ⟨w.heap.size + 1, 1, none⟩) (by simp)).trans (by simp [go_sem])
  have hf0 : w1.frozen? ⟨w.heap.size + 1, 0, none⟩ = false := (hg.2 _).trans (by simp [go_sem])
  have hf1 : w1.frozen? ⟨w.heap.size + 1, 1, none⟩ = false := (hg.2 _).trans (by simp [go_sem])
  have hz : w.heap.size + 1 < w1.heap.size := by have := hg.1.size; simp at this; omega
  have G : Hid (Gr w w1) := (((Gr.refl w).alloc _ _).alloc _ _).trans hg
  clear hg
  go_wp2
  exact bodyPost_ret (v := .agg #[.int .u64 (IntKind.u64.wrap (whole q - p)), .int .u64 (whole q)]) (by simp [results, Try.results8, go_sem, hc0, hc1]) rfl
    ⟨rfl, ((unhide G).setCell (by simp) _).setCell (by simp) _⟩

/-! ### The plain arithmetic -/
theorem whole_bd {q : Int} (h0 : 0 ≤ q) (h1 : q < 18446744073709551616) : 1 ≤ whole q ∧ whole q < 18446744073709551616 := by unfold whole; split <;> omega
theorem whole_whole (q : Int) : whole (whole q) = whole q := by unfold whole; split <;> simp_all
theorem cpl_bd (p q : Int) : 0 ≤ cpl p q ∧ cpl p q < 18446744073709551616 := by unfold cpl; rw [IntKind.wrap_u64]; omega
theorem cpl_add {p q : Int} (h0 : 0 ≤ q) (h1 : q < 18446744073709551616) : IntKind.u64.wrap (cpl p q + p) = whole q := by
  have := whole_bd h0 h1
  unfold cpl; rw [IntKind.wrap_u64, IntKind.wrap_u64]; omega
theorem cpl_le {p q : Int} (hp : 0 ≤ p) (h : p ≤ whole q) (h0 : 0 ≤ q) (h1 : q < 18446744073709551616) : cpl p q = whole q - p := by
  have := whole_bd h0 h1
  unfold cpl; rw [IntKind.wrap_u64]; omega
theorem cpl_cpl {p q : Int} (hp : 0 ≤ p) (hp1 : p < 18446744073709551616) (h0 : 0 ≤ q) (h1 : q < 18446744073709551616) : cpl (cpl p q) (whole q) = p := by
  have := whole_bd h0 h1
  have e := whole_whole q
  unfold cpl at *; rw [IntKind.wrap_u64, IntKind.wrap_u64, e]; omega
end Go.Proofs.Qxb6601809a
