/-
  SEAT b6602065aD: strconv.FormatUint at base 10 (16, 13) walked over the shelf's contracts for its three callees (after the kit's own walk over FormatInt), and ETag (7).
-/
import Derived.Test.Qxb6602065aDoorRows
import Derived.Test.Qxb6602065aDoorShelf
import Derived.Lib.AppendIntMem
import Derived.Lib.ItoaLen
import Derived.Lib.Walk
import Derived.WalkKit
import Derived.ProofKit
import Derived.OpenShut
import Derived.BigCall
import Derived.BigGuard
import Derived.Outline
namespace Go.Proofs.Qxb6602065aDoor
open Go.ChangeShapes Go.WideShapes Go.ChangeAt Go.RowKit Go.Sort
set_option linter.unusedVariables false

theorem hide {p : Prop} (h : p) : Hid p := h
theorem unhide {p : Prop} (h : Hid p) : p := h

/-- The library's table of powers of ten, by its name in the row. -/
def powName : String := Rows.fnFormatTagsExactByParseRow.named.headD ""
def Pows (w : World) : Prop := Lib.TabIs Tryd.prog w powName .u64 Lib.pow10Tab

theorem numDigits_any (u : Nat) (h1 : 1 ≤ u) (h2 : u < 18446744073709551616) (w : World) (htab : Pows w) :
    Calls Tryd.prog 22 #[.int .u64 u] w fun e w' => e = .returned (.int .i64 (Lib.nDigits u)) ∧ w' = w := Any.internal_strconv_numDigits Tryd.laysM284 u h1 h2 w htab

theorem Pows.alloc {w : World} (h : Pows w) (o : Obj) : Pows (w.alloc o) := Lib.tabIs_alloc h o

set_option maxHeartbeats 6400000 in
set_option maxRecDepth 100000 in
theorem formatUint_in (u : Nat) (hu64 : u < 18446744073709551616) (w : World) (htab : Pows w) :
    Calls Tryd.prog 16 #[.int .u64 u, .int .i64 10] w fun e w' => e = .returned (.string ⟨(Lib.decDigits u).toArray⟩) ∧ Below w.heap.size w w' := by
  by_cases hs : u < 100
  · have iu : (u : Int) < 100 := by omega
    go_enter Tryd.func16, Tryd.ntmps16
    go_wp2_with (go_at_call 21; refine (Tryd.internal_strconv_small u hs _).mono ?_; rintro e w' ⟨rfl, rfl⟩)
    go_ret
    exact ⟨rfl, Below.refl _ _⟩
  · have hu1 : 1 ≤ u := by omega
    have hnd20 : Lib.nDigits u ≤ 20 := Lib.nDigits_le20 u hu64
    have hal : Tryd.prog.arrayLen 45 = 24 := by simp [Program.arrayLen, Tryd.underlying45]
    have hsl : ∀ W, (Instr.sliceAt 45 (.pointer (some ⟨w.heap.size, 0, none⟩)) none (some (.int .i64 (Lib.nDigits u : Int))) none).run Tryd.prog W = .ok (.slice (some ⟨w.heap.size, 0, none⟩) (Lib.nDigits u) 24) W := fun W => by
      rw [run_sliceAt_array_h W 45 ⟨w.heap.size, 0, none⟩ (by simp [Program.arrayLen, Program.elem, Tryd.underlying45]) .i64 (Lib.nDigits u : Int) (by omega) (by rw [hal]; omega)]
      go_simp
    have hH0 := Lib.holds_zero0 w 45 (Lib.nDigits u) (by omega)
    have hfmt := Tryd.internal_strconv_formatBase10 w.heap.size 0 24 u (Array.replicate (Lib.nDigits u) 0) (w.alloc (.cells Lib.zeros24 45)) hH0 (by rw [Array.size_replicate]; exact Lib.lt_pow_nDigits u) hu64 (by rw [Array.size_replicate]; omega)
    rw [Array.size_replicate] at hfmt
    have HH0 := Lib.hid hH0
    have iu : (100 : Int) ≤ (u : Int) := by omega
    clear hH0 hal
    have HTAB := hide htab
    clear htab
    have HFMT := hide hfmt
    clear hfmt
    go_enter Tryd.func16, Tryd.ntmps16
    go_wp2_with fail
    refine (numDigits_any u hu1 hu64 _ ((unhide HTAB).alloc _)).mono ?_
    rintro e w' ⟨rfl, rfl⟩
    go_wp2_with fail
    refine (unhide HFMT).mono ?_
    rintro e w' ⟨rfl, k, v', dk, rfl, hF⟩
    have hcv : (convert 48 9 (.slice (some ⟨w.heap.size, 0, none⟩) (Lib.nDigits u) 24)).run Tryd.prog ((putRow (fun (b : UInt8) => Value.int .u8 (b.toNat : Int)) (w.alloc (.cells Lib.zeros24 45)) w.heap.size 0 dk).drewN k) = .ok (.string ⟨(Lib.decDigits u).toArray⟩) ((putRow (fun (b : UInt8) => Value.int .u8 (b.toNat : Int)) (w.alloc (.cells Lib.zeros24 45)) w.heap.size 0 dk).drewN k) := by
      have h := run_convert_bytes_back (P := Tryd.prog) ((putRow (fun (b : UInt8) => Value.int .u8 (b.toNat : Int)) (w.alloc (.cells Lib.zeros24 45)) w.heap.size 0 dk).drewN k) 48 9 5 ⟨w.heap.size, 0, none⟩ 24 (Lib.decDigits u) Tryd.underlying48 Tryd.underlying5 Tryd.underlying9 (fun j hj => by
        rw [Lib.row_is_numeral hF j hj, Lib.add_plain, World.cell?_drewN]
        exact cell?_putRow (fun (b : UInt8) => Value.int .u8 (b.toNat : Int)) _ w.heap.size 0 _ dk HH0.out (by rw [hF.size, Array.size_replicate]) j (by rw [hF.size]; rw [Lib.decDigits_length] at hj; exact hj))
      rw [Lib.decDigits_length] at h
      exact h
    go_wp2
    go_ret
    obtain ⟨os, eo⟩ := Lib.fin_at w (.cells Lib.zeros24 45) dk k 0
    refine ⟨rfl, ?_⟩
    rw [eo]
    exact Lib.below_grow _ w (Nat.le_refl _) k os

theorem formatUint_any (u : Nat) (hu64 : u < 18446744073709551616) (w : World) (htab : Pows w) :
    Calls Tryd.prog 13 #[.int .u64 u, .int .i64 10] w fun e w' => e = .returned (.string ⟨(Lib.decDigits u).toArray⟩) ∧ Below w.heap.size w w' := by
  have HTAB := hide htab
  clear htab
  go_enter Tryd.func13, Tryd.ntmps13
  go_wp2_with fail
  refine (formatUint_in u hu64 w (unhide HTAB)).mono ?_
  rintro e w' ⟨rfl, hb⟩
  have HB := hide hb
  clear hb
  go_wp2
  go_ret
  exact ⟨rfl, unhide HB⟩

/-- A version's tag: its numeral in double quotes. -/
def tagL (u : Nat) : List UInt8 := 34 :: (Lib.decDigits u ++ [34])
def tagS (u : Nat) : ByteArray := ⟨(tagL u).toArray⟩
theorem tagS_eq (u : Nat) : (⟨#[34]⟩ ++ ⟨(Lib.decDigits u).toArray⟩ ++ ⟨#[34]⟩ : ByteArray) = tagS u := by
  apply ByteArray.ext
  simp [tagS, tagL]

theorem etag_any (u : Nat) (hu64 : u < 18446744073709551616) (w : World) (htab : Pows w) :
    Calls Tryd.prog 7 #[.int .u64 u] w fun e w' => e = .returned (.string (tagS u)) ∧ Below w.heap.size w w' := by
  have HTAB := hide htab
  have hnd : (⟨(Lib.decDigits u).toArray⟩ : ByteArray).size ≤ 20 := by
    have : (⟨(Lib.decDigits u).toArray⟩ : ByteArray).size = (Lib.decDigits u).length := by simp [ByteArray.size]
    rw [this, Lib.decDigits_length]
    exact Lib.nDigits_le20 u hu64
  rw [← tagS_eq u]
  clear htab
  generalize hD : (⟨(Lib.decDigits u).toArray⟩ : ByteArray) = D at *
  have HD := hide hD
  clear hD
  go_enter Tryd.func7, Tryd.ntmps7
  go_wp2_with fail
  refine (formatUint_any u hu64 w (unhide HTAB)).mono ?_
  rintro e w' ⟨rfl, hb⟩
  have HB := hide hb
  clear hb
  rw [unhide HD]
  go_wp2
  go_ret
  exact ⟨rfl, unhide HB⟩

theorem pow_at : Tryd.prog.globalNamed powName = some 0 := by kernel_rfl
theorem Pows.below {w w' : World} (h : Pows w) {B : Nat} (hB : 0 < B) (hb : Below B w w') : Pows w' := by
  unfold Pows Lib.TabIs at *
  unfold World.var? at *
  rw [pow_at] at *
  simp only [Option.bind_some] at *
  rw [hb.block 0 hB]
  exact h
theorem Pows.size {w : World} (h : Pows w) : 0 < w.heap.size := by
  rcases Nat.eq_zero_or_pos w.heap.size with h0 | h0
  · unfold Pows Lib.TabIs World.var? at h
    rw [pow_at] at h
    simp only [Option.bind_some] at h
    rw [Array.getElem?_eq_none (by omega)] at h
    simp at h
  · exact h0
end Go.Proofs.Qxb6602065aDoor
