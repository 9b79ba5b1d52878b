/-
  SEAT b6602065aD: formatTags (15) and ZZformatTags (10): the tags joined by commas.
-/
import Derived.Test.Qxb6602065aDoorFormat
import Derived.Deep.OwnRows
import Derived.Lib.Join
namespace Go.Proofs.Qxb6602065aDoor
open Go.ChangeShapes Go.WideShapes Go.ChangeAt Go.RowKit Go.Sort
set_option linter.unusedVariables false

theorem info9 : (Tryd.prog.info? 9).map (fun i => (i.zero, i.size, i.bytes)) = some (some (.string ByteArray.empty), 1, 16) := by kernel_rfl

/-- The header: the tags, a comma between. -/
def header (vs : List Nat) : List UInt8 := Lib.join (vs.map tagL) [44]

theorem tagL_length (u : Nat) (h : u < 18446744073709551616) : (tagL u).length ≤ 22 := by
  have := Lib.nDigits_le20 u h
  simp [tagL, Lib.decDigits_length]
  omega
theorem joinTail_length : ∀ vs : List Nat, (∀ v ∈ vs, v < 18446744073709551616) → (Lib.joinTail [44] (vs.map tagL)).length ≤ 23 * vs.length
  | [], _ => by simp [Lib.joinTail]
  | v :: r, h => by
    have h1 := tagL_length v (h v (by simp))
    have h2 := joinTail_length r (fun x hx => h x (by simp [hx]))
    have e : Lib.joinTail [44] ((v :: r).map tagL) = 44 :: (tagL v ++ Lib.joinTail [44] (r.map tagL)) := by simp [Lib.joinTail]
    rw [e]
    simp only [List.length_cons, List.length_append]
    omega
theorem header_length (vs : List Nat) (h : ∀ v ∈ vs, v < 18446744073709551616) : (header vs).length ≤ 23 * vs.length := by
  cases vs with
  | nil => simp [header, Lib.join_nil]
  | cons v r =>
    have h1 := tagL_length v (h v (by simp))
    have h2 := joinTail_length r (fun x hx => h x (by simp [hx]))
    unfold header
    rw [List.map_cons, Lib.join_cons]
    simp only [List.length_cons, List.length_append]
    omega

/-- strings.Join of the tags. -/
theorem join_any (bk n c : Nat) (vs : List Nat) (w : World) (hvs : vs.length = n) (hv : ∀ v ∈ vs, v < 18446744073709551616) (hn : n ≤ 131072) (hc : n ≤ c)
    (hcells : ∀ j, j < n → w.cell? ⟨bk, j, none⟩ = some (.string (tagS (vs.getD j 0)))) (hbk : bk < w.heap.size) :
    Calls Tryd.prog 20 #[.slice (some ⟨bk, 0, none⟩) n c, .string ⟨#[44]⟩] w fun e w' => e = .returned (.string ⟨(header vs).toArray⟩) ∧ Below w.heap.size w w' := by
  have e1 : (vs.map tagS).map (·.data.toList) = vs.map tagL := by
    rw [List.map_map]
    apply List.map_congr_left
    intro v _
    simp [tagS]
  have h := Tryd.strings_Join bk 0 c (vs.map tagS) ⟨#[44]⟩ w (fun j x hj => by
      have hjn : j < n := by
        have := (List.getElem?_eq_some_iff.1 hj).1
        simp at this; omega
      rw [Nat.zero_add, hcells j hjn]
      rw [List.getElem?_map, List.getElem?_eq_getElem (by omega)] at hj
      simp at hj
      rw [List.getD_eq_getElem?_getD, List.getElem?_eq_getElem (by omega)]
      simp [hj]) hbk (by simp; omega) (by simp; omega) (by rw [e1]; have := header_length vs hv; unfold header at this; simp; omega)
  rw [e1, List.length_map, hvs] at h
  exact h

/-- formatTags of Any. -/
theorem tags_star (p : Nat) (w : World) (h0 : w.cell? ⟨p, 0, none⟩ = some (.bool true)) :
    Calls Tryd.prog 15 #[.pointer (some ⟨p, 0, none⟩)] w fun e w' => e = .returned (.string ⟨#[42]⟩) ∧ w' = w := by
  go_enter Tryd.func15, Tryd.ntmps15
  go_wp2
  go_ret
  exact ⟨rfl, rfl⟩
/-- formatTags of no version. -/
theorem tags_none (p : Nat) (a : Option Addr) (c : Nat) (w : World) (h0 : w.cell? ⟨p, 0, none⟩ = some (.bool false)) (h1 : w.cell? ⟨p, 1, none⟩ = some (.slice a 0 c)) :
    Calls Tryd.prog 15 #[.pointer (some ⟨p, 0, none⟩)] w fun e w' => e = .returned (.string ⟨#[34, 34]⟩) ∧ w' = w := by
  go_enter Tryd.func15, Tryd.ntmps15
  go_wp2
  go_ret
  exact ⟨rfl, rfl⟩

set_option maxHeartbeats 1000000 in
/-- formatTags of at least one version. -/
theorem tags_list (p b off n c : Nat) (vs : List Nat) (w : World) (h0 : w.cell? ⟨p, 0, none⟩ = some (.bool false)) (h1 : w.cell? ⟨p, 1, none⟩ = some (.slice (some ⟨b, off, none⟩) n c))
    (hvs : vs.length = n) (hv : ∀ v ∈ vs, v < 18446744073709551616) (hn1 : 1 ≤ n) (hn : n ≤ 131072) (hcells : ∀ k, k < n → w.cell? ⟨b, off + k, none⟩ = some (.int .u64 ((vs.getD k 0 : Nat) : Int))) (hbw : b < w.heap.size) (htab : Pows w) :
    Calls Tryd.prog 15 #[.pointer (some ⟨p, 0, none⟩)] w fun e w' => e = .returned (.string ⟨(header vs).toArray⟩) ∧ Below w.heap.size w w' := by
  have hmk := run_make_row' (P := Tryd.prog) 42 9 (.string ByteArray.empty) 16 Tryd.underlying42 info9 rfl .i64 .i64 n (by omega) (by omega)
  have HC := hide hcells
  have HTAB := hide htab
  have HVS := hide hvs
  have HV := hide hv
  clear hcells htab hvs hv
  have hn0 : ((n : Int) == 0) = false := by simp; omega
  have hpw : p < w.heap.size := World.block_lt_of_cell? w _ h0
  go_enter Tryd.func15, Tryd.ntmps15
  go_wp2
  go_loopw [27] (fun v wr => ∃ k : Nat, k ≤ n ∧ v = .int .i64 k ∧ wr.rowIs w.heap.size 9 n (fun j => if j < k then .string (tagS (vs.getD j 0)) else .string ByteArray.empty) ∧ Below w.heap.size w wr) (fun v _ => n - (intOf v).toNat)
  case atStart =>
    exact ⟨0, Nat.zero_le _, rfl, (World.rowIs_made w (.string ByteArray.empty) n 9).congr (fun i _ => by simp), (Below.refl _ _).alloc (Nat.le_refl _) _⟩
  case round =>
    obtain ⟨k, hk, rfl, hrow, hbel⟩ := hrel
    have HROW := hide hrow
    have HBEL := hide hbel
    have hlt1 : w.heap.size < wr.heap.size := hrow.lt
    clear hrow hbel
    by_cases hlt : k < n
    · have hck : wr.cell? ⟨b, off + k, none⟩ = some (.int .u64 ((vs.getD k 0 : Nat) : Int)) := ((unhide HBEL).cell (p := ⟨b, off + k, none⟩) hbw).trans (unhide HC k hlt)
      have hkv : vs.getD k 0 < 18446744073709551616 := by
        have hl := unhide HVS
        rw [List.getD_eq_getElem?_getD, List.getElem?_eq_getElem (by omega)]
        exact unhide HV _ (by simp)
      obtain ⟨u, hu⟩ : ∃ u, u = vs.getD k 0 := ⟨_, rfl⟩
      rw [← hu] at hck hkv
      have HU := hide hu
      clear hu
      go_wp2_with fail
      refine (etag_any u hkv wr ((unhide HTAB).below (unhide HTAB).size (unhide HBEL))).mono ?_
      rintro e w2 ⟨rfl, hb2⟩
      have hrow2 : w2.rowIs w.heap.size 9 n (fun j => if j < k then .string (tagS (vs.getD j 0)) else .string ByteArray.empty) := (unhide HROW).of_block (hb2.block _ hlt1)
      have hcB : w2.cell? ⟨w.heap.size, k, none⟩ = some (.string ByteArray.empty) := by
        have := hrow2.cell hlt
        simpa using this
      have hfB : w2.frozen? ⟨w.heap.size, k, none⟩ = false := hrow2.frozen k
      have HR2 := hide hrow2
      have HB2 : Hid (Below w.heap.size w w2) := (unhide HBEL).trans (hb2.mono (by omega))
      clear hrow2 hb2 HROW HBEL hck
      go_wp2
      go_roundw
      case rel =>
        refine ⟨k + 1, by omega, by go_num, ((unhide HR2).set k _).congr (fun i hi => ?_), (unhide HB2).setCell (Nat.le_refl _) _⟩
        by_cases h1 : i = k
        · subst h1; simp [unhide HU]
        · by_cases h2 : i < k
          · simp [h1, h2, show i < k + 1 by omega]
          · simp [h1, h2, show ¬ i < k + 1 by omega]
      case measure => simp [intOf]; omega
    · have hkn : k = n := by omega
      subst hkn
      go_wp2_with fail
      refine (join_any w.heap.size k k vs wr (unhide HVS) (unhide HV) hn (Nat.le_refl _) (fun j hj => by rw [(unhide HROW).cell hj, if_pos hj]) hlt1).mono ?_
      rintro e w2 ⟨rfl, hb2⟩
      have HB2 : Hid (Below w.heap.size w w2) := (unhide HBEL).trans (hb2.mono (by omega))
      clear hb2
      go_wp2
      go_ret
      exact ⟨rfl, unhide HB2⟩
end Go.Proofs.Qxb6602065aDoor
