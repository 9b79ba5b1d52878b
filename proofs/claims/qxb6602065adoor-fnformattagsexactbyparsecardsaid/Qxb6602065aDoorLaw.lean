/-
  SEAT b6602065aD: the walk of FnFormatTagsExactByParse (4).
-/
import Derived.Test.Qxb6602065aDoorPlain
import Derived.WalkSpells
import Derived.Laws.CopyOwn
namespace Go.Proofs.Qxb6602065aDoor
open Go.ChangeShapes Go.WideShapes Go.ChangeAt Go.RowKit Go.Sort
open Go.PlainAid (bt get_bt bt_nonneg bt_le)
set_option linter.unusedVariables false

theorem info22 : (Tryd.prog.info? 22).map (fun i => (i.zero, i.size, i.bytes)) = some (some (.int .u64 0), 1, 8) := by kernel_rfl
theorem size22 : (Tryd.prog.info? 22).map (·.size) = some 1 := by kernel_rfl

theorem zz_star (v : Value) (hv : ∃ a n c, v = .slice a n c) (w : World) :
    Calls Tryd.prog 10 #[.bool true, v] w fun e w' => e = .returned (.string ⟨#[42]⟩) ∧ Below w.heap.size w w' := by
  obtain ⟨a, n, c, rfl⟩ := hv
  go_enter Tryd.func10, Tryd.ntmps10
  go_wp2_with fail
  refine (tags_star _ _ (by simp [go_sem])).mono ?_
  rintro e w' ⟨rfl, rfl⟩
  go_wp2
  go_ret
  exact ⟨rfl, (Below.refl _ _).alloc (Nat.le_refl _) _⟩
theorem zz_none (a : Option Addr) (c : Nat) (w : World) :
    Calls Tryd.prog 10 #[.bool false, .slice a 0 c] w fun e w' => e = .returned (.string ⟨#[34, 34]⟩) ∧ Below w.heap.size w w' := by
  go_enter Tryd.func10, Tryd.ntmps10
  go_wp2_with fail
  refine (tags_none _ a c _ (by simp [go_sem]) (by simp [go_sem])).mono ?_
  rintro e w' ⟨rfl, rfl⟩
  go_wp2
  go_ret
  exact ⟨rfl, (Below.refl _ _).alloc (Nat.le_refl _) _⟩
theorem zz_list (b off n c : Nat) (vs : List Nat) (w : World) (hvs : vs.length = n) (hv : ∀ v ∈ vs, v < 18446744073709551616) (hn1 : 1 ≤ n) (hn : n ≤ 131072)
    (hcells : ∀ k, k < n → w.cell? ⟨b, off + k, none⟩ = some (.int .u64 ((vs.getD k 0 : Nat) : Int))) (hbw : b < w.heap.size) (htab : Pows w) :
    Calls Tryd.prog 10 #[.bool false, .slice (some ⟨b, off, none⟩) n c] w fun e w' => e = .returned (.string ⟨(header vs).toArray⟩) ∧ Below w.heap.size w w' := by
  have HC := hide hcells
  have HT := hide htab
  have HV := hide hvs
  have HW := hide hv
  clear hcells htab hvs hv
  go_enter Tryd.func10, Tryd.ntmps10
  go_wp2_with fail
  refine (tags_list w.heap.size b off n c vs _ (by simp [go_sem]) (by simp [go_sem]) (unhide HV) (unhide HW) hn1 hn (fun k hk => ((Below.refl _ w).alloc (Nat.le_refl _) _).cell (p := ⟨b, off + k, none⟩) hbw |>.trans (unhide HC k hk)) (by simp; omega) ((unhide HT).alloc _)).mono ?_
  rintro e w' ⟨rfl, hb⟩
  have HB : Hid (Below w.heap.size w w') := ((Below.refl _ w).alloc (Nat.le_refl _) _).trans (hb.mono (by simp))
  clear hb
  go_wp2
  go_ret
  exact ⟨rfl, unhide HB⟩

theorem bytes9 (b : Bool) (a : Option Addr) (n c : Nat) (w : World) (h : (n : Int) ≤ 9223372036854775807) :
    Calls Tryd.prog 9 #[.bool b, .slice a n c] w fun e w' => (∃ v : Bool, e = .returned (.bool v)) ∧ w' = w := by
  go_enter Tryd.func9, Tryd.ntmps9
  go_wp2
  all_goals go_ret
  all_goals exact ⟨⟨_, rfl⟩, rfl⟩

/-- More than 2^17 versions: the law answers true at once. -/
theorem law_long (b : Bool) (a : Option Addr) (n c : Nat) (w : World) (h : (n : Int) ≤ 9223372036854775807) (hn : 131072 < n) :
    Calls Tryd.prog 4 #[.bool b, .slice a n c] w fun e w' => e = .returned (.bool true) ∧ Below w.heap.size w w' := by
  go_enter Tryd.func4, Tryd.ntmps4
  go_wp2_with fail
  refine (bytes9 _ _ _ _ _ h).mono ?_
  rintro e w' ⟨⟨v, rfl⟩, rfl⟩
  cases v
  all_goals
    go_wp2
    go_ret
    exact ⟨rfl, Below.refl _ _⟩

/-- The nil list. -/
theorem law_nil (b : Bool) (w : World) : Calls Tryd.prog 4 #[.bool b, .slice none 0 0] w fun e w' => e = .returned (.bool true) ∧ Below w.heap.size w w' := by
  have hnil := fun (w : World) (a : Option Addr) (n c : Nat) => run_neq_slice_nil_any (P := Tryd.prog) w 27 22 a n c 0 0 Tryd.underlying27
  go_enter Tryd.func4, Tryd.ntmps4
  go_wp2_with fail
  refine (bytes9 _ _ _ _ _ (by decide)).mono ?_
  rintro e w' ⟨⟨v, rfl⟩, rfl⟩
  cases v
  · go_wp2
    go_ret
    exact ⟨rfl, Below.refl _ _⟩
  · cases b
    · go_wp2_with fail
      refine (zz_none _ _ _).mono ?_
      rintro e w' ⟨rfl, hb⟩
      have HB := hide hb
      clear hb
      go_wp2
      go_ret
      exact ⟨rfl, unhide HB⟩
    · go_wp2_with fail
      refine (zz_star _ ⟨_, _, _, rfl⟩ _).mono ?_
      rintro e w' ⟨rfl, hb⟩
      have HB := hide hb
      clear hb
      go_wp2
      go_ret
      exact ⟨rfl, unhide HB⟩

/-- 'c := make([]uint64, len(versions)); copy(c, versions)': the copy. -/
theorem copied (x : Addr) (n cap : Nat) (zs : List Int) (w : World) (hz : zs.length = n) (hcell : ∀ i, i < n → w.cell? (x.add i) = some (.int .u64 (zs.getD i 0))) :
    ∃ W2, (∀ ty, (Builtin.copy_ #[27, 27] ty #[.slice (some ⟨w.heap.size, 0, none⟩) n n, .slice (some x) n cap]).run Tryd.prog (w.alloc (.cells (madeCells #[.int .u64 0] n) 22)) = .ok (goInt n) W2) ∧
      (∀ k, k < n → W2.cell? ⟨w.heap.size, 0 + k, none⟩ = some (.int .u64 (zs.getD k 0))) ∧ Below w.heap.size w W2 ∧ w.heap.size < W2.heap.size := by
  by_cases h0 : n = 0
  · subst h0
    refine ⟨w.alloc (.cells (madeCells #[.int .u64 0] 0) 22), fun ty => ?_, fun k hk => by omega, (Below.refl _ _).alloc (Nat.le_refl _) _, by simp⟩
    exact run_copy_none (P := Tryd.prog) _ 27 27 ty 22 _ _ 0 0 0 cap Tryd.underlying27 size22 rfl
  · have hg : (w.alloc (.cells (madeCells #[.int .u64 0] n) 22)).heap[w.heap.size]? = some (.cells (madeCells #[.int .u64 0] n) 22 (0, 0)) := heap_alloc_new w _
    have hcl : (zs.map fun z => Value.int .u64 z).length = n := by simpa using hz
    have hms : (madeCells #[Value.int .u64 0] n).size = n := size_madeCells _ _
    have hrow : ((madeCells #[Value.int .u64 0] n).toList.take 0 ++ (zs.map fun z => Value.int .u64 z) ++ (madeCells #[Value.int .u64 0] n).toList.drop (0 + (zs.map fun z => Value.int .u64 z).length)).toArray = (zs.map fun z => Value.int .u64 z).toArray := by
      rw [List.drop_eq_nil_of_le (by rw [hcl, Array.length_toList, hms]; omega)]
      simp
    have hrun := fun ty => run_copy_row (P := Tryd.prog) (w.alloc (.cells (madeCells #[.int .u64 0] n) 22)) 27 27 ty 22 w.heap.size 0 n n x n cap (madeCells #[.int .u64 0] n) 22 (zs.map fun z => Value.int .u64 z) Tryd.underlying27 size22 hg (by rw [hcl]; exact (Nat.min_self n).symm)
      (fun j v hj => by
        have hjn : j < n := by
          have := (List.getElem?_eq_some_iff.1 hj).1
          omega
        have hb : (x.add j).block < w.heap.size := World.block_lt_of_cell? w _ (hcell j hjn)
        rw [World.cell?_alloc_lt _ _ _ hb, hcell j hjn]
        rw [List.getElem?_map, List.getElem?_eq_getElem (by omega)] at hj
        simp at hj
        rw [← hj, List.getD_eq_getElem?_getD, List.getElem?_eq_getElem (by omega)]
        rfl) (by rw [hcl, hms]; omega) (by intro v hv; obtain ⟨z, _, rfl⟩ := List.mem_map.1 hv; rfl)
    rw [hrow, hcl] at hrun
    refine ⟨_, hrun, fun k hk => ?_, below_setRow ((Below.refl _ _).alloc (Nat.le_refl _) _) (Nat.le_refl _) _, by simp [World.setRow]⟩
    have hh := setRow_heap (w.alloc (.cells (madeCells #[.int .u64 0] n) 22)) w.heap.size _ (zs.map fun z => Value.int .u64 z).toArray 22 _ hg
    rw [Nat.zero_add, cell_of_row _ _ _ _ _ _ hh]
    simp [List.getElem?_eq_getElem (show k < zs.length by omega)]

/-- readQuotedDecimalB1 at a place that the walk spells as it likes. -/
theorem read_at (s : ByteArray) (P : Int) (p u D : Nat) (w : World) (hP : P = (p : Int)) (hu : u < 18446744073709551616) (hD : D = Lib.nDigits u) (hsz : p + D + 2 ≤ s.size) (hs : s.size ≤ 1099511627776)
    (hq0 : bt s p = 34) (hd : ∀ t, t < D → bt s (p + 1 + t) = 48 + (dj u D t : Int)) (hq1 : bt s (p + 1 + D) = 34) :
    Calls Tryd.prog 11 #[.string s, .int .i64 P] w fun e w' => e = .returned (.tuple #[.int .u64 u, .int .i64 ((p : Int) + D + 2), .bool true]) ∧ w' = w := by
  subst hP
  exact read_any s p u D w hu hD hsz hs hq0 hd hq1

set_option maxHeartbeats 2000000 in
set_option maxRecDepth 100000 in
/-- A list that is not nil. -/
theorem law_some (b : Bool) (x : Addr) (n cap : Nat) (zs : List Int) (w : World) (hz : zs.length = n) (hn : n ≤ 131072) (hwz : ∀ z ∈ zs, 0 ≤ z ∧ z ≤ 18446744073709551615)
    (hcell : ∀ i, i < n → w.cell? (x.add i) = some (.int .u64 (zs.getD i 0))) (htab : Pows w) :
    Calls Tryd.prog 4 #[.bool b, .slice (some x) n cap] w fun e w' => e = .returned (.bool true) ∧ Below w.heap.size w w' := by
  have hnil := fun (w : World) (a : Option Addr) (n c : Nat) => run_neq_slice_nil_any (P := Tryd.prog) w 27 22 a n c 0 0 Tryd.underlying27
  have hmk := run_make_row' (P := Tryd.prog) 27 22 (.int .u64 0) 8 Tryd.underlying27 info22 rfl .i64 .i64 n (by omega) (by omega)
  obtain ⟨W2, hcopy, hcl2, hb2, hs2⟩ := copied x n cap zs w hz hcell
  obtain ⟨vs, hvs, hvb, hvz⟩ : ∃ vs : List Nat, vs.length = n ∧ (∀ v ∈ vs, v < 18446744073709551616) ∧ ∀ k, k < n → zs.getD k 0 = ((vs.getD k 0 : Nat) : Int) := by
    refine ⟨zs.map Int.toNat, by simpa using hz, ?_, ?_⟩
    · intro v hv
      obtain ⟨z, hzm, rfl⟩ := List.mem_map.1 hv
      have := hwz z hzm
      omega
    · intro k hk
      have := hwz zs[k] (List.getElem_mem _)
      rw [List.getD_eq_getElem?_getD, List.getElem?_eq_getElem (by omega), List.getD_eq_getElem?_getD, List.getElem?_map, List.getElem?_eq_getElem (by omega)]
      simp
      omega
  have HC2 : Hid (∀ k, k < n → W2.cell? ⟨w.heap.size, 0 + k, none⟩ = some (.int .u64 ((vs.getD k 0 : Nat) : Int))) := fun k hk => by rw [hcl2 k hk, hvz k hk]
  have HVS := hide hvs
  have HVB := hide hvb
  have HB2 := hide hb2
  have HT2 : Hid (Pows W2) := htab.below htab.size hb2
  clear hcl2 hvz hvs hvb hb2 hcell hwz hz htab
  go_enter Tryd.func4, Tryd.ntmps4
  go_wp2_with fail
  refine (bytes9 _ _ _ _ _ (by omega)).mono ?_
  rintro e w ⟨⟨v, rfl⟩, rfl⟩
  cases v
  · go_wp2
    go_ret
    exact ⟨rfl, Below.refl _ _⟩
  · cases b
    · go_wp2_with fail
      by_cases h0 : n = 0
      · subst h0
        refine (zz_none _ _ _).mono ?_
        rintro e w3 ⟨rfl, hb3⟩
        have HB3 := hide ((unhide HB2).trans (hb3.mono (by omega)))
        clear hb3
        go_wp2
        go_ret
        exact ⟨rfl, unhide HB3⟩
      · refine (zz_list w.heap.size 0 n n vs W2 (unhide HVS) (unhide HVB) (by omega) hn (unhide HC2) hs2 (unhide HT2)).mono ?_
        rintro e w3 ⟨rfl, hb3⟩
        have HC3 : Hid (∀ k, k < n → w3.cell? ⟨w.heap.size, k, none⟩ = some (.int .u64 ((vs.getD k 0 : Nat) : Int))) := fun k hk => by
          have := unhide HC2 k hk
          rw [Nat.zero_add] at this
          exact (hb3.cell (p := ⟨w.heap.size, k, none⟩) hs2).trans this
        have HB3 := hide ((unhide HB2).trans (hb3.mono (by omega)))
        clear hb3 HC2 HB2 HT2 hcopy hmk
        have hsz : (⟨(header vs).toArray⟩ : ByteArray).size = (header vs).length := by simp [ByteArray.size]
        have hhl := header_length vs (unhide HVB)
        rw [unhide HVS] at hhl
        generalize hS : (⟨(header vs).toArray⟩ : ByteArray) = S at *
        have hSmax : S.size ≤ 1099511627776 := by omega
        have HS := hide hS
        have HSZ := hide hsz
        clear hS hsz hhl
        have hb := get_bt S
        have hn0 : ((n : Int) == 0) = false := by simp; omega
        go_wp2
        go_loop [7, 8] (fun pv kv => ∃ k q : Nat, k ≤ n ∧ pv = .int .i64 q ∧ kv = .int .i64 k ∧ q = ends vs k) (fun _ kv => n - (intOf kv).toNat)
        case atStart => exact ⟨0, 0, Nat.zero_le _, rfl, rfl, (ends_zero vs).symm⟩
        case round =>
          obtain ⟨k, q, hk, rfl, rfl, hq⟩ := hrel
          have HQ := hide hq
          clear hq
          by_cases hlt : k < n
          · have hck := unhide HC3 k hlt
            have hub : vs.getD k 0 < 18446744073709551616 := by
              have hl := unhide HVS
              rw [List.getD_eq_getElem?_getD, List.getElem?_eq_getElem (by omega)]
              exact unhide HVB _ (by simp)
            by_cases hk0 : k = 0
            · have A : At vs k q (vs.getD k 0) (Lib.nDigits (vs.getD k 0)) := by
                have hq := unhide HQ
                subst hk0
                rw [ends_zero] at hq
                subst hq
                exact at_zero (by rw [unhide HVS]; omega)
              obtain ⟨u, hu⟩ : ∃ u, u = vs.getD k 0 := ⟨_, rfl⟩
              rw [← hu] at hck hub A
              clear hu
              obtain ⟨hval, hdig, hroom, hop, hdg, hcl, hnx⟩ := A
              rw [unhide HS] at hop hdg hcl
              rw [← unhide HSZ] at hroom
              obtain ⟨D, hD⟩ : ∃ D, D = Lib.nDigits u := ⟨_, rfl⟩
              rw [← hD] at hroom hdg hcl hnx
              have R := hide (fun w => read_at S (q : Int) q u D w rfl hub hD hroom hSmax hop hdg hcl)
              have NX := hide hnx
              have hk0' : ¬ ((0 : Int) < (k : Int)) := by omega
              clear hval hdig hroom hop hdg hcl hnx hD hk0
              go_wp2_with fail
              refine (unhide R _).mono ?_
              rintro e w4 ⟨rfl, hw4⟩
              subst hw4
              go_wp2
              go_round
              case rel => exact ⟨k + 1, q + D + 2, by omega, by go_num, by go_num, by rw [unhide NX]⟩
              case measure => simp [intOf]; omega
            · obtain ⟨hcm1, hcm2, A⟩ := at_succ (vs := vs) (k := k) (by omega) (by rw [unhide HVS]; exact hlt)
              rw [← unhide HQ] at hcm1 hcm2 A
              obtain ⟨u, hu⟩ : ∃ u, u = vs.getD k 0 := ⟨_, rfl⟩
              rw [← hu] at hck hub A
              clear hu
              obtain ⟨hval, hdig, hroom, hop, hdg, hcl, hnx⟩ := A
              rw [unhide HS] at hop hdg hcl hcm2
              rw [← unhide HSZ] at hroom hcm1
              obtain ⟨D, hD⟩ : ∃ D, D = Lib.nDigits u := ⟨_, rfl⟩
              rw [← hD] at hroom hdg hcl hnx
              have R := hide (fun w => read_at S ((q : Int) + 1) (q + 1) u D w (by omega) hub hD hroom hSmax hop hdg hcl)
              have NX := hide hnx
              clear hval hdig hroom hop hdg hcl hnx hD
              have hk0' : (0 : Int) < (k : Int) := by omega
              have iq : (q : Int) < (S.size : Int) := by omega
              have d1 : decide ((S.size : Int) ≤ (q : Int)) = false := decide_eq_false (by omega)
              have d2 : decide (S.size ≤ q) = false := decide_eq_false (by omega)
              go_wp2_with fail
              refine (unhide R _).mono ?_
              rintro e w4 ⟨rfl, hw4⟩
              subst hw4
              go_wp2
              go_round
              case rel => exact ⟨k + 1, q + 1 + D + 2, by omega, by go_num, by go_num, by rw [unhide NX]⟩
              case measure => simp [intOf]; omega
          · have hkn : k = n := by omega
            have hqs : ((q : Int) == (S.size : Int)) = true := by
              have h1 := unhide HQ
              rw [hkn, ends_all vs n (unhide HVS), ← unhide HSZ] at h1
              simp [h1]
            clear hkn
            go_wp2
            go_ret
            exact ⟨rfl, unhide HB3⟩
    · go_wp2_with fail
      refine (zz_star _ ⟨_, _, _, rfl⟩ _).mono ?_
      rintro e w3 ⟨rfl, hb3⟩
      have HB3 := hide ((unhide HB2).trans (hb3.mono (by omega)))
      clear hb3
      go_wp2
      go_ret
      exact ⟨rfl, unhide HB3⟩
end Go.Proofs.Qxb6602065aDoor
