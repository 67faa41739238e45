import Derived.Test.YtafdhmpikkfepaaGreatDoorCo
import Derived.Test.YtafdhmpikkfepaaGreatDoorAdr
import Derived.Deep.RegionWith
import Derived.Deep.QuietTactic
import Derived.BigQuiet
namespace Go.Proofs.YtafdhmpikkfepaaGreatDoor
open Go.RowKit Go.Sort

theorem three_new (w : World) (a b c : Value) (t : TypeId) : (w.alloc (.cells #[a, b, c] t)).cell? ⟨w.heap.size, 0, none⟩ = some a ∧ (w.alloc (.cells #[a, b, c] t)).cell? ⟨w.heap.size, 1, none⟩ = some b ∧ (w.alloc (.cells #[a, b, c] t)).cell? ⟨w.heap.size, 2, none⟩ = some c := by
  simp

/-- ADDRESS of a row and a column, relative -/
theorem addressOf_any (g cap base row col : Nat) (w : World) (h0 : 1 ≤ col) (h1 : col ≤ 16384) (r0 : 1 ≤ row) (r1 : row ≤ 1048576) (ht : Tab w) (hown : w.ownsRow base 26 4 (.slice (some ⟨g, 0, none⟩) 3 cap) 3 (rowOf ([row, col, 4].map nArg))) :
    Calls Tryz.prog 7 #[.slice (some ⟨g, 0, none⟩) 3 cap] w fun e w' => e = .returned (vVal 2 0 ⟨(cellL col row).toArray⟩) ∧ Below w.heap.size w w' := by
  refine impl7 base g cap 3 [.inl row, .inl col, .inl 4] (.inr ⟨(cellL col row).toArray⟩) w rfl (by omega) (by omega) ?_ hown ?_
  · intro a ha
    simp only [List.mem_cons, List.mem_nil_iff, or_false] at ha
    rcases ha with rfl | rfl | rfl
    · show row < _; omega
    · show col < _; omega
    · show 4 < _; omega
  · intro pf lb es W hW hV
    have hl : es.length = 3 := hV.len
    match es, hl, hV with
    | [e0, e1, e2], _, hV => exact address_any pf lb e0 e1 e2 col row W h0 h1 r0 r1 (ht.below hW) hV

theorem name_C2 : cellL 3 2 = [67, 50] := by
  unfold cellL
  rw [colL_pos 3 (by decide), show (3 - 1) / 26 = 0 from rfl, colL_zero, decDigits_small 2 (by decide)]
  rfl

theorem numArgs3 (a b c : Nat) (w : World) (ha : a ≤ 99999999999) (hb : b ≤ 99999999999) (hc : c ≤ 99999999999) :
    Calls Tryz.prog 8 #[.slice (some ⟨w.heap.size, 0, none⟩) 3 3] (w.alloc (.cells #[.int .i64 a, .int .i64 b, .int .i64 c] 3)) fun e w' =>
      ∃ g cap, e = .returned (.slice (some ⟨g, 0, none⟩) 3 cap) ∧ w'.ownsRow (w.heap.size + 1) 26 4 (.slice (some ⟨g, 0, none⟩) 3 cap) 3 (rowOf ([a, b, c].map nArg)) ∧ Below w.heap.size w w' := by
  refine (numArgs_any w.heap.size 3 [a, b, c] (w.alloc (.cells #[.int .i64 a, .int .i64 b, .int .i64 c] 3)) (by show 3 ≤ _; omega) ?_ (by simp) ?_).mono ?_
  · intro n hn
    simp only [List.mem_cons, List.mem_nil_iff, or_false] at hn
    rcases hn with rfl | rfl | rfl <;> assumption
  · intro k hk
    match k, hk with
    | 0, _ => exact (three_new w _ _ _ 3).1
    | 1, _ => exact (three_new w _ _ _ 3).2.1
    | 2, _ => exact (three_new w _ _ _ 3).2.2
    | k + 3, hk => exact absurd hk (by simp)
  · rintro e w1 ⟨v, he, hown, hb1⟩
    obtain ⟨g, cap, hv, -, -⟩ := hown.form (by show 0 < 3; omega)
    subst hv
    have hsz : (w.alloc (.cells #[.int .i64 a, .int .i64 b, .int .i64 c] 3)).heap.size = w.heap.size + 1 := by simp
    rw [hsz] at hown
    exact ⟨g, cap, he, hown, btr (bal (Below.refl _ _) _) hb1⟩

section
attribute [local go_sem] run_store_flt
set_option maxHeartbeats 1000000 in
theorem law3_in (row col : Nat) (w : World) (h0 : 1 ≤ col) (h1 : col ≤ 16384) (r0 : 1 ≤ row) (r1 : row ≤ 1048576) (ht : Tab w) :
    Calls Tryz.prog 3 #[.int .i64 row, .int .i64 col] w fun e w' => e = .returned (.bool true) ∧ Below w.heap.size w w' := by
  have HT := Lib.hid ht
  clear ht
  go_enter Tryz.func3, Tryz.ntmps3
  go_wp2_with fail
  refine (numArgs3 row col 4 w (by omega) (by omega) (by omega)).mono ?_
  rintro e w1 ⟨g, cap, rfl, hown, hb1⟩
  have HO := Lib.hid hown
  clear hown
  go_wp2_with fail
  refine (addressOf_any g cap (w.heap.size + 1) row col _ h0 h1 r0 r1 (HT.out.below hb1) HO.out).mono ?_
  rintro e w2 ⟨rfl, hb2⟩
  have B2 := btr hb1 hb2
  go_wp2_with fail
  refine (coords_impl col row _ _ h0 h1 r0 r1 (by simp)).mono ?_
  rintro e w3 ⟨rfl, hb3⟩
  have B3 := btr (bal B2 _) hb3
  have k0 : w3.cell? ⟨w2.heap.size, 0, none⟩ = some (.int .i64 2) := (hb3.cell (p := ⟨w2.heap.size, 0, none⟩) (by simp)).trans (by simp)
  go_wp2_with fail
  go_ret
  exact ⟨rfl, B3⟩

set_option maxHeartbeats 1000000 in
theorem law3_out (row col : Int) (w : World) (h : row < 1 ∨ 1048576 < row ∨ col < 1 ∨ 16384 < col) (ht : Tab w) :
    Calls Tryz.prog 3 #[.int .i64 row, .int .i64 col] w fun e w' => e = .returned (.bool true) ∧ Below w.heap.size w w' := by
  have HT := Lib.hid ht
  clear ht
  have h' : row < 1 ∨ (1 ≤ row ∧ 1048576 < row) ∨ (1 ≤ row ∧ row ≤ 1048576 ∧ col < 1) ∨ (1 ≤ row ∧ row ≤ 1048576 ∧ 1 ≤ col ∧ 16384 < col) := by omega
  clear h
  rcases h' with a1 | ⟨a1, a2⟩ | ⟨a1, a2, a3⟩ | ⟨a1, a2, a3, a4⟩
  all_goals
    go_enter Tryz.func3, Tryz.ntmps3
    go_wp2_with fail
    refine (numArgs3 2 3 4 w (by omega) (by omega) (by omega)).mono ?_
    rintro e w1 ⟨g, cap, rfl, hown, hb1⟩
    have HO := Lib.hid hown
    clear hown
    go_wp2_with fail
    refine (addressOf_any g cap (w.heap.size + 1) 2 3 _ (by omega) (by omega) (by omega) (by omega) (HT.out.below hb1) HO.out).mono ?_
    rintro e w2 ⟨rfl, hb2⟩
    have B2 := btr hb1 hb2
    go_wp2_with fail
    refine (str_any _ _).mono ?_
    rintro e w3 ⟨rfl, hb3⟩
    have B3 := btr B2 hb3
    go_wp2_with fail
    rw [name_C2]
    refine (same_str ⟨#[67, 50]⟩ _).mono ?_
    rintro e w4 ⟨rfl, hb4⟩
    go_wp2_with fail
    go_ret
    exact ⟨rfl, btr B3 hb4⟩

theorem law3_any (row col : Int) (w : World) (ht : Tab w) :
    Calls Tryz.prog 3 #[.int .i64 row, .int .i64 col] w fun e w' => e = .returned (.bool true) ∧ Below w.heap.size w w' := by
  by_cases h : row < 1 ∨ 1048576 < row ∨ col < 1 ∨ 16384 < col
  · exact law3_out row col w h ht
  · obtain ⟨r, rfl⟩ := Int.eq_ofNat_of_zero_le (show 0 ≤ row by omega)
    obtain ⟨c, rfl⟩ := Int.eq_ofNat_of_zero_le (show 0 ≤ col by omega)
    exact law3_in r c w (by omega) (by omega) (by omega) (by omega) ht
end

end Go.Proofs.YtafdhmpikkfepaaGreatDoor
