import Derived.Test.YtafdhmpikkfepaaGreatDoorSame
import Derived.Test.YtafdhmpikkfepaaGreatDoorIn
import Derived.Test.YtafdhmpikkfepaaGreatDoorShelf
import Derived.Test.YtafdhmpikkfepaaGreatDoorCol
import Derived.WalkSmall
import Derived.Deep.OwnRows
namespace Go.Proofs.YtafdhmpikkfepaaGreatDoor
open Go.RowKit Go.Sort

/-- the library's table of powers, as its initialiser lays it -/
abbrev Tab (w : World) : Prop := Lib.TabIs Tryz.prog w "internal/strconv.uint64pow10" .u64 Lib.pow10Tab
theorem Tryz.pow_at : Tryz.prog.globalNamed "internal/strconv.uint64pow10" = some 9 := by kernel_rfl

theorem tab_lt {w : World} (h : Tab w) : 9 < w.heap.size := by
  unfold Tab Lib.TabIs World.var? at h
  rw [Tryz.pow_at] at h
  simp only [Option.bind_some] at h
  rcases Nat.lt_or_ge 9 w.heap.size with h1 | h1
  · exact h1
  · rw [Array.getElem?_eq_none h1] at h
    cases h

theorem Tab.below {w w' : World} (h : Tab w) (hb : Below w.heap.size w w') : Tab w' := var?_below hb Tryz.pow_at (tab_lt h) h

theorem below_grow (w : World) (k : Nat) (os : Array Obj) : Below w.heap.size w (grow (w.drewN k) os) :=
  ⟨rfl, rfl, rfl, by show w.heap.size ≤ (w.heap ++ os).size; simp, fun i hi => by show (w.heap ++ os)[i]? = _; rw [Array.getElem?_append_left hi]⟩

theorem itoa_any (n : Nat) (w : World) (h : n ≤ 9223372036854775807) (ht : Tab w) :
    Calls Tryz.prog 82 #[.int .i64 n] w fun e w' => e = .returned (.string ⟨(Lib.decDigits n).toArray⟩) ∧ Below w.heap.size w w' :=
  (Tryz.strconv_Itoa (n : Int) (by omega) (by omega) w ht).mono fun e w' ⟨he, k, os, hw⟩ => by
    subst hw
    rw [Lib.itoa_nonneg] at he
    exact ⟨he, below_grow w k os⟩

/-- the buffer with its last letters written -/
def colBuf (k : Nat) (rest : List UInt8) : Array Value := (List.replicate k (Value.int .u8 0) ++ rest.map fun c => Value.int .u8 (c.toNat : Int)).toArray

theorem colBuf_set (k : Nat) (rest : List UInt8) (c : UInt8) : (colBuf (k + 1) rest).setIfInBounds k (.int .u8 (c.toNat : Int)) = colBuf k (c :: rest) := by
  apply Array.ext'
  simp only [colBuf, Array.toList_setIfInBounds]
  rw [List.replicate_succ', List.append_assoc, List.set_append_right _ _ (by simp)]
  simp

theorem colBuf_get (k : Nat) (rest : List UInt8) : (colBuf (k + 1) rest)[k]? = some (.int .u8 0) := by
  simp [colBuf, List.getElem?_append_left]

theorem Tryz.info5 : (Tryz.prog.info? 5).map (fun i => (i.zero, i.size, i.bytes)) = some (some (.int .u8 0), 1, 1) := by kernel_rfl

theorem colBuf_made (k : Nat) : madeCells #[Value.int .u8 0] k = colBuf k [] := by
  apply Array.ext'
  simp [madeCells, colBuf, Nat.mod_one]
  apply List.ext_getElem
  · simp
  · intro i h1 h2
    simp

theorem col_any (num : Nat) (w : World) (h0 : 1 ≤ num) (h1 : num ≤ 16384) :
    Calls Tryz.prog 106 #[.int .i64 num] w fun e w' => e = .returned (.string ⟨(colL num).toArray⟩) ∧ Below w.heap.size w w' := by
  have hlen := colL_len num h1
  have hpos := colL_ne num (by omega)
  go_enter Tryz.func106, Tryz.ntmps106
  go_wp2
  go_loop [3, 4] (fun l n => ∃ m k : Nat, n = .int .i64 m ∧ l = .int .i64 k ∧ k + (colL m).length = (colL num).length ∧ m ≤ num) (fun _ n => (intOf n).toNat)
  case atStart => exact ⟨num, 0, rfl, rfl, by omega, Nat.le_refl _⟩
  case round =>
    obtain ⟨m, k, rfl, rfl, hk, hm⟩ := hrel
    by_cases h : 0 < m
    · have hl := colL_len_pos m (by omega)
      have hk3 : k ≤ 3 := by omega
      have HK := Lib.hid hk
      have HL := Lib.hid hl
      clear hk hl
      go_wp2
      go_round
      case rel => exact ⟨(m - 1) / 26, k + 1, by go_num, by go_num, by have := HK.out; have := HL.out; omega, by omega⟩
      case measure => simp [intOf]; omega
    · obtain rfl : m = 0 := by omega
      rw [colL_zero] at hk
      have hk' : k = (colL num).length := by simpa using hk
      have hk3 : k ≤ 3 := by omega
      have hk1 : 1 ≤ k := by omega
      have HK := Lib.hid hk'
      clear hk hk' hlen hpos
      have hmk := fun W => run_make_row' (P := Tryz.prog) 123 5 (.int .u8 0) 1 Tryz.underlying123 Tryz.info5 rfl .i64 .i64 k (by omega) (by omega) W
      rw [show madeCells #[Value.int .u8 0] k = colBuf k [] from colBuf_made k] at hmk
      go_wp2
      go_loopw [0, 3] (fun n l wr => ∃ (m j : Nat) (rest : List UInt8), n = .int .i64 m ∧ l = .int .i64 j ∧ wr = w.alloc (.cells (colBuf j rest) 5) ∧ j = (colL m).length ∧ colL m ++ rest = colL num ∧ m ≤ num ∧ j ≤ k) (fun n _ _ => (intOf n).toNat)
      case atStart => exact ⟨num, k, [], rfl, rfl, rfl, HK.out, by simp, Nat.le_refl _, Nat.le_refl _⟩
      case round =>
        obtain ⟨m, j, rest, rfl, rfl, rfl, hj, hr, hm, hjk⟩ := hrel
        by_cases h : 0 < m
        · have hl := colL_len_pos m (by omega)
          obtain ⟨j, rfl⟩ : ∃ i, j = i + 1 := ⟨j - 1, by omega⟩
          have hq : (colL ((m - 1) / 26)).length = j := by omega
          rw [colL_pos m (by omega), List.append_assoc] at hr
          have hb : (((m : Int) - 1) % 26 + 65) = ((UInt8.ofNat (65 + (m - 1) % 26)).toNat : Int) := by rw [letter_nat]; omega
          have hset := fun v => colBuf_set j rest v
          have hcell := colBuf_get j rest
          have HQ := Lib.hid hq
          have HR := Lib.hid hr
          have HS := Lib.hid hset
          have HB := Lib.hid hb
          clear hj hl hq hr hset hb hmk
          go_wp2
          go_roundw
          case rel => exact ⟨(m - 1) / 26, j, UInt8.ofNat (65 + (m - 1) % 26) :: rest, by go_num, rfl, by rw [HB.out, HS.out], HQ.out.symm, HR.out, by omega, by omega⟩
          case measure => simp [intOf]; omega
        · obtain rfl : m = 0 := by omega
          rw [colL_zero] at hj hr
          have hj0 : j = 0 := by simpa using hj
          subst hj0
          have hr' : rest = colL num := by simpa using hr
          have hk2 := HK.out
          rw [← hr'] at hk2
          have hconv := run_convert_bytes_back (P := Tryz.prog) (w.alloc (.cells (colBuf 0 rest) 5)) 123 9 5 ⟨w.heap.size, 0, none⟩ k rest Tryz.underlying123 Tryz.underlying5 Tryz.underlying9 (fun i hi => by
            rw [addr_zero, cell_at (heap_alloc_new w _)]
            simp [colBuf, hi])
          rw [← hk2] at hconv
          have HR := Lib.hid hr'
          clear hj hr hr' hk2 hmk
          go_wp2
          go_ret
          refine ⟨?_, bal (Below.refl _ _) _⟩
          show Ending.returned (.string ⟨rest.toArray⟩) = _
          rw [HR.out]

theorem colNum_any (num : Nat) (w : World) (h0 : 1 ≤ num) (h1 : num ≤ 16384) :
    Calls Tryz.prog 84 #[.int .i64 num] w fun e w' => e = .returned (.tuple #[.string ⟨(colL num).toArray⟩, .nilIface]) ∧ Below w.heap.size w w' := by
  go_enter Tryz.func84, Tryz.ntmps84
  go_wp2_with (go_at_call 106; refine (col_any num _ h0 h1).mono ?_; rintro e w1 ⟨rfl, hb1⟩)
  go_ret2
  exact ⟨rfl, hb1⟩

/-- a cell's name -/
def cellL (col row : Nat) : List UInt8 := colL col ++ Lib.decDigits row

theorem cellName_any (col row g c : Nat) (w : World) (h0 : 1 ≤ col) (h1 : col ≤ 16384) (r0 : 1 ≤ row) (r1 : row ≤ 1048576) (ht : Tab w) (hg : g < w.heap.size) (hc : w.cell? ⟨g, 0, none⟩ = some (.bool false)) :
    Calls Tryz.prog 83 #[.int .i64 col, .int .i64 row, .slice (some ⟨g, 0, none⟩) 1 c] w fun e w' => e = .returned (.tuple #[.string ⟨(cellL col row).toArray⟩, .nilIface]) ∧ Below w.heap.size w w' := by
  have HT := Lib.hid ht
  clear ht
  go_enter Tryz.func83, Tryz.ntmps83
  go_wp2_with (go_at_call 84; refine (colNum_any col _ h0 h1).mono ?_; rintro e w1 ⟨rfl, hb1⟩)
  have hc1 : w1.cell? ⟨g, 0, none⟩ = some (.bool false) := (hb1.cell (p := ⟨g, 0, none⟩) hg).trans hc
  go_loop [34] (fun i => ∃ k : Nat, k ≤ 1 ∧ i = .int .i64 k) (fun i => 1 - (intOf i).toNat)
  case atStart => exact ⟨0, by omega, rfl⟩
  case round =>
    obtain ⟨k, hk, rfl⟩ := hrel
    by_cases h : k = 0
    · subst h
      go_wp2
      go_round
      case rel => exact ⟨1, by omega, rfl⟩
      case measure => simp [intOf]
    · obtain rfl : k = 1 := by omega
      have hn : ¬ 9223372036854775807 < (colL col).length + (Lib.decDigits row).length := by have := colL_len col h1; have := digits_len 6 row (by omega); omega
      go_wp2_with (go_at_call 82; refine (itoa_any row _ (by omega) (HT.out.below hb1)).mono ?_; rintro e w2 ⟨rfl, hb2⟩)
      go_ret2
      refine ⟨?_, btr hb1 hb2⟩
      show Ending.returned (.tuple #[.string ((⟨(colL col).toArray⟩ : ByteArray) ++ ⟨(Lib.decDigits row).toArray⟩), .nilIface]) = _
      rw [mk_append]
      rfl


theorem zzAddr_any (col row : Nat) (w : World) (h0 : 1 ≤ col) (h1 : col ≤ 16384) (r0 : 1 ≤ row) (r1 : row ≤ 1048576) (ht : Tab w) :
    Calls Tryz.prog 60 #[.int .i64 4, .bool true, .int .i64 col, .int .i64 row] w fun e w' => e = .returned (.tuple #[.string ⟨(cellL col row).toArray⟩, .nilIface]) ∧ Below w.heap.size w w' := by
  have HT := Lib.hid ht
  clear ht
  go_enter Tryz.func60, Tryz.ntmps60
  go_wp2_with fail
  refine (itoa_any col _ (by omega) HT.out).mono ?_
  rintro e w1 ⟨rfl, hb1⟩
  go_wp2_with fail
  refine (itoa_any row _ (by omega) (HT.out.below hb1)).mono ?_
  rintro e w2 ⟨rfl, hb2⟩
  have hb3 := btr hb1 hb2
  go_wp2_with fail
  refine (cellName_any col row w2.heap.size 1 _ h0 h1 r0 r1 (HT.out.below (bal hb3 _)) (by simp) (by simp [go_sem])).mono ?_
  rintro e w4 ⟨rfl, hb4⟩
  go_wp2_with fail
  go_ret2
  exact ⟨rfl, btr (bal hb3 _) hb4⟩

end Go.Proofs.YtafdhmpikkfepaaGreatDoor
