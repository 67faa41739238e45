import Derived.Test.YtafdhmpikkfepaaGreatDoorSp
import Derived.Deep.RegionHeld3
import Derived.Deep.RegionWith
namespace Go.Proofs.YtafdhmpikkfepaaGreatDoor
open Go.RowKit Go.Sort

/-- the powers of 26 that a column's name meets -/
def pw : Nat → Nat
  | 0 => 1
  | 1 => 26
  | 2 => 676
  | _ => 17576
theorem pw_pow (j : Nat) (h : j ≤ 3) : pw j = 26 ^ j := by
  match j, h with
  | 0, _ => rfl
  | 1, _ => rfl
  | 2, _ => rfl
  | 3, _ => rfl
  | j + 4, h => omega

theorem run_index_at (s : ByteArray) (k : Nat) (h : k < s.size) (w : World) : (Instr.index 9 (.string s) (.int .i64 (k : Int))).run Tryz.prog w = .ok (.int .u8 (s[k].toNat : Int)) w := by
  simp [go_sem, h]

set_option maxHeartbeats 1000000 in
theorem colNumber_any (num : Nat) (s : ByteArray) (w : World) (h0 : 1 ≤ num) (h1 : num ≤ 16384) (hs : s.data.toList = colL num) :
    Calls Tryz.prog 42 #[.string s] w fun e w' => e = .returned (.tuple #[.int .i64 num, .nilIface]) ∧ w = w' := by
  have hsz : s.size = (colL num).length := by rw [← size_data, hs]
  have hl3 : s.size ≤ 3 := by rw [hsz]; exact colL_len num h1
  have hl1 : 1 ≤ s.size := by rw [hsz]; exact colL_ne num (by omega)
  have HS := Lib.hid hs
  clear hs hsz
  go_enter Tryz.func42, Tryz.ntmps42
  go_wp2
  go_loop [4, 5, 6] (fun c m i => ∃ k j : Nat, k + j = s.size ∧ i = .int .i64 ((k : Int) - 1) ∧ m = .int .i64 (pw j : Nat) ∧ c = .int .i64 (colVal ((colL num).drop k) : Nat)) (fun _ _ i => (intOf i + 1).toNat)
  case atStart => exact ⟨s.size, 0, by omega, rfl, rfl, by rw [List.drop_of_length_le (by rw [← HS.out, size_data]; exact Nat.le_refl _)]; rfl⟩
  case round =>
    obtain ⟨k, j, hkj, rfl, rfl, rfl⟩ := hrel
    have hv := colVal_drop_le (colL num) k
    rw [colVal_colL] at hv
    obtain ⟨v, hve⟩ : ∃ v, colVal ((colL num).drop k) = v := ⟨_, rfl⟩
    rw [hve] at hv ⊢
    have HV := Lib.hid hve
    clear hve
    have HJ := Lib.hid hkj
    by_cases hk0 : 0 < k
    · have hks : k - 1 < s.size := by omega
      have hix := run_index_at s (k - 1) hks
      rw [show ((k - 1 : Nat) : Int) = (k : Int) - 1 by omega] at hix
      obtain ⟨c, hc⟩ : ∃ c : Nat, s[k - 1].toNat = c := ⟨_, rfl⟩
      rw [hc] at hix
      have hcl : 65 ≤ c ∧ c ≤ 90 := by
        rw [← hc]
        refine colL_letter num _ ?_
        rw [← HS.out, ← get_data s (k - 1) hks]
        exact List.getElem_mem _
      obtain ⟨c0, c1⟩ := hcl
      have hst : colVal ((colL num).drop (k - 1)) = (c - 64) * pw j + v := by
        have hkl : k - 1 < (colL num).length := by rw [← HS.out, size_data]; exact hks
        have hl : (colL num).length = s.size := by rw [← HS.out, size_data]
        rw [colVal_step _ _ hkl, pw_pow j (by omega)]
        have e1 : (colL num)[k - 1].toNat = c := by
          rw [← hc, ← get_data s (k - 1) hks]
          congr 1
          simp only [HS.out]
        have e2 : (colL num).length - 1 - (k - 1) = j := by rw [hl]; omega
        have e3 : k - 1 + 1 = k := by omega
        rw [e1, e2, e3, HV.out]
      have hle : colVal ((colL num).drop (k - 1)) ≤ num := by have := colVal_drop_le (colL num) (k - 1); rw [colVal_colL] at this; exact this
      rw [hst] at hle
      have HC := Lib.hid hc
      have HT := Lib.hid hst
      clear hc hkj hst
      have hj : j = 0 ∨ j = 1 ∨ j = 2 := by have := HJ.out; omega
      rcases hj with rfl | rfl | rfl
      · rw [show pw 0 = 1 from rfl] at hle ⊢
        have hb : (v : Int) + ((c : Int) - 65 + 1) ≤ 16384 := by omega
        clear hle
        go_wp2
        go_round
        case rel => exact ⟨_, _, _, _, _, ⟨k - 1, 1, by have := HJ.out; omega, rfl, rfl, rfl⟩, rfl, rfl, by rw [HT.out, show pw 0 = 1 from rfl]; go_num, rfl, by rw [show ((k - 1 : Nat) : Int) = (k : Int) - 1 by omega]⟩
        case measure => simp [intOf]; omega
      · rw [show pw 1 = 26 from rfl] at hle ⊢
        have hb : (v : Int) + ((c : Int) - 65 + 1) * 26 ≤ 16384 := by omega
        clear hle
        go_wp2
        go_round
        case rel => exact ⟨_, _, _, _, _, ⟨k - 1, 2, by have := HJ.out; omega, rfl, rfl, rfl⟩, rfl, rfl, by rw [HT.out, show pw 1 = 26 from rfl]; go_num, rfl, by rw [show ((k - 1 : Nat) : Int) = (k : Int) - 1 by omega]⟩
        case measure => simp [intOf]; omega
      · rw [show pw 2 = 676 from rfl] at hle ⊢
        have hb : (v : Int) + ((c : Int) - 65 + 1) * 676 ≤ 16384 := by omega
        clear hle
        go_wp2
        go_round
        case rel => exact ⟨_, _, _, _, _, ⟨k - 1, 3, by have := HJ.out; omega, rfl, rfl, rfl⟩, rfl, rfl, by rw [HT.out, show pw 2 = 676 from rfl]; go_num, rfl, by rw [show ((k - 1 : Nat) : Int) = (k : Int) - 1 by omega]⟩
        case measure => simp [intOf]; omega
    · obtain rfl : k = 0 := by omega
      have hv2 := HV.out
      rw [List.drop_zero, colVal_colL] at hv2
      subst hv2
      clear hkj
      go_wp2
      go_ret2
      exact ⟨rfl, rfl⟩

theorem ext_list (s : ByteArray) (a b : Nat) : (s.extract a b).data.toList = (s.data.toList.drop a).take (b - a) := by
  rw [ByteArray.data_extract, Array.toList_extract, List.extract_eq_take_drop]

theorem mk_of_list {s : ByteArray} {l : List UInt8} (h : s.data.toList = l) : s = ⟨l.toArray⟩ := by
  apply ByteArray.ext
  apply Array.ext'
  simpa using h

theorem below_bytes (w : World) (e : TypeId) (t : ByteArray) : Below w.heap.size w (Lib.bytesWorld w e t) := by
  have h : Below w.heap.size w (w.drew.alloc (.cells (Lib.bytesCells w e t) e)) := bal (Below.refl w.heap.size w).drew _
  refine h.trans ⟨?_, ?_, ?_, ?_, ?_⟩
  all_goals simp only [Lib.bytesWorld, World.freeze, Nat.one_ne_zero, if_false]
  · simp
  · intro k hk
    rw [Array.getElem?_modify, if_neg (by omega)]

theorem below_ofdrew {w w' : World} (h : Below w.drew.heap.size w.drew w') : Below w.heap.size w w' := (Below.refl _ w).drew.trans h

set_option maxHeartbeats 1000000 in
theorem split_any (col row : Nat) (s : ByteArray) (w : World) (h0 : 1 ≤ col) (h1 : col ≤ 16384) (r0 : 1 ≤ row) (r1 : row ≤ 1048576) (hs : s.data.toList = cellL col row) :
    Calls Tryz.prog 40 #[.string s] w fun e w' => e = .returned (.tuple #[.string ⟨(colL col).toArray⟩, .int .i64 row, .nilIface]) ∧ Below w.heap.size w w' := by
  obtain ⟨n, hn⟩ : ∃ n, (colL col).length = n := ⟨_, rfl⟩
  have hn3 : n ≤ 3 := by rw [← hn]; exact colL_len col h1
  have hn1 : 1 ≤ n := by rw [← hn]; exact colL_ne col (by omega)
  have hd1 := digits_ne row
  have hd7 := digits_len 6 row (by omega)
  have hsz : s.size = n + (Lib.decDigits row).length := by rw [← size_data, hs]; unfold cellL; rw [List.length_append, hn]
  have hs1 : n < s.size := by omega
  have hs2 : s.size ≤ 10 := by omega
  have hget : ∀ i (h : i < s.size), s[i] = (cellL col row)[i]'(by rw [← hs, size_data]; exact h) := by
    intro i h
    rw [← get_data s i h]
    simp only [hs]
  have hdig : ∀ i (h : i < s.size), n ≤ i → 48 ≤ s[i].toNat ∧ s[i].toNat ≤ 57 := by
    intro i h hi
    rw [hget i h]
    unfold cellL
    rw [List.getElem_append_right (by omega)]
    exact digits_digit row _ (List.getElem_mem _)
  have hlet : ∀ i (h : i < s.size), i < n → 65 ≤ s[i].toNat ∧ s[i].toNat ≤ 90 := by
    intro i h hi
    rw [hget i h]
    unfold cellL
    rw [List.getElem_append_left (by omega)]
    exact colL_letter col _ (List.getElem_mem _)
  have hfirst : s.extract 0 n = ⟨(colL col).toArray⟩ := mk_of_list (by
    rw [ext_list, hs, List.drop_zero, Nat.sub_zero, ← hn]
    unfold cellL
    exact List.take_left)
  have hrest : s.extract n s.size = ⟨(Lib.decDigits row).toArray⟩ := mk_of_list (by
    rw [ext_list, hs, ← hn]
    unfold cellL
    rw [List.drop_left, List.take_of_length_le (by omega)])
  have C1 := fun W => firstIdx_top s (s[0]'(by omega)).toNat W (by omega) rfl (hlet 0 (by omega) (by omega)).1 (hlet 0 (by omega) (by omega)).2
  have C2 := fun W => lastIdx_top s n W (by omega) (by omega) hs1 hdig (hlet (n - 1) (by omega) (by omega))
  have C3 := fun W => replace_none ⟨(colL col).toArray⟩ W (by show (colL col).length ≤ _; omega) (by show 0 < (colL col).length; omega) (fun c hc => by have := colL_letter col c hc; omega)
  have C4 := fun W => Tryz.strconv_Atoi ⟨(Lib.decDigits row).toArray⟩ row (by show (Lib.decDigits row).length ≤ _; omega) (atoi_digits row) W
  have D1 := Lib.hid C1
  have D2 := Lib.hid C2
  have D3 := Lib.hid C3
  have D4 := Lib.hid C4
  have E1 := Lib.hid hfirst
  have E2 := Lib.hid hrest
  clear C1 C2 C3 C4 hfirst hrest hget hdig hlet hsz hs hd1 hd7 hn
  go_enter Tryz.func40, Tryz.ntmps40
  go_wp2_with fail
  refine (D1.out _).mono ?_
  rintro e w1 ⟨rfl, hb1⟩
  go_wp2_with fail
  refine (D2.out _).mono ?_
  rintro e w2 ⟨rfl, rfl⟩
  go_wp2_with fail
  have x1 : IntKind.i64.wrap ((n : Int) - 1 + 1) = (n : Int) := by rw [IntKind.wrap_i64]; omega
  have x2 : IntKind.i64.wrap (n : Int) = (n : Int) := by rw [IntKind.wrap_i64]; omega
  have x3 : (0 : Int) ≤ (n : Int) := by omega
  have x4 : (n : Int) ≤ (s.size : Int) := by omega
  go_region_with (go_at_call 68; rw [E1.out]; refine (D3.out _).mono ?_; rintro e w2 ⟨rfl, hb2⟩)
  clear x1 x2 x3 x4
  go_wp2_with fail
  rw [E2.out]
  refine (D4.out _).mono ?_
  rintro e w3 ⟨rfl, t, rfl⟩
  go_wp2_with fail
  go_ret3
  exact ⟨rfl, btr (btr hb1 (below_ofdrew hb2)) (below_bytes _ _ _)⟩

end Go.Proofs.YtafdhmpikkfepaaGreatDoor
