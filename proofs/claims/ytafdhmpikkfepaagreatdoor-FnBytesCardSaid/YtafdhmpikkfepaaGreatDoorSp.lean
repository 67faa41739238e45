import Derived.Test.YtafdhmpikkfepaaGreatDoorDoor
import Derived.Deep.LoopGhost
import Derived.Deep.RegionWith
import Derived.Deep.Cut
import Derived.Deep.CutRange
import Derived.Deep.QuietTactic
import Derived.BigQuiet
import Derived.Lib.AppendStr
import Derived.Deep.RegionHeld3
namespace Go.Proofs.YtafdhmpikkfepaaGreatDoor
open Go.RowKit Go.Sort

theorem clos_yes (r : Nat) (w : World) (h0 : 65 ≤ r) (h1 : r ≤ 90) :
    Calls Tryz.prog 65 #[.int .i32 r] w fun e w' => e = .returned (.bool true) ∧ w = w' := by
  go_enter Tryz.func65, Tryz.ntmps65
  go_wp2
  go_ret
  exact ⟨rfl, rfl⟩

theorem clos_no (r : Nat) (w : World) (h0 : 48 ≤ r) (h1 : r ≤ 57) :
    Calls Tryz.prog 65 #[.int .i32 r] w fun e w' => e = .returned (.bool false) ∧ w = w' := by
  have e36 : ((r : Int) == 36) = false := beq_eq_false_iff_ne.2 (by omega)
  go_enter Tryz.func65, Tryz.ntmps65
  go_wp2
  go_ret
  exact ⟨rfl, rfl⟩

theorem wrap32_byte (c : UInt8) : wrap32 (c.toNat : Int) = c.toNat := by
  have := c.toNat_lt
  unfold wrap32
  omega

theorem lastRune_any (t : ByteArray) (w : World) (h : 0 < t.size) (hm : t.size ≤ 9223372036854775807) (ha : t[t.size - 1].toNat < 128) :
    Calls Tryz.prog 108 #[.string t] w fun e w' => e = .returned (.tuple #[.int .i32 (t[t.size - 1].toNat : Int), .int .i64 1]) ∧ w = w' := by
  have HA := Lib.hid ha
  clear ha
  go_enter Tryz.func108, Tryz.ntmps108
  go_wp2
  · have e := wrap32_byte t[t.size - 1]
    rw [e]
    go_ret2
    exact ⟨rfl, rfl⟩
  · exfalso
    have e := wrap32_byte t[t.size - 1]
    have h2 : 128 ≤ wrap32 (t[t.size - 1].toNat : Int) := by assumption
    have h3 := HA.out
    omega

/-- the last byte of a beginning -/
theorem ext_last (s : ByteArray) (i : Nat) (h0 : 0 < i) (h : i ≤ s.size) : (s.extract 0 i).size = i ∧ ∀ hh : (s.extract 0 i).size - 1 < (s.extract 0 i).size, (s.extract 0 i)[(s.extract 0 i).size - 1] = s[i - 1]'(by omega) := by
  have e : (s.extract 0 i).size = i := by rw [ByteArray.size_extract]; omega
  refine ⟨e, fun hh => ?_⟩
  rw [ByteArray.getElem_extract]
  congr 1
  omega

theorem lastRune_ext (s : ByteArray) (k r : Nat) (w : World) (h0 : 0 < k) (h : k ≤ s.size) (hm : s.size ≤ 9223372036854775807) (hr : (s[k - 1]'(by omega)).toNat = r) (ha : r < 128) :
    Calls Tryz.prog 108 #[.string (s.extract 0 k)] w fun e w' => e = .returned (.tuple #[.int .i32 (r : Int), .int .i64 1]) ∧ w = w' := by
  obtain ⟨e1, e2⟩ := ext_last s k h0 h
  have e3 := e2 (by omega)
  refine (lastRune_any (s.extract 0 k) w (by omega) (by omega) (by rw [e3, hr]; exact ha)).mono fun e w' ⟨he, hw⟩ => ⟨?_, hw⟩
  rw [he, e3, hr]

theorem lastIdx_any (s : ByteArray) (n : Nat) (w : World) (hm : s.size ≤ 1000) (h0 : 0 < n) (hn : n < s.size) (hd : ∀ i (h : i < s.size), n ≤ i → 48 ≤ s[i].toNat ∧ s[i].toNat ≤ 57) (hl : 65 ≤ (s[n - 1]'(by omega)).toNat ∧ (s[n - 1]'(by omega)).toNat ≤ 90) :
    Calls Tryz.prog 91 #[.string s, .func (.func 65) #[] #[], .bool true] w fun e w' => e = .returned (.int .i64 ((n : Int) - 1)) ∧ w = w' := by
  have HD := Lib.hid hd
  have HL := Lib.hid hl
  clear hd hl
  go_enter Tryz.func91, Tryz.ntmps91
  go_wp2
  go_loop [7] (fun i => ∃ k : Nat, n ≤ k ∧ k ≤ s.size ∧ i = .int .i64 k) (fun i => (intOf i).toNat)
  case atStart => exact ⟨s.size, by omega, Nat.le_refl _, rfl⟩
  case round =>
    obtain ⟨k, hk1, hk2, rfl⟩ := hrel
    obtain ⟨r, hr⟩ : ∃ r : Nat, (s[k - 1]'(by omega)).toNat = r := ⟨_, rfl⟩
    by_cases hkn : n < k
    · have hb := HD.out (k - 1) (by omega) (by omega)
      rw [hr] at hb
      obtain ⟨b0, b1⟩ := hb
      have HR := Lib.hid hr
      clear hr
      go_wp2_with (first
        | (go_at_call 108; refine (lastRune_ext s k r _ (by omega) hk2 (by omega) HR.out (by omega)).mono ?_; rintro e w' ⟨rfl, rfl⟩)
        | (go_at_call 65; refine (clos_no r _ b0 b1).mono ?_; rintro e w' ⟨rfl, rfl⟩))
      go_round
      case rel => exact ⟨k - 1, by omega, by omega, by go_num⟩
      case measure => simp [intOf]; omega
    · obtain rfl : k = n := by omega
      have hb := HL.out
      rw [hr] at hb
      obtain ⟨b0, b1⟩ := hb
      have HR := Lib.hid hr
      clear hr
      go_wp2_with (first
        | (go_at_call 108; refine (lastRune_ext s k r _ (by omega) hk2 (by omega) HR.out (by omega)).mono ?_; rintro e w' ⟨rfl, rfl⟩)
        | (go_at_call 65; refine (clos_yes r _ b0 b1).mono ?_; rintro e w' ⟨rfl, rfl⟩))
      go_ret
      exact ⟨rfl, rfl⟩

theorem firstIdx_any (s : ByteArray) (r : Nat) (w : World) (h0 : 0 < s.size) (hr : s[0].toNat = r) (b0 : 65 ≤ r) (b1 : r ≤ 90) :
    Calls Tryz.prog 90 #[.string s, .func (.func 65) #[] #[], .bool true] w fun e w' => e = .returned (.int .i64 0) ∧ Below w.heap.size w w' := by
  have hnx : ∀ ty, (Instr.next (.pointer (some ⟨w.heap.size, 0, none⟩)) true ty).run Tryz.prog (w.iter s 0) = .ok (.tuple #[.bool true, .int .i64 0, .int .i32 (r : Int)]) (w.iter s 1) := fun ty => by
    rw [run_next_ascii w s 0 ty h0 (by omega), hr]
    rfl
  have HR := Lib.hid hr
  clear hr
  go_enter Tryz.func90, Tryz.ntmps90
  go_wp2_with fail
  refine wp_loop_rounds 1 ?_
  rw [rounds_succ]
  go_wp2_with (first | (go_at_call 65; refine (clos_yes r _ b0 b1).mono ?_; rintro e w' ⟨rfl, rfl⟩))
  go_ret
  exact ⟨rfl, bal (Below.refl _ _) _⟩

theorem lastIdx_top (s : ByteArray) (n : Nat) (w : World) (hm : s.size ≤ 1000) (h0 : 0 < n) (hn : n < s.size) (hd : ∀ i (h : i < s.size), n ≤ i → 48 ≤ s[i].toNat ∧ s[i].toNat ≤ 57) (hl : 65 ≤ (s[n - 1]'(by omega)).toNat ∧ (s[n - 1]'(by omega)).toNat ≤ 90) :
    Calls Tryz.prog 67 #[.string s, .func (.func 65) #[] #[]] w fun e w' => e = .returned (.int .i64 ((n : Int) - 1)) ∧ w = w' := by
  have HC := Lib.hid (lastIdx_any s n w hm h0 hn hd hl)
  clear hd hl
  go_enter Tryz.func67, Tryz.ntmps67
  go_wp2_with fail
  refine (HC.out).mono ?_
  rintro e w' ⟨rfl, rfl⟩
  go_wp2_with fail
  go_ret
  exact ⟨rfl, rfl⟩

theorem firstIdx_top (s : ByteArray) (r : Nat) (w : World) (h0 : 0 < s.size) (hr : s[0].toNat = r) (b0 : 65 ≤ r) (b1 : r ≤ 90) :
    Calls Tryz.prog 66 #[.string s, .func (.func 65) #[] #[]] w fun e w' => e = .returned (.int .i64 0) ∧ Below w.heap.size w w' := by
  have HC := Lib.hid (firstIdx_any s r w h0 hr b0 b1)
  clear hr
  go_enter Tryz.func66, Tryz.ntmps66
  go_wp2_with fail
  refine (HC.out).mono ?_
  rintro e w' ⟨rfl, hb⟩
  go_wp2_with fail
  go_ret
  exact ⟨rfl, hb⟩

/-- an ending that gives the first place of a part in a text -/
def IdxIs (sub s : ByteArray) (start : Nat) (e : Ending) : Prop := ∃ n : Int, e = .returned (.int .i64 n) ∧ FirstAt sub.data.toList s.data.toList start n

theorem bytes_toList (b : ByteArray) : b.toList = b.data.toList := by
  exact ByteArray.toList_eq b

theorem at_ext (s sub : ByteArray) (k : Nat) : ((s.extract k (k + sub.size)).toList == sub.toList) = true ↔ At sub.data.toList s.data.toList k := by
  rw [bytes_toList, bytes_toList, beq_iff_eq, ByteArray.data_extract, Array.toList_extract]
  unfold At
  rw [size_data]
  simp [List.extract_eq_take_drop]

/-- the first place of a part in a text -/
theorem index_any (s sub : ByteArray) (w : World) (h1 : s.size ≤ 70368744177664) (h2 : sub.size ≤ 70368744177664) :
    Calls Tryz.prog 92 #[.string s, .string sub] w fun e w' => IdxIs sub s 0 e ∧ w = w' := by
  go_enter Tryz.func92, Tryz.ntmps92
  go_wp2
  go_loop [5] (fun i => ∃ k : Nat, k ≤ s.size + 1 ∧ i = .int .i64 k ∧ ∀ j, j < k → ¬ At sub.data.toList s.data.toList j) (fun i => s.size + 1 - (intOf i).toNat)
  case atStart => exact ⟨0, Nat.zero_le _, rfl, fun j hj => absurd hj (Nat.not_lt_zero j)⟩
  case round =>
    obtain ⟨k, hk, rfl, hno⟩ := hrel
    have HN := Lib.hid hno
    clear hno
    by_cases hlt : k + sub.size ≤ s.size
    · go_wp2
      · have he : ((s.extract k (k + sub.size)).toList == sub.toList) = true := by assumption
        have hat := (at_ext s sub k).1 he
        go_ret
        exact ⟨⟨k, rfl, .inr ⟨k, rfl, Nat.zero_le _, by rw [size_data, size_data]; exact hlt, hat, fun i _ hi => HN.out i hi⟩⟩, rfl⟩
      · have he : ((s.extract k (k + sub.size)).toList == sub.toList) = false := by assumption
        have hat : ¬ At sub.data.toList s.data.toList k := fun h => by rw [(at_ext s sub k).2 h] at he; cases he
        go_round
        case rel => exact ⟨k + 1, by omega, by go_num, fun j hj => by
          rcases Nat.lt_or_ge j k with h | h
          · exact HN.out j h
          · obtain rfl : j = k := by omega
            exact hat⟩
        case measure => simp [intOf]; omega
    · go_wp2
      go_ret
      exact ⟨⟨-1, rfl, .inl ⟨rfl, fun i _ hi => HN.out i (by rw [size_data, size_data] at hi; omega)⟩⟩, rfl⟩

theorem conv_own {w : World} {base g cap : Nat} {s : ByteArray} (h : w.ownsRow base 5 1 (.slice (some ⟨g, 0, none⟩) s.size cap) s.size (Lib.strCells s)) :
    (convert 123 9 (.slice (some ⟨g, 0, none⟩) s.size cap)).run Tryz.prog w = .ok (.string s) w := by
  have hc := run_convert_bytes_back (P := Tryz.prog) w 123 9 5 ⟨g, 0, none⟩ cap s.data.toList Tryz.underlying123 Tryz.underlying5 Tryz.underlying9 (fun j hj => by
    refine h.cells (g := g) rfl j _ ?_
    simp only [Lib.strCells, List.getElem?_map, List.getElem?_eq_getElem hj, Option.map_some])
  rw [size_data] at hc
  exact hc

set_option maxRecDepth 100000 in
set_option maxHeartbeats 400000 in
/-- zzReplaceAll of a sign that does not occur -/
theorem replace_none (s : ByteArray) (w : World) (h1 : s.size ≤ 1000) (h0 : 0 < s.size) (hno : ∀ c ∈ s.data.toList, c.toNat ≠ 36) :
    Calls Tryz.prog 68 #[.string s, .string ⟨#[36]⟩, .string ⟨#[]⟩] w fun e w' => e = .returned (.string s) ∧ Below w.heap.size w w' := by
  obtain ⟨i0, hi, hz0, hz1, hz2⟩ := info_parts Tryz.info5
  have hidx : ∀ n, FirstAt [36] s.data.toList 0 n → n = -1 := by
    intro n hn
    rcases hn with ⟨h, _⟩ | ⟨m, _, _, hm, hat, _⟩
    · exact h
    · exfalso
      have hm' : m < s.data.toList.length := by simp at hm ⊢; omega
      have : (s.data.toList.drop m).take 1 = [36] := hat
      rw [List.drop_eq_getElem_cons hm'] at this
      simp at this
      exact hno _ (List.getElem_mem hm') (by simp [this])
  have HX := Lib.hid hidx
  clear hidx hno
  go_enter Tryz.func68, Tryz.ntmps68
  go_wp2_with fail
  refine wp_loop_rounds 1 ?_
  rw [rounds_succ]
  go_wp2_with fail
  refine (index_any s ⟨#[36]⟩ _ (by omega) (by show 1 ≤ _; omega)).mono ?_
  rintro e w1 ⟨⟨n, rfl, hn⟩, rfl⟩
  obtain rfl := HX.out n hn
  clear hn
  go_wp2_with (first
    | (at_builtin
       refine Lib.wpList_append_own_string _ rfl (.tmp 14) (.tmp 15) 123 9 rfl w.heap.size 5 i0 Tryz.underlying123 Tryz.underlying9 hi hz0 hz1 hz2 _ 0 [] rfl (World.ownsRow_nil _ _ _ _) s rfl ?c1 ?c2 ?c3 ?_
       rotate_left 3
       intro v' w3 hown3 hg3 _
       simp only [Nat.zero_add, List.nil_append] at hown3
       obtain ⟨g, cap, rfl, hgb, hgl⟩ := hown3.form h0
       have hconv : (convert 123 9 (.slice (some ⟨g, 0, none⟩) s.size cap)).run Tryz.prog w3 = .ok (.string s) w3 := conv_own hown3
       have HO := Lib.hid hown3
       have HG : Hid (Below w.heap.size w w3) := (Below.refl _ w).grown hg3 (Nat.le_refl _) (by intro k hk; cases hk)
       clear hown3 hg3))
  · go_ret
    exact ⟨rfl, HG.out⟩
  case c1 => unfold maxLen; omega
  case c2 => omega
  case c3 => exact Nat.le_refl _

end Go.Proofs.YtafdhmpikkfepaaGreatDoor
