import Derived.Test.YtafdhmpikkfepaaGreatDoorAdr
import Derived.Test.YtafdhmpikkfepaaGreatDoorCn
import Derived.Deep.LoopGhost
import Derived.Deep.RegionWith
import Derived.Deep.Cut
import Derived.Deep.CutRange
import Derived.Deep.QuietTactic
import Derived.BigQuiet
import Derived.Deep.RegionHeld3
namespace Go.Proofs.YtafdhmpikkfepaaGreatDoor
open Go.RowKit Go.Sort

/-- ten values written over a variable -/
def setTenV (w : World) (b : Nat) (v0 v1 v2 v3 v4 v5 v6 v7 v8 v9 : Value) : World := ((((((((((w.setCell ⟨b, 0, none⟩ v0).setCell ⟨b, 1, none⟩ v1).setCell ⟨b, 2, none⟩ v2).setCell ⟨b, 3, none⟩ v3).setCell ⟨b, 4, none⟩ v4).setCell ⟨b, 5, none⟩ v5).setCell ⟨b, 6, none⟩ v6).setCell ⟨b, 7, none⟩ v7).setCell ⟨b, 8, none⟩ v8).setCell ⟨b, 9, none⟩ v9)

theorem setTenV_heap {w : World} {b : Nat} {v0 v1 v2 v3 v4 v5 v6 v7 v8 v9 u0 u1 u2 u3 u4 u5 u6 u7 u8 u9 : Value} (h : w.heap[b]? = some (.cells #[u0, u1, u2, u3, u4, u5, u6, u7, u8, u9] 67)) :
    (setTenV w b v0 v1 v2 v3 v4 v5 v6 v7 v8 v9).heap[b]? = some (.cells #[v0, v1, v2, v3, v4, v5, v6, v7, v8, v9] 67) := by
  obtain ⟨w0, e0⟩ : ∃ x, x = (w).setCell ⟨b, 0, none⟩ v0 := ⟨_, rfl⟩
  have g0 : w0.heap[b]? = some (.cells #[v0, u1, u2, u3, u4, u5, u6, u7, u8, u9] 67) := by rw [e0, heap_set_same h]; rfl
  obtain ⟨w1, e1⟩ : ∃ x, x = (w0).setCell ⟨b, 1, none⟩ v1 := ⟨_, rfl⟩
  have g1 : w1.heap[b]? = some (.cells #[v0, v1, u2, u3, u4, u5, u6, u7, u8, u9] 67) := by rw [e1, heap_set_same g0]; rfl
  obtain ⟨w2, e2⟩ : ∃ x, x = (w1).setCell ⟨b, 2, none⟩ v2 := ⟨_, rfl⟩
  have g2 : w2.heap[b]? = some (.cells #[v0, v1, v2, u3, u4, u5, u6, u7, u8, u9] 67) := by rw [e2, heap_set_same g1]; rfl
  obtain ⟨w3, e3⟩ : ∃ x, x = (w2).setCell ⟨b, 3, none⟩ v3 := ⟨_, rfl⟩
  have g3 : w3.heap[b]? = some (.cells #[v0, v1, v2, v3, u4, u5, u6, u7, u8, u9] 67) := by rw [e3, heap_set_same g2]; rfl
  obtain ⟨w4, e4⟩ : ∃ x, x = (w3).setCell ⟨b, 4, none⟩ v4 := ⟨_, rfl⟩
  have g4 : w4.heap[b]? = some (.cells #[v0, v1, v2, v3, v4, u5, u6, u7, u8, u9] 67) := by rw [e4, heap_set_same g3]; rfl
  obtain ⟨w5, e5⟩ : ∃ x, x = (w4).setCell ⟨b, 5, none⟩ v5 := ⟨_, rfl⟩
  have g5 : w5.heap[b]? = some (.cells #[v0, v1, v2, v3, v4, v5, u6, u7, u8, u9] 67) := by rw [e5, heap_set_same g4]; rfl
  obtain ⟨w6, e6⟩ : ∃ x, x = (w5).setCell ⟨b, 6, none⟩ v6 := ⟨_, rfl⟩
  have g6 : w6.heap[b]? = some (.cells #[v0, v1, v2, v3, v4, v5, v6, u7, u8, u9] 67) := by rw [e6, heap_set_same g5]; rfl
  obtain ⟨w7, e7⟩ : ∃ x, x = (w6).setCell ⟨b, 7, none⟩ v7 := ⟨_, rfl⟩
  have g7 : w7.heap[b]? = some (.cells #[v0, v1, v2, v3, v4, v5, v6, v7, u8, u9] 67) := by rw [e7, heap_set_same g6]; rfl
  obtain ⟨w8, e8⟩ : ∃ x, x = (w7).setCell ⟨b, 8, none⟩ v8 := ⟨_, rfl⟩
  have g8 : w8.heap[b]? = some (.cells #[v0, v1, v2, v3, v4, v5, v6, v7, v8, u9] 67) := by rw [e8, heap_set_same g7]; rfl
  obtain ⟨w9, e9⟩ : ∃ x, x = (w8).setCell ⟨b, 9, none⟩ v9 := ⟨_, rfl⟩
  have g9 : w9.heap[b]? = some (.cells #[v0, v1, v2, v3, v4, v5, v6, v7, v8, v9] 67) := by rw [e9, heap_set_same g8]; rfl
  unfold setTenV
  rw [← e0, ← e1, ← e2, ← e3, ← e4, ← e5, ← e6, ← e7, ← e8, ← e9]
  exact g9

theorem setTenV_other {w : World} {b k : Nat} {v0 v1 v2 v3 v4 v5 v6 v7 v8 v9 : Value} (h : k ≠ b) : (setTenV w b v0 v1 v2 v3 v4 v5 v6 v7 v8 v9).heap[k]? = w.heap[k]? := by
  unfold setTenV
  rw [heap_set_other h, heap_set_other h, heap_set_other h, heap_set_other h, heap_set_other h, heap_set_other h, heap_set_other h, heap_set_other h, heap_set_other h, heap_set_other h]
theorem setTenV_size (w : World) (b : Nat) (v0 v1 v2 v3 v4 v5 v6 v7 v8 v9 : Value) : (setTenV w b v0 v1 v2 v3 v4 v5 v6 v7 v8 v9).heap.size = w.heap.size := by simp [setTenV, World.setCell]
theorem setTenV_below (w : World) (B b : Nat) (v0 v1 v2 v3 v4 v5 v6 v7 v8 v9 : Value) (h : B ≤ b) : Below B w (setTenV w b v0 v1 v2 v3 v4 v5 v6 v7 v8 v9) := by
  unfold setTenV
  refine Below.setCell (p := ⟨b, 9, none⟩) ?_ h _
  refine Below.setCell (p := ⟨b, 8, none⟩) ?_ h _
  refine Below.setCell (p := ⟨b, 7, none⟩) ?_ h _
  refine Below.setCell (p := ⟨b, 6, none⟩) ?_ h _
  refine Below.setCell (p := ⟨b, 5, none⟩) ?_ h _
  refine Below.setCell (p := ⟨b, 4, none⟩) ?_ h _
  refine Below.setCell (p := ⟨b, 3, none⟩) ?_ h _
  refine Below.setCell (p := ⟨b, 2, none⟩) ?_ h _
  refine Below.setCell (p := ⟨b, 1, none⟩) ?_ h _
  exact Below.setCell (p := ⟨b, 0, none⟩) (Below.refl _ _) h _

/-- a text of plain bytes -/
abbrev Plain (s : ByteArray) : Prop := ∀ i (h : i < s.size), s[i].toNat < 128

set_option maxRecDepth 100000 in
theorem len16_any (r : Nat) (w : World) (h : r < 128) :
    Calls Tryz.prog 123 #[.int .i32 r] w fun e w' => e = .returned (.int .i64 1) ∧ w = w' := by
  have f1 : (0 : Int) ≤ (r : Int) := by omega
  have f2 : (r : Int) < 55296 := by omega
  go_enter Tryz.func123, Tryz.ntmps123
  go_wp2
  go_ret
  exact ⟨rfl, rfl⟩

theorem len8_any (r : Nat) (w : World) (h : r < 128) :
    Calls Tryz.prog 75 #[.int .i32 r] w fun e w' => e = .returned (.int .i64 1) ∧ w = w' := by
  go_enter Tryz.func75, Tryz.ntmps75
  go_wp2
  go_ret
  exact ⟨rfl, rfl⟩

theorem count16_any (s : ByteArray) (w : World) (hm : s.size ≤ 1000000) (ha : Plain s) :
    Calls Tryz.prog 99 #[.string s] w fun e w' => e = .returned (.int .i64 s.size) ∧ Below w.heap.size w w' := by
  have HA := Lib.hid ha
  clear ha
  go_enter Tryz.func99, Tryz.ntmps99
  go_wp2_with fail
  go_loopw [3] (fun c wr => ∃ k : Nat, k ≤ s.size ∧ c = .int .i64 k ∧ wr = w.iter s k) (fun c _ => s.size - (intOf c).toNat)
  case atStart => exact ⟨0, Nat.zero_le _, rfl, rfl⟩
  case round =>
    obtain ⟨k, hk, rfl, rfl⟩ := hrel
    by_cases hlt : k < s.size
    · have hnx : ∀ ty, (Instr.next (.pointer (some ⟨w.heap.size, 0, none⟩)) true ty).run Tryz.prog (w.iter s k) = .ok (.tuple #[.bool true, .int .i64 k, .int .i32 ((s[k].toNat : Nat) : Int)]) (w.iter s (k + 1)) := fun ty => run_next_ascii w s k ty hlt (HA.out k hlt)
      obtain ⟨r, hr⟩ : ∃ r : Nat, s[k].toNat = r := ⟨_, rfl⟩
      have hr2 : r < 128 := by rw [← hr]; exact HA.out k hlt
      rw [hr] at hnx
      clear hr
      go_wp2_with (go_at_call 123; refine (len16_any r _ hr2).mono ?_; rintro e w' ⟨rfl, rfl⟩)
      go_roundw
      case rel => exact ⟨k + 1, by omega, by go_num, rfl⟩
      case measure => simp [intOf]; omega
    · obtain rfl : k = s.size := by omega
      have hnx : ∀ ty, (Instr.next (.pointer (some ⟨w.heap.size, 0, none⟩)) true ty).run Tryz.prog (w.iter s s.size) = .ok (.tuple #[.bool false]) (w.iter s s.size) := fun ty => run_next_end w s s.size ty hlt
      go_wp2_with fail
      go_ret
      exact ⟨rfl, bal (Below.refl _ _) _⟩

/-- a truth value that, when true, brings a fact -/
def YesIs (p : Prop) (e : Ending) : Prop := ∃ b : Bool, e = .returned (.bool b) ∧ (b = true → p)

theorem ascii_any (s : ByteArray) (w : World) (hm : s.size ≤ 4611686018427387904) :
    Calls Tryz.prog 19 #[.string s] w fun e w' => YesIs (∀ i (h : i < s.size), 32 ≤ s[i].toNat ∧ s[i].toNat ≤ 126) e ∧ w = w' := by
  go_enter Tryz.func19, Tryz.ntmps19
  go_wp2
  go_loop [3] (fun i => ∃ k : Nat, k ≤ s.size ∧ i = .int .i64 k ∧ ∀ j (h : j < s.size), j < k → 32 ≤ s[j].toNat ∧ s[j].toNat ≤ 126) (fun i => s.size - (intOf i).toNat)
  case atStart => exact ⟨0, Nat.zero_le _, rfl, fun j _ hj => absurd hj (Nat.not_lt_zero j)⟩
  case round =>
    obtain ⟨k, hk, rfl, hp⟩ := hrel
    have HP := Lib.hid hp
    clear hp
    by_cases hlt : k < s.size
    · have hix := run_index_at s k hlt
      obtain ⟨c, hc⟩ : ∃ c : Nat, s[k].toNat = c := ⟨_, rfl⟩
      have hc2 : c < 256 := by rw [← hc]; exact s[k].toNat_lt
      rw [hc] at hix
      have HC := Lib.hid hc
      clear hc
      by_cases h1 : c < 32
      · go_wp2
        go_ret
        exact ⟨⟨false, rfl, fun h => by cases h⟩, rfl⟩
      by_cases h2 : 126 < c
      · go_wp2
        go_ret
        exact ⟨⟨false, rfl, fun h => by cases h⟩, rfl⟩
      · go_wp2
        go_round
        case rel => exact ⟨k + 1, by omega, by go_num, fun j hj hjk => by
          rcases Nat.lt_or_ge j k with h | h
          · exact HP.out j hj h
          · obtain rfl : j = k := by omega
            have := HC.out
            omega⟩
        case measure => simp [intOf]; omega
    · go_wp2
      go_ret
      exact ⟨⟨true, rfl, fun _ i h => HP.out i h (by omega)⟩, rfl⟩

/-- a plain text to look in: no sign with a meaning of its own -/
abbrev Tame (s : ByteArray) : Prop := ∀ i (h : i < s.size), s[i].toNat ≠ 42 ∧ s[i].toNat ≠ 63 ∧ s[i].toNat ≠ 126

set_option maxHeartbeats 1000000 in
theorem plain_any (s : ByteArray) (w : World) (hm : s.size ≤ 4611686018427387904) :
    Calls Tryz.prog 11 #[.string s] w fun e w' => YesIs (Tame s ∧ s.size ≤ 200 ∧ ∀ i (h : i < s.size), 32 ≤ s[i].toNat ∧ s[i].toNat ≤ 126) e ∧ w = w' := by
  go_enter Tryz.func11, Tryz.ntmps11
  go_wp2
  go_loop [3] (fun i => ∃ k : Nat, k ≤ s.size ∧ i = .int .i64 k ∧ ∀ j (h : j < s.size), j < k → s[j].toNat ≠ 42 ∧ s[j].toNat ≠ 63 ∧ s[j].toNat ≠ 126) (fun i => s.size - (intOf i).toNat)
  case atStart => exact ⟨0, Nat.zero_le _, rfl, fun j _ hj => absurd hj (Nat.not_lt_zero j)⟩
  case round =>
    obtain ⟨k, hk, rfl, hp⟩ := hrel
    have HP := Lib.hid hp
    clear hp
    by_cases hlt : k < s.size
    · have hix := run_index_at s k hlt
      obtain ⟨c, hc⟩ : ∃ c : Nat, s[k].toNat = c := ⟨_, rfl⟩
      have hc2 : c < 256 := by rw [← hc]; exact s[k].toNat_lt
      rw [hc] at hix
      have HC := Lib.hid hc
      clear hc
      have bx : c = 42 ∨ c = 63 ∨ c = 126 ∨ (c ≠ 42 ∧ c ≠ 63 ∧ c ≠ 126) := by omega
      rcases bx with rfl | rfl | rfl | ⟨h1, h2, h3⟩
      · go_wp2
        go_ret
        exact ⟨⟨false, rfl, fun h => by cases h⟩, rfl⟩
      · go_wp2
        go_ret
        exact ⟨⟨false, rfl, fun h => by cases h⟩, rfl⟩
      · go_wp2
        go_ret
        exact ⟨⟨false, rfl, fun h => by cases h⟩, rfl⟩
      · have f1 : ((c : Int) == 42) = false := beq_eq_false_iff_ne.2 (by omega)
        have f2 : ((c : Int) == 63) = false := beq_eq_false_iff_ne.2 (by omega)
        have f3 : ((c : Int) == 126) = false := beq_eq_false_iff_ne.2 (by omega)
        go_wp2
        go_round
        case rel => exact ⟨k + 1, by omega, by go_num, fun j hj hjk => by
          rcases Nat.lt_or_ge j k with h | h
          · exact HP.out j hj h
          · obtain rfl : j = k := by omega
            rw [HC.out]
            exact ⟨h1, h2, h3⟩⟩
        case measure => simp [intOf]; omega
    · have hp := HP.out
      obtain rfl : k = s.size := by omega
      clear hp
      go_wp2_with fail
      refine (ascii_any s _ hm).mono ?_
      rintro e w' ⟨⟨b, rfl, hb⟩, rfl⟩
      have HB := Lib.hid hb
      clear hb
      cases b
      · go_wp2_with fail
        go_ret
        exact ⟨⟨false, rfl, fun h => by cases h⟩, rfl⟩
      · go_wp2_with fail
        go_ret
        exact ⟨⟨decide ((s.size : Int) ≤ 200), rfl, fun h => ⟨fun i h => HP.out i h h, by have := of_decide_eq_true h; omega, HB.out trivial⟩⟩, rfl⟩

/-- the first place of a part in a text, as the law looks for it -/
theorem findAt_any (s sub : ByteArray) (w : World) (h1 : s.size ≤ 70368744177664) (h2 : sub.size ≤ 70368744177664) :
    Calls Tryz.prog 12 #[.string sub, .string s, .int .i64 0] w fun e w' => IdxIs sub s 0 e ∧ w = w' := by
  go_enter Tryz.func12, Tryz.ntmps12
  go_wp2
  go_loop [7] (fun i => ∃ k : Nat, k ≤ s.size + 1 ∧ i = .int .i64 k ∧ ∀ j, j < k → ¬ At sub.data.toList s.data.toList j) (fun i => s.size + 1 - (intOf i).toNat)
  case atStart => exact ⟨0, Nat.zero_le _, rfl, fun j hj => absurd hj (Nat.not_lt_zero j)⟩
  case round =>
    obtain ⟨k, hk, rfl, hno⟩ := hrel
    have HN := Lib.hid hno
    clear hno
    by_cases hlt : k + sub.size ≤ s.size
    · go_wp2
      · have he : ((s.extract k (k + sub.size)).toList == sub.toList) = true := by assumption
        have hat := (at_ext s sub k).1 he
        go_ret
        exact ⟨⟨k, rfl, .inr ⟨k, rfl, Nat.zero_le _, by rw [size_data, size_data]; exact hlt, hat, fun i _ hi => HN.out i hi⟩⟩, rfl⟩
      · have he : ((s.extract k (k + sub.size)).toList == sub.toList) = false := by assumption
        have hat : ¬ At sub.data.toList s.data.toList k := fun h => by rw [(at_ext s sub k).2 h] at he; cases he
        go_round
        case rel => exact ⟨k + 1, by omega, by go_num, fun j hj => by
          rcases Nat.lt_or_ge j k with h | h
          · exact HN.out j h
          · obtain rfl : j = k := by omega
            exact hat⟩
        case measure => simp [intOf]; omega
    · go_wp2
      go_ret
      exact ⟨⟨-1, rfl, .inl ⟨rfl, fun i _ hi => HN.out i (by rw [size_data, size_data] at hi; omega)⟩⟩, rfl⟩

theorem containsAny_no (s : ByteArray) (w : World) (hm : s.size ≤ 1000000) (ht : Tame s) :
    Calls Tryz.prog 121 #[.string s, .string ⟨#[42, 63]⟩] w fun e w' => e = .returned (.bool false) ∧ Below w.heap.size w w' := by
  have HT := Lib.hid ht
  clear ht
  go_enter Tryz.func121, Tryz.ntmps121
  go_wp2_with fail
  go_loopw [5] (fun i wr => ∃ k : Nat, k ≤ s.size ∧ i = .int .i64 k ∧ Below w.heap.size w wr) (fun i _ => s.size - (intOf i).toNat)
  case atStart => exact ⟨0, Nat.zero_le _, rfl, Below.refl _ _⟩
  case round =>
    obtain ⟨k, hk, rfl, hb⟩ := hrel
    have HB := Lib.hid hb
    clear hb
    by_cases hlt : k < s.size
    · have hix := run_index_at s k hlt
      have hix0 : ∀ W, (Instr.index 9 (.string ⟨#[42, 63]⟩) (.int .i64 0)).run Tryz.prog W = .ok (.int .u8 42) W := run_index_at ⟨#[42, 63]⟩ 0 (by decide)
      have hix1 : ∀ W, (Instr.index 9 (.string ⟨#[42, 63]⟩) (.int .i64 1)).run Tryz.prog W = .ok (.int .u8 63) W := run_index_at ⟨#[42, 63]⟩ 1 (by decide)
      obtain ⟨c, hc⟩ : ∃ c : Nat, s[k].toNat = c := ⟨_, rfl⟩
      have hne := HT.out k hlt
      rw [hc] at hix hne
      clear hc
      obtain ⟨n1, n2, -⟩ := hne
      have f1 : ((c : Int) == 42) = false := beq_eq_false_iff_ne.2 (by omega)
      have f2 : ((c : Int) == 63) = false := beq_eq_false_iff_ne.2 (by omega)
      clear n1 n2
      go_wp2_with fail
      refine wp_loop_rounds 3 ?_
      rw [rounds_succ]
      go_wp2_with fail
      go_quiet (fail)
      go_wp2_with fail
      rw [rounds_succ]
      go_wp2_with fail
      go_quiet (fail)
      go_wp2_with fail
      rw [rounds_succ]
      go_wp2_with fail
      exact ⟨⟨k + 1, by omega, by go_num, bdrewN HB.out _⟩, by simp [intOf]; omega⟩
    · go_wp2_with fail
      go_ret
      exact ⟨rfl, HB.out⟩

/-- the pattern has no sign: it is looked for as it stands -/
def PatIs (k : Nat) (e : Ending) : Prop := e = .returned (.tuple #[.int .i64 ((k : Int) + 1), .bool true])

theorem size_ext (s : ByteArray) (a b : Nat) (h : b ≤ s.size) : (s.extract a b).size = b - a := by
  rw [ByteArray.size_extract]; omega

set_option maxHeartbeats 1000000 in
theorem match_any (sub s : ByteArray) (p : Nat) (w : World) (hp0 : 0 < sub.size) (hm : s.size ≤ 1000) (hm2 : sub.size ≤ 1000) (ha : Plain s) (ht : Tame sub) (hf : FirstAt sub.data.toList s.data.toList 0 p) :
    Calls Tryz.prog 98 #[.string sub, .string s, .bool false, .int .i64 1] w fun e w' => PatIs p e ∧ Below w.heap.size w w' := by
  obtain ⟨hps, hat, hno⟩ : p + sub.size ≤ s.size ∧ At sub.data.toList s.data.toList p ∧ ∀ j, j < p → ¬ At sub.data.toList s.data.toList j := by
    rcases hf with ⟨h, _⟩ | ⟨m, h, _, h2, h3, h4⟩
    · exact absurd h (by omega)
    · obtain rfl : p = m := by omega
      rw [size_data, size_data] at h2
      exact ⟨h2, h3, fun j hj => h4 j (Nat.zero_le _) hj⟩
  clear hf
  have HIX : ∀ k ≤ s.size, ∀ n : Int, FirstAt sub.data.toList (s.extract k s.size).data.toList 0 n → (n = 0 ↔ At sub.data.toList s.data.toList k) := by
    intro k hk n hn
    rw [ext_list, List.take_of_length_le (by rw [List.length_drop, size_data]; omega)] at hn
    constructor
    · intro h
      exact Decidable.byContradiction fun hc => hn.nonzero (fun h2 => hc (At.drop.1 h2)) h
    · intro h
      exact hn.zero (At.drop.2 h) (by have := h.len (by intro h; have := congrArg List.length h; rw [size_data, List.length_nil] at this; omega); rw [List.length_drop]; omega)
  have HA := Lib.hid ha
  have HT := Lib.hid ht
  have HI := Lib.hid HIX
  have HM := Lib.hid hat
  have HN := Lib.hid hno
  clear ha ht HIX hat hno
  go_enter Tryz.func98, Tryz.ntmps98
  go_wp2_with fail
  refine (containsAny_no sub _ (by omega) HT.out).mono ?_
  rintro e w1 ⟨rfl, hb1⟩
  go_wp2_with fail
  go_loopw [11] (fun c wr => ∃ k : Nat, k ≤ p ∧ c = .int .i64 ((k : Int) + 1) ∧ wr = w1.iter s k) (fun c _ => s.size - (intOf c).toNat)
  case atStart => exact ⟨0, Nat.zero_le _, rfl, rfl⟩
  case round =>
    obtain ⟨k, hk, rfl, rfl⟩ := hrel
    have hlt : k < s.size := by omega
    have hnx : ∀ ty, (Instr.next (.pointer (some ⟨w1.heap.size, 0, none⟩)) true ty).run Tryz.prog (w1.iter s k) = .ok (.tuple #[.bool true, .int .i64 k, .int .i32 ((s[k].toNat : Nat) : Int)]) (w1.iter s (k + 1)) := fun ty => run_next_ascii w1 s k ty hlt (HA.out k hlt)
    obtain ⟨r, hr⟩ : ∃ r : Nat, s[k].toNat = r := ⟨_, rfl⟩
    rw [hr] at hnx
    clear hr
    go_wp2_with fail
    refine (index_any (s.extract k s.size) sub _ (by rw [size_ext s _ _ (Nat.le_refl _)]; omega) (by omega)).mono ?_
    rintro e w2 ⟨⟨n, rfl, hn⟩, rfl⟩
    have hz := HI.out k (by omega) n hn
    clear hn
    rcases Nat.lt_or_ge k p with hkp | hkp
    · have hne : (n == 0) = false := beq_eq_false_iff_ne.2 (fun h => HN.out k hkp (hz.1 h))
      clear hz
      go_wp2_with fail
      go_roundw
      case rel => exact ⟨k + 1, by omega, by go_num, rfl⟩
      case measure => simp [intOf]; omega
    · obtain rfl : k = p := by omega
      obtain rfl : n = 0 := hz.2 HM.out
      clear hz
      go_wp2_with fail
      refine (count16_any s _ (by omega) HA.out).mono ?_
      rintro e w3 ⟨rfl, hb3⟩
      have hx : ((s.size : Int) != (k : Int)) = true := by simp; omega
      go_wp2_with fail
      go_ret2
      exact ⟨rfl, btr (bal hb1 _) hb3⟩

/-- one value's list: a row of one formulaArg -/
abbrev lArg (g : Nat) : Value := .agg #[.string ⟨#[]⟩, .float .f64 0, .string ⟨#[]⟩, .slice (some ⟨g, 0, none⟩) 1 1, .slice none 0 0, .bool false, .string ⟨#[]⟩, .int .u8 3, .pointer none, .pointer none]

abbrev lBox (g : Nat) : Obj := .cells #[.string ⟨#[]⟩, .float .f64 0, .string ⟨#[]⟩, .slice (some ⟨g, 0, none⟩) 1 1, .slice none 0 0, .bool false, .string ⟨#[]⟩, .int .u8 3, .pointer none, .pointer none] 67

/-- an ending that gives a list of one value, whose number is one -/
def ListIs (w : World) (e : Ending) : Prop := ∃ g, e = .returned (lArg g) ∧ w.heap[g]? = some (.cells #[.string ⟨#[]⟩, .float .f64 4607182418800017408, .string ⟨#[]⟩, .slice none 0 0, .slice none 0 0, .bool false, .string ⟨#[]⟩, .int .u8 1, .pointer none, .pointer none] 67)

section
attribute [local go_sem] run_store_flt run_assert
theorem listf_any (g : Nat) (w : World) :
    Calls Tryz.prog 114 #[.slice (some ⟨g, 0, none⟩) 1 1] w fun e w' => e = .returned (lArg g) ∧ Below w.heap.size w w' := by
  go_enter Tryz.func114, Tryz.ntmps114
  go_wp2
  exact bodyPost_ret (v := lArg g) (by simp [results, Tryz.results114, go_sem]) rfl ⟨rfl, bal (Below.refl _ _) _⟩

theorem prepFind_any (pf lb e0 e1 : Nat) (a b : ByteArray) (w : World) (hv : View w lb [e0, e1] [fStr a, fStr b]) :
    Calls Tryz.prog 95 #[ptr pf, .string ⟨#[70, 73, 78, 68]⟩, ptr lb] w fun e w' => ListIs w' e ∧ Below w.heap.size w w' := by
  have HV := Lib.hid hv
  clear hv
  go_enter Tryz.func95, Tryz.ntmps95
  go_wp2_with fail
  refine (len_any lb _ _ _ (HV.out.below (bal (Below.refl _ _) _))).mono ?_
  rintro e w1 ⟨rfl, rfl⟩
  go_wp2_with fail
  refine (len_any lb _ _ _ (HV.out.below (bal (Below.refl _ _) _))).mono ?_
  rintro e w1 ⟨rfl, rfl⟩
  go_wp2_with fail
  refine (len_any lb _ _ _ (HV.out.below (bal (Below.refl _ _) _))).mono ?_
  rintro e w1 ⟨rfl, rfl⟩
  go_wp2_with fail
  refine (num_one_b _).mono ?_
  rintro e w1 ⟨rfl, hb1⟩
  go_wp2_with fail
  refine (listf_any _ _).mono ?_
  rintro e w2 ⟨rfl, hb2⟩
  have hG : w2.heap[w1.heap.size]? = some (.cells #[.string ⟨#[]⟩, .float .f64 4607182418800017408, .string ⟨#[]⟩, .slice none 0 0, .slice none 0 0, .bool false, .string ⟨#[]⟩, .int .u8 1, .pointer none, .pointer none] 67) := keep_blk hb2 (heap_alloc_new w1 _)
  have hR : w2.heap[w.heap.size]? = some (fBox 0 ⟨#[]⟩ false ⟨#[]⟩ 0) := keep_blk hb2 (keep_al (keep_blk hb1 (heap_alloc_new w _)) _)
  have l1 : w.heap.size < w1.heap.size := by have := hb1.size; simp at this; omega
  have cR := fun o => cell_at hR o
  have fR := fun o => free_at hR o
  have HC := Lib.hid hR
  have HG := Lib.hid hG
  clear hR hG
  go_wp2_with fail
  have B2 : Below w.heap.size w w2 := btr (bal (btr (bal (Below.refl _ w) _) hb1) _) hb2
  refine bodyPost_ret (v := lArg w1.heap.size) ?_ rfl ⟨⟨_, rfl, ?_⟩, ?_⟩
  · have hT : (setTenV w2 w.heap.size (.string ⟨#[]⟩) (.float .f64 0) (.string ⟨#[]⟩) (.slice (some ⟨w1.heap.size, 0, none⟩) 1 1) (.slice none 0 0) (.bool false) (.string ⟨#[]⟩) (.int .u8 3) (.pointer none) (.pointer none)).heap[w.heap.size]? = some (lBox w1.heap.size) := setTenV_heap HC.out
    change Sem.run Tryz.prog (results Tryz.f95 _) (setTenV w2 w.heap.size (.string ⟨#[]⟩) (.float .f64 0) (.string ⟨#[]⟩) (.slice (some ⟨w1.heap.size, 0, none⟩) 1 1) (.slice none 0 0) (.bool false) (.string ⟨#[]⟩) (.int .u8 3) (.pointer none) (.pointer none)) = Result.ok _ (setTenV w2 w.heap.size (.string ⟨#[]⟩) (.float .f64 0) (.string ⟨#[]⟩) (.slice (some ⟨w1.heap.size, 0, none⟩) 1 1) (.slice none 0 0) (.bool false) (.string ⟨#[]⟩) (.int .u8 3) (.pointer none) (.pointer none))
    generalize (setTenV w2 w.heap.size (.string ⟨#[]⟩) (.float .f64 0) (.string ⟨#[]⟩) (.slice (some ⟨w1.heap.size, 0, none⟩) 1 1) (.slice none 0 0) (.bool false) (.string ⟨#[]⟩) (.int .u8 3) (.pointer none) (.pointer none)) = W at hT ⊢
    have cT := fun o => cell_at hT o
    clear hT
    simp [results, Tryz.results95, go_sem, cT]
  · change (setTenV w2 w.heap.size (.string ⟨#[]⟩) (.float .f64 0) (.string ⟨#[]⟩) (.slice (some ⟨w1.heap.size, 0, none⟩) 1 1) (.slice none 0 0) (.bool false) (.string ⟨#[]⟩) (.int .u8 3) (.pointer none) (.pointer none)).heap[w1.heap.size]? = _
    rw [setTenV_other (by omega)]
    exact HG.out
  · exact B2.trans (setTenV_below w2 w.heap.size w.heap.size _ _ _ _ _ _ _ _ _ _ (Nat.le_refl _))

end

end Go.Proofs.YtafdhmpikkfepaaGreatDoor
