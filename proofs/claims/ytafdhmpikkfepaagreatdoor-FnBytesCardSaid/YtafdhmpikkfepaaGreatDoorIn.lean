import Derived.Test.YtafdhmpikkfepaaGreatDoorVal
namespace Go.Proofs.YtafdhmpikkfepaaGreatDoor
open Go.RowKit

theorem rowOf_get (l : List (Int × Nat × ByteArray)) (k j : Nat) (hk : k < l.length) (hj : j < 4) : (rowOf l)[k * 4 + j]? = (vCells l[k])[j]? := by
  induction l generalizing k with
  | nil => simp at hk
  | cons c t ih =>
    have hc : (vCells c).length = 4 := rfl
    have e : rowOf (c :: t) = vCells c ++ rowOf t := by simp [rowOf]
    rw [e]
    cases k with
    | zero => rw [List.getElem?_append_left (by rw [hc]; omega), Nat.zero_mul, Nat.zero_add]; rfl
    | succ k =>
      rw [List.getElem?_append_right (by rw [hc]; omega), hc, show (k + 1) * 4 + j - 4 = k * 4 + j by omega]
      exact ih k (by simpa using hk)

theorem addr_zero (g j : Nat) : (⟨g, 0, none⟩ : Addr).add j = ⟨g, j, none⟩ := by unfold Addr.add; split <;> simp_all

theorem Tryz.info49 : (Tryz.prog.info? 49).map (fun i => (i.zero, i.size, i.bytes)) = some (some (.agg #[.int .i64 0, .float .f64 0, .string ⟨#[]⟩, .slice none 0 0]), 4, 56) := by kernel_rfl

section
attribute [local go_sem] run_store_flt
set_option maxHeartbeats 1000000 in
theorem in_any (base g cap n : Nat) (l : List (Int × Nat × ByteArray)) (w : World) (hl : l.length = n) (hn0 : 0 < n) (hn : n ≤ 1000) (hown : w.ownsRow base 26 4 (.slice (some ⟨g, 0, none⟩) n cap) n (rowOf l)) :
    Calls Tryz.prog 26 #[.slice (some ⟨g, 0, none⟩) n cap] w fun e w' => ∃ v', e = .returned v' ∧ w'.ownsRow w.heap.size 49 4 v' n (rowOf l) ∧ Below w.heap.size w w' := by
  obtain ⟨i0, hi, hz0, hz1, hz2⟩ := info_parts Tryz.info49
  have hg : g < w.heap.size := (hown.lt g rfl).2
  have hcell : ∀ k (hk : k < l.length) (j : Nat), j < 4 → w.cell? ⟨g, k * 4 + j, none⟩ = (vCells l[k])[j]? := by
    intro k hk j hj
    have h4 : j < (vCells l[k]).length := hj
    have := hown.cells (g := g) rfl (k * 4 + j) ((vCells l[k])[j]) (by rw [rowOf_get l k j hk hj, List.getElem?_eq_getElem h4])
    rw [List.getElem?_eq_getElem h4, ← this, addr_zero]
  go_enter Tryz.func26, Tryz.ntmps26
  clear hown
  go_wp2
  go_loopw [3, 11] (fun v i wr => ∃ k : Nat, k ≤ n ∧ i = .int .i64 k ∧ wr.ownsRow w.heap.size 49 4 v k (rowOf (l.take k)) ∧ Below w.heap.size w wr) (fun _ i _ => n - (intOf i).toNat)
  case atStart => exact ⟨0, Nat.zero_le _, rfl, World.ownsRow_nil _ _ _ _, Below.refl _ _⟩
  case round =>
    obtain ⟨k, hk, rfl, hown, hb⟩ := hrel
    by_cases hlt : k < n
    · have hkl : k < l.length := by omega
      have c0 : wr.cell? ⟨g, k * 4, none⟩ = some (.int .i64 l[k].1) := (hb.cell (p := ⟨g, k * 4, none⟩) hg).trans (hcell k hkl 0 (by omega))
      have c1 : wr.cell? ⟨g, k * 4 + 1, none⟩ = some (.float .f64 l[k].2.1) := (hb.cell (p := ⟨g, k * 4 + 1, none⟩) hg).trans (hcell k hkl 1 (by omega))
      have c2 : wr.cell? ⟨g, k * 4 + 2, none⟩ = some (.string l[k].2.2) := (hb.cell (p := ⟨g, k * 4 + 2, none⟩) hg).trans (hcell k hkl 2 (by omega))
      have c3 : wr.cell? ⟨g, k * 4 + 3, none⟩ = some (.slice none 0 0) := (hb.cell (p := ⟨g, k * 4 + 3, none⟩) hg).trans (hcell k hkl 3 (by omega))
      have hrow : rowOf (l.take (k + 1)) = rowOf (l.take k) ++ vCells l[k] := by
        rw [List.take_succ_eq_append_getElem hkl, rowOf_snoc]
      have HO := Lib.hid hown
      have HB := Lib.hid hb
      have HR := Lib.hid hrow
      have HC := Lib.hid hcell
      clear hown hb hcell hrow
      obtain ⟨x, hx⟩ : ∃ x, x = l[k] := ⟨_, rfl⟩
      rw [← hx] at c0 c1 c2
      have HX := Lib.hid hx
      clear hx
      go_wp2
      refine wp_loop_rounds 1 ?_
      rw [rounds_succ]
      go_wp2_with (first
        | (at_builtin
           refine wpList_append_own _ rfl (.tmp 37) (.tmp 39) 51 rfl w.heap.size 49 i0 _ 4 56 Tryz.underlying51 hi hz0 hz1 hz2 rfl (by decide) _ k _ rfl (((HO.out.alloc _).alloc _).alloc _) ⟨wr.heap.size + 1 + 1, 0, none⟩ 1 1 (vCells x) rfl rfl ?c1 ?c2 ?c3 ?c4 ?c5 ?_
           rotate_left 5
           intro v' w3 hown3 hg3 _))
      go_roundw
      case rel => exact ⟨k + 1, by omega, by go_num, by rw [HR.out, ← HX.out]; exact hown3, grown_below (bal (bal (bal HB.out _) _) _) (((HO.out.alloc _).alloc _).alloc _) hg3 (Nat.le_refl _)⟩
      case measure => simp [intOf]; omega
      case c1 => intro j u hj; have h := four_new ((wr.alloc (.cells #[.int .i64 x.1, .float .f64 x.2.1, .string x.2.2, .slice none 0 0] 26)).alloc (.cells #[.int .i64 x.1, .float .f64 x.2.1, .string x.2.2, .slice none 0 0] 49)) _ _ _ _ 49 j u hj; simpa using h
      case c2 => intro u hu; simp [vCells] at hu; rcases hu with rfl | rfl | rfl | rfl <;> rfl
      case c3 => unfold maxLen; omega
      case c4 => omega
      case c5 => have := HB.out.size; simp; omega
    · obtain rfl : k = n := by omega
      rw [← hl, List.take_length] at hown
      have HO := Lib.hid hown
      have HB := Lib.hid hb
      clear hown hb hcell
      go_wp2
      go_ret
      exact ⟨_, rfl, by rw [← hl]; exact HO.out, HB.out⟩

/-- an argument: a number or a text -/
def av : Nat ⊕ ByteArray → Int × Nat × ByteArray
  | .inl n => nArg n
  | .inr s => tArg s
def af : Nat ⊕ ByteArray → Value
  | .inl n => fNum n
  | .inr s => fStr s
def aok : Nat ⊕ ByteArray → Prop
  | .inl n => n < 9007199254740992
  | .inr _ => True

theorem inner_any (a : Nat ⊕ ByteArray) (w : World) (h : aok a) :
    Calls Tryz.prog 64 #[vVal (av a).1 (av a).2.1 (av a).2.2] w fun e w' => e = .returned (af a) ∧ Below w.heap.size w w' := by
  cases a with
  | inl n => exact inner_num n w h
  | inr s => exact inner_str s w

theorem ListAt.made (w : World) : ListAt (w.alloc (.cells #[ptr w.heap.size, ptr w.heap.size, .pointer none, .nilIface, .int .i64 0] 105)) w.heap.size w.heap.size [] := by
  refine ⟨[], rfl, Nat.le_refl _, ?_, List.nodup_nil, heap_alloc_new w _, ?_⟩
  · intro e he
    cases he
  · intro i hi
    exact absurd hi (Nat.not_lt_zero i)

set_option maxHeartbeats 1000000 in
theorem innerList_any (base g cap n : Nat) (l : List (Nat ⊕ ByteArray)) (w : World) (hl : l.length = n) (hn0 : 0 < n) (hn : n ≤ 900) (hok : ∀ a ∈ l, aok a) (hown : w.ownsRow base 49 4 (.slice (some ⟨g, 0, none⟩) n cap) n (rowOf (l.map av))) :
    Calls Tryz.prog 39 #[.slice (some ⟨g, 0, none⟩) n cap] w fun e w' => ∃ lb, e = .returned (ptr lb) ∧ ListAt w' w.heap.size lb (l.map af) ∧ Below w.heap.size w w' := by
  have hg : g < w.heap.size := (hown.lt g rfl).2
  have hcell : ∀ k (hk : k < l.length) (j : Nat), j < 4 → w.cell? ⟨g, k * 4 + j, none⟩ = (vCells (av l[k]))[j]? := by
    intro k hk j hj
    have h4 : j < (vCells (av l[k])).length := hj
    have hk' : k < (l.map av).length := by simpa using hk
    have := hown.cells (g := g) rfl (k * 4 + j) ((vCells (av l[k]))[j]) (by rw [rowOf_get (l.map av) k j hk' hj, List.getElem?_eq_getElem (by simpa using h4)]; simp)
    rw [List.getElem?_eq_getElem h4, ← this, addr_zero]
  go_enter Tryz.func39, Tryz.ntmps39
  clear hown
  go_wp2_with (go_at_call 62; refine (list_new _).mono ?_; rintro e w1 ⟨rfl, rfl⟩)
  go_loopw [9] (fun i wr => ∃ k : Nat, k ≤ n ∧ i = .int .i64 k ∧ ListAt wr w.heap.size w.heap.size ((l.take k).map af) ∧ Below w.heap.size w wr) (fun i _ => n - (intOf i).toNat)
  case atStart =>
    exact ⟨0, Nat.zero_le _, rfl, ListAt.made w, bal (Below.refl _ _) _⟩
  case round =>
    obtain ⟨k, hk, rfl, hlist, hb⟩ := hrel
    by_cases hlt : k < n
    · have hkl : k < l.length := by omega
      have c0 : wr.cell? ⟨g, k * 4, none⟩ = some (.int .i64 (av l[k]).1) := (hb.cell (p := ⟨g, k * 4, none⟩) hg).trans (hcell k hkl 0 (by omega))
      have c1 : wr.cell? ⟨g, k * 4 + 1, none⟩ = some (.float .f64 (av l[k]).2.1) := (hb.cell (p := ⟨g, k * 4 + 1, none⟩) hg).trans (hcell k hkl 1 (by omega))
      have c2 : wr.cell? ⟨g, k * 4 + 2, none⟩ = some (.string (av l[k]).2.2) := (hb.cell (p := ⟨g, k * 4 + 2, none⟩) hg).trans (hcell k hkl 2 (by omega))
      have c3 : wr.cell? ⟨g, k * 4 + 3, none⟩ = some (.slice none 0 0) := (hb.cell (p := ⟨g, k * 4 + 3, none⟩) hg).trans (hcell k hkl 3 (by omega))
      have hrow : (l.take (k + 1)).map af = (l.take k).map af ++ [af l[k]] := by
        rw [List.take_succ_eq_append_getElem hkl, List.map_append]; rfl
      have hoka := hok _ (List.getElem_mem hkl)
      have hlen : ((l.take k).map af).length < 1000 := by simp; omega
      have HL := Lib.hid hlist
      have HB := Lib.hid hb
      have HR := Lib.hid hrow
      have HC := Lib.hid hcell
      have HN := Lib.hid hlen
      obtain ⟨x, hx⟩ : ∃ x, x = l[k] := ⟨_, rfl⟩
      rw [← hx] at c0 c1 c2 hoka
      have HX := Lib.hid hx
      have HK := Lib.hid hoka
      clear hlist hb hcell hrow hx hoka hok hlen
      go_wp2_with (first
        | (go_at_call 64; refine (inner_any x _ HK.out).mono ?_; rintro e w1 ⟨rfl, hb1⟩)
        | (go_at_call 63; refine (push_any w.heap.size w.heap.size _ (af x) _ ((HL.out.below (bal (Below.refl _ _) _)).below hb1) HN.out (Nat.le_trans (bal HB.out _).size hb1.size)).mono ?_; rintro e w2 ⟨⟨p, rfl⟩, hl2, hb2⟩))
      go_roundw
      case rel => exact ⟨k + 1, by omega, by go_num, by rw [HR.out, ← HX.out]; exact hl2, (btr (bal HB.out _) hb1).trans hb2⟩
      case measure => simp [intOf]; omega
    · obtain rfl : k = n := by omega
      rw [← hl, List.take_length] at hlist
      have HL := Lib.hid hlist
      have HB := Lib.hid hb
      clear hlist hb hcell hok
      go_wp2
      go_ret
      exact ⟨_, rfl, HL.out, HB.out⟩
end

end Go.Proofs.YtafdhmpikkfepaaGreatDoor
