import Derived.Test.YtafdhmpikkfepaaGreatDoorChecked
import Derived.Test.YtafdhmpikkfepaaGreatDoorFlt
import Derived.Test.YtafdhmpikkfepaaGreatDoorStr
import Derived.WalkKit
import Derived.WalkSpells
import Derived.WalkLawsBesides
import Derived.Lib.Hide
import Derived.OwnWalk
namespace Go.Proofs.YtafdhmpikkfepaaGreatDoor
open Go.RowKit

abbrev vVal (k : Int) (n : Nat) (s : ByteArray) : Value := .agg #[.int .i64 k, .float .f64 n, .string s, .slice none 0 0]
abbrev sVal (k n d : Int) (s : ByteArray) : Value := .agg #[.int .i64 k, .int .i64 n, .int .i64 d, .string s, .slice none 0 0]

theorem run_store_flt (P : Program) (w : World) (a : Addr) (m : Mode) (k : FloatKind) (b : Nat) : (store a (.float k b) m).run P w = stored P w a (.float k b) m := run_store P w a _ m rfl

theorem run_div_one (w : World) (n : Nat) (h : n < 2 ^ 53) :
    (binOp .quo 23 (.float .f64 (floatOfInt .f64 (n : Int))) (.float .f64 (floatOfInt .f64 1))).run Tryz.prog w = .ok (.float .f64 (fl n)) w :=
  run_float_arith w .quo 23 .f64 _ _ _ (div_one n h)

theorem bal {a w : World} (h : Below a.heap.size a w) (o : Obj) : Below a.heap.size a (w.alloc o) := h.alloc h.size o
theorem btr {a b c : World} (h : Below a.heap.size a b) (k : Below b.heap.size b c) : Below a.heap.size a c := h.trans (k.mono h.size)
theorem bset {a w : World} (h : Below a.heap.size a w) {p : Addr} (hp : a.heap.size ≤ p.block) (u : Value) : Below a.heap.size a (w.setCell p u) := h.setCell hp u
theorem bdrewN {B : Nat} {a w : World} (h : Below B a w) (n : Nat) : Below B a (w.drewN n) := ⟨h.os, h.tape, h.output, h.size, h.block⟩
theorem bcell {W w1 : World} (hb : Below W.heap.size W w1) : (∀ b o, b < W.heap.size → w1.cell? ⟨b, o, none⟩ = W.cell? ⟨b, o, none⟩) ∧ (∀ b o, b < W.heap.size → w1.frozen? ⟨b, o, none⟩ = W.frozen? ⟨b, o, none⟩) :=
  ⟨fun b o h => hb.cell (p := ⟨b, o, none⟩) h, fun b o h => hb.frozen (p := ⟨b, o, none⟩) h⟩

section
attribute [local go_sem] run_store_flt

theorem str_any (s : ByteArray) (w : World) :
    Calls Tryz.prog 9 #[.string s] w fun e w' => e = .returned (sVal 2 0 0 s) ∧ Below w.heap.size w w' := by
  go_enter Tryz.func9, Tryz.ntmps9
  go_wp2
  exact bodyPost_ret (v := sVal 2 0 0 s) (by simp [results, Tryz.results9, go_sem]) rfl ⟨rfl, bal (Below.refl _ _) _⟩

theorem int_any (n : Int) (w : World) (h0 : 0 ≤ n) (h1 : n ≤ 99999999999) :
    Calls Tryz.prog 16 #[.int .i64 n] w fun e w' => e = .returned (sVal 1 n 1 ⟨#[]⟩) ∧ Below w.heap.size w w' := by
  go_enter Tryz.func16, Tryz.ntmps16
  go_wp2
  exact bodyPost_ret (v := sVal 1 n 1 ⟨#[]⟩) (by simp [results, Tryz.results16, go_sem]) rfl ⟨rfl, bal (Below.refl _ _) _⟩

theorem of_str (s : ByteArray) (w : World) :
    Calls Tryz.prog 18 #[sVal 2 0 0 s] w fun e w' => e = .returned (vVal 2 0 s) ∧ Below w.heap.size w w' := by
  go_enter Tryz.func18, Tryz.ntmps18
  go_wp2
  exact bodyPost_ret (v := vVal 2 0 s) (by simp [results, Tryz.results18, go_sem]) rfl ⟨rfl, bal (bal (bal (Below.refl _ _) _) _) _⟩

theorem of_num (n : Nat) (w : World) (h : n < 9007199254740992) :
    Calls Tryz.prog 18 #[sVal 1 n 1 ⟨#[]⟩] w fun e w' => e = .returned (vVal 1 (fl n) ⟨#[]⟩) ∧ Below w.heap.size w w' := by
  have hd := fun W => run_div_one W n h
  go_enter Tryz.func18, Tryz.ntmps18
  go_wp2
  exact bodyPost_ret (v := vVal 1 (fl n) ⟨#[]⟩) (by simp [results, Tryz.results18, go_sem]) rfl ⟨rfl, bal (bal (bal (Below.refl _ _) _) _) _⟩
end

theorem own_below {w w' : World} {base e size n : Nat} {v : Value} {xs : List Value} (h : w.ownsRow base e size v n xs) (hb : Below w.heap.size w w') : w'.ownsRow base e size v n xs :=
  h.kept (row := none) ⟨hb.os, hb.tape, hb.output, hb.size, fun k hk _ => hb.block k hk⟩ (by cases hv : v.ownBlock <;> simp)

theorem grown_below {a w w' : World} {base e size n : Nat} {v : Value} {xs : List Value} (ha : Below a.heap.size a w) (h : w.ownsRow base e size v n xs) (hg : w.grownBy w' v.ownBlock) (hbase : a.heap.size ≤ base) : Below a.heap.size a w' :=
  ha.grown hg ha.size (fun k hk => Nat.le_trans hbase (h.lt k hk).1)

/-- the cells of a value of the thin package -/
def vCells (x : Int × Nat × ByteArray) : List Value := [.int .i64 x.1, .float .f64 x.2.1, .string x.2.2, .slice none 0 0]
def rowOf (l : List (Int × Nat × ByteArray)) : List Value := l.flatMap vCells
theorem rowOf_length (l : List (Int × Nat × ByteArray)) : (rowOf l).length = l.length * 4 := by
  induction l with
  | nil => rfl
  | cons c t ih => simp [rowOf, vCells] at *; omega
theorem rowOf_snoc (l : List (Int × Nat × ByteArray)) (x : Int × Nat × ByteArray) : rowOf (l ++ [x]) = rowOf l ++ vCells x := by simp [rowOf]

theorem Tryz.info26 : (Tryz.prog.info? 26).map (fun i => (i.zero, i.size, i.bytes)) = some (some (.agg #[.int .i64 0, .float .f64 0, .string ⟨#[]⟩, .slice none 0 0]), 4, 56) := by kernel_rfl

theorem four_new (w : World) (a b c d : Value) (t : TypeId) : ∀ j u, [a, b, c, d][j]? = some u → (w.alloc (.cells #[a, b, c, d] t)).cell? ((⟨w.heap.size, 0, none⟩ : Addr).add j) = some u := by
  intro j u hj
  match j, hj with
  | 0, hj => simp at hj; subst hj; simp [Addr.add]
  | 1, hj => simp at hj; subst hj; simp [Addr.add]
  | 2, hj => simp at hj; subst hj; simp [Addr.add]
  | 3, hj => simp at hj; subst hj; simp [Addr.add]
  | (j + 4), hj => simp at hj

def tArg (s : ByteArray) : Int × Nat × ByteArray := (2, 0, s)
def nArg (n : Nat) : Int × Nat × ByteArray := (1, fl n, ⟨#[]⟩)

set_option maxHeartbeats 1000000 in
theorem textArgs_any (g : Nat) (cap : Nat) (ss : List ByteArray) (w : World) (hl : ss.length ≤ 1000) (hg : g < w.heap.size) (hc : ∀ k (h : k < ss.length), w.cell? ⟨g, k, none⟩ = some (.string ss[k])) :
    Calls Tryz.prog 15 #[.slice (some ⟨g, 0, none⟩) ss.length cap] w fun e w' => ∃ v, e = .returned v ∧ w'.ownsRow w.heap.size 26 4 v ss.length (rowOf (ss.map tArg)) ∧ Below w.heap.size w w' := by
  obtain ⟨i0, hi, hz0, hz1, hz2⟩ := info_parts Tryz.info26
  go_enter Tryz.func15, Tryz.ntmps15
  go_wp2
  go_loopw [3, 4] (fun v i wr => ∃ k : Nat, k ≤ ss.length ∧ i = .int .i64 k ∧ wr.ownsRow w.heap.size 26 4 v k (rowOf ((ss.take k).map tArg)) ∧ Below w.heap.size w wr) (fun _ i _ => ss.length - (intOf i).toNat)
  case atStart => exact ⟨0, Nat.zero_le _, rfl, World.ownsRow_nil _ _ _ _, Below.refl _ _⟩
  case round =>
    obtain ⟨k, hk, rfl, hown, hb⟩ := hrel
    by_cases hlt : k < ss.length
    · have c0 : wr.cell? ⟨g, k, none⟩ = some (.string ss[k]) := (hb.cell (p := ⟨g, k, none⟩) hg).trans (hc k hlt)
      have hrow : rowOf ((ss.take (k + 1)).map tArg) = rowOf ((ss.take k).map tArg) ++ vCells (tArg ss[k]) := by
        rw [List.take_succ_eq_append_getElem hlt, List.map_append, ← rowOf_snoc]; rfl
      have HO := Lib.hid hown
      have HB := Lib.hid hb
      have HR := Lib.hid hrow
      clear hown hb hc hrow
      go_wp2_with (first
        | (go_at_call 9; refine (str_any _ _).mono ?_; rintro e w1 ⟨rfl, hb1⟩)
        | (go_at_call 18; refine (of_str _ _).mono ?_; rintro e w2 ⟨rfl, hb2⟩)
        | (at_builtin
           refine wpList_append_own _ rfl (.tmp 11) (.tmp 18) 28 rfl w.heap.size 26 i0 _ 4 56 Tryz.underlying28 hi hz0 hz1 hz2 rfl (by decide) _ k _ rfl ((own_below (own_below HO.out hb1) hb2).alloc _) ⟨w2.heap.size, 0, none⟩ 1 1 (vCells (tArg ss[k])) rfl rfl ?c1 ?c2 ?c3 ?c4 ?c5 ?_
           rotate_left 5
           intro v' w3 hown3 hg3 _))
      go_roundw
      case rel => exact ⟨k + 1, by omega, by go_num, by rw [HR.out]; exact hown3, grown_below (bal (btr (btr HB.out hb1) hb2) _) ((own_below (own_below HO.out hb1) hb2).alloc _) hg3 (Nat.le_refl _)⟩
      case measure => simp [intOf]; omega
      case c1 => exact four_new _ _ _ _ _ _
      case c2 => intro u hu; simp [vCells, tArg] at hu; rcases hu with rfl | rfl | rfl | rfl <;> rfl
      case c3 => unfold maxLen; omega
      case c4 => omega
      case c5 => have := HB.out.size; have := hb1.size; have := hb2.size; simp; omega
    · obtain rfl : k = ss.length := by omega
      rw [List.take_length] at hown
      have HO := Lib.hid hown
      have HB := Lib.hid hb
      clear hown hb hc
      go_wp2
      go_ret
      exact ⟨_, rfl, HO.out, HB.out⟩

set_option maxHeartbeats 1000000 in
theorem numArgs_any (g : Nat) (cap : Nat) (ss : List Nat) (w : World) (hl : ss.length ≤ 1000) (hv : ∀ n ∈ ss, n ≤ 99999999999) (hg : g < w.heap.size) (hc : ∀ k (h : k < ss.length), w.cell? ⟨g, k, none⟩ = some (.int .i64 (ss[k] : Int))) :
    Calls Tryz.prog 8 #[.slice (some ⟨g, 0, none⟩) ss.length cap] w fun e w' => ∃ v, e = .returned v ∧ w'.ownsRow w.heap.size 26 4 v ss.length (rowOf (ss.map nArg)) ∧ Below w.heap.size w w' := by
  obtain ⟨i0, hi, hz0, hz1, hz2⟩ := info_parts Tryz.info26
  go_enter Tryz.func8, Tryz.ntmps8
  go_wp2
  go_loopw [3, 4] (fun v i wr => ∃ k : Nat, k ≤ ss.length ∧ i = .int .i64 k ∧ wr.ownsRow w.heap.size 26 4 v k (rowOf ((ss.take k).map nArg)) ∧ Below w.heap.size w wr) (fun _ i _ => ss.length - (intOf i).toNat)
  case atStart => exact ⟨0, Nat.zero_le _, rfl, World.ownsRow_nil _ _ _ _, Below.refl _ _⟩
  case round =>
    obtain ⟨k, hk, rfl, hown, hb⟩ := hrel
    by_cases hlt : k < ss.length
    · have c0 : wr.cell? ⟨g, k, none⟩ = some (.int .i64 (ss[k] : Int)) := (hb.cell (p := ⟨g, k, none⟩) hg).trans (hc k hlt)
      have hrow : rowOf ((ss.take (k + 1)).map nArg) = rowOf ((ss.take k).map nArg) ++ vCells (nArg ss[k]) := by
        rw [List.take_succ_eq_append_getElem hlt, List.map_append, ← rowOf_snoc]; rfl
      have hm : ss[k] ≤ 99999999999 := hv _ (List.getElem_mem hlt)
      have hn0 : (0 : Int) ≤ (ss[k] : Int) := by omega
      have hn1 : (ss[k] : Int) ≤ 99999999999 := by omega
      have hn2 : ss[k] < 9007199254740992 := by omega
      have HO := Lib.hid hown
      have HB := Lib.hid hb
      have HR := Lib.hid hrow
      clear hown hb hc hrow
      go_wp2_with (first
        | (go_at_call 16; refine (int_any _ _ hn0 hn1).mono ?_; rintro e w1 ⟨rfl, hb1⟩)
        | (go_at_call 18; refine (of_num _ _ hn2).mono ?_; rintro e w2 ⟨rfl, hb2⟩)
        | (at_builtin
           refine wpList_append_own _ rfl (.tmp 11) (.tmp 18) 28 rfl w.heap.size 26 i0 _ 4 56 Tryz.underlying28 hi hz0 hz1 hz2 rfl (by decide) _ k _ rfl ((own_below (own_below HO.out hb1) hb2).alloc _) ⟨w2.heap.size, 0, none⟩ 1 1 (vCells (nArg ss[k])) rfl rfl ?c1 ?c2 ?c3 ?c4 ?c5 ?_
           rotate_left 5
           intro v' w3 hown3 hg3 _))
      go_roundw
      case rel => exact ⟨k + 1, by omega, by go_num, by rw [HR.out]; exact hown3, grown_below (bal (btr (btr HB.out hb1) hb2) _) ((own_below (own_below HO.out hb1) hb2).alloc _) hg3 (Nat.le_refl _)⟩
      case measure => simp [intOf]; omega
      case c1 => exact four_new _ _ _ _ _ _
      case c2 => intro u hu; simp [vCells, nArg] at hu; rcases hu with rfl | rfl | rfl | rfl <;> rfl
      case c3 => unfold maxLen; omega
      case c4 => omega
      case c5 => have := HB.out.size; have := hb1.size; have := hb2.size; simp; omega
    · obtain rfl : k = ss.length := by omega
      rw [List.take_length] at hown
      have HO := Lib.hid hown
      have HB := Lib.hid hb
      clear hown hb hc
      go_wp2
      go_ret
      exact ⟨_, rfl, HO.out, HB.out⟩

end Go.Proofs.YtafdhmpikkfepaaGreatDoor
