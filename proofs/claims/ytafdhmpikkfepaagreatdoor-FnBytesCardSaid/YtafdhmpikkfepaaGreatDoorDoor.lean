import Derived.Test.YtafdhmpikkfepaaGreatDoorAddr
import Derived.Deep.AppendLies
namespace Go.Proofs.YtafdhmpikkfepaaGreatDoor
open Go.RowKit Go.Sort

/-- a block keeps what it holds over a call -/
theorem kblk {w w' : World} {b : Nat} {o : Obj} (hb : Below w.heap.size w w') (h : w.heap[b]? = some o) : w'.heap[b]? = some o := by rw [hb.block b (heap_lt h)]; exact h
theorem kal {w : World} {b : Nat} {o : Obj} (h : w.heap[b]? = some o) (x : Obj) : (w.alloc x).heap[b]? = some o := by rw [Below.heap_alloc w x b (heap_lt h)]; exact h

/-- a value written over a variable -/
def setFour (w : World) (b : Nat) (k : Int) (n : Nat) (s : ByteArray) : World :=
  (((w.setCell ⟨b, 0, none⟩ (.int .i64 k)).setCell ⟨b, 1, none⟩ (.float .f64 n)).setCell ⟨b, 2, none⟩ (.string s)).setCell ⟨b, 3, none⟩ (.slice none 0 0)

theorem setFour_heap {w : World} {b : Nat} {k : Int} {n : Nat} {s : ByteArray} {x0 x1 x2 x3 : Value} {t : TypeId} (h : w.heap[b]? = some (.cells #[x0, x1, x2, x3] t)) :
    (setFour w b k n s).heap[b]? = some (.cells #[.int .i64 k, .float .f64 n, .string s, .slice none 0 0] t) := by
  unfold setFour
  rw [heap_set_same (heap_set_same (heap_set_same (heap_set_same h)))]
  rfl
theorem setFour_below (w : World) (B b : Nat) (k : Int) (n : Nat) (s : ByteArray) (h : B ≤ b) : Below B w (setFour w b k n s) := by
  unfold setFour
  refine Below.setCell (p := ⟨b, 3, none⟩) ?_ h _
  refine Below.setCell (p := ⟨b, 2, none⟩) ?_ h _
  refine Below.setCell (p := ⟨b, 1, none⟩) ?_ h _
  exact Below.setCell (p := ⟨b, 0, none⟩) (Below.refl _ _) h _

theorem door_any (a : Nat ⊕ ByteArray) (w : World) :
    Calls Tryz.prog 36 #[af a] w fun e w' => e = .returned (vVal (av a).1 (av a).2.1 (av a).2.2) ∧ Below w.heap.size w w' := by
  cases a with
  | inl n => exact door_num n w
  | inr s => exact door_str s w

section
attribute [local go_sem] run_store_flt

set_option maxHeartbeats 400000 in
theorem door25 (base g cap n : Nat) (l : List (Nat ⊕ ByteArray)) (r : Nat ⊕ ByteArray) (w : World) (hl : l.length = n) (hn0 : 0 < n) (hn : n ≤ 900) (hok : ∀ a ∈ l, aok a) (hown : w.ownsRow base 49 4 (.slice (some ⟨g, 0, none⟩) n cap) n (rowOf (l.map av)))
    (hF : ∀ pf lb es W, Below w.heap.size w W → View W lb es (l.map af) → Calls Tryz.prog 38 #[ptr pf, ptr lb] W fun e w' => e = .returned (af r) ∧ Below W.heap.size W w') :
    Calls Tryz.prog 25 #[.slice (some ⟨g, 0, none⟩) n cap] w fun e w' => e = .returned (vVal (av r).1 (av r).2.1 (av r).2.2) ∧ Below w.heap.size w w' := by
  have HF := Lib.hid hF
  have HO := Lib.hid hown
  have HK := Lib.hid hok
  have HL := Lib.hid hl
  clear hF hown hok hl
  go_enter Tryz.func25, Tryz.ntmps25
  go_wp2_with fail
  refine (funcs_any _).mono ?_
  rintro e w1 ⟨⟨pf, rfl⟩, hb1⟩
  have B1 := btr (bal (Below.refl _ w) _) hb1
  have R1 := Lib.hid (kblk hb1 (heap_alloc_new w _))
  go_wp2_with fail
  refine (innerList_any base g cap n l _ HL.out hn0 hn HK.out (own_below (HO.out.alloc _) hb1)).mono ?_
  rintro e w2 ⟨lb, rfl, hlist, hb2⟩
  obtain ⟨es, hv⟩ := hlist.view
  have HV := Lib.hid hv
  clear hv hlist
  have B2 := btr B1 hb2
  have R2 := Lib.hid (kblk hb2 R1.out)
  go_wp2_with fail
  refine (HF.out pf lb es _ B2 HV.out).mono ?_
  rintro e w3 ⟨rfl, hb3⟩
  have B3 := btr B2 hb3
  have R3 := Lib.hid (kblk hb3 R2.out)
  go_wp2_with fail
  refine (door_any r _).mono ?_
  rintro e w4 ⟨rfl, hb4⟩
  have B4 := btr B3 hb4
  have h4 := kblk hb4 R3.out
  have R4 := Lib.hid h4
  have c4 := fun o => cell_at h4 o
  have f4 := fun o => free_at h4 o
  have l4 := heap_lt h4
  clear h4
  go_wp2_with fail
  have B5 := B4.trans (setFour_below w4 w.heap.size w.heap.size (av r).1 (av r).2.1 (av r).2.2 (Nat.le_refl _))
  refine bodyPost_ret (v := vVal (av r).1 (av r).2.1 (av r).2.2) ?_ rfl ⟨rfl, B5⟩
  have hT := setFour_heap (k := (av r).1) (n := (av r).2.1) (s := (av r).2.2) R4.out
  change Sem.run Tryz.prog (results Tryz.f25 _) (setFour w4 w.heap.size (av r).1 (av r).2.1 (av r).2.2) = Result.ok _ (setFour w4 w.heap.size (av r).1 (av r).2.1 (av r).2.2)
  generalize setFour w4 w.heap.size (av r).1 (av r).2.1 (av r).2.2 = W at hT ⊢
  have cT := fun o => cell_at hT o
  clear hT
  simp [results, Tryz.results25, go_sem, cT]


set_option maxHeartbeats 400000 in
theorem impl7 (base g cap n : Nat) (l : List (Nat ⊕ ByteArray)) (r : Nat ⊕ ByteArray) (w : World) (hl : l.length = n) (hn0 : 0 < n) (hn : n ≤ 900) (hok : ∀ a ∈ l, aok a) (hown : w.ownsRow base 26 4 (.slice (some ⟨g, 0, none⟩) n cap) n (rowOf (l.map av)))
    (hF : ∀ pf lb es W, Below w.heap.size w W → View W lb es (l.map af) → Calls Tryz.prog 38 #[ptr pf, ptr lb] W fun e w' => e = .returned (af r) ∧ Below W.heap.size W w') :
    Calls Tryz.prog 7 #[.slice (some ⟨g, 0, none⟩) n cap] w fun e w' => e = .returned (vVal (av r).1 (av r).2.1 (av r).2.2) ∧ Below w.heap.size w w' := by
  have HF := Lib.hid hF
  have HO := Lib.hid hown
  have HK := Lib.hid hok
  have HL := Lib.hid hl
  clear hF hown hok hl
  go_enter Tryz.func7, Tryz.ntmps7
  go_wp2_with fail
  refine (in_any base g cap n (l.map av) _ (by rw [List.length_map]; exact HL.out) hn0 (by omega) (HO.out.alloc _)).mono ?_
  rintro e w1 ⟨v1, rfl, hown1, hb1⟩
  obtain ⟨g1, cap1, rfl, hg1, -⟩ := hown1.form hn0
  have HO1 := Lib.hid hown1
  have B1 := btr (bal (Below.refl _ w) _) hb1
  have R1 := Lib.hid (kblk hb1 (heap_alloc_new w _))
  clear hown1
  go_wp2_with fail
  refine (door25 _ g1 cap1 n l r _ HL.out hn0 hn HK.out HO1.out (fun pf lb es W hW hV => HF.out pf lb es W (btr B1 hW) hV)).mono ?_
  rintro e w3 ⟨rfl, hb3⟩
  have B3 := btr B1 hb3
  have R3 := Lib.hid (kblk hb3 R1.out)
  go_wp2_with fail
  refine (out_any _ _ _ _).mono ?_
  rintro e w4 ⟨rfl, hb4⟩
  have B4 := btr B3 hb4
  have h4 := kblk hb4 R3.out
  have R4 := Lib.hid h4
  have c4 := fun o => cell_at h4 o
  have f4 := fun o => free_at h4 o
  have l4 := heap_lt h4
  clear h4
  go_wp2_with fail
  have B5 := B4.trans (setFour_below w4 w.heap.size w.heap.size (av r).1 (av r).2.1 (av r).2.2 (Nat.le_refl _))
  refine bodyPost_ret (v := vVal (av r).1 (av r).2.1 (av r).2.2) ?_ rfl ⟨rfl, B5⟩
  have hT := setFour_heap (k := (av r).1) (n := (av r).2.1) (s := (av r).2.2) R4.out
  change Sem.run Tryz.prog (results Tryz.f7 _) (setFour w4 w.heap.size (av r).1 (av r).2.1 (av r).2.2) = Result.ok _ (setFour w4 w.heap.size (av r).1 (av r).2.1 (av r).2.2)
  generalize setFour w4 w.heap.size (av r).1 (av r).2.1 (av r).2.2 = W at hT ⊢
  have cT := fun o => cell_at hT o
  clear hT
  simp [results, Tryz.results7, go_sem, cT]

end

end Go.Proofs.YtafdhmpikkfepaaGreatDoor
