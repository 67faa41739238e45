import Derived.Test.YtafdhmpikkfepaaGreatDoorDoor
import Derived.Deep.AppendLies
namespace Go.Proofs.YtafdhmpikkfepaaGreatDoor
open Go.RowKit Go.Sort
section
attribute [local go_sem] run_store_flt

set_option maxHeartbeats 400000 in
theorem door28 (base g cap n : Nat) (l : List (Nat ⊕ ByteArray)) (r : Nat ⊕ ByteArray) (w : World) (hl : l.length = n) (hn0 : 0 < n) (hn : n ≤ 900) (hok : ∀ a ∈ l, aok a) (hown : w.ownsRow base 49 4 (.slice (some ⟨g, 0, none⟩) n cap) n (rowOf (l.map av)))
    (hF : ∀ pf lb es W, Below w.heap.size w W → View W lb es (l.map af) → Calls Tryz.prog 43 #[ptr pf, ptr lb] W fun e w' => e = .returned (af r) ∧ Below W.heap.size W w') :
    Calls Tryz.prog 28 #[.slice (some ⟨g, 0, none⟩) n cap] w fun e w' => e = .returned (vVal (av r).1 (av r).2.1 (av r).2.2) ∧ Below w.heap.size w w' := by
  have HF := Lib.hid hF
  have HO := Lib.hid hown
  have HK := Lib.hid hok
  have HL := Lib.hid hl
  clear hF hown hok hl
  go_enter Tryz.func28, Tryz.ntmps28
  go_wp2_with fail
  refine (funcs_any _).mono ?_
  rintro e w1 ⟨⟨pf, rfl⟩, hb1⟩
  have B1 := btr (bal (Below.refl _ w) _) hb1
  have R1 := Lib.hid (kblk hb1 (heap_alloc_new w _))
  go_wp2_with fail
  refine (innerList_any base g cap n l _ HL.out hn0 hn HK.out (own_below (HO.out.alloc _) hb1)).mono ?_
  rintro e w2 ⟨lb, rfl, hlist, hb2⟩
  obtain ⟨es, hv⟩ := hlist.view
  have HV := Lib.hid hv
  clear hv hlist
  have B2 := btr B1 hb2
  have R2 := Lib.hid (kblk hb2 R1.out)
  go_wp2_with fail
  refine (HF.out pf lb es _ B2 HV.out).mono ?_
  rintro e w3 ⟨rfl, hb3⟩
  have B3 := btr B2 hb3
  have R3 := Lib.hid (kblk hb3 R2.out)
  go_wp2_with fail
  refine (door_any r _).mono ?_
  rintro e w4 ⟨rfl, hb4⟩
  have B4 := btr B3 hb4
  have h4 := kblk hb4 R3.out
  have R4 := Lib.hid h4
  have c4 := fun o => cell_at h4 o
  have f4 := fun o => free_at h4 o
  have l4 := heap_lt h4
  clear h4
  go_wp2_with fail
  have B5 := B4.trans (setFour_below w4 w.heap.size w.heap.size (av r).1 (av r).2.1 (av r).2.2 (Nat.le_refl _))
  refine bodyPost_ret (v := vVal (av r).1 (av r).2.1 (av r).2.2) ?_ rfl ⟨rfl, B5⟩
  have hT := setFour_heap (k := (av r).1) (n := (av r).2.1) (s := (av r).2.2) R4.out
  change Sem.run Tryz.prog (results Tryz.f28 _) (setFour w4 w.heap.size (av r).1 (av r).2.1 (av r).2.2) = Result.ok _ (setFour w4 w.heap.size (av r).1 (av r).2.1 (av r).2.2)
  generalize setFour w4 w.heap.size (av r).1 (av r).2.1 (av r).2.2 = W at hT ⊢
  have cT := fun o => cell_at hT o
  clear hT
  simp [results, Tryz.results28, go_sem, cT]


set_option maxHeartbeats 400000 in
theorem impl14 (base g cap n : Nat) (l : List (Nat ⊕ ByteArray)) (r : Nat ⊕ ByteArray) (w : World) (hl : l.length = n) (hn0 : 0 < n) (hn : n ≤ 900) (hok : ∀ a ∈ l, aok a) (hown : w.ownsRow base 26 4 (.slice (some ⟨g, 0, none⟩) n cap) n (rowOf (l.map av)))
    (hF : ∀ pf lb es W, Below w.heap.size w W → View W lb es (l.map af) → Calls Tryz.prog 43 #[ptr pf, ptr lb] W fun e w' => e = .returned (af r) ∧ Below W.heap.size W w') :
    Calls Tryz.prog 14 #[.slice (some ⟨g, 0, none⟩) n cap] w fun e w' => e = .returned (vVal (av r).1 (av r).2.1 (av r).2.2) ∧ Below w.heap.size w w' := by
  have HF := Lib.hid hF
  have HO := Lib.hid hown
  have HK := Lib.hid hok
  have HL := Lib.hid hl
  clear hF hown hok hl
  go_enter Tryz.func14, Tryz.ntmps14
  go_wp2_with fail
  refine (in_any base g cap n (l.map av) _ (by rw [List.length_map]; exact HL.out) hn0 (by omega) (HO.out.alloc _)).mono ?_
  rintro e w1 ⟨v1, rfl, hown1, hb1⟩
  obtain ⟨g1, cap1, rfl, hg1, -⟩ := hown1.form hn0
  have HO1 := Lib.hid hown1
  have B1 := btr (bal (Below.refl _ w) _) hb1
  have R1 := Lib.hid (kblk hb1 (heap_alloc_new w _))
  clear hown1
  go_wp2_with fail
  refine (door28 _ g1 cap1 n l r _ HL.out hn0 hn HK.out HO1.out (fun pf lb es W hW hV => HF.out pf lb es W (btr B1 hW) hV)).mono ?_
  rintro e w3 ⟨rfl, hb3⟩
  have B3 := btr B1 hb3
  have R3 := Lib.hid (kblk hb3 R1.out)
  go_wp2_with fail
  refine (out_any _ _ _ _).mono ?_
  rintro e w4 ⟨rfl, hb4⟩
  have B4 := btr B3 hb4
  have h4 := kblk hb4 R3.out
  have R4 := Lib.hid h4
  have c4 := fun o => cell_at h4 o
  have f4 := fun o => free_at h4 o
  have l4 := heap_lt h4
  clear h4
  go_wp2_with fail
  have B5 := B4.trans (setFour_below w4 w.heap.size w.heap.size (av r).1 (av r).2.1 (av r).2.2 (Nat.le_refl _))
  refine bodyPost_ret (v := vVal (av r).1 (av r).2.1 (av r).2.2) ?_ rfl ⟨rfl, B5⟩
  have hT := setFour_heap (k := (av r).1) (n := (av r).2.1) (s := (av r).2.2) R4.out
  change Sem.run Tryz.prog (results Tryz.f14 _) (setFour w4 w.heap.size (av r).1 (av r).2.1 (av r).2.2) = Result.ok _ (setFour w4 w.heap.size (av r).1 (av r).2.1 (av r).2.2)
  generalize setFour w4 w.heap.size (av r).1 (av r).2.1 (av r).2.2 = W at hT ⊢
  have cT := fun o => cell_at hT o
  clear hT
  simp [results, Tryz.results14, go_sem, cT]


set_option maxHeartbeats 400000 in
theorem door30 (base g cap n : Nat) (l : List (Nat ⊕ ByteArray)) (r : Nat ⊕ ByteArray) (w : World) (hl : l.length = n) (hn0 : 0 < n) (hn : n ≤ 900) (hok : ∀ a ∈ l, aok a) (hown : w.ownsRow base 49 4 (.slice (some ⟨g, 0, none⟩) n cap) n (rowOf (l.map av)))
    (hF : ∀ pf lb es W, Below w.heap.size w W → View W lb es (l.map af) → Calls Tryz.prog 44 #[ptr pf, ptr lb] W fun e w' => e = .returned (af r) ∧ Below W.heap.size W w') :
    Calls Tryz.prog 30 #[.slice (some ⟨g, 0, none⟩) n cap] w fun e w' => e = .returned (vVal (av r).1 (av r).2.1 (av r).2.2) ∧ Below w.heap.size w w' := by
  have HF := Lib.hid hF
  have HO := Lib.hid hown
  have HK := Lib.hid hok
  have HL := Lib.hid hl
  clear hF hown hok hl
  go_enter Tryz.func30, Tryz.ntmps30
  go_wp2_with fail
  refine (funcs_any _).mono ?_
  rintro e w1 ⟨⟨pf, rfl⟩, hb1⟩
  have B1 := btr (bal (Below.refl _ w) _) hb1
  have R1 := Lib.hid (kblk hb1 (heap_alloc_new w _))
  go_wp2_with fail
  refine (innerList_any base g cap n l _ HL.out hn0 hn HK.out (own_below (HO.out.alloc _) hb1)).mono ?_
  rintro e w2 ⟨lb, rfl, hlist, hb2⟩
  obtain ⟨es, hv⟩ := hlist.view
  have HV := Lib.hid hv
  clear hv hlist
  have B2 := btr B1 hb2
  have R2 := Lib.hid (kblk hb2 R1.out)
  go_wp2_with fail
  refine (HF.out pf lb es _ B2 HV.out).mono ?_
  rintro e w3 ⟨rfl, hb3⟩
  have B3 := btr B2 hb3
  have R3 := Lib.hid (kblk hb3 R2.out)
  go_wp2_with fail
  refine (door_any r _).mono ?_
  rintro e w4 ⟨rfl, hb4⟩
  have B4 := btr B3 hb4
  have h4 := kblk hb4 R3.out
  have R4 := Lib.hid h4
  have c4 := fun o => cell_at h4 o
  have f4 := fun o => free_at h4 o
  have l4 := heap_lt h4
  clear h4
  go_wp2_with fail
  have B5 := B4.trans (setFour_below w4 w.heap.size w.heap.size (av r).1 (av r).2.1 (av r).2.2 (Nat.le_refl _))
  refine bodyPost_ret (v := vVal (av r).1 (av r).2.1 (av r).2.2) ?_ rfl ⟨rfl, B5⟩
  have hT := setFour_heap (k := (av r).1) (n := (av r).2.1) (s := (av r).2.2) R4.out
  change Sem.run Tryz.prog (results Tryz.f30 _) (setFour w4 w.heap.size (av r).1 (av r).2.1 (av r).2.2) = Result.ok _ (setFour w4 w.heap.size (av r).1 (av r).2.1 (av r).2.2)
  generalize setFour w4 w.heap.size (av r).1 (av r).2.1 (av r).2.2 = W at hT ⊢
  have cT := fun o => cell_at hT o
  clear hT
  simp [results, Tryz.results30, go_sem, cT]


set_option maxHeartbeats 400000 in
theorem impl17 (base g cap n : Nat) (l : List (Nat ⊕ ByteArray)) (r : Nat ⊕ ByteArray) (w : World) (hl : l.length = n) (hn0 : 0 < n) (hn : n ≤ 900) (hok : ∀ a ∈ l, aok a) (hown : w.ownsRow base 26 4 (.slice (some ⟨g, 0, none⟩) n cap) n (rowOf (l.map av)))
    (hF : ∀ pf lb es W, Below w.heap.size w W → View W lb es (l.map af) → Calls Tryz.prog 44 #[ptr pf, ptr lb] W fun e w' => e = .returned (af r) ∧ Below W.heap.size W w') :
    Calls Tryz.prog 17 #[.slice (some ⟨g, 0, none⟩) n cap] w fun e w' => e = .returned (vVal (av r).1 (av r).2.1 (av r).2.2) ∧ Below w.heap.size w w' := by
  have HF := Lib.hid hF
  have HO := Lib.hid hown
  have HK := Lib.hid hok
  have HL := Lib.hid hl
  clear hF hown hok hl
  go_enter Tryz.func17, Tryz.ntmps17
  go_wp2_with fail
  refine (in_any base g cap n (l.map av) _ (by rw [List.length_map]; exact HL.out) hn0 (by omega) (HO.out.alloc _)).mono ?_
  rintro e w1 ⟨v1, rfl, hown1, hb1⟩
  obtain ⟨g1, cap1, rfl, hg1, -⟩ := hown1.form hn0
  have HO1 := Lib.hid hown1
  have B1 := btr (bal (Below.refl _ w) _) hb1
  have R1 := Lib.hid (kblk hb1 (heap_alloc_new w _))
  clear hown1
  go_wp2_with fail
  refine (door30 _ g1 cap1 n l r _ HL.out hn0 hn HK.out HO1.out (fun pf lb es W hW hV => HF.out pf lb es W (btr B1 hW) hV)).mono ?_
  rintro e w3 ⟨rfl, hb3⟩
  have B3 := btr B1 hb3
  have R3 := Lib.hid (kblk hb3 R1.out)
  go_wp2_with fail
  refine (out_any _ _ _ _).mono ?_
  rintro e w4 ⟨rfl, hb4⟩
  have B4 := btr B3 hb4
  have h4 := kblk hb4 R3.out
  have R4 := Lib.hid h4
  have c4 := fun o => cell_at h4 o
  have f4 := fun o => free_at h4 o
  have l4 := heap_lt h4
  clear h4
  go_wp2_with fail
  have B5 := B4.trans (setFour_below w4 w.heap.size w.heap.size (av r).1 (av r).2.1 (av r).2.2 (Nat.le_refl _))
  refine bodyPost_ret (v := vVal (av r).1 (av r).2.1 (av r).2.2) ?_ rfl ⟨rfl, B5⟩
  have hT := setFour_heap (k := (av r).1) (n := (av r).2.1) (s := (av r).2.2) R4.out
  change Sem.run Tryz.prog (results Tryz.f17 _) (setFour w4 w.heap.size (av r).1 (av r).2.1 (av r).2.2) = Result.ok _ (setFour w4 w.heap.size (av r).1 (av r).2.1 (av r).2.2)
  generalize setFour w4 w.heap.size (av r).1 (av r).2.1 (av r).2.2 = W at hT ⊢
  have cT := fun o => cell_at hT o
  clear hT
  simp [results, Tryz.results17, go_sem, cT]


set_option maxHeartbeats 400000 in
theorem door32 (base g cap n : Nat) (l : List (Nat ⊕ ByteArray)) (r : Nat ⊕ ByteArray) (w : World) (hl : l.length = n) (hn0 : 0 < n) (hn : n ≤ 900) (hok : ∀ a ∈ l, aok a) (hown : w.ownsRow base 49 4 (.slice (some ⟨g, 0, none⟩) n cap) n (rowOf (l.map av)))
    (hF : ∀ pf lb es W, Below w.heap.size w W → View W lb es (l.map af) → Calls Tryz.prog 45 #[ptr pf, ptr lb] W fun e w' => e = .returned (af r) ∧ Below W.heap.size W w') :
    Calls Tryz.prog 32 #[.slice (some ⟨g, 0, none⟩) n cap] w fun e w' => e = .returned (vVal (av r).1 (av r).2.1 (av r).2.2) ∧ Below w.heap.size w w' := by
  have HF := Lib.hid hF
  have HO := Lib.hid hown
  have HK := Lib.hid hok
  have HL := Lib.hid hl
  clear hF hown hok hl
  go_enter Tryz.func32, Tryz.ntmps32
  go_wp2_with fail
  refine (funcs_any _).mono ?_
  rintro e w1 ⟨⟨pf, rfl⟩, hb1⟩
  have B1 := btr (bal (Below.refl _ w) _) hb1
  have R1 := Lib.hid (kblk hb1 (heap_alloc_new w _))
  go_wp2_with fail
  refine (innerList_any base g cap n l _ HL.out hn0 hn HK.out (own_below (HO.out.alloc _) hb1)).mono ?_
  rintro e w2 ⟨lb, rfl, hlist, hb2⟩
  obtain ⟨es, hv⟩ := hlist.view
  have HV := Lib.hid hv
  clear hv hlist
  have B2 := btr B1 hb2
  have R2 := Lib.hid (kblk hb2 R1.out)
  go_wp2_with fail
  refine (HF.out pf lb es _ B2 HV.out).mono ?_
  rintro e w3 ⟨rfl, hb3⟩
  have B3 := btr B2 hb3
  have R3 := Lib.hid (kblk hb3 R2.out)
  go_wp2_with fail
  refine (door_any r _).mono ?_
  rintro e w4 ⟨rfl, hb4⟩
  have B4 := btr B3 hb4
  have h4 := kblk hb4 R3.out
  have R4 := Lib.hid h4
  have c4 := fun o => cell_at h4 o
  have f4 := fun o => free_at h4 o
  have l4 := heap_lt h4
  clear h4
  go_wp2_with fail
  have B5 := B4.trans (setFour_below w4 w.heap.size w.heap.size (av r).1 (av r).2.1 (av r).2.2 (Nat.le_refl _))
  refine bodyPost_ret (v := vVal (av r).1 (av r).2.1 (av r).2.2) ?_ rfl ⟨rfl, B5⟩
  have hT := setFour_heap (k := (av r).1) (n := (av r).2.1) (s := (av r).2.2) R4.out
  change Sem.run Tryz.prog (results Tryz.f32 _) (setFour w4 w.heap.size (av r).1 (av r).2.1 (av r).2.2) = Result.ok _ (setFour w4 w.heap.size (av r).1 (av r).2.1 (av r).2.2)
  generalize setFour w4 w.heap.size (av r).1 (av r).2.1 (av r).2.2 = W at hT ⊢
  have cT := fun o => cell_at hT o
  clear hT
  simp [results, Tryz.results32, go_sem, cT]


set_option maxHeartbeats 400000 in
theorem impl20 (base g cap n : Nat) (l : List (Nat ⊕ ByteArray)) (r : Nat ⊕ ByteArray) (w : World) (hl : l.length = n) (hn0 : 0 < n) (hn : n ≤ 900) (hok : ∀ a ∈ l, aok a) (hown : w.ownsRow base 26 4 (.slice (some ⟨g, 0, none⟩) n cap) n (rowOf (l.map av)))
    (hF : ∀ pf lb es W, Below w.heap.size w W → View W lb es (l.map af) → Calls Tryz.prog 45 #[ptr pf, ptr lb] W fun e w' => e = .returned (af r) ∧ Below W.heap.size W w') :
    Calls Tryz.prog 20 #[.slice (some ⟨g, 0, none⟩) n cap] w fun e w' => e = .returned (vVal (av r).1 (av r).2.1 (av r).2.2) ∧ Below w.heap.size w w' := by
  have HF := Lib.hid hF
  have HO := Lib.hid hown
  have HK := Lib.hid hok
  have HL := Lib.hid hl
  clear hF hown hok hl
  go_enter Tryz.func20, Tryz.ntmps20
  go_wp2_with fail
  refine (in_any base g cap n (l.map av) _ (by rw [List.length_map]; exact HL.out) hn0 (by omega) (HO.out.alloc _)).mono ?_
  rintro e w1 ⟨v1, rfl, hown1, hb1⟩
  obtain ⟨g1, cap1, rfl, hg1, -⟩ := hown1.form hn0
  have HO1 := Lib.hid hown1
  have B1 := btr (bal (Below.refl _ w) _) hb1
  have R1 := Lib.hid (kblk hb1 (heap_alloc_new w _))
  clear hown1
  go_wp2_with fail
  refine (door32 _ g1 cap1 n l r _ HL.out hn0 hn HK.out HO1.out (fun pf lb es W hW hV => HF.out pf lb es W (btr B1 hW) hV)).mono ?_
  rintro e w3 ⟨rfl, hb3⟩
  have B3 := btr B1 hb3
  have R3 := Lib.hid (kblk hb3 R1.out)
  go_wp2_with fail
  refine (out_any _ _ _ _).mono ?_
  rintro e w4 ⟨rfl, hb4⟩
  have B4 := btr B3 hb4
  have h4 := kblk hb4 R3.out
  have R4 := Lib.hid h4
  have c4 := fun o => cell_at h4 o
  have f4 := fun o => free_at h4 o
  have l4 := heap_lt h4
  clear h4
  go_wp2_with fail
  have B5 := B4.trans (setFour_below w4 w.heap.size w.heap.size (av r).1 (av r).2.1 (av r).2.2 (Nat.le_refl _))
  refine bodyPost_ret (v := vVal (av r).1 (av r).2.1 (av r).2.2) ?_ rfl ⟨rfl, B5⟩
  have hT := setFour_heap (k := (av r).1) (n := (av r).2.1) (s := (av r).2.2) R4.out
  change Sem.run Tryz.prog (results Tryz.f20 _) (setFour w4 w.heap.size (av r).1 (av r).2.1 (av r).2.2) = Result.ok _ (setFour w4 w.heap.size (av r).1 (av r).2.1 (av r).2.2)
  generalize setFour w4 w.heap.size (av r).1 (av r).2.1 (av r).2.2 = W at hT ⊢
  have cT := fun o => cell_at hT o
  clear hT
  simp [results, Tryz.results20, go_sem, cT]


set_option maxHeartbeats 400000 in
theorem door33 (base g cap n : Nat) (l : List (Nat ⊕ ByteArray)) (r : Nat ⊕ ByteArray) (w : World) (hl : l.length = n) (hn0 : 0 < n) (hn : n ≤ 900) (hok : ∀ a ∈ l, aok a) (hown : w.ownsRow base 49 4 (.slice (some ⟨g, 0, none⟩) n cap) n (rowOf (l.map av)))
    (hF : ∀ pf lb es W, Below w.heap.size w W → View W lb es (l.map af) → Calls Tryz.prog 46 #[ptr pf, ptr lb] W fun e w' => e = .returned (af r) ∧ Below W.heap.size W w') :
    Calls Tryz.prog 33 #[.slice (some ⟨g, 0, none⟩) n cap] w fun e w' => e = .returned (vVal (av r).1 (av r).2.1 (av r).2.2) ∧ Below w.heap.size w w' := by
  have HF := Lib.hid hF
  have HO := Lib.hid hown
  have HK := Lib.hid hok
  have HL := Lib.hid hl
  clear hF hown hok hl
  go_enter Tryz.func33, Tryz.ntmps33
  go_wp2_with fail
  refine (funcs_any _).mono ?_
  rintro e w1 ⟨⟨pf, rfl⟩, hb1⟩
  have B1 := btr (bal (Below.refl _ w) _) hb1
  have R1 := Lib.hid (kblk hb1 (heap_alloc_new w _))
  go_wp2_with fail
  refine (innerList_any base g cap n l _ HL.out hn0 hn HK.out (own_below (HO.out.alloc _) hb1)).mono ?_
  rintro e w2 ⟨lb, rfl, hlist, hb2⟩
  obtain ⟨es, hv⟩ := hlist.view
  have HV := Lib.hid hv
  clear hv hlist
  have B2 := btr B1 hb2
  have R2 := Lib.hid (kblk hb2 R1.out)
  go_wp2_with fail
  refine (HF.out pf lb es _ B2 HV.out).mono ?_
  rintro e w3 ⟨rfl, hb3⟩
  have B3 := btr B2 hb3
  have R3 := Lib.hid (kblk hb3 R2.out)
  go_wp2_with fail
  refine (door_any r _).mono ?_
  rintro e w4 ⟨rfl, hb4⟩
  have B4 := btr B3 hb4
  have h4 := kblk hb4 R3.out
  have R4 := Lib.hid h4
  have c4 := fun o => cell_at h4 o
  have f4 := fun o => free_at h4 o
  have l4 := heap_lt h4
  clear h4
  go_wp2_with fail
  have B5 := B4.trans (setFour_below w4 w.heap.size w.heap.size (av r).1 (av r).2.1 (av r).2.2 (Nat.le_refl _))
  refine bodyPost_ret (v := vVal (av r).1 (av r).2.1 (av r).2.2) ?_ rfl ⟨rfl, B5⟩
  have hT := setFour_heap (k := (av r).1) (n := (av r).2.1) (s := (av r).2.2) R4.out
  change Sem.run Tryz.prog (results Tryz.f33 _) (setFour w4 w.heap.size (av r).1 (av r).2.1 (av r).2.2) = Result.ok _ (setFour w4 w.heap.size (av r).1 (av r).2.1 (av r).2.2)
  generalize setFour w4 w.heap.size (av r).1 (av r).2.1 (av r).2.2 = W at hT ⊢
  have cT := fun o => cell_at hT o
  clear hT
  simp [results, Tryz.results33, go_sem, cT]


set_option maxHeartbeats 400000 in
theorem impl21 (base g cap n : Nat) (l : List (Nat ⊕ ByteArray)) (r : Nat ⊕ ByteArray) (w : World) (hl : l.length = n) (hn0 : 0 < n) (hn : n ≤ 900) (hok : ∀ a ∈ l, aok a) (hown : w.ownsRow base 26 4 (.slice (some ⟨g, 0, none⟩) n cap) n (rowOf (l.map av)))
    (hF : ∀ pf lb es W, Below w.heap.size w W → View W lb es (l.map af) → Calls Tryz.prog 46 #[ptr pf, ptr lb] W fun e w' => e = .returned (af r) ∧ Below W.heap.size W w') :
    Calls Tryz.prog 21 #[.slice (some ⟨g, 0, none⟩) n cap] w fun e w' => e = .returned (vVal (av r).1 (av r).2.1 (av r).2.2) ∧ Below w.heap.size w w' := by
  have HF := Lib.hid hF
  have HO := Lib.hid hown
  have HK := Lib.hid hok
  have HL := Lib.hid hl
  clear hF hown hok hl
  go_enter Tryz.func21, Tryz.ntmps21
  go_wp2_with fail
  refine (in_any base g cap n (l.map av) _ (by rw [List.length_map]; exact HL.out) hn0 (by omega) (HO.out.alloc _)).mono ?_
  rintro e w1 ⟨v1, rfl, hown1, hb1⟩
  obtain ⟨g1, cap1, rfl, hg1, -⟩ := hown1.form hn0
  have HO1 := Lib.hid hown1
  have B1 := btr (bal (Below.refl _ w) _) hb1
  have R1 := Lib.hid (kblk hb1 (heap_alloc_new w _))
  clear hown1
  go_wp2_with fail
  refine (door33 _ g1 cap1 n l r _ HL.out hn0 hn HK.out HO1.out (fun pf lb es W hW hV => HF.out pf lb es W (btr B1 hW) hV)).mono ?_
  rintro e w3 ⟨rfl, hb3⟩
  have B3 := btr B1 hb3
  have R3 := Lib.hid (kblk hb3 R1.out)
  go_wp2_with fail
  refine (out_any _ _ _ _).mono ?_
  rintro e w4 ⟨rfl, hb4⟩
  have B4 := btr B3 hb4
  have h4 := kblk hb4 R3.out
  have R4 := Lib.hid h4
  have c4 := fun o => cell_at h4 o
  have f4 := fun o => free_at h4 o
  have l4 := heap_lt h4
  clear h4
  go_wp2_with fail
  have B5 := B4.trans (setFour_below w4 w.heap.size w.heap.size (av r).1 (av r).2.1 (av r).2.2 (Nat.le_refl _))
  refine bodyPost_ret (v := vVal (av r).1 (av r).2.1 (av r).2.2) ?_ rfl ⟨rfl, B5⟩
  have hT := setFour_heap (k := (av r).1) (n := (av r).2.1) (s := (av r).2.2) R4.out
  change Sem.run Tryz.prog (results Tryz.f21 _) (setFour w4 w.heap.size (av r).1 (av r).2.1 (av r).2.2) = Result.ok _ (setFour w4 w.heap.size (av r).1 (av r).2.1 (av r).2.2)
  generalize setFour w4 w.heap.size (av r).1 (av r).2.1 (av r).2.2 = W at hT ⊢
  have cT := fun o => cell_at hT o
  clear hT
  simp [results, Tryz.results21, go_sem, cT]


set_option maxHeartbeats 400000 in
theorem door34 (base g cap n : Nat) (l : List (Nat ⊕ ByteArray)) (r : Nat ⊕ ByteArray) (w : World) (hl : l.length = n) (hn0 : 0 < n) (hn : n ≤ 900) (hok : ∀ a ∈ l, aok a) (hown : w.ownsRow base 49 4 (.slice (some ⟨g, 0, none⟩) n cap) n (rowOf (l.map av)))
    (hF : ∀ pf lb es W, Below w.heap.size w W → View W lb es (l.map af) → Calls Tryz.prog 47 #[ptr pf, ptr lb] W fun e w' => e = .returned (af r) ∧ Below W.heap.size W w') :
    Calls Tryz.prog 34 #[.slice (some ⟨g, 0, none⟩) n cap] w fun e w' => e = .returned (vVal (av r).1 (av r).2.1 (av r).2.2) ∧ Below w.heap.size w w' := by
  have HF := Lib.hid hF
  have HO := Lib.hid hown
  have HK := Lib.hid hok
  have HL := Lib.hid hl
  clear hF hown hok hl
  go_enter Tryz.func34, Tryz.ntmps34
  go_wp2_with fail
  refine (funcs_any _).mono ?_
  rintro e w1 ⟨⟨pf, rfl⟩, hb1⟩
  have B1 := btr (bal (Below.refl _ w) _) hb1
  have R1 := Lib.hid (kblk hb1 (heap_alloc_new w _))
  go_wp2_with fail
  refine (innerList_any base g cap n l _ HL.out hn0 hn HK.out (own_below (HO.out.alloc _) hb1)).mono ?_
  rintro e w2 ⟨lb, rfl, hlist, hb2⟩
  obtain ⟨es, hv⟩ := hlist.view
  have HV := Lib.hid hv
  clear hv hlist
  have B2 := btr B1 hb2
  have R2 := Lib.hid (kblk hb2 R1.out)
  go_wp2_with fail
  refine (HF.out pf lb es _ B2 HV.out).mono ?_
  rintro e w3 ⟨rfl, hb3⟩
  have B3 := btr B2 hb3
  have R3 := Lib.hid (kblk hb3 R2.out)
  go_wp2_with fail
  refine (door_any r _).mono ?_
  rintro e w4 ⟨rfl, hb4⟩
  have B4 := btr B3 hb4
  have h4 := kblk hb4 R3.out
  have R4 := Lib.hid h4
  have c4 := fun o => cell_at h4 o
  have f4 := fun o => free_at h4 o
  have l4 := heap_lt h4
  clear h4
  go_wp2_with fail
  have B5 := B4.trans (setFour_below w4 w.heap.size w.heap.size (av r).1 (av r).2.1 (av r).2.2 (Nat.le_refl _))
  refine bodyPost_ret (v := vVal (av r).1 (av r).2.1 (av r).2.2) ?_ rfl ⟨rfl, B5⟩
  have hT := setFour_heap (k := (av r).1) (n := (av r).2.1) (s := (av r).2.2) R4.out
  change Sem.run Tryz.prog (results Tryz.f34 _) (setFour w4 w.heap.size (av r).1 (av r).2.1 (av r).2.2) = Result.ok _ (setFour w4 w.heap.size (av r).1 (av r).2.1 (av r).2.2)
  generalize setFour w4 w.heap.size (av r).1 (av r).2.1 (av r).2.2 = W at hT ⊢
  have cT := fun o => cell_at hT o
  clear hT
  simp [results, Tryz.results34, go_sem, cT]


set_option maxHeartbeats 400000 in
theorem impl22 (base g cap n : Nat) (l : List (Nat ⊕ ByteArray)) (r : Nat ⊕ ByteArray) (w : World) (hl : l.length = n) (hn0 : 0 < n) (hn : n ≤ 900) (hok : ∀ a ∈ l, aok a) (hown : w.ownsRow base 26 4 (.slice (some ⟨g, 0, none⟩) n cap) n (rowOf (l.map av)))
    (hF : ∀ pf lb es W, Below w.heap.size w W → View W lb es (l.map af) → Calls Tryz.prog 47 #[ptr pf, ptr lb] W fun e w' => e = .returned (af r) ∧ Below W.heap.size W w') :
    Calls Tryz.prog 22 #[.slice (some ⟨g, 0, none⟩) n cap] w fun e w' => e = .returned (vVal (av r).1 (av r).2.1 (av r).2.2) ∧ Below w.heap.size w w' := by
  have HF := Lib.hid hF
  have HO := Lib.hid hown
  have HK := Lib.hid hok
  have HL := Lib.hid hl
  clear hF hown hok hl
  go_enter Tryz.func22, Tryz.ntmps22
  go_wp2_with fail
  refine (in_any base g cap n (l.map av) _ (by rw [List.length_map]; exact HL.out) hn0 (by omega) (HO.out.alloc _)).mono ?_
  rintro e w1 ⟨v1, rfl, hown1, hb1⟩
  obtain ⟨g1, cap1, rfl, hg1, -⟩ := hown1.form hn0
  have HO1 := Lib.hid hown1
  have B1 := btr (bal (Below.refl _ w) _) hb1
  have R1 := Lib.hid (kblk hb1 (heap_alloc_new w _))
  clear hown1
  go_wp2_with fail
  refine (door34 _ g1 cap1 n l r _ HL.out hn0 hn HK.out HO1.out (fun pf lb es W hW hV => HF.out pf lb es W (btr B1 hW) hV)).mono ?_
  rintro e w3 ⟨rfl, hb3⟩
  have B3 := btr B1 hb3
  have R3 := Lib.hid (kblk hb3 R1.out)
  go_wp2_with fail
  refine (out_any _ _ _ _).mono ?_
  rintro e w4 ⟨rfl, hb4⟩
  have B4 := btr B3 hb4
  have h4 := kblk hb4 R3.out
  have R4 := Lib.hid h4
  have c4 := fun o => cell_at h4 o
  have f4 := fun o => free_at h4 o
  have l4 := heap_lt h4
  clear h4
  go_wp2_with fail
  have B5 := B4.trans (setFour_below w4 w.heap.size w.heap.size (av r).1 (av r).2.1 (av r).2.2 (Nat.le_refl _))
  refine bodyPost_ret (v := vVal (av r).1 (av r).2.1 (av r).2.2) ?_ rfl ⟨rfl, B5⟩
  have hT := setFour_heap (k := (av r).1) (n := (av r).2.1) (s := (av r).2.2) R4.out
  change Sem.run Tryz.prog (results Tryz.f22 _) (setFour w4 w.heap.size (av r).1 (av r).2.1 (av r).2.2) = Result.ok _ (setFour w4 w.heap.size (av r).1 (av r).2.1 (av r).2.2)
  generalize setFour w4 w.heap.size (av r).1 (av r).2.1 (av r).2.2 = W at hT ⊢
  have cT := fun o => cell_at hT o
  clear hT
  simp [results, Tryz.results22, go_sem, cT]


set_option maxHeartbeats 400000 in
theorem door35 (base g cap n : Nat) (l : List (Nat ⊕ ByteArray)) (r : Nat ⊕ ByteArray) (w : World) (hl : l.length = n) (hn0 : 0 < n) (hn : n ≤ 900) (hok : ∀ a ∈ l, aok a) (hown : w.ownsRow base 49 4 (.slice (some ⟨g, 0, none⟩) n cap) n (rowOf (l.map av)))
    (hF : ∀ pf lb es W, Below w.heap.size w W → View W lb es (l.map af) → Calls Tryz.prog 48 #[ptr pf, ptr lb] W fun e w' => e = .returned (af r) ∧ Below W.heap.size W w') :
    Calls Tryz.prog 35 #[.slice (some ⟨g, 0, none⟩) n cap] w fun e w' => e = .returned (vVal (av r).1 (av r).2.1 (av r).2.2) ∧ Below w.heap.size w w' := by
  have HF := Lib.hid hF
  have HO := Lib.hid hown
  have HK := Lib.hid hok
  have HL := Lib.hid hl
  clear hF hown hok hl
  go_enter Tryz.func35, Tryz.ntmps35
  go_wp2_with fail
  refine (funcs_any _).mono ?_
  rintro e w1 ⟨⟨pf, rfl⟩, hb1⟩
  have B1 := btr (bal (Below.refl _ w) _) hb1
  have R1 := Lib.hid (kblk hb1 (heap_alloc_new w _))
  go_wp2_with fail
  refine (innerList_any base g cap n l _ HL.out hn0 hn HK.out (own_below (HO.out.alloc _) hb1)).mono ?_
  rintro e w2 ⟨lb, rfl, hlist, hb2⟩
  obtain ⟨es, hv⟩ := hlist.view
  have HV := Lib.hid hv
  clear hv hlist
  have B2 := btr B1 hb2
  have R2 := Lib.hid (kblk hb2 R1.out)
  go_wp2_with fail
  refine (HF.out pf lb es _ B2 HV.out).mono ?_
  rintro e w3 ⟨rfl, hb3⟩
  have B3 := btr B2 hb3
  have R3 := Lib.hid (kblk hb3 R2.out)
  go_wp2_with fail
  refine (door_any r _).mono ?_
  rintro e w4 ⟨rfl, hb4⟩
  have B4 := btr B3 hb4
  have h4 := kblk hb4 R3.out
  have R4 := Lib.hid h4
  have c4 := fun o => cell_at h4 o
  have f4 := fun o => free_at h4 o
  have l4 := heap_lt h4
  clear h4
  go_wp2_with fail
  have B5 := B4.trans (setFour_below w4 w.heap.size w.heap.size (av r).1 (av r).2.1 (av r).2.2 (Nat.le_refl _))
  refine bodyPost_ret (v := vVal (av r).1 (av r).2.1 (av r).2.2) ?_ rfl ⟨rfl, B5⟩
  have hT := setFour_heap (k := (av r).1) (n := (av r).2.1) (s := (av r).2.2) R4.out
  change Sem.run Tryz.prog (results Tryz.f35 _) (setFour w4 w.heap.size (av r).1 (av r).2.1 (av r).2.2) = Result.ok _ (setFour w4 w.heap.size (av r).1 (av r).2.1 (av r).2.2)
  generalize setFour w4 w.heap.size (av r).1 (av r).2.1 (av r).2.2 = W at hT ⊢
  have cT := fun o => cell_at hT o
  clear hT
  simp [results, Tryz.results35, go_sem, cT]


set_option maxHeartbeats 400000 in
theorem impl23 (base g cap n : Nat) (l : List (Nat ⊕ ByteArray)) (r : Nat ⊕ ByteArray) (w : World) (hl : l.length = n) (hn0 : 0 < n) (hn : n ≤ 900) (hok : ∀ a ∈ l, aok a) (hown : w.ownsRow base 26 4 (.slice (some ⟨g, 0, none⟩) n cap) n (rowOf (l.map av)))
    (hF : ∀ pf lb es W, Below w.heap.size w W → View W lb es (l.map af) → Calls Tryz.prog 48 #[ptr pf, ptr lb] W fun e w' => e = .returned (af r) ∧ Below W.heap.size W w') :
    Calls Tryz.prog 23 #[.slice (some ⟨g, 0, none⟩) n cap] w fun e w' => e = .returned (vVal (av r).1 (av r).2.1 (av r).2.2) ∧ Below w.heap.size w w' := by
  have HF := Lib.hid hF
  have HO := Lib.hid hown
  have HK := Lib.hid hok
  have HL := Lib.hid hl
  clear hF hown hok hl
  go_enter Tryz.func23, Tryz.ntmps23
  go_wp2_with fail
  refine (in_any base g cap n (l.map av) _ (by rw [List.length_map]; exact HL.out) hn0 (by omega) (HO.out.alloc _)).mono ?_
  rintro e w1 ⟨v1, rfl, hown1, hb1⟩
  obtain ⟨g1, cap1, rfl, hg1, -⟩ := hown1.form hn0
  have HO1 := Lib.hid hown1
  have B1 := btr (bal (Below.refl _ w) _) hb1
  have R1 := Lib.hid (kblk hb1 (heap_alloc_new w _))
  clear hown1
  go_wp2_with fail
  refine (door35 _ g1 cap1 n l r _ HL.out hn0 hn HK.out HO1.out (fun pf lb es W hW hV => HF.out pf lb es W (btr B1 hW) hV)).mono ?_
  rintro e w3 ⟨rfl, hb3⟩
  have B3 := btr B1 hb3
  have R3 := Lib.hid (kblk hb3 R1.out)
  go_wp2_with fail
  refine (out_any _ _ _ _).mono ?_
  rintro e w4 ⟨rfl, hb4⟩
  have B4 := btr B3 hb4
  have h4 := kblk hb4 R3.out
  have R4 := Lib.hid h4
  have c4 := fun o => cell_at h4 o
  have f4 := fun o => free_at h4 o
  have l4 := heap_lt h4
  clear h4
  go_wp2_with fail
  have B5 := B4.trans (setFour_below w4 w.heap.size w.heap.size (av r).1 (av r).2.1 (av r).2.2 (Nat.le_refl _))
  refine bodyPost_ret (v := vVal (av r).1 (av r).2.1 (av r).2.2) ?_ rfl ⟨rfl, B5⟩
  have hT := setFour_heap (k := (av r).1) (n := (av r).2.1) (s := (av r).2.2) R4.out
  change Sem.run Tryz.prog (results Tryz.f23 _) (setFour w4 w.heap.size (av r).1 (av r).2.1 (av r).2.2) = Result.ok _ (setFour w4 w.heap.size (av r).1 (av r).2.1 (av r).2.2)
  generalize setFour w4 w.heap.size (av r).1 (av r).2.1 (av r).2.2 = W at hT ⊢
  have cT := fun o => cell_at hT o
  clear hT
  simp [results, Tryz.results23, go_sem, cT]

end

end Go.Proofs.YtafdhmpikkfepaaGreatDoor
