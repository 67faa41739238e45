import Derived.Test.YtafdhmpikkfepaaGreatDoorFm
import Derived.Deep.LoopGhost
import Derived.Laws.Runes
namespace Go.Proofs.YtafdhmpikkfepaaGreatDoor
open Go.RowKit Go.Sort

/-- the first part of a text, behind a place -/
def partR (s : ByteArray) (p k : Nat) : ByteArray := ⟨((s.data.toList.take k).drop p).toArray⟩

theorem partR_zero (s : ByteArray) (p : Nat) : partR s p 0 = ⟨#[]⟩ := by simp [partR]
theorem partR_skip (s : ByteArray) (p k : Nat) (h : k < p) : partR s p (k + 1) = partR s p k := by
  unfold partR
  rw [List.drop_of_length_le (by rw [List.length_take]; omega), List.drop_of_length_le (by rw [List.length_take]; omega)]
theorem partR_step (s : ByteArray) (p k : Nat) (hk : k < s.size) (h : p ≤ k) : partR s p k ++ ⟨#[s[k]]⟩ = partR s p (k + 1) := by
  unfold partR
  have hl : k < s.data.toList.length := by rw [size_data]; exact hk
  rw [show (⟨#[s[k]]⟩ : ByteArray) = ⟨[s[k]].toArray⟩ from rfl, mk_append, List.take_succ_eq_append_getElem hl, get_data s k hk, List.drop_append_of_le_length (by rw [List.length_take]; omega)]
theorem partR_size (s : ByteArray) (p k : Nat) (hk : k ≤ s.size) : (partR s p k).size = k - p := by
  show ((s.data.toList.take k).drop p).length = _
  rw [List.length_drop, List.length_take, size_data]
  omega
theorem partR_done (s : ByteArray) (p k m : Nat) (h : k - p = m ∨ (k = s.size ∧ k - p ≤ m)) : partR s p k = s.extract p (p + m) := by
  have e := mk_of_list (ext_list s p (p + m))
  rw [e, Nat.add_sub_cancel_left]
  unfold partR
  congr 2
  rw [List.drop_take]
  rcases h with h | ⟨h, h2⟩
  · rw [h]
  · rw [List.take_of_length_le (by rw [List.length_drop, size_data]; omega), List.take_of_length_le (by rw [List.length_drop, size_data]; omega)]

theorem conv_rune (c : UInt8) (h : c.toNat < 128) (r : Nat) (hr : c.toNat = r) (W : World) : (convert 21 9 (.int .i32 (r : Int))).run Tryz.prog W = .ok (.string ⟨#[c]⟩) W := by
  rw [run_convert_int_string W 21 9 .i32 _ (by rw [Tryz.underlying21]; rfl) Tryz.underlying9, ← hr, encode_asc c h]

section
attribute [local go_sem] run_store_flt run_assert

set_option maxRecDepth 100000 in
set_option maxHeartbeats 1000000 in
theorem midb_any (pf lb e0 e1 e2 p m : Nat) (s : ByteArray) (w : World) (hp : p < 1000) (hm : m ≤ 1000) (hs : s.size ≤ 1000) (ha : Plain s) (hv : View w lb [e0, e1, e2] [fStr s, fNum (p + 1), fNum m]) :
    Calls Tryz.prog 74 #[ptr pf, .string ⟨#[77, 73, 68, 66]⟩, ptr lb] w fun e w' => e = .returned (fStr (s.extract p (p + m))) ∧ Below w.heap.size w w' := by
  have k0 : w.cell? ⟨e0, 3, none⟩ = some (.iface 67 (fStr s)) := (hv.cell 0 e0 rfl).1
  have k1 : w.cell? ⟨e1, 3, none⟩ = some (.iface 67 (fNum (p + 1))) := (hv.cell 1 e1 rfl).1
  have k2 : w.cell? ⟨e2, 3, none⟩ = some (.iface 67 (fNum m)) := (hv.cell 2 e2 rfl).1
  have l0 := (hv.cell 0 e0 rfl).2
  have l1 := (hv.cell 1 e1 rfl).2
  have l2 := (hv.cell 2 e2 rfl).2
  have HV := Lib.hid hv
  have HA := Lib.hid ha
  clear hv ha
  go_enter Tryz.func74, Tryz.ntmps74
  go_wp2_with fail
  refine (len_any lb _ _ _ (HV.out.below (bal (Below.refl _ _) _))).mono ?_
  rintro e w1 ⟨rfl, rfl⟩
  go_wp2_with fail
  refine (front_any lb _ _ _ _ (HV.out.below (bal (Below.refl _ _) _))).mono ?_
  rintro e w1 ⟨rfl, rfl⟩
  go_wp2_with fail
  refine (val_str _ _).mono ?_
  rintro e w1 ⟨rfl, hb1⟩
  have B1 := btr (bal (Below.refl _ w) _) hb1
  have q1 : w1.cell? ⟨e1, 3, none⟩ = some (.iface 67 (fNum (p + 1))) := (B1.cell (p := ⟨e1, 3, none⟩) l1).trans k1
  have n1 : e1 < w1.heap.size := Nat.lt_of_lt_of_le l1 B1.size
  have HR := Lib.hid (keep_blk hb1 (heap_alloc_new w _))
  clear k0 k1
  go_wp2_with fail
  refine (front_any lb _ _ _ _ (HV.out.below B1)).mono ?_
  rintro e w2 ⟨rfl, rfl⟩
  go_wp2_with fail
  refine (next_any lb 0 e0 e1 _ _ _ (HV.out.below B1) rfl rfl).mono ?_
  rintro e w2 ⟨rfl, rfl⟩
  go_wp2_with fail
  refine (toNum_any (p + 1) _ (by omega)).mono ?_
  rintro e w2 ⟨rfl, hb2⟩
  have B2 := btr B1 hb2
  have HR := Lib.hid (keep_blk hb2 HR.out)
  have q2 : w2.cell? ⟨e2, 3, none⟩ = some (.iface 67 (fNum m)) := (B2.cell (p := ⟨e2, 3, none⟩) l2).trans k2
  have n2 : e2 < w2.heap.size := Nat.lt_of_lt_of_le l2 B2.size
  clear k2 q1 n1
  go_wp2_with fail
  refine (front_any lb _ _ _ _ (HV.out.below B2)).mono ?_
  rintro e w3 ⟨rfl, rfl⟩
  go_wp2_with fail
  refine (next_any lb 0 e0 e1 _ _ _ (HV.out.below B2) rfl rfl).mono ?_
  rintro e w3 ⟨rfl, rfl⟩
  go_wp2_with fail
  refine (next_any lb 1 e1 e2 _ _ _ (HV.out.below B2) rfl rfl).mono ?_
  rintro e w3 ⟨rfl, rfl⟩
  go_wp2_with fail
  refine (toNum_any m _ (by omega)).mono ?_
  rintro e w3 ⟨rfl, hb3⟩
  have B3 := btr B2 hb3
  have HR := Lib.hid (keep_blk hb3 HR.out)
  have cv1 := conv_fl (p + 1) (by omega)
  have cv2 := conv_fl m (by omega)
  have ol : (FloatKind.f64.format.order (fl m) 0 == some .lt) = false := by
    have := order_lt m 0 (by omega) (by omega)
    rw [fl_zero] at this
    rw [this]
    simp
  clear q2 n2
  have x0 : IntKind.i64.wrap ((p + 1 : Nat) : Int) = ((p : Int) + 1) := by rw [IntKind.wrap_i64]; omega
  go_wp2_with fail
  have B4 := bal (bal B3 (nBox (p + 1))) (nBox m)
  have HR := Lib.hid (keep_al (keep_al HR.out (nBox (p + 1))) (nBox m))
  have h9 : ((w3.alloc (nBox (p + 1))).alloc (nBox m)).heap[w3.heap.size + 1]? = some (nBox m) := by
    have := heap_alloc_new (w3.alloc (nBox (p + 1))) (nBox m)
    rwa [hsz_alloc] at this
  obtain ⟨V, hV⟩ : ∃ V, (w3.alloc (nBox (p + 1))).alloc (nBox m) = V := ⟨_, rfl⟩
  obtain ⟨z, hz⟩ : ∃ z, w3.heap.size + 1 = z := ⟨_, rfl⟩
  have hVz : V.heap.size = z + 1 := by rw [← hV, ← hz, hsz_alloc, hsz_alloc]
  rw [hV] at B4 HR h9 ⊢
  rw [hz] at h9 ⊢
  clear hV hz
  have c9 : ∀ k, (V.iter s k).cell? ⟨z, 1, none⟩ = some (.float .f64 (fl m)) := fun k => cell_at (keep_al h9 (.stringIter s k)) 1
  have g9 : ∀ k, (V.iter s k).heap[w.heap.size]? = some (fBox 0 ⟨#[]⟩ false ⟨#[]⟩ 0) := fun k => keep_al HR.out (.stringIter s k)
  have HG := Lib.hid g9
  have t9 : ∀ k, z < (V.iter s k).heap.size := fun k => heap_lt (keep_al h9 (.stringIter s k))
  clear g9 h9
  go_loopw [11, 12, 13] (fun r c o wr => ∃ k : Nat, k ≤ s.size ∧ k - p ≤ m ∧ r = .string (partR s p k) ∧ c = .int .i64 ((k - p : Nat) : Int) ∧ o = .int .i64 k ∧ wr = V.iter s k) (fun _ _ o _ => s.size - (intOf o).toNat)
  case atStart => exact ⟨0, Nat.zero_le _, by omega, by rw [partR_zero], by simp, rfl, rfl⟩
  case round =>
    obtain ⟨k, hk, hkm, rfl, rfl, rfl, rfl⟩ := hrel
    have hps := partR_size s p k hk
    by_cases hlt : k < s.size
    · obtain ⟨r, hr⟩ : ∃ r : Nat, s[k].toNat = r := ⟨_, rfl⟩
      have hr2 : r < 128 := by rw [← hr]; exact HA.out k hlt
      have hnx : ∀ ty, (Instr.next (.pointer (some ⟨z + 1, 0, none⟩)) true ty).run Tryz.prog (V.iter s k) = .ok (.tuple #[.bool true, .int .i64 k, .int .i32 (r : Int)]) (V.iter s (k + 1)) := fun ty => by
        rw [← hVz, run_next_ascii V s k ty hlt (by rw [hr]; exact hr2), hr]
      have hcr := conv_rune s[k] (by rw [hr]; exact hr2) r hr
      have c9k := c9 (k + 1)
      have t9k := t9 (k + 1)
      have HRR := Lib.hid hr
      clear hr
      by_cases hA : k - p = m
      · have hd := partR_done s p k m (.inl hA)
        rw [hd]
        have f1 : (((k - p : Nat) : Int) == (m : Int)) = true := by rw [hA]; exact beq_self_eq_true _
        clear hcr hps hd
        go_wp2_with (go_at_call 75; refine (len8_any r _ hr2).mono ?_; rintro e w' ⟨rfl, rfl⟩)
        refine (strf_any _ _).mono ?_
        rintro e w5 ⟨rfl, rfl⟩
        have hR := HG.out (k + 1)
        have cR := fun o => cell_at hR o
        have fR := fun o => free_at hR o
        have lR := heap_lt hR
        have HC := Lib.hid hR
        have B5 : Below w.heap.size w (V.iter s (k + 1)) := bal B4 _
        clear hR hnx
        obtain ⟨W, hW⟩ : ∃ W, V.iter s (k + 1) = W := ⟨_, rfl⟩
        rw [hW] at cR fR lR HC B5 ⊢
        clear hW c9 t9
        go_wp2_with fail
        refine bodyPost_ret (v := fStr (s.extract p (p + m))) ?_ rfl ⟨rfl, ?_⟩
        · generalize s.extract p (p + m) = t
          have hT : ((setTen W w.heap.size 0 t false ⟨#[]⟩ 2).alloc (fBox 0 t false ⟨#[]⟩ 2)).heap[w.heap.size]? = some (fBox 0 t false ⟨#[]⟩ 2) := keep_al (setTen_heap HC.out) _
          change Sem.run Tryz.prog (results Tryz.f74 _) ((setTen W w.heap.size 0 t false ⟨#[]⟩ 2).alloc (fBox 0 t false ⟨#[]⟩ 2)) = Result.ok _ ((setTen W w.heap.size 0 t false ⟨#[]⟩ 2).alloc (fBox 0 t false ⟨#[]⟩ 2))
          generalize (setTen W w.heap.size 0 t false ⟨#[]⟩ 2).alloc (fBox 0 t false ⟨#[]⟩ 2) = X at hT ⊢
          have cT := fun o => cell_at hT o
          clear hT
          simp [results, Tryz.results74, go_sem, cT]
        · exact bal (B5.trans (setTen_below W w.heap.size w.heap.size 0 (s.extract p (p + m)) false ⟨#[]⟩ 2 (Nat.le_refl _))) _
      · have f1 : (((k - p : Nat) : Int) == (m : Int)) = false := beq_eq_false_iff_ne.2 (by omega)
        rcases Nat.lt_or_ge k p with hkp | hkp
        · have hsk := partR_skip s p k hkp
          have f2 : ((k : Int) + 1 + 1) ≤ (p : Int) + 1 := by omega
          go_wp2_with (go_at_call 75; refine (len8_any r _ hr2).mono ?_; rintro e w' ⟨rfl, rfl⟩)
          go_roundw
          case rel => exact ⟨k + 1, by omega, by omega, by rw [hsk], by rw [show k + 1 - p = k - p by omega], by go_num, rfl⟩
          case measure => simp [intOf]; omega
        · have hst := partR_step s p k hlt hkp
          have f2 : (p : Int) + 1 < ((k : Int) + 1 + 1) := by omega
          obtain ⟨R, hR⟩ : ∃ R, partR s p k = R := ⟨_, rfl⟩
          rw [hR] at hst hps ⊢
          have hz1 : ¬ 9223372036854775807 < R.size + 1 := by omega
          have HST := Lib.hid hst
          clear hst hR
          go_wp2_with (go_at_call 75; refine (len8_any r _ hr2).mono ?_; rintro e w' ⟨rfl, rfl⟩)
          go_roundw
          case rel => exact ⟨k + 1, by omega, by omega, by rw [← HST.out], by go_num, by go_num, rfl⟩
          case measure => simp [intOf]; omega
    · obtain rfl : k = s.size := by omega
      have hd := partR_done s p s.size m (.inr ⟨rfl, hkm⟩)
      rw [hd]
      have hnx : ∀ ty, (Instr.next (.pointer (some ⟨z + 1, 0, none⟩)) true ty).run Tryz.prog (V.iter s s.size) = .ok (.tuple #[.bool false]) (V.iter s s.size) := fun ty => by
        rw [← hVz]
        exact run_next_end V s s.size ty hlt
      clear hps hd
      go_wp2_with fail
      refine (strf_any _ _).mono ?_
      rintro e w5 ⟨rfl, rfl⟩
      have hR := HG.out (s.size)
      have cR := fun o => cell_at hR o
      have fR := fun o => free_at hR o
      have lR := heap_lt hR
      have HC := Lib.hid hR
      have B5 : Below w.heap.size w (V.iter s (s.size)) := bal B4 _
      clear hR hnx
      obtain ⟨W, hW⟩ : ∃ W, V.iter s (s.size) = W := ⟨_, rfl⟩
      rw [hW] at cR fR lR HC B5 ⊢
      clear hW c9 t9
      go_wp2_with fail
      refine bodyPost_ret (v := fStr (s.extract p (p + m))) ?_ rfl ⟨rfl, ?_⟩
      · generalize s.extract p (p + m) = t
        have hT : ((setTen W w.heap.size 0 t false ⟨#[]⟩ 2).alloc (fBox 0 t false ⟨#[]⟩ 2)).heap[w.heap.size]? = some (fBox 0 t false ⟨#[]⟩ 2) := keep_al (setTen_heap HC.out) _
        change Sem.run Tryz.prog (results Tryz.f74 _) ((setTen W w.heap.size 0 t false ⟨#[]⟩ 2).alloc (fBox 0 t false ⟨#[]⟩ 2)) = Result.ok _ ((setTen W w.heap.size 0 t false ⟨#[]⟩ 2).alloc (fBox 0 t false ⟨#[]⟩ 2))
        generalize (setTen W w.heap.size 0 t false ⟨#[]⟩ 2).alloc (fBox 0 t false ⟨#[]⟩ 2) = X at hT ⊢
        have cT := fun o => cell_at hT o
        clear hT
        simp [results, Tryz.results74, go_sem, cT]
      · exact bal (B5.trans (setTen_below W w.heap.size w.heap.size 0 (s.extract p (p + m)) false ⟨#[]⟩ 2 (Nat.le_refl _))) _
end

section
attribute [local go_sem] run_store_flt run_assert

set_option maxRecDepth 100000 in
theorem lenb_any (pf lb e0 : Nat) (s : ByteArray) (w : World) (hs : s.size ≤ 1000) (ha : Plain s) (hv : View w lb [e0] [fStr s]) :
    Calls Tryz.prog 46 #[ptr pf, ptr lb] w fun e w' => e = .returned (fNum s.size) ∧ Below w.heap.size w w' := by
  have k0 : w.cell? ⟨e0, 3, none⟩ = some (.iface 67 (fStr s)) := (hv.cell 0 e0 rfl).1
  have l0 := (hv.cell 0 e0 rfl).2
  have HV := Lib.hid hv
  have HA := Lib.hid ha
  clear hv ha
  go_enter Tryz.func46, Tryz.ntmps46
  go_wp2_with fail
  refine (len_any lb _ _ _ (HV.out.below (bal (Below.refl _ _) _))).mono ?_
  rintro e w1 ⟨rfl, rfl⟩
  go_wp2_with fail
  refine (front_any lb _ _ _ _ (HV.out.below (bal (Below.refl _ _) _))).mono ?_
  rintro e w1 ⟨rfl, rfl⟩
  go_wp2_with fail
  refine (val_str _ _).mono ?_
  rintro e w1 ⟨rfl, hb1⟩
  have B1 := btr (bal (Below.refl _ w) _) hb1
  have HR := Lib.hid (keep_blk hb1 (heap_alloc_new w _))
  clear k0 hb1
  go_wp2_with fail
  go_loopw [5] (fun c wr => ∃ k : Nat, k ≤ s.size ∧ c = .int .i64 k ∧ wr = w1.iter s k) (fun c _ => s.size - (intOf c).toNat)
  case atStart => exact ⟨0, Nat.zero_le _, rfl, rfl⟩
  case round =>
    obtain ⟨k, hk, rfl, rfl⟩ := hrel
    by_cases hlt : k < s.size
    · obtain ⟨r, hr⟩ : ∃ r : Nat, s[k].toNat = r := ⟨_, rfl⟩
      have hr2 : r < 128 := by rw [← hr]; exact HA.out k hlt
      have hnx : ∀ ty, (Instr.next (.pointer (some ⟨w1.heap.size, 0, none⟩)) true ty).run Tryz.prog (w1.iter s k) = .ok (.tuple #[.bool true, .int .i64 k, .int .i32 (r : Int)]) (w1.iter s (k + 1)) := fun ty => by
        rw [run_next_ascii w1 s k ty hlt (by rw [hr]; exact hr2), hr]
      clear hr
      go_wp2_with (go_at_call 75; refine (len8_any r _ hr2).mono ?_; rintro e w' ⟨rfl, rfl⟩)
      go_roundw
      case rel => exact ⟨k + 1, by omega, by go_num, rfl⟩
      case measure => simp [intOf]; omega
    · obtain rfl : k = s.size := by omega
      have hnx : ∀ ty, (Instr.next (.pointer (some ⟨w1.heap.size, 0, none⟩)) true ty).run Tryz.prog (w1.iter s s.size) = .ok (.tuple #[.bool false]) (w1.iter s s.size) := fun ty => run_next_end w1 s s.size ty hlt
      go_wp2_with fail
      rw [fl_int]
      refine (num_any s.size _ (by omega)).mono ?_
      rintro e w2 ⟨rfl, rfl⟩
      have hR := keep_al HR.out (.stringIter s s.size)
      have cR := fun o => cell_at hR o
      have fR := fun o => free_at hR o
      have lR := heap_lt hR
      have HC := Lib.hid hR
      have B5 : Below w.heap.size w (w1.iter s s.size) := bal B1 _
      clear hR hnx
      change Hid ((w1.iter s s.size).heap[w.heap.size]? = _) at HC
      change ∀ o, (w1.iter s s.size).cell? ⟨w.heap.size, o, none⟩ = _ at cR
      change ∀ o, (w1.iter s s.size).frozen? ⟨w.heap.size, o, none⟩ = _ at fR
      change w.heap.size < (w1.iter s s.size).heap.size at lR
      obtain ⟨W, hW⟩ : ∃ W, w1.iter s s.size = W := ⟨_, rfl⟩
      rw [hW] at cR fR lR HC B5 ⊢
      clear hW
      obtain ⟨n, hn⟩ : ∃ n, s.size = n := ⟨_, rfl⟩
      rw [hn]
      go_wp2_with fail
      refine bodyPost_ret (v := fNum n) ?_ rfl ⟨by rw [hn], ?_⟩
      · have hT : ((setTen W w.heap.size (fl n) ⟨#[]⟩ false ⟨#[]⟩ 1).alloc (nBox n)).heap[w.heap.size]? = some (nBox n) := keep_al (setTen_heap HC.out) _
        change Sem.run Tryz.prog (results Tryz.f46 _) ((setTen W w.heap.size (fl n) ⟨#[]⟩ false ⟨#[]⟩ 1).alloc (nBox n)) = Result.ok _ ((setTen W w.heap.size (fl n) ⟨#[]⟩ false ⟨#[]⟩ 1).alloc (nBox n))
        generalize (setTen W w.heap.size (fl n) ⟨#[]⟩ false ⟨#[]⟩ 1).alloc (nBox n) = X at hT ⊢
        have cT := fun o => cell_at hT o
        clear hT
        simp [results, Tryz.results46, go_sem, cT]
      · exact bal (B5.trans (setTen_below W w.heap.size w.heap.size (fl n) ⟨#[]⟩ false ⟨#[]⟩ 1 (Nat.le_refl _))) _
end

end Go.Proofs.YtafdhmpikkfepaaGreatDoor
