import Derived.Test.YtafdhmpikkfepaaGreatDoorCn
import Derived.Deep.RegionHeld3
import Derived.Deep.RegionWith
namespace Go.Proofs.YtafdhmpikkfepaaGreatDoor
open Go.RowKit Go.Sort

theorem coords_any (col row : Nat) (s : ByteArray) (w : World) (h0 : 1 ≤ col) (h1 : col ≤ 16384) (r0 : 1 ≤ row) (r1 : row ≤ 1048576) (hs : s.data.toList = cellL col row) :
    Calls Tryz.prog 27 #[.string s] w fun e w' => e = .returned (.tuple #[.int .i64 col, .int .i64 row, .nilIface]) ∧ Below w.heap.size w w' := by
  have C1 := Lib.hid (fun W => split_any col row s W h0 h1 r0 r1 hs)
  have C2 := Lib.hid (fun W => colNumber_any col ⟨(colL col).toArray⟩ W h0 h1 rfl)
  clear hs
  go_enter Tryz.func27, Tryz.ntmps27
  go_wp2_with fail
  refine (C1.out _).mono ?_
  rintro e w1 ⟨rfl, hb1⟩
  go_wp2_with fail
  refine (C2.out _).mono ?_
  rintro e w2 ⟨rfl, rfl⟩
  go_wp2_with fail
  go_ret3
  exact ⟨rfl, hb1⟩

theorem coords_impl (col row : Nat) (s : ByteArray) (w : World) (h0 : 1 ≤ col) (h1 : col ≤ 16384) (r0 : 1 ≤ row) (r1 : row ≤ 1048576) (hs : s.data.toList = cellL col row) :
    Calls Tryz.prog 10 #[.string s] w fun e w' => e = .returned (.tuple #[.int .i64 col, .int .i64 row, .bool true]) ∧ Below w.heap.size w w' := by
  have C1 := Lib.hid (fun W => coords_any col row s W h0 h1 r0 r1 hs)
  clear hs
  go_enter Tryz.func10, Tryz.ntmps10
  go_wp2_with fail
  refine (C1.out _).mono ?_
  rintro e w1 ⟨rfl, hb1⟩
  go_wp2_with fail
  go_quiet (fail)
  go_wp2_with fail
  go_ret3
  exact ⟨rfl, bdrewN hb1 _⟩

end Go.Proofs.YtafdhmpikkfepaaGreatDoor
