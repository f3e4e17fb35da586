/-
  (net/netip.Addr).As16 (9).
-/
import Derived.Test.YbulkayawDoorNet
namespace Go.Proofs.YbulkayawDoor
open Go.RowKit

set_option maxRecDepth 100000 in
set_option maxHeartbeats 1000000 in
theorem as16 (b : Int) (z : Option Addr) (hb0 : 0 ≤ b) (hb1 : b < 18446744073709551616) (w : World) :
    Calls Ybad.prog 9 #[.agg #[.int .u64 0, .int .u64 b, .pointer z]] w fun e w' => (∃ y0 y1 y2 y3 y4 y5 y6 y7 y8 y9 y10 y11 : Int, e = .returned (.agg #[.int .u8 y0, .int .u8 y1, .int .u8 y2, .int .u8 y3, .int .u8 y4, .int .u8 y5, .int .u8 y6, .int .u8 y7, .int .u8 y8, .int .u8 y9, .int .u8 y10, .int .u8 y11, .int .u8 (b / 16777216 % 256), .int .u8 (b / 65536 % 256), .int .u8 (b / 256 % 256), .int .u8 (b % 256)])) ∧ Below w.heap.size w w' := by
  go_enter Ybad.func9, Ybad.ntmps9
  go_wp2
  go_region_with (first | (go_at_call 14; refine (put64B (w.heap.size + 1) 0 16 0 _ 113 _ (by decide) (by decide) (heap_second w _ _) (by decide)).mono ?_; rintro e w1 ⟨rfl, rfl⟩))
  go_wp2
  go_region_with (first | (go_at_call 14; refine (put64B (w.heap.size + 1) 8 8 b _ 113 _ hb0 hb1 (heap_second2 w _ _) (by decide)).mono ?_; rintro e w1 ⟨rfl, rfl⟩))
  go_wp2
  refine bodyPost_ret (v := .agg #[.int .u8 0, .int .u8 0, .int .u8 0, .int .u8 0, .int .u8 0, .int .u8 0, .int .u8 0, .int .u8 0, .int .u8 (b / 72057594037927936), .int .u8 (b / 281474976710656 % 256), .int .u8 (b / 1099511627776 % 256), .int .u8 (b / 4294967296 % 256), .int .u8 (b / 16777216 % 256), .int .u8 (b / 65536 % 256), .int .u8 (b / 256 % 256), .int .u8 (b % 256)]) (by simp [results, Ybad.results9, go_sem]) rfl ⟨⟨_, _, _, _, _, _, _, _, _, _, _, _, rfl⟩, ?_⟩
  exact (((Below.refl _ w).alloc (Nat.le_refl _) _).alloc (by simp) _).drew.drew
end Go.Proofs.YbulkayawDoor
