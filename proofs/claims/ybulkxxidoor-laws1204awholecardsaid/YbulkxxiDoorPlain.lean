/-
  plainBytes, with (encoding/binary.littleEndian).Uint64 and math/bits.TrailingZeros64.
-/
import Derived.Test.YbulkxxiDoorNum
import Derived.Test.YbulkxxiDoorBits
import Derived.Shelf.Spec.TrailingZeros
import Derived.Lib.EndianBits
import Derived.Deep.RegionWith
import Derived.Deep.Cut
import Derived.Deep.CutRange
import Derived.Deep.Draws
namespace Go.Proofs.YbulkxxiDoor
open Go.RowKit

theorem cellAlloc {W : World} {a : Addr} {v : Value} (o : Obj) (h : W.cell? a = some v) : (W.alloc o).cell? a = some v := by
  rw [World.cell?_alloc_old _ _ _ (Nat.ne_of_lt (World.block_lt_of_cell? _ _ h))]; exact h

def le8 (b0 b1 b2 b3 b4 b5 b6 b7 : Nat) : Nat := b0 + b1 * 256 + b2 * 65536 + b3 * 16777216 + b4 * 4294967296 + b5 * 1099511627776 + b6 * 281474976710656 + b7 * 72057594037927936

set_option maxHeartbeats 8000000 in
set_option maxRecDepth 100000 in
theorem le64_any (g o n c b0 b1 b2 b3 b4 b5 b6 b7 : Nat) (w : World) (hn : 8 ≤ n) (h0 : b0 < 256) (h1 : b1 < 256) (h2 : b2 < 256) (h3 : b3 < 256) (h4 : b4 < 256) (h5 : b5 < 256) (h6 : b6 < 256) (h7 : b7 < 256)
    (c0 : w.cell? ⟨g, o, none⟩ = some (.int .u8 b0)) (c1 : w.cell? ⟨g, o + 1, none⟩ = some (.int .u8 b1)) (c2 : w.cell? ⟨g, o + 2, none⟩ = some (.int .u8 b2)) (c3 : w.cell? ⟨g, o + 3, none⟩ = some (.int .u8 b3)) (c4 : w.cell? ⟨g, o + 4, none⟩ = some (.int .u8 b4)) (c5 : w.cell? ⟨g, o + 5, none⟩ = some (.int .u8 b5)) (c6 : w.cell? ⟨g, o + 6, none⟩ = some (.int .u8 b6)) (c7 : w.cell? ⟨g, o + 7, none⟩ = some (.int .u8 b7)) :
    Calls Ybad.prog 15 #[.agg #[], .slice (some ⟨g, o, none⟩) n c] w fun e w' => e = .returned (.int .u64 (le8 b0 b1 b2 b3 b4 b5 b6 b7)) ∧ Below w.heap.size w w' := by
  have d0 := cellAlloc (.cells #[] 45) c0
  have d1 := cellAlloc (.cells #[] 45) c1
  have d2 := cellAlloc (.cells #[] 45) c2
  have d3 := cellAlloc (.cells #[] 45) c3
  have d4 := cellAlloc (.cells #[] 45) c4
  have d5 := cellAlloc (.cells #[] 45) c5
  have d6 := cellAlloc (.cells #[] 45) c6
  have d7 := cellAlloc (.cells #[] 45) c7
  have hv : ((le8 b0 b1 b2 b3 b4 b5 b6 b7 : Nat) : Int) = (b0 : Int) + (b1 : Int) * 256 + (b2 : Int) * 65536 + (b3 : Int) * 16777216 + (b4 : Int) * 4294967296 + (b5 : Int) * 1099511627776 + (b6 : Int) * 281474976710656 + (b7 : Int) * 72057594037927936 := by
    unfold le8
    omega
  have HV : Hid (((le8 b0 b1 b2 b3 b4 b5 b6 b7 : Nat) : Int) = (b0 : Int) + (b1 : Int) * 256 + (b2 : Int) * 65536 + (b3 : Int) * 16777216 + (b4 : Int) * 4294967296 + (b5 : Int) * 1099511627776 + (b6 : Int) * 281474976710656 + (b7 : Int) * 72057594037927936) := hv
  clear hv
  have q0 : 0 < n := by omega
  have q1 : (1 : Int) < (n : Int) := by omega
  have q2 : (2 : Int) < (n : Int) := by omega
  have q3 : (3 : Int) < (n : Int) := by omega
  have q4 : (4 : Int) < (n : Int) := by omega
  have q5 : (5 : Int) < (n : Int) := by omega
  have q6 : (6 : Int) < (n : Int) := by omega
  have q7 : (7 : Int) < (n : Int) := by omega
  go_enter Ybad.func15, Ybad.ntmps15
  go_wp2
  go_quiet (fail)
  go_wp2
  go_ret
  refine ⟨?_, below_drewN ((Below.refl _ w).alloc (Nat.le_refl _) _) _⟩
  simp (disch := omega) only [u64_or8, u64_or16, u64_or24, u64_or32, u64_or40, u64_or48, u64_or56]
  rw [HV.out]
  rfl

set_option maxHeartbeats 1000000 in
theorem tz_core (x k idx : Nat) (w : World) (hx0 : ((x : Int) == 0) = false)
    (key : IntKind.u64.wrap (bits BinOp.and IntKind.u64 (x : Int) (IntKind.u64.wrap (-(x : Int))) * 285870213051353865) / 288230376151711744 = (idx : Int))
    (hi : idx < 64) (hk : k < 64) (hcell : w.cell? ⟨2, idx, none⟩ = some (.int .u8 k)) :
    Calls Ybad.prog 16 #[.int .u64 x] w fun e w' => e = .returned (.int .i64 k) ∧ w' = w := by
  go_enter Ybad.func16, Ybad.ntmps16
  go_wp2_with (simp only [key])
  go_ret
  exact ⟨rfl, rfl⟩

def Tab (w : World) : Prop := ∀ j, j < 64 → w.cell? ⟨2, j, none⟩ = some (.int .u8 (Lib.deBruijn64tab.getD j 0))

theorem tz_any (x : Nat) (hx : x < 18446744073709551616) (hx0 : x ≠ 0) (w : World) (hT : Tab w) :
    Calls Ybad.prog 16 #[.int .u64 x] w fun e w' => e = .returned (.int .i64 (Lib.ctz 64 x)) ∧ w' = w := by
  obtain ⟨hlow, hk⟩ := Lib.lowest_bit 64 x hx0 hx
  obtain ⟨hi, htab⟩ := Lib.deBruijn64_at _ hk
  have hcell := hT _ hi
  rw [htab] at hcell
  exact tz_core x _ _ w (by simp; omega) (tz64_key x _ hx hx0 hlow) hi hk hcell

end Go.Proofs.YbulkxxiDoor
