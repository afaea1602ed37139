/- The decoder as it is made. Conditions: those written at each lemma. -/
import Derived.Test.YtkkplbfbhmlnoaaDoorQc
import Derived.Test.YtkkplbfbhmlnoaaDoorDa
namespace Go.Proofs.YtkkplbfbhmlnoaaDoor
open Go.RowKit

theorem f0_small (r k : Nat) (h1 : 4 ≤ k) (h2 : k < 4100) : f0 r k = .int .u8 0 := by
  unfold f0
  rw [if_neg (by omega), if_neg (by omega), if_neg (by omega), if_pos h2]
theorem f0_quant (r k : Nat) (h1 : 8636 ≤ k) (h2 : k < 8892) : f0 r k = .int .i32 0 := by
  unfold f0
  rw [if_neg (by omega), if_neg (by omega), if_neg (by omega), if_neg (by omega), if_neg (by omega), if_neg (by omega), if_neg (by omega), if_pos h2]

theorem src_new {w W : World} {a1 a2 : Addr} (hG : Glob w a1 a2) {base : Option Addr} {l : List UInt8} {cap : Nat} (hc : l.length ≤ cap) (hm : cap ≤ 9223372036854775807) (hb : Bytes w (fun k => k < w.heap.size) base l) (C : Chg (fun _ => False) w W) {b r : Nat} (hbw : w.heap.size ≤ b) (hrw : w.heap.size ≤ r) (hne : r ≠ b)
    (B : Blk W b 9020 (f0 r)) (R : Blk W r 3 (rdF (.slice base l.length cap) 0 (.int .i64 (-1)))) : Src W b r a1 a2 (f0 r) base cap l l := by
  have := hG.lt
  refine ⟨0, 0, 0, fun _ => 0, ⟨hG.chg C (fun _ _ h => h), B, by omega, by omega, hne, rfl, rfl, rfl, Nat.le_refl _, by decide, fun k hk => f0_small r _ (by omega) (by omega), ⟨_, R⟩, Nat.zero_le _, hc, hm, (hb.chg C (fun _ _ h => h)).mono (fun k hk => ⟨by omega, by omega⟩)⟩, ?_⟩
  simp [bufd]

end Go.Proofs.YtkkplbfbhmlnoaaDoor
