/- impl.Bits: the numbers that it returns, and the code. Conditions: those of ZZBits. -/
import Derived.Test.YtkkplbfbhmlnoaaDoorZb
import Derived.Test.YtkkplbfbhmlnoaaDoorEd
namespace Go.Proofs.YtkkplbfbhmlnoaaDoor
open Go.RowKit

def IBitsPost (w : World) (R : List Nat × Bool) (e : Ending) (w' : World) : Prop :=
  Chg (fun _ => False) w w' ∧ ∃ v, w'.ownsRow (w.heap.size + 2) 36 1 v R.1.length (R.1.map fun n : Nat => .int .u32 (n : Int)) ∧ e = .returned (.tuple #[v, .int .i64 (if R.2 = true then 0 else 1)])

set_option maxRecDepth 100000 in
set_option maxHeartbeats 4000000 in
theorem implBits_any (a1 a2 : Addr) (base : Option Addr) (cap : Nat) (data : List UInt8) (wb : Option Addr) (wc : Nat) (ns : List Nat) (w : World) (hG : Glob w a1 a2) (hc : data.length ≤ cap) (hm : cap ≤ 9223372036854775807) (hb : Bytes w (fun k => k < w.heap.size) base data)
    (hwc : ns.length ≤ wc) (hr : Row w (fun k => k < w.heap.size) .i32 wb ns) (hns : ∀ n ∈ ns, 1 ≤ n ∧ n ≤ 16) (hsz : ns.length ≤ 2147483647) :
    Calls Tryd.prog 11 #[.slice base data.length cap, .slice wb ns.length wc] w (IBitsPost w (bitsOf ns (strm data).1 (strm data).2)) := by
  have Z := Lib.hid (zzBits_any a1 a2 base cap data wb wc ns w hG hc hm hb hwc hr hns hsz)
  have HG := Lib.hid hG
  generalize bitsOf ns (strm data).1 (strm data).2 = R at *
  clear hG hc hm hb hwc hr hns hsz
  go_enter Tryd.func11, Tryd.ntmps11
  go_wp2_with fail
  refine Z.out.mono ?_
  rintro e w1 ⟨hC, v, er, hown, rfl, her⟩
  have HC : Hid (Calls Tryd.prog 20 #[er] w1 (fun e w' => e = .returned (.int .i64 (if R.2 = true then 0 else 1)) ∧ Chg (fun _ => False) w1 w')) := by
    rcases her with ⟨h1, rfl⟩ | ⟨h1, s, rfl⟩
    · rw [if_pos h1]; exact code_nil w1
    · rw [if_neg (by rw [h1]; decide)]; exact code_format s w1 (HG.out.chg hC (fun _ _ h => h)).g0
  have HO := Lib.hid (And.intro hC hown)
  obtain ⟨c, hcc⟩ : ∃ c : Int, (if R.2 = true then (0 : Int) else 1) = c := ⟨_, rfl⟩
  rw [hcc] at HC
  have CC := Lib.hid hcc
  clear hC hown her Z hcc
  go_wp2_with fail
  refine HC.out.mono ?_
  rintro e w2 ⟨rfl, hC2⟩
  have FIN : Hid (IBitsPost w R (.returned (.tuple #[v, .int .i64 c])) w2) := ⟨HO.out.1.trans hC2, v, owns_chg HO.out.2 hC2 (fun _ _ h => h), by rw [CC.out]⟩
  clear hC2 HO HC
  go_wp2_with fail
  go_ret2
  exact FIN.out
end Go.Proofs.YtkkplbfbhmlnoaaDoor
