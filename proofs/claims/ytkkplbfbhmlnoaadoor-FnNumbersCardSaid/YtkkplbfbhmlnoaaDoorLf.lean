/- laws.FnBadTables: true of every argument, where impl.Symbols refuses a segment that is not formed. Conditions: the slices are slices of bytes; the three variables are laid; what impl.Symbols returns is a hypothesis. -/
import Derived.Test.YtkkplbfbhmlnoaaDoorHa
import Derived.Test.YtkkplbfbhmlnoaaDoorQf
namespace Go.Proofs.YtkkplbfbhmlnoaaDoor
open Go.RowKit

set_option maxRecDepth 100000 in
set_option maxHeartbeats 4000000 in
theorem lawBad_any (base : Option Addr) (cap : Nat) (l : List UInt8) (c n : Int) (cb : Option Addr) (cl cc : Nat) (w : World) (hc : l.length ≤ cap) (hm : cap ≤ 4611686018427387904) (hb : Bytes w (fun k => k < w.heap.size) base l) (hcc : cl ≤ cc) (hcm : cc ≤ 4611686018427387904)
    (hsym : hRun (l.length + 1) l = false → 0 ≤ c → c ≤ 1 → 0 ≤ n → n ≤ 3 → Calls Tryd.prog 14 #[.slice base l.length cap, .int .i64 c, .int .i64 n, .slice cb cl cc, .int .i64 1] w (fun e w' => e = .returned (.tuple #[.slice none 0 0, .int .i64 1]) ∧ Chg (fun _ => False) w w')) :
    Calls Tryd.prog 5 #[.slice base l.length cap, .int .i64 c, .int .i64 n, .slice cb cl cc] w (LawPost w) := by
  have FO := Lib.hid (formed_any base cap l w hc hm hb)
  have HS := Lib.hid hsym
  have TRUE : Hid (LawPost w (.returned (.bool true)) w) := ⟨rfl, Chg.refl _ w⟩
  generalize hRun (l.length + 1) l = R at *
  have hli0 : (l.length : Int) ≤ 4611686018427387904 := by omega
  have hci0 : (cl : Int) ≤ 4611686018427387904 := by omega
  clear hb hsym hc hm hcc hcm
  go_enter Tryd.func5, Tryd.ntmps5
  by_cases hl1 : 2147483647 < l.length
  · have d1 : decide (2147483647 < (l.length : Int)) = true := by simp; omega
    clear hl1
    go_wp2_with fail
    go_ret
    exact TRUE.out
  have d1 : decide (2147483647 < (l.length : Int)) = false := by simp; omega
  by_cases hl2 : 2147483647 < cl
  · have d2 : decide (2147483647 < (cl : Int)) = true := by simp; omega
    clear hl1 hl2
    go_wp2_with fail
    go_ret
    exact TRUE.out
  have d2 : decide (2147483647 < (cl : Int)) = false := by simp; omega
  clear hl1 hl2
  go_wp2_with fail
  refine FO.out.mono ?_
  rintro e w1 ⟨rfl, rfl⟩
  cases R
  · by_cases h1 : c < 0
    · have q1 : decide (c < 0) = true := by simp; omega
      clear h1
      go_wp2_with fail
      go_ret
      exact TRUE.out
    have q1 : decide (c < 0) = false := by simp; omega
    by_cases h2 : 1 < c
    · have q2 : decide (1 < c) = true := by simp; omega
      clear h1 h2
      go_wp2_with fail
      go_ret
      exact TRUE.out
    have q2 : decide (1 < c) = false := by simp; omega
    by_cases h3 : n < 0
    · have q3 : decide (n < 0) = true := by simp; omega
      clear h1 h2 h3
      go_wp2_with fail
      go_ret
      exact TRUE.out
    have q3 : decide (n < 0) = false := by simp; omega
    by_cases h4 : 3 < n
    · have q4 : decide (3 < n) = true := by simp; omega
      clear h1 h2 h3 h4
      go_wp2_with fail
      go_ret
      exact TRUE.out
    have q4 : decide (3 < n) = false := by simp; omega
    have SY := Lib.hid (HS.out rfl (by omega) (by omega) (by omega) (by omega))
    clear h1 h2 h3 h4 HS
    go_wp2_with fail
    refine SY.out.mono ?_
    rintro e w2 ⟨rfl, hC⟩
    have FIN : Hid (LawPost w (.returned (.bool true)) w2) := ⟨rfl, hC⟩
    clear hC
    go_wp2_with fail
    go_ret
    exact FIN.out
  · go_wp2_with fail
    go_ret
    exact TRUE.out
end Go.Proofs.YtkkplbfbhmlnoaaDoor
