/- ZZSymbols and impl.Symbols on a segment of Huffman tables that is not formed: no symbols, and a FormatError. Conditions: the segment is a slice of bytes; the three variables are laid. -/
import Derived.Test.YtkkplbfbhmlnoaaDoorHd
import Derived.Test.YtkkplbfbhmlnoaaDoorEd
import Derived.Test.YtkkplbfbhmlnoaaDoorLf
namespace Go.Proofs.YtkkplbfbhmlnoaaDoor
open Go.RowKit

/-- The world in which the decoder has just been made. -/
theorem sym_start {w w1 : World} {a1 a2 : Addr} {g : Nat} (hG : Glob w a1 a2) {base : Option Addr} {l : List UInt8} {cap : Nat} (hc : l.length ≤ cap) (hm : cap ≤ 4611686018427387904) (hb : Bytes w (fun k => k < w.heap.size) base l) (hg : w.heap.size = g)
    (hw1 : w.alloc (.cells #[.slice base l.length cap, .int .i64 0, .int .i64 (-1)] 138) = w1) :
    w1.heap.size = g + 1 ∧ Chg (fun _ => False) w (w1.alloc (.cells (arr 9020 (f0 g)) 101)) ∧ Src (w1.alloc (.cells (arr 9020 (f0 g)) 101)) (g + 1) g a1 a2 (f0 g) base cap l l := by
  have S1 : w1.heap.size = g + 1 := by rw [← hw1, World.size_alloc, hg]
  have R1 : Blk w1 g 3 (rdF (.slice base l.length cap) 0 (.int .i64 (-1))) := by
    rw [← hw1]
    have := Blk.ofNew w #[.slice base l.length cap, .int .i64 0, .int .i64 (-1)] 138 3 (rdF (.slice base l.length cap) 0 (.int .i64 (-1))) (fun k hk => by
      match k, hk with
      | 0, _ => rfl
      | 1, _ => rfl
      | 2, _ => rfl)
    rwa [hg] at this
  have C1 : Chg (fun _ => False) w w1 := by rw [← hw1]; exact (Chg.refl _ w).alloc _
  refine ⟨S1, C1.alloc _, src_new hG hc hm hb (C1.alloc (.cells (arr 9020 (f0 g)) 101)) (b := g + 1) (r := g) (by omega) (by omega) (by omega) ?_ (R1.alloc _)⟩
  rw [← S1]
  exact Blk.ofNew w1 _ 101 9020 _ (fun k hk => arr_get _ _ _ hk)

def SBadPost (w : World) (e : Ending) (w' : World) : Prop := Chg (fun _ => False) w w' ∧ ∃ s, e = .returned (.tuple #[.slice none 0 0, .iface 103 (.string s)])

set_option maxRecDepth 100000 in
set_option maxHeartbeats 4000000 in
theorem zzSymBad (a1 a2 : Addr) (base : Option Addr) (cap : Nat) (l : List UInt8) (c n k : Int) (sv : Value) (w : World) (hG : Glob w a1 a2) (hc : l.length ≤ cap) (hm : cap ≤ 4611686018427387904) (hb : Bytes w (fun k => k < w.heap.size) base l) (hR : hRun (l.length + 1) l = false) :
    Calls Tryd.prog 25 #[.slice base l.length cap, .int .i64 c, .int .i64 n, sv, .int .i64 k] w (SBadPost w) := by
  have HIN := Lib.hid (And.intro hG (And.intro hc (And.intro hm (And.intro hb hR))))
  obtain ⟨g, hg⟩ : ∃ g, w.heap.size = g := ⟨_, rfl⟩
  clear hG hc hm hb hR
  go_enter Tryd.func25, Tryd.ntmps25
  go_wp2_with fail
  refine (newReader _ _ _ _).mono ?_
  rintro e w1 ⟨rfl, hw1⟩
  obtain ⟨S1, C1, S⟩ := sym_start HIN.out.1 HIN.out.2.1 HIN.out.2.2.1 HIN.out.2.2.2.1 hg hw1
  have D := Lib.hid (dht_any (g + 1) g a1 a2 _ (f0 g) base cap l l S (by rfl) (by rfl))
  have HC := Lib.hid C1
  rw [HIN.out.2.2.2.2] at D
  rw [hg]
  clear hw1 C1 S
  go_wp2_with (first | (refine wpList_build rfl (.tmp 20) rfl _ rfl ?_) | (refine wpList_box rfl (.tmp 21) rfl _ rfl ?_))
  refine D.out.mono ?_
  clear D
  rintro e w3 ⟨hC3, ⟨h, _⟩ | ⟨_, s, rfl⟩⟩
  · cases h
  · have FIN : Hid (SBadPost w (.returned (.tuple #[.slice none 0 0, .iface 103 (.string s)])) w3) := ⟨HC.out.transNew hC3 (fun i hi h => by rcases h with h | h <;> omega), s, rfl⟩
    clear hC3 HC
    go_wp2_with fail
    go_ret2
    exact FIN.out

set_option maxRecDepth 100000 in
set_option maxHeartbeats 4000000 in
theorem symBad (a1 a2 : Addr) (base : Option Addr) (cap : Nat) (l : List UInt8) (c n k : Int) (sv : Value) (w : World) (hG : Glob w a1 a2) (hc : l.length ≤ cap) (hm : cap ≤ 4611686018427387904) (hb : Bytes w (fun k => k < w.heap.size) base l) (hR : hRun (l.length + 1) l = false) :
    Calls Tryd.prog 14 #[.slice base l.length cap, .int .i64 c, .int .i64 n, sv, .int .i64 k] w (fun e w' => e = .returned (.tuple #[.slice none 0 0, .int .i64 1]) ∧ Chg (fun _ => False) w w') := by
  have Z := Lib.hid (zzSymBad a1 a2 base cap l c n k sv w hG hc hm hb hR)
  have HG := Lib.hid hG
  clear hG hc hm hb hR
  go_enter Tryd.func14, Tryd.ntmps14
  go_wp2_with fail
  refine Z.out.mono ?_
  rintro e w1 ⟨hC, s, rfl⟩
  have HC := Lib.hid (code_format s w1 (HG.out.chg hC (fun _ _ h => h)).g0)
  have H1 := Lib.hid hC
  clear hC Z
  go_wp2_with fail
  refine HC.out.mono ?_
  rintro e w2 ⟨rfl, hC2⟩
  have FIN := Lib.hid (H1.out.trans hC2)
  clear hC2 HC
  go_wp2_with fail
  go_ret2
  exact ⟨rfl, FIN.out⟩

theorem lawBad (a1 a2 : Addr) (base : Option Addr) (cap : Nat) (l : List UInt8) (c n : Int) (cb : Option Addr) (cl cc : Nat) (w : World) (hG : Glob w a1 a2) (hc : l.length ≤ cap) (hm : cap ≤ 4611686018427387904) (hb : Bytes w (fun k => k < w.heap.size) base l) (hcc : cl ≤ cc) (hcm : cc ≤ 4611686018427387904) :
    Calls Tryd.prog 5 #[.slice base l.length cap, .int .i64 c, .int .i64 n, .slice cb cl cc] w (LawPost w) :=
  lawBad_any base cap l c n cb cl cc w hc hm hb hcc hcm (fun hR _ _ _ _ => symBad a1 a2 base cap l c n 1 _ w hG hc hm hb hR)
end Go.Proofs.YtkkplbfbhmlnoaaDoor
