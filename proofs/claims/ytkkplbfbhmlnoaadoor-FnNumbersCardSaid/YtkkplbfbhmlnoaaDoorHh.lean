/- laws.reads returns true. Condition: the three variables are laid. -/
import Derived.Test.YtkkplbfbhmlnoaaDoorHg
import Derived.Test.YtkkplbfbhmlnoaaDoorLb
import Derived.Laws.IdiomStrings
namespace Go.Proofs.YtkkplbfbhmlnoaaDoor
open Go.RowKit

def ISymPost (w : World) (e : Ending) (w' : World) : Prop :=
  Chg (fun _ => False) w w' ∧ ∃ g c, e = .returned (.tuple #[.slice (some ⟨g, 0, none⟩) 2 c, .int .i64 0]) ∧ w'.cell? ⟨g, 0, none⟩ = some (.int .u8 7) ∧ w'.cell? ⟨g, 1, none⟩ = some (.int .u8 7)

set_option maxRecDepth 100000 in
set_option maxHeartbeats 4000000 in
theorem implSymReads (a1 a2 : Addr) (base : Option Addr) (cap : Nat) (cb : Option Addr) (cc : Nat) (w : World) (hG : Glob w a1 a2) (hc : 18 ≤ cap) (hm : cap ≤ 4611686018427387904) (hb : Bytes w (fun k => k < w.heap.size) base T18) (hcc : 1 ≤ cc) (hcm : cc ≤ 4611686018427387904) (hcb : Bytes w (fun k => k < w.heap.size) cb [63]) :
    Calls Tryd.prog 14 #[.slice base 18 cap, .int .i64 0, .int .i64 0, .slice cb 1 cc, .int .i64 2] w (ISymPost w) := by
  have Z := Lib.hid (zzSymReads a1 a2 base cap cb cc w hG hc hm hb hcc hcm hcb)
  clear hG hc hm hb hcc hcm hcb
  go_enter Tryd.func14, Tryd.ntmps14
  go_wp2_with fail
  refine Z.out.mono ?_
  rintro e w1 ⟨B, _, hC, v, hown, rfl⟩
  have HC := Lib.hid (code_nil w1)
  have H1 := Lib.hid (And.intro hC hown)
  clear hC hown Z
  go_wp2_with fail
  refine HC.out.mono ?_
  rintro e w2 ⟨rfl, hC2⟩
  obtain ⟨b2, c2, rfl, hc2, hl2, hcell⟩ := owns_slice (owns_chg H1.out.2 hC2 (fun _ _ h => h))
  obtain ⟨g, rfl, k0⟩ := hcell 0 (.int .u8 7) rfl
  obtain ⟨g', hg', k1⟩ := hcell 1 (.int .u8 7) rfl
  have eg : g = g' := by simpa using hg'
  subst eg
  have FIN : Hid (ISymPost w (.returned (.tuple #[.slice (some ⟨g, 0, none⟩) 2 c2, .int .i64 0])) w2) := ⟨H1.out.1.trans hC2, g, c2, rfl, k0, k1⟩
  clear hC2 HC hcell k0 k1 hg' hl2 hc2
  go_wp2_with fail
  go_ret2
  exact FIN.out

def zU8 : Nat → Value := fun _ => .int .u8 0
theorem run_make18 (w : World) : (Instr.makeSlice 22 (.int .i64 18) (.int .i64 18)).run Tryd.prog w = .ok (.slice (some ⟨w.heap.size, 0, none⟩) 18 18) (w.alloc (.cells (arr 18 zU8) 5)) := by kernel_rfl
theorem t18_cells (k : Nat) (hk : k < T18.length) : (((arr 18 zU8).setIfInBounds 1 (.int .u8 1)).setIfInBounds 17 (.int .u8 7))[k]? = some (.int .u8 (T18[k].toNat : Int)) := by
  have h : k < 18 := hk
  match k, h with
  | 0, _ | 1, _ | 2, _ | 3, _ | 4, _ | 5, _ | 6, _ | 7, _ | 8, _ | 9, _ | 10, _ | 11, _ | 12, _ | 13, _ | 14, _ | 15, _ | 16, _ | 17, _ => rfl
  | k + 18, h => exact absurd h (by omega)
theorem und22_5 : Tryd.prog.underlying 22 = some (.slice 5) := Tryd.underlying22

set_option maxRecDepth 100000 in
set_option maxHeartbeats 4000000 in
theorem reads_true (a1 a2 : Addr) (w : World) (hG : Glob w a1 a2) : Calls Tryd.prog 16 #[] w (LawPost w) := by
  have HG := Lib.hid hG
  clear hG
  have mk : ∀ W, (Instr.makeSlice 22 (.int .i64 18) (.int .i64 18)).run Tryd.prog W = .ok (.slice (some ⟨W.heap.size, 0, none⟩) 18 18) (W.alloc (.cells (arr 18 zU8) 5)) := run_make18
  go_enter Tryd.func16, Tryd.ntmps16
  go_wp2_with fail
  have W0 : Hid (Calls Tryd.prog 14 #[.slice (some ⟨w.heap.size, 0, none⟩) 18 18, .int .i64 0, .int .i64 0, .slice (some ⟨w.heap.size + 1, 0, none⟩) 1 1, .int .i64 2] ((w.alloc (.cells (((arr 18 zU8).setIfInBounds 1 (.int .u8 1)).setIfInBounds 17 (.int .u8 7)) 5)).alloc (.cells #[.int .u8 63] 5)) (ISymPost ((w.alloc (.cells (((arr 18 zU8).setIfInBounds 1 (.int .u8 1)).setIfInBounds 17 (.int .u8 7)) 5)).alloc (.cells #[.int .u8 63] 5)))) := by
    refine implSymReads a1 a2 _ 18 _ 1 _ (HG.out.chg (((Chg.refl (fun _ => False) w).alloc _).alloc _) (fun _ _ h => h)) (by decide) (by decide) ?_ (by decide) (by decide) ?_
    · refine .inr ⟨w.heap.size, 0, rfl, by simp only [World.size_alloc]; omega, by simp only [World.size_alloc]; omega, fun k hk => ?_⟩
      rw [Nat.zero_add, World.cell?_alloc_lt _ _ ⟨w.heap.size, k, none⟩ (by simp only [World.size_alloc]; omega), World.cell?_alloc_new]
      exact t18_cells k hk
    · refine .inr ⟨w.heap.size + 1, 0, rfl, by simp only [World.size_alloc]; omega, by simp only [World.size_alloc]; omega, fun k hk => ?_⟩
      have hk0 : k = 0 := by simp at hk; exact hk
      subst hk0
      have := World.cell?_alloc_new (w.alloc (.cells (((arr 18 zU8).setIfInBounds 1 (.int .u8 1)).setIfInBounds 17 (.int .u8 7)) 5)) #[.int .u8 63] 5 0
      rw [World.size_alloc] at this
      rw [this]
      rfl
  refine W0.out.mono ?_
  rintro e w2 ⟨hC, g, c, rfl, k0, k1⟩
  have CW : Hid (Chg (fun _ => False) w w2) := (((Chg.refl (fun _ => False) w).alloc _).alloc _).trans hC
  have cv : (convert 22 9 (.slice (some ⟨g, 0, none⟩) 2 c)).run Tryd.prog w2 = .ok (.string ⟨#[7, 7]⟩) w2 := by
    have := run_convert_bytes_back (P := Tryd.prog) w2 22 9 5 ⟨g, 0, none⟩ c [7, 7] und22_5 Tryd.underlying5 Tryd.underlying9 (fun j hj => by
      have hj' : j < 2 := hj
      match j, hj' with
      | 0, _ => exact k0
      | 1, _ => exact k1
      | j + 2, h => exact absurd h (by omega))
    exact this
  clear W0 hC k0 k1 mk
  go_wp2_with fail
  go_ret
  exact ⟨rfl, CW.out⟩
end Go.Proofs.YtkkplbfbhmlnoaaDoor
