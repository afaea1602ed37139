/- The decoder behind draws and stores. No conditions beyond those written at each lemma. -/
import Derived.Test.YtkkplbfbhmlnoaaDoorQb
import Derived.Test.YtkkplbfbhmlnoaaDoorRg
import Derived.Deep.Cut
namespace Go.Proofs.YtkkplbfbhmlnoaaDoor
open Go.RowKit

theorem Mid.refl {w : World} {b r : Nat} {g F : Nat → Value} (hb : Blk w b 9020 F) (hr : Blk w r 3 g) : Mid w b r g F w := ⟨hb, hr, Chg.refl _ w⟩

theorem Src.drewN {w : World} {b r : Nat} {a1 a2 : Addr} {f : Nat → Value} {base : Option Addr} {cap : Nat} {data rest : List UInt8} (h : Src w b r a1 a2 f base cap data rest) (n : Nat) : Src (w.drewN n) b r a1 a2 f base cap data rest := by
  obtain ⟨i, j, p, bs, S, hr⟩ := h
  exact ⟨i, j, p, bs, S.drewN n, hr⟩
/-- A store behind the buffer's counters. -/
theorem Src.set {w : World} {b r : Nat} {a1 a2 : Addr} {f : Nat → Value} {base : Option Addr} {cap : Nat} {data rest : List UInt8} (h : Src w b r a1 a2 f base cap data rest) {k : Nat} (hk : (1 ≤ k ∧ k < 4) ∨ 4102 ≤ k) (hk2 : k < 9020) (v : Value) :
    Src (w.setCell ⟨b, k, none⟩ v) b r a1 a2 (upd f k v) base cap data rest := by
  obtain ⟨i, j, p, bs, S, hr⟩ := h
  obtain ⟨q, M⟩ := S.mid
  exact ⟨i, j, p, bs, S.of (M.set S.ne hk2 v) i (upd_ne _ _ _ _ (by omega)) (by rw [upd_ne _ _ _ _ (by omega)]; exact S.hi) (by rw [upd_ne _ _ _ _ (by omega)]; exact S.hj) S.ij (fun c hc => upd_ne _ _ _ _ (by omega)), hr⟩
theorem Src.blk {w : World} {b r : Nat} {a1 a2 : Addr} {f : Nat → Value} {base : Option Addr} {cap : Nat} {data rest : List UInt8} (h : Src w b r a1 a2 f base cap data rest) : Blk w b 9020 f := by
  obtain ⟨i, j, p, bs, S, hr⟩ := h
  exact S.blk

end Go.Proofs.YtkkplbfbhmlnoaaDoor
