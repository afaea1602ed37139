/- What the parameters of a DQT segment define: a function on lists of bytes. No conditions. -/
import Derived.Test.YtkkplbfbhmlnoaaDoorLa
import Derived.Laws.BitsLemmas
import Derived.IntWalk
namespace Go.Proofs.YtkkplbfbhmlnoaaDoor
open Go

theorem i64_small (n : Int) (h0 : 0 ≤ n) (h1 : n < 2 ^ 62) : IntKind.i64.wrap n = n := by
  rw [IntKind.wrap_i64]; omega
theorem i32_small (n : Int) (h0 : 0 ≤ n) (h1 : n < 2 ^ 30) : IntKind.i32.wrap n = n := by
  rw [IntKind.wrap_i32]; omega
theorem or64_byte (v u : Nat) (hv : v < 256) (hu : u < 256) : bits .or .i64 ((v : Int) * 256) (u : Int) = (v : Int) * 256 + (u : Int) :=
  bits_join .i64 62 (by decide) i64_small 8 _ _ (by omega) (by omega) (by omega) (by omega) (by omega) (by omega)
theorem or32_byte (v u : Nat) (hv : v < 256) (hu : u < 256) : bits .or .i32 ((v : Int) * 256) (u : Int) = (v : Int) * 256 + (u : Int) :=
  bits_join .i32 30 (by decide) i32_small 8 _ _ (by omega) (by omega) (by omega) (by omega) (by omega) (by omega)

/-- One table of a segment, laid into the tables. -/
def qSet (T : Nat → Nat → Nat) (x : UInt8) (xs : List UInt8) : Nat → Nat → Nat := fun i k =>
  if i = x.toNat % 16 then (if x.toNat / 16 = 0 then (xs.getD k 0).toNat else (xs.getD (2 * k) 0).toNat * 256 + (xs.getD (2 * k + 1) 0).toNat) else T i k

/-- The tables of a segment, and how it ends: 0: well; 1: ill; 2: with the first byte of a table. -/
def qRun : Nat → (Nat → Nat → Nat) → List UInt8 → (Nat → Nat → Nat) × Nat
  | 0, T, _ => (T, 0)
  | _ + 1, T, [] => (T, 0)
  | k + 1, T, x :: xs =>
    if 1 < x.toNat / 16 ∨ 3 < x.toNat % 16 then (T, 1)
    else if xs.length < 64 * (x.toNat / 16 + 1) then (T, if xs.length = 0 then 2 else 1)
    else qRun k (qSet T x xs) (xs.drop (64 * (x.toNat / 16 + 1)))

theorem qRun_bad (k : Nat) (T : Nat → Nat → Nat) (x : UInt8) (xs : List UInt8) (h : 1 < x.toNat / 16 ∨ 3 < x.toNat % 16) : qRun (k + 1) T (x :: xs) = (T, 1) := by
  simp only [qRun]; rw [if_pos h]
theorem qRun_short (k : Nat) (T : Nat → Nat → Nat) (x : UInt8) (xs : List UInt8) (h1 : x.toNat / 16 ≤ 1) (h2 : x.toNat % 16 ≤ 3) (h : xs.length < 64 * (x.toNat / 16 + 1)) : qRun (k + 1) T (x :: xs) = (T, if xs.length = 0 then 2 else 1) := by
  simp only [qRun]; rw [if_neg (by omega), if_pos h]
theorem qRun_next (k : Nat) (T : Nat → Nat → Nat) (x : UInt8) (xs : List UInt8) (h1 : x.toNat / 16 ≤ 1) (h2 : x.toNat % 16 ≤ 3) (h : 64 * (x.toNat / 16 + 1) ≤ xs.length) : qRun (k + 1) T (x :: xs) = qRun k (qSet T x xs) (xs.drop (64 * (x.toNat / 16 + 1))) := by
  simp only [qRun]; rw [if_neg (by omega), if_neg (by omega)]
end Go.Proofs.YtkkplbfbhmlnoaaDoor
