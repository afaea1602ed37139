/- Codes that are written one behind the other, as bytes with stuffing, and read back: in plain Lean, no program in sight. Conditions: each code has no more bits than its length. -/
import Derived.Test.YtkkplbfbhmlnoaaDoorSc
import Derived.Test.YtkkplbfbhmlnoaaDoorNb
namespace Go.Proofs.YtkkplbfbhmlnoaaDoor
open Go.RowKit

def wval : List Nat → Nat
  | [] => 0
  | x :: xs => x * 2 ^ (8 * xs.length) + wval xs
theorem wval_snoc : ∀ (xs : List Nat) (x : Nat), wval (xs ++ [x]) = wval xs * 256 + x
  | [], x => by simp [wval]
  | y :: ys, x => by
    simp only [List.cons_append, wval, List.length_append, List.length_cons, List.length_nil, Nat.zero_add]
    rw [wval_snoc ys x, Nat.mul_add, Nat.pow_add, Nat.add_mul, Nat.mul_assoc, Nat.add_assoc]
def wstuff : List Nat → List UInt8
  | [] => []
  | x :: xs => if x = 255 then 255 :: 0 :: wstuff xs else UInt8.ofNat x :: wstuff xs
theorem wstuff_snoc : ∀ (xs : List Nat) (x : Nat), wstuff (xs ++ [x]) = wstuff xs ++ (if x = 255 then [255, 0] else [UInt8.ofNat x])
  | [], x => by simp only [List.nil_append, wstuff]
  | y :: ys, x => by
    simp only [List.cons_append, wstuff]
    rw [wstuff_snoc ys x]
    split <;> simp
theorem wstuff_len : ∀ (xs : List Nat), (wstuff xs).length ≤ 2 * xs.length
  | [] => Nat.le_refl _
  | y :: ys => by
    have := wstuff_len ys
    simp only [wstuff]
    split <;> simp only [List.length_cons] <;> omega
theorem strm_wstuff : ∀ (xs : List Nat), (∀ x ∈ xs, x < 256) → strm (wstuff xs) = (8 * xs.length, wval xs)
  | [], _ => rfl
  | x :: xs, h => by
    have ih := strm_wstuff xs (fun y hy => h y (List.mem_cons_of_mem _ hy))
    have hx := h x (List.mem_cons_self ..)
    have hn : nxt (wstuff (x :: xs)) = some (UInt8.ofNat x, wstuff xs) := by
      simp only [wstuff]
      by_cases e : x = 255
      · rw [if_pos e, e]
        exact nxt_stuffed _ _ _ (by decide) (by decide)
      · rw [if_neg e]
        exact nxt_plain _ _ (by rw [UInt8.toNat_ofNat']; omega)
    rw [(strm_next hn).1, ih]
    simp only [wval, UInt8.toNat_ofNat', List.length_cons]
    rw [Nat.mod_eq_of_lt (by omega)]
    congr 1
    omega

/-- The codes with their lengths: how many bits, and the number that they write. -/
def wlen : List (Nat × Nat) → Nat
  | [] => 0
  | p :: l => p.2 + wlen l
def wcat : List (Nat × Nat) → Nat
  | [] => 0
  | p :: l => p.1 * 2 ^ wlen l + wcat l
theorem wlen_snoc : ∀ (l : List (Nat × Nat)) (c n : Nat), wlen (l ++ [(c, n)]) = wlen l + n
  | [], c, n => by simp [wlen]
  | p :: l, c, n => by simp only [List.cons_append, wlen]; rw [wlen_snoc l c n, Nat.add_assoc]
theorem wcat_snoc : ∀ (l : List (Nat × Nat)) (c n : Nat), wcat (l ++ [(c, n)]) = wcat l * 2 ^ n + c
  | [], c, n => by simp [wcat, wlen]
  | p :: l, c, n => by
    simp only [List.cons_append, wcat]
    rw [wcat_snoc l c n, wlen_snoc, Nat.pow_add, Nat.add_mul, Nat.mul_assoc, Nat.add_assoc]
theorem wcat_lt : ∀ (l : List (Nat × Nat)), (∀ p ∈ l, p.1 < 2 ^ p.2) → wcat l < 2 ^ wlen l
  | [], _ => by simp [wcat, wlen]
  | p :: l, h => by
    have ih := wcat_lt l (fun y hy => h y (List.mem_cons_of_mem _ hy))
    have hp := h p (List.mem_cons_self ..)
    simp only [wcat, wlen]
    calc p.1 * 2 ^ wlen l + wcat l < p.1 * 2 ^ wlen l + 2 ^ wlen l := by omega
      _ = (p.1 + 1) * 2 ^ wlen l := by rw [Nat.add_mul, Nat.one_mul]
      _ ≤ 2 ^ p.2 * 2 ^ wlen l := Nat.mul_le_mul_right _ (by omega)
      _ = 2 ^ (p.2 + wlen l) := by rw [Nat.pow_add]
theorem bitsOf_cat : ∀ (l : List (Nat × Nat)) (s y : Nat), (∀ p ∈ l, p.1 < 2 ^ p.2) → y < 2 ^ s → bitsOf (l.map Prod.snd) (wlen l + s) (wcat l * 2 ^ s + y) = (l.map Prod.fst, true)
  | [], s, y, _, _ => rfl
  | p :: l, s, y, h, hy => by
    have ih := bitsOf_cat l s y (fun y hy => h y (List.mem_cons_of_mem _ hy)) hy
    have hl := wcat_lt l (fun y hy => h y (List.mem_cons_of_mem _ hy))
    have hlt : wcat l * 2 ^ s + y < 2 ^ (wlen l + s) := by
      calc wcat l * 2 ^ s + y < wcat l * 2 ^ s + 2 ^ s := by omega
        _ = (wcat l + 1) * 2 ^ s := by rw [Nat.add_mul, Nat.one_mul]
        _ ≤ 2 ^ wlen l * 2 ^ s := Nat.mul_le_mul_right _ (by omega)
        _ = 2 ^ (wlen l + s) := by rw [Nat.pow_add]
    simp only [List.map_cons, bitsOf, wlen, wcat]
    have e1 : p.2 + wlen l + s - p.2 = wlen l + s := by omega
    have e2 : (p.1 * 2 ^ wlen l + wcat l) * 2 ^ s + y = (wcat l * 2 ^ s + y) + 2 ^ (wlen l + s) * p.1 := by
      rw [Nat.add_mul, Nat.mul_assoc, ← Nat.pow_add, Nat.mul_comm p.1]
      omega
    rw [if_neg (by omega), e1, e2, Nat.add_mul_div_left _ _ (Nat.two_pow_pos _), Nat.div_eq_of_lt hlt, Nat.zero_add, Nat.add_mul_mod_self_left, Nat.mod_eq_of_lt hlt, ih]

/-- What has been written: the whole bytes xs, and q bits more, which write V. -/
structure WSt (xs : List Nat) (q V N T : Nat) : Prop where
  hx : ∀ x ∈ xs, x < 256
  hN : 8 * xs.length + q = N
  hT : wval xs * 2 ^ q + V = T
  hV : V < 2 ^ q
theorem WSt.zero : WSt [] 0 0 0 0 := ⟨fun x h => by (cases h), rfl, rfl, by decide⟩
theorem WSt.add {xs : List Nat} {q V N T c n : Nat} (h : WSt xs q V N T) (hc : c < 2 ^ n) : WSt xs (q + n) (V * 2 ^ n + c) (N + n) (T * 2 ^ n + c) := by
  refine ⟨h.hx, by rw [← h.hN]; omega, by rw [← h.hT, Nat.pow_add, Nat.add_mul, Nat.mul_assoc, Nat.add_assoc], ?_⟩
  have := h.hV
  calc V * 2 ^ n + c < V * 2 ^ n + 2 ^ n := by omega
    _ = (V + 1) * 2 ^ n := by rw [Nat.add_mul, Nat.one_mul]
    _ ≤ 2 ^ q * 2 ^ n := Nat.mul_le_mul_right _ (by omega)
    _ = 2 ^ (q + n) := by rw [Nat.pow_add]
theorem WSt.byte {xs : List Nat} {q V N T : Nat} (h : WSt xs q V N T) (hq : 8 ≤ q) : WSt (xs ++ [V / 2 ^ (q - 8)]) (q - 8) (V % 2 ^ (q - 8)) N T ∧ V / 2 ^ (q - 8) < 256 := by
  have e : (2 : Nat) ^ q = 256 * 2 ^ (q - 8) := by rw [show (256 : Nat) = 2 ^ 8 from rfl, ← Nat.pow_add]; congr 1; omega
  have hb : V / 2 ^ (q - 8) < 256 := Nat.div_lt_of_lt_mul (by rw [Nat.mul_comm, ← e]; exact h.hV)
  refine ⟨⟨fun x hx => ?_, ?_, ?_, Nat.mod_lt _ (Nat.two_pow_pos _)⟩, hb⟩
  · rcases List.mem_append.1 hx with hx | hx
    · exact h.hx x hx
    · rw [List.mem_singleton.1 hx]; exact hb
  · have := h.hN
    simp only [List.length_append, List.length_cons, List.length_nil]
    omega
  · rw [← h.hT, wval_snoc, e, Nat.add_mul, Nat.mul_assoc, Nat.add_assoc]
    congr 1
    rw [Nat.mul_comm]
    exact Nat.div_add_mod _ _
theorem w_byte (V q : Nat) (h8 : 8 ≤ q) (h32 : q ≤ 32) : V * 2 ^ (32 - q) / 16777216 = V / 2 ^ (q - 8) := by
  have e : (16777216 : Nat) = 2 ^ (q - 8) * 2 ^ (32 - q) := by rw [← Nat.pow_add, show q - 8 + (32 - q) = 24 by omega]
  rw [e]
  exact Nat.mul_div_mul_right _ _ (Nat.two_pow_pos _)
theorem w_shift (V q : Nat) (h8 : 8 ≤ q) (h32 : q ≤ 32) : V * 2 ^ (32 - q) * 256 % 4294967296 = V % 2 ^ (q - 8) * 2 ^ (32 - (q - 8)) := by
  have e : (4294967296 : Nat) = 2 ^ (q - 8) * 2 ^ (32 - (q - 8)) := by rw [← Nat.pow_add, show q - 8 + (32 - (q - 8)) = 32 by omega]
  have e2 : V * 2 ^ (32 - q) * 256 = V * 2 ^ (32 - (q - 8)) := by rw [Nat.mul_assoc, show (256 : Nat) = 2 ^ 8 from rfl, ← Nat.pow_add]; congr 2; omega
  rw [e, e2]
  exact Nat.mul_mod_mul_right _ _ _
theorem w_lt (V q : Nat) (hV : V < 2 ^ q) (h32 : q ≤ 32) : V * 2 ^ (32 - q) < 4294967296 := by
  have e : (4294967296 : Nat) = 2 ^ q * 2 ^ (32 - q) := by rw [← Nat.pow_add, show q + (32 - q) = 32 by omega]
  rw [e]
  exact Nat.mul_lt_mul_of_pos_right hV (Nat.two_pow_pos _)
theorem w_sum (V q c n : Nat) (h32 : q + n ≤ 32) : c * 2 ^ (32 - (q + n)) + V * 2 ^ (32 - q) = (V * 2 ^ n + c) * 2 ^ (32 - (q + n)) := by
  have e : (2 : Nat) ^ (32 - q) = 2 ^ n * 2 ^ (32 - (q + n)) := by rw [← Nat.pow_add]; congr 1; omega
  rw [e, Nat.add_mul, Nat.mul_assoc, Nat.add_comm]
theorem w_or (V q c n : Nat) (hV : V < 2 ^ q) (hc : c < 2 ^ n) (h32 : q + n ≤ 32) : bits .or .u32 ((c * 2 ^ (32 - (q + n)) : Nat) : Int) ((V * 2 ^ (32 - q) : Nat) : Int) = (((V * 2 ^ n + c) * 2 ^ (32 - (q + n)) : Nat) : Int) := by
  have e : (2 : Nat) ^ (32 - q) = 2 ^ n * 2 ^ (32 - (q + n)) := by rw [← Nat.pow_add]; congr 1; omega
  have hc2 : c * 2 ^ (32 - (q + n)) < 2 ^ (32 - q) := by rw [e]; exact Nat.mul_lt_mul_of_pos_right hc (Nat.two_pow_pos _)
  have hVl := w_lt V q hV (by omega)
  have hle : (2 : Nat) ^ (32 - q) ≤ 2 ^ 32 := Nat.pow_le_pow_right (by decide) (by omega)
  have h := (bits_nat .u32 32 (by decide) (fun n h0 h1 => by rw [IntKind.wrap_u32]; omega) (c * 2 ^ (32 - (q + n))) (V * 2 ^ (32 - q)) (by omega) (by omega)).2
  rw [h, ← w_sum V q c n h32, Nat.or_comm, Nat.mul_comm V, ← Nat.two_pow_add_eq_or_of_lt hc2 V, Nat.add_comm]
theorem WSt.last {xs : List Nat} {q V : Nat} {l : List (Nat × Nat)} (h : WSt xs q V (wlen l + 7) (wcat l * 128 + 127)) (hq : q < 8) (hl : ∀ p ∈ l, p.1 < 2 ^ p.2) : bitsOf (l.map Prod.snd) (8 * xs.length) (wval xs) = (l.map Prod.fst, true) := by
  obtain ⟨s, y, h1, h2, h3⟩ : ∃ s y, 8 * xs.length = wlen l + s ∧ wval xs = wcat l * 2 ^ s + y ∧ y < 2 ^ s := by
    have hN := h.hN
    have hT := h.hT
    have hV := h.hV
    match q, hq with
    | 0, _ => exact ⟨7, 127, by omega, by simp only [Nat.pow_zero] at hT hV; omega, by decide⟩
    | 1, _ => exact ⟨6, 63, by omega, by omega, by decide⟩
    | 2, _ => exact ⟨5, 31, by omega, by omega, by decide⟩
    | 3, _ => exact ⟨4, 15, by omega, by omega, by decide⟩
    | 4, _ => exact ⟨3, 7, by omega, by omega, by decide⟩
    | 5, _ => exact ⟨2, 3, by omega, by omega, by decide⟩
    | 6, _ => exact ⟨1, 1, by omega, by omega, by decide⟩
    | 7, _ => exact ⟨0, 0, by omega, by omega, by decide⟩
    | k + 8, hk => omega
  rw [h1, h2]
  exact bitsOf_cat l s y hl h3
/-- One code of eight bits, the number 1, makes one byte. -/
theorem WSt.one {xs : List Nat} {q V : Nat} (h : WSt xs q V (8 + 7) (1 * 128 + 127)) (hq : q < 8) : (wstuff xs).length = 1 := by
  have hN := h.hN
  have hT := h.hT
  have hV := h.hV
  have h1 : xs.length = 1 := by omega
  obtain rfl : q = 7 := by omega
  match xs, h1 with
  | [x], _ =>
    simp only [wval, List.length_nil, Nat.mul_zero, Nat.pow_zero, Nat.mul_one, Nat.add_zero] at hT
    have : x = 1 := by omega
    subst this
    rfl
end Go.Proofs.YtkkplbfbhmlnoaaDoor
