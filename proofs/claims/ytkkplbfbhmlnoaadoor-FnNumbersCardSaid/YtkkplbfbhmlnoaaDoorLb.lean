/- laws.FnBits: true of every argument, where reads() is true. Conditions: the arguments are slices; the three variables are laid; what reads() returns is a hypothesis. -/
import Derived.Test.YtkkplbfbhmlnoaaDoorZc
import Derived.Test.YtkkplbfbhmlnoaaDoorNd
import Derived.Test.YtkkplbfbhmlnoaaDoorQf
namespace Go.Proofs.YtkkplbfbhmlnoaaDoor
open Go.RowKit

theorem bitsOf_lt : ∀ (ns : List Nat) (L X : Nat), X < 2 ^ L → (∀ n ∈ ns, n ≤ 16) → ∀ x ∈ (bitsOf ns L X).1, x < 65536
  | [], _, _, _, _, x, h => by simp [bitsOf] at h
  | n :: ns, L, X, hX, hn, x, h => by
    simp only [bitsOf] at h
    split at h
    · simp at h
    · rename_i hnL
      rcases List.mem_cons.1 h with h | h
      · have h16 := hn n (List.mem_cons_self ..)
        have : X / 2 ^ (L - n) < 2 ^ n := Nat.div_lt_of_lt_mul (by rw [← Nat.pow_add, show L - n + n = L by omega]; exact hX)
        have := pow_le n h16
        omega
      · exact bitsOf_lt ns _ _ (Nat.mod_lt _ (Nat.two_pow_pos _)) (fun n hn' => hn n (List.mem_cons_of_mem _ hn')) x h

theorem bitsOf_len : ∀ (ns : List Nat) (L X : Nat), (bitsOf ns L X).1.length ≤ ns.length
  | [], _, _ => Nat.le_refl _
  | n :: ns, L, X => by
    simp only [bitsOf]
    split
    · simp
    · simp only [List.length_cons]
      have := bitsOf_len ns (L - n) (X % 2 ^ (L - n))
      omega

/-- A row of one's own, as a slice. -/
theorem owns_slice {w : World} {B e n : Nat} {v : Value} {xs : List Value} (h : w.ownsRow B e 1 v n xs) : ∃ base cap, v = .slice base n cap ∧ n ≤ cap ∧ xs.length = n ∧ ∀ (j : Nat) u, xs[j]? = some u → ∃ g, base = some ⟨g, 0, none⟩ ∧ w.cell? ⟨g, j, none⟩ = some u := by
  have hl : xs.length = n := by have := h.1; omega
  rcases h.2 with ⟨rfl, rfl⟩ | ⟨g, cap, cur, rfl, hb, hg, hn, _⟩
  · exact ⟨none, 0, rfl, Nat.le_refl _, hl, fun j u hj => by
      have : xs = [] := List.eq_nil_of_length_eq_zero hl
      subst this
      cases hj⟩
  · refine ⟨_, cap, rfl, hn, hl, fun j u hj => ⟨g, rfl, ?_⟩⟩
    have := h.cells (g := g) rfl j u hj
    rw [addr_add, Nat.zero_add] at this
    exact this

/-- A slice of whole numbers that came in. -/
def RowI (w : World) (ok : Nat → Prop) (k : IntKind) (base : Option Addr) (zs : List Int) : Prop :=
  zs = [] ∨ ∃ g o, base = some ⟨g, o, none⟩ ∧ ok g ∧ g < w.heap.size ∧ ∀ j (h : j < zs.length), w.cell? ⟨g, o + j, none⟩ = some (.int k zs[j])
theorem RowI.nat {w : World} {ok : Nat → Prop} {k : IntKind} {base : Option Addr} {zs : List Int} (h : RowI w ok k base zs) (hz : ∀ z ∈ zs, 0 ≤ z) : Row w ok k base (zs.map Int.toNat) := by
  rcases h with h | ⟨g, o, h1, h2, h3, h4⟩
  · subst h; exact .inl rfl
  · refine .inr ⟨g, o, h1, h2, h3, fun j hj => ?_⟩
    have hj' : j < zs.length := by simpa using hj
    rw [h4 j hj']
    have := hz _ (List.getElem_mem hj')
    simp only [List.getElem_map]
    rw [Int.toNat_of_nonneg this]
theorem RowI.at {w : World} {ok : Nat → Prop} {k : IntKind} {base : Option Addr} {zs : List Int} (h : RowI w ok k base zs) (i : Nat) (hi : i < zs.length) : ∃ g o, base = some ⟨g, o, none⟩ ∧ w.cell? ⟨g, o + i, none⟩ = some (.int k zs[i]) := by
  rcases h with h | ⟨g, o, hb, hg, _, hcell⟩
  · subst h; simp at hi
  · exact ⟨g, o, hb, hcell i hi⟩

set_option maxRecDepth 100000 in
set_option maxHeartbeats 4000000 in
theorem lawBits_any (a1 a2 : Addr) (base : Option Addr) (cap : Nat) (data : List UInt8) (wb : Option Addr) (wc : Nat) (zs : List Int) (w : World) (hG : Glob w a1 a2) (hc : data.length ≤ cap) (hm : cap ≤ 4611686018427387904) (hb : Bytes w (fun k => k < w.heap.size) base data)
    (hwc : zs.length ≤ wc) (hwm : wc ≤ 4611686018427387904) (hr : RowI w (fun k => k < w.heap.size) .i32 wb zs) (hreads : ∀ W, Chg (fun _ => False) w W → Calls Tryd.prog 16 #[] W (LawPost W)) :
    Calls Tryd.prog 6 #[.slice base data.length cap, .slice wb zs.length wc] w (LawPost w) := by
  have HRD := Lib.hid hreads
  have HIN := Lib.hid (And.intro hG (And.intro hc (And.intro hm (And.intro hb (And.intro hwc (And.intro hwm hr))))))
  have TRUE : Hid (LawPost w (.returned (.bool true)) w) := ⟨rfl, Chg.refl _ w⟩
  clear hG hb hr hreads
  go_enter Tryd.func6, Tryd.ntmps6
  by_cases hl1 : 2147483647 < data.length
  · have d1 : decide (2147483647 < (data.length : Int)) = true := by simp; omega
    have hli : (data.length : Int) ≤ 4611686018427387904 := by omega
    clear hc hm hwc hwm hl1
    go_wp2_with fail
    go_ret
    exact TRUE.out
  have d1 : decide (2147483647 < (data.length : Int)) = false := by simp; omega
  by_cases hl2 : 2147483647 < zs.length
  · have d2 : decide (2147483647 < (zs.length : Int)) = true := by simp; omega
    clear hc hm hl1 hl2
    go_wp2_with fail
    go_ret
    exact TRUE.out
  have d2 : decide (2147483647 < (zs.length : Int)) = false := by simp; omega
  have hsz : zs.length ≤ 2147483647 := by omega
  have hli : (zs.length : Int) ≤ 2147483647 := by omega
  clear hc hm hl1 hl2 hwm
  go_wp2_with fail
  go_loopg [23] zs.length (fun k v wr => ∃ i : Nat, v = .int .i64 (i : Int) ∧ i + k = zs.length ∧ w = wr ∧ Hid (∀ j (h : j < zs.length), j < i → 1 ≤ zs[j] ∧ zs[j] ≤ 16))
  case atStart => exact ⟨0, rfl, by omega, rfl, fun j _ h => absurd h (by omega)⟩
  case round =>
    obtain ⟨i, rfl, hik, rfl, HG⟩ := hrel
    by_cases hi : i < zs.length
    · have d3 : decide (i < zs.length) = true := by simp; omega
      obtain ⟨gb, o, rfl, cw⟩ := HIN.out.2.2.2.2.2.2.at i hi
      obtain ⟨z, hz⟩ : ∃ z, zs[i] = z := ⟨_, rfl⟩
      rw [hz] at cw
      have HZ := Lib.hid hz
      clear hz
      by_cases hz1 : z < 1
      · go_wp2_with fail
        go_ret
        exact TRUE.out
      by_cases hz16 : 16 < z
      · have d4 : decide (z < 1) = false := by simp; omega
        go_wp2_with fail
        go_ret
        exact TRUE.out
      have d4 : decide (z < 1) = false := by simp; omega
      have d5 : decide (16 < z) = false := by simp; omega
      have HG2 : Hid (∀ j (h : j < zs.length), j < i + 1 → 1 ≤ zs[j] ∧ zs[j] ≤ 16) := fun j hj hji => by
        by_cases e : j = i
        · subst e; rw [HZ.out]; omega
        · exact HG.out j hj (by omega)
      clear hz1 hz16 HG
      go_wp2_with fail
      go_roundg (gk - 1)
      case measure => omega
      case rel => exact ⟨i + 1, by go_num, by omega, rfl, HG2⟩
    · have d3 : decide (i < zs.length) = false := by simp; omega
      have HALL : ∀ z ∈ zs, 1 ≤ z ∧ z ≤ 16 := fun z hz => by
        obtain ⟨j, hj, rfl⟩ := List.getElem_of_mem hz
        exact HG.out j hj (by omega)
      obtain ⟨ns, hns⟩ : ∃ ns, zs.map Int.toNat = ns := ⟨_, rfl⟩
      have hlen : ns.length = zs.length := by rw [← hns, List.length_map]
      have hn16 : ∀ n ∈ ns, 1 ≤ n ∧ n ≤ 16 := fun n hn => by
        rw [← hns] at hn
        obtain ⟨z, hz, rfl⟩ := List.mem_map.1 hn
        have := HALL z hz
        omega
      have hrow : Row w (fun k => k < w.heap.size) .i32 wb ns := by rw [← hns]; exact HIN.out.2.2.2.2.2.2.nat (fun z hz => by have := HALL z hz; omega)
      have SP := specBits_any base cap data wb wc ns w HIN.out.2.1 HIN.out.2.2.1 HIN.out.2.2.2.1 (by rw [hlen]; exact HIN.out.2.2.2.2.1) HIN.out.2.2.2.2.2.1 hrow hn16 (by omega)
      have IM : Hid (∀ W, Chg (fun _ => False) w W → Calls Tryd.prog 11 #[.slice base data.length cap, .slice wb ns.length wc] W (IBitsPost W (bitsOf ns (strm data).1 (strm data).2))) := fun W hW =>
        implBits_any a1 a2 base cap data wb wc ns W (HIN.out.1.chg hW (fun _ _ h => h)) HIN.out.2.1 HIN.out.2.2.1 ((HIN.out.2.2.2.1.chg hW (fun _ _ h => h)).mono (fun k hk => Nat.lt_of_lt_of_le hk hW.size)) (by rw [hlen]; exact HIN.out.2.2.2.2.1) (by
          have := hrow.chg hW (fun _ _ h => h)
          rcases this with h | ⟨g, o, h1, h2, h3, h4⟩
          · exact .inl h
          · exact .inr ⟨g, o, h1, Nat.lt_of_lt_of_le h2 hW.size, h3, h4⟩) hn16 (by omega)
      have HLT : Hid (∀ x ∈ (bitsOf ns (strm data).1 (strm data).2).1, x < 65536) := bitsOf_lt ns _ _ (strm_lt _ _ (Nat.le_refl _)) (fun n hn => (hn16 n hn).2)
      have HLE : (bitsOf ns (strm data).1 (strm data).2).1.length ≤ 2147483647 := Nat.le_trans (bitsOf_len ns _ _) (by omega)
      rw [hlen] at SP IM
      generalize bitsOf ns (strm data).1 (strm data).2 = R at *
      clear HALL hns hn16 hrow HG hlen
      go_wp2_with fail
      refine SP.mono ?_
      clear SP
      rintro e w1 ⟨hC1, v7, hown7, rfl⟩
      have H1 := Lib.hid (And.intro hC1 hown7)
      clear hC1 hown7
      go_wp2_with fail
      refine (IM.out w1 H1.out.1).mono ?_
      rintro e w2 ⟨hC2, v9, hown9, rfl⟩
      obtain ⟨b7, c7, rfl, hc7, hl7, hcell7⟩ := owns_slice (owns_chg H1.out.2 hC2 (fun _ _ h => h))
      obtain ⟨b9, c9, rfl, hc9, hl9, hcell9⟩ := owns_slice hown9
      have CW := Lib.hid (H1.out.1.trans hC2)
      have CELLS : Hid (∀ (j : Nat) (h : j < R.1.length), ∃ x : Nat, x < 65536 ∧ (∃ g, b7 = some ⟨g, 0, none⟩ ∧ w2.cell? ⟨g, j, none⟩ = some (.int .i64 (x : Int))) ∧ (∃ g, b9 = some ⟨g, 0, none⟩ ∧ w2.cell? ⟨g, j, none⟩ = some (.int .u32 (x : Int)))) := fun j h =>
        ⟨R.1[j], HLT.out _ (List.getElem_mem h), hcell7 j _ (by simp [h]), hcell9 j _ (by simp [h])⟩
      have RD := Lib.hid (HRD.out w2 CW.out)
      obtain ⟨n, hn⟩ : ∃ n, R.1.length = n := ⟨_, rfl⟩
      rw [hn] at hc7 hc9 HLE CELLS
      rw [hn]
      have hni : (n : Int) ≤ 2147483647 := by omega
      obtain ⟨ok, hok⟩ : ∃ ok, R.2 = ok := ⟨_, rfl⟩
      rw [hok]
      clear hC2 hown9 hcell7 hcell9 hl7 hl9 H1 IM HRD HLT hn hok
      cases ok
      all_goals (
        simp only [Bool.false_eq_true, if_true, if_false]
        go_wp2_with fail
        go_loopg [59] n (fun k v wr => ∃ i : Nat, v = .int .i64 (i : Int) ∧ i + k = n ∧ w2 = wr)
        case atStart => exact ⟨0, rfl, by omega, rfl⟩
        case round =>
          obtain ⟨j, rfl, hjk, rfl⟩ := hrel
          by_cases hj : j < n
          · have d6 : decide (j < n) = true := by simp; omega
            obtain ⟨x, hx, ⟨g7, rfl, k7⟩, ⟨g9, rfl, k9⟩⟩ := CELLS.out j hj
            have hxi : (x : Int) < 65536 := by omega
            go_wp2_with fail
            go_roundg (gk - 1)
            case measure => omega
            case rel => exact ⟨j + 1, by go_num, by omega, rfl⟩
          · have d6 : decide (j < n) = false := by simp; omega
            go_wp2_with fail
            refine RD.out.mono ?_
            rintro e w3 ⟨rfl, hC3⟩
            have FIN : Hid (LawPost w (.returned (.bool true)) w3) := ⟨rfl, CW.out.trans hC3⟩
            clear hC3
            go_wp2_with fail
            go_ret
            exact FIN.out)
end Go.Proofs.YtkkplbfbhmlnoaaDoor
