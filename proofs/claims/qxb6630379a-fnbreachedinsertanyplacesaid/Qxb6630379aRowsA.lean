import Derived.Test.Qxb6630379aLeaf
import Derived.Deep.LoopGhost
import Derived.Deep.RegionHeld3
namespace Go.Proofs.Qxb6630379a
set_option linter.unusedVariables false
set_option linter.unusedSimpArgs false
open Go.RowKit

/-- The five cells of each of n rows, from offset 'off' of block g on. -/
def RowsAt (w : World) (g off n : Nat) (S T : Nat → ByteArray) (B : Nat → Bool) : Prop :=
  ∀ i, i < n → w.cell? ⟨g, off + i * 5, none⟩ = some (.string (S i)) ∧ w.cell? ⟨g, off + i * 5 + 1, none⟩ = some (.string (T i)) ∧ w.cell? ⟨g, off + i * 5 + 2, none⟩ = some (.pointer none) ∧
    w.cell? ⟨g, off + i * 5 + 3, none⟩ = some (.pointer none) ∧ w.cell? ⟨g, off + i * 5 + 4, none⟩ = some (.bool (B i))

set_option maxHeartbeats 1000000 in
theorem breached_some (g off n cap : Nat) (S T : Nat → ByteArray) (B : Nat → Bool) (w : World) (hn : n ≤ 65537) (HR : Hid (RowsAt w g off n S T B)) :
    Calls Try.prog 9 #[.slice (some ⟨g, off, none⟩) n cap] w fun e w' => e = .returned (.bool (anyB B n)) ∧ Below w.heap.size w w' := by
  go_enter Try.func9, Try.ntmps9
  go_wp2
  go_loopw [7] (fun i wr => ∃ k : Nat, k ≤ n ∧ i = .int .i64 k ∧ Hid (anyB B k = false) ∧ Below w.heap.size w wr) (fun i _ => n - (intOf i).toNat)
  case atStart => exact ⟨0, Nat.zero_le _, rfl, (rfl : anyB B 0 = false), Below.refl _ _⟩
  case round =>
    obtain ⟨k, hk, rfl, HA, hbel⟩ := hrel
    by_cases hlt : k < n
    · obtain ⟨c0, c1, c2, c3, c4⟩ := HR.out k hlt
      obtain ⟨x, Hx⟩ : ∃ x, Hid (x = B k) := ⟨_, (rfl : B k = B k)⟩
      rw [← Hx.out] at c4
      rw [← hbel.cell (p := ⟨g, off + k * 5, none⟩) (World.block_lt_of_cell? w _ c0)] at c0
      rw [← hbel.cell (p := ⟨g, off + k * 5 + 1, none⟩) (World.block_lt_of_cell? w _ c1)] at c1
      rw [← hbel.cell (p := ⟨g, off + k * 5 + 2, none⟩) (World.block_lt_of_cell? w _ c2)] at c2
      rw [← hbel.cell (p := ⟨g, off + k * 5 + 3, none⟩) (World.block_lt_of_cell? w _ c3)] at c3
      rw [← hbel.cell (p := ⟨g, off + k * 5 + 4, none⟩) (World.block_lt_of_cell? w _ c4)] at c4
      cases x
      · have HA' : Hid (anyB B (k + 1) = false) := anyB_step HA.out Hx.out.symm
        go_wp2
        go_roundw
        case rel => exact ⟨k + 1, by omega, by go_num, HA', hbel.alloc hbel.size _⟩
        case measure => simp [intOf]; omega
      · have HA' : Hid (anyB B n = true) := anyB_of Hx.out.symm hlt
        go_wp2
        go_ret
        exact ⟨ret_bool HA'.out.symm, hbel.alloc hbel.size _⟩
    · have HA' : Hid (anyB B n = false) := by rw [show n = k by omega]; exact HA.out
      go_wp2
      go_ret
      exact ⟨ret_bool HA'.out.symm, hbel⟩

/-- The same, of a block's cells told as a list. -/
def RowsIn (cur : List Value) (n : Nat) (S T : Nat → ByteArray) (B : Nat → Bool) : Prop :=
  ∀ i, i < n → cur[i * 5]? = some (.string (S i)) ∧ cur[i * 5 + 1]? = some (.string (T i)) ∧ cur[i * 5 + 2]? = some (.pointer none) ∧ cur[i * 5 + 3]? = some (.pointer none) ∧ cur[i * 5 + 4]? = some (.bool (B i))

theorem RowsIn.at {w : World} {g n : Nat} {cur : List Value} {S T : Nat → ByteArray} {B : Nat → Bool} (h : RowsIn cur n S T B) (hb : w.heap[g]? = some (.cells cur.toArray 33 (0, 0))) : RowsAt w g 0 n S T B := by
  intro i hi
  have := h i hi
  simp only [Nat.zero_add, Lib.cell_of_heap hb]
  simpa using this

theorem blk_set {w : World} {g o : Nat} {cur : List Value} {v : Value} (hb : w.heap[g]? = some (.cells cur.toArray 33 (0, 0))) : (w.setCell ⟨g, o, none⟩ v).heap[g]? = some (.cells (cur.set o v).toArray 33 (0, 0)) := by
  simp [World.setCell, Array.getElem?_modify, hb]

theorem blk_cell {w : World} {g o : Nat} {cur : List Value} (hb : w.heap[g]? = some (.cells cur.toArray 33 (0, 0))) (ho : o < cur.length) : ∃ v, w.cell? ⟨g, o, none⟩ = some v := by
  rw [Lib.cell_of_heap hb]
  exact ⟨cur[o], by simp [ho]⟩

def set5 (cur : List Value) (o : Nat) (a b c d e : Value) : List Value := ((((cur.set o a).set (o + 1) b).set (o + 2) c).set (o + 3) d).set (o + 4) e
theorem set5_length (cur : List Value) (o : Nat) (a b c d e : Value) : (set5 cur o a b c d e).length = cur.length := by simp [set5]
theorem set5_far (cur : List Value) (o : Nat) (a b c d e : Value) (j : Nat) (h : j < o ∨ o + 5 ≤ j) : (set5 cur o a b c d e)[j]? = cur[j]? := by
  unfold set5
  rw [List.getElem?_set_ne (by omega), List.getElem?_set_ne (by omega), List.getElem?_set_ne (by omega), List.getElem?_set_ne (by omega), List.getElem?_set_ne (by omega)]
theorem set5_at (cur : List Value) (o : Nat) (a b c d e : Value) (h : o + 5 ≤ cur.length) :
    (set5 cur o a b c d e)[o]? = some a ∧ (set5 cur o a b c d e)[o + 1]? = some b ∧ (set5 cur o a b c d e)[o + 2]? = some c ∧ (set5 cur o a b c d e)[o + 3]? = some d ∧ (set5 cur o a b c d e)[o + 4]? = some e := by
  unfold set5
  refine ⟨?_, ?_, ?_, ?_, ?_⟩
  · rw [List.getElem?_set_ne (by omega), List.getElem?_set_ne (by omega), List.getElem?_set_ne (by omega), List.getElem?_set_ne (by omega), List.getElem?_set_self (by omega)]
  · rw [List.getElem?_set_ne (by omega), List.getElem?_set_ne (by omega), List.getElem?_set_ne (by omega), List.getElem?_set_self (by simp; omega)]
  · rw [List.getElem?_set_ne (by omega), List.getElem?_set_ne (by omega), List.getElem?_set_self (by simp; omega)]
  · rw [List.getElem?_set_ne (by omega), List.getElem?_set_self (by simp; omega)]
  · rw [List.getElem?_set_self (by simp; omega)]
theorem RowsIn.step {cur : List Value} {k : Nat} {S T : Nat → ByteArray} {B : Nat → Bool} (h : RowsIn cur k S T B) (hl : (k + 1) * 5 ≤ cur.length) :
    RowsIn (set5 cur (k * 5) (.string (S k)) (.string (T k)) (.pointer none) (.pointer none) (.bool (B k))) (k + 1) S T B := by
  intro i hi
  by_cases e : i = k
  · subst e
    exact set5_at cur (i * 5) _ _ _ _ _ (by omega)
  · have := h i (by omega)
    rw [set5_far _ _ _ _ _ _ _ _ (by omega), set5_far _ _ _ _ _ _ _ _ (by omega), set5_far _ _ _ _ _ _ _ _ (by omega), set5_far _ _ _ _ _ _ _ _ (by omega), set5_far _ _ _ _ _ _ _ _ (by omega)]
    exact this

theorem made_block {w : World} {base e g n : Nat} {xs : List Value} (h : w.ownsRow base e 5 (.slice (some ⟨g, 0, none⟩) n n) n xs) :
    ∃ cur : List Value, w.heap[g]? = some (.cells cur.toArray e (0, 0)) ∧ cur.length = n * 5 ∧ g < w.heap.size := by
  have hlt := (h.lt g rfl).2
  rcases h.2 with ⟨h0, _⟩ | ⟨g', cap, cur, hv, _, hh, _, _, hc, _⟩
  · cases h0
  · cases hv
    exact ⟨cur.toList, by simpa using hh, by simpa using hc, hlt⟩

theorem info33 : (Try.prog.info? 33).map (fun i => (i.zero, i.size, i.bytes)) = some (some (.agg #[.string ⟨#[]⟩, .string ⟨#[]⟩, .pointer none, .pointer none, .bool false]), 5, 56) := by kernel_rfl

set_option maxHeartbeats 1000000 in
theorem build_any (ao bo co : Option Addr) (cap cap2 cap3 n : Nat) (S T : Nat → ByteArray) (B : Nat → Bool) (w : World) (hn : n ≤ 65537) (HS : Hid (SRow w ao n S)) (HT : Hid (SRow w bo n T)) (HB : Hid (BRow w co n B)) :
    Calls Try.prog 8 #[.slice ao n cap, .slice bo n cap2, .slice co n cap3] w fun e w' => e = .returned (.slice (some ⟨w.heap.size, 0, none⟩) n n) ∧ RowsAt w' w.heap.size 0 n S T B ∧ w.heap.size < w'.heap.size ∧ Below w.heap.size w w' := by
  obtain ⟨i0, hi, hz0, hz1, hz2⟩ := info_parts info33
  go_enter Try.func8, Try.ntmps8
  go_wp2_with (at_make; go_must (refine wpList_make_full _ rfl _ _ 27 rfl w.heap.size 33 i0 _ 5 Try.underlying27 hi hz0 hz1 _ _ _ _ n rfl rfl rfl rfl (by rw [hz2]; omega) (by unfold maxLen; omega) (Nat.le_refl _) ?_); intro w1 hown1 hgrow1)
  obtain ⟨cur0, hcur0, hlen0, hlt0⟩ := made_block hown1
  have HC0 : Hid (w1.heap[w.heap.size]? = some (.cells cur0.toArray 33 (0, 0))) := hcur0
  have hb1 := (Below.refl w.heap.size w).grown hgrow1 (Nat.le_refl _) (fun k hk => by cases hk)
  clear hcur0 hown1 hgrow1
  go_loopw [9] (fun i wr => ∃ (k : Nat) (cur : List Value), k ≤ n ∧ i = .int .i64 k ∧ Hid (wr.heap[w.heap.size]? = some (.cells cur.toArray 33 (0, 0))) ∧ Hid (cur.length = n * 5) ∧ Hid (RowsIn cur k S T B) ∧ Below w.heap.size w wr) (fun i _ => n - (intOf i).toNat)
  case atStart => exact ⟨0, cur0, Nat.zero_le _, rfl, HC0, hlen0, fun i hi => by omega, hb1⟩
  case round =>
    obtain ⟨k, cur, hk, rfl, HC, HL, HR, hbel⟩ := hrel
    by_cases hlt : k < n
    · rcases HS.out with h0 | ⟨bS, oS, rfl, hS⟩
      · omega
      rcases HT.out with h0 | ⟨bT, oT, rfl, hT⟩
      · omega
      rcases HB.out with h0 | ⟨bB, oB, rfl, hB⟩
      · omega
      have cS : wr.cell? ⟨bS, oS + k, none⟩ = some (.string (S k)) := (hbel.cell (World.block_lt_of_cell? w _ (hS k hlt).1)).trans (hS k hlt).1
      have cT : wr.cell? ⟨bT, oT + k, none⟩ = some (.string (T k)) := (hbel.cell (World.block_lt_of_cell? w _ (hT k hlt).1)).trans (hT k hlt).1
      have cB : wr.cell? ⟨bB, oB + k, none⟩ = some (.bool (B k)) := (hbel.cell (World.block_lt_of_cell? w _ (hB k hlt))).trans (hB k hlt)
      obtain ⟨v0, c0⟩ := blk_cell HC.out (o := k * 5) (by have := HL.out; omega)
      obtain ⟨v1, c1⟩ := blk_cell HC.out (o := k * 5 + 1) (by have := HL.out; omega)
      obtain ⟨v2, c2⟩ := blk_cell HC.out (o := k * 5 + 2) (by have := HL.out; omega)
      obtain ⟨v3, c3⟩ := blk_cell HC.out (o := k * 5 + 3) (by have := HL.out; omega)
      obtain ⟨v4, c4⟩ := blk_cell HC.out (o := k * 5 + 4) (by have := HL.out; omega)
      have f0 := Lib.frozen_of_heap HC.out (k * 5)
      have f1 := Lib.frozen_of_heap HC.out (k * 5 + 1)
      have f2 := Lib.frozen_of_heap HC.out (k * 5 + 2)
      have f3 := Lib.frozen_of_heap HC.out (k * 5 + 3)
      have f4 := Lib.frozen_of_heap HC.out (k * 5 + 4)
      have i1 : (0 : Int) ≤ (k : Int) := by omega
      have i2 : (k : Int) < (n : Int) := by omega
      clear hS hT hB
      go_wp2
      go_region
      go_wp2
      go_roundw
      case rel =>
        refine ⟨k + 1, set5 cur (k * 5) (.string (S k)) (.string (T k)) (.pointer none) (.pointer none) (.bool (B k)), by omega, by go_num, ?_, ?_, HR.out.step (by have := HL.out; omega), ?_⟩
        · exact blk_set (blk_set (blk_set (blk_set (blk_set HC.out))))
        · show _ = _
          rw [set5_length]; exact HL.out
        · exact (((((hbel.setCell (p := ⟨w.heap.size, _, none⟩) (Nat.le_refl _) _).setCell (p := ⟨w.heap.size, _, none⟩) (Nat.le_refl _) _).setCell (p := ⟨w.heap.size, _, none⟩) (Nat.le_refl _) _).setCell (p := ⟨w.heap.size, _, none⟩) (Nat.le_refl _) _).setCell (p := ⟨w.heap.size, _, none⟩) (Nat.le_refl _) _).drew
      case measure => simp [intOf]; omega
    · go_wp2
      go_ret
      have hkn : k = n := by omega
      subst hkn
      exact ⟨rfl, HR.out.at HC.out, (Array.getElem?_eq_some_iff.1 HC.out).1, hbel⟩

end Go.Proofs.Qxb6630379a
