import Derived.Test.Qxb6630379aSplit
namespace Go.Proofs.Qxb6630379a
set_option linter.unusedVariables false
set_option linter.unusedSimpArgs false
open Go.RowKit

/-- A value put in at place i. -/
def putIn {α : Type} (f : Nat → α) (x : α) (i : Nat) : Nat → α := fun j => if j < i then f j else if j = i then x else f (j - 1)
theorem putIn_lt {α : Type} (f : Nat → α) (x : α) {i j : Nat} (h : j < i) : putIn f x i j = f j := by simp [putIn, h]
theorem putIn_at {α : Type} (f : Nat → α) (x : α) (i : Nat) : putIn f x i i = x := by simp [putIn]
theorem putIn_gt {α : Type} (f : Nat → α) (x : α) {i j : Nat} (h : i ≤ j) : putIn f x i (j + 1) = f j := by
  simp [putIn, show ¬ j + 1 < i by omega, show ¬ j + 1 = i by omega]

theorem anyB_congr {B C : Nat → Bool} : ∀ {n : Nat}, (∀ j, j < n → B j = C j) → anyB B n = anyB C n
  | 0, _ => rfl
  | n + 1, h => by rw [anyB, anyB, anyB_congr (fun j hj => h j (by omega)), h n (by omega)]

theorem anyB_insert (B : Nat → Bool) (b : Bool) (i n : Nat) (hi : i ≤ n) : anyB (putIn B b i) (n + 1) = (b || anyB B n) := by
  have h1 := anyB_split (putIn B b i) i (1 + (n - i))
  rw [show i + (1 + (n - i)) = n + 1 by omega, anyB_split (fun t => putIn B b i (i + t)) 1 (n - i)] at h1
  have h2 := anyB_split B i (n - i)
  rw [show i + (n - i) = n by omega] at h2
  rw [h1, h2, anyB_congr (B := putIn B b i) (C := B) (fun j hj => putIn_lt B b hj)]
  have h3 : anyB (fun t => putIn B b i (i + t)) 1 = b := by simp [anyB, putIn_at]
  have h4 : anyB (fun t => putIn B b i (i + (1 + t))) (n - i) = anyB (fun t => B (i + t)) (n - i) :=
    anyB_congr fun j _ => by rw [show i + (1 + j) = (i + j) + 1 by omega]; exact putIn_gt B b (by omega)
  rw [h3, h4]
  cases b <;> simp

theorem RowsIn.step' {cur : List Value} {k : Nat} {S T : Nat → ByteArray} {B : Nat → Bool} {s t : ByteArray} {b : Bool} (h : RowsIn cur k S T B) (hl : (k + 1) * 5 ≤ cur.length) (hs : S k = s) (ht : T k = t) (hb : B k = b) :
    RowsIn (set5 cur (k * 5) (.string s) (.string t) (.pointer none) (.pointer none) (.bool b)) (k + 1) S T B := by
  subst hs ht hb; exact h.step hl

set_option maxRecDepth 100000 in
set_option maxHeartbeats 4000000 in
theorem insert_main_false (ao bo co : Option Addr) (cap cap2 cap3 n i : Nat) (p q : ByteArray) (S T : Nat → ByteArray) (B : Nat → Bool) (w : World) (hn : n ≤ 65536) (hi : i ≤ n) (hp : p.size ≤ 65536) (hq : q.size ≤ 65536)
    (HS : Hid (SRow w ao n S)) (HT : Hid (SRow w bo n T)) (HB : Hid (BRow w co n B)) :
    Calls Try.prog 4 #[.slice ao n cap, .slice bo n cap2, .slice co n cap3, .int .i64 (i : Int), .string p, .string q, .bool false] w fun e w' => e = .returned (.bool true) ∧ Below w.heap.size w w' := by
  obtain ⟨i0, hi0, hz0, hz1, hz2⟩ := info_parts info33
  have HA : Hid (anyB (putIn B false i) (n + 1) = (false || anyB B n)) := anyB_insert B false i n hi
  have q1 : ((n : Int) != (n : Int)) = false := by simp
  go_enter Try.func4, Try.ntmps4
  go_wp2_with fail
  refine (zzBytes10_any ao bo co n cap n cap2 n cap3 _ p q false S T _ (by unfold maxLen; omega) (by unfold maxLen; omega) HS HT).mono ?_
  rintro e w' ⟨⟨r, rfl⟩, rfl⟩
  cases r
  · go_wp2
    go_ret
    exact ⟨rfl, Below.refl _ _⟩
  go_wp2_with fail
  refine (overBytes_any ao bo co n cap n cap2 n cap3 S T _ (by unfold maxLen; omega) (by unfold maxLen; omega) HS HT).mono ?_
  rintro e w' ⟨⟨r, rfl⟩, rfl⟩
  cases r
  rotate_left
  · go_wp2
    go_ret
    exact ⟨rfl, Below.refl _ _⟩
  go_wp2_with fail
  refine (someTrue_any co n cap3 B _ (by unfold maxLen; omega) HB).mono ?_
  rintro e w' ⟨rfl, rfl⟩
  go_wp2_with fail
  refine (build_any ao bo co cap cap2 cap3 n S T B _ (by omega) HS HT HB).mono ?_
  rintro e w1 ⟨rfl, hR, hg1, hbel1⟩
  have HR1 : Hid (RowsAt w1 w.heap.size 0 n S T B) := hR
  clear hR HS HT HB
  go_wp2_with (at_make; refine wpList_make_full _ rfl _ _ 27 rfl w1.heap.size 33 i0 _ 5 Try.underlying27 hi0 hz0 hz1 _ _ _ _ (n + 1) rfl rfl (by omega) (by omega) (by rw [hz2]; omega) (by unfold maxLen; omega) (Nat.le_refl _) ?_; intro w2 hown2 hgrow2)
  obtain ⟨cur0, hcur0, hlen0, hlt0⟩ := made_block hown2
  have HC0 : Hid (w2.heap[w1.heap.size]? = some (.cells cur0.toArray 33 (0, 0))) := hcur0
  have hb2 := (Below.refl w1.heap.size w1).grown hgrow2 (Nat.le_refl _) (fun k hk => by cases hk)
  clear hcur0 hown2 hgrow2
  go_loopw [19] (fun j wr => ∃ (k : Nat) (cur : List Value), k ≤ i ∧ j = .int .i64 k ∧ Hid (wr.heap[w1.heap.size]? = some (.cells cur.toArray 33 (0, 0))) ∧ Hid (cur.length = (n + 1) * 5) ∧ Hid (RowsIn cur k (putIn S p i) (putIn T q i) (putIn B false i)) ∧ Below w1.heap.size w1 wr) (fun j _ => i - (intOf j).toNat)
  case atStart => exact ⟨0, cur0, Nat.zero_le _, rfl, HC0, hlen0, fun j hj => by omega, hb2⟩
  case round =>
    clear HC0 hb2 hlt0 hlen0
    obtain ⟨k, cur, hk, rfl, HC, HL, HR, hbel⟩ := hrel
    by_cases hlt : k < i
    · obtain ⟨r0, r1, r2, r3, r4⟩ := (HR1.out.below hg1 hbel) k (by omega)
      simp only [Nat.zero_add] at r0 r1 r2 r3 r4
      obtain ⟨v0, c0⟩ := blk_cell HC.out (o := k * 5) (by have := HL.out; omega)
      obtain ⟨v1, c1⟩ := blk_cell HC.out (o := k * 5 + 1) (by have := HL.out; omega)
      obtain ⟨v2, c2⟩ := blk_cell HC.out (o := k * 5 + 2) (by have := HL.out; omega)
      obtain ⟨v3, c3⟩ := blk_cell HC.out (o := k * 5 + 3) (by have := HL.out; omega)
      obtain ⟨v4, c4⟩ := blk_cell HC.out (o := k * 5 + 4) (by have := HL.out; omega)
      have f0 := Lib.frozen_of_heap HC.out (k * 5)
      have f1 := Lib.frozen_of_heap HC.out (k * 5 + 1)
      have f2 := Lib.frozen_of_heap HC.out (k * 5 + 2)
      have f3 := Lib.frozen_of_heap HC.out (k * 5 + 3)
      have f4 := Lib.frozen_of_heap HC.out (k * 5 + 4)
      go_wp2
      go_roundw
      case rel =>
        refine ⟨k + 1, set5 cur (k * 5) (.string (S k)) (.string (T k)) (.pointer none) (.pointer none) (.bool (B k)), by omega, by go_num, ?_, ?_, HR.out.step' (by have := HL.out; omega) (putIn_lt _ _ hlt) (putIn_lt _ _ hlt) (putIn_lt _ _ hlt), ?_⟩
        · exact blk_set (blk_set (blk_set (blk_set (blk_set HC.out))))
        · show _ = _
          rw [set5_length]; exact HL.out
        · exact ((((hbel.setCell (p := ⟨w1.heap.size, _, none⟩) (Nat.le_refl _) _).setCell (p := ⟨w1.heap.size, _, none⟩) (Nat.le_refl _) _).setCell (p := ⟨w1.heap.size, _, none⟩) (Nat.le_refl _) _).setCell (p := ⟨w1.heap.size, _, none⟩) (Nat.le_refl _) _).setCell (p := ⟨w1.heap.size, _, none⟩) (Nat.le_refl _) _
      case measure => simp [intOf]; omega
    · have hki : k = i := by omega
      subst hki
      obtain ⟨v0, c0⟩ := blk_cell HC.out (o := k * 5) (by have := HL.out; omega)
      obtain ⟨v1, c1⟩ := blk_cell HC.out (o := k * 5 + 1) (by have := HL.out; omega)
      obtain ⟨v2, c2⟩ := blk_cell HC.out (o := k * 5 + 2) (by have := HL.out; omega)
      obtain ⟨v3, c3⟩ := blk_cell HC.out (o := k * 5 + 3) (by have := HL.out; omega)
      obtain ⟨v4, c4⟩ := blk_cell HC.out (o := k * 5 + 4) (by have := HL.out; omega)
      have f0 := Lib.frozen_of_heap HC.out (k * 5)
      have f1 := Lib.frozen_of_heap HC.out (k * 5 + 1)
      have f2 := Lib.frozen_of_heap HC.out (k * 5 + 2)
      have f3 := Lib.frozen_of_heap HC.out (k * 5 + 3)
      have f4 := Lib.frozen_of_heap HC.out (k * 5 + 4)
      go_wp2
      go_loopw [20] (fun j wx => ∃ (t : Nat) (cur' : List Value), k ≤ t ∧ t ≤ n ∧ j = .int .i64 t ∧ Hid (wx.heap[w1.heap.size]? = some (.cells cur'.toArray 33 (0, 0))) ∧ Hid (cur'.length = (n + 1) * 5) ∧ Hid (RowsIn cur' (t + 1) (putIn S p k) (putIn T q k) (putIn B false k)) ∧ Below w1.heap.size w1 wx) (fun j _ => n - (intOf j).toNat)
      case atStart =>
        refine ⟨k, set5 cur (k * 5) (.string p) (.string q) (.pointer none) (.pointer none) (.bool false), Nat.le_refl _, hi, rfl, ?_, ?_, HR.out.step' (by have := HL.out; omega) (putIn_at _ _ _) (putIn_at _ _ _) (putIn_at _ _ _), ?_⟩
        · exact blk_set (blk_set (blk_set (blk_set (blk_set HC.out))))
        · show _ = _
          rw [set5_length]; exact HL.out
        · exact ((((hbel.setCell (p := ⟨w1.heap.size, _, none⟩) (Nat.le_refl _) _).setCell (p := ⟨w1.heap.size, _, none⟩) (Nat.le_refl _) _).setCell (p := ⟨w1.heap.size, _, none⟩) (Nat.le_refl _) _).setCell (p := ⟨w1.heap.size, _, none⟩) (Nat.le_refl _) _).setCell (p := ⟨w1.heap.size, _, none⟩) (Nat.le_refl _) _
      case round =>
        clear c0 c1 c2 c3 c4 f0 f1 f2 f3 f4 HC HL HR hbel
        obtain ⟨t, cur', ht0, ht, rfl, HC, HL, HR, hbel⟩ := hrel
        by_cases hlt2 : t < n
        · obtain ⟨r0, r1, r2, r3, r4⟩ := (HR1.out.below hg1 hbel) t hlt2
          simp only [Nat.zero_add] at r0 r1 r2 r3 r4
          obtain ⟨v0, c0⟩ := blk_cell HC.out (o := (t + 1) * 5) (by have := HL.out; omega)
          obtain ⟨v1, c1⟩ := blk_cell HC.out (o := (t + 1) * 5 + 1) (by have := HL.out; omega)
          obtain ⟨v2, c2⟩ := blk_cell HC.out (o := (t + 1) * 5 + 2) (by have := HL.out; omega)
          obtain ⟨v3, c3⟩ := blk_cell HC.out (o := (t + 1) * 5 + 3) (by have := HL.out; omega)
          obtain ⟨v4, c4⟩ := blk_cell HC.out (o := (t + 1) * 5 + 4) (by have := HL.out; omega)
          have f0 := Lib.frozen_of_heap HC.out ((t + 1) * 5)
          have f1 := Lib.frozen_of_heap HC.out ((t + 1) * 5 + 1)
          have f2 := Lib.frozen_of_heap HC.out ((t + 1) * 5 + 2)
          have f3 := Lib.frozen_of_heap HC.out ((t + 1) * 5 + 3)
          have f4 := Lib.frozen_of_heap HC.out ((t + 1) * 5 + 4)
          go_wp2
          go_roundw
          case rel =>
            refine ⟨t + 1, set5 cur' ((t + 1) * 5) (.string (S t)) (.string (T t)) (.pointer none) (.pointer none) (.bool (B t)), by omega, by omega, by go_num, ?_, ?_, HR.out.step' (by have := HL.out; omega) (putIn_gt _ _ ht0) (putIn_gt _ _ ht0) (putIn_gt _ _ ht0), ?_⟩
            · exact blk_set (blk_set (blk_set (blk_set (blk_set HC.out))))
            · show _ = _
              rw [set5_length]; exact HL.out
            · exact ((((hbel.setCell (p := ⟨w1.heap.size, _, none⟩) (Nat.le_refl _) _).setCell (p := ⟨w1.heap.size, _, none⟩) (Nat.le_refl _) _).setCell (p := ⟨w1.heap.size, _, none⟩) (Nat.le_refl _) _).setCell (p := ⟨w1.heap.size, _, none⟩) (Nat.le_refl _) _).setCell (p := ⟨w1.heap.size, _, none⟩) (Nat.le_refl _) _
          case measure => simp [intOf]; omega
        · have htn : t = n := by omega
          subst htn
          have HRi : Hid (RowsAt wr w1.heap.size 0 (t + 1) (putIn S p k) (putIn T q k) (putIn B false k)) := HR.out.at HC.out
          have hgi : w1.heap.size < wr.heap.size := (Array.getElem?_eq_some_iff.1 HC.out).1
          have HRr : Hid (RowsAt wr w.heap.size 0 t S T B) := HR1.out.below hg1 hbel
          have hbw : Below w.heap.size w wr := hbel1.trans (hbel.mono hbel1.size)
          clear HC HL HR HR1 hbel
          go_wp2_with fail
          refine (breached_some w.heap.size 0 t t S T B _ (by omega) HRr).mono ?_
          rintro e w5 ⟨rfl, hb5⟩
          have HRi5 : Hid (RowsAt w5 w1.heap.size 0 (t + 1) (putIn S p k) (putIn T q k) (putIn B false k)) := HRi.out.below hgi hb5
          have hbw5 : Below w.heap.size w w5 := hbw.trans (hb5.mono hbw.size)
          clear HRi HRr hb5 hbw
          go_wp2_with fail
          refine (breached_some w1.heap.size 0 (t + 1) (t + 1) _ _ _ _ (by omega) HRi5).mono ?_
          rintro e w6 ⟨rfl, hb6⟩
          have hbw6 : Below w.heap.size w w6 := hbw5.trans (hb6.mono hbw5.size)
          clear HRi5 hb6 hbw5
          rw [HA.out]
          clear HA
          cases hx : anyB B t
          all_goals
            go_wp2
            go_ret
            exact ⟨ret_bool (by simp), hbw6⟩

set_option maxRecDepth 100000 in
set_option maxHeartbeats 4000000 in
theorem insert_main_true (ao bo co : Option Addr) (cap cap2 cap3 n i : Nat) (p q : ByteArray) (S T : Nat → ByteArray) (B : Nat → Bool) (w : World) (hn : n ≤ 65536) (hi : i ≤ n) (hp : p.size ≤ 65536) (hq : q.size ≤ 65536)
    (HS : Hid (SRow w ao n S)) (HT : Hid (SRow w bo n T)) (HB : Hid (BRow w co n B)) :
    Calls Try.prog 4 #[.slice ao n cap, .slice bo n cap2, .slice co n cap3, .int .i64 (i : Int), .string p, .string q, .bool true] w fun e w' => e = .returned (.bool true) ∧ Below w.heap.size w w' := by
  obtain ⟨i0, hi0, hz0, hz1, hz2⟩ := info_parts info33
  have HA : Hid (anyB (putIn B true i) (n + 1) = (true || anyB B n)) := anyB_insert B true i n hi
  have q1 : ((n : Int) != (n : Int)) = false := by simp
  go_enter Try.func4, Try.ntmps4
  go_wp2_with fail
  refine (zzBytes10_any ao bo co n cap n cap2 n cap3 _ p q true S T _ (by unfold maxLen; omega) (by unfold maxLen; omega) HS HT).mono ?_
  rintro e w' ⟨⟨r, rfl⟩, rfl⟩
  cases r
  · go_wp2
    go_ret
    exact ⟨rfl, Below.refl _ _⟩
  go_wp2_with fail
  refine (overBytes_any ao bo co n cap n cap2 n cap3 S T _ (by unfold maxLen; omega) (by unfold maxLen; omega) HS HT).mono ?_
  rintro e w' ⟨⟨r, rfl⟩, rfl⟩
  cases r
  rotate_left
  · go_wp2
    go_ret
    exact ⟨rfl, Below.refl _ _⟩
  go_wp2_with fail
  refine (build_any ao bo co cap cap2 cap3 n S T B _ (by omega) HS HT HB).mono ?_
  rintro e w1 ⟨rfl, hR, hg1, hbel1⟩
  have HR1 : Hid (RowsAt w1 w.heap.size 0 n S T B) := hR
  clear hR HS HT HB
  go_wp2_with (at_make; refine wpList_make_full _ rfl _ _ 27 rfl w1.heap.size 33 i0 _ 5 Try.underlying27 hi0 hz0 hz1 _ _ _ _ (n + 1) rfl rfl (by omega) (by omega) (by rw [hz2]; omega) (by unfold maxLen; omega) (Nat.le_refl _) ?_; intro w2 hown2 hgrow2)
  obtain ⟨cur0, hcur0, hlen0, hlt0⟩ := made_block hown2
  have HC0 : Hid (w2.heap[w1.heap.size]? = some (.cells cur0.toArray 33 (0, 0))) := hcur0
  have hb2 := (Below.refl w1.heap.size w1).grown hgrow2 (Nat.le_refl _) (fun k hk => by cases hk)
  clear hcur0 hown2 hgrow2
  go_loopw [19] (fun j wr => ∃ (k : Nat) (cur : List Value), k ≤ i ∧ j = .int .i64 k ∧ Hid (wr.heap[w1.heap.size]? = some (.cells cur.toArray 33 (0, 0))) ∧ Hid (cur.length = (n + 1) * 5) ∧ Hid (RowsIn cur k (putIn S p i) (putIn T q i) (putIn B true i)) ∧ Below w1.heap.size w1 wr) (fun j _ => i - (intOf j).toNat)
  case atStart => exact ⟨0, cur0, Nat.zero_le _, rfl, HC0, hlen0, fun j hj => by omega, hb2⟩
  case round =>
    clear HC0 hb2 hlt0 hlen0
    obtain ⟨k, cur, hk, rfl, HC, HL, HR, hbel⟩ := hrel
    by_cases hlt : k < i
    · obtain ⟨r0, r1, r2, r3, r4⟩ := (HR1.out.below hg1 hbel) k (by omega)
      simp only [Nat.zero_add] at r0 r1 r2 r3 r4
      obtain ⟨v0, c0⟩ := blk_cell HC.out (o := k * 5) (by have := HL.out; omega)
      obtain ⟨v1, c1⟩ := blk_cell HC.out (o := k * 5 + 1) (by have := HL.out; omega)
      obtain ⟨v2, c2⟩ := blk_cell HC.out (o := k * 5 + 2) (by have := HL.out; omega)
      obtain ⟨v3, c3⟩ := blk_cell HC.out (o := k * 5 + 3) (by have := HL.out; omega)
      obtain ⟨v4, c4⟩ := blk_cell HC.out (o := k * 5 + 4) (by have := HL.out; omega)
      have f0 := Lib.frozen_of_heap HC.out (k * 5)
      have f1 := Lib.frozen_of_heap HC.out (k * 5 + 1)
      have f2 := Lib.frozen_of_heap HC.out (k * 5 + 2)
      have f3 := Lib.frozen_of_heap HC.out (k * 5 + 3)
      have f4 := Lib.frozen_of_heap HC.out (k * 5 + 4)
      go_wp2
      go_roundw
      case rel =>
        refine ⟨k + 1, set5 cur (k * 5) (.string (S k)) (.string (T k)) (.pointer none) (.pointer none) (.bool (B k)), by omega, by go_num, ?_, ?_, HR.out.step' (by have := HL.out; omega) (putIn_lt _ _ hlt) (putIn_lt _ _ hlt) (putIn_lt _ _ hlt), ?_⟩
        · exact blk_set (blk_set (blk_set (blk_set (blk_set HC.out))))
        · show _ = _
          rw [set5_length]; exact HL.out
        · exact ((((hbel.setCell (p := ⟨w1.heap.size, _, none⟩) (Nat.le_refl _) _).setCell (p := ⟨w1.heap.size, _, none⟩) (Nat.le_refl _) _).setCell (p := ⟨w1.heap.size, _, none⟩) (Nat.le_refl _) _).setCell (p := ⟨w1.heap.size, _, none⟩) (Nat.le_refl _) _).setCell (p := ⟨w1.heap.size, _, none⟩) (Nat.le_refl _) _
      case measure => simp [intOf]; omega
    · have hki : k = i := by omega
      subst hki
      obtain ⟨v0, c0⟩ := blk_cell HC.out (o := k * 5) (by have := HL.out; omega)
      obtain ⟨v1, c1⟩ := blk_cell HC.out (o := k * 5 + 1) (by have := HL.out; omega)
      obtain ⟨v2, c2⟩ := blk_cell HC.out (o := k * 5 + 2) (by have := HL.out; omega)
      obtain ⟨v3, c3⟩ := blk_cell HC.out (o := k * 5 + 3) (by have := HL.out; omega)
      obtain ⟨v4, c4⟩ := blk_cell HC.out (o := k * 5 + 4) (by have := HL.out; omega)
      have f0 := Lib.frozen_of_heap HC.out (k * 5)
      have f1 := Lib.frozen_of_heap HC.out (k * 5 + 1)
      have f2 := Lib.frozen_of_heap HC.out (k * 5 + 2)
      have f3 := Lib.frozen_of_heap HC.out (k * 5 + 3)
      have f4 := Lib.frozen_of_heap HC.out (k * 5 + 4)
      go_wp2
      go_loopw [20] (fun j wx => ∃ (t : Nat) (cur' : List Value), k ≤ t ∧ t ≤ n ∧ j = .int .i64 t ∧ Hid (wx.heap[w1.heap.size]? = some (.cells cur'.toArray 33 (0, 0))) ∧ Hid (cur'.length = (n + 1) * 5) ∧ Hid (RowsIn cur' (t + 1) (putIn S p k) (putIn T q k) (putIn B true k)) ∧ Below w1.heap.size w1 wx) (fun j _ => n - (intOf j).toNat)
      case atStart =>
        refine ⟨k, set5 cur (k * 5) (.string p) (.string q) (.pointer none) (.pointer none) (.bool true), Nat.le_refl _, hi, rfl, ?_, ?_, HR.out.step' (by have := HL.out; omega) (putIn_at _ _ _) (putIn_at _ _ _) (putIn_at _ _ _), ?_⟩
        · exact blk_set (blk_set (blk_set (blk_set (blk_set HC.out))))
        · show _ = _
          rw [set5_length]; exact HL.out
        · exact ((((hbel.setCell (p := ⟨w1.heap.size, _, none⟩) (Nat.le_refl _) _).setCell (p := ⟨w1.heap.size, _, none⟩) (Nat.le_refl _) _).setCell (p := ⟨w1.heap.size, _, none⟩) (Nat.le_refl _) _).setCell (p := ⟨w1.heap.size, _, none⟩) (Nat.le_refl _) _).setCell (p := ⟨w1.heap.size, _, none⟩) (Nat.le_refl _) _
      case round =>
        clear c0 c1 c2 c3 c4 f0 f1 f2 f3 f4 HC HL HR hbel
        obtain ⟨t, cur', ht0, ht, rfl, HC, HL, HR, hbel⟩ := hrel
        by_cases hlt2 : t < n
        · obtain ⟨r0, r1, r2, r3, r4⟩ := (HR1.out.below hg1 hbel) t hlt2
          simp only [Nat.zero_add] at r0 r1 r2 r3 r4
          obtain ⟨v0, c0⟩ := blk_cell HC.out (o := (t + 1) * 5) (by have := HL.out; omega)
          obtain ⟨v1, c1⟩ := blk_cell HC.out (o := (t + 1) * 5 + 1) (by have := HL.out; omega)
          obtain ⟨v2, c2⟩ := blk_cell HC.out (o := (t + 1) * 5 + 2) (by have := HL.out; omega)
          obtain ⟨v3, c3⟩ := blk_cell HC.out (o := (t + 1) * 5 + 3) (by have := HL.out; omega)
          obtain ⟨v4, c4⟩ := blk_cell HC.out (o := (t + 1) * 5 + 4) (by have := HL.out; omega)
          have f0 := Lib.frozen_of_heap HC.out ((t + 1) * 5)
          have f1 := Lib.frozen_of_heap HC.out ((t + 1) * 5 + 1)
          have f2 := Lib.frozen_of_heap HC.out ((t + 1) * 5 + 2)
          have f3 := Lib.frozen_of_heap HC.out ((t + 1) * 5 + 3)
          have f4 := Lib.frozen_of_heap HC.out ((t + 1) * 5 + 4)
          go_wp2
          go_roundw
          case rel =>
            refine ⟨t + 1, set5 cur' ((t + 1) * 5) (.string (S t)) (.string (T t)) (.pointer none) (.pointer none) (.bool (B t)), by omega, by omega, by go_num, ?_, ?_, HR.out.step' (by have := HL.out; omega) (putIn_gt _ _ ht0) (putIn_gt _ _ ht0) (putIn_gt _ _ ht0), ?_⟩
            · exact blk_set (blk_set (blk_set (blk_set (blk_set HC.out))))
            · show _ = _
              rw [set5_length]; exact HL.out
            · exact ((((hbel.setCell (p := ⟨w1.heap.size, _, none⟩) (Nat.le_refl _) _).setCell (p := ⟨w1.heap.size, _, none⟩) (Nat.le_refl _) _).setCell (p := ⟨w1.heap.size, _, none⟩) (Nat.le_refl _) _).setCell (p := ⟨w1.heap.size, _, none⟩) (Nat.le_refl _) _).setCell (p := ⟨w1.heap.size, _, none⟩) (Nat.le_refl _) _
          case measure => simp [intOf]; omega
        · have htn : t = n := by omega
          subst htn
          have HRi : Hid (RowsAt wr w1.heap.size 0 (t + 1) (putIn S p k) (putIn T q k) (putIn B true k)) := HR.out.at HC.out
          have hgi : w1.heap.size < wr.heap.size := (Array.getElem?_eq_some_iff.1 HC.out).1
          have HRr : Hid (RowsAt wr w.heap.size 0 t S T B) := HR1.out.below hg1 hbel
          have hbw : Below w.heap.size w wr := hbel1.trans (hbel.mono hbel1.size)
          clear HC HL HR HR1 hbel
          go_wp2_with fail
          refine (breached_some w.heap.size 0 t t S T B _ (by omega) HRr).mono ?_
          rintro e w5 ⟨rfl, hb5⟩
          have HRi5 : Hid (RowsAt w5 w1.heap.size 0 (t + 1) (putIn S p k) (putIn T q k) (putIn B true k)) := HRi.out.below hgi hb5
          have hbw5 : Below w.heap.size w w5 := hbw.trans (hb5.mono hbw.size)
          clear HRi HRr hb5 hbw
          go_wp2_with fail
          refine (breached_some w1.heap.size 0 (t + 1) (t + 1) _ _ _ _ (by omega) HRi5).mono ?_
          rintro e w6 ⟨rfl, hb6⟩
          have hbw6 : Below w.heap.size w w6 := hbw5.trans (hb6.mono hbw5.size)
          clear HRi5 hb6 hbw5
          rw [HA.out]
          clear HA
          cases hx : anyB B t
          all_goals
            go_wp2
            go_ret
            exact ⟨ret_bool (by simp), hbw6⟩

set_option maxRecDepth 100000 in
set_option maxHeartbeats 4000000 in
theorem insert_walk (ao bo co : Option Addr) (n cap m cap2 l cap3 : Nat) (k0 : Int) (p q : ByteArray) (b : Bool) (w : World) (w0 : IsStrs w ao n cap) (w1 : IsStrs w bo m cap2) (w2 : IsBools w co l cap3) (wp : p.size ≤ maxLen) (wq : q.size ≤ maxLen) :
    Calls Try.prog 4 #[.slice ao n cap, .slice bo m cap2, .slice co l cap3, .int .i64 k0, .string p, .string q, .bool b] w fun e w' => e = .returned (.bool true) ∧ Below w.heap.size w w' := by
  obtain ⟨m0, S, hS⟩ := w0
  obtain ⟨m1, T, hT⟩ := w1
  obtain ⟨m2, B, hB⟩ := w2
  have HS : Hid (SRow w ao n S) := hS
  have HT : Hid (SRow w bo m T) := hT
  have HB : Hid (BRow w co l B) := hB
  clear hS hT hB
  by_cases hall : ((n = l ∧ m = l) ∧ l ≤ 65536) ∧ (p.size ≤ 65536 ∧ q.size ≤ 65536) ∧ 0 ≤ k0 ∧ k0 ≤ l
  · obtain ⟨⟨⟨rfl, rfl⟩, hl⟩, ⟨hp, hq⟩, hk0, hk1⟩ := hall
    obtain ⟨k, rfl⟩ := Int.eq_ofNat_of_zero_le hk0
    cases b
    · exact insert_main_false ao bo co cap cap2 cap3 m k p q S T B w hl (by omega) hp hq HS HT HB
    · exact insert_main_true ao bo co cap cap2 cap3 m k p q S T B w hl (by omega) hp hq HS HT HB
  · have m0' : n ≤ maxLen := m0
    have m1' : m ≤ maxLen := m1
    unfold maxLen at m0 m1 m2 wp wq
    have hcs : (¬ n ≤ 65536 ∨ (n ≤ 65536 ∧ ¬ m ≤ 65536) ∨ (n ≤ 65536 ∧ m ≤ 65536 ∧ ¬ l ≤ 65536)) ∨
        ((n ≤ 65536 ∧ m ≤ 65536 ∧ l ≤ 65536) ∧ (¬ p.size ≤ 65536 ∨ (p.size ≤ 65536 ∧ ¬ q.size ≤ 65536))) ∨
        (n ≤ 65536 ∧ m ≤ 65536 ∧ l ≤ 65536 ∧ p.size ≤ 65536 ∧ q.size ≤ 65536 ∧ (((n : Int) != (l : Int)) = true ∨ ((((n : Int) != (l : Int)) = false ∧ ((m : Int) != (l : Int)) = true) ∨ ((((n : Int) != (l : Int)) = false ∧ ((m : Int) != (l : Int)) = false ∧ k0 < 0) ∨ (((n : Int) != (l : Int)) = false ∧ ((m : Int) != (l : Int)) = false ∧ 0 ≤ k0 ∧ (l : Int) < k0))))) := by
      simp only [bne_iff_ne, ne_eq, bne_eq_false_iff_eq]
      omega
    clear hall
    rcases hcs with hA | ⟨⟨hn, hm, hl⟩, hA⟩ | ⟨hn, hm, hl, hp, hq, hB⟩
    · rcases hA with hA | ⟨hA1, hA2⟩ | ⟨hA1, hA2, hA3⟩
      all_goals
        go_enter Try.func4, Try.ntmps4
        go_wp2_with fail
        refine (zzBytes10_any ao bo co n cap m cap2 l cap3 _ p q b S T _ m0' m1' HS HT).mono ?_
        rintro e w' ⟨⟨r, rfl⟩, rfl⟩
        cases r
        all_goals
          go_wp2_with fail
          go_ret
          exact ⟨rfl, Below.refl _ _⟩
    · rcases hA with hA | ⟨hA1, hA2⟩
      all_goals
        go_enter Try.func4, Try.ntmps4
        go_wp2_with fail
        refine (zzBytes10_any ao bo co n cap m cap2 l cap3 _ p q b S T _ m0' m1' HS HT).mono ?_
        rintro e w' ⟨⟨r, rfl⟩, rfl⟩
        cases r
        all_goals
          go_wp2_with fail
          go_ret
          exact ⟨rfl, Below.refl _ _⟩
    · rcases hB with hB | ⟨hB1, hB2⟩ | ⟨hB1, hB2, hB3⟩ | ⟨hB1, hB2, hB3, hB4⟩
      all_goals
        go_enter Try.func4, Try.ntmps4
        go_wp2_with fail
        refine (zzBytes10_any ao bo co n cap m cap2 l cap3 _ p q b S T _ m0' m1' HS HT).mono ?_
        rintro e w' ⟨⟨r, rfl⟩, rfl⟩
        cases r
        · go_wp2
          go_ret
          exact ⟨rfl, Below.refl _ _⟩
        go_wp2_with fail
        refine (overBytes_any ao bo co n cap m cap2 l cap3 S T _ m0' m1' HS HT).mono ?_
        rintro e w' ⟨⟨r, rfl⟩, rfl⟩
        cases r
        all_goals
          go_wp2_with fail
          go_ret
          exact ⟨rfl, Below.refl _ _⟩

end Go.Proofs.Qxb6630379a
