import Derived.Test.Qxb6630289aModel
import Derived.Laws.CopyOwn
import Derived.Deep.DeepCutAuto
import Derived.OpenShut
namespace Go.Proofs.Qxb6630289a
set_option linter.unusedVariables false
set_option linter.unusedSimpArgs false
open Go.RowKit

theorem info5 : (Try.prog.info? 5).map (fun i => (i.zero, i.size, i.bytes)) = some (some (.int .u8 0), 1, 1) := by kernel_rfl
theorem size5 : (Try.prog.info? 5).map (·.size) = some 1 := by kernel_rfl

/-- A slice of bytes: nil and empty, or a row from a block's head on. -/
def Row (w : World) (ao : Option Addr) (xs : List Int) : Prop :=
  (ao = none ∧ xs = []) ∨ ∃ g, ao = some ⟨g, 0, none⟩ ∧ g < w.heap.size ∧ ∀ i, i < xs.length → w.cell? ⟨g, i, none⟩ = some (.int .u8 (xs.getD i 0))

/-- What the walk is told of a slice of integers that came in. -/
def IsRow (k : IntKind) (w : World) (a : Option Addr) (len cap : Nat) (zs : List Int) : Prop :=
  (a = none ∧ len = 0 ∧ cap = 0 ∧ zs = []) ∨
  ∃ x, a = some x ∧ len ≤ cap ∧ cap ≤ maxLen ∧ zs.length = cap ∧ (∀ i, i < zs.length → w.cell? (x.add i) = some (.int k (zs.getD i 0))) ∧ ∀ n ∈ zs, (Lit.int k n).wf = true

/-- A slice that came in: nil, or a row of cells. -/
def InRow (w : World) (ao : Option Addr) (cap : Nat) (xs : List Int) : Prop :=
  (ao = none ∧ cap = 0 ∧ xs = []) ∨ ∃ x, ao = some x ∧ ∀ j v, (xs.map (Value.int .u8))[j]? = some v → w.cell? (x.add j) = some v

theorem InRow.of_isRow {w : World} {a : Option Addr} {len cap : Nat} {zs : List Int} (h : IsRow .u8 w a len cap zs) : InRow w a cap (zs.take len) ∧ (zs.take len).length = len ∧ len ≤ maxLen := by
  rcases h with ⟨rfl, rfl, rfl, rfl⟩ | ⟨x, rfl, hl, hm, hz, hcell, hwz⟩
  · exact ⟨.inl ⟨rfl, rfl, rfl⟩, rfl, Nat.zero_le _⟩
  · refine ⟨.inr ⟨x, rfl, fun j v hj => ?_⟩, by simp; omega, by omega⟩
    have hj' := (List.getElem?_eq_some_iff.1 hj).1
    simp at hj'
    have e := hcell j (by omega)
    rw [e]
    rw [List.getElem?_map, List.getElem?_take_of_lt (by omega)] at hj
    simp [List.getD] at hj ⊢
    obtain ⟨z, hz1, rfl⟩ := hj
    simp [hz1]

theorem made_block {w : World} {base e g n : Nat} {xs : List Value} (h : w.ownsRow base e 1 (.slice (some ⟨g, 0, none⟩) n n) n xs) :
    ∃ cur : List Value, w.heap[g]? = some (.cells cur.toArray e (0, 0)) ∧ cur.length = n ∧ g < w.heap.size := by
  have hlt := (h.lt g rfl).2
  rcases h.2 with ⟨h0, _⟩ | ⟨g', cap, cur, hv, _, hh, _, _, hc, _⟩
  · cases h0
  · cases hv
    exact ⟨cur.toList, by simpa using hh, by simpa using hc, hlt⟩

theorem splice_all {α : Type} (cur cs : List α) (h : cur.length = cs.length) : splice cur 0 cs = cs := by
  unfold splice; simp [List.drop_of_length_le, h]

theorem row_of_block {w : World} {g : Nat} {xs : List Int} {t : TypeId} (h : w.heap[g]? = some (.cells (xs.map (Value.int .u8)).toArray t (0, 0))) : Row w (some ⟨g, 0, none⟩) xs := by
  refine .inr ⟨g, rfl, (Array.getElem?_eq_some_iff.1 h).1, fun i hi => ?_⟩
  rw [cell_of_row w g i _ t (0, 0) h]
  simp [List.getD, hi]

theorem in_cells {w W : World} {x : Addr} {X : List Value} (h : ∀ j v, X[j]? = some v → w.cell? (x.add j) = some v) (hb : Below w.heap.size w W) : ∀ j v, X[j]? = some v → W.cell? (x.add j) = some v :=
  fun j v hj => (hb.cell (World.block_lt_of_cell? w _ (h j v hj))).trans (h j v hj)

theorem u8_oneCell {X : List Value} {A : List Int} (h : X = A.map (Value.int .u8)) : ∀ v ∈ X, v.oneCell' = true := by rw [h]; exact ints_oneCell .u8 A

theorem row_copied {w : World} {g : Nat} {A : List Int} {X cur : List Value} {t : TypeId} (HX : X = A.map (Value.int .u8)) (hl : cur.length = X.length)
    (h : w.heap[g]? = some (.cells (splice cur 0 X).toArray t (0, 0))) : Row w (some ⟨g, 0, none⟩) A := by
  rw [splice_all _ _ hl, HX] at h
  exact row_of_block h

/-- The bytes as a function of the place. -/
def fn (xs : List Int) : Nat → Int := fun j => xs.getD j 0

theorem valueEnd_any (ao : Option Addr) (cap n i : Nat) (f : Nat → Int) (w : World) (hn : n ≤ 1048576)
    (hc : i < n → ∃ g, ao = some ⟨g, 0, none⟩ ∧ ∀ j, j < n → w.cell? ⟨g, j, none⟩ = some (.int .u8 (f j))) :
    Calls Try.prog 10 #[.slice ao n cap, .int .i64 (i : Int)] w fun e w' => ∃ v, e = .returned (.int .i64 v) ∧ VEnd f n i v ∧ w = w' := by
  by_cases hi : i < n
  · obtain ⟨g, rfl, hcell⟩ := hc hi
    have hcell' : ∀ j, j < n → w.cell? ⟨g, 0 + j, none⟩ = some (.int .u8 (f j)) := fun j hj => by rw [Nat.zero_add]; exact hcell j hj
    cases ho : opener (f i)
    · exact valueEnd_lit g 0 cap n i f w hn hi ho hcell'
    · by_cases h34 : f i = 34
      · exact valueEnd_str g 0 cap n i f w hn hi h34 hcell'
      · exact valueEnd_box g 0 cap n i f w hn hi (by simpa [opener, h34] using ho) hcell'
  · refine (valueEnd_far ao cap n i w (by omega)).mono ?_
    rintro e w' ⟨rfl, rfl⟩
    exact ⟨_, rfl, .inl ⟨by omega, rfl⟩, rfl⟩

theorem model_any (ao : Option Addr) (cap n i : Nat) (f : Nat → Int) (w : World) (hn : n ≤ 1048576)
    (hc : i < n → ∃ g, ao = some ⟨g, 0, none⟩ ∧ ∀ j, j < n → w.cell? ⟨g, j, none⟩ = some (.int .u8 (f j))) :
    Calls Try.prog 7 #[.slice ao n cap, .int .i64 (i : Int)] w fun e w' => ∃ v, e = .returned (.int .i64 v) ∧ VEnd f n i v ∧ w = w' := by
  by_cases hi : i < n
  · obtain ⟨g, rfl, hcell⟩ := hc hi
    have hcell' : ∀ j, j < n → w.cell? ⟨g, 0 + j, none⟩ = some (.int .u8 (f j)) := fun j hj => by rw [Nat.zero_add]; exact hcell j hj
    cases ho : opener (f i)
    · exact model_lit g 0 cap n i f w hn hi ho hcell'
    · exact model_box g 0 cap n i f w hn hi ho hcell'
  · refine (model_far ao cap n i w (by omega)).mono ?_
    rintro e w' ⟨rfl, rfl⟩
    exact ⟨_, rfl, .inl ⟨by omega, rfl⟩, rfl⟩

set_option maxHeartbeats 400000 in
theorem zz_any (ao : Option Addr) (cap n i : Nat) (f : Nat → Int) (w : World) (hn : n ≤ 1048576)
    (hc : i < n → ∃ g, ao = some ⟨g, 0, none⟩ ∧ ∀ j, j < n → w.cell? ⟨g, j, none⟩ = some (.int .u8 (f j))) :
    Calls Try.prog 6 #[.slice ao n cap, .int .i64 (i : Int)] w fun e w' => ∃ v, e = .returned (.int .i64 v) ∧ VEnd f n i v ∧ w = w' := by
  have Hc : Hid (i < n → ∃ g, ao = some ⟨g, 0, none⟩ ∧ ∀ j, j < n → w.cell? ⟨g, j, none⟩ = some (.int .u8 (f j))) := hc
  clear hc
  go_enter Try.func6, Try.ntmps6
  go_wp2_with fail
  refine (valueEnd_any ao cap n i f _ hn Hc.out).mono ?_
  rintro e w' ⟨v, rfl, hV, rfl⟩
  have HV : Hid (VEnd f n i v) := hV
  clear hV
  go_wp2
  go_ret
  exact ⟨v, rfl, HV.out, rfl⟩

theorem row_fn {w : World} {ao : Option Addr} {xs : List Int} {n m i : Nat} (h : Row w ao xs) (hl : xs.length = n) (hm : m ≤ n) : i < m → ∃ g, ao = some ⟨g, 0, none⟩ ∧ ∀ j, j < m → w.cell? ⟨g, j, none⟩ = some (.int .u8 (fn xs j)) := by
  intro hi
  rcases h with ⟨rfl, rfl⟩ | ⟨g, rfl, _, hc⟩
  · simp at hl; omega
  · exact ⟨g, rfl, fun j hj => hc j (by omega)⟩

end Go.Proofs.Qxb6630289a
