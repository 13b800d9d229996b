import Derived.Test.Qxb6630239aFmtDecode
import Derived.Deep.DeepCutAuto
import Derived.Deep.QuietTactic
import Derived.BigQuiet
import Derived.OpenShut
namespace Go.Proofs.Qxb6630239aFmt
set_option linter.unusedVariables false
set_option linter.unusedSimpArgs false
open Go.RowKit Go.Extern.Stop Go.Stop Go.Extern

/-- A slice of bytes: nil and empty, or a row from a block's head on. -/
def Row (w : World) (ao : Option Addr) (xs : List Int) : Prop :=
  (ao = none ∧ xs = []) ∨ ∃ g, ao = some ⟨g, 0, none⟩ ∧ g < w.heap.size ∧ ∀ i, i < xs.length → w.cell? ⟨g, i, none⟩ = some (.int .u8 (xs.getD i 0))

theorem Row.below {w w' : World} {ao : Option Addr} {xs : List Int} (h : Row w ao xs) (hb : Below w.heap.size w w') : Row w' ao xs := by
  rcases h with h | ⟨g, rfl, hg, hc⟩
  · exact .inl h
  · exact .inr ⟨g, rfl, Nat.lt_of_lt_of_le hg hb.size, fun i hi => (hb.cell (p := ⟨g, i, none⟩) hg).trans (hc i hi)⟩

/-- What the walk is told of a slice of integers that came in. -/
def IsRow (k : IntKind) (w : World) (a : Option Addr) (len cap : Nat) (zs : List Int) : Prop :=
  (a = none ∧ len = 0 ∧ cap = 0 ∧ zs = []) ∨
  ∃ x, a = some x ∧ len ≤ cap ∧ cap ≤ maxLen ∧ zs.length = cap ∧ (∀ i, i < zs.length → w.cell? (x.add i) = some (.int k (zs.getD i 0))) ∧ ∀ n ∈ zs, (Lit.int k n).wf = true

/-- A slice that came in: nil, or a row of cells. -/
def InRow (w : World) (ao : Option Addr) (cap : Nat) (xs : List Int) : Prop :=
  (ao = none ∧ cap = 0 ∧ xs = []) ∨ ∃ x, ao = some x ∧ ∀ j v, (xs.map (Value.int .u8))[j]? = some v → w.cell? (x.add j) = some v

theorem made_block {w : World} {base e g n : Nat} {xs : List Value} (h : w.ownsRow base e 1 (.slice (some ⟨g, 0, none⟩) n n) n xs) :
    ∃ cur : List Value, w.heap[g]? = some (.cells cur.toArray e (0, 0)) ∧ cur.length = n ∧ g < w.heap.size := by
  have hlt := (h.lt g rfl).2
  rcases h.2 with ⟨h0, _⟩ | ⟨g', cap, cur, hv, _, hh, _, _, hc, _⟩
  · cases h0
  · cases hv
    exact ⟨cur.toList, by simpa using hh, by simpa using hc, hlt⟩

theorem splice_all {α : Type} (cur cs : List α) (h : cur.length = cs.length) : splice cur 0 cs = cs := by
  unfold splice; simp [List.drop_of_length_le, h]

theorem row_of_block {w : World} {g : Nat} {xs : List Int} {t : TypeId} (h : w.heap[g]? = some (.cells (xs.map (Value.int .u8)).toArray t (0, 0))) : Row w (some ⟨g, 0, none⟩) xs := by
  refine .inr ⟨g, rfl, (Array.getElem?_eq_some_iff.1 h).1, fun i hi => ?_⟩
  rw [cell_of_row w g i _ t (0, 0) h]
  simp [List.getD, hi]

theorem size5 : (Tryf.prog.info? 5).map (·.size) = some 1 := by kernel_rfl

theorem in_cells {w W : World} {x : Addr} {X : List Value} (h : ∀ j v, X[j]? = some v → w.cell? (x.add j) = some v) (hb : Below w.heap.size w W) : ∀ j v, X[j]? = some v → W.cell? (x.add j) = some v :=
  fun j v hj => (hb.cell (World.block_lt_of_cell? w _ (h j v hj))).trans (h j v hj)

theorem u8_oneCell {X : List Value} {A : List Int} (h : X = A.map (Value.int .u8)) : ∀ v ∈ X, v.oneCell' = true := by rw [h]; exact ints_oneCell .u8 A

theorem row_copied {w : World} {g : Nat} {A : List Int} {X cur : List Value} {t : TypeId} (HX : X = A.map (Value.int .u8)) (hl : cur.length = X.length)
    (h : w.heap[g]? = some (.cells (splice cur 0 X).toArray t (0, 0))) : Row w (some ⟨g, 0, none⟩) A := by
  rw [splice_all _ _ hl, HX] at h
  exact row_of_block h

theorem row_none {w : World} {ao : Option Addr} {xs : List Int} {n : Nat} (h : Row w ao xs) (hn : xs.length = n) (h0 : ao = none) : n = 0 ∧ n = 0 := by
  rcases h with ⟨_, rfl⟩ | ⟨g, rfl, _⟩
  · simp at hn; omega
  · cases h0

theorem row_cells {w W : World} {ao : Option Addr} {A : List Int} {X : List Value} (h : Row w ao A) (hb : Below w.heap.size w W) (HX : X = A.map (Value.int .u8)) : ∀ ad, ao = some ad → ∀ j u, X[j]? = some u → W.cell? (ad.add j) = some u := by
  intro ad had j u hu
  rcases h with ⟨rfl, _⟩ | ⟨g, rfl, hg, hc⟩
  · cases had
  · cases had
    subst HX
    have hj : j < A.length := by have := (List.getElem?_eq_some_iff.1 hu).1; simpa using this
    rw [Addr.add_lit, Nat.zero_add, hb.cell (p := ⟨g, j, none⟩) hg, hc j hj]
    simp [List.getElem?_map, hj] at hu
    simp [List.getD, hj, hu]

theorem row_owned {w : World} {base e g n cap : Nat} {xs : List Int} (h : w.ownsRow base e 1 (.slice (some ⟨g, 0, none⟩) n cap) n (xs.map (Value.int .u8))) : Row w (some ⟨g, 0, none⟩) xs := by
  refine .inr ⟨g, rfl, (h.lt g rfl).2, fun i hi => ?_⟩
  have := h.cells (g := g) rfl i (.int .u8 (xs.getD i 0)) (by simp [List.getD, hi])
  rw [Addr.add_lit, Nat.zero_add] at this
  exact this

theorem decode_any (F : Interp) (ao : Option Addr) (cap n : Nat) (xs : List Int) (w : World) (hF : F.answers w.tape) (hn : xs.length = n) (hle : n ≤ 1048577) (hx : ∀ i, i < n → 0 ≤ xs.getD i 0 ∧ xs.getD i 0 ≤ 255)
    (hR : Row w ao xs) (hcap : n = 0 → cap = 0) :
    Calls Tryf.prog 8 #[.slice ao n cap] w fun e w' => Below w.heap.size w w' ∧ DecOut w w' e (dec xs) := by
  rcases hR with ⟨rfl, rfl⟩ | ⟨g, rfl, _, hc⟩
  · simp at hn
    subst hn
    rw [hcap rfl]
    exact decode_nil w
  · exact decode_some F g 0 cap n xs w hF hn hle hx (fun i hi => by rw [Nat.zero_add]; exact hc i (by omega))

set_option maxRecDepth 100000 in
set_option maxHeartbeats 2000000 in
theorem split_main (F : Interp) (a0 a1 : Option Addr) (c0 c1 la lb : Nat) (A B : List Int) (c : Int) (w : World) (hF : F.answers w.tape)
    (ha : la ≤ 524288) (hb : lb ≤ 524288) (hs : la + lb ≤ 1048576) (hbl : blank c = true) (hA : A.length = la) (hB : B.length = lb) (HiA : Hid (InRow w a0 c0 A)) (HiB : Hid (InRow w a1 c1 B))
    (HxA : Hid (∀ i, i < la → 0 ≤ A.getD i 0 ∧ A.getD i 0 ≤ 255)) (HxB : Hid (∀ i, i < lb → 0 ≤ B.getD i 0 ∧ B.getD i 0 ≤ 255)) (HxJ : Hid (∀ i, i < la + 1 + lb → 0 ≤ (A ++ c :: B).getD i 0 ∧ (A ++ c :: B).getD i 0 ≤ 255)) :
    Calls Tryf.prog 4 #[.slice a0 la c0, .slice a1 lb c1, .int .u8 c] w fun e w' => e = .returned (.bool true) ∧ Below w.heap.size w w' := by
  obtain ⟨i0, hi, hz0, hz1, hz2⟩ := info_parts info5
  have hd : decide (la + lb ≤ 1048576) = true := by simpa using hs
  have hnil := fun (W : World) (x : Option Addr) (n k : Nat) => run_neq_slice_nil_any (P := Tryf.prog) W 22 5 x n k 0 0 Tryf.underlying22
  have hnil2 := fun (W : World) (x : Option Addr) (n k : Nat) => Lib.run_eql_slice_nil (P := Tryf.prog) W 22 5 x n k 0 0 Tryf.underlying22
  have hLA : (A.map (Value.int .u8)).length = la := by simp [hA]
  have hLB : (B.map (Value.int .u8)).length = lb := by simp [hB]
  obtain ⟨X, HX⟩ : ∃ X, Hid (X = A.map (Value.int .u8)) := ⟨_, rfl⟩
  obtain ⟨Y, HY⟩ : ∃ Y, Hid (Y = B.map (Value.int .u8)) := ⟨_, rfl⟩
  have hX : X.length = la := by rw [HX.out]; exact hLA
  have hY : Y.length = lb := by rw [HY.out]; exact hLB
  have HoX : Hid (∀ v ∈ X, v.oneCell' = true) := u8_oneCell HX.out
  have HoY : Hid (∀ v ∈ Y, v.oneCell' = true) := u8_oneCell HY.out
  clear hLA hLB
  go_enter Tryf.func4, Tryf.ntmps4
  go_upto_if 37 with (first | (go_at_call 9; refine (zzBytes9_any _ _ _ _ _ _ _ _ (by unfold maxLen; omega) (by unfold maxLen; omega)).mono ?_; rintro e w' ⟨rfl, rfl⟩) | (go_at_call 6; refine (zzBlank_any _ _).mono ?_; rintro e w' ⟨rfl, rfl⟩))
  go_cut [0] from 22 to 44 (fun v wc => ∃ ao, v = .slice ao la la ∧ Row wc ao A ∧ Below w.heap.size w wc)
  case first =>
    rcases HiA.out with ⟨rfl, rfl, hA0⟩ | ⟨x, rfl, hcx⟩
    · have hl0 : la = 0 := by rw [← hA, hA0]; rfl
      have HA0 : Hid (A = []) := hA0
      clear hA0
      subst hl0
      go_wp2
      go_meet
      case rel => exact ⟨none, rfl, .inl ⟨rfl, HA0.out⟩, Below.refl _ _⟩
    · have Hcx : Hid (∀ j v, X[j]? = some v → w.cell? (x.add j) = some v) := by rw [HX.out]; exact hcx
      clear hcx
      go_wp2_with (first | (at_make; go_must (refine wpList_make_full _ rfl _ _ 22 rfl w.heap.size 5 i0 (.int .u8 0) 1 Tryf.underlying22 hi hz0 hz1 _ _ _ _ la rfl rfl rfl rfl (by rw [hz2]; omega) (by unfold maxLen; omega) (Nat.le_refl _) ?_); intro w1 hown1 hgrow1; obtain ⟨cur, hcur, hcl, hlt1⟩ := made_block hown1; have hb1 := (Below.refl w.heap.size w).grown hgrow1 (Nat.le_refl _) (fun k hk => by cases hk)) | (refine wpList_copy_splice rfl (.tmp 41) (.tmp 42) 22 22 rfl 5 Tryf.underlying22 size5 _ _ _ _ _ _ rfl rfl w.heap.size 0 cur 5 hcur X (by simp [hX]) (fun _ => ⟨rfl, x, rfl, in_cells Hcx.out hb1⟩) (by omega) HoX.out w.heap.size w hb1 (Nat.le_refl _) ?_; intro w2 HG2 hB2))
      go_meet
      case rel => exact ⟨some ⟨w.heap.size, 0, none⟩, rfl, row_copied HX.out (by omega) HG2.out, hB2⟩
  case rest =>
    obtain ⟨ao, rfl, hRA, hbel⟩ := hcut
    have HRA : Hid (Row wc ao A) := hRA
    clear hRA
    go_upto_if 46 with fail
    go_cut [1] from 22 to 53 (fun v wd => ∃ bo, v = .slice bo lb lb ∧ Row wd bo B ∧ Row wd ao A ∧ Below w.heap.size w wd)
    case first =>
      rcases HiB.out with ⟨rfl, rfl, hB0⟩ | ⟨x, rfl, hcx⟩
      · have hl0 : lb = 0 := by rw [← hB, hB0]; rfl
        have HB0 : Hid (B = []) := hB0
        clear hB0
        subst hl0
        go_wp2
        go_meet
        case rel => exact ⟨none, rfl, .inl ⟨rfl, HB0.out⟩, HRA.out, hbel⟩
      · have Hcx : Hid (∀ j v, Y[j]? = some v → w.cell? (x.add j) = some v) := by rw [HY.out]; exact hcx
        clear hcx
        go_wp2_with (first | (at_make; go_must (refine wpList_make_full _ rfl _ _ 22 rfl wc.heap.size 5 i0 (.int .u8 0) 1 Tryf.underlying22 hi hz0 hz1 _ _ _ _ lb rfl rfl rfl rfl (by rw [hz2]; omega) (by unfold maxLen; omega) (Nat.le_refl _) ?_); intro w1 hown1 hgrow1; obtain ⟨cur, hcur, hcl, hlt1⟩ := made_block hown1; have hb1 := (Below.refl wc.heap.size wc).grown hgrow1 (Nat.le_refl _) (fun k hk => by cases hk)) | (refine wpList_copy_splice rfl (.tmp 50) (.tmp 51) 22 22 rfl 5 Tryf.underlying22 size5 _ _ _ _ _ _ rfl rfl wc.heap.size 0 cur 5 hcur Y (by simp [hY]) (fun _ => ⟨rfl, x, rfl, in_cells Hcx.out (hbel.trans (hb1.mono hbel.size))⟩) (by omega) HoY.out wc.heap.size wc hb1 (Nat.le_refl _) ?_; intro w2 HG2 hB2))
        go_meet
        case rel => exact ⟨some ⟨wc.heap.size, 0, none⟩, rfl, row_copied HY.out (by omega) HG2.out, HRA.out.below hB2, hbel.trans (hB2.mono hbel.size)⟩
    case rest =>
      clear HRA hbel HiA HiB
      obtain ⟨bo, rfl, hRB, hRA, hbel⟩ := hcut
      have HRA : Hid (Row wc ao A) := hRA
      have HRB : Hid (Row wc bo B) := hRB
      clear hRA hRB
      go_wp2_with (first | (at_make; refine wpList_make_own _ rfl _ _ 22 rfl wc.heap.size 5 i0 (.int .u8 0) 1 Tryf.underlying22 hi hz0 hz1 _ _ _ (la + 1 + lb) rfl rfl (by omega) (by rw [hz2]; omega) (by unfold maxLen; omega) (Nat.le_refl _) ?_; intro w1 hown1 hgrow1; have hb1 := (Below.refl wc.heap.size wc).grown hgrow1 (Nat.le_refl _) (fun k hk => by cases hk)) | (at_builtin; refine wpList_append_fits_any _ rfl (.tmp 61) (.tmp 62) 22 rfl wc.heap.size 5 i0 1 Tryf.underlying22 hi hz1 wc.heap.size 0 (la + 1 + lb) [] rfl hown1 ao la la X rfl (by omega) (row_none HRA.out hA) (row_cells HRA.out hb1 HX.out) HoX.out (by omega) ?_; intro w2 hown2 hgrow2; simp only [Nat.zero_add, List.nil_append] at hown2; have hb2 := hb1.grown hgrow2 hb1.size (fun k hk => by cases hk; exact Nat.le_refl _)) | (at_builtin; refine wpList_append_fits _ rfl (.tmp 64) (.tmp 66) 22 rfl wc.heap.size 5 i0 1 Tryf.underlying22 hi hz1 wc.heap.size la (la + 1 + lb) X rfl (hown2.alloc _) ⟨w2.heap.size, 0, none⟩ 1 1 [.int .u8 c] rfl rfl (cell_one_new _ _ _) (by simp [Value.oneCell']) (by omega) ?_; intro w3 hown3 hgrow3; have hb3 := (hb2.alloc hb2.size _).grown hgrow3 (by have := hb2.size; simp; omega) (fun k hk => by cases hk; exact Nat.le_refl _)) | (at_builtin; refine wpList_append_fits_any _ rfl (.tmp 68) (.tmp 69) 22 rfl wc.heap.size 5 i0 1 Tryf.underlying22 hi hz1 wc.heap.size (la + 1) (la + 1 + lb) (X ++ [.int .u8 c]) rfl hown3 bo lb lb Y rfl (by omega) (row_none HRB.out hB) (row_cells HRB.out hb3 HY.out) HoY.out (by omega) ?_; intro w4 hown4 hgrow4; have hb4 := hb3.grown hgrow4 hb3.size (fun k hk => by cases hk; exact Nat.le_refl _)))
      have HRJ : Hid (Row w4 (some ⟨wc.heap.size, 0, none⟩) (A ++ c :: B)) := by
        refine row_owned (base := wc.heap.size) (e := 5) (n := la + 1 + lb) (cap := la + 1 + lb) ?_
        rw [HX.out, HY.out] at hown4
        simpa using hown4
      have HRA4 : Hid (Row w4 ao A) := HRA.out.below hb4
      have HRB4 : Hid (Row w4 bo B) := HRB.out.below hb4
      have hbel4 : Below w.heap.size w w4 := hbel.trans (hb4.mono hbel.size)
      clear hown1 hown2 hown3 hown4 hgrow1 hgrow2 hgrow3 hgrow4 hb1 hb2 hb3 hb4 HRA HRB hbel HX HY HoX HoY
      go_loop [10, 11] (fun n i => ∃ k : Nat, k ≤ la ∧ i = .int .i64 k ∧ n = .int .i64 (nb (A.take k))) (fun _ i => la - (intOf i).toNat)
      case atStart => exact ⟨0, Nat.zero_le _, rfl, rfl⟩
      case round =>
        obtain ⟨k, hk, rfl, rfl⟩ := hrel
        have hnb := nb_le A k
        by_cases hlt : k < la
        · rcases HRA4.out with ⟨rfl, hA0⟩ | ⟨g, rfl, hg, hcA⟩
          · exfalso; rw [hA0] at hA; simp at hA; omega
          · obtain ⟨x, Hx, hcell⟩ : ∃ x, Hid (x = A.getD k 0) ∧ w4.cell? ⟨g, k, none⟩ = some (.int .u8 x) := ⟨_, rfl, hcA k (by omega)⟩
            have HS : Hid (nb (A.take (k + 1)) = nb (A.take k) + if blank x then 0 else 1) := nb_step A k (by omega) x Hx.out
            clear hcA
            cases hbx : blank x
            all_goals
              go_wp2_with (go_at_call 6; refine (zzBlank_any _ _).mono ?_; rintro e w' ⟨rfl, rfl⟩)
              go_round
              case rel => exact ⟨k + 1, by omega, by go_num, by rw [HS.out, hbx]; go_num⟩
              case measure => simp [intOf]; omega
        · have HnA : Hid (nb (A.take k) = nb A) := by rw [List.take_of_length_le (by omega)]; exact rfl
          go_wp2_with fail
          go_loop [10, 12] (fun n i => ∃ j : Nat, j ≤ lb ∧ i = .int .i64 j ∧ n = .int .i64 ((nb (A.take k) : Int) + (nb (B.take j) : Int))) (fun _ i => lb - (intOf i).toNat)
          case atStart => exact ⟨0, Nat.zero_le _, rfl, by simp [nb]⟩
          case round =>
            obtain ⟨j, hj, rfl, rfl⟩ := hrel
            have hnb2 := nb_le B j
            by_cases hlt2 : j < lb
            · rcases HRB4.out with ⟨rfl, hB0⟩ | ⟨g, rfl, hg, hcB⟩
              · exfalso; rw [hB0] at hB; simp at hB; omega
              · obtain ⟨x, Hx, hcell⟩ : ∃ x, Hid (x = B.getD j 0) ∧ w4.cell? ⟨g, j, none⟩ = some (.int .u8 x) := ⟨_, rfl, hcB j (by omega)⟩
                have HS : Hid (nb (B.take (j + 1)) = nb (B.take j) + if blank x then 0 else 1) := nb_step B j (by omega) x Hx.out
                clear hcB
                cases hbx : blank x
                all_goals
                  go_wp2_with (go_at_call 6; refine (zzBlank_any _ _).mono ?_; rintro e w' ⟨rfl, rfl⟩)
                  go_round
                  case rel => exact ⟨j + 1, by omega, by go_num, by rw [HS.out, hbx]; go_num⟩
                  case measure => simp [intOf]; omega
            · have HnB : Hid (nb (B.take j) = nb B) := by rw [List.take_of_length_le (by omega)]; exact rfl
              obtain ⟨oa, HoA⟩ : ∃ oa, Hid (dec A = oa) := ⟨_, rfl⟩
              obtain ⟨ob, HoB⟩ : ∃ ob, Hid (dec B = ob) := ⟨_, rfl⟩
              have HoJ : Hid (dec (A ++ c :: B) = both oa ob) := by
                have := dec_split c hbl B la A (by omega)
                rw [HoA.out, HoB.out] at this
                exact this
              go_wp2_with fail
              refine (decode_any F ao la la A _ (by rw [hbel4.tape]; exact hF) hA (by omega) HxA.out HRA4.out (fun h => h)).mono ?_
              rintro e w5 ⟨hb5, hD⟩
              have hbel5 : Below w.heap.size w w5 := hbel4.trans (hb5.mono hbel4.size)
              have HRB5 : Hid (Row w5 bo B) := HRB4.out.below hb5
              have HRJ5 : Hid (Row w5 (some ⟨wc.heap.size, 0, none⟩) (A ++ c :: B)) := HRJ.out.below hb5
              clear HRA4 HRB4 HRJ hbel4
              rw [HoA.out] at hD
              cases oa with
              | none =>
                obtain ⟨p, rfl⟩ := hD
                go_wp2_with fail
                refine (decode_any F bo lb lb B _ (by rw [hbel5.tape]; exact hF) hB (by omega) HxB.out HRB5.out (fun h => h)).mono ?_
                rintro e w6 ⟨hb6, hD⟩
                rw [HoB.out] at hD
                cases ob with
                | none =>
                  obtain ⟨p2, rfl⟩ := hD
                  have hbel6 : Below w.heap.size w w6 := hbel5.trans (hb6.mono hbel5.size)
                  have HRJ6 : Hid (Row w6 (some ⟨wc.heap.size, 0, none⟩) (A ++ c :: B)) := HRJ5.out.below hb6
                  go_wp2_with fail
                  refine (decode_any F _ (la + 1 + lb) (la + 1 + lb) (A ++ c :: B) _ (by rw [hbel6.tape]; exact hF) (by simp; omega) (by omega) HxJ.out HRJ6.out (fun h => h)).mono ?_
                  rintro e w7 ⟨hb7, hD⟩
                  rw [HoJ.out] at hD
                  obtain ⟨p', rfl⟩ := hD
                  go_wp2
                  go_ret
                  exact ⟨rfl, hbel6.trans (hb7.mono hbel6.size)⟩
                | some yb =>
                  obtain ⟨g2, cap2, rfl, hg2, hlt2', hc2⟩ := hD
                  clear hc2
                  have hbel6 : Below w.heap.size w w6 := hbel5.trans (hb6.mono hbel5.size)
                  have HRJ6 : Hid (Row w6 (some ⟨wc.heap.size, 0, none⟩) (A ++ c :: B)) := HRJ5.out.below hb6
                  go_wp2_with fail
                  refine (decode_any F _ (la + 1 + lb) (la + 1 + lb) (A ++ c :: B) _ (by rw [hbel6.tape]; exact hF) (by simp; omega) (by omega) HxJ.out HRJ6.out (fun h => h)).mono ?_
                  rintro e w7 ⟨hb7, hD⟩
                  rw [HoJ.out] at hD
                  obtain ⟨p', rfl⟩ := hD
                  go_wp2
                  go_ret
                  exact ⟨rfl, hbel6.trans (hb7.mono hbel6.size)⟩
              | some ya =>
                obtain ⟨g1, cap1, rfl, hg1, hgl1, hc1⟩ := hD
                have Hc1 : Hid (∀ i, i < ya.length → w5.cell? ⟨g1, i, none⟩ = some (.int .u8 (ya.getD i 0))) := hc1
                have HqA : Hid (nb A = 2 * ya.length) := dec_nb la A ya (by omega) HoA.out
                clear hc1
                go_wp2_with fail
                refine (decode_any F bo lb lb B _ (by rw [hbel5.tape]; exact hF) hB (by omega) HxB.out HRB5.out (fun h => h)).mono ?_
                rintro e w6 ⟨hb6, hD⟩
                rw [HoB.out] at hD
                cases ob with
                | none =>
                  obtain ⟨p2, rfl⟩ := hD
                  have hbel6 : Below w.heap.size w w6 := hbel5.trans (hb6.mono hbel5.size)
                  have HRJ6 : Hid (Row w6 (some ⟨wc.heap.size, 0, none⟩) (A ++ c :: B)) := HRJ5.out.below hb6
                  go_wp2_with fail
                  refine (decode_any F _ (la + 1 + lb) (la + 1 + lb) (A ++ c :: B) _ (by rw [hbel6.tape]; exact hF) (by simp; omega) (by omega) HxJ.out HRJ6.out (fun h => h)).mono ?_
                  rintro e w7 ⟨hb7, hD⟩
                  rw [HoJ.out] at hD
                  obtain ⟨p', rfl⟩ := hD
                  go_wp2
                  go_ret
                  exact ⟨rfl, hbel6.trans (hb7.mono hbel6.size)⟩
                | some yb =>
                  obtain ⟨g2, cap2, rfl, hg2, hgl2, hc2⟩ := hD
                  have Hc2 : Hid (∀ i, i < yb.length → w6.cell? ⟨g2, i, none⟩ = some (.int .u8 (yb.getD i 0))) := hc2
                  have HqB : Hid (nb B = 2 * yb.length) := dec_nb lb B yb (by omega) HoB.out
                  clear hc2
                  have hbel6 : Below w.heap.size w w6 := hbel5.trans (hb6.mono hbel5.size)
                  have HRJ6 : Hid (Row w6 (some ⟨wc.heap.size, 0, none⟩) (A ++ c :: B)) := HRJ5.out.below hb6
                  go_wp2_with fail
                  refine (decode_any F _ (la + 1 + lb) (la + 1 + lb) (A ++ c :: B) _ (by rw [hbel6.tape]; exact hF) (by simp; omega) (by omega) HxJ.out HRJ6.out (fun h => h)).mono ?_
                  rintro e w7 ⟨hb7, hD⟩
                  rw [HoJ.out] at hD
                  obtain ⟨g3, cap3, rfl, hg3, hgl3, hc3⟩ := hD
                  have hq1 : nb (A.take k) = 2 * ya.length := by rw [HnA.out]; exact HqA.out
                  have hq2 : nb (B.take j) = 2 * yb.length := by rw [HnB.out]; exact HqB.out
                  have Hc31 : Hid (∀ i, i < ya.length → w7.cell? ⟨g3, i, none⟩ = some (.int .u8 (ya.getD i 0))) := fun i hi => by
                    rw [hc3 i (by simp; omega)]; simp [List.getD, List.getElem?_append_left hi]
                  have Hc32 : Hid (∀ i, i < yb.length → w7.cell? ⟨g3, ya.length + i, none⟩ = some (.int .u8 (yb.getD i 0))) := fun i hi => by
                    rw [hc3 (ya.length + i) (by simp; omega)]; simp [List.getD, List.getElem?_append_right]
                  have Hc1' : Hid (∀ i, i < ya.length → w7.cell? ⟨g1, i, none⟩ = some (.int .u8 (ya.getD i 0))) := fun i hi => by
                    rw [hb7.cell (p := ⟨g1, i, none⟩) (by have := hb6.size; show g1 < _; omega), hb6.cell (p := ⟨g1, i, none⟩) hgl1]; exact Hc1.out i hi
                  have Hc2' : Hid (∀ i, i < yb.length → w7.cell? ⟨g2, i, none⟩ = some (.int .u8 (yb.getD i 0))) := fun i hi => by
                    rw [hb7.cell (p := ⟨g2, i, none⟩) hgl2]; exact Hc2.out i hi
                  have hbel7 : Below w.heap.size w w7 := hbel6.trans (hb7.mono hbel6.size)
                  clear hc3 Hc1 Hc2 HqA HqB HnA HnB hb5 hb6 hb7 hbel5 hbel6 HRB5 HRJ5 HRJ6
                  go_wp2
                  go_loopw [20] (fun i wr => ∃ t q : Nat, t ≤ ya.length ∧ i = .int .i64 t ∧ wr = w7.drewN q) (fun i _ => ya.length - (intOf i).toNat)
                  case atStart => exact ⟨0, 0, Nat.zero_le _, rfl, rfl⟩
                  case round =>
                    obtain ⟨t, q, ht, rfl, rfl⟩ := hrel
                    by_cases hlt3 : t < ya.length
                    · obtain ⟨x, hx1, hx2⟩ : ∃ x, w7.cell? ⟨g3, t, none⟩ = some (.int .u8 x) ∧ w7.cell? ⟨g1, t, none⟩ = some (.int .u8 x) := ⟨_, Hc31.out t hlt3, Hc1'.out t hlt3⟩
                      have i1 : (0 : Int) ≤ (t : Int) := by omega
                      have i2 : (t : Int) < (ya.length : Int) := by omega
                      have i3 : (t : Int) < (ya.length : Int) + (yb.length : Int) := by omega
                      go_wp2_with fail
                      go_quiet (fail)
                      go_wp2
                      go_roundw
                      case rel => exact ⟨t + 1, _, by omega, by go_num, rfl⟩
                      case measure => simp [intOf]; omega
                    · go_wp2_with fail
                      go_loopw [21] (fun i wr => ∃ t q : Nat, t ≤ yb.length ∧ i = .int .i64 t ∧ wr = w7.drewN q) (fun i _ => yb.length - (intOf i).toNat)
                      case atStart => exact ⟨0, q, Nat.zero_le _, rfl, rfl⟩
                      case round =>
                        obtain ⟨t4, q4, ht4, rfl, rfl⟩ := hrel
                        by_cases hlt4 : t4 < yb.length
                        · obtain ⟨x, hx1, hx2⟩ : ∃ x, w7.cell? ⟨g3, ya.length + t4, none⟩ = some (.int .u8 x) ∧ w7.cell? ⟨g2, t4, none⟩ = some (.int .u8 x) := ⟨_, Hc32.out t4 hlt4, Hc2'.out t4 hlt4⟩
                          have i1 : (0 : Int) ≤ (t4 : Int) := by omega
                          have i2 : (t4 : Int) < (yb.length : Int) := by omega
                          have i3 : (ya.length : Int) + (t4 : Int) < (ya.length : Int) + (yb.length : Int) := by omega
                          have i4 : (0 : Int) ≤ (ya.length : Int) + (t4 : Int) := by omega
                          go_wp2_with fail
                          go_quiet (fail)
                          go_wp2
                          go_roundw
                          case rel => exact ⟨t4 + 1, _, by omega, by go_num, rfl⟩
                          case measure => simp [intOf]; omega
                        · go_wp2
                          go_ret
                          exact ⟨rfl, ⟨hbel7.os, hbel7.tape, hbel7.output, hbel7.size, hbel7.block⟩⟩

theorem InRow.of_isRow {w : World} {a : Option Addr} {len cap : Nat} {zs : List Int} (h : IsRow .u8 w a len cap zs) : InRow w a cap (zs.take len) ∧ (zs.take len).length = len ∧ len ≤ maxLen ∧ ∀ i, i < len → 0 ≤ (zs.take len).getD i 0 ∧ (zs.take len).getD i 0 ≤ 255 := by
  rcases h with ⟨rfl, rfl, rfl, rfl⟩ | ⟨x, rfl, hl, hm, hz, hcell, hwz⟩
  · exact ⟨.inl ⟨rfl, rfl, rfl⟩, rfl, Nat.zero_le _, fun i hi => by omega⟩
  · refine ⟨.inr ⟨x, rfl, fun j v hj => ?_⟩, by simp; omega, by omega, fun i hi => ?_⟩
    · have hj' := (List.getElem?_eq_some_iff.1 hj).1
      simp at hj'
      have e := hcell j (by omega)
      rw [e]
      rw [List.getElem?_map, List.getElem?_take_of_lt (by omega)] at hj
      simp [List.getD] at hj ⊢
      obtain ⟨z, hz1, rfl⟩ := hj
      simp [hz1]
    · have hi' : i < zs.length := by omega
      have hw := hwz zs[i] (List.getElem_mem hi')
      have e : (zs.take len).getD i 0 = zs[i] := by
        simp [List.getD, List.getElem?_take_of_lt hi, List.getElem?_eq_getElem hi']
      rw [e]
      have := bounds_u8 hw
      omega

theorem joined_bd {A B : List Int} {c : Int} {la lb : Nat} (hA : A.length = la) (hB : B.length = lb) (hc : 0 ≤ c ∧ c ≤ 255) (h1 : ∀ i, i < la → 0 ≤ A.getD i 0 ∧ A.getD i 0 ≤ 255) (h2 : ∀ i, i < lb → 0 ≤ B.getD i 0 ∧ B.getD i 0 ≤ 255) :
    ∀ i, i < la + 1 + lb → 0 ≤ (A ++ c :: B).getD i 0 ∧ (A ++ c :: B).getD i 0 ≤ 255 := by
  intro i hi
  subst hA hB
  by_cases h : i < A.length
  · have := h1 i h
    simpa [List.getD, List.getElem?_append_left h] using this
  · obtain ⟨j, rfl⟩ : ∃ j, i = A.length + j := ⟨i - A.length, by omega⟩
    simp only [List.getD, List.getElem?_append_right (Nat.le_add_right _ _), Nat.add_sub_cancel_left]
    cases j with
    | zero => simpa using hc
    | succ j => simpa [List.getD] using h2 j (by omega)

set_option maxRecDepth 100000 in
set_option maxHeartbeats 1000000 in
theorem split_walk (F : Interp) (a0 a1 : Option Addr) (c0 c1 la lb : Nat) (z0 z1 : List Int) (c : Int) (w : World) (hF : F.answers w.tape)
    (w0 : IsRow .u8 w a0 la c0 z0) (w1 : IsRow .u8 w a1 lb c1 z1) (w2 : (Lit.int .u8 c).wf = true) :
    Calls Tryf.prog 4 #[.slice a0 la c0, .slice a1 lb c1, .int .u8 c] w fun e w' => e = .returned (.bool true) ∧ Below w.heap.size w w' := by
  obtain ⟨r0, e0, m0, x0⟩ := InRow.of_isRow w0
  obtain ⟨r1, e1, m1, x1⟩ := InRow.of_isRow w1
  have hcb := bounds_u8 w2
  by_cases hall : (la ≤ 524288 ∧ lb ≤ 524288) ∧ (la + lb ≤ 1048576 ∧ blank c = true)
  · obtain ⟨⟨ha, hb⟩, hs, hbl⟩ := hall
    exact split_main F a0 a1 c0 c1 la lb (z0.take la) (z1.take lb) c w hF ha hb hs hbl e0 e1 r0 r1 x0 x1 (joined_bd e0 e1 (by omega) x0 x1)
  · clear r0 r1 x0 x1 e0 e1 w0 w1 w2
    have m0' : la ≤ maxLen := m0
    have m1' : lb ≤ maxLen := m1
    unfold maxLen at m0 m1
    by_cases hs : la + lb ≤ 1048576
    · have hd : decide (la + lb ≤ 1048576) = true := by simpa using hs
      by_cases ha : la ≤ 524288
      · by_cases hb : lb ≤ 524288
        · have hbl : blank c = false := by
            cases h : blank c
            · rfl
            · exact absurd ⟨⟨ha, hb⟩, hs, h⟩ hall
          clear hall
          go_enter Tryf.func4, Tryf.ntmps4
          go_wp2_with (first | (go_at_call 9; refine (zzBytes9_any _ _ _ _ _ _ _ _ m0' m1').mono ?_; rintro e w' ⟨rfl, rfl⟩) | (go_at_call 6; refine (zzBlank_any _ _).mono ?_; rintro e w' ⟨rfl, rfl⟩))
          go_ret
          exact ⟨rfl, Below.refl _ _⟩
        · clear hall
          go_enter Tryf.func4, Tryf.ntmps4
          go_wp2_with (first | (go_at_call 9; refine (zzBytes9_any _ _ _ _ _ _ _ _ m0' m1').mono ?_; rintro e w' ⟨rfl, rfl⟩))
          go_ret
          exact ⟨rfl, Below.refl _ _⟩
      · clear hall
        go_enter Tryf.func4, Tryf.ntmps4
        go_wp2_with (first | (go_at_call 9; refine (zzBytes9_any _ _ _ _ _ _ _ _ m0' m1').mono ?_; rintro e w' ⟨rfl, rfl⟩))
        go_ret
        exact ⟨rfl, Below.refl _ _⟩
    · have hd : decide (la + lb ≤ 1048576) = false := by simpa using hs
      clear hall
      go_enter Tryf.func4, Tryf.ntmps4
      go_wp2_with (first | (go_at_call 9; refine (zzBytes9_any _ _ _ _ _ _ _ _ m0' m1').mono ?_; rintro e w' ⟨rfl, rfl⟩))
      go_ret
      exact ⟨rfl, Below.refl _ _⟩

end Go.Proofs.Qxb6630239aFmt
