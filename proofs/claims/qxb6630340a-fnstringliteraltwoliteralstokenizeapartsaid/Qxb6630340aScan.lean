import Derived.Test.Qxb6630340aLit
import Derived.Laws.BytesArg
namespace Go.Proofs.Qxb6630340a
set_option linter.unusedVariables false
set_option linter.unusedSimpArgs false
open Go.RowKit

theorem drop_head {T r : List UInt8} {p : Nat} {c : UInt8} (h : T.drop p = c :: r) : ∃ hp : p < T.length, T[p] = c ∧ T.drop (p + 1) = r := by
  have hp : p < T.length := by
    rcases Nat.lt_or_ge p T.length with h' | h'
    · exact h'
    · rw [List.drop_of_length_le h'] at h; cases h
  refine ⟨hp, ?_, ?_⟩
  · rw [List.drop_eq_getElem_cons hp] at h
    exact (List.cons.inj h).1
  · rw [List.drop_eq_getElem_cons hp] at h
    exact (List.cons.inj h).2

theorem byte_head {t : ByteArray} {r : List UInt8} {p : Nat} {c : UInt8} (h : t.data.toList.drop p = c :: r) : ∃ hp : p < t.size, ((t[p]'hp).toNat : Int) = (c.toNat : Int) ∧ t.data.toList.drop (p + 1) = r := by
  obtain ⟨hp, h1, h2⟩ := drop_head h
  have hp' : p < t.size := by simpa using hp
  refine ⟨hp', ?_, h2⟩
  have e : t[p] = c := h1
  rw [e]

theorem strOfNums_bytes (x : List UInt8) : strOfNums (x.map fun b => (b.toNat : Int)) = ⟨x.toArray⟩ := by
  unfold strOfNums
  rw [List.map_map]
  congr 2
  conv => rhs; rw [← List.map_id x]
  apply List.map_congr_left
  intro b _
  simp

theorem convert_owned (w : World) (B : Nat) (v : Value) (x : List UInt8) (h : w.ownsRow B 5 1 v x.length (Lib.byteCells x)) : (convert 27 9 v).run Try.prog w = .ok (.string ⟨x.toArray⟩) w := by
  rcases h.2 with ⟨rfl, h0⟩ | ⟨g, cap, cur, rfl, _, _, _⟩
  · have : x = [] := List.eq_nil_of_length_eq_zero h0
    subst this
    exact run_convert_bytes_nil (P := Try.prog) w 27 5 Try.underlying27 Try.underlying5 0 0 9 Try.underlying9
  · rw [← strOfNums_bytes]
    refine run_convert_bytes_arg (P := Try.prog) w 27 5 Try.underlying27 Try.underlying5 g 0 x.length cap (x.map fun b => (b.toNat : Int)) (by simp) (fun i hi => ?_) 9 Try.underlying9
    have := h.cells (g := g) rfl i (.int .u8 ((x[i]'hi).toNat : Int)) (by simp [Lib.byteCells, hi])
    rw [Addr.add_lit] at this
    rw [this]
    simp [List.getD, hi]

theorem body_drop (x : List UInt8) (k : Nat) (h : k < x.length) (c : UInt8) (hc : c = x[k]) : body (x.drop k) = esc c ++ body (x.drop (k + 1)) := by
  rw [List.drop_eq_getElem_cons h, body_cons, hc]

set_option maxRecDepth 100000 in
set_option maxHeartbeats 1000000 in
theorem scan_lit (t : ByteArray) (start : Nat) (x rest : List UInt8) (w : World) (ht : t.size ≤ 5000000) (hd : t.data.toList.drop start = lit x ++ rest) :
    Calls Try.prog 7 #[.string t, .int .i64 (start : Int)] w fun e w' => e = .returned (.tuple #[.string ⟨x.toArray⟩, .int .i64 ((start + (lit x).length : Nat) : Int), .bool true]) ∧ Below w.heap.size w w' := by
  obtain ⟨i0, hi, hz0, hz1, hz2⟩ := info_parts info5
  obtain ⟨hst, hq, hd1⟩ := byte_head (t := t) (r := body x ++ [39] ++ rest) (c := 39) (p := start) (by rw [hd]; simp [lit])
  have HD1 : Hid (t.data.toList.drop (start + 1) = body (x.drop 0) ++ 39 :: rest) := by rw [hd1]; simp; exact True.intro
  have hq' : ((t[start].toNat : Int) != 39) = false := by rw [hq]; rfl
  have hxl : x.length ≤ 5000000 := by
    have h1 := congrArg List.length hd
    have h2 := body_ge x
    have h3 : t.data.toList.length = t.size := by simp
    rw [List.length_drop, List.length_append, lit_length, h3] at h1
    omega
  have g1 : decide ((start : Int) < 0) = false := by simp
  have g2 : decide (t.size ≤ start) = false := by simp; omega
  clear hd hd1 hq
  go_enter Try.func7, Try.ntmps7
  go_wp2
  go_loopw [7, 8] (fun v i wr => ∃ k p : Nat, i = .int .i64 (p : Int) ∧ k ≤ x.length ∧ Hid (t.data.toList.drop p = body (x.drop k) ++ 39 :: rest) ∧ Hid (p + (body (x.drop k)).length + 1 = start + (lit x).length) ∧ wr.ownsRow w.heap.size 5 1 v k (Lib.byteCells (x.take k)) ∧ Below w.heap.size w wr) (fun _ i _ => t.size - (intOf i).toNat)
  case atStart => exact ⟨0, start + 1, by go_num, Nat.zero_le _, HD1, by rw [lit_length]; simp; exact (by omega : start + 1 + (body x).length + 1 = start + ((body x).length + 2)), World.ownsRow_nil _ _ _ _, Below.refl _ _⟩
  case round =>
    obtain ⟨k, p, rfl, hk, HD, HP, hown, hbel⟩ := hrel
    by_cases hlt : k < x.length
    · obtain ⟨c, Hc⟩ : ∃ c : UInt8, Hid (c = x[k]) := ⟨x[k], (rfl : x[k] = x[k])⟩
      have hbd := body_drop x k hlt c Hc.out
      have hsn : Lib.byteCells (x.take (k + 1)) = Lib.byteCells (x.take k) ++ [.int .u8 (c.toNat : Int)] := by
        rw [List.take_succ_eq_append_getElem hlt, byteCells_snoc, ← Hc.out]
      have Hsn : Hid (Lib.byteCells (x.take (k + 1)) = Lib.byteCells (x.take k) ++ [.int .u8 (c.toNat : Int)]) := hsn
      have hl2 := body_le x
      by_cases hsp : special c = true
      · obtain ⟨hp1, hq1, hd2⟩ := byte_head (t := t) (r := c :: (body (x.drop (k + 1)) ++ 39 :: rest)) (c := 92) (p := p) (by rw [HD.out, hbd]; simp [esc, hsp])
        obtain ⟨hp2, hq2, hd3⟩ := byte_head hd2
        have HD' : Hid (t.data.toList.drop (p + 2) = body (x.drop (k + 1)) ++ 39 :: rest) := hd3
        have HP' : Hid (p + 2 + (body (x.drop (k + 1))).length + 1 = start + (lit x).length) := by
          have := HP.out; rw [hbd] at this; simp [esc, hsp] at this
          show _ = _
          omega
        have hcs : (c.toNat : Int) = 39 ∨ (c.toNat : Int) = 92 := by
          simp only [special, Bool.or_eq_true, beq_iff_eq] at hsp
          rcases hsp with rfl | rfl
          · exact .inl rfl
          · exact .inr rfl
        have b1 : ((t[p].toNat : Int) == 39) = false := by rw [hq1]; rfl
        have b2 : ((t[p].toNat : Int) == 92) = true := by rw [hq1]; rfl
        have b0 : decide (t.size ≤ p + 1) = false := by simp; omega
        obtain ⟨n, Hn⟩ : ∃ n : Int, Hid (n = (c.toNat : Int)) := ⟨_, (rfl : (c.toNat : Int) = _)⟩
        rw [← Hn.out] at hq2 hcs
        clear hd2 hd3 hbd hsp hq1 HD HP hsn
        rcases hcs with rfl | rfl
        all_goals
          go_wp2_with (at_builtin; refine wpList_append_own _ rfl (.tmp 57) (.tmp 59) 27 rfl w.heap.size 5 i0 (.int .u8 0) 1 1 Try.underlying27 hi hz0 hz1 hz2 rfl (by decide) _ _ _ rfl (hown.alloc _) ⟨wr.heap.size, 0, none⟩ 1 1 [.int .u8 _] rfl rfl (cell_one_new _ _ _) (by simp [Value.oneCell']) (by unfold maxLen; omega) (by omega) (by have := hbel.size; simp; omega) ?_; intro v' w2 hown2 hgrow2 hnil2)
          have hown3 : w2.ownsRow w.heap.size 5 1 v' (k + 1) (Lib.byteCells (x.take (k + 1))) := by rw [Hsn.out, ← Hn.out]; exact hown2
          have hbel3 := (hbel.alloc hbel.size _).grown hgrow2 (by have := hbel.size; simp; omega) (fun j hj => (hown.lt j hj).1)
          go_roundw
          case rel => exact ⟨k + 1, p + 2, by go_num, by omega, HD', HP', hown3, hbel3⟩
          case measure => simp [intOf]; omega
      · obtain ⟨hp1, hq1, hd2⟩ := byte_head (t := t) (r := body (x.drop (k + 1)) ++ 39 :: rest) (c := c) (p := p) (by rw [HD.out, hbd]; simp [esc, hsp])
        have HD' : Hid (t.data.toList.drop (p + 1) = body (x.drop (k + 1)) ++ 39 :: rest) := hd2
        have HP' : Hid (p + 1 + (body (x.drop (k + 1))).length + 1 = start + (lit x).length) := by
          have := HP.out; rw [hbd] at this; simp [esc, hsp] at this
          show _ = _
          omega
        have b1 : ((c.toNat : Int) == 39) = false := by
          rw [beq_eq_false_iff_ne]; intro h
          exact hsp (by simp only [special, Bool.or_eq_true, beq_iff_eq]; exact .inl (UInt8.toNat_inj.1 (by simpa using Int.ofNat.inj h)))
        have b2 : ((c.toNat : Int) == 92) = false := by
          rw [beq_eq_false_iff_ne]; intro h
          exact hsp (by simp only [special, Bool.or_eq_true, beq_iff_eq]; exact .inr (UInt8.toNat_inj.1 (by simpa using Int.ofNat.inj h)))
        obtain ⟨n, Hn⟩ : ∃ n : Int, Hid (n = (c.toNat : Int)) := ⟨_, (rfl : (c.toNat : Int) = _)⟩
        rw [← Hn.out] at hq1 b1 b2
        clear hd2 hbd hsp HD HP hsn
        go_wp2_with (at_builtin; refine wpList_append_own _ rfl (.tmp 63) (.tmp 65) 27 rfl w.heap.size 5 i0 (.int .u8 0) 1 1 Try.underlying27 hi hz0 hz1 hz2 rfl (by decide) _ _ _ rfl (hown.alloc _) ⟨wr.heap.size, 0, none⟩ 1 1 [.int .u8 _] rfl rfl (cell_one_new _ _ _) (by simp [Value.oneCell']) (by unfold maxLen; omega) (by omega) (by have := hbel.size; simp; omega) ?_; intro v' w2 hown2 hgrow2 hnil2)
        have hown3 : w2.ownsRow w.heap.size 5 1 v' (k + 1) (Lib.byteCells (x.take (k + 1))) := by rw [Hsn.out, ← Hn.out]; exact hown2
        have hbel3 := (hbel.alloc hbel.size _).grown hgrow2 (by have := hbel.size; simp; omega) (fun j hj => (hown.lt j hj).1)
        go_roundw
        case rel => exact ⟨k + 1, p + 1, by go_num, by omega, HD', HP', hown3, hbel3⟩
        case measure => simp [intOf]; omega
    · have hke : k = x.length := by omega
      subst hke
      obtain ⟨hp1, hq1, hd2⟩ := byte_head (t := t) (r := rest) (c := 39) (p := p) (by rw [HD.out]; simp [body])
      have HP' : Hid (((p : Int) + 1) = ((start + (lit x).length : Nat) : Int)) := by
        have := HP.out
        rw [List.drop_length] at this
        simp [body] at this
        show _ = _
        omega
      have b1 : ((t[p].toNat : Int) == 39) = true := by rw [hq1]; rfl
      have hcv : (convert 27 9 u7).run Try.prog wr = .ok (.string ⟨x.toArray⟩) wr := by
        rw [List.take_length] at hown
        exact convert_owned wr w.heap.size u7 x hown
      clear hd2 hq1 HD HP hown
      go_wp2
      go_ret3
      exact ⟨by rw [← HP'.out]; rfl, hbel⟩

end Go.Proofs.Qxb6630340a
