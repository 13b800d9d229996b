import Derived.Test.Qxb6630340aChecked
import Derived.Test.Qxb6630340aShelf
import Derived.Test.Qxb6630340aPlain
import Derived.WalkKit
import Derived.WalkSpells
import Derived.Lib.Builder
namespace Go.Proofs.Qxb6630340a
set_option linter.unusedVariables false
set_option linter.unusedSimpArgs false
open Go.RowKit

theorem ret_bool {a b : Bool} (h : a = b) : Ending.returned (.bool a) = .returned (.bool b) := by rw [h]
theorem info5 : (Try.prog.info? 5).map (fun i => (i.zero, i.size, i.bytes)) = some (some (.int .u8 0), 1, 1) := by kernel_rfl

set_option maxHeartbeats 400000 in
theorem zzBytes5_any (a b : ByteArray) (w : World) (hm : a.size ≤ maxLen) (hm2 : b.size ≤ maxLen) :
    Calls Try.prog 5 #[.string a, .string b] w fun e w' => e = .returned (.bool (decide (a.size + b.size ≤ 1048576))) ∧ w = w' := by
  unfold maxLen at hm hm2
  go_enter Try.func5, Try.ntmps5
  go_wp2
  all_goals
    go_ret
    exact ⟨ret_bool (by simp; omega), rfl⟩

set_option maxHeartbeats 400000 in
theorem zzBytes8_any (a b : ByteArray) (w : World) (hm : a.size ≤ maxLen) (hm2 : b.size ≤ maxLen) :
    Calls Try.prog 8 #[.string a, .string b] w fun e w' => e = .returned (.bool (decide (a.size + b.size ≤ 1048576))) ∧ w = w' := by
  unfold maxLen at hm hm2
  go_enter Try.func8, Try.ntmps8
  go_wp2
  all_goals
    go_ret
    exact ⟨ret_bool (by simp; omega), rfl⟩

theorem byteCells_snoc (l : List UInt8) (c : UInt8) : Lib.byteCells (l ++ [c]) = Lib.byteCells l ++ [.int .u8 (c.toNat : Int)] := by simp [Lib.byteCells]
theorem byteCells_len (l : List UInt8) : (Lib.byteCells l).length = l.length := by simp [Lib.byteCells]

/-- WriteByte, the bytes told as bytes. -/
theorem writeByte (B : Nat) (l : List UInt8) (c : UInt8) (n : Int) (w : World) (hn : n = (c.toNat : Int)) (h : Lib.IsBuilder 29 5 B B (Lib.byteCells l) w) (hl : l.length ≤ 100000000) (hB : B ≤ w.heap.size) :
    Calls Try.prog 9 #[.pointer (some ⟨B, 0, none⟩), .int .u8 n] w fun e w' => e = .returned .nilIface ∧ (Lib.IsBuilder 29 5 B B (Lib.byteCells (l ++ [c])) w' ∧ Below B w w') := by
  subst hn
  refine (Try.Builder_WriteByte B B (Lib.byteCells l) _ w h (by rw [byteCells_len]; omega) hB).mono ?_
  rintro e w' ⟨rfl, h1, h2⟩
  rw [byteCells_snoc]
  exact ⟨rfl, .inr h1, h2⟩

set_option maxHeartbeats 1000000 in
theorem stringLiteral_any (s : ByteArray) (w : World) (hs : s.size ≤ 1048576) :
    Calls Try.prog 6 #[.string s] w fun e w' => e = .returned (.string ⟨(lit s.data.toList).toArray⟩) ∧ Below w.heap.size w w' := by
  have HB0 : Hid (Lib.IsBuilder 29 5 w.heap.size w.heap.size (Lib.byteCells []) (w.alloc (.cells #[.pointer none, .slice none 0 0] 29))) := Lib.fresh_isBuilder 29 5 w
  go_enter Try.func6, Try.ntmps6
  go_wp2_with fail
  refine (writeByte w.heap.size [] 39 _ _ rfl HB0.out (by simp) (by simp)).mono ?_
  rintro e w1 ⟨rfl, h1, hb1⟩
  have H1 : Hid (Lib.IsBuilder 29 5 w.heap.size w.heap.size (Lib.byteCells ([] ++ [39])) w1) := h1
  have hbel1 : Below w.heap.size w w1 := ((Below.refl _ w).alloc (Nat.le_refl _) _).trans hb1
  clear h1 hb1 HB0
  go_wp2_with fail
  go_loopw [9] (fun i wr => ∃ k : Nat, k ≤ s.size ∧ i = .int .i64 k ∧ Hid (Lib.IsBuilder 29 5 w.heap.size w.heap.size (Lib.byteCells (39 :: body (s.data.toList.take k))) wr) ∧ Below w.heap.size w wr) (fun i _ => s.size - (intOf i).toNat)
  case atStart => exact ⟨0, Nat.zero_le _, rfl, H1, hbel1⟩
  case round =>
    obtain ⟨k, hk, rfl, HI, hbel⟩ := hrel
    have hlen : (39 :: body (s.data.toList.take k)).length ≤ 3000000 := by
      have := body_take_le s.data.toList k
      have h2 : s.data.toList.length = s.size := by simp
      simp only [List.length_cons]; omega
    have Hlen : Hid ((39 :: body (s.data.toList.take k)).length ≤ 3000000) := hlen
    clear hlen
    by_cases hlt : k < s.size
    · obtain ⟨c, Hc⟩ : ∃ c : UInt8, Hid (c = s[k]) := ⟨s[k], (rfl : s[k] = s[k])⟩
      have HT : Hid (body (s.data.toList.take (k + 1)) = body (s.data.toList.take k) ++ esc c) := body_take s.data.toList k (by simpa using hlt) c (by rw [Hc.out]; rfl)
      have HcN : Hid ((c.toNat : Int) = (s[k].toNat : Int)) := by rw [Hc.out]; exact rfl
      have HSp : Hid (special c = true ↔ ((s[k].toNat : Int) = 39 ∨ (s[k].toNat : Int) = 92)) := by
        rw [← Hc.out]
        show special c = true ↔ _
        simp only [special, Bool.or_eq_true, beq_iff_eq]
        constructor
        · rintro (rfl | rfl)
          · exact .inl rfl
          · exact .inr rfl
        · rintro (h | h)
          · exact .inl (UInt8.toNat_inj.1 (by simpa using Int.ofNat.inj h))
          · exact .inr (UInt8.toNat_inj.1 (by simpa using Int.ofNat.inj h))
      by_cases hsp : special c = true
      · have HE : Hid (39 :: body (s.data.toList.take (k + 1)) = (39 :: body (s.data.toList.take k)) ++ [92] ++ [c]) := by
          rw [HT.out]; simp [esc, hsp]; exact True.intro
        have hor := HSp.out.1 hsp
        have n39 : ((s[k].toNat : Int) == 39) = false → ((s[k].toNat : Int) == 92) = true := by
          intro h
          rcases hor with h' | h'
          · simp [h'] at h
          · simp [h']
        rcases hor with h39 | h92
        all_goals
          clear n39 HSp hsp
          go_wp2_with fail
          refine (writeByte w.heap.size (39 :: body (s.data.toList.take k)) 92 _ _ rfl HI.out (by have := Hlen.out; omega) hbel.size).mono ?_
          rintro e w2 ⟨rfl, h2, hb2⟩
          have H2 : Hid (Lib.IsBuilder 29 5 w.heap.size w.heap.size (Lib.byteCells ((39 :: body (s.data.toList.take k)) ++ [92])) w2) := h2
          have hbel2 := hbel.trans hb2
          clear h2 hb2 HI hbel
          go_wp2_with fail
          refine (writeByte w.heap.size ((39 :: body (s.data.toList.take k)) ++ [92]) c _ _ (by have := HcN.out; omega) H2.out (by have := Hlen.out; rw [List.length_append]; simp only [List.length_cons, List.length_nil] at *; omega) hbel2.size).mono ?_
          rintro e w3 ⟨rfl, h3, hb3⟩
          rw [← HE.out] at h3
          have H3 : Hid (Lib.IsBuilder 29 5 w.heap.size w.heap.size (Lib.byteCells (39 :: body (s.data.toList.take (k + 1)))) w3) := h3
          have hbel3 := hbel2.trans hb3
          clear h3 hb3 H2 hbel2
          go_wp2
          go_roundw
          case rel => exact ⟨k + 1, by omega, by go_num, H3, hbel3⟩
          case measure => simp [intOf]; omega
      · have HE : Hid (39 :: body (s.data.toList.take (k + 1)) = (39 :: body (s.data.toList.take k)) ++ [c]) := by
          rw [HT.out]; simp [esc, hsp]; exact True.intro
        have n39 : ((s[k].toNat : Int) == 39) = false := by
          rw [beq_eq_false_iff_ne]; intro h; exact hsp (HSp.out.2 (.inl h))
        have n92 : ((s[k].toNat : Int) == 92) = false := by
          rw [beq_eq_false_iff_ne]; intro h; exact hsp (HSp.out.2 (.inr h))
        clear HSp hsp
        go_wp2_with fail
        refine (writeByte w.heap.size (39 :: body (s.data.toList.take k)) c _ _ (by have := HcN.out; omega) HI.out (by have := Hlen.out; omega) hbel.size).mono ?_
        rintro e w2 ⟨rfl, h2, hb2⟩
        rw [← HE.out] at h2
        have H2 : Hid (Lib.IsBuilder 29 5 w.heap.size w.heap.size (Lib.byteCells (39 :: body (s.data.toList.take (k + 1)))) w2) := h2
        have hbel2 := hbel.trans hb2
        clear h2 hb2 HI hbel
        go_wp2
        go_roundw
        case rel => exact ⟨k + 1, by omega, by go_num, H2, hbel2⟩
        case measure => simp [intOf]; omega
    · go_wp2_with fail
      refine (writeByte w.heap.size (39 :: body (s.data.toList.take k)) 39 _ _ rfl HI.out (by have := Hlen.out; omega) hbel.size).mono ?_
      rintro e w2 ⟨rfl, h2, hb2⟩
      have H2 : Hid (Lib.IsBuilder 29 5 w.heap.size w.heap.size (Lib.byteCells (lit s.data.toList)) w2) := by
        have e1 : s.data.toList.take k = s.data.toList := List.take_of_length_le (by simpa using (by omega : s.size ≤ k))
        rw [e1] at h2
        exact h2
      have hbel2 := hbel.trans hb2
      clear h2 hb2 HI Hlen H1 hbel1 hbel
      go_wp2_with fail
      refine (Try.Builder_String_any w.heap.size w.heap.size (lit s.data.toList) _ H2.out hbel2.size).mono ?_
      rintro e w3 ⟨rfl, hb3⟩
      go_wp2
      go_ret
      exact ⟨rfl, hbel2.trans hb3⟩

end Go.Proofs.Qxb6630340a
