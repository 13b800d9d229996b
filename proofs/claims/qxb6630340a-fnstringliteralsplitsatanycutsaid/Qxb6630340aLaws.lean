import Derived.Test.Qxb6630340aScan
import Derived.Deep.QuietTactic
import Derived.BigQuiet
import Derived.WalkLawsBesides
import Derived.Lib.Strings
namespace Go.Proofs.Qxb6630340a
set_option linter.unusedVariables false
set_option linter.unusedSimpArgs false
open Go.RowKit

/-- zzScanLiteral at a literal, its parts under names of the caller's. -/
theorem scan_at (t y : ByteArray) (start q : Nat) (p : Int) (rest : List UInt8) (w : World) (hp : p = (start : Int)) (ht : t.size ≤ 5000000) (hd : t.data.toList.drop start = lit y.data.toList ++ rest) (hq : q = start + (lit y.data.toList).length) :
    Calls Try.prog 7 #[.string t, .int .i64 p] w fun e w' => e = .returned (.tuple #[.string y, .int .i64 (q : Int), .bool true]) ∧ Below w.heap.size w w' := by
  subst hp hq
  exact scan_lit t start y.data.toList rest w ht hd

theorem cat_list (A B : List UInt8) : ((⟨A.toArray⟩ : ByteArray) ++ (⟨B.toArray⟩ : ByteArray)).data.toList = A ++ B := by simp
theorem cat_size (A B : List UInt8) : ((⟨A.toArray⟩ : ByteArray) ++ (⟨B.toArray⟩ : ByteArray)).size = A.length + B.length := by simp [ByteArray.size]

theorem cut_join (A B C : List UInt8) (h : C = A.take (A.length - 1) ++ B.drop 1) :
    (C == ((⟨A.toArray⟩ : ByteArray).extract 0 (A.length - 1) ++ (⟨B.toArray⟩ : ByteArray).extract 1 B.length).toList) = true := by
  rw [beq_iff_eq, ByteArray.toList_eq, ByteArray.data_append, Array.toList_append, Lib.extract_data, Lib.extract_data, h]
  simp
  rw [List.take_of_length_le (by simp)]

theorem size_lit (l : List UInt8) : (⟨(lit l).toArray⟩ : ByteArray).size = (lit l).length := by simp [ByteArray.size]

set_option maxRecDepth 100000 in
set_option maxHeartbeats 2000000 in
theorem apart_main (a b : ByteArray) (w : World) (ha : a.size ≤ 524288) (hb : b.size ≤ 524288) :
    Calls Try.prog 4 #[.string a, .string b] w fun e w' => e = .returned (.bool true) ∧ Below w.heap.size w w' := by
  have hd : decide (a.size + b.size ≤ 1048576) = true := by simp; omega
  have hla := body_le a.data.toList
  have hlb := body_le b.data.toList
  have ea : a.data.toList.length = a.size := by simp
  have eb : b.data.toList.length = b.size := by simp
  rw [ea] at hla
  rw [eb] at hlb
  obtain ⟨A, HA⟩ : ∃ A, Hid (A = lit a.data.toList) := ⟨_, (rfl : lit a.data.toList = _)⟩
  obtain ⟨B, HB⟩ : ∃ B, Hid (B = lit b.data.toList) := ⟨_, (rfl : lit b.data.toList = _)⟩
  have hAl : A.length ≤ 1048578 := by rw [HA.out, lit_length]; omega
  have hBl : B.length ≤ 1048578 := by rw [HB.out, lit_length]; omega
  clear hla hlb ea eb
  go_enter Try.func4, Try.ntmps4
  go_wp2_with (go_at_call 8; refine (zzBytes8_any _ _ _ (by unfold maxLen; omega) (by unfold maxLen; omega)).mono ?_; rintro e w' ⟨rfl, rfl⟩)
  refine (stringLiteral_any a _ (by omega)).mono ?_
  rw [← HA.out]
  rintro e w1 ⟨rfl, hb1⟩
  go_wp2_with fail
  refine (stringLiteral_any b _ (by omega)).mono ?_
  rw [← HB.out]
  rintro e w2 ⟨rfl, hb2⟩
  have hbel2 : Below w.heap.size w w2 := hb1.trans (hb2.mono hb1.size)
  clear hb1 hb2
  go_wp2_with fail
  refine (scan_at _ a 0 A.length _ B _ rfl (by rw [cat_size]; omega) (by rw [cat_list, HA.out]; rfl) (by rw [HA.out]; omega)).mono ?_
  rintro e w3 ⟨rfl, hb3⟩
  have hbel3 : Below w.heap.size w w3 := hbel2.trans (hb3.mono hbel2.size)
  clear hb3 hbel2
  go_wp2_with fail
  refine (scan_at _ b A.length (A.length + B.length) _ [] _ rfl (by rw [cat_size]; omega) (by rw [cat_list, List.drop_left, List.append_nil, HB.out]) (by rw [HB.out])).mono ?_
  rintro e w4 ⟨rfl, hb4⟩
  have hbel4 : Below w.heap.size w w4 := hbel3.trans (hb4.mono hbel3.size)
  clear hb4 hbel3
  have hcs := cat_size A B
  go_wp2
  go_ret
  exact ⟨ret_bool (by simp), hbel4⟩

set_option maxRecDepth 100000 in
set_option maxHeartbeats 2000000 in
theorem split_main (a b : ByteArray) (w : World) (ha : a.size ≤ 524288) (hb : b.size ≤ 524288) :
    Calls Try.prog 3 #[.string a, .string b] w fun e w' => e = .returned (.bool true) ∧ Below w.heap.size w w' := by
  have hd : decide (a.size + b.size ≤ 1048576) = true := by simp; omega
  have hla := body_le a.data.toList
  have hlb := body_le b.data.toList
  have ea : a.data.toList.length = a.size := by simp
  have eb : b.data.toList.length = b.size := by simp
  rw [ea] at hla
  rw [eb] at hlb
  have hcat : (a ++ b).data.toList = a.data.toList ++ b.data.toList := by simp [ByteArray.data_append]
  have hcz : (a ++ b).size = a.size + b.size := by simp
  obtain ⟨A, HA⟩ : ∃ A, Hid (A = lit a.data.toList) := ⟨_, (rfl : lit a.data.toList = _)⟩
  obtain ⟨B, HB⟩ : ∃ B, Hid (B = lit b.data.toList) := ⟨_, (rfl : lit b.data.toList = _)⟩
  obtain ⟨C, HC⟩ : ∃ C, Hid (C = lit (a ++ b).data.toList) := ⟨_, (rfl : lit (a ++ b).data.toList = _)⟩
  have hAl : A.length ≤ 1048578 := by rw [HA.out, lit_length]; omega
  have hBl : B.length ≤ 1048578 := by rw [HB.out, lit_length]; omega
  have hA2 : 2 ≤ A.length := by rw [HA.out, lit_length]; omega
  have hB2 : 2 ≤ B.length := by rw [HB.out, lit_length]; omega
  have HCe : Hid (C = A.take (A.length - 1) ++ B.drop 1) := by rw [HC.out, HA.out, HB.out, hcat]; exact lit_append _ _
  have hCl : C.length ≤ 2097156 := by rw [HCe.out]; simp; omega
  clear hla hlb ea eb hcat
  go_enter Try.func3, Try.ntmps3
  go_wp2_with (go_at_call 5; refine (zzBytes5_any _ _ _ (by unfold maxLen; omega) (by unfold maxLen; omega)).mono ?_; rintro e w' ⟨rfl, rfl⟩)
  refine (stringLiteral_any (a ++ b) _ (by omega)).mono ?_
  rw [← HC.out]
  rintro e w1 ⟨rfl, hb1⟩
  go_wp2_with fail
  refine (scan_at _ (a ++ b) 0 C.length _ [] _ rfl (by simp [ByteArray.size]; omega) (by rw [List.append_nil, HC.out]; rfl) (by rw [HC.out]; omega)).mono ?_
  rintro e w2 ⟨rfl, hb2⟩
  have hbel2 : Below w.heap.size w w2 := hb1.trans (hb2.mono hb1.size)
  clear hb1 hb2
  go_wp2_with fail
  refine (stringLiteral_any a _ (by omega)).mono ?_
  rw [← HA.out]
  rintro e w3 ⟨rfl, hb3⟩
  have hbel3 : Below w.heap.size w w3 := hbel2.trans (hb3.mono hbel2.size)
  clear hb3 hbel2
  go_wp2_with fail
  refine (stringLiteral_any b _ (by omega)).mono ?_
  rw [← HB.out]
  rintro e w4 ⟨rfl, hb4⟩
  have hbel4 : Below w.heap.size w w4 := hbel3.trans (hb4.mono hbel3.size)
  clear hb4 hbel3
  have i1 : (0 : Int) ≤ (A.length : Int) - 1 := by omega
  have i2 : (A.length : Int) - 1 ≤ (A.length : Int) := by omega
  have i3 : (1 : Int) ≤ (B.length : Int) := by omega
  go_wp2
  go_quiet (fail)
  go_wp2
  go_ret
  exact ⟨ret_bool (cut_join A B C HCe.out), ⟨hbel4.os, hbel4.tape, hbel4.output, hbel4.size, hbel4.block⟩⟩

set_option maxRecDepth 100000 in
set_option maxHeartbeats 1000000 in
theorem split_walk (a b : ByteArray) (m0 : a.size ≤ maxLen) (m1 : b.size ≤ maxLen) (w : World) :
    Calls Try.prog 3 #[.string a, .string b] w fun e w' => e = .returned (.bool true) ∧ Below w.heap.size w w' := by
  by_cases hall : a.size ≤ 524288 ∧ b.size ≤ 524288
  · exact split_main a b w hall.1 hall.2
  · have m0' : a.size ≤ maxLen := m0
    have m1' : b.size ≤ maxLen := m1
    unfold maxLen at m0 m1
    by_cases hs : a.size + b.size ≤ 1048576
    · have hd : decide (a.size + b.size ≤ 1048576) = true := by simpa using hs
      by_cases ha : a.size ≤ 524288
      · have hb : ¬ b.size ≤ 524288 := fun h => hall ⟨ha, h⟩
        clear hall
        go_enter Try.func3, Try.ntmps3
        go_wp2_with (go_at_call 5; refine (zzBytes5_any _ _ _ m0' m1').mono ?_; rintro e w' ⟨rfl, rfl⟩)
        go_ret
        exact ⟨rfl, Below.refl _ _⟩
      · clear hall
        go_enter Try.func3, Try.ntmps3
        go_wp2_with (go_at_call 5; refine (zzBytes5_any _ _ _ m0' m1').mono ?_; rintro e w' ⟨rfl, rfl⟩)
        go_ret
        exact ⟨rfl, Below.refl _ _⟩
    · have hd : decide (a.size + b.size ≤ 1048576) = false := by simpa using hs
      clear hall
      go_enter Try.func3, Try.ntmps3
      go_wp2_with (go_at_call 5; refine (zzBytes5_any _ _ _ m0' m1').mono ?_; rintro e w' ⟨rfl, rfl⟩)
      go_ret
      exact ⟨rfl, Below.refl _ _⟩

set_option maxRecDepth 100000 in
set_option maxHeartbeats 1000000 in
theorem apart_walk (a b : ByteArray) (m0 : a.size ≤ maxLen) (m1 : b.size ≤ maxLen) (w : World) :
    Calls Try.prog 4 #[.string a, .string b] w fun e w' => e = .returned (.bool true) ∧ Below w.heap.size w w' := by
  by_cases hall : a.size ≤ 524288 ∧ b.size ≤ 524288
  · exact apart_main a b w hall.1 hall.2
  · have m0' : a.size ≤ maxLen := m0
    have m1' : b.size ≤ maxLen := m1
    unfold maxLen at m0 m1
    by_cases hs : a.size + b.size ≤ 1048576
    · have hd : decide (a.size + b.size ≤ 1048576) = true := by simpa using hs
      by_cases ha : a.size ≤ 524288
      · have hb : ¬ b.size ≤ 524288 := fun h => hall ⟨ha, h⟩
        clear hall
        go_enter Try.func4, Try.ntmps4
        go_wp2_with (go_at_call 8; refine (zzBytes8_any _ _ _ m0' m1').mono ?_; rintro e w' ⟨rfl, rfl⟩)
        go_ret
        exact ⟨rfl, Below.refl _ _⟩
      · clear hall
        go_enter Try.func4, Try.ntmps4
        go_wp2_with (go_at_call 8; refine (zzBytes8_any _ _ _ m0' m1').mono ?_; rintro e w' ⟨rfl, rfl⟩)
        go_ret
        exact ⟨rfl, Below.refl _ _⟩
    · have hd : decide (a.size + b.size ≤ 1048576) = false := by simpa using hs
      clear hall
      go_enter Try.func4, Try.ntmps4
      go_wp2_with (go_at_call 8; refine (zzBytes8_any _ _ _ m0' m1').mono ?_; rintro e w' ⟨rfl, rfl⟩)
      go_ret
      exact ⟨rfl, Below.refl _ _⟩

end Go.Proofs.Qxb6630340a
