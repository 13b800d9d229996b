import Derived.Test.Qxb6630289aLeaf
namespace Go.Proofs.Qxb6630289a
set_option linter.unusedVariables false
set_option linter.unusedSimpArgs false
open Go.RowKit

theorem stringEnd_at (b o cap n i : Nat) (p : Int) (f : Nat → Int) (w : World) (hp : p = (i : Int)) (hn : n ≤ 1048576) (hi : i < n) (h34 : f i = 34)
    (hc : ∀ j, j < n → w.cell? ⟨b, o + j, none⟩ = some (.int .u8 (f j))) :
    Calls Try.prog 11 #[.slice (some ⟨b, o, none⟩) n cap, .int .i64 p] w fun e w' => ∃ v, e = .returned (.int .i64 v) ∧ SEnd f n (i + 1) v ∧ w = w' := by
  subst hp; exact stringEnd_any b o cap n i f w hn hi h34 hc

theorem VEnd.of_str {f : Nat → Int} {n i : Nat} {v : Int} (hi : i < n) (h34 : f i = 34) (h : SEnd f n (i + 1) v) : VEnd f n i v := by
  have ho : opener (f i) = true := by rw [h34]; rfl
  have h1 : jrun f i 1 = some (true, false, 0) := by
    have h0 : jrun f i 1 = jstep false false 0 (f (i + 0)) := rfl
    rw [h0, Nat.add_zero, h34]; rfl
  refine .inr (.inl ⟨hi, ho, ?_⟩)
  rcases h with ⟨r, hr, hf, rfl⟩ | ⟨⟨q, e, hq, hn⟩, rfl⟩
  · exact .inl ⟨r, hr, jfin_of_sfin h1 hf, rfl⟩
  · exact .inr ⟨⟨1 + q, _, jrun_srun h1 q e hq, by omega⟩, rfl⟩

set_option maxHeartbeats 400000 in
theorem valueEnd_far (ao : Option Addr) (cap n i : Nat) (w : World) (hi : n ≤ i) :
    Calls Try.prog 10 #[.slice ao n cap, .int .i64 (i : Int)] w fun e w' => e = .returned (.int .i64 (-1)) ∧ w = w' := by
  go_enter Try.func10, Try.ntmps10
  go_wp2
  go_ret
  exact ⟨rfl, rfl⟩

set_option maxHeartbeats 400000 in
theorem valueEnd_str (b o cap n i : Nat) (f : Nat → Int) (w : World) (hn : n ≤ 1048576) (hi : i < n) (h34 : f i = 34)
    (hc : ∀ j, j < n → w.cell? ⟨b, o + j, none⟩ = some (.int .u8 (f j))) :
    Calls Try.prog 10 #[.slice (some ⟨b, o, none⟩) n cap, .int .i64 (i : Int)] w fun e w' => ∃ v, e = .returned (.int .i64 v) ∧ VEnd f n i v ∧ w = w' := by
  have h0 : w.cell? ⟨b, o + i, none⟩ = some (.int .u8 34) := by rw [← h34]; exact hc i hi
  have Hc : Hid (∀ j, j < n → w.cell? ⟨b, o + j, none⟩ = some (.int .u8 (f j))) := hc
  have H34 : Hid (f i = 34) := h34
  clear hc h34
  go_enter Try.func10, Try.ntmps10
  go_wp2_with fail
  refine (stringEnd_any b o cap n i f _ hn hi H34.out Hc.out).mono ?_
  rintro e w' ⟨v, rfl, hS, rfl⟩
  have HS : Hid (SEnd f n (i + 1) v) := hS
  clear hS
  go_wp2
  go_ret
  exact ⟨v, rfl, VEnd.of_str hi H34.out HS.out, rfl⟩

set_option maxHeartbeats 800000 in
theorem valueEnd_lit (b o cap n i : Nat) (f : Nat → Int) (w : World) (hn : n ≤ 1048576) (hi : i < n) (ho : opener (f i) = false)
    (hc : ∀ j, j < n → w.cell? ⟨b, o + j, none⟩ = some (.int .u8 (f j))) :
    Calls Try.prog 10 #[.slice (some ⟨b, o, none⟩) n cap, .int .i64 (i : Int)] w fun e w' => ∃ v, e = .returned (.int .i64 v) ∧ VEnd f n i v ∧ w = w' := by
  have Hc : Hid (∀ j, j < n → w.cell? ⟨b, o + j, none⟩ = some (.int .u8 (f j))) := hc
  obtain ⟨c, HC, h0⟩ : ∃ c, Hid (c = f i) ∧ w.cell? ⟨b, o + i, none⟩ = some (.int .u8 c) := ⟨_, rfl, hc i hi⟩
  have Ho : Hid (opener (f i) = false) := ho
  rw [← HC.out] at ho
  simp only [opener, Bool.or_eq_false_iff] at ho
  obtain ⟨⟨n34, n123⟩, n91⟩ := ho
  clear hc
  have hg : decide (n ≤ i) = false := by simp; omega
  go_enter Try.func10, Try.ntmps10
  go_wp2
  go_loop [1] (fun p => ∃ r : Nat, p = .int .i64 (r : Int) ∧ i ≤ r ∧ r ≤ n ∧ Hid (∀ j, i ≤ j → j < r → delim (f j) = false)) (fun p => n - (intOf p).toNat)
  case atStart => exact ⟨i, rfl, by omega, by omega, fun j h1 h2 => by omega⟩
  case round =>
    obtain ⟨r, rfl, h1, h2, HD⟩ := hrel
    by_cases hlt : r < n
    · obtain ⟨d, Hd, hd⟩ : ∃ d, Hid (d = f r) ∧ w.cell? ⟨b, o + r, none⟩ = some (.int .u8 d) := ⟨_, rfl, Hc.out r hlt⟩
      cases hdl : delim d
      · have HD' : Hid (∀ j, i ≤ j → j < r + 1 → delim (f j) = false) := fun j h1 h2 => if e : j = r then by rw [e, ← Hd.out]; exact hdl else HD.out j h1 (by omega)
        go_wp2_with (go_at_call 12; refine (endsLiteral_any _ _).mono ?_; rintro e w' ⟨rfl, rfl⟩)
        go_round
        case rel => exact ⟨r + 1, by go_num, by omega, by omega, HD'⟩
        case measure => simp [intOf]; omega
      · by_cases hri : r = i
        · have HV : Hid (VEnd f n i (-1)) := .inr (.inr ⟨hi, Ho.out, .inl ⟨by rw [← hri, ← Hd.out]; exact hdl, rfl⟩⟩)
          have hq : ((r : Int) == (i : Int)) = true := by simp; omega
          clear hri
          go_wp2_with (go_at_call 12; refine (endsLiteral_any _ _).mono ?_; rintro e w' ⟨rfl, rfl⟩)
          go_ret
          exact ⟨_, rfl, HV.out, rfl⟩
        · have HV : Hid (VEnd f n i r) := .inr (.inr ⟨hi, Ho.out, .inr ⟨HD.out i (by omega) (by omega), r, by omega, by omega, rfl, HD.out, fun _ => by rw [← Hd.out]; exact hdl⟩⟩)
          have hq : ((r : Int) == (i : Int)) = false := by simp; omega
          go_wp2_with (go_at_call 12; refine (endsLiteral_any _ _).mono ?_; rintro e w' ⟨rfl, rfl⟩)
          go_ret
          exact ⟨_, rfl, HV.out, rfl⟩
    · have HV : Hid (VEnd f n i r) := .inr (.inr ⟨hi, Ho.out, .inr ⟨HD.out i (by omega) (by omega), r, by omega, by omega, rfl, HD.out, fun _ => by omega⟩⟩)
      have hq : ((r : Int) == (i : Int)) = false := by simp; omega
      go_wp2_with fail
      go_ret
      exact ⟨_, rfl, HV.out, rfl⟩

theorem jopen {f : Nat → Int} {i m d : Nat} {c : Int} (h : jrun f i m = some (false, false, d)) (hc : c = f (i + m)) (hb : c = 123 ∨ c = 91) : jrun f i (m + 1) = some (false, false, d + 1) := by
  rw [jrun_succ h, ← hc]
  rcases hb with rfl | rfl <;> rfl
theorem jclose {f : Nat → Int} {i m d : Nat} {c : Int} (h : jrun f i m = some (false, false, d)) (hc : c = f (i + m)) (hb : c = 125 ∨ c = 93) (hd : 2 ≤ d) : jrun f i (m + 1) = some (false, false, d - 1) := by
  rw [jrun_succ h, ← hc]
  have : d - 1 ≠ 0 := by omega
  rcases hb with rfl | rfl <;> simp [jstep, this]
theorem jend {f : Nat → Int} {i m d : Nat} {c : Int} (h : jrun f i m = some (false, false, d)) (hc : c = f (i + m)) (hb : c = 125 ∨ c = 93) (hd : d ≤ 1) : jfin f i (i + m + 1) := by
  refine ⟨m, _, _, _, rfl, h, ?_⟩
  rw [← hc]
  have : d - 1 = 0 := by omega
  rcases hb with rfl | rfl <;> simp [jstep, this]
theorem jquote {f : Nat → Int} {i m d : Nat} {c : Int} (h : jrun f i m = some (false, false, d)) (hc : c = f (i + m)) (hb : c = 34) : jrun f i (m + 1) = some (true, false, d) := by
  rw [jrun_succ h, ← hc, hb]; rfl
theorem jother {f : Nat → Int} {i m d : Nat} {c : Int} (h : jrun f i m = some (false, false, d)) (hc : c = f (i + m)) (h1 : c ≠ 34) (h2 : ¬ (c = 123 ∨ c = 91)) (h3 : ¬ (c = 125 ∨ c = 93)) : jrun f i (m + 1) = some (false, false, d) := by
  rw [jrun_succ h, ← hc]
  unfold jstep
  simp only [Bool.false_eq_true, if_false]
  rw [if_neg h1, if_neg h2, if_neg h3]

set_option maxHeartbeats 2000000 in
theorem valueEnd_box (b o cap n i : Nat) (f : Nat → Int) (w : World) (hn : n ≤ 1048576) (hi : i < n) (hbx : f i = 123 ∨ f i = 91)
    (hc : ∀ j, j < n → w.cell? ⟨b, o + j, none⟩ = some (.int .u8 (f j))) :
    Calls Try.prog 10 #[.slice (some ⟨b, o, none⟩) n cap, .int .i64 (i : Int)] w fun e w' => ∃ v, e = .returned (.int .i64 v) ∧ VEnd f n i v ∧ w = w' := by
  have Hc : Hid (∀ j, j < n → w.cell? ⟨b, o + j, none⟩ = some (.int .u8 (f j))) := hc
  obtain ⟨c0, HC0, h0⟩ : ∃ c, Hid (c = f i) ∧ w.cell? ⟨b, o + i, none⟩ = some (.int .u8 c) := ⟨_, rfl, hc i hi⟩
  have Hbx : Hid (f i = 123 ∨ f i = 91) := hbx
  have Ho : Hid (opener (f i) = true) := by rcases hbx with h | h <;> (rw [h]; exact rfl)
  have HNF : Hid (∀ q x, jrun f i q = some x → n ≤ i + q → VEnd f n i (-1)) := fun q x h1 h2 => .inr (.inl ⟨hi, Ho.out, .inr ⟨⟨q, x, h1, h2⟩, rfl⟩⟩)
  have HFN : Hid (∀ r, r ≤ n → jfin f i r → VEnd f n i r) := fun r h1 h2 => .inr (.inl ⟨hi, Ho.out, .inl ⟨r, h1, h2, rfl⟩⟩)
  rw [← HC0.out] at hbx
  have n34 : (c0 == 34) = false := by simp; omega
  clear hc
  have hg : decide (n ≤ i) = false := by simp; omega
  go_enter Try.func10, Try.ntmps10
  rcases hbx with rfl | rfl
  all_goals
    go_wp2
    go_loop [1, 5] (fun p t => ∃ m d : Nat, p = .int .i64 ((i : Int) + (m : Int)) ∧ t = .int .i64 (d : Int) ∧ i + m ≤ n ∧ d ≤ m ∧ (1 ≤ m → 1 ≤ d) ∧ Hid (jrun f i m = some (false, false, d))) (fun p _ => n - (intOf p).toNat)
    case atStart => exact ⟨0, 0, by go_num, rfl, by omega, by omega, fun h => by omega, rfl⟩
    case round =>
      obtain ⟨m, d, rfl, rfl, h1, h2, h3, HJ⟩ := hrel
      by_cases hlt : i + m < n
      · obtain ⟨c, HC, hcell⟩ : ∃ c, Hid (c = f (i + m)) ∧ w.cell? ⟨b, o + (i + m), none⟩ = some (.int .u8 c) := ⟨_, rfl, Hc.out _ hlt⟩
        have hm0 : c = 34 ∨ c = 125 ∨ c = 93 → 1 ≤ m := by
          intro hh
          by_cases e : m = 0
          · exfalso
            have hcf := HC.out
            rw [e, Nat.add_zero] at hcf
            have := Hbx.out
            omega
          · omega
        by_cases eo : c = 123 ∨ c = 91
        · have HJ' : Hid (jrun f i (m + 1) = some (false, false, d + 1)) := jopen HJ.out HC.out eo
          clear hm0 h3
          rcases eo with rfl | rfl
          all_goals
            go_wp2
            go_round
            case rel => exact ⟨m + 1, d + 1, by go_num, by go_num, by omega, by omega, fun _ => by omega, HJ'⟩
            case measure => simp [intOf]; omega
        · by_cases ec : c = 125 ∨ c = 93
          · have hm1 := hm0 (by omega)
            have hd1 := h3 hm1
            by_cases e1 : d = 1
            · have HV : Hid (VEnd f n i ((i + m + 1 : Nat) : Int)) := HFN.out _ (by omega) (jend HJ.out HC.out ec (by omega))
              clear hm0 h3 eo
              subst e1
              rcases ec with rfl | rfl
              all_goals
                go_wp2
                go_ret
                exact ⟨_, rfl, (by have := HV.out; simpa using this), rfl⟩
            · have HJ' : Hid (jrun f i (m + 1) = some (false, false, d - 1)) := jclose HJ.out HC.out ec (by omega)
              have hne : ((d : Int) - 1 == 0) = false := by simp; omega
              clear hm0 h3 eo
              rcases ec with rfl | rfl
              all_goals
                go_wp2
                go_round
                case rel => exact ⟨m + 1, d - 1, by go_num, by go_num, by omega, by omega, fun _ => by omega, HJ'⟩
                case measure => simp [intOf]; omega
          · by_cases e34 : c = 34
            · have hm1 := hm0 (by omega)
              have hd1 := h3 hm1
              have HJ' : Hid (jrun f i (m + 1) = some (true, false, d)) := jquote HJ.out HC.out e34
              have H34 : Hid (f (i + m) = 34) := by rw [← HC.out]; exact e34
              clear hm0 h3 eo ec
              subst e34
              go_wp2_with fail
              refine (stringEnd_at b o cap n (i + m) _ f _ (by omega) hn hlt H34.out Hc.out).mono ?_
              rintro e w' ⟨v, rfl, hS, rfl⟩
              rcases hS with ⟨r, hr, hf, rfl⟩ | ⟨⟨q, e', hq, hnq⟩, rfl⟩
              · have hgt := sfin_gt hf
                obtain ⟨q, hrq, HJ2⟩ : ∃ q, Hid (r = i + q) ∧ Hid (jrun f i q = some (false, false, d)) := jrun_of_sfin HJ'.out hd1 hf
                have hrq' := hrq.out
                clear hf
                subst hrq'
                go_wp2
                go_round
                case rel => exact ⟨q, d, by go_num, rfl, by omega, by omega, fun _ => hd1, HJ2⟩
                case measure => simp [intOf]; omega
              · have HV : Hid (VEnd f n i (-1)) := HNF.out _ _ (jrun_srun HJ'.out q e' hq) (by omega)
                clear hq hnq
                go_wp2
                go_ret
                exact ⟨_, rfl, HV.out, rfl⟩
            · have HJ' : Hid (jrun f i (m + 1) = some (false, false, d)) := jother HJ.out HC.out e34 eo ec
              have e1 : (c == 34) = false := by simp; omega
              have e2 : (c == 123) = false := by simp; omega
              have e3 : (c == 91) = false := by simp; omega
              have e4 : (c == 125) = false := by simp; omega
              have e5 : (c == 93) = false := by simp; omega
              have h3' : 1 ≤ m + 1 → 1 ≤ d := by
                intro _
                by_cases e : m = 0
                · exfalso
                  have hcf := HC.out
                  rw [e, Nat.add_zero] at hcf
                  have := Hbx.out
                  omega
                · exact h3 (by omega)
              have H3 : Hid (1 ≤ m + 1 → 1 ≤ d) := h3'
              clear hm0 h3 h3' eo ec e34
              go_wp2
              go_round
              case rel => exact ⟨m + 1, d, by go_num, rfl, by omega, by omega, H3.out, HJ'⟩
              case measure => simp [intOf]; omega
      · have HV : Hid (VEnd f n i (-1)) := HNF.out _ _ HJ.out (by omega)
        go_wp2
        go_ret
        exact ⟨_, rfl, HV.out, rfl⟩

end Go.Proofs.Qxb6630289a
