/- Plain functions on bytes: what StringLiteral writes. No Go here. -/
namespace Go.Proofs.Qxb6630340a
set_option linter.unusedVariables false
set_option linter.unusedSimpArgs false

def special (c : UInt8) : Bool := c == 39 || c == 92
def esc (c : UInt8) : List UInt8 := if special c then [92, c] else [c]
def body (l : List UInt8) : List UInt8 := l.flatMap esc
def lit (l : List UInt8) : List UInt8 := 39 :: (body l ++ [39])

theorem body_append (a b : List UInt8) : body (a ++ b) = body a ++ body b := by simp [body]
theorem body_cons (c : UInt8) (l : List UInt8) : body (c :: l) = esc c ++ body l := by simp [body]
theorem body_one (c : UInt8) : body [c] = esc c := by simp [body]
theorem body_take (l : List UInt8) (k : Nat) (h : k < l.length) (c : UInt8) (hc : c = l[k]) : body (l.take (k + 1)) = body (l.take k) ++ esc c := by
  rw [List.take_succ_eq_append_getElem h, body_append, body_one, hc]
theorem esc_le (c : UInt8) : (esc c).length ≤ 2 := by unfold esc; split <;> simp
theorem body_le (l : List UInt8) : (body l).length ≤ 2 * l.length := by
  induction l with
  | nil => simp [body]
  | cons c l ih =>
    rw [body_cons, List.length_append, List.length_cons]
    have := esc_le c
    omega
theorem body_ge (l : List UInt8) : l.length ≤ (body l).length := by
  induction l with
  | nil => simp [body]
  | cons c l ih =>
    rw [body_cons, List.length_append, List.length_cons]
    have : 1 ≤ (esc c).length := by unfold esc; split <;> simp
    omega
theorem body_take_le (l : List UInt8) (k : Nat) : (body (l.take k)).length ≤ 2 * l.length := by
  have := body_le (l.take k)
  have h2 : (l.take k).length ≤ l.length := by simp; omega
  omega
theorem lit_length (l : List UInt8) : (lit l).length = (body l).length + 2 := by simp [lit]

/-- The literal of two strings joined is the first without its last quote, then the second without its first. -/
theorem lit_append (a b : List UInt8) : lit (a ++ b) = (lit a).take ((lit a).length - 1) ++ (lit b).drop 1 := by
  rw [lit_length]
  have h1 : (lit a).take ((body a).length + 2 - 1) = 39 :: body a := by
    unfold lit
    rw [show (body a).length + 2 - 1 = (body a).length + 1 by omega, List.take_succ_cons, List.take_left]
  rw [h1]
  simp [lit, body_append]

end Go.Proofs.Qxb6630340a
