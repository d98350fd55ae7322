/- Base 32 over lists of numbers, in plain Lean. -/
namespace Go.Proofs.Ytmmhifomfbdfjaa
set_option linter.unusedVariables false
set_option linter.unusedSimpArgs false

def alphaL : List Int := [65, 66, 67, 68, 69, 70, 71, 72, 73, 74, 75, 76, 77, 78, 79, 80, 81, 82, 83, 84, 85, 86, 87, 88, 89, 90, 50, 51, 52, 53, 54, 55]
/-- Where a byte stands among the first k letters; 255: nowhere. -/
def decAt (k : Nat) (c : Nat) : Int := match (alphaL.take k).findIdx? (fun x => x == (c : Int)) with | some i => (i : Int) | none => 255
def letter (e : Int) : Int := alphaL.getD e.toNat 0
def chunk (b0 b1 b2 b3 b4 : Int) : List Int :=
  [letter (b0 / 8), letter (b0 % 8 * 4 + b1 / 64), letter (b1 / 2 % 32), letter (b1 % 2 * 16 + b2 / 16), letter (b2 % 16 * 2 + b3 / 128), letter (b3 / 4 % 32), letter (b3 % 4 * 8 + b4 / 32), letter (b4 % 32)]
def encL : List Int → List Int
  | b0 :: b1 :: b2 :: b3 :: b4 :: r => chunk b0 b1 b2 b3 b4 ++ encL r
  | [b0, b1, b2, b3] => (chunk b0 b1 b2 b3 0).take 7
  | [b0, b1, b2] => (chunk b0 b1 b2 0 0).take 5
  | [b0, b1] => (chunk b0 b1 0 0 0).take 4
  | [b0] => (chunk b0 0 0 0 0).take 2
  | [] => []

theorem encL_append (k : Nat) : ∀ (xs ys : List Int), xs.length = 5 * k → encL (xs ++ ys) = encL xs ++ encL ys := by
  induction k with
  | zero =>
    intro xs ys h
    obtain rfl : xs = [] := List.eq_nil_of_length_eq_zero (by omega)
    simp [encL]
  | succ k ih =>
    intro xs ys h
    match xs, h with
    | b0 :: b1 :: b2 :: b3 :: b4 :: r, h =>
      have hr : r.length = 5 * k := by simp at h; omega
      simp only [List.cons_append, encL, ih r ys hr, List.append_assoc]
    | [_, _, _, _], h => simp at h; omega
    | [_, _, _], h => simp at h; omega
    | [_, _], h => simp at h; omega
    | [_], h => simp at h; omega
    | [], h => simp at h
theorem encL_length (k : Nat) : ∀ (xs : List Int), xs.length = 5 * k → (encL xs).length = 8 * k := by
  induction k with
  | zero =>
    intro xs h
    obtain rfl : xs = [] := List.eq_nil_of_length_eq_zero (by omega)
    simp [encL]
  | succ k ih =>
    intro xs h
    match xs, h with
    | b0 :: b1 :: b2 :: b3 :: b4 :: r, h =>
      have hr : r.length = 5 * k := by simp at h; omega
      simp only [encL, List.length_append, ih r hr, chunk, List.length_cons, List.length_nil]
      omega
    | [_, _, _, _], h => simp at h; omega
    | [_, _, _], h => simp at h; omega
    | [_, _], h => simp at h; omega
    | [_], h => simp at h; omega
    | [], h => simp at h

theorem encL_len : ∀ (l : List Int), (encL l).length = l.length / 5 * 8 + (l.length % 5 * 8 + 4) / 5
  | b0 :: b1 :: b2 :: b3 :: b4 :: r => by
    have := encL_len r
    simp only [encL, List.length_append, chunk, List.length_cons, List.length_nil, this]
    omega
  | [_, _, _, _] => by simp [encL, chunk]
  | [_, _, _] => by simp [encL, chunk]
  | [_, _] => by simp [encL, chunk]
  | [_] => by simp [encL, chunk]
  | [] => by simp [encL, chunk]

/-- The row behind k rounds: the letters of the first 5 k bytes, zeros behind them. -/
def fillE (l : List Int) (k m : Nat) : List Int := encL (l.take (5 * k)) ++ List.replicate (m - 8 * k) 0

theorem set8 {α : Type} (P : List α) (z x0 x1 x2 x3 x4 x5 x6 x7 : α) (n q : Nat) (hq : P.length = q) :
    ((((((((P ++ List.replicate (n + 8) z).set q x0).set (q + 1) x1).set (q + 2) x2).set (q + 3) x3).set (q + 4) x4).set (q + 5) x5).set (q + 6) x6).set (q + 7) x7 =
      P ++ [x0, x1, x2, x3, x4, x5, x6, x7] ++ List.replicate n z := by
  subst hq
  have e : List.replicate (n + 8) z = z :: z :: z :: z :: z :: z :: z :: z :: List.replicate n z := rfl
  rw [e]
  simp [List.set_append]

theorem take_five (l : List Int) (k : Nat) (h : 5 * k + 5 ≤ l.length) :
    l.take (5 * (k + 1)) = l.take (5 * k) ++ [l.getD (5 * k) 0, l.getD (5 * k + 1) 0, l.getD (5 * k + 2) 0, l.getD (5 * k + 3) 0, l.getD (5 * k + 4) 0] := by
  have e : 5 * (k + 1) = 5 * k + 1 + 1 + 1 + 1 + 1 := by omega
  rw [e, List.take_succ_eq_append_getElem (by omega), List.take_succ_eq_append_getElem (by omega), List.take_succ_eq_append_getElem (by omega), List.take_succ_eq_append_getElem (by omega), List.take_succ_eq_append_getElem (by omega)]
  have g : ∀ i (hi : i < l.length), l.getD i 0 = l[i] := fun i hi => by rw [List.getD_eq_getElem?_getD, List.getElem?_eq_getElem hi]; rfl
  rw [g _ (by omega), g _ (by omega), g _ (by omega), g _ (by omega), g _ (by omega)]
  simp only [List.append_assoc, List.cons_append, List.nil_append]

theorem fill_step (l : List Int) (k m : Nat) (h : 5 * k + 5 ≤ l.length) (hm : 8 * k + 8 ≤ m) {b0 b1 b2 b3 b4 : Int}
    (h0 : b0 = l.getD (5 * k) 0) (h1 : b1 = l.getD (5 * k + 1) 0) (h2 : b2 = l.getD (5 * k + 2) 0) (h3 : b3 = l.getD (5 * k + 3) 0) (h4 : b4 = l.getD (5 * k + 4) 0) :
    ((((((((fillE l k m).set (8 * k) (letter (b0 / 8))).set (8 * k + 1) (letter (b0 % 8 * 4 + b1 / 64))).set (8 * k + 2) (letter (b1 / 2 % 32))).set (8 * k + 3) (letter (b1 % 2 * 16 + b2 / 16))).set (8 * k + 4) (letter (b2 % 16 * 2 + b3 / 128))).set (8 * k + 5) (letter (b3 / 4 % 32))).set (8 * k + 6) (letter (b3 % 4 * 8 + b4 / 32))).set (8 * k + 7) (letter (b4 % 32)) = fillE l (k + 1) m := by
  have hl : (encL (l.take (5 * k))).length = 8 * k := encL_length k _ (by rw [List.length_take]; omega)
  unfold fillE
  obtain ⟨n, hn⟩ : ∃ n, m - 8 * k = n + 8 := ⟨m - 8 * k - 8, by omega⟩
  rw [hn, set8 _ 0 _ _ _ _ _ _ _ _ n _ hl, take_five l k h, encL_append k _ _ (by rw [List.length_take]; omega), show m - 8 * (k + 1) = n by omega, ← h0, ← h1, ← h2, ← h3, ← h4]
  simp [encL, chunk]

theorem fill_last (l : List Int) (k : Nat) (h : 5 * k = l.length) : fillE l k (8 * k) = encL l := by
  unfold fillE
  rw [List.take_of_length_le (by omega)]; simp
theorem fill_one (l : List Int) (k : Nat) (h : 5 * k + 1 = l.length) {b0 : Int} (h0 : b0 = l.getD (5 * k) 0) :
    ((fillE l k (8 * k + 2)).set (8 * k + 1) (letter (b0 % 8 * 4))).set (8 * k) (letter (b0 / 8)) = encL l := by
  have hl : (encL (l.take (5 * k))).length = 8 * k := encL_length k _ (by rw [List.length_take]; omega)
  have e : l = l.take (5 * k) ++ [b0] := by
    have e1 : l = l.take (5 * k + 1) := by rw [List.take_of_length_le (by omega)]
    rw [h0]
    conv => lhs; rw [e1, List.take_succ_eq_append_getElem (by omega)]
    simp [List.getD_eq_getElem?_getD, List.getElem?_eq_getElem (show 5 * k < l.length by omega)]
  conv => rhs; rw [e, encL_append k _ _ (by rw [List.length_take]; omega)]
  unfold fillE
  rw [show 8 * k + 2 - 8 * k = 2 by omega]
  obtain ⟨P, hP⟩ : ∃ P, P = encL (l.take (5 * k)) := ⟨_, rfl⟩
  rw [← hP] at hl ⊢
  subst hP
  rw [← hl]
  simp [List.set_append, encL, chunk, List.replicate]
end Go.Proofs.Ytmmhifomfbdfjaa
