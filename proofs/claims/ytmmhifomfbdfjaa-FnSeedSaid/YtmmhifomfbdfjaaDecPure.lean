/- Base 32 read back, over lists of numbers, in plain Lean. -/
import Derived.Test.YtmmhifomfbdfjaaPure
namespace Go.Proofs.Ytmmhifomfbdfjaa
set_option linter.unusedVariables false
set_option linter.unusedSimpArgs false

/-- The value of a letter; 255: none. -/
def decV (c : Int) : Int := decAt 32 c.toNat
/-- Eight letters' values as five bytes. -/
def pack (v0 v1 v2 v3 v4 v5 v6 v7 : Int) : List Int := [v0 * 8 + v1 / 4, v1 % 4 * 64 + v2 * 2 + v3 / 16, v3 % 16 * 16 + v4 / 2, v4 % 2 * 128 + v5 * 4 + v6 / 8, v6 % 8 * 32 + v7]
/-- How many bytes so many letters are. -/
def decN (n : Nat) : Nat := n / 8 * 5 + (if n % 8 = 2 then 1 else if n % 8 = 4 then 2 else if n % 8 = 5 then 3 else if n % 8 = 7 then 4 else 0)
def decB : List Int → List Int
  | c0 :: c1 :: c2 :: c3 :: c4 :: c5 :: c6 :: c7 :: r => pack (decV c0) (decV c1) (decV c2) (decV c3) (decV c4) (decV c5) (decV c6) (decV c7) ++ decB r
  | [c0, c1, c2, c3, c4, c5, c6] => (pack (decV c0) (decV c1) (decV c2) (decV c3) (decV c4) (decV c5) (decV c6) 0).take 4
  | [c0, c1, c2, c3, c4] => (pack (decV c0) (decV c1) (decV c2) (decV c3) (decV c4) 0 0 0).take 3
  | [c0, c1, c2, c3] => (pack (decV c0) (decV c1) (decV c2) (decV c3) 0 0 0 0).take 2
  | [c0, c1] => (pack (decV c0) (decV c1) 0 0 0 0 0 0).take 1
  | _ => []

theorem decB_append (q : Nat) : ∀ (xs ys : List Int), xs.length = 8 * q → decB (xs ++ ys) = decB xs ++ decB ys := by
  induction q with
  | zero =>
    intro xs ys h
    obtain rfl : xs = [] := List.eq_nil_of_length_eq_zero (by omega)
    simp [decB]
  | succ q ih =>
    intro xs ys h
    match xs, h with
    | c0 :: c1 :: c2 :: c3 :: c4 :: c5 :: c6 :: c7 :: r, h =>
      have hr : r.length = 8 * q := by simp at h; omega
      simp only [List.cons_append, decB, ih r ys hr, List.append_assoc]
    | [_, _, _, _, _, _, _], h => simp at h; omega
    | [_, _, _, _, _, _], h => simp at h; omega
    | [_, _, _, _, _], h => simp at h; omega
    | [_, _, _, _], h => simp at h; omega
    | [_, _, _], h => simp at h; omega
    | [_, _], h => simp at h; omega
    | [_], h => simp at h; omega
    | [], h => simp at h
theorem decN_full (q : Nat) : decN (8 * q) = 5 * q := by unfold decN; rw [if_neg (by omega), if_neg (by omega), if_neg (by omega), if_neg (by omega)]; omega
theorem decB_len_full (q : Nat) : ∀ (xs : List Int), xs.length = 8 * q → (decB xs).length = 5 * q := by
  induction q with
  | zero =>
    intro xs h
    obtain rfl : xs = [] := List.eq_nil_of_length_eq_zero (by omega)
    simp [decB]
  | succ q ih =>
    intro xs h
    match xs, h with
    | c0 :: c1 :: c2 :: c3 :: c4 :: c5 :: c6 :: c7 :: r, h =>
      have hr : r.length = 8 * q := by simp at h; omega
      simp only [decB, List.length_append, ih r hr, pack, List.length_cons, List.length_nil]
      omega
    | [_, _, _, _, _, _, _], h => simp at h; omega
    | [_, _, _, _, _, _], h => simp at h; omega
    | [_, _, _, _, _], h => simp at h; omega
    | [_, _, _, _], h => simp at h; omega
    | [_, _, _], h => simp at h; omega
    | [_, _], h => simp at h; omega
    | [_], h => simp at h; omega
    | [], h => simp at h

/-- The eight values that are held behind j letters of the group that begins at i. -/
def dbufL (s : List Int) (i j : Nat) : List Int := ((s.drop i).take j).map decV ++ List.replicate (8 - j) 0
theorem dbufL_zero (s : List Int) (i : Nat) : dbufL s i 0 = [0, 0, 0, 0, 0, 0, 0, 0] := rfl
theorem dbufL_length (s : List Int) (i j : Nat) (hj : j ≤ 8) (h : i + j ≤ s.length) : (dbufL s i j).length = 8 := by
  unfold dbufL
  rw [List.length_append, List.length_map, List.length_take, List.length_drop, List.length_replicate]; omega
theorem dbufL_set (s : List Int) (i j : Nat) (hj : j < 8) (h : i + j < s.length) : (dbufL s i j).set j (decV (s.getD (i + j) 0)) = dbufL s i (j + 1) := by
  unfold dbufL
  have hl : (((s.drop i).take j).map decV).length = j := by rw [List.length_map, List.length_take, List.length_drop]; omega
  have hd : j < (s.drop i).length := by rw [List.length_drop]; omega
  rw [List.take_succ_eq_append_getElem hd, List.map_append, List.set_append, if_neg (by omega), hl, Nat.sub_self]
  obtain ⟨m, hm⟩ : ∃ m, 8 - j = m + 1 := ⟨7 - j, by omega⟩
  rw [hm, show 8 - (j + 1) = m by omega, List.replicate_succ, List.set_cons_zero]
  simp [List.getD_eq_getElem?_getD, List.getElem?_eq_getElem h]

/-- A group's bytes. -/
theorem dec_step (s : List Int) (q j : Nat) (hj : j ≤ 8) (h : 8 * q + j ≤ s.length) :
    decB (s.take (8 * q + j)) = decB (s.take (8 * q)) ++ (pack ((dbufL s (8 * q) j).getD 0 0) ((dbufL s (8 * q) j).getD 1 0) ((dbufL s (8 * q) j).getD 2 0) ((dbufL s (8 * q) j).getD 3 0) ((dbufL s (8 * q) j).getD 4 0) ((dbufL s (8 * q) j).getD 5 0) ((dbufL s (8 * q) j).getD 6 0) ((dbufL s (8 * q) j).getD 7 0)).take (decN j) := by
  rw [List.take_add, decB_append q _ _ (by rw [List.length_take]; omega)]
  congr 1
  obtain ⟨t, ht⟩ : ∃ t, t = (s.drop (8 * q)).take j := ⟨_, rfl⟩
  have hl : t.length = j := by rw [ht, List.length_take, List.length_drop]; omega
  unfold dbufL
  rw [← ht]
  subst hl
  clear ht h
  match t, hj with
  | [c0, c1, c2, c3, c4, c5, c6, c7], _ => simp [decB, decN, pack]
  | [c0, c1, c2, c3, c4, c5, c6], _ => simp [decB, decN, pack, List.replicate]
  | [c0, c1, c2, c3, c4, c5], _ => simp [decB, decN, pack, List.replicate]
  | [c0, c1, c2, c3, c4], _ => simp [decB, decN, pack, List.replicate]
  | [c0, c1, c2, c3], _ => simp [decB, decN, pack, List.replicate]
  | [c0, c1, c2], _ => simp [decB, decN, pack, List.replicate]
  | [c0, c1], _ => simp [decB, decN, pack, List.replicate]
  | [c0], _ => simp [decB, decN, pack, List.replicate]
  | [], _ => simp [decB, decN]
  | _ :: _ :: _ :: _ :: _ :: _ :: _ :: _ :: _ :: _, hj => simp at hj

section
variable {α : Type} (P : List α) (z x0 x1 x2 x3 x4 : α) (m n : Nat)
theorem set5 (hP : P.length = n) (hm : 5 ≤ m) : (((((P ++ List.replicate m z).set (n + 4) x4).set (n + 3) x3).set (n + 2) x2).set (n + 1) x1).set n x0 = P ++ [x0, x1, x2, x3, x4] ++ List.replicate (m - 5) z := by
  subst hP
  obtain ⟨k, rfl⟩ : ∃ k, m = k + 5 := ⟨m - 5, by omega⟩
  have e : List.replicate (k + 5) z = z :: z :: z :: z :: z :: List.replicate k z := rfl
  rw [e]; simp [List.set_append]
theorem set4 (hP : P.length = n) (hm : 4 ≤ m) : ((((P ++ List.replicate m z).set (n + 3) x3).set (n + 2) x2).set (n + 1) x1).set n x0 = P ++ [x0, x1, x2, x3] ++ List.replicate (m - 4) z := by
  subst hP
  obtain ⟨k, rfl⟩ : ∃ k, m = k + 4 := ⟨m - 4, by omega⟩
  have e : List.replicate (k + 4) z = z :: z :: z :: z :: List.replicate k z := rfl
  rw [e]; simp [List.set_append]
theorem set3 (hP : P.length = n) (hm : 3 ≤ m) : (((P ++ List.replicate m z).set (n + 2) x2).set (n + 1) x1).set n x0 = P ++ [x0, x1, x2] ++ List.replicate (m - 3) z := by
  subst hP
  obtain ⟨k, rfl⟩ : ∃ k, m = k + 3 := ⟨m - 3, by omega⟩
  have e : List.replicate (k + 3) z = z :: z :: z :: List.replicate k z := rfl
  rw [e]; simp [List.set_append]
theorem set2 (hP : P.length = n) (hm : 2 ≤ m) : ((P ++ List.replicate m z).set (n + 1) x1).set n x0 = P ++ [x0, x1] ++ List.replicate (m - 2) z := by
  subst hP
  obtain ⟨k, rfl⟩ : ∃ k, m = k + 2 := ⟨m - 2, by omega⟩
  have e : List.replicate (k + 2) z = z :: z :: List.replicate k z := rfl
  rw [e]; simp [List.set_append]
theorem set1 (hP : P.length = n) (hm : 1 ≤ m) : (P ++ List.replicate m z).set n x0 = P ++ [x0] ++ List.replicate (m - 1) z := by
  subst hP
  obtain ⟨k, rfl⟩ : ∃ k, m = k + 1 := ⟨m - 1, by omega⟩
  have e : List.replicate (k + 1) z = z :: List.replicate k z := rfl
  rw [e]; simp [List.set_append]
end
theorem decN_ge (q n : Nat) (h : 8 * q ≤ n) : 5 * q ≤ decN n := by unfold decN; omega
theorem held_len (s : List Int) (q M : Nat) (h : 8 * q ≤ s.length) (hM : decN s.length ≤ M) : (decB (s.take (8 * q)) ++ List.replicate (M - 5 * q) 0).length = M := by
  have := decN_ge q s.length h
  rw [List.length_append, decB_len_full q _ (by rw [List.length_take]; omega), List.length_replicate]; omega
theorem decN_add (q j : Nat) : decN (8 * q + j) = 5 * q + decN j := by
  unfold decN
  rw [show (8 * q + j) % 8 = j % 8 by omega, show (8 * q + j) / 8 = q + j / 8 by omega]; omega
theorem dbufL_range (s : List Int) (i j : Nat) (h : i + j ≤ s.length) (hv : ∀ t, t < i + j → 0 ≤ decV (s.getD t 0) ∧ decV (s.getD t 0) < 32) (t : Nat) : 0 ≤ (dbufL s i j).getD t 0 ∧ (dbufL s i j).getD t 0 < 32 := by
  unfold dbufL
  have hl : (((s.drop i).take j).map decV).length = j := by rw [List.length_map, List.length_take, List.length_drop]; omega
  rw [List.getD_eq_getElem?_getD]
  rcases Nat.lt_or_ge t j with ht | ht
  · rw [List.getElem?_append_left (by omega), List.getElem?_map, List.getElem?_take, if_pos ht, List.getElem?_drop, List.getElem?_eq_getElem (show i + t < s.length by omega)]
    have := hv (i + t) (by omega)
    rw [List.getD_eq_getElem?_getD, List.getElem?_eq_getElem (show i + t < s.length by omega)] at this
    exact this
  · rw [List.getElem?_append_right (by omega), List.getElem?_replicate]
    split <;> simp
theorem next_dst (s : List Int) (q j M : Nat) (hj : j ≤ 8) (h : 8 * q + j ≤ s.length) (hM : decN s.length ≤ M) {v0 v1 v2 v3 v4 v5 v6 v7 : Int} {V : List Int} (hV : V = dbufL s (8 * q) j)
    (h0 : v0 = V.getD 0 0) (h1 : v1 = V.getD 1 0) (h2 : v2 = V.getD 2 0) (h3 : v3 = V.getD 3 0) (h4 : v4 = V.getD 4 0) (h5 : v5 = V.getD 5 0) (h6 : v6 = V.getD 6 0) (h7 : v7 = V.getD 7 0)
    {x : List Int} (hx : x = (pack v0 v1 v2 v3 v4 v5 v6 v7).take (decN j)) :
    decB (s.take (8 * q)) ++ x ++ List.replicate (M - 5 * q - decN j) 0 = decB (s.take (8 * q + j)) ++ List.replicate (M - (5 * q + decN j)) 0 := by
  subst hV h0 h1 h2 h3 h4 h5 h6 h7 hx
  rw [dec_step s q j hj h, show M - (5 * q + decN j) = M - 5 * q - decN j by omega]
theorem decN_more (n : Nat) : decN (n + 8) = decN n + 5 := by
  unfold decN
  rw [show (n + 8) % 8 = n % 8 by omega, show (n + 8) / 8 = n / 8 + 1 by omega]; omega
theorem decB_len : ∀ (l : List Int), (decB l).length = decN l.length
  | c0 :: c1 :: c2 :: c3 :: c4 :: c5 :: c6 :: c7 :: r => by
    have := decB_len r
    simp only [decB, List.length_append, pack, List.length_cons, List.length_nil, this]
    rw [show r.length + 1 + 1 + 1 + 1 + 1 + 1 + 1 + 1 = r.length + 8 by omega, decN_more]; omega
  | [_, _, _, _, _, _, _] => by simp [decB, pack, decN]
  | [_, _, _, _, _, _] => by simp [decB, decN]
  | [_, _, _, _, _] => by simp [decB, pack, decN]
  | [_, _, _, _] => by simp [decB, pack, decN]
  | [_, _, _] => by simp [decB, decN]
  | [_, _] => by simp [decB, pack, decN]
  | [_] => by simp [decB, decN]
  | [] => by simp [decB, decN]
end Go.Proofs.Ytmmhifomfbdfjaa
