/- A key's text that is cut or has one letter changed fails its check: in plain Lean. -/
import Derived.Test.YtmmhifomfbdfjaaSpecW
import Derived.Test.YtmmhifomfbdfjaaDec
namespace Go.Proofs.Ytmmhifomfbdfjaa
set_option linter.unusedVariables false
set_option linter.unusedSimpArgs false
set_option linter.unusedSectionVars false

theorem xor_zero {a b : Nat} (h : a ^^^ b = 0) : a = b := by
  have e : a ^^^ (a ^^^ b) = a ^^^ 0 := by rw [h]
  rw [← Nat.xor_assoc, Nat.xor_self, Nat.zero_xor, Nat.xor_zero] at e
  exact e.symm
theorem bit1_zero {n : Nat} (h : n < 65536) (e : bit1 n = 0) : n = 0 := by
  unfold bit1 at e
  split at e
  · omega
  · have := xor_zero e
    omega
theorem bits8_zero {n : Nat} (h : n < 65536) (e : bits8 n = 0) : n = 0 :=
  bit1_zero h (bit1_zero (bit1_lt h) (bit1_zero (bit1_lt (bit1_lt h)) (bit1_zero (bit1_lt (bit1_lt (bit1_lt h))) (bit1_zero (bit1_lt (bit1_lt (bit1_lt (bit1_lt h)))) (bit1_zero (bit1_lt (bit1_lt (bit1_lt (bit1_lt (bit1_lt h)))))
    (bit1_zero (bit1_lt (bit1_lt (bit1_lt (bit1_lt (bit1_lt (bit1_lt h)))))) (bit1_zero (bit1_lt (bit1_lt (bit1_lt (bit1_lt (bit1_lt (bit1_lt (bit1_lt h))))))) e)))))))
theorem bits8_inj {a b : Nat} (ha : a < 65536) (hb : b < 65536) (e : bits8 a = bits8 b) : a = b := by
  have h : bits8 (a ^^^ b) = 0 := by rw [bits8_xor ha hb, e, Nat.xor_self]
  exact xor_zero (bits8_zero (xor_lt ha hb) h)
theorem tab_low : ∀ x : Fin 256, bits8 (x.1 * 256) % 256 = 0 → x.1 = 0 := by decide +kernel
theorem tab_high : ∀ x : Fin 16, bits8 (x.1 * 256) < 256 → x.1 = 0 := by decide +kernel
theorem xor_byte {a b : Nat} (ha : a < 256) (hb : b < 256) : a ^^^ b < 256 := Nat.xor_lt_two_pow (n := 8) ha hb
theorem xor_cancel (a b c : Nat) (h : a ^^^ b = a ^^^ c) : b = c := by
  have : a ^^^ (a ^^^ b) = a ^^^ (a ^^^ c) := by rw [h]
  rwa [← Nat.xor_assoc, ← Nat.xor_assoc, Nat.xor_self, Nat.zero_xor, Nat.zero_xor] at this
theorem xor_four (a b c d : Nat) (h : a ^^^ b = c ^^^ d) : a ^^^ c = b ^^^ d := by
  have e : (a ^^^ b) ^^^ (b ^^^ c) = (c ^^^ d) ^^^ (b ^^^ c) := by rw [h]
  rw [Nat.xor_assoc, ← Nat.xor_assoc b b c, Nat.xor_self, Nat.zero_xor] at e
  rw [e, Nat.xor_comm b c, Nat.xor_comm c d, Nat.xor_assoc, ← Nat.xor_assoc c c b, Nat.xor_self, Nat.zero_xor, Nat.xor_comm]

section
variable {c c' x x' y y' : Int} (hc : 0 ≤ c ∧ c < 65536) (hc' : 0 ≤ c' ∧ c' < 65536) (hx : 0 ≤ x ∧ x ≤ 255) (hx' : 0 ≤ x' ∧ x' ≤ 255) (hy : 0 ≤ y ∧ y ≤ 255) (hy' : 0 ≤ y' ∧ y' ≤ 255)
include hc hc' hx in
theorem step_inj (e : crcStep c x = crcStep c' x) : c = c' := by
  rw [crcStep_bits c x hc hx, crcStep_bits c' x hc' hx] at e
  have h := bits8_inj (xor_lt (by omega) (by omega)) (xor_lt (by omega) (by omega)) (Int.ofNat.inj e)
  have := xor_cancel (x.toNat * 256) c.toNat c'.toNat (by rw [Nat.xor_comm, h, Nat.xor_comm])
  omega
include hc hx hx' in
/-- Two states that a byte apart leave: how they differ. -/
theorem step_diff : (crcStep c x).toNat ^^^ (crcStep c x').toNat = bits8 ((x.toNat ^^^ x'.toNat) * 256) := by
  rw [crcStep_bits c x hc hx, crcStep_bits c x' hc hx', Int.toNat_natCast, Int.toNat_natCast, ← bits8_xor (xor_lt (by omega) (by omega)) (xor_lt (by omega) (by omega))]
  congr 1
  have h := nat_xor_two x.toNat x'.toNat 8
  rw [show (2 : Nat) ^ 8 = 256 by decide] at h
  rw [h]
  obtain ⟨C, hC⟩ : ∃ C, C = c.toNat := ⟨_, rfl⟩
  rw [← hC, Nat.xor_comm C, Nat.xor_assoc, ← Nat.xor_assoc C C, Nat.xor_self, Nat.zero_xor]
include hc hx hx' hy hy' in
theorem step_two (e : crcStep (crcStep c x) y = crcStep (crcStep c x') y') : x = x' ∧ y = y' := by
  have r1 := crcStep_range c x
  have r2 := crcStep_range c x'
  rw [crcStep_bits _ y r1 hy, crcStep_bits _ y' r2 hy'] at e
  have h := bits8_inj (xor_lt (by omega) (by omega)) (xor_lt (by omega) (by omega)) (Int.ofNat.inj e)
  have h2 := xor_four _ _ _ _ h
  rw [step_diff hc hx hx'] at h2
  have h3 : bits8 ((x.toNat ^^^ x'.toNat) * 256) % 256 = 0 := by
    have hm := nat_xor_mod (y.toNat * 256) (y'.toNat * 256) 8
    rw [show (2 : Nat) ^ 8 = 256 by decide] at hm
    rw [h2, hm, Nat.mul_mod_left, Nat.mul_mod_left]; rfl
  have h4 := tab_low ⟨x.toNat ^^^ x'.toNat, xor_byte (by omega) (by omega)⟩ h3
  have h5 : x.toNat = x'.toNat := xor_zero h4
  have h6 : x = x' := by omega
  subst h6
  rw [Nat.xor_self, Nat.zero_mul, show bits8 0 = 0 by decide] at h2
  have h7 := xor_zero h2.symm
  exact ⟨rfl, by omega⟩
include hc hx hx' hy hy' in
theorem step_mix (z : Int) (hz : 0 ≤ z ∧ z ≤ 255) (h16 : x / 16 = x' / 16) (e : crcStep c x = y + z * 256) (e' : crcStep c x' = y' + z * 256) : x = x' ∧ y = y' := by
  have hd := step_diff hc hx hx'
  rw [e, e'] at hd
  have h1 : (y + z * 256).toNat ^^^ (y' + z * 256).toNat < 256 := by
    have hq := nat_xor_div (y + z * 256).toNat (y' + z * 256).toNat 8
    rw [show (2 : Nat) ^ 8 = 256 by decide, show (y + z * 256).toNat / 256 = (y' + z * 256).toNat / 256 by omega, Nat.xor_self] at hq
    omega
  have h2 : x.toNat ^^^ x'.toNat < 16 := by
    have hq := nat_xor_div x.toNat x'.toNat 4
    rw [show (2 : Nat) ^ 4 = 16 by decide, show x.toNat / 16 = x'.toNat / 16 by omega, Nat.xor_self] at hq
    omega
  have h4 := tab_high ⟨x.toNat ^^^ x'.toNat, h2⟩ (by show bits8 ((x.toNat ^^^ x'.toNat) * 256) < 256; rw [← hd]; exact h1)
  have h5 : x.toNat = x'.toNat := xor_zero h4
  have h6 : x = x' := by omega
  subst h6
  exact ⟨rfl, by omega⟩
end

theorem fold_inj (R : List Int) (hR : ∀ x ∈ R, 0 ≤ x ∧ x ≤ 255) : ∀ (c c' : Int), 0 ≤ c ∧ c < 65536 → 0 ≤ c' ∧ c' < 65536 → R.foldl crcStep c = R.foldl crcStep c' → c = c' := by
  induction R with
  | nil => intro c c' _ _ e; exact e
  | cons b R ih =>
    intro c c' hc hc' e
    exact step_inj hc hc' (hR b (by simp)) (ih (fun x hx => hR x (by simp [hx])) _ _ (crcStep_range _ _) (crcStep_range _ _) e)

/-- Two rows of 35 bytes that end with their check and differ at most in two neighbours are one. -/
theorem two_same (P R : List Int) (x y x' y' : Int) (hP : P.length + R.length = 33) (hR : ∀ z ∈ R, 0 ≤ z ∧ z ≤ 255) (hx : 0 ≤ x ∧ x ≤ 255) (hx' : 0 ≤ x' ∧ x' ≤ 255) (hy : 0 ≤ y ∧ y ≤ 255) (hy' : 0 ≤ y' ∧ y' ≤ 255)
    (h16 : R.length = 1 → x / 16 = x' / 16)
    (e : crcT ((P ++ x :: y :: R).take 33) = (P ++ x :: y :: R).getD 33 0 + (P ++ x :: y :: R).getD 34 0 * 256)
    (e' : crcT ((P ++ x' :: y' :: R).take 33) = (P ++ x' :: y' :: R).getD 33 0 + (P ++ x' :: y' :: R).getD 34 0 * 256) : x = x' ∧ y = y' := by
  have hcP := crcT_range P
  rcases Nat.lt_or_ge R.length 2 with h | h
  · rcases Nat.lt_or_ge R.length 1 with h1 | h1
    · obtain rfl : R = [] := List.eq_nil_of_length_eq_zero (by omega)
      have hl : P.length = 33 := by simpa using hP
      have t : ∀ a b : Int, (P ++ [a, b]).take 33 = P := fun a b => by rw [← hl, List.take_left]
      have g : ∀ a b : Int, (P ++ [a, b]).getD 33 0 = a ∧ (P ++ [a, b]).getD 34 0 = b := fun a b => by
        rw [List.getD_eq_getElem?_getD, List.getD_eq_getElem?_getD, List.getElem?_append_right (by omega), List.getElem?_append_right (by omega), hl]; exact ⟨rfl, rfl⟩
      rw [t, (g x y).1, (g x y).2] at e
      rw [t, (g x' y').1, (g x' y').2] at e'
      omega
    · obtain ⟨z, rfl⟩ : ∃ z, R = [z] := by
        match R, h, h1 with
        | [z], _, _ => exact ⟨z, rfl⟩
        | [], _, h1 => simp at h1
        | _ :: _ :: _, h, _ => simp at h; omega
      have hl : P.length = 32 := by simpa using hP
      have t : ∀ a b : Int, (P ++ [a, b, z]).take 33 = P ++ [a] := fun a b => by
        rw [show P ++ [a, b, z] = (P ++ [a]) ++ [b, z] by simp, show (33 : Nat) = (P ++ [a]).length by simp [hl], List.take_left]
      have g : ∀ a b : Int, (P ++ [a, b, z]).getD 33 0 = b ∧ (P ++ [a, b, z]).getD 34 0 = z := fun a b => by
        rw [List.getD_eq_getElem?_getD, List.getD_eq_getElem?_getD, List.getElem?_append_right (by omega), List.getElem?_append_right (by omega), hl]; exact ⟨rfl, rfl⟩
      have s : ∀ a : Int, crcT (P ++ [a]) = crcStep (crcT P) a := fun a => by unfold crcT; rw [List.foldl_append]; rfl
      rw [t, (g x y).1, (g x y).2, s] at e
      rw [t, (g x' y').1, (g x' y').2, s] at e'
      exact step_mix hcP hx hx' hy hy' z (hR z (by simp)) (h16 rfl) e e'
  · have hl : P.length + 2 ≤ 33 := by omega
    have t : ∀ a b : Int, (P ++ a :: b :: R).take 33 = P ++ a :: b :: R.take (33 - P.length - 2) := fun a b => by
      rw [List.take_append, List.take_of_length_le (by omega)]
      congr 1
      obtain ⟨n, hn⟩ : ∃ n, 33 - P.length = n + 2 := ⟨33 - P.length - 2, by omega⟩
      rw [hn]; rfl
    have g : ∀ a b : Int, ∀ i, 33 ≤ i → (P ++ a :: b :: R).getD i 0 = R.getD (i - P.length - 2) 0 := fun a b i hi => by
      rw [List.getD_eq_getElem?_getD, List.getElem?_append_right (by omega)]
      obtain ⟨n, hn⟩ : ∃ n, i - P.length = n + 2 := ⟨i - P.length - 2, by omega⟩
      rw [hn]; rfl
    rw [t, g x y 33 (by omega), g x y 34 (by omega)] at e
    rw [t, g x' y' 33 (by omega), g x' y' 34 (by omega), ← e] at e'
    have s : ∀ a b : Int, crcT (P ++ a :: b :: R.take (33 - P.length - 2)) = (R.take (33 - P.length - 2)).foldl crcStep (crcStep (crcStep (crcT P) a) b) := fun a b => by unfold crcT; rw [List.foldl_append, List.foldl_cons, List.foldl_cons]
    rw [s, s] at e'
    have := fold_inj _ (fun z hz => hR z (List.mem_of_mem_take hz)) _ _ (crcStep_range _ _) (crcStep_range _ _) e'
    exact step_two hcP hx hx' hy hy' this.symm

def okD (D : List Int) : Prop := crcT (D.take 33) = D.getD 33 0 + D.getD 34 0 * 256
theorem two_in (A B pre post : List Int) (x y x' y' : Int) (hl : A.length + pre.length + post.length + B.length = 33) (hB : ∀ z ∈ B, 0 ≤ z ∧ z ≤ 255) (hp : ∀ z ∈ post, 0 ≤ z ∧ z ≤ 255) (hx : 0 ≤ x ∧ x ≤ 255) (hx' : 0 ≤ x' ∧ x' ≤ 255) (hy : 0 ≤ y ∧ y ≤ 255) (hy' : 0 ≤ y' ∧ y' ≤ 255)
    (h16 : post.length + B.length = 1 → x / 16 = x' / 16) (e : okD (A ++ ((pre ++ x :: y :: post) ++ B))) (e' : okD (A ++ ((pre ++ x' :: y' :: post) ++ B))) : x = x' ∧ y = y' := by
  have h : ∀ a b : Int, A ++ ((pre ++ a :: b :: post) ++ B) = (A ++ pre) ++ a :: b :: (post ++ B) := fun a b => by simp
  rw [h] at e e'
  refine two_same (A ++ pre) (post ++ B) x y x' y' (by simp <;> omega) ?_ hx hx' hy hy' (by simp <;> omega) e e'
  intro z hz
  rcases List.mem_append.1 hz with hz | hz
  · exact hp z hz
  · exact hB z hz

def Five (v : Int) : Prop := 0 ≤ v ∧ v < 32
section
variable (A B : List Int) (q : Nat) (hA : A.length = 5 * q) (hB : B.length + 5 * q = 30) (hBb : ∀ z ∈ B, 0 ≤ z ∧ z ≤ 255) {v0 v1 v2 v3 v4 v5 v6 v7 u : Int}
  (h0 : Five v0) (h1 : Five v1) (h2 : Five v2) (h3 : Five v3) (h4 : Five v4) (h5 : Five v5) (h6 : Five v6) (h7 : Five v7) (hu : Five u) (e : okD (A ++ (pack v0 v1 v2 v3 v4 v5 v6 v7 ++ B)))
include hA hB hBb h0 h1 h2 h3 h4 h5 h6 h7 hu e
theorem letter0 (e' : okD (A ++ (pack u v1 v2 v3 v4 v5 v6 v7 ++ B))) : v0 = u := by
  unfold Five at *
  have := two_in A B [] [v3 % 16 * 16 + v4 / 2, v4 % 2 * 128 + v5 * 4 + v6 / 8, v6 % 8 * 32 + v7] _ _ _ _ (by simp <;> omega) hBb (by intro z hz; simp at hz; rcases hz with rfl | rfl | rfl <;> omega) (by omega) (by omega) (by omega) (by omega) (by simp <;> omega) e e'
  omega
theorem letter1 (e' : okD (A ++ (pack v0 u v2 v3 v4 v5 v6 v7 ++ B))) : v1 = u := by
  unfold Five at *
  have := two_in A B [] [v3 % 16 * 16 + v4 / 2, v4 % 2 * 128 + v5 * 4 + v6 / 8, v6 % 8 * 32 + v7] _ _ _ _ (by simp <;> omega) hBb (by intro z hz; simp at hz; rcases hz with rfl | rfl | rfl <;> omega) (by omega) (by omega) (by omega) (by omega) (by simp <;> omega) e e'
  omega
theorem letter2 (e' : okD (A ++ (pack v0 v1 u v3 v4 v5 v6 v7 ++ B))) : v2 = u := by
  unfold Five at *
  have := two_in A B [v0 * 8 + v1 / 4] [v4 % 2 * 128 + v5 * 4 + v6 / 8, v6 % 8 * 32 + v7] _ _ _ _ (by simp <;> omega) hBb (by intro z hz; simp at hz; rcases hz with rfl | rfl <;> omega) (by omega) (by omega) (by omega) (by omega) (by simp <;> omega) e e'
  omega
theorem letter3 (e' : okD (A ++ (pack v0 v1 v2 u v4 v5 v6 v7 ++ B))) : v3 = u := by
  unfold Five at *
  have := two_in A B [v0 * 8 + v1 / 4] [v4 % 2 * 128 + v5 * 4 + v6 / 8, v6 % 8 * 32 + v7] _ _ _ _ (by simp <;> omega) hBb (by intro z hz; simp at hz; rcases hz with rfl | rfl <;> omega) (by omega) (by omega) (by omega) (by omega) (by simp <;> omega) e e'
  omega
theorem letter4 (e' : okD (A ++ (pack v0 v1 v2 v3 u v5 v6 v7 ++ B))) : v4 = u := by
  unfold Five at *
  have := two_in A B [v0 * 8 + v1 / 4, v1 % 4 * 64 + v2 * 2 + v3 / 16] [v6 % 8 * 32 + v7] _ _ _ _ (by simp <;> omega) hBb (by intro z hz; simp at hz; omega) (by omega) (by omega) (by omega) (by omega) (by intro _; omega) e e'
  omega
theorem letter5 (e' : okD (A ++ (pack v0 v1 v2 v3 v4 u v6 v7 ++ B))) : v5 = u := by
  unfold Five at *
  have := two_in A B [v0 * 8 + v1 / 4, v1 % 4 * 64 + v2 * 2 + v3 / 16, v3 % 16 * 16 + v4 / 2] [] _ _ _ _ (by simp <;> omega) hBb (by intro z hz; simp at hz) (by omega) (by omega) (by omega) (by omega) (by simp <;> omega) e e'
  omega
theorem letter6 (e' : okD (A ++ (pack v0 v1 v2 v3 v4 v5 u v7 ++ B))) : v6 = u := by
  unfold Five at *
  have := two_in A B [v0 * 8 + v1 / 4, v1 % 4 * 64 + v2 * 2 + v3 / 16, v3 % 16 * 16 + v4 / 2] [] _ _ _ _ (by simp <;> omega) hBb (by intro z hz; simp at hz) (by omega) (by omega) (by omega) (by omega) (by simp <;> omega) e e'
  omega
theorem letter7 (e' : okD (A ++ (pack v0 v1 v2 v3 v4 v5 v6 u ++ B))) : v7 = u := by
  unfold Five at *
  have := two_in A B [v0 * 8 + v1 / 4, v1 % 4 * 64 + v2 * 2 + v3 / 16, v3 % 16 * 16 + v4 / 2] [] _ _ _ _ (by simp <;> omega) hBb (by intro z hz; simp at hz) (by omega) (by omega) (by omega) (by omega) (by simp <;> omega) e e'
  omega
end

theorem checks_okD {s : List Int} (hs : s.length = 56) : checks s ↔ okD (decB s) := by
  have hN : decN s.length = 35 := by rw [hs]; decide
  unfold checks okD
  rw [hN]
  exact ⟨fun h => h.2, fun h => ⟨by decide, h⟩⟩

/-- One letter changed: the check tells it. -/
theorem changed (s : List Int) (hs : s.length = 56) (hv : ∀ x ∈ s, Five (decV x)) (t : Nat) (c : Int) (ht : t < 56) (hc : Five (decV c)) (e : checks s) (e' : checks (s.set t c)) : decV (s.getD t 0) = decV c := by
  have e1 := (checks_okD hs).1 e
  have e2 := (checks_okD (s := s.set t c) (by simp [hs])).1 e'
  obtain ⟨q, hq⟩ : ∃ q, q = t / 8 := ⟨_, rfl⟩
  obtain ⟨r, hr⟩ : ∃ r, r = t % 8 := ⟨_, rfl⟩
  have htq : t = 8 * q + r := by omega
  have hr8 : r < 8 := by omega
  clear hq hr
  subst htq
  obtain ⟨A, hAe⟩ : ∃ A, A = s.take (8 * q) := ⟨_, rfl⟩
  have hAl : A.length = 8 * q := by rw [hAe, List.length_take]; omega
  obtain ⟨G, hG⟩ : ∃ G, G = s.drop (8 * q) := ⟨_, rfl⟩
  have hGl : G.length + 8 * q = 56 := by rw [hG, List.length_drop]; omega
  have hsp : s = A ++ G := by rw [hAe, hG, List.take_append_drop]
  clear hAe hG
  subst hsp
  match G, hGl with
  | c0 :: c1 :: c2 :: c3 :: c4 :: c5 :: c6 :: c7 :: B, hGl =>
    have hBl : (decB B).length + 5 * q = 30 := by
      simp at hGl
      rw [decB_len_full (6 - q) B (by omega)]; omega
    have hA5 := decB_len_full q A hAl
    have hBb : ∀ z ∈ decB B, 0 ≤ z ∧ z ≤ 255 := decB_range' B (fun x hx => hv x (by simp [hx]))
    rw [decB_append q A _ hAl] at e1
    rw [List.set_append_right _ _ (by omega), decB_append q A _ hAl, hAl, Nat.add_sub_cancel_left] at e2
    rw [List.getD_eq_getElem?_getD, List.getElem?_append_right (by omega), hAl, Nat.add_sub_cancel_left]
    have v0 := hv c0 (by simp)
    have v1 := hv c1 (by simp)
    have v2 := hv c2 (by simp)
    have v3 := hv c3 (by simp)
    have v4 := hv c4 (by simp)
    have v5 := hv c5 (by simp)
    have v6 := hv c6 (by simp)
    have v7 := hv c7 (by simp)
    match r, hr8 with
    | 0, _ => exact letter0 _ _ q hA5 hBl hBb v0 v1 v2 v3 v4 v5 v6 v7 hc e1 e2
    | 1, _ => exact letter1 _ _ q hA5 hBl hBb v0 v1 v2 v3 v4 v5 v6 v7 hc e1 e2
    | 2, _ => exact letter2 _ _ q hA5 hBl hBb v0 v1 v2 v3 v4 v5 v6 v7 hc e1 e2
    | 3, _ => exact letter3 _ _ q hA5 hBl hBb v0 v1 v2 v3 v4 v5 v6 v7 hc e1 e2
    | 4, _ => exact letter4 _ _ q hA5 hBl hBb v0 v1 v2 v3 v4 v5 v6 v7 hc e1 e2
    | 5, _ => exact letter5 _ _ q hA5 hBl hBb v0 v1 v2 v3 v4 v5 v6 v7 hc e1 e2
    | 6, _ => exact letter6 _ _ q hA5 hBl hBb v0 v1 v2 v3 v4 v5 v6 v7 hc e1 e2
    | 7, _ => exact letter7 _ _ q hA5 hBl hBb v0 v1 v2 v3 v4 v5 v6 v7 hc e1 e2
  | [_, _, _, _, _, _, _], h => simp at h; omega
  | [_, _, _, _, _, _], h => simp at h; omega
  | [_, _, _, _, _], h => simp at h; omega
  | [_, _, _, _], h => simp at h; omega
  | [_, _, _], h => simp at h; omega
  | [_, _], h => simp at h; omega
  | [_], h => simp at h; omega
  | [], h => simp at h; omega

theorem decV_back {c : Int} (h0 : 0 ≤ c) (h1 : c ≤ 255) (h : decV c < 32) : letter (decV c) = c := by
  have e : ∀ n : Fin 256, decV (n.1 : Int) < 32 → letter (decV (n.1 : Int)) = (n.1 : Int) := by decide +kernel
  have e' := e ⟨c.toNat, by omega⟩
  simp only [Int.toNat_of_nonneg h0] at e'
  exact e' h
theorem decV_or {c : Int} (h0 : 0 ≤ c) (h1 : c ≤ 255) : Five (decV c) ∨ decV c = 255 := by
  have e : ∀ n : Fin 256, (0 ≤ decV (n.1 : Int) ∧ decV (n.1 : Int) < 32) ∨ decV (n.1 : Int) = 255 := by decide +kernel
  have e' := e ⟨c.toNat, by omega⟩
  simp only [Int.toNat_of_nonneg h0] at e'
  exact e'

/-- The letters of whole groups, cut at n. -/
theorem dec_cut : ∀ (D : List Int), D.length % 5 = 0 → (∀ x ∈ D, Byte x) → ∀ n, n ≤ (encL D).length → decB ((encL D).take n) = D.take (decN n)
  | b0 :: b1 :: b2 :: b3 :: b4 :: r, hl, h, n, hn => by
    have k0 := h b0 (by simp)
    have k1 := h b1 (by simp)
    have k2 := h b2 (by simp)
    have k3 := h b3 (by simp)
    have k4 := h b4 (by simp)
    have hp := pack_chunk k0 k1 k2 k3 k4
    obtain ⟨e0, e1, e2, e3, e4, e5, e6, e7⟩ := dec_chunk k0 k1 k2 k3 k4
    rcases Nat.lt_or_ge n 8 with hn8 | hn8
    · have hd : ∀ j, (pack (b0 / 8) (b0 % 8 * 4 + b1 / 64) (b1 / 2 % 32) (b1 % 2 * 16 + b2 / 16) (b2 % 16 * 2 + b3 / 128) (b3 / 4 % 32) (b3 % 4 * 8 + b4 / 32) (b4 % 32)).take j = [b0, b1, b2, b3, b4].take j := fun j => by rw [hp]
      simp only [encL, chunk, List.cons_append, List.nil_append]
      match n, hn8 with
      | 0, _ => rfl
      | 1, _ => rfl
      | 2, _ =>
        have := hd 1
        rw [← e0, ← e1] at this
        exact this
      | 3, _ => rfl
      | 4, _ =>
        have := hd 2
        rw [← e0, ← e1, ← e2, ← e3] at this
        exact this
      | 5, _ =>
        have := hd 3
        rw [← e0, ← e1, ← e2, ← e3, ← e4] at this
        exact this
      | 6, _ => rfl
      | 7, _ =>
        have := hd 4
        rw [← e0, ← e1, ← e2, ← e3, ← e4, ← e5, ← e6] at this
        exact this
    · obtain ⟨m, rfl⟩ : ∃ m, n = m + 8 := ⟨n - 8, by omega⟩
      have hs : (encL (b0 :: b1 :: b2 :: b3 :: b4 :: r)).take (m + 8) = chunk b0 b1 b2 b3 b4 ++ (encL r).take m := by simp [encL, chunk]
      rw [hs, decB_chunk k0 k1 k2 k3 k4, dec_cut r (by simp at hl; omega) (fun x hx => h x (by simp [hx])) m (by simp [encL, chunk] at hn; omega), decN_more]
      simp
  | [_, _, _, _], hl, _, _, _ => by simp at hl
  | [_, _, _], hl, _, _, _ => by simp at hl
  | [_, _], hl, _, _, _ => by simp at hl
  | [_], hl, _, _, _ => by simp at hl
  | [], _, _, n, hn => by simp [encL, decB]

/-- So many bytes of D end with their check. -/
def endsAt (D : List Int) (m : Nat) : Prop := 2 ≤ m ∧ chk (D.take (m - 2)) = D.take m
theorem cut_ends (D : List Int) (h5 : D.length % 5 = 0) (hb : ∀ x ∈ D, Byte x) (n : Nat) (hn : n ≤ (encL D).length) (hN : decN n ≤ D.length) (hc : checks ((encL D).take n)) : endsAt D (decN n) := by
  have hl : ((encL D).take n).length = n := by rw [List.length_take]; omega
  unfold checks at hc
  rw [hl, dec_cut D h5 hb n hn] at hc
  obtain ⟨h4, hc⟩ := hc
  obtain ⟨m, hm⟩ : ∃ m, decN n = m + 2 := ⟨decN n - 2, by omega⟩
  rw [hm] at hc hN ⊢
  refine ⟨by omega, ?_⟩
  rw [show m + 2 - 2 = m by omega, show m + 2 - 1 = m + 1 by omega, List.take_take, Nat.min_eq_left (by omega)] at hc
  rw [show m + 2 - 2 = m by omega]
  have g : ∀ i (hi : i < m + 2) (h' : i < D.length), (D.take (m + 2)).getD i 0 = D[i] := fun i hi h' => by
    rw [List.getD_eq_getElem?_getD, List.getElem?_take, if_pos hi, List.getElem?_eq_getElem h']; rfl
  rw [g m (by omega) (by omega), g (m + 1) (by omega) (by omega)] at hc
  have k0 := hb _ (List.getElem_mem (show m < D.length by omega))
  have k1 := hb _ (List.getElem_mem (show m + 1 < D.length by omega))
  unfold Byte at k0 k1
  unfold chk
  rw [List.take_succ_eq_append_getElem (show m + 1 < D.length by omega), List.take_succ_eq_append_getElem (show m < D.length by omega), List.append_assoc, hc]
  congr 1
  simp only [List.cons_append, List.nil_append, List.cons.injEq, and_true]
  omega
theorem decN_two (n : Nat) : decN n = n * 5 / 8 ∨ decN n = n / 8 * 5 := by unfold decN; split <;> (try split) <;> (try split) <;> (try split) <;> omega
end Go.Proofs.Ytmmhifomfbdfjaa
