/- Bytes that a string was turned to: read, cut, written. -/
import Derived.Test.YtmmhifomfbdfjaaBrok
import Derived.Lib.SmallJoins
namespace Go.Proofs.Ytmmhifomfbdfjaa
open Go.RowKit Go.Proofs.YtmmhifomfbdfjaaW.PrintWords Go.Proofs.YtmmhifomfbdfjaaW.PrintLast Go.Proofs.YtmmhifomfbdfjaaW.PrintMore
set_option linter.unusedVariables false
set_option linter.unusedSimpArgs false
set_option linter.unusedSectionVars false

/-- Block g begins with these bytes; none of its cells is frozen. -/
def Tx (w : World) (g : Nat) (l : List Int) : Prop := ∃ (cs : Array Value) (hi : Nat), w.heap[g]? = some (.cells cs 5 (cs.size, hi)) ∧ ∀ (j : Nat) (v : Value), (u8s l)[j]? = some v → cs[j]? = some v
section
variable {w w' : World} {g : Nat} {l : List Int} (h : Tx w g l)
include h
theorem Tx.lt : g < w.heap.size := by
  obtain ⟨cs, hi, e, _⟩ := h
  exact (Array.getElem?_eq_some_iff.1 e).1
theorem Tx.below (hb : Below w.heap.size w w') : Tx w' g l := by
  have hlt := h.lt
  obtain ⟨cs, hi, e, hc⟩ := h
  exact ⟨cs, hi, (hb.block g hlt).trans e, hc⟩
theorem Tx.cell (j : Nat) (hj : j < l.length) : w.cell? ⟨g, j, none⟩ = some (.int .u8 (l.getD j 0)) := by
  obtain ⟨cs, hi, e, hc⟩ := h
  rw [cell_of_row w g j cs 5 (cs.size, hi) e]
  exact hc j _ (by rw [u8s, List.getElem?_map, List.getD_eq_getElem?_getD, List.getElem?_eq_getElem hj]; rfl)
theorem Tx.frozen (j : Nat) (hj : j < l.length) : w.frozen? ⟨g, j, none⟩ = false := by
  obtain ⟨cs, hi, e, hc⟩ := h
  have hs : j < cs.size := by
    have := hc j _ (by rw [u8s, List.getElem?_map, List.getElem?_eq_getElem hj]; rfl)
    exact (Array.getElem?_eq_some_iff.1 this).1
  simp [World.frozen?, e]
  omega
theorem Tx.rds (n : Nat) (hl : l.length ≤ 1000000) : Rds w (some ⟨g, 0, none⟩) (l.take n) := by
  refine Kd.C_of_reads (enc := Value.int .u8) (d := (0 : Int)) (h1 := fun _ => rfl) ⟨rfl, by rw [List.length_take]; omega, fun _ => ⟨_, rfl, fun j hj => ?_⟩⟩
  rw [List.length_take] at hj
  rw [add_plain, h.cell j (by omega), List.getD_eq_getElem?_getD, List.getD_eq_getElem?_getD, List.getElem?_take, if_pos (by omega)]
theorem Tx.put (i : Nat) (hi : i < l.length) (c : Int) : Tx (w.setCell ⟨g, i, none⟩ (.int .u8 c)) g (l.set i c) := by
  obtain ⟨cs, hi', e, hc⟩ := h
  refine ⟨cs.setIfInBounds i (.int .u8 c), hi', by rw [Joins.block_setCell e]; simp, ?_⟩
  intro j v hv
  rw [Array.getElem?_setIfInBounds]
  rw [u8s, List.getElem?_map, List.getElem?_set] at hv
  by_cases hij : i = j
  · subst hij
    rw [if_pos rfl, if_pos hi] at hv
    have hs : i < cs.size := by
      have := hc i _ (by rw [u8s, List.getElem?_map, List.getElem?_eq_getElem hi]; rfl)
      exact (Array.getElem?_eq_some_iff.1 this).1
    rw [if_pos rfl, if_pos hs]; exact hv
  · rw [if_neg hij] at hv ⊢
    exact hc j v (by rw [u8s, List.getElem?_map]; exact hv)
end
theorem Tx.new (w : World) (s : ByteArray) : Tx (Lib.bytesWorld w 5 s) w.heap.size (bytesOf s) := by
  refine ⟨_, _, Lib.bytesWorld_at_new w 5 s, ?_⟩
  intro j v hv
  unfold Lib.bytesCells
  have hj : j < s.data.size := by
    have := (List.getElem?_eq_some_iff.1 hv).1
    rw [u8s_length, bytesOf_length] at this
    exact this
  rw [Array.getElem?_append_left (by simpa using hj)]
  rw [← strCells_eq] at hv
  simpa using hv

section
variable {w : World} {ops : Array Oper} {rest : List Oper} {o : Oper} {a : Act} {Q : Exit → Act → World → Prop}
/-- A string turned to bytes, as one step of a walk. -/
theorem conv_bytes (hgd : o.guard = none) (x : Operand) (ho : o.op = .convert 9 22 x) (s : ByteArray) (hx : a.eval x = .string s) (n : Nat) (hn : s.size = n) (w0 : World) (hb : Below w0.heap.size w0 w)
    (h : ∀ g c w', n ≤ c → w0.heap.size ≤ g → Tx w' g (bytesOf s) → Below w0.heap.size w0 w' → wpList Try.prog ops Q rest (a.put o.dst (.slice (some ⟨g, 0, none⟩) n c)) w') : wpList Try.prog ops Q (o :: rest) a w := by
  subst hn
  refine wpList_plain hgd fun K hK => ?_
  have hrun := print_bytes (P := Try.prog) 9 22 5 Try.underlying9 Try.underlying22 Try.underlying5 s w
  unfold Oper.wp
  simp [execOp, ho, hx, hrun, Result.andThen]
  exact hK _ _ (h _ _ _ (grownCap_ge _ _ _ _) hb.size (Tx.new w s) (bytes_below hb hb.size 5 s))
end

/-! What the law asks of the text of a key. -/
section
variable {c : Int} {ys : List Int} (hc : Pref c) (hy : ys.length = 32) (hb : ∀ x ∈ ys, 0 ≤ x ∧ x ≤ 255)
include hc hy hb
theorem key_len : (keyL c ys).length = 56 := by rw [keyL, encL_len, chk_length, List.length_cons, hy]
theorem key_letters : ∀ x ∈ keyL c ys, ∃ e, 0 ≤ e ∧ e < 32 ∧ x = letter e := encL_mem _ (chk_bytes (key_bytes hc hb))
theorem key_chk : (chk (c :: ys)).length = 35 := by rw [chk_length]; simp [hy]
/-- A cut text. -/
theorem cut_txt (n : Nat) : Txt ((keyL c ys).take n) ((keyL c ys).take n).length :=
  txt_letters _ (by rw [List.length_take, key_len hc hy hb]; omega) (fun x hx => key_letters hc hy hb x (List.mem_of_mem_take hx))
theorem cut_bad (c' : Int) (n : Nat) (hn : n < 56) (h0 : ¬ endsAt (chk (c :: ys)) (n * 5 / 8)) (h1 : ¬ endsAt (chk (c :: ys)) (n / 8 * 5)) : ¬ good c' ((keyL c ys).take n) ((keyL c ys).take n).length := by
  intro h
  have hN : decN n ≤ 35 := by rcases decN_two n with h | h <;> omega
  have := cut_ends (chk (c :: ys)) (by rw [key_chk hc hy hb]) (chk_bytes (key_bytes hc hb)) n (by have := key_len hc hy hb; unfold keyL at this; omega) (by rw [key_chk hc hy hb]; exact hN) h.2.1
  rcases decN_two n with e | e <;> rw [e] at this
  · exact h0 this
  · exact h1 this
/-- A text with one letter changed. -/
theorem set_txt (t : Nat) (ht : t < 55) (x : Int) (hx : 0 ≤ x ∧ x ≤ 255) (h10 : x ≠ 10) (h13 : x ≠ 13) (hne : (keyL c ys).getD t 0 ≠ x) (c' : Int) :
    ∃ p, Txt ((keyL c ys).set t x) p ∧ ¬ good c' ((keyL c ys).set t x) p := by
  have hl := key_len hc hy hb
  have hL := key_letters hc hy hb
  obtain ⟨T, hT⟩ : ∃ T, T = keyL c ys := ⟨_, rfl⟩
  have hck : checks T := by rw [hT]; exact chk_checks (d := c :: ys) (by simp [hy]) (by simp [hy]) (by simp [hy]) (key_bytes hc hb)
  rw [← hT] at hl hL hne ⊢
  have hsl : (T.set t x).length = 56 := by simp [hl]
  have hmem : ∀ z ∈ T.set t x, z = x ∨ ∃ e, 0 ≤ e ∧ e < 32 ∧ z = letter e := fun z hz => by
    rcases List.mem_or_eq_of_mem_set hz with h | h
    · exact .inr (hL z h)
    · exact .inl h
  have hold : ∀ j, j < 56 → j ≠ t → ∃ e, 0 ≤ e ∧ e < 32 ∧ (T.set t x).getD j 0 = letter e := fun j hj hn => by
    rw [List.getD_eq_getElem?_getD, List.getElem?_set_ne (fun e => hn e.symm), ← List.getD_eq_getElem?_getD]
    exact hL _ (getD_mem (by omega))
  have hnew : (T.set t x).getD t 0 = x := by rw [List.getD_eq_getElem?_getD, List.getElem?_set_self (by omega)]; rfl
  have hbytes : ∀ z ∈ T.set t x, 0 ≤ z ∧ z ≤ 255 := fun z hz => by
    rcases hmem z hz with rfl | ⟨e, h0, h1, rfl⟩
    · exact hx
    · have := decV_letter h0 h1; omega
  have hlines : ∀ z ∈ T.set t x, z ≠ 10 ∧ z ≠ 13 := fun z hz => by
    rcases hmem z hz with rfl | ⟨e, h0, h1, rfl⟩
    · exact ⟨h10, h13⟩
    · have := decV_letter h0 h1; omega
  rcases decV_or hx.1 hx.2 with h | h
  · refine ⟨56, ⟨by omega, hbytes, hlines, by omega, ?_, by omega, by omega⟩, ?_⟩
    · intro j hj
      by_cases hjt : j = t
      · rw [hjt, hnew]; exact h
      · obtain ⟨e, h0, h1, he⟩ := hold j hj hjt
        rw [he, (decV_letter h0 h1).1]; exact ⟨h0, h1⟩
    · intro hg
      have hv : ∀ z ∈ T, Five (decV z) := fun z hz => by
        obtain ⟨e, h0, h1, rfl⟩ := hL z hz
        rw [(decV_letter h0 h1).1]; exact ⟨h0, h1⟩
      have e := changed T hl hv t x (by omega) h hck hg.2.1
      obtain ⟨y, y0, y1, hy'⟩ := hL _ (getD_mem (show t < T.length by omega))
      have hb1 := decV_letter y0 y1
      apply hne
      rw [← decV_back hx.1 hx.2 h.2, ← e, hy', hb1.1]
  · refine ⟨t, ⟨by omega, hbytes, hlines, by omega, ?_, ?_, ?_⟩, ?_⟩
    · intro j hj
      obtain ⟨e, h0, h1, he⟩ := hold j (by omega) (by omega)
      rw [he, (decV_letter h0 h1).1]; exact ⟨h0, h1⟩
    · intro _; rw [hnew]; exact h
    · intro _ _
      obtain ⟨e, h0, h1, he⟩ := hold (t + 1) (by omega) (by omega)
      have := decV_letter h0 h1
      refine ⟨by omega, by rw [he]; omega, by omega⟩
    · intro hg
      have := hg.1
      omega
end
end Go.Proofs.Ytmmhifomfbdfjaa
