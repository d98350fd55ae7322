/- The checksum CRC-16 of XMODEM, in plain Lean: by a table and bit by bit. -/
namespace Go.Proofs.Ytmmhifomfbdfjaa
set_option linter.unusedVariables false
set_option linter.unusedSimpArgs false
/-- One bit of the checksum; eight of them. -/
def bit1 (n : Nat) : Nat := if n < 32768 then 2 * n else (2 * n - 65536) ^^^ 4129
def bits8 (n : Nat) : Nat := bit1 (bit1 (bit1 (bit1 (bit1 (bit1 (bit1 (bit1 n)))))))
/-- The table by which a byte is taken at once. -/
def tabL : List Int := (List.range 256).map fun i => ((bits8 (i * 256) : Nat) : Int)
def crcStep (c b : Int) : Int := (((c.toNat * 256 % 65536) ^^^ (tabL.getD ((c.toNat / 256 ^^^ b.toNat) % 256) 0).toNat : Nat) : Int)
def crcT (l : List Int) : Int := l.foldl crcStep 0
theorem tab_bound : ∀ i : Fin 256, 0 ≤ tabL.getD i.1 0 ∧ tabL.getD i.1 0 < 65536 := by decide +kernel
theorem tab_range (i : Nat) (h : i < 256) : 0 ≤ tabL.getD i 0 ∧ tabL.getD i 0 < 65536 := tab_bound ⟨i, h⟩
theorem crcStep_range (c b : Int) : 0 ≤ crcStep c b ∧ crcStep c b < 65536 := by
  unfold crcStep
  have h1 := tab_range ((c.toNat / 256 ^^^ b.toNat) % 256) (Nat.mod_lt _ (by decide))
  have h2 : (c.toNat * 256 % 65536) ^^^ (tabL.getD ((c.toNat / 256 ^^^ b.toNat) % 256) 0).toNat < 2 ^ 16 := Nat.xor_lt_two_pow (by omega) (by omega)
  omega
theorem crcT_range (l : List Int) : 0 ≤ crcT l ∧ crcT l < 65536 := by
  rcases List.eq_nil_or_concat l with rfl | ⟨xs, x, rfl⟩
  · simp [crcT]
  · rw [crcT, List.concat_eq_append, List.foldl_append]; exact crcStep_range _ _
theorem crcT_snoc (l : List Int) (k : Nat) (h : k < l.length) : crcT (l.take (k + 1)) = crcStep (crcT (l.take k)) (l.getD k 0) := by
  rw [List.take_succ_eq_append_getElem h, crcT, List.foldl_append, List.getD_eq_getElem?_getD, List.getElem?_eq_getElem h]; rfl
end Go.Proofs.Ytmmhifomfbdfjaa
