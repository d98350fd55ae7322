/- laws.works: the package answers at all. laws.known. -/
import Derived.Test.YtmmhifomfbdfjaaEncT
namespace Go.Proofs.Ytmmhifomfbdfjaa
open Go.RowKit Go.Proofs.YtmmhifomfbdfjaaW.PrintWords Go.Proofs.YtmmhifomfbdfjaaW.PrintLast Go.Proofs.YtmmhifomfbdfjaaW.PrintMore
set_option linter.unusedVariables false
set_option linter.unusedSimpArgs false

theorem keyL_length (c : Int) (ys : List Int) (hy : ys.length = 32) : (keyL c ys).length = 56 := by
  rw [keyL, encL_len, chk_length, List.length_cons, hy]
theorem strOfNums_size (l : List Int) : (strOfNums l).size = l.length := by simp [strOfNums, ByteArray.size]

set_option maxHeartbeats 800000 in
theorem works_any (w : World) : Calls Try.prog 10 #[] w fun e w' => e = .returned (.bool true) ∧ Below w.heap.size w w' := by
  obtain ⟨l, hl⟩ : ∃ l : List Int, l = List.replicate 32 0 := ⟨_, rfl⟩
  have hl1 : l.length = 32 := by rw [hl]; simp
  have HLB := Aside0.mk (show ∀ x ∈ l, 0 ≤ x ∧ x ≤ 255 by rw [hl]; intro x hx; have := List.eq_of_mem_replicate hx; omega)
  have HZ := Aside0.mk (show (32 : Nat) = l.length by rw [hl1])
  have HL := Aside0.mk hl
  obtain ⟨T, hT⟩ : ∃ T, T = strOfNums (keyL (pk 4) l) := ⟨_, rfl⟩
  have hTs : T.size = 56 := by rw [hT, strOfNums_size, keyL_length _ _ hl1]
  have HT := Aside0.mk hT
  clear hl hl1 hT
  go_enter Try.func10, Try.ntmps10
  go_wp2_with ((with_reducible refine gate_dst (N := 4) rfl ?_); refine make_any rfl _ _ rfl 32 32 rfl rfl rfl (by omega) ?_)
  have e : l = [0, 0, 0, 0, 0, 0, 0, 0, 0, 0, 0, 0, 0, 0, 0, 0, 0, 0, 0, 0, 0, 0, 0, 0, 0, 0, 0, 0, 0, 0, 0, 0] := HL.out.trans rfl
  rw [← e]
  clear e
  have R1 := Aside0.mk (lit_rds w l (by have := HZ.out; omega))
  have B1 := Aside0.mk (below_alloc (Below.refl w.heap.size w) (.cells (u8s l).toArray 5))
  refine calls_of_args (args' := #[.int .i64 4, .slice (some ⟨w.heap.size, 0, none⟩) l.length 32]) (by rw [← HZ.out]) ?_
  refine (implEncode _ 4 _ 32 l (by omega) (by omega) R1.out (by have := HZ.out; omega) HZ.out.symm HLB.out).mono ?_
  rintro e w2 ⟨rfl, hb2⟩
  have B2 := Aside0.mk (below_step B1.out hb2)
  clear hb2 B1 R1
  rw [← HT.out]
  go_wp2
  go_ret
  exact ⟨rfl, B2.out⟩

theorem known_f (k : Int) : PFnEncode.laws_known.f k = some (decide (0 ≤ k ∧ k ≤ 5)) := by
  unfold PFnEncode.laws_known.f
  by_cases h : 0 ≤ k
  · rw [if_pos h]; simp [h]
  · rw [if_neg h]; simp [h]
theorem known_yes (w : World) (k : Int) (h0 : 0 ≤ k) (h1 : k < 6) : Calls Try.prog 9 #[.int .i64 k] w fun e w' => e = .returned (.bool true) ∧ Below w.heap.size w w' :=
  (PFnEncode.laws_known.calls k true w (by rw [known_f]; simp; omega)).mono fun _ _ h => ⟨h.1, h.2.below⟩
theorem known_no (w : World) (k : Int) (h : k < 0 ∨ 6 ≤ k) : Calls Try.prog 9 #[.int .i64 k] w fun e w' => e = .returned (.bool false) ∧ Below w.heap.size w w' :=
  (PFnEncode.laws_known.calls k false w (by rw [known_f]; simp; omega)).mono fun _ _ h => ⟨h.1, h.2.below⟩

/-- A slice of bytes that came in, as a list. -/
theorem row_list {w : World} {a : Option Addr} {len cap : Nat} {zs : List Int} (h : (a = none ∧ len = 0 ∧ cap = 0 ∧ zs = []) ∨ ∃ x, a = some x ∧ len ≤ cap ∧ cap ≤ maxLen ∧ zs.length = cap ∧ (∀ i, i < zs.length → w.cell? (x.add i) = some (.int .u8 (zs.getD i 0))) ∧ ∀ n ∈ zs, (Lit.int .u8 n).wf = true) :
    ∃ l : List Int, len = l.length ∧ Rds w a l ∧ l.length ≤ cap ∧ l.length ≤ 9223372036854775807 ∧ ∀ x ∈ l, 0 ≤ x ∧ x ≤ 255 := by
  have hc : len ≤ cap := by
    rcases h with ⟨_, rfl, rfl, _⟩ | ⟨x, _, hl, _⟩
    · exact Nat.le_refl _
    · exact hl
  obtain ⟨l, rfl, hr, hm, hw⟩ := ReadsInt.ofRow h
  refine ⟨l, rfl, Kd.C_of_reads (enc := Value.int .u8) (d := (0 : Int)) (h1 := fun _ => rfl) hr, hc, by simpa [maxLen] using hm, fun x hx => ?_⟩
  have := hw x hx
  simp [Lit.wf, IntKind.min, IntKind.max, IntKind.signed, IntKind.bits] at this
  omega
end Go.Proofs.Ytmmhifomfbdfjaa
