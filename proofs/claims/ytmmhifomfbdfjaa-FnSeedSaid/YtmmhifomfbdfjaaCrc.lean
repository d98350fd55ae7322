/- The checksum: its table, and crc16 over a row of bytes. -/
import Derived.Test.YtmmhifomfbdfjaaB0
import Derived.Test.YtmmhifomfbdfjaaCrcPure
import Derived.Test.YtmmhifomfbdfjaaBits
namespace Go.Proofs.Ytmmhifomfbdfjaa
open Go.RowKit Go.Proofs.YtmmhifomfbdfjaaW.PrintWords Go.Proofs.YtmmhifomfbdfjaaW.PrintLast Go.Proofs.YtmmhifomfbdfjaaW.PrintMore
set_option linter.unusedVariables false
set_option linter.unusedSimpArgs false

noncomputable def tabCells : Array Value := (tabL.map (Value.int .u16)).toArray
theorem tabCells_size : tabCells.size = 256 := by kernel_rfl
theorem tabCells_one : tabCells.all (·.oneCell') = true := by kernel_rfl
theorem size76 : (Try.prog.info? 76).map (·.size) = some tabCells.size := by kernel_rfl
theorem zero76_size : Try.zeroCells76.size = tabCells.size := by kernel_rfl

section
variable {P : Program} {w : World} {ops : Array Oper} {rest : List Oper} {o : Oper} {a : Act} {Q : Exit → Act → World → Prop}
theorem build_to (hgd : o.guard = none) (t : TypeId) (parts : Array (Nat × Operand)) (ho : o.op = .build t parts) (cells : Array Value)
    (hf : P.built t (parts.map fun (i, x) => (i, a.eval x)).toList = some cells)
    (h : wpList P ops Q rest (a.put o.dst (.agg cells)) w) : wpList P ops Q (o :: rest) a w :=
  wpList_build hgd t parts ho (by rw [hf]; rfl) (by rw [hf]; exact h)
end

set_option maxHeartbeats 400000 in
set_option maxRecDepth 100000 in
theorem tab_any (w : World) :
    Calls Try.prog 60 #[] w fun e w' => e = .returned (.agg tabCells) ∧ Below w.heap.size w w' := by
  go_enter Try.func60, Try.ntmps60
  go_wp2_with (first
    | ((with_reducible refine gate_dst (N := 1) rfl ?_); refine build_to rfl 76 _ rfl tabCells ?hf ?_; (case hf => as_aux_lemma => kernel_rfl))
    | ((with_reducible refine gate_store (t := 76) (p := 0) rfl ?_); refine wpList_store_row rfl 76 (.tmp 0) (.tmp 1) rfl w.heap.size tabCells ?hx ?hy 76 Try.zeroCells76 ?hg size76 zero76_size tabCells_one ?_; (case hx => rfl); (case hy => rfl); (case hg => exact heap_alloc_new w _)))
  refine bodyPost_ret (v := .agg tabCells) (results_cell_row Try.results60 _ _ w.heap.size 76 tabCells (0, 0) _ rfl ?_ Try.underlying76 rfl size76) rfl ⟨rfl, ?_⟩
  · exact setRow_heap _ _ _ _ _ _ (heap_alloc_new w _)
  · exact below_setRow (below_alloc (Below.refl _ _) _) (Nat.le_refl _) _

theorem tabL_length : tabL.length = 256 := by kernel_rfl
theorem tab_cell {w : World} {g : Nat} {t : TypeId} (h : Blk w g t tabCells) (i : Int) (h0 : 0 ≤ i) (h1 : i < 256) : w.cell? ⟨g, i.toNat, none⟩ = some (.int .u16 (tabL.getD i.toNat 0)) := by
  have hl : i.toNat < tabL.length := by have := tabL_length; omega
  rw [Blk.cell h, tabCells, List.getElem?_toArray, List.getElem?_map, List.getD_eq_getElem?_getD, List.getElem?_eq_getElem hl]; rfl

/-- What the walk of a round computes. -/
theorem crc_step_walk {c b : Int} (C : 0 ≤ c ∧ c < 65536) (B : 0 ≤ b ∧ b ≤ 255) :
    bits .and .u16 (IntKind.u16.wrap (c * 256)) 65535 = c * 256 % 65536 ∧
    bits .and .u16 (bits .xor .u16 (c / 256) b) 255 = ((((c.toNat / 256 ^^^ b.toNat) % 256 : Nat)) : Int) ∧
    bits .xor .u16 (c * 256 % 65536) (tabL.getD ((c.toNat / 256 ^^^ b.toNat) % 256) 0) = crcStep c b := by
  refine ⟨by rw [IntKind.wrap_u16]; exact u16_and_all (by omega) (by omega), ?_, ?_⟩
  · rw [u16_xor _ _ (by omega) (by omega) (by omega) (by omega)]
    have hx : (c / 256).toNat ^^^ b.toNat < 2 ^ 16 := Nat.xor_lt_two_pow (by omega) (by omega)
    rw [u16_and255 (by omega) (by omega)]
    rw [show (c / 256).toNat = c.toNat / 256 by omega]
    omega
  · have h1 := tab_range ((c.toNat / 256 ^^^ b.toNat) % 256) (Nat.mod_lt _ (by decide))
    rw [u16_xor _ _ (by omega) (by omega) (by omega) (by omega), crcStep]
    rw [show (c * 256 % 65536).toNat = c.toNat * 256 % 65536 by omega]

set_option maxHeartbeats 800000 in
set_option maxRecDepth 100000 in
theorem crc16_any (w : World) (A : Option Addr) (cap : Nat) (l : List Int) (hr : (Kd.int .u8).C w A l.length l) (hc : l.length ≤ cap) (hl : l.length ≤ 100000) (hb : ∀ x ∈ l, 0 ≤ x ∧ x ≤ 255) :
    Calls Try.prog 51 #[.slice A l.length cap] w fun e w' => e = .returned (.int .u16 (crcT l)) ∧ Below w.heap.size w w' := by
  have HR := Aside0.mk hr
  have HB := Aside0.mk hb
  clear hr hb
  go_enter Try.func51, Try.ntmps51
  go_wp2_with (first
    | (go_at_call 60; refine (tab_any w).mono ?_; rintro e w1 ⟨rfl, hb1⟩; have HB1 := Aside0.mk hb1; clear hb1)
    | ((with_reducible refine gate_store (t := 76) (p := 4) rfl ?_); refine wpList_store_row rfl 76 (.tmp 4) (.tmp 7) rfl w1.heap.size tabCells ?hx ?hy 76 Try.zeroCells76 ?hg size76 zero76_size tabCells_one ?_; (case hx => rfl); (case hy => rfl); (case hg => exact heap_alloc_new w1 _)))
  have HT := Aside0.mk (show Blk ((w1.alloc (.cells Try.zeroCells76 76)).setRow w1.heap.size tabCells) w1.heap.size 76 tabCells from setRow_heap _ _ _ _ _ _ (heap_alloc_new w1 _))
  have HB2 := Aside0.mk (show Below w.heap.size w ((w1.alloc (.cells Try.zeroCells76 76)).setRow w1.heap.size tabCells) from below_setRow (below_alloc HB1.out _) HB1.out.size _)
  clear HB1
  go_loopw [3, 6, 10] (fun v3 v6 v10 wr => ∃ k : Nat, k ≤ l.length ∧ v10 = .int .i64 k ∧ v3 = .int .u16 (crcT (l.take k)) ∧ Aside0 (Blk wr w1.heap.size 76 tabCells) ∧ Aside0 (Below w.heap.size w wr)) (fun _ _ i _ => l.length - (intOf i).toNat)
  case atStart => exact ⟨0, by omega, rfl, rfl, HT, HB2⟩
  case round =>
    clear HT HB2
    obtain ⟨k, hk, rfl, rfl, HT, HB2⟩ := hrel
    by_cases hlt : k < l.length
    · obtain ⟨ad, eA, hx0⟩ := Kd.at_int (Kd.C_below HR.out HB2.out) k (by omega) (by omega)
      cases eA
      rw [Int.toNat_natCast] at hx0
      obtain ⟨b, hb⟩ : ∃ b, b = l.getD k 0 := ⟨_, rfl⟩
      rw [show rd l (k : Int) = b by rw [hb, rd, Int.toNat_natCast]] at hx0
      have Bb : 0 ≤ b ∧ b ≤ 255 := by
        rw [hb, List.getD_eq_getElem?_getD, List.getElem?_eq_getElem hlt]
        exact HB.out _ (List.getElem_mem hlt)
      have HS := Aside0.mk (crcT_snoc l k hlt)
      rw [← hb] at HS
      clear hb
      obtain ⟨c, hcd⟩ : ∃ c, c = crcT (l.take k) := ⟨_, rfl⟩
      have Bc : 0 ≤ c ∧ c < 65536 := by rw [hcd]; exact crcT_range _
      rw [← hcd] at HS ⊢
      clear hcd
      obtain ⟨X1, X2, X3⟩ := crc_step_walk Bc Bb
      obtain ⟨i, hi⟩ : ∃ i : Nat, i = (c.toNat / 256 ^^^ b.toNat) % 256 := ⟨_, rfl⟩
      have hi2 : i < 256 := by rw [hi]; exact Nat.mod_lt _ (by decide)
      rw [← hi] at X2 X3
      clear hi
      have hcell := tab_cell HT.out (i : Int) (by omega) (by omega)
      rw [Int.toNat_natCast] at hcell
      obtain ⟨t, ht⟩ : ∃ t, t = tabL.getD i 0 := ⟨_, rfl⟩
      rw [← ht] at hcell X3
      clear ht
      go_wp2
      go_roundw
      case rel => exact ⟨k + 1, by omega, by go_num, by rw [HS.out], HT, HB2⟩
      case measure => simp [intOf]; omega
    · go_wp2
      go_ret
      have hk2 : k = l.length := by omega
      subst hk2
      exact ⟨by first | rfl | (rw [List.take_length]; rfl), HB2.out⟩
end Go.Proofs.Ytmmhifomfbdfjaa
