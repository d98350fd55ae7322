/- nkeys.Encode and EncodeSeed: the text of a key, of a seed. -/
import Derived.Test.YtmmhifomfbdfjaaEncode
import Derived.Test.YtmmhifomfbdfjaaCrc
import Derived.Test.YtmmhifomfbdfjaaBuf
namespace Go.Proofs.Ytmmhifomfbdfjaa
open Go.RowKit Go.Proofs.YtmmhifomfbdfjaaW.PrintWords Go.Proofs.YtmmhifomfbdfjaaW.PrintLast Go.Proofs.YtmmhifomfbdfjaaW.PrintMore
set_option linter.unusedVariables false
set_option linter.unusedSimpArgs false

/-- The first byte of a kind's keys. -/
def prefL : List Int := [0, 16, 112, 104, 160, 184]
def Pref (c : Int) : Prop := c = 0 ∨ c = 16 ∨ c = 112 ∨ c = 104 ∨ c = 160 ∨ c = 184

set_option maxHeartbeats 400000 in
theorem check_ok (w : World) (c : Int) (h : Pref c) : Calls Try.prog 57 #[.int .u8 c] w fun e w' => e = .returned .nilIface ∧ w = w' := by
  rcases h with rfl | rfl | rfl | rfl | rfl | rfl
  all_goals
    go_enter Try.func57, Try.ntmps57
    go_wp2
    go_ret
    exact ⟨rfl, rfl⟩
set_option maxHeartbeats 400000 in
theorem checkPublic_ok (w : World) (c : Int) (h : Pref c) : Calls Try.prog 47 #[.int .u8 c] w fun e w' => e = .returned .nilIface ∧ w = w' := by
  rcases h with rfl | rfl | rfl | rfl | rfl | rfl
  all_goals
    go_enter Try.func47, Try.ntmps47
    go_wp2
    go_ret
    exact ⟨rfl, rfl⟩

section
variable {w : World} {ops : Array Oper} {rest : List Oper} {o : Oper} {a : Act} {Q : Exit → Act → World → Prop}
theorem make_any (hgd : o.guard = none) (x y : Operand) (ho : o.op = .makeSlice 22 x y) (n : Int) (m : Nat) (hn : n = m) (hx : a.eval x = .int .i64 n) (hy : a.eval y = .int .i64 n) (hm : m ≤ 1000000)
    (h : wpList Try.prog ops Q rest (a.put o.dst (.slice (some ⟨w.heap.size, 0, none⟩) m m)) (w.alloc (.cells (u8s (List.replicate m 0)).toArray 5))) :
    wpList Try.prog ops Q (o :: rest) a w := by
  subst hn
  refine wpList_plain hgd fun K hK => ?_
  have hrun := print_make (P := Try.prog) 22 5 .u8 1 Try.underlying22 info5' (by decide) m (by omega) w
  have hl : madeCells #[Value.int .u8 0] m = (u8s (List.replicate m 0)).toArray := by
    apply Array.toList_inj.1
    apply List.ext_getElem
    · simp [u8s, madeCells]
    · intro i h1 h2
      simp [u8s, madeCells, Nat.mod_one]
  rw [hl] at hrun
  unfold Oper.wp
  simp [execOp, ho, hx, hy, hrun, Result.andThen]
  exact hK _ _ h
end

/-- Bytes with their check behind them, its lower byte first. -/
def chk (l : List Int) : List Int := l ++ [crcT l % 256, crcT l / 256]
theorem chk_length (l : List Int) : (chk l).length = l.length + 2 := by simp [chk]
theorem chk_bytes {l : List Int} (h : ∀ x ∈ l, 0 ≤ x ∧ x ≤ 255) : ∀ x ∈ chk l, 0 ≤ x ∧ x ≤ 255 := by
  intro x hx
  have hr := crcT_range l
  simp only [chk, List.mem_append, List.mem_cons, List.not_mem_nil, or_false] at hx
  rcases hx with hx | rfl | rfl
  · exact h x hx
  · omega
  · omega
theorem encLen_nat (n : Nat) : ∃ m : Nat, (m : Int) = encLen n := ⟨(encLen n).toNat, by unfold encLen; omega⟩


theorem encLen_eq (l : List Int) {m : Nat} (h : (m : Int) = encLen l.length) : m = (encL l).length := by
  have := encL_len l
  unfold encLen at h
  omega
theorem blk_rds {w : World} {g : Nat} {l : List Int} (h : Blk w g 5 (u8s l).toArray) (hl : l.length ≤ 1000000) : Rds w (some ⟨g, 0, none⟩) l := by
  refine Kd.C_of_reads (enc := Value.int .u8) (d := (0 : Int)) (h1 := fun _ => rfl) ⟨rfl, by omega, fun _ => ⟨_, rfl, fun j hj => ?_⟩⟩
  rw [add_plain, h.cell]
  exact u8s_at l j hj
theorem encL_bound (l : List Int) (h : l.length ≤ 1000) : (encL l).length ≤ 10000 := by have := encL_len l; omega

set_option maxHeartbeats 800000 in
set_option maxRecDepth 100000 in
theorem encodeKey (w : World) (c : Int) (A : Option Addr) (cap : Nat) (ys : List Int) (hc : Pref c) (hr : Rds w A ys) (hcap : ys.length ≤ cap) (hy : ys.length = 32) (hb : ∀ x ∈ ys, 0 ≤ x ∧ x ≤ 255) :
    Calls Try.prog 39 #[.int .u8 c, .slice A ys.length cap] w fun e w' => ∃ A' n c', e = .returned (.tuple #[.slice A' n c', .nilIface]) ∧ n = (encL (chk (c :: ys))).length ∧ n ≤ c' ∧ Rds w' A' (encL (chk (c :: ys))) ∧ Below w.heap.size w w' := by
  obtain ⟨d1, hd1⟩ : ∃ d, d = c :: ys := ⟨_, rfl⟩
  obtain ⟨d2, hd2⟩ : ∃ d, d = chk d1 := ⟨_, rfl⟩
  have hb1 : ∀ x ∈ d1, 0 ≤ x ∧ x ≤ 255 := by
    rw [hd1]; intro x hx
    rcases List.mem_cons.1 hx with rfl | hx
    · rcases hc with rfl | rfl | rfl | rfl | rfl | rfl <;> omega
    · exact hb x hx
  have hl1 : d1.length = 33 := by rw [hd1, List.length_cons, hy]
  have hl2 : d2.length = 35 := by rw [hd2, chk_length, hl1]
  have hb2 : ∀ x ∈ d2, 0 ≤ x ∧ x ≤ 255 := by rw [hd2]; exact chk_bytes hb1
  rw [← hd1, ← hd2]
  obtain ⟨m, hm⟩ := encLen_nat d2.length
  have HM := Aside0.mk hm
  have HR := Aside0.mk hr
  have HB1 := Aside0.mk hb1
  have HB2 := Aside0.mk hb2
  have HC := Aside0.mk hc
  have HD1 := Aside0.mk hd1
  have HD2 := Aside0.mk hd2
  have HL1 := Aside0.mk hl1
  have HL2 := Aside0.mk hl2
  have HY := Aside0.mk hy
  have hcr := crcT_range d1
  obtain ⟨q, hq⟩ : ∃ q, q = crcT d1 := ⟨_, rfl⟩
  rw [← hq] at hcr
  have HQ := Aside0.mk hq
  clear hr hb hb1 hb2 hc hd1 hd2 hl1 hl2 hm hq hy
  go_enter Try.func39, Try.ntmps39
  go_wp2_with (go_at_call 57; refine (check_ok _ c HC.out).mono ?_; rintro e w' ⟨rfl, rfl⟩)
  refine (writeByte_any _ _ w.heap.size c [] (Buf.new w) (by simp)).mono ?_
  rintro e w1 ⟨rfl, hb1, hbel1⟩
  have B1 := Aside0.mk (show Below w.heap.size w w1 from (below_alloc (Below.refl _ _) _).trans hbel1)
  have U1 := Aside0.mk hb1
  clear hb1 hbel1
  go_wp2_with fail
  refine (write_any w1 _ w.heap.size cap A [c] ys U1.out (Kd.C_below HR.out B1.out) hcap (by simp) (by rw [HY.out]; omega)).mono ?_
  rintro e w2 ⟨rfl, hb2, hbel2⟩
  have B2 := Aside0.mk (B1.out.trans hbel2)
  have U2 := Aside0.mk (show Buf w2 w.heap.size w.heap.size d1 by rw [HD1.out]; exact hb2)
  clear hb2 hbel2 B1 U1
  go_wp2_with fail
  refine (bytes_any w2 _ w.heap.size d1 U2.out).mono ?_
  rintro e w' ⟨⟨A1, c1, rfl, hc1, hr1⟩, rfl⟩
  have R1 := Aside0.mk hr1
  clear hr1
  go_wp2_with fail
  refine (crc16_any w2 A1 c1 d1 R1.out hc1 (by rw [HL1.out]; omega) HB1.out).mono ?_
  rintro e w3 ⟨rfl, hbel3⟩
  have B3 := Aside0.mk (below_step B2.out hbel3)
  have U3 := Aside0.mk (U2.out.below hbel3)
  clear hbel3 B2 U2 R1
  rw [← HQ.out]
  go_wp2_with fail
  refine (write16_any w3 _ w.heap.size q d1 U3.out (by rw [HL1.out]; omega) hcr.1 hcr.2).mono ?_
  rintro e w4 ⟨rfl, hb4, hbel4⟩
  have B4 := Aside0.mk (B3.out.trans hbel4)
  have U4 := Aside0.mk (show Buf w4 w.heap.size w.heap.size d2 by rw [HD2.out, chk, ← HQ.out]; exact hb4)
  clear hb4 hbel4 B3 U3
  go_wp2_with fail
  refine (bytes_any w4 _ w.heap.size d2 U4.out).mono ?_
  rintro e w' ⟨⟨A2, c2, rfl, hc2, hr2⟩, rfl⟩
  have R2 := Aside0.mk hr2
  clear hr2
  go_wp2_with fail
  refine (b32enc w4).mono ?_
  rintro e w5 ⟨g, rfl, hg5, he5, hbel5⟩
  have E5 := Aside0.mk he5
  have B5 := Aside0.mk hbel5
  clear he5 hbel5 hg5
  go_wp2_with fail
  refine (encodedLen w5 g d2.length E5.out (by omega) (by rw [HL2.out]; omega)).mono ?_
  rintro e w' ⟨rfl, rfl⟩
  have hm1 : m ≤ 10000 := by have := HM.out; have := HL2.out; unfold encLen at *; omega
  go_wp2_with ((with_reducible refine gate_dst (N := 43) rfl ?_); refine make_any rfl (.tmp 42) (.tmp 42) rfl (encLen d2.length) m HM.out.symm rfl rfl (by omega) ?_)
  obtain ⟨w6, hw6⟩ : ∃ w6, w6 = w5.alloc (.cells (u8s (List.replicate m 0)).toArray 5) := ⟨_, rfl⟩
  have K6 := Aside0.mk (show Blk w6 w5.heap.size 5 (u8s (List.replicate m 0)).toArray by rw [hw6]; exact Blk.new _ _ _)
  have B6 := Aside0.mk (show Below w4.heap.size w4 w6 by rw [hw6]; exact below_alloc B5.out _)
  have hdb : w4.heap.size ≤ w5.heap.size := B5.out.size
  rw [← hw6]
  clear hw6 B5 E5
  refine (b32enc w6).mono ?_
  rintro e w7 ⟨g2, rfl, hg7, he7, hbel7⟩
  have E7 := Aside0.mk he7
  have K7 := Aside0.mk (K6.out.below hbel7)
  have B7 := Aside0.mk (below_step B6.out hbel7)
  go_wp2_with fail
  refine (encode_any w7 g2 w5.heap.size c2 d2 A2 m E7.out HM.out K7.out ?hr hc2 (by rw [HL2.out]; omega) HB2.out (by rw [HL2.out]; omega) (by rw [HL2.out]; omega)).mono ?_
  case hr =>
    intro W hW
    refine Kd.C_below R2.out (B7.out.grown hW B7.out.size ?_)
    intro k hk
    injection hk with hk
    omega
  rintro e w8 ⟨rfl, hk8, hg8⟩
  have K8 := Aside0.mk hk8
  have B8 := Aside0.mk (show Below w4.heap.size w4 w8 from B7.out.grown hg8 B7.out.size (by intro k hk; injection hk with hk; omega))
  clear hk8 hg8 K7 B7 E7 K6 B6
  go_wp2_with fail
  have hfin := encLen_eq d2 HM.out
  refine bodyPost_ret (results_tmp2 rfl _ _ _) rfl ⟨some ⟨w5.heap.size, 0, none⟩, m, m, rfl, hfin, Nat.le_refl _, blk_rds K8.out (by have := encL_bound d2 (by rw [HL2.out]; omega); omega), ?_⟩
  exact below_weaken B4.out B4.out.size B8.out
end Go.Proofs.Ytmmhifomfbdfjaa
