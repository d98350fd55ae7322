-- PRINTED BY print.sh 35421559b90ae4d0a3588c463048766b98c2df88dd9212a6774a882060cdf62d: not written by this session
import Derived.Test.YtmmhifomfbdfjaaPDecodex0
namespace Go.Proofs.Ytmmhifomfbdfjaa.PDecode
open Go.RowKit Go.Proofs.YtmmhifomfbdfjaaW.PrintWords Go.Proofs.YtmmhifomfbdfjaaW.PrintLast Go.Proofs.YtmmhifomfbdfjaaW.PrintMore
attribute [local go_sem] max2_int min2_int max_two min_two max_three min_three max_four min_four   -- for this text's walks alone
set_option linter.unusedVariables false
set_option linter.unusedSimpArgs false

-- NOT PRINTED: function 57 (nkeys_checkValidPrefixByte)

-- NOT PRINTED: function 67 (gobase32_NewEncoding)

-- NOT PRINTED: function 61 (gobase32_StdEncoding)

-- NOT PRINTED: function 62 (gobase32_Encoding_WithPadding)

-- NOT PRINTED: function 53 (nkeys_b32Enc)

/-! ### gobase32_decodedLen: function 68 -/
def gobase32_decodedLen.f (a0 : Int) (a1 : Int) : Option (Int) := if a1 = (-1) then (some (wrap64 ((wrap64 ((wrap64 (Int.tdiv a0 8)) * 5)) + (wrap64 (Int.tdiv (wrap64 ((Int.tmod a0 8) * 5)) 8))))) else (some (wrap64 ((wrap64 (Int.tdiv a0 8)) * 5)))
set_option maxHeartbeats 8000000 in
set_option maxRecDepth 100000 in
theorem gobase32_decodedLen.calls (a0 : Int) (a1 : Int) (r : Int) (w : World) (h : gobase32_decodedLen.f a0 a1 = some r) :
    Calls Try.prog 68 #[.int .i64 a0, .int .i32 a1] w fun e w' => e = .returned (.int .i64 r) ∧ Drawn0 w w' := by
  have H : (if a1 = (-1) then (some (wrap64 ((wrap64 ((wrap64 (Int.tdiv a0 8)) * 5)) + (wrap64 (Int.tdiv (wrap64 ((Int.tmod a0 8) * 5)) 8))))) else (some (wrap64 ((wrap64 (Int.tdiv a0 8)) * 5)))) = some r := h
  clear h
  by_cases c3 : a1 = (-1)
  · rw [if_pos c3] at H
    have c3b0 : (a1 == (-1)) = true := beq_iff_eq.mpr c3
    have c3b1 : (a1 != (-1)) = false := bne_eq_false_iff_eq.mpr c3
    clear c3
    obtain rfl := Option.some.inj H
    go_enter Try.func68, Try.ntmps68
    go_wp2
    go_ret
    exact ⟨by first | rfl | (simp; done) | (simp [*]; done), by repeat (first | exact Drawn0.refl _ | apply Drawn0.step)⟩
  · rw [if_neg c3] at H
    have c3b0 : (a1 == (-1)) = false := beq_eq_false_iff_ne.mpr c3
    have c3b1 : (a1 != (-1)) = true := bne_iff_ne.mpr c3
    obtain rfl := Option.some.inj H
    go_enter Try.func68, Try.ntmps68
    go_wp2
    go_ret
    exact ⟨by first | rfl | (simp; done) | (simp [*]; done), by repeat (first | exact Drawn0.refl _ | apply Drawn0.step)⟩

-- NOT PRINTED: function 63 (gobase32_Encoding_DecodedLen)

/-! ### gobase32_stripNewlines: function 69 -/
def gobase32_stripNewlines.l0 : Nat → List Int → Int → List Int → Int → Int → Option (Int × List Int)
  | 0, _, _, _, _, _ => none
  | k + 1, x0, x5, x8, x9, x10 => if x10 < x9 then (if 0 ≤ x10 then (if x10 < (x8.length : Int) then (if (rd x8 x10) = 13 then (gobase32_stripNewlines.l0 k x0 x5 x8 x9 (wrap64 (x10 + 1))) else (if (rd x8 x10) = 10 then (gobase32_stripNewlines.l0 k x0 x5 x8 x9 (wrap64 (x10 + 1))) else (if 0 ≤ x5 then (if x5 < (x0.length : Int) then (gobase32_stripNewlines.l0 k (x0.set (x5 : Int).toNat (rd x8 x10)) (wrap64 (x5 + 1)) x8 x9 (wrap64 (x10 + 1))) else (none)) else (none)))) else (none)) else (none)) else (some (x5, x0))
def gobase32_stripNewlines.f (k : Nat) (l0 : List Int) (l1 : List Int) : Option (Int × List Int) := gobase32_stripNewlines.l0 k l0 0 l1 (l1.length : Int) 0
theorem gobase32_stripNewlines.mono_l : ∀ k, (∀ y0 y1 y2 y3 y4, LeO (gobase32_stripNewlines.l0 k y0 y1 y2 y3 y4) (gobase32_stripNewlines.l0 (k + 1) y0 y1 y2 y3 y4))
  | 0 => fun _ _ _ _ _ r h => by simp [gobase32_stripNewlines.l0] at h
  | k + 1 => by
    have ih0 := gobase32_stripNewlines.mono_l k
    · intro y0 y1 y2 y3 y4
      unfold gobase32_stripNewlines.l0
      repeat' first
      | (with_reducible exact ih0 _ _ _ _ _)
      | (with_reducible exact LeO.refl _)
      | (with_reducible exact LeO.none _)
      | (with_reducible refine LeO.ite ?_ ?_)
      | (with_reducible refine LeO.bind ?_ (fun _ => ?_))
      | exact ih0 _ _ _ _ _
      | exact LeO.none _
      | refine LeO.ite ?_ ?_
      | refine LeO.bind ?_ (fun _ => ?_)
theorem gobase32_stripNewlines.mono : ∀ a0 a1 k, LeO (gobase32_stripNewlines.f k a0 a1) (gobase32_stripNewlines.f (k + 1) a0 a1) := by
  intro a0 a1 k
  have ih0 := gobase32_stripNewlines.mono_l k
  unfold gobase32_stripNewlines.f
  repeat' first
      | (with_reducible exact ih0 _ _ _ _ _)
      | (with_reducible exact LeO.refl _)
      | (with_reducible exact LeO.none _)
      | (with_reducible refine LeO.ite ?_ ?_)
      | (with_reducible refine LeO.bind ?_ (fun _ => ?_))
      | exact ih0 _ _ _ _ _
      | exact LeO.none _
      | refine LeO.ite ?_ ?_
      | refine LeO.bind ?_ (fun _ => ?_)
set_option maxHeartbeats 8000000 in
set_option maxRecDepth 100000 in
theorem gobase32_stripNewlines.calls (k : Nat) (P0_ : Nat → Prop) (u9000_ : Value) (l0 : List Int) (A1 : Option Addr) (c1 : Nat) (l1 : List Int) (r1 : Int) (r2 : List Int) (w0 w : World) (hB : Below w0.heap.size w0 w) (ho0 : Kd.R (Kd.int .u8) 5 w w0.heap.size P0_ u9000_ l0) (hr1 : ∀ W_, Kept w W_ (fun k_ => P0_ k_) → Kd.C (Kd.int .u8) W_ A1 l1.length l1) (hc1 : l1.length ≤ c1) (h : gobase32_stripNewlines.f k l0 l1 = some (r1, r2)) :
    Calls Try.prog 69 #[u9000_, .slice A1 l1.length c1] w fun e w' => e = .returned (.int .i64 r1) ∧ Kd.R (Kd.int .u8) 5 w' w0.heap.size (fun k_ => (P0_ k_ ∨ w.heap.size ≤ k_)) u9000_ r2 ∧ Below w0.heap.size w0 w' ∧ Kept w w' (fun k_ => P0_ k_) := by
  have HO0 := Aside0.mk (show Kd.R (Kd.int .u8) 5 w w0.heap.size (fun k_ => (P0_ k_ ∨ w.heap.size ≤ k_)) u9000_ l0 from Kd.R_mono ho0 (fun k_ hk => (.inl hk)))
  have HR1 := Aside0.mk hr1
  have HC1 := Aside0.mk hc1
  clear hr1 hc1
  have HK := Aside0.mk (Kept.refl w (fun k_ => P0_ k_))
  have HW0 := Aside0.mk hB.size
  have HB := Aside0.mk hB
  clear hB
  have H : (gobase32_stripNewlines.l0 k l0 0 l1 (l1.length : Int) 0) = some (r1, r2) := h
  clear h
  have H' := Aside0.mk H
  clear H
  go_enter Try.func69, Try.ntmps69
  go_wp2
  go_loopg [5, 10] k (fun kq v5 v10 w' => ∃ (x0_1 : List Int) (x5_1 : Int) (x10_1 : Int), v5 = .int .i64 x5_1 ∧ v10 = .int .i64 x10_1 ∧ Aside0 (gobase32_stripNewlines.l0 kq x0_1 x5_1 l1 (l1.length : Int) x10_1 = some (r1, r2)) ∧ Aside0 (kq ≤ k) ∧ Aside0 (Kd.R (Kd.int .u8) 5 w' w0.heap.size (fun k_ => (P0_ k_ ∨ w.heap.size ≤ k_)) u9000_ x0_1) ∧ Aside0 (Kept w w' (fun k_ => P0_ k_)) ∧ Aside0 (Below w0.heap.size w0 w'))
  case atStart => exact ⟨(l0), (0), (0), (by first | rfl | (simp; done) | (simp [*]; done)), (by first | rfl | (simp; done) | (simp [*]; done)), H', ⟨Nat.le_refl _⟩, ⟨by (with_reducible repeat (first | apply Kd.R_alloc | apply Kd.R_drewN | apply Kd.R_drew)); exact HO0.out⟩, ⟨by repeat (first | (with_reducible first | exact HK.out | apply Kept.alloc | apply Kept.drewN | apply Kept.drew) | exact HK.out)⟩, ⟨by repeat (first | (with_reducible first | exact HB.out | apply below_alloc | apply pw_below_drewN | apply below_drew1) | exact HB.out)⟩⟩
  case round =>
    clear H'
    try clear c1
    try clear p2
    obtain ⟨x0_1, x5_1, x10_1, rfl, rfl, HA, HK1, HO_0, HK, HB⟩ := hrel
    cases gk with
    | zero => exact absurd HA.out (by simp [gobase32_stripNewlines.l0])
    | succ k1 =>
      have H := HA.out
      clear HA
      simp only [gobase32_stripNewlines.l0] at H
      by_cases c3 : x10_1 < (l1.length : Int)
      · rw [if_pos c3] at H
        have c3b0 : decide (x10_1 < (l1.length : Int)) = true := decide_eq_true c3
        clear c3
        by_cases c4 : 0 ≤ x10_1
        · rw [if_pos c4] at H
          have c4b0 : decide (0 ≤ x10_1) = true := decide_eq_true c4
          clear c4
          by_cases c5 : x10_1 < (l1.length : Int)
          · rw [if_pos c5] at H
            have c5b0 : decide (x10_1 < (l1.length : Int)) = true := decide_eq_true c5
            clear c5
            by_cases c6 : (rd l1 x10_1) = 13
            · rw [if_pos c6] at H
              have c6b0 : ((rd l1 x10_1) == 13) = true := beq_iff_eq.mpr c6
              have c6b1 : ((rd l1 x10_1) != 13) = false := bne_eq_false_iff_eq.mpr c6
              clear c6
              have H' := Aside0.mk H
              clear H
              have p101 : 0 ≤ (x10_1 : Int) := of_decide_eq_true (by first | (with_reducible assumption) | assumption)
              have q101 : x10_1 < (l1.length : Int) := of_decide_eq_true (by first | (with_reducible assumption) | assumption)
              obtain ⟨ad101, e101, hx101_0⟩ := Kd.at_int (Kd.C_kept_now HR1.out HK.out) x10_1 p101 q101
              cases e101
              replace p101 := eq_true p101
              replace q101 := eq_true q101
              go_wp2
              go_roundg k1
              case measure => have := HK1.out; omega
              case rel => exact ⟨(x0_1), (x5_1), (wrap64 (x10_1 + 1)), (by first | rfl | (simp; done) | (simp [*]; done)), (by first | rfl | (simp; done) | (simp [*]; done)), H', ⟨by have := HK1.out; omega⟩, ⟨by (with_reducible repeat (first | apply Kd.R_alloc | apply Kd.R_drewN | apply Kd.R_drew)); exact HO_0.out⟩, ⟨by repeat (first | (with_reducible first | exact HK.out | apply Kept.alloc | apply Kept.drewN | apply Kept.drew) | exact HK.out)⟩, ⟨by repeat (first | (with_reducible first | exact HB.out | apply below_alloc | apply pw_below_drewN | apply below_drew1) | exact HB.out)⟩⟩
            · rw [if_neg c6] at H
              have c6b0 : ((rd l1 x10_1) == 13) = false := beq_eq_false_iff_ne.mpr c6
              have c6b1 : ((rd l1 x10_1) != 13) = true := bne_iff_ne.mpr c6
              by_cases c7 : (rd l1 x10_1) = 10
              · rw [if_pos c7] at H
                have c7b0 : ((rd l1 x10_1) == 10) = true := beq_iff_eq.mpr c7
                have c7b1 : ((rd l1 x10_1) != 10) = false := bne_eq_false_iff_eq.mpr c7
                clear c7
                have H' := Aside0.mk H
                clear H
                have p101 : 0 ≤ (x10_1 : Int) := of_decide_eq_true (by first | (with_reducible assumption) | assumption)
                have q101 : x10_1 < (l1.length : Int) := of_decide_eq_true (by first | (with_reducible assumption) | assumption)
                obtain ⟨ad101, e101, hx101_0⟩ := Kd.at_int (Kd.C_kept_now HR1.out HK.out) x10_1 p101 q101
                cases e101
                replace p101 := eq_true p101
                replace q101 := eq_true q101
                go_wp2
                go_roundg k1
                case measure => have := HK1.out; omega
                case rel => exact ⟨(x0_1), (x5_1), (wrap64 (x10_1 + 1)), (by first | rfl | (simp; done) | (simp [*]; done)), (by first | rfl | (simp; done) | (simp [*]; done)), H', ⟨by have := HK1.out; omega⟩, ⟨by (with_reducible repeat (first | apply Kd.R_alloc | apply Kd.R_drewN | apply Kd.R_drew)); exact HO_0.out⟩, ⟨by repeat (first | (with_reducible first | exact HK.out | apply Kept.alloc | apply Kept.drewN | apply Kept.drew) | exact HK.out)⟩, ⟨by repeat (first | (with_reducible first | exact HB.out | apply below_alloc | apply pw_below_drewN | apply below_drew1) | exact HB.out)⟩⟩
              · rw [if_neg c7] at H
                have c7b0 : ((rd l1 x10_1) == 10) = false := beq_eq_false_iff_ne.mpr c7
                have c7b1 : ((rd l1 x10_1) != 10) = true := bne_iff_ne.mpr c7
                by_cases c8 : 0 ≤ x5_1
                · rw [if_pos c8] at H
                  have c8b0 : decide (0 ≤ x5_1) = true := decide_eq_true c8
                  clear c8
                  by_cases c9 : x5_1 < (x0_1.length : Int)
                  · rw [if_pos c9] at H
                    have c9b0 : decide (x5_1 < (x0_1.length : Int)) = true := decide_eq_true c9
                    clear c9
                    obtain ⟨y102, hy102⟩ : ∃ y_ : List Int, y_ = (x0_1.set (x5_1 : Int).toNat (rd l1 x10_1)) := ⟨_, rfl⟩
                    replace H : (gobase32_stripNewlines.l0 k1 y102 (wrap64 (x5_1 + 1)) l1 (l1.length : Int) (wrap64 (x10_1 + 1))) = some (r1, r2) := by first | (rw [hy102]; with_reducible exact H) | (have H2_ := (Option.bind_some _ _).symm.trans H; rw [hy102]; with_reducible exact H2_) | (have H2_ := (Option.bind_some _ _).symm.trans H; with_reducible exact H2_) | with_reducible exact H | (rw [hy102]; exact H) | exact H
                    have Ny102 := Aside0.mk hy102
                    clear hy102
                    have H' := Aside0.mk H
                    clear H
                    have p101 : 0 ≤ (x10_1 : Int) := of_decide_eq_true (by first | (with_reducible assumption) | assumption)
                    have q101 : x10_1 < (l1.length : Int) := of_decide_eq_true (by first | (with_reducible assumption) | assumption)
                    obtain ⟨ad101, e101, hx101_0⟩ := Kd.at_int (Kd.C_kept_now HR1.out HK.out) x10_1 p101 q101
                    cases e101
                    replace p101 := eq_true p101
                    replace q101 := eq_true q101
                    have p10 : 0 ≤ (x5_1 : Int) := of_decide_eq_true (by first | (with_reducible assumption) | assumption)
                    have q10 : (x5_1 : Int) < ((x0_1.length : Int) : Int) := of_decide_eq_true (by first | (with_reducible assumption) | assumption)
                    obtain ⟨go10, co10, eo10, gb10, gl10, cl10, HG10⟩ := Kd.R_form HO_0.out (by omega)
                    (first | cases eo10 | (injection eo10 with ea_ en_ ec_; (first | subst ea_ | (injection ea_ with ea_; subst ea_)); subst ec_; clear en_))
                    have GB10 := Aside0.mk gb10
                    have GG10 := Aside0.mk HG10
                    clear gb10 gl10 HG10
                    have HMgo10 := Aside0.mk (show (P0_ go10 ∨ w.heap.size ≤ go10) from (HO_0.out.1 _ rfl))
                    obtain ⟨hx10_0, hf10_0⟩ := Kd.R_celln 0 HO_0.out (x5_1 : Int) p10 q10
                    replace p10 := eq_true p10
                    replace q10 := eq_true q10
                    have HP11 := Kd.R_putg HO_0.out (x5_1 : Int) (rd l1 x10_1)
                    go_wp2_with (first | ((with_reducible refine gate_store (t := 5) (p := 23) rfl ?_); refine store_event (t := 5) (p := 23) (v := ?vo_w12) (w1 := (wr.setCell ⟨go10, (x5_1 : Int).toNat, none⟩ (.int .u8 (rd l1 x10_1)))) ?hg ?ho ?hn ?hr ?_; (case ho => rfl); (case hg => rfl); (case hn => rfl); (case hr => first | (go_simp; done) | (go_simp; rfl)); intro w12 hw; have hg : wr.grownBy w12 (some go10) := (by rw [hw]; exact HP11.2); have hp_ : Kd.R (Kd.int .u8) 5 w12 w0.heap.size (fun k_ => (P0_ k_ ∨ w.heap.size ≤ k_)) (.slice (some ⟨go10, 0, none⟩) x0_1.length co10) y102 := (by rw [hw, Ny102.out]; exact HP11.1); clear HP11; have n0_ := Aside0.mk (hp_); have n1_ := Aside0.mk ((by rw [hw]; exact below_set (HB.out) GB10.out : Below w0.heap.size w0 w12)); have n2_ := Aside0.mk (Kept.of_grown (S := (fun k_ => P0_ k_)) hg (by repeat (first | (with_reducible first | exact HK.out | apply Kept.alloc | apply Kept.drewN | apply Kept.drew) | exact HK.out)) (fun k_ e_ => (HO_0.out.1 k_ e_))); clear HO_0; clear HB; clear HK; have HO_0 := n0_; have HB := n1_; have HK := n2_; clear n0_ n1_ n2_; clear hg hw hp_))
                    go_roundg k1
                    case measure => have := HK1.out; omega
                    case rel => exact ⟨(y102), (wrap64 (x5_1 + 1)), (wrap64 (x10_1 + 1)), (by first | rfl | (simp; done) | (simp [*]; done)), (by first | rfl | (simp; done) | (simp [*]; done)), H', ⟨by have := HK1.out; omega⟩, ⟨by (with_reducible repeat (first | apply Kd.R_alloc | apply Kd.R_drewN | apply Kd.R_drew)); exact HO_0.out⟩, ⟨by repeat (first | (with_reducible first | exact HK.out | apply Kept.alloc | apply Kept.drewN | apply Kept.drew) | exact HK.out)⟩, ⟨by repeat (first | (with_reducible first | exact HB.out | apply below_alloc | apply pw_below_drewN | apply below_drew1) | exact HB.out)⟩⟩
                  · rw [if_neg c9] at H
                    exact absurd H (by simp)
                · rw [if_neg c8] at H
                  exact absurd H (by simp)
          · rw [if_neg c5] at H
            exact absurd H (by simp)
        · rw [if_neg c4] at H
          exact absurd H (by simp)
      · rw [if_neg c3] at H
        have c3b0 : decide (x10_1 < (l1.length : Int)) = false := decide_eq_false c3
        clear c3
        simp only [Option.some.injEq, Prod.mk.injEq] at H
        obtain ⟨rfl, rfl⟩ := H
        go_wp2
        go_ret
        exact ⟨by first | rfl | (simp [errW_none, errW_some] <;> rfl) | (simp [*, errW_none, errW_some] <;> rfl), by (with_reducible repeat (first | apply Kd.R_alloc | apply Kd.R_drewN | apply Kd.R_drew)); exact HO_0.out, by repeat (first | (with_reducible first | exact HB.out | apply below_alloc | apply pw_below_drewN | apply below_drew1) | exact HB.out), by repeat (first | (with_reducible first | exact HK.out | apply Kept.alloc | apply Kept.drewN | apply Kept.drew) | exact HK.out)⟩

-- NOT PRINTED: function 70 (gobase32_Encoding_decode)

-- NOT PRINTED: function 64 (gobase32_Encoding_Decode)

/-! ### nkeys_le16: function 65 -/
def nkeys_le16.f (l0 : List Int) : Option (Int) := if 1 < (l0.length : Int) then (if 0 < (l0.length : Int) then (some (Go.bits .or .u16 (IntKind.u16.wrap (rd l0 0)) (IntKind.u16.wrap ((IntKind.u16.wrap (rd l0 1)) * 256)))) else (none)) else (none)
set_option maxHeartbeats 8000000 in
set_option maxRecDepth 100000 in
theorem nkeys_le16.calls (A0 : Option Addr) (c0 : Nat) (l0 : List Int) (r : Int) (w : World) (hr0 : Kd.C (Kd.int .u8) w A0 l0.length l0) (hc0 : l0.length ≤ c0) (h : nkeys_le16.f l0 = some r) :
    Calls Try.prog 65 #[.slice A0 l0.length c0] w fun e w' => e = .returned (.int .u16 r) ∧ Drawn0 w w' := by
  have HR0 := Aside0.mk hr0
  have HC0 := Aside0.mk hc0
  clear hr0 hc0
  have H : (if 1 < (l0.length : Int) then (if 0 < (l0.length : Int) then (some (Go.bits .or .u16 (IntKind.u16.wrap (rd l0 0)) (IntKind.u16.wrap ((IntKind.u16.wrap (rd l0 1)) * 256)))) else (none)) else (none)) = some r := h
  clear h
  by_cases c2 : 1 < (l0.length : Int)
  · rw [if_pos c2] at H
    have c2b0 : decide (1 < (l0.length : Int)) = true := decide_eq_true c2
    have c2b1 : decide (1 < l0.length) = true := decide_eq_true (by omega)
    clear c2
    by_cases c3 : 0 < (l0.length : Int)
    · rw [if_pos c3] at H
      have c3b0 : decide (0 < (l0.length : Int)) = true := decide_eq_true c3
      have c3b1 : decide (0 < l0.length) = true := decide_eq_true (by omega)
      clear c3
      obtain rfl := Option.some.inj H
      have p103 : 0 ≤ (1 : Int) := (by omega)
      have q103 : 1 < (l0.length : Int) := of_decide_eq_true (by first | (with_reducible assumption) | assumption)
      obtain ⟨ad103, e103, hx103_0⟩ := Kd.at_int HR0.out 1 p103 q103
      cases e103
      (try simp only [show (1 : Int).toNat = 1 from rfl, Nat.reduceMul, Nat.reduceEqDiff, Go.Addr.add, ↓reduceIte] at hx103_0)
      have qi103 : (1 < l0.length) = True := eq_true (by omega)
      (try rw [show ((1 : Int)).toNat = 1 from rfl] at hx103_0)
      replace p103 := eq_true p103
      replace q103 := eq_true q103
      have p104 : 0 ≤ (0 : Int) := (by omega)
      have q104 : 0 < (l0.length : Int) := of_decide_eq_true (by first | (with_reducible assumption) | assumption)
      obtain ⟨ad104, e104, hx104_0⟩ := Kd.at_int HR0.out 0 p104 q104
      obtain rfl : ad103 = ad104 := (by injection e104)
      have qi104 : (0 < l0.length) = True := eq_true (by omega)
      (try rw [show ((0 : Int)).toNat = 0 from rfl] at hx104_0)
      (try rw [Addr.add_zero'] at hx104_0)
      replace p104 := eq_true p104
      replace q104 := eq_true q104
      have p105 : 0 ≤ (1 : Int) := (by omega)
      have q105 : 1 < (l0.length : Int) := of_decide_eq_true (by first | (with_reducible assumption) | assumption)
      obtain ⟨ad105, e105, hx105_0⟩ := Kd.at_int HR0.out 1 p105 q105
      obtain rfl : ad103 = ad105 := (by injection e105)
      (try simp only [show (1 : Int).toNat = 1 from rfl, Nat.reduceMul, Nat.reduceEqDiff, Go.Addr.add, ↓reduceIte] at hx105_0)
      have qi105 : (1 < l0.length) = True := eq_true (by omega)
      (try rw [show ((1 : Int)).toNat = 1 from rfl] at hx105_0)
      replace p105 := eq_true p105
      replace q105 := eq_true q105
      go_enter Try.func65, Try.ntmps65
      go_wp2
      repeat (go_quiet (fail); try go_wp2)
      go_ret
      exact ⟨by first | rfl | (simp; done) | (simp [*]; done), by repeat (first | exact Drawn0.refl _ | apply Drawn0.step)⟩
    · rw [if_neg c3] at H
      exact absurd H (by simp)
  · rw [if_neg c2] at H
    exact absurd H (by simp)

-- NOT PRINTED: function 60 (nkeys_crc16tab)

-- NOT PRINTED: function 51 (nkeys_crc16)

-- NOT PRINTED: function 66 (nkeys_validate)

-- NOT PRINTED: function 58 (nkeys_decode)

-- NOT PRINTED: function 30 (nkeys_Decode)

end Go.Proofs.Ytmmhifomfbdfjaa.PDecode
