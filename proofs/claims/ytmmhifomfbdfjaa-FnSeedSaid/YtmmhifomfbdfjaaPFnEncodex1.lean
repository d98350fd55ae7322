-- PRINTED BY print.sh 35421559b90ae4d0a3588c463048766b98c2df88dd9212a6774a882060cdf62d: not written by this session
import Derived.Test.YtmmhifomfbdfjaaPFnEncodex0
namespace Go.Proofs.Ytmmhifomfbdfjaa.PFnEncode
open Go.RowKit Go.Proofs.YtmmhifomfbdfjaaW.PrintWords Go.Proofs.YtmmhifomfbdfjaaW.PrintLast Go.Proofs.YtmmhifomfbdfjaaW.PrintMore
attribute [local go_sem] max2_int min2_int max_two min_two max_three min_three max_four min_four   -- for this text's walks alone
set_option linter.unusedVariables false
set_option linter.unusedSimpArgs false

/-! ### laws_known: function 9 -/
def laws_known.f (a0 : Int) : Option (Bool) := if a0 ≥ 0 then (some (decide (a0 ≤ 5))) else (some false)
set_option maxHeartbeats 8000000 in
set_option maxRecDepth 100000 in
theorem laws_known.calls (a0 : Int) (r : Bool) (w : World) (h : laws_known.f a0 = some r) :
    Calls Try.prog 9 #[.int .i64 a0] w fun e w' => e = .returned (.bool r) ∧ Drawn0 w w' := by
  have H : (if a0 ≥ 0 then (some (decide (a0 ≤ 5))) else (some false)) = some r := h
  clear h
  by_cases c2 : a0 ≥ 0
  · rw [if_pos c2] at H
    have c2b0 : decide (0 ≤ a0) = true := decide_eq_true c2
    clear c2
    obtain rfl := Option.some.inj H
    go_enter Try.func9, Try.ntmps9
    go_wp2
    go_ret
    exact ⟨by first | rfl | (simp; done) | (simp [*]; done), by repeat (first | exact Drawn0.refl _ | apply Drawn0.step)⟩
  · rw [if_neg c2] at H
    have c2b0 : decide (0 ≤ a0) = false := decide_eq_false c2
    clear c2
    obtain rfl := Option.some.inj H
    go_enter Try.func9, Try.ntmps9
    go_wp2
    go_ret
    exact ⟨by first | rfl | (simp; done) | (simp [*]; done), by repeat (first | exact Drawn0.refl _ | apply Drawn0.step)⟩

-- NOT PRINTED: function 21 (impl_try)

-- NOT PRINTED: function 16 (impl_Encode)

-- NOT PRINTED: function 10 (laws_works)

/-! ### spec_base32: function 26 -/
mutual
def spec_base32.l0 : Nat → List Int → Int → Int → List Int → Int → Int → Option (ByteArray)
  | 0, _, _, _, _, _, _ => none
  | k + 1, x3, x4, x5, x8, x9, x10 => if x10 < x9 then (if 0 ≤ x10 then (if x10 < (x8.length : Int) then (spec_base32.l1 k x3 (Go.bits .or .i64 (wrap64 (x4 * 256)) (wrap64 (rd x8 x10))) (wrap64 (x5 + 8)) x8 x9 x10) else (none)) else (none)) else (if x5 > 0 then (if 0 ≤ (wrap64 (5 - x5)) then (if 0 ≤ (Go.bits .and .i64 (shl .i64 x4 (wrap64 (5 - x5))) 31) then (if (Go.bits .and .i64 (shl .i64 x4 (wrap64 (5 - x5))) 31) < 32 then (if x3.length < 140737488355328 then (some (strOfNums (x3 ++ [bt (⟨#[65, 66, 67, 68, 69, 70, 71, 72, 73, 74, 75, 76, 77, 78, 79, 80, 81, 82, 83, 84, 85, 86, 87, 88, 89, 90, 50, 51, 52, 53, 54, 55]⟩ : ByteArray) (Go.bits .and .i64 (shl .i64 x4 (wrap64 (5 - x5))) 31)]))) else (none)) else (none)) else (none)) else (none)) else (some (strOfNums x3)))
def spec_base32.l1 : Nat → List Int → Int → Int → List Int → Int → Int → Option (ByteArray)
  | 0, _, _, _, _, _, _ => none
  | k + 1, x3, x4, x5, x8, x9, x10 => if x5 ≥ 5 then (if 0 ≤ (wrap64 (x5 - 5)) then (if 0 ≤ (Go.bits .and .i64 (shr .i64 x4 (wrap64 (x5 - 5))) 31) then (if (Go.bits .and .i64 (shr .i64 x4 (wrap64 (x5 - 5))) 31) < 32 then (if x3.length < 140737488355328 then (spec_base32.l1 k (x3 ++ [bt (⟨#[65, 66, 67, 68, 69, 70, 71, 72, 73, 74, 75, 76, 77, 78, 79, 80, 81, 82, 83, 84, 85, 86, 87, 88, 89, 90, 50, 51, 52, 53, 54, 55]⟩ : ByteArray) (Go.bits .and .i64 (shr .i64 x4 (wrap64 (x5 - 5))) 31)]) x4 (wrap64 (x5 - 5)) x8 x9 x10) else (none)) else (none)) else (none)) else (none)) else (if 0 ≤ x5 then (spec_base32.l0 k x3 (Go.bits .and .i64 x4 (wrap64 ((shl .i64 1 x5) - 1))) x5 x8 x9 (wrap64 (x10 + 1))) else (none))
end
def spec_base32.f (k : Nat) (l0 : List Int) : Option (ByteArray) := spec_base32.l0 k ([] : List Int) 0 0 l0 (l0.length : Int) 0
theorem spec_base32.mono_l : ∀ k, (∀ y0 y1 y2 y3 y4 y5, LeO (spec_base32.l0 k y0 y1 y2 y3 y4 y5) (spec_base32.l0 (k + 1) y0 y1 y2 y3 y4 y5)) ∧ (∀ y0 y1 y2 y3 y4 y5, LeO (spec_base32.l1 k y0 y1 y2 y3 y4 y5) (spec_base32.l1 (k + 1) y0 y1 y2 y3 y4 y5))
  | 0 => ⟨fun _ _ _ _ _ _ r h => by simp [spec_base32.l0] at h, fun _ _ _ _ _ _ r h => by simp [spec_base32.l1] at h⟩
  | k + 1 => by
    obtain ⟨ih0, ih1⟩ := spec_base32.mono_l k
    refine ⟨?_, ?_⟩
    · intro y0 y1 y2 y3 y4 y5
      unfold spec_base32.l0
      repeat' first
      | (with_reducible exact ih0 _ _ _ _ _ _)
      | (with_reducible exact ih1 _ _ _ _ _ _)
      | (with_reducible exact LeO.refl _)
      | (with_reducible exact LeO.none _)
      | (with_reducible refine LeO.ite ?_ ?_)
      | (with_reducible refine LeO.bind ?_ (fun _ => ?_))
      | exact ih0 _ _ _ _ _ _
      | exact ih1 _ _ _ _ _ _
      | exact LeO.none _
      | refine LeO.ite ?_ ?_
      | refine LeO.bind ?_ (fun _ => ?_)
    · intro y0 y1 y2 y3 y4 y5
      unfold spec_base32.l1
      repeat' first
      | (with_reducible exact ih0 _ _ _ _ _ _)
      | (with_reducible exact ih1 _ _ _ _ _ _)
      | (with_reducible exact LeO.refl _)
      | (with_reducible exact LeO.none _)
      | (with_reducible refine LeO.ite ?_ ?_)
      | (with_reducible refine LeO.bind ?_ (fun _ => ?_))
      | exact ih0 _ _ _ _ _ _
      | exact ih1 _ _ _ _ _ _
      | exact LeO.none _
      | refine LeO.ite ?_ ?_
      | refine LeO.bind ?_ (fun _ => ?_)
theorem spec_base32.mono : ∀ a0 k, LeO (spec_base32.f k a0) (spec_base32.f (k + 1) a0) := by
  intro a0 k
  obtain ⟨ih0, ih1⟩ := spec_base32.mono_l k
  unfold spec_base32.f
  repeat' first
      | (with_reducible exact ih0 _ _ _ _ _ _)
      | (with_reducible exact ih1 _ _ _ _ _ _)
      | (with_reducible exact LeO.refl _)
      | (with_reducible exact LeO.none _)
      | (with_reducible refine LeO.ite ?_ ?_)
      | (with_reducible refine LeO.bind ?_ (fun _ => ?_))
      | exact ih0 _ _ _ _ _ _
      | exact ih1 _ _ _ _ _ _
      | exact LeO.none _
      | refine LeO.ite ?_ ?_
      | refine LeO.bind ?_ (fun _ => ?_)
set_option maxHeartbeats 8000000 in
set_option maxRecDepth 100000 in
theorem spec_base32.calls (k : Nat) (A0 : Option Addr) (c0 : Nat) (l0 : List Int) (r : ByteArray) (w : World) (hr0 : Kd.C (Kd.int .u8) w A0 l0.length l0) (hc0 : l0.length ≤ c0) (h : spec_base32.f k l0 = some r) :
    Calls Try.prog 26 #[.slice A0 l0.length c0] w fun e w' => e = .returned (.string r) ∧ Below w.heap.size w w' := by
  have HR0 := Aside0.mk hr0
  have HC0 := Aside0.mk hc0
  clear hr0 hc0
  have HB := Aside0.mk (Below.refl w.heap.size w)
  have H : (spec_base32.l0 k ([] : List Int) 0 0 l0 (l0.length : Int) 0) = some r := h
  clear h
  have H' := Aside0.mk H
  clear H
  go_enter Try.func26, Try.ntmps26
  go_wp2
  go_loopg [3, 4, 5, 10] k (fun kq v3 v4 v5 v10 w' => ∃ (x3_1 : List Int) (x4_1 : Int) (x5_1 : Int) (x10_1 : Int), v4 = .int .i64 x4_1 ∧ v5 = .int .i64 x5_1 ∧ v10 = .int .i64 x10_1 ∧ Aside0 (spec_base32.l0 kq x3_1 x4_1 x5_1 l0 (l0.length : Int) x10_1 = some r) ∧ Aside0 (kq ≤ k) ∧ Aside0 (Kd.R (Kd.int .u8) 5 w' w.heap.size (fun _ => True) v3 x3_1) ∧ Aside0 (Below w.heap.size w w'))
  case atStart => exact ⟨(([] : List Int)), (0), (0), (0), (by first | rfl | (simp; done) | (simp [*]; done)), (by first | rfl | (simp; done) | (simp [*]; done)), (by first | rfl | (simp; done) | (simp [*]; done)), H', ⟨Nat.le_refl _⟩, ⟨by first | exact Kd.R_nil _ _ _ _ _ | exact Kd.N_nil _ _ _ _ _ | exact Kd.V_nil _ _ _ _ _ | exact Kd.Q_nil _ _ _ _ _ | exact Kd.S_nil _ _ _ _ _⟩, ⟨by repeat (first | (with_reducible first | exact HB.out | apply below_alloc | apply pw_below_drewN | apply below_drew1) | exact HB.out)⟩⟩
  case round =>
    clear H'
    obtain ⟨x3_1, x4_1, x5_1, x10_1, rfl, rfl, rfl, HA, HK1, HO_3, HB⟩ := hrel
    cases gk with
    | zero => exact absurd HA.out (by simp [spec_base32.l0])
    | succ k1 =>
      have H := HA.out
      clear HA
      simp only [spec_base32.l0] at H
      by_cases c2 : x10_1 < (l0.length : Int)
      · rw [if_pos c2] at H
        have c2b0 : decide (x10_1 < (l0.length : Int)) = true := decide_eq_true c2
        clear c2
        by_cases c3 : 0 ≤ x10_1
        · rw [if_pos c3] at H
          have c3b0 : decide (0 ≤ x10_1) = true := decide_eq_true c3
          clear c3
          by_cases c4 : x10_1 < (l0.length : Int)
          · rw [if_pos c4] at H
            have c4b0 : decide (x10_1 < (l0.length : Int)) = true := decide_eq_true c4
            clear c4
            have H' := Aside0.mk H
            clear H
            have p107 : 0 ≤ (x10_1 : Int) := of_decide_eq_true (by first | (with_reducible assumption) | assumption)
            have q107 : x10_1 < (l0.length : Int) := of_decide_eq_true (by first | (with_reducible assumption) | assumption)
            obtain ⟨ad107, e107, hx107_0⟩ := Kd.at_int HR0.out x10_1 p107 q107
            cases e107
            replace hx107_0 := (HB.out.cell (World.block_lt_of_cell? w _ hx107_0)).trans hx107_0
            replace p107 := eq_true p107
            replace q107 := eq_true q107
            go_wp2
            go_loopg [3, 5] k1 (fun kq v3 v5 w' => ∃ (x3_2 : List Int) (x5_2 : Int), v5 = .int .i64 x5_2 ∧ Aside0 (spec_base32.l1 kq x3_2 (Go.bits .or .i64 (wrap64 (x4_1 * 256)) (wrap64 (rd l0 x10_1))) x5_2 l0 (l0.length : Int) x10_1 = some r) ∧ Aside0 (kq ≤ k1) ∧ Aside0 (Kd.R (Kd.int .u8) 5 w' w.heap.size (fun _ => True) v3 x3_2) ∧ Aside0 (Below w.heap.size w w'))
            case atStart => exact ⟨(x3_1), (wrap64 (x5_1 + 8)), (by first | rfl | (simp; done) | (simp [*]; done)), H', ⟨Nat.le_refl _⟩, ⟨by (with_reducible repeat (first | apply Kd.R_alloc | apply Kd.R_drewN | apply Kd.R_drew)); exact HO_3.out⟩, ⟨by repeat (first | (with_reducible first | exact HB.out | apply below_alloc | apply pw_below_drewN | apply below_drew1) | exact HB.out)⟩⟩
            case round =>
              clear H'
              try clear p1
              try clear q1
              try clear hx1
              try clear c2
              try clear c2b0
              try clear p2
              try clear c3
              try clear c3b0
              try clear c4
              try clear c4b0
              try clear hx107_0
              try clear p107
              try clear q107
              obtain ⟨x3_2, x5_2, rfl, HA, HK2, HO_3, HB⟩ := hrel
              cases gk with
              | zero => exact absurd HA.out (by simp [spec_base32.l1])
              | succ k2 =>
                have H := HA.out
                clear HA
                simp only [spec_base32.l1] at H
                by_cases c5 : x5_2 ≥ 5
                · rw [if_pos c5] at H
                  have c5b0 : decide (5 ≤ x5_2) = true := decide_eq_true c5
                  clear c5
                  obtain ⟨ji6, hji6⟩ : ∃ j_ : Int, (wrap64 (x5_2 - 5)) = j_ := ⟨_, rfl⟩
                  replace H : (if 0 ≤ (ji6) then (if 0 ≤ (Go.bits .and .i64 (shr .i64 (Go.bits .or .i64 (wrap64 (x4_1 * 256)) (wrap64 (rd l0 x10_1))) (ji6)) 31) then (if (Go.bits .and .i64 (shr .i64 (Go.bits .or .i64 (wrap64 (x4_1 * 256)) (wrap64 (rd l0 x10_1))) (ji6)) 31) < 32 then (if x3_2.length < 140737488355328 then (spec_base32.l1 k2 (x3_2 ++ [bt (⟨#[65, 66, 67, 68, 69, 70, 71, 72, 73, 74, 75, 76, 77, 78, 79, 80, 81, 82, 83, 84, 85, 86, 87, 88, 89, 90, 50, 51, 52, 53, 54, 55]⟩ : ByteArray) (Go.bits .and .i64 (shr .i64 (Go.bits .or .i64 (wrap64 (x4_1 * 256)) (wrap64 (rd l0 x10_1))) (ji6)) 31)]) (Go.bits .or .i64 (wrap64 (x4_1 * 256)) (wrap64 (rd l0 x10_1))) ji6 l0 (l0.length : Int) x10_1) else (none)) else (none)) else (none)) else (none)) = some r := by first | (rw [hji6] at H; exact H) | (simp only [hji6] at H ⊢; exact H)
                  have hji6w : (IntKind.i64.wrap (x5_2 - 5)) = ji6 := (i64_w _).trans hji6
                  by_cases c7 : 0 ≤ (ji6)
                  · rw [if_pos c7] at H
                    have c7b0 := eq_true c7
                    have c7b1 : decide (0 ≤ (ji6)) = true := decide_eq_true c7
                    clear c7
                    obtain ⟨ji8, hji8⟩ : ∃ j_ : Int, (shr .i64 (Go.bits .or .i64 (wrap64 (x4_1 * 256)) (wrap64 (rd l0 x10_1))) (ji6)) = j_ := ⟨_, rfl⟩
                    replace H : (if 0 ≤ (Go.bits .and .i64 (ji8) 31) then (if (Go.bits .and .i64 (ji8) 31) < 32 then (if x3_2.length < 140737488355328 then (spec_base32.l1 k2 (x3_2 ++ [bt (⟨#[65, 66, 67, 68, 69, 70, 71, 72, 73, 74, 75, 76, 77, 78, 79, 80, 81, 82, 83, 84, 85, 86, 87, 88, 89, 90, 50, 51, 52, 53, 54, 55]⟩ : ByteArray) (Go.bits .and .i64 (ji8) 31)]) (Go.bits .or .i64 (wrap64 (x4_1 * 256)) (wrap64 (rd l0 x10_1))) ji6 l0 (l0.length : Int) x10_1) else (none)) else (none)) else (none)) = some r := by first | (rw [hji8] at H; exact H) | (simp only [hji8] at H ⊢; exact H)
                    have hji8_ : ((Go.bits .or .i64 (wrap64 (x4_1 * 256)) (wrap64 (rd l0 x10_1))) / 2 ^ min (ji6).toNat 64) = ji8 := hji8
                    have hji8z : (ji6) ≤ 64 → ((Go.bits .or .i64 (wrap64 (x4_1 * 256)) (wrap64 (rd l0 x10_1))) / 2 ^ (ji6).toNat) = ji8 := shr_small hji8
                    by_cases c9 : 0 ≤ (Go.bits .and .i64 (ji8) 31)
                    · rw [if_pos c9] at H
                      have c9b0 : decide (0 ≤ (Go.bits .and .i64 (ji8) 31)) = true := decide_eq_true c9
                      clear c9
                      by_cases c10 : (Go.bits .and .i64 (ji8) 31) < 32
                      · rw [if_pos c10] at H
                        have c10b0 : decide ((Go.bits .and .i64 (ji8) 31) < 32) = true := decide_eq_true c10
                        clear c10
                        by_cases c12 : x3_2.length < 140737488355328
                        · rw [if_pos c12] at H
                          have LMc12 := Aside0.mk c12
                          clear c12
                          obtain ⟨y108, hy108⟩ : ∃ y_ : List Int, y_ = (x3_2 ++ [bt (⟨#[65, 66, 67, 68, 69, 70, 71, 72, 73, 74, 75, 76, 77, 78, 79, 80, 81, 82, 83, 84, 85, 86, 87, 88, 89, 90, 50, 51, 52, 53, 54, 55]⟩ : ByteArray) (Go.bits .and .i64 (ji8) 31)]) := ⟨_, rfl⟩
                          replace H : (spec_base32.l1 k2 y108 (Go.bits .or .i64 (wrap64 (x4_1 * 256)) (wrap64 (rd l0 x10_1))) ji6 l0 (l0.length : Int) x10_1) = some r := by first | (rw [hy108]; with_reducible exact H) | (have H2_ := (Option.bind_some _ _).symm.trans H; rw [hy108]; with_reducible exact H2_) | (have H2_ := (Option.bind_some _ _).symm.trans H; with_reducible exact H2_) | with_reducible exact H | (rw [hy108]; exact H) | exact H
                          have Ny108 := Aside0.mk hy108
                          clear hy108
                          have H' := Aside0.mk H
                          clear H
                          have p11 : 0 ≤ ((Go.bits .and .i64 (ji8) 31) : Int) := of_decide_eq_true (by first | (with_reducible assumption) | assumption)
                          have q11 : (Go.bits .and .i64 (ji8) 31) < (32 : Int) := of_decide_eq_true (by first | (with_reducible assumption) | assumption)
                          have hx11 := bt_at (⟨#[65, 66, 67, 68, 69, 70, 71, 72, 73, 74, 75, 76, 77, 78, 79, 80, 81, 82, 83, 84, 85, 86, 87, 88, 89, 90, 50, 51, 52, 53, 54, 55]⟩ : ByteArray) (Go.bits .and .i64 (ji8) 31)
                          replace p11 := eq_true p11
                          replace q11 := eq_true q11
                          go_wp2_with (first | ((with_reducible refine gate_builtin (b := .append) (xs := #[.tmp 25, .tmp 31]) rfl ?_); at_builtin; refine Kd.R_append (Kd.int .u8) (w0 := w) w.heap.size rfl (.tmp 25) (.tmp 31) 22 5 (.int .u8 0) 1 rfl Try.underlying22 info5 rfl (by decide) (by omega) u3 x3_2 (bt (⟨#[65, 66, 67, 68, 69, 70, 71, 72, 73, 74, 75, 76, 77, 78, 79, 80, 81, 82, 83, 84, 85, 86, 87, 88, 89, 90, 50, 51, 52, 53, 54, 55]⟩ : ByteArray) (Go.bits .and .i64 (ji8) 31)) [.int .u8 (bt (⟨#[65, 66, 67, 68, 69, 70, 71, 72, 73, 74, 75, 76, 77, 78, 79, 80, 81, 82, 83, 84, 85, 86, 87, 88, 89, 90, 50, 51, 52, 53, 54, 55]⟩ : ByteArray) (Go.bits .and .i64 (ji8) 31))] (fun _ => True) (fun _ => False) rfl rfl ?aP (fun _ hk => hk.elim) ?aF ?aO ?aB ?aS ?aL ?_; (case aP => exact rfl); (case aB => exact (by repeat (first | (with_reducible first | exact HB.out | apply below_alloc | apply pw_below_drewN | apply below_drew1) | exact HB.out))); (case aF => exact (fun _ _ => trivial)); (case aO => exact (by (with_reducible repeat (first | apply Kd.R_alloc | apply Kd.R_drewN | apply Kd.R_drew)); exact HO_3.out)); (case aS => exact (below_size (by repeat (first | (with_reducible first | exact HB.out | apply below_alloc | apply pw_below_drewN | apply below_drew1) | exact HB.out)))); (case aL => have := LMc12.out; omega); intro v109 w13 ho hb hg hat; rw [← Ny108.out] at ho; have n0_ := Aside0.mk (hb); have n1_ := Aside0.mk (ho); clear HB; clear HO_3; have HB := n0_; have HO110 := n1_; clear n0_ n1_; clear ho hb hg hat))
                          go_roundg k2
                          case measure => have := HK1.out; have := HK2.out; omega
                          case rel => exact ⟨(y108), (ji6), (by first | rfl | (simp; done) | (simp only [← hji6] <;> (first | rfl | simp)) | (simp [*]; done)), H', ⟨by have := HK1.out; have := HK2.out; omega⟩, ⟨by (with_reducible repeat (first | apply Kd.R_alloc | apply Kd.R_drewN | apply Kd.R_drew)); exact HO110.out⟩, ⟨by repeat (first | (with_reducible first | exact HB.out | apply below_alloc | apply pw_below_drewN | apply below_drew1) | exact HB.out)⟩⟩
                        · rw [if_neg c12] at H
                          exact absurd H (by simp)
                      · rw [if_neg c10] at H
                        exact absurd H (by simp)
                    · rw [if_neg c9] at H
                      exact absurd H (by simp)
                  · rw [if_neg c7] at H
                    exact absurd H (by simp)
                · rw [if_neg c5] at H
                  have c5b0 : decide (5 ≤ x5_2) = false := decide_eq_false c5
                  clear c5
                  by_cases c14 : 0 ≤ x5_2
                  · rw [if_pos c14] at H
                    have c14b0 := eq_true c14
                    have c14b1 : decide (0 ≤ x5_2) = true := decide_eq_true c14
                    clear c14
                    obtain ⟨ji15, hji15⟩ : ∃ j_ : Int, (shl .i64 1 x5_2) = j_ := ⟨_, rfl⟩
                    replace H : (spec_base32.l0 k2 x3_2 (Go.bits .and .i64 (Go.bits .or .i64 (wrap64 (x4_1 * 256)) (wrap64 (rd l0 x10_1))) (wrap64 ((ji15) - 1))) x5_2 l0 (l0.length : Int) (wrap64 (x10_1 + 1))) = some r := by first | (rw [hji15] at H; exact H) | (simp only [hji15] at H ⊢; exact H)
                    have hji15_ : (IntKind.i64.wrap (1 * 2 ^ min x5_2.toNat 64)) = ji15 := hji15
                    have hji15z : x5_2 ≤ 64 → (IntKind.i64.wrap (1 * 2 ^ x5_2.toNat)) = ji15 := shl_small hji15
                    have hji15u : (IntKind.i64.wrap (2 ^ min x5_2.toNat 64)) = ji15 := by have h_ := hji15_; rw [Int.one_mul] at h_; exact h_
                    have hji15v : x5_2 ≤ 64 → (IntKind.i64.wrap (2 ^ x5_2.toNat)) = ji15 := fun hle_ => by have h_ := hji15z hle_; rw [Int.one_mul] at h_; exact h_
                    have hji15y : (wrap64 (1 * 2 ^ min x5_2.toNat 64)) = ji15 := (i64_w _).symm.trans hji15_
                    have hji15x : x5_2 ≤ 64 → (wrap64 (1 * 2 ^ x5_2.toNat)) = ji15 := fun h_ => (i64_w _).symm.trans (hji15z h_)
                    have H' := Aside0.mk H
                    clear H
                    go_wp2
                    go_roundg k2
                    case measure => have := HK1.out; have := HK2.out; omega
                    case rel => exact ⟨(x3_2), (Go.bits .and .i64 (Go.bits .or .i64 (wrap64 (x4_1 * 256)) (wrap64 (rd l0 x10_1))) (wrap64 ((ji15) - 1))), (x5_2), (wrap64 (x10_1 + 1)), (by first | rfl | (simp; done) | (simp only [← hji15] <;> (first | rfl | simp)) | (simp [*]; done)), (by first | rfl | (simp; done) | (simp [*]; done)), (by first | rfl | (simp; done) | (simp [*]; done)), H', ⟨by have := HK1.out; have := HK2.out; omega⟩, ⟨by (with_reducible repeat (first | apply Kd.R_alloc | apply Kd.R_drewN | apply Kd.R_drew)); exact HO_3.out⟩, ⟨by repeat (first | (with_reducible first | exact HB.out | apply below_alloc | apply pw_below_drewN | apply below_drew1) | exact HB.out)⟩⟩
                  · rw [if_neg c14] at H
                    exact absurd H (by simp)
          · rw [if_neg c4] at H
            exact absurd H (by simp)
        · rw [if_neg c3] at H
          exact absurd H (by simp)
      · rw [if_neg c2] at H
        have c2b0 : decide (x10_1 < (l0.length : Int)) = false := decide_eq_false c2
        clear c2
        by_cases c16 : x5_1 > 0
        · rw [if_pos c16] at H
          have c16b0 : decide (0 < x5_1) = true := decide_eq_true c16
          clear c16
          obtain ⟨ji17, hji17⟩ : ∃ j_ : Int, (wrap64 (5 - x5_1)) = j_ := ⟨_, rfl⟩
          replace H : (if 0 ≤ (ji17) then (if 0 ≤ (Go.bits .and .i64 (shl .i64 x4_1 (ji17)) 31) then (if (Go.bits .and .i64 (shl .i64 x4_1 (ji17)) 31) < 32 then (if x3_1.length < 140737488355328 then (some (strOfNums (x3_1 ++ [bt (⟨#[65, 66, 67, 68, 69, 70, 71, 72, 73, 74, 75, 76, 77, 78, 79, 80, 81, 82, 83, 84, 85, 86, 87, 88, 89, 90, 50, 51, 52, 53, 54, 55]⟩ : ByteArray) (Go.bits .and .i64 (shl .i64 x4_1 (ji17)) 31)]))) else (none)) else (none)) else (none)) else (none)) = some r := by first | (rw [hji17] at H; exact H) | (simp only [hji17] at H ⊢; exact H)
          have hji17w : (IntKind.i64.wrap (5 - x5_1)) = ji17 := (i64_w _).trans hji17
          by_cases c18 : 0 ≤ (ji17)
          · rw [if_pos c18] at H
            have c18b0 := eq_true c18
            have c18b1 : decide (0 ≤ (ji17)) = true := decide_eq_true c18
            clear c18
            obtain ⟨ji19, hji19⟩ : ∃ j_ : Int, (shl .i64 x4_1 (ji17)) = j_ := ⟨_, rfl⟩
            replace H : (if 0 ≤ (Go.bits .and .i64 (ji19) 31) then (if (Go.bits .and .i64 (ji19) 31) < 32 then (if x3_1.length < 140737488355328 then (some (strOfNums (x3_1 ++ [bt (⟨#[65, 66, 67, 68, 69, 70, 71, 72, 73, 74, 75, 76, 77, 78, 79, 80, 81, 82, 83, 84, 85, 86, 87, 88, 89, 90, 50, 51, 52, 53, 54, 55]⟩ : ByteArray) (Go.bits .and .i64 (ji19) 31)]))) else (none)) else (none)) else (none)) = some r := by first | (rw [hji19] at H; exact H) | (simp only [hji19] at H ⊢; exact H)
            have hji19_ : (IntKind.i64.wrap (x4_1 * 2 ^ min (ji17).toNat 64)) = ji19 := hji19
            have hji19z : (ji17) ≤ 64 → (IntKind.i64.wrap (x4_1 * 2 ^ (ji17).toNat)) = ji19 := shl_small hji19
            have hji19y : (wrap64 (x4_1 * 2 ^ min (ji17).toNat 64)) = ji19 := (i64_w _).symm.trans hji19_
            have hji19x : (ji17) ≤ 64 → (wrap64 (x4_1 * 2 ^ (ji17).toNat)) = ji19 := fun h_ => (i64_w _).symm.trans (hji19z h_)
            by_cases c20 : 0 ≤ (Go.bits .and .i64 (ji19) 31)
            · rw [if_pos c20] at H
              have c20b0 : decide (0 ≤ (Go.bits .and .i64 (ji19) 31)) = true := decide_eq_true c20
              clear c20
              by_cases c21 : (Go.bits .and .i64 (ji19) 31) < 32
              · rw [if_pos c21] at H
                have c21b0 : decide ((Go.bits .and .i64 (ji19) 31) < 32) = true := decide_eq_true c21
                clear c21
                by_cases c23 : x3_1.length < 140737488355328
                · rw [if_pos c23] at H
                  have LMc23 := Aside0.mk c23
                  clear c23
                  obtain ⟨y104, hy104⟩ : ∃ y_ : List Int, y_ = (x3_1 ++ [bt (⟨#[65, 66, 67, 68, 69, 70, 71, 72, 73, 74, 75, 76, 77, 78, 79, 80, 81, 82, 83, 84, 85, 86, 87, 88, 89, 90, 50, 51, 52, 53, 54, 55]⟩ : ByteArray) (Go.bits .and .i64 (ji19) 31)]) := ⟨_, rfl⟩
                  replace H : (some (strOfNums y104)) = some r := by first | (rw [hy104]; with_reducible exact H) | (have H2_ := (Option.bind_some _ _).symm.trans H; rw [hy104]; with_reducible exact H2_) | (have H2_ := (Option.bind_some _ _).symm.trans H; with_reducible exact H2_) | with_reducible exact H | (rw [hy104]; exact H) | exact H
                  have Ny104 := Aside0.mk hy104
                  clear hy104
                  obtain rfl := Option.some.inj H
                  have p22 : 0 ≤ ((Go.bits .and .i64 (ji19) 31) : Int) := of_decide_eq_true (by first | (with_reducible assumption) | assumption)
                  have q22 : (Go.bits .and .i64 (ji19) 31) < (32 : Int) := of_decide_eq_true (by first | (with_reducible assumption) | assumption)
                  have hx22 := bt_at (⟨#[65, 66, 67, 68, 69, 70, 71, 72, 73, 74, 75, 76, 77, 78, 79, 80, 81, 82, 83, 84, 85, 86, 87, 88, 89, 90, 50, 51, 52, 53, 54, 55]⟩ : ByteArray) (Go.bits .and .i64 (ji19) 31)
                  replace p22 := eq_true p22
                  replace q22 := eq_true q22
                  go_wp2_with (first | ((with_reducible refine gate_builtin (b := .append) (xs := #[.tmp 41, .tmp 48]) rfl ?_); at_builtin; refine Kd.R_append (Kd.int .u8) (w0 := w) w.heap.size rfl (.tmp 41) (.tmp 48) 22 5 (.int .u8 0) 1 rfl Try.underlying22 info5 rfl (by decide) (by omega) u3 x3_1 (bt (⟨#[65, 66, 67, 68, 69, 70, 71, 72, 73, 74, 75, 76, 77, 78, 79, 80, 81, 82, 83, 84, 85, 86, 87, 88, 89, 90, 50, 51, 52, 53, 54, 55]⟩ : ByteArray) (Go.bits .and .i64 (ji19) 31)) [.int .u8 (bt (⟨#[65, 66, 67, 68, 69, 70, 71, 72, 73, 74, 75, 76, 77, 78, 79, 80, 81, 82, 83, 84, 85, 86, 87, 88, 89, 90, 50, 51, 52, 53, 54, 55]⟩ : ByteArray) (Go.bits .and .i64 (ji19) 31))] (fun _ => True) (fun _ => False) rfl rfl ?aP (fun _ hk => hk.elim) ?aF ?aO ?aB ?aS ?aL ?_; (case aP => exact rfl); (case aB => exact (by repeat (first | (with_reducible first | exact HB.out | apply below_alloc | apply pw_below_drewN | apply below_drew1) | exact HB.out))); (case aF => exact (fun _ _ => trivial)); (case aO => exact (by (with_reducible repeat (first | apply Kd.R_alloc | apply Kd.R_drewN | apply Kd.R_drew)); exact HO_3.out)); (case aS => exact (below_size (by repeat (first | (with_reducible first | exact HB.out | apply below_alloc | apply pw_below_drewN | apply below_drew1) | exact HB.out)))); (case aL => have := LMc23.out; omega); intro v105 w24 ho hb hg hat; rw [← Ny104.out] at ho; have n0_ := Aside0.mk (hb); have n1_ := Aside0.mk (ho); clear HB; clear HO_3; have HB := n0_; have HO106 := n1_; clear n0_ n1_; clear ho hb hg hat; have hcv25 := own_string (P := Try.prog) Try.underlying22 Try.underlying5 Try.underlying9 (Kd.own_of_R HO106.out)))
                  go_ret
                  exact ⟨by first | rfl | (simp [errW_none, errW_some] <;> rfl) | (simp only [← hji17, ← hji19]; first | rfl | (simp [errW_none, errW_some] <;> rfl)) | (simp [*, errW_none, errW_some] <;> rfl), by repeat (first | (with_reducible first | exact HB.out | apply below_alloc | apply pw_below_drewN | apply below_drew1) | exact HB.out)⟩
                · rw [if_neg c23] at H
                  exact absurd H (by simp)
              · rw [if_neg c21] at H
                exact absurd H (by simp)
            · rw [if_neg c20] at H
              exact absurd H (by simp)
          · rw [if_neg c18] at H
            exact absurd H (by simp)
        · rw [if_neg c16] at H
          have c16b0 : decide (0 < x5_1) = false := decide_eq_false c16
          clear c16
          obtain rfl := Option.some.inj H
          have hcv26 := own_string (P := Try.prog) Try.underlying22 Try.underlying5 Try.underlying9 (Kd.own_of_R HO_3.out)
          go_wp2
          go_ret
          exact ⟨by first | rfl | (simp [errW_none, errW_some] <;> rfl) | (simp [*, errW_none, errW_some] <;> rfl), by repeat (first | (with_reducible first | exact HB.out | apply below_alloc | apply pw_below_drewN | apply below_drew1) | exact HB.out)⟩

/-! ### spec_CRC: function 56 -/
mutual
def spec_CRC.l0 : Nat → Int → List Int → Int → Int → Option (Int)
  | 0, _, _, _, _ => none
  | k + 1, x3, x6, x7, x8 => if x8 < x7 then (if 0 ≤ x8 then (if x8 < (x6.length : Int) then (spec_CRC.l1 k (Go.bits .xor .u16 x3 (IntKind.u16.wrap ((IntKind.u16.wrap (rd x6 x8)) * 256))) x6 x7 x8 0) else (none)) else (none)) else (some x3)
def spec_CRC.l1 : Nat → Int → List Int → Int → Int → Int → Option (Int)
  | 0, _, _, _, _, _ => none
  | k + 1, x3, x6, x7, x8, x17 => if x17 < 8 then (if (Go.bits .and .u16 x3 32768) = 0 then (spec_CRC.l1 k (IntKind.u16.wrap (x3 * 2)) x6 x7 x8 (wrap64 (x17 + 1))) else (spec_CRC.l1 k (Go.bits .xor .u16 (IntKind.u16.wrap (x3 * 2)) 4129) x6 x7 x8 (wrap64 (x17 + 1)))) else (spec_CRC.l0 k x3 x6 x7 (wrap64 (x8 + 1)))
end
def spec_CRC.f (k : Nat) (l0 : List Int) : Option (Int) := spec_CRC.l0 k 0 l0 (l0.length : Int) 0
theorem spec_CRC.mono_l : ∀ k, (∀ y0 y1 y2 y3, LeO (spec_CRC.l0 k y0 y1 y2 y3) (spec_CRC.l0 (k + 1) y0 y1 y2 y3)) ∧ (∀ y0 y1 y2 y3 y4, LeO (spec_CRC.l1 k y0 y1 y2 y3 y4) (spec_CRC.l1 (k + 1) y0 y1 y2 y3 y4))
  | 0 => ⟨fun _ _ _ _ r h => by simp [spec_CRC.l0] at h, fun _ _ _ _ _ r h => by simp [spec_CRC.l1] at h⟩
  | k + 1 => by
    obtain ⟨ih0, ih1⟩ := spec_CRC.mono_l k
    refine ⟨?_, ?_⟩
    · intro y0 y1 y2 y3
      unfold spec_CRC.l0
      repeat' first
      | (with_reducible exact ih0 _ _ _ _)
      | (with_reducible exact ih1 _ _ _ _ _)
      | (with_reducible exact LeO.refl _)
      | (with_reducible exact LeO.none _)
      | (with_reducible refine LeO.ite ?_ ?_)
      | (with_reducible refine LeO.bind ?_ (fun _ => ?_))
      | exact ih0 _ _ _ _
      | exact ih1 _ _ _ _ _
      | exact LeO.none _
      | refine LeO.ite ?_ ?_
      | refine LeO.bind ?_ (fun _ => ?_)
    · intro y0 y1 y2 y3 y4
      unfold spec_CRC.l1
      repeat' first
      | (with_reducible exact ih0 _ _ _ _)
      | (with_reducible exact ih1 _ _ _ _ _)
      | (with_reducible exact LeO.refl _)
      | (with_reducible exact LeO.none _)
      | (with_reducible refine LeO.ite ?_ ?_)
      | (with_reducible refine LeO.bind ?_ (fun _ => ?_))
      | exact ih0 _ _ _ _
      | exact ih1 _ _ _ _ _
      | exact LeO.none _
      | refine LeO.ite ?_ ?_
      | refine LeO.bind ?_ (fun _ => ?_)
theorem spec_CRC.mono : ∀ a0 k, LeO (spec_CRC.f k a0) (spec_CRC.f (k + 1) a0) := by
  intro a0 k
  obtain ⟨ih0, ih1⟩ := spec_CRC.mono_l k
  unfold spec_CRC.f
  repeat' first
      | (with_reducible exact ih0 _ _ _ _)
      | (with_reducible exact ih1 _ _ _ _ _)
      | (with_reducible exact LeO.refl _)
      | (with_reducible exact LeO.none _)
      | (with_reducible refine LeO.ite ?_ ?_)
      | (with_reducible refine LeO.bind ?_ (fun _ => ?_))
      | exact ih0 _ _ _ _
      | exact ih1 _ _ _ _ _
      | exact LeO.none _
      | refine LeO.ite ?_ ?_
      | refine LeO.bind ?_ (fun _ => ?_)
set_option maxHeartbeats 8000000 in
set_option maxRecDepth 100000 in
theorem spec_CRC.calls (k : Nat) (A0 : Option Addr) (c0 : Nat) (l0 : List Int) (r : Int) (w : World) (hr0 : Kd.C (Kd.int .u8) w A0 l0.length l0) (hc0 : l0.length ≤ c0) (h : spec_CRC.f k l0 = some r) :
    Calls Try.prog 56 #[.slice A0 l0.length c0] w fun e w' => e = .returned (.int .u16 r) ∧ Drawn0 w w' := by
  have HR0 := Aside0.mk hr0
  have HC0 := Aside0.mk hc0
  clear hr0 hc0
  have H : (spec_CRC.l0 k 0 l0 (l0.length : Int) 0) = some r := h
  clear h
  have H' := Aside0.mk H
  clear H
  go_enter Try.func56, Try.ntmps56
  go_wp2
  go_loopg [3, 8] k (fun kq v3 v8 w' => ∃ (x3_1 : Int) (x8_1 : Int), v3 = .int .u16 x3_1 ∧ v8 = .int .i64 x8_1 ∧ Aside0 (spec_CRC.l0 kq x3_1 l0 (l0.length : Int) x8_1 = some r) ∧ Aside0 (kq ≤ k) ∧ Drawn0 w w')
  case atStart => exact ⟨(0), (0), (by first | rfl | (simp; done) | (simp [*]; done)), (by first | rfl | (simp; done) | (simp [*]; done)), H', ⟨Nat.le_refl _⟩, by repeat (first | exact Drawn0.refl _ | apply Drawn0.step)⟩
  case round =>
    clear H'
    obtain ⟨x3_1, x8_1, rfl, rfl, HA, HK1, ⟨m1, rfl⟩⟩ := hrel
    cases gk with
    | zero => exact absurd HA.out (by simp [spec_CRC.l0])
    | succ k1 =>
      have H := HA.out
      clear HA
      simp only [spec_CRC.l0] at H
      by_cases c2 : x8_1 < (l0.length : Int)
      · rw [if_pos c2] at H
        have c2b0 : decide (x8_1 < (l0.length : Int)) = true := decide_eq_true c2
        clear c2
        by_cases c3 : 0 ≤ x8_1
        · rw [if_pos c3] at H
          have c3b0 : decide (0 ≤ x8_1) = true := decide_eq_true c3
          clear c3
          by_cases c4 : x8_1 < (l0.length : Int)
          · rw [if_pos c4] at H
            have c4b0 : decide (x8_1 < (l0.length : Int)) = true := decide_eq_true c4
            clear c4
            have H' := Aside0.mk H
            clear H
            have p111 : 0 ≤ (x8_1 : Int) := of_decide_eq_true (by first | (with_reducible assumption) | assumption)
            have q111 : x8_1 < (l0.length : Int) := of_decide_eq_true (by first | (with_reducible assumption) | assumption)
            obtain ⟨ad111, e111, hx111_0⟩ := Kd.at_int HR0.out x8_1 p111 q111
            cases e111
            replace p111 := eq_true p111
            replace q111 := eq_true q111
            go_wp2
            go_loopg [3, 17] k1 (fun kq v3 v17 w' => ∃ (x3_2 : Int) (x17_2 : Int), v3 = .int .u16 x3_2 ∧ v17 = .int .i64 x17_2 ∧ Aside0 (spec_CRC.l1 kq x3_2 l0 (l0.length : Int) x8_1 x17_2 = some r) ∧ Aside0 (kq ≤ k1) ∧ Drawn0 w w')
            case atStart => exact ⟨(Go.bits .xor .u16 x3_1 (IntKind.u16.wrap ((IntKind.u16.wrap (rd l0 x8_1)) * 256))), (0), (by first | rfl | (simp; done) | (simp [*]; done)), (by first | rfl | (simp; done) | (simp [*]; done)), H', ⟨Nat.le_refl _⟩, by repeat (first | exact Drawn0.refl _ | apply Drawn0.step)⟩
            case round =>
              clear H'
              try clear p1
              try clear q1
              try clear hx1
              try clear c2
              try clear c2b0
              try clear p2
              try clear c3
              try clear c3b0
              try clear c4
              try clear c4b0
              try clear hx111_0
              try clear p111
              try clear q111
              obtain ⟨x3_2, x17_2, rfl, rfl, HA, HK2, ⟨m2, rfl⟩⟩ := hrel
              cases gk with
              | zero => exact absurd HA.out (by simp [spec_CRC.l1])
              | succ k2 =>
                have H := HA.out
                clear HA
                simp only [spec_CRC.l1] at H
                by_cases c5 : x17_2 < 8
                · rw [if_pos c5] at H
                  have c5b0 : decide (x17_2 < 8) = true := decide_eq_true c5
                  clear c5
                  by_cases c6 : (Go.bits .and .u16 x3_2 32768) = 0
                  · rw [if_pos c6] at H
                    have c6b0 : ((Go.bits .and .u16 x3_2 32768) == 0) = true := beq_iff_eq.mpr c6
                    have c6b1 : ((Go.bits .and .u16 x3_2 32768) != 0) = false := bne_eq_false_iff_eq.mpr c6
                    clear c6
                    have H' := Aside0.mk H
                    clear H
                    go_wp2
                    go_roundg k2
                    case measure => have := HK1.out; have := HK2.out; omega
                    case rel => exact ⟨(IntKind.u16.wrap (x3_2 * 2)), (wrap64 (x17_2 + 1)), (by first | rfl | (simp; done) | (simp [*]; done)), (by first | rfl | (simp; done) | (simp [*]; done)), H', ⟨by have := HK1.out; have := HK2.out; omega⟩, by repeat (first | exact Drawn0.refl _ | apply Drawn0.step)⟩
                  · rw [if_neg c6] at H
                    have c6b0 : ((Go.bits .and .u16 x3_2 32768) == 0) = false := beq_eq_false_iff_ne.mpr c6
                    have c6b1 : ((Go.bits .and .u16 x3_2 32768) != 0) = true := bne_iff_ne.mpr c6
                    have H' := Aside0.mk H
                    clear H
                    go_wp2
                    go_roundg k2
                    case measure => have := HK1.out; have := HK2.out; omega
                    case rel => exact ⟨(Go.bits .xor .u16 (IntKind.u16.wrap (x3_2 * 2)) 4129), (wrap64 (x17_2 + 1)), (by first | rfl | (simp; done) | (simp [*]; done)), (by first | rfl | (simp; done) | (simp [*]; done)), H', ⟨by have := HK1.out; have := HK2.out; omega⟩, by repeat (first | exact Drawn0.refl _ | apply Drawn0.step)⟩
                · rw [if_neg c5] at H
                  have c5b0 : decide (x17_2 < 8) = false := decide_eq_false c5
                  clear c5
                  have H' := Aside0.mk H
                  clear H
                  go_wp2
                  go_roundg k2
                  case measure => have := HK1.out; have := HK2.out; omega
                  case rel => exact ⟨(x3_2), (wrap64 (x8_1 + 1)), (by first | rfl | (simp; done) | (simp [*]; done)), (by first | rfl | (simp; done) | (simp [*]; done)), H', ⟨by have := HK1.out; have := HK2.out; omega⟩, by repeat (first | exact Drawn0.refl _ | apply Drawn0.step)⟩
          · rw [if_neg c4] at H
            exact absurd H (by simp)
        · rw [if_neg c3] at H
          exact absurd H (by simp)
      · rw [if_neg c2] at H
        have c2b0 : decide (x8_1 < (l0.length : Int)) = false := decide_eq_false c2
        clear c2
        obtain rfl := Option.some.inj H
        go_wp2
        go_ret
        exact ⟨by first | rfl | (simp; done) | (simp [*]; done), by repeat (first | exact Drawn0.refl _ | apply Drawn0.step)⟩

-- NOT PRINTED: function 27 (spec_checked)

/-! ### spec_prefix: function 28 -/
def spec_prefix.f (a0 : Int) : Option (Int) := (some (([0, 2, 14, 13, 20, 23] : List Int) : List Int)).bind fun y113 => (if 0 ≤ a0 then (if a0 < (y113.length : Int) then (some (((rd y113 a0) * 8) % 256)) else (none)) else (none))
set_option maxHeartbeats 8000000 in
set_option maxRecDepth 100000 in
theorem spec_prefix.calls (a0 : Int) (r : Int) (w : World) (h : spec_prefix.f a0 = some r) :
    Calls Try.prog 28 #[.int .i64 a0] w fun e w' => e = .returned (.int .u8 r) ∧ Below w.heap.size w w' := by
  have HB := Aside0.mk (Below.refl w.heap.size w)
  have H : ((some (([0, 2, 14, 13, 20, 23] : List Int) : List Int)).bind fun y113 => (if 0 ≤ a0 then (if a0 < (y113.length : Int) then (some (((rd y113 a0) * 8) % 256)) else (none)) else (none))) = some r := h
  clear h
  obtain ⟨y113, hy113⟩ : ∃ y_ : List Int, y_ = (([0, 2, 14, 13, 20, 23] : List Int)) := ⟨_, rfl⟩
  replace H : (if 0 ≤ a0 then (if a0 < (y113.length : Int) then (some (((rd y113 a0) * 8) % 256)) else (none)) else (none)) = some r := by first | (rw [hy113]; with_reducible exact H) | (have H2_ := (Option.bind_some _ _).symm.trans H; rw [hy113]; with_reducible exact H2_) | (have H2_ := (Option.bind_some _ _).symm.trans H; with_reducible exact H2_) | with_reducible exact H | (rw [hy113]; exact H) | exact H
  have Ny113 := Aside0.mk hy113
  clear hy113
  by_cases c2 : 0 ≤ a0
  · rw [if_pos c2] at H
    have c2b0 : decide (0 ≤ a0) = true := decide_eq_true c2
    clear c2
    by_cases c3 : a0 < (y113.length : Int)
    · rw [if_pos c3] at H
      have c3b0 : decide (a0 < (y113.length : Int)) = true := decide_eq_true c3
      clear c3
      obtain rfl := Option.some.inj H
      go_enter Try.func28, Try.ntmps28
      go_wp2_with (first | ((with_reducible refine gate_dst (N := 3) rfl ?_); refine Kd.R_lit (Kd.int .u8) _ 5 ?hg (N := 3) ?hd (xs := ([0, 2, 14, 13, 20, 23] : List Int)) (inner := [.int .u8 0, .int .u8 2, .int .u8 14, .int .u8 13, .int .u8 20, .int .u8 23]) (ok := fun _ => True) (okp := fun _ => True) ?hr ?hp (fun _ hk => hk) trivial (Below.refl _ _) (Nat.le_refl _) (by simp) ?_; (case hd => rfl); (case hg => rfl); (case hr => first | (go_simp; done) | (go_simp; rfl)); (case hp => exact (Reps.one (show Kd.M (Kd.int .u8) _ _ _ 0 [.int .u8 0] from rfl) (Reps.one (show Kd.M (Kd.int .u8) _ _ _ 2 [.int .u8 2] from rfl) (Reps.one (show Kd.M (Kd.int .u8) _ _ _ 14 [.int .u8 14] from rfl) (Reps.one (show Kd.M (Kd.int .u8) _ _ _ 13 [.int .u8 13] from rfl) (Reps.one (show Kd.M (Kd.int .u8) _ _ _ 20 [.int .u8 20] from rfl) (Reps.one (show Kd.M (Kd.int .u8) _ _ _ 23 [.int .u8 23] from rfl) (Reps.none _ _)))))))); intro v114 w4 ho5 hb hg_ hnew_; clear hg_ hnew_; (first | rw [← Ny113.out] at ho5 | (simp only [Int.reduceToNat] at ho5; rw [← Ny113.out] at ho5)); have n0_ := Aside0.mk (Kd.R_lower ho5 (below_size (by repeat (first | (with_reducible first | exact HB.out | apply below_alloc | apply pw_below_drewN | apply below_drew1) | exact HB.out)))); have n1_ := Aside0.mk (below_step (by repeat (first | (with_reducible first | exact HB.out | apply below_alloc | apply pw_below_drewN | apply below_drew1) | exact HB.out)) hb); clear HB; have HO115 := n0_; have HB := n1_; clear n0_ n1_; clear hb ho5; obtain ⟨Ao6, co6, eo6⟩ := Kd.R_slice HO115.out; subst eo6; have p116 : 0 ≤ (a0 : Int) := of_decide_eq_true (by first | (with_reducible assumption) | assumption); have q116 : a0 < (y113.length : Int) := of_decide_eq_true (by first | (with_reducible assumption) | assumption); obtain ⟨ad116, e116, hx116_0⟩ := Kd.at_int (Kd.R_reads' HO115.out).2.2 a0 p116 q116; cases e116; replace p116 := eq_true p116; replace q116 := eq_true q116))
      go_ret
      exact ⟨by first | rfl | (simp [errW_none, errW_some] <;> rfl) | (simp [*, errW_none, errW_some] <;> rfl), by repeat (first | (with_reducible first | exact HB.out | apply below_alloc | apply pw_below_drewN | apply below_drew1) | exact HB.out)⟩
    · rw [if_neg c3] at H
      exact absurd H (by simp)
  · rw [if_neg c2] at H
    exact absurd H (by simp)

-- NOT PRINTED: function 12 (spec_Text)

-- NOT PRINTED: function 14 (impl_Decode)

/-! ### spec_Letter: function 17 -/
def spec_Letter.f (a0 : Int) : Option (Int) := if 0 ≤ a0 then (if a0 < 6 then (some (bt (⟨#[65, 67, 79, 78, 85, 88]⟩ : ByteArray) a0)) else (none)) else (none)
set_option maxHeartbeats 8000000 in
set_option maxRecDepth 100000 in
theorem spec_Letter.calls (a0 : Int) (r : Int) (w : World) (h : spec_Letter.f a0 = some r) :
    Calls Try.prog 17 #[.int .i64 a0] w fun e w' => e = .returned (.int .u8 r) ∧ Drawn0 w w' := by
  have H : (if 0 ≤ a0 then (if a0 < 6 then (some (bt (⟨#[65, 67, 79, 78, 85, 88]⟩ : ByteArray) a0)) else (none)) else (none)) = some r := h
  clear h
  by_cases c2 : 0 ≤ a0
  · rw [if_pos c2] at H
    have c2b0 : decide (0 ≤ a0) = true := decide_eq_true c2
    clear c2
    by_cases c3 : a0 < 6
    · rw [if_pos c3] at H
      have c3b0 : decide (a0 < 6) = true := decide_eq_true c3
      clear c3
      obtain rfl := Option.some.inj H
      have p4 : 0 ≤ (a0 : Int) := of_decide_eq_true (by first | (with_reducible assumption) | assumption)
      have q4 : a0 < (6 : Int) := of_decide_eq_true (by first | (with_reducible assumption) | assumption)
      have hx4 := bt_at (⟨#[65, 67, 79, 78, 85, 88]⟩ : ByteArray) a0
      replace p4 := eq_true p4
      replace q4 := eq_true q4
      go_enter Try.func17, Try.ntmps17
      go_wp2
      go_ret
      exact ⟨by first | rfl | (simp; done) | (simp [*]; done), by repeat (first | exact Drawn0.refl _ | apply Drawn0.step)⟩
    · rw [if_neg c3] at H
      exact absurd H (by simp)
  · rw [if_neg c2] at H
    exact absurd H (by simp)

-- NOT PRINTED: function 18 (impl_Kind)

-- NOT PRINTED: function 7 (laws_FnEncode)

end Go.Proofs.Ytmmhifomfbdfjaa.PFnEncode
