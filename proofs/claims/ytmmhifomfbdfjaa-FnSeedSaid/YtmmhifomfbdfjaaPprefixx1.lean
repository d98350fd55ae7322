-- PRINTED BY print.sh 35421559b90ae4d0a3588c463048766b98c2df88dd9212a6774a882060cdf62d: not written by this session
import Derived.Test.YtmmhifomfbdfjaaPprefixx0
namespace Go.Proofs.Ytmmhifomfbdfjaa.Pprefix
open Go.RowKit Go.Proofs.YtmmhifomfbdfjaaW.PrintWords Go.Proofs.YtmmhifomfbdfjaaW.PrintLast Go.Proofs.YtmmhifomfbdfjaaW.PrintMore
attribute [local go_sem] max2_int min2_int max_two min_two max_three min_three max_four min_four   -- for this text's walks alone
set_option linter.unusedVariables false
set_option linter.unusedSimpArgs false

/-! ### impl_prefixes: function 46 -/
def impl_prefixes.f  : Option (List Int) := some (([0, 16, 112, 104, 160, 184, 144, 120] : List Int))
set_option maxHeartbeats 8000000 in
set_option maxRecDepth 100000 in
theorem impl_prefixes.calls  (r : List Int) (w : World) (h : impl_prefixes.f  = some r) :
    Calls Try.prog 46 #[] w fun e w' => ∃ v0_ : Value, e = .returned (v0_) ∧ Kd.R (Kd.int .u8) 40 w' w.heap.size (fun _ => True) v0_ r ∧ Below w.heap.size w w' := by
  have HB := Aside0.mk (Below.refl w.heap.size w)
  have H : (some (([0, 16, 112, 104, 160, 184, 144, 120] : List Int))) = some r := h
  clear h
  obtain ⟨y101, hy101⟩ : ∃ y_ : List Int, y_ = (([0, 16, 112, 104, 160, 184, 144, 120] : List Int)) := ⟨_, rfl⟩
  replace H : (some y101) = some r := by first | (rw [hy101]; with_reducible exact H) | (have H2_ := (Option.bind_some _ _).symm.trans H; rw [hy101]; with_reducible exact H2_) | (have H2_ := (Option.bind_some _ _).symm.trans H; with_reducible exact H2_) | with_reducible exact H | (rw [hy101]; exact H) | exact H
  have Ny101 := Aside0.mk hy101
  clear hy101
  obtain rfl := Option.some.inj H
  go_enter Try.func46, Try.ntmps46
  go_wp2_with (first | ((with_reducible refine gate_dst (N := 1) rfl ?_); refine Kd.R_lit (Kd.int .u8) _ 40 ?hg (N := 1) ?hd (xs := ([0, 16, 112, 104, 160, 184, 144, 120] : List Int)) (inner := [.int .u8 0, .int .u8 16, .int .u8 112, .int .u8 104, .int .u8 160, .int .u8 184, .int .u8 144, .int .u8 120]) (ok := fun _ => True) (okp := fun _ => True) ?hr ?hp (fun _ hk => hk) trivial (Below.refl _ _) (Nat.le_refl _) (by simp) ?_; (case hd => rfl); (case hg => rfl); (case hr => first | (go_simp; done) | (go_simp; rfl)); (case hp => exact (Reps.one (show Kd.M (Kd.int .u8) _ _ _ 0 [.int .u8 0] from rfl) (Reps.one (show Kd.M (Kd.int .u8) _ _ _ 16 [.int .u8 16] from rfl) (Reps.one (show Kd.M (Kd.int .u8) _ _ _ 112 [.int .u8 112] from rfl) (Reps.one (show Kd.M (Kd.int .u8) _ _ _ 104 [.int .u8 104] from rfl) (Reps.one (show Kd.M (Kd.int .u8) _ _ _ 160 [.int .u8 160] from rfl) (Reps.one (show Kd.M (Kd.int .u8) _ _ _ 184 [.int .u8 184] from rfl) (Reps.one (show Kd.M (Kd.int .u8) _ _ _ 144 [.int .u8 144] from rfl) (Reps.one (show Kd.M (Kd.int .u8) _ _ _ 120 [.int .u8 120] from rfl) (Reps.none _ _)))))))))); intro v102 w1 ho2 hb hg_ hnew_; clear hg_ hnew_; (first | rw [← Ny101.out] at ho2 | (simp only [Int.reduceToNat] at ho2; rw [← Ny101.out] at ho2)); have n0_ := Aside0.mk (Kd.R_lower ho2 (below_size (by repeat (first | (with_reducible first | exact HB.out | apply below_alloc | apply pw_below_drewN | apply below_drew1) | exact HB.out)))); have n1_ := Aside0.mk (below_step (by repeat (first | (with_reducible first | exact HB.out | apply below_alloc | apply pw_below_drewN | apply below_drew1) | exact HB.out)) hb); clear HB; have HO103 := n0_; have HB := n1_; clear n0_ n1_; clear hb ho2))
  go_ret
  exact ⟨_, by first | rfl | (simp [errW_none, errW_some] <;> rfl) | (simp [*, errW_none, errW_some] <;> rfl), by (with_reducible repeat (first | apply Kd.R_alloc | apply Kd.R_drewN | apply Kd.R_drew)); exact HO103.out, by repeat (first | (with_reducible first | exact HB.out | apply below_alloc | apply pw_below_drewN | apply below_drew1) | exact HB.out)⟩

/-! ### impl_prefix: function 23 -/
def impl_prefix.f (a0 : Int) : Option (Int × Bool) := (impl_prefixes.f).bind fun t104 => (if a0 < 0 then (some (0, false)) else (if a0 ≥ (t104.length : Int) then (some (0, false)) else (if 0 ≤ a0 then (if a0 < (t104.length : Int) then (some (rd t104 a0, true)) else (none)) else (none))))
set_option maxHeartbeats 8000000 in
set_option maxRecDepth 100000 in
theorem impl_prefix.calls (a0 : Int) (r1 : Int) (r2 : Bool) (w : World) (h : impl_prefix.f a0 = some (r1, r2)) :
    Calls Try.prog 23 #[.int .i64 a0] w fun e w' => e = .returned (.tuple #[.int .u8 r1, .bool r2]) ∧ Below w.heap.size w w' := by
  have HB := Aside0.mk (Below.refl w.heap.size w)
  have H : ((impl_prefixes.f).bind fun t104 => (if a0 < 0 then (some (0, false)) else (if a0 ≥ (t104.length : Int) then (some (0, false)) else (if 0 ≤ a0 then (if a0 < (t104.length : Int) then (some (rd t104 a0, true)) else (none)) else (none))))) = some (r1, r2) := h
  clear h
  replace H := Option.bind_eq_some_iff.mp H
  obtain ⟨t104, A20, H⟩ := H
  replace H : (if a0 < 0 then (some (0, false)) else (if a0 ≥ (t104.length : Int) then (some (0, false)) else (if 0 ≤ a0 then (if a0 < (t104.length : Int) then (some (rd t104 a0, true)) else (none)) else (none)))) = some (r1, r2) := H
  have A2 := Aside0.mk A20
  clear A20
  by_cases c3 : a0 < 0
  · rw [if_pos c3] at H
    have c3b0 : decide (a0 < 0) = true := decide_eq_true c3
    clear c3
    simp only [Option.some.injEq, Prod.mk.injEq] at H
    obtain ⟨rfl, rfl⟩ := H
    go_enter Try.func23, Try.ntmps23
    go_wp2_with (first | ((with_reducible refine gate_callee (f := 46) rfl ?_); refine goesL_ (some 5) rfl rfl Try.func46 (by kernel_rfl) rfl #[] rfl (by (try simp only [List.map_toArray, List.map_cons, List.map_nil]); first | done | rfl | (simp only [List.length_drop, List.length_take]; rfl)) ?_; (with_reducible refine (impl_prefixes.calls  t104 _ A2.out).mono ?_); rintro e w4 ⟨v105, rfl, ho0, hb⟩; refine ⟨_, rfl, ?_⟩; have n0_ := Aside0.mk (Kd.R_lower ho0 (below_size (by repeat (first | (with_reducible first | exact HB.out | apply below_alloc | apply pw_below_drewN | apply below_drew1) | exact HB.out)))); have n1_ := Aside0.mk (below_step (by repeat (first | (with_reducible first | exact HB.out | apply below_alloc | apply pw_below_drewN | apply below_drew1) | exact HB.out)) hb); clear HB; have HO106 := n0_; have HB := n1_; clear n0_ n1_; (try clear hb); (try clear hb2); (try clear hk); (try clear hi); (try clear ho0)))
    go_ret2
    exact ⟨by first | rfl | (simp [errW_none, errW_some] <;> rfl) | (simp [*, errW_none, errW_some] <;> rfl), by repeat (first | (with_reducible first | exact HB.out | apply below_alloc | apply pw_below_drewN | apply below_drew1) | exact HB.out)⟩
  · rw [if_neg c3] at H
    have c3b0 : decide (a0 < 0) = false := decide_eq_false c3
    clear c3
    by_cases c5 : a0 ≥ (t104.length : Int)
    · rw [if_pos c5] at H
      have c5b0 : decide ((t104.length : Int) ≤ a0) = true := decide_eq_true c5
      clear c5
      simp only [Option.some.injEq, Prod.mk.injEq] at H
      obtain ⟨rfl, rfl⟩ := H
      go_enter Try.func23, Try.ntmps23
      go_wp2_with (first | ((with_reducible refine gate_callee (f := 46) rfl ?_); refine goesL_ (some 5) rfl rfl Try.func46 (by kernel_rfl) rfl #[] rfl (by (try simp only [List.map_toArray, List.map_cons, List.map_nil]); first | done | rfl | (simp only [List.length_drop, List.length_take]; rfl)) ?_; (with_reducible refine (impl_prefixes.calls  t104 _ A2.out).mono ?_); rintro e w6 ⟨v105, rfl, ho0, hb⟩; refine ⟨_, rfl, ?_⟩; have n0_ := Aside0.mk (Kd.R_lower ho0 (below_size (by repeat (first | (with_reducible first | exact HB.out | apply below_alloc | apply pw_below_drewN | apply below_drew1) | exact HB.out)))); have n1_ := Aside0.mk (below_step (by repeat (first | (with_reducible first | exact HB.out | apply below_alloc | apply pw_below_drewN | apply below_drew1) | exact HB.out)) hb); clear HB; have HO106 := n0_; have HB := n1_; clear n0_ n1_; (try clear hb); (try clear hb2); (try clear hk); (try clear hi); (try clear ho0); obtain ⟨Ao7, co7, eo7⟩ := Kd.R_slice HO106.out; subst eo7))
      go_ret2
      exact ⟨by first | rfl | (simp [errW_none, errW_some] <;> rfl) | (simp [*, errW_none, errW_some] <;> rfl), by repeat (first | (with_reducible first | exact HB.out | apply below_alloc | apply pw_below_drewN | apply below_drew1) | exact HB.out)⟩
    · rw [if_neg c5] at H
      have c5b0 : decide ((t104.length : Int) ≤ a0) = false := decide_eq_false c5
      clear c5
      by_cases c8 : 0 ≤ a0
      · rw [if_pos c8] at H
        have c8b0 : decide (0 ≤ a0) = true := decide_eq_true c8
        clear c8
        by_cases c9 : a0 < (t104.length : Int)
        · rw [if_pos c9] at H
          have c9b0 : decide (a0 < (t104.length : Int)) = true := decide_eq_true c9
          clear c9
          simp only [Option.some.injEq, Prod.mk.injEq] at H
          obtain ⟨rfl, rfl⟩ := H
          go_enter Try.func23, Try.ntmps23
          go_wp2_with (first | ((with_reducible refine gate_callee (f := 46) rfl ?_); refine goesL_ (some 5) rfl rfl Try.func46 (by kernel_rfl) rfl #[] rfl (by (try simp only [List.map_toArray, List.map_cons, List.map_nil]); first | done | rfl | (simp only [List.length_drop, List.length_take]; rfl)) ?_; (with_reducible refine (impl_prefixes.calls  t104 _ A2.out).mono ?_); rintro e w10 ⟨v105, rfl, ho0, hb⟩; refine ⟨_, rfl, ?_⟩; have n0_ := Aside0.mk (Kd.R_lower ho0 (below_size (by repeat (first | (with_reducible first | exact HB.out | apply below_alloc | apply pw_below_drewN | apply below_drew1) | exact HB.out)))); have n1_ := Aside0.mk (below_step (by repeat (first | (with_reducible first | exact HB.out | apply below_alloc | apply pw_below_drewN | apply below_drew1) | exact HB.out)) hb); clear HB; have HO106 := n0_; have HB := n1_; clear n0_ n1_; (try clear hb); (try clear hb2); (try clear hk); (try clear hi); (try clear ho0); obtain ⟨Ao11, co11, eo11⟩ := Kd.R_slice HO106.out; subst eo11; have p107 : 0 ≤ (a0 : Int) := of_decide_eq_true (by first | (with_reducible assumption) | assumption); have q107 : a0 < (t104.length : Int) := of_decide_eq_true (by first | (with_reducible assumption) | assumption); obtain ⟨ad107, e107, hx107_0⟩ := Kd.at_int (Kd.R_reads' HO106.out).2.2 a0 p107 q107; cases e107; replace p107 := eq_true p107; replace q107 := eq_true q107))
          go_ret2
          exact ⟨by first | rfl | (simp [errW_none, errW_some] <;> rfl) | (simp [*, errW_none, errW_some] <;> rfl), by repeat (first | (with_reducible first | exact HB.out | apply below_alloc | apply pw_below_drewN | apply below_drew1) | exact HB.out)⟩
        · rw [if_neg c9] at H
          exact absurd H (by simp)
      · rw [if_neg c8] at H
        exact absurd H (by simp)

end Go.Proofs.Ytmmhifomfbdfjaa.Pprefix
