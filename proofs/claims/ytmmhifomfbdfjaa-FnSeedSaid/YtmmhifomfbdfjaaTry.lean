/- slices.Clone; the function that calls a function and reports whether it neither failed nor panicked; impl.Encode. -/
import Derived.Test.YtmmhifomfbdfjaaNk
import Derived.WalkSpells
import Derived.Recover
namespace Go.Proofs.Ytmmhifomfbdfjaa
open Go.RowKit Go.Proofs.YtmmhifomfbdfjaaW.PrintWords Go.Proofs.YtmmhifomfbdfjaaW.PrintLast Go.Proofs.YtmmhifomfbdfjaaW.PrintMore
set_option linter.unusedVariables false
set_option linter.unusedSimpArgs false

set_option maxHeartbeats 400000 in
theorem clone_any (w : World) (A : Option Addr) (cap : Nat) (l : List Int) (hr : Rds w A l) (hc : l.length ≤ cap) (hl : l.length ≤ 1000) :
    Calls Try.prog 25 #[.slice A l.length cap] w fun e w' => ∃ A' n c', e = .returned (.slice A' n c') ∧ n = l.length ∧ n ≤ c' ∧ Rds w' A' l ∧ Below w.heap.size w w' := by
  rcases A with _ | ad
  · have h0 : l = [] := by
      rcases Nat.eq_zero_or_pos l.length with h | h
      · exact List.eq_nil_of_length_eq_zero h
      · obtain ⟨ad, e, _⟩ := hr.2.2 h
        cases e
    subst h0
    have hq : ∀ w : World, (binOp .eql 22 (.slice none 0 cap) (.slice none 0 0)).run Try.prog w = .ok (.bool true) w := fun w => Lib.run_eql_slice_nil (P := Try.prog) w 22 5 none 0 cap 0 0 Try.underlying22
    have HR := Aside0.mk hr
    clear hr
    go_enter Try.func25, Try.ntmps25
    go_wp2
    refine bodyPost_ret (results_tmp rfl _ _ _) rfl ⟨none, 0, 0, rfl, rfl, Nat.le_refl _, HR.out, Below.refl _ _⟩
  · have hq : ∀ w : World, (binOp .eql 22 (.slice (some ad) l.length cap) (.slice none 0 0)).run Try.prog w = .ok (.bool false) w := fun w => Lib.run_eql_slice_nil (P := Try.prog) w 22 5 (some ad) l.length cap 0 0 Try.underlying22
    have HR := Aside0.mk (Kd.C_alloc hr (.cells (u8s []).toArray 5))
    have HO := Aside0.mk (own_of_lit w w.heap.size [] (Nat.le_refl _) (by simp))
    have HB := Aside0.mk (below_alloc (Below.refl w.heap.size w) (.cells (u8s []).toArray 5))
    clear hr
    go_enter Try.func25, Try.ntmps25
    go_wp2_with ((with_reducible refine gate_dst (N := 7) rfl ?_); refine app_any w.heap.size rfl (.tmp 5) (.tmp 6) rfl (.slice (some ⟨w.heap.size, 0, none⟩) 0 0) [] l (some ad) l.length cap rfl rfl HO.out rfl HR.out ?hb2 ?hl2 ?_; (case hb2 => simp); (case hl2 => simp; omega); intro v1 w1 ho hg hat; obtain ⟨A1, k1, e1, hk1, hr1⟩ := own_rds ho; have hol := fun k hk => own_base (Kd.R_own HO.out).choose_spec k hk; have HB1 := Aside0.mk (HB.out.grown hg (by simp) hol); have HR1 := Aside0.mk hr1; clear ho hg hat hr1)
    exact bodyPost_ret (results_tmp rfl _ _ _) rfl ⟨A1, _, k1, rfl, rfl, hk1, HR1.out, HB1.out⟩

theorem catch_idle (p : Addr) (w : World) :
    CallsD Try.prog 45 #[.pointer (some p)] .returning w fun e u' w' => e = .returned (.tuple #[]) ∧ u' = .returning ∧ w' = w := by
  refine callsD_of_wpS Try.func45 rfl fun c₀ cs hu => ?_
  apply wpS_seq
  apply wpS_region
  simp [wpOpsS, go_sem, recoverD, hu, Try.ntmps45, Exit.thenS]
  refine wpS_cond (t := false) (by simp [Act.eval, Array.replicate]) ?_
  simp only [Bool.false_eq_true, if_false]
  refine wpS_of_wp (wp_skip ?_)
  cases c₀
  simp_all [bodyPostS, results, Try.results45]

set_option maxHeartbeats 400000 in
theorem try_any (w : World) (F : FuncId) (caps : Array Value) (b : Bool) (R : World → Prop)
    (hcf : ∀ W : World, (callFunc F caps).run Try.prog W = .ok (.enter F caps) W)
    (h : Calls Try.prog F caps (w.alloc (.cells #[.bool false] 4)) fun e w' => e = .returned (.bool b) ∧ Blk w' w.heap.size 4 #[.bool false] ∧ R w') :
    Calls Try.prog 21 #[.func (.func F) #[] caps] w fun e w' => e = .returned (.bool b) ∧ ∃ w1, R w1 ∧ Blk w1 w.heap.size 4 #[.bool false] ∧ w' = w1.setCell ⟨w.heap.size, 0, none⟩ (.bool b) := by
  have H := Aside0.mk h
  clear h
  have hmf : ∀ (fn : Fn) (first cap : Array Value) (w : World), (Instr.makeFunc fn first cap).run Try.prog w = .ok (.func fn first cap) w := fun _ _ _ _ => rfl
  go_enter_defers Try.func21, Try.ntmps21
  go_wp2_with fail
  refine H.out.mono ?_
  rintro e w1 ⟨rfl, hk, hR⟩
  have hc1 : w1.cell? ⟨w.heap.size, 0, none⟩ = some (.bool false) := hk.cell 0
  have hf1 := hk.frozen 0
  have HK := Aside0.mk hk
  have HR := Aside0.mk hR
  clear hk hR H
  go_wp2
  refine leaves_cons (f := 45) (args := #[.pointer (some ⟨w.heap.size, 0, none⟩)]) (by simp) (by simp [go_sem]) ?_
  refine (catch_idle ⟨w.heap.size, 0, none⟩ _).mono ?_
  rintro e u' w'' ⟨rfl, rfl, rfl⟩
  have hset := (HK.out.set_ 0 (.bool b)).cell 0
  simp at hset
  simp [Leaves, settle, results, Try.results21, go_sem, hset]
  exact ⟨w1, HR.out, HK.out, rfl⟩
end Go.Proofs.Ytmmhifomfbdfjaa
