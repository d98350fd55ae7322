/- The walk of laws.FnLengths. -/
import Derived.Test.YtmmhifomfbdfjaaSeedE
namespace Go.Proofs.Ytmmhifomfbdfjaa
open Go.RowKit Go.Proofs.YtmmhifomfbdfjaaW.PrintWords Go.Proofs.YtmmhifomfbdfjaaW.PrintLast Go.Proofs.YtmmhifomfbdfjaaW.PrintMore
set_option linter.unusedVariables false
set_option linter.unusedSimpArgs false

set_option maxHeartbeats 800000 in
theorem lengths_walk (w : World) (k : Int) (A : Option Addr) (cap : Nat) (l : List Int) (hrd : Rds w A l) (hcap : l.length ≤ cap) (hm : l.length ≤ 9223372036854775807) :
    Calls Try.prog 3 #[.int .i64 k, .slice A l.length cap] w fun e w' => e = .returned (.bool true) ∧ Below w.heap.size w w' := by
  have HRD := Aside0.mk hrd
  clear hrd
  by_cases hbig : (2147483647 : Int) < l.length
  · go_enter Try.func3, Try.ntmps3
    go_wp2
    go_ret
    exact ⟨rfl, Below.refl _ _⟩
  by_cases hk : 0 ≤ k ∧ k < 6
  · obtain ⟨h0, h1⟩ := hk
    by_cases h32 : l.length = 32
    · have e32 : ((l.length : Int) == 32) = true := by rw [h32]; rfl
      have H32 := Aside0.mk h32
      clear h32
      go_enter Try.func3, Try.ntmps3
      go_wp2_with fail
      refine (known_yes _ k h0 h1).mono ?_
      rintro e w1 ⟨rfl, hb1⟩
      have B1 := Aside0.mk hb1
      clear hb1
      go_wp2_with fail
      refine (works_any _).mono ?_
      rintro e w2 ⟨rfl, hb2⟩
      have B2 := Aside0.mk (below_step B1.out hb2)
      clear hb2
      go_wp2
      go_ret
      exact ⟨rfl, B2.out⟩
    · have e32 : ((l.length : Int) == 32) = false := by rw [beq_eq_false_iff_ne]; omega
      have H32 := Aside0.mk h32
      clear h32
      by_cases h100 : (100 : Int) < l.length
      · go_enter Try.func3, Try.ntmps3
        go_wp2_with fail
        refine (known_yes _ k h0 h1).mono ?_
        rintro e w1 ⟨rfl, hb1⟩
        have B1 := Aside0.mk hb1
        clear hb1
        go_wp2_with fail
        refine (works_any _).mono ?_
        rintro e w2 ⟨rfl, hb2⟩
        have B2 := Aside0.mk (below_step B1.out hb2)
        clear hb2
        go_wp2
        go_ret
        exact ⟨rfl, B2.out⟩
      · go_enter Try.func3, Try.ntmps3
        go_wp2_with fail
        refine (known_yes _ k h0 h1).mono ?_
        rintro e w1 ⟨rfl, hb1⟩
        have B1 := Aside0.mk hb1
        clear hb1
        go_wp2_with fail
        refine (implEncodeSeed_bad w1 k A cap l h0 h1 (Kd.C_below HRD.out B1.out) hcap H32.out (by omega)).mono ?_
        rintro e w2 ⟨rfl, hb2⟩
        have B2 := Aside0.mk (below_step B1.out hb2)
        clear hb2
        go_wp2_with fail
        refine (works_any _).mono ?_
        rintro e w3 ⟨rfl, hb3⟩
        have B3 := Aside0.mk (below_step B2.out hb3)
        clear hb3
        go_wp2
        go_ret
        exact ⟨rfl, B3.out⟩
  · have hk' : k < 0 ∨ 6 ≤ k := by omega
    have HK := Aside0.mk hk'
    clear hk hk'
    go_enter Try.func3, Try.ntmps3
    go_wp2_with fail
    refine (known_no _ k HK.out).mono ?_
    rintro e w1 ⟨rfl, hb1⟩
    have B1 := Aside0.mk hb1
    clear hb1
    go_wp2_with fail
    refine (works_any _).mono ?_
    rintro e w2 ⟨rfl, hb2⟩
    have B2 := Aside0.mk (below_step B1.out hb2)
    clear hb2
    go_wp2
    go_ret
    exact ⟨rfl, B2.out⟩
end Go.Proofs.Ytmmhifomfbdfjaa
