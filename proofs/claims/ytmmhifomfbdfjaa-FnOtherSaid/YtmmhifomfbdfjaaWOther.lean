/- The walk of laws.FnOther. -/
import Derived.Test.YtmmhifomfbdfjaaDec
import Derived.Test.YtmmhifomfbdfjaaSpecW
import Derived.Test.YtmmhifomfbdfjaaWorks
namespace Go.Proofs.Ytmmhifomfbdfjaa
open Go.RowKit Go.Proofs.YtmmhifomfbdfjaaW.PrintWords Go.Proofs.YtmmhifomfbdfjaaW.PrintLast Go.Proofs.YtmmhifomfbdfjaaW.PrintMore
set_option linter.unusedVariables false
set_option linter.unusedSimpArgs false

set_option maxHeartbeats 800000 in
theorem other_walk (w : World) (i j : Int) (A : Option Addr) (cap : Nat) (l : List Int) (hrd : Rds w A l) (hcap : l.length ≤ cap) (hm : l.length ≤ 9223372036854775807) (hb : ∀ x ∈ l, 0 ≤ x ∧ x ≤ 255) :
    Calls Try.prog 5 #[.int .i64 i, .int .i64 j, .slice A l.length cap] w fun e w' => e = .returned (.bool true) ∧ Below w.heap.size w w' := by
  have HRD := Aside0.mk hrd
  have HB := Aside0.mk hb
  clear hrd hb
  by_cases hbig : (2147483647 : Int) < l.length
  · go_enter Try.func5, Try.ntmps5
    go_wp2
    go_ret
    exact ⟨rfl, Below.refl _ _⟩
  by_cases hi : 0 ≤ i ∧ i < 6
  · obtain ⟨i0, i1⟩ := hi
    by_cases hj : 0 ≤ j ∧ j < 6
    · obtain ⟨j0, j1⟩ := hj
      by_cases hij : i = j
      · have eij : (i == j) = true := by rw [hij]; simp
        clear hij
        go_enter Try.func5, Try.ntmps5
        go_wp2_with fail
        refine (known_yes _ i i0 i1).mono ?_
        rintro e w1 ⟨rfl, hb1⟩
        have B1 := Aside0.mk hb1
        clear hb1
        go_wp2_with fail
        refine (known_yes _ j j0 j1).mono ?_
        rintro e w2 ⟨rfl, hb2⟩
        have B2 := Aside0.mk (below_step B1.out hb2)
        clear hb2
        go_wp2_with fail
        refine (works_any _).mono ?_
        rintro e w3 ⟨rfl, hb3⟩
        have B3 := Aside0.mk (below_step B2.out hb3)
        clear hb3
        go_wp2
        go_ret
        exact ⟨rfl, B3.out⟩
      · have eij : (i == j) = false := by rw [beq_eq_false_iff_ne]; exact hij
        have HIJ := Aside0.mk hij
        clear hij
        by_cases h32 : l.length = 32
        · have e32 : ((l.length : Int) != 32) = false := by rw [h32]; rfl
          have H32 := Aside0.mk h32
          clear h32
          go_enter Try.func5, Try.ntmps5
          go_wp2_with fail
          refine (known_yes _ i i0 i1).mono ?_
          rintro e w1 ⟨rfl, hb1⟩
          have B1 := Aside0.mk hb1
          clear hb1
          go_wp2_with fail
          refine (known_yes _ j j0 j1).mono ?_
          rintro e w2 ⟨rfl, hb2⟩
          have B2 := Aside0.mk (below_step B1.out hb2)
          clear hb2
          go_wp2_with fail
          refine (spec_text w2 i A cap l i0 i1 (Kd.C_below HRD.out B2.out) hcap H32.out HB.out).mono ?_
          rintro e w3 ⟨rfl, hb3⟩
          have B3 := Aside0.mk (below_step B2.out hb3)
          clear hb3
          go_wp2_with fail
          have hst := bytes_str (l := keyL (pk i) l) (key_txt (pk_pref i0 i1) H32.out HB.out).bytes
          refine (implDecode_bad w3 j (strOfNums (keyL (pk i) l)) (keyL (pk i) l).length j0 j1 (by rw [hst]; exact key_txt (pk_pref i0 i1) H32.out HB.out) (by rw [hst, key_good (pk_pref i0 i1) H32.out HB.out]; exact fun h => HIJ.out (pk_inj j0 j1 i0 i1 h).symm)).mono ?_
          clear hst
          rintro e w4 ⟨rfl, hb4⟩
          have B4 := Aside0.mk (below_step B3.out hb4)
          clear hb4
          go_wp2_with fail
          refine (works_any _).mono ?_
          rintro e w5 ⟨rfl, hb5⟩
          have B5 := Aside0.mk (below_step B4.out hb5)
          clear hb5
          go_wp2
          go_ret
          exact ⟨rfl, B5.out⟩
        · have e32 : ((l.length : Int) != 32) = true := by rw [bne_iff_ne]; omega
          clear h32
          go_enter Try.func5, Try.ntmps5
          go_wp2_with fail
          refine (known_yes _ i i0 i1).mono ?_
          rintro e w1 ⟨rfl, hb1⟩
          have B1 := Aside0.mk hb1
          clear hb1
          go_wp2_with fail
          refine (known_yes _ j j0 j1).mono ?_
          rintro e w2 ⟨rfl, hb2⟩
          have B2 := Aside0.mk (below_step B1.out hb2)
          clear hb2
          go_wp2_with fail
          refine (works_any _).mono ?_
          rintro e w3 ⟨rfl, hb3⟩
          have B3 := Aside0.mk (below_step B2.out hb3)
          clear hb3
          go_wp2
          go_ret
          exact ⟨rfl, B3.out⟩
    · have HJ := Aside0.mk (show j < 0 ∨ 6 ≤ j by omega)
      clear hj
      go_enter Try.func5, Try.ntmps5
      go_wp2_with fail
      refine (known_yes _ i i0 i1).mono ?_
      rintro e w1 ⟨rfl, hb1⟩
      have B1 := Aside0.mk hb1
      clear hb1
      go_wp2_with fail
      refine (known_no _ j HJ.out).mono ?_
      rintro e w2 ⟨rfl, hb2⟩
      have B2 := Aside0.mk (below_step B1.out hb2)
      clear hb2
      go_wp2_with fail
      refine (works_any _).mono ?_
      rintro e w3 ⟨rfl, hb3⟩
      have B3 := Aside0.mk (below_step B2.out hb3)
      clear hb3
      go_wp2
      go_ret
      exact ⟨rfl, B3.out⟩
  · have HI := Aside0.mk (show i < 0 ∨ 6 ≤ i by omega)
    clear hi
    go_enter Try.func5, Try.ntmps5
    go_wp2_with fail
    refine (known_no _ i HI.out).mono ?_
    rintro e w1 ⟨rfl, hb1⟩
    have B1 := Aside0.mk hb1
    clear hb1
    go_wp2_with fail
    refine (works_any _).mono ?_
    rintro e w2 ⟨rfl, hb2⟩
    have B2 := Aside0.mk (below_step B1.out hb2)
    clear hb2
    go_wp2
    go_ret
    exact ⟨rfl, B2.out⟩
end Go.Proofs.Ytmmhifomfbdfjaa
