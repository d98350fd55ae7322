/- The walk of laws.FnBroken. -/
import Derived.Test.YtmmhifomfbdfjaaTx
import Derived.Test.YtmmhifomfbdfjaaWorks
namespace Go.Proofs.Ytmmhifomfbdfjaa
open Go.RowKit Go.Proofs.YtmmhifomfbdfjaaW.PrintWords Go.Proofs.YtmmhifomfbdfjaaW.PrintLast Go.Proofs.YtmmhifomfbdfjaaW.PrintMore
set_option linter.unusedVariables false
set_option linter.unusedSimpArgs false

/-- What the walk asks of spec.Ends. -/
def EndsLaw : Prop := ∀ (w : World) (k : Int) (A : Option Addr) (cap n : Nat) (ys : List Int), 0 ≤ k → k < 6 → n < 56 → Rds w A ys → ys.length ≤ cap → ys.length = 32 → (∀ x ∈ ys, 0 ≤ x ∧ x ≤ 255) →
    Calls Try.prog 13 #[.int .i64 k, .slice A ys.length cap, .int .i64 n] w fun e w' => (∃ b, e = .returned (.bool b) ∧ (b = false → ¬ endsAt (chk (pk k :: ys)) (n * 5 / 8) ∧ ¬ endsAt (chk (pk k :: ys)) (n / 8 * 5))) ∧ Below w.heap.size w w'

set_option maxHeartbeats 1600000 in
set_option maxRecDepth 100000 in
theorem broken_neg (hE : EndsLaw) (w : World) (k t c u : Int) (A : Option Addr) (cap : Nat) (l : List Int) (k0 : 0 ≤ k) (k1 : k < 6) (hrd : Rds w A l) (hcap : l.length ≤ cap) (h32 : l.length = 32) (hb : ∀ x ∈ l, 0 ≤ x ∧ x ≤ 255) (c0 : 0 ≤ c) (c255 : c ≤ 255) (ht : t < 0) :
    Calls Try.prog 4 #[.int .i64 k, .slice A l.length cap, .int .i64 t, .int .u8 c, .int .i64 u] w fun e w' => e = .returned (.bool true) ∧ Below w.heap.size w w' := by
  have HRD := Aside0.mk hrd
  have HB := Aside0.mk hb
  have H32 := Aside0.mk h32
  have hbig : ¬ (2147483647 : Int) < l.length := by omega
  have e32 : ((l.length : Int) != 32) = false := by rw [h32]; rfl
  obtain ⟨t1, ht1⟩ : ∃ t1 : Nat, t1 = 0 := ⟨0, rfl⟩
  have ht55 : t1 < 55 := by omega
  clear ht1
  obtain ⟨T, hT⟩ : ∃ T, T = keyL (pk k) l := ⟨_, rfl⟩
  have HT := Aside0.mk hT
  have hTl : T.length = 56 := by rw [hT]; exact key_len (pk_pref k0 k1) h32 hb
  have TLN := Aside0.mk hTl
  have TL := Aside0.mk (show t1 < T.length by omega)
  have TB := Aside0.mk (show ∀ x ∈ T, 0 ≤ x ∧ x ≤ 255 by rw [hT]; exact (key_txt (pk_pref k0 k1) h32 hb).bytes)
  have HST := Aside0.mk (show bytesOf (strOfNums (keyL (pk k) l)) = keyL (pk k) l from bytes_str (key_txt (pk_pref k0 k1) h32 hb).bytes)
  have HSZ := Aside0.mk (show (strOfNums (keyL (pk k) l)).size = 56 by rw [strOfNums_size]; exact key_len (pk_pref k0 k1) h32 hb)
  obtain ⟨x, hxx⟩ : ∃ x, x = T.getD t1 0 := ⟨_, rfl⟩
  have HX := Aside0.mk hxx
  clear hrd hb h32 hT hTl hxx
  by_cases hu : 0 ≤ u
  · by_cases hu2 : u < 56
    · obtain ⟨n, rfl⟩ : ∃ n : Nat, u = n := ⟨u.toNat, by omega⟩
      have n56 : n < 56 := by omega
      go_enter Try.func4, Try.ntmps4
      go_wp2_with fail
      refine (known_yes _ k k0 k1).mono ?_
      rintro e w1 ⟨rfl, hb1⟩
      have B1 := Aside0.mk hb1
      clear hb1
      go_wp2_with fail
      refine (spec_text w1 k A cap l k0 k1 (Kd.C_below HRD.out B1.out) hcap H32.out HB.out).mono ?_
      rintro e w2 ⟨rfl, hb2⟩
      have B2 := Aside0.mk (below_step B1.out hb2)
      clear hb2
      go_wp2_with ((with_reducible refine gate_dst (N := 31) rfl ?_); refine conv_bytes rfl (.tmp 30) rfl (strOfNums (keyL (pk k) l)) rfl 56 (HSZ.out) w B2.out ?_; intro g c3 w3 hc3 hgw htx hb3; rw [HST.out, ← HT.out] at htx; have X3 := Aside0.mk htx; have B3 := Aside0.mk hb3; have hcell3 := htx.cell t1 TL.out; rw [← HX.out] at hcell3; clear htx hb3)
      refine (hE w3 k A cap n l k0 k1 n56 (Kd.C_below HRD.out B3.out) hcap H32.out HB.out).mono ?_
      rintro e w4 ⟨⟨b, rfl, hbf⟩, hb4⟩
      have B4 := Aside0.mk (below_step B3.out hb4)
      have X4 := Aside0.mk (X3.out.below hb4)
      have hcell4 := X4.out.cell t1 TL.out
      rw [← HX.out] at hcell4
      have HBF := Aside0.mk hbf
      clear hb4 hbf hcell3 X3
      cases b
      · have hcv : (convert 22 9 (.slice (some ⟨g, 0, none⟩) n c3)).run Try.prog w4 = .ok (.string (strOfNums (T.take n))) w4 := by
          have h := Kd.C_string (P := Try.prog) (w := w4) (c := c3) Try.underlying22 Try.underlying5 Try.underlying9 (X4.out.rds n (by rw [TLN.out]; omega))
          rwa [show (T.take n).length = n by rw [List.length_take, TLN.out]; omega] at h
        go_wp2_with fail
        have hbs : bytesOf (strOfNums (T.take n)) = T.take n := bytes_str (fun x hx => TB.out x (List.mem_of_mem_take hx))
        refine (implDecode_bad w4 k (strOfNums (T.take n)) (T.take n).length k0 k1 (by rw [hbs, HT.out]; exact cut_txt (pk_pref k0 k1) H32.out HB.out n) (by rw [hbs, HT.out]; exact cut_bad (pk_pref k0 k1) H32.out HB.out _ n n56 (HBF.out (by trivial)).1 (HBF.out (by trivial)).2)).mono ?_
        clear hbs hcv
        rintro e w5 ⟨rfl, hb5⟩
        have B5 := Aside0.mk (below_step B4.out hb5)
        have X5 := Aside0.mk (X4.out.below hb5)
        have hcell5 := X5.out.cell t1 TL.out
        rw [← HX.out] at hcell5
        clear hb5 hcell4 X4
        go_wp2_with fail
        refine (works_any _).mono ?_
        rintro e w9 ⟨rfl, hb9⟩
        have B9 := Aside0.mk (below_step B5.out hb9)
        clear hb9
        go_wp2
        go_ret
        exact ⟨rfl, B9.out⟩
      · go_wp2_with fail
        refine (works_any _).mono ?_
        rintro e w9 ⟨rfl, hb9⟩
        have B9 := Aside0.mk (below_step B4.out hb9)
        clear hb9
        go_wp2
        go_ret
        exact ⟨rfl, B9.out⟩
    · have hu3 : 56 ≤ u := by omega
      go_enter Try.func4, Try.ntmps4
      go_wp2_with fail
      refine (known_yes _ k k0 k1).mono ?_
      rintro e w1 ⟨rfl, hb1⟩
      have B1 := Aside0.mk hb1
      clear hb1
      go_wp2_with fail
      refine (spec_text w1 k A cap l k0 k1 (Kd.C_below HRD.out B1.out) hcap H32.out HB.out).mono ?_
      rintro e w2 ⟨rfl, hb2⟩
      have B2 := Aside0.mk (below_step B1.out hb2)
      clear hb2
      go_wp2_with ((with_reducible refine gate_dst (N := 31) rfl ?_); refine conv_bytes rfl (.tmp 30) rfl (strOfNums (keyL (pk k) l)) rfl 56 (HSZ.out) w B2.out ?_; intro g c3 w3 hc3 hgw htx hb3; rw [HST.out, ← HT.out] at htx; have X3 := Aside0.mk htx; have B3 := Aside0.mk hb3; have hcell3 := htx.cell t1 TL.out; rw [← HX.out] at hcell3; clear htx hb3)
      go_wp2_with fail
      refine (works_any _).mono ?_
      rintro e w9 ⟨rfl, hb9⟩
      have B9 := Aside0.mk (below_step B3.out hb9)
      clear hb9
      go_wp2
      go_ret
      exact ⟨rfl, B9.out⟩
  · have hu3 : u < 0 := by omega
    go_enter Try.func4, Try.ntmps4
    go_wp2_with fail
    refine (known_yes _ k k0 k1).mono ?_
    rintro e w1 ⟨rfl, hb1⟩
    have B1 := Aside0.mk hb1
    clear hb1
    go_wp2_with fail
    refine (spec_text w1 k A cap l k0 k1 (Kd.C_below HRD.out B1.out) hcap H32.out HB.out).mono ?_
    rintro e w2 ⟨rfl, hb2⟩
    have B2 := Aside0.mk (below_step B1.out hb2)
    clear hb2
    go_wp2_with ((with_reducible refine gate_dst (N := 31) rfl ?_); refine conv_bytes rfl (.tmp 30) rfl (strOfNums (keyL (pk k) l)) rfl 56 (HSZ.out) w B2.out ?_; intro g c3 w3 hc3 hgw htx hb3; rw [HST.out, ← HT.out] at htx; have X3 := Aside0.mk htx; have B3 := Aside0.mk hb3; have hcell3 := htx.cell t1 TL.out; rw [← HX.out] at hcell3; clear htx hb3)
    go_wp2_with fail
    refine (works_any _).mono ?_
    rintro e w9 ⟨rfl, hb9⟩
    have B9 := Aside0.mk (below_step B3.out hb9)
    clear hb9
    go_wp2
    go_ret
    exact ⟨rfl, B9.out⟩
set_option maxHeartbeats 1600000 in
set_option maxRecDepth 100000 in
theorem broken_big (hE : EndsLaw) (w : World) (k t c u : Int) (A : Option Addr) (cap : Nat) (l : List Int) (k0 : 0 ≤ k) (k1 : k < 6) (hrd : Rds w A l) (hcap : l.length ≤ cap) (h32 : l.length = 32) (hb : ∀ x ∈ l, 0 ≤ x ∧ x ≤ 255) (c0 : 0 ≤ c) (c255 : c ≤ 255) (ht0 : 0 ≤ t) (ht : 55 ≤ t) :
    Calls Try.prog 4 #[.int .i64 k, .slice A l.length cap, .int .i64 t, .int .u8 c, .int .i64 u] w fun e w' => e = .returned (.bool true) ∧ Below w.heap.size w w' := by
  have HRD := Aside0.mk hrd
  have HB := Aside0.mk hb
  have H32 := Aside0.mk h32
  have hbig : ¬ (2147483647 : Int) < l.length := by omega
  have e32 : ((l.length : Int) != 32) = false := by rw [h32]; rfl
  obtain ⟨t1, ht1⟩ : ∃ t1 : Nat, t1 = 0 := ⟨0, rfl⟩
  have ht55 : t1 < 55 := by omega
  clear ht1
  obtain ⟨T, hT⟩ : ∃ T, T = keyL (pk k) l := ⟨_, rfl⟩
  have HT := Aside0.mk hT
  have hTl : T.length = 56 := by rw [hT]; exact key_len (pk_pref k0 k1) h32 hb
  have TLN := Aside0.mk hTl
  have TL := Aside0.mk (show t1 < T.length by omega)
  have TB := Aside0.mk (show ∀ x ∈ T, 0 ≤ x ∧ x ≤ 255 by rw [hT]; exact (key_txt (pk_pref k0 k1) h32 hb).bytes)
  have HST := Aside0.mk (show bytesOf (strOfNums (keyL (pk k) l)) = keyL (pk k) l from bytes_str (key_txt (pk_pref k0 k1) h32 hb).bytes)
  have HSZ := Aside0.mk (show (strOfNums (keyL (pk k) l)).size = 56 by rw [strOfNums_size]; exact key_len (pk_pref k0 k1) h32 hb)
  obtain ⟨x, hxx⟩ : ∃ x, x = T.getD t1 0 := ⟨_, rfl⟩
  have HX := Aside0.mk hxx
  clear hrd hb h32 hT hTl hxx
  by_cases hu : 0 ≤ u
  · by_cases hu2 : u < 56
    · obtain ⟨n, rfl⟩ : ∃ n : Nat, u = n := ⟨u.toNat, by omega⟩
      have n56 : n < 56 := by omega
      go_enter Try.func4, Try.ntmps4
      go_wp2_with fail
      refine (known_yes _ k k0 k1).mono ?_
      rintro e w1 ⟨rfl, hb1⟩
      have B1 := Aside0.mk hb1
      clear hb1
      go_wp2_with fail
      refine (spec_text w1 k A cap l k0 k1 (Kd.C_below HRD.out B1.out) hcap H32.out HB.out).mono ?_
      rintro e w2 ⟨rfl, hb2⟩
      have B2 := Aside0.mk (below_step B1.out hb2)
      clear hb2
      go_wp2_with ((with_reducible refine gate_dst (N := 31) rfl ?_); refine conv_bytes rfl (.tmp 30) rfl (strOfNums (keyL (pk k) l)) rfl 56 (HSZ.out) w B2.out ?_; intro g c3 w3 hc3 hgw htx hb3; rw [HST.out, ← HT.out] at htx; have X3 := Aside0.mk htx; have B3 := Aside0.mk hb3; have hcell3 := htx.cell t1 TL.out; rw [← HX.out] at hcell3; clear htx hb3)
      refine (hE w3 k A cap n l k0 k1 n56 (Kd.C_below HRD.out B3.out) hcap H32.out HB.out).mono ?_
      rintro e w4 ⟨⟨b, rfl, hbf⟩, hb4⟩
      have B4 := Aside0.mk (below_step B3.out hb4)
      have X4 := Aside0.mk (X3.out.below hb4)
      have hcell4 := X4.out.cell t1 TL.out
      rw [← HX.out] at hcell4
      have HBF := Aside0.mk hbf
      clear hb4 hbf hcell3 X3
      cases b
      · have hcv : (convert 22 9 (.slice (some ⟨g, 0, none⟩) n c3)).run Try.prog w4 = .ok (.string (strOfNums (T.take n))) w4 := by
          have h := Kd.C_string (P := Try.prog) (w := w4) (c := c3) Try.underlying22 Try.underlying5 Try.underlying9 (X4.out.rds n (by rw [TLN.out]; omega))
          rwa [show (T.take n).length = n by rw [List.length_take, TLN.out]; omega] at h
        go_wp2_with fail
        have hbs : bytesOf (strOfNums (T.take n)) = T.take n := bytes_str (fun x hx => TB.out x (List.mem_of_mem_take hx))
        refine (implDecode_bad w4 k (strOfNums (T.take n)) (T.take n).length k0 k1 (by rw [hbs, HT.out]; exact cut_txt (pk_pref k0 k1) H32.out HB.out n) (by rw [hbs, HT.out]; exact cut_bad (pk_pref k0 k1) H32.out HB.out _ n n56 (HBF.out (by trivial)).1 (HBF.out (by trivial)).2)).mono ?_
        clear hbs hcv
        rintro e w5 ⟨rfl, hb5⟩
        have B5 := Aside0.mk (below_step B4.out hb5)
        have X5 := Aside0.mk (X4.out.below hb5)
        have hcell5 := X5.out.cell t1 TL.out
        rw [← HX.out] at hcell5
        clear hb5 hcell4 X4
        go_wp2_with fail
        refine (works_any _).mono ?_
        rintro e w9 ⟨rfl, hb9⟩
        have B9 := Aside0.mk (below_step B5.out hb9)
        clear hb9
        go_wp2
        go_ret
        exact ⟨rfl, B9.out⟩
      · go_wp2_with fail
        refine (works_any _).mono ?_
        rintro e w9 ⟨rfl, hb9⟩
        have B9 := Aside0.mk (below_step B4.out hb9)
        clear hb9
        go_wp2
        go_ret
        exact ⟨rfl, B9.out⟩
    · have hu3 : 56 ≤ u := by omega
      go_enter Try.func4, Try.ntmps4
      go_wp2_with fail
      refine (known_yes _ k k0 k1).mono ?_
      rintro e w1 ⟨rfl, hb1⟩
      have B1 := Aside0.mk hb1
      clear hb1
      go_wp2_with fail
      refine (spec_text w1 k A cap l k0 k1 (Kd.C_below HRD.out B1.out) hcap H32.out HB.out).mono ?_
      rintro e w2 ⟨rfl, hb2⟩
      have B2 := Aside0.mk (below_step B1.out hb2)
      clear hb2
      go_wp2_with ((with_reducible refine gate_dst (N := 31) rfl ?_); refine conv_bytes rfl (.tmp 30) rfl (strOfNums (keyL (pk k) l)) rfl 56 (HSZ.out) w B2.out ?_; intro g c3 w3 hc3 hgw htx hb3; rw [HST.out, ← HT.out] at htx; have X3 := Aside0.mk htx; have B3 := Aside0.mk hb3; have hcell3 := htx.cell t1 TL.out; rw [← HX.out] at hcell3; clear htx hb3)
      go_wp2_with fail
      refine (works_any _).mono ?_
      rintro e w9 ⟨rfl, hb9⟩
      have B9 := Aside0.mk (below_step B3.out hb9)
      clear hb9
      go_wp2
      go_ret
      exact ⟨rfl, B9.out⟩
  · have hu3 : u < 0 := by omega
    go_enter Try.func4, Try.ntmps4
    go_wp2_with fail
    refine (known_yes _ k k0 k1).mono ?_
    rintro e w1 ⟨rfl, hb1⟩
    have B1 := Aside0.mk hb1
    clear hb1
    go_wp2_with fail
    refine (spec_text w1 k A cap l k0 k1 (Kd.C_below HRD.out B1.out) hcap H32.out HB.out).mono ?_
    rintro e w2 ⟨rfl, hb2⟩
    have B2 := Aside0.mk (below_step B1.out hb2)
    clear hb2
    go_wp2_with ((with_reducible refine gate_dst (N := 31) rfl ?_); refine conv_bytes rfl (.tmp 30) rfl (strOfNums (keyL (pk k) l)) rfl 56 (HSZ.out) w B2.out ?_; intro g c3 w3 hc3 hgw htx hb3; rw [HST.out, ← HT.out] at htx; have X3 := Aside0.mk htx; have B3 := Aside0.mk hb3; have hcell3 := htx.cell t1 TL.out; rw [← HX.out] at hcell3; clear htx hb3)
    go_wp2_with fail
    refine (works_any _).mono ?_
    rintro e w9 ⟨rfl, hb9⟩
    have B9 := Aside0.mk (below_step B3.out hb9)
    clear hb9
    go_wp2
    go_ret
    exact ⟨rfl, B9.out⟩
set_option maxHeartbeats 1600000 in
set_option maxRecDepth 100000 in
theorem broken_same (hE : EndsLaw) (w : World) (k t c u : Int) (A : Option Addr) (cap : Nat) (l : List Int) (k0 : 0 ≤ k) (k1 : k < 6) (hrd : Rds w A l) (hcap : l.length ≤ cap) (h32 : l.length = 32) (hb : ∀ x ∈ l, 0 ≤ x ∧ x ≤ 255) (c0 : 0 ≤ c) (c255 : c ≤ 255) (t1 : Nat) (ht : t = t1) (ht55 : t1 < 55) (hx : (keyL (pk k) l).getD t1 0 = c) :
    Calls Try.prog 4 #[.int .i64 k, .slice A l.length cap, .int .i64 t, .int .u8 c, .int .i64 u] w fun e w' => e = .returned (.bool true) ∧ Below w.heap.size w w' := by
  have HRD := Aside0.mk hrd
  have HB := Aside0.mk hb
  have H32 := Aside0.mk h32
  have hbig : ¬ (2147483647 : Int) < l.length := by omega
  have e32 : ((l.length : Int) != 32) = false := by rw [h32]; rfl
  subst ht
  obtain ⟨T, hT⟩ : ∃ T, T = keyL (pk k) l := ⟨_, rfl⟩
  have HT := Aside0.mk hT
  have hTl : T.length = 56 := by rw [hT]; exact key_len (pk_pref k0 k1) h32 hb
  have TLN := Aside0.mk hTl
  have TL := Aside0.mk (show t1 < T.length by omega)
  have TB := Aside0.mk (show ∀ x ∈ T, 0 ≤ x ∧ x ≤ 255 by rw [hT]; exact (key_txt (pk_pref k0 k1) h32 hb).bytes)
  have HST := Aside0.mk (show bytesOf (strOfNums (keyL (pk k) l)) = keyL (pk k) l from bytes_str (key_txt (pk_pref k0 k1) h32 hb).bytes)
  have HSZ := Aside0.mk (show (strOfNums (keyL (pk k) l)).size = 56 by rw [strOfNums_size]; exact key_len (pk_pref k0 k1) h32 hb)
  obtain ⟨x, hxx⟩ : ∃ x, x = T.getD t1 0 := ⟨_, rfl⟩
  have HX := Aside0.mk hxx
  rw [← hT, ← hxx] at hx
  have ex : (x == c) = true := by rw [hx]; simp
  clear hx
  clear hrd hb h32 hT hTl hxx
  by_cases hu : 0 ≤ u
  · by_cases hu2 : u < 56
    · obtain ⟨n, rfl⟩ : ∃ n : Nat, u = n := ⟨u.toNat, by omega⟩
      have n56 : n < 56 := by omega
      go_enter Try.func4, Try.ntmps4
      go_wp2_with fail
      refine (known_yes _ k k0 k1).mono ?_
      rintro e w1 ⟨rfl, hb1⟩
      have B1 := Aside0.mk hb1
      clear hb1
      go_wp2_with fail
      refine (spec_text w1 k A cap l k0 k1 (Kd.C_below HRD.out B1.out) hcap H32.out HB.out).mono ?_
      rintro e w2 ⟨rfl, hb2⟩
      have B2 := Aside0.mk (below_step B1.out hb2)
      clear hb2
      go_wp2_with ((with_reducible refine gate_dst (N := 31) rfl ?_); refine conv_bytes rfl (.tmp 30) rfl (strOfNums (keyL (pk k) l)) rfl 56 (HSZ.out) w B2.out ?_; intro g c3 w3 hc3 hgw htx hb3; rw [HST.out, ← HT.out] at htx; have X3 := Aside0.mk htx; have B3 := Aside0.mk hb3; have hcell3 := htx.cell t1 TL.out; rw [← HX.out] at hcell3; clear htx hb3)
      refine (hE w3 k A cap n l k0 k1 n56 (Kd.C_below HRD.out B3.out) hcap H32.out HB.out).mono ?_
      rintro e w4 ⟨⟨b, rfl, hbf⟩, hb4⟩
      have B4 := Aside0.mk (below_step B3.out hb4)
      have X4 := Aside0.mk (X3.out.below hb4)
      have hcell4 := X4.out.cell t1 TL.out
      rw [← HX.out] at hcell4
      have HBF := Aside0.mk hbf
      clear hb4 hbf hcell3 X3
      cases b
      · have hcv : (convert 22 9 (.slice (some ⟨g, 0, none⟩) n c3)).run Try.prog w4 = .ok (.string (strOfNums (T.take n))) w4 := by
          have h := Kd.C_string (P := Try.prog) (w := w4) (c := c3) Try.underlying22 Try.underlying5 Try.underlying9 (X4.out.rds n (by rw [TLN.out]; omega))
          rwa [show (T.take n).length = n by rw [List.length_take, TLN.out]; omega] at h
        go_wp2_with fail
        have hbs : bytesOf (strOfNums (T.take n)) = T.take n := bytes_str (fun x hx => TB.out x (List.mem_of_mem_take hx))
        refine (implDecode_bad w4 k (strOfNums (T.take n)) (T.take n).length k0 k1 (by rw [hbs, HT.out]; exact cut_txt (pk_pref k0 k1) H32.out HB.out n) (by rw [hbs, HT.out]; exact cut_bad (pk_pref k0 k1) H32.out HB.out _ n n56 (HBF.out (by trivial)).1 (HBF.out (by trivial)).2)).mono ?_
        clear hbs hcv
        rintro e w5 ⟨rfl, hb5⟩
        have B5 := Aside0.mk (below_step B4.out hb5)
        have X5 := Aside0.mk (X4.out.below hb5)
        have hcell5 := X5.out.cell t1 TL.out
        rw [← HX.out] at hcell5
        clear hb5 hcell4 X4
        go_wp2_with fail
        refine (works_any _).mono ?_
        rintro e w9 ⟨rfl, hb9⟩
        have B9 := Aside0.mk (below_step B5.out hb9)
        clear hb9
        go_wp2
        go_ret
        exact ⟨rfl, B9.out⟩
      · go_wp2_with fail
        refine (works_any _).mono ?_
        rintro e w9 ⟨rfl, hb9⟩
        have B9 := Aside0.mk (below_step B4.out hb9)
        clear hb9
        go_wp2
        go_ret
        exact ⟨rfl, B9.out⟩
    · have hu3 : 56 ≤ u := by omega
      go_enter Try.func4, Try.ntmps4
      go_wp2_with fail
      refine (known_yes _ k k0 k1).mono ?_
      rintro e w1 ⟨rfl, hb1⟩
      have B1 := Aside0.mk hb1
      clear hb1
      go_wp2_with fail
      refine (spec_text w1 k A cap l k0 k1 (Kd.C_below HRD.out B1.out) hcap H32.out HB.out).mono ?_
      rintro e w2 ⟨rfl, hb2⟩
      have B2 := Aside0.mk (below_step B1.out hb2)
      clear hb2
      go_wp2_with ((with_reducible refine gate_dst (N := 31) rfl ?_); refine conv_bytes rfl (.tmp 30) rfl (strOfNums (keyL (pk k) l)) rfl 56 (HSZ.out) w B2.out ?_; intro g c3 w3 hc3 hgw htx hb3; rw [HST.out, ← HT.out] at htx; have X3 := Aside0.mk htx; have B3 := Aside0.mk hb3; have hcell3 := htx.cell t1 TL.out; rw [← HX.out] at hcell3; clear htx hb3)
      go_wp2_with fail
      refine (works_any _).mono ?_
      rintro e w9 ⟨rfl, hb9⟩
      have B9 := Aside0.mk (below_step B3.out hb9)
      clear hb9
      go_wp2
      go_ret
      exact ⟨rfl, B9.out⟩
  · have hu3 : u < 0 := by omega
    go_enter Try.func4, Try.ntmps4
    go_wp2_with fail
    refine (known_yes _ k k0 k1).mono ?_
    rintro e w1 ⟨rfl, hb1⟩
    have B1 := Aside0.mk hb1
    clear hb1
    go_wp2_with fail
    refine (spec_text w1 k A cap l k0 k1 (Kd.C_below HRD.out B1.out) hcap H32.out HB.out).mono ?_
    rintro e w2 ⟨rfl, hb2⟩
    have B2 := Aside0.mk (below_step B1.out hb2)
    clear hb2
    go_wp2_with ((with_reducible refine gate_dst (N := 31) rfl ?_); refine conv_bytes rfl (.tmp 30) rfl (strOfNums (keyL (pk k) l)) rfl 56 (HSZ.out) w B2.out ?_; intro g c3 w3 hc3 hgw htx hb3; rw [HST.out, ← HT.out] at htx; have X3 := Aside0.mk htx; have B3 := Aside0.mk hb3; have hcell3 := htx.cell t1 TL.out; rw [← HX.out] at hcell3; clear htx hb3)
    go_wp2_with fail
    refine (works_any _).mono ?_
    rintro e w9 ⟨rfl, hb9⟩
    have B9 := Aside0.mk (below_step B3.out hb9)
    clear hb9
    go_wp2
    go_ret
    exact ⟨rfl, B9.out⟩
set_option maxHeartbeats 1600000 in
set_option maxRecDepth 100000 in
theorem broken_lf (hE : EndsLaw) (w : World) (k t c u : Int) (A : Option Addr) (cap : Nat) (l : List Int) (k0 : 0 ≤ k) (k1 : k < 6) (hrd : Rds w A l) (hcap : l.length ≤ cap) (h32 : l.length = 32) (hb : ∀ x ∈ l, 0 ≤ x ∧ x ≤ 255) (c0 : 0 ≤ c) (c255 : c ≤ 255) (t1 : Nat) (ht : t = t1) (ht55 : t1 < 55) (hx : (keyL (pk k) l).getD t1 0 ≠ c) (hc : c = 10) :
    Calls Try.prog 4 #[.int .i64 k, .slice A l.length cap, .int .i64 t, .int .u8 c, .int .i64 u] w fun e w' => e = .returned (.bool true) ∧ Below w.heap.size w w' := by
  have HRD := Aside0.mk hrd
  have HB := Aside0.mk hb
  have H32 := Aside0.mk h32
  have hbig : ¬ (2147483647 : Int) < l.length := by omega
  have e32 : ((l.length : Int) != 32) = false := by rw [h32]; rfl
  subst ht
  obtain ⟨T, hT⟩ : ∃ T, T = keyL (pk k) l := ⟨_, rfl⟩
  have HT := Aside0.mk hT
  have hTl : T.length = 56 := by rw [hT]; exact key_len (pk_pref k0 k1) h32 hb
  have TLN := Aside0.mk hTl
  have TL := Aside0.mk (show t1 < T.length by omega)
  have TB := Aside0.mk (show ∀ x ∈ T, 0 ≤ x ∧ x ≤ 255 by rw [hT]; exact (key_txt (pk_pref k0 k1) h32 hb).bytes)
  have HST := Aside0.mk (show bytesOf (strOfNums (keyL (pk k) l)) = keyL (pk k) l from bytes_str (key_txt (pk_pref k0 k1) h32 hb).bytes)
  have HSZ := Aside0.mk (show (strOfNums (keyL (pk k) l)).size = 56 by rw [strOfNums_size]; exact key_len (pk_pref k0 k1) h32 hb)
  obtain ⟨x, hxx⟩ : ∃ x, x = T.getD t1 0 := ⟨_, rfl⟩
  have HX := Aside0.mk hxx
  rw [← hT, ← hxx] at hx
  have ex : (x == c) = false := by rw [beq_eq_false_iff_ne]; exact hx
  clear hx
  have e10 : (c == 10) = true := by rw [hc]; rfl
  clear hc
  clear hrd hb h32 hT hTl hxx
  by_cases hu : 0 ≤ u
  · by_cases hu2 : u < 56
    · obtain ⟨n, rfl⟩ : ∃ n : Nat, u = n := ⟨u.toNat, by omega⟩
      have n56 : n < 56 := by omega
      go_enter Try.func4, Try.ntmps4
      go_wp2_with fail
      refine (known_yes _ k k0 k1).mono ?_
      rintro e w1 ⟨rfl, hb1⟩
      have B1 := Aside0.mk hb1
      clear hb1
      go_wp2_with fail
      refine (spec_text w1 k A cap l k0 k1 (Kd.C_below HRD.out B1.out) hcap H32.out HB.out).mono ?_
      rintro e w2 ⟨rfl, hb2⟩
      have B2 := Aside0.mk (below_step B1.out hb2)
      clear hb2
      go_wp2_with ((with_reducible refine gate_dst (N := 31) rfl ?_); refine conv_bytes rfl (.tmp 30) rfl (strOfNums (keyL (pk k) l)) rfl 56 (HSZ.out) w B2.out ?_; intro g c3 w3 hc3 hgw htx hb3; rw [HST.out, ← HT.out] at htx; have X3 := Aside0.mk htx; have B3 := Aside0.mk hb3; have hcell3 := htx.cell t1 TL.out; rw [← HX.out] at hcell3; clear htx hb3)
      refine (hE w3 k A cap n l k0 k1 n56 (Kd.C_below HRD.out B3.out) hcap H32.out HB.out).mono ?_
      rintro e w4 ⟨⟨b, rfl, hbf⟩, hb4⟩
      have B4 := Aside0.mk (below_step B3.out hb4)
      have X4 := Aside0.mk (X3.out.below hb4)
      have hcell4 := X4.out.cell t1 TL.out
      rw [← HX.out] at hcell4
      have HBF := Aside0.mk hbf
      clear hb4 hbf hcell3 X3
      cases b
      · have hcv : (convert 22 9 (.slice (some ⟨g, 0, none⟩) n c3)).run Try.prog w4 = .ok (.string (strOfNums (T.take n))) w4 := by
          have h := Kd.C_string (P := Try.prog) (w := w4) (c := c3) Try.underlying22 Try.underlying5 Try.underlying9 (X4.out.rds n (by rw [TLN.out]; omega))
          rwa [show (T.take n).length = n by rw [List.length_take, TLN.out]; omega] at h
        go_wp2_with fail
        have hbs : bytesOf (strOfNums (T.take n)) = T.take n := bytes_str (fun x hx => TB.out x (List.mem_of_mem_take hx))
        refine (implDecode_bad w4 k (strOfNums (T.take n)) (T.take n).length k0 k1 (by rw [hbs, HT.out]; exact cut_txt (pk_pref k0 k1) H32.out HB.out n) (by rw [hbs, HT.out]; exact cut_bad (pk_pref k0 k1) H32.out HB.out _ n n56 (HBF.out (by trivial)).1 (HBF.out (by trivial)).2)).mono ?_
        clear hbs hcv
        rintro e w5 ⟨rfl, hb5⟩
        have B5 := Aside0.mk (below_step B4.out hb5)
        have X5 := Aside0.mk (X4.out.below hb5)
        have hcell5 := X5.out.cell t1 TL.out
        rw [← HX.out] at hcell5
        clear hb5 hcell4 X4
        go_wp2_with fail
        refine (works_any _).mono ?_
        rintro e w9 ⟨rfl, hb9⟩
        have B9 := Aside0.mk (below_step B5.out hb9)
        clear hb9
        go_wp2
        go_ret
        exact ⟨rfl, B9.out⟩
      · go_wp2_with fail
        refine (works_any _).mono ?_
        rintro e w9 ⟨rfl, hb9⟩
        have B9 := Aside0.mk (below_step B4.out hb9)
        clear hb9
        go_wp2
        go_ret
        exact ⟨rfl, B9.out⟩
    · have hu3 : 56 ≤ u := by omega
      go_enter Try.func4, Try.ntmps4
      go_wp2_with fail
      refine (known_yes _ k k0 k1).mono ?_
      rintro e w1 ⟨rfl, hb1⟩
      have B1 := Aside0.mk hb1
      clear hb1
      go_wp2_with fail
      refine (spec_text w1 k A cap l k0 k1 (Kd.C_below HRD.out B1.out) hcap H32.out HB.out).mono ?_
      rintro e w2 ⟨rfl, hb2⟩
      have B2 := Aside0.mk (below_step B1.out hb2)
      clear hb2
      go_wp2_with ((with_reducible refine gate_dst (N := 31) rfl ?_); refine conv_bytes rfl (.tmp 30) rfl (strOfNums (keyL (pk k) l)) rfl 56 (HSZ.out) w B2.out ?_; intro g c3 w3 hc3 hgw htx hb3; rw [HST.out, ← HT.out] at htx; have X3 := Aside0.mk htx; have B3 := Aside0.mk hb3; have hcell3 := htx.cell t1 TL.out; rw [← HX.out] at hcell3; clear htx hb3)
      go_wp2_with fail
      refine (works_any _).mono ?_
      rintro e w9 ⟨rfl, hb9⟩
      have B9 := Aside0.mk (below_step B3.out hb9)
      clear hb9
      go_wp2
      go_ret
      exact ⟨rfl, B9.out⟩
  · have hu3 : u < 0 := by omega
    go_enter Try.func4, Try.ntmps4
    go_wp2_with fail
    refine (known_yes _ k k0 k1).mono ?_
    rintro e w1 ⟨rfl, hb1⟩
    have B1 := Aside0.mk hb1
    clear hb1
    go_wp2_with fail
    refine (spec_text w1 k A cap l k0 k1 (Kd.C_below HRD.out B1.out) hcap H32.out HB.out).mono ?_
    rintro e w2 ⟨rfl, hb2⟩
    have B2 := Aside0.mk (below_step B1.out hb2)
    clear hb2
    go_wp2_with ((with_reducible refine gate_dst (N := 31) rfl ?_); refine conv_bytes rfl (.tmp 30) rfl (strOfNums (keyL (pk k) l)) rfl 56 (HSZ.out) w B2.out ?_; intro g c3 w3 hc3 hgw htx hb3; rw [HST.out, ← HT.out] at htx; have X3 := Aside0.mk htx; have B3 := Aside0.mk hb3; have hcell3 := htx.cell t1 TL.out; rw [← HX.out] at hcell3; clear htx hb3)
    go_wp2_with fail
    refine (works_any _).mono ?_
    rintro e w9 ⟨rfl, hb9⟩
    have B9 := Aside0.mk (below_step B3.out hb9)
    clear hb9
    go_wp2
    go_ret
    exact ⟨rfl, B9.out⟩
set_option maxHeartbeats 1600000 in
set_option maxRecDepth 100000 in
theorem broken_cr (hE : EndsLaw) (w : World) (k t c u : Int) (A : Option Addr) (cap : Nat) (l : List Int) (k0 : 0 ≤ k) (k1 : k < 6) (hrd : Rds w A l) (hcap : l.length ≤ cap) (h32 : l.length = 32) (hb : ∀ x ∈ l, 0 ≤ x ∧ x ≤ 255) (c0 : 0 ≤ c) (c255 : c ≤ 255) (t1 : Nat) (ht : t = t1) (ht55 : t1 < 55) (hx : (keyL (pk k) l).getD t1 0 ≠ c) (hc : c = 13) :
    Calls Try.prog 4 #[.int .i64 k, .slice A l.length cap, .int .i64 t, .int .u8 c, .int .i64 u] w fun e w' => e = .returned (.bool true) ∧ Below w.heap.size w w' := by
  have HRD := Aside0.mk hrd
  have HB := Aside0.mk hb
  have H32 := Aside0.mk h32
  have hbig : ¬ (2147483647 : Int) < l.length := by omega
  have e32 : ((l.length : Int) != 32) = false := by rw [h32]; rfl
  subst ht
  obtain ⟨T, hT⟩ : ∃ T, T = keyL (pk k) l := ⟨_, rfl⟩
  have HT := Aside0.mk hT
  have hTl : T.length = 56 := by rw [hT]; exact key_len (pk_pref k0 k1) h32 hb
  have TLN := Aside0.mk hTl
  have TL := Aside0.mk (show t1 < T.length by omega)
  have TB := Aside0.mk (show ∀ x ∈ T, 0 ≤ x ∧ x ≤ 255 by rw [hT]; exact (key_txt (pk_pref k0 k1) h32 hb).bytes)
  have HST := Aside0.mk (show bytesOf (strOfNums (keyL (pk k) l)) = keyL (pk k) l from bytes_str (key_txt (pk_pref k0 k1) h32 hb).bytes)
  have HSZ := Aside0.mk (show (strOfNums (keyL (pk k) l)).size = 56 by rw [strOfNums_size]; exact key_len (pk_pref k0 k1) h32 hb)
  obtain ⟨x, hxx⟩ : ∃ x, x = T.getD t1 0 := ⟨_, rfl⟩
  have HX := Aside0.mk hxx
  rw [← hT, ← hxx] at hx
  have ex : (x == c) = false := by rw [beq_eq_false_iff_ne]; exact hx
  clear hx
  have e10 : (c == 10) = false := by rw [hc]; rfl
  have e13 : (c == 13) = true := by rw [hc]; rfl
  clear hc
  clear hrd hb h32 hT hTl hxx
  by_cases hu : 0 ≤ u
  · by_cases hu2 : u < 56
    · obtain ⟨n, rfl⟩ : ∃ n : Nat, u = n := ⟨u.toNat, by omega⟩
      have n56 : n < 56 := by omega
      go_enter Try.func4, Try.ntmps4
      go_wp2_with fail
      refine (known_yes _ k k0 k1).mono ?_
      rintro e w1 ⟨rfl, hb1⟩
      have B1 := Aside0.mk hb1
      clear hb1
      go_wp2_with fail
      refine (spec_text w1 k A cap l k0 k1 (Kd.C_below HRD.out B1.out) hcap H32.out HB.out).mono ?_
      rintro e w2 ⟨rfl, hb2⟩
      have B2 := Aside0.mk (below_step B1.out hb2)
      clear hb2
      go_wp2_with ((with_reducible refine gate_dst (N := 31) rfl ?_); refine conv_bytes rfl (.tmp 30) rfl (strOfNums (keyL (pk k) l)) rfl 56 (HSZ.out) w B2.out ?_; intro g c3 w3 hc3 hgw htx hb3; rw [HST.out, ← HT.out] at htx; have X3 := Aside0.mk htx; have B3 := Aside0.mk hb3; have hcell3 := htx.cell t1 TL.out; rw [← HX.out] at hcell3; clear htx hb3)
      refine (hE w3 k A cap n l k0 k1 n56 (Kd.C_below HRD.out B3.out) hcap H32.out HB.out).mono ?_
      rintro e w4 ⟨⟨b, rfl, hbf⟩, hb4⟩
      have B4 := Aside0.mk (below_step B3.out hb4)
      have X4 := Aside0.mk (X3.out.below hb4)
      have hcell4 := X4.out.cell t1 TL.out
      rw [← HX.out] at hcell4
      have HBF := Aside0.mk hbf
      clear hb4 hbf hcell3 X3
      cases b
      · have hcv : (convert 22 9 (.slice (some ⟨g, 0, none⟩) n c3)).run Try.prog w4 = .ok (.string (strOfNums (T.take n))) w4 := by
          have h := Kd.C_string (P := Try.prog) (w := w4) (c := c3) Try.underlying22 Try.underlying5 Try.underlying9 (X4.out.rds n (by rw [TLN.out]; omega))
          rwa [show (T.take n).length = n by rw [List.length_take, TLN.out]; omega] at h
        go_wp2_with fail
        have hbs : bytesOf (strOfNums (T.take n)) = T.take n := bytes_str (fun x hx => TB.out x (List.mem_of_mem_take hx))
        refine (implDecode_bad w4 k (strOfNums (T.take n)) (T.take n).length k0 k1 (by rw [hbs, HT.out]; exact cut_txt (pk_pref k0 k1) H32.out HB.out n) (by rw [hbs, HT.out]; exact cut_bad (pk_pref k0 k1) H32.out HB.out _ n n56 (HBF.out (by trivial)).1 (HBF.out (by trivial)).2)).mono ?_
        clear hbs hcv
        rintro e w5 ⟨rfl, hb5⟩
        have B5 := Aside0.mk (below_step B4.out hb5)
        have X5 := Aside0.mk (X4.out.below hb5)
        have hcell5 := X5.out.cell t1 TL.out
        rw [← HX.out] at hcell5
        clear hb5 hcell4 X4
        go_wp2_with fail
        refine (works_any _).mono ?_
        rintro e w9 ⟨rfl, hb9⟩
        have B9 := Aside0.mk (below_step B5.out hb9)
        clear hb9
        go_wp2
        go_ret
        exact ⟨rfl, B9.out⟩
      · go_wp2_with fail
        refine (works_any _).mono ?_
        rintro e w9 ⟨rfl, hb9⟩
        have B9 := Aside0.mk (below_step B4.out hb9)
        clear hb9
        go_wp2
        go_ret
        exact ⟨rfl, B9.out⟩
    · have hu3 : 56 ≤ u := by omega
      go_enter Try.func4, Try.ntmps4
      go_wp2_with fail
      refine (known_yes _ k k0 k1).mono ?_
      rintro e w1 ⟨rfl, hb1⟩
      have B1 := Aside0.mk hb1
      clear hb1
      go_wp2_with fail
      refine (spec_text w1 k A cap l k0 k1 (Kd.C_below HRD.out B1.out) hcap H32.out HB.out).mono ?_
      rintro e w2 ⟨rfl, hb2⟩
      have B2 := Aside0.mk (below_step B1.out hb2)
      clear hb2
      go_wp2_with ((with_reducible refine gate_dst (N := 31) rfl ?_); refine conv_bytes rfl (.tmp 30) rfl (strOfNums (keyL (pk k) l)) rfl 56 (HSZ.out) w B2.out ?_; intro g c3 w3 hc3 hgw htx hb3; rw [HST.out, ← HT.out] at htx; have X3 := Aside0.mk htx; have B3 := Aside0.mk hb3; have hcell3 := htx.cell t1 TL.out; rw [← HX.out] at hcell3; clear htx hb3)
      go_wp2_with fail
      refine (works_any _).mono ?_
      rintro e w9 ⟨rfl, hb9⟩
      have B9 := Aside0.mk (below_step B3.out hb9)
      clear hb9
      go_wp2
      go_ret
      exact ⟨rfl, B9.out⟩
  · have hu3 : u < 0 := by omega
    go_enter Try.func4, Try.ntmps4
    go_wp2_with fail
    refine (known_yes _ k k0 k1).mono ?_
    rintro e w1 ⟨rfl, hb1⟩
    have B1 := Aside0.mk hb1
    clear hb1
    go_wp2_with fail
    refine (spec_text w1 k A cap l k0 k1 (Kd.C_below HRD.out B1.out) hcap H32.out HB.out).mono ?_
    rintro e w2 ⟨rfl, hb2⟩
    have B2 := Aside0.mk (below_step B1.out hb2)
    clear hb2
    go_wp2_with ((with_reducible refine gate_dst (N := 31) rfl ?_); refine conv_bytes rfl (.tmp 30) rfl (strOfNums (keyL (pk k) l)) rfl 56 (HSZ.out) w B2.out ?_; intro g c3 w3 hc3 hgw htx hb3; rw [HST.out, ← HT.out] at htx; have X3 := Aside0.mk htx; have B3 := Aside0.mk hb3; have hcell3 := htx.cell t1 TL.out; rw [← HX.out] at hcell3; clear htx hb3)
    go_wp2_with fail
    refine (works_any _).mono ?_
    rintro e w9 ⟨rfl, hb9⟩
    have B9 := Aside0.mk (below_step B3.out hb9)
    clear hb9
    go_wp2
    go_ret
    exact ⟨rfl, B9.out⟩
set_option maxHeartbeats 1600000 in
set_option maxRecDepth 100000 in
theorem broken_change (hE : EndsLaw) (w : World) (k t c u : Int) (A : Option Addr) (cap : Nat) (l : List Int) (k0 : 0 ≤ k) (k1 : k < 6) (hrd : Rds w A l) (hcap : l.length ≤ cap) (h32 : l.length = 32) (hb : ∀ x ∈ l, 0 ≤ x ∧ x ≤ 255) (c0 : 0 ≤ c) (c255 : c ≤ 255) (t1 : Nat) (ht : t = t1) (ht55 : t1 < 55) (hx : (keyL (pk k) l).getD t1 0 ≠ c) (h10 : c ≠ 10) (h13 : c ≠ 13) :
    Calls Try.prog 4 #[.int .i64 k, .slice A l.length cap, .int .i64 t, .int .u8 c, .int .i64 u] w fun e w' => e = .returned (.bool true) ∧ Below w.heap.size w w' := by
  have HRD := Aside0.mk hrd
  have HB := Aside0.mk hb
  have H32 := Aside0.mk h32
  have hbig : ¬ (2147483647 : Int) < l.length := by omega
  have e32 : ((l.length : Int) != 32) = false := by rw [h32]; rfl
  subst ht
  have HSET := Aside0.mk (set_txt (pk_pref k0 k1) h32 hb t1 ht55 c ⟨c0, c255⟩ h10 h13 hx)
  obtain ⟨T, hT⟩ : ∃ T, T = keyL (pk k) l := ⟨_, rfl⟩
  have HT := Aside0.mk hT
  have hTl : T.length = 56 := by rw [hT]; exact key_len (pk_pref k0 k1) h32 hb
  have TLN := Aside0.mk hTl
  have TL := Aside0.mk (show t1 < T.length by omega)
  have TB := Aside0.mk (show ∀ x ∈ T, 0 ≤ x ∧ x ≤ 255 by rw [hT]; exact (key_txt (pk_pref k0 k1) h32 hb).bytes)
  have HST := Aside0.mk (show bytesOf (strOfNums (keyL (pk k) l)) = keyL (pk k) l from bytes_str (key_txt (pk_pref k0 k1) h32 hb).bytes)
  have HSZ := Aside0.mk (show (strOfNums (keyL (pk k) l)).size = 56 by rw [strOfNums_size]; exact key_len (pk_pref k0 k1) h32 hb)
  obtain ⟨x, hxx⟩ : ∃ x, x = T.getD t1 0 := ⟨_, rfl⟩
  have HX := Aside0.mk hxx
  rw [← hT, ← hxx] at hx
  rw [← hT] at HSET
  have ex : (x == c) = false := by rw [beq_eq_false_iff_ne]; exact hx
  clear hx
  have e10 : (c == 10) = false := by rw [beq_eq_false_iff_ne]; exact h10
  have e13 : (c == 13) = false := by rw [beq_eq_false_iff_ne]; exact h13
  clear h10 h13
  clear hrd hb h32 hT hTl hxx
  by_cases hu : 0 ≤ u
  · by_cases hu2 : u < 56
    · obtain ⟨n, rfl⟩ : ∃ n : Nat, u = n := ⟨u.toNat, by omega⟩
      have n56 : n < 56 := by omega
      go_enter Try.func4, Try.ntmps4
      go_wp2_with fail
      refine (known_yes _ k k0 k1).mono ?_
      rintro e w1 ⟨rfl, hb1⟩
      have B1 := Aside0.mk hb1
      clear hb1
      go_wp2_with fail
      refine (spec_text w1 k A cap l k0 k1 (Kd.C_below HRD.out B1.out) hcap H32.out HB.out).mono ?_
      rintro e w2 ⟨rfl, hb2⟩
      have B2 := Aside0.mk (below_step B1.out hb2)
      clear hb2
      go_wp2_with ((with_reducible refine gate_dst (N := 31) rfl ?_); refine conv_bytes rfl (.tmp 30) rfl (strOfNums (keyL (pk k) l)) rfl 56 (HSZ.out) w B2.out ?_; intro g c3 w3 hc3 hgw htx hb3; rw [HST.out, ← HT.out] at htx; have X3 := Aside0.mk htx; have B3 := Aside0.mk hb3; have hcell3 := htx.cell t1 TL.out; rw [← HX.out] at hcell3; clear htx hb3)
      refine (hE w3 k A cap n l k0 k1 n56 (Kd.C_below HRD.out B3.out) hcap H32.out HB.out).mono ?_
      rintro e w4 ⟨⟨b, rfl, hbf⟩, hb4⟩
      have B4 := Aside0.mk (below_step B3.out hb4)
      have X4 := Aside0.mk (X3.out.below hb4)
      have hcell4 := X4.out.cell t1 TL.out
      rw [← HX.out] at hcell4
      have HBF := Aside0.mk hbf
      clear hb4 hbf hcell3 X3
      cases b
      · have hcv : (convert 22 9 (.slice (some ⟨g, 0, none⟩) n c3)).run Try.prog w4 = .ok (.string (strOfNums (T.take n))) w4 := by
          have h := Kd.C_string (P := Try.prog) (w := w4) (c := c3) Try.underlying22 Try.underlying5 Try.underlying9 (X4.out.rds n (by rw [TLN.out]; omega))
          rwa [show (T.take n).length = n by rw [List.length_take, TLN.out]; omega] at h
        go_wp2_with fail
        have hbs : bytesOf (strOfNums (T.take n)) = T.take n := bytes_str (fun x hx => TB.out x (List.mem_of_mem_take hx))
        refine (implDecode_bad w4 k (strOfNums (T.take n)) (T.take n).length k0 k1 (by rw [hbs, HT.out]; exact cut_txt (pk_pref k0 k1) H32.out HB.out n) (by rw [hbs, HT.out]; exact cut_bad (pk_pref k0 k1) H32.out HB.out _ n n56 (HBF.out (by trivial)).1 (HBF.out (by trivial)).2)).mono ?_
        clear hbs hcv
        rintro e w5 ⟨rfl, hb5⟩
        have B5 := Aside0.mk (below_step B4.out hb5)
        have X5 := Aside0.mk (X4.out.below hb5)
        have hcell5 := X5.out.cell t1 TL.out
        rw [← HX.out] at hcell5
        clear hb5 hcell4 X4
        have hf := X5.out.frozen t1 TL.out
        have X8 := Aside0.mk (X5.out.put t1 TL.out c)
        have B8 := Aside0.mk (B5.out.setCell (p := ⟨g, t1, none⟩) hgw (.int .u8 c))
        have hcv8 : (convert 22 9 (.slice (some ⟨g, 0, none⟩) 56 c3)).run Try.prog (w5.setCell ⟨g, t1, none⟩ (.int .u8 c)) = .ok (.string (strOfNums (T.set t1 c))) (w5.setCell ⟨g, t1, none⟩ (.int .u8 c)) := by
          have h := Kd.C_string (P := Try.prog) (c := c3) Try.underlying22 Try.underlying5 Try.underlying9 (X8.out.rds 56 (by rw [List.length_set, TLN.out]; omega))
          rw [show (T.set t1 c).take 56 = T.set t1 c from List.take_of_length_le (by rw [List.length_set, TLN.out]; omega)] at h
          rwa [show (T.set t1 c).length = 56 by rw [List.length_set, TLN.out]] at h
        go_wp2_with fail
        obtain ⟨p, htxt, hbad⟩ := HSET.out (pk k)
        have hbs : bytesOf (strOfNums (T.set t1 c)) = T.set t1 c := bytes_str htxt.bytes
        refine (implDecode_bad _ k (strOfNums (T.set t1 c)) p k0 k1 (by rw [hbs]; exact htxt) (by rw [hbs]; exact hbad)).mono ?_
        clear hbs htxt hbad hcv8
        rintro e w8 ⟨rfl, hb8⟩
        have B88 := Aside0.mk (below_step B8.out hb8)
        clear hb8
        go_wp2_with fail
        refine (works_any _).mono ?_
        rintro e w9 ⟨rfl, hb9⟩
        have B9 := Aside0.mk (below_step B88.out hb9)
        clear hb9
        go_wp2
        go_ret
        exact ⟨rfl, B9.out⟩
      · have hf := X4.out.frozen t1 TL.out
        have X8 := Aside0.mk (X4.out.put t1 TL.out c)
        have B8 := Aside0.mk (B4.out.setCell (p := ⟨g, t1, none⟩) hgw (.int .u8 c))
        have hcv8 : (convert 22 9 (.slice (some ⟨g, 0, none⟩) 56 c3)).run Try.prog (w4.setCell ⟨g, t1, none⟩ (.int .u8 c)) = .ok (.string (strOfNums (T.set t1 c))) (w4.setCell ⟨g, t1, none⟩ (.int .u8 c)) := by
          have h := Kd.C_string (P := Try.prog) (c := c3) Try.underlying22 Try.underlying5 Try.underlying9 (X8.out.rds 56 (by rw [List.length_set, TLN.out]; omega))
          rw [show (T.set t1 c).take 56 = T.set t1 c from List.take_of_length_le (by rw [List.length_set, TLN.out]; omega)] at h
          rwa [show (T.set t1 c).length = 56 by rw [List.length_set, TLN.out]] at h
        go_wp2_with fail
        obtain ⟨p, htxt, hbad⟩ := HSET.out (pk k)
        have hbs : bytesOf (strOfNums (T.set t1 c)) = T.set t1 c := bytes_str htxt.bytes
        refine (implDecode_bad _ k (strOfNums (T.set t1 c)) p k0 k1 (by rw [hbs]; exact htxt) (by rw [hbs]; exact hbad)).mono ?_
        clear hbs htxt hbad hcv8
        rintro e w8 ⟨rfl, hb8⟩
        have B88 := Aside0.mk (below_step B8.out hb8)
        clear hb8
        go_wp2_with fail
        refine (works_any _).mono ?_
        rintro e w9 ⟨rfl, hb9⟩
        have B9 := Aside0.mk (below_step B88.out hb9)
        clear hb9
        go_wp2
        go_ret
        exact ⟨rfl, B9.out⟩
    · have hu3 : 56 ≤ u := by omega
      go_enter Try.func4, Try.ntmps4
      go_wp2_with fail
      refine (known_yes _ k k0 k1).mono ?_
      rintro e w1 ⟨rfl, hb1⟩
      have B1 := Aside0.mk hb1
      clear hb1
      go_wp2_with fail
      refine (spec_text w1 k A cap l k0 k1 (Kd.C_below HRD.out B1.out) hcap H32.out HB.out).mono ?_
      rintro e w2 ⟨rfl, hb2⟩
      have B2 := Aside0.mk (below_step B1.out hb2)
      clear hb2
      go_wp2_with ((with_reducible refine gate_dst (N := 31) rfl ?_); refine conv_bytes rfl (.tmp 30) rfl (strOfNums (keyL (pk k) l)) rfl 56 (HSZ.out) w B2.out ?_; intro g c3 w3 hc3 hgw htx hb3; rw [HST.out, ← HT.out] at htx; have X3 := Aside0.mk htx; have B3 := Aside0.mk hb3; have hcell3 := htx.cell t1 TL.out; rw [← HX.out] at hcell3; clear htx hb3; have hf := X3.out.frozen t1 TL.out; have X8 := Aside0.mk (X3.out.put t1 TL.out c); have B8 := Aside0.mk (B3.out.setCell (p := ⟨g, t1, none⟩) hgw (.int .u8 c)); have hcv8 : (convert 22 9 (.slice (some ⟨g, 0, none⟩) 56 c3)).run Try.prog (w3.setCell ⟨g, t1, none⟩ (.int .u8 c)) = .ok (.string (strOfNums (T.set t1 c))) (w3.setCell ⟨g, t1, none⟩ (.int .u8 c)) := (by have h := Kd.C_string (P := Try.prog) (c := c3) Try.underlying22 Try.underlying5 Try.underlying9 (X8.out.rds 56 (by rw [List.length_set, TLN.out]; omega)); rw [show (T.set t1 c).take 56 = T.set t1 c from List.take_of_length_le (by rw [List.length_set, TLN.out]; omega)] at h; rwa [show (T.set t1 c).length = 56 by rw [List.length_set, TLN.out]] at h))
      obtain ⟨p, htxt, hbad⟩ := HSET.out (pk k)
      have hbs : bytesOf (strOfNums (T.set t1 c)) = T.set t1 c := bytes_str htxt.bytes
      refine (implDecode_bad _ k (strOfNums (T.set t1 c)) p k0 k1 (by rw [hbs]; exact htxt) (by rw [hbs]; exact hbad)).mono ?_
      clear hbs htxt hbad hcv8
      rintro e w8 ⟨rfl, hb8⟩
      have B88 := Aside0.mk (below_step B8.out hb8)
      clear hb8
      go_wp2_with fail
      refine (works_any _).mono ?_
      rintro e w9 ⟨rfl, hb9⟩
      have B9 := Aside0.mk (below_step B88.out hb9)
      clear hb9
      go_wp2
      go_ret
      exact ⟨rfl, B9.out⟩
  · have hu3 : u < 0 := by omega
    go_enter Try.func4, Try.ntmps4
    go_wp2_with fail
    refine (known_yes _ k k0 k1).mono ?_
    rintro e w1 ⟨rfl, hb1⟩
    have B1 := Aside0.mk hb1
    clear hb1
    go_wp2_with fail
    refine (spec_text w1 k A cap l k0 k1 (Kd.C_below HRD.out B1.out) hcap H32.out HB.out).mono ?_
    rintro e w2 ⟨rfl, hb2⟩
    have B2 := Aside0.mk (below_step B1.out hb2)
    clear hb2
    go_wp2_with ((with_reducible refine gate_dst (N := 31) rfl ?_); refine conv_bytes rfl (.tmp 30) rfl (strOfNums (keyL (pk k) l)) rfl 56 (HSZ.out) w B2.out ?_; intro g c3 w3 hc3 hgw htx hb3; rw [HST.out, ← HT.out] at htx; have X3 := Aside0.mk htx; have B3 := Aside0.mk hb3; have hcell3 := htx.cell t1 TL.out; rw [← HX.out] at hcell3; clear htx hb3; have hf := X3.out.frozen t1 TL.out; have X8 := Aside0.mk (X3.out.put t1 TL.out c); have B8 := Aside0.mk (B3.out.setCell (p := ⟨g, t1, none⟩) hgw (.int .u8 c)); have hcv8 : (convert 22 9 (.slice (some ⟨g, 0, none⟩) 56 c3)).run Try.prog (w3.setCell ⟨g, t1, none⟩ (.int .u8 c)) = .ok (.string (strOfNums (T.set t1 c))) (w3.setCell ⟨g, t1, none⟩ (.int .u8 c)) := (by have h := Kd.C_string (P := Try.prog) (c := c3) Try.underlying22 Try.underlying5 Try.underlying9 (X8.out.rds 56 (by rw [List.length_set, TLN.out]; omega)); rw [show (T.set t1 c).take 56 = T.set t1 c from List.take_of_length_le (by rw [List.length_set, TLN.out]; omega)] at h; rwa [show (T.set t1 c).length = 56 by rw [List.length_set, TLN.out]] at h))
    obtain ⟨p, htxt, hbad⟩ := HSET.out (pk k)
    have hbs : bytesOf (strOfNums (T.set t1 c)) = T.set t1 c := bytes_str htxt.bytes
    refine (implDecode_bad _ k (strOfNums (T.set t1 c)) p k0 k1 (by rw [hbs]; exact htxt) (by rw [hbs]; exact hbad)).mono ?_
    clear hbs htxt hbad hcv8
    rintro e w8 ⟨rfl, hb8⟩
    have B88 := Aside0.mk (below_step B8.out hb8)
    clear hb8
    go_wp2_with fail
    refine (works_any _).mono ?_
    rintro e w9 ⟨rfl, hb9⟩
    have B9 := Aside0.mk (below_step B88.out hb9)
    clear hb9
    go_wp2
    go_ret
    exact ⟨rfl, B9.out⟩

set_option maxHeartbeats 800000 in
theorem broken_walk (hE : EndsLaw) (w : World) (k t c u : Int) (A : Option Addr) (cap : Nat) (l : List Int) (hrd : Rds w A l) (hcap : l.length ≤ cap) (hm : l.length ≤ 9223372036854775807) (hb : ∀ x ∈ l, 0 ≤ x ∧ x ≤ 255) (c0 : 0 ≤ c) (c255 : c ≤ 255) :
    Calls Try.prog 4 #[.int .i64 k, .slice A l.length cap, .int .i64 t, .int .u8 c, .int .i64 u] w fun e w' => e = .returned (.bool true) ∧ Below w.heap.size w w' := by
  by_cases hbig : (2147483647 : Int) < l.length
  · go_enter Try.func4, Try.ntmps4
    go_wp2
    go_ret
    exact ⟨rfl, Below.refl _ _⟩
  by_cases hk : 0 ≤ k ∧ k < 6
  · obtain ⟨k0, k1⟩ := hk
    by_cases h32 : l.length = 32
    · by_cases t0 : t < 0
      · exact broken_neg hE w k t c u A cap l k0 k1 hrd hcap h32 hb c0 c255 t0
      by_cases t5 : 55 ≤ t
      · exact broken_big hE w k t c u A cap l k0 k1 hrd hcap h32 hb c0 c255 (by omega) t5
      have ht : t = (t.toNat : Int) := by omega
      by_cases hx : (keyL (pk k) l).getD t.toNat 0 = c
      · exact broken_same hE w k t c u A cap l k0 k1 hrd hcap h32 hb c0 c255 t.toNat ht (by omega) hx
      by_cases h10 : c = 10
      · exact broken_lf hE w k t c u A cap l k0 k1 hrd hcap h32 hb c0 c255 t.toNat ht (by omega) hx h10
      by_cases h13 : c = 13
      · exact broken_cr hE w k t c u A cap l k0 k1 hrd hcap h32 hb c0 c255 t.toNat ht (by omega) hx h13
      exact broken_change hE w k t c u A cap l k0 k1 hrd hcap h32 hb c0 c255 t.toNat ht (by omega) hx h10 h13
    · have e32 : ((l.length : Int) != 32) = true := by rw [bne_iff_ne]; omega
      clear h32
      go_enter Try.func4, Try.ntmps4
      go_wp2_with fail
      refine (known_yes _ k k0 k1).mono ?_
      rintro e w1 ⟨rfl, hb1⟩
      have B1 := Aside0.mk hb1
      clear hb1
      go_wp2_with fail
      refine (works_any _).mono ?_
      rintro e w2 ⟨rfl, hb2⟩
      have B2 := Aside0.mk (below_step B1.out hb2)
      clear hb2
      go_wp2
      go_ret
      exact ⟨rfl, B2.out⟩
  · have HK := Aside0.mk (show k < 0 ∨ 6 ≤ k by omega)
    clear hk
    go_enter Try.func4, Try.ntmps4
    go_wp2_with fail
    refine (known_no _ k HK.out).mono ?_
    rintro e w1 ⟨rfl, hb1⟩
    have B1 := Aside0.mk hb1
    clear hb1
    go_wp2_with fail
    refine (works_any _).mono ?_
    rintro e w2 ⟨rfl, hb2⟩
    have B2 := Aside0.mk (below_step B1.out hb2)
    clear hb2
    go_wp2
    go_ret
    exact ⟨rfl, B2.out⟩
end Go.Proofs.Ytmmhifomfbdfjaa
