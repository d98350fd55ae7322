/- spec.Ends: whether a cut text's bytes end with their check. -/
import Derived.Test.YtmmhifomfbdfjaaBrok
import Derived.Deep.RegionWith
import Derived.Deep.RegionHeld3
import Derived.Deep.QuietTactic
import Derived.BigQuiet
import Derived.IntWalk
namespace Go.Proofs.Ytmmhifomfbdfjaa
open Go.RowKit Go.Proofs.YtmmhifomfbdfjaaW.PrintWords Go.Proofs.YtmmhifomfbdfjaaW.PrintLast Go.Proofs.YtmmhifomfbdfjaaW.PrintMore
set_option linter.unusedVariables false
set_option linter.unusedSimpArgs false

def cutM (n i : Nat) : Nat := if i = 0 then n * 5 / 8 else n / 8 * 5

theorem str_beq (a b : ByteArray) : (a.toList == b.toList) = decide (a = b) := by
  rw [ByteArray.toList_eq, ByteArray.toList_eq]
  by_cases h : a = b
  · subst h; simp
  · have : a.data.toList ≠ b.data.toList := fun e => h (by cases a; cases b; simp only [ByteArray.mk.injEq]; exact Array.toList_inj.1 e)
    rw [decide_eq_false h, beq_eq_false_iff_ne]; exact this
theorem ends_next {D : List Int} {n i : Nat} (h : ∀ j, j < i → ¬ endsAt D (cutM n j)) (h2 : ¬ endsAt D (cutM n i)) : ∀ j, j < i + 1 → ¬ endsAt D (cutM n j) := fun j hj => by
  rcases Nat.lt_or_ge j i with h' | h'
  · exact h j h'
  · obtain rfl : j = i := by omega
    exact h2

set_option maxHeartbeats 1000000 in
set_option maxRecDepth 100000 in
theorem spec_ends (w : World) (k : Int) (A : Option Addr) (cap n : Nat) (ys : List Int) (h0 : 0 ≤ k) (h1 : k < 6) (hn : n < 56) (hr : Rds w A ys) (hc : ys.length ≤ cap) (hy : ys.length = 32) (hb : ∀ x ∈ ys, 0 ≤ x ∧ x ≤ 255) :
    Calls Try.prog 13 #[.int .i64 k, .slice A ys.length cap, .int .i64 n] w fun e w' => (∃ b, e = .returned (.bool b) ∧ (b = false → ¬ endsAt (chk (pk k :: ys)) (cutM n 0) ∧ ¬ endsAt (chk (pk k :: ys)) (cutM n 1))) ∧ Below w.heap.size w w' := by
  have hpk : 0 ≤ pk k ∧ pk k ≤ 255 := by rcases kinds h0 h1 with rfl | rfl | rfl | rfl | rfl | rfl <;> decide
  have hpf : PFnEncode.spec_prefix.f k = some (pk k) := by rcases kinds h0 h1 with rfl | rfl | rfl | rfl | rfl | rfl <;> rfl
  obtain ⟨c, ec⟩ : ∃ c, c = pk k := ⟨_, rfl⟩
  rw [← ec] at hpk hpf ⊢
  obtain ⟨d, hd⟩ : ∃ d, d = c :: ys := ⟨_, rfl⟩
  have hdl : d.length = 33 := by rw [hd]; simp [hy]
  have hdb : ∀ x ∈ d, 0 ≤ x ∧ x ≤ 255 := by rw [hd]; intro x hx; exact (List.mem_cons.1 hx).elim (fun e => e ▸ hpk) (hb x)
  have hcl : (chk d).length = 35 := by rw [chk_length, hdl]
  rw [← hd]
  have HCB := Aside0.mk (chk_bytes hdb)
  have HCL := Aside0.mk hcl
  have HD := Aside0.mk hd
  have HDL := Aside0.mk hdl
  have HDB := Aside0.mk hdb
  have HPF := Aside0.mk hpf
  have HR := Aside0.mk hr
  have HY := Aside0.mk hy
  clear hr hb hd hdl hdb hpf ec hcl hy
  go_enter Try.func13, Try.ntmps13
  go_wp2_with fail
  refine (PFnEncode.spec_prefix.calls k c w HPF.out).mono ?_
  rintro e w1 ⟨rfl, hb1⟩
  have B1 := Aside0.mk hb1
  have HO := Aside0.mk (own_of_lit w1 w1.heap.size [c] (Nat.le_refl _) (by simp))
  have HR1 := Aside0.mk (Kd.C_alloc (Kd.C_below HR.out hb1) (.cells (u8s [c]).toArray 5))
  have B2 := Aside0.mk (below_alloc hb1 (.cells (u8s [c]).toArray 5))
  have hyl : ys.length ≤ 1000 := by rw [HY.out]; omega
  clear hb1
  go_wp2_with ((with_reducible refine gate_dst (N := 14) rfl ?_); refine app_any w1.heap.size rfl (.tmp 12) (.tmp 13) rfl (.slice (some ⟨w1.heap.size, 0, none⟩) 1 1) [c] ys A ys.length cap rfl rfl HO.out rfl HR1.out (by simp) (by simp; omega) ?_; intro v2 w2 ho hg hat; have hol := fun k hk => own_base (Kd.R_own HO.out).choose_spec k hk; have B3 := Aside0.mk (B2.out.grown hg B2.out.size (by intro k hk; have := hol k hk; have := B1.out.size; omega)); have h2 := own_rds (show Own w2 w1.heap.size v2 d by rw [HD.out]; exact ho); have hol2 := fun k hk => own_base (Kd.R_own ho).choose_spec k hk; clear ho hg hat hol; obtain ⟨A2, c2, e2, hc2, hr2⟩ := h2; subst e2; have had := hr2.2.2 (by rw [HDL.out]; omega); obtain ⟨ad2, e2, _⟩ := had; subst e2; have R2 := Aside0.mk hr2; clear hr2 hol2)
  refine (spec_checked w2 ad2 c2 d R2.out hc2 (by rw [HDL.out]; omega) HDB.out).mono ?_
  rintro e w3 ⟨ad3, c3, rfl, hc3, hr3, hb3⟩
  have B4 := Aside0.mk (below_step B3.out hb3)
  have R3 := Aside0.mk hr3
  clear hr3 hb3
  obtain ⟨D, hD⟩ : ∃ D, D = chk d := ⟨_, rfl⟩
  rw [← hD] at HCB HCL R3 hc3 ⊢
  have ED := Aside0.mk hD
  clear hD
  go_wp2_with fail
  obtain ⟨w4, hw4⟩ : ∃ w4, w4 = w3.alloc (.cells #[.int .i64 ((n : Int) * 5 / 8), .int .i64 ((n : Int) / 8 * 5)] 3) := ⟨_, rfl⟩
  obtain ⟨g, hg⟩ : ∃ g, g = w3.heap.size := ⟨_, rfl⟩
  have K4 := Aside0.mk (show Blk w4 g 3 #[.int .i64 ((n : Int) * 5 / 8), .int .i64 ((n : Int) / 8 * 5)] by rw [hw4, hg]; exact Blk.new _ _ _)
  have B5 := Aside0.mk (show Below w.heap.size w w4 by rw [hw4]; exact below_alloc B4.out _)
  have R4 := Aside0.mk (show Rds w4 (some ad3) D by rw [hw4]; exact Kd.C_alloc R3.out _)
  rw [← hw4, ← hg]
  clear hw4 hg B4 R3 B1 B2 B3 HO HR1 R2
  go_loopw [6, 9, 24] (fun v6 v9 v24 wr => ∃ i : Nat, i ≤ 2 ∧ v24 = .int .i64 i ∧ Aside0 (∀ j, j < i → ¬ endsAt D (cutM n j)) ∧ Aside0 (Below w.heap.size w wr) ∧ Aside0 (Blk wr g 3 #[.int .i64 ((n : Int) * 5 / 8), .int .i64 ((n : Int) / 8 * 5)]) ∧ Aside0 (Rds wr (some ad3) D)) (fun _ _ i _ => 2 - (intOf i).toNat)
  case atStart => exact ⟨0, by omega, rfl, ⟨fun j hj => by omega⟩, B5, K4, R4⟩
  case round =>
    clear B5 K4 R4
    obtain ⟨i, hi, rfl, HE, HB, HK, HRR⟩ := hrel
    by_cases hlt : i < 2
    · obtain ⟨M, hM⟩ : ∃ M, M = cutM n i := ⟨_, rfl⟩
      have hM35 : M ≤ 35 := by rw [hM]; unfold cutM; split <;> omega
      have hcell : wr.cell? ⟨g, i, none⟩ = some (.int .i64 (M : Int)) := by
        rw [HK.out.cell, hM]
        match i, hlt with
        | 0, _ => simp [cutM]
        | 1, _ => simp [cutM]
      have HM := Aside0.mk hM
      clear hM
      by_cases h2 : 2 ≤ M
      · obtain ⟨T, hT⟩ : ∃ T, T = D.take (M - 2) := ⟨_, rfl⟩
        obtain ⟨U, hU⟩ : ∃ U, U = D.take M := ⟨_, rfl⟩
        have hTl : T.length = M - 2 := by rw [hT, List.length_take, HCL.out]; omega
        have hUl : U.length = M := by rw [hU, List.length_take, HCL.out]; omega
        have hTb : ∀ x ∈ T, 0 ≤ x ∧ x ≤ 255 := fun x hx => HCB.out x (by rw [hT] at hx; exact List.mem_of_mem_take hx)
        have hUb : ∀ x ∈ U, 0 ≤ x ∧ x ≤ 255 := fun x hx => HCB.out x (by rw [hU] at hx; exact List.mem_of_mem_take hx)
        have hRT : Rds wr.drew (some ad3) T := by rw [hT]; exact Kd.C_take (Kd.C_below HRR.out (below_drew (Below.refl _ _))) (by rw [HCL.out]; omega)
        have hRU : ∀ W, Rds W (some ad3) D → Rds W (some ad3) U := fun W h => by rw [hU]; exact Kd.C_take h (by rw [HCL.out]; omega)
        obtain ⟨E, hE⟩ : ∃ E, E = chk T := ⟨_, rfl⟩
        have hEb : ∀ x ∈ E, 0 ≤ x ∧ x ≤ 255 := by rw [hE]; exact chk_bytes hTb
        have hcall := spec_checked wr.drew ad3 c3 T hRT (by rw [hTl]; have := HCL.out; omega) (by rw [hTl]; omega) hTb
        rw [hTl, ← hE] at hcall
        have HCALL := Aside0.mk hcall
        have hcv : ∀ W, Rds W (some ad3) D → (convert 22 9 (.slice (some ad3) M c3)).run Try.prog W = .ok (.string (strOfNums U)) W := fun W h => by
          have := Kd.C_string (P := Try.prog) (w := W) (c := c3) Try.underlying22 Try.underlying5 Try.underlying9 (hRU W h)
          rwa [hUl] at this
        have HCV := Aside0.mk hcv
        have cv1 := hcv wr.drew (Kd.C_below HRR.out (below_drew (Below.refl _ _)))
        have hM2 : (2 : Int) ≤ (M : Int) := by omega
        have hM3 : IntKind.i64.wrap ((M : Int) - 2) = (M : Int) - 2 := IntWalk.i64_in _ (by omega)
        have hM4 : (0 : Int) ≤ (M : Int) - 2 := by omega
        have hM5 : ((M : Int) - 2).toNat = M - 2 := by omega
        have hM6 : M - 2 ≤ c3 := by have := HCL.out; omega
        have hM7 : (M : Int) - 2 ≤ (c3 : Int) := by have := HCL.out; omega
        have hM8 : decide ((2 : Int) ≤ (M : Int)) = true := by simp; omega
        have hc35 : M ≤ c3 := by have := HCL.out; omega
        have hXY : ((strOfNums E).toList == (strOfNums U).toList) = decide (E = U) := by
          rw [str_beq]
          by_cases h : E = U
          · rw [h]; simp
          · have : strOfNums E ≠ strOfNums U := fun e => h (by have := congrArg bytesOf e; rwa [bytes_str hEb, bytes_str hUb] at this)
            rw [decide_eq_false this, decide_eq_false h]
        have HXY := Aside0.mk hXY
        have HEN := Aside0.mk (show endsAt D M ↔ E = U by unfold endsAt; rw [← hT, ← hU, ← hE]; exact ⟨fun h => h.2, fun h => ⟨h2, h⟩⟩)
        obtain ⟨X, hX⟩ : ∃ X, X = strOfNums E := ⟨_, rfl⟩
        obtain ⟨Y, hY⟩ : ∃ Y, Y = strOfNums U := ⟨_, rfl⟩
        rw [← hY] at cv1 HCV
        rw [← hX, ← hY] at HXY
        have HX := Aside0.mk hX
        clear hcall hT hU hTl hUl hTb hUb hRT hRU hEb hcv hXY hX hY hE
        go_wp2_with fail
        refine wp_region_any (by kernel_rfl) ?_
        change wpAny _ _ _ _ _ _ _ (World.drew _)
        refine wpAny_take (i := 0) (oi := { dst := some 28, op := _, type := _, pos := _, after := _, guard := _ }) (v := .int .i64 M) rfl (by kernel_rfl) (by kernel_rfl) (by kernel_rfl) (fun _ _ _ h => h) (Or.inl ⟨by rfl, by (intro w; go_simp)⟩) ?_
        simp only [Act.put, List.setIfInBounds_toArray, List.set_cons_zero, List.set_cons_succ]
        refine wpAny_take (i := 1) (oi := { dst := some 29, op := _, type := _, pos := _, after := _, guard := _ }) (v := .bool true) rfl (by kernel_rfl) (by kernel_rfl) (by kernel_rfl) (fun _ _ _ h => h) (Or.inl ⟨by rfl, by (intro w; go_simp)⟩) ?_
        simp only [Act.put, List.setIfInBounds_toArray, List.set_cons_zero, List.set_cons_succ]
        refine wpAny_take (i := 2) (oi := { dst := some 30, op := _, type := _, pos := _, after := _, guard := _ }) (v := .bool true) rfl (by kernel_rfl) (by kernel_rfl) (by kernel_rfl) (fun _ _ _ h => h) (Or.inl ⟨by rfl, by (intro w; go_simp)⟩) ?_
        simp only [Act.put, List.setIfInBounds_toArray, List.set_cons_zero, List.set_cons_succ]
        refine wpAny_take (i := 3) (oi := { dst := some 31, op := _, type := _, pos := _, after := _, guard := _ }) (v := .slice (some ad3) D.length c3) rfl (by kernel_rfl) (by kernel_rfl) (by kernel_rfl) (fun _ _ _ h => h) (Or.inl ⟨by rfl, by (intro w; go_simp)⟩) ?_
        simp only [Act.put, List.setIfInBounds_toArray, List.set_cons_zero, List.set_cons_succ]
        refine wpAny_take (i := 4) (oi := { dst := some 32, op := _, type := _, pos := _, after := _, guard := _ }) (v := .int .i64 M) rfl (by kernel_rfl) (by kernel_rfl) (by kernel_rfl) (fun _ _ _ h => h) (Or.inl ⟨by rfl, by (intro w; go_simp)⟩) ?_
        simp only [Act.put, List.setIfInBounds_toArray, List.set_cons_zero, List.set_cons_succ]
        refine wpAny_take (i := 5) (oi := { dst := some 33, op := _, type := _, pos := _, after := _, guard := _ }) (v := .int .i64 ((M : Int) - 2)) rfl (by kernel_rfl) (by kernel_rfl) (by kernel_rfl) (fun _ _ _ h => h) (Or.inl ⟨by rfl, by (intro w; go_simp)⟩) ?_
        simp only [Act.put, List.setIfInBounds_toArray, List.set_cons_zero, List.set_cons_succ]
        refine wpAny_take (i := 6) (oi := { dst := some 34, op := _, type := _, pos := _, after := _, guard := _ }) (v := .slice (some ad3) (M - 2) c3) rfl (by kernel_rfl) (by kernel_rfl) (by kernel_rfl) (fun _ _ _ h => h) (Or.inl ⟨by rfl, by (intro w; go_simp)⟩) ?_
        simp only [Act.put, List.setIfInBounds_toArray, List.set_cons_zero, List.set_cons_succ]
        refine wpAny_take (i := 9) (oi := { dst := some 37, op := _, type := _, pos := _, after := _, guard := _ }) (v := .slice (some ad3) D.length c3) rfl (by kernel_rfl) (by kernel_rfl) (by kernel_rfl) (fun _ _ _ h => h) (Or.inl ⟨by rfl, by (intro w; go_simp)⟩) ?_
        simp only [Act.put, List.setIfInBounds_toArray, List.set_cons_zero, List.set_cons_succ]
        refine wpAny_take (i := 10) (oi := { dst := some 38, op := _, type := _, pos := _, after := _, guard := _ }) (v := .int .i64 M) rfl (by kernel_rfl) (by kernel_rfl) (by kernel_rfl) (fun _ _ _ h => h) (Or.inl ⟨by rfl, by (intro w; go_simp)⟩) ?_
        simp only [Act.put, List.setIfInBounds_toArray, List.set_cons_zero, List.set_cons_succ]
        refine wpAny_take (i := 11) (oi := { dst := some 39, op := _, type := _, pos := _, after := _, guard := _ }) (v := .slice (some ad3) M c3) rfl (by kernel_rfl) (by kernel_rfl) (by kernel_rfl) (fun _ _ _ h => h) (Or.inl ⟨by rfl, by (intro w; go_simp)⟩) ?_
        simp only [Act.put, List.setIfInBounds_toArray, List.set_cons_zero, List.set_cons_succ]
        refine wpAny_ready (rs := [7, 12]) (by kernel_rfl) (by simp) ?_
        refine AllReady.cons rfl (fun K hK => ?_) (AllReady.cons rfl (fun K hK => ?_) AllReady.nil)
        · go_simp
          refine HCALL.out.mono ?_
          rintro e w5 ⟨ad5, c5, rfl, hc5, hr5, hb5⟩
          have cvX := Kd.C_string (P := Try.prog) (w := w5) (c := c5) Try.underlying22 Try.underlying5 Try.underlying9 hr5
          rw [← HX.out] at cvX
          have cvY := HCV.out w5 (Kd.C_below HRR.out ((below_drew (Below.refl _ _)).trans hb5))
          have B5 := Aside0.mk hb5
          clear hr5 hb5
          refine hK _ _ ?_
          clear hK K
          refine wpAny_ready (rs := [8, 12]) (by kernel_rfl) (by simp) ?_
          refine AllReady.cons rfl (fun K hK => ?_) (AllReady.cons rfl (fun K hK => ?_) AllReady.nil)
          · go_simp
            refine hK _ _ ?_
            clear hK K
            refine wpAny_ready (rs := [12]) (by kernel_rfl) (by simp) ?_
            refine AllReady.cons rfl (fun K hK => ?_) AllReady.nil
            go_simp
            refine hK _ _ ?_
            clear hK K
            refine wpAny_take (i := 13) (oi := { dst := some 41, op := _, type := _, pos := _, after := _, guard := _ }) (v := .bool (X.toList == Y.toList)) rfl (by kernel_rfl) (by kernel_rfl) (by kernel_rfl) (fun _ _ _ h => h) (Or.inl ⟨by rfl, by (intro w; go_simp)⟩) ?_
            simp only [Act.put, List.setIfInBounds_toArray, List.set_cons_zero, List.set_cons_succ]
            refine wpAny_take (i := 14) (oi := { dst := some 42, op := _, type := _, pos := _, after := _, guard := _ }) (v := .bool (X.toList == Y.toList)) rfl (by kernel_rfl) (by kernel_rfl) (by kernel_rfl) (fun _ _ _ h => h) (Or.inl ⟨by rfl, by (intro w; go_simp)⟩) ?_
            simp only [Act.put, List.setIfInBounds_toArray, List.set_cons_zero, List.set_cons_succ]
            refine wpAny_done (by kernel_rfl) ?_ _
            have BW := Aside0.mk (show Below w.heap.size w w5 from below_step HB.out ((below_drew (Below.refl _ _)).trans B5.out))
            have KW := Aside0.mk (HK.out.below ((below_drew (Below.refl wr.heap.size wr)).trans B5.out))
            have RW := Aside0.mk (Kd.C_below HRR.out ((below_drew (Below.refl wr.heap.size wr)).trans B5.out))
            clear cvX cvY cv1 hM3 hM5
            have hxy := HXY.out
            by_cases hEU : E = U
            · rw [decide_eq_true hEU] at hxy
              rw [hxy]
              clear hxy
              go_wp2
              go_ret
              exact ⟨⟨true, rfl, fun h => by cases h⟩, BW.out⟩
            · rw [decide_eq_false hEU] at hxy
              rw [hxy]
              clear hxy
              go_wp2
              go_roundw
              case rel => exact ⟨i + 1, by omega, by go_num, ⟨ends_next HE.out (by rw [← HM.out]; exact fun h => hEU (HEN.out.1 h))⟩, BW, KW, RW⟩
              case measure => simp [intOf]; omega
          · go_simp
            refine hK _ _ ?_
            clear hK K
            refine wpAny_ready (rs := [8]) (by kernel_rfl) (by simp) ?_
            refine AllReady.cons rfl (fun K hK => ?_) AllReady.nil
            go_simp
            refine hK _ _ ?_
            clear hK K
            refine wpAny_take (i := 13) (oi := { dst := some 41, op := _, type := _, pos := _, after := _, guard := _ }) (v := .bool (X.toList == Y.toList)) rfl (by kernel_rfl) (by kernel_rfl) (by kernel_rfl) (fun _ _ _ h => h) (Or.inl ⟨by rfl, by (intro w; go_simp)⟩) ?_
            simp only [Act.put, List.setIfInBounds_toArray, List.set_cons_zero, List.set_cons_succ]
            refine wpAny_take (i := 14) (oi := { dst := some 42, op := _, type := _, pos := _, after := _, guard := _ }) (v := .bool (X.toList == Y.toList)) rfl (by kernel_rfl) (by kernel_rfl) (by kernel_rfl) (fun _ _ _ h => h) (Or.inl ⟨by rfl, by (intro w; go_simp)⟩) ?_
            simp only [Act.put, List.setIfInBounds_toArray, List.set_cons_zero, List.set_cons_succ]
            refine wpAny_done (by kernel_rfl) ?_ _
            have BW := Aside0.mk (show Below w.heap.size w w5 from below_step HB.out ((below_drew (Below.refl _ _)).trans B5.out))
            have KW := Aside0.mk (HK.out.below ((below_drew (Below.refl wr.heap.size wr)).trans B5.out))
            have RW := Aside0.mk (Kd.C_below HRR.out ((below_drew (Below.refl wr.heap.size wr)).trans B5.out))
            clear cvX cvY cv1 hM3 hM5
            have hxy := HXY.out
            by_cases hEU : E = U
            · rw [decide_eq_true hEU] at hxy
              rw [hxy]
              clear hxy
              go_wp2
              go_ret
              exact ⟨⟨true, rfl, fun h => by cases h⟩, BW.out⟩
            · rw [decide_eq_false hEU] at hxy
              rw [hxy]
              clear hxy
              go_wp2
              go_roundw
              case rel => exact ⟨i + 1, by omega, by go_num, ⟨ends_next HE.out (by rw [← HM.out]; exact fun h => hEU (HEN.out.1 h))⟩, BW, KW, RW⟩
              case measure => simp [intOf]; omega
        · go_simp
          refine hK _ _ ?_
          clear hK K
          refine wpAny_ready (rs := [7]) (by kernel_rfl) (by simp) ?_
          refine AllReady.cons rfl (fun K hK => ?_) AllReady.nil
          go_simp
          refine HCALL.out.mono ?_
          rintro e w5 ⟨ad5, c5, rfl, hc5, hr5, hb5⟩
          have cvX := Kd.C_string (P := Try.prog) (w := w5) (c := c5) Try.underlying22 Try.underlying5 Try.underlying9 hr5
          rw [← HX.out] at cvX
          have cvY := HCV.out w5 (Kd.C_below HRR.out ((below_drew (Below.refl _ _)).trans hb5))
          have B5 := Aside0.mk hb5
          clear hr5 hb5
          refine hK _ _ ?_
          clear hK K
          refine wpAny_ready (rs := [8]) (by kernel_rfl) (by simp) ?_
          refine AllReady.cons rfl (fun K hK => ?_) AllReady.nil
          go_simp
          refine hK _ _ ?_
          clear hK K
          refine wpAny_take (i := 13) (oi := { dst := some 41, op := _, type := _, pos := _, after := _, guard := _ }) (v := .bool (X.toList == Y.toList)) rfl (by kernel_rfl) (by kernel_rfl) (by kernel_rfl) (fun _ _ _ h => h) (Or.inl ⟨by rfl, by (intro w; go_simp)⟩) ?_
          simp only [Act.put, List.setIfInBounds_toArray, List.set_cons_zero, List.set_cons_succ]
          refine wpAny_take (i := 14) (oi := { dst := some 42, op := _, type := _, pos := _, after := _, guard := _ }) (v := .bool (X.toList == Y.toList)) rfl (by kernel_rfl) (by kernel_rfl) (by kernel_rfl) (fun _ _ _ h => h) (Or.inl ⟨by rfl, by (intro w; go_simp)⟩) ?_
          simp only [Act.put, List.setIfInBounds_toArray, List.set_cons_zero, List.set_cons_succ]
          refine wpAny_done (by kernel_rfl) ?_ _
          have BW := Aside0.mk (show Below w.heap.size w w5 from below_step HB.out ((below_drew (Below.refl _ _)).trans B5.out))
          have KW := Aside0.mk (HK.out.below ((below_drew (Below.refl wr.heap.size wr)).trans B5.out))
          have RW := Aside0.mk (Kd.C_below HRR.out ((below_drew (Below.refl wr.heap.size wr)).trans B5.out))
          clear cvX cvY cv1 hM3 hM5
          have hxy := HXY.out
          by_cases hEU : E = U
          · rw [decide_eq_true hEU] at hxy
            rw [hxy]
            clear hxy
            go_wp2
            go_ret
            exact ⟨⟨true, rfl, fun h => by cases h⟩, BW.out⟩
          · rw [decide_eq_false hEU] at hxy
            rw [hxy]
            clear hxy
            go_wp2
            go_roundw
            case rel => exact ⟨i + 1, by omega, by go_num, ⟨ends_next HE.out (by rw [← HM.out]; exact fun h => hEU (HEN.out.1 h))⟩, BW, KW, RW⟩
            case measure => simp [intOf]; omega
      · have h2' : decide ((2 : Int) ≤ (M : Int)) = false := by rw [decide_eq_false_iff_not]; omega
        go_wp2_with fail
        go_quiet (fail)
        go_wp2
        go_roundw
        case rel => exact ⟨i + 1, by omega, by go_num, ⟨ends_next HE.out (by rw [← HM.out]; exact fun h => h2 h.1)⟩, ⟨pw_below_drewN HB.out _⟩, ⟨HK.out.drewN _⟩, ⟨Kd.C_below HRR.out (pw_below_drewN (Below.refl _ _) _)⟩⟩
        case measure => simp [intOf]; omega
    · go_wp2
      go_ret
      obtain rfl : i = 2 := by omega
      exact ⟨⟨false, rfl, fun _ => by rw [← ED.out]; exact ⟨HE.out 0 (by omega), HE.out 1 (by omega)⟩⟩, HB.out⟩
end Go.Proofs.Ytmmhifomfbdfjaa
