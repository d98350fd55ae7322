/- The walk of laws.FnSeed. -/
import Derived.Test.YtmmhifomfbdfjaaSeedD
import Derived.Deep.RegionWith
import Derived.IntWalk
namespace Go.Proofs.Ytmmhifomfbdfjaa
open Go.RowKit Go.Proofs.YtmmhifomfbdfjaaW.PrintWords Go.Proofs.YtmmhifomfbdfjaaW.PrintLast Go.Proofs.YtmmhifomfbdfjaaW.PrintMore
set_option linter.unusedVariables false
set_option linter.unusedSimpArgs false

/-- The first two letters of a seed's text. -/
theorem seed_letters {k : Int} (h0 : 0 ≤ k) (h1 : k < 6) (ys : List Int) (hy : ys.length = 32) : ∃ x, PFnEncode.spec_Letter.f k = some x ∧ (seedL (pk k) ys).getD 0 0 = 83 ∧ (seedL (pk k) ys).getD 1 0 = x := by
  have g0 : ∀ (b0 b1 b2 b3 b4 : Int) (r : List Int), (encL (b0 :: b1 :: b2 :: b3 :: b4 :: r)).getD 0 0 = letter (b0 / 8) := fun _ _ _ _ _ _ => rfl
  have g1 : ∀ (b0 b1 b2 b3 b4 : Int) (r : List Int), (encL (b0 :: b1 :: b2 :: b3 :: b4 :: r)).getD 1 0 = letter (b0 % 8 * 4 + b1 / 64) := fun _ _ _ _ _ _ => rfl
  match ys, hy with
  | a :: b :: c :: r, _ =>
    refine ⟨letter (sd0 (pk k) % 8 * 4 + sd1 (pk k) / 64), ?_, (g0 _ _ _ _ _ _).trans ?_, g1 _ _ _ _ _ _⟩
    · rcases kinds h0 h1 with rfl | rfl | rfl | rfl | rfl | rfl <;> decide +kernel
    · rcases kinds h0 h1 with rfl | rfl | rfl | rfl | rfl | rfl <;> decide +kernel
  | [_, _], h => simp at h
  | [_], h => simp at h
  | [], h => simp at h

set_option maxHeartbeats 1600000 in
set_option maxRecDepth 100000 in
theorem seed_yes (w : World) (k : Int) (A : Option Addr) (cap : Nat) (l : List Int) (k0 : 0 ≤ k) (k1 : k < 6) (hrd : Rds w A l) (hcap : l.length ≤ cap) (h32 : l.length = 32) (hb : ∀ x ∈ l, 0 ≤ x ∧ x ≤ 255) :
    Calls Try.prog 8 #[.int .i64 k, .slice A l.length cap] w fun e w' => e = .returned (.bool true) ∧ Below w.heap.size w w' := by
  have HRD := Aside0.mk hrd
  have HB := Aside0.mk hb
  have H32 := Aside0.mk h32
  have hbig : ¬ (2147483647 : Int) < l.length := by omega
  have e32 : ((l.length : Int) != 32) = false := by rw [h32]; rfl
  have hst := bytes_str (l := seedL (pk k) l) (seed_txt (pk_pref k0 k1) h32 hb).bytes
  obtain ⟨S, hS⟩ : ∃ S, S = strOfNums (seedL (pk k) l) := ⟨_, rfl⟩
  have ES := Aside0.mk hS
  rw [← hS] at hst
  have HST := Aside0.mk hst
  have hSz : S.size = 58 := by rw [hS, strOfNums_size]; exact seed_len (pk_pref k0 k1) h32 hb
  obtain ⟨x, hx, hx3, hx2⟩ := seed_letters k0 k1 l h32
  have HX := Aside0.mk hx
  have hbt : bt S 1 = x := by rw [← rd_bytesOf, hst, ← hx2]; rfl
  have hbt0 : bt S 0 = 83 := by rw [← rd_bytesOf, hst, ← hx3]; rfl
  have HBT := Aside0.mk hbt
  have HBT0 := Aside0.mk hbt0
  have HSZ := Aside0.mk hSz
  clear hrd hb h32 hst hS hSz hx hx2 hx3 hbt hbt0
  go_enter Try.func8, Try.ntmps8
  go_wp2_with fail
  refine (known_yes _ k k0 k1).mono ?_
  rintro e w1 ⟨rfl, hb1⟩
  have B1 := Aside0.mk hb1
  clear hb1
  go_wp2_with fail
  refine (spec_seed w1 k A cap l k0 k1 (Kd.C_below HRD.out B1.out) hcap H32.out HB.out).mono ?_
  rintro e w2 ⟨rfl, hb2⟩
  have B2 := Aside0.mk (below_step B1.out hb2)
  clear hb2
  rw [← ES.out]
  go_wp2_with fail
  refine (implEncodeSeed w2 k A cap l k0 k1 (Kd.C_below HRD.out B2.out) hcap H32.out HB.out).mono ?_
  rintro e w3 ⟨rfl, hb3⟩
  have B3 := Aside0.mk (below_step B2.out hb3)
  clear hb3
  rw [← ES.out]
  go_wp2_with fail
  refine (implDecodeSeed w3 S k l k0 k1 H32.out HB.out HST.out).mono ?_
  rintro e w4 ⟨A4, c4, rfl, hc4, hr4, hb4⟩
  have B4 := Aside0.mk (below_step B3.out hb4)
  have R4 := Aside0.mk hr4
  clear hb4 hr4
  go_wp2_with fail
  have hlt : 0 < S.size := by rw [HSZ.out]; decide
  have hlt1 : 1 < S.size := by rw [HSZ.out]; decide
  have hch : ((S[0]'hlt).toNat : Int) = 83 := by
    have h := HBT0.out
    simpa [bt, hlt] using h
  have hch1 : ((S[1]'hlt1).toNat : Int) = x := by
    have h := HBT.out
    simpa [bt, hlt1] using h
  refine wp_region_any (by kernel_rfl) ?_
  change wpAny _ _ _ _ _ _ _ (World.drew _)
  refine wpAny_take (i := 0) (oi := { dst := some 38, op := _, type := _, pos := _, after := _, guard := _ }) (v := .bool true) rfl (by kernel_rfl) (by kernel_rfl) (by kernel_rfl) (fun _ _ _ h => h) (Or.inl ⟨by rfl, by (intro w; go_simp)⟩) ?_
  simp only [Act.put, List.setIfInBounds_toArray, List.set_cons_zero, List.set_cons_succ]
  refine wpAny_take (i := 1) (oi := { dst := some 39, op := _, type := _, pos := _, after := _, guard := _ }) (v := .bool true) rfl (by kernel_rfl) (by kernel_rfl) (by kernel_rfl) (fun _ _ _ h => h) (Or.inl ⟨by rfl, by (intro w; go_simp)⟩) ?_
  simp only [Act.put, List.setIfInBounds_toArray, List.set_cons_zero, List.set_cons_succ]
  refine wpAny_take (i := 2) (oi := { dst := some 40, op := _, type := _, pos := _, after := _, guard := _ }) (v := .string S) rfl (by kernel_rfl) (by kernel_rfl) (by kernel_rfl) (fun _ _ _ h => h) (Or.inl ⟨by rfl, by (intro w; go_simp)⟩) ?_
  simp only [Act.put, List.setIfInBounds_toArray, List.set_cons_zero, List.set_cons_succ]
  refine wpAny_take (i := 3) (oi := { dst := some 41, op := _, type := _, pos := _, after := _, guard := _ }) (v := .string S) rfl (by kernel_rfl) (by kernel_rfl) (by kernel_rfl) (fun _ _ _ h => h) (Or.inl ⟨by rfl, by (intro w; go_simp)⟩) ?_
  simp only [Act.put, List.setIfInBounds_toArray, List.set_cons_zero, List.set_cons_succ]
  refine wpAny_take (i := 4) (oi := { dst := some 42, op := _, type := _, pos := _, after := _, guard := _ }) (v := .bool true) rfl (by kernel_rfl) (by kernel_rfl) (by kernel_rfl) (fun _ _ _ h => h) (Or.inl ⟨by rfl, by (intro w; go_simp)⟩) ?_
  simp only [Act.put, List.setIfInBounds_toArray, List.set_cons_zero, List.set_cons_succ]
  refine wpAny_take (i := 5) (oi := { dst := some 43, op := _, type := _, pos := _, after := _, guard := _ }) (v := .bool true) rfl (by kernel_rfl) (by kernel_rfl) (by kernel_rfl) (fun _ _ _ h => h) (Or.inl ⟨by rfl, by (intro w; go_simp)⟩) ?_
  simp only [Act.put, List.setIfInBounds_toArray, List.set_cons_zero, List.set_cons_succ]
  refine wpAny_take (i := 6) (oi := { dst := some 44, op := _, type := _, pos := _, after := _, guard := _ }) (v := .bool true) rfl (by kernel_rfl) (by kernel_rfl) (by kernel_rfl) (fun _ _ _ h => h) (Or.inl ⟨by rfl, by (intro w; go_simp)⟩) ?_
  simp only [Act.put, List.setIfInBounds_toArray, List.set_cons_zero, List.set_cons_succ]
  refine wpAny_take (i := 7) (oi := { dst := some 45, op := _, type := _, pos := _, after := _, guard := _ }) (v := .string S) rfl (by kernel_rfl) (by kernel_rfl) (by kernel_rfl) (fun _ _ _ h => h) (Or.inl ⟨by rfl, by (intro w; go_simp)⟩) ?_
  simp only [Act.put, List.setIfInBounds_toArray, List.set_cons_zero, List.set_cons_succ]
  refine wpAny_take (i := 8) (oi := { dst := some 46, op := _, type := _, pos := _, after := _, guard := _ }) (v := .int .u8 83) rfl (by kernel_rfl) (by kernel_rfl) (by kernel_rfl) (fun _ _ _ h => h) (Or.inl ⟨by rfl, by (intro w; go_simp)⟩) ?_
  simp only [Act.put, List.setIfInBounds_toArray, List.set_cons_zero, List.set_cons_succ]
  refine wpAny_take (i := 9) (oi := { dst := some 47, op := _, type := _, pos := _, after := _, guard := _ }) (v := .bool true) rfl (by kernel_rfl) (by kernel_rfl) (by kernel_rfl) (fun _ _ _ h => h) (Or.inl ⟨by rfl, by (intro w; go_simp)⟩) ?_
  simp only [Act.put, List.setIfInBounds_toArray, List.set_cons_zero, List.set_cons_succ]
  refine wpAny_take (i := 10) (oi := { dst := some 48, op := _, type := _, pos := _, after := _, guard := _ }) (v := .bool true) rfl (by kernel_rfl) (by kernel_rfl) (by kernel_rfl) (fun _ _ _ h => h) (Or.inl ⟨by rfl, by (intro w; go_simp)⟩) ?_
  simp only [Act.put, List.setIfInBounds_toArray, List.set_cons_zero, List.set_cons_succ]
  refine wpAny_take (i := 11) (oi := { dst := some 49, op := _, type := _, pos := _, after := _, guard := _ }) (v := .bool true) rfl (by kernel_rfl) (by kernel_rfl) (by kernel_rfl) (fun _ _ _ h => h) (Or.inl ⟨by rfl, by (intro w; go_simp)⟩) ?_
  simp only [Act.put, List.setIfInBounds_toArray, List.set_cons_zero, List.set_cons_succ]
  refine wpAny_take (i := 12) (oi := { dst := some 50, op := _, type := _, pos := _, after := _, guard := _ }) (v := .string S) rfl (by kernel_rfl) (by kernel_rfl) (by kernel_rfl) (fun _ _ _ h => h) (Or.inl ⟨by rfl, by (intro w; go_simp)⟩) ?_
  simp only [Act.put, List.setIfInBounds_toArray, List.set_cons_zero, List.set_cons_succ]
  refine wpAny_take (i := 13) (oi := { dst := some 51, op := _, type := _, pos := _, after := _, guard := _ }) (v := .int .u8 x) rfl (by kernel_rfl) (by kernel_rfl) (by kernel_rfl) (fun _ _ _ h => h) (Or.inl ⟨by rfl, by (intro w; go_simp; intro h; exact absurd h (by omega))⟩) ?_
  simp only [Act.put, List.setIfInBounds_toArray, List.set_cons_zero, List.set_cons_succ]
  refine wpAny_take (i := 14) (oi := { dst := some 52, op := _, type := _, pos := _, after := _, guard := _ }) (v := .int .i64 k) rfl (by kernel_rfl) (by kernel_rfl) (by kernel_rfl) (fun _ _ _ h => h) (Or.inl ⟨by rfl, by (intro w; go_simp)⟩) ?_
  simp only [Act.put, List.setIfInBounds_toArray, List.set_cons_zero, List.set_cons_succ]
  refine wpAny_ready (rs := [15]) (by kernel_rfl) (by simp) ?_
  refine AllReady.cons rfl (fun K hK => ?_) AllReady.nil
  go_simp
  refine (PFnEncode.spec_Letter.calls k x _ HX.out).mono ?_
  rintro e w5 ⟨rfl, hd5⟩
  have D5 := Aside0.mk (show Below w4.heap.size w4 w5 from (below_drew (Below.refl w4.heap.size w4)).trans hd5.below)
  have B5 := Aside0.mk (below_step B4.out D5.out)
  have cvA := Kd.C_string (P := Try.prog) (w := w5) (c := c4) Try.underlying22 Try.underlying5 Try.underlying9 (Kd.C_below R4.out D5.out)
  have cvB := Kd.C_string (P := Try.prog) (w := w5) (c := cap) Try.underlying22 Try.underlying5 Try.underlying9 (Kd.C_below HRD.out B5.out)
  obtain ⟨Z, hZ⟩ : ∃ Z, Z = strOfNums l := ⟨_, rfl⟩
  rw [← hZ] at cvA cvB
  clear hZ hd5 hlt hch hlt1 hch1
  refine hK _ _ ?_
  clear hK K
  refine wpAny_take (i := 16) (oi := { dst := some 54, op := _, type := _, pos := _, after := _, guard := _ }) (v := .bool true) rfl (by kernel_rfl) (by kernel_rfl) (by kernel_rfl) (fun _ _ _ h => h) (Or.inl ⟨by rfl, by (intro w; go_simp)⟩) ?_
  simp only [Act.put, List.setIfInBounds_toArray, List.set_cons_zero, List.set_cons_succ]
  refine wpAny_take (i := 17) (oi := { dst := some 55, op := _, type := _, pos := _, after := _, guard := _ }) (v := .bool true) rfl (by kernel_rfl) (by kernel_rfl) (by kernel_rfl) (fun _ _ _ h => h) (Or.inl ⟨by rfl, by (intro w; go_simp)⟩) ?_
  simp only [Act.put, List.setIfInBounds_toArray, List.set_cons_zero, List.set_cons_succ]
  refine wpAny_take (i := 18) (oi := { dst := some 56, op := _, type := _, pos := _, after := _, guard := _ }) (v := .bool true) rfl (by kernel_rfl) (by kernel_rfl) (by kernel_rfl) (fun _ _ _ h => h) (Or.inl ⟨by rfl, by (intro w; go_simp)⟩) ?_
  simp only [Act.put, List.setIfInBounds_toArray, List.set_cons_zero, List.set_cons_succ]
  refine wpAny_take (i := 19) (oi := { dst := some 57, op := _, type := _, pos := _, after := _, guard := _ }) (v := .bool true) rfl (by kernel_rfl) (by kernel_rfl) (by kernel_rfl) (fun _ _ _ h => h) (Or.inl ⟨by rfl, by (intro w; go_simp)⟩) ?_
  simp only [Act.put, List.setIfInBounds_toArray, List.set_cons_zero, List.set_cons_succ]
  refine wpAny_take (i := 20) (oi := { dst := some 58, op := _, type := _, pos := _, after := _, guard := _ }) (v := .bool true) rfl (by kernel_rfl) (by kernel_rfl) (by kernel_rfl) (fun _ _ _ h => h) (Or.inl ⟨by rfl, by (intro w; go_simp)⟩) ?_
  simp only [Act.put, List.setIfInBounds_toArray, List.set_cons_zero, List.set_cons_succ]
  refine wpAny_take (i := 21) (oi := { dst := some 59, op := _, type := _, pos := _, after := _, guard := _ }) (v := .bool true) rfl (by kernel_rfl) (by kernel_rfl) (by kernel_rfl) (fun _ _ _ h => h) (Or.inl ⟨by rfl, by (intro w; go_simp)⟩) ?_
  simp only [Act.put, List.setIfInBounds_toArray, List.set_cons_zero, List.set_cons_succ]
  refine wpAny_take (i := 22) (oi := { dst := some 60, op := _, type := _, pos := _, after := _, guard := _ }) (v := .int .i64 k) rfl (by kernel_rfl) (by kernel_rfl) (by kernel_rfl) (fun _ _ _ h => h) (Or.inl ⟨by rfl, by (intro w; go_simp)⟩) ?_
  simp only [Act.put, List.setIfInBounds_toArray, List.set_cons_zero, List.set_cons_succ]
  refine wpAny_take (i := 23) (oi := { dst := some 61, op := _, type := _, pos := _, after := _, guard := _ }) (v := .int .i64 k) rfl (by kernel_rfl) (by kernel_rfl) (by kernel_rfl) (fun _ _ _ h => h) (Or.inl ⟨by rfl, by (intro w; go_simp)⟩) ?_
  simp only [Act.put, List.setIfInBounds_toArray, List.set_cons_zero, List.set_cons_succ]
  refine wpAny_take (i := 24) (oi := { dst := some 62, op := _, type := _, pos := _, after := _, guard := _ }) (v := .bool true) rfl (by kernel_rfl) (by kernel_rfl) (by kernel_rfl) (fun _ _ _ h => h) (Or.inl ⟨by rfl, by (intro w; go_simp)⟩) ?_
  simp only [Act.put, List.setIfInBounds_toArray, List.set_cons_zero, List.set_cons_succ]
  refine wpAny_take (i := 25) (oi := { dst := some 63, op := _, type := _, pos := _, after := _, guard := _ }) (v := .bool true) rfl (by kernel_rfl) (by kernel_rfl) (by kernel_rfl) (fun _ _ _ h => h) (Or.inl ⟨by rfl, by (intro w; go_simp)⟩) ?_
  simp only [Act.put, List.setIfInBounds_toArray, List.set_cons_zero, List.set_cons_succ]
  refine wpAny_take (i := 26) (oi := { dst := some 64, op := _, type := _, pos := _, after := _, guard := _ }) (v := .bool true) rfl (by kernel_rfl) (by kernel_rfl) (by kernel_rfl) (fun _ _ _ h => h) (Or.inl ⟨by rfl, by (intro w; go_simp)⟩) ?_
  simp only [Act.put, List.setIfInBounds_toArray, List.set_cons_zero, List.set_cons_succ]
  refine wpAny_take (i := 27) (oi := { dst := some 65, op := _, type := _, pos := _, after := _, guard := _ }) (v := .slice A4 l.length c4) rfl (by kernel_rfl) (by kernel_rfl) (by kernel_rfl) (fun _ _ _ h => h) (Or.inl ⟨by rfl, by (intro w; go_simp)⟩) ?_
  simp only [Act.put, List.setIfInBounds_toArray, List.set_cons_zero, List.set_cons_succ]
  refine wpAny_take (i := 29) (oi := { dst := some 67, op := _, type := _, pos := _, after := _, guard := _ }) (v := .slice A l.length cap) rfl (by kernel_rfl) (by kernel_rfl) (by kernel_rfl) (fun _ _ _ h => h) (Or.inl ⟨by rfl, by (intro w; go_simp)⟩) ?_
  simp only [Act.put, List.setIfInBounds_toArray, List.set_cons_zero, List.set_cons_succ]
  refine wpAny_ready (rs := [28, 30]) (by kernel_rfl) (by simp) ?_
  refine AllReady.cons rfl (fun K hK => ?_) (AllReady.cons rfl (fun K hK => ?_) AllReady.nil)
  · go_simp
    refine hK _ _ ?_
    clear hK K
    refine wpAny_ready (rs := [30]) (by kernel_rfl) (by simp) ?_
    refine AllReady.cons rfl (fun K hK => ?_) AllReady.nil
    go_simp
    refine hK _ _ ?_
    clear hK K
    refine wpAny_take (i := 31) (oi := { dst := some 69, op := _, type := _, pos := _, after := _, guard := _ }) (v := .bool true) rfl (by kernel_rfl) (by kernel_rfl) (by kernel_rfl) (fun _ _ _ h => h) (Or.inl ⟨by rfl, by (intro w; go_simp)⟩) ?_
    simp only [Act.put, List.setIfInBounds_toArray, List.set_cons_zero, List.set_cons_succ]
    refine wpAny_take (i := 32) (oi := { dst := some 70, op := _, type := _, pos := _, after := _, guard := _ }) (v := .bool true) rfl (by kernel_rfl) (by kernel_rfl) (by kernel_rfl) (fun _ _ _ h => h) (Or.inl ⟨by rfl, by (intro w; go_simp)⟩) ?_
    simp only [Act.put, List.setIfInBounds_toArray, List.set_cons_zero, List.set_cons_succ]
    refine wpAny_take (i := 33) (oi := { dst := some 71, op := _, type := _, pos := _, after := _, guard := _ }) (v := .bool true) rfl (by kernel_rfl) (by kernel_rfl) (by kernel_rfl) (fun _ _ _ h => h) (Or.inl ⟨by rfl, by (intro w; go_simp)⟩) ?_
    simp only [Act.put, List.setIfInBounds_toArray, List.set_cons_zero, List.set_cons_succ]
    refine wpAny_ready (rs := [34]) (by kernel_rfl) (by simp) ?_
    refine AllReady.cons rfl (fun K hK => ?_) AllReady.nil
    go_simp
    refine (works_any w5).mono ?_
    rintro e w7 ⟨rfl, hb7⟩
    have B7 := Aside0.mk (below_step B5.out hb7)
    clear hb7
    refine hK _ _ ?_
    clear hK K
    refine wpAny_take (i := 35) (oi := { dst := some 73, op := _, type := _, pos := _, after := _, guard := _ }) (v := .bool true) rfl (by kernel_rfl) (by kernel_rfl) (by kernel_rfl) (fun _ _ _ h => h) (Or.inl ⟨by rfl, by (intro w; go_simp)⟩) ?_
    simp only [Act.put, List.setIfInBounds_toArray, List.set_cons_zero, List.set_cons_succ]
    refine wpAny_take (i := 36) (oi := { dst := some 4, op := _, type := _, pos := _, after := _, guard := _ }) (v := .bool true) rfl (by kernel_rfl) (by kernel_rfl) (by kernel_rfl) (fun _ _ _ h => h) (Or.inl ⟨by rfl, by (intro w; go_simp)⟩) ?_
    simp only [Act.put, List.setIfInBounds_toArray, List.set_cons_zero, List.set_cons_succ]
    refine wpAny_done (by kernel_rfl) ?_ _
    go_wp2
    go_ret
    exact ⟨rfl, B7.out⟩
  · go_simp
    refine hK _ _ ?_
    clear hK K
    refine wpAny_ready (rs := [28]) (by kernel_rfl) (by simp) ?_
    refine AllReady.cons rfl (fun K hK => ?_) AllReady.nil
    go_simp
    refine hK _ _ ?_
    clear hK K
    refine wpAny_take (i := 31) (oi := { dst := some 69, op := _, type := _, pos := _, after := _, guard := _ }) (v := .bool true) rfl (by kernel_rfl) (by kernel_rfl) (by kernel_rfl) (fun _ _ _ h => h) (Or.inl ⟨by rfl, by (intro w; go_simp)⟩) ?_
    simp only [Act.put, List.setIfInBounds_toArray, List.set_cons_zero, List.set_cons_succ]
    refine wpAny_take (i := 32) (oi := { dst := some 70, op := _, type := _, pos := _, after := _, guard := _ }) (v := .bool true) rfl (by kernel_rfl) (by kernel_rfl) (by kernel_rfl) (fun _ _ _ h => h) (Or.inl ⟨by rfl, by (intro w; go_simp)⟩) ?_
    simp only [Act.put, List.setIfInBounds_toArray, List.set_cons_zero, List.set_cons_succ]
    refine wpAny_take (i := 33) (oi := { dst := some 71, op := _, type := _, pos := _, after := _, guard := _ }) (v := .bool true) rfl (by kernel_rfl) (by kernel_rfl) (by kernel_rfl) (fun _ _ _ h => h) (Or.inl ⟨by rfl, by (intro w; go_simp)⟩) ?_
    simp only [Act.put, List.setIfInBounds_toArray, List.set_cons_zero, List.set_cons_succ]
    refine wpAny_ready (rs := [34]) (by kernel_rfl) (by simp) ?_
    refine AllReady.cons rfl (fun K hK => ?_) AllReady.nil
    go_simp
    refine (works_any w5).mono ?_
    rintro e w7 ⟨rfl, hb7⟩
    have B7 := Aside0.mk (below_step B5.out hb7)
    clear hb7
    refine hK _ _ ?_
    clear hK K
    refine wpAny_take (i := 35) (oi := { dst := some 73, op := _, type := _, pos := _, after := _, guard := _ }) (v := .bool true) rfl (by kernel_rfl) (by kernel_rfl) (by kernel_rfl) (fun _ _ _ h => h) (Or.inl ⟨by rfl, by (intro w; go_simp)⟩) ?_
    simp only [Act.put, List.setIfInBounds_toArray, List.set_cons_zero, List.set_cons_succ]
    refine wpAny_take (i := 36) (oi := { dst := some 4, op := _, type := _, pos := _, after := _, guard := _ }) (v := .bool true) rfl (by kernel_rfl) (by kernel_rfl) (by kernel_rfl) (fun _ _ _ h => h) (Or.inl ⟨by rfl, by (intro w; go_simp)⟩) ?_
    simp only [Act.put, List.setIfInBounds_toArray, List.set_cons_zero, List.set_cons_succ]
    refine wpAny_done (by kernel_rfl) ?_ _
    go_wp2
    go_ret
    exact ⟨rfl, B7.out⟩

set_option maxHeartbeats 800000 in
theorem seed_walk (w : World) (k : Int) (A : Option Addr) (cap : Nat) (l : List Int) (hrd : Rds w A l) (hcap : l.length ≤ cap) (hm : l.length ≤ 9223372036854775807) (hb : ∀ x ∈ l, 0 ≤ x ∧ x ≤ 255) :
    Calls Try.prog 8 #[.int .i64 k, .slice A l.length cap] w fun e w' => e = .returned (.bool true) ∧ Below w.heap.size w w' := by
  by_cases hbig : (2147483647 : Int) < l.length
  · go_enter Try.func8, Try.ntmps8
    go_wp2
    go_ret
    exact ⟨rfl, Below.refl _ _⟩
  by_cases hk : 0 ≤ k ∧ k < 6
  · obtain ⟨k0, k1⟩ := hk
    by_cases h32 : l.length = 32
    · exact seed_yes w k A cap l k0 k1 hrd hcap h32 hb
    · have e32 : ((l.length : Int) != 32) = true := by rw [bne_iff_ne]; omega
      clear h32
      go_enter Try.func8, Try.ntmps8
      go_wp2_with fail
      refine (known_yes _ k k0 k1).mono ?_
      rintro e w1 ⟨rfl, hb1⟩
      have B1 := Aside0.mk hb1
      clear hb1
      go_wp2_with fail
      refine (works_any _).mono ?_
      rintro e w2 ⟨rfl, hb2⟩
      have B2 := Aside0.mk (below_step B1.out hb2)
      clear hb2
      go_wp2
      go_ret
      exact ⟨rfl, B2.out⟩
  · have HK := Aside0.mk (show k < 0 ∨ 6 ≤ k by omega)
    clear hk
    go_enter Try.func8, Try.ntmps8
    go_wp2_with fail
    refine (known_no _ k HK.out).mono ?_
    rintro e w1 ⟨rfl, hb1⟩
    have B1 := Aside0.mk hb1
    clear hb1
    go_wp2_with fail
    refine (works_any _).mono ?_
    rintro e w2 ⟨rfl, hb2⟩
    have B2 := Aside0.mk (below_step B1.out hb2)
    clear hb2
    go_wp2
    go_ret
    exact ⟨rfl, B2.out⟩
end Go.Proofs.Ytmmhifomfbdfjaa
