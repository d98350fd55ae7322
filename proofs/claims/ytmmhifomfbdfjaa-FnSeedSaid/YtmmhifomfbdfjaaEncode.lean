/- (*Encoding).EncodedLen, DecodedLen and Encode: the letters of a row of bytes. -/
import Derived.Test.YtmmhifomfbdfjaaEnc
namespace Go.Proofs.Ytmmhifomfbdfjaa
open Go.RowKit Go.Proofs.YtmmhifomfbdfjaaW.PrintWords Go.Proofs.YtmmhifomfbdfjaaW.PrintLast Go.Proofs.YtmmhifomfbdfjaaW.PrintMore
set_option linter.unusedVariables false
set_option linter.unusedSimpArgs false

abbrev EncAt (w : World) (g : Nat) : Prop := Blk w g 82 (encCells 32 (-1))
theorem EncAt.pad {w : World} {g : Nat} (h : EncAt w g) : w.cell? ⟨g, 288, none⟩ = some (.int .i32 (-1)) := (Blk.cell h 288).trans (encX_pad 32 (-1))

def encLen (n : Int) : Int := n / 5 * 8 + (n % 5 * 8 + 4) / 5
def decLen (n : Int) : Int := n / 8 * 5 + n % 8 * 5 / 8

set_option maxHeartbeats 400000 in
theorem encodedLen (w : World) (g : Nat) (n : Int) (h : EncAt w g) (h0 : 0 ≤ n) (h1 : n ≤ 100000) :
    Calls Try.prog 54 #[.pointer (some ⟨g, 0, none⟩), .int .i64 n] w fun e w' => e = .returned (.int .i64 (encLen n)) ∧ w = w' := by
  have hp := h.pad
  clear h
  go_enter Try.func54, Try.ntmps54
  go_wp2
  go_ret
  exact ⟨rfl, rfl⟩

set_option maxHeartbeats 400000 in
theorem decodedLenM (w : World) (g : Nat) (n : Int) (h : EncAt w g) (h0 : 0 ≤ n) (h1 : n ≤ 100000) :
    Calls Try.prog 63 #[.pointer (some ⟨g, 0, none⟩), .int .i64 n] w fun e w' => e = .returned (.int .i64 (decLen n)) ∧ w = w' := by
  have hp := h.pad
  clear h
  go_enter Try.func63, Try.ntmps63
  go_wp2
  go_ret
  exact ⟨rfl, rfl⟩

theorem EncAt.enc {w : World} {g : Nat} (h : EncAt w g) (j : Nat) (v : Value) (hv : (u8s alphaL)[j]? = some v) : w.cell? ⟨g, 0 + j, none⟩ = some v := by
  rw [Blk.cell h, encCells, List.getElem?_toArray, List.append_assoc, Nat.zero_add]
  have hl : j < (u8s alphaL).length := (List.getElem?_eq_some_iff.1 hv).1
  rw [List.getElem?_append_left hl]; exact hv
theorem EncAt.letter {w : World} {g : Nat} (h : EncAt w g) (e : Int) (h0 : 0 ≤ e) (h1 : e < 32) : w.cell? ⟨g, e.toNat, none⟩ = some (.int .u8 (letter e)) := by
  have hl : e.toNat < alphaL.length := by have : alphaL.length = 32 := rfl; omega
  have := h.enc e.toNat (.int .u8 (Ytmmhifomfbdfjaa.letter e)) (by
    rw [u8s, List.getElem?_map, List.getElem?_eq_getElem hl, Ytmmhifomfbdfjaa.letter, List.getD_eq_getElem?_getD, List.getElem?_eq_getElem hl]; rfl)
  rwa [Nat.zero_add] at this
theorem size79 : (Try.prog.info? 79).map (·.size) = some (u8s alphaL).length := by kernel_rfl

theorem grown_refl (w : World) (row : Option Nat) : w.grownBy w row := ⟨rfl, rfl, rfl, Nat.le_refl _, fun _ _ _ => rfl⟩
theorem grown_set {w w1 : World} {g : Nat} (h : w.grownBy w1 (some g)) (j : Nat) (u : Value) : w.grownBy (w1.setCell ⟨g, j, none⟩ u) (some g) :=
  ⟨h.os, h.tape, h.output, by rw [World.setCell]; simpa using h.size, fun k hk hne => (Below.heap_setCell w1 ⟨g, j, none⟩ u k (fun e => hne (by rw [e]))).trans (h.block k hk hne)⟩
theorem grown_drew {w w1 : World} {row : Option Nat} (h : w.grownBy w1 row) : w.grownBy w1.drew row := ⟨h.os, h.tape, h.output, h.size, h.block⟩
theorem u8s_set (l : List Int) (i : Nat) (x : Int) : (u8s l).toArray.setIfInBounds i (.int .u8 x) = (u8s (l.set i x)).toArray := by
  simp [u8s, List.map_set]
theorem Blk.putb {w : World} {g : Nat} {l : List Int} (h : Blk w g 5 (u8s l).toArray) (i : Nat) (x : Int) : Blk (w.setCell ⟨g, i, none⟩ (.int .u8 x)) g 5 (u8s (l.set i x)).toArray := by
  rw [← u8s_set]; exact h.set_ i _
theorem u8s_at (l : List Int) (i : Nat) (h : i < l.length) : (u8s l).toArray[i]? = some (.int .u8 (l.getD i 0)) := by
  rw [List.getElem?_toArray, u8s, List.getElem?_map, List.getD_eq_getElem?_getD, List.getElem?_eq_getElem h]; rfl
theorem fillE_length (l : List Int) (k m : Nat) (h : 5 * k ≤ l.length) (hm : 8 * k ≤ m) : (fillE l k m).length = m := by
  unfold fillE
  rw [List.length_append, encL_length k _ (by rw [List.length_take]; omega), List.length_replicate]; omega
theorem rd_drop (l : List Int) (a : Nat) (i : Nat) : rd (l.drop a) (i : Int) = l.getD (a + i) 0 := by
  rw [rd, Int.toNat_natCast, List.getD_eq_getElem?_getD, List.getD_eq_getElem?_getD, List.getElem?_drop]

set_option maxHeartbeats 1600000 in
set_option maxRecDepth 100000 in
theorem encode_any (w : World) (g db cap : Nat) (l : List Int) (A : Option Addr) (m : Nat) (he : EncAt w g) (hm : (m : Int) = encLen l.length)
   (hd : Blk w db 5 (u8s (List.replicate m 0)).toArray) (hr : ∀ W, w.grownBy W (some db) → (Kd.int .u8).C W A l.length l) (hc : l.length ≤ cap) (hl : l.length ≤ 1000) (hb : ∀ x ∈ l, 0 ≤ x ∧ x ≤ 255) (hne : 0 < l.length) (h1 : l.length % 5 ≤ 1) :
    Calls Try.prog 55 #[.pointer (some ⟨g, 0, none⟩), .slice (some ⟨db, 0, none⟩) m m, .slice A l.length cap] w fun e w' => e = .returned (.tuple #[]) ∧ Blk w' db 5 (u8s (encL l)).toArray ∧ w.grownBy w' (some db) := by
  have hm' : m ≤ 10000 := by unfold encLen at hm; omega
  have hgd : ¬ g = db := blk_ne he hd (by decide)
  have HE := Aside0.mk he
  have HD := Aside0.mk (show Blk w db 5 (u8s (fillE l 0 m)).toArray by simpa [fillE, encL] using hd)
  have HR := Aside0.mk hr
  have HB := Aside0.mk hb
  have HM := Aside0.mk hm
  have hlz : ((l.length : Int) == 0) = false := by simp; intro h; subst h; simp at hne
  clear he hd hr hb hm
  go_enter Try.func55, Try.ntmps55
  go_wp2_with ((with_reducible refine gate_dst (N := 17) rfl ?_); refine load_seg rfl 79 (.tmp 16) rfl g 0 rfl (u8s alphaL) _ HE.out.enc Try.underlying79 rfl size79 ?_)
  simp only [Act.put, List.setIfInBounds_toArray, List.set_cons_succ, List.set_cons_zero]
  go_loopw [1, 2, 6, 7] (fun v1 v2 v6 v7 wr => ∃ (k : Nat) (a1 : Addr) (A2 : Option Addr) (c2 : Nat), 5 * k ≤ l.length ∧ 8 * k ≤ m ∧ v1 = .slice (some a1) (m - 8 * k) (m - 8 * k) ∧ (8 * k < m → a1 = ⟨db, 8 * k, none⟩) ∧ v2 = .slice A2 (l.length - 5 * k) c2 ∧ l.length - 5 * k ≤ c2 ∧ Aside0 (∀ W, w.grownBy W (some db) → (Kd.int .u8).C W A2 (l.drop (5 * k)).length (l.drop (5 * k))) ∧ Aside0 (w.grownBy wr (some db)) ∧ Aside0 (Blk wr db 5 (u8s (fillE l k m)).toArray)) (fun _ v2 _ _ _ => match v2 with | .slice _ n _ => n | _ => 0)
  case atStart => exact ⟨0, ⟨db, 0, none⟩, A, cap, by omega, by omega, rfl, fun _ => rfl, rfl, by omega, HR, ⟨grown_refl _ _⟩, HD⟩
  case round =>
    clear HD HR
    obtain ⟨k, a1, A2, c2, hk5, hk8, rfl, ha1, rfl, hc2, HR2, HG, HD2⟩ := hrel
    by_cases hlt : 5 * k + 5 ≤ l.length
    · have h8 : 8 * k + 8 ≤ m := by have := HM.out; unfold encLen at this; omega
      obtain rfl : a1 = ⟨db, 8 * k, none⟩ := ha1 (by omega)
      clear ha1
      have hdl : (l.drop (5 * k)).length = l.length - 5 * k := List.length_drop
      obtain ⟨ad, eA, hx0⟩ := Kd.at_int (HR2.out _ HG.out) 0 (by omega) (by omega)
      cases eA
      replace hx0 : wr.cell? ad = some (.int .u8 (rd (l.drop (5 * k)) 0)) := hx0
      have hx1 : wr.cell? ⟨ad.block, ad.off + 1, none⟩ = some (.int .u8 (rd (l.drop (5 * k)) 1)) := by obtain ⟨ad', e, h⟩ := Kd.at_int (HR2.out _ HG.out) 1 (by omega) (by omega); cases e; exact h
      have hx2 : wr.cell? ⟨ad.block, ad.off + 2, none⟩ = some (.int .u8 (rd (l.drop (5 * k)) 2)) := by obtain ⟨ad', e, h⟩ := Kd.at_int (HR2.out _ HG.out) 2 (by omega) (by omega); cases e; exact h
      have hx3 : wr.cell? ⟨ad.block, ad.off + 3, none⟩ = some (.int .u8 (rd (l.drop (5 * k)) 3)) := by obtain ⟨ad', e, h⟩ := Kd.at_int (HR2.out _ HG.out) 3 (by omega) (by omega); cases e; exact h
      have hx4 : wr.cell? ⟨ad.block, ad.off + 4, none⟩ = some (.int .u8 (rd (l.drop (5 * k)) 4)) := by obtain ⟨ad', e, h⟩ := Kd.at_int (HR2.out _ HG.out) 4 (by omega) (by omega); cases e; exact h
      obtain ⟨b0, hb0⟩ : ∃ b, b = l.getD (5 * k) 0 := ⟨_, rfl⟩
      obtain ⟨b1, hb1⟩ : ∃ b, b = l.getD (5 * k + 1) 0 := ⟨_, rfl⟩
      obtain ⟨b2, hb2⟩ : ∃ b, b = l.getD (5 * k + 2) 0 := ⟨_, rfl⟩
      obtain ⟨b3, hb3⟩ : ∃ b, b = l.getD (5 * k + 3) 0 := ⟨_, rfl⟩
      obtain ⟨b4, hb4⟩ : ∃ b, b = l.getD (5 * k + 4) 0 := ⟨_, rfl⟩
      rw [show rd (l.drop (5 * k)) 0 = b0 from (rd_drop l (5 * k) 0).trans hb0.symm] at hx0
      rw [show rd (l.drop (5 * k)) 1 = b1 from (rd_drop l (5 * k) 1).trans hb1.symm] at hx1
      rw [show rd (l.drop (5 * k)) 2 = b2 from (rd_drop l (5 * k) 2).trans hb2.symm] at hx2
      rw [show rd (l.drop (5 * k)) 3 = b3 from (rd_drop l (5 * k) 3).trans hb3.symm] at hx3
      rw [show rd (l.drop (5 * k)) 4 = b4 from (rd_drop l (5 * k) 4).trans hb4.symm] at hx4
      have hbb : ∀ i : Nat, i < l.length → 0 ≤ l.getD i 0 ∧ l.getD i 0 ≤ 255 := by
        intro i hi
        rw [List.getD_eq_getElem?_getD, List.getElem?_eq_getElem hi]
        exact HB.out _ (List.getElem_mem hi)
      have B0 : 0 ≤ b0 ∧ b0 ≤ 255 := by rw [hb0]; exact hbb _ (by omega)
      have B1 : 0 ≤ b1 ∧ b1 ≤ 255 := by rw [hb1]; exact hbb _ (by omega)
      have B2 : 0 ≤ b2 ∧ b2 ≤ 255 := by rw [hb2]; exact hbb _ (by omega)
      have B3 : 0 ≤ b3 ∧ b3 ≤ 255 := by rw [hb3]; exact hbb _ (by omega)
      have B4 : 0 ≤ b4 ∧ b4 ≤ 255 := by rw [hb4]; exact hbb _ (by omega)
      have HSTEP := Aside0.mk (fill_step l k m hlt h8 hb0 hb1 hb2 hb3 hb4)
      clear hb0 hb1 hb2 hb3 hb4 hbb hdl
      have hcl : 0 < l.length - 5 * k ∧ 1 < l.length - 5 * k ∧ 2 < l.length - 5 * k ∧ 3 < l.length - 5 * k ∧ 4 < l.length - 5 * k := by omega
      have hcm : 7 < m - 8 * k := by omega
      have hdc : ∀ j : Nat, j < 8 → ∃ x, wr.cell? ⟨db, 8 * k + j, none⟩ = some (.int .u8 x) := fun j hj => ⟨_, (HD2.out.cell _).trans (u8s_at _ _ (by rw [fillE_length l k m hk5 hk8]; omega))⟩
      obtain ⟨y0, d0⟩ := hdc 0 (by omega)
      replace d0 : wr.cell? ⟨db, 8 * k, none⟩ = some (.int .u8 y0) := d0
      obtain ⟨y1, d1⟩ := hdc 1 (by omega)
      obtain ⟨y2, d2⟩ := hdc 2 (by omega)
      obtain ⟨y3, d3⟩ := hdc 3 (by omega)
      obtain ⟨y4, d4⟩ := hdc 4 (by omega)
      obtain ⟨y5, d5⟩ := hdc 5 (by omega)
      obtain ⟨y6, d6⟩ := hdc 6 (by omega)
      obtain ⟨y7, d7⟩ := hdc 7 (by omega)
      have f0 : ∀ i, wr.frozen? ⟨db, i, none⟩ = false := fun i => HD2.out.frozen i
      have HER : EncAt wr g := blk_grown HE.out HG.out (by simpa using hgd)
      obtain ⟨hi, hhi⟩ : ∃ hi, hi = b0 * 16777216 + b1 * 65536 + b2 * 256 + b3 := ⟨_, rfl⟩
      have Hhi := (hi_eq B0 B1 B2 B3).trans hhi.symm
      have Bhi : 0 ≤ hi ∧ hi < 4294967296 := by omega
      obtain ⟨lo, hlo⟩ : ∃ lo, lo = hi * 256 % 4294967296 + b4 := ⟨_, rfl⟩
      have Hlo := (lo_eq Bhi B4).trans hlo.symm
      have Blo : 0 ≤ lo ∧ lo < 4294967296 := by omega
      have E0 : bits .and .u32 (hi / 134217728) 31 = b0 / 8 := (e_eq 134217728 (by omega) Bhi.1 Bhi.2).trans (by omega)
      have E1 : bits .and .u32 (hi / 4194304) 31 = b0 % 8 * 4 + b1 / 64 := (e_eq 4194304 (by omega) Bhi.1 Bhi.2).trans (by omega)
      have E2 : bits .and .u32 (hi / 131072) 31 = b1 / 2 % 32 := (e_eq 131072 (by omega) Bhi.1 Bhi.2).trans (by omega)
      have E3 : bits .and .u32 (hi / 4096) 31 = b1 % 2 * 16 + b2 / 16 := (e_eq 4096 (by omega) Bhi.1 Bhi.2).trans (by omega)
      have E4 : bits .and .u32 (hi / 128) 31 = b2 % 16 * 2 + b3 / 128 := (e_eq 128 (by omega) Bhi.1 Bhi.2).trans (by omega)
      have E5 : bits .and .u32 (hi / 4) 31 = b3 / 4 % 32 := (e_eq 4 (by omega) Bhi.1 Bhi.2).trans (by omega)
      have E6 : bits .and .u32 (lo / 32) 31 = b3 % 4 * 8 + b4 / 32 := (e_eq 32 (by omega) Blo.1 Blo.2).trans (by omega)
      have E7 : bits .and .u32 lo 31 = b4 % 32 := (u32_and31 Blo.1 Blo.2).trans (by omega)
      clear hhi hlo
      obtain ⟨e0, he0⟩ : ∃ e, e = b0 / 8 := ⟨_, rfl⟩
      obtain ⟨e1, he1⟩ : ∃ e, e = b0 % 8 * 4 + b1 / 64 := ⟨_, rfl⟩
      obtain ⟨e2, he2⟩ : ∃ e, e = b1 / 2 % 32 := ⟨_, rfl⟩
      obtain ⟨e3, he3⟩ : ∃ e, e = b1 % 2 * 16 + b2 / 16 := ⟨_, rfl⟩
      obtain ⟨e4, he4⟩ : ∃ e, e = b2 % 16 * 2 + b3 / 128 := ⟨_, rfl⟩
      obtain ⟨e5, he5⟩ : ∃ e, e = b3 / 4 % 32 := ⟨_, rfl⟩
      obtain ⟨e6, he6⟩ : ∃ e, e = b3 % 4 * 8 + b4 / 32 := ⟨_, rfl⟩
      obtain ⟨e7, he7⟩ : ∃ e, e = b4 % 32 := ⟨_, rfl⟩
      have R0 : 0 ≤ e0 ∧ e0 < 32 := by omega
      have R1 : 0 ≤ e1 ∧ e1 < 32 := by omega
      have R2 : 0 ≤ e2 ∧ e2 < 32 := by omega
      have R3 : 0 ≤ e3 ∧ e3 < 32 := by omega
      have R4 : 0 ≤ e4 ∧ e4 < 32 := by omega
      have R5 : 0 ≤ e5 ∧ e5 < 32 := by omega
      have R6 : 0 ≤ e6 ∧ e6 < 32 := by omega
      have R7 : 0 ≤ e7 ∧ e7 < 32 := by omega
      rw [← he0] at E0 HSTEP; rw [← he1] at E1 HSTEP; rw [← he2] at E2 HSTEP; rw [← he3] at E3 HSTEP; rw [← he4] at E4 HSTEP; rw [← he5] at E5 HSTEP; rw [← he6] at E6 HSTEP; rw [← he7] at E7 HSTEP
      clear he0 he1 he2 he3 he4 he5 he6 he7
      have L0 := HER.letter e0 R0.1 R0.2
      have L1 := HER.letter e1 R1.1 R1.2
      have L2 := HER.letter e2 R2.1 R2.2
      have L3 := HER.letter e3 R3.1 R3.2
      have L4 := HER.letter e4 R4.1 R4.2
      have L5 := HER.letter e5 R5.1 R5.2
      have L6 := HER.letter e6 R6.1 R6.2
      have L7 := HER.letter e7 R7.1 R7.2
      clear HER
      go_wp2
      go_region
      go_wp2
      refine ⟨⟨k + 1, if m - 8 * k = 8 then ⟨db, 8 * k, none⟩ else ⟨db, 8 * k + 8, none⟩, if c2 = 5 then some ad else some ⟨ad.block, ad.off + 5, none⟩, c2 - 5, by omega, by omega, ?_, ?_, ?_, by omega, ⟨?_⟩, ⟨?_⟩, ⟨?_⟩⟩, ?_⟩
      · rw [show m - 8 * (k + 1) = m - 8 * k - 8 by omega]; split <;> rfl
      · intro h; rw [if_neg (by omega)]; rfl
      · rw [show l.length - 5 * (k + 1) = l.length - 5 * k - 5 by omega]
      · intro W hW
        have hdl : (l.drop (5 * k)).length = l.length - 5 * k := List.length_drop
        have h := Kd.C_drop (c := c2) (m := 5) (HR2.out W hW) (by omega) (by omega)
        rw [List.drop_drop] at h
        exact h
      · exact grown_drew (grown_set (grown_set (grown_set (grown_set (grown_set (grown_set (grown_set (grown_set HG.out _ _) _ _) _ _) _ _) _ _) _ _) _ _) _ _)
      · rw [← HSTEP.out]
        exact ((((((((HD2.out.putb _ _).putb _ _).putb _ _).putb _ _).putb _ _).putb _ _).putb _ _).putb _ _).drew
      · show l.length - 5 * k - 5 < l.length - 5 * k
        omega
    · by_cases hz : l.length = 5 * k
      · have hz0 : l.length - 5 * k = 0 := by omega
        have hm8 : m = 8 * k := by have := HM.out; unfold encLen at this; omega
        have HZ := Aside0.mk hz
        clear hz
        rw [hz0]
        clear hz0
        go_wp2
        refine bodyPost_ret (results_none rfl _ _ _) rfl ⟨rfl, ?_, HG.out⟩
        have h := HD2.out
        rw [hm8, fill_last l k HZ.out.symm] at h
        exact h
      · have hz0 : l.length - 5 * k = 1 := by omega
        have hm8 : m = 8 * k + 2 := by have := HM.out; unfold encLen at this; omega
        obtain rfl : a1 = ⟨db, 8 * k, none⟩ := ha1 (by omega)
        clear ha1
        have hdl : (l.drop (5 * k)).length = l.length - 5 * k := List.length_drop
        obtain ⟨ad, eA, hx0⟩ := Kd.at_int (HR2.out _ HG.out) 0 (by omega) (by omega)
        cases eA
        replace hx0 : wr.cell? ad = some (.int .u8 (rd (l.drop (5 * k)) 0)) := hx0
        obtain ⟨b0, hb0⟩ : ∃ b, b = l.getD (5 * k) 0 := ⟨_, rfl⟩
        rw [show rd (l.drop (5 * k)) 0 = b0 from (rd_drop l (5 * k) 0).trans hb0.symm] at hx0
        have hbb : ∀ i : Nat, i < l.length → 0 ≤ l.getD i 0 ∧ l.getD i 0 ≤ 255 := by
          intro i hi
          rw [List.getD_eq_getElem?_getD, List.getElem?_eq_getElem hi]
          exact HB.out _ (List.getElem_mem hi)
        have B0 : 0 ≤ b0 ∧ b0 ≤ 255 := by rw [hb0]; exact hbb _ (by omega)
        have HSTEP := Aside0.mk (fill_one l k (by omega) hb0)
        clear hb0 hbb hdl
        have hdc : ∀ j : Nat, j < 2 → ∃ x, wr.cell? ⟨db, 8 * k + j, none⟩ = some (.int .u8 x) := fun j hj => ⟨_, (HD2.out.cell _).trans (u8s_at _ _ (by rw [fillE_length l k m hk5 hk8]; omega))⟩
        obtain ⟨y0, d0⟩ := hdc 0 (by omega)
        replace d0 : wr.cell? ⟨db, 8 * k, none⟩ = some (.int .u8 y0) := d0
        obtain ⟨y1, d1⟩ := hdc 1 (by omega)
        clear hdc
        have f0 : ∀ i, wr.frozen? ⟨db, i, none⟩ = false := fun i => HD2.out.frozen i
        have HER : EncAt wr g := blk_grown HE.out HG.out (by simpa using hgd)
        obtain ⟨v, hv⟩ : ∃ v, v = b0 * 16777216 := ⟨_, rfl⟩
        have Bv : 0 ≤ v ∧ v < 4294967296 := by omega
        have Hv : bits .or .u32 0 (b0 * 16777216) = v := (u32_or_zero (by omega) (by omega)).trans hv.symm
        have E0 : bits .and .u32 (v / 134217728) 31 = b0 / 8 := (e_eq 134217728 (by omega) Bv.1 Bv.2).trans (by omega)
        have E1 : bits .and .u32 (v / 4194304) 31 = b0 % 8 * 4 := (e_eq 4194304 (by omega) Bv.1 Bv.2).trans (by omega)
        clear hv
        obtain ⟨e0, he0⟩ : ∃ e, e = b0 / 8 := ⟨_, rfl⟩
        obtain ⟨e1, he1⟩ : ∃ e, e = b0 % 8 * 4 := ⟨_, rfl⟩
        have R0 : 0 ≤ e0 ∧ e0 < 32 := by omega
        have R1 : 0 ≤ e1 ∧ e1 < 32 := by omega
        rw [← he0] at E0 HSTEP; rw [← he1] at E1 HSTEP
        clear he0 he1
        have L0 := HER.letter e0 R0.1 R0.2
        have L1 := HER.letter e1 R1.1 R1.2
        have P0 := HER.pad
        clear HER
        have hcm : m - 8 * k = 2 := by omega
        rw [hz0, hcm]
        have HM8 := Aside0.mk hm8
        clear hz0 hcm hm8
        go_wp2
        refine bodyPost_end (results_none rfl _ _ _) rfl ⟨rfl, ?_, ?_⟩
        · rw [← HSTEP.out, ← HM8.out]
          exact (HD2.out.putb _ _).putb _ _
        · exact grown_set (grown_set HG.out _ _) _ _
end Go.Proofs.Ytmmhifomfbdfjaa
