/- nkeys.decode, nkeys.Decode and impl.Decode; what is read back out of a key's text. -/
import Derived.Test.YtmmhifomfbdfjaaDec64
import Derived.Test.YtmmhifomfbdfjaaEncT
namespace Go.Proofs.Ytmmhifomfbdfjaa
open Go.RowKit Go.Proofs.YtmmhifomfbdfjaaW.PrintWords Go.Proofs.YtmmhifomfbdfjaaW.PrintLast Go.Proofs.YtmmhifomfbdfjaaW.PrintMore
set_option linter.unusedVariables false
set_option linter.unusedSimpArgs false

theorem le16_any (w : World) (A : Option Addr) (cap : Nat) (x y : Int) (hr : Rds w A [x, y]) (hc : 2 ≤ cap) (hx : 0 ≤ x ∧ x ≤ 255) (hy : 0 ≤ y ∧ y ≤ 255) :
    Calls Try.prog 65 #[.slice A 2 cap] w fun e w' => e = .returned (.int .u16 (x + y * 256)) ∧ Below w.heap.size w w' := by
  refine (PDecode.nkeys_le16.calls A cap [x, y] (x + y * 256) w hr hc ?_).mono fun _ _ h => ⟨h.1, h.2.below⟩
  unfold PDecode.nkeys_le16.f
  simp only [List.length_cons, List.length_nil]
  rw [if_pos (by decide), if_pos (by decide)]
  have e0 : rd [x, y] 0 = x := rfl
  have e1 : rd [x, y] 1 = y := rfl
  rw [e0, e1, IntKind.wrap_u16, IntKind.wrap_u16, IntKind.wrap_u16, show x % 65536 = x by omega, show y % 65536 = y by omega, show y * 256 % 65536 = y * 256 by omega]
  rw [u16_or _ _ (by omega) (by omega) (by omega) (by omega), Nat.or_comm, nat_join 8 _ _ (by omega) (by omega)]
  congr 1; omega

set_option maxHeartbeats 400000 in
theorem validate_ok (w : World) (A : Option Addr) (cap : Nat) (l : List Int) (x : Int) (hr : Rds w A l) (hc : l.length ≤ cap) (hl : l.length ≤ 100000) (hb : ∀ x ∈ l, 0 ≤ x ∧ x ≤ 255) (hx : crcT l = x) :
    Calls Try.prog 66 #[.slice A l.length cap, .int .u16 x] w fun e w' => e = .returned .nilIface ∧ Below w.heap.size w w' := by
  have HR := Aside0.mk hr
  have HB := Aside0.mk hb
  have hq : (crcT l != x) = false := by rw [hx]; simp
  clear hr hb hx
  go_enter Try.func66, Try.ntmps66
  go_wp2_with fail
  refine (crc16_any w A cap l HR.out hc hl HB.out).mono ?_
  rintro e w1 ⟨rfl, hb1⟩
  have B1 := Aside0.mk hb1
  clear hb1
  go_wp2
  go_ret
  exact ⟨rfl, B1.out⟩
set_option maxHeartbeats 400000 in
theorem validate_bad (w : World) (A : Option Addr) (cap : Nat) (l : List Int) (x : Int) (hr : Rds w A l) (hc : l.length ≤ cap) (hl : l.length ≤ 100000) (hb : ∀ x ∈ l, 0 ≤ x ∧ x ≤ 255) (hx : crcT l ≠ x) :
    Calls Try.prog 66 #[.slice A l.length cap, .int .u16 x] w fun e w' => (∃ t, e = .returned (.iface 59 (.string t))) ∧ Below w.heap.size w w' := by
  have HR := Aside0.mk hr
  have HB := Aside0.mk hb
  have hq : (crcT l != x) = true := by rw [bne_iff_ne]; exact hx
  clear hr hb hx
  go_enter Try.func66, Try.ntmps66
  go_wp2_with fail
  refine (crc16_any w A cap l HR.out hc hl HB.out).mono ?_
  rintro e w1 ⟨rfl, hb1⟩
  have B1 := Aside0.mk hb1
  clear hb1
  go_wp2
  go_ret
  exact ⟨⟨_, rfl⟩, B1.out⟩

theorem decLen_nat (n : Nat) : ∃ m : Nat, (m : Int) = decLen n := ⟨(decLen n).toNat, by unfold decLen; omega⟩
theorem decN_le (n : Nat) {m : Nat} (h : (m : Int) = decLen n) : decN n ≤ m := by unfold decLen at h; unfold decN; split <;> (try split) <;> (try split) <;> (try split) <;> omega

theorem pack_range {v0 v1 v2 v3 v4 v5 v6 v7 : Int} (h0 : 0 ≤ v0 ∧ v0 < 32) (h1 : 0 ≤ v1 ∧ v1 < 32) (h2 : 0 ≤ v2 ∧ v2 < 32) (h3 : 0 ≤ v3 ∧ v3 < 32) (h4 : 0 ≤ v4 ∧ v4 < 32) (h5 : 0 ≤ v5 ∧ v5 < 32) (h6 : 0 ≤ v6 ∧ v6 < 32) (h7 : 0 ≤ v7 ∧ v7 < 32) :
    ∀ x ∈ pack v0 v1 v2 v3 v4 v5 v6 v7, 0 ≤ x ∧ x ≤ 255 := by
  intro x hx
  simp only [pack, List.mem_cons, List.not_mem_nil, or_false] at hx
  rcases hx with rfl | rfl | rfl | rfl | rfl <;> omega
theorem decB_range' : ∀ (l : List Int), (∀ x ∈ l, 0 ≤ decV x ∧ decV x < 32) → ∀ x ∈ decB l, 0 ≤ x ∧ x ≤ 255
  | c0 :: c1 :: c2 :: c3 :: c4 :: c5 :: c6 :: c7 :: r, h => by
    intro x hx
    rw [decB, List.mem_append] at hx
    rcases hx with hx | hx
    · exact pack_range (h _ (by simp)) (h _ (by simp)) (h _ (by simp)) (h _ (by simp)) (h _ (by simp)) (h _ (by simp)) (h _ (by simp)) (h _ (by simp)) x hx
    · exact decB_range' r (fun y hy => h y (by simp [hy])) x hx
  | [_, _, _, _, _, _, _], h => fun x hx => pack_range (h _ (by simp)) (h _ (by simp)) (h _ (by simp)) (h _ (by simp)) (h _ (by simp)) (h _ (by simp)) (h _ (by simp)) (by omega) x (List.mem_of_mem_take hx)
  | [_, _, _, _, _, _], h => by simp [decB]
  | [_, _, _, _, _], h => fun x hx => pack_range (h _ (by simp)) (h _ (by simp)) (h _ (by simp)) (h _ (by simp)) (h _ (by simp)) (by omega) (by omega) (by omega) x (List.mem_of_mem_take hx)
  | [_, _, _, _], h => fun x hx => pack_range (h _ (by simp)) (h _ (by simp)) (h _ (by simp)) (h _ (by simp)) (by omega) (by omega) (by omega) (by omega) x (List.mem_of_mem_take hx)
  | [_, _, _], h => by simp [decB]
  | [_, _], h => fun x hx => pack_range (h _ (by simp)) (h _ (by simp)) (by omega) (by omega) (by omega) (by omega) (by omega) (by omega) x (List.mem_of_mem_take hx)
  | [_], h => by simp [decB]
  | [], h => by simp [decB]
theorem decB_range (s : List Int) (h : ∀ t, t < s.length → 0 ≤ decV (s.getD t 0) ∧ decV (s.getD t 0) < 32) : ∀ x ∈ decB s, 0 ≤ x ∧ x ≤ 255 := by
  refine decB_range' s fun x hx => ?_
  obtain ⟨i, hi, rfl⟩ := List.mem_iff_getElem.1 hx
  have := h i hi
  rwa [List.getD_eq_getElem?_getD, List.getElem?_eq_getElem hi] at this

theorem seg_rds {w : World} {g off : Nat} {D l : List Int} (h : Blk w g 5 (u8s D).toArray) (hl : l.length ≤ 1000000) (hd : ∀ j, j < l.length → D[off + j]? = l[j]?) : Rds w (some ⟨g, off, none⟩) l := by
  refine Kd.C_of_reads (enc := Value.int .u8) (d := (0 : Int)) (h1 := fun _ => rfl) ⟨rfl, by omega, fun _ => ⟨_, rfl, fun j hj => ?_⟩⟩
  have hadd : (⟨g, off, none⟩ : Addr).add j = ⟨g, off + j, none⟩ := by unfold Addr.add; split <;> simp_all
  rw [hadd, h.cell]
  have e := hd j hj
  rw [List.getElem?_eq_getElem hj] at e
  simp [u8s, e, rd, List.getElem?_eq_getElem hj]

/-- The text's bytes end with their check. -/
def checks (s : List Int) : Prop := 4 ≤ decN s.length ∧ crcT ((decB s).take (decN s.length - 2)) = (decB s).getD (decN s.length - 2) 0 + (decB s).getD (decN s.length - 1) 0 * 256

def DecKPost (w : World) (s : List Int) (p : Nat) (e : Ending) (w' : World) : Prop :=
  Below w.heap.size w w' ∧
  (p = s.length ∧ checks s → ∃ A' c', e = .returned (.tuple #[.slice A' (decN s.length - 2) c', .nilIface]) ∧ decN s.length - 2 ≤ c' ∧ Rds w' A' ((decB s).take (decN s.length - 2))) ∧
  (¬ (p = s.length ∧ checks s) → ∃ t v, e = .returned (.tuple #[.slice none 0 0, .iface t v]))

set_option maxHeartbeats 1600000 in
set_option maxRecDepth 100000 in
theorem decodeK (w : World) (cap p : Nat) (A : Option Addr) (s : List Int) (hr : Rds w A s) (hc : s.length ≤ cap) (ht : Txt s p) :
    Calls Try.prog 58 #[.slice A s.length cap] w (DecKPost w s p) := by
  obtain ⟨m, hm⟩ := decLen_nat s.length
  have hN := decN_le s.length hm
  have HM := Aside0.mk hm
  have HR := Aside0.mk hr
  have HT := Aside0.mk ht
  have hs := ht.short
  have hm1 : m ≤ 10000 := by unfold decLen at hm; omega
  clear hr ht hm
  go_enter Try.func58, Try.ntmps58
  go_wp2_with fail
  refine (b32enc w).mono ?_
  rintro e w1 ⟨g, rfl, hg1, he1, hb1⟩
  have E1 := Aside0.mk he1
  have B1 := Aside0.mk hb1
  clear hg1 he1 hb1
  go_wp2_with fail
  refine (decodedLenM w1 g s.length E1.out (by omega) (by omega)).mono ?_
  rintro e w' ⟨rfl, rfl⟩
  go_wp2_with ((with_reducible refine gate_dst (N := 13) rfl ?_); refine make_any rfl (.tmp 12) (.tmp 12) rfl (decLen s.length) m HM.out.symm rfl rfl (by omega) ?_)
  obtain ⟨w2, hw2⟩ : ∃ w2, w2 = w1.alloc (.cells (u8s (List.replicate m 0)).toArray 5) := ⟨_, rfl⟩
  obtain ⟨db, hdb⟩ : ∃ db, db = w1.heap.size := ⟨_, rfl⟩
  have K2 := Aside0.mk (show Blk w2 db 5 (u8s (List.replicate m 0)).toArray by rw [hw2, hdb]; exact Blk.new _ _ _)
  have B2 := Aside0.mk (show Below w.heap.size w w2 by rw [hw2]; exact below_alloc B1.out _)
  have hwd : w.heap.size ≤ db := by rw [hdb]; exact B1.out.size
  rw [← hw2, ← hdb]
  clear hw2 hdb B1 E1
  refine (b32enc w2).mono ?_
  rintro e w3 ⟨g2, rfl, hg3, he3, hb3⟩
  have E3 := Aside0.mk he3
  have B3 := Aside0.mk (below_step B2.out hb3)
  have K3 := Aside0.mk (K2.out.below hb3)
  clear hg3 he3 hb3 K2 B2
  go_wp2_with fail
  refine (decode64 w3 g2 db m cap p A s E3.out (Kd.C_below HR.out B3.out) hc K3.out hN HT.out).mono ?_
  rintro e w4 ⟨hg4, hok, hbad⟩
  have B4 := Aside0.mk (show Below w.heap.size w w4 from B3.out.grown hg4 B3.out.size (by intro k hk; injection hk with hk; omega))
  clear hg4 K3 B3 E3
  by_cases hp : p = s.length
  · obtain ⟨rfl, hk4⟩ := hok hp
    have K4 := Aside0.mk hk4
    have HP := Aside0.mk hp
    clear hok hbad hk4 hp
    have HB := Aside0.mk (decB_range s (by intro t ht; exact HT.out.fine t (by rw [HP.out]; exact ht)))
    have HL := Aside0.mk (decB_len s)
    obtain ⟨N, hNd⟩ : ∃ N, N = decN s.length := ⟨_, rfl⟩
    rw [← hNd] at hN
    have HN := Aside0.mk hNd
    rw [← hNd]
    clear hNd
    by_cases h4 : N < 4
    · go_wp2
      go_ret2
      refine ⟨B4.out, fun h => ?_, fun _ => ⟨_, _, rfl⟩⟩
      have := h.2.1; rw [← HN.out] at this; omega
    · go_wp2_with fail
      obtain ⟨D, hD⟩ : ∃ D, D = decB s := ⟨_, rfl⟩
      have hDl : D.length = N := by rw [hD, HL.out, HN.out]
      have hDr : ∀ i, 0 ≤ D.getD i 0 ∧ D.getD i 0 ≤ 255 := by
        intro i
        rw [List.getD_eq_getElem?_getD]
        by_cases hi : i < D.length
        · rw [List.getElem?_eq_getElem hi]; exact HB.out _ (by rw [← hD]; exact List.getElem_mem _)
        · rw [List.getElem?_eq_none (by omega)]; simp
      have KD := Aside0.mk (show Blk w4 db 5 (u8s (D ++ List.replicate (m - N) 0)).toArray by rw [hD, HN.out]; exact K4.out)
      have ED := Aside0.mk hD
      have HDr := Aside0.mk hDr
      have HDl := Aside0.mk hDl
      have hx := hDr (N - 2)
      have hy := hDr (N - 1)
      obtain ⟨x, ex⟩ : ∃ x, x = D.getD (N - 2) 0 := ⟨_, rfl⟩
      obtain ⟨y, ey⟩ : ∃ y, y = D.getD (N - 1) 0 := ⟨_, rfl⟩
      rw [← ex] at hx
      rw [← ey] at hy
      have EX := Aside0.mk ex
      have EY := Aside0.mk ey
      clear hD hDr ex ey K4 hDl
      rw [show N - (N - 2) = 2 by omega]
      refine (le16_any w4 _ (m - (N - 2)) x y (seg_rds KD.out (by simp) ?_) (by omega) hx hy).mono ?_
      · intro j hj
        have hl := HDl.out
        have e1 := EX.out
        have e2 := EY.out
        rw [List.getD_eq_getElem?_getD, List.getElem?_eq_getElem (by omega)] at e1 e2
        match j, hj with
        | 0, _ => rw [List.getElem?_append_left (by omega), Nat.add_zero, List.getElem?_eq_getElem (by omega), e1]; rfl
        | 1, _ => rw [List.getElem?_append_left (by omega), show N - 2 + 1 = N - 1 by omega, List.getElem?_eq_getElem (by omega), e2]; rfl
        | j + 2, hj => simp at hj; omega
      rintro e w5 ⟨rfl, hb5⟩
      have B5 := Aside0.mk (below_step B4.out hb5)
      have K5 := Aside0.mk (KD.out.below hb5)
      clear hb5 KD B4
      go_wp2_with fail
      have hTl : (D.take (N - 2)).length = N - 2 := by rw [List.length_take, HDl.out]; omega
      have hTr : ∀ x ∈ D.take (N - 2), 0 ≤ x ∧ x ≤ 255 := fun x hx => HB.out x (by rw [← ED.out]; exact List.mem_of_mem_take hx)
      have hseg : ∀ W, Blk W db 5 (u8s (D ++ List.replicate (m - N) 0)).toArray → Rds W (some ⟨db, 0, none⟩) (D.take (N - 2)) := by
        intro W hW
        refine seg_rds hW (by rw [hTl]; omega) ?_
        intro j hj
        rw [hTl] at hj
        rw [Nat.zero_add, List.getElem?_append_left (by have := HDl.out; omega), List.getElem?_take, if_pos hj]
      have HS := Aside0.mk hseg
      have HT2 := Aside0.mk hTr
      have HT1 := Aside0.mk hTl
      have HC := Aside0.mk (show checks s ↔ crcT (D.take (N - 2)) = x + y * 256 by
        unfold checks
        rw [← HN.out, ← ED.out, ← EX.out, ← EY.out]
        exact ⟨fun h => h.2, fun h => ⟨by omega, h⟩⟩)
      clear hseg hTl hTr
      by_cases hq : crcT (D.take (N - 2)) = x + y * 256
      · have HQ := Aside0.mk hq
        clear hq
        have hv := validate_ok w5 (some ⟨db, 0, none⟩) m (D.take (N - 2)) (x + y * 256) (HS.out w5 K5.out) (by rw [HT1.out]; omega) (by rw [HT1.out]; omega) HT2.out HQ.out
        rw [HT1.out] at hv
        refine hv.mono ?_
        clear hv
        rintro e w6 ⟨rfl, hb6⟩
        have B6 := Aside0.mk (below_step B5.out hb6)
        have K6 := Aside0.mk (K5.out.below hb6)
        clear hb6 K5 B5
        go_wp2
        go_ret2
        refine ⟨B6.out, fun _ => ⟨some ⟨db, 0, none⟩, m, ?_, ?_, ?_⟩, fun h => absurd ⟨HP.out, HC.out.2 HQ.out⟩ h⟩
        · rw [← HN.out]; rfl
        · rw [← HN.out]; omega
        · rw [← HN.out, ← ED.out]; exact HS.out w6 K6.out
      · have HQ := Aside0.mk hq
        clear hq
        have hv := validate_bad w5 (some ⟨db, 0, none⟩) m (D.take (N - 2)) (x + y * 256) (HS.out w5 K5.out) (by rw [HT1.out]; omega) (by rw [HT1.out]; omega) HT2.out HQ.out
        rw [HT1.out] at hv
        refine hv.mono ?_
        clear hv
        rintro e w6 ⟨⟨t, rfl⟩, hb6⟩
        have B6 := Aside0.mk (below_step B5.out hb6)
        clear hb6 K5 B5
        go_wp2
        go_ret2
        exact ⟨B6.out, fun h => absurd (HC.out.1 h.2) HQ.out, fun _ => ⟨_, _, rfl⟩⟩
  · obtain ⟨n, x, rfl⟩ := hbad (by have := HT.out.place; omega)
    have HP := Aside0.mk hp
    clear hok hbad hp
    go_wp2
    go_ret2
    exact ⟨B4.out, fun h => absurd h.1 HP.out, fun _ => ⟨_, _, rfl⟩⟩
end Go.Proofs.Ytmmhifomfbdfjaa
namespace Go.Proofs.Ytmmhifomfbdfjaa
open Go.RowKit Go.Proofs.YtmmhifomfbdfjaaW.PrintWords Go.Proofs.YtmmhifomfbdfjaaW.PrintLast Go.Proofs.YtmmhifomfbdfjaaW.PrintMore
set_option linter.unusedVariables false
set_option linter.unusedSimpArgs false

theorem and248 {x : Int} (h0 : 0 ≤ x) (h1 : x ≤ 255) : bits .and .u8 x 248 = x / 8 * 8 := by
  have h : ∀ n : Fin 256, bits .and .u8 (n.val : Int) 248 = (n.val : Int) / 8 * 8 := by decide +kernel
  have e := h ⟨x.toNat, by omega⟩
  simp only [Int.toNat_of_nonneg h0] at e
  exact e

/-- The text reads as the bytes of a key of this first byte. -/
def good (c : Int) (s : List Int) (p : Nat) : Prop := p = s.length ∧ checks s ∧ (decB s).getD 0 0 / 8 * 8 = c

def DecIPost (w : World) (c : Int) (s : List Int) (p : Nat) (e : Ending) (w' : World) : Prop :=
  Below w.heap.size w w' ∧
  (good c s p → ∃ A' n c', e = .returned (.tuple #[.slice A' n c', .nilIface]) ∧ n = decN s.length - 3 ∧ n ≤ c' ∧ Rds w' A' (((decB s).take (decN s.length - 2)).drop 1)) ∧
  (¬ good c s p → ∃ t v, e = .returned (.tuple #[.slice none 0 0, .iface t v]))

set_option maxHeartbeats 1600000 in
set_option maxRecDepth 100000 in
theorem decodeI (w : World) (cap p : Nat) (c : Int) (A : Option Addr) (s : List Int) (hcp : Pref c) (hr : Rds w A s) (hc : s.length ≤ cap) (ht : Txt s p) :
    Calls Try.prog 30 #[.int .u8 c, .slice A s.length cap] w (DecIPost w c s p) := by
  have HR := Aside0.mk hr
  have HT := Aside0.mk ht
  have HC := Aside0.mk hcp
  have HB := Aside0.mk (show p = s.length → ∀ x ∈ decB s, 0 ≤ x ∧ x ≤ 255 from fun hp => decB_range s (by intro t htt; exact ht.fine t (by rw [hp]; exact htt)))
  clear hr ht hcp
  go_enter Try.func30, Try.ntmps30
  go_wp2_with (go_at_call 57; refine (check_ok _ c HC.out).mono ?_; rintro e w' ⟨rfl, rfl⟩)
  refine (decodeK w cap p A s HR.out hc HT.out).mono ?_
  rintro e w1 ⟨hb1, hok, hbad⟩
  have B1 := Aside0.mk hb1
  clear hb1
  by_cases hp : p = s.length ∧ checks s
  · obtain ⟨A1, c1, rfl, hc1, hr1⟩ := hok hp
    have HP := Aside0.mk hp
    have hN : 4 ≤ decN s.length := hp.2.1
    have hL : (decB s).length = decN s.length := decB_len s
    have HBB := Aside0.mk (HB.out hp.1)
    clear hok hbad hp
    obtain ⟨N, hNd⟩ : ∃ N, N = decN s.length := ⟨_, rfl⟩
    rw [← hNd] at hN hL hc1 hr1
    have HN := Aside0.mk hNd
    rw [← hNd]
    clear hNd
    obtain ⟨D, hD⟩ : ∃ D, D = decB s := ⟨_, rfl⟩
    rw [← hD] at hr1 hL
    have ED := Aside0.mk hD
    clear hD
    have hx : 0 ≤ D.getD 0 0 ∧ D.getD 0 0 ≤ 255 := by
      rw [List.getD_eq_getElem?_getD, List.getElem?_eq_getElem (by omega)]
      exact HBB.out _ (by rw [← ED.out]; exact List.getElem_mem _)
    obtain ⟨x, ex⟩ : ∃ x, x = D.getD 0 0 := ⟨_, rfl⟩
    rw [← ex] at hx
    have hTl : (D.take (N - 2)).length = N - 2 := by rw [List.length_take, hL]; omega
    have hx0 := Kd.at_int hr1 0 (by omega) (by rw [hTl]; omega)
    obtain ⟨ad, rfl, hcell⟩ := hx0
    replace hcell : w1.cell? ad = some (.int .u8 x) := by
      have e : rd (D.take (N - 2)) 0 = x := by rw [ex, rd, List.getD_eq_getElem?_getD, List.getElem?_take, if_pos (by show (0 : Int).toNat < N - 2; simp; omega), List.getD_eq_getElem?_getD]; rfl
      rw [e] at hcell
      exact hcell
    have hd1 := Kd.C_drop (m := 1) hr1 (by rw [hTl]; omega) (by rw [hTl]; exact hc1)
    rw [if_neg (by omega)] at hd1
    have HD1 := Aside0.mk hd1
    have HTl := Aside0.mk hTl
    have EX := Aside0.mk ex
    have hxa := and248 hx.1 hx.2
    clear hd1 hTl ex hr1 hL
    by_cases hq : x / 8 * 8 = c
    · have HQ := Aside0.mk hq
      have hg : (bits .and .u8 x 248 != c) = false := by rw [hxa, hq]; simp
      clear hq
      go_wp2_with fail
      go_ret2
      refine ⟨B1.out, fun _ => ⟨some ⟨ad.block, ad.off + 1, none⟩, N - 2 - 1, c1 - 1, rfl, by have := HN.out; omega, by omega, by rw [← HN.out, ← ED.out]; exact HD1.out⟩, fun h => absurd ⟨HP.out.1, HP.out.2, ?_⟩ h⟩
      rw [← ED.out, ← EX.out]; exact HQ.out
    · have HQ := Aside0.mk hq
      have hg : (bits .and .u8 x 248 != c) = true := by rw [hxa, bne_iff_ne]; exact hq
      clear hq
      go_wp2
      go_ret2
      exact ⟨B1.out, fun h => absurd h.2.2 (by rw [← ED.out, ← EX.out]; exact HQ.out), fun _ => ⟨_, _, rfl⟩⟩
  · obtain ⟨t, v, rfl⟩ := hbad hp
    have HP := Aside0.mk hp
    clear hok hbad hp
    go_wp2
    go_ret2
    exact ⟨B1.out, fun h => absurd ⟨h.1, h.2.1⟩ HP.out, fun _ => ⟨_, _, rfl⟩⟩
end Go.Proofs.Ytmmhifomfbdfjaa
namespace Go.Proofs.Ytmmhifomfbdfjaa
open Go.RowKit Go.Proofs.YtmmhifomfbdfjaaW.PrintWords Go.Proofs.YtmmhifomfbdfjaaW.PrintLast Go.Proofs.YtmmhifomfbdfjaaW.PrintMore
set_option linter.unusedVariables false
set_option linter.unusedSimpArgs false

/-- What a call leaves that writes only to new memory and to these blocks. -/
structure Left (w w' : World) (S : List Nat) : Prop where
  os : w'.os = w.os
  tape : w'.tape = w.tape
  output : w'.output = w.output
  size : w.heap.size ≤ w'.heap.size
  block : ∀ k, k < w.heap.size → k ∉ S → w'.heap[k]? = w.heap[k]?
theorem Left.of_below {w w' : World} (h : Below w.heap.size w w') (S : List Nat) : Left w w' S := ⟨h.os, h.tape, h.output, h.size, fun k hk _ => h.block k hk⟩
theorem Left.then {w w1 w2 : World} {S : List Nat} (h : Left w w1 S) (h2 : Below w1.heap.size w1 w2) : Left w w2 S :=
  ⟨h2.os.trans h.os, h2.tape.trans h.tape, h2.output.trans h.output, Nat.le_trans h.size h2.size, fun k hk hn => (h2.block k (Nat.lt_of_lt_of_le hk h.size)).trans (h.block k hk hn)⟩
theorem Left.set_ {w w' : World} {S : List Nat} (h : Left w w' S) {g : Nat} (hg : g ∈ S) (u : Value) : Left w (w'.setCell ⟨g, 0, none⟩ u) S :=
  ⟨h.os, h.tape, h.output, by have := h.size; simpa [World.setCell] using this, fun k hk hn => (Below.heap_setCell _ _ _ _ (by show k ≠ g; rintro rfl; exact hn hg)).trans (h.block k hk hn)⟩
theorem Left.blk {w w' : World} {S : List Nat} {g : Nat} {t : TypeId} {cs : Array Value} (h : Left w w' S) (hb : Blk w g t cs) (hn : g ∉ S) : Blk w' g t cs := (h.block g hb.lt hn).trans hb
theorem Left.under {w0 w w' : World} {S : List Nat} (h : Left w w' S) (h0 : Below w0.heap.size w0 w) (hs : ∀ k ∈ S, w0.heap.size ≤ k) : Below w0.heap.size w0 w' :=
  ⟨h.os.trans h0.os, h.tape.trans h0.tape, h.output.trans h0.output, Nat.le_trans h0.size h.size, fun k hk => (h.block k (Nat.lt_of_lt_of_le hk h0.size) (fun hm => by have := hs k hm; omega)).trans (h0.block k hk)⟩

theorem try_left (w : World) (F : FuncId) (caps : Array Value) (b : Bool) (S : List Nat) (T : World → Prop)
    (hcf : ∀ W : World, (callFunc F caps).run Try.prog W = .ok (.enter F caps) W) (hS : ∀ k ∈ S, k < w.heap.size)
    (hT : ∀ W, Blk W w.heap.size 4 #[.bool false] → T W → T (W.setCell ⟨w.heap.size, 0, none⟩ (.bool b)))
    (h : Calls Try.prog F caps (w.alloc (.cells #[.bool false] 4)) fun e w' => e = .returned (.bool b) ∧ Left (w.alloc (.cells #[.bool false] 4)) w' S ∧ T w') :
    Calls Try.prog 21 #[.func (.func F) #[] caps] w fun e w' => e = .returned (.bool b) ∧ Left w w' S ∧ T w' := by
  refine (try_any w F caps b (fun w' => Left (w.alloc (.cells #[.bool false] 4)) w' S ∧ T w') hcf (h.mono ?_)).mono ?_
  · rintro e w' ⟨he, hp, ht⟩
    exact ⟨he, hp.blk (Blk.new w 4 _) (fun hm => by have := hS _ hm; omega), hp, ht⟩
  · rintro e w' ⟨he, w1, ⟨hp, ht⟩, hb, rfl⟩
    refine ⟨he, ⟨hp.os, hp.tape, hp.output, ?_, ?_⟩, hT _ hb ht⟩
    · have := hp.size
      simp [World.setCell] at this ⊢
      omega
    · intro k hk hkn
      rw [Below.heap_setCell _ _ _ _ (by show k ≠ w.heap.size; omega), hp.block k (by simp; omega) hkn, Below.heap_alloc w _ k hk]

/-- The variable holds a row of these bytes, in memory that no other variable is in. -/
def Row (w : World) (g : Nat) (l : List Int) : Prop := ∃ v base, Blk w g 22 #[v] ∧ Own w base v l
theorem Row.set_ {w : World} {g g' t : Nat} {cs : Array Value} {l : List Int} (h : Row w g l) (hb : Blk w g' t cs) (ht : t ≠ 22) (h5 : t ≠ 5) (u : Value) : Row (w.setCell ⟨g', 0, none⟩ u) g l := by
  obtain ⟨v, base, h1, h2⟩ := h
  exact ⟨v, base, h1.far (p := ⟨g', 0, none⟩) (show g ≠ g' from blk_ne (show w.heap[g]? = some (.cells #[v] 22 (0, 0)) from h1) (show w.heap[g']? = some (.cells cs t (0, 0)) from hb) (fun e => ht e.symm)) u, Kd.R_set h2 hb (by intro q hq; simp [Kd.int, Kd.scalar] at hq; omega) 0 u⟩
theorem Row.put {w : World} {g base : Nat} {v v0 : Value} {l : List Int} (h1 : Blk w g 22 #[v0]) (h2 : Own w base v l) : Row (w.setCell ⟨g, 0, none⟩ v) g l :=
  ⟨v, base, h1.set_ 0 v, Kd.R_set h2 h1 (by intro q hq; simp [Kd.int, Kd.scalar] at hq; omega) 0 v⟩

set_option maxHeartbeats 400000 in
theorem clone_own (w : World) (A : Option Addr) (cap : Nat) (l : List Int) (hr : Rds w A l) (hc : l.length ≤ cap) (hl : l.length ≤ 1000) :
    Calls Try.prog 25 #[.slice A l.length cap] w fun e w' => ∃ A' n c', e = .returned (.slice A' n c') ∧ Own w' w.heap.size (.slice A' n c') l ∧ Below w.heap.size w w' := by
  rcases A with _ | ad
  · have h0 : l = [] := by
      rcases Nat.eq_zero_or_pos l.length with h | h
      · exact List.eq_nil_of_length_eq_zero h
      · obtain ⟨ad, e, _⟩ := hr.2.2 h
        cases e
    subst h0
    have hq : ∀ w : World, (binOp .eql 22 (.slice none 0 cap) (.slice none 0 0)).run Try.prog w = .ok (.bool true) w := fun w => Lib.run_eql_slice_nil (P := Try.prog) w 22 5 none 0 cap 0 0 Try.underlying22
    clear hr
    go_enter Try.func25, Try.ntmps25
    go_wp2
    refine bodyPost_ret (results_tmp rfl _ _ _) rfl ⟨none, 0, 0, rfl, Kd.R_nil _ _ _ _ _, Below.refl _ _⟩
  · have hq : ∀ w : World, (binOp .eql 22 (.slice (some ad) l.length cap) (.slice none 0 0)).run Try.prog w = .ok (.bool false) w := fun w => Lib.run_eql_slice_nil (P := Try.prog) w 22 5 (some ad) l.length cap 0 0 Try.underlying22
    have HR := Aside0.mk (Kd.C_alloc hr (.cells (u8s []).toArray 5))
    have HO := Aside0.mk (own_of_lit w w.heap.size [] (Nat.le_refl _) (by simp))
    have HB := Aside0.mk (below_alloc (Below.refl w.heap.size w) (.cells (u8s []).toArray 5))
    clear hr
    go_enter Try.func25, Try.ntmps25
    go_wp2_with ((with_reducible refine gate_dst (N := 7) rfl ?_); refine app_any w.heap.size rfl (.tmp 5) (.tmp 6) rfl (.slice (some ⟨w.heap.size, 0, none⟩) 0 0) [] l (some ad) l.length cap rfl rfl HO.out rfl HR.out ?hb2 ?hl2 ?_; (case hb2 => simp); (case hl2 => simp; omega); intro v1 w1 ho hg hat; have hol := fun k hk => own_base (Kd.R_own HO.out).choose_spec k hk; have HB1 := Aside0.mk (HB.out.grown hg (by simp) hol); obtain ⟨A1, n1, k1, e1⟩ := own_shape ho; have HR1 := Aside0.mk ho; clear ho hg hat; subst e1)
    exact bodyPost_ret (results_tmp rfl _ _ _) rfl ⟨A1, n1, k1, rfl, HR1.out, HB1.out⟩

theorem str_rds (W : World) (s : ByteArray) (hs : s.size ≤ 1000000) : Rds (Lib.bytesWorld W 5 s) (some ⟨W.heap.size, 0, none⟩) (bytesOf s) := by
  have h := bytes_reads W 5 s (by omega)
  rw [← bytesOf_length s] at h
  exact Kd.C_of_reads (enc := Value.int .u8) (d := (0 : Int)) (h1 := fun _ => rfl) h

set_option maxHeartbeats 800000 in
set_option maxRecDepth 100000 in
theorem decodeClo (w : World) (kb tb sb p : Nat) (k : Int) (s : ByteArray) (v0 : Value) (hk : w.cell? ⟨kb, 0, none⟩ = some (.int .i64 k)) (htx : w.cell? ⟨tb, 0, none⟩ = some (.string s))
    (hs : Blk w sb 22 #[v0]) (h0 : 0 ≤ k) (h1 : k < 6) (ht : Txt (bytesOf s) p) (hg : good (pk k) (bytesOf s) p) :
    Calls Try.prog 29 #[.pointer (some ⟨kb, 0, none⟩), .pointer (some ⟨tb, 0, none⟩), .pointer (some ⟨sb, 0, none⟩)] w fun e w' => e = .returned (.bool true) ∧ Left w w' [sb] ∧ Row w' sb (((decB (bytesOf s)).take (decN (bytesOf s).length - 2)).drop 1) := by
  have HT := Aside0.mk ht
  have HG := Aside0.mk hg
  have HS := Aside0.mk hs
  have HK := Aside0.mk hk
  have HTX := Aside0.mk htx
  have hsz : s.size ≤ 1000 := by have := ht.short; rwa [bytesOf_length] at this
  have hdn : (((decB (bytesOf s)).take (decN (bytesOf s).length - 2)).drop 1).length = decN (bytesOf s).length - 3 := by
    rw [List.length_drop, List.length_take, decB_len]; omega
  have hdl : decN (bytesOf s).length ≤ 1000 := by have := ht.short; unfold decN; split <;> (try split) <;> (try split) <;> (try split) <;> omega
  obtain ⟨R, eR⟩ : ∃ R, R = ((decB (bytesOf s)).take (decN (bytesOf s).length - 2)).drop 1 := ⟨_, rfl⟩
  rw [← eR] at hdn
  rw [← eR]
  have ER := Aside0.mk eR
  have HDN := Aside0.mk hdn
  have HDL := Aside0.mk hdl
  have kb' := fun W => print_bytes (P := Try.prog) 9 22 5 Try.underlying9 Try.underlying22 Try.underlying5 s W
  have hpf := Aside0.mk (prefix_f h0 h1)
  have hpp := Aside0.mk (pk_pref h0 h1)
  clear hs htx ht hg hdn hdl eR
  go_enter Try.func29, Try.ntmps29
  go_wp2_with fail
  refine (Pprefix.impl_prefix.calls k (pk k) true w hpf.out).mono ?_
  rintro e w1 ⟨rfl, hb1⟩
  have ht1 := pw_cell_below hb1 HTX.out
  have B1 := Aside0.mk hb1
  clear hb1 hk
  go_wp2_with fail
  have hB2 := bytes_below B1.out B1.out.size 5 s
  have hR2 := str_rds w1 s (by omega)
  have hcap : s.size ≤ grownCap w1 s.size 0 5 := grownCap_ge _ _ _ _
  obtain ⟨c2, hc2⟩ : ∃ c2, c2 = grownCap w1 s.size 0 5 := ⟨_, rfl⟩
  rw [← hc2] at hcap ⊢
  obtain ⟨w2, hw2⟩ : ∃ w2, w2 = Lib.bytesWorld w1 5 s := ⟨_, rfl⟩
  rw [← hw2] at hB2 hR2 ⊢
  have B2 := Aside0.mk hB2
  have R2 := Aside0.mk hR2
  clear hB2 hR2 hc2 hw2
  have hcall := decodeI w2 c2 p (pk k) (some ⟨w1.heap.size, 0, none⟩) (bytesOf s) hpp.out R2.out (by rw [bytesOf_length]; exact hcap) HT.out
  rw [bytesOf_length] at hcall
  refine hcall.mono ?_
  clear hcall
  rintro e w3 ⟨hb3, hok, hbad⟩
  obtain ⟨A3, n3, c3, rfl, hn3, hc3, hr3⟩ := hok HG.out
  have B3 := Aside0.mk (below_step B2.out hb3)
  have R3 := Aside0.mk (show Rds w3 A3 R by rw [ER.out]; exact hr3)
  have hn3' := hn3.trans HDN.out.symm
  have HN3 := Aside0.mk hn3
  clear hok hbad hb3 hr3 ht1 hn3
  subst hn3'
  go_wp2_with fail
  refine (clone_own w3 A3 c3 R R3.out hc3 (by have := HDN.out; have := HDL.out; omega)).mono ?_
  rintro e w4 ⟨A4, n4, c4, rfl, ho4, hb4⟩
  have B4 := Aside0.mk (below_step B3.out hb4)
  have O4 := Aside0.mk ho4
  have S4 := Aside0.mk (HS.out.below B4.out)
  have hsc := S4.out.cell 0
  have hsf := S4.out.frozen 0
  clear hb4 ho4
  go_wp2
  go_ret
  exact ⟨rfl, (Left.of_below B4.out _).set_ (by simp) _, Row.put S4.out O4.out⟩

set_option maxHeartbeats 800000 in
set_option maxRecDepth 100000 in
theorem decodeClo_bad (w : World) (kb tb sb p : Nat) (k : Int) (s : ByteArray) (v0 : Value) (hk : w.cell? ⟨kb, 0, none⟩ = some (.int .i64 k)) (htx : w.cell? ⟨tb, 0, none⟩ = some (.string s))
    (hs : Blk w sb 22 #[v0]) (h0 : 0 ≤ k) (h1 : k < 6) (ht : Txt (bytesOf s) p) (hg : ¬ good (pk k) (bytesOf s) p) :
    Calls Try.prog 29 #[.pointer (some ⟨kb, 0, none⟩), .pointer (some ⟨tb, 0, none⟩), .pointer (some ⟨sb, 0, none⟩)] w fun e w' => e = .returned (.bool false) ∧ Left w w' [sb] ∧ Row w' sb [] := by
  have HT := Aside0.mk ht
  have HG := Aside0.mk hg
  have HS := Aside0.mk hs
  have HK := Aside0.mk hk
  have HTX := Aside0.mk htx
  have hsz : s.size ≤ 1000 := by have := ht.short; rwa [bytesOf_length] at this
  have kb' := fun W => print_bytes (P := Try.prog) 9 22 5 Try.underlying9 Try.underlying22 Try.underlying5 s W
  have hpf := Aside0.mk (prefix_f h0 h1)
  have hpp := Aside0.mk (pk_pref h0 h1)
  clear hs htx ht hg
  go_enter Try.func29, Try.ntmps29
  go_wp2_with fail
  refine (Pprefix.impl_prefix.calls k (pk k) true w hpf.out).mono ?_
  rintro e w1 ⟨rfl, hb1⟩
  have ht1 := pw_cell_below hb1 HTX.out
  have B1 := Aside0.mk hb1
  clear hb1 hk
  go_wp2_with fail
  have hB2 := bytes_below B1.out B1.out.size 5 s
  have hR2 := str_rds w1 s (by omega)
  have hcap : s.size ≤ grownCap w1 s.size 0 5 := grownCap_ge _ _ _ _
  obtain ⟨c2, hc2⟩ : ∃ c2, c2 = grownCap w1 s.size 0 5 := ⟨_, rfl⟩
  rw [← hc2] at hcap ⊢
  obtain ⟨w2, hw2⟩ : ∃ w2, w2 = Lib.bytesWorld w1 5 s := ⟨_, rfl⟩
  rw [← hw2] at hB2 hR2 ⊢
  have B2 := Aside0.mk hB2
  have R2 := Aside0.mk hR2
  clear hB2 hR2 hc2 hw2
  have hcall := decodeI w2 c2 p (pk k) (some ⟨w1.heap.size, 0, none⟩) (bytesOf s) hpp.out R2.out (by rw [bytesOf_length]; exact hcap) HT.out
  rw [bytesOf_length] at hcall
  refine hcall.mono ?_
  clear hcall
  rintro e w3 ⟨hb3, hok, hbad⟩
  obtain ⟨t3, v3, rfl⟩ := hbad HG.out
  have B3 := Aside0.mk (below_step B2.out hb3)
  clear hok hbad hb3 ht1
  go_wp2_with fail
  refine (clone_own w3 none 0 [] ⟨rfl, by simp, fun h => absurd h (by simp)⟩ (by simp) (by simp)).mono ?_
  rintro e w4 ⟨A4, n4, c4, rfl, ho4, hb4⟩
  have B4 := Aside0.mk (below_step B3.out hb4)
  have O4 := Aside0.mk ho4
  have S4 := Aside0.mk (HS.out.below B4.out)
  have hsc := S4.out.cell 0
  have hsf := S4.out.frozen 0
  clear hb4 ho4
  go_wp2
  go_ret
  exact ⟨rfl, (Left.of_below B4.out _).set_ (by simp) _, Row.put S4.out O4.out⟩

set_option maxHeartbeats 800000 in
set_option maxRecDepth 100000 in
theorem implDecode (w : World) (k : Int) (s : ByteArray) (p : Nat) (h0 : 0 ≤ k) (h1 : k < 6) (ht : Txt (bytesOf s) p) (hg : good (pk k) (bytesOf s) p) :
    Calls Try.prog 14 #[.int .i64 k, .string s] w fun e w' => ∃ A c, e = .returned (.tuple #[.slice A (((decB (bytesOf s)).take (decN (bytesOf s).length - 2)).drop 1).length c, .bool true]) ∧ (((decB (bytesOf s)).take (decN (bytesOf s).length - 2)).drop 1).length ≤ c ∧ Rds w' A (((decB (bytesOf s)).take (decN (bytesOf s).length - 2)).drop 1) ∧ Below w.heap.size w w' := by
  have HC := Aside0.mk (fun w kb tb sb p k s v0 => decodeClo w kb tb sb p k s v0)
  obtain ⟨R, eR⟩ : ∃ R, R = ((decB (bytesOf s)).take (decN (bytesOf s).length - 2)).drop 1 := ⟨_, rfl⟩
  rw [← eR]
  have ER := Aside0.mk eR
  clear eR HC
  have HT := Aside0.mk ht
  have HG := Aside0.mk hg
  clear ht hg
  have hmf : ∀ (fn : Fn) (first cap : Array Value) (w : World), (Instr.makeFunc fn first cap).run Try.prog w = .ok (.func fn first cap) w := fun _ _ _ _ => rfl
  go_enter Try.func14, Try.ntmps14
  go_wp2_with fail
  obtain ⟨W, hW⟩ : ∃ W, W = (((w.alloc (.cells #[.int .i64 k] 3)).alloc (.cells #[.string s] 9)).alloc (.cells #[.slice none 0 0] 22)) := ⟨_, rfl⟩
  have hz : W.heap.size = w.heap.size + 1 + 1 + 1 := by rw [hW]; simp
  have BW := Aside0.mk (show Below w.heap.size w W by rw [hW]; exact below_alloc (below_alloc (below_alloc (Below.refl _ _) _) _) _)
  have K1 : Blk W w.heap.size 3 #[.int .i64 k] := by rw [hW]; exact ((Blk.new w 3 _).alloc _).alloc _
  have K2 : Blk W (w.heap.size + 1) 9 #[.string s] := by
    rw [hW]; have h := (Blk.new (w.alloc (.cells #[.int .i64 k] 3)) 9 #[.string s]).alloc (.cells #[.slice none 0 0] 22); simpa using h
  have K3 : Blk W (w.heap.size + 1 + 1) 22 #[.slice none 0 0] := by
    rw [hW]; have h := Blk.new ((w.alloc (.cells #[.int .i64 k] 3)).alloc (.cells #[.string s] 9)) 22 #[.slice none 0 0]; simpa using h
  rw [← hW]
  clear hW
  refine (try_left W 29 _ true [w.heap.size + 1 + 1] (fun w' => Row w' (w.heap.size + 1 + 1) (R)) (callF Try.func29 (by kernel_rfl) rfl _) (by intro k hk; simp at hk; omega) (fun W' hb h => h.set_ hb (by decide) (by decide) _)
    (by rw [ER.out]; exact decodeClo _ w.heap.size (w.heap.size + 1) (w.heap.size + 1 + 1) p k s _ ((K1.alloc _).cell 0) ((K2.alloc _).cell 0) (K3.alloc _) h0 h1 HT.out HG.out)).mono ?_
  rintro e w1 ⟨rfl, hp, hrow⟩
  obtain ⟨v, base, hv, ho⟩ := hrow
  obtain ⟨A, c, rfl, hcc, _⟩ := own_rds ho
  have hsc := hv.cell 0
  have hsf := hv.frozen 0
  have B1 := Aside0.mk (hp.under BW.out (by intro k hk; simp at hk; omega))
  have HQ := Aside0.mk ((hv.set_ 0 (.slice A R.length c)).cell 0)
  have O1 := Aside0.mk (Kd.R_set ho (show w1.heap[w.heap.size + 1 + 1]? = some (.cells _ 22 (0, 0)) from hv) (by intro q hq; simp [Kd.int, Kd.scalar] at hq; omega) 0 (.slice A R.length c))
  clear hp K1 K2 K3 hz hv ho
  go_wp2
  have hq := HQ.out
  simp at hq
  obtain ⟨A', c', e', hc', hr'⟩ := own_rds O1.out
  injection e' with e1 _ e2
  subst e1 e2
  exact bodyPost_ret (v := .tuple #[.slice A R.length c, .bool true]) (by simp [results, Try.results14, go_sem, hq]) rfl ⟨A, c, rfl, hc', hr', B1.out.setCell (by show w.heap.size ≤ w.heap.size + 1 + 1; omega) _⟩

set_option maxHeartbeats 800000 in
set_option maxRecDepth 100000 in
theorem implDecode_bad (w : World) (k : Int) (s : ByteArray) (p : Nat) (h0 : 0 ≤ k) (h1 : k < 6) (ht : Txt (bytesOf s) p) (hg : ¬ good (pk k) (bytesOf s) p) :
    Calls Try.prog 14 #[.int .i64 k, .string s] w fun e w' => e = .returned (.tuple #[.slice none 0 0, .bool false]) ∧ Below w.heap.size w w' := by
  have HT := Aside0.mk ht
  have HG := Aside0.mk hg
  clear ht hg
  have hmf : ∀ (fn : Fn) (first cap : Array Value) (w : World), (Instr.makeFunc fn first cap).run Try.prog w = .ok (.func fn first cap) w := fun _ _ _ _ => rfl
  go_enter Try.func14, Try.ntmps14
  go_wp2_with fail
  obtain ⟨W, hW⟩ : ∃ W, W = (((w.alloc (.cells #[.int .i64 k] 3)).alloc (.cells #[.string s] 9)).alloc (.cells #[.slice none 0 0] 22)) := ⟨_, rfl⟩
  have hz : W.heap.size = w.heap.size + 1 + 1 + 1 := by rw [hW]; simp
  have BW := Aside0.mk (show Below w.heap.size w W by rw [hW]; exact below_alloc (below_alloc (below_alloc (Below.refl _ _) _) _) _)
  have K1 : Blk W w.heap.size 3 #[.int .i64 k] := by rw [hW]; exact ((Blk.new w 3 _).alloc _).alloc _
  have K2 : Blk W (w.heap.size + 1) 9 #[.string s] := by
    rw [hW]; have h := (Blk.new (w.alloc (.cells #[.int .i64 k] 3)) 9 #[.string s]).alloc (.cells #[.slice none 0 0] 22); simpa using h
  have K3 : Blk W (w.heap.size + 1 + 1) 22 #[.slice none 0 0] := by
    rw [hW]; have h := Blk.new ((w.alloc (.cells #[.int .i64 k] 3)).alloc (.cells #[.string s] 9)) 22 #[.slice none 0 0]; simpa using h
  rw [← hW]
  clear hW
  refine (try_left W 29 _ false [w.heap.size + 1 + 1] (fun w' => Row w' (w.heap.size + 1 + 1) ([])) (callF Try.func29 (by kernel_rfl) rfl _) (by intro k hk; simp at hk; omega) (fun W' hb h => h.set_ hb (by decide) (by decide) _)
    (decodeClo_bad _ w.heap.size (w.heap.size + 1) (w.heap.size + 1 + 1) p k s _ ((K1.alloc _).cell 0) ((K2.alloc _).cell 0) (K3.alloc _) h0 h1 HT.out HG.out)).mono ?_
  rintro e w1 ⟨rfl, hp, hrow⟩
  obtain ⟨v, base, hv, ho⟩ := hrow
  obtain ⟨A, c, rfl, hcc, _⟩ := own_rds ho
  have hsc := hv.cell 0
  have hsf := hv.frozen 0
  have B1 := Aside0.mk (hp.under BW.out (by intro k hk; simp at hk; omega))
  have HQ := Aside0.mk ((hv.set_ 0 (.slice none 0 0)).cell 0)
  have O1 := Aside0.mk (Kd.R_set ho (show w1.heap[w.heap.size + 1 + 1]? = some (.cells _ 22 (0, 0)) from hv) (by intro q hq; simp [Kd.int, Kd.scalar] at hq; omega) 0 (.slice none 0 0))
  clear hp K1 K2 K3 hz hv ho
  go_wp2
  have hq := HQ.out
  simp at hq
  exact bodyPost_ret (v := .tuple #[.slice none 0 0, .bool false]) (by simp [results, Try.results14, go_sem, hq]) rfl ⟨rfl, B1.out.setCell (by show w.heap.size ≤ w.heap.size + 1 + 1; omega) _⟩
end Go.Proofs.Ytmmhifomfbdfjaa
namespace Go.Proofs.Ytmmhifomfbdfjaa
open Go.RowKit Go.Proofs.YtmmhifomfbdfjaaW.PrintWords Go.Proofs.YtmmhifomfbdfjaaW.PrintLast Go.Proofs.YtmmhifomfbdfjaaW.PrintMore
set_option linter.unusedVariables false
set_option linter.unusedSimpArgs false
set_option linter.unusedSectionVars false

theorem decV_letter {e : Int} (h0 : 0 ≤ e) (h1 : e < 32) : decV (letter e) = e ∧ 50 ≤ letter e ∧ letter e ≤ 90 := by
  have h : ∀ n : Fin 32, decV (letter (n.1 : Int)) = (n.1 : Int) ∧ 50 ≤ letter (n.1 : Int) ∧ letter (n.1 : Int) ≤ 90 := by decide +kernel
  have e' := h ⟨e.toNat, by omega⟩
  simp only [Int.toNat_of_nonneg h0] at e'
  exact e'
def Byte (x : Int) : Prop := 0 ≤ x ∧ x ≤ 255
section
variable {b0 b1 b2 b3 b4 : Int} (h0 : Byte b0) (h1 : Byte b1) (h2 : Byte b2) (h3 : Byte b3) (h4 : Byte b4)
include h0 h1 h2 h3 h4
theorem dec_chunk : decV (letter (b0 / 8)) = b0 / 8 ∧ decV (letter (b0 % 8 * 4 + b1 / 64)) = b0 % 8 * 4 + b1 / 64 ∧ decV (letter (b1 / 2 % 32)) = b1 / 2 % 32 ∧ decV (letter (b1 % 2 * 16 + b2 / 16)) = b1 % 2 * 16 + b2 / 16 ∧
    decV (letter (b2 % 16 * 2 + b3 / 128)) = b2 % 16 * 2 + b3 / 128 ∧ decV (letter (b3 / 4 % 32)) = b3 / 4 % 32 ∧ decV (letter (b3 % 4 * 8 + b4 / 32)) = b3 % 4 * 8 + b4 / 32 ∧ decV (letter (b4 % 32)) = b4 % 32 := by
  unfold Byte at *
  refine ⟨(decV_letter ?_ ?_).1, (decV_letter ?_ ?_).1, (decV_letter ?_ ?_).1, (decV_letter ?_ ?_).1, (decV_letter ?_ ?_).1, (decV_letter ?_ ?_).1, (decV_letter ?_ ?_).1, (decV_letter ?_ ?_).1⟩ <;> omega
theorem pack_chunk : pack (b0 / 8) (b0 % 8 * 4 + b1 / 64) (b1 / 2 % 32) (b1 % 2 * 16 + b2 / 16) (b2 % 16 * 2 + b3 / 128) (b3 / 4 % 32) (b3 % 4 * 8 + b4 / 32) (b4 % 32) = [b0, b1, b2, b3, b4] := by
  unfold Byte at *
  unfold pack
  simp only [List.cons.injEq, and_true]
  refine ⟨?_, ?_, ?_, ?_, ?_⟩ <;> omega
theorem decB_chunk (r : List Int) : decB (chunk b0 b1 b2 b3 b4 ++ r) = [b0, b1, b2, b3, b4] ++ decB r := by
  obtain ⟨e0, e1, e2, e3, e4, e5, e6, e7⟩ := dec_chunk h0 h1 h2 h3 h4
  simp only [chunk, List.cons_append, List.nil_append, decB, e0, e1, e2, e3, e4, e5, e6, e7, pack_chunk h0 h1 h2 h3 h4]
theorem chunk_mem : ∀ x ∈ chunk b0 b1 b2 b3 b4, ∃ e, 0 ≤ e ∧ e < 32 ∧ x = letter e := by
  unfold Byte at *
  intro x hx
  simp only [chunk, List.mem_cons, List.not_mem_nil, or_false] at hx
  rcases hx with rfl | rfl | rfl | rfl | rfl | rfl | rfl | rfl
  all_goals exact ⟨_, by omega, by omega, rfl⟩
end
theorem byte0 : Byte 0 := by unfold Byte; omega
theorem decB_encL : ∀ (l : List Int), l.length % 5 ≤ 1 → (∀ x ∈ l, Byte x) → decB (encL l) = l
  | b0 :: b1 :: b2 :: b3 :: b4 :: r, hl, h => by
    rw [encL, decB_chunk (h _ (by simp)) (h _ (by simp)) (h _ (by simp)) (h _ (by simp)) (h _ (by simp)), decB_encL r (by simp at hl; omega) (fun x hx => h x (by simp [hx]))]; rfl
  | [_, _, _, _], hl, h => by simp at hl
  | [_, _, _], hl, h => by simp at hl
  | [_, _], hl, h => by simp at hl
  | [b0], hl, h => by
    have hb := h b0 (by simp)
    obtain ⟨e0, e1, -⟩ := dec_chunk hb byte0 byte0 byte0 byte0
    have e := pack_chunk hb byte0 byte0 byte0 byte0
    have e2 : decB (encL [b0]) = (pack (decV (letter (b0 / 8))) (decV (letter (b0 % 8 * 4 + 0 / 64))) 0 0 0 0 0 0).take 1 := rfl
    rw [e2, e0, e1]
    unfold Byte at hb
    simp [pack]; omega
  | [], _, _ => by simp [encL, decB]
theorem encL_mem : ∀ (l : List Int), (∀ x ∈ l, Byte x) → ∀ x ∈ encL l, ∃ e, 0 ≤ e ∧ e < 32 ∧ x = letter e
  | b0 :: b1 :: b2 :: b3 :: b4 :: r, h => by
    intro x hx
    rw [encL, List.mem_append] at hx
    rcases hx with hx | hx
    · exact chunk_mem (h _ (by simp)) (h _ (by simp)) (h _ (by simp)) (h _ (by simp)) (h _ (by simp)) x hx
    · exact encL_mem r (fun y hy => h y (by simp [hy])) x hx
  | [_, _, _, _], h => fun x hx => chunk_mem (h _ (by simp)) (h _ (by simp)) (h _ (by simp)) (h _ (by simp)) byte0 x (List.mem_of_mem_take hx)
  | [_, _, _], h => fun x hx => chunk_mem (h _ (by simp)) (h _ (by simp)) (h _ (by simp)) byte0 byte0 x (List.mem_of_mem_take hx)
  | [_, _], h => fun x hx => chunk_mem (h _ (by simp)) (h _ (by simp)) byte0 byte0 byte0 x (List.mem_of_mem_take hx)
  | [_], h => fun x hx => chunk_mem (h _ (by simp)) byte0 byte0 byte0 byte0 x (List.mem_of_mem_take hx)
  | [], _ => by simp [encL]

theorem getD_mem {s : List Int} {t : Nat} (h : t < s.length) : s.getD t 0 ∈ s := by
  rw [List.getD_eq_getElem?_getD, List.getElem?_eq_getElem h]; exact List.getElem_mem _
theorem txt_letters (s : List Int) (hs : s.length ≤ 1000) (h : ∀ x ∈ s, ∃ e, 0 ≤ e ∧ e < 32 ∧ x = letter e) : Txt s s.length where
  short := hs
  bytes x hx := by obtain ⟨e, h0, h1, rfl⟩ := h x hx; have := decV_letter h0 h1; omega
  lines x hx := by obtain ⟨e, h0, h1, rfl⟩ := h x hx; have := decV_letter h0 h1; omega
  place := Nat.le_refl _
  fine t ht := by obtain ⟨e, h0, h1, he⟩ := h _ (getD_mem ht); rw [he, (decV_letter h0 h1).1]; exact ⟨h0, h1⟩
  stop h := by omega
  pad h := by omega

theorem decN_enc (n : Nat) (h : n % 5 ≤ 1) : decN (n / 5 * 8 + (n % 5 * 8 + 4) / 5) = n := by
  rcases Nat.lt_or_ge (n % 5) 1 with h' | h'
  · have : n % 5 = 0 := by omega
    rw [this]; unfold decN; simp; omega
  · have : n % 5 = 1 := by omega
    rw [this]; unfold decN; simp; omega

section
variable {d : List Int} (hl : d.length ≤ 500) (h5 : (d.length + 2) % 5 ≤ 1) (h2 : 2 ≤ d.length) (hb : ∀ x ∈ d, 0 ≤ x ∧ x ≤ 255)
include hl h5 hb
theorem chk_txt : Txt (encL (chk d)) (encL (chk d)).length :=
  txt_letters _ (by rw [encL_len, chk_length]; omega) (encL_mem _ (chk_bytes hb))
theorem chk_dec : decB (encL (chk d)) = chk d := decB_encL _ (by rw [chk_length]; exact h5) (chk_bytes hb)
theorem chk_decN : decN (encL (chk d)).length = d.length + 2 := by rw [encL_len, chk_length, decN_enc _ h5]
include h2
theorem chk_checks : checks (encL (chk d)) := by
  unfold checks
  rw [chk_decN hl h5 hb, chk_dec hl h5 hb]
  have hr := crcT_range d
  refine ⟨by omega, ?_⟩
  have e0 : (chk d).take (d.length + 2 - 2) = d := by unfold chk; rw [show d.length + 2 - 2 = d.length by omega, List.take_left]
  have e1 : (chk d).getD (d.length + 2 - 2) 0 = crcT d % 256 := by unfold chk; rw [show d.length + 2 - 2 = d.length by omega, List.getD_eq_getElem?_getD, List.getElem?_append_right (by omega)]; simp
  have e2 : (chk d).getD (d.length + 2 - 1) 0 = crcT d / 256 := by unfold chk; rw [show d.length + 2 - 1 = d.length + 1 by omega, List.getD_eq_getElem?_getD, List.getElem?_append_right (by omega)]; simp
  rw [e0, e1, e2]; omega
end

theorem pref_mul {c : Int} (h : Pref c) : c / 8 * 8 = c ∧ 0 ≤ c ∧ c ≤ 255 := by rcases h with rfl | rfl | rfl | rfl | rfl | rfl <;> decide
section
variable {c : Int} {ys : List Int} (hc : Pref c) (hy : ys.length = 32) (hb : ∀ x ∈ ys, 0 ≤ x ∧ x ≤ 255)
include hc hb
theorem key_bytes : ∀ x ∈ c :: ys, 0 ≤ x ∧ x ≤ 255 := fun x hx => (List.mem_cons.1 hx).elim (fun e => e ▸ (pref_mul hc).2) (hb x)
include hy
theorem key_txt : Txt (keyL c ys) (keyL c ys).length := chk_txt (by simp [hy]) (by simp [hy]) (key_bytes hc hb)
theorem key_good (c' : Int) : good c' (keyL c ys) (keyL c ys).length ↔ c' = c := by
  have h1 : checks (keyL c ys) := chk_checks (d := c :: ys) (by simp [hy]) (by simp [hy]) (by simp [hy]) (key_bytes hc hb)
  have h2 : decB (keyL c ys) = chk (c :: ys) := chk_dec (d := c :: ys) (by simp [hy]) (by simp [hy]) (key_bytes hc hb)
  have h3 : (chk (c :: ys)).getD 0 0 = c := rfl
  unfold good
  rw [h2, h3, (pref_mul hc).1]
  exact ⟨fun h => h.2.2.symm, fun h => ⟨rfl, h1, h.symm⟩⟩
theorem key_read : ((decB (keyL c ys)).take (decN (keyL c ys).length - 2)).drop 1 = ys := by
  have h2 : decB (keyL c ys) = chk (c :: ys) := chk_dec (d := c :: ys) (by simp [hy]) (by simp [hy]) (key_bytes hc hb)
  have h3 : decN (keyL c ys).length = 33 + 2 := by
    have := chk_decN (d := c :: ys) (by simp [hy]) (by simp [hy]) (key_bytes hc hb)
    rw [keyL, this]; simp [hy]
  rw [h2, h3]
  unfold chk
  rw [show 33 + 2 - 2 = (c :: ys).length by simp [hy], List.take_left]; rfl
end
theorem pk_inj {i j : Int} (h0 : 0 ≤ i) (h1 : i < 6) (g0 : 0 ≤ j) (g1 : j < 6) (h : pk i = pk j) : i = j := by
  rcases kinds h0 h1 with rfl | rfl | rfl | rfl | rfl | rfl <;> rcases kinds g0 g1 with rfl | rfl | rfl | rfl | rfl | rfl <;> first | rfl | exact absurd h (by decide)
theorem bytes_str {l : List Int} (h : ∀ x ∈ l, 0 ≤ x ∧ x ≤ 255) : bytesOf (strOfNums l) = l := by
  unfold bytesOf
  rw [strOfNums_data, List.map_map]
  conv => rhs; rw [← List.map_id l]
  refine List.map_congr_left fun x hx => ?_
  have := h x hx
  simp; omega
end Go.Proofs.Ytmmhifomfbdfjaa
