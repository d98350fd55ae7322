/- (*Encoding).decode: letters read back, without padding. -/
import Derived.Test.YtmmhifomfbdfjaaEncode
import Derived.Test.YtmmhifomfbdfjaaDecPure
namespace Go.Proofs.Ytmmhifomfbdfjaa
open Go.RowKit Go.Proofs.YtmmhifomfbdfjaaW.PrintWords Go.Proofs.YtmmhifomfbdfjaaW.PrintLast Go.Proofs.YtmmhifomfbdfjaaW.PrintMore
set_option linter.unusedVariables false
set_option linter.unusedSimpArgs false
theorem EncAt.dec {w : World} {g : Nat} (h : EncAt w g) (j : Nat) (v : Value) (hv : (u8s (decM 32))[j]? = some v) : w.cell? ⟨g, 32 + j, none⟩ = some v := by
  have hl : j < (u8s (decM 32)).length := (List.getElem?_eq_some_iff.1 hv).1
  have hal : (u8s alphaL).length = 32 := rfl
  rw [Blk.cell h, encCells, List.getElem?_toArray, List.append_assoc, List.getElem?_append_right (by omega), hal, Nat.add_sub_cancel_left, List.getElem?_append_left hl]
  exact hv
theorem EncAt.val {w : World} {g : Nat} (h : EncAt w g) (c : Int) (h0 : 0 ≤ c) (h1 : c ≤ 255) : w.cell? ⟨g, 32 + c.toNat, none⟩ = some (.int .u8 (decV c)) := by
  refine h.dec c.toNat _ ?_
  have hl : c.toNat < 256 := by omega
  simp [u8s, decM, decV, hl]
theorem size80 : (Try.prog.info? 80).map (·.size) = some (u8s (decM 32)).length := by kernel_rfl
theorem grown_set_new {w w1 : World} {g : Nat} {row : Option Nat} (h : w.grownBy w1 row) (hg : w.heap.size ≤ g) (j : Nat) (u : Value) : w.grownBy (w1.setCell ⟨g, j, none⟩ u) row :=
  ⟨h.os, h.tape, h.output, by rw [World.setCell]; simpa using h.size, fun k hk hne => (Below.heap_setCell w1 ⟨g, j, none⟩ u k (by show k ≠ g; omega)).trans (h.block k hk hne)⟩
theorem grown_alloc {w w1 : World} {row : Option Nat} (h : w.grownBy w1 row) (o : Obj) : w.grownBy (w1.alloc o) row :=
  ⟨h.os, h.tape, h.output, by have := h.size; simp; omega, fun k hk hne => (Below.heap_alloc w1 o k (by have := h.size; omega)).trans (h.block k hk hne)⟩
theorem Blk.putb' {w : World} {g : Nat} {l : List Int} {t : TypeId} (h : Blk w g t (u8s l).toArray) (i : Nat) (x : Int) : Blk (w.setCell ⟨g, i, none⟩ (.int .u8 x)) g t (u8s (l.set i x)).toArray := by
  rw [← u8s_set]; exact h.set_ i _

/-- What decode answers: p is the place of the first sign that is no letter, or the end. -/
def DecPost (w : World) (db M : Nat) (s : List Int) (p : Nat) (e : Ending) (w' : World) : Prop :=
  w.grownBy w' (some db) ∧ (∃ D, Blk w' db 5 (u8s D).toArray ∧ D.length = M ∧ (p = s.length → (∃ b, e = .returned (.tuple #[.int .i64 (decN s.length), .bool b, .nilIface])) ∧ D = decB s ++ List.replicate (M - decN s.length) 0)) ∧
  (p < s.length → ∃ n b x, e = .returned (.tuple #[.int .i64 n, .bool b, .iface 92 (.int .i64 x)]))

/-- What the outer loop holds at each round's head: i letters are read. -/
structure OutInv (w wr : World) (db M p : Nat) (s : List Int) (i n : Nat) (A2 : Option Addr) : Prop where
  src : ∀ W, w.grownBy W (some db) → (Kd.int .u8).C W A2 (s.drop i).length (s.drop i)
  grown : w.grownBy wr (some db)
  dst : Blk wr db 5 (u8s (decB (s.take i) ++ List.replicate (M - n) 0)).toArray
  num : n = decN i

theorem drop_one {w : World} {db : Nat} {s : List Int} {a c3 : Nat} {ad : Addr} (h : ∀ W, w.grownBy W (some db) → (Kd.int .u8).C W (some ad) (s.drop a).length (s.drop a)) (hlt : a < s.length) (hc : s.length - a ≤ c3) :
    ∀ W, w.grownBy W (some db) → (Kd.int .u8).C W (if c3 = 1 then some ad else some ⟨ad.block, ad.off + 1, none⟩) (s.drop (a + 1)).length (s.drop (a + 1)) := by
  intro W hW
  have hdl : (s.drop a).length = s.length - a := List.length_drop
  have h' := Kd.C_drop (c := c3) (m := 1) (h W hW) (by omega) (by omega)
  rw [List.drop_drop] at h'
  exact h'

theorem grown_drewN {w w1 : World} {row : Option Nat} (h : w.grownBy w1 row) (n : Nat) : w.grownBy (w1.drewN n) row := ⟨h.os, h.tape, h.output, h.size, h.block⟩
theorem decPost_bad {w w' : World} {db M p q : Nat} {s : List Int} {n x : Int} {b : Bool} (hg : w.grownBy w' (some db)) (hd : Blk w' db 5 (u8s (decB (s.take (8 * q)) ++ List.replicate (M - 5 * q) 0)).toArray)
    (hq : 8 * q ≤ s.length) (hM : decN s.length ≤ M) (hp : p < s.length) : DecPost w db M s p (.returned (.tuple #[.int .i64 n, .bool b, .iface 92 (.int .i64 x)])) w' :=
  ⟨hg, ⟨_, hd, held_len s q M hq hM, fun h => absurd h (by omega)⟩, fun _ => ⟨n, b, x, rfl⟩⟩

set_option maxHeartbeats 4000000 in
set_option maxRecDepth 100000 in
theorem decode_any (w : World) (g db M cap p : Nat) (A : Option Addr) (s : List Int) (he : EncAt w g) (hl : s.length ≤ 1000) (hc : s.length ≤ cap)
    (hr : ∀ W, w.grownBy W (some db) → (Kd.int .u8).C W A s.length s) (hd : Blk w db 5 (u8s (List.replicate M 0)).toArray) (hM : decN s.length ≤ M) (hb : ∀ x ∈ s, 0 ≤ x ∧ x ≤ 255)
    (hp : p ≤ s.length) (hv : ∀ t, t < p → 0 ≤ decV (s.getD t 0) ∧ decV (s.getD t 0) < 32) (hq : p < s.length → decV (s.getD p 0) = 255)
    (hf : p < s.length → s.getD p 0 = 255 → p + 1 < s.length ∧ s.getD (p + 1) 0 ≠ 255 ∧ ¬ (p % 8 = 7 ∧ s.length < p + 9)) :
    Calls Try.prog 70 #[.pointer (some ⟨g, 0, none⟩), .slice (some ⟨db, 0, none⟩) M M, .slice A s.length cap] w (DecPost w db M s p) := by
  have hgd : ¬ g = db := blk_ne he hd (by decide)
  have HE := Aside0.mk he
  have HB := Aside0.mk hb
  have HV := Aside0.mk hv
  have HQ := Aside0.mk hq
  have HF := Aside0.mk hf
  have HO := Aside0.mk (show OutInv w w db M p s 0 0 A from ⟨hr, grown_refl _ _, by simpa [decB] using hd, by decide⟩)
  clear he hr hd hb hv hq hf
  go_enter Try.func70, Try.ntmps70
  go_wp2_with ((with_reducible refine gate_dst (N := 19) rfl ?_); refine load_seg rfl 80 (.tmp 18) rfl g 32 rfl (u8s (decM 32)) _ HE.out.dec Try.underlying80 rfl size80 ?_)
  go_loopw [2, 6, 7, 8, 9] (fun v2 v6 v7 v8 v9 wr => ∃ (i n : Nat) (b : Bool) (A2 : Option Addr) (c2 : Nat) (d : Int), i ≤ p ∧ v2 = .slice A2 (s.length - i) c2 ∧ v6 = .int .i64 n ∧ v7 = .bool b ∧ v8 = .nilIface ∧ v9 = .int .i64 d ∧ s.length - i ≤ c2 ∧ (b = true → i = s.length) ∧ (b = false → ∃ q : Nat, i = 8 * q ∧ d = 5 * q ∧ n = 5 * q) ∧ Aside0 (OutInv w wr db M p s i n A2))
    (fun v2 _ v7 _ _ _ => (match v2 with | .slice _ n _ => n | _ => 0) + (match v7 with | .bool true => 0 | _ => 1))
  case atStart => exact ⟨0, 0, false, A, cap, 0, by omega, rfl, rfl, rfl, rfl, rfl, by omega, fun h => (by cases h), fun _ => ⟨0, rfl, rfl, rfl⟩, HO⟩
  case round =>
    clear HO
    obtain ⟨i, n, b, A2, c2, d, hi, rfl, rfl, rfl, rfl, rfl, hc2, hbt, hbf, HI⟩ := hrel
    by_cases hlt : i < s.length
    · have hbb : b = false := by cases b with | false => rfl | true => have := hbt rfl; omega
      subst hbb
      obtain ⟨q, rfl, rfl, rfl⟩ := hbf rfl
      clear hbf hbt
      have hpos : (0 : Int) < ((s.length - 8 * q : Nat) : Int) := by omega
      go_wp2
      obtain ⟨wo, hwo⟩ : ∃ wo, wo = wr.alloc (.cells #[.int .u8 0, .int .u8 0, .int .u8 0, .int .u8 0, .int .u8 0, .int .u8 0, .int .u8 0, .int .u8 0] 91) := ⟨_, rfl⟩
      have KO := Aside0.mk (show Blk wo wr.heap.size 91 (u8s (dbufL s (8 * q) 0)).toArray by rw [hwo, dbufL_zero]; exact Blk.new wr 91 _)
      have KG := Aside0.mk (show w.grownBy wo (some db) by rw [hwo]; exact grown_alloc HI.out.grown _)
      have KD := Aside0.mk (show Blk wo db 5 (u8s (decB (s.take (8 * q)) ++ List.replicate (M - 5 * q) 0)).toArray by rw [hwo]; exact HI.out.dst.alloc _)
      have KS := Aside0.mk HI.out.src
      have hdb : db < wr.heap.size := HI.out.dst.lt
      have hws : w.heap.size ≤ wr.heap.size := HI.out.grown.size
      obtain ⟨bb, hbb⟩ : ∃ bb, bb = wr.heap.size := ⟨_, rfl⟩
      rw [← hwo]
      rw [← hbb] at KO hdb hws ⊢
      clear hwo hbb HI
      go_loopw [2, 6, 7, 8, 12, 13, 14, 15] (fun v2 v6 v7 v8 v12 v13 v14 v15 wi => ∃ (j : Nat) (A3 : Option Addr) (c3 : Nat), j ≤ 8 ∧ 8 * q + j ≤ p ∧ v2 = .slice A3 (s.length - 8 * q - j) c3 ∧ v6 = .int .i64 (5 * q) ∧ v7 = .bool false ∧ v8 = .nilIface ∧ v12 = .int .i64 8 ∧ v13 = .int .i64 j ∧ s.length - 8 * q - j ≤ c3
         ∧ Aside0 (∀ W, w.grownBy W (some db) → (Kd.int .u8).C W A3 (s.drop (8 * q + j)).length (s.drop (8 * q + j))) ∧ Aside0 (w.grownBy wi (some db)) ∧ Aside0 (Blk wi db 5 (u8s (decB (s.take (8 * q)) ++ List.replicate (M - 5 * q) 0)).toArray) ∧ Aside0 (Blk wi bb 91 (u8s (dbufL s (8 * q) j)).toArray)) (fun _ _ _ _ _ j _ _ _ => 8 - (intOf j).toNat)
      case atStart => exact ⟨0, A2, c2, by omega, by omega, rfl, rfl, rfl, rfl, rfl, rfl, by omega, KS, KG, KD, KO⟩
      case round =>
        clear KS KG KD KO
        obtain ⟨j, A3, c3, hj, hjp, rfl, rfl, rfl, rfl, rfl, rfl, hc3, JS, JG, JD, JB⟩ := hrel
        by_cases hj8 : j < 8
        · by_cases hin : 8 * q + j < p
          · have hdl : (s.drop (8 * q + j)).length = s.length - (8 * q + j) := List.length_drop
            obtain ⟨ad, eA, hx0⟩ := Kd.at_int (JS.out _ JG.out) 0 (by omega) (by omega)
            cases eA
            obtain ⟨c, hcc⟩ : ∃ c, c = s.getD (8 * q + j) 0 := ⟨_, rfl⟩
            replace hx0 : wr.cell? ad = some (.int .u8 c) := by have e := rd_drop s (8 * q + j) 0; simp only [Nat.add_zero] at e; rw [hcc, ← e]; exact hx0
            have C : 0 ≤ c ∧ c ≤ 255 := by
              rw [hcc, List.getD_eq_getElem?_getD, List.getElem?_eq_getElem (show 8 * q + j < s.length by omega)]
              exact HB.out _ (List.getElem_mem _)
            obtain ⟨v, hvv⟩ : ∃ v, v = decV c := ⟨_, rfl⟩
            have V : 0 ≤ v ∧ v < 32 := by rw [hvv, hcc]; exact HV.out _ hin
            have e255 : (c == 255) = false := by
              rw [beq_eq_false_iff_ne]; rintro rfl
              rw [hvv] at V
              exact absurd V.2 (by decide)
            have ev : (v == 255) = false := by rw [beq_eq_false_iff_ne]; omega
            have HER : EncAt wr g := blk_grown HE.out JG.out (by simpa using hgd)
            have hdv := HER.val c C.1 C.2
            rw [← hvv] at hdv
            have hpd := HER.pad
            have hset := dbufL_set s (8 * q) j hj8 (by omega)
            rw [← hcc, ← hvv] at hset
            have HSET := Aside0.mk hset
            clear hset hcc hvv HER hdl
            have hbc : ∃ y, wr.cell? ⟨bb, j, none⟩ = some (.int .u8 y) := ⟨_, (JB.out.cell _).trans (u8s_at _ _ (by rw [dbufL_length s (8 * q) j hj (by omega)]; omega))⟩
            obtain ⟨y, hbc⟩ := hbc
            have hbf := JB.out.frozen j
            have hn0 : (((s.length - 8 * q - j : Nat) : Int) == 0) = false := by rw [beq_eq_false_iff_ne]; omega
            have hn1 : (0 : Int) < ((s.length - 8 * q - j : Nat) : Int) := by omega
            have hn2 : (1 : Int) ≤ ((s.length - 8 * q - j : Nat) : Int) := by omega
            as_aux_lemma =>
              go_wp2
              refine ⟨⟨j + 1, if c3 = 1 then some ad else some ⟨ad.block, ad.off + 1, none⟩, c3 - 1, by omega, by omega, ?_, rfl, rfl, rfl, rfl, by go_num, by omega, ⟨?_⟩, ⟨?_⟩, ⟨?_⟩, ⟨?_⟩⟩, ?_⟩
              · rw [show s.length - 8 * q - (j + 1) = s.length - 8 * q - j - 1 by omega]
              · exact drop_one (a := 8 * q + j) JS.out (by omega) (by omega)
              · exact grown_set_new JG.out hws _ _
              · exact JD.out.far (by show db ≠ bb; omega) _
              · rw [← HSET.out]; exact JB.out.putb' _ _
              · simp [intOf]; omega
          · by_cases hpl : p < s.length
            · have hjp2 : 8 * q + j = p := by omega
              have hdl : (s.drop (8 * q + j)).length = s.length - (8 * q + j) := List.length_drop
              obtain ⟨ad, eA, hx0⟩ := Kd.at_int (JS.out _ JG.out) 0 (by omega) (by omega)
              cases eA
              obtain ⟨c, hcc⟩ : ∃ c, c = s.getD (8 * q + j) 0 := ⟨_, rfl⟩
              replace hx0 : wr.cell? ad = some (.int .u8 c) := by have e := rd_drop s (8 * q + j) 0; simp only [Nat.add_zero] at e; rw [hcc, ← e]; exact hx0
              have C : 0 ≤ c ∧ c ≤ 255 := by
                rw [hcc, List.getD_eq_getElem?_getD, List.getElem?_eq_getElem (show 8 * q + j < s.length by omega)]
                exact HB.out _ (List.getElem_mem _)
              have hv255 : decV c = 255 := by rw [hcc, hjp2]; exact HQ.out hpl
              have HER : EncAt wr g := blk_grown HE.out JG.out (by simpa using hgd)
              have hdv := HER.val c C.1 C.2
              rw [hv255] at hdv
              have hpd := HER.pad
              have hbc : ∃ y, wr.cell? ⟨bb, j, none⟩ = some (.int .u8 y) := ⟨_, (JB.out.cell _).trans (u8s_at _ _ (by rw [dbufL_length s (8 * q) j hj (by omega)]; omega))⟩
              obtain ⟨y, hbc⟩ := hbc
              have hbf := JB.out.frozen j
              have hn0 : (((s.length - 8 * q - j : Nat) : Int) == 0) = false := by rw [beq_eq_false_iff_ne]; omega
              have hn1 : (0 : Int) < ((s.length - 8 * q - j : Nat) : Int) := by omega
              have hn2 : (1 : Int) ≤ ((s.length - 8 * q - j : Nat) : Int) := by omega
              have hF := HF.out hpl
              rw [← hjp2, ← hcc] at hF
              clear hv255 HER hdl
              by_cases hc255 : c = 255
              · have e255 : (c == 255) = true := by rw [hc255]; rfl
                obtain ⟨f1, f2, f3⟩ := hF hc255
                have HC := Aside0.mk hc255
                have HJ := Aside0.mk hjp2
                clear hF hc255 hcc hjp2
                by_cases hj2 : 2 ≤ j
                · by_cases h8 : s.length - 8 * q - j - 1 < 8
                  · by_cases h7 : s.length - 8 * q - j - 1 + j < 7
                    · have hn3 : ((s.length - 8 * q - j - 1 : Nat) : Int) < 8 := by omega
                      have hn4 : ((s.length - 8 * q - j - 1 : Nat) : Int) + j < 7 := by omega
                      as_aux_lemma =>
                        go_wp2
                        go_ret3
                        exact decPost_bad JG.out JD.out (by omega) hM hpl
                    · have hn3 : ((s.length - 8 * q - j - 1 : Nat) : Int) < 8 := by omega
                      have hn4 : (7 : Int) ≤ ((s.length - 8 * q - j - 1 : Nat) : Int) + j := by omega
                      have hj6 : j < 7 := by have := HJ.out; omega
                      have hc31 : ¬ c3 = 1 := by have := HJ.out; omega
                      obtain ⟨c', hcc'⟩ : ∃ c', c' = s.getD (8 * q + j + 1) 0 := ⟨_, rfl⟩
                      have hx1 : wr.cell? ⟨ad.block, ad.off + 1, none⟩ = some (.int .u8 c') := by
                        have h2 := drop_one (a := 8 * q + j) (c3 := c3) JS.out (by omega) (by omega) wr JG.out
                        rw [if_neg hc31] at h2
                        obtain ⟨ad', e, h⟩ := Kd.at_int (n := (s.drop (8 * q + j + 1)).length) h2 0 (by omega) (by rw [List.length_drop]; omega)
                        cases e
                        have e := rd_drop s (8 * q + j + 1) 0; simp only [Nat.add_zero] at e
                        rw [hcc', ← e]
                        exact h
                      have ec' : (c' != 255) = true := by rw [bne_iff_ne, hcc']; exact f2
                      have hp0 : (0 : Int) < ((s.length - 8 * q - j - 1 : Nat) : Int) := by omega
                      have hj70 : (0 : Int) < 7 - (j : Int) := by omega
                      have hpd0 : decide (0 < s.length - 8 * q - j - 1) = true := decide_eq_true (by omega)
                      clear hcc' f2
                      as_aux_lemma =>
                        go_wp2
                        refine wp_loop_rounds 1 ?_
                        rw [rounds_succ]
                        go_wp2
                        go_quiet (fail)
                        go_wp2
                        go_ret3
                        exact decPost_bad (grown_drewN JG.out _) (JD.out.drewN _) (by omega) hM hpl
                  · have hn3 : (8 : Int) ≤ ((s.length - 8 * q - j - 1 : Nat) : Int) := by omega
                    as_aux_lemma =>
                      go_wp2
                      go_ret3
                      exact decPost_bad (grown_set_new JG.out hws _ _) (JD.out.far (by show db ≠ bb; omega) _) (by omega) hM hpl
                · have hj1 : (j : Int) < 2 := by omega
                  as_aux_lemma =>
                    go_wp2
                    go_ret3
                    exact decPost_bad (grown_set_new JG.out hws _ _) (JD.out.far (by show db ≠ bb; omega) _) (by omega) hM hpl
              · have e255 : (c == 255) = false := by rw [beq_eq_false_iff_ne]; exact hc255
                clear hF hc255 hcc hjp2
                as_aux_lemma =>
                  go_wp2
                  all_goals
                    go_ret3
                    exact decPost_bad (grown_set_new JG.out hws _ _) (JD.out.far (by show db ≠ bb; omega) _) (by omega) hM hpl
            · have hpL : p = s.length := by omega
              have hjL : 8 * q + j = s.length := by omega
              have hj1 : 1 ≤ j := by omega
              have hz : s.length - 8 * q - j = 0 := by omega
              have HER : EncAt wr g := blk_grown HE.out JG.out (by simpa using hgd)
              have hpd := HER.pad
              clear HER
              obtain ⟨V, hV⟩ : ∃ V, V = dbufL s (8 * q) j := ⟨_, rfl⟩
              have hVl : V.length = 8 := by rw [hV]; exact dbufL_length s (8 * q) j (by omega) (by omega)
              have hVr : ∀ t, 0 ≤ V.getD t 0 ∧ V.getD t 0 < 32 := by rw [hV]; exact fun t => dbufL_range s (8 * q) j (by omega) (fun t ht => HV.out t (by omega)) t
              have hVc : ∀ t, t < 8 → wr.cell? ⟨bb, t, none⟩ = some (.int .u8 (V.getD t 0)) := fun t ht => (JB.out.cell _).trans (by rw [← hV]; exact u8s_at _ _ (by omega))
              obtain ⟨v0, e0⟩ : ∃ v, v = V.getD 0 0 := ⟨_, rfl⟩
              obtain ⟨v1, e1⟩ : ∃ v, v = V.getD 1 0 := ⟨_, rfl⟩
              obtain ⟨v2, e2⟩ : ∃ v, v = V.getD 2 0 := ⟨_, rfl⟩
              obtain ⟨v3, e3⟩ : ∃ v, v = V.getD 3 0 := ⟨_, rfl⟩
              obtain ⟨v4, e4⟩ : ∃ v, v = V.getD 4 0 := ⟨_, rfl⟩
              obtain ⟨v5, e5⟩ : ∃ v, v = V.getD 5 0 := ⟨_, rfl⟩
              obtain ⟨v6, e6⟩ : ∃ v, v = V.getD 6 0 := ⟨_, rfl⟩
              obtain ⟨v7, e7⟩ : ∃ v, v = V.getD 7 0 := ⟨_, rfl⟩
              have r0 := hVr 0; have r1 := hVr 1; have r2 := hVr 2; have r3 := hVr 3; have r4 := hVr 4; have r5 := hVr 5; have r6 := hVr 6; have r7 := hVr 7
              have g0 := hVc 0 (by omega); have g1 := hVc 1 (by omega); have g2 := hVc 2 (by omega); have g3 := hVc 3 (by omega); have g4 := hVc 4 (by omega); have g5 := hVc 5 (by omega); have g6 := hVc 6 (by omega); have g7 := hVc 7 (by omega)
              rw [← e0] at r0 g0; rw [← e1] at r1 g1; rw [← e2] at r2 g2; rw [← e3] at r3 g3; rw [← e4] at r4 g4; rw [← e5] at r5 g5; rw [← e6] at r6 g6; rw [← e7] at r7 g7
              have P4 := pack4 r6 r7; have P3 := pack3 r4 r5 r6; have P2 := pack2 r3 r4; have P1 := pack1 r1 r2 r3; have P0 := pack0 r0 r1
              have HNX := Aside0.mk (next_dst s q j M (by omega) (by omega) hM hV e0 e1 e2 e3 e4 e5 e6 e7 rfl)
              have hN : decN s.length = 5 * q + decN j := by rw [← hjL, decN_add]
              clear hV hVl hVr hVc e0 e1 e2 e3 e4 e5 e6 e7
              have hdc : ∀ t, 5 * q + t < M → ∃ y, wr.cell? ⟨db, 5 * q + t, none⟩ = some (.int .u8 y) := fun t ht => ⟨_, (JD.out.cell _).trans (u8s_at _ _ (by rw [held_len s q M (by omega) hM]; omega))⟩
              have df : ∀ t, wr.frozen? ⟨db, t, none⟩ = false := fun t => JD.out.frozen t
              have hne : ¬ bb = db := by omega
              have HPL := Aside0.mk hpL
              have HJL := Aside0.mk hjL
              rw [hz]
              clear hz hpL
              rcases (show j = 7 ∨ j = 6 ∨ j = 5 ∨ j = 4 ∨ j = 3 ∨ j = 2 ∨ j = 1 by omega) with h | h | h | h | h | h | h
              · subst h
                replace hN : decN s.length = 5 * q + 4 := hN
                obtain ⟨y0, d0⟩ := hdc 0 (by omega)
                obtain ⟨y1, d1⟩ := hdc 1 (by omega)
                obtain ⟨y2, d2⟩ := hdc 2 (by omega)
                obtain ⟨y3, d3⟩ := hdc 3 (by omega)
                replace d0 : wr.cell? ⟨db, 5 * q, none⟩ = some (.int .u8 y0) := d0
                have hM0 : (5 * (q : Int)) < M ∧ (5 * (q : Int) + 1) < M ∧ (5 * (q : Int) + 2) < M ∧ (5 * (q : Int) + 3) < M := by omega
                have HN := Aside0.mk hN
                clear hdc hN hjL
                as_aux_lemma =>
                  go_wp2
                  refine ⟨⟨8 * q + 7, 5 * q + 4, true, A3, c3, 5 * q + 5, by omega, ?_, by go_num, rfl, rfl, rfl, by omega, fun _ => HJL.out, fun h => (by cases h), ⟨⟨JS.out, ?_, ?_, ?_⟩⟩⟩, ?_⟩
                  · rw [show s.length - (8 * q + 7) = 0 by have := HJL.out; omega]
                  · exact (grown_set (grown_set (grown_set (grown_set JG.out _ _) _ _) _ _) _ _)
                  · have h := ((((JD.out.putb (5 * q + 3) (v4 % 2 * 128 + v5 * 4 + v6 / 8)).putb (5 * q + 2) (v3 % 16 * 16 + v4 / 2)).putb (5 * q + 1) (v1 % 4 * 64 + v2 * 2 + v3 / 16)).putb (5 * q) (v0 * 8 + v1 / 4))
                    rw [set4 _ _ _ _ _ _ _ _ (decB_len_full q _ (by rw [List.length_take]; have := HJL.out; omega)) (by omega)] at h
                    have e : decB (s.take (8 * q)) ++ [v0 * 8 + v1 / 4, v1 % 4 * 64 + v2 * 2 + v3 / 16, v3 % 16 * 16 + v4 / 2, v4 % 2 * 128 + v5 * 4 + v6 / 8] ++ List.replicate (M - 5 * q - 4) 0 = decB (s.take (8 * q + 7)) ++ List.replicate (M - (5 * q + 4)) 0 := HNX.out
                    rw [e] at h
                    exact h
                  · rw [decN_add]; rfl
                  · show 0 + 0 < s.length - 8 * q + 1
                    omega
              · subst h
                replace hN : decN s.length = 5 * q + 0 := hN
                have HN := Aside0.mk hN
                clear hdc hN hjL
                as_aux_lemma =>
                  go_wp2
                  refine ⟨⟨8 * q + 6, 5 * q + 0, true, A3, c3, 5 * q + 5, by omega, ?_, by go_num, rfl, rfl, rfl, by omega, fun _ => HJL.out, fun h => (by cases h), ⟨⟨JS.out, ?_, ?_, ?_⟩⟩⟩, ?_⟩
                  · rw [show s.length - (8 * q + 6) = 0 by have := HJL.out; omega]
                  · exact JG.out
                  · have h := JD.out
                    have e : decB (s.take (8 * q)) ++ [] ++ List.replicate (M - 5 * q - 0) 0 = decB (s.take (8 * q + 6)) ++ List.replicate (M - (5 * q + 0)) 0 := HNX.out
                    rw [List.append_nil] at e
                    rw [show M - 5 * q = M - 5 * q - 0 from rfl, e] at h
                    exact h
                  · rw [decN_add]; rfl
                  · show 0 + 0 < s.length - 8 * q + 1
                    omega
              · subst h
                replace hN : decN s.length = 5 * q + 3 := hN
                obtain ⟨y0, d0⟩ := hdc 0 (by omega)
                obtain ⟨y1, d1⟩ := hdc 1 (by omega)
                obtain ⟨y2, d2⟩ := hdc 2 (by omega)
                replace d0 : wr.cell? ⟨db, 5 * q, none⟩ = some (.int .u8 y0) := d0
                have hM0 : (5 * (q : Int)) < M ∧ (5 * (q : Int) + 1) < M ∧ (5 * (q : Int) + 2) < M := by omega
                have HN := Aside0.mk hN
                clear hdc hN hjL
                as_aux_lemma =>
                  go_wp2
                  refine ⟨⟨8 * q + 5, 5 * q + 3, true, A3, c3, 5 * q + 5, by omega, ?_, by go_num, rfl, rfl, rfl, by omega, fun _ => HJL.out, fun h => (by cases h), ⟨⟨JS.out, ?_, ?_, ?_⟩⟩⟩, ?_⟩
                  · rw [show s.length - (8 * q + 5) = 0 by have := HJL.out; omega]
                  · exact (grown_set (grown_set (grown_set JG.out _ _) _ _) _ _)
                  · have h := (((JD.out.putb (5 * q + 2) (v3 % 16 * 16 + v4 / 2)).putb (5 * q + 1) (v1 % 4 * 64 + v2 * 2 + v3 / 16)).putb (5 * q) (v0 * 8 + v1 / 4))
                    rw [set3 _ _ _ _ _ _ _ (decB_len_full q _ (by rw [List.length_take]; have := HJL.out; omega)) (by omega)] at h
                    have e : decB (s.take (8 * q)) ++ [v0 * 8 + v1 / 4, v1 % 4 * 64 + v2 * 2 + v3 / 16, v3 % 16 * 16 + v4 / 2] ++ List.replicate (M - 5 * q - 3) 0 = decB (s.take (8 * q + 5)) ++ List.replicate (M - (5 * q + 3)) 0 := HNX.out
                    rw [e] at h
                    exact h
                  · rw [decN_add]; rfl
                  · show 0 + 0 < s.length - 8 * q + 1
                    omega
              · subst h
                replace hN : decN s.length = 5 * q + 2 := hN
                obtain ⟨y0, d0⟩ := hdc 0 (by omega)
                obtain ⟨y1, d1⟩ := hdc 1 (by omega)
                replace d0 : wr.cell? ⟨db, 5 * q, none⟩ = some (.int .u8 y0) := d0
                have hM0 : (5 * (q : Int)) < M ∧ (5 * (q : Int) + 1) < M := by omega
                have HN := Aside0.mk hN
                clear hdc hN hjL
                as_aux_lemma =>
                  go_wp2
                  refine ⟨⟨8 * q + 4, 5 * q + 2, true, A3, c3, 5 * q + 5, by omega, ?_, by go_num, rfl, rfl, rfl, by omega, fun _ => HJL.out, fun h => (by cases h), ⟨⟨JS.out, ?_, ?_, ?_⟩⟩⟩, ?_⟩
                  · rw [show s.length - (8 * q + 4) = 0 by have := HJL.out; omega]
                  · exact (grown_set (grown_set JG.out _ _) _ _)
                  · have h := ((JD.out.putb (5 * q + 1) (v1 % 4 * 64 + v2 * 2 + v3 / 16)).putb (5 * q) (v0 * 8 + v1 / 4))
                    rw [set2 _ _ _ _ _ _ (decB_len_full q _ (by rw [List.length_take]; have := HJL.out; omega)) (by omega)] at h
                    have e : decB (s.take (8 * q)) ++ [v0 * 8 + v1 / 4, v1 % 4 * 64 + v2 * 2 + v3 / 16] ++ List.replicate (M - 5 * q - 2) 0 = decB (s.take (8 * q + 4)) ++ List.replicate (M - (5 * q + 2)) 0 := HNX.out
                    rw [e] at h
                    exact h
                  · rw [decN_add]; rfl
                  · show 0 + 0 < s.length - 8 * q + 1
                    omega
              · subst h
                replace hN : decN s.length = 5 * q + 0 := hN
                have HN := Aside0.mk hN
                clear hdc hN hjL
                as_aux_lemma =>
                  go_wp2
                  refine ⟨⟨8 * q + 3, 5 * q + 0, true, A3, c3, 5 * q + 5, by omega, ?_, by go_num, rfl, rfl, rfl, by omega, fun _ => HJL.out, fun h => (by cases h), ⟨⟨JS.out, ?_, ?_, ?_⟩⟩⟩, ?_⟩
                  · rw [show s.length - (8 * q + 3) = 0 by have := HJL.out; omega]
                  · exact JG.out
                  · have h := JD.out
                    have e : decB (s.take (8 * q)) ++ [] ++ List.replicate (M - 5 * q - 0) 0 = decB (s.take (8 * q + 3)) ++ List.replicate (M - (5 * q + 0)) 0 := HNX.out
                    rw [List.append_nil] at e
                    rw [show M - 5 * q = M - 5 * q - 0 from rfl, e] at h
                    exact h
                  · rw [decN_add]; rfl
                  · show 0 + 0 < s.length - 8 * q + 1
                    omega
              · subst h
                replace hN : decN s.length = 5 * q + 1 := hN
                obtain ⟨y0, d0⟩ := hdc 0 (by omega)
                replace d0 : wr.cell? ⟨db, 5 * q, none⟩ = some (.int .u8 y0) := d0
                have hM0 : (5 * (q : Int)) < M := by omega
                have HN := Aside0.mk hN
                clear hdc hN hjL
                as_aux_lemma =>
                  go_wp2
                  refine ⟨⟨8 * q + 2, 5 * q + 1, true, A3, c3, 5 * q + 5, by omega, ?_, by go_num, rfl, rfl, rfl, by omega, fun _ => HJL.out, fun h => (by cases h), ⟨⟨JS.out, ?_, ?_, ?_⟩⟩⟩, ?_⟩
                  · rw [show s.length - (8 * q + 2) = 0 by have := HJL.out; omega]
                  · exact (grown_set JG.out _ _)
                  · have h := (JD.out.putb (5 * q) (v0 * 8 + v1 / 4))
                    rw [set1 _ _ _ _ _ (decB_len_full q _ (by rw [List.length_take]; have := HJL.out; omega)) (by omega)] at h
                    have e : decB (s.take (8 * q)) ++ [v0 * 8 + v1 / 4] ++ List.replicate (M - 5 * q - 1) 0 = decB (s.take (8 * q + 2)) ++ List.replicate (M - (5 * q + 1)) 0 := HNX.out
                    rw [e] at h
                    exact h
                  · rw [decN_add]; rfl
                  · show 0 + 0 < s.length - 8 * q + 1
                    omega
              · subst h
                replace hN : decN s.length = 5 * q + 0 := hN
                have HN := Aside0.mk hN
                clear hdc hN hjL
                as_aux_lemma =>
                  go_wp2
                  refine ⟨⟨8 * q + 1, 5 * q + 0, true, A3, c3, 5 * q + 5, by omega, ?_, by go_num, rfl, rfl, rfl, by omega, fun _ => HJL.out, fun h => (by cases h), ⟨⟨JS.out, ?_, ?_, ?_⟩⟩⟩, ?_⟩
                  · rw [show s.length - (8 * q + 1) = 0 by have := HJL.out; omega]
                  · exact JG.out
                  · have h := JD.out
                    have e : decB (s.take (8 * q)) ++ [] ++ List.replicate (M - 5 * q - 0) 0 = decB (s.take (8 * q + 1)) ++ List.replicate (M - (5 * q + 0)) 0 := HNX.out
                    rw [List.append_nil] at e
                    rw [show M - 5 * q = M - 5 * q - 0 from rfl, e] at h
                    exact h
                  · rw [decN_add]; rfl
                  · show 0 + 0 < s.length - 8 * q + 1
                    omega
        · obtain rfl : j = 8 := by omega
          obtain ⟨V, hV⟩ : ∃ V, V = dbufL s (8 * q) 8 := ⟨_, rfl⟩
          have hVl : V.length = 8 := by rw [hV]; exact dbufL_length s (8 * q) 8 (by omega) (by omega)
          have hVr : ∀ t, 0 ≤ V.getD t 0 ∧ V.getD t 0 < 32 := by rw [hV]; exact fun t => dbufL_range s (8 * q) 8 (by omega) (fun t ht => HV.out t (by omega)) t
          have hVc : ∀ t, t < 8 → wr.cell? ⟨bb, t, none⟩ = some (.int .u8 (V.getD t 0)) := fun t ht => (JB.out.cell _).trans (by rw [← hV]; exact u8s_at _ _ (by omega))
          obtain ⟨v0, e0⟩ : ∃ v, v = V.getD 0 0 := ⟨_, rfl⟩
          obtain ⟨v1, e1⟩ : ∃ v, v = V.getD 1 0 := ⟨_, rfl⟩
          obtain ⟨v2, e2⟩ : ∃ v, v = V.getD 2 0 := ⟨_, rfl⟩
          obtain ⟨v3, e3⟩ : ∃ v, v = V.getD 3 0 := ⟨_, rfl⟩
          obtain ⟨v4, e4⟩ : ∃ v, v = V.getD 4 0 := ⟨_, rfl⟩
          obtain ⟨v5, e5⟩ : ∃ v, v = V.getD 5 0 := ⟨_, rfl⟩
          obtain ⟨v6, e6⟩ : ∃ v, v = V.getD 6 0 := ⟨_, rfl⟩
          obtain ⟨v7, e7⟩ : ∃ v, v = V.getD 7 0 := ⟨_, rfl⟩
          have r0 := hVr 0; have r1 := hVr 1; have r2 := hVr 2; have r3 := hVr 3; have r4 := hVr 4; have r5 := hVr 5; have r6 := hVr 6; have r7 := hVr 7
          have g0 := hVc 0 (by omega); have g1 := hVc 1 (by omega); have g2 := hVc 2 (by omega); have g3 := hVc 3 (by omega)
          have g4 := hVc 4 (by omega); have g5 := hVc 5 (by omega); have g6 := hVc 6 (by omega); have g7 := hVc 7 (by omega)
          rw [← e0] at r0 g0; rw [← e1] at r1 g1; rw [← e2] at r2 g2; rw [← e3] at r3 g3; rw [← e4] at r4 g4; rw [← e5] at r5 g5; rw [← e6] at r6 g6; rw [← e7] at r7 g7
          have P4 := pack4 r6 r7; have P3 := pack3 r4 r5 r6; have P2 := pack2 r3 r4; have P1 := pack1 r1 r2 r3; have P0 := pack0 r0 r1
          have HNX := Aside0.mk (next_dst s q 8 M (by omega) (by omega) hM hV e0 e1 e2 e3 e4 e5 e6 e7 rfl)
          clear hV hVl hVr hVc e0 e1 e2 e3 e4 e5 e6 e7
          have hM5 : 5 * q + 5 ≤ M := by have := decN_ge (q + 1) s.length (by omega); omega
          have hdc : ∀ t, t < 5 → ∃ y, wr.cell? ⟨db, 5 * q + t, none⟩ = some (.int .u8 y) := fun t ht => ⟨_, (JD.out.cell _).trans (u8s_at _ _ (by rw [held_len s q M (by omega) hM]; omega))⟩
          obtain ⟨y0, d0⟩ := hdc 0 (by omega)
          replace d0 : wr.cell? ⟨db, 5 * q, none⟩ = some (.int .u8 y0) := d0
          obtain ⟨y1, d1⟩ := hdc 1 (by omega)
          obtain ⟨y2, d2⟩ := hdc 2 (by omega)
          obtain ⟨y3, d3⟩ := hdc 3 (by omega)
          obtain ⟨y4, d4⟩ := hdc 4 (by omega)
          have df : ∀ t, wr.frozen? ⟨db, t, none⟩ = false := fun t => JD.out.frozen t
          have hM0 : (5 * (q : Int)) < M ∧ (5 * (q : Int) + 1) < M ∧ (5 * (q : Int) + 2) < M ∧ (5 * (q : Int) + 3) < M ∧ (5 * (q : Int) + 4) < M := by omega
          have hne : ¬ bb = db := by omega
          clear hdc
          as_aux_lemma =>
            go_wp2
            refine ⟨⟨8 * q + 8, 5 * q + 5, false, A3, c3, 5 * q + 5, by omega, ?_, by go_num, rfl, rfl, rfl, by omega, fun h => (by cases h), fun _ => ⟨q + 1, by omega, by omega, by omega⟩, ⟨⟨JS.out, ?_, ?_, ?_⟩⟩⟩, ?_⟩
            · rw [show s.length - (8 * q + 8) = s.length - 8 * q - 8 by omega]
            · exact grown_set (grown_set (grown_set (grown_set (grown_set JG.out _ _) _ _) _ _) _ _) _ _
            · have h := ((((JD.out.putb (5 * q + 4) (v6 % 8 * 32 + v7)).putb (5 * q + 3) (v4 % 2 * 128 + v5 * 4 + v6 / 8)).putb (5 * q + 2) (v3 % 16 * 16 + v4 / 2)).putb (5 * q + 1) (v1 % 4 * 64 + v2 * 2 + v3 / 16)).putb (5 * q) (v0 * 8 + v1 / 4)
              rw [set5 _ _ _ _ _ _ _ _ _ (decB_len_full q _ (by rw [List.length_take]; omega)) (by omega)] at h
              have e : decB (s.take (8 * q)) ++ [v0 * 8 + v1 / 4, v1 % 4 * 64 + v2 * 2 + v3 / 16, v3 % 16 * 16 + v4 / 2, v4 % 2 * 128 + v5 * 4 + v6 / 8, v6 % 8 * 32 + v7] ++ List.replicate (M - 5 * q - 5) 0 = decB (s.take (8 * q + 8)) ++ List.replicate (M - (5 * q + 5)) 0 := HNX.out
              rw [e] at h
              exact h
            · rw [decN_add]; rfl
            · show s.length - 8 * q - 8 + 1 < s.length - 8 * q + 1
              omega
    · have hiL : i = s.length := by omega
      have hpL : p = s.length := by omega
      have hz : s.length - i = 0 := by omega
      have HI' := HI.out
      have HIL := Aside0.mk hiL
      have HPL := Aside0.mk hpL
      clear HI hiL hpL hbt hbf
      rw [hz]
      clear hz
      cases b
      all_goals
        as_aux_lemma =>
          go_wp2
          go_ret3
          have hn : n = decN s.length := HI'.num.trans (by rw [HIL.out])
          refine ⟨HI'.grown, ⟨_, HI'.dst, ?_, fun _ => ⟨by rw [hn]; exact ⟨_, rfl⟩, ?_⟩⟩, fun h => absurd h (by have := HPL.out; omega)⟩
          · rw [HIL.out, List.take_length, List.length_append, decB_len, List.length_replicate]; omega
          · rw [HIL.out, List.take_length, hn]
end Go.Proofs.Ytmmhifomfbdfjaa
