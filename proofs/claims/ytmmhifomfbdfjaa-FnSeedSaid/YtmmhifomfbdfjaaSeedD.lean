/- nkeys.DecodeSeed and impl.DecodeSeed of a seed's text. -/
import Derived.Test.YtmmhifomfbdfjaaSeedF
import Derived.Test.YtmmhifomfbdfjaaPkindx
import Derived.Deep.QuietTactic
import Derived.BigQuiet
import Derived.RegionTactic
namespace Go.Proofs.Ytmmhifomfbdfjaa
open Go.RowKit Go.Proofs.YtmmhifomfbdfjaaW.PrintWords Go.Proofs.YtmmhifomfbdfjaaW.PrintLast Go.Proofs.YtmmhifomfbdfjaaW.PrintMore
set_option linter.unusedVariables false
set_option linter.unusedSimpArgs false
set_option linter.unusedSectionVars false

section
variable {c : Int} {ys : List Int} (hc : Pref c) (hy : ys.length = 32) (hb : ∀ x ∈ ys, 0 ≤ x ∧ x ≤ 255)
include hc hb
theorem seed_bytes : ∀ x ∈ sd0 c :: sd1 c :: ys, 0 ≤ x ∧ x ≤ 255 := fun x hx => by
  obtain ⟨_, _, h0a, h0b, h1a, h1b⟩ := sd_facts hc
  exact (List.mem_cons.1 hx).elim (fun e => e ▸ ⟨h0a, h0b⟩) (fun hx => (List.mem_cons.1 hx).elim (fun e => e ▸ ⟨h1a, h1b⟩) (hb x))
include hy
theorem seed_txt : Txt (seedL c ys) (seedL c ys).length := chk_txt (by simp [hy]) (by simp [hy]) (seed_bytes hc hb)
theorem seed_checks : checks (seedL c ys) := chk_checks (d := sd0 c :: sd1 c :: ys) (by simp [hy]) (by simp [hy]) (by simp [hy]) (seed_bytes hc hb)
theorem seed_decN : decN (seedL c ys).length = 36 := by
  have := chk_decN (d := sd0 c :: sd1 c :: ys) (by simp [hy]) (by simp [hy]) (seed_bytes hc hb)
  rw [seedL, this]; simp [hy]
theorem seed_raw : (decB (seedL c ys)).take (decN (seedL c ys).length - 2) = sd0 c :: sd1 c :: ys := by
  have h2 : decB (seedL c ys) = chk (sd0 c :: sd1 c :: ys) := chk_dec (d := sd0 c :: sd1 c :: ys) (by simp [hy]) (by simp [hy]) (seed_bytes hc hb)
  rw [h2, seed_decN hc hy hb]
  unfold chk
  rw [show 36 - 2 = (sd0 c :: sd1 c :: ys).length by simp [hy], List.take_left]
theorem seed_len : (seedL c ys).length = 58 := by rw [seedL, encL_len, chk_length]; simp [hy]
end

theorem sd_back {c : Int} (hc : Pref c) : bits .and .u8 (sd0 c) 248 = 144 ∧ bits .or .u8 (sd0 c % 8 * 32) (bits .and .u8 (sd1 c) 248 / 8) = c := by
  rcases hc with rfl | rfl | rfl | rfl | rfl | rfl <;> decide +kernel
set_option maxHeartbeats 800000 in
set_option maxRecDepth 100000 in
theorem decodeSeed (w : World) (s : ByteArray) (A : Option Addr) (cap : Nat) (c : Int) (ys : List Int) (hc : Pref c) (hy : ys.length = 32) (hb : ∀ x ∈ ys, 0 ≤ x ∧ x ≤ 255) (hr : Rds w A (seedL c ys)) (hcap : 58 ≤ cap) :
    Calls Try.prog 44 #[.slice A 58 cap] w fun e w' => ∃ A' c', e = .returned (.tuple #[.int .u8 c, .slice A' ys.length c', .nilIface]) ∧ ys.length ≤ c' ∧ Rds w' A' ys ∧ Below w.heap.size w w' := by
  have HC := Aside0.mk hc
  have HT := Aside0.mk (seed_txt hc hy hb)
  have HK := Aside0.mk (seed_checks hc hy hb)
  have HN := Aside0.mk (show decN (seedL c ys).length - 2 = 34 by rw [seed_decN hc hy hb])
  have HRAW := Aside0.mk (seed_raw hc hy hb)
  have HL := Aside0.mk (seed_len hc hy hb)
  have HY := Aside0.mk hy
  have HR := Aside0.mk hr
  obtain ⟨hs0, hs1, h0a, h0b, h1a, h1b⟩ := sd_facts hc
  obtain ⟨hA, hB⟩ := sd_back hc
  obtain ⟨x0, hx0⟩ : ∃ x, x = sd0 c := ⟨_, rfl⟩
  obtain ⟨x1, hx1⟩ : ∃ x, x = sd1 c := ⟨_, rfl⟩
  rw [← hx0] at h0a h0b hA hB
  rw [← hx1] at h1a h1b hB
  have HA := Aside0.mk hA
  have HB' := Aside0.mk hB
  rw [← hx0, ← hx1] at HRAW
  have HX0 := Aside0.mk hx0
  have HX1 := Aside0.mk hx1
  clear hc hy hb hs0 hs1 hx0 hx1 hr hA hB
  go_enter Try.func44, Try.ntmps44
  go_wp2_with fail
  have hcall := decodeK w cap (seedL c ys).length A (seedL c ys) HR.out (by rw [HL.out]; exact hcap) HT.out
  rw [show Value.slice A (seedL c ys).length cap = Value.slice A 58 cap by rw [HL.out]] at hcall
  refine hcall.mono ?_
  clear hcall
  rintro e w3 ⟨hb3, hok, -⟩
  obtain ⟨A3, c3, rfl, hc3, hr3⟩ := hok ⟨rfl, HK.out⟩
  rw [HRAW.out] at hr3
  rw [HN.out] at hc3
  have hl34 : (x0 :: x1 :: ys).length = 34 := by simp [HY.out]
  obtain ⟨ad, rfl, hcell⟩ := Kd.at_int hr3 0 (by omega) (by rw [hl34]; omega)
  replace hcell : w3.cell? ad = some (.int .u8 x0) := hcell
  have hcell1 : w3.cell? ⟨ad.block, ad.off + 1, none⟩ = some (.int .u8 x1) := by obtain ⟨ad', e, h⟩ := Kd.at_int hr3 1 (by omega) (by rw [hl34]; omega); cases e; exact h
  have hd := Kd.C_drop (m := 2) hr3 (by rw [hl34]; omega) (by rw [hl34]; exact hc3)
  rw [if_neg (by omega)] at hd
  have HD := Aside0.mk hd
  have B3 := Aside0.mk hb3
  clear hok hb3 hr3 hd
  rw [HN.out]
  go_wp2_with fail
  go_quiet (fail)
  rw [HA.out, HB'.out]
  go_wp2_with (go_at_call 47; refine (checkPublic_ok _ c HC.out).mono ?_; rintro e w' ⟨rfl, rfl⟩)
  go_quiet (fail)
  go_wp2
  go_ret3
  exact ⟨some ⟨ad.block, ad.off + 2, none⟩, c3 - 2, by rw [HY.out]; rfl, by rw [HY.out]; omega, Kd.C_below HD.out (pw_below_drewN (pw_below_drewN (Below.refl _ _) _) _), pw_below_drewN (pw_below_drewN B3.out _) _⟩

theorem kind_f' {k : Int} (h0 : 0 ≤ k) (h1 : k < 6) : Pkind.impl_kind.f 20 (pk k) = some k := by
  rcases kinds h0 h1 with rfl | rfl | rfl | rfl | rfl | rfl <;> decide +kernel

set_option maxHeartbeats 800000 in
theorem seedDClo (w : World) (tb kb rb : Nat) (s : ByteArray) (k : Int) (v0 u0 : Value) (ys : List Int) (htx : w.cell? ⟨tb, 0, none⟩ = some (.string s)) (hk0 : Blk w kb 3 #[u0]) (hr0 : Blk w rb 22 #[v0]) (h0 : 0 ≤ k) (h1 : k < 6)
    (hy : ys.length = 32) (hb : ∀ x ∈ ys, 0 ≤ x ∧ x ≤ 255) (hs : bytesOf s = seedL (pk k) ys) :
    Calls Try.prog 43 #[.pointer (some ⟨tb, 0, none⟩), .pointer (some ⟨kb, 0, none⟩), .pointer (some ⟨rb, 0, none⟩)] w fun e w' => e = .returned (.bool true) ∧ Left w w' [kb, rb] ∧ Blk w' kb 3 #[.int .i64 k] ∧ Row w' rb ys := by
  have HKB := Aside0.mk hk0
  have HRB := Aside0.mk hr0
  have HY := Aside0.mk hy
  have HB := Aside0.mk hb
  have HS := Aside0.mk hs
  have HF := Aside0.mk (kind_f' h0 h1)
  have hsz : s.size = 58 := by rw [← bytesOf_length s, hs]; exact seed_len (pk_pref h0 h1) hy hb
  have HSZ := Aside0.mk hsz
  have hne := blk_ne (show w.heap[kb]? = some (.cells #[u0] 3 (0, 0)) from hk0) (show w.heap[rb]? = some (.cells #[v0] 22 (0, 0)) from hr0) (by decide)
  have HNE := Aside0.mk hne
  have kb' := fun W => print_bytes (P := Try.prog) 9 22 5 Try.underlying9 Try.underlying22 Try.underlying5 s W
  clear hk0 hr0 hy hb hs hsz hne
  go_enter Try.func43, Try.ntmps43
  go_wp2_with fail
  have hB2 := bytes_below (Below.refl w.heap.size w) (Nat.le_refl _) 5 s
  have hR2 := str_rds w s (by rw [HSZ.out]; omega)
  have hcap : s.size ≤ grownCap w s.size 0 5 := grownCap_ge _ _ _ _
  obtain ⟨c2, hc2⟩ : ∃ c2, c2 = grownCap w s.size 0 5 := ⟨_, rfl⟩
  rw [← hc2] at hcap ⊢
  obtain ⟨w2, hw2⟩ : ∃ w2, w2 = Lib.bytesWorld w 5 s := ⟨_, rfl⟩
  rw [← hw2] at hB2 hR2 ⊢
  have B2 := Aside0.mk hB2
  rw [HS.out] at hR2
  have R2 := Aside0.mk hR2
  rw [HSZ.out] at hcap ⊢
  clear hB2 hR2 hc2 hw2
  refine (decodeSeed w2 s (some ⟨w.heap.size, 0, none⟩) c2 (pk k) ys (pk_pref h0 h1) HY.out HB.out R2.out hcap).mono ?_
  rintro e w3 ⟨A3, c3, rfl, hc3, hr3, hb3⟩
  have B3 := Aside0.mk (below_step B2.out hb3)
  have R3 := Aside0.mk hr3
  clear hr3 hb3
  go_wp2_with fail
  refine (Pkind.impl_kind.calls 20 (pk k) k w3 HF.out).mono ?_
  rintro e w4 ⟨rfl, hb4⟩
  have B4 := Aside0.mk (below_step B3.out hb4)
  have R4 := Aside0.mk (Kd.C_below R3.out hb4)
  clear hb4
  go_wp2_with fail
  refine (clone_own w4 A3 c3 ys R4.out hc3 (by rw [HY.out]; omega)).mono ?_
  rintro e w5 ⟨A5, n5, c5, rfl, ho5, hb5⟩
  have B5 := Aside0.mk (below_step B4.out hb5)
  have O5 := Aside0.mk ho5
  have S5 := Aside0.mk (HKB.out.below B5.out)
  have T5 := Aside0.mk (HRB.out.below B5.out)
  have hsc := S5.out.cell 0
  have hsf := S5.out.frozen 0
  have T6 := Aside0.mk (T5.out.far (p := ⟨kb, 0, none⟩) (fun e => HNE.out e.symm) (.int .i64 k))
  have hsc2 := T6.out.cell 0
  have hsf2 := T6.out.frozen 0
  clear hb5 ho5
  go_wp2
  go_ret
  have O6 := Kd.R_set O5.out (show w5.heap[kb]? = some (.cells _ 3 (0, 0)) from S5.out) (by intro q hq; simp [Kd.int, Kd.scalar] at hq; omega) 0 (.int .i64 k)
  exact ⟨rfl, ((Left.of_below B5.out _).set_ (by simp) _).set_ (by simp) _, (S5.out.set_ 0 (.int .i64 k)).far (p := ⟨rb, 0, none⟩) HNE.out _, Row.put T6.out O6⟩

set_option maxHeartbeats 800000 in
theorem implDecodeSeed (w : World) (s : ByteArray) (k : Int) (ys : List Int) (h0 : 0 ≤ k) (h1 : k < 6) (hy : ys.length = 32) (hb : ∀ x ∈ ys, 0 ≤ x ∧ x ≤ 255) (hs : bytesOf s = seedL (pk k) ys) :
    Calls Try.prog 20 #[.string s] w fun e w' => ∃ A c, e = .returned (.tuple #[.int .i64 k, .slice A ys.length c, .bool true]) ∧ ys.length ≤ c ∧ Rds w' A ys ∧ Below w.heap.size w w' := by
  have hmf : ∀ (fn : Fn) (first cap : Array Value) (w : World), (Instr.makeFunc fn first cap).run Try.prog w = .ok (.func fn first cap) w := fun _ _ _ _ => rfl
  have HY := Aside0.mk hy
  have HB := Aside0.mk hb
  have HS := Aside0.mk hs
  clear hy hb hs
  go_enter Try.func20, Try.ntmps20
  go_wp2_with fail
  obtain ⟨W, hW⟩ : ∃ W, W = (((w.alloc (.cells #[.string s] 9)).alloc (.cells #[.int .i64 0] 3)).alloc (.cells #[.slice none 0 0] 22)) := ⟨_, rfl⟩
  have hz : W.heap.size = w.heap.size + 1 + 1 + 1 := by rw [hW]; simp
  have BW := Aside0.mk (show Below w.heap.size w W by rw [hW]; exact below_alloc (below_alloc (below_alloc (Below.refl _ _) _) _) _)
  have K1 : Blk W w.heap.size 9 #[.string s] := by rw [hW]; exact ((Blk.new w 9 _).alloc _).alloc _
  have K2 : Blk W (w.heap.size + 1) 3 #[.int .i64 0] := by
    rw [hW]; have h := (Blk.new (w.alloc (.cells #[.string s] 9)) 3 #[.int .i64 0]).alloc (.cells #[.slice none 0 0] 22); simpa using h
  have K3 : Blk W (w.heap.size + 1 + 1) 22 #[.slice none 0 0] := by
    rw [hW]; have h := Blk.new ((w.alloc (.cells #[.string s] 9)).alloc (.cells #[.int .i64 0] 3)) 22 #[.slice none 0 0]; simpa using h
  rw [← hW]
  clear hW
  refine (try_left W 43 _ true [w.heap.size + 1, w.heap.size + 1 + 1] (fun w' => Blk w' (w.heap.size + 1) 3 #[.int .i64 k] ∧ Row w' (w.heap.size + 1 + 1) ys) (callF Try.func43 (by kernel_rfl) rfl _) (by intro k hk; simp at hk; omega)
    (fun W' hb h => ⟨h.1.far (p := ⟨W.heap.size, 0, none⟩) (show w.heap.size + 1 ≠ W.heap.size by omega) _, h.2.set_ hb (by decide) (by decide) _⟩)
    (seedDClo _ w.heap.size (w.heap.size + 1) (w.heap.size + 1 + 1) s k _ _ ys ((K1.alloc _).cell 0) (K2.alloc _) (K3.alloc _) h0 h1 HY.out HB.out HS.out)).mono ?_
  rintro e w1 ⟨rfl, hp, hv, hrow⟩
  obtain ⟨v, base, hr, ho⟩ := hrow
  obtain ⟨A, c, rfl, hcc, _⟩ := own_rds ho
  have hsc := hv.cell 0
  have hsf := hv.frozen 0
  have hrc := hr.cell 0
  have hrf := hr.frozen 0
  have B1 := Aside0.mk (hp.under BW.out (by intro k hk; simp at hk; omega))
  have HV := Aside0.mk hv
  have HR := Aside0.mk hr
  have HO := Aside0.mk ho
  clear hp K1 K2 K3 hz hv hr ho
  go_wp2_with fail
  go_region
  go_wp2
  have F1 : Blk (w1.setCell ⟨w.heap.size + 1, 0, none⟩ (.int .i64 k)) (w.heap.size + 1 + 1) 22 #[.slice A ys.length c] := HR.out.far (p := ⟨w.heap.size + 1, 0, none⟩) (show w.heap.size + 1 + 1 ≠ w.heap.size + 1 by omega) _
  have E2 := Blk.far (p := ⟨w.heap.size + 1 + 1, 0, none⟩) (HV.out.set_ 0 (.int .i64 k)) (show w.heap.size + 1 ≠ w.heap.size + 1 + 1 by omega) (.slice A ys.length c)
  have hq1 := E2.drew.cell 0
  have hq2 := (F1.set_ 0 (.slice A ys.length c)).drew.cell 0
  simp at hq1 hq2
  have O2 := Kd.R_set HO.out (show w1.heap[w.heap.size + 1]? = some (.cells _ 3 (0, 0)) from HV.out) (by intro q hq; simp [Kd.int, Kd.scalar] at hq; omega) 0 (.int .i64 k)
  have O3 := Kd.R_drew (Kd.R_set O2 (show (w1.setCell ⟨w.heap.size + 1, 0, none⟩ (.int .i64 k)).heap[w.heap.size + 1 + 1]? = some (.cells _ 22 (0, 0)) from F1) (by intro q hq; simp [Kd.int, Kd.scalar] at hq; omega) 0 (.slice A ys.length c))
  obtain ⟨A', c', e', hc', hr'⟩ := own_rds O3
  injection e' with e1 _ e2
  subst e1 e2
  exact bodyPost_ret (v := .tuple #[.int .i64 k, .slice A ys.length c, .bool true]) (by simp [results, Try.results20, go_sem, hq1, hq2]) rfl ⟨A, c, rfl, hc', hr', below_drew ((B1.out.setCell (by show w.heap.size ≤ w.heap.size + 1; omega) _).setCell (by show w.heap.size ≤ w.heap.size + 1 + 1; omega) _)⟩
end Go.Proofs.Ytmmhifomfbdfjaa
