/- nkeys.EncodeSeed and impl.EncodeSeed of 32 bytes; spec.Seed. -/
import Derived.Test.YtmmhifomfbdfjaaDec
import Derived.Test.YtmmhifomfbdfjaaSpecW
import Derived.Test.YtmmhifomfbdfjaaWorks
namespace Go.Proofs.Ytmmhifomfbdfjaa
open Go.RowKit Go.Proofs.YtmmhifomfbdfjaaW.PrintWords Go.Proofs.YtmmhifomfbdfjaaW.PrintLast Go.Proofs.YtmmhifomfbdfjaaW.PrintMore
set_option linter.unusedVariables false
set_option linter.unusedSimpArgs false

/-- The two bytes that a seed begins with. -/
def sd0 (c : Int) : Int := 144 + c / 32
def sd1 (c : Int) : Int := c % 32 * 8
/-- The text of a seed. -/
def seedL (c : Int) (ys : List Int) : List Int := encL (chk (sd0 c :: sd1 c :: ys))
theorem sd_facts {c : Int} (hc : Pref c) : bits .or .u8 144 (c / 32) = sd0 c ∧ c % 32 * 8 = sd1 c ∧ 0 ≤ sd0 c ∧ sd0 c ≤ 255 ∧ 0 ≤ sd1 c ∧ sd1 c ≤ 255 := by
  rcases hc with rfl | rfl | rfl | rfl | rfl | rfl <;> decide +kernel

set_option maxHeartbeats 800000 in
set_option maxRecDepth 100000 in
theorem encodeSeed (w : World) (c : Int) (A : Option Addr) (cap : Nat) (ys : List Int) (hc : Pref c) (hr : Rds w A ys) (hcap : ys.length ≤ cap) (hy : ys.length = 32) (hb : ∀ x ∈ ys, 0 ≤ x ∧ x ≤ 255) :
    Calls Try.prog 24 #[.int .u8 c, .slice A ys.length cap] w fun e w' => ∃ A' n c', e = .returned (.tuple #[.slice A' n c', .nilIface]) ∧ n = (seedL c ys).length ∧ n ≤ c' ∧ Rds w' A' (seedL c ys) ∧ Below w.heap.size w w' := by
  obtain ⟨hs0, hs1, h0a, h0b, h1a, h1b⟩ := sd_facts hc
  obtain ⟨d1, hd1⟩ : ∃ d, d = sd0 c :: sd1 c :: ys := ⟨_, rfl⟩
  obtain ⟨d2, hd2⟩ : ∃ d, d = chk d1 := ⟨_, rfl⟩
  have hb1 : ∀ x ∈ d1, 0 ≤ x ∧ x ≤ 255 := by
    rw [hd1]; intro x hx
    rcases List.mem_cons.1 hx with rfl | hx
    · exact ⟨h0a, h0b⟩
    rcases List.mem_cons.1 hx with rfl | hx
    · exact ⟨h1a, h1b⟩
    · exact hb x hx
  have hl1 : d1.length = 34 := by rw [hd1, List.length_cons, List.length_cons, hy]
  have hl2 : d2.length = 36 := by rw [hd2, chk_length, hl1]
  have hb2 : ∀ x ∈ d2, 0 ≤ x ∧ x ≤ 255 := by rw [hd2]; exact chk_bytes hb1
  have e32 : ((ys.length : Int) != 32) = false := by rw [hy]; rfl
  unfold seedL
  rw [← hd1, ← hd2]
  obtain ⟨x0, hx0⟩ : ∃ x, x = sd0 c := ⟨_, rfl⟩
  obtain ⟨x1, hx1⟩ : ∃ x, x = sd1 c := ⟨_, rfl⟩
  rw [← hx0] at hs0
  rw [← hx1] at hs1
  rw [← hx0, ← hx1] at hd1
  obtain ⟨m, hm⟩ := encLen_nat d2.length
  have HM := Aside0.mk hm
  have HR := Aside0.mk hr
  have HB1 := Aside0.mk hb1
  have HB2 := Aside0.mk hb2
  have HC := Aside0.mk hc
  have HD1 := Aside0.mk hd1
  have HD2 := Aside0.mk hd2
  have HL1 := Aside0.mk hl1
  have HL2 := Aside0.mk hl2
  have HY := Aside0.mk hy
  have hcr := crcT_range d1
  obtain ⟨q, hq⟩ : ∃ q, q = crcT d1 := ⟨_, rfl⟩
  rw [← hq] at hcr
  have HQ := Aside0.mk hq
  have hc255 : 0 ≤ c ∧ c ≤ 255 := by rcases hc with rfl | rfl | rfl | rfl | rfl | rfl <;> decide
  clear hr hb hb1 hb2 hc hd1 hd2 hl1 hl2 hm hq hy h0a h0b h1a h1b hx0 hx1
  go_enter Try.func24, Try.ntmps24
  go_wp2_with (go_at_call 47; refine (checkPublic_ok _ c HC.out).mono ?_; rintro e w' ⟨rfl, rfl⟩)
  refine (writeByte_any _ _ w.heap.size x0 [] (Buf.new w) (by simp)).mono ?_
  rintro e w0 ⟨rfl, hb0, hbel0⟩
  have B0 := Aside0.mk (show Below w.heap.size w w0 from (below_alloc (Below.refl _ _) _).trans hbel0)
  have U0 := Aside0.mk hb0
  clear hb0 hbel0
  go_wp2_with fail
  refine (writeByte_any w0 _ w.heap.size x1 [x0] U0.out (by simp)).mono ?_
  rintro e w1 ⟨rfl, hb1, hbel1⟩
  have B1 := Aside0.mk (B0.out.trans hbel1)
  have U1 := Aside0.mk hb1
  clear hb1 hbel1 B0 U0
  go_wp2_with fail
  refine (write_any w1 _ w.heap.size cap A [x0, x1] ys U1.out (Kd.C_below HR.out B1.out) hcap (by simp) (by rw [HY.out]; omega)).mono ?_
  rintro e w2 ⟨rfl, hb2, hbel2⟩
  have B2 := Aside0.mk (B1.out.trans hbel2)
  have U2 := Aside0.mk (show Buf w2 w.heap.size w.heap.size d1 by rw [HD1.out]; exact hb2)
  clear hb2 hbel2 B1 U1
  go_wp2_with fail
  refine (bytes_any w2 _ w.heap.size d1 U2.out).mono ?_
  rintro e w' ⟨⟨A1, c1, rfl, hc1, hr1⟩, rfl⟩
  have R1 := Aside0.mk hr1
  clear hr1
  go_wp2_with fail
  refine (crc16_any w2 A1 c1 d1 R1.out hc1 (by rw [HL1.out]; omega) HB1.out).mono ?_
  rintro e w3 ⟨rfl, hbel3⟩
  have B3 := Aside0.mk (below_step B2.out hbel3)
  have U3 := Aside0.mk (U2.out.below hbel3)
  clear hbel3 B2 U2 R1
  rw [← HQ.out]
  go_wp2_with fail
  refine (write16_any w3 _ w.heap.size q d1 U3.out (by rw [HL1.out]; omega) hcr.1 hcr.2).mono ?_
  rintro e w4 ⟨rfl, hb4, hbel4⟩
  have B4 := Aside0.mk (B3.out.trans hbel4)
  have U4 := Aside0.mk (show Buf w4 w.heap.size w.heap.size d2 by rw [HD2.out, chk, ← HQ.out]; exact hb4)
  clear hb4 hbel4 B3 U3
  go_wp2_with fail
  refine (bytes_any w4 _ w.heap.size d2 U4.out).mono ?_
  rintro e w' ⟨⟨A2, c2, rfl, hc2, hr2⟩, rfl⟩
  have R2 := Aside0.mk hr2
  clear hr2
  go_wp2_with fail
  refine (b32enc w4).mono ?_
  rintro e w5 ⟨g, rfl, hg5, he5, hbel5⟩
  have E5 := Aside0.mk he5
  have B5 := Aside0.mk hbel5
  clear he5 hbel5 hg5
  go_wp2_with fail
  refine (encodedLen w5 g d2.length E5.out (by omega) (by rw [HL2.out]; omega)).mono ?_
  rintro e w' ⟨rfl, rfl⟩
  have hm1 : m ≤ 10000 := by have := HM.out; have := HL2.out; unfold encLen at *; omega
  go_wp2_with ((with_reducible refine gate_dst (N := 53) rfl ?_); refine make_any rfl (.tmp 52) (.tmp 52) rfl (encLen d2.length) m HM.out.symm rfl rfl (by omega) ?_)
  obtain ⟨w6, hw6⟩ : ∃ w6, w6 = w5.alloc (.cells (u8s (List.replicate m 0)).toArray 5) := ⟨_, rfl⟩
  have K6 := Aside0.mk (show Blk w6 w5.heap.size 5 (u8s (List.replicate m 0)).toArray by rw [hw6]; exact Blk.new _ _ _)
  have B6 := Aside0.mk (show Below w4.heap.size w4 w6 by rw [hw6]; exact below_alloc B5.out _)
  have hdb : w4.heap.size ≤ w5.heap.size := B5.out.size
  rw [← hw6]
  clear hw6 B5 E5
  refine (b32enc w6).mono ?_
  rintro e w7 ⟨g2, rfl, hg7, he7, hbel7⟩
  have E7 := Aside0.mk he7
  have K7 := Aside0.mk (K6.out.below hbel7)
  have B7 := Aside0.mk (below_step B6.out hbel7)
  go_wp2_with fail
  refine (encode_any w7 g2 w5.heap.size c2 d2 A2 m E7.out HM.out K7.out ?hr hc2 (by rw [HL2.out]; omega) HB2.out (by rw [HL2.out]; omega) (by rw [HL2.out]; omega)).mono ?_
  case hr =>
    intro W hW
    refine Kd.C_below R2.out (B7.out.grown hW B7.out.size ?_)
    intro k hk
    injection hk with hk
    omega
  rintro e w8 ⟨rfl, hk8, hg8⟩
  have K8 := Aside0.mk hk8
  have B8 := Aside0.mk (show Below w4.heap.size w4 w8 from B7.out.grown hg8 B7.out.size (by intro k hk; injection hk with hk; omega))
  clear hk8 hg8 K7 B7 E7 K6 B6
  go_wp2_with fail
  have hfin := encLen_eq d2 HM.out
  refine bodyPost_ret (results_tmp2 rfl _ _ _) rfl ⟨some ⟨w5.heap.size, 0, none⟩, m, m, rfl, hfin, Nat.le_refl _, blk_rds K8.out (by have := encL_bound d2 (by rw [HL2.out]; omega); omega), ?_⟩
  exact below_weaken B4.out B4.out.size B8.out

set_option maxHeartbeats 800000 in
set_option maxRecDepth 100000 in
theorem seedClo (w : World) (kb rb sb cap : Nat) (k : Int) (A : Option Addr) (ys : List Int) (s0 : ByteArray) (hk : w.cell? ⟨kb, 0, none⟩ = some (.int .i64 k)) (hr : w.cell? ⟨rb, 0, none⟩ = some (.slice A ys.length cap))
    (hs : Blk w sb 9 #[.string s0]) (h0 : 0 ≤ k) (h1 : k < 6) (hrd : Rds w A ys) (hcap : ys.length ≤ cap) (hy : ys.length = 32) (hb : ∀ x ∈ ys, 0 ≤ x ∧ x ≤ 255) :
    Calls Try.prog 22 #[.pointer (some ⟨kb, 0, none⟩), .pointer (some ⟨rb, 0, none⟩), .pointer (some ⟨sb, 0, none⟩)] w fun e w' => e = .returned (.bool true) ∧ Put w w' sb 9 (.string (strOfNums (seedL (pk k) ys))) := by
  have HRD := Aside0.mk hrd
  have HB := Aside0.mk hb
  have HS := Aside0.mk hs
  have HK := Aside0.mk hk
  have HR := Aside0.mk hr
  have HY := Aside0.mk hy
  have hpf := Aside0.mk (prefix_f h0 h1)
  have hpp := Aside0.mk (pk_pref h0 h1)
  clear hrd hb hs hr hy
  go_enter Try.func22, Try.ntmps22
  go_wp2_with fail
  refine (Pprefix.impl_prefix.calls k (pk k) true w hpf.out).mono ?_
  rintro e w1 ⟨rfl, hb1⟩
  have hr1 := pw_cell_below hb1 HR.out
  have B1 := Aside0.mk hb1
  clear hb1 hk
  go_wp2_with fail
  refine (clone_any w1 A cap ys (Kd.C_below HRD.out B1.out) hcap (by rw [HY.out]; omega)).mono ?_
  rintro e w2 ⟨A2, n2, c2, rfl, hn2, hc2, hr2, hb2⟩
  have R2 := Aside0.mk hr2
  have B2 := Aside0.mk (below_step B1.out hb2)
  clear hr2 hb2 hr1
  subst hn2
  go_wp2_with fail
  refine (encodeSeed w2 (pk k) A2 c2 ys hpp.out R2.out hc2 HY.out HB.out).mono ?_
  rintro e w3 ⟨A3, n3, c3, rfl, hn3, hc3, hr3, hb3⟩
  have hcv := Kd.C_string (P := Try.prog) (w := w3) (c := c3) Try.underlying22 Try.underlying5 Try.underlying9 hr3
  rw [← hn3] at hcv
  have B3 := Aside0.mk (below_step B2.out hb3)
  have S3 := HS.out.below B3.out
  have hsc := S3.cell 0
  have hsf := S3.frozen 0
  clear hr3 hb3 S3 hn3
  go_wp2
  go_ret
  exact ⟨rfl, Put.of_below B3.out HS.out _⟩

set_option maxHeartbeats 800000 in
set_option maxRecDepth 100000 in
theorem implEncodeSeed (w : World) (k : Int) (A : Option Addr) (cap : Nat) (ys : List Int) (h0 : 0 ≤ k) (h1 : k < 6) (hrd : Rds w A ys) (hcap : ys.length ≤ cap) (hy : ys.length = 32) (hb : ∀ x ∈ ys, 0 ≤ x ∧ x ≤ 255) :
    Calls Try.prog 11 #[.int .i64 k, .slice A ys.length cap] w fun e w' => e = .returned (.tuple #[.string (strOfNums (seedL (pk k) ys)), .bool true]) ∧ Below w.heap.size w w' := by
  have HRD := Aside0.mk hrd
  have HB := Aside0.mk hb
  have HY := Aside0.mk hy
  clear hrd hb hy
  have hmf : ∀ (fn : Fn) (first cap : Array Value) (w : World), (Instr.makeFunc fn first cap).run Try.prog w = .ok (.func fn first cap) w := fun _ _ _ _ => rfl
  go_enter Try.func11, Try.ntmps11
  go_wp2_with fail
  obtain ⟨W, hW⟩ : ∃ W, W = (((w.alloc (.cells #[.int .i64 k] 3)).alloc (.cells #[.slice A ys.length cap] 22)).alloc (.cells #[.string ⟨#[]⟩] 9)) := ⟨_, rfl⟩
  have hz : W.heap.size = w.heap.size + 1 + 1 + 1 := by rw [hW]; simp
  have BW := Aside0.mk (show Below w.heap.size w W by rw [hW]; exact below_alloc (below_alloc (below_alloc (Below.refl _ _) _) _) _)
  have K1 : Blk W w.heap.size 3 #[.int .i64 k] := by rw [hW]; exact ((Blk.new w 3 _).alloc _).alloc _
  have K2 : Blk W (w.heap.size + 1) 22 #[.slice A ys.length cap] := by
    rw [hW]; have h := (Blk.new (w.alloc (.cells #[.int .i64 k] 3)) 22 #[.slice A ys.length cap]).alloc (.cells #[.string ⟨#[]⟩] 9); simpa using h
  have K3 : Blk W (w.heap.size + 1 + 1) 9 #[.string ⟨#[]⟩] := by
    rw [hW]; have h := Blk.new ((w.alloc (.cells #[.int .i64 k] 3)).alloc (.cells #[.slice A ys.length cap] 22)) 9 #[.string ⟨#[]⟩]; simpa using h
  rw [← hW]
  clear hW
  refine (try_put W 22 _ true (w.heap.size + 1 + 1) 9 (.string (strOfNums (seedL (pk k) ys))) _ (callF Try.func22 (by kernel_rfl) rfl _) K3
    (seedClo _ w.heap.size (w.heap.size + 1) (w.heap.size + 1 + 1) cap k A ys _ ((K1.alloc _).cell 0) ((K2.alloc _).cell 0) (K3.alloc _) h0 h1 (Kd.C_alloc (Kd.C_below HRD.out BW.out) _) hcap HY.out HB.out)).mono ?_
  rintro e w1 ⟨rfl, hp⟩
  have hsc := hp.2.cell 0
  have hsf := hp.2.frozen 0
  have B1 := Aside0.mk (hp.under BW.out (by omega))
  have HQ := Aside0.mk ((hp.2.set_ 0 (.string (strOfNums (seedL (pk k) ys)))).cell 0)
  clear hp K1 K2 K3 hz
  go_wp2
  have hq := HQ.out
  simp at hq
  exact bodyPost_ret (v := .tuple #[.string (strOfNums (seedL (pk k) ys)), .bool true]) (by simp [results, Try.results11, go_sem, hq]) rfl ⟨rfl, B1.out.setCell (by show w.heap.size ≤ w.heap.size + 1 + 1; omega) _⟩

set_option maxHeartbeats 800000 in
set_option maxRecDepth 100000 in
theorem spec_seed (w : World) (k : Int) (A : Option Addr) (cap : Nat) (ys : List Int) (h0 : 0 ≤ k) (h1 : k < 6) (hr : Rds w A ys) (hc : ys.length ≤ cap) (hy : ys.length = 32) (hb : ∀ x ∈ ys, 0 ≤ x ∧ x ≤ 255) :
    Calls Try.prog 19 #[.int .i64 k, .slice A ys.length cap] w fun e w' => e = .returned (.string (strOfNums (seedL (pk k) ys))) ∧ Below w.heap.size w w' := by
  have hpk : 0 ≤ pk k ∧ pk k ≤ 255 := by rcases kinds h0 h1 with rfl | rfl | rfl | rfl | rfl | rfl <;> decide
  have hpf : PFnEncode.spec_prefix.f k = some (pk k) := by rcases kinds h0 h1 with rfl | rfl | rfl | rfl | rfl | rfl <;> rfl
  obtain ⟨hs0, hs1, h0a, h0b, h1a, h1b⟩ := sd_facts (pk_pref h0 h1)
  obtain ⟨c, ec⟩ : ∃ c, c = pk k := ⟨_, rfl⟩
  rw [← ec] at hpk hpf hs0 hs1 h0a h0b h1a h1b ⊢
  obtain ⟨d, hd⟩ : ∃ d, d = sd0 c :: sd1 c :: ys := ⟨_, rfl⟩
  have hdl : d.length = 34 := by rw [hd]; simp [hy]
  have hdb : ∀ x ∈ d, 0 ≤ x ∧ x ≤ 255 := by rw [hd]; intro x hx; exact (List.mem_cons.1 hx).elim (fun e => e ▸ ⟨h0a, h0b⟩) (fun hx => (List.mem_cons.1 hx).elim (fun e => e ▸ ⟨h1a, h1b⟩) (hb x))
  have hcl : (chk d).length = 36 := by rw [chk_length, hdl]
  obtain ⟨x0, hx0⟩ : ∃ x, x = sd0 c := ⟨_, rfl⟩
  obtain ⟨x1, hx1⟩ : ∃ x, x = sd1 c := ⟨_, rfl⟩
  rw [← hx0] at hs0
  rw [← hx1] at hs1
  have HS := Aside0.mk (spec_b32 (chk d) (by omega) (chk_bytes hdb) (by omega))
  have HK := Aside0.mk (show seedL c ys = encL (chk d) by rw [hd, seedL])
  rw [← hx0, ← hx1] at hd
  have HD := Aside0.mk hd
  have HDL := Aside0.mk hdl
  have HDB := Aside0.mk hdb
  have HPF := Aside0.mk hpf
  have HR := Aside0.mk hr
  have HY := Aside0.mk hy
  clear hr hb hd hdl hdb hpf ec hcl hy hx0 hx1 h0a h0b h1a h1b
  go_enter Try.func19, Try.ntmps19
  go_wp2_with fail
  refine (PFnEncode.spec_prefix.calls k c w HPF.out).mono ?_
  rintro e w1 ⟨rfl, hb1⟩
  have B1 := Aside0.mk hb1
  have HO := Aside0.mk (own_of_lit w1 w1.heap.size [x0, x1] (Nat.le_refl _) (by simp))
  have HR1 := Aside0.mk (Kd.C_alloc (Kd.C_below HR.out hb1) (.cells (u8s [x0, x1]).toArray 5))
  have B2 := Aside0.mk (below_alloc hb1 (.cells (u8s [x0, x1]).toArray 5))
  have hyl : ys.length ≤ 1000 := by rw [HY.out]; omega
  clear hb1
  go_wp2_with ((with_reducible refine gate_dst (N := 16) rfl ?_); refine app_any w1.heap.size rfl (.tmp 14) (.tmp 15) rfl (.slice (some ⟨w1.heap.size, 0, none⟩) 2 2) [x0, x1] ys A ys.length cap rfl rfl HO.out rfl HR1.out (by simp) (by simp; omega) ?_; intro v2 w2 ho hg hat; have hol := fun k hk => own_base (Kd.R_own HO.out).choose_spec k hk; have B3 := Aside0.mk (B2.out.grown hg B2.out.size (by intro k hk; have := hol k hk; have := B1.out.size; omega)); have h2 := own_rds (show Own w2 w1.heap.size v2 d by rw [HD.out]; exact ho); have hol2 := fun k hk => own_base (Kd.R_own ho).choose_spec k hk; clear ho hg hat hol; obtain ⟨A2, c2, e2, hc2, hr2⟩ := h2; subst e2; have had := hr2.2.2 (by rw [HDL.out]; omega); obtain ⟨ad2, e2, _⟩ := had; subst e2; have R2 := Aside0.mk hr2; clear hr2 hol2)
  refine (spec_checked w2 ad2 c2 d R2.out hc2 (by rw [HDL.out]; omega) HDB.out).mono ?_
  rintro e w3 ⟨ad3, c3, rfl, hc3, hr3, hb3⟩
  have B4 := Aside0.mk (below_step B3.out hb3)
  have R3 := Aside0.mk hr3
  clear hr3 hb3
  obtain ⟨D, hD⟩ : ∃ D, D = chk d := ⟨_, rfl⟩
  rw [← hD] at HS R3 HK hc3 ⊢
  clear hD
  go_wp2_with fail
  refine (PFnEncode.spec_base32.calls _ (some ad3) c3 D _ w3 R3.out hc3 HS.out).mono ?_
  rintro e w4 ⟨rfl, hb4⟩
  have B5 := Aside0.mk (below_step B4.out hb4)
  clear hb4
  go_wp2_with fail
  refine bodyPost_ret (results_tmp rfl _ _ _) rfl ⟨by rw [HK.out]; rfl, B5.out⟩
end Go.Proofs.Ytmmhifomfbdfjaa
