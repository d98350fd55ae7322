/- nkeys.Prefix and impl.Kind of a key's text. -/
import Derived.Test.YtmmhifomfbdfjaaDec
import Derived.Test.YtmmhifomfbdfjaaSpecW
import Derived.Test.YtmmhifomfbdfjaaWorks
import Derived.Test.YtmmhifomfbdfjaaPkindx
namespace Go.Proofs.Ytmmhifomfbdfjaa
open Go.RowKit Go.Proofs.YtmmhifomfbdfjaaW.PrintWords Go.Proofs.YtmmhifomfbdfjaaW.PrintLast Go.Proofs.YtmmhifomfbdfjaaW.PrintMore
set_option linter.unusedVariables false
set_option linter.unusedSimpArgs false
set_option linter.unusedSectionVars false

theorem kind_f {k : Int} (h0 : 0 ≤ k) (h1 : k < 6) : Pkind.impl_kind.f 20 (pk k) = some k := by
  rcases kinds h0 h1 with rfl | rfl | rfl | rfl | rfl | rfl <;> decide +kernel
section
variable {c : Int} {ys : List Int} (hc : Pref c) (hy : ys.length = 32) (hb : ∀ x ∈ ys, 0 ≤ x ∧ x ≤ 255)
include hc hy hb
theorem key_checks : checks (keyL c ys) := chk_checks (d := c :: ys) (by simp [hy]) (by simp [hy]) (by simp [hy]) (key_bytes hc hb)
theorem key_decN : decN (keyL c ys).length = 35 := by
  have := chk_decN (d := c :: ys) (by simp [hy]) (by simp [hy]) (key_bytes hc hb)
  rw [keyL, this]; simp [hy]
theorem key_raw : (decB (keyL c ys)).take (decN (keyL c ys).length - 2) = c :: ys := by
  have h2 : decB (keyL c ys) = chk (c :: ys) := chk_dec (d := c :: ys) (by simp [hy]) (by simp [hy]) (key_bytes hc hb)
  rw [h2, key_decN hc hy hb]
  unfold chk
  rw [show 35 - 2 = (c :: ys).length by simp [hy], List.take_left]
end

set_option maxHeartbeats 800000 in
theorem prefixKey (w : World) (s : ByteArray) (c : Int) (ys : List Int) (hc : Pref c) (hy : ys.length = 32) (hb : ∀ x ∈ ys, 0 ≤ x ∧ x ≤ 255) (hs : bytesOf s = keyL c ys) :
    Calls Try.prog 42 #[.string s] w fun e w' => e = .returned (.int .u8 c) ∧ Below w.heap.size w w' := by
  have HC := Aside0.mk hc
  have hl : (bytesOf s).length = 56 := by rw [hs]; exact keyL_length _ _ hy
  have hsz : s.size ≤ 1000 := by rw [← bytesOf_length s, hl]; omega
  have HT := Aside0.mk (show Txt (bytesOf s) (bytesOf s).length by rw [hs]; exact key_txt hc hy hb)
  have HK := Aside0.mk (show checks (bytesOf s) by rw [hs]; exact key_checks hc hy hb)
  have HN := Aside0.mk (show decN (bytesOf s).length - 2 = 33 by rw [hs, key_decN hc hy hb])
  have HRAW := Aside0.mk (show (decB (bytesOf s)).take (decN (bytesOf s).length - 2) = c :: ys by rw [hs]; exact key_raw hc hy hb)
  have HY := Aside0.mk hy
  have kb' := fun W => print_bytes (P := Try.prog) 9 22 5 Try.underlying9 Try.underlying22 Try.underlying5 s W
  clear hc hy hb hs hl
  go_enter Try.func42, Try.ntmps42
  go_wp2_with fail
  have hB2 := bytes_below (Below.refl w.heap.size w) (Nat.le_refl _) 5 s
  have hR2 := str_rds w s (by omega)
  have hcap : s.size ≤ grownCap w s.size 0 5 := grownCap_ge _ _ _ _
  obtain ⟨c2, hc2⟩ : ∃ c2, c2 = grownCap w s.size 0 5 := ⟨_, rfl⟩
  rw [← hc2] at hcap ⊢
  obtain ⟨w2, hw2⟩ : ∃ w2, w2 = Lib.bytesWorld w 5 s := ⟨_, rfl⟩
  rw [← hw2] at hB2 hR2 ⊢
  have B2 := Aside0.mk hB2
  have R2 := Aside0.mk hR2
  clear hB2 hR2 hc2 hw2
  have hcall := decodeK w2 c2 (bytesOf s).length (some ⟨w.heap.size, 0, none⟩) (bytesOf s) R2.out (by rw [bytesOf_length]; exact hcap) HT.out
  rw [show Value.slice (some ⟨w.heap.size, 0, none⟩) (bytesOf s).length c2 = Value.slice (some ⟨w.heap.size, 0, none⟩) s.size c2 by rw [bytesOf_length]] at hcall
  refine hcall.mono ?_
  clear hcall
  rintro e w3 ⟨hb3, hok, -⟩
  obtain ⟨A3, c3, rfl, hc3, hr3⟩ := hok ⟨rfl, HK.out⟩
  rw [HRAW.out] at hr3
  rw [HN.out] at hc3
  have hx0 := Kd.at_int hr3 0 (by omega) (by simp)
  obtain ⟨ad, rfl, hcell⟩ := hx0
  replace hcell : w3.cell? ad = some (.int .u8 c) := hcell
  have B3 := Aside0.mk (below_step B2.out hb3)
  clear hok hb3 hr3
  rw [HN.out]
  go_wp2_with (go_at_call 57; refine (check_ok _ c HC.out).mono ?_; rintro e w' ⟨rfl, rfl⟩)
  go_ret
  exact ⟨rfl, B3.out⟩

set_option maxHeartbeats 800000 in
theorem kindClo (w : World) (tb sb : Nat) (s : ByteArray) (k : Int) (v0 : Value) (ys : List Int) (htx : w.cell? ⟨tb, 0, none⟩ = some (.string s)) (hs0 : Blk w sb 3 #[v0]) (h0 : 0 ≤ k) (h1 : k < 6)
    (hy : ys.length = 32) (hb : ∀ x ∈ ys, 0 ≤ x ∧ x ≤ 255) (hs : bytesOf s = keyL (pk k) ys) :
    Calls Try.prog 40 #[.pointer (some ⟨tb, 0, none⟩), .pointer (some ⟨sb, 0, none⟩)] w fun e w' => e = .returned (.bool true) ∧ Left w w' [sb] ∧ Blk w' sb 3 #[.int .i64 k] := by
  have HS := Aside0.mk hs0
  have HCALL := Aside0.mk (prefixKey w s (pk k) ys (pk_pref h0 h1) hy hb hs)
  have HF := Aside0.mk (kind_f h0 h1)
  clear hs0 hs hb hy
  go_enter Try.func40, Try.ntmps40
  go_wp2_with fail
  refine HCALL.out.mono ?_
  rintro e w1 ⟨rfl, hb1⟩
  have B1 := Aside0.mk hb1
  clear hb1
  go_wp2_with fail
  refine (Pkind.impl_kind.calls 20 (pk k) k w1 HF.out).mono ?_
  rintro e w2 ⟨rfl, hb2⟩
  have B2 := Aside0.mk (below_step B1.out hb2)
  have S2 := Aside0.mk (HS.out.below B2.out)
  have hsc := S2.out.cell 0
  have hsf := S2.out.frozen 0
  clear hb2
  go_wp2
  go_ret
  exact ⟨rfl, (Left.of_below B2.out _).set_ (by simp) _, S2.out.set_ 0 _⟩

set_option maxHeartbeats 800000 in
theorem implKind (w : World) (s : ByteArray) (k : Int) (ys : List Int) (h0 : 0 ≤ k) (h1 : k < 6) (hy : ys.length = 32) (hb : ∀ x ∈ ys, 0 ≤ x ∧ x ≤ 255) (hs : bytesOf s = keyL (pk k) ys) :
    Calls Try.prog 18 #[.string s] w fun e w' => e = .returned (.int .i64 k) ∧ Below w.heap.size w w' := by
  have hmf : ∀ (fn : Fn) (first cap : Array Value) (w : World), (Instr.makeFunc fn first cap).run Try.prog w = .ok (.func fn first cap) w := fun _ _ _ _ => rfl
  have HY := Aside0.mk hy
  have HB := Aside0.mk hb
  have HS := Aside0.mk hs
  clear hy hb hs
  go_enter Try.func18, Try.ntmps18
  go_wp2_with fail
  obtain ⟨W, hW⟩ : ∃ W, W = ((w.alloc (.cells #[.string s] 9)).alloc (.cells #[.int .i64 0] 3)) := ⟨_, rfl⟩
  have hz : W.heap.size = w.heap.size + 1 + 1 := by rw [hW]; simp
  have BW := Aside0.mk (show Below w.heap.size w W by rw [hW]; exact below_alloc (below_alloc (Below.refl _ _) _) _)
  have K1 : Blk W w.heap.size 9 #[.string s] := by rw [hW]; exact (Blk.new w 9 _).alloc _
  have K2 : Blk W (w.heap.size + 1) 3 #[.int .i64 0] := by
    rw [hW]; have h := Blk.new (w.alloc (.cells #[.string s] 9)) 3 #[.int .i64 0]; simpa using h
  rw [← hW]
  clear hW
  refine (try_left W 40 _ true [w.heap.size + 1] (fun w' => Blk w' (w.heap.size + 1) 3 #[.int .i64 k]) (callF Try.func40 (by kernel_rfl) rfl _) (by intro k hk; simp at hk; omega)
    (fun W' hb h => h.far (p := ⟨W.heap.size, 0, none⟩) (show w.heap.size + 1 ≠ W.heap.size by omega) _)
    (kindClo _ w.heap.size (w.heap.size + 1) s k _ ys ((K1.alloc _).cell 0) (K2.alloc _) h0 h1 HY.out HB.out HS.out)).mono ?_
  rintro e w1 ⟨rfl, hp, hv⟩
  have hsc := hv.cell 0
  have hsf := hv.frozen 0
  have B1 := Aside0.mk (hp.under BW.out (by intro k hk; simp at hk; omega))
  have HQ := Aside0.mk ((hv.set_ 0 (.int .i64 k)).cell 0)
  clear hp K1 K2 hz hv
  go_wp2
  have hq := HQ.out
  simp at hq
  exact bodyPost_ret (v := .int .i64 k) (by simp [results, Try.results18, go_sem, hq]) rfl ⟨rfl, B1.out.setCell (by show w.heap.size ≤ w.heap.size + 1; omega) _⟩
end Go.Proofs.Ytmmhifomfbdfjaa
