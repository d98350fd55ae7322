/- nkeys.EncodeSeed and impl.EncodeSeed where the bytes are not 32. -/
import Derived.Test.YtmmhifomfbdfjaaWorks
namespace Go.Proofs.Ytmmhifomfbdfjaa
open Go.RowKit Go.Proofs.YtmmhifomfbdfjaaW.PrintWords Go.Proofs.YtmmhifomfbdfjaaW.PrintLast Go.Proofs.YtmmhifomfbdfjaaW.PrintMore
set_option linter.unusedVariables false
set_option linter.unusedSimpArgs false

set_option maxHeartbeats 400000 in
theorem encodeSeed_bad (w : World) (c : Int) (A : Option Addr) (cap : Nat) (ys : List Int) (hc : Pref c) (hy : ys.length ≠ 32) :
    Calls Try.prog 24 #[.int .u8 c, .slice A ys.length cap] w fun e w' => (∃ s, e = .returned (.tuple #[.slice none 0 0, .iface 59 (.string s)])) ∧ w = w' := by
  have HC := Aside0.mk hc
  have hn : ((ys.length : Int) != 32) = true := by rw [bne_iff_ne]; omega
  clear hc hy
  go_enter Try.func24, Try.ntmps24
  go_wp2_with (go_at_call 47; refine (checkPublic_ok _ c HC.out).mono ?_; rintro e w' ⟨rfl, rfl⟩)
  go_ret2
  exact ⟨⟨_, rfl⟩, rfl⟩

set_option maxHeartbeats 800000 in
set_option maxRecDepth 100000 in
theorem seedClo_bad (w : World) (kb rb sb cap : Nat) (k : Int) (A : Option Addr) (ys : List Int) (s0 : ByteArray) (hk : w.cell? ⟨kb, 0, none⟩ = some (.int .i64 k)) (hr : w.cell? ⟨rb, 0, none⟩ = some (.slice A ys.length cap))
    (hs : Blk w sb 9 #[.string s0]) (h0 : 0 ≤ k) (h1 : k < 6) (hrd : Rds w A ys) (hcap : ys.length ≤ cap) (hy : ys.length ≠ 32) (hl : ys.length ≤ 1000) :
    Calls Try.prog 22 #[.pointer (some ⟨kb, 0, none⟩), .pointer (some ⟨rb, 0, none⟩), .pointer (some ⟨sb, 0, none⟩)] w fun e w' => e = .returned (.bool false) ∧ Put w w' sb 9 (.string ⟨#[]⟩) := by
  have HRD := Aside0.mk hrd
  have HS := Aside0.mk hs
  have HK := Aside0.mk hk
  have HR := Aside0.mk hr
  have HY := Aside0.mk hy
  have hpf := Aside0.mk (prefix_f h0 h1)
  have hpp := Aside0.mk (pk_pref h0 h1)
  clear hrd hs hr hy
  go_enter Try.func22, Try.ntmps22
  go_wp2_with fail
  refine (Pprefix.impl_prefix.calls k (pk k) true w hpf.out).mono ?_
  rintro e w1 ⟨rfl, hb1⟩
  have hr1 := pw_cell_below hb1 HR.out
  have B1 := Aside0.mk hb1
  clear hb1 hk
  go_wp2_with fail
  refine (clone_any w1 A cap ys (Kd.C_below HRD.out B1.out) hcap hl).mono ?_
  rintro e w2 ⟨A2, n2, c2, rfl, hn2, hc2, hr2, hb2⟩
  have B2 := Aside0.mk (below_step B1.out hb2)
  clear hr2 hb2 hr1
  subst hn2
  go_wp2_with fail
  refine (encodeSeed_bad w2 (pk k) A2 c2 ys hpp.out HY.out).mono ?_
  rintro e w' ⟨⟨es, rfl⟩, rfl⟩
  have hcv : (convert 22 9 (.slice none 0 0)).run Try.prog w2 = .ok (.string ⟨#[]⟩) w2 :=
    Kd.C_string (P := Try.prog) (w := w2) (A := none) (n := 0) (c := 0) (xs := []) Try.underlying22 Try.underlying5 Try.underlying9 ⟨rfl, by omega, fun h => absurd h (by omega)⟩
  have S3 := HS.out.below B2.out
  have hsc := S3.cell 0
  have hsf := S3.frozen 0
  clear S3
  go_wp2
  go_ret
  exact ⟨rfl, Put.of_below B2.out HS.out _⟩

set_option maxHeartbeats 800000 in
set_option maxRecDepth 100000 in
theorem implEncodeSeed_bad (w : World) (k : Int) (A : Option Addr) (cap : Nat) (ys : List Int) (h0 : 0 ≤ k) (h1 : k < 6) (hrd : Rds w A ys) (hcap : ys.length ≤ cap) (hy : ys.length ≠ 32) (hl : ys.length ≤ 1000) :
    Calls Try.prog 11 #[.int .i64 k, .slice A ys.length cap] w fun e w' => e = .returned (.tuple #[.string ⟨#[]⟩, .bool false]) ∧ Below w.heap.size w w' := by
  have HRD := Aside0.mk hrd
  have HY := Aside0.mk hy
  clear hrd hy
  have hmf : ∀ (fn : Fn) (first cap : Array Value) (w : World), (Instr.makeFunc fn first cap).run Try.prog w = .ok (.func fn first cap) w := fun _ _ _ _ => rfl
  go_enter Try.func11, Try.ntmps11
  go_wp2_with fail
  obtain ⟨W, hW⟩ : ∃ W, W = (((w.alloc (.cells #[.int .i64 k] 3)).alloc (.cells #[.slice A ys.length cap] 22)).alloc (.cells #[.string ⟨#[]⟩] 9)) := ⟨_, rfl⟩
  have hz : W.heap.size = w.heap.size + 1 + 1 + 1 := by rw [hW]; simp
  have BW := Aside0.mk (show Below w.heap.size w W by rw [hW]; exact below_alloc (below_alloc (below_alloc (Below.refl _ _) _) _) _)
  have K1 : Blk W w.heap.size 3 #[.int .i64 k] := by rw [hW]; exact ((Blk.new w 3 _).alloc _).alloc _
  have K2 : Blk W (w.heap.size + 1) 22 #[.slice A ys.length cap] := by
    rw [hW]; have h := (Blk.new (w.alloc (.cells #[.int .i64 k] 3)) 22 #[.slice A ys.length cap]).alloc (.cells #[.string ⟨#[]⟩] 9); simpa using h
  have K3 : Blk W (w.heap.size + 1 + 1) 9 #[.string ⟨#[]⟩] := by
    rw [hW]; have h := Blk.new ((w.alloc (.cells #[.int .i64 k] 3)).alloc (.cells #[.slice A ys.length cap] 22)) 9 #[.string ⟨#[]⟩]; simpa using h
  rw [← hW]
  clear hW
  refine (try_put W 22 _ false (w.heap.size + 1 + 1) 9 (.string ⟨#[]⟩) _ (callF Try.func22 (by kernel_rfl) rfl _) K3
    (seedClo_bad _ w.heap.size (w.heap.size + 1) (w.heap.size + 1 + 1) cap k A ys _ ((K1.alloc _).cell 0) ((K2.alloc _).cell 0) (K3.alloc _) h0 h1 (Kd.C_alloc (Kd.C_below HRD.out BW.out) _) hcap HY.out hl)).mono ?_
  rintro e w1 ⟨rfl, hp⟩
  have hsc := hp.2.cell 0
  have hsf := hp.2.frozen 0
  have B1 := Aside0.mk (hp.under BW.out (by omega))
  have HQ := Aside0.mk ((hp.2.set_ 0 (.string ⟨#[]⟩)).cell 0)
  clear hp K1 K2 K3 hz
  go_wp2
  have hq := HQ.out
  simp at hq
  exact bodyPost_ret (v := .tuple #[.string ⟨#[]⟩, .bool false]) (by simp [results, Try.results11, go_sem, hq]) rfl ⟨rfl, B1.out.setCell (by show w.heap.size ≤ w.heap.size + 1 + 1; omega) _⟩
end Go.Proofs.Ytmmhifomfbdfjaa
