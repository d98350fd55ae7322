/- Line ends struck out; (*Encoding).Decode: letters read back, line ends aside. -/
import Derived.Test.YtmmhifomfbdfjaaEncode
import Derived.Test.YtmmhifomfbdfjaaDecode
import Derived.Test.YtmmhifomfbdfjaaNk
namespace Go.Proofs.Ytmmhifomfbdfjaa
open Go.RowKit Go.Proofs.YtmmhifomfbdfjaaW.PrintWords Go.Proofs.YtmmhifomfbdfjaaW.PrintLast Go.Proofs.YtmmhifomfbdfjaaW.PrintMore
set_option linter.unusedVariables false
set_option linter.unusedSimpArgs false

theorem copy_step (s : List Int) (k : Nat) (h : k < s.length) : (s.take k ++ List.replicate (s.length - k) 0).set k (s.getD k 0) = s.take (k + 1) ++ List.replicate (s.length - (k + 1)) 0 := by
  have hl : (s.take k).length = k := by rw [List.length_take]; omega
  obtain ⟨m, hm⟩ : ∃ m, s.length - k = m + 1 := ⟨s.length - k - 1, by omega⟩
  rw [hm, show s.length - (k + 1) = m by omega, List.replicate_succ, List.set_append, if_neg (by omega), hl, Nat.sub_self, List.set_cons_zero, List.take_succ_eq_append_getElem h, List.getD_eq_getElem?_getD, List.getElem?_eq_getElem h]
  simp only [Option.getD_some, List.append_assoc, List.singleton_append]

set_option maxHeartbeats 800000 in
set_option maxRecDepth 100000 in
theorem strip_any (w : World) (db cap : Nat) (A : Option Addr) (s : List Int) (hd : Blk w db 5 (u8s (List.replicate s.length 0)).toArray)
    (hr : ∀ W, w.grownBy W (some db) → (Kd.int .u8).C W A s.length s) (hc : s.length ≤ cap) (hl : s.length ≤ 1000) (hb : ∀ x ∈ s, x ≠ 10 ∧ x ≠ 13) :
    Calls Try.prog 69 #[.slice (some ⟨db, 0, none⟩) s.length s.length, .slice A s.length cap] w fun e w' => e = .returned (.int .i64 s.length) ∧ Blk w' db 5 (u8s s).toArray ∧ w.grownBy w' (some db) := by
  have HD := Aside0.mk (show Blk w db 5 (u8s (s.take 0 ++ List.replicate (s.length - 0) 0)).toArray by simpa using hd)
  have HR := Aside0.mk hr
  have HB := Aside0.mk hb
  clear hd hr hb
  go_enter Try.func69, Try.ntmps69
  go_wp2
  go_loopw [5, 7, 10] (fun v5 v7 v10 wr => ∃ k : Nat, k ≤ s.length ∧ v5 = .int .i64 k ∧ v10 = .int .i64 k ∧ Aside0 (Blk wr db 5 (u8s (s.take k ++ List.replicate (s.length - k) 0)).toArray) ∧ Aside0 (w.grownBy wr (some db))) (fun _ _ i _ => s.length - (intOf i).toNat)
  case atStart => exact ⟨0, by omega, rfl, rfl, HD, ⟨grown_refl _ _⟩⟩
  case round =>
    clear HD
    obtain ⟨k, hk, rfl, rfl, HD, HG⟩ := hrel
    by_cases hlt : k < s.length
    · obtain ⟨ad, eA, hx0⟩ := Kd.at_int (HR.out _ HG.out) k (by omega) (by omega)
      cases eA
      rw [Int.toNat_natCast] at hx0
      obtain ⟨c, hcc⟩ : ∃ c, c = s.getD k 0 := ⟨_, rfl⟩
      rw [show rd s (k : Int) = c by rw [hcc, rd, Int.toNat_natCast]] at hx0
      have hcn : c ≠ 10 ∧ c ≠ 13 := by
        rw [hcc, List.getD_eq_getElem?_getD, List.getElem?_eq_getElem hlt]
        exact HB.out _ (List.getElem_mem hlt)
      have e10 : (c == 10) = false := by rw [beq_eq_false_iff_ne]; exact hcn.1
      have e13 : (c == 13) = false := by rw [beq_eq_false_iff_ne]; exact hcn.2
      have HS := Aside0.mk (copy_step s k hlt)
      rw [← hcc] at HS
      have hdl : (s.take k ++ List.replicate (s.length - k) 0).length = s.length := by rw [List.length_append, List.length_take, List.length_replicate]; omega
      obtain ⟨y, hy⟩ : ∃ y, wr.cell? ⟨db, k, none⟩ = some (.int .u8 y) := ⟨_, (HD.out.cell _).trans (u8s_at _ _ (by omega))⟩
      have hf := HD.out.frozen k
      clear hcc hcn hdl
      go_wp2
      go_roundw
      case rel => exact ⟨k + 1, by omega, by go_num, by go_num, ⟨by rw [← HS.out]; exact HD.out.putb _ _⟩, ⟨grown_set HG.out _ _⟩⟩
      case measure => simp [intOf]; omega
    · go_wp2
      go_ret
      have hk2 : k = s.length := by omega
      subst hk2
      exact ⟨rfl, by have h := HD.out; rw [List.take_length] at h; simpa using h, HG.out⟩
end Go.Proofs.Ytmmhifomfbdfjaa
namespace Go.Proofs.Ytmmhifomfbdfjaa
open Go.RowKit Go.Proofs.YtmmhifomfbdfjaaW.PrintWords Go.Proofs.YtmmhifomfbdfjaaW.PrintLast Go.Proofs.YtmmhifomfbdfjaaW.PrintMore
set_option linter.unusedVariables false
set_option linter.unusedSimpArgs false

/-- A text that is read: p is the place of its first sign that is no letter, or its end. -/
structure Txt (s : List Int) (p : Nat) : Prop where
  short : s.length ≤ 1000
  bytes : ∀ x ∈ s, 0 ≤ x ∧ x ≤ 255
  lines : ∀ x ∈ s, x ≠ 10 ∧ x ≠ 13
  place : p ≤ s.length
  fine : ∀ t, t < p → 0 ≤ decV (s.getD t 0) ∧ decV (s.getD t 0) < 32
  stop : p < s.length → decV (s.getD p 0) = 255
  pad : p < s.length → s.getD p 0 = 255 → p + 1 < s.length ∧ s.getD (p + 1) 0 ≠ 255 ∧ ¬ (p % 8 = 7 ∧ s.length < p + 9)

def Dec64Post (w : World) (db M : Nat) (s : List Int) (p : Nat) (e : Ending) (w' : World) : Prop :=
  w.grownBy w' (some db) ∧ (p = s.length → e = .returned (.tuple #[.int .i64 (decN s.length), .nilIface]) ∧ Blk w' db 5 (u8s (decB s ++ List.replicate (M - decN s.length) 0)).toArray) ∧
  (p < s.length → ∃ n x, e = .returned (.tuple #[.int .i64 n, .iface 92 (.int .i64 x)]))

set_option maxHeartbeats 800000 in
set_option maxRecDepth 100000 in
theorem decode64 (w : World) (g db M cap p : Nat) (A : Option Addr) (s : List Int) (he : EncAt w g) (hr : Rds w A s) (hc : s.length ≤ cap) (hd : Blk w db 5 (u8s (List.replicate M 0)).toArray) (hM : decN s.length ≤ M) (ht : Txt s p) :
    Calls Try.prog 64 #[.pointer (some ⟨g, 0, none⟩), .slice (some ⟨db, 0, none⟩) M M, .slice A s.length cap] w (Dec64Post w db M s p) := by
  have hdb : db < w.heap.size := hd.lt
  have hg : g < w.heap.size := blk_lt he
  have HE := Aside0.mk he
  have HR := Aside0.mk hr
  have HD := Aside0.mk hd
  have HT := Aside0.mk ht
  have hs := ht.short
  clear he hr hd ht
  go_enter Try.func64, Try.ntmps64
  go_wp2_with ((with_reducible refine gate_dst (N := 12) rfl ?_); refine make_any rfl (.tmp 11) (.tmp 11) rfl s.length s.length rfl rfl rfl (by omega) ?_)
  obtain ⟨w1, hw1⟩ : ∃ w1, w1 = w.alloc (.cells (u8s (List.replicate s.length 0)).toArray 5) := ⟨_, rfl⟩
  have K1 := Aside0.mk (show Blk w1 w.heap.size 5 (u8s (List.replicate s.length 0)).toArray by rw [hw1]; exact Blk.new _ _ _)
  have B1 := Aside0.mk (show Below w.heap.size w w1 by rw [hw1]; exact below_alloc (Below.refl _ _) _)
  rw [← hw1]
  clear hw1
  refine (strip_any w1 w.heap.size cap A s K1.out ?hr1 hc hs HT.out.lines).mono ?_
  case hr1 =>
    intro W hW
    exact Kd.C_below HR.out (B1.out.grown hW B1.out.size (by intro k hk; injection hk with hk; omega))
  rintro e w2 ⟨rfl, hk2, hg2⟩
  have K2 := Aside0.mk hk2
  have B2 := Aside0.mk (show Below w.heap.size w w2 from B1.out.grown hg2 B1.out.size (by intro k hk; injection hk with hk; omega))
  clear hk2 hg2
  go_wp2_with fail
  refine (decode_any w2 g db M s.length p (some ⟨w.heap.size, 0, none⟩) s (HE.out.below B2.out) hs (Nat.le_refl _) ?hr2 (HD.out.below B2.out) hM HT.out.bytes HT.out.place HT.out.fine HT.out.stop HT.out.pad).mono ?_
  case hr2 =>
    intro W hW
    exact blk_rds (blk_grown K2.out hW (by simp; omega)) (by omega)
  rintro e w3 ⟨hg3, ⟨D, hk3, hl3, hok⟩, hbad⟩
  have G3 := Aside0.mk (show w.grownBy w3 (some db) from ⟨hg3.os.trans B2.out.os, hg3.tape.trans B2.out.tape, hg3.output.trans B2.out.output, Nat.le_trans B2.out.size hg3.size, fun k hk hne => (hg3.block k (by have := B2.out.size; omega) hne).trans (B2.out.block k hk)⟩)
  by_cases hp : p = s.length
  · obtain ⟨⟨b, rfl⟩, hD⟩ := hok hp
    have KD := Aside0.mk hk3
    have ED := Aside0.mk hD
    have HP := Aside0.mk hp
    clear hok hbad hk3 hl3 hg3 hD hp
    go_wp2
    go_ret2
    exact ⟨G3.out, fun _ => ⟨rfl, by rw [← ED.out]; exact KD.out⟩, fun h => absurd h (by have := HP.out; omega)⟩
  · obtain ⟨n, b, x, rfl⟩ := hbad (by have := HT.out.place; omega)
    have HP := Aside0.mk hp
    clear hok hbad hk3 hl3 hg3 hp
    go_wp2
    go_ret2
    exact ⟨G3.out, fun h => absurd h HP.out, fun _ => ⟨n, x, rfl⟩⟩
end Go.Proofs.Ytmmhifomfbdfjaa
