/- impl.Encode: the text of a key of a kind. -/
import Derived.Test.YtmmhifomfbdfjaaTry
namespace Go.Proofs.Ytmmhifomfbdfjaa
open Go.RowKit Go.Proofs.YtmmhifomfbdfjaaW.PrintWords Go.Proofs.YtmmhifomfbdfjaaW.PrintLast Go.Proofs.YtmmhifomfbdfjaaW.PrintMore
set_option linter.unusedVariables false
set_option linter.unusedSimpArgs false

/-- The first byte of a kind's keys. -/
def pk (k : Int) : Int := prefL.getD k.toNat 0
theorem kinds {k : Int} (h0 : 0 ≤ k) (h1 : k < 6) : k = 0 ∨ k = 1 ∨ k = 2 ∨ k = 3 ∨ k = 4 ∨ k = 5 := by omega
theorem pk_pref {k : Int} (h0 : 0 ≤ k) (h1 : k < 6) : Pref (pk k) := by
  rcases kinds h0 h1 with rfl | rfl | rfl | rfl | rfl | rfl <;> (unfold Pref; decide)
theorem prefix_f {k : Int} (h0 : 0 ≤ k) (h1 : k < 6) : Pprefix.impl_prefix.f k = some (pk k, true) := by
  rcases kinds h0 h1 with rfl | rfl | rfl | rfl | rfl | rfl <;> rfl

/-- The text of a key. -/
def keyL (c : Int) (ys : List Int) : List Int := encL (chk (c :: ys))

/-- What a closure leaves: new memory, and its answer in one variable. -/
def Put (w w' : World) (sb : Nat) (t : TypeId) (v : Value) : Prop := w.grownBy w' (some sb) ∧ Blk w' sb t #[v]
theorem Put.blk {w w' : World} {sb g : Nat} {v : Value} {t t' : TypeId} {cs : Array Value} (h : Put w w' sb t' v) (hb : Blk w g t cs) (hne : g ≠ sb) : Blk w' g t cs :=
  blk_grown hb h.1 (by simpa using hne)
theorem Put.under {w0 w w' : World} {sb : Nat} {v : Value} {t : TypeId} (h : Put w w' sb t v) (h0 : Below w0.heap.size w0 w) (hs : w0.heap.size ≤ sb) : Below w0.heap.size w0 w' :=
  h0.grown h.1 h0.size (by intro k hk; injection hk with hk; omega)
theorem Put.of_below {w w1 : World} {sb : Nat} {v0 : Value} {t : TypeId} (h : Below w.heap.size w w1) (hs : Blk w sb t #[v0]) (v : Value) : Put w (w1.setCell ⟨sb, 0, none⟩ v) sb t v :=
  ⟨grown_set (grown_of_below h _) _ _, (hs.below h).set_ 0 v⟩

theorem callF {F : FuncId} {fn : Func} (hf : Try.prog.funcs[F]? = some fn) (hname : (fn.name == "runtime.NumGoroutine") = false) (hb : fn.body.isSome = true) (caps : Array Value) (W : World) :
    (callFunc F caps).run Try.prog W = .ok (.enter F caps) W := enters_ hf hname hb caps W

theorem try_put (w : World) (F : FuncId) (caps : Array Value) (b : Bool) (sb : Nat) (t : TypeId) (v v0 : Value)
    (hcf : ∀ W : World, (callFunc F caps).run Try.prog W = .ok (.enter F caps) W) (hs : Blk w sb t #[v0])
    (h : Calls Try.prog F caps (w.alloc (.cells #[.bool false] 4)) fun e w' => e = .returned (.bool b) ∧ Put (w.alloc (.cells #[.bool false] 4)) w' sb t v) :
    Calls Try.prog 21 #[.func (.func F) #[] caps] w fun e w' => e = .returned (.bool b) ∧ Put w w' sb t v := by
  have hne : w.heap.size ≠ sb := by have := hs.lt; omega
  refine (try_any w F caps b (fun w' => Put (w.alloc (.cells #[.bool false] 4)) w' sb t v) hcf (h.mono ?_)).mono ?_
  · rintro e w' ⟨he, hp⟩
    exact ⟨he, hp.blk (Blk.new w 4 _) hne, hp⟩
  · rintro e w' ⟨he, w1, hp, hb, rfl⟩
    refine ⟨he, ⟨hp.1.os, hp.1.tape, hp.1.output, ?_, ?_⟩, hp.2.far (fun e => hne e.symm) _⟩
    · have := hp.1.size
      simp [World.setCell] at this ⊢
      omega
    · intro k hk hkn
      rw [Below.heap_setCell _ _ _ _ (by show k ≠ w.heap.size; omega), hp.1.block k (by simp; omega) hkn, Below.heap_alloc w _ k hk]

set_option maxHeartbeats 800000 in
set_option maxRecDepth 100000 in
theorem encodeClo (w : World) (kb rb sb cap : Nat) (k : Int) (A : Option Addr) (ys : List Int) (s0 : ByteArray) (hk : w.cell? ⟨kb, 0, none⟩ = some (.int .i64 k)) (hr : w.cell? ⟨rb, 0, none⟩ = some (.slice A ys.length cap))
    (hs : Blk w sb 9 #[.string s0]) (h0 : 0 ≤ k) (h1 : k < 6) (hrd : Rds w A ys) (hcap : ys.length ≤ cap) (hy : ys.length = 32) (hb : ∀ x ∈ ys, 0 ≤ x ∧ x ≤ 255) :
    Calls Try.prog 38 #[.pointer (some ⟨kb, 0, none⟩), .pointer (some ⟨rb, 0, none⟩), .pointer (some ⟨sb, 0, none⟩)] w fun e w' => e = .returned (.bool true) ∧ Put w w' sb 9 (.string (strOfNums (keyL (pk k) ys))) := by
  have HRD := Aside0.mk hrd
  have HB := Aside0.mk hb
  have HS := Aside0.mk hs
  have HK := Aside0.mk hk
  have HR := Aside0.mk hr
  have HY := Aside0.mk hy
  have hpf := Aside0.mk (prefix_f h0 h1)
  have hpp := Aside0.mk (pk_pref h0 h1)
  clear hrd hb hs hr hy
  go_enter Try.func38, Try.ntmps38
  go_wp2_with fail
  refine (Pprefix.impl_prefix.calls k (pk k) true w hpf.out).mono ?_
  rintro e w1 ⟨rfl, hb1⟩
  have hr1 := pw_cell_below hb1 HR.out
  have B1 := Aside0.mk hb1
  clear hb1 hk
  go_wp2_with fail
  refine (clone_any w1 A cap ys (Kd.C_below HRD.out B1.out) hcap (by rw [HY.out]; omega)).mono ?_
  rintro e w2 ⟨A2, n2, c2, rfl, hn2, hc2, hr2, hb2⟩
  have R2 := Aside0.mk hr2
  have B2 := Aside0.mk (below_step B1.out hb2)
  clear hr2 hb2 hr1
  subst hn2
  go_wp2_with fail
  refine (encodeKey w2 (pk k) A2 c2 ys hpp.out R2.out hc2 HY.out HB.out).mono ?_
  rintro e w3 ⟨A3, n3, c3, rfl, hn3, hc3, hr3, hb3⟩
  have hcv := Kd.C_string (P := Try.prog) (w := w3) (c := c3) Try.underlying22 Try.underlying5 Try.underlying9 hr3
  rw [← hn3] at hcv
  have B3 := Aside0.mk (below_step B2.out hb3)
  have S3 := HS.out.below B3.out
  have hsc := S3.cell 0
  have hsf := S3.frozen 0
  clear hr3 hb3 S3 hn3
  go_wp2
  go_ret
  exact ⟨rfl, Put.of_below B3.out HS.out _⟩

set_option maxHeartbeats 800000 in
set_option maxRecDepth 100000 in
theorem implEncode (w : World) (k : Int) (A : Option Addr) (cap : Nat) (ys : List Int) (h0 : 0 ≤ k) (h1 : k < 6) (hrd : Rds w A ys) (hcap : ys.length ≤ cap) (hy : ys.length = 32) (hb : ∀ x ∈ ys, 0 ≤ x ∧ x ≤ 255) :
    Calls Try.prog 16 #[.int .i64 k, .slice A ys.length cap] w fun e w' => e = .returned (.tuple #[.string (strOfNums (keyL (pk k) ys)), .bool true]) ∧ Below w.heap.size w w' := by
  have HRD := Aside0.mk hrd
  have HB := Aside0.mk hb
  have HY := Aside0.mk hy
  clear hrd hb hy
  have hmf : ∀ (fn : Fn) (first cap : Array Value) (w : World), (Instr.makeFunc fn first cap).run Try.prog w = .ok (.func fn first cap) w := fun _ _ _ _ => rfl
  go_enter Try.func16, Try.ntmps16
  go_wp2_with fail
  obtain ⟨W, hW⟩ : ∃ W, W = (((w.alloc (.cells #[.int .i64 k] 3)).alloc (.cells #[.slice A ys.length cap] 22)).alloc (.cells #[.string ⟨#[]⟩] 9)) := ⟨_, rfl⟩
  have hz : W.heap.size = w.heap.size + 1 + 1 + 1 := by rw [hW]; simp
  have BW := Aside0.mk (show Below w.heap.size w W by rw [hW]; exact below_alloc (below_alloc (below_alloc (Below.refl _ _) _) _) _)
  have K1 : Blk W w.heap.size 3 #[.int .i64 k] := by rw [hW]; exact ((Blk.new w 3 _).alloc _).alloc _
  have K2 : Blk W (w.heap.size + 1) 22 #[.slice A ys.length cap] := by
    rw [hW]; have h := (Blk.new (w.alloc (.cells #[.int .i64 k] 3)) 22 #[.slice A ys.length cap]).alloc (.cells #[.string ⟨#[]⟩] 9); simpa using h
  have K3 : Blk W (w.heap.size + 1 + 1) 9 #[.string ⟨#[]⟩] := by
    rw [hW]; have h := Blk.new ((w.alloc (.cells #[.int .i64 k] 3)).alloc (.cells #[.slice A ys.length cap] 22)) 9 #[.string ⟨#[]⟩]; simpa using h
  rw [← hW]
  clear hW
  refine (try_put W 38 _ true (w.heap.size + 1 + 1) 9 (.string (strOfNums (keyL (pk k) ys))) _ (callF Try.func38 (by kernel_rfl) rfl _) K3
    (encodeClo _ w.heap.size (w.heap.size + 1) (w.heap.size + 1 + 1) cap k A ys _ ((K1.alloc _).cell 0) ((K2.alloc _).cell 0) (K3.alloc _) h0 h1 (Kd.C_alloc (Kd.C_below HRD.out BW.out) _) hcap HY.out HB.out)).mono ?_
  rintro e w1 ⟨rfl, hp⟩
  have hsc := hp.2.cell 0
  have hsf := hp.2.frozen 0
  have B1 := Aside0.mk (hp.under BW.out (by omega))
  have HQ := Aside0.mk ((hp.2.set_ 0 (.string (strOfNums (keyL (pk k) ys)))).cell 0)
  clear hp K1 K2 K3 hz
  go_wp2
  have hq := HQ.out
  simp at hq
  exact bodyPost_ret (v := .tuple #[.string (strOfNums (keyL (pk k) ys)), .bool true]) (by simp [results, Try.results16, go_sem, hq]) rfl ⟨rfl, B1.out.setCell (by show w.heap.size ≤ w.heap.size + 1 + 1; omega) _⟩
end Go.Proofs.Ytmmhifomfbdfjaa
