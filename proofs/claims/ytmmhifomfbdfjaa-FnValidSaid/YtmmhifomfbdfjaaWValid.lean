/- The walk of laws.FnValid: IsValidPublic..Key of five kinds, impl.Valid. -/
import Derived.Test.YtmmhifomfbdfjaaDec
import Derived.Test.YtmmhifomfbdfjaaSpecW
import Derived.Test.YtmmhifomfbdfjaaWorks
namespace Go.Proofs.Ytmmhifomfbdfjaa
open Go.RowKit Go.Proofs.YtmmhifomfbdfjaaW.PrintWords Go.Proofs.YtmmhifomfbdfjaaW.PrintLast Go.Proofs.YtmmhifomfbdfjaaW.PrintMore
set_option linter.unusedVariables false
set_option linter.unusedSimpArgs false

set_option maxHeartbeats 800000 in
theorem isValid32 (w : World) (s : ByteArray) (p : Nat) (b : Bool) (ht : Txt (bytesOf s) p) (hg : good 0 (bytesOf s) p ↔ b = true) :
    Calls Try.prog 32 #[.string s] w fun e w' => e = .returned (.bool b) ∧ Below w.heap.size w w' := by
  have HT := Aside0.mk ht
  have HG := Aside0.mk hg
  have hsz : s.size ≤ 1000 := by have := ht.short; rwa [bytesOf_length] at this
  have kb' := fun W => print_bytes (P := Try.prog) 9 22 5 Try.underlying9 Try.underlying22 Try.underlying5 s W
  clear ht hg
  go_enter Try.func32, Try.ntmps32
  go_wp2_with fail
  have hB2 := bytes_below (Below.refl w.heap.size w) (Nat.le_refl _) 5 s
  have hR2 := str_rds w s (by omega)
  have hcap : s.size ≤ grownCap w s.size 0 5 := grownCap_ge _ _ _ _
  obtain ⟨c2, hc2⟩ : ∃ c2, c2 = grownCap w s.size 0 5 := ⟨_, rfl⟩
  rw [← hc2] at hcap ⊢
  obtain ⟨w2, hw2⟩ : ∃ w2, w2 = Lib.bytesWorld w 5 s := ⟨_, rfl⟩
  rw [← hw2] at hB2 hR2 ⊢
  have B2 := Aside0.mk hB2
  have R2 := Aside0.mk hR2
  clear hB2 hR2 hc2 hw2
  have hcall := decodeI w2 c2 p 0 (some ⟨w.heap.size, 0, none⟩) (bytesOf s) (by unfold Pref; decide) R2.out (by rw [bytesOf_length]; exact hcap) HT.out
  rw [bytesOf_length] at hcall
  refine hcall.mono ?_
  clear hcall
  rintro e w3 ⟨hb3, hok, hbad⟩
  have B3 := Aside0.mk (below_step B2.out hb3)
  clear hb3
  cases b
  · obtain ⟨t3, v3, rfl⟩ := hbad (fun h => by have := HG.out.1 h; cases this)
    clear hok hbad
    go_wp2
    go_ret
    exact ⟨rfl, B3.out⟩
  · obtain ⟨A3, n3, c3, rfl, -⟩ := hok (HG.out.2 rfl)
    clear hok hbad
    go_wp2
    go_ret
    exact ⟨rfl, B3.out⟩

set_option maxHeartbeats 800000 in
theorem isValid33 (w : World) (s : ByteArray) (p : Nat) (b : Bool) (ht : Txt (bytesOf s) p) (hg : good 16 (bytesOf s) p ↔ b = true) :
    Calls Try.prog 33 #[.string s] w fun e w' => e = .returned (.bool b) ∧ Below w.heap.size w w' := by
  have HT := Aside0.mk ht
  have HG := Aside0.mk hg
  have hsz : s.size ≤ 1000 := by have := ht.short; rwa [bytesOf_length] at this
  have kb' := fun W => print_bytes (P := Try.prog) 9 22 5 Try.underlying9 Try.underlying22 Try.underlying5 s W
  clear ht hg
  go_enter Try.func33, Try.ntmps33
  go_wp2_with fail
  have hB2 := bytes_below (Below.refl w.heap.size w) (Nat.le_refl _) 5 s
  have hR2 := str_rds w s (by omega)
  have hcap : s.size ≤ grownCap w s.size 0 5 := grownCap_ge _ _ _ _
  obtain ⟨c2, hc2⟩ : ∃ c2, c2 = grownCap w s.size 0 5 := ⟨_, rfl⟩
  rw [← hc2] at hcap ⊢
  obtain ⟨w2, hw2⟩ : ∃ w2, w2 = Lib.bytesWorld w 5 s := ⟨_, rfl⟩
  rw [← hw2] at hB2 hR2 ⊢
  have B2 := Aside0.mk hB2
  have R2 := Aside0.mk hR2
  clear hB2 hR2 hc2 hw2
  have hcall := decodeI w2 c2 p 16 (some ⟨w.heap.size, 0, none⟩) (bytesOf s) (by unfold Pref; decide) R2.out (by rw [bytesOf_length]; exact hcap) HT.out
  rw [bytesOf_length] at hcall
  refine hcall.mono ?_
  clear hcall
  rintro e w3 ⟨hb3, hok, hbad⟩
  have B3 := Aside0.mk (below_step B2.out hb3)
  clear hb3
  cases b
  · obtain ⟨t3, v3, rfl⟩ := hbad (fun h => by have := HG.out.1 h; cases this)
    clear hok hbad
    go_wp2
    go_ret
    exact ⟨rfl, B3.out⟩
  · obtain ⟨A3, n3, c3, rfl, -⟩ := hok (HG.out.2 rfl)
    clear hok hbad
    go_wp2
    go_ret
    exact ⟨rfl, B3.out⟩

set_option maxHeartbeats 800000 in
theorem isValid34 (w : World) (s : ByteArray) (p : Nat) (b : Bool) (ht : Txt (bytesOf s) p) (hg : good 112 (bytesOf s) p ↔ b = true) :
    Calls Try.prog 34 #[.string s] w fun e w' => e = .returned (.bool b) ∧ Below w.heap.size w w' := by
  have HT := Aside0.mk ht
  have HG := Aside0.mk hg
  have hsz : s.size ≤ 1000 := by have := ht.short; rwa [bytesOf_length] at this
  have kb' := fun W => print_bytes (P := Try.prog) 9 22 5 Try.underlying9 Try.underlying22 Try.underlying5 s W
  clear ht hg
  go_enter Try.func34, Try.ntmps34
  go_wp2_with fail
  have hB2 := bytes_below (Below.refl w.heap.size w) (Nat.le_refl _) 5 s
  have hR2 := str_rds w s (by omega)
  have hcap : s.size ≤ grownCap w s.size 0 5 := grownCap_ge _ _ _ _
  obtain ⟨c2, hc2⟩ : ∃ c2, c2 = grownCap w s.size 0 5 := ⟨_, rfl⟩
  rw [← hc2] at hcap ⊢
  obtain ⟨w2, hw2⟩ : ∃ w2, w2 = Lib.bytesWorld w 5 s := ⟨_, rfl⟩
  rw [← hw2] at hB2 hR2 ⊢
  have B2 := Aside0.mk hB2
  have R2 := Aside0.mk hR2
  clear hB2 hR2 hc2 hw2
  have hcall := decodeI w2 c2 p 112 (some ⟨w.heap.size, 0, none⟩) (bytesOf s) (by unfold Pref; decide) R2.out (by rw [bytesOf_length]; exact hcap) HT.out
  rw [bytesOf_length] at hcall
  refine hcall.mono ?_
  clear hcall
  rintro e w3 ⟨hb3, hok, hbad⟩
  have B3 := Aside0.mk (below_step B2.out hb3)
  clear hb3
  cases b
  · obtain ⟨t3, v3, rfl⟩ := hbad (fun h => by have := HG.out.1 h; cases this)
    clear hok hbad
    go_wp2
    go_ret
    exact ⟨rfl, B3.out⟩
  · obtain ⟨A3, n3, c3, rfl, -⟩ := hok (HG.out.2 rfl)
    clear hok hbad
    go_wp2
    go_ret
    exact ⟨rfl, B3.out⟩

set_option maxHeartbeats 800000 in
theorem isValid35 (w : World) (s : ByteArray) (p : Nat) (b : Bool) (ht : Txt (bytesOf s) p) (hg : good 104 (bytesOf s) p ↔ b = true) :
    Calls Try.prog 35 #[.string s] w fun e w' => e = .returned (.bool b) ∧ Below w.heap.size w w' := by
  have HT := Aside0.mk ht
  have HG := Aside0.mk hg
  have hsz : s.size ≤ 1000 := by have := ht.short; rwa [bytesOf_length] at this
  have kb' := fun W => print_bytes (P := Try.prog) 9 22 5 Try.underlying9 Try.underlying22 Try.underlying5 s W
  clear ht hg
  go_enter Try.func35, Try.ntmps35
  go_wp2_with fail
  have hB2 := bytes_below (Below.refl w.heap.size w) (Nat.le_refl _) 5 s
  have hR2 := str_rds w s (by omega)
  have hcap : s.size ≤ grownCap w s.size 0 5 := grownCap_ge _ _ _ _
  obtain ⟨c2, hc2⟩ : ∃ c2, c2 = grownCap w s.size 0 5 := ⟨_, rfl⟩
  rw [← hc2] at hcap ⊢
  obtain ⟨w2, hw2⟩ : ∃ w2, w2 = Lib.bytesWorld w 5 s := ⟨_, rfl⟩
  rw [← hw2] at hB2 hR2 ⊢
  have B2 := Aside0.mk hB2
  have R2 := Aside0.mk hR2
  clear hB2 hR2 hc2 hw2
  have hcall := decodeI w2 c2 p 104 (some ⟨w.heap.size, 0, none⟩) (bytesOf s) (by unfold Pref; decide) R2.out (by rw [bytesOf_length]; exact hcap) HT.out
  rw [bytesOf_length] at hcall
  refine hcall.mono ?_
  clear hcall
  rintro e w3 ⟨hb3, hok, hbad⟩
  have B3 := Aside0.mk (below_step B2.out hb3)
  clear hb3
  cases b
  · obtain ⟨t3, v3, rfl⟩ := hbad (fun h => by have := HG.out.1 h; cases this)
    clear hok hbad
    go_wp2
    go_ret
    exact ⟨rfl, B3.out⟩
  · obtain ⟨A3, n3, c3, rfl, -⟩ := hok (HG.out.2 rfl)
    clear hok hbad
    go_wp2
    go_ret
    exact ⟨rfl, B3.out⟩

set_option maxHeartbeats 800000 in
theorem isValid36 (w : World) (s : ByteArray) (p : Nat) (b : Bool) (ht : Txt (bytesOf s) p) (hg : good 160 (bytesOf s) p ↔ b = true) :
    Calls Try.prog 36 #[.string s] w fun e w' => e = .returned (.bool b) ∧ Below w.heap.size w w' := by
  have HT := Aside0.mk ht
  have HG := Aside0.mk hg
  have hsz : s.size ≤ 1000 := by have := ht.short; rwa [bytesOf_length] at this
  have kb' := fun W => print_bytes (P := Try.prog) 9 22 5 Try.underlying9 Try.underlying22 Try.underlying5 s W
  clear ht hg
  go_enter Try.func36, Try.ntmps36
  go_wp2_with fail
  have hB2 := bytes_below (Below.refl w.heap.size w) (Nat.le_refl _) 5 s
  have hR2 := str_rds w s (by omega)
  have hcap : s.size ≤ grownCap w s.size 0 5 := grownCap_ge _ _ _ _
  obtain ⟨c2, hc2⟩ : ∃ c2, c2 = grownCap w s.size 0 5 := ⟨_, rfl⟩
  rw [← hc2] at hcap ⊢
  obtain ⟨w2, hw2⟩ : ∃ w2, w2 = Lib.bytesWorld w 5 s := ⟨_, rfl⟩
  rw [← hw2] at hB2 hR2 ⊢
  have B2 := Aside0.mk hB2
  have R2 := Aside0.mk hR2
  clear hB2 hR2 hc2 hw2
  have hcall := decodeI w2 c2 p 160 (some ⟨w.heap.size, 0, none⟩) (bytesOf s) (by unfold Pref; decide) R2.out (by rw [bytesOf_length]; exact hcap) HT.out
  rw [bytesOf_length] at hcall
  refine hcall.mono ?_
  clear hcall
  rintro e w3 ⟨hb3, hok, hbad⟩
  have B3 := Aside0.mk (below_step B2.out hb3)
  clear hb3
  cases b
  · obtain ⟨t3, v3, rfl⟩ := hbad (fun h => by have := HG.out.1 h; cases this)
    clear hok hbad
    go_wp2
    go_ret
    exact ⟨rfl, B3.out⟩
  · obtain ⟨A3, n3, c3, rfl, -⟩ := hok (HG.out.2 rfl)
    clear hok hbad
    go_wp2
    go_ret
    exact ⟨rfl, B3.out⟩

set_option maxHeartbeats 800000 in
theorem validClo (w : World) (kb tb p : Nat) (k : Int) (s : ByteArray) (b : Bool) (hk : w.cell? ⟨kb, 0, none⟩ = some (.int .i64 k)) (htx : w.cell? ⟨tb, 0, none⟩ = some (.string s))
    (h0 : 0 ≤ k) (h1 : k < 5) (ht : Txt (bytesOf s) p) (hg : good (pk k) (bytesOf s) p ↔ b = true) :
    Calls Try.prog 31 #[.pointer (some ⟨kb, 0, none⟩), .pointer (some ⟨tb, 0, none⟩)] w fun e w' => e = .returned (.bool b) ∧ Below w.heap.size w w' := by
  have HT := Aside0.mk ht
  clear ht
  obtain rfl | rfl | rfl | rfl | rfl : k = 0 ∨ k = 1 ∨ k = 2 ∨ k = 3 ∨ k = 4 := by omega
  · have HG := Aside0.mk hg
    clear hg
    go_enter Try.func31, Try.ntmps31
    go_wp2_with fail
    refine (isValid32 w s p b HT.out HG.out).mono ?_
    rintro e w1 ⟨rfl, hb1⟩
    have B1 := Aside0.mk hb1
    clear hb1
    go_wp2
    go_ret
    exact ⟨rfl, B1.out⟩
  · have HG := Aside0.mk hg
    clear hg
    go_enter Try.func31, Try.ntmps31
    go_wp2_with fail
    refine (isValid33 w s p b HT.out HG.out).mono ?_
    rintro e w1 ⟨rfl, hb1⟩
    have B1 := Aside0.mk hb1
    clear hb1
    go_wp2
    go_ret
    exact ⟨rfl, B1.out⟩
  · have HG := Aside0.mk hg
    clear hg
    go_enter Try.func31, Try.ntmps31
    go_wp2_with fail
    refine (isValid34 w s p b HT.out HG.out).mono ?_
    rintro e w1 ⟨rfl, hb1⟩
    have B1 := Aside0.mk hb1
    clear hb1
    go_wp2
    go_ret
    exact ⟨rfl, B1.out⟩
  · have HG := Aside0.mk hg
    clear hg
    go_enter Try.func31, Try.ntmps31
    go_wp2_with fail
    refine (isValid35 w s p b HT.out HG.out).mono ?_
    rintro e w1 ⟨rfl, hb1⟩
    have B1 := Aside0.mk hb1
    clear hb1
    go_wp2
    go_ret
    exact ⟨rfl, B1.out⟩
  · have HG := Aside0.mk hg
    clear hg
    go_enter Try.func31, Try.ntmps31
    go_wp2_with fail
    refine (isValid36 w s p b HT.out HG.out).mono ?_
    rintro e w1 ⟨rfl, hb1⟩
    have B1 := Aside0.mk hb1
    clear hb1
    go_wp2
    go_ret
    exact ⟨rfl, B1.out⟩

set_option maxHeartbeats 800000 in
theorem implValid (w : World) (k : Int) (s : ByteArray) (p : Nat) (b : Bool) (h0 : 0 ≤ k) (h1 : k < 5) (ht : Txt (bytesOf s) p) (hg : good (pk k) (bytesOf s) p ↔ b = true) :
    Calls Try.prog 15 #[.int .i64 k, .string s] w fun e w' => e = .returned (.bool b) ∧ Below w.heap.size w w' := by
  have HT := Aside0.mk ht
  have HG := Aside0.mk hg
  clear ht hg
  have hmf : ∀ (fn : Fn) (first cap : Array Value) (w : World), (Instr.makeFunc fn first cap).run Try.prog w = .ok (.func fn first cap) w := fun _ _ _ _ => rfl
  go_enter Try.func15, Try.ntmps15
  go_wp2_with fail
  obtain ⟨W, hW⟩ : ∃ W, W = ((w.alloc (.cells #[.int .i64 k] 3)).alloc (.cells #[.string s] 9)) := ⟨_, rfl⟩
  have BW := Aside0.mk (show Below w.heap.size w W by rw [hW]; exact below_alloc (below_alloc (Below.refl _ _) _) _)
  have K1 : Blk W w.heap.size 3 #[.int .i64 k] := by rw [hW]; exact (Blk.new w 3 _).alloc _
  have K2 : Blk W (w.heap.size + 1) 9 #[.string s] := by
    rw [hW]; have h := Blk.new (w.alloc (.cells #[.int .i64 k] 3)) 9 #[.string s]; simpa using h
  rw [← hW]
  clear hW
  refine (try_left W 31 _ b [] (fun _ => True) (callF Try.func31 (by kernel_rfl) rfl _) (by intro k hk; simp at hk) (fun _ _ _ => trivial)
    ((validClo _ w.heap.size (w.heap.size + 1) p k s b ((K1.alloc _).cell 0) ((K2.alloc _).cell 0) h0 h1 HT.out HG.out).mono fun _ _ h => ⟨h.1, Left.of_below h.2 _, trivial⟩)).mono ?_
  rintro e w1 ⟨rfl, hp, -⟩
  have B1 := Aside0.mk (hp.under BW.out (by intro k hk; simp at hk))
  clear hp K1 K2
  go_wp2
  go_ret
  exact ⟨rfl, B1.out⟩

set_option maxHeartbeats 800000 in
theorem valid_walk (w : World) (i j : Int) (A : Option Addr) (cap : Nat) (l : List Int) (hrd : Rds w A l) (hcap : l.length ≤ cap) (hm : l.length ≤ 9223372036854775807) (hb : ∀ x ∈ l, 0 ≤ x ∧ x ≤ 255) :
    Calls Try.prog 6 #[.int .i64 i, .int .i64 j, .slice A l.length cap] w fun e w' => e = .returned (.bool true) ∧ Below w.heap.size w w' := by
  have HRD := Aside0.mk hrd
  have HB := Aside0.mk hb
  clear hrd hb
  by_cases hbig : (2147483647 : Int) < l.length
  · go_enter Try.func6, Try.ntmps6
    go_wp2
    go_ret
    exact ⟨rfl, Below.refl _ _⟩
  by_cases hi : 0 ≤ i ∧ i < 6
  · obtain ⟨i0, i1⟩ := hi
    by_cases hj : 0 ≤ j ∧ j < 6
    · obtain ⟨j0, j1⟩ := hj
      by_cases hi5 : i = 5
      · have ei : (i == 5) = true := by rw [hi5]; rfl
        clear hi5
        go_enter Try.func6, Try.ntmps6
        go_wp2_with fail
        refine (known_yes _ i i0 i1).mono ?_
        rintro e w1 ⟨rfl, hb1⟩
        have B1 := Aside0.mk hb1
        clear hb1
        go_wp2_with fail
        refine (known_yes _ j j0 j1).mono ?_
        rintro e w2 ⟨rfl, hb2⟩
        have B2 := Aside0.mk (below_step B1.out hb2)
        clear hb2
        go_wp2_with fail
        refine (works_any _).mono ?_
        rintro e w3 ⟨rfl, hb3⟩
        have B3 := Aside0.mk (below_step B2.out hb3)
        clear hb3
        go_wp2
        go_ret
        exact ⟨rfl, B3.out⟩
      · have ei : (i == 5) = false := by rw [beq_eq_false_iff_ne]; exact hi5
        clear hi5
        by_cases hj5 : j = 5
        · have ej : (j == 5) = true := by rw [hj5]; rfl
          clear hj5
          go_enter Try.func6, Try.ntmps6
          go_wp2_with fail
          refine (known_yes _ i i0 i1).mono ?_
          rintro e w1 ⟨rfl, hb1⟩
          have B1 := Aside0.mk hb1
          clear hb1
          go_wp2_with fail
          refine (known_yes _ j j0 j1).mono ?_
          rintro e w2 ⟨rfl, hb2⟩
          have B2 := Aside0.mk (below_step B1.out hb2)
          clear hb2
          go_wp2_with fail
          refine (works_any _).mono ?_
          rintro e w3 ⟨rfl, hb3⟩
          have B3 := Aside0.mk (below_step B2.out hb3)
          clear hb3
          go_wp2
          go_ret
          exact ⟨rfl, B3.out⟩
        · have ej : (j == 5) = false := by rw [beq_eq_false_iff_ne]; exact hj5
          have J5 := Aside0.mk (show j < 5 by omega)
          clear hj5
          by_cases h32 : l.length = 32
          · have e32 : ((l.length : Int) != 32) = false := by rw [h32]; rfl
            have H32 := Aside0.mk h32
            clear h32
            go_enter Try.func6, Try.ntmps6
            go_wp2_with fail
            refine (known_yes _ i i0 i1).mono ?_
            rintro e w1 ⟨rfl, hb1⟩
            have B1 := Aside0.mk hb1
            clear hb1
            go_wp2_with fail
            refine (known_yes _ j j0 j1).mono ?_
            rintro e w2 ⟨rfl, hb2⟩
            have B2 := Aside0.mk (below_step B1.out hb2)
            clear hb2
            go_wp2_with fail
            refine (spec_text w2 i A cap l i0 i1 (Kd.C_below HRD.out B2.out) hcap H32.out HB.out).mono ?_
            rintro e w3 ⟨rfl, hb3⟩
            have B3 := Aside0.mk (below_step B2.out hb3)
            clear hb3
            go_wp2_with fail
            have hst := bytes_str (l := keyL (pk i) l) (key_txt (pk_pref i0 i1) H32.out HB.out).bytes
            refine (implValid w3 j (strOfNums (keyL (pk i) l)) (keyL (pk i) l).length (i == j) j0 J5.out (by rw [hst]; exact key_txt (pk_pref i0 i1) H32.out HB.out) (by rw [hst, key_good (pk_pref i0 i1) H32.out HB.out, beq_iff_eq]; exact ⟨fun h => (pk_inj j0 j1 i0 i1 h).symm, fun h => by rw [h]⟩)).mono ?_
            clear hst
            rintro e w4 ⟨rfl, hb4⟩
            have B4 := Aside0.mk (below_step B3.out hb4)
            clear hb4
            have hee : ((i == j) == (i == j)) = true := by simp
            go_wp2_with fail
            refine (works_any _).mono ?_
            rintro e w5 ⟨rfl, hb5⟩
            have B5 := Aside0.mk (below_step B4.out hb5)
            clear hb5
            go_wp2
            go_ret
            exact ⟨rfl, B5.out⟩
          · have e32 : ((l.length : Int) != 32) = true := by rw [bne_iff_ne]; omega
            clear h32
            go_enter Try.func6, Try.ntmps6
            go_wp2_with fail
            refine (known_yes _ i i0 i1).mono ?_
            rintro e w1 ⟨rfl, hb1⟩
            have B1 := Aside0.mk hb1
            clear hb1
            go_wp2_with fail
            refine (known_yes _ j j0 j1).mono ?_
            rintro e w2 ⟨rfl, hb2⟩
            have B2 := Aside0.mk (below_step B1.out hb2)
            clear hb2
            go_wp2_with fail
            refine (works_any _).mono ?_
            rintro e w3 ⟨rfl, hb3⟩
            have B3 := Aside0.mk (below_step B2.out hb3)
            clear hb3
            go_wp2
            go_ret
            exact ⟨rfl, B3.out⟩
    · have HJ := Aside0.mk (show j < 0 ∨ 6 ≤ j by omega)
      clear hj
      go_enter Try.func6, Try.ntmps6
      go_wp2_with fail
      refine (known_yes _ i i0 i1).mono ?_
      rintro e w1 ⟨rfl, hb1⟩
      have B1 := Aside0.mk hb1
      clear hb1
      go_wp2_with fail
      refine (known_no _ j HJ.out).mono ?_
      rintro e w2 ⟨rfl, hb2⟩
      have B2 := Aside0.mk (below_step B1.out hb2)
      clear hb2
      go_wp2_with fail
      refine (works_any _).mono ?_
      rintro e w3 ⟨rfl, hb3⟩
      have B3 := Aside0.mk (below_step B2.out hb3)
      clear hb3
      go_wp2
      go_ret
      exact ⟨rfl, B3.out⟩
  · have HI := Aside0.mk (show i < 0 ∨ 6 ≤ i by omega)
    clear hi
    go_enter Try.func6, Try.ntmps6
    go_wp2_with fail
    refine (known_no _ i HI.out).mono ?_
    rintro e w1 ⟨rfl, hb1⟩
    have B1 := Aside0.mk hb1
    clear hb1
    go_wp2_with fail
    refine (works_any _).mono ?_
    rintro e w2 ⟨rfl, hb2⟩
    have B2 := Aside0.mk (below_step B1.out hb2)
    clear hb2
    go_wp2
    go_ret
    exact ⟨rfl, B2.out⟩
end Go.Proofs.Ytmmhifomfbdfjaa
