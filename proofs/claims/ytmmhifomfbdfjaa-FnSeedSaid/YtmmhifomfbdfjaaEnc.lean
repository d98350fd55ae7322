/- The base32 encoding that the package makes anew at each call: NewEncoding, StdEncoding, WithPadding, b32Enc. -/
import Derived.Test.YtmmhifomfbdfjaaB0
import Derived.Test.YtmmhifomfbdfjaaPure
import Derived.Test.YtmmhifomfbdfjaaBits
namespace Go.Proofs.Ytmmhifomfbdfjaa
open Go.RowKit Go.Proofs.YtmmhifomfbdfjaaW.PrintWords Go.Proofs.YtmmhifomfbdfjaaW.PrintLast Go.Proofs.YtmmhifomfbdfjaaW.PrintMore
set_option linter.unusedVariables false
set_option linter.unusedSimpArgs false

noncomputable def alphaS : ByteArray := ⟨#[65, 66, 67, 68, 69, 70, 71, 72, 73, 74, 75, 76, 77, 78, 79, 80, 81, 82, 83, 84, 85, 86, 87, 88, 89, 90, 50, 51, 52, 53, 54, 55]⟩
/-- The decoding table behind k rounds. -/
noncomputable def decM (k : Nat) : List Int := (List.range 256).map fun c => decAt k c
noncomputable def encCells (k : Nat) (pad : Int) : Array Value := (u8s alphaL ++ u8s (decM k) ++ [Value.int .i32 pad]).toArray
noncomputable def encX0 : Array Value := Try.zeroCells82.setIfInBounds 288 (Value.int IntKind.i32 61)
noncomputable def encX1 : Array Value := (encX0.toList.take 0 ++ u8s (bytesOf alphaS) ++ encX0.toList.drop (0 + alphaS.size)).toArray
noncomputable def ffS : ByteArray := ⟨(List.replicate 256 255).toArray⟩
theorem encX1_cells : (encX1.toList.take 32 ++ u8s (bytesOf ffS) ++ encX1.toList.drop (32 + 256)).toArray = encCells 0 61 := by kernel_rfl
theorem encX0_size : encX0.size = 289 := by kernel_rfl
theorem encX1_size : encX1.size = 289 := by kernel_rfl
theorem elem22 : Try.prog.underlying 22 = some (.slice 5) := by kernel_rfl
theorem size5 : (Try.prog.info? 5).map (·.size) = some 1 := by kernel_rfl
theorem alphaS_size : alphaS.size = 32 := by kernel_rfl
theorem ffS_size : ffS.size = 256 := by kernel_rfl
theorem encCells_size (k : Nat) (pad : Int) : (encCells k pad).size = 289 := by simp [encCells, u8s, decM, alphaL]


theorem decM_set_all : ∀ k : Fin 32, (decM k.1).set (alphaL.getD k.1 0).toNat (k.1 : Int) = decM (k.1 + 1) := by decide +kernel
theorem decM_at_all : ∀ k : Fin 32, (decM k.1)[(alphaL.getD k.1 0).toNat]? = some 255 := by decide +kernel
theorem alpha_fine : ∀ k : Fin 32, (alphaL.getD k.1 0 == 10) = false ∧ (alphaL.getD k.1 0 == 13) = false ∧ 0 ≤ alphaL.getD k.1 0 ∧ alphaL.getD k.1 0 < 256 := by decide +kernel
theorem bytesOf_alphaS : bytesOf alphaS = alphaL := by decide +kernel
theorem encCells_at {k : Nat} (h : k < 32) (pad : Int) : (encCells k pad)[32 + (alphaL.getD k 0).toNat]? = some (.int .u8 255) := by
  have h1 := decM_at_all ⟨k, h⟩
  have h2 := alpha_fine ⟨k, h⟩
  simp only at h1 h2
  have hd : (u8s (decM k))[(alphaL.getD k 0).toNat]? = some (.int .u8 255) := by rw [u8s, List.getElem?_map, h1]; rfl
  have hl : (u8s alphaL).length = 32 := rfl
  have hdl : (u8s (decM k)).length = 256 := by simp [u8s, decM]
  rw [encCells, List.getElem?_toArray, List.append_assoc, List.getElem?_append_right (by omega), hl, Nat.add_sub_cancel_left, List.getElem?_append_left (by omega)]
  exact hd
theorem encCells_set {k : Nat} (h : k < 32) (pad : Int) : (encCells k pad).setIfInBounds (32 + (alphaL.getD k 0).toNat) (.int .u8 (k : Int)) = encCells (k + 1) pad := by
  have h1 := decM_set_all ⟨k, h⟩
  have h2 := alpha_fine ⟨k, h⟩
  simp only at h1 h2
  have hl : (u8s alphaL).length = 32 := rfl
  have hdl : (u8s (decM k)).length = 256 := by simp [u8s, decM]
  rw [encCells, List.setIfInBounds_toArray, List.append_assoc, List.set_append, if_neg (by omega), hl, Nat.add_sub_cancel_left, List.set_append, if_pos (by omega), encCells, ← h1, ← List.append_assoc]
  simp [u8s, List.map_set]

set_option maxHeartbeats 400000 in
set_option maxRecDepth 100000 in
theorem newenc (w : World) (s : ByteArray) (hs0 : s = alphaS) :
    Calls Try.prog 67 #[.string s] w fun e w' => e = .returned (.pointer (some ⟨w.heap.size, 0, none⟩)) ∧ Blk w' w.heap.size 82 (encCells 32 61) ∧ Below w.heap.size w w' := by
  have hs : s.size = 32 := by rw [hs0]; exact alphaS_size
  have HS := Aside0.mk hs0
  clear hs0
  go_enter Try.func67, Try.ntmps67
  go_wp2_with (first
    | ((with_reducible refine gate_dst (N := 18) rfl ?_); refine copy_str rfl (.tmp 16) (.tmp 17) 22 9 rfl 5 elem22 size5 w.heap.size 0 32 32 s rfl rfl encX0 82 ?hg hs ?hf encX1 ?hY w.heap.size w ?hb (Nat.le_refl _) ?_; (case hg => exact Blk.new _ _ _); (case hf => rw [encX0_size]; omega); (case hY => rw [HS.out]; rfl); (case hb => exact (Below.refl _ _).alloc (Nat.le_refl _) _); intro w1 hw1 hb1; have HW1 := Aside0.mk hw1; have HB1 := Aside0.mk hb1; clear hw1 hb1)
    | ((with_reducible refine gate_dst (N := 23) rfl ?_); refine copy_str rfl (.tmp 22) _ 22 9 rfl 5 elem22 size5 w.heap.size 32 256 256 ffS rfl ?hs2 encX1 82 HW1.out ffS_size ?hf2 (encCells 0 61) ?hY2 w.heap.size w HB1.out (Nat.le_refl _) ?_; (case hs2 => rfl); (case hf2 => rw [encX1_size, ffS_size]; omega); (case hY2 => rw [ffS_size]; exact encX1_cells); clear HW1 HB1; intro w2 hw2 hb2; have HW2 := Aside0.mk hw2; have HB2 := Aside0.mk hb2; clear hw2 hb2))
  go_loopw [4] (fun i wr => ∃ k : Nat, k ≤ 32 ∧ i = .int .i64 k ∧ Aside0 (Blk wr w.heap.size 82 (encCells k 61)) ∧ Aside0 (Below w.heap.size w wr)) (fun i _ => 32 - (intOf i).toNat)
  case atStart => exact ⟨0, by omega, rfl, HW2, HB2⟩
  case round =>
    clear HW2 HB2
    obtain ⟨k, hk, rfl, HW, HB⟩ := hrel
    by_cases hlt : k < 32
    · obtain ⟨c, hcd⟩ : ∃ c : Int, c = alphaL.getD k 0 := ⟨_, rfl⟩
      have hc : ∀ h : k < s.size, ((s[k]'h).toNat : Int) = c := by
        intro h
        have e := bt_at s (k : Int) (by simpa using h)
        have e2 := rd_bytesOf s (k : Int)
        rw [HS.out, bytesOf_alphaS] at e2
        simp only [Int.toNat_natCast] at e
        rw [e, HS.out, ← e2, hcd]
        simp [rd]
      obtain ⟨q1, q2, q3, q4⟩ := alpha_fine ⟨k, hlt⟩
      simp only at q1 q2 q3 q4
      have hcell := (HW.out.cell (32 + (alphaL.getD k 0).toNat)).trans (encCells_at hlt 61)
      have hset := encCells_set hlt 61
      rw [← hcd] at q1 q2 q3 q4 hcell hset
      have hfz := HW.out.frozen (32 + c.toNat)
      have HSET := Aside0.mk hset
      have HC := Aside0.mk hcd
      clear hset hcd
      go_wp2
      go_region
      go_wp2
      go_region
      go_wp2
      go_roundw
      case rel => exact ⟨k + 1, by omega, by go_num, ⟨by rw [← HSET.out]; exact (HW.out.set_ _ _).drew.drew⟩, ⟨((HB.out.setCell (Nat.le_refl _) _).drew).drew⟩⟩
      case measure => simp [intOf]; omega
    · go_wp2
      go_ret
      have hk32 : k = 32 := by omega
      subst hk32
      exact ⟨rfl, HW.out, HB.out⟩

theorem encX_word (k : Nat) (pad pad' : Int) : (encCells k pad).setIfInBounds 288 (.int .i32 pad') = encCells k pad' := by
  have hl : (u8s alphaL).length = 32 := rfl
  have hdl : (u8s (decM k)).length = 256 := by simp [u8s, decM]
  rw [encCells, List.setIfInBounds_toArray, List.set_append, if_neg (by rw [List.length_append]; omega), List.length_append, hl, hdl]
  rfl

theorem encX_pad (k : Nat) (pad : Int) : (encCells k pad)[288]? = some (.int .i32 pad) := by
  have hl : (u8s alphaL).length = 32 := rfl
  have hdl : (u8s (decM k)).length = 256 := by simp [u8s, decM]
  rw [encCells, List.getElem?_toArray, List.getElem?_append_right (by rw [List.length_append]; omega), List.length_append, hl, hdl]
  rfl

set_option maxHeartbeats 400000 in
theorem stdenc (w : World) :
    Calls Try.prog 61 #[] w fun e w' => e = .returned (.pointer (some ⟨w.heap.size, 0, none⟩)) ∧ Blk w' w.heap.size 82 (encCells 32 61) ∧ Below w.heap.size w w' := by
  go_enter Try.func61, Try.ntmps61
  go_wp2_with (go_at_call 67; refine (newenc w _ rfl).mono ?_; rintro e w' ⟨rfl, hb, hbel⟩)
  go_ret
  exact ⟨rfl, hb, hbel⟩

set_option maxHeartbeats 400000 in
set_option maxRecDepth 100000 in
theorem withpad (w : World) (C : Array Value) (hC : C = encCells 32 61) :
    Calls Try.prog 62 #[.agg C, .int .i32 (-1)] w fun e w' => e = .returned (.pointer (some ⟨w.heap.size, 0, none⟩)) ∧ Blk w' w.heap.size 82 (encCells 32 (-1)) ∧ Below w.heap.size w w' := by
  have hp : C[288]? = some (.int .i32 61) := by rw [hC]; exact encX_pad 32 61
  have HC := Aside0.mk hC
  clear hC
  go_enter Try.func62, Try.ntmps62
  go_wp2
  go_ret
  refine ⟨rfl, ?_, (Below.refl _ _).alloc (Nat.le_refl _) _⟩
  have h := Blk.new w 82 (C.setIfInBounds 288 (.int .i32 (-1)))
  rw [HC.out, encX_word] at h
  rw [HC.out]
  exact h

theorem size82 (cs : Array Value) (h : cs.size = 289) : (Try.prog.info? 82).map (·.size) = some cs.size := by rw [h]; kernel_rfl
theorem isstruct82 : ∃ d, Try.prog.underlying 82 = some d ∧ (match d with | .struct _ | .array _ _ => true | _ => false) = true := ⟨_, Try.underlying82, rfl⟩

set_option maxHeartbeats 400000 in
set_option maxRecDepth 100000 in
theorem b32enc (w : World) :
    Calls Try.prog 53 #[] w fun e w' => ∃ g, e = .returned (.pointer (some ⟨g, 0, none⟩)) ∧ w.heap.size ≤ g ∧ Blk w' g 82 (encCells 32 (-1)) ∧ Below w.heap.size w w' := by
  go_enter Try.func53, Try.ntmps53
  go_wp2_with (first
    | (go_at_call 61; refine (stdenc w).mono ?_; rintro e w1 ⟨rfl, hb, hbel⟩; have HW1 := Aside0.mk hb; have HB1 := Aside0.mk hbel; clear hb hbel)
    | ((with_reducible refine gate_dst (N := 3) rfl ?_); refine wpList_load_row rfl 82 (.tmp 2) rfl w.heap.size rfl 82 (encCells 32 61) (0, 0) _ HW1.out Try.underlying82 rfl (size82 _ (encCells_size _ _)) ?_)
    | (go_at_call 62; refine (withpad w1 (encCells 32 61) rfl).mono ?_; rintro e w2 ⟨rfl, hb, hbel⟩; have HW2 := Aside0.mk hb; have HB2 := Aside0.mk hbel; clear hb hbel))
  go_ret
  exact ⟨_, rfl, HB1.out.size, HW2.out, below_step HB1.out HB2.out⟩
end Go.Proofs.Ytmmhifomfbdfjaa
