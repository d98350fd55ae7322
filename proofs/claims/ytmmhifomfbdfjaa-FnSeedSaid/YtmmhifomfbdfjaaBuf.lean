/- Rows of bytes that a call makes and appends to; the buffer's methods. -/
import Derived.Test.YtmmhifomfbdfjaaB0
namespace Go.Proofs.Ytmmhifomfbdfjaa
open Go.RowKit Go.Proofs.YtmmhifomfbdfjaaW.PrintWords Go.Proofs.YtmmhifomfbdfjaaW.PrintLast Go.Proofs.YtmmhifomfbdfjaaW.PrintMore
set_option linter.unusedVariables false
set_option linter.unusedSimpArgs false

/-- A row of bytes of the call's own. -/
abbrev Own (w : World) (base : Nat) (v : Value) (l : List Int) : Prop := (Kd.int .u8).R 5 w base (fun _ => True) v l
/-- A row of bytes that is read. -/
abbrev Rds (w : World) (A : Option Addr) (l : List Int) : Prop := (Kd.int .u8).C w A l.length l

theorem info5' : (Try.prog.info? 5).map (fun i => (i.zero, i.size, i.bytes)) = some (some (.int .u8 0), 1, 1) := by kernel_rfl

section
variable {w : World} {ops : Array Oper} {rest : List Oper} {o : Oper} {a : Act} {Q : Exit → Act → World → Prop}
theorem app_any (base : Nat) (hgd : o.guard = none) (s x : Operand)
    (ho : o.op = .call { callee := .builtin .append, args := #[s, x], argTypes := #[22, 22] })
    (v : Value) (xs ys : List Int) (A : Option Addr) (m c : Nat) (hs : a.eval s = v) (hx : a.eval x = .slice A m c)
    (HO : Own w base v xs) (hm : m = ys.length) (HR : Rds w A ys) (hbase : base ≤ w.heap.size) (hl : xs.length + ys.length ≤ 1000000)
    (h : ∀ v1 w1, Own w1 base v1 (xs ++ ys) → w.grownBy w1 v.ownBlock → (v1.ownBlock = v.ownBlock ∨ ∃ b, v1.ownBlock = some b ∧ w.heap.size ≤ b) → wpList Try.prog ops Q rest (a.put o.dst v1) w1) :
    wpList Try.prog ops Q (o :: rest) a w := by
  subst hm
  refine Kd.R_append_rows (Kd.int .u8) (w0 := w) base hgd s x 22 5 (.int .u8 0) 1 ho Try.underlying22 info5' rfl (by decide) (by decide) v xs ys A ys.length c (fun _ => True) (fun _ => False) hs hx HO HR ?_ (fun _ hk => hk.elim) (fun _ _ => trivial) (Below.refl _ _) hbase (by omega) ?_
  · intro x cs hx
    exact hx
  · intro v1 w1 ho1 _ hg hat
    exact h v1 w1 ho1 hg hat
end

theorem own_of_lit (W : World) (base : Nat) (l : List Int) (hb : base ≤ W.heap.size) (hm : l.length ≤ 1000000) : Own (W.alloc (.cells (u8s l).toArray 5)) base (.slice (some ⟨W.heap.size, 0, none⟩) l.length l.length) l :=
  Kd.R_of_own (enc := Value.int .u8) (h1 := fun _ => rfl) (own_lit_of (enc := Value.int .u8) W base 5 l hb (by omega)) (fun _ _ => trivial)
theorem own_rds {w : World} {base : Nat} {v : Value} {l : List Int} (h : Own w base v l) : ∃ A c, v = .slice A l.length c ∧ l.length ≤ c ∧ Rds w A l := Kd.R_reads h

theorem own_shape {w : World} {base : Nat} {v : Value} {l : List Int} (h : Own w base v l) : ∃ A n c, v = .slice A n c := by
  obtain ⟨A, c, e, _, _⟩ := own_rds h
  exact ⟨A, _, c, e⟩
theorem lit_rds (W : World) (l : List Int) (hm : l.length ≤ 1000000) : Rds (W.alloc (.cells (u8s l).toArray 5)) (some ⟨W.heap.size, 0, none⟩) l := by
  obtain ⟨A, c, e, _, h⟩ := own_rds (own_of_lit W W.heap.size l (Nat.le_refl _) hm)
  injection e with e1
  rw [e1]; exact h

/-- The buffer p holds l. -/
def Buf (w : World) (p base : Nat) (l : List Int) : Prop := ∃ v, Blk w p 61 #[v] ∧ Own w base v l ∧ base ≤ p

theorem Buf.below {w w1 : World} {p base : Nat} {l : List Int} (h : Buf w p base l) (hb : Below w.heap.size w w1) : Buf w1 p base l := by
  obtain ⟨v, h1, h2, h3⟩ := h
  exact ⟨v, h1.below hb, Kd.R_below h2 hb, h3⟩
theorem Buf.new (w : World) : Buf (w.alloc (.cells #[.slice none 0 0] 61)) w.heap.size w.heap.size [] :=
  ⟨_, Blk.new w 61 _, Kd.R_nil _ _ _ _ _, Nat.le_refl _⟩

/-- What an append and the store of its answer leave. -/
theorem Buf.stored {w w1 : World} {p base : Nat} {v v1 : Value} {l l1 : List Int} (h1 : Blk w p 61 #[v]) (h2 : Own w base v l) (h3 : base ≤ p) (ho : Own w1 base v1 l1) (hg : w.grownBy w1 v.ownBlock) :
    Buf (w1.setCell ⟨p, 0, none⟩ v1) p base l1 ∧ Below base w (w1.setCell ⟨p, 0, none⟩ v1) := by
  have hp1 : Blk w1 p 61 #[v] := blk_grown h1 hg (Kd.R_ne h2 h1 (by decide))
  refine ⟨⟨v1, ?_, ?_, h3⟩, ?_⟩
  · exact hp1.set_ 0 v1
  · exact Kd.R_set ho hp1 (by intro q hq; simp [Kd.int, Kd.scalar] at hq; omega) 0 v1
  · have hb : base ≤ w.heap.size := by have := h1.lt; omega
    exact ((Below.refl base w).grown hg hb (fun k hk => by
      obtain ⟨inner, ho⟩ := Kd.R_own h2
      exact own_base ho k hk)).setCell h3 _

theorem Buf.between {w w1 : World} {p base : Nat} {v : Value} {l : List Int} (h1 : Blk w p 61 #[v]) (h2 : Own w base v l) (hg : w.grownBy w1 v.ownBlock) : Blk w1 p 61 #[v] :=
  blk_grown h1 hg (Kd.R_ne h2 h1 (by decide))

set_option maxHeartbeats 400000 in
theorem writeByte_any (w : World) (p base : Nat) (c : Int) (l : List Int) (h : Buf w p base l) (hl : l.length ≤ 1000) :
    Calls Try.prog 48 #[.pointer (some ⟨p, 0, none⟩), .int .u8 c] w fun e w' => e = .returned .nilIface ∧ Buf w' p base (l ++ [c]) ∧ Below base w w' := by
  obtain ⟨v, h1, h2, h3⟩ := h
  have hcell : w.cell? ⟨p, 0, none⟩ = some v := h1.cell 0
  have hb : base ≤ w.heap.size := by have := h1.lt; omega
  have H1 := Aside0.mk (h1.alloc (.cells #[.int .u8 c] 5))
  have H2 := Aside0.mk (Kd.R_alloc h2 (.cells #[.int .u8 c] 5))
  have HL := Aside0.mk (lit_rds w [c] (by simp))
  have HBW := Aside0.mk ((Below.refl base w).alloc hb (.cells #[.int .u8 c] 5))
  clear h1 h2
  go_enter Try.func48, Try.ntmps48
  go_wp2_with ((with_reducible refine gate_dst (N := 12) rfl ?_); refine app_any base rfl (.tmp 9) (.tmp 11) rfl v l [c] (some ⟨w.heap.size, 0, none⟩) 1 1 rfl rfl H2.out rfl HL.out ?hb2 ?hl2 ?_; (case hb2 => simp; omega); (case hl2 => simp; omega); intro v1 w1 ho hg hat; obtain ⟨A1, n1, k1, e1⟩ := own_shape ho; subst e1; have hbt := Buf.between H1.out H2.out hg; have hc1 : w1.cell? ⟨p, 0, none⟩ = some v := hbt.cell 0; have hf1 := hbt.frozen 0; have HS := Aside0.mk (Buf.stored H1.out H2.out h3 ho hg); clear ho hg hat hbt)
  go_ret
  exact ⟨rfl, HS.out.1, HBW.out.trans HS.out.2⟩

set_option maxHeartbeats 400000 in
theorem write_any (w : World) (p base cap : Nat) (A : Option Addr) (l ys : List Int) (h : Buf w p base l) (hr : Rds w A ys) (hc : ys.length ≤ cap) (hl : l.length ≤ 1000) (hy : ys.length ≤ 1000) :
    Calls Try.prog 49 #[.pointer (some ⟨p, 0, none⟩), .slice A ys.length cap] w fun e w' => e = .returned (.tuple #[.int .i64 ys.length, .nilIface]) ∧ Buf w' p base (l ++ ys) ∧ Below base w w' := by
  obtain ⟨v, h1, h2, h3⟩ := h
  have hcell : w.cell? ⟨p, 0, none⟩ = some v := h1.cell 0
  have hb : base ≤ w.heap.size := by have := h1.lt; omega
  have H1 := Aside0.mk h1
  have H2 := Aside0.mk h2
  have HL := Aside0.mk hr
  clear h1 h2 hr
  go_enter Try.func49, Try.ntmps49
  go_wp2_with ((with_reducible refine gate_dst (N := 12) rfl ?_); refine app_any base rfl (.tmp 10) (.tmp 11) rfl v l ys A ys.length cap rfl rfl H2.out rfl HL.out hb ?hl2 ?_; (case hl2 => omega); intro v1 w1 ho hg hat; obtain ⟨A1, n1, k1, e1⟩ := own_shape ho; subst e1; have hbt := Buf.between H1.out H2.out hg; have hc1 : w1.cell? ⟨p, 0, none⟩ = some v := hbt.cell 0; have hf1 := hbt.frozen 0; have HS := Aside0.mk (Buf.stored H1.out H2.out h3 ho hg); clear ho hg hat hbt)
  go_ret2
  exact ⟨rfl, HS.out.1, HS.out.2⟩

theorem shr8_u16 {v : Int} (h0 : 0 ≤ v) (h1 : v < 65536) : v / 256 = v / 256 % 256 := by omega

set_option maxHeartbeats 400000 in
theorem write16_any (w : World) (p base : Nat) (c : Int) (l : List Int) (h : Buf w p base l) (hl : l.length ≤ 1000) (h0 : 0 ≤ c) (hc1 : c < 65536) :
    Calls Try.prog 50 #[.pointer (some ⟨p, 0, none⟩), .int .u16 c] w fun e w' => e = .returned .nilIface ∧ Buf w' p base (l ++ [c % 256, c / 256]) ∧ Below base w w' := by
  obtain ⟨v, h1, h2, h3⟩ := h
  have hcell : w.cell? ⟨p, 0, none⟩ = some v := h1.cell 0
  have hb : base ≤ w.heap.size := by have := h1.lt; omega
  have H1 := Aside0.mk (h1.alloc (.cells #[.int .u8 (c % 256), .int .u8 (c / 256)] 5))
  have H2 := Aside0.mk (Kd.R_alloc h2 (.cells #[.int .u8 (c % 256), .int .u8 (c / 256)] 5))
  have HL := Aside0.mk (lit_rds w [c % 256, c / 256] (by simp))
  have HBW := Aside0.mk ((Below.refl base w).alloc hb (.cells #[.int .u8 (c % 256), .int .u8 (c / 256)] 5))
  clear h1 h2
  go_enter Try.func50, Try.ntmps50
  go_wp2_with ((with_reducible refine gate_dst (N := 16) rfl ?_); refine app_any base rfl (.tmp 9) (.tmp 15) rfl v l [c % 256, c / 256] (some ⟨w.heap.size, 0, none⟩) 2 2 rfl rfl H2.out rfl HL.out ?hb2 ?hl2 ?_; (case hb2 => simp; omega); (case hl2 => simp; omega); intro v1 w1 ho hg hat; obtain ⟨A1, n1, k1, e1⟩ := own_shape ho; subst e1; have hbt := Buf.between H1.out H2.out hg; have hc1 : w1.cell? ⟨p, 0, none⟩ = some v := hbt.cell 0; have hf1 := hbt.frozen 0; have HS := Aside0.mk (Buf.stored H1.out H2.out h3 ho hg); clear ho hg hat hbt)
  go_ret
  exact ⟨rfl, HS.out.1, HBW.out.trans HS.out.2⟩

set_option maxHeartbeats 400000 in
theorem bytes_any (w : World) (p base : Nat) (l : List Int) (h : Buf w p base l) :
    Calls Try.prog 52 #[.pointer (some ⟨p, 0, none⟩)] w fun e w' => (∃ A c, e = .returned (.slice A l.length c) ∧ l.length ≤ c ∧ Rds w A l) ∧ w = w' := by
  obtain ⟨v, h1, h2, h3⟩ := h
  obtain ⟨A, c, e, hc, hr⟩ := own_rds h2
  have hcell : w.cell? ⟨p, 0, none⟩ = some v := h1.cell 0
  rw [e] at hcell
  clear h1 h2 e
  go_enter Try.func52, Try.ntmps52
  go_wp2
  go_ret
  exact ⟨⟨A, c, rfl, hc, hr⟩, rfl⟩
end Go.Proofs.Ytmmhifomfbdfjaa
