/- Words of this claim: blocks that are known whole, bytes copied out of a string into a block, small facts on worlds. -/
import Derived.Test.YtmmhifomfbdfjaaPDecodex
import Derived.Test.YtmmhifomfbdfjaaPFnEncodex
import Derived.Test.YtmmhifomfbdfjaaPkindx
import Derived.Test.YtmmhifomfbdfjaaPprefixx
import Derived.Laws.CopyOwn
namespace Go.Proofs.Ytmmhifomfbdfjaa
set_option linter.unusedVariables false
set_option linter.unusedSimpArgs false
open Go.RowKit Go.Proofs.YtmmhifomfbdfjaaW.PrintWords Go.Proofs.YtmmhifomfbdfjaaW.PrintLast Go.Proofs.YtmmhifomfbdfjaaW.PrintMore

/-- Block g holds just these cells, of element type t, none frozen. -/
def Blk (w : World) (g : Nat) (t : TypeId) (cs : Array Value) : Prop := w.heap[g]? = some (.cells cs t (0, 0))

section
variable {w w' : World} {g : Nat} {t : TypeId} {cs : Array Value}
theorem Blk.lt (h : Blk w g t cs) : g < w.heap.size := blk_lt h
theorem Blk.cell (h : Blk w g t cs) (i : Nat) : w.cell? ⟨g, i, none⟩ = cs[i]? := cell_of_row w g i cs t (0, 0) h
theorem Blk.frozen (h : Blk w g t cs) (i : Nat) : w.frozen? ⟨g, i, none⟩ = false := blk_frozen h i
theorem Blk.new (w : World) (t : TypeId) (cs : Array Value) : Blk (w.alloc (.cells cs t)) w.heap.size t cs := heap_alloc_new w _
theorem Blk.drew (h : Blk w g t cs) : Blk w.drew g t cs := h
theorem Blk.drewN (h : Blk w g t cs) (n : Nat) : Blk (w.drewN n) g t cs := h
theorem Blk.alloc (h : Blk w g t cs) (o : Obj) : Blk (w.alloc o) g t cs := (Below.heap_alloc w o g h.lt).trans h
theorem Blk.set_ (h : Blk w g t cs) (i : Nat) (u : Value) : Blk (w.setCell ⟨g, i, none⟩ u) g t (cs.setIfInBounds i u) := blk_set h i u
theorem Blk.far (h : Blk w g t cs) {p : Addr} (hp : g ≠ p.block) (u : Value) : Blk (w.setCell p u) g t cs := blk_far h hp u
theorem Blk.below (h : Blk w g t cs) (hb : Below w.heap.size w w') : Blk w' g t cs := blk_below h hb
end

def u8s (l : List Int) : List Value := l.map (Value.int .u8)
theorem u8s_length (l : List Int) : (u8s l).length = l.length := by simp [u8s]

theorem strCells_eq (s : ByteArray) : (s.data.map fun b => Value.int .u8 b.toNat).toList = u8s (bytesOf s) := by
  simp [u8s, bytesOf]

section
variable {P : Program} {w : World} {ops : Array Oper} {rest : List Oper} {o : Oper} {a : Act} {Q : Exit → Act → World → Prop}
theorem run_copy_str (w : World) (dT sT ty elem : TypeId) (g off dLen dCap : Nat) (s : ByteArray) (cur : Array Value) (t : TypeId)
    (hu : P.underlying dT = some (.slice elem)) (hs : (P.info? elem).map (·.size) = some 1)
    (hg : w.heap[g]? = some (.cells cur t (0, 0))) (hn : s.size = dLen) (hfit : off + s.size ≤ cur.size) :
    (Builtin.copy_ #[dT, sT] ty #[.slice (some ⟨g, off, none⟩) dLen dCap, .string s]).run P w =
      .ok (goInt dLen) (w.setRow g (cur.toList.take off ++ u8s (bytesOf s) ++ cur.toList.drop (off + s.size)).toArray) := by
  have hl : (u8s (bytesOf s)).length = s.size := by rw [u8s_length, bytesOf_length]
  have hst := run_storeCells_at P g off t (u8s (bytesOf s)) 0 cur w hg (by rw [hl]; omega) (by intro v hv; simp [u8s] at hv; obtain ⟨x, _, rfl⟩ := hv; rfl)
  cases hq : P.info? elem with
  | none => simp [hq] at hs
  | some i =>
    have hi : i.size = 1 := by simpa [hq] using hs
    have he : s.extract 0 dLen = s := by subst hn; simp
    rw [hl] at hst
    simp only [Nat.add_zero] at hst
    simp [Builtin.copy_, run_underlying hu, Builtin.lenOf, Builtin.firstCells, sizeOf, typeInfo, hq, hn, he]
    have e : (List.map (fun b : UInt8 => Value.int .u8 b.toNat) s.data.toList) = u8s (bytesOf s) := by simp [u8s, bytesOf]
    rw [e, List.take_of_length_le (by rw [hl]; omega), hst]
    simp [hn]

/-- copy(d[..], s), s a string as long as d: the block behind it is Y. -/
theorem copy_str (hgd : o.guard = none) (d s : Operand) (dT sT : TypeId)
    (ho : o.op = .call { callee := .builtin .copy, args := #[d, s], argTypes := #[dT, sT] }) (elem : TypeId) (hu : P.underlying dT = some (.slice elem)) (hsz : (P.info? elem).map (·.size) = some 1)
    (g off dLen dCap : Nat) (x : ByteArray) (hd : a.eval d = .slice (some ⟨g, off, none⟩) dLen dCap) (hs : a.eval s = .string x)
    (cur : Array Value) (t : TypeId) (hg : Blk w g t cur) (hn : x.size = dLen) (hfit : off + x.size ≤ cur.size) (Y : Array Value)
    (hY : (cur.toList.take off ++ u8s (bytesOf x) ++ cur.toList.drop (off + x.size)).toArray = Y) (B : Nat) (w0 : World) (hb : Below B w0 w) (hBg : B ≤ g)
    (h : ∀ w', Blk w' g t Y → Below B w0 w' → wpList P ops Q rest (a.put o.dst (goInt dLen)) w') : wpList P ops Q (o :: rest) a w := by
  refine wpList_plain hgd fun K hK => ?_
  have hrun := run_copy_str (P := P) w dT sT o.type elem g off dLen dCap x cur t hu hsz hg hn hfit
  rw [hY] at hrun
  unfold Oper.wp
  simp [execOp, ho, resolve, invoke, builtin, hd, hs, hrun, Result.andThen]
  exact hK _ _ (h _ (setRow_heap w g _ _ t _ hg) (below_setRow hb hBg _))

/-- A whole array or struct read out of the midst of a block. -/
theorem load_seg (hgd : o.guard = none) (ty : TypeId) (x : Operand) (ho : o.op = .load ty x)
    (g off : Nat) (hx : a.eval x = .pointer (some ⟨g, off, none⟩)) (cs : List Value) (d : TypeDesc) (hc : ∀ j v, cs[j]? = some v → w.cell? ⟨g, off + j, none⟩ = some v)
    (hu : P.underlying ty = some d) (hd : (match d with | .struct _ | .array _ _ => true | _ => false) = true) (hi : (P.info? ty).map (·.size) = some cs.length)
    (h : wpList P ops Q rest (a.put o.dst (.agg cs.toArray)) w) : wpList P ops Q (o :: rest) a w := by
  refine wpList_plain hgd fun K hK => ?_
  have hl : (loadCells ⟨g, off, none⟩ cs.length).run P w = .ok cs.toArray w :=
    run_loadCells_list (P := P) w ⟨g, off, none⟩ cs (fun j v hv => by
      have hadd : (⟨g, off, none⟩ : Addr).add j = ⟨g, off + j, none⟩ := by unfold Addr.add; split <;> simp_all
      rw [hadd]
      exact hc j v hv)
  have hrun : (loadVar ty ⟨g, off, none⟩).run P w = .ok (.agg cs.toArray) w := by
    cases hq : P.info? ty with
    | none => simp [hq] at hi
    | some i =>
      have hs : i.size = cs.length := by simpa [hq] using hi
      have hagg : (isAgg ty).run P w = .ok true w := by
        unfold isAgg
        rw [Sem.run_bind, run_underlying hu w]
        cases d <;> simp_all
      simp [loadVar, Sem.run_bind, hagg, sizeOf, typeInfo, hq, hs, hl]
  unfold Oper.wp execOp
  simp only [ho, hx, Instr.loadAt, Instr.sureAddr, Sem.run_bind, Sem.run_pure, Result.andThen_ok, hrun]
  exact hK _ _ h
end
end Go.Proofs.Ytmmhifomfbdfjaa
