/- Laws of the walk that name no program's numbers: a slice literal of one opaque element. -/
import Derived.Test.YtnpjnekoifheoaaDoorKinds
namespace Go.Proofs.YtnpjnekoifheoaaDoor
open Go Go.RowKit Go.Proofs.YtnpjnekoifheoaaDoorW.PrintWords
set_option linter.unusedVariables false
set_option maxRecDepth 100000

section
variable {P : Program} {ops : Array Oper} {rest : List Oper} {o : Oper} {a : Act} {Q : Exit → Act → World → Prop}

theorem run_buildOne (t e : TypeId) (z : Value) (bytes : Nat) (ht : P.underlying t = some (.slice e)) (hinfo : (P.info? e).map (fun i => (i.zero, i.size, i.bytes)) = some (some z, 1, bytes))
    (hz : z.cells = #[z]) (y : Value) (hy : y.cells = #[y]) (W : World) :
    (Instr.buildSlice t 1 #[(0, y)]).run P W = .ok (.slice (some ⟨W.heap.size, 0, none⟩) 1 1) (W.alloc (.cells #[y] e)) := by
  obtain ⟨i0, hi, hzz⟩ := Option.map_eq_some_iff.1 hinfo
  simp only [Prod.mk.injEq] at hzz
  obtain ⟨hz0, hz1, hz2⟩ := hzz
  simp [Instr.buildSlice, Sem.run_bind, run_underlying ht, sizeOf, typeInfo, zeroValue, hi, hz0, hz1, Instr.fill, hy, hz, newRow, newObj]
  have e : (Array.map (fun x => [z][x % 1]?.getD default) (Array.range 1)).setIfInBounds 0 y = #[y] := by
    apply Array.ext
    · simp
    · intro i h1 h2
      have h0 : i = 0 := by simp at h2; exact h2
      subst h0
      simp
  rw [e]
  rfl

/-- []T{x}, x one opaque cell. -/
theorem wpList_buildOne (hgd : o.guard = none) (x : Operand) (t e : TypeId) (z : Value) (bytes : Nat) (ho : o.op = .buildSlice t 1 #[(0, x)])
    (ht : P.underlying t = some (.slice e)) (hinfo : (P.info? e).map (fun i => (i.zero, i.size, i.bytes)) = some (some z, 1, bytes))
    (hz : z.cells = #[z]) (y : Value) (hx : a.eval x = y) (hy : y.cells = #[y]) {W : World}
    (h : wpList P ops Q rest (a.put o.dst (.slice (some ⟨W.heap.size, 0, none⟩) 1 1)) (W.alloc (.cells #[y] e))) : wpList P ops Q (o :: rest) a W := by
  refine wpList_plain hgd fun K hK => ?_
  unfold Oper.wp
  have := run_buildOne (P := P) t e z bytes ht hinfo hz y hy W
  simp only [execOp, ho, List.map_toArray, List.map_cons, List.map_nil, hx]
  simp only [Sem.run_bind, this, Result.andThen_ok]
  exact hK _ _ h
end
/-- It returned a bool, and a yes says P. -/
def SaysB (P : Prop) (e : Ending) : Prop := ∃ b, e = .returned (.bool b) ∧ (b = true → P)
theorem SaysB.mono {P Q : Prop} {e : Ending} (h : SaysB P e) (k : P → Q) : SaysB Q e := by
  obtain ⟨b, he, hb⟩ := h
  exact ⟨b, he, fun h => k (hb h)⟩

/-- make([]T, 0, n). -/
theorem run_makeCap {P : Program} (t e : TypeId) (z : Value) (size bytes : Nat) (ht : P.underlying t = some (.slice e)) (hinfo : (P.info? e).map (fun i => (i.zero, i.size, i.bytes)) = some (some z, size, bytes))
    (n : Nat) (hn : bytes * n ≤ 281474976710656) (h0 : 0 < bytes) (W : World) : (Instr.makeSlice t (.int .i64 0) (.int .i64 (n : Int))).run P W = .ok (.slice (some ⟨W.heap.size, 0, none⟩) 0 n) (W.alloc (.cells (madeCells z.cells (n * size)) e)) := by
  obtain ⟨i0, hi, hzz⟩ := Option.map_eq_some_iff.1 hinfo
  simp only [Prod.mk.injEq] at hzz
  obtain ⟨hz0, hz1, hz2⟩ := hzz
  have hle : n ≤ bytes * n := Nat.le_mul_of_pos_left n h0
  have := run_make (P := P) W t e i0 z ht hi hz0 .i64 .i64 0 (n : Int) (by omega) (by omega) (by rw [hz2, ← Int.natCast_mul]; omega) (by omega)
  simpa [hz1] using this
theorem R_cap {α : Type} (d : Kd α) (e : Nat) (w : World) (cur : Array Value) (n : Nat) (hn : n ≤ 9223372036854775807) (hc : cur.size = n * d.sz) : d.R e (w.alloc (.cells cur e)) w.heap.size (fun _ => True) (.slice (some ⟨w.heap.size, 0, none⟩) 0 n) [] := by
  refine ⟨fun _ _ => trivial, [], ⟨by simp, .inr ⟨w.heap.size, n, cur, rfl, Nat.le_refl _, heap_alloc_new w _, Nat.zero_le _, by unfold maxLen; omega, hc, by simp⟩⟩, by simp, fun j p h => by simp at h⟩
theorem take_snoc' {α : Type} (l : List α) (k : Nat) (h : k < l.length) (z : α) : l.take (k + 1) = l.take k ++ [l.getD k z] := by
  rw [List.take_succ_eq_append_getElem h, List.getD_eq_getElem?_getD, List.getElem?_eq_getElem h]; rfl
theorem map_getD (ps : List PI) (k : Nat) (h : k < ps.length) : (ps.map PI.sv).getD k zSV = (ps.getD k .nil).sv := by
  simp [List.getD_eq_getElem?_getD, List.getElem?_map, List.getElem?_eq_getElem h]
theorem PI.enc_cells (p : PI) : p.enc.cells = #[p.enc] := by cases p <;> rfl
end Go.Proofs.YtnpjnekoifheoaaDoor
