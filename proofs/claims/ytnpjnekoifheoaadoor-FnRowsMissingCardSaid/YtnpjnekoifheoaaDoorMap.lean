/- Maps from strings that the call makes, as lists of entries in the order of their coming; the look-up with ok, the store of a new key. Errors of package errors. -/
import Derived.Test.YtnpjnekoifheoaaDoorLaws
import Derived.MapKept
import Derived.Maps.OwnOps
namespace Go.Proofs.YtnpjnekoifheoaaDoor
open Go Go.RowKit Go.MapKept Go.Proofs.YtnpjnekoifheoaaDoorW.PrintWords
set_option linter.unusedVariables false
set_option maxRecDepth 100000

/-- Block b is a map with these entries, in the order of their coming. -/
def MapIs (w : World) (b : Nat) (es : List (ByteArray × Value)) : Prop :=
  ∃ arr clock, w.heap[b]? = some (.map arr clock) ∧ arr.toList.map (fun e => (e.key, e.val)) = es.map (fun x => (Value.string x.1, x.2))

/-- The value at a key. -/
noncomputable def look : List (ByteArray × Value) → ByteArray → Option Value
  | [], _ => none
  | x :: r, s => @ite _ (x.1 = s) (Classical.propDecidable _) (some x.2) (look r s)

theorem look_append (es fs : List (ByteArray × Value)) (s : ByteArray) : look (es ++ fs) s = (look es s).or (look fs s) := by
  induction es with
  | nil => simp [look]
  | cons x r ih =>
    simp only [List.cons_append, look]
    split
    · simp
    · exact ih
theorem look_none {es : List (ByteArray × Value)} {s : ByteArray} (h : ∀ x ∈ es, x.1 ≠ s) : look es s = none := by
  induction es with
  | nil => rfl
  | cons x r ih =>
    simp only [look]
    rw [if_neg (h x (List.mem_cons_self ..))]
    exact ih fun y hy => h y (List.mem_cons_of_mem _ hy)
theorem look_some {es : List (ByteArray × Value)} (hn : (es.map (·.1)).Nodup) {x : ByteArray × Value} (hx : x ∈ es) : look es x.1 = some x.2 := by
  induction es with
  | nil => cases hx
  | cons y r ih =>
    simp only [look]
    rw [List.map_cons, List.nodup_cons] at hn
    rcases List.mem_cons.1 hx with rfl | hx
    · rw [if_pos rfl]
    · rw [if_neg (fun e => hn.1 (by rw [e]; exact List.mem_map_of_mem hx))]
      exact ih hn.2 hx

theorem findNow_look (s : ByteArray) : ∀ (l : List MapEntry) (es : List (ByteArray × Value)) (i : Nat), l.map (fun e => (e.key, e.val)) = es.map (fun x => (Value.string x.1, x.2)) →
    (look es s = none ∧ Instr.findNow .string (.string s) l i = some none) ∨ ∃ v j, look es s = some v ∧ Instr.findNow .string (.string s) l i = some (some (j, v))
  | [], [], i, _ => .inl ⟨rfl, rfl⟩
  | [], _ :: _, i, h => by simp at h
  | _ :: _, [], i, h => by simp at h
  | e :: l, x :: es, i, h => by
    simp only [List.map_cons, List.cons.injEq, Prod.mk.injEq] at h
    obtain ⟨⟨hk, hv⟩, hr⟩ := h
    simp only [look, Instr.findNow, hk, Instr.sameNow]
    by_cases hs : x.1 = s
    · rw [if_pos hs]
      have : (s == x.1) = true := (bytes_beq _ _).2 hs.symm
      rw [this]
      exact .inr ⟨_, i, rfl, by rw [hv]⟩
    · rw [if_neg hs]
      have : (s == x.1) = false := by
        cases hb : (s == x.1) with
        | false => rfl
        | true => exact absurd ((bytes_beq _ _).1 hb).symm hs
      rw [this]
      exact findNow_look s l es (i + 1) hr

section
variable {P : Program} {w w1 : World} {b : Nat} {es : List (ByteArray × Value)}
theorem MapIs.lt (h : MapIs w b es) : b < w.heap.size := by
  obtain ⟨arr, clock, hb, _⟩ := h
  exact blk_lt hb
theorem MapIs.below (h : MapIs w b es) (hb : Below w.heap.size w w1) : MapIs w1 b es := by
  obtain ⟨arr, clock, h1, h2⟩ := h
  exact ⟨arr, clock, blk_below h1 hb, h2⟩
theorem MapIs.grown (h : MapIs w b es) {row : Option Nat} (hg : w.grownBy w1 row) (hne : some b ≠ row) : MapIs w1 b es := by
  obtain ⟨arr, clock, h1, h2⟩ := h
  exact ⟨arr, clock, blk_grown h1 hg hne, h2⟩
theorem MapIs.made (w : World) : MapIs (w.alloc (.map #[] 0)) w.heap.size [] := ⟨#[], 0, heap_alloc_new w _, rfl⟩

theorem run_lookup_is {t k e : TypeId} (ht : P.underlying t = some (.map k e)) (hk : P.underlying k = some .string) {z : Value} (hz : (zeroValue e).run P w = .ok z w) (h : MapIs w b es) (s : ByteArray) :
    (Instr.lookup t (.map (some b)) (.string s) true).run P w = .ok (.tuple #[(look es s).getD z, .bool (look es s).isSome]) w := by
  obtain ⟨arr, clock, hb, he⟩ := h
  have hkey : IsKey .string (.string s) := trivial
  rcases findNow_look s arr.toList es 0 he with ⟨h1, h2⟩ | ⟨v, j, h1, h2⟩
  · rw [h1]
    simp [Instr.lookup, run_underlying ht, MapKept.run_getObj_map hb, MapKept.run_checkKey hk hkey, MapKept.run_findKey hk h2, hz, Result.andThen]
  · rw [h1]
    simp [Instr.lookup, run_underlying ht, MapKept.run_getObj_map hb, MapKept.run_checkKey hk hkey, MapKept.run_findKey hk h2, Result.andThen]

theorem run_update_new {t k e : TypeId} (ht : P.underlying t = some (.map k e)) (hk : P.underlying k = some .string) (h : MapIs w b es) (s : ByteArray) (v : Value) (hn : look es s = none) :
    ∃ w', (Instr.mapUpdate t (.map (some b)) (.string s) v).run P w = .ok () w' ∧ MapIs w' b (es ++ [(s, v)]) ∧ w.grownBy w' (some b) := by
  obtain ⟨arr, clock, hb, he⟩ := h
  have hkey : IsKey .string (.string s) := trivial
  rcases findNow_look s arr.toList es 0 he with ⟨h1, h2⟩ | ⟨v', j, h1, h2⟩
  · refine ⟨{ w with heap := w.heap.setIfInBounds b (.map (arr.push { key := .string s, val := v, born := clock }) (clock + 1)) }, ?_, ⟨_, _, (heap_set hb).1, ?_⟩, ⟨rfl, rfl, rfl, by simp, fun i _ hi => (heap_set hb).2 i (fun e => hi (by rw [e]))⟩⟩
    · simp [Instr.mapUpdate, run_underlying ht, MapKept.run_getObj_map hb, MapKept.run_checkKey hk hkey, MapKept.run_findKey hk h2, MapKept.run_setObj_map _ hb, Result.andThen]
    · simp [he]
  · rw [h1] at hn
    cases hn
end
section
variable {P : Program} {ops : Array Oper} {rest : List Oper} {o : Oper} {a : Act} {Q : Exit → Act → World → Prop}
/-- 'v, ok := m[s]', behind 'at_lookup'. -/
theorem wpList_lookup_is {w : World} (hg : o.guard = none) (m x : Operand) (t k e : TypeId) (hop : o.op = Op.lookup t m x true) (ht : P.underlying t = some (.map k e)) (hk : P.underlying k = some .string)
    {z : Value} (hz : ∀ W, (zeroValue e).run P W = .ok z W) (b : Nat) (es : List (ByteArray × Value)) (s : ByteArray) (hm : a.eval m = .map (some b)) (hx : a.eval x = .string s) (h : MapIs w b es)
    (hK : wpList P ops Q rest (a.put o.dst (.tuple #[(look es s).getD z, .bool (look es s).isSome])) w) : wpList P ops Q (o :: rest) a w := by
  refine wpList_plain hg fun K' hK' => ?_
  unfold Oper.wp
  simp only [execOp, hop, hm, hx]
  simp only [Sem.run_bind, run_lookup_is ht hk (hz w) h s, Result.andThen_ok]
  exact hK' _ _ hK
/-- 'm[s] = v', s a new key; behind 'at_mapUpdate'. -/
theorem wpList_update_new {w : World} (hg : o.guard = none) (m x v : Operand) (t k e : TypeId) (hop : o.op = Op.mapUpdate t m x v) (ht : P.underlying t = some (.map k e)) (hk : P.underlying k = some .string)
    (b : Nat) (es : List (ByteArray × Value)) (s : ByteArray) (u : Value) (hm : a.eval m = .map (some b)) (hx : a.eval x = .string s) (hv : a.eval v = u) (h : MapIs w b es) (hn : look es s = none)
    (hK : ∀ w', MapIs w' b (es ++ [(s, u)]) → w.grownBy w' (some b) → wpList P ops Q rest (a.put o.dst undef) w') : wpList P ops Q (o :: rest) a w := by
  refine wpList_plain hg fun K' hK' => ?_
  obtain ⟨w', hrun, r1, r2⟩ := run_update_new (P := P) ht hk h s u hn
  unfold Oper.wp
  simp [execOp, hop, hm, hx, hv, hrun, Result.andThen]
  exact hK' _ _ (hK w' r1 r2)
end

/-- errors.New: an error that is not nil. -/
theorem errorsNew (s : ByteArray) (w : World) :
    Calls Tryd.prog 47 #[.string s] w fun e w' => e = .returned (.iface 103 (.pointer (some ⟨w.heap.size, 0, none⟩))) ∧ Below w.heap.size w w' := by
  go_enter Tryd.func47, Tryd.ntmps47
  go_wp2
  go_ret
  exact ⟨rfl, by repeat (first | exact Below.refl _ _ | apply below_alloc | apply below_set)⟩

end Go.Proofs.YtnpjnekoifheoaaDoor
