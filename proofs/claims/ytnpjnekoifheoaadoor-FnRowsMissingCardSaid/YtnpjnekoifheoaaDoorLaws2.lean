/- More laws of the walk that name no program's numbers. -/
import Derived.Test.YtnpjnekoifheoaaDoorLaws
namespace Go.Proofs.YtnpjnekoifheoaaDoor
open Go Go.RowKit Go.Proofs.YtnpjnekoifheoaaDoorW.PrintWords
set_option linter.unusedVariables false
set_option maxRecDepth 100000

/-- []T{x}, x's cells told. -/
theorem R_lit1 {α : Type} (d : Kd α) (e : Nat) (W : World) (base : Nat) (hb : base ≤ W.heap.size) (x : α) (cs : List Value) (hM : ∀ W', d.M W' base (fun _ => False) x cs) :
    d.R e (W.alloc (.cells cs.toArray e)) base (fun _ => True) (.slice (some ⟨W.heap.size, 0, none⟩) 1 1) [x] := by
  have hl : cs.length = d.sz := d.K_len (d.K_of_M (hM W))
  refine ⟨fun _ _ => trivial, cs, ⟨by simp [hl], .inr ⟨W.heap.size, 1, cs.toArray, rfl, hb, heap_alloc_new W _, Nat.le_refl _, by unfold maxLen; omega, by simp [hl], ?_⟩⟩, by simp [hl], fun j p h => ?_⟩
  · show cs.take (1 * d.sz) = cs
    rw [Nat.one_mul, ← hl]
    exact List.take_length
  · match j, h with
    | 0, h =>
      simp at h
      subst h
      have e1 : (cs.drop (0 * d.sz)).take d.sz = cs := by rw [Nat.zero_mul, List.drop_zero, ← hl]; exact List.take_length
      rw [e1]
      exact d.M_mono (fun _ hk => hk.elim) (hM _)
    | j + 1, h => simp at h
theorem zip_getD (names : List ByteArray) (ps : List PI) (k : Nat) (h1 : k < names.length) (h2 : k < ps.length) : (names.zip ps).getD k (⟨#[]⟩, .nil) = (names.getD k ⟨#[]⟩, ps.getD k .nil) := by
  simp only [List.getD_eq_getElem?_getD]
  rw [List.getElem?_eq_getElem (by simp; omega), List.getElem?_eq_getElem h1, List.getElem?_eq_getElem h2]
  simp
/-- A row of one's own stays while another one, whose elements are of another type, is appended to. -/
theorem R_past {α : Type} {d : Kd α} {e : Nat} {w w1 : World} {base : Nat} {v : Value} {xs : List α} (h : d.R e w base (fun _ => True) v xs) {β : Type} {d' : Kd β} {e' b' : Nat} {ok' : Nat → Prop} {u : Value} {ys : List β} (hu : d'.R e' w b' ok' u ys)
    (hg : w.grownBy w1 u.ownBlock) (ht : ∀ q, q ∈ e :: d.E → q ≠ e') : d.R e w1 base (fun _ => True) v xs := by
  refine Kd.R_mono (Kd.R_grown (ok := fun k => True ∧ some k ≠ u.ownBlock) ?_ hg (fun k hk => hk.2)) (fun _ _ => trivial)
  refine Kd.R_mono (Kd.R_bound h) (fun k hk => ⟨trivial, fun he => ?_⟩)
  obtain ⟨_, _, _, q, hq, cells, hc⟩ := hk
  obtain ⟨inner, ho⟩ := Kd.R_own hu
  obtain ⟨cells', hc'⟩ := own_typed ho k he.symm
  rw [hc] at hc'
  injection hc' with hc'
  injection hc' with _ hc'
  exact ht q hq hc'
/-- A block that is no row of one's own stays while that one is appended to: it is new. -/
theorem blk_past {w0 w w1 : World} {g : Nat} {o : Obj} (h : w.heap[g]? = some o) (hg0 : w0.heap.size ≤ g) {β : Type} {d' : Kd β} {e' b' : Nat} {ok' : Nat → Prop} {u : Value} {ys : List β} (hu : d'.R e' w0 b' ok' u ys)
    (hg : w.grownBy w1 u.ownBlock) : w1.heap[g]? = some o := by
  refine blk_grown h hg (fun he => ?_)
  obtain ⟨inner, ho⟩ := Kd.R_own hu
  have := own_lt ho g he.symm
  omega
/-- A literal of one element, read. -/
theorem reads_lit1 {α : Type} (Rr : α → List Value → Prop) (W : World) (g t : Nat) (cs : List Value) (x : α) (hb : W.heap[g]? = some (.cells cs.toArray t (0, 0))) (hx : Rr x cs) : ReadsRow Rr cs.length W (some ⟨g, 0, none⟩) 1 [x] := by
  refine ⟨rfl, by omega, fun _ => ⟨_, rfl, fun j p h => ?_⟩⟩
  match j, h with
  | 0, h =>
    simp at h
    subst h
    refine ⟨cs, rfl, hx, fun i u hu => ?_⟩
    rw [Nat.zero_mul, Nat.zero_add, add_plain, blk_cell hb]
    simpa using hu
  | j + 1, h => simp at h
theorem blk_new' (w : World) (o : Obj) (g : Nat) (hg : w.heap.size = g) : (w.alloc o).heap[g]? = some o := by subst hg; exact blk_new w o
/-- A literal of two elements, read. -/
theorem reads_lit2 {α : Type} (d : Kd α) (W : World) (g t : Nat) (c1 c2 : List Value) (x1 x2 : α) (hb : W.heap[g]? = some (.cells (c1 ++ c2).toArray t (0, 0))) (h1 : d.K W x1 c1) (h2 : d.K W x2 c2) : d.C W (some ⟨g, 0, none⟩) 2 [x1, x2] := by
  have l1 := d.K_len h1
  have l2 := d.K_len h2
  refine ⟨rfl, by omega, fun _ => ⟨_, rfl, fun j p h => ?_⟩⟩
  match j, h with
  | 0, h =>
    simp at h
    subst h
    refine ⟨c1, l1, h1, fun i u hu => ?_⟩
    have hi := (List.getElem?_eq_some_iff.1 hu).1
    rw [Nat.zero_mul, Nat.zero_add, add_plain, blk_cell hb]
    simp [List.getElem?_append_left hi, hu]
  | 1, h =>
    simp at h
    subst h
    refine ⟨c2, l2, h2, fun i u hu => ?_⟩
    rw [Nat.one_mul, add_plain, blk_cell hb, ← l1]
    simp [List.getElem?_append_right (Nat.le_add_right _ _), hu]
  | j + 2, h => simp at h
end Go.Proofs.YtnpjnekoifheoaaDoor
