/- The strings.Builder that a call has made itself: what it holds, and how it stays. -/
import Derived.Test.YtnpjnekoifheoaaDoorShelf
import Derived.Test.YtnpjnekoifheoaaDoorLaws2
namespace Go.Proofs.YtnpjnekoifheoaaDoor
open Go Go.RowKit Go.Proofs.YtnpjnekoifheoaaDoorW.PrintWords
set_option linter.unusedVariables false
set_option maxRecDepth 100000

def Bld (b : Nat) (l : List UInt8) (w : World) : Prop := Lib.IsBuilderF 94 5 b b (Lib.byteCells l) w
/-- Its blocks stand: it stands. -/
theorem Bld.move {b : Nat} {l : List UInt8} {w w1 : World} (h : Bld b l w) (hm : ∀ (k : Nat) (c : Array Value) (T : TypeId) (fz : Nat × Nat), w.heap[k]? = some (Obj.cells c T fz) → (T = 94 ∨ T = 5) → w1.heap[k]? = w.heap[k]?) : Bld b l w1 := by
  have one : ∀ p, Lib.BuilderAtF 94 5 b b p (Lib.byteCells l) w → Lib.BuilderAtF 94 5 b b p (Lib.byteCells l) w1 := by
    rintro p ⟨hB, v, hb, ⟨hlen, ho⟩, hne⟩
    refine ⟨hB, v, (hm _ _ _ _ hb (.inl rfl)).trans hb, ⟨hlen, ?_⟩, hne⟩
    rcases ho with h0 | ⟨g, cap, cur, fz, rfl, hbg, hg, hr⟩
    · exact .inl h0
    · exact .inr ⟨g, cap, cur, fz, rfl, hbg, (hm _ _ _ _ hg (.inr rfl)).trans hg, hr⟩
  exact h.elim (fun x => .inl (one _ x)) (fun x => .inr (one _ x))
theorem Bld.below {b : Nat} {l : List UInt8} {w w1 : World} (h : Bld b l w) (hb : Below w.heap.size w w1) : Bld b l w1 :=
  h.move fun k c T fz hk _ => hb.block k (Array.getElem?_eq_some_iff.1 hk).1
/-- A row of other elements is appended to. -/
theorem Bld.past {b : Nat} {l : List UInt8} {w w1 : World} (h : Bld b l w) {β : Type} {d : Kd β} {e b' : Nat} {ok : Nat → Prop} {u : Value} {ys : List β} (hu : d.R e w b' ok u ys) (hg : w.grownBy w1 u.ownBlock)
    (he : e ≠ 94 ∧ e ≠ 5) : Bld b l w1 := by
  refine h.move fun k c T fz hk hT => hg.block k (Array.getElem?_eq_some_iff.1 hk).1 (fun hq => ?_)
  obtain ⟨inner, ho⟩ := Kd.R_own hu
  obtain ⟨cells', hc'⟩ := own_typed ho k hq.symm
  rw [hk] at hc'
  injection hc' with hc'
  injection hc' with _ hc'
  rcases hT with hT | hT
  · exact he.1 (hc'.symm.trans hT)
  · exact he.2 (hc'.symm.trans hT)
/-- A row of one's own, of other elements, stays while it is written. -/
theorem R_builder {α : Type} {d : Kd α} {e : Nat} {w w1 : World} {base b : Nat} {v : Value} {xs : List α} (h : d.R e w base (fun _ => True) v xs) {l : List UInt8} (hb : Bld b l w) (hk : Lib.OthersKept 5 (some b) w w1)
    (ht : ∀ q, q ∈ e :: d.E → q ≠ 5 ∧ q ≠ 94) : d.R e w1 base (fun _ => True) v xs := by
  have hbb : ∃ c fz, w.heap[b]? = some (.cells c 94 fz) := by
    rcases hb with ⟨_, v, h1, _⟩ | ⟨_, v, h1, _⟩
    · exact ⟨_, _, h1⟩
    · exact ⟨_, _, h1⟩
  obtain ⟨c0, fz0, hbb⟩ := hbb
  refine Kd.R_mono (Kd.R_move (Kd.R_bound h) (fun k hk1 => ?_)) (fun _ _ => trivial)
  obtain ⟨_, _, _, q, hq, cells, hc⟩ := hk1
  rw [hk k _ hc (fun e1 => ?_) (fun c fz e1 => ?_)]
  · exact hc.symm
  · injection e1 with e1
    subst e1
    rw [hc] at hbb
    injection hbb with hbb
    injection hbb with _ hbb
    exact (ht q hq).2 hbb
  · injection e1 with _ e1
    exact (ht q hq).1 e1
theorem blk_builder {b g : Nat} {w w1 : World} {c : Array Value} {T : Nat} {fz : Nat × Nat} (h : w.heap[g]? = some (.cells c T fz)) (hk : Lib.OthersKept 5 (some b) w w1) (hT : T ≠ 5) (hg : g ≠ b) : w1.heap[g]? = some (.cells c T fz) :=
  hk g _ h (fun e1 => hg (Option.some.inj e1)) (fun c fz e1 => by injection e1 with _ e1; exact hT e1)

/-- var b strings.Builder; b.Grow(n). -/
theorem Grow_new (W : World) (b : Nat) (hb : W.heap.size = b) (n : Int) (h0 : 0 ≤ n) (h1 : n ≤ 281474976710656) :
    Calls Tryd.prog 48 #[.pointer (some ⟨b, 0, none⟩), .int .i64 n] (W.alloc (.cells #[.pointer none, .slice none 0 0] 94)) fun e w' => e = .returned (.tuple #[]) ∧ Bld b [] w' ∧ Below b W w' := by
  obtain ⟨m, rfl⟩ := Int.eq_ofNat_of_zero_le h0
  refine (Tryd.Builder_Grow_fresh b b m _ (Nat.le_refl _) (blk_new' _ _ _ hb) (by subst hb; simp) (by omega)).mono ?_
  rintro e w' ⟨rfl, h2, h3⟩
  refine ⟨rfl, .inr (Lib.BuilderAtF.of h2), ?_⟩
  subst hb
  exact (below_alloc (Below.refl _ _) _).trans h3
theorem WriteString_at (b : Nat) (l : List UInt8) (s : ByteArray) (w : World) (h : Bld b l w) (hl : l.length + s.size ≤ 140737488355328) (hb : b ≤ w.heap.size) :
    Calls Tryd.prog 50 #[.pointer (some ⟨b, 0, none⟩), .string s] w fun e w' => e = .returned (.tuple #[.int .i64 s.size, .nilIface]) ∧ Bld b (l ++ s.data.toList) w' ∧ Below b w w' ∧ Lib.OthersKept 5 (some b) w w' := by
  refine (Tryd.Builder_WriteString_k b b _ s w h (by rw [Lib.byteCells_length]; exact hl) hb).mono ?_
  rintro e w' ⟨rfl, h2, h3, h4⟩
  rw [Lib.strCells_eq, ← Lib.byteCells_append] at h2
  exact ⟨rfl, .inr h2, h3, h4⟩
theorem String_at (b : Nat) (l : List UInt8) (w : World) (h : Bld b l w) (hb : b ≤ w.heap.size) :
    Calls Tryd.prog 52 #[.pointer (some ⟨b, 0, none⟩)] w fun e w' => e = .returned (.string ⟨l.toArray⟩) ∧ Below b w w' ∧ Lib.OthersKept 5 (some b) w w' := by
  refine (Tryd.Builder_String_any_k b b l w h hb).mono ?_
  rintro e w' ⟨rfl, _, h3, h4⟩
  exact ⟨rfl, h3, h4⟩
end Go.Proofs.YtnpjnekoifheoaaDoor
