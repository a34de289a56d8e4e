/- Two rows of bytes of one call, apart; rows beside a string's iterator; zzAllowed. -/
import Derived.Test.YtnpjnekoifheoaaDoorCompM
import Derived.Test.YtnpjnekoifheoaaDoorRebind
import Derived.Lib.OthersKept
import Derived.Laws.RangeString
namespace Go.Proofs.YtnpjnekoifheoaaDoor
open Go Go.RowKit Go.Proofs.YtnpjnekoifheoaaDoorW.PrintWords
set_option linter.unusedVariables false
set_option maxRecDepth 100000

/-- The block of the one is not the block of the other. -/
def Sep (u v : Value) : Prop := ∀ k, u.ownBlock = some k → v.ownBlock ≠ some k
theorem Sep.symm {u v : Value} (h : Sep u v) : Sep v u := fun k h1 h2 => h k h2 h1
theorem B_mono {e : Nat} {w : World} {base : Nat} {ok : Nat → Prop} {v : Value} {l : List UInt8} (h : kB.R e w base (fun _ => True) v l) (ho : ∀ k, v.ownBlock = some k → ok k) : kB.R e w base ok v l := by
  have h1 := own_B h
  refine Kd.R_of_own ?_ ho
  rw [encs_bytes]
  exact h1
/-- Behind an append to v, u stands, and is apart still. -/
theorem two_grown {e base : Nat} {W w1 : World} {u v v1 : Value} {l : List UInt8} (hu : kB.R e W base (fun _ => True) u l) (hs : Sep v u) (hg : W.grownBy w1 v.ownBlock) (hat : v1.ownBlock = v.ownBlock ∨ ∃ b, v1.ownBlock = some b ∧ W.heap.size ≤ b) :
    kB.R e w1 base (fun _ => True) u l ∧ Sep v1 u := by
  have h1 : kB.R e W base (fun k => some k = u.ownBlock) u l := B_mono hu (fun k hk => hk.symm)
  refine ⟨Kd.R_mono (Kd.R_grown h1 hg (fun k hk he => ?_)) (fun _ _ => trivial), fun k hk he => ?_⟩
  · rw [hk] at he
    cases hv : v.ownBlock with
    | none => rw [hv] at he; rw [he] at hk; cases hk
    | some j => exact hs j hv (by rw [he, hv])
  · rcases hat with hat | ⟨b, hb, hle⟩
    · rw [hat] at hk; exact hs k hk he
    · rw [hb] at hk
      injection hk with hk
      have := Kd.R_lt hu k he
      omega
/-- A row that lies below is apart from one that is new. -/
theorem sep_new {e base : Nat} {W : World} {u : Value} {l : List UInt8} (hu : kB.R e W base (fun _ => True) u l) (n c : Nat) : Sep (.slice (some ⟨W.heap.size, 0, none⟩) n c) u := by
  intro k hk he
  have := Kd.R_lt hu k he
  simp [Value.ownBlock] at hk
  omega
/-- A row of one's own stays while a string's iterator moves on. -/
theorem R_iterAt {α : Type} {d : Kd α} {e : Nat} {w : World} {base : Nat} {v : Value} {xs : List α} (h : d.R e w base (fun _ => True) v xs) {k pos : Nat} {s : ByteArray} (hk : w.heap[k]? = some (.stringIter s pos)) (p' : Nat) : d.R e (w.iterAt k s p') base (fun _ => True) v xs := by
  refine Kd.R_mono (Kd.R_move (Kd.R_bound h) (fun j hj => ?_)) (fun _ _ => trivial)
  obtain ⟨_, _, _, q, hq, cells, hc⟩ := hj
  refine Lib.iterAt_other w k j s p' (fun e1 => ?_)
  subst e1
  rw [hk] at hc
  cases hc
theorem iter_below {w w1 : World} {k : Nat} {s : ByteArray} {pos : Nat} (h : w.heap[k]? = some (.stringIter s pos)) (hb : Below w.heap.size w w1) : w1.heap[k]? = some (.stringIter s pos) := by
  rw [hb.block k (Array.getElem?_eq_some_iff.1 h).1]
  exact h
/-- An iterator stays while a row of one's own is appended to. -/
theorem iter_grown {w w1 : World} {k : Nat} {s : ByteArray} {pos : Nat} (h : w.heap[k]? = some (.stringIter s pos)) {α : Type} {d : Kd α} {e b : Nat} {v : Value} {xs : List α} (hv : d.R e w b (fun _ => True) v xs) (hg : w.grownBy w1 v.ownBlock) : w1.heap[k]? = some (.stringIter s pos) := by
  rw [hg.block k (Array.getElem?_eq_some_iff.1 h).1 (fun he => ?_)]
  · exact h
  · obtain ⟨inner, ho⟩ := Kd.R_own hv
    obtain ⟨cells', hc'⟩ := own_typed ho k he.symm
    rw [h] at hc'
    cases hc'
theorem zzAllowed_is (c : Int) (w : World) (h0 : 0 ≤ c) (h1 : c ≤ 255) :
    Calls Tryd.prog 57 #[.int .u8 c] w fun e w' => e = .returned (.bool (alwI c)) ∧ w = w' := by
  go_enter Tryd.func57, Tryd.ntmps57
  go_wp2
  all_goals
    go_ret
    refine ⟨congrArg (fun b => Ending.returned (.bool b)) ?_, rfl⟩
    unfold alwI
    rw [Bool.eq_iff_iff, decide_eq_true_iff]
    simp only [ne_eq, Bool.false_eq_true, bne_iff_ne] at *
    first
      | omega
      | (rw [true_iff]; first | omega | simp)
      | (rw [false_iff]; first | omega | simp)
end Go.Proofs.YtnpjnekoifheoaaDoor
