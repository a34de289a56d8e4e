/- sqlx.Rebind. -/
import Derived.Test.YtnpjnekoifheoaaDoorIndex
import Derived.Test.YtnpjnekoifheoaaDoorLaws2
import Derived.Lib.AppendStr
import Derived.Laws.IdiomStrings
import Derived.Laws.BytesArg
import Derived.Lib.BufferRead
namespace Go.Proofs.YtnpjnekoifheoaaDoor
open Go Go.RowKit Go.Proofs.YtnpjnekoifheoaaDoorW.PrintWords
set_option linter.unusedVariables false
set_option maxRecDepth 100000

def encB (b : UInt8) : Value := .int .u8 b.toNat
theorem encB_one (b : UInt8) : (encB b).oneCell' = true := rfl
/-- A row of bytes. -/
def kB : Kd UInt8 := Kd.scalar encB encB_one
theorem infoB : (Tryd.prog.info? 5).map (fun i => (i.zero, i.size, i.bytes)) = some (some (.int .u8 0), 1, 1) := by kernel_rfl
theorem encs_bytes (l : List UInt8) : encs encB l = Lib.byteCells l := by
  induction l with
  | nil => rfl
  | cons a l ih => rfl
theorem own_B {e : Nat} {w : World} {base : Nat} {v : Value} {l : List UInt8} (h : kB.R e w base (fun _ => True) v l) : w.ownsRow base e 1 v l.length (Lib.byteCells l) := by
  have := Kd.own_of_R h
  rwa [encs_bytes] at this
theorem B_own {e : Nat} {w : World} {base : Nat} {v : Value} {l : List UInt8} (h : w.ownsRow base e 1 v l.length (Lib.byteCells l)) : kB.R e w base (fun _ => True) v l :=
  Kd.R_of_own (by rwa [encs_bytes]) (fun _ _ => trivial)
theorem convert_back {A : Option Addr} {w : World} {l : List UInt8} {c : Nat} (h : kB.C w A l.length l) : (convert 26 9 (.slice A l.length c)).run Tryd.prog w = .ok (.string ⟨l.toArray⟩) w := by
  cases A with
  | none =>
    have hn : l = [] := by
      cases l with
      | nil => rfl
      | cons a r =>
        obtain ⟨_, _, h3⟩ := h
        obtain ⟨ad, e, _⟩ := h3 (by simp)
        cases e
    subst hn
    exact Lib.run_convert_nil_bytes w _ _ 5 c Tryd.underlying26 Tryd.underlying5 Tryd.underlying9
  | some ad =>
    refine run_convert_bytes_back w _ _ 5 ad c l Tryd.underlying26 Tryd.underlying5 Tryd.underlying9 (fun j hj => ?_)
    obtain ⟨ad', ha, hc⟩ := at_S (enc := encB) (h1 := encB_one) h (0 : UInt8) j hj
    injection ha with ha
    subst ha
    rw [hc, List.getD_eq_getElem?_getD, List.getElem?_eq_getElem hj]
    rfl

/-- append(v, s...) of a text. -/
theorem wp_append_text {ops : Array Oper} {rest : List Oper} {o : Oper} {a : Act} {Q : Exit → Act → World → Prop} {W : World} (base : Nat) (hgd : o.guard = none) (sl x : Operand) (ho : o.op = .call { callee := .builtin .append, args := #[sl, x], argTypes := #[26, 9] })
    (v : Value) (l : List UInt8) (hs : a.eval sl = v) (hO : kB.R 5 W base (fun _ => True) v l) (s : ByteArray) (hx : a.eval x = .string s) (hl : l.length + s.size ≤ 140737488355328) (hb : base ≤ W.heap.size)
    (h : ∀ v' w', kB.R 5 w' base (fun _ => True) v' (l ++ s.data.toList) → Below base W w' → wpList Tryd.prog ops Q rest (a.put o.dst v') w') : wpList Tryd.prog ops Q (o :: rest) a W := by
  obtain ⟨i, hi, hz⟩ := Option.map_eq_some_iff.1 infoB
  simp only [Prod.mk.injEq] at hz
  obtain ⟨hz0, hz1, hz2⟩ := hz
  refine Lib.wpList_append_own_string W hgd sl x 26 9 ho base 5 i Tryd.underlying26 Tryd.underlying9 hi hz0 hz1 hz2 v l.length (Lib.byteCells l) hs (own_B hO) s hx (by unfold maxLen; omega) hl hb ?_
  intro v' w' h1 h2 _
  refine h v' w' (B_own ?_) ((Below.refl base W).grown h2 hb ?_)
  · rw [Lib.byteCells_append, List.length_append, ← Lib.size_eq]
    exact h1
  · intro k hk
    exact own_base (own_B hO) k hk
theorem reads_B (W : World) (g : Nat) (bs : List UInt8) (hb : W.heap[g]? = some (.cells (bs.map encB).toArray 5 (0, 0))) (hl : bs.length ≤ 1000) : kB.C W (some ⟨g, 0, none⟩) bs.length bs := by
  refine ⟨rfl, by omega, fun _ => ⟨_, rfl, fun j p hj => ⟨[encB p], rfl, rfl, fun i u hu => ?_⟩⟩⟩
  have hi : i = 0 := by have := (List.getElem?_eq_some_iff.1 hu).1; simp at this; exact this
  subst hi
  have hu' : encB p = u := by simpa using hu
  rw [Nat.add_zero, show j * kB.sz = j from Nat.mul_one j, add_plain, blk_cell hb, ← hu']
  simp [hj]
end Go.Proofs.YtnpjnekoifheoaaDoor
