/- From what a start reads ('DataW.Trod') to the kinds' readings. -/
import Derived.Test.YtnpjnekoifheoaaDoorKinds
import Derived.WalkKit
import Derived.ProofKit
import Derived.OpenShut
import Derived.ShutString
import Derived.Lib.SmallJoins
namespace Go.Proofs.YtnpjnekoifheoaaDoor
open Go Go.RowKit Go.Proofs.YtnpjnekoifheoaaDoorW.PrintWords Go.ChangeShapes Go.WideShapes
set_option linter.unusedVariables false
set_option maxRecDepth 100000

section
variable {H : Type} {enc : TypeId × Value → H} {w : World} {base : Nat} {spare : Nat → Bool} {held : Bool}

/-- A slice of a start, where each element's reading tells an element of the kind. -/
theorem row_read {α : Type} (d : Kd α) (G : α → Prop) {t e : TypeId} {fuel : Nat} {cs : List Value} {x : DataW H × List MemPlace} (ht : Tryd.prog.underlying t = some (.slice e)) (hc : Tryd.prog.cellsOf e = d.sz)
    (each : ∀ n < fuel, ∀ c y, DataW.trod enc Tryd.prog w base spare held n e c = some y → ∃ a, d.K w a c ∧ G a)
    (h : DataW.trod enc Tryd.prog w base spare held fuel t cs = some x) : ∃ A cap xs, cs = [.slice A xs.length cap] ∧ xs.length ≤ cap ∧ d.C w A xs.length xs ∧ ∀ a ∈ xs, G a := by
  rcases DataW.trod_slice ht h with ⟨h0, _⟩ | ⟨ad, len, cap, elems, rest, n, hf, rfl, rfl, hb, hl, hm, hlen, hel, _, _⟩
  · exact ⟨none, 0, [], h0, by simp, ⟨rfl, by simp, fun h => by simp at h⟩, fun _ h => by simp at h⟩
  have one : ∀ i : Fin len, ∃ a, ∃ c, c.length = d.sz ∧ d.K w a c ∧ G a ∧ ∀ j u, c[j]? = some u → w.cell? (ad.add (i.val * d.sz + j)) = some u := by
    intro i
    have hi : i.val < elems.length := by have := i.isLt; omega
    have q := hel i.val i.isLt
    rw [List.getElem?_eq_getElem hi] at q
    obtain ⟨c, h1, h2⟩ := Option.bind_eq_some_iff.1 q
    obtain ⟨_, hcl, hcell⟩ := World.cells?_some h1
    obtain ⟨a, hK, hG⟩ := each n (by omega) _ _ h2
    refine ⟨a, c, by rw [hcl, hc], hK, hG, fun j u hu => ?_⟩
    have hj : j < Tryd.prog.cellsOf e := by rw [← hcl]; exact (List.getElem?_eq_some_iff.1 hu).1
    have q := hcell j hj
    rw [hu, hc] at q
    rw [show ad.add (i.val * d.sz + j) = (ad.add (i.val * d.sz)).add j from (Addr.add_add ad _ _).symm]
    exact q
  refine ⟨some ad, cap, List.ofFn (fun i => (one i).choose), by simp, by simpa using hl, ⟨rfl, ?_, fun _ => ⟨ad, rfl, fun j p hj => ?_⟩⟩, fun a ha => ?_⟩
  · rw [List.length_ofFn]; have : maxLen = 9223372036854775807 := rfl; omega
  · obtain ⟨hlt, rfl⟩ := List.getElem?_eq_some_iff.1 hj
    rw [List.length_ofFn] at hlt
    rw [List.getElem_ofFn]
    obtain ⟨c, h1, h2, h3, h4⟩ := (one ⟨j, hlt⟩).choose_spec
    exact ⟨c, h1, h2, h4⟩
  · obtain ⟨i, rfl⟩ := (List.mem_ofFn).1 ha
    obtain ⟨c, h1, h2, h3, h4⟩ := (one i).choose_spec
    exact h3

theorem read_strings {t e : TypeId} {fuel : Nat} {cs : List Value} {x : DataW H × List MemPlace} (ht : Tryd.prog.underlying t = some (.slice e)) (he : Tryd.prog.underlying e = some .string) (hc : Tryd.prog.cellsOf e = 1)
    (h : DataW.trod enc Tryd.prog w base spare held fuel t cs = some x) : ∃ A cap xs, cs = [.slice A xs.length cap] ∧ xs.length ≤ cap ∧ Kd.string.C w A xs.length xs ∧ ∀ s ∈ xs, s.size ≤ 9223372036854775807 := by
  refine row_read Kd.string (fun s => s.size ≤ 9223372036854775807) ht hc (fun n _ c y hy => ?_) h
  obtain ⟨s, rfl, _, hs⟩ := DataW.trod_string he hy
  exact ⟨s, rfl, hs⟩

theorem read_bytes {t e : TypeId} {fuel : Nat} {cs : List Value} {x : DataW H × List MemPlace} (ht : Tryd.prog.underlying t = some (.slice e)) (he : Tryd.prog.underlying e = some (.int .u8)) (hc : Tryd.prog.cellsOf e = 1)
    (h : DataW.trod enc Tryd.prog w base spare held fuel t cs = some x) : ∃ A cap xs, cs = [.slice A xs.length cap] ∧ xs.length ≤ cap ∧ (Kd.int .u8).C w A xs.length xs ∧ ∀ n ∈ xs, 0 ≤ n ∧ n ≤ 255 := by
  refine row_read (Kd.int .u8) (fun n => 0 ≤ n ∧ n ≤ 255) ht hc (fun n _ c y hy => ?_) h
  obtain ⟨m, rfl, _, hm⟩ := DataW.trod_int he hy
  refine ⟨m, rfl, ?_⟩
  simp [Lit.wf] at hm
  have hmin : IntKind.u8.min = 0 := by decide
  have hmax : IntKind.u8.max = 255 := by decide
  omega

/-- All that is told of a value: its integers fit, its strings are no longer than a string can be; so for all that it holds. -/
inductive SVOk : SV → Prop where
  | mk (x : SV) : (-9223372036854775808 ≤ x.k ∧ x.k ≤ 9223372036854775807) → (-9223372036854775808 ≤ x.n ∧ x.n ≤ 9223372036854775807) → x.s.size ≤ 9223372036854775807 → (∀ y ∈ x.l, SVOk y) → SVOk x


set_option maxRecDepth 100000 in
theorem read_V : ∀ (fuel : Nat) (cs : List Value) (x : DataW H × List MemPlace), DataW.trod enc Tryd.prog w base spare held fuel 41 cs = some x → ∃ v : SV, kV.K w v cs ∧ SVOk v := by
  intro fuel
  induction fuel using Nat.strongRecOn with
  | _ fuel ih =>
    intro cs x h
    obtain ⟨ys, n, hf, _, hl, hlen, hfield⟩ := DataW.trod_struct Tryd.underlying41 h
    have hl4 : cs.length = 4 := hl
    match cs, hl4 with
    | [c0, c1, c2, c3], _ =>
      match ys, hlen with
      | [y0, y1, y2, y3], _ =>
        obtain ⟨k, e0, _, w0⟩ := DataW.trod_int Tryd.underlying3 (hfield 0 _ rfl)
        obtain ⟨m, e1, _, w1⟩ := DataW.trod_int Tryd.underlying2 (hfield 1 _ rfl)
        obtain ⟨s, e2, _, w2⟩ := DataW.trod_string Tryd.underlying9 (hfield 2 _ rfl)
        obtain ⟨A, cap, xs, e3, hle, hC, hG⟩ := row_read kV SVOk Tryd.underlying35 rfl (fun n' hn' c y hy => ih n' (by omega) c y hy) (hfield 3 _ rfl)
        cases e0
        cases e1
        cases e2
        cases e3
        refine ⟨⟨k, m, s, xs⟩, kV_mk w ⟨k, m, s, xs⟩ hle hC, ?_⟩
        simp [Lit.wf] at w0 w1
        have hmin : IntKind.i64.min = -9223372036854775808 := by decide
        have hmax : IntKind.i64.max = 9223372036854775807 := by decide
        exact SVOk.mk _ (by simp; omega) (by simp; omega) w2 hG
end
end Go.Proofs.YtnpjnekoifheoaaDoor
