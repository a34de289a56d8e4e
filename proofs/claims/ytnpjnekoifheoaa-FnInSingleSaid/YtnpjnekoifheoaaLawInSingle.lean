/- PROVED: laws.FnInSingle returns true at every input, and each argument reads afterwards as it read before. Conditions: none beyond those of the given row. -/
import Derived.Test.YtnpjnekoifheoaaRows
import Derived.Test.YtnpjnekoifheoaaInSingle
import Derived.Test.YtnpjnekoifheoaaRead
import Derived.ChangeOld
import Derived.Below
import Derived.SizedLaws
import Derived.Lib.SmallJoins
namespace Go.Proofs.Ytnpjnekoifheoaa
open Go Go.RowKit Go.Proofs.YtnpjnekoifheoaaW.PrintWords Go.ChangeShapes Go.WideShapes Go.ChangeAt
open Go.Joins
open Go.ChangeMaps (open_string shut_string)
set_option linter.unusedVariables false
namespace fnInSingle
theorem own : ownKnob Try.prog.godebug = none := by kernel_rfl
theorem laidOut : laidOutB Try.prog = true := by kernel_rfl
set_option maxRecDepth 100000 in
theorem lifted (os : Os) (started : os.Started) (H : Type) (enc : TypeId × Value → H) :
    ReturnsInHanded {} Try.checked os 5 .any (Rows.fnInSingleSpec.pre6 enc Try.prog Try.f5 Rows.fnInSingleRow.domain false) (Rows.fnInSingleSpec.post enc Try.prog Try.f5 false true false false) := by
  refine returnsInHanded_of_change_sized (C := Try.checked) own started (by kernel_rfl) Try.func5
    (ChangeSpec.witness6 (enc := enc) (C := Try.checked) false ⟨#[], #[.string ByteArray.empty, .string ByteArray.empty, .agg #[.int .i64 0, .int .i64 0, .string ByteArray.empty, .slice none 0 0], .agg #[.int .i64 0, .int .i64 0, .string ByteArray.empty, .slice none 0 0]], []⟩ 8 (by kernel_rfl) (by kernel_rfl) (by kernel_rfl) (by kernel_rfl)) ?_
  intro W base args ds gs before hval0 hW hcnd hsz0 _
  have hval : ∀ (j : Nat) t v, Try.f5.params[j]? = some t → args[j]? = some v → Value.okWide Try.prog W .any base t v := hval0
  have hW' := hW
  obtain ⟨p, q, hA0, hV, rfl, hfz, hnd⟩ := hW
  have hA : DataW.TrodAll enc Try.prog W 0 (fun _ => true) true Try.f5.params.toList args.toList ds p := hA0
  rw [Try.params5] at hA hval
  obtain ⟨v0, vs0, d0, ds0, p0, q0, hargs, rfl, rfl, h0, r0⟩ := trodAll_cons hA
  obtain ⟨v1, vs1, d1, ds1, p1, q1, rfl, rfl, rfl, h1, r1⟩ := trodAll_cons r0
  obtain ⟨v2, vs2, d2, ds2, p2, q2, rfl, rfl, rfl, h2, r2⟩ := trodAll_cons r1
  obtain ⟨v3, vs3, d3, ds3, p3, q3, rfl, rfl, rfl, h3, r3⟩ := trodAll_cons r2
  obtain ⟨rfl, rfl, rfl⟩ := trodAll_nil r3
  obtain rfl : args = #[v0, v1, v2, v3] := by cases args; simp_all
  obtain ⟨rfl, rfl⟩ := trodVars_none hV
  obtain ⟨a0, rfl, rfl, rfl, y0⟩ := open_string Try.underlying9 (hval 0 9 v0 rfl rfl) h0
  obtain ⟨a1, rfl, rfl, rfl, y1⟩ := open_string Try.underlying9 (hval 1 9 v1 rfl rfl) h1
  obtain ⟨cs2, hv2, hz2⟩ := okWide_struct Try.underlying30 (hval 2 30 v2 rfl rfl)
  obtain ⟨cs3, hv3, hz3⟩ := okWide_struct Try.underlying30 (hval 3 30 v3 rfl rfl)
  subst hv2
  subst hv3
  have k2 := h2
  have k3 := h3
  have lt2 : ∀ x ∈ p2, x.block < W.heap.size := by obtain ⟨m, hm⟩ := k2; exact DataW.trod_lt m _ _ _ hm
  have lt3 : ∀ x ∈ p3, x.block < W.heap.size := by obtain ⟨m, hm⟩ := k3; exact DataW.trod_lt m _ _ _ hm
  obtain ⟨g2, h2⟩ := h2
  obtain ⟨g3, h3⟩ := h3
  obtain ⟨x, hK2, hS2⟩ := read_V g2 _ _ h2
  obtain ⟨y, hK3, hS3⟩ := read_V g3 _ _ h3
  obtain ⟨A2, c2, e2, le2, hC2⟩ := kV_open hK2
  obtain ⟨A3, c3, e3, le3, hC3⟩ := kV_open hK3
  have e2' : cs2 = #[.int .i64 x.k, .int .i64 x.n, .string x.s, .slice A2 x.l.length c2] := by
    apply Array.toList_inj.1
    simpa [Value.cells] using e2
  have e3' : cs3 = #[.int .i64 y.k, .int .i64 y.n, .string y.s, .slice A3 y.l.length c3] := by
    apply Array.toList_inj.1
    simpa [Value.cells] using e3
  subst e2'
  subst e3'
  clear hA0 hval0 hsz0
  refine (inSingle_walk a0 a1 x y A2 A3 c2 c3 W y0 y1 hC2 hC3 le2 le3).mono fun e W' ⟨he, bel⟩ => ?_
  subst he
  exact ⟨_, rfl, _, _, _, [], _, [], hW', trodAll_mk1 (shut_bool Try.underlying4 _), (trodAll_cons_mk (shut_string Try.underlying9 y0) (trodAll_cons_mk (shut_string Try.underlying9 y1) (trodAll_cons_mk (Below.trod laidOut (by kernel_rfl) (of_decide_eq_true (by kernel_rfl)) k2 bel lt2) (trodAll_cons_mk (Below.trod laidOut (by kernel_rfl) (of_decide_eq_true (by kernel_rfl)) k3 bel lt3) trodAll_mk0)))), rfl, bel.frame _, fun h => by cases h⟩
theorem over : Rows.fnInSingleRow.holds Try.pinned (OpenSpec.ofChange Rows.fnInSingleSpec) :=
  OpenClaim.holds_of_wide 5 Try.f5 rfl rfl rfl rfl rfl rfl rfl ⟨rfl, rfl, rfl, rfl, rfl⟩ rfl rfl rfl rfl rfl (by kernel_rfl) Try.func5 (by kernel_rfl)
    (of_decide_eq_true (by kernel_rfl)) (by unfold Func.isWrapper; first | (rw [if_pos (by decide +kernel)]; kernel_rfl) | (rw [if_neg (by decide +kernel)]; exact ⟨rfl, rfl⟩))
    (fun os started H enc _ => lifted os started H enc)
end fnInSingle
theorem fnInSingle_holds : Rows.FnInSingleSaid := fnInSingle.over
end Go.Proofs.Ytnpjnekoifheoaa
