/- Contracts of sqlx.BindMapArgs and impl.Bound at plain values. -/
import Derived.Test.YtnpjnekoifheoaaBind
import Derived.Test.YtnpjnekoifheoaaValueOf
namespace Go.Proofs.Ytnpjnekoifheoaa
open Go Go.RowKit Go.MapKept Go.Proofs.YtnpjnekoifheoaaW.PrintWords
set_option linter.unusedVariables false

theorem BindMapArgs_plain (asked : List ByteArray) (ps : List PI) (es : List (ByteArray × Value)) (b : Nat) (A : Option Addr) (c : Nat) (w : World) (hr : Kd.string.C w A asked.length asked) (hm : MapIs w b es)
    (hl : ps.length = asked.length) (ha : ∀ i, i < asked.length → look es (asked.getD i ⟨#[]⟩) = some (ps.getD i .nil).enc) (hlen : asked.length * 16 ≤ 140737488355328) :
    Calls Try.prog 17 #[.slice A asked.length c, .map (some b)] w fun e w' => ∃ v, e = .returned (.tuple #[v, .nilIface]) ∧ kPI.R 20 w' w.heap.size (fun _ => True) v ps ∧ Below w.heap.size w w' := by
  have HL := Lib.hid hl
  have HA := Lib.hid ha
  clear hl ha
  go_enter Try.func17, Try.ntmps17
  go_wp2_with (go_at_call 25; refine (bindMapArgs_plain asked ps es b _ _ _ hr hm HL.out HA.out hlen).mono ?_; rintro e w1 ⟨v, rfl, hv, hb1⟩; have HV := Aside0.mk hv; have HB := Aside0.mk hb1; clear hv hb1)
  go_ret2
  exact ⟨v, rfl, HV.out, HB.out⟩

theorem Bound_plain (asked : List ByteArray) (ps : List PI) (xs : List (ByteArray × PI)) (hn : (xs.map (·.1)).Nodup) (A B : Option Addr) (c d : Nat) (w : World) (hr : Kd.string.C w A asked.length asked) (hx : kA.C w B xs.length xs)
    (hl : ps.length = asked.length) (ha : ∀ i, i < asked.length → look (xs.map entry) (asked.getD i ⟨#[]⟩) = some (ps.getD i .nil).enc) (hlen : asked.length * 56 ≤ 140737488355328) :
    Calls Try.prog 9 #[.slice A asked.length c, .slice B xs.length d] w fun e w' => ∃ v, e = .returned (.tuple #[v, .bool true]) ∧ kPV.R 30 w' w.heap.size (fun _ => True) v ps ∧ Below w.heap.size w w' := by
  have HL := Lib.hid hl
  have HA := Lib.hid ha
  have HN := Lib.hid hn
  clear hl ha hn
  go_enter Try.func9, Try.ntmps9
  go_wp2_with (first | (go_at_call 16; refine (mapOf_plain xs HN.out _ _ _ hx).mono ?_; rintro e w1 ⟨rfl, hm, hb1⟩; have HM := Aside0.mk hm; have HB1 := Aside0.mk hb1; clear hm hb1) | (go_at_call 17; refine (BindMapArgs_plain asked ps _ w.heap.size _ _ _ (Kd.C_below hr HB1.out) HM.out HL.out HA.out (by omega)).mono ?_; rintro e w2 ⟨v, rfl, hv, hb2⟩; obtain ⟨C, f, rfl, hle, hC⟩ := Kd.R_reads hv; have HV := Aside0.mk hC; have HB2 := Aside0.mk hb2; clear hv hb2 hC) | (go_at_call 18; refine (valuesOf_plain ps _ _ _ HV.out (by have := HL.out; omega)).mono ?_; rintro e w3 ⟨v3, rfl, hv3, hb3⟩; have HV3 := Aside0.mk hv3; have HB3 := Aside0.mk hb3; clear hv3 hb3))
  go_ret2
  have hs2 := HB2.out.size
  have hs1 := HB1.out.size
  exact ⟨v3, rfl, Kd.R_lower HV3.out (by omega), below_step (below_step HB1.out HB2.out) HB3.out⟩

end Go.Proofs.Ytnpjnekoifheoaa
