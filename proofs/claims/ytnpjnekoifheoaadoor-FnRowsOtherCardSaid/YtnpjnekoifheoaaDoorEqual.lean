/- Contracts of spec.EqualValue and spec.EqualValues: two readings of the same plain values are equal. -/
import Derived.Test.YtnpjnekoifheoaaDoorLaws
import Derived.StillTailTactics
namespace Go.Proofs.YtnpjnekoifheoaaDoor
open Go Go.RowKit Go.Proofs.YtnpjnekoifheoaaDoorW.PrintWords
set_option linter.unusedVariables false
set_option maxRecDepth 100000

theorem equalValues_nil (A B : Option Addr) (c d : Nat) (w : World) :
    Calls Tryd.prog 31 #[.slice A 0 c, .slice B 0 d] w fun e w' => e = .returned (.bool true) ∧ Below w.heap.size w w' := by
  go_enter Tryd.func31, Tryd.ntmps31
  go_wp2
  refine wp_loop_rounds 1 ?_
  rw [rounds_succ]
  go_wp2
  go_ret
  exact ⟨rfl, Below.refl _ _⟩

theorem equalValue_plain (p : PI) (A B : Option Addr) (c d : Nat) (w : World) :
    Calls Tryd.prog 26 #[.agg #[.int .i64 p.k, .int .i64 p.n, .string p.s, .slice A 0 c], .agg #[.int .i64 p.k, .int .i64 p.n, .string p.s, .slice B 0 d]] w fun e w' => e = .returned (.bool true) ∧ Below w.heap.size w w' := by
  have hu2 := Tryd.underlying41
  go_enter Tryd.func26, Tryd.ntmps26
  go_wp2_with (go_at_call 31; refine (equalValues_nil _ _ _ _ _).mono ?_; rintro e w1 ⟨rfl, hb1⟩)
  go_ret
  exact ⟨rfl, below_step (below_alloc (below_alloc (Below.refl _ _) _) _) hb1⟩

set_option maxHeartbeats 400000 in
theorem equalValues_plain (ps : List PI) (A B : Option Addr) (c d : Nat) (w : World) (ha : kPV.C w A ps.length ps) (hb : kPV.C w B ps.length ps) :
    Calls Tryd.prog 31 #[.slice A ps.length c, .slice B ps.length d] w fun e w' => e = .returned (.bool true) ∧ Below w.heap.size w w' := by
  have hu2 := Tryd.underlying41
  go_enter Tryd.func31, Tryd.ntmps31
  go_wp2
  go_loopw [5] (fun i wr => ∃ k : Nat, i = .int .i64 k ∧ k ≤ ps.length ∧ Aside0 (Below w.heap.size w wr)) (fun i _ => ps.length - (intOf i).toNat)
  case atStart => exact ⟨0, rfl, Nat.zero_le _, ⟨Below.refl _ _⟩⟩
  case round =>
    obtain ⟨k, rfl, hk, HB⟩ := hrel
    have hl := (C_len ha).2
    by_cases hlt : k < ps.length
    · obtain ⟨ad, A3, c3, rfl, h0, h1, h2, h3⟩ := at_PV (Kd.C_below ha HB.out) k hlt
      obtain ⟨bd, B3, d3, rfl, g0, g1, g2, g3⟩ := at_PV (Kd.C_below hb HB.out) k hlt
      obtain ⟨p, hp⟩ : ∃ p, p = ps.getD k .nil := ⟨_, rfl⟩
      rw [← hp] at h0 h1 h2 g0 g1 g2
      clear hp ha hb
      go_wp2_with fail
      go_still_tail 8, (by kernel_rfl)
      change wpList _ _ _ _ _ wr.drew
      go_wp2_with (go_at_call 26; refine (equalValue_plain p _ _ _ _ _).mono ?_; rintro e w1 ⟨rfl, hb1⟩; have HB1 := Aside0.mk hb1; clear hb1)
      go_roundw
      case rel => exact ⟨k + 1, by go_num, by omega, ⟨below_step HB.out.drew HB1.out⟩⟩
      case measure => simp [intOf]; omega
    · have hk' : k = ps.length := by omega
      subst hk'
      go_wp2
      go_ret
      exact ⟨rfl, HB.out⟩

end Go.Proofs.YtnpjnekoifheoaaDoor
