/- Contracts of spec.flat, spec.ArgumentRight, laws.single9: what a yes says. -/
import Derived.Test.YtnpjnekoifheoaaDoorLaws
import Derived.BigGuardPart
import Derived.Lib.Strings
namespace Go.Proofs.YtnpjnekoifheoaaDoor
open Go Go.RowKit Go.Proofs.YtnpjnekoifheoaaDoorW.PrintWords
set_option linter.unusedVariables false
set_option maxRecDepth 100000

def FlatOk (k n : Int) (s : ByteArray) (m : Nat) : Prop := 0 ≤ k ∧ k ≤ 4 ∧ m = 0 ∧ (n = 0 ∨ k = 1) ∧ (s.toList.isEmpty = true ∨ k = 2) ∧ s.size ≤ 200

set_option maxHeartbeats 800000 in
theorem flat_any (k n : Int) (s : ByteArray) (A : Option Addr) (m c : Nat) (w : World) :
    Calls Tryd.prog 39 #[.agg #[.int .i64 k, .int .i64 n, .string s, .slice A m c]] w fun e w' => SaysB (FlatOk k n s m) e ∧ Below w.heap.size w w' := by
  have hu2 := Tryd.underlying41
  go_enter Tryd.func39, Tryd.ntmps39
  go_wp2
  all_goals
    go_ret
    refine ⟨⟨_, rfl, fun h => ?_⟩, below_alloc (Below.refl _ _) _⟩
    first
      | (cases h; done)
      | (have h' := of_decide_eq_true h
         exact ⟨by omega, by omega, by omega, by first | exact .inl (by omega) | exact .inr (by omega), by first | exact .inl (by assumption) | exact .inr (by omega), by omega⟩)

/-- A plain value that flat takes, as data. -/
def svPI (x : SV) : PI := if x.k = 1 then .int x.n else if x.k = 2 then .str x.s else if x.k = 3 then .bool true else if x.k = 4 then .bool false else .nil
theorem str_empty {s : ByteArray} (h : s.toList.isEmpty = true) : s = ⟨#[]⟩ := by
  have h1 : s.toList = [] := List.isEmpty_iff.1 h
  rw [Lib.toList_data] at h1
  obtain ⟨d⟩ := s
  have h2 : d = #[] := Array.toList_inj.1 (by simpa using h1)
  rw [h2]
theorem flat_sv {x : SV} (h : FlatOk x.k x.n x.s x.l.length) : x = (svPI x).sv ∧ (svPI x).s.size ≤ 200 := by
  obtain ⟨k, n, s, l⟩ := x
  obtain ⟨h0, h4, hl, hn, hs, h200⟩ := h
  simp only at h0 h4 hl hn hs h200
  obtain rfl : l = [] := List.eq_nil_of_length_eq_zero hl
  have hz : (⟨#[]⟩ : ByteArray).size ≤ 200 := by decide
  have hne : ∀ {q : Prop}, k ≠ 2 → (s.toList.isEmpty = true ∨ k = 2) → s = ⟨#[]⟩ := fun hk h => h.elim str_empty (fun e => absurd e hk)
  by_cases e1 : k = 1
  · subst e1
    rcases hs with hs | hs
    · obtain rfl := str_empty hs
      exact ⟨rfl, hz⟩
    · omega
  · obtain rfl : n = 0 := by omega
    by_cases e2 : k = 2
    · subst e2
      exact ⟨rfl, h200⟩
    · obtain rfl : s = ⟨#[]⟩ := hs.elim str_empty (fun e => absurd e e2)
      by_cases e3 : k = 3
      · subst e3; exact ⟨rfl, hz⟩
      · by_cases e4 : k = 4
        · subst e4; exact ⟨rfl, hz⟩
        · obtain rfl : k = 0 := by omega
          exact ⟨rfl, hz⟩

set_option maxHeartbeats 400000 in
theorem argumentRight_flat (k n : Int) (s : ByteArray) (A : Option Addr) (m c : Nat) (w : World) (hk : ¬ k = 5) :
    Calls Tryd.prog 23 #[.agg #[.int .i64 k, .int .i64 n, .string s, .slice A m c]] w fun e w' => SaysB (FlatOk k n s m) e ∧ Below w.heap.size w w' := by
  have hu2 := Tryd.underlying41
  go_enter Tryd.func23, Tryd.ntmps23
  go_wp2_with (go_at_call 39; refine (flat_any _ _ _ _ _ _ _).mono ?_; rintro e w1 ⟨⟨b, rfl, hb⟩, hb1⟩; have HS := Aside0.mk hb; have HB1 := Aside0.mk hb1; clear hb hb1)
  go_ret
  exact ⟨⟨b, rfl, HS.out⟩, below_step (below_alloc (Below.refl _ _) _) HB1.out⟩

/-- A row of plain values. -/
def Plain (xs : List SV) (ps : List PI) : Prop := xs = ps.map PI.sv ∧ ∀ p ∈ ps, p.s.size ≤ 200
theorem plain_snoc {xs : List SV} {ps : List PI} {k : Nat} (h : Plain (xs.take k) ps) (hk : k < xs.length) (hf : FlatOk (xs.getD k zSV).k (xs.getD k zSV).n (xs.getD k zSV).s (xs.getD k zSV).l.length) : Plain (xs.take (k + 1)) (ps ++ [svPI (xs.getD k zSV)]) := by
  obtain ⟨h1, h2⟩ := flat_sv hf
  refine ⟨?_, fun p hp => ?_⟩
  · rw [take_snoc' xs k hk zSV, List.map_append, ← h.1]
    congr 1
    simp only [List.map_cons, List.map_nil]
    rw [← h1]
  · rcases List.mem_append.1 hp with hp | hp
    · exact h.2 p hp
    · rw [List.mem_singleton.1 hp]; exact h2

set_option maxHeartbeats 800000 in
theorem single9_any (xs : List SV) (A : Option Addr) (c : Nat) (w : World) (hr : kV.C w A xs.length xs) :
    Calls Tryd.prog 18 #[.slice A xs.length c] w fun e w' => SaysB (xs.length ≤ 30 ∧ ∃ ps, Plain xs ps) e ∧ Below w.heap.size w w' := by
  have hu2 := Tryd.underlying41
  go_enter Tryd.func18, Tryd.ntmps18
  go_wp2
  go_loopw [6] (fun i wr => ∃ k : Nat, i = .int .i64 k ∧ k ≤ xs.length ∧ Aside0 (∃ ps, Plain (xs.take k) ps) ∧ Aside0 (Below w.heap.size w wr)) (fun i _ => xs.length - (intOf i).toNat)
  case atStart => exact ⟨0, rfl, Nat.zero_le _, ⟨[], rfl, by simp⟩, ⟨Below.refl _ _⟩⟩
  case round =>
    obtain ⟨k, rfl, hk, HP, HB⟩ := hrel
    have hl := (C_len hr).2
    by_cases hlt : k < xs.length
    · obtain ⟨ad, A3, c3, rfl, h0, h1, h2, h3, _, _⟩ := at_V (Kd.C_below hr HB.out) k hlt
      clear hr
      obtain ⟨x, hx⟩ : ∃ x, x = xs.getD k zSV := ⟨_, rfl⟩
      rw [← hx] at h0 h1 h2 h3
      have HX := Aside0.mk hx
      clear hx
      by_cases h5 : x.k = 5
      · go_wp2
        go_ret
        exact ⟨⟨false, rfl, fun h => by cases h⟩, HB.out⟩
      · go_wp2_with (go_at_call 23; refine (argumentRight_flat _ _ _ _ _ _ _ h5).mono ?_; rintro e w1 ⟨⟨b, rfl, hb⟩, hb1⟩; have HS := Aside0.mk hb; have HB1 := Aside0.mk hb1; clear hb hb1; cases b)
        · go_ret
          exact ⟨⟨false, rfl, fun h => by cases h⟩, below_step HB.out HB1.out⟩
        · go_roundw
          case rel =>
            obtain ⟨ps, hps⟩ := HP.out
            have hf := HS.out (by first | rfl | trivial)
            rw [HX.out] at hf
            exact ⟨k + 1, by go_num, by omega, ⟨_, plain_snoc hps hlt hf⟩, ⟨below_step HB.out HB1.out⟩⟩
          case measure => simp [intOf]; omega
    · have hk' : k = xs.length := by omega
      subst hk'
      rw [List.take_length] at HP
      go_wp2
      go_ret
      exact ⟨⟨_, rfl, fun h => ⟨by have := of_decide_eq_true h; omega, HP.out⟩⟩, HB.out⟩

end Go.Proofs.YtnpjnekoifheoaaDoor
