/- laws.sign9, laws.full9, impl.Positional, impl.Replaced. -/
import Derived.Test.YtklnlfmopmlmlaaDoorPos
import Derived.StillTactics
import Derived.Deep.RegionHeld3
import Derived.Deep.QuietTactic
import Derived.BigQuiet
import Derived.StillTailTactics
namespace Go.Proofs.YtklnlfmopmlmlaaDoor
open Go Go.RowKit Go.Proofs.YtklnlfmopmlmlaaDoorW.PrintWords
set_option linter.unusedVariables false
set_option maxRecDepth 100000

def signL (k : Int) : List UInt8 := if k = 0 then [36] else if k = 1 then [58] else [64, 112]
theorem sign9_is (a : Int) (w : World) (h0 : 0 ≤ a) (h1 : a ≤ 255) :
    Calls Tryd.prog 19 #[.int .u8 a] w fun e w' => e = .returned (.tuple #[.string ⟨(signL (a % 3)).toArray⟩, .int .i64 (a % 3 + 2)]) ∧ Below w.heap.size w w' := by
  rcases (show a % 3 = 0 ∨ a % 3 = 1 ∨ a % 3 = 2 by omega) with h | h | h
  all_goals
    rw [h]
    go_enter Tryd.func19, Tryd.ntmps19
    go_wp2_with fail
    go_region
    all_goals
      go_wp2
      go_ret2
      exact ⟨rfl, by repeat (first | exact Below.refl _ _ | exact below_alloc (below_alloc (Below.refl _ _) _) _ | exact (below_alloc (below_alloc (Below.refl _ _) _) _).drew | apply Below.drew | apply below_alloc)⟩
set_option maxHeartbeats 800000 in
theorem full9_any (ss : List ByteArray) (A : Option Addr) (c : Nat) (w : World) (hr : Kd.string.C w A ss.length ss) :
    Calls Tryd.prog 15 #[.slice A ss.length c] w fun e w' => SaysB (FullL ss) e ∧ w = w' := by
  have hl := (C_len hr).2
  go_enter Tryd.func15, Tryd.ntmps15
  go_wp2
  go_loop [3] (fun i => ∃ k : Nat, i = .int .i64 k ∧ 1 ≤ k ∧ (k + 1 ≤ ss.length ∨ k = 1) ∧ Aside0 (∀ j, 1 ≤ j → j < k → j + 1 < ss.length → (ss.getD j ⟨#[]⟩).data.toList ≠ [])) (fun i => ss.length - (intOf i).toNat)
  case atStart => exact ⟨1, rfl, Nat.le_refl _, .inr rfl, ⟨fun j h1 h2 => by omega⟩⟩
  case round =>
    obtain ⟨k, rfl, hk1, hk, HP⟩ := hrel
    by_cases hlt : k + 1 < ss.length
    · obtain ⟨ad, rfl, h0⟩ := at_S hr (⟨#[]⟩ : ByteArray) k (by omega)
      obtain ⟨s, hs⟩ : ∃ s, s = ss.getD k ⟨#[]⟩ := ⟨_, rfl⟩
      rw [← hs] at h0
      have HS := Aside0.mk hs
      clear hs hr
      go_wp2
      all_goals first | (go_ret; exact ⟨⟨_, rfl, fun h => by cases h⟩, rfl⟩) | skip
      · have hne : s.toList.isEmpty = false ∨ ¬ s.toList = [] := by
          first
            | (left; assumption)
            | (right; assumption)
            | (right; intro h; simp_all)
        go_round
        case rel =>
          refine ⟨k + 1, by go_num, by omega, .inl (by omega), ⟨fun j h1 h2 h3 => ?_⟩⟩
          by_cases e : j = k
          · subst e
            rw [← HS.out, ← Lib.toList_data]
            rcases hne with h | h
            · intro e; rw [e] at h; cases h
            · exact h
          · exact HP.out j h1 (by omega) h3
        case measure => simp [intOf]; omega
    · have hnl : ¬ (k : Int) + 1 < (ss.length : Int) := by omega
      have hkb : (k : Int) + 1 ≤ 9223372036854775807 := by omega
      clear hk
      go_wp2
      go_ret
      exact ⟨⟨_, rfl, fun _ j h1 h2 => HP.out j h1 (by omega) h2⟩, rfl⟩
theorem Positional_is (q pf : ByteArray) (w : World) (hq : q.size ≤ 100000) (hpf : pf.size ≤ 1000) (hc : q.data.toList.count 63 ≤ 98) (hout : (rp pf.data.toList q.data.toList false 0).length ≤ 10000000) :
    Calls Tryd.prog 16 #[.string q, .string pf] w fun e w' => e = .returned (.string ⟨(rp pf.data.toList q.data.toList false 0).toArray⟩) ∧ Below w.heap.size w w' := by
  obtain ⟨tx, htx⟩ : ∃ tx : ByteArray, tx = ⟨(rp pf.data.toList q.data.toList false 0).toArray⟩ := ⟨_, rfl⟩
  have HC := Aside0.mk (positional_is q pf w hq hpf hc hout)
  rw [← htx] at HC ⊢
  clear hout htx hc
  have HC2 : Aside0 (Calls Tryd.prog 28 #[.string q, .string pf] w fun e w' => e = .returned (.string tx) ∧ Below w.heap.size w w') := by
    constructor
    go_enter Tryd.func28, Tryd.ntmps28
    go_wp2_with (go_at_call 38; refine HC.out.mono ?_; rintro e w1 ⟨rfl, h1⟩; have H1 := Aside0.mk h1; clear h1)
    go_ret
    exact ⟨rfl, H1.out⟩
  go_enter Tryd.func16, Tryd.ntmps16
  go_wp2_with (go_at_call 28; refine HC2.out.mono ?_; rintro e w1 ⟨rfl, h1⟩; have H1 := Aside0.mk h1; clear h1)
  go_ret
  exact ⟨rfl, H1.out⟩

theorem formOf_1 (w : World) : Calls Tryd.prog 29 #[.int .i64 1] w fun e w' => e = .returned (.tuple #[.iface 68 (.agg #[]), .bool true]) ∧ w = w' := by
  go_enter Tryd.func29, Tryd.ntmps29
  go_wp2
  go_ret2
  exact ⟨rfl, rfl⟩
theorem method_1 (w : World) : (method 249 68 (.agg #[]) "ReplacePlaceholders").run Tryd.prog w = .ok (105, .agg #[]) w := by kernel_rfl
theorem RP_0 (tx q : ByteArray) (w : World) (HC : Aside0 (∀ W, Calls Tryd.prog 38 #[.string q, .string ⟨(signL 0).toArray⟩] W fun e w' => e = .returned (.tuple #[.string tx, .nilIface]) ∧ Below W.heap.size W w')) :
    Calls Tryd.prog 105 #[.agg #[], .string q] w fun e w' => e = .returned (.tuple #[.string tx, .nilIface]) ∧ Below w.heap.size w w' := by
  go_enter Tryd.func105, Tryd.ntmps105
  go_wp2_with (go_at_call 38; refine (HC.out _).mono ?_; rintro e w1 ⟨rfl, h1⟩; have H1 := Aside0.mk h1; clear h1)
  go_ret2
  exact ⟨rfl, (below_alloc (Below.refl _ _) _).trans (H1.out.mono (by simp))⟩
theorem Replaced_0 (q : ByteArray) (w : World) (hq : q.size ≤ 100000) (hc : q.data.toList.count 63 ≤ 98) (hout : (rp (signL 0) q.data.toList false 0).length ≤ 10000000) :
    Calls Tryd.prog 20 #[.int .i64 2, .string q] w fun e w' => e = .returned (.tuple #[.string ⟨(rp (signL 0) q.data.toList false 0).toArray⟩, .bool true]) ∧ Below w.heap.size w w' := by
  obtain ⟨tx, htx⟩ : ∃ tx : ByteArray, tx = ⟨(rp (signL 0) q.data.toList false 0).toArray⟩ := ⟨_, rfl⟩
  have HC := Aside0.mk (fun W => positional_is q ⟨(signL 0).toArray⟩ W hq (by decide) hc hout)
  have e : (⟨(signL 0).toArray⟩ : ByteArray).data.toList = signL 0 := rfl
  rw [e, ← htx] at HC
  rw [← htx]
  clear hout htx hc
  have hm := method_1
  go_enter Tryd.func20, Tryd.ntmps20
  go_wp2_with (first | (go_at_call 29; refine (formOf_1 _).mono ?_; rintro e w1 ⟨rfl, rfl⟩) | (go_at_call 105; refine (RP_0 tx q _ HC).mono ?_; rintro e w1 ⟨rfl, h1⟩; have H1 := Aside0.mk h1; clear h1))
  go_quiet (fail)
  go_wp2
  go_ret2
  exact ⟨rfl, pw_below_drewN H1.out _⟩
theorem formOf_2 (w : World) : Calls Tryd.prog 29 #[.int .i64 2] w fun e w' => e = .returned (.tuple #[.iface 69 (.agg #[]), .bool true]) ∧ w = w' := by
  go_enter Tryd.func29, Tryd.ntmps29
  go_wp2
  go_ret2
  exact ⟨rfl, rfl⟩
theorem method_2 (w : World) : (method 249 69 (.agg #[]) "ReplacePlaceholders").run Tryd.prog w = .ok (107, .agg #[]) w := by kernel_rfl
theorem RP_1 (tx q : ByteArray) (w : World) (HC : Aside0 (∀ W, Calls Tryd.prog 38 #[.string q, .string ⟨(signL 1).toArray⟩] W fun e w' => e = .returned (.tuple #[.string tx, .nilIface]) ∧ Below W.heap.size W w')) :
    Calls Tryd.prog 107 #[.agg #[], .string q] w fun e w' => e = .returned (.tuple #[.string tx, .nilIface]) ∧ Below w.heap.size w w' := by
  go_enter Tryd.func107, Tryd.ntmps107
  go_wp2_with (go_at_call 38; refine (HC.out _).mono ?_; rintro e w1 ⟨rfl, h1⟩; have H1 := Aside0.mk h1; clear h1)
  go_ret2
  exact ⟨rfl, (below_alloc (Below.refl _ _) _).trans (H1.out.mono (by simp))⟩
theorem Replaced_1 (q : ByteArray) (w : World) (hq : q.size ≤ 100000) (hc : q.data.toList.count 63 ≤ 98) (hout : (rp (signL 1) q.data.toList false 0).length ≤ 10000000) :
    Calls Tryd.prog 20 #[.int .i64 3, .string q] w fun e w' => e = .returned (.tuple #[.string ⟨(rp (signL 1) q.data.toList false 0).toArray⟩, .bool true]) ∧ Below w.heap.size w w' := by
  obtain ⟨tx, htx⟩ : ∃ tx : ByteArray, tx = ⟨(rp (signL 1) q.data.toList false 0).toArray⟩ := ⟨_, rfl⟩
  have HC := Aside0.mk (fun W => positional_is q ⟨(signL 1).toArray⟩ W hq (by decide) hc hout)
  have e : (⟨(signL 1).toArray⟩ : ByteArray).data.toList = signL 1 := rfl
  rw [e, ← htx] at HC
  rw [← htx]
  clear hout htx hc
  have hm := method_2
  go_enter Tryd.func20, Tryd.ntmps20
  go_wp2_with (first | (go_at_call 29; refine (formOf_2 _).mono ?_; rintro e w1 ⟨rfl, rfl⟩) | (go_at_call 107; refine (RP_1 tx q _ HC).mono ?_; rintro e w1 ⟨rfl, h1⟩; have H1 := Aside0.mk h1; clear h1))
  go_quiet (fail)
  go_wp2
  go_ret2
  exact ⟨rfl, pw_below_drewN H1.out _⟩
theorem formOf_3 (w : World) : Calls Tryd.prog 29 #[.int .i64 3] w fun e w' => e = .returned (.tuple #[.iface 70 (.agg #[]), .bool true]) ∧ w = w' := by
  go_enter Tryd.func29, Tryd.ntmps29
  go_wp2
  go_ret2
  exact ⟨rfl, rfl⟩
theorem method_3 (w : World) : (method 249 70 (.agg #[]) "ReplacePlaceholders").run Tryd.prog w = .ok (109, .agg #[]) w := by kernel_rfl
theorem RP_2 (tx q : ByteArray) (w : World) (HC : Aside0 (∀ W, Calls Tryd.prog 38 #[.string q, .string ⟨(signL 2).toArray⟩] W fun e w' => e = .returned (.tuple #[.string tx, .nilIface]) ∧ Below W.heap.size W w')) :
    Calls Tryd.prog 109 #[.agg #[], .string q] w fun e w' => e = .returned (.tuple #[.string tx, .nilIface]) ∧ Below w.heap.size w w' := by
  go_enter Tryd.func109, Tryd.ntmps109
  go_wp2_with (go_at_call 38; refine (HC.out _).mono ?_; rintro e w1 ⟨rfl, h1⟩; have H1 := Aside0.mk h1; clear h1)
  go_ret2
  exact ⟨rfl, (below_alloc (Below.refl _ _) _).trans (H1.out.mono (by simp))⟩
theorem Replaced_2 (q : ByteArray) (w : World) (hq : q.size ≤ 100000) (hc : q.data.toList.count 63 ≤ 98) (hout : (rp (signL 2) q.data.toList false 0).length ≤ 10000000) :
    Calls Tryd.prog 20 #[.int .i64 4, .string q] w fun e w' => e = .returned (.tuple #[.string ⟨(rp (signL 2) q.data.toList false 0).toArray⟩, .bool true]) ∧ Below w.heap.size w w' := by
  obtain ⟨tx, htx⟩ : ∃ tx : ByteArray, tx = ⟨(rp (signL 2) q.data.toList false 0).toArray⟩ := ⟨_, rfl⟩
  have HC := Aside0.mk (fun W => positional_is q ⟨(signL 2).toArray⟩ W hq (by decide) hc hout)
  have e : (⟨(signL 2).toArray⟩ : ByteArray).data.toList = signL 2 := rfl
  rw [e, ← htx] at HC
  rw [← htx]
  clear hout htx hc
  have hm := method_3
  go_enter Tryd.func20, Tryd.ntmps20
  go_wp2_with (first | (go_at_call 29; refine (formOf_3 _).mono ?_; rintro e w1 ⟨rfl, rfl⟩) | (go_at_call 109; refine (RP_2 tx q _ HC).mono ?_; rintro e w1 ⟨rfl, h1⟩; have H1 := Aside0.mk h1; clear h1))
  go_quiet (fail)
  go_wp2
  go_ret2
  exact ⟨rfl, pw_below_drewN H1.out _⟩
theorem Replaced_is (a : Int) (q : ByteArray) (w : World) (h0 : 0 ≤ a) (h1 : a ≤ 2) (hq : q.size ≤ 100000) (hc : q.data.toList.count 63 ≤ 98) (hout : (rp (signL a) q.data.toList false 0).length ≤ 10000000) :
    Calls Tryd.prog 20 #[.int .i64 (a + 2), .string q] w fun e w' => e = .returned (.tuple #[.string ⟨(rp (signL a) q.data.toList false 0).toArray⟩, .bool true]) ∧ Below w.heap.size w w' := by
  rcases (show a = 0 ∨ a = 1 ∨ a = 2 by omega) with rfl | rfl | rfl
  · exact Replaced_0 q w hq hc hout
  · exact Replaced_1 q w hq hc hout
  · exact Replaced_2 q w hq hc hout
end Go.Proofs.YtklnlfmopmlmlaaDoor
