/- Contracts of spec.IsName, laws.named9, laws.zzFits4: what a yes says. -/
import Derived.Test.YtnpjnekoifheoaaDoorTexts
import Derived.BigGuardPart
import Derived.Lib.Strings
namespace Go.Proofs.YtnpjnekoifheoaaDoor
open Go Go.RowKit Go.Proofs.YtnpjnekoifheoaaDoorW.PrintWords
set_option linter.unusedVariables false
set_option maxRecDepth 100000


set_option maxHeartbeats 800000 in
theorem isNameByte_any (c : Int) (w : World) (h0 : 0 ≤ c) (h1 : c ≤ 255) :
    Calls Tryd.prog 43 #[.int .u8 c] w fun e w' => SaysB (IsNB c) e ∧ w = w' := by
  go_enter Tryd.func43, Tryd.ntmps43
  go_wp2
  all_goals
    go_ret
    refine ⟨⟨_, rfl, fun h => ?_⟩, rfl⟩
    unfold IsNB
    first
      | (cases h; done)
      | omega
      | (have := eq_of_beq h; omega)

set_option maxHeartbeats 800000 in
theorem IsName_any (s : ByteArray) (w : World) (hs : s.size ≤ 9223372036854775807) :
    Calls Tryd.prog 33 #[.string s] w fun e w' => SaysB ((∀ i, (h : i < s.size) → IsNB (s[i]'h).toNat) ∧ 0 < s.size ∧ ∀ h : s.size - 1 < s.size, (s[s.size - 1]'h).toNat ≠ 95 ∧ (s[s.size - 1]'h).toNat ≠ 46) e ∧ w = w' := by
  go_enter Tryd.func33, Tryd.ntmps33
  go_wp2
  go_loop [3] (fun i => ∃ k : Nat, i = .int .i64 k ∧ k ≤ s.size ∧ Aside0 (∀ i, (h : i < s.size) → i < k → IsNB (s[i]'h).toNat)) (fun i => s.size - (intOf i).toNat)
  case atStart => exact ⟨0, rfl, Nat.zero_le _, ⟨fun i h hk => by omega⟩⟩
  case round =>
    obtain ⟨k, rfl, hk, HP⟩ := hrel
    by_cases hlt : k < s.size
    · have hb0 : (0 : Int) ≤ (s[k]'hlt).toNat := by omega
      have hb1 : ((s[k]'hlt).toNat : Int) ≤ 255 := by have := (s[k]'hlt).toNat_lt; omega
      go_wp2_with (go_at_call 43; refine (isNameByte_any _ _ hb0 hb1).mono ?_; rintro e w1 ⟨⟨b, rfl, hb⟩, rfl⟩; have HS := Aside0.mk hb; clear hb; cases b)
      · go_ret
        exact ⟨⟨false, rfl, fun h => by cases h⟩, rfl⟩
      · go_round
        case rel =>
          refine ⟨k + 1, by go_num, by omega, ⟨fun i h hi => ?_⟩⟩
          by_cases e : i = k
          · subst e; exact HS.out (by first | rfl | trivial)
          · exact HP.out i h (by omega)
        case measure => simp [intOf]; omega
    · have hk' : k = s.size := by omega
      subst hk'
      by_cases h0 : s.size = 0
      · have he : s.toList.isEmpty = true := by
          rw [Lib.toList_data, List.isEmpty_iff, ← List.length_eq_zero_iff]
          rw [Lib.size_eq] at h0; exact h0
        have he' : s.toList = [] := List.isEmpty_iff.1 he
        go_wp2
        go_ret
        exact ⟨⟨false, rfl, fun h => by cases h⟩, rfl⟩
      · have hlast : s.size - 1 < s.size := by omega
        have he : s.toList.isEmpty = false := by
          rw [Lib.toList_data]
          cases hl : s.data.toList with
          | nil => rw [Lib.size_eq, hl] at h0; simp at h0
          | cons a b => rfl
        have hd := HP.out
        clear h0
        go_wp2
        all_goals
          go_ret
          refine ⟨⟨_, rfl, fun h => ?_⟩, rfl⟩
          first
            | (cases h; done)
            | (refine ⟨fun i h => hd i h h, by omega, fun h' => ⟨by omega, ?_⟩⟩
               simp at h
               omega)

theorem named9_any (s : ByteArray) (w : World) (hs : s.size ≤ 9223372036854775807) :
    Calls Tryd.prog 12 #[.string s] w fun e w' => SaysB (NameOk s) e ∧ w = w' := by
  go_enter Tryd.func12, Tryd.ntmps12
  go_wp2_with (go_at_call 33; refine (IsName_any _ _ hs).mono ?_; rintro e w1 ⟨⟨b, rfl, hb⟩, rfl⟩; have HS := Aside0.mk hb; clear hb; cases b)
  all_goals
    go_ret
    refine ⟨⟨_, rfl, fun h => ?_⟩, rfl⟩
    first
      | (cases h; done)
      | (have h1 := of_decide_eq_true h
         have h2 := HS.out (by first | rfl | trivial)
         exact ⟨h2.1, h2.2.1, by omega, h2.2.2⟩)

theorem zzFits4_any (k n : Int) (s : ByteArray) (A : Option Addr) (m c : Nat) (w : World) :
    Calls Tryd.prog 22 #[.agg #[.int .i64 k, .int .i64 n, .string s, .slice A m c]] w fun e w' => SaysB True e ∧ Below w.heap.size w w' := by
  have hu2 := Tryd.underlying41
  go_enter Tryd.func22, Tryd.ntmps22
  go_wp2
  all_goals
    go_ret
    exact ⟨⟨_, rfl, fun _ => trivial⟩, below_alloc (Below.refl _ _) _⟩

end Go.Proofs.YtnpjnekoifheoaaDoor
