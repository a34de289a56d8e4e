/- Contracts of spec.IsName, laws.named9, laws.zzFits2, laws.zzFits4, laws.bare9: what a yes says of a text. -/
import Derived.Test.YtnpjnekoifheoaaLaws
import Derived.BigGuardPart
import Derived.Lib.Strings
namespace Go.Proofs.Ytnpjnekoifheoaa
open Go Go.RowKit Go.Proofs.YtnpjnekoifheoaaW.PrintWords
set_option linter.unusedVariables false

/-- A byte that names have. -/
def IsNB (c : Int) : Prop := (97 ≤ c ∧ c ≤ 122) ∨ (65 ≤ c ∧ c ≤ 90) ∨ (48 ≤ c ∧ c ≤ 57) ∨ c = 95 ∨ c = 46
/-- A byte that bare texts have. -/
def IsBB (c : Int) : Prop := 32 ≤ c ∧ c ≤ 126 ∧ c ≠ 63 ∧ c ≠ 58 ∧ c ≠ 36 ∧ c ≠ 64
def NameOk (s : ByteArray) : Prop := (∀ i, (h : i < s.size) → IsNB (s[i]'h).toNat) ∧ 0 < s.size ∧ s.size ≤ 30 ∧ ∀ h : s.size - 1 < s.size, (s[s.size - 1]'h).toNat ≠ 95 ∧ (s[s.size - 1]'h).toNat ≠ 46
def BareOk (s : ByteArray) : Prop := (∀ i, (h : i < s.size) → IsBB (s[i]'h).toNat) ∧ s.size ≤ 100

set_option maxHeartbeats 800000 in
theorem isNameByte_any (c : Int) (w : World) (h0 : 0 ≤ c) (h1 : c ≤ 255) :
    Calls Try.prog 23 #[.int .u8 c] w fun e w' => SaysB (IsNB c) e ∧ w = w' := by
  go_enter Try.func23, Try.ntmps23
  go_wp2
  all_goals
    go_ret
    refine ⟨⟨_, rfl, fun h => ?_⟩, rfl⟩
    unfold IsNB
    first
      | (cases h; done)
      | omega
      | (have := eq_of_beq h; omega)

set_option maxHeartbeats 800000 in
theorem IsName_any (s : ByteArray) (w : World) (hs : s.size ≤ 9223372036854775807) :
    Calls Try.prog 15 #[.string s] w fun e w' => SaysB ((∀ i, (h : i < s.size) → IsNB (s[i]'h).toNat) ∧ 0 < s.size ∧ ∀ h : s.size - 1 < s.size, (s[s.size - 1]'h).toNat ≠ 95 ∧ (s[s.size - 1]'h).toNat ≠ 46) e ∧ w = w' := by
  go_enter Try.func15, Try.ntmps15
  go_wp2
  go_loop [3] (fun i => ∃ k : Nat, i = .int .i64 k ∧ k ≤ s.size ∧ Aside0 (∀ i, (h : i < s.size) → i < k → IsNB (s[i]'h).toNat)) (fun i => s.size - (intOf i).toNat)
  case atStart => exact ⟨0, rfl, Nat.zero_le _, ⟨fun i h hk => by omega⟩⟩
  case round =>
    obtain ⟨k, rfl, hk, HP⟩ := hrel
    by_cases hlt : k < s.size
    · have hb0 : (0 : Int) ≤ (s[k]'hlt).toNat := by omega
      have hb1 : ((s[k]'hlt).toNat : Int) ≤ 255 := by have := (s[k]'hlt).toNat_lt; omega
      go_wp2_with (go_at_call 23; refine (isNameByte_any _ _ hb0 hb1).mono ?_; rintro e w1 ⟨⟨b, rfl, hb⟩, rfl⟩; have HS := Aside0.mk hb; clear hb; cases b)
      · go_ret
        exact ⟨⟨false, rfl, fun h => by cases h⟩, rfl⟩
      · go_round
        case rel =>
          refine ⟨k + 1, by go_num, by omega, ⟨fun i h hi => ?_⟩⟩
          by_cases e : i = k
          · subst e; exact HS.out (by first | rfl | trivial)
          · exact HP.out i h (by omega)
        case measure => simp [intOf]; omega
    · have hk' : k = s.size := by omega
      subst hk'
      by_cases h0 : s.size = 0
      · have he : s.toList.isEmpty = true := by
          rw [Lib.toList_data, List.isEmpty_iff, ← List.length_eq_zero_iff]
          rw [Lib.size_eq] at h0; exact h0
        have he' : s.toList = [] := List.isEmpty_iff.1 he
        go_wp2
        go_ret
        exact ⟨⟨false, rfl, fun h => by cases h⟩, rfl⟩
      · have hlast : s.size - 1 < s.size := by omega
        have he : s.toList.isEmpty = false := by
          rw [Lib.toList_data]
          cases hl : s.data.toList with
          | nil => rw [Lib.size_eq, hl] at h0; simp at h0
          | cons a b => rfl
        have hd := HP.out
        clear h0
        go_wp2
        all_goals
          go_ret
          refine ⟨⟨_, rfl, fun h => ?_⟩, rfl⟩
          first
            | (cases h; done)
            | (refine ⟨fun i h => hd i h h, by omega, fun h' => ⟨by omega, ?_⟩⟩
               simp at h
               omega)

theorem named9_any (s : ByteArray) (w : World) (hs : s.size ≤ 9223372036854775807) :
    Calls Try.prog 8 #[.string s] w fun e w' => SaysB (NameOk s) e ∧ w = w' := by
  go_enter Try.func8, Try.ntmps8
  go_wp2_with (go_at_call 15; refine (IsName_any _ _ hs).mono ?_; rintro e w1 ⟨⟨b, rfl, hb⟩, rfl⟩; have HS := Aside0.mk hb; clear hb; cases b)
  all_goals
    go_ret
    refine ⟨⟨_, rfl, fun h => ?_⟩, rfl⟩
    first
      | (cases h; done)
      | (have h1 := of_decide_eq_true h
         have h2 := HS.out (by first | rfl | trivial)
         exact ⟨h2.1, h2.2.1, by omega, h2.2.2⟩)

set_option maxHeartbeats 800000 in
theorem zzFits2_any (ss : List ByteArray) (A : Option Addr) (c : Nat) (w : World) (hr : Kd.string.C w A ss.length ss) :
    Calls Try.prog 6 #[.slice A ss.length c] w fun e w' => SaysB True e ∧ w = w' := by
  go_enter Try.func6, Try.ntmps6
  go_wp2
  · go_ret
    exact ⟨⟨_, rfl, fun _ => trivial⟩, rfl⟩
  · go_loop [10] (fun i => ∃ k : Nat, i = .int .i64 k ∧ k ≤ ss.length) (fun i => ss.length - (intOf i).toNat)
    case atStart => exact ⟨0, rfl, Nat.zero_le _⟩
    case round =>
      obtain ⟨k, rfl, hk⟩ := hrel
      have hl := (C_len hr).2
      by_cases hlt : k < ss.length
      · obtain ⟨ad, rfl, h0⟩ := at_S hr (⟨#[]⟩ : ByteArray) k hlt
        go_wp2
        · go_ret
          exact ⟨⟨_, rfl, fun _ => trivial⟩, rfl⟩
        · go_round
          case rel => exact ⟨k + 1, by go_num, by omega⟩
          case measure => simp [intOf]; omega
      · have hk' : k = ss.length := by omega
        subst hk'
        go_wp2
        go_ret
        exact ⟨⟨_, rfl, fun _ => trivial⟩, rfl⟩

theorem zzFits4_any (k n : Int) (s : ByteArray) (A : Option Addr) (m c : Nat) (w : World) :
    Calls Try.prog 12 #[.agg #[.int .i64 k, .int .i64 n, .string s, .slice A m c]] w fun e w' => SaysB True e ∧ Below w.heap.size w w' := by
  have hu2 := Try.underlying30
  go_enter Try.func12, Try.ntmps12
  go_wp2
  all_goals
    go_ret
    exact ⟨⟨_, rfl, fun _ => trivial⟩, below_alloc (Below.refl _ _) _⟩

def AllBare (ss : List ByteArray) (k : Nat) : Prop := ∀ j, j < k → BareOk (ss.getD j ⟨#[]⟩)
set_option maxHeartbeats 1600000 in
theorem bare9_any (ss : List ByteArray) (A : Option Addr) (c : Nat) (w : World) (hr : Kd.string.C w A ss.length ss) :
    Calls Try.prog 13 #[.slice A ss.length c] w fun e w' => SaysB (ss.length ≤ 20 ∧ AllBare ss ss.length) e ∧ w = w' := by
  go_enter Try.func13, Try.ntmps13
  go_wp2
  go_loop [8] (fun i => ∃ k : Nat, i = .int .i64 k ∧ k ≤ ss.length ∧ Aside0 (AllBare ss k)) (fun i => ss.length - (intOf i).toNat)
  case atStart => exact ⟨0, rfl, Nat.zero_le _, ⟨fun j hj => by omega⟩⟩
  case round =>
    obtain ⟨k, rfl, hk, HP⟩ := hrel
    have hl := (C_len hr).2
    by_cases hlt : k < ss.length
    · obtain ⟨ad, rfl, h0⟩ := at_S hr (⟨#[]⟩ : ByteArray) k hlt
      obtain ⟨s, hs⟩ : ∃ s, s = ss.getD k ⟨#[]⟩ := ⟨_, rfl⟩
      rw [← hs] at h0
      have HS := Aside0.mk hs
      clear hs hr
      by_cases hz : s.size ≤ 100
      · go_wp2
        go_loop [22] (fun i => ∃ m : Nat, i = .int .i64 m ∧ m ≤ s.size ∧ Aside0 (∀ i, (h : i < s.size) → i < m → IsBB (s[i]'h).toNat)) (fun i => s.size - (intOf i).toNat)
        case atStart => exact ⟨0, rfl, Nat.zero_le _, ⟨fun i h hj => by omega⟩⟩
        case round =>
          obtain ⟨m, rfl, hm, HQ⟩ := hrel
          by_cases hmt : m < s.size
          · have hb0 : (0 : Int) ≤ (s[m]'hmt).toNat := by omega
            have hb1 : ((s[m]'hmt).toNat : Int) ≤ 255 := by have := (s[m]'hmt).toNat_lt; omega
            go_wp2
            · go_ret
              exact ⟨⟨_, rfl, fun h => by cases h⟩, rfl⟩
            · go_ret
              exact ⟨⟨_, rfl, fun h => by cases h⟩, rfl⟩
            · go_ret
              exact ⟨⟨_, rfl, fun h => by cases h⟩, rfl⟩
            · go_ret
              exact ⟨⟨_, rfl, fun h => by cases h⟩, rfl⟩
            · go_ret
              exact ⟨⟨_, rfl, fun h => by cases h⟩, rfl⟩
            · go_ret
              exact ⟨⟨_, rfl, fun h => by cases h⟩, rfl⟩
            · have h64 : (((s[m]'hmt).toNat : Int) == 64) = false := by assumption
              have h64' : ¬ ((s[m]'hmt).toNat : Int) = 64 := by simpa using h64
              go_round
              case rel =>
                refine ⟨m + 1, by go_num, by omega, ⟨fun i h hi => ?_⟩⟩
                by_cases e : i = m
                · subst e; unfold IsBB; omega
                · exact HQ.out i h (by omega)
              case measure => simp [intOf]; omega
          · have hm' : m = s.size := by omega
            subst hm'
            go_wp2
            go_round
            case rel =>
              refine ⟨k + 1, by go_num, by omega, ⟨fun j hj => ?_⟩⟩
              by_cases e : j = k
              · subst e; rw [← HS.out]; exact ⟨fun i h => HQ.out i h h, hz⟩
              · exact HP.out j (by omega)
            case measure => simp [intOf]; omega
      · go_wp2
        go_ret
        exact ⟨⟨_, rfl, fun h => by cases h⟩, rfl⟩
    · have hk' : k = ss.length := by omega
      subst hk'
      go_wp2
      go_ret
      exact ⟨⟨_, rfl, fun h => ⟨by have := of_decide_eq_true h; omega, HP.out⟩⟩, rfl⟩

end Go.Proofs.Ytnpjnekoifheoaa
