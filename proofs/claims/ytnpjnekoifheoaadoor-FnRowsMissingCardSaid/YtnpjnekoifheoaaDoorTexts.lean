/- Contracts of spec.IsName, laws.named9, laws.zzFits2, laws.zzFits4, laws.bare9: what a yes says of a text. -/
import Derived.Test.YtnpjnekoifheoaaDoorLaws
import Derived.BigGuardPart
import Derived.Lib.Strings
namespace Go.Proofs.YtnpjnekoifheoaaDoor
open Go Go.RowKit Go.Proofs.YtnpjnekoifheoaaDoorW.PrintWords
set_option linter.unusedVariables false
set_option maxRecDepth 100000

/-- A byte that names have. -/
def IsNB (c : Int) : Prop := (97 ≤ c ∧ c ≤ 122) ∨ (65 ≤ c ∧ c ≤ 90) ∨ (48 ≤ c ∧ c ≤ 57) ∨ c = 95 ∨ c = 46
/-- A byte that bare texts have. -/
def IsBB (c : Int) : Prop := 32 ≤ c ∧ c ≤ 126 ∧ c ≠ 63 ∧ c ≠ 58 ∧ c ≠ 36 ∧ c ≠ 64
def NameOk (s : ByteArray) : Prop := (∀ i, (h : i < s.size) → IsNB (s[i]'h).toNat) ∧ 0 < s.size ∧ s.size ≤ 30 ∧ ∀ h : s.size - 1 < s.size, (s[s.size - 1]'h).toNat ≠ 95 ∧ (s[s.size - 1]'h).toNat ≠ 46
def BareOk (s : ByteArray) : Prop := (∀ i, (h : i < s.size) → IsBB (s[i]'h).toNat) ∧ s.size ≤ 100

set_option maxHeartbeats 800000 in
theorem zzFits2_any (ss : List ByteArray) (A : Option Addr) (c : Nat) (w : World) (hr : Kd.string.C w A ss.length ss) :
    Calls Tryd.prog 15 #[.slice A ss.length c] w fun e w' => SaysB True e ∧ w = w' := by
  go_enter Tryd.func15, Tryd.ntmps15
  go_wp2
  · go_ret
    exact ⟨⟨_, rfl, fun _ => trivial⟩, rfl⟩
  · go_loop [10] (fun i => ∃ k : Nat, i = .int .i64 k ∧ k ≤ ss.length) (fun i => ss.length - (intOf i).toNat)
    case atStart => exact ⟨0, rfl, Nat.zero_le _⟩
    case round =>
      obtain ⟨k, rfl, hk⟩ := hrel
      have hl := (C_len hr).2
      by_cases hlt : k < ss.length
      · obtain ⟨ad, rfl, h0⟩ := at_S hr (⟨#[]⟩ : ByteArray) k hlt
        go_wp2
        · go_ret
          exact ⟨⟨_, rfl, fun _ => trivial⟩, rfl⟩
        · go_round
          case rel => exact ⟨k + 1, by go_num, by omega⟩
          case measure => simp [intOf]; omega
      · have hk' : k = ss.length := by omega
        subst hk'
        go_wp2
        go_ret
        exact ⟨⟨_, rfl, fun _ => trivial⟩, rfl⟩

def AllBare (ss : List ByteArray) (k : Nat) : Prop := ∀ j, j < k → BareOk (ss.getD j ⟨#[]⟩)
set_option maxHeartbeats 1600000 in
theorem bare9_any (ss : List ByteArray) (A : Option Addr) (c : Nat) (w : World) (hr : Kd.string.C w A ss.length ss) :
    Calls Tryd.prog 13 #[.slice A ss.length c] w fun e w' => SaysB (ss.length ≤ 20 ∧ AllBare ss ss.length) e ∧ w = w' := by
  go_enter Tryd.func13, Tryd.ntmps13
  go_wp2
  go_loop [8] (fun i => ∃ k : Nat, i = .int .i64 k ∧ k ≤ ss.length ∧ Aside0 (AllBare ss k)) (fun i => ss.length - (intOf i).toNat)
  case atStart => exact ⟨0, rfl, Nat.zero_le _, ⟨fun j hj => by omega⟩⟩
  case round =>
    obtain ⟨k, rfl, hk, HP⟩ := hrel
    have hl := (C_len hr).2
    by_cases hlt : k < ss.length
    · obtain ⟨ad, rfl, h0⟩ := at_S hr (⟨#[]⟩ : ByteArray) k hlt
      obtain ⟨s, hs⟩ : ∃ s, s = ss.getD k ⟨#[]⟩ := ⟨_, rfl⟩
      rw [← hs] at h0
      have HS := Aside0.mk hs
      clear hs hr
      by_cases hz : s.size ≤ 100
      · go_wp2
        go_loop [22] (fun i => ∃ m : Nat, i = .int .i64 m ∧ m ≤ s.size ∧ Aside0 (∀ i, (h : i < s.size) → i < m → IsBB (s[i]'h).toNat)) (fun i => s.size - (intOf i).toNat)
        case atStart => exact ⟨0, rfl, Nat.zero_le _, ⟨fun i h hj => by omega⟩⟩
        case round =>
          obtain ⟨m, rfl, hm, HQ⟩ := hrel
          by_cases hmt : m < s.size
          · have hb0 : (0 : Int) ≤ (s[m]'hmt).toNat := by omega
            have hb1 : ((s[m]'hmt).toNat : Int) ≤ 255 := by have := (s[m]'hmt).toNat_lt; omega
            go_wp2
            · go_ret
              exact ⟨⟨_, rfl, fun h => by cases h⟩, rfl⟩
            · go_ret
              exact ⟨⟨_, rfl, fun h => by cases h⟩, rfl⟩
            · go_ret
              exact ⟨⟨_, rfl, fun h => by cases h⟩, rfl⟩
            · go_ret
              exact ⟨⟨_, rfl, fun h => by cases h⟩, rfl⟩
            · go_ret
              exact ⟨⟨_, rfl, fun h => by cases h⟩, rfl⟩
            · go_ret
              exact ⟨⟨_, rfl, fun h => by cases h⟩, rfl⟩
            · have h64 : (((s[m]'hmt).toNat : Int) == 64) = false := by assumption
              have h64' : ¬ ((s[m]'hmt).toNat : Int) = 64 := by simpa using h64
              go_round
              case rel =>
                refine ⟨m + 1, by go_num, by omega, ⟨fun i h hi => ?_⟩⟩
                by_cases e : i = m
                · subst e; unfold IsBB; omega
                · exact HQ.out i h (by omega)
              case measure => simp [intOf]; omega
          · have hm' : m = s.size := by omega
            subst hm'
            go_wp2
            go_round
            case rel =>
              refine ⟨k + 1, by go_num, by omega, ⟨fun j hj => ?_⟩⟩
              by_cases e : j = k
              · subst e; rw [← HS.out]; exact ⟨fun i h => HQ.out i h h, hz⟩
              · exact HP.out j (by omega)
            case measure => simp [intOf]; omega
      · go_wp2
        go_ret
        exact ⟨⟨_, rfl, fun h => by cases h⟩, rfl⟩
    · have hk' : k = ss.length := by omega
      subst hk'
      go_wp2
      go_ret
      exact ⟨⟨_, rfl, fun h => ⟨by have := of_decide_eq_true h; omega, HP.out⟩⟩, rfl⟩

end Go.Proofs.YtnpjnekoifheoaaDoor
