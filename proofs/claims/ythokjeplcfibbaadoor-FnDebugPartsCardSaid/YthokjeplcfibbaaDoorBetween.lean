/- laws.between9 with question marks. -/
import Derived.Test.YthokjeplcfibbaaDoorTexts
namespace Go.Proofs.YthokjeplcfibbaaDoor
open Go Go.RowKit Go.Proofs.YthokjeplcfibbaaDoorW.PrintWords
set_option linter.unusedVariables false
set_option maxRecDepth 100000

/-- What between9 writes in k rounds: texts with something between each two. -/
def betw (l : List ByteArray) (m : Nat → List UInt8) : Nat → List UInt8
  | 0 => []
  | k + 1 => betw l m k ++ ((if k = 0 then [] else m k) ++ (l.getD k ⟨#[]⟩).data.toList)
theorem betw_len (l : List ByteArray) (m : Nat → List UInt8) (M : Nat) (hm : ∀ i, (m i).length ≤ M) (hl : ∀ j, (l.getD j ⟨#[]⟩).size ≤ 100) (k : Nat) : (betw l m k).length ≤ (100 + M) * k := by
  induction k with
  | zero => simp [betw]
  | succ k ih =>
    have h1 := hm k
    have h2 := hl k
    rw [Lib.size_eq] at h2
    rw [betw, List.length_append, List.length_append, Nat.mul_succ]
    by_cases hk : k = 0
    · rw [if_pos hk]; simp only [List.length_nil]; omega
    · rw [if_neg hk]; omega
theorem app_data' (s t : ByteArray) : (s ++ t).data.toList = s.data.toList ++ t.data.toList := by simp
theorem app_size' (s t : ByteArray) : (s ++ t).size = s.size + t.size := by simp
theorem question9_is (i : Int) (w : World) : Calls Tryd.prog 9 #[.int .i64 i] w fun e w' => e = .returned (.string ⟨#[63]⟩) ∧ w' = w := by
  go_enter Tryd.func9, Tryd.ntmps9
  go_wp2
  go_ret
  exact ⟨rfl, rfl⟩
set_option maxHeartbeats 800000 in
theorem between9_question (ss : List ByteArray) (A : Option Addr) (c : Nat) (w : World) (hr : Kd.string.C w A ss.length ss) (hn : ss.length ≤ 20) (hl : ∀ j, (ss.getD j ⟨#[]⟩).size ≤ 100) :
    Calls Tryd.prog 8 #[.slice A ss.length c, .func (.func 9) #[] #[]] w fun e w' => (∃ S : ByteArray, e = .returned (.string S) ∧ S.data.toList = betw ss (fun _ => [63]) ss.length ∧ S.size ≤ 3000) ∧ w' = w := by
  have HR := Aside0.mk hr
  have HL := Lib.hid hl
  clear hr hl
  go_enter Tryd.func8, Tryd.ntmps8
  go_wp2
  go_loop [5, 9] (fun s i => ∃ (k : Nat) (S : ByteArray), i = .int .i64 k ∧ s = .string S ∧ k ≤ ss.length ∧ S.size ≤ 101 * k ∧ Aside0 (S.data.toList = betw ss (fun _ => [63]) k)) (fun _ i => ss.length - (intOf i).toNat)
  case atStart => exact ⟨0, ⟨#[]⟩, rfl, rfl, Nat.zero_le _, Nat.le_refl _, ⟨rfl⟩⟩
  case round =>
    obtain ⟨k, S, rfl, rfl, hk, hz, HSS⟩ := hrel
    by_cases hlt : k < ss.length
    · obtain ⟨ad, rfl, h0⟩ := at_S HR.out (⟨#[]⟩ : ByteArray) k hlt
      have hsz := HL.out k
      obtain ⟨s, hs⟩ : ∃ s, s = ss.getD k ⟨#[]⟩ := ⟨_, rfl⟩
      rw [← hs] at h0 hsz
      have HS := Aside0.mk hs
      clear hs
      by_cases hk0 : (0 : Int) < (k : Int)
      · go_wp2_with (go_at_call 9; refine (question9_is _ _).mono ?_; rintro e w1 ⟨rfl, rfl⟩)
        go_round
        case rel =>
          refine ⟨k + 1, _, by go_num, rfl, by omega, ?_, ⟨?_⟩⟩
          · rw [app_size', app_size']
            have e1 : (⟨#[63]⟩ : ByteArray).size = 1 := rfl
            omega
          · rw [app_data', app_data', HSS.out, HS.out, betw, if_neg (by omega)]
            simp
        case measure => simp [intOf]; omega
      · go_wp2
        go_round
        case rel =>
          refine ⟨k + 1, _, by go_num, rfl, by omega, by rw [app_size']; omega, ⟨?_⟩⟩
          rw [app_data', HSS.out, HS.out, betw, if_pos (by omega)]
          simp
        case measure => simp [intOf]; omega
    · have hk' : k = ss.length := by omega
      subst hk'
      go_wp2
      go_ret
      exact ⟨⟨S, rfl, HSS.out, by omega⟩, rfl⟩
end Go.Proofs.YthokjeplcfibbaaDoor
