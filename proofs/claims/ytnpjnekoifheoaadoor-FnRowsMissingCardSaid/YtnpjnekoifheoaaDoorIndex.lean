/- sqlx.zzIndex of one byte. -/
import Derived.Test.YtnpjnekoifheoaaDoorLaws
import Derived.BigGuardPart
import Derived.Lib.Strings
namespace Go.Proofs.YtnpjnekoifheoaaDoor
open Go Go.RowKit Go.Proofs.YtnpjnekoifheoaaDoorW.PrintWords
set_option linter.unusedVariables false
set_option maxRecDepth 100000

/-- r is the first place of c in l, or -1. -/
def IdxIs (c : UInt8) (l : List UInt8) (r : Int) : Prop := (r = -1 ∧ c ∉ l) ∨ (0 ≤ r ∧ r < l.length ∧ l.getD r.toNat 0 = c ∧ c ∉ l.take r.toNat)

theorem ext_one (s : ByteArray) (k : Nat) (h : k < s.size) : (s.extract k (k + 1)).toList = [s.data.toList.getD k 0] := by
  rw [Lib.toList_data]
  have e : (s.extract k (k + 1)).data = s.data.extract k (k + 1) := by simp
  rw [e, Array.toList_extract]
  simp only [List.extract_eq_take_drop, Nat.add_sub_cancel_left]
  have hk : k < s.data.toList.length := by rw [← Lib.size_eq]; exact h
  rw [List.getD_eq_getElem?_getD, List.getElem?_eq_getElem hk, List.drop_eq_getElem_cons hk]
  rfl
theorem zzIndex_one (s : ByteArray) (c : UInt8) (w : World) (hs : s.size ≤ 4611686018427387904) :
    Calls Tryd.prog 49 #[.string s, .string ⟨#[c]⟩] w fun e w' => (∃ r, e = .returned (.int .i64 r) ∧ IdxIs c s.data.toList r) ∧ w' = w := by
  go_enter Tryd.func49, Tryd.ntmps49
  go_wp2
  go_loop [5] (fun i => ∃ k : Nat, i = .int .i64 k ∧ k ≤ s.size ∧ Aside0 (c ∉ s.data.toList.take k)) (fun i => s.size - (intOf i).toNat)
  case atStart => exact ⟨0, rfl, by omega, ⟨by simp⟩⟩
  case round =>
    obtain ⟨k, rfl, hk, H⟩ := hrel
    by_cases hlt : k < s.size
    · go_wp2
      · go_ret
        refine ⟨⟨_, rfl, .inr ⟨by omega, by rw [← Lib.size_eq]; omega, ?_, by simpa using H.out⟩⟩, rfl⟩
        have q := eq_of_beq (by assumption : ((s.extract k (k + 1)).toList == [c]) = true)
        rw [ext_one s k hlt] at q
        simpa using q
      · refine ⟨⟨k + 1, by go_num, by omega, ⟨?_⟩⟩, by simp [intOf]; omega⟩
        have q := ne_of_beq_false (by assumption : ((s.extract k (k + 1)).toList == [c]) = false)
        rw [ext_one s k hlt] at q
        rw [take_snoc' _ k (by rw [← Lib.size_eq]; exact hlt) (0 : UInt8), List.mem_append, not_or]
        exact ⟨H.out, fun h => q (by rw [List.mem_singleton.1 h])⟩
    · go_wp2
      go_ret
      have hk' : k = s.size := by omega
      refine ⟨⟨_, rfl, .inl ⟨rfl, ?_⟩⟩, rfl⟩
      have q := H.out
      rwa [hk', Lib.size_eq, List.take_length] at q
end Go.Proofs.YtnpjnekoifheoaaDoor
