/- sqlx.zzSpace: the place behind white space; sqlx.zzFold: a letter in any case. -/
import Derived.Test.YtnpjnekoifheoaaDoorIndex
namespace Go.Proofs.YtnpjnekoifheoaaDoor
open Go Go.RowKit Go.Proofs.YtnpjnekoifheoaaDoorW.PrintWords
set_option linter.unusedVariables false
set_option maxRecDepth 100000

/-- White space. -/
def isSp (b : UInt8) : Prop := b.toNat = 32 ∨ b.toNat = 9 ∨ b.toNat = 10 ∨ b.toNat = 12 ∨ b.toNat = 13
/-- r is the place behind the white space from k on. -/
def SpIs (l : List UInt8) (k r : Nat) : Prop := k ≤ r ∧ r ≤ l.length ∧ (∀ j, k ≤ j → j < r → isSp (l.getD j 0)) ∧ (r < l.length → ¬ isSp (l.getD r 0))
theorem getD_at (s : ByteArray) (r : Nat) (h : r < s.size) : s.data.toList.getD r 0 = s[r]'h := by
  have hk : r < s.data.toList.length := by rw [← Lib.size_eq]; exact h
  rw [List.getD_eq_getElem?_getD, List.getElem?_eq_getElem hk]
  rfl
theorem zzSpace_is (s : ByteArray) (k : Nat) (w : World) (hk : k ≤ s.size) (hs : s.size ≤ 4611686018427387904) :
    Calls Tryd.prog 84 #[.string s, .int .i64 k] w fun e w' => (∃ r : Nat, e = .returned (.int .i64 r) ∧ SpIs s.data.toList k r) ∧ w' = w := by
  go_enter Tryd.func84, Tryd.ntmps84
  go_wp2
  go_loop [1] (fun i => ∃ r : Nat, i = .int .i64 r ∧ k ≤ r ∧ r ≤ s.size ∧ Aside0 (∀ j, k ≤ j → j < r → isSp (s.data.toList.getD j 0))) (fun i => s.size - (intOf i).toNat)
  case atStart => exact ⟨k, rfl, Nat.le_refl _, hk, ⟨fun j h1 h2 => by omega⟩⟩
  case round =>
    obtain ⟨r, rfl, hkr, hr, H⟩ := hrel
    by_cases hlt : r < s.size
    · go_wp2
      all_goals first
        | (refine ⟨⟨r + 1, by go_num, by omega, by omega, ⟨fun j h1 h2 => ?_⟩⟩, by simp [intOf]; omega⟩
           by_cases e : j = r
           · subst e
             rw [getD_at s j hlt]
             unfold isSp
             first | omega | (have q := eq_of_beq (by assumption : ((s[j].toNat : Int) == 13) = true); omega)
           · exact H.out j h1 (by omega))
        | (go_ret
           refine ⟨⟨r, rfl, hkr, by rw [← Lib.size_eq]; omega, H.out, fun h => ?_⟩, rfl⟩
           have q := ne_of_beq_false (by assumption : ((s[r].toNat : Int) == 13) = false)
           rw [getD_at s r hlt]
           unfold isSp
           omega)
    · go_wp2
      go_ret
      have he : r = s.size := by omega
      exact ⟨⟨r, rfl, hkr, by rw [← Lib.size_eq]; omega, H.out, fun h => by rw [← Lib.size_eq] at h; omega⟩, rfl⟩
theorem ext_two (s : ByteArray) (k : Nat) (h : k + 1 < s.size) : (s.extract k (k + 2)).toList = [s.data.toList.getD k 0, s.data.toList.getD (k + 1) 0] := by
  rw [Lib.toList_data]
  have e : (s.extract k (k + 2)).data = s.data.extract k (k + 2) := by simp
  rw [e, Array.toList_extract]
  simp only [List.extract_eq_take_drop, Nat.add_sub_cancel_left]
  have hk : k + 1 < s.data.toList.length := by rw [← Lib.size_eq]; exact h
  have hk0 : k < s.data.toList.length := by omega
  rw [List.getD_eq_getElem?_getD, List.getD_eq_getElem?_getD, List.getElem?_eq_getElem hk, List.getElem?_eq_getElem hk0, List.drop_eq_getElem_cons hk0, List.drop_eq_getElem_cons hk]
  rfl
/-- n bytes at k are the letter c in any case. -/
def FoldIs (l : List UInt8) (k : Nat) (c : Int) (n : Int) : Prop :=
  (n = 1 ∧ k < l.length ∧ (((l.getD k 0).toNat : Int) = c ∨ ((l.getD k 0).toNat : Int) = c - 32)) ∨
  (n = 2 ∧ c = 115 ∧ k + 1 < l.length ∧ (l.getD k 0).toNat = 197 ∧ (l.getD (k + 1) 0).toNat = 191) ∨
  (n = 0 ∧ ¬ (k < l.length ∧ (((l.getD k 0).toNat : Int) = c ∨ ((l.getD k 0).toNat : Int) = c - 32)))
set_option maxHeartbeats 1600000 in
theorem zzFold_is (s : ByteArray) (k : Nat) (c : Int) (w : World) (hc : c = 118 ∨ c = 97 ∨ c = 108 ∨ c = 117 ∨ c = 101) (hk : k ≤ s.size) (hs : s.size ≤ 4611686018427387904) :
    Calls Tryd.prog 85 #[.string s, .int .i64 k, .int .u8 c] w fun e w' => (∃ n, e = .returned (.int .i64 n) ∧ FoldIs s.data.toList k c n) ∧ w' = w := by
  have hl := Lib.size_eq s
  have HL := Lib.hid hl
  clear hl
  go_enter Tryd.func85, Tryd.ntmps85
  by_cases hlt : k < s.size
  · have e1 := getD_at s k hlt
    have HE := Lib.hid e1
    clear e1
    rcases hc with rfl | rfl | rfl | rfl | rfl
    all_goals go_wp2
    all_goals
      go_ret
      refine ⟨⟨_, rfl, ?_⟩, rfl⟩
      unfold FoldIs
      rw [HE.out, ← HL.out]
      first | omega | (have q := eq_of_beq (α := Int) (by assumption); omega) | (have q := ne_of_beq_false (α := Int) (by assumption); omega)
  · rcases hc with rfl | rfl | rfl | rfl | rfl
    all_goals go_wp2
    all_goals
      go_ret
      refine ⟨⟨_, rfl, ?_⟩, rfl⟩
      unfold FoldIs
      rw [← HL.out]
      omega
set_option maxHeartbeats 1600000 in
theorem zzFold_s (s : ByteArray) (k : Nat) (w : World) (hk : k ≤ s.size) (hs : s.size ≤ 4611686018427387904) :
    Calls Tryd.prog 85 #[.string s, .int .i64 k, .int .u8 115] w fun e w' => (∃ n, e = .returned (.int .i64 n) ∧ FoldIs s.data.toList k 115 n) ∧ w' = w := by
  have hl := Lib.size_eq s
  have HL := Lib.hid hl
  clear hl
  go_enter Tryd.func85, Tryd.ntmps85
  by_cases hlt : k < s.size
  · have e1 := getD_at s k hlt
    have HE := Lib.hid e1
    clear e1
    go_wp2
    all_goals
      go_ret
      refine ⟨⟨_, rfl, ?_⟩, rfl⟩
      unfold FoldIs
      rw [← HL.out]
      first
        | (have q := eq_of_beq (by assumption : ((s.extract k (k + 2)).toList == [197, 191]) = true)
           have h2 := ext_two s k (by omega)
           rw [q] at h2
           have h3 := List.cons.inj h2
           have h4 := List.cons.inj h3.2
           rw [← h3.1, ← h4.1]
           exact .inr (.inl ⟨rfl, rfl, by omega, rfl, rfl⟩))
        | (rw [HE.out]; first | omega | (have q := eq_of_beq (α := Int) (by assumption); omega) | (have q := ne_of_beq_false (α := Int) (by assumption : ((s[k].toNat : Int) == 83) = false); omega))
  · go_wp2
    all_goals
      go_ret
      refine ⟨⟨_, rfl, ?_⟩, rfl⟩
      unfold FoldIs
      rw [← HL.out]
      omega
end Go.Proofs.YtnpjnekoifheoaaDoor
