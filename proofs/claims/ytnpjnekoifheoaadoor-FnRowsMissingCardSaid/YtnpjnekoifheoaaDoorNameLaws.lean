/- Names and bare texts through the machine: plain Lean. -/
import Derived.Test.YtnpjnekoifheoaaDoorCompM
namespace Go.Proofs.YtnpjnekoifheoaaDoor
open Go Go.RowKit Go.Proofs.YtnpjnekoifheoaaDoorW.PrintWords
set_option linter.unusedVariables false
set_option maxRecDepth 100000

/-- A name: its bytes, and its last one. -/
theorem name_split {s : ByteArray} (h : NameOk s) : (∀ b ∈ s.data.toList, nb b) ∧ ∃ pre c, s.data.toList = pre ++ [c] ∧ alw c = true := by
  obtain ⟨h1, h2, h3, h4⟩ := h
  have hs := Lib.size_eq s
  have hall : ∀ b ∈ s.data.toList, nb b := by
    intro b hb
    obtain ⟨i, hi, rfl⟩ := List.getElem_of_mem hb
    exact nb_of (h1 i (by omega))
  refine ⟨hall, s.data.toList.take (s.size - 1), s.data.toList[s.size - 1]'(by omega), ?_, ?_⟩
  · rw [← List.take_succ_eq_append_getElem (by omega), show s.size - 1 + 1 = s.size by omega, hs, List.take_length]
  · have h5 := hall _ (List.getElem_mem (l := s.data.toList) (n := s.size - 1) (by omega))
    have h6 := h4 (by omega)
    have e : (s.data.toList[s.size - 1]'(by omega)) = s[s.size - 1]'(by omega) := rfl
    rcases h5.1 with h7 | h7 | h7
    · exact h7
    · rw [e] at h7; rw [h7] at h6; exact absurd rfl h6.1
    · rw [e] at h7; rw [h7] at h6; exact absurd rfl h6.2
theorem nb_58 {l : List UInt8} (h : ∀ b ∈ l, nb b) : (58 : UInt8) ∉ l := fun hm => (h 58 hm).2.1 rfl
theorem bare_58 {s : ByteArray} (h : BareOk s) : (58 : UInt8) ∉ s.data.toList := by
  intro hm
  obtain ⟨i, hi, he⟩ := List.getElem_of_mem hm
  have h1 := h.1 i (by rw [Lib.size_eq]; exact hi)
  have e : (s.data.toList[i]'hi) = s[i]'(by rw [Lib.size_eq]; exact hi) := rfl
  rw [← e, he] at h1
  exact h1.2.2.2.1 rfl
theorem name_ne {s : ByteArray} (h : NameOk s) : s.data.toList ≠ [] := fun e => by
  have := h.2.1
  rw [Lib.size_eq, e] at this
  simp at this
/-- A name with its colon, at the end. -/
theorem crun_nameEnd (k : Int) {s : ByteArray} (h : NameOk s) (R : List UInt8) (N : List ByteArray) : crun k (58 :: s.data.toList) ⟨R, N, none⟩ = some ⟨R ++ markL k (N.length + 1) s.data.toList, N ++ [s], none⟩ := by
  obtain ⟨h1, pre, c, e, hc⟩ := name_split h
  have hcn : nb c := h1 c (by rw [e]; simp)
  rw [e, crun_markEnd k pre c R N (fun b hb => h1 b (by rw [e]; simp [hb])) ⟨hc, hcn.2.1, hcn.2.2⟩, ← e]
/-- A name with its colon, ahead of a sign that ends it. -/
theorem crun_nameThen (k : Int) {s : ByteArray} (h : NameOk s) (c : UInt8) (hc : alw c = false ∧ c ≠ 95 ∧ c ≠ 46 ∧ c ≠ 58) (R : List UInt8) (N : List ByteArray) (rest : List UInt8) (hr : c ≠ 61 ∨ rest ≠ []) : crun k (58 :: (s.data.toList ++ c :: rest)) ⟨R, N, none⟩ = crun k rest ⟨R ++ markL k (N.length + 1) s.data.toList ++ [c], N ++ [s], none⟩ := by
  rw [crun_mark k s.data.toList rest c R N (name_split h).1 (name_ne h) hc hr]
theorem sp32 : alw 32 = false ∧ (32 : UInt8) ≠ 95 ∧ (32 : UInt8) ≠ 46 ∧ (32 : UInt8) ≠ 58 := by decide
theorem crun_all (k : Int) (l : List UInt8) (R : List UInt8) (N : List ByteArray) (h : (58 : UInt8) ∉ l) : crun k l ⟨R, N, none⟩ = some ⟨R ++ l, N, none⟩ := by
  have := crun_plain k l [] R N h
  rwa [List.append_nil, crun] at this
theorem count_0 {l : List UInt8} (h : (58 : UInt8) ∉ l) : l.count 58 = 0 := List.count_eq_zero.2 h
/-- a := b :name -/
theorem assign_1 (k : Int) {a b s : ByteArray} (ha : BareOk a) (hb : BareOk b) (hs : NameOk s) : crun k (a ++ ⟨#[58, 61]⟩ ++ b ++ ⟨#[58]⟩ ++ s).data.toList ⟨[], [], none⟩ = some ⟨(a ++ ⟨#[58, 61]⟩ ++ b).data.toList ++ markL k 1 s.data.toList ++ (⟨#[]⟩ : ByteArray).data.toList, [s], none⟩ := by
  have e : (a ++ ⟨#[58, 61]⟩ ++ b ++ ⟨#[58]⟩ ++ s).data.toList = a.data.toList ++ 58 :: 61 :: (b.data.toList ++ 58 :: s.data.toList) := by simp
  rw [e, crun_plain k _ _ _ _ (bare_58 ha), crun_assign, crun_plain k _ _ _ _ (bare_58 hb), crun_nameEnd k hs]
  simp
/-- :name := b -/
theorem assign_2 (k : Int) {b s : ByteArray} (hb : BareOk b) (hs : NameOk s) : crun k (⟨#[58]⟩ ++ s ++ ⟨#[32, 58, 61, 32]⟩ ++ b).data.toList ⟨[], [], none⟩ = some ⟨(⟨#[]⟩ : ByteArray).data.toList ++ markL k 1 s.data.toList ++ (⟨#[32, 58, 61, 32]⟩ ++ b : ByteArray).data.toList, [s], none⟩ := by
  have e : (⟨#[58]⟩ ++ s ++ ⟨#[32, 58, 61, 32]⟩ ++ b : ByteArray).data.toList = 58 :: (s.data.toList ++ 32 :: (58 :: 61 :: (32 :: b.data.toList))) := by simp
  have h32 : (58 : UInt8) ∉ (32 : UInt8) :: b.data.toList := by
    simp only [List.mem_cons, not_or]
    exact ⟨by decide, bare_58 hb⟩
  rw [e, crun_nameThen k hs 32 sp32 _ _ _ (.inl (by decide)), crun_assign, crun_all k _ _ _ h32]
  simp
theorem count_1 {a b s : ByteArray} (ha : BareOk a) (hb : BareOk b) (hs : NameOk s) : (a ++ ⟨#[58, 61]⟩ ++ b ++ ⟨#[58]⟩ ++ s).data.toList.count 58 ≤ 90 := by
  simp [count_0 (bare_58 ha), count_0 (bare_58 hb), count_0 (nb_58 (name_split hs).1)]
theorem count_2 {b s : ByteArray} (hb : BareOk b) (hs : NameOk s) : (⟨#[58]⟩ ++ s ++ ⟨#[32, 58, 61, 32]⟩ ++ b : ByteArray).data.toList.count 58 ≤ 90 := by
  simp [count_0 (bare_58 hb), count_0 (nb_58 (name_split hs).1)]
end Go.Proofs.YtnpjnekoifheoaaDoor
