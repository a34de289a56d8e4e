/- The text of an insert: through the machine, and its bracket behind VALUES. Plain Lean. -/
import Derived.Test.YtnpjnekoifheoaaDoorNameLaws
import Derived.Test.YtnpjnekoifheoaaDoorVals
namespace Go.Proofs.YtnpjnekoifheoaaDoor
open Go Go.RowKit Go.Proofs.YtnpjnekoifheoaaDoorW.PrintWords
set_option linter.unusedVariables false
set_option maxRecDepth 100000

/-- A byte of ASCII that is no bracket and no colon. -/
abbrev qb (b : UInt8) : Prop := b ≠ 40 ∧ b ≠ 41 ∧ b ≠ 58 ∧ b < 128
def nmAt (l : List ByteArray) (i : Nat) : List UInt8 := (l.getD i ⟨#[]⟩).data.toList
theorem sp44 : alw 44 = false ∧ (44 : UInt8) ≠ 95 ∧ (44 : UInt8) ≠ 46 ∧ (44 : UInt8) ≠ 58 := by decide
def sepL (i : Nat) : List UInt8 := if i = 0 then [] else [44, 32]
def colsL : Nat → List UInt8
  | 0 => []
  | i + 1 => colsL i ++ sepL i ++ 99 :: Lib.decDigits i
def marksL : Nat → List UInt8
  | 0 => []
  | i + 1 => marksL i ++ sepL i ++ [63]
def askL (names : List ByteArray) : Nat → List UInt8
  | 0 => []
  | i + 1 => askL names i ++ sepL i ++ 58 :: nmAt names i
abbrev insB : ByteArray := ⟨#[73, 78, 83, 69, 82, 84, 32, 73, 78, 84, 79, 32, 116, 32, 40]⟩
def preL (n : Nat) : List UInt8 := [73, 78, 83, 69, 82, 84, 32, 73, 78, 84, 79, 32, 116, 32, 40] ++ colsL n
def headL (n : Nat) (w : List UInt8) : List UInt8 := preL n ++ 41 :: w
def textL (names : List ByteArray) (n : Nat) (w b : List UInt8) : List UInt8 := headL n w ++ 40 :: (askL names n ++ 41 :: b)
def boundL (n : Nat) (w b : List UInt8) : List UInt8 := headL n w ++ 40 :: (marksL n ++ 41 :: b)
/-- So many brackets with commas between. -/
def repL (n : Nat) : Nat → List UInt8
  | 0 => []
  | i + 1 => repL n i ++ (if i = 0 then [] else [44]) ++ 40 :: (marksL n ++ [41])
def wantL (n many : Nat) (w b : List UInt8) : List UInt8 := headL n w ++ repL n many ++ b
theorem sep_q (i : Nat) : ∀ b ∈ sepL i, qb b := by
  unfold sepL
  split
  · simp
  · decide
theorem dig_q : ∀ i, i < 10 → qb (UInt8.ofNat (48 + i)) := by decide
theorem cols_q : ∀ i, i ≤ 10 → ∀ b ∈ colsL i, qb b := by
  intro i
  induction i with
  | zero => intro _ b hb; cases hb
  | succ i ih =>
    intro hi b hb
    rw [colsL, dec_last i (by omega)] at hb
    rcases List.mem_append.1 hb with hb | hb
    · rcases List.mem_append.1 hb with hb | hb
      · exact ih (by omega) b hb
      · exact sep_q i b hb
    · rcases List.mem_cons.1 hb with rfl | hb
      · decide
      · rw [List.mem_singleton.1 hb]
        exact dig_q i (by omega)
theorem marks_q : ∀ i, ∀ b ∈ marksL i, qb b := by
  intro i
  induction i with
  | zero => intro b hb; cases hb
  | succ i ih =>
    intro b hb
    rw [marksL] at hb
    rcases List.mem_append.1 hb with hb | hb
    · rcases List.mem_append.1 hb with hb | hb
      · exact ih b hb
      · exact sep_q i b hb
    · rw [List.mem_singleton.1 hb]
      decide
theorem pre_41 (n : Nat) (hn : n ≤ 10) : (41 : UInt8) ∉ preL n := by
  intro h
  rcases List.mem_append.1 h with h | h
  · exact absurd h (by decide)
  · exact (cols_q n hn _ h).2.1 rfl
theorem pre_58 (n : Nat) (hn : n ≤ 10) : (58 : UInt8) ∉ preL n := by
  intro h
  rcases List.mem_append.1 h with h | h
  · exact absurd h (by decide)
  · exact (cols_q n hn _ h).2.2.1 rfl
theorem head_58 (n : Nat) (hn : n ≤ 10) (w : List UInt8) (hw : (58 : UInt8) ∉ w) : (58 : UInt8) ∉ headL n w ++ [40] := by
  unfold headL
  simp only [List.mem_append, List.mem_cons, not_or]
  exact ⟨⟨pre_58 n hn, by decide, hw⟩, by decide, by simp⟩
theorem ask_run (names : List ByteArray) (R0 : List UInt8) : ∀ (i : Nat), i + 1 ≤ names.length → (∀ j, j < i + 1 → NameOk (names.getD j ⟨#[]⟩)) → ∀ (c : UInt8), (alw c = false ∧ c ≠ 95 ∧ c ≠ 46 ∧ c ≠ 58) → c ≠ 61 → ∀ rest,
    crun 1 (askL names (i + 1) ++ c :: rest) ⟨R0, [], none⟩ = crun 1 rest ⟨R0 ++ marksL (i + 1) ++ [c], names.take (i + 1), none⟩ := by
  intro i
  induction i with
  | zero =>
    intro hi hn c hc hc2 rest
    have e : askL names 1 ++ c :: rest = 58 :: ((names.getD 0 ⟨#[]⟩).data.toList ++ c :: rest) := by simp [askL, sepL, nmAt]
    rw [e, crun_nameThen 1 (hn 0 (by omega)) c hc _ _ _ (.inl hc2), take_snoc' names 0 (by omega) (⟨#[]⟩ : ByteArray)]
    simp [marksL, sepL, markL]
  | succ i ih =>
    intro hi hn c hc hc2 rest
    have e : askL names (i + 2) ++ c :: rest = askL names (i + 1) ++ 44 :: ([32] ++ (58 :: ((names.getD (i + 1) ⟨#[]⟩).data.toList ++ c :: rest))) := by
      rw [askL]
      simp [sepL, nmAt]
    rw [e, ih (by omega) (fun j hj => hn j (by omega)) 44 sp44 (by decide), crun_plain 1 [32] _ _ _ (by decide), crun_nameThen 1 (hn (i + 1) (by omega)) c hc _ _ _ (.inl hc2), take_snoc' names (i + 1) (by omega) (⟨#[]⟩ : ByteArray)]
    rw [show marksL (i + 1 + 1) = marksL (i + 1) ++ sepL (i + 1) ++ [63] from rfl]
    simp [sepL, markL]
theorem insert_run (names : List ByteArray) (w b : List UInt8) (h0 : 0 < names.length) (h10 : names.length ≤ 10) (hn : ∀ j, j < names.length → NameOk (names.getD j ⟨#[]⟩)) (hw : (58 : UInt8) ∉ w) (hb : (58 : UInt8) ∉ b) :
    crun 1 (textL names names.length w b) ⟨[], [], none⟩ = some ⟨boundL names.length w b, names, none⟩ := by
  obtain ⟨m, hm⟩ : ∃ m, names.length = m + 1 := ⟨names.length - 1, by omega⟩
  have e : textL names names.length w b = (headL names.length w ++ [40]) ++ (askL names (m + 1) ++ 41 :: b) := by rw [hm]; simp [textL]
  rw [e, crun_plain 1 _ _ _ _ (head_58 _ h10 w hw), ask_run names _ m (by omega) (fun j hj => hn j (by omega)) 41 (by decide) (by decide) b, crun_all 1 _ _ _ hb, ← hm, List.take_length]
  simp [boundL]
theorem ask_count (names : List ByteArray) : ∀ (i : Nat), i ≤ names.length → (∀ j, j < i → NameOk (names.getD j ⟨#[]⟩)) → (askL names i).count 58 = i := by
  intro i
  induction i with
  | zero => intro _ _; rfl
  | succ i ih =>
    intro hi hn
    have h1 := hn i (by omega)
    have h2 := count_0 (nb_58 (name_split h1).1)
    have h3 : (sepL i).count 58 = 0 := count_0 (fun h => (sep_q i _ h).2.2.1 rfl)
    simp [askL, nmAt, List.count_append, h3, ih (by omega) (fun j hj => hn j (by omega))] at h2 ⊢
    omega
theorem insert_count (names : List ByteArray) (w b : List UInt8) (h10 : names.length ≤ 10) (hn : ∀ j, j < names.length → NameOk (names.getD j ⟨#[]⟩)) (hw : (58 : UInt8) ∉ w) (hb : (58 : UInt8) ∉ b) : (textL names names.length w b).count 58 ≤ 90 := by
  have e : textL names names.length w b = (headL names.length w ++ [40]) ++ (askL names names.length ++ 41 :: b) := by simp [textL]
  rw [e, List.count_append, count_0 (head_58 _ h10 w hw), List.count_append, ask_count names _ (Nat.le_refl _) hn, List.count_cons, count_0 hb]
  simp
  omega

/-! The bracket. -/
theorem getD_tail (p t : List UInt8) (j : Nat) : (p ++ t).getD (p.length + j) 0 = t.getD j 0 := by
  rw [List.getD_eq_getElem?_getD, List.getD_eq_getElem?_getD, List.getElem?_append_right (by omega), Nat.add_sub_cancel_left]
theorem sp_det {l : List UInt8} {k r r' : Nat} (h : SpIs l k r) (h' : SpIs l k r') : r = r' := by
  obtain ⟨a1, a2, a3, a4⟩ := h
  obtain ⟨b1, b2, b3, b4⟩ := h'
  rcases Nat.lt_trichotomy r r' with h | h | h
  · exact absurd (b3 r a1 h) (a4 (by omega))
  · exact h
  · exact absurd (a3 r' b1 h) (b4 (by omega))
theorem sp_one {l : List UInt8} {k : Nat} (h1 : k + 1 < l.length) (h2 : isSp (l.getD k 0)) (h3 : ¬ isSp (l.getD (k + 1) 0)) : SpIs l k (k + 1) :=
  ⟨by omega, by omega, fun j h4 h5 => by
    have e : j = k := by omega
    rw [e]
    exact h2, fun _ => h3⟩
theorem sp_none {l : List UInt8} {k : Nat} (h1 : k < l.length) (h3 : ¬ isSp (l.getD k 0)) : SpIs l k k := ⟨Nat.le_refl _, by omega, fun j h4 h5 => by omega, fun _ => h3⟩
theorem folds_peel {l : List UInt8} {k r : Nat} {c : Int} {cs : List Int} (h : FoldsTo l k (c :: cs) r) (hb : ((l.getD k 0).toNat : Int) ≠ 197) : k < l.length ∧ (((l.getD k 0).toNat : Int) = c ∨ ((l.getD k 0).toNat : Int) = c - 32) ∧ FoldsTo l (k + 1) cs r := by
  obtain ⟨n, hn, hf, hr⟩ := h
  unfold FoldIs at hf
  rcases hf with ⟨h1, h2, h3⟩ | ⟨h1, h2, h3, h4, h5⟩ | ⟨h1, h2⟩
  · have e : n = 1 := by omega
    subst e
    exact ⟨h2, h3, hr⟩
  · exfalso; omega
  · exfalso; omega
theorem folds_word {l : List UInt8} : ∀ (cs : List Int) {k r : Nat}, FoldsTo l k cs r → (∀ j, j < cs.length → ((l.getD (k + j) 0).toNat : Int) ≠ 197) → r = k + cs.length ∧ ∀ j, j < cs.length → k + j < l.length ∧ (((l.getD (k + j) 0).toNat : Int) = cs.getD j 0 ∨ ((l.getD (k + j) 0).toNat : Int) = cs.getD j 0 - 32) := by
  intro cs
  induction cs with
  | nil => intro k r h _; exact ⟨(show k = r from h).symm, fun j hj => by cases hj⟩
  | cons c cs ih =>
    intro k r h hb
    obtain ⟨h1, h2, h3⟩ := folds_peel h (hb 0 (by simp))
    obtain ⟨h4, h5⟩ := ih h3 (fun j hj => by have := hb (j + 1) (by simpa using hj); rwa [show k + (j + 1) = k + 1 + j by omega] at this)
    refine ⟨by rw [h4, List.length_cons]; omega, fun j hj => ?_⟩
    cases j with
    | zero => exact ⟨by omega, by simpa using h2⟩
    | succ j =>
      have := h5 j (by simpa using hj)
      rw [show k + 1 + j = k + (j + 1) by omega] at this
      simpa using this
theorem fold_here {l : List UInt8} {k : Nat} {c n : Int} (h : FoldIs l k c n) (h1 : k < l.length) (h2 : ((l.getD k 0).toNat : Int) = c - 32) : n ≠ 0 := by
  unfold FoldIs at h
  omega
/-- The word as it is written. -/
def VALS (l : List UInt8) (k : Nat) : Prop := k + 6 ≤ l.length ∧ ((l.getD k 0).toNat = 86 ∧ (l.getD (k + 1) 0).toNat = 65 ∧ (l.getD (k + 2) 0).toNat = 76 ∧ (l.getD (k + 3) 0).toNat = 85 ∧ (l.getD (k + 4) 0).toNat = 69 ∧ (l.getD (k + 5) 0).toNat = 83)
theorem VALS.at {l : List UInt8} {k : Nat} (h : VALS l k) : ∀ j, j < 6 → k + j < l.length ∧ ((l.getD (k + j) 0).toNat : Int) = vals.getD j 0 - 32 := by
  obtain ⟨h0, h1, h2, h3, h4, h5, h6⟩ := h
  intro j hj
  refine ⟨by omega, ?_⟩
  match j, hj with
  | 0, _ => rw [Nat.add_zero, h1]; rfl
  | 1, _ => rw [h2]; rfl
  | 2, _ => rw [h3]; rfl
  | 3, _ => rw [h4]; rfl
  | 4, _ => rw [h5]; rfl
  | 5, _ => rw [h6]; rfl
theorem vals_le (j : Nat) (h : j < 6) : vals.getD j 0 ≤ 120 := by
  match j, h with
  | 0, _ => decide
  | 1, _ => decide
  | 2, _ => decide
  | 3, _ => decide
  | 4, _ => decide
  | 5, _ => decide
theorem VALS.end {l : List UInt8} {k r : Nat} (h : VALS l k) (hf : FoldsTo l k vals r) : r = k + 6 :=
  (folds_word vals hf (fun j hj => by have h1 := (h.at j hj).2; have h2 := vals_le j hj; omega)).1
theorem VALS.part {l : List UInt8} {k r j : Nat} (h : VALS l k) (hj : j < 6) (hf : FoldsTo l k (vals.take j) r) : ¬ FoldIs l r (vals.getD j 0) 0 := by
  have hl : (vals.take j).length = j := by rw [List.length_take]; exact Nat.min_eq_left (by have : vals.length = 6 := rfl; omega)
  have e : r = k + j := by
    have := (folds_word (vals.take j) hf (fun q hq => by
      rw [hl] at hq
      have h1 := (h.at q (by omega)).2
      have h2 := vals_le q (by omega)
      omega)).1
    rwa [hl] at this
  subst e
  intro hfi
  exact fold_here hfi (h.at j hj).1 (h.at j hj).2 rfl
/-- Where the first closing bracket has the word behind it, there it is. -/
theorem hit_only {l : List UInt8} {i0 i K K0 : Nat} (h41 : l.getD i0 0 = 41) (hbefore : ∀ j, j < i0 → l.getD j 0 ≠ 41) (hsp : SpIs l (i0 + 1) (i0 + 2)) (hv : VALS l (i0 + 2)) (hsp2 : SpIs l (i0 + 8) K0) (h : HitAt l i K) (hf : ∀ j, j < i → FailAt l j) (hK : K0 < l.length) (hK40 : l.getD K0 0 = 40) : K = K0 := by
  obtain ⟨h1, k0, k, h2, h3, h4, h5, h6⟩ := h
  have hi : i = i0 := by
    rcases Nat.lt_trichotomy i i0 with h | h | h
    · exact absurd h1 (hbefore i h)
    · exact h
    · exfalso
      rcases hf i0 h with h | ⟨q0, g1, h⟩
      · exact h h41
      · have e : q0 = i0 + 2 := sp_det g1 hsp
        subst e
        rcases h with ⟨j, q, g2, g3, g4⟩ | ⟨q, Q, g2, g3, g4⟩
        · exact hv.part g2 g3 g4
        · have e : q = i0 + 2 + 6 := hv.end g2
          subst e
          have e : Q = K0 := sp_det g3 hsp2
          subst e
          exact g4 ⟨hK, hK40⟩
  subst hi
  have e : k0 = i + 2 := sp_det h2 hsp
  subst e
  have e : k = i + 2 + 6 := hv.end h3
  subst e
  exact sp_det h4 hsp2
theorem fail_not {l : List UInt8} {i0 K0 : Nat} (h41 : l.getD i0 0 = 41) (hsp : SpIs l (i0 + 1) (i0 + 2)) (hv : VALS l (i0 + 2)) (hsp2 : SpIs l (i0 + 8) K0) (hK : K0 < l.length) (hK40 : l.getD K0 0 = 40) : ¬ FailAt l i0 := by
  rintro (h | ⟨q0, g1, h⟩)
  · exact h h41
  · have e : q0 = i0 + 2 := sp_det g1 hsp
    subst e
    rcases h with ⟨j, q, g2, g3, g4⟩ | ⟨q, Q, g2, g3, g4⟩
    · exact hv.part g2 g3 g4
    · have e : q = i0 + 2 + 6 := hv.end g2
      subst e
      have e : Q = K0 := sp_det g3 hsp2
      subst e
      exact g4 ⟨hK, hK40⟩
abbrev valuesW : List UInt8 := [32, 86, 65, 76, 85, 69, 83, 32]
theorem getD_pre {p t : List UInt8} {j : Nat} (h : j < p.length) (hn : (41 : UInt8) ∉ p) : (p ++ t).getD j 0 ≠ 41 := by
  rw [List.getD_eq_getElem?_getD, List.getElem?_append_left h, List.getElem?_eq_getElem h]
  intro e
  exact hn (by rw [← show p[j] = 41 from e]; exact List.getElem_mem h)
theorem isSp32 : isSp 32 := .inl rfl
theorem facts_values (n : Nat) (hn : n ≤ 10) (b : List UInt8) : ∃ i0, i0 = (preL n).length ∧ (boundL n valuesW b).getD i0 0 = 41 ∧ (∀ j, j < i0 → (boundL n valuesW b).getD j 0 ≠ 41) ∧ SpIs (boundL n valuesW b) (i0 + 1) (i0 + 2) ∧ VALS (boundL n valuesW b) (i0 + 2) ∧ SpIs (boundL n valuesW b) (i0 + 8) (headL n valuesW).length ∧ (headL n valuesW).length < (boundL n valuesW b).length ∧ (boundL n valuesW b).getD (headL n valuesW).length 0 = 40 := by
  obtain ⟨t, ht⟩ : ∃ t, t = marksL n ++ 41 :: b := ⟨_, rfl⟩
  have e : boundL n valuesW b = preL n ++ (41 :: 32 :: 86 :: 65 :: 76 :: 85 :: 69 :: 83 :: 32 :: 40 :: t) := by rw [ht]; simp [boundL, headL]
  have hh : (headL n valuesW).length = (preL n).length + 9 := by simp [headL]
  have hlen : (boundL n valuesW b).length = (preL n).length + 10 + t.length := by rw [e]; simp; omega
  have g : ∀ j, (boundL n valuesW b).getD ((preL n).length + j) 0 = (41 :: 32 :: 86 :: 65 :: 76 :: 85 :: 69 :: 83 :: 32 :: 40 :: t : List UInt8).getD j 0 := fun j => by rw [e]; exact getD_tail _ _ _
  refine ⟨_, rfl, by have := g 0; simpa using this, fun j hj => by rw [e]; exact getD_pre hj (pre_41 n hn), ?_, ⟨by omega, ?_⟩, ?_, by omega, by rw [hh, g 9]; rfl⟩
  · refine sp_one (by omega) (by rw [g 1]; exact isSp32) ?_
    rw [show (preL n).length + 1 + 1 = (preL n).length + 2 from rfl, g 2]
    show ¬ isSp 86
    unfold isSp
    decide
  · refine ⟨by rw [g 2]; rfl, by rw [Nat.add_assoc, g 3]; rfl, by rw [Nat.add_assoc, g 4]; rfl, by rw [Nat.add_assoc, g 5]; rfl, by rw [Nat.add_assoc, g 6]; rfl, by rw [Nat.add_assoc, g 7]; rfl⟩
  · rw [hh]
    refine sp_one (k := (preL n).length + 8) (by omega) (by rw [g 8]; exact isSp32) ?_
    rw [show (preL n).length + 8 + 1 = (preL n).length + 9 from rfl, g 9]
    show ¬ isSp 40
    unfold isSp
    decide
theorem fm_marks (m r : List UInt8) : ∀ (pos : Nat), (∀ b ∈ m, qb b) → fm (m ++ 41 :: r) pos 1 = pos + m.length := by
  induction m with
  | nil =>
    intro pos _
    simp [fm]
  | cons c m ih =>
    intro pos h
    have h1 := h c (by simp)
    rw [List.cons_append, fm, if_neg h1.1, if_neg h1.2.1, ih (pos + 1) (fun b hb => h b (by simp [hb])), List.length_cons]
    omega
theorem fm_bracket (n : Nat) (b : List UInt8) : fm (40 :: (marksL n ++ 41 :: b)) 0 0 = (marksL n).length + 1 := by
  rw [fm, if_pos rfl, show (0 : Int) + 1 = 1 from rfl, fm_marks _ _ _ (marks_q n)]
  omega
/-! Other words. -/
theorem no_hit_last {l : List UInt8} {i K : Nat} (hi : i + 1 = l.length) : ¬ HitAt l i K := by
  rintro ⟨h1, k0, k, h2, h3, h4, h5, h6⟩
  obtain ⟨a1, a2, a3, a4⟩ := h2
  obtain ⟨n, hn, hf, hr⟩ := h3
  unfold FoldIs at hf
  have e : k0 = l.length := by omega
  omega
/-- The five words. -/
def otherW : Nat → List UInt8
  | 0 => [32, 86, 65, 76, 85, 69, 32]
  | 1 => [32]
  | 2 => [32, 83, 69, 76, 69, 67, 84, 32]
  | 3 => [32, 86, 65, 76, 85, 69, 83, 83, 32]
  | _ => [32, 86, 65, 76, 85, 69, 32, 83, 32]
/-- A letter falls, ahead of a long s. -/
def missW : List UInt8 → List Int → Bool
  | [], _ => false
  | _, [] => false
  | b :: t, c :: cs => (b.toNat : Int) != 197 && (if (b.toNat : Int) == c || (b.toNat : Int) == c - 32 then missW t cs else true)
theorem folds_miss {l : List UInt8} : ∀ (cs : List Int) (t : List UInt8) (k r : Nat), (∀ j, l.getD (k + j) 0 = t.getD j 0) → missW t cs = true → ¬ FoldsTo l k cs r := by
  intro cs
  induction cs with
  | nil =>
    intro t k r _ hm
    cases t <;> cases hm
  | cons c cs ih =>
    intro t k r hg hm hf
    cases t with
    | nil => cases hm
    | cons b t =>
      have hb : l.getD k 0 = b := by simpa using hg 0
      rw [missW, Bool.and_eq_true] at hm
      obtain ⟨h1, h2⟩ := hm
      obtain ⟨g1, g2, g3⟩ := folds_peel hf (by rw [hb]; simpa using h1)
      rw [hb] at g2
      have h3 : (((b.toNat : Int) == c) || ((b.toNat : Int) == c - 32)) = true := by
        rcases g2 with g2 | g2
        · rw [g2]; simp
        · rw [g2]; simp
      rw [if_pos h3] at h2
      exact ih t (k + 1) r (fun j => by have := hg (j + 1); rw [show k + (j + 1) = k + 1 + j by omega] at this; simpa using this) h2 g3
theorem no_hit_at {l : List UInt8} {i K : Nat} (c1 : UInt8) (t : List UInt8) (hl : ∀ j, l.getD (i + j) 0 = (41 :: 32 :: c1 :: t : List UInt8).getD j 0) (hlen : i + 3 ≤ l.length) (hc : ¬ isSp c1) (hm : missW (c1 :: t) vals = true) : ¬ HitAt l i K := by
  rintro ⟨h1, k0, k, h2, h3, h4, h5, h6⟩
  have e : k0 = i + 2 := sp_det h2 (sp_one (k := i + 1) (by omega) (by rw [hl 1]; exact isSp32) (by rw [show i + 1 + 1 = i + 2 from rfl, hl 2]; exact hc))
  subst e
  refine folds_miss vals (c1 :: t) (i + 2) k (fun j => ?_) hm h3
  rw [show i + 2 + j = i + (j + 2) by omega, hl (j + 2)]
  rfl
theorem no_hit_at2 {l : List UInt8} {i K : Nat} (c1 c8 : UInt8) (t : List UInt8) (hl : ∀ j, l.getD (i + j) 0 = (41 :: 32 :: 86 :: 65 :: 76 :: 85 :: 69 :: 83 :: c8 :: t : List UInt8).getD j 0) (hlen : i + 9 ≤ l.length) (hc : ¬ isSp c8) (hc2 : c8 ≠ 40) : ¬ HitAt l i K := by
  rintro ⟨h1, k0, k, h2, h3, h4, h5, h6⟩
  have e : k0 = i + 2 := sp_det h2 (sp_one (k := i + 1) (by omega) (by rw [hl 1]; exact isSp32) (by rw [show i + 1 + 1 = i + 2 from rfl, hl 2]; show ¬ isSp 86; unfold isSp; decide))
  subst e
  have hv : VALS l (i + 2) := ⟨by omega, by rw [hl 2]; rfl, by rw [Nat.add_assoc, hl 3]; rfl, by rw [Nat.add_assoc, hl 4]; rfl, by rw [Nat.add_assoc, hl 5]; rfl, by rw [Nat.add_assoc, hl 6]; rfl, by rw [Nat.add_assoc, hl 7]; rfl⟩
  have e : k = i + 2 + 6 := hv.end h3
  subst e
  have e : K = i + 8 := sp_det h4 (sp_none (k := i + 8) (by omega) (by rw [hl 8]; exact hc))
  subst e
  rw [hl 8] at h6
  exact hc2 h6
theorem other_41 (q : Nat) : (41 : UInt8) ∉ otherW q := by
  match q with
  | 0 => decide
  | 1 => decide
  | 2 => decide
  | 3 => decide
  | _ + 4 => show (41 : UInt8) ∉ [32, 86, 65, 76, 85, 69, 32, 83, 32]; decide
theorem other_at (q : Nat) (p t : List UInt8) (K : Nat) : ¬ HitAt (p ++ 41 :: (otherW q ++ 40 :: t)) p.length K := by
  match q with
  | 0 => exact no_hit_at 86 _ (fun j => getD_tail _ _ _) (by simp [otherW]) (by unfold isSp; decide) rfl
  | 1 => exact no_hit_at 40 _ (fun j => getD_tail _ _ _) (by simp [otherW]) (by unfold isSp; decide) rfl
  | 2 => exact no_hit_at 83 _ (fun j => getD_tail _ _ _) (by simp [otherW]) (by unfold isSp; decide) rfl
  | 3 => exact no_hit_at2 86 83 _ (fun j => getD_tail _ _ _) (by simp [otherW]) (by unfold isSp; decide) (by decide)
  | _ + 4 => exact no_hit_at 86 _ (fun j => getD_tail p (41 :: 32 :: 86 :: 65 :: 76 :: 85 :: 69 :: 32 :: 83 :: 32 :: 40 :: t) _) (by simp [otherW]) (by unfold isSp; decide) rfl
theorem no_hit_other (n : Nat) (hn : n ≤ 10) (q : Nat) (i K : Nat) : ¬ HitAt (boundL n (otherW q) []) i K := by
  obtain ⟨m, hm⟩ : ∃ m, m = marksL n := ⟨_, rfl⟩
  have hmq : (41 : UInt8) ∉ m := fun h => (marks_q n _ (by rw [← hm]; exact h)).2.1 rfl
  have hw := other_41 q
  have e : boundL n (otherW q) [] = preL n ++ 41 :: (otherW q ++ 40 :: (m ++ [41])) := by rw [hm]; simp [boundL, headL]
  rw [e]
  have hat := other_at q (preL n) (m ++ [41]) K
  have hp := pre_41 n hn
  generalize preL n = p at hat hp ⊢
  generalize otherW q = W at hat hw ⊢
  clear e hm
  intro hhit
  have h1 := hhit.1
  by_cases hlast : i + 1 = (p ++ 41 :: (W ++ 40 :: (m ++ [41]))).length
  · exact no_hit_last hlast hhit
  rcases Nat.lt_trichotomy i p.length with h | h | h
  · exact absurd h1 (getD_pre h hp)
  · subst h
    exact hat hhit
  · obtain ⟨j, rfl⟩ : ∃ j, i = p.length + (j + 1) := ⟨i - p.length - 1, by omega⟩
    rw [getD_tail] at h1
    obtain ⟨X, hX⟩ : ∃ X, X = W ++ 40 :: m := ⟨_, rfl⟩
    have hX41 : (41 : UInt8) ∉ X := by
      rw [hX]
      simp only [List.mem_append, List.mem_cons, not_or]
      exact ⟨hw, by decide, hmq⟩
    have h3 : W ++ 40 :: (m ++ [41]) = X ++ [41] := by rw [hX]; simp
    have h2 : (W ++ 40 :: (m ++ [41])).getD j 0 = 41 := by simpa using h1
    rw [h3] at h2 hlast
    rcases Nat.lt_or_ge j X.length with h4 | h4
    · exact getD_pre (t := [41]) h4 hX41 h2
    · rcases Nat.lt_or_ge j (X.length + 1) with h5 | h5
      · apply hlast
        simp
        omega
      · rw [List.getD_eq_getElem?_getD, List.getElem?_eq_none (by simp; omega)] at h2
        exact absurd h2 (by decide)
end Go.Proofs.YtnpjnekoifheoaaDoor
