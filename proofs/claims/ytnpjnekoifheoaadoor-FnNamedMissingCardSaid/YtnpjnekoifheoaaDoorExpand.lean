/- What sqlx.In makes of a text: plain Lean. -/
import Derived.Test.YtnpjnekoifheoaaDoorMany
import Derived.Test.YtnpjnekoifheoaaDoorIndex
namespace Go.Proofs.YtnpjnekoifheoaaDoor
open Go Go.RowKit Go.Proofs.YtnpjnekoifheoaaDoorW.PrintWords
set_option linter.unusedVariables false
set_option maxRecDepth 100000

def IV.flat : IV → List PI
  | .one p => [p]
  | .many l => l
/-- What stands in the place of a question mark. -/
def IV.ph (x : IV) : List UInt8 := 63 :: (List.replicate (x.flat.length - 1) [44, 32, 63]).flatten
def expand : List UInt8 → List IV → List UInt8
  | [], _ => []
  | c :: r, [] => c :: expand r []
  | c :: r, x :: xs => if c = 63 then x.ph ++ expand r xs else c :: expand r (x :: xs)
theorem expand_nil (l : List UInt8) : expand l [] = l := by
  induction l with
  | nil => rfl
  | cons c r ih => rw [expand, ih]
theorem expand_pre (pre rest : List UInt8) (xs : List IV) (h : (63 : UInt8) ∉ pre) : expand (pre ++ rest) xs = pre ++ expand rest xs := by
  induction pre with
  | nil => rfl
  | cons c r ih =>
    simp only [List.mem_cons, not_or] at h
    cases xs with
    | nil => rw [List.cons_append, expand, ih h.2, List.cons_append]
    | cons x xs => rw [List.cons_append, expand, if_neg (fun e => h.1 e.symm), ih h.2, List.cons_append]
theorem expand_none (l : List UInt8) (xs : List IV) (h : (63 : UInt8) ∉ l) : expand l xs = l := by
  have := expand_pre l [] xs h
  simpa [expand] using this
/-- The text, from place o on, where c's first place from there on is r. -/
theorem idx_split {c : UInt8} {l : List UInt8} {r : Int} (h : IdxIs c l r) (hr : r ≠ -1) : ∃ m : Nat, r = m ∧ m < l.length ∧ l = l.take m ++ c :: l.drop (m + 1) ∧ c ∉ l.take m := by
  rcases h with ⟨h, _⟩ | ⟨h0, h1, h2, h3⟩
  · exact absurd h hr
  · obtain ⟨m, rfl⟩ := Int.eq_ofNat_of_zero_le h0
    have hm : m < l.length := by omega
    refine ⟨m, rfl, hm, ?_, by simpa using h3⟩
    simp only [Int.toNat_natCast] at h2
    rw [List.getD_eq_getElem?_getD, List.getElem?_eq_getElem hm] at h2
    have h2' : l[m] = c := h2
    conv => lhs; rw [← List.take_append_drop m l, List.drop_eq_getElem_cons hm, h2']
/-- How far a run has come: what is written, the text that is left (from o on not looked at), the values told. -/
def TextIs (q0 : List UInt8) (xs : List IV) (l T : List UInt8) (o j : Nat) : Prop :=
  l ++ (T.take o ++ expand (T.drop o) (xs.drop j)) = expand q0 xs ∧ (T.drop o).count 63 = xs.length - j ∧ j ≤ xs.length ∧ o ≤ T.length
theorem TextIs.start (q0 : List UInt8) (xs : List IV) (h : q0.count 63 = xs.length) : TextIs q0 xs [] q0 0 0 := ⟨by simp, by simpa using h, Nat.zero_le _, Nat.zero_le _⟩
theorem TextIs.len {q0 : List UInt8} {xs : List IV} {l T : List UInt8} {o j : Nat} (h : TextIs q0 xs l T o j) : l.length + o ≤ (expand q0 xs).length := by
  rw [← h.1]
  simp only [List.length_append, List.length_take, Nat.min_eq_left h.2.2.2]
  omega
theorem TextIs.more {q0 : List UInt8} {xs : List IV} {l T : List UInt8} {o j m : Nat} (h : TextIs q0 xs l T o j) (hm : m < (T.drop o).length) (hs : T.drop o = (T.drop o).take m ++ 63 :: (T.drop o).drop (m + 1)) (hn : (63 : UInt8) ∉ (T.drop o).take m) :
    j < xs.length ∧ o + m + 1 ≤ T.length ∧ T.take (o + m + 1) = T.take o ++ ((T.drop o).take m ++ [63]) ∧
    l ++ (T.take o ++ ((T.drop o).take m ++ ((xs.getD j (.one .nil)).ph ++ expand (T.drop (o + m + 1)) (xs.drop (j + 1))))) = expand q0 xs ∧ (T.drop (o + m + 1)).count 63 = xs.length - (j + 1) := by
  obtain ⟨h1, h2, h3, h4⟩ := h
  have hd : (T.drop o).drop (m + 1) = T.drop (o + m + 1) := by rw [List.drop_drop]; rfl
  have hc : (T.drop o).count 63 = 1 + (T.drop (o + m + 1)).count 63 := by
    rw [hs, List.count_append, List.count_cons_self, List.count_eq_zero_of_not_mem hn, hd]
    omega
  have hj : j < xs.length := by omega
  simp only [List.length_drop] at hm
  refine ⟨hj, by omega, ?_, ?_, by omega⟩
  · have e : o + m + 1 = o + (m + 1) := by omega
    rw [e, List.take_add]
    congr 1
    conv => lhs; rw [hs]
    rw [List.take_append]
    have hl : ((T.drop o).take m).length = m := by simp; omega
    rw [hl, Nat.add_sub_cancel_left, List.take_of_length_le (by omega)]
    rfl
  · rw [← h1]
    conv => rhs; rw [hs]
    rw [expand_pre _ _ _ hn, List.drop_eq_getElem_cons hj, expand, if_pos rfl, hd]
    have : xs.getD j (.one .nil) = xs[j] := by rw [List.getD_eq_getElem?_getD, List.getElem?_eq_getElem hj]; rfl
    rw [this]
theorem TextIs.one {q0 : List UInt8} {xs : List IV} {l T : List UInt8} {o j m : Nat} {p : PI} (h : TextIs q0 xs l T o j) (hm : m < (T.drop o).length) (hs : T.drop o = (T.drop o).take m ++ 63 :: (T.drop o).drop (m + 1)) (hn : (63 : UInt8) ∉ (T.drop o).take m)
    (hx : .one p = xs.getD j (.one .nil)) : TextIs q0 xs l T (o + m + 1) (j + 1) := by
  obtain ⟨a1, a2, a3, a4, a5⟩ := h.more hm hs hn
  refine ⟨?_, a5, a1, a2⟩
  rw [← a4, a3, ← hx]
  simp [IV.ph, IV.flat]
theorem TextIs.many {q0 : List UInt8} {xs : List IV} {l T : List UInt8} {o j m : Nat} {y : List PI} (h : TextIs q0 xs l T o j) (hm : m < (T.drop o).length) (hs : T.drop o = (T.drop o).take m ++ 63 :: (T.drop o).drop (m + 1)) (hn : (63 : UInt8) ∉ (T.drop o).take m)
    (hx : .many y = xs.getD j (.one .nil)) : TextIs q0 xs (l ++ T.take (o + m + 1) ++ (List.replicate (y.length - 1) [44, 32, 63]).flatten) (T.drop (o + m + 1)) 0 (j + 1) := by
  obtain ⟨a1, a2, a3, a4, a5⟩ := h.more hm hs hn
  refine ⟨?_, by simpa using a5, a1, Nat.zero_le _⟩
  rw [← a4, a3, ← hx]
  simp [IV.ph, IV.flat]
theorem TextIs.done {q0 : List UInt8} {xs : List IV} {l T : List UInt8} {o j : Nat} (h : TextIs q0 xs l T o j) (hn : (63 : UInt8) ∉ T.drop o) : j = xs.length ∧ l ++ T = expand q0 xs := by
  obtain ⟨h1, h2, h3, h4⟩ := h
  rw [List.count_eq_zero_of_not_mem hn] at h2
  refine ⟨by omega, ?_⟩
  rw [← h1, expand_none _ _ hn, List.take_append_drop]
end Go.Proofs.YtnpjnekoifheoaaDoor
