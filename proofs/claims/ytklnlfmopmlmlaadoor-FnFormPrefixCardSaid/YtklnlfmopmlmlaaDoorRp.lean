/- replacePositionalPlaceholders as a machine over bytes: plain Lean, no program. -/
import Derived.Test.YtklnlfmopmlmlaaDoorBetween
import Derived.Test.YtklnlfmopmlmlaaDoorDigits
namespace Go.Proofs.YtklnlfmopmlmlaaDoor
open Go Go.RowKit Go.Proofs.YtklnlfmopmlmlaaDoorW.PrintWords
set_option linter.unusedVariables false
set_option maxRecDepth 100000

/-- Question marks are the sign and their number; two are one. (q: a question mark is waiting.) -/
def rp (pf : List UInt8) : List UInt8 → Bool → Nat → List UInt8
  | [], false, _ => []
  | [], true, j => pf ++ Lib.decDigits (j + 1)
  | c :: r, false, j => if c = 63 then rp pf r true j else c :: rp pf r false j
  | c :: r, true, j => if c = 63 then 63 :: rp pf r false j else pf ++ Lib.decDigits (j + 1) ++ c :: rp pf r false (j + 1)
theorem rp_pre (pf pre rest : List UInt8) (j : Nat) (h : (63 : UInt8) ∉ pre) : rp pf (pre ++ rest) false j = pre ++ rp pf rest false j := by
  induction pre with
  | nil => rfl
  | cons c r ih =>
    simp only [List.mem_cons, not_or] at h
    rw [List.cons_append, rp, if_neg (fun e => h.1 e.symm), ih h.2, List.cons_append]
theorem rp_none (pf l : List UInt8) (j : Nat) (h : (63 : UInt8) ∉ l) : rp pf l false j = l := by
  have := rp_pre pf l [] j h
  simpa [rp] using this
theorem rp_two (pf rest : List UInt8) (j : Nat) : rp pf (63 :: 63 :: rest) false j = 63 :: rp pf rest false j := by
  simp [rp]
theorem rp_one (pf rest : List UInt8) (j : Nat) (h : rest.head? ≠ some 63) : rp pf (63 :: rest) false j = pf ++ Lib.decDigits (j + 1) ++ rp pf rest false (j + 1) := by
  cases rest with
  | nil => simp [rp]
  | cons c r =>
    have hc : ¬ c = 63 := fun e => h (by rw [e]; rfl)
    simp [rp, hc]
/-- At the first question mark. -/
theorem rp_at_one (pf : List UInt8) {T : List UInt8} {m j : Nat} (hs : T = T.take m ++ 63 :: T.drop (m + 1)) (hn : (63 : UInt8) ∉ T.take m) (h : (T.drop (m + 1)).head? ≠ some 63) : rp pf T false j = T.take m ++ (pf ++ Lib.decDigits (j + 1) ++ rp pf (T.drop (m + 1)) false (j + 1)) := by
  conv => lhs; rw [hs]
  rw [rp_pre _ _ _ _ hn, rp_one _ _ _ h]
theorem rp_at_two (pf : List UInt8) {T : List UInt8} {m j : Nat} (hs : T = T.take m ++ 63 :: T.drop (m + 1)) (hn : (63 : UInt8) ∉ T.take m) (h : (T.drop (m + 1)).head? = some 63) : rp pf T false j = T.take m ++ 63 :: rp pf (T.drop (m + 2)) false j := by
  have e : T.drop (m + 1) = 63 :: T.drop (m + 2) := by
    cases hd : T.drop (m + 1) with
    | nil => rw [hd] at h; cases h
    | cons c r =>
      rw [hd] at h
      have h' : c = 63 := by simpa using h
      have h2 : T.drop (m + 2) = (T.drop (m + 1)).drop 1 := by rw [List.drop_drop]
      rw [h2, hd, h']
      rfl
  conv => lhs; rw [hs, e]
  rw [rp_pre _ _ _ _ hn, rp_two]

/-- The numbered signs between texts. -/
def num (pf : List UInt8) (n : Nat) : List UInt8 := pf ++ Lib.decDigits n
/-- The texts have no question marks; those in the middle are not empty. -/
def NoQ (l : List ByteArray) : Prop := ∀ j, (63 : UInt8) ∉ (l.getD j ⟨#[]⟩).data.toList
def FullL (l : List ByteArray) : Prop := ∀ j, 1 ≤ j → j + 1 < l.length → (l.getD j ⟨#[]⟩).data.toList ≠ []
theorem head_noq {s : List UInt8} (h : (63 : UInt8) ∉ s) (rest : List UInt8) (hs : s ≠ [] ∨ rest.head? ≠ some 63) : (s ++ rest).head? ≠ some 63 := by
  cases s with
  | nil => simpa using hs
  | cons c r =>
    intro e
    have : c = 63 := by simpa using e
    exact h (by simp [this])
theorem rp_betw (pf : List UInt8) (l : List ByteArray) (hq : NoQ l) (hf : FullL l) : ∀ (k : Nat) (R : List UInt8), k + 1 ≤ l.length → (1 ≤ k → (l.getD k ⟨#[]⟩).data.toList ≠ [] ∨ R.head? ≠ some 63) →
    rp pf (betw l (fun _ => [63]) (k + 1) ++ R) false 0 = betw l (num pf) (k + 1) ++ rp pf R false k := by
  intro k
  induction k with
  | zero =>
    intro R _ _
    simp only [betw, if_pos, List.nil_append]
    rw [rp_pre _ _ _ _ (hq 0)]
  | succ k ih =>
    intro R hk hR
    have e1 : betw l (fun _ => [63]) (k + 1 + 1) = betw l (fun _ => [63]) (k + 1) ++ (63 :: (l.getD (k + 1) ⟨#[]⟩).data.toList) := by
      rw [betw, if_neg (by omega)]; rfl
    have e2 : betw l (num pf) (k + 1 + 1) = betw l (num pf) (k + 1) ++ (num pf (k + 1) ++ (l.getD (k + 1) ⟨#[]⟩).data.toList) := by
      rw [betw, if_neg (by omega)]
    rw [e1, e2, List.append_assoc, List.cons_append, ih _ (by omega) (fun h => .inl (hf k h (by omega))), rp_one _ _ _ (head_noq (hq (k + 1)) R (hR (by omega))), rp_pre _ _ _ _ (hq (k + 1))]
    simp [num]
theorem rp_betw_all (pf : List UInt8) (l : List ByteArray) (hq : NoQ l) (hf : FullL l) : rp pf (betw l (fun _ => [63]) l.length) false 0 = betw l (num pf) l.length := by
  cases hl : l.length with
  | zero => rfl
  | succ k =>
    have := rp_betw pf l hq hf k [] (by omega) (fun _ => .inr (by simp))
    simpa [rp] using this
/-- Rows of question marks. -/
theorem rp_row (pf b : List UInt8) (hb : (63 : UInt8) ∉ b) : ∀ (n j : Nat), rp pf (List.replicate n 63 ++ b) false j = List.replicate (n / 2) 63 ++ (if n % 2 = 1 then pf ++ Lib.decDigits (j + 1) else []) ++ b
  | 0, j => by simp [rp_none pf b j hb]
  | 1, j => by
    have h1 : b.head? ≠ some 63 := head_noq (s := b) hb [] (.inr (by simp)) |> fun h => by simpa using h
    rw [show List.replicate 1 (63 : UInt8) ++ b = 63 :: b from rfl, rp_one pf b j h1, rp_none pf b _ hb]
    rfl
  | n + 2, j => by
    have e : List.replicate (n + 2) (63 : UInt8) ++ b = 63 :: 63 :: (List.replicate n 63 ++ b) := by simp [List.replicate_succ]
    have h1 : (n + 2) / 2 = n / 2 + 1 := by omega
    have h2 : (n + 2) % 2 = n % 2 := by omega
    rw [e, rp_two, rp_row pf b hb n j, h1, h2]
    simp [List.replicate_succ]
end Go.Proofs.YtklnlfmopmlmlaaDoor
