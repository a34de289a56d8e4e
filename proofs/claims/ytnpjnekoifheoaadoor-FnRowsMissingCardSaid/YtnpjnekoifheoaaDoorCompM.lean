/- compileNamedQuery as a machine over bytes: plain Lean, no program. -/
import Derived.Test.YtnpjnekoifheoaaDoorDec
import Derived.Test.YtnpjnekoifheoaaDoorNames
namespace Go.Proofs.YtnpjnekoifheoaaDoor
open Go Go.RowKit Go.Proofs.YtnpjnekoifheoaaDoorW.PrintWords
set_option linter.unusedVariables false
set_option maxRecDepth 100000

/-- What zzAllowed says of a byte. -/
def alwI (c : Int) : Bool := decide ((97 ≤ c ∧ c ≤ 122) ∨ (65 ≤ c ∧ c ≤ 90) ∨ (48 ≤ c ∧ c ≤ 57) ∨ c = 170 ∨ c = 181 ∨ c = 186 ∨ (192 ≤ c ∧ c ≠ 215 ∧ c ≠ 247))
def alw (b : UInt8) : Bool := alwI b.toNat
/-- What stands in the place of the n-th name. -/
def markL (k : Int) (n : Nat) (nm : List UInt8) : List UInt8 :=
  if k = 3 then 58 :: nm else if k = 2 then 36 :: Lib.decDigits n else if k = 4 then [64, 112] ++ Lib.decDigits n else [63]
structure CS where
  reb : List UInt8
  names : List ByteArray
  nm : Option (List UInt8)
def bytesEnd (last : Bool) (b : UInt8) : List UInt8 := if last = true ∧ alw b = true then [] else [b]
def nameEnd (last : Bool) (b : UInt8) (n : List UInt8) : List UInt8 := if last = true ∧ alw b = true then n ++ [b] else n
/-- A step of it. (It leaves out a name that an underscore, a point or an equals sign ends as the last byte of all: nothing is said there.) -/
def cstep (k : Int) (last : Bool) (b : UInt8) (s : CS) : Option CS :=
  match s.nm with
  | none => if b = 58 then some ⟨s.reb, s.names, some []⟩ else some ⟨s.reb ++ [b], s.names, none⟩
  | some n =>
    if b = 58 then (if n = [] then some ⟨s.reb ++ [58], s.names, none⟩ else none)
    else if b = 61 ∧ n = [] then some ⟨s.reb ++ [58, 61], s.names, none⟩
    else if (alw b = true ∨ b = 95 ∨ b = 46) ∧ last = false then some ⟨s.reb, s.names, some (n ++ [b])⟩
    else if last = true ∧ (b = 95 ∨ b = 46 ∨ b = 61) then none
    else some ⟨s.reb ++ markL k (s.names.length + 1) (nameEnd last b n) ++ bytesEnd last b, s.names ++ [⟨(nameEnd last b n).toArray⟩], none⟩
def crun (k : Int) : List UInt8 → CS → Option CS
  | [], s => some s
  | b :: r, s => match cstep k r.isEmpty b s with
    | none => none
    | some t => crun k r t
theorem crun_cons (k : Int) (b : UInt8) (r : List UInt8) (s t : CS) (h : cstep k r.isEmpty b s = some t) : crun k (b :: r) s = crun k r t := by
  rw [crun, h]
theorem crun_none (k : Int) (b : UInt8) (r : List UInt8) (s : CS) (h : cstep k r.isEmpty b s = none) : crun k (b :: r) s = none := by
  rw [crun, h]
/-- Texts without colons stay. -/
theorem crun_plain (k : Int) (pre rest : List UInt8) (R : List UInt8) (N : List ByteArray) (h : (58 : UInt8) ∉ pre) : crun k (pre ++ rest) ⟨R, N, none⟩ = crun k rest ⟨R ++ pre, N, none⟩ := by
  induction pre generalizing R with
  | nil => simp
  | cons c r ih =>
    simp only [List.mem_cons, not_or] at h
    rw [List.cons_append, crun_cons k c (r ++ rest) ⟨R, N, none⟩ ⟨R ++ [c], N, none⟩ (by simp [cstep, Ne.symm h.1]), ih _ h.2]
    simp
/-- A byte of a name. -/
def nb (b : UInt8) : Prop := (alw b = true ∨ b = 95 ∨ b = 46) ∧ b ≠ 58 ∧ b ≠ 61
theorem crun_name (k : Int) (nm rest : List UInt8) (R n : List UInt8) (N : List ByteArray) (h : ∀ b ∈ nm, nb b) (hr : rest ≠ []) : crun k (nm ++ rest) ⟨R, N, some n⟩ = crun k rest ⟨R, N, some (n ++ nm)⟩ := by
  induction nm generalizing n with
  | nil => simp
  | cons c r ih =>
    obtain ⟨h1, h2, h3⟩ := h c (by simp)
    have hne : (r ++ rest).isEmpty = false := by cases r <;> cases rest <;> simp_all
    rw [List.cons_append, crun_cons k c (r ++ rest) ⟨R, N, some n⟩ ⟨R, N, some (n ++ [c])⟩ (by simp [cstep, h2, h3, hne, h1]), ih _ (fun b hb => h b (by simp [hb]))]
    simp
/-- A colon, a name, a sign that ends it. -/
theorem crun_mark (k : Int) (nm rest : List UInt8) (c : UInt8) (R : List UInt8) (N : List ByteArray) (h : ∀ b ∈ nm, nb b) (h0 : nm ≠ []) (hc : alw c = false ∧ c ≠ 95 ∧ c ≠ 46 ∧ c ≠ 58) (hr : c ≠ 61 ∨ rest ≠ []) :
    crun k (58 :: (nm ++ c :: rest)) ⟨R, N, none⟩ = crun k rest ⟨R ++ markL k (N.length + 1) nm ++ [c], N ++ [⟨nm.toArray⟩], none⟩ := by
  obtain ⟨c1, c2, c3, c4⟩ := hc
  have hr' : rest.isEmpty = true → ¬ c = 61 := fun e => hr.elim id (fun h => absurd (List.isEmpty_iff.1 e) h)
  rw [crun_cons k 58 _ ⟨R, N, none⟩ ⟨R, N, some []⟩ (by simp [cstep]), crun_name k nm (c :: rest) R [] N h (by simp), List.nil_append,
    crun_cons k c rest ⟨R, N, some nm⟩ ⟨R ++ markL k (N.length + 1) nm ++ [c], N ++ [⟨nm.toArray⟩], none⟩ (by simp [cstep, c1, c2, c3, c4, h0, nameEnd, bytesEnd]; exact fun e => hr' (List.isEmpty_iff.2 e))]
/-- A colon and a name, at the end. -/
theorem crun_markEnd (k : Int) (nm : List UInt8) (c : UInt8) (R : List UInt8) (N : List ByteArray) (h : ∀ b ∈ nm, nb b) (hc : alw c = true ∧ c ≠ 58 ∧ c ≠ 61) :
    crun k (58 :: (nm ++ [c])) ⟨R, N, none⟩ = some ⟨R ++ markL k (N.length + 1) (nm ++ [c]), N ++ [⟨(nm ++ [c]).toArray⟩], none⟩ := by
  obtain ⟨c1, c2, c3⟩ := hc
  have c4 : ¬ (c = 95 ∨ c = 46 ∨ c = 61) := by
    rintro (rfl | rfl | rfl) <;> cases c1
  rw [crun_cons k 58 _ ⟨R, N, none⟩ ⟨R, N, some []⟩ (by simp [cstep]), crun_name k nm [c] R [] N h (by simp), List.nil_append,
    crun_cons k c [] ⟨R, N, some nm⟩ ⟨R ++ markL k (N.length + 1) (nm ++ [c]), N ++ [⟨(nm ++ [c]).toArray⟩], none⟩ (by simp [cstep, c1, c2, c4, nameEnd, bytesEnd]; exact fun e => absurd e c3), crun]
/-- A colon ahead of an equals sign. -/
theorem crun_assign (k : Int) (rest : List UInt8) (R : List UInt8) (N : List ByteArray) : crun k (58 :: 61 :: rest) ⟨R, N, none⟩ = crun k rest ⟨R ++ [58, 61], N, none⟩ := by
  rw [crun_cons k 58 _ ⟨R, N, none⟩ ⟨R, N, some []⟩ (by simp [cstep]), crun_cons k 61 rest ⟨R, N, some []⟩ ⟨R ++ [58, 61], N, none⟩ (by simp [cstep])]
/-- How large it is. -/
def csz (s : CS) : Nat := s.reb.length + match s.nm with | none => 0 | some n => n.length + 1
def cpend (s : CS) : Nat := s.names.length + match s.nm with | none => 0 | some _ => 1
/-- The names of a text. -/
theorem nb_of {b : UInt8} (h : IsNB b.toNat) : nb b := by
  have hb := b.toNat_lt
  refine ⟨?_, fun e => ?_, fun e => ?_⟩
  · unfold IsNB at h
    by_cases h1 : (b.toNat : Int) = 95
    · right; left
      exact UInt8.toNat_inj.1 (by have : b.toNat = 95 := by omega
                                  simpa using this)
    · by_cases h2 : (b.toNat : Int) = 46
      · right; right
        exact UInt8.toNat_inj.1 (by have : b.toNat = 46 := by omega
                                    simpa using this)
      · left
        unfold alw alwI
        exact decide_eq_true (by omega)
  · subst e; unfold IsNB at h; simp at h
  · subst e; unfold IsNB at h; simp at h
end Go.Proofs.YtnpjnekoifheoaaDoor
