/- sqlx.compileNamedQuery: it is the machine. -/
import Derived.Test.YtnpjnekoifheoaaDoorTwo
import Derived.Test.YtnpjnekoifheoaaDoorMap
import Derived.Test.YtnpjnekoifheoaaDoorLaws2
import Derived.BigGuardPart
import Derived.Test.YtnpjnekoifheoaaDoorShelf
namespace Go.Proofs.YtnpjnekoifheoaaDoor
open Go Go.RowKit Go.Proofs.YtnpjnekoifheoaaDoorW.PrintWords
set_option linter.unusedVariables false
set_option maxRecDepth 100000

theorem infoS : (Tryd.prog.info? 9).map (fun i => (i.zero, i.size, i.bytes)) = some (some (.string ⟨#[]⟩), 1, 16) := by kernel_rfl
def curN (k : Int) (n : Nat) : Int := if k = 2 ∨ k = 4 then (n : Int) + 1 else 1
def nmOf (b : Bool) (nl : List UInt8) : Option (List UInt8) := if b then some nl else none
/-- What compileNamedQuery comes to. -/
def CompPost (s : CS) (w : World) (e : Ending) (w' : World) : Prop :=
  ∃ v, e = .returned (.tuple #[.string ⟨s.reb.toArray⟩, v, .nilIface]) ∧ Kd.string.R 9 w' w.heap.size (fun _ => True) v s.names ∧ Below w.heap.size w w'
/-- The three rows of the call. -/
def CRows (w wr : World) (u5 u7 u11 : Value) (N : List ByteArray) (R nl : List UInt8) : Prop :=
  Kd.string.R 9 wr w.heap.size (fun _ => True) u5 N ∧ kB.R 5 wr w.heap.size (fun _ => True) u7 R ∧ kB.R 5 wr w.heap.size (fun _ => True) u11 nl ∧ Sep u7 u11 ∧ Below w.heap.size w wr
theorem CRows.below {w wr w1 : World} {u5 u7 u11 : Value} {N : List ByteArray} {R nl : List UInt8} (h : CRows w wr u5 u7 u11 N R nl) (hb : Below wr.heap.size wr w1) : CRows w w1 u5 u7 u11 N R nl :=
  ⟨Kd.R_below h.1 hb, Kd.R_below h.2.1 hb, Kd.R_below h.2.2.1 hb, h.2.2.2.1, below_step h.2.2.2.2 hb⟩
theorem CRows.alloc {w wr : World} {u5 u7 u11 : Value} {N : List ByteArray} {R nl : List UInt8} (h : CRows w wr u5 u7 u11 N R nl) (o : Obj) : CRows w (wr.alloc o) u5 u7 u11 N R nl := h.below (below_alloc (Below.refl _ _) o)
/-- Behind an append to the text. -/
theorem CRows.reb {w wr w1 : World} {u5 u7 u11 v1 : Value} {N : List ByteArray} {R R1 nl : List UInt8} (h : CRows w wr u5 u7 u11 N R nl) (h1 : kB.R 5 w1 w.heap.size (fun _ => True) v1 R1) (h2 : Below w.heap.size w w1) (h3 : wr.grownBy w1 u7.ownBlock) (h4 : v1.ownBlock = u7.ownBlock ∨ ∃ b, v1.ownBlock = some b ∧ wr.heap.size ≤ b) : CRows w w1 u5 v1 u11 N R1 nl :=
  ⟨R_past h.1 h.2.1 h3 (by decide), h1, (two_grown h.2.2.1 h.2.2.2.1 h3 h4).1, (two_grown h.2.2.1 h.2.2.2.1 h3 h4).2, h2⟩
/-- Behind an append to the name. -/
theorem CRows.nm {w wr w1 : World} {u5 u7 u11 v1 : Value} {N : List ByteArray} {R nl n1 : List UInt8} (h : CRows w wr u5 u7 u11 N R nl) (h1 : kB.R 5 w1 w.heap.size (fun _ => True) v1 n1) (h2 : Below w.heap.size w w1) (h3 : wr.grownBy w1 u11.ownBlock) (h4 : v1.ownBlock = u11.ownBlock ∨ ∃ b, v1.ownBlock = some b ∧ wr.heap.size ≤ b) : CRows w w1 u5 u7 v1 N R n1 :=
  ⟨R_past h.1 h.2.2.1 h3 (by decide), (two_grown h.2.1 h.2.2.2.1.symm h3 h4).1, h1, (two_grown h.2.1 h.2.2.2.1.symm h3 h4).2.symm, h2⟩
/-- Behind an append to the names. -/
theorem CRows.add {w wr w1 : World} {u5 u7 u11 v1 : Value} {N N1 : List ByteArray} {R nl : List UInt8} (h : CRows w wr u5 u7 u11 N R nl) (h1 : Kd.string.R 9 w1 w.heap.size (fun _ => True) v1 N1) (h2 : Below w.heap.size w w1) (h3 : wr.grownBy w1 u5.ownBlock) : CRows w w1 v1 u7 u11 N1 R nl :=
  ⟨h1, R_past h.2.1 h.1 h3 (by decide), R_past h.2.2.1 h.1 h3 (by decide), h.2.2.2.1, h2⟩
/-- An empty name, new. -/
theorem CRows.fresh {w wr : World} {u5 u7 u11 : Value} {N : List ByteArray} {R nl : List UInt8} (h : CRows w wr u5 u7 u11 N R nl) : CRows w (wr.alloc (.cells #[] 5)) u5 u7 (.slice (some ⟨wr.heap.size, 0, none⟩) 0 0) N R [] :=
  ⟨Kd.R_alloc h.1 _, Kd.R_alloc h.2.1 _, Kd.R_lower (R_empty kB 5 wr) h.2.2.2.2.size, (sep_new h.2.1 0 0).symm, below_alloc h.2.2.2.2 _⟩
/-- What holds ahead of the i-th byte. -/
def CInv (k : Int) (L : List UInt8) (fin : CS) (w : World) (i : Nat) (b : Bool) (R nl : List UInt8) (N : List ByteArray) (u5 u7 u11 : Value) (wr : World) : Prop :=
  crun k (L.drop i) ⟨R, N, nmOf b nl⟩ = some fin ∧ (b = true → 0 < i ∧ (L.getD (i - 1) 0 = 58 ↔ nl = [])) ∧ R.length + (if b then nl.length else 0) ≤ 5 * i ∧ nl.length ≤ i ∧ N.length + (if b then 1 else 0) + (L.drop i).count 58 ≤ 90 ∧
    CRows w wr u5 u7 u11 N R nl
theorem drop_at (L : List UInt8) (i : Nat) (h : i < L.length) : L.drop i = L.getD i 0 :: L.drop (i + 1) := by
  rw [List.drop_eq_getElem_cons h, List.getD_eq_getElem?_getD, List.getElem?_eq_getElem h]
  rfl
theorem drop_emp (L : List UInt8) (i : Nat) (h : i < L.length) : (L.drop (i + 1)).isEmpty = decide (i = L.length - 1) := by
  by_cases hi : i = L.length - 1
  · rw [decide_eq_true hi, List.drop_eq_nil_of_le (by omega)]
    rfl
  · rw [decide_eq_false hi]
    cases hd : L.drop (i + 1) with
    | nil => have := congrArg List.length hd; simp at this; omega
    | cons a r => rfl
section
variable {k : Int} {L : List UInt8} {fin : CS} {w wr : World} {i : Nat} {R nl : List UInt8} {N : List ByteArray} {u5 u7 u11 : Value}
theorem CInv.step {b : Bool} (h : CInv k L fin w i b R nl N u5 u7 u11 wr) (hi : i < L.length) {t : CS} (ht : cstep k (decide (i = L.length - 1)) (L.getD i 0) ⟨R, N, nmOf b nl⟩ = some t) : crun k (L.drop (i + 1)) t = some fin := by
  have h1 := h.1
  rw [drop_at L i hi] at h1
  rwa [crun_cons k _ _ _ t (by rw [drop_emp L i hi]; exact ht)] at h1
theorem CInv.bad {b : Bool} (h : CInv k L fin w i b R nl N u5 u7 u11 wr) (hi : i < L.length) (ht : cstep k (decide (i = L.length - 1)) (L.getD i 0) ⟨R, N, nmOf b nl⟩ = none) : False := by
  have h1 := h.1
  rw [drop_at L i hi] at h1
  rw [crun_none k _ _ _ (by rw [drop_emp L i hi]; exact ht)] at h1
  cases h1
theorem count_drop (hi : i < L.length) : (L.drop i).count 58 = (if L.getD i 0 = 58 then 1 else 0) + (L.drop (i + 1)).count 58 := by
  rw [drop_at L i hi, List.count_cons, Nat.add_comm]
  by_cases h : L.getD i 0 = 58
  · rw [if_pos h, if_pos (beq_iff_eq.2 h)]
  · rw [if_neg h, if_neg (fun e => h (beq_iff_eq.1 e))]
end
theorem byte_ne {p q : UInt8} (h : p ≠ q) : ((p.toNat : Int) == (q.toNat : Int)) = false := by
  have : ¬ (p.toNat : Int) = (q.toNat : Int) := fun e => h (UInt8.toNat_inj.1 (by omega))
  simpa using this
theorem Itoa_tell (n : Int) (w : World) (m : Nat) (hn : n = m) (hm : m ≤ 99) : Calls Tryd.prog 56 #[.int .i64 n] w fun e w' => (∃ D : ByteArray, e = .returned (.string D) ∧ D.data.toList = Lib.decDigits m ∧ D.size ≤ 2) ∧ w = w' := by
  subst hn
  refine (Tryd.strconv_Itoa_small m (by omega) w).mono ?_
  rintro e w' ⟨rfl, rfl⟩
  refine ⟨⟨_, rfl, by simp, ?_⟩, rfl⟩
  rw [Lib.size_eq]
  simpa using dec_len m hm
theorem dec_ascii (m : Nat) (hm : m ≤ 99) : ∀ b ∈ Lib.decDigits m, b.toNat < 128 := by
  intro b hb
  by_cases h1 : m < 10
  · rw [dec_last m h1, List.mem_singleton] at hb
    subst hb
    simp
    omega
  · rw [dec_step m h1, dec_last (m / 10) (by omega)] at hb
    simp only [List.singleton_append, List.mem_cons, List.not_mem_nil, or_false] at hb
    rcases hb with rfl | rfl
    · simp; omega
    · simp; omega
theorem ascii_at {D : ByteArray} {m : Nat} (hD : D.data.toList = Lib.decDigits m) (hm : m ≤ 99) (q : Nat) (h : q < D.size) : (D[q]'h).toNat < 128 := by
  refine dec_ascii m hm _ ?_
  rw [← hD]
  exact List.getElem_mem (l := D.data.toList) (n := q) (by rw [← Lib.size_eq]; exact h)
theorem take_at (D : ByteArray) (q : Nat) (h : q < D.size) : D.data.toList.take (q + 1) = D.data.toList.take q ++ [D[q]'h] := by
  rw [List.take_succ_eq_append_getElem (by rw [← Lib.size_eq]; exact h)]
  rfl
/-- Behind a step of an iterator. -/
theorem CRows.iter {w wr : World} {u5 u7 u11 : Value} {N : List ByteArray} {R nl : List UInt8} (h : CRows w wr u5 u7 u11 N R nl) {j q : Nat} {s : ByteArray} (hj : wr.heap[j]? = some (.stringIter s q)) (hw : w.heap.size ≤ j) (q' : Nat) : CRows w (wr.iterAt j s q') u5 u7 u11 N R nl :=
  ⟨R_iterAt h.1 hj q', R_iterAt h.2.1 hj q', R_iterAt h.2.2.1 hj q', h.2.2.2.1, Lib.below_iterAt h.2.2.2.2 hw s q'⟩
theorem count_here {L : List UInt8} {i : Nat} (h : i < L.length) (hp : ¬ L.getD i 0 = 58) : (L.drop (i + 1)).count 58 = (L.drop i).count 58 := by
  rw [count_drop h, if_neg hp]
  omega
end Go.Proofs.YtnpjnekoifheoaaDoor
