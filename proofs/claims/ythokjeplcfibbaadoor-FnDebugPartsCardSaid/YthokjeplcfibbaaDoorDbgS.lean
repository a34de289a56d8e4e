/- squirrel.DebugSqlizer of an expression at plain arguments: it fills them in; impl.Debug. -/
import Derived.Test.YthokjeplcfibbaaDoorDbgT
import Derived.Lib.BufferKept
import Derived.Lib.BufferOld
namespace Go.Proofs.YthokjeplcfibbaaDoor
open Go Go.RowKit Go.Proofs.YthokjeplcfibbaaDoorW.PrintWords
set_option linter.unusedVariables false
set_option maxRecDepth 100000

/-- A text with its arguments in apostrophes. -/
def fillL : List UInt8 → List (List UInt8) → List UInt8
  | [], _ => []
  | b :: r, args => if b = 63 then 39 :: (args.headD [] ++ 39 :: fillL r args.tail) else b :: fillL r args
/-- No two question marks in a row. -/
def nd : Bool → List UInt8 → Bool
  | _, [] => true
  | p, b :: r => !(p && b == 63) && nd (b == 63) r
theorem fill_plain : ∀ (s t : List UInt8) (args : List (List UInt8)), (63 : UInt8) ∉ s → fillL (s ++ t) args = s ++ fillL t args := by
  intro s
  induction s with
  | nil => intro t args _; rfl
  | cons b r ih =>
    intro t args h
    simp only [List.mem_cons, not_or] at h
    rw [List.cons_append, fillL, if_neg (fun e => h.1 e.symm), ih t args h.2, List.cons_append]
theorem fill_app : ∀ (s t : List UInt8) (xs ys : List (List UInt8)), s.count 63 = xs.length → fillL (s ++ t) (xs ++ ys) = fillL s xs ++ fillL t ys := by
  intro s
  induction s with
  | nil =>
    intro t xs ys h
    have : xs = [] := List.eq_nil_of_length_eq_zero h.symm
    subst this
    rfl
  | cons b r ih =>
    intro t xs ys h
    rw [List.cons_append, fillL, fillL]
    by_cases hb : b = 63
    · rw [if_pos hb, if_pos hb]
      subst hb
      rw [List.count_cons_self] at h
      cases xs with
      | nil => simp at h
      | cons x xs =>
        have h2 : r.count 63 = xs.length := by simpa using h
        rw [List.cons_append, List.headD_cons, List.tail_cons, List.headD_cons, List.tail_cons, ih t xs ys h2]
        simp
    · rw [if_neg hb, if_neg hb, ih t xs ys (by rw [← h, List.count_cons_of_ne hb])]
      rfl
theorem fill_len : ∀ (s : List UInt8) (args : List (List UInt8)), (∀ a ∈ args, a.length ≤ 300) → (fillL s args).length ≤ 2 * s.length + 303 * args.length := by
  intro s
  induction s with
  | nil => intro args _; simp [fillL]
  | cons b r ih =>
    intro args h
    rw [fillL]
    split
    · cases args with
      | nil =>
        have h1 := ih [] (by simp)
        simp only [List.length_cons, List.length_nil, List.length_append, List.headD_nil, List.tail_nil] at h1 ⊢
        omega
      | cons a rs =>
        have h1 := ih rs (fun x hx => h x (List.mem_cons_of_mem _ hx))
        have h2 := h a (List.mem_cons_self ..)
        simp only [List.length_cons, List.length_append, List.headD_cons, List.tail_cons] at h1 ⊢
        omega
    · have h1 := ih args h
      simp only [List.length_cons] at h1 ⊢
      omega
theorem nd_plain : ∀ (s t : List UInt8), (63 : UInt8) ∉ s → nd false (s ++ t) = nd false t := by
  intro s
  induction s with
  | nil => intro t _; rfl
  | cons b r ih =>
    intro t h
    simp only [List.mem_cons, not_or] at h
    have e : (b == 63) = false := by
      rw [beq_eq_false_iff_ne]
      exact fun e => h.1 e.symm
    rw [List.cons_append, nd, e, ih t h.2]
    rfl
/-- The first question mark: what it says of the rest. -/
theorem nd_at {m : Nat} {l : List UInt8} (h : l = l.take m ++ 63 :: l.drop (m + 1)) (hn : (63 : UInt8) ∉ l.take m) (hd : nd false l = true) : (l.drop (m + 1)).head? ≠ some 63 ∧ nd false (l.drop (m + 1)) = true := by
  rw [h, nd_plain _ _ hn, nd] at hd
  have h2 : nd true (l.drop (m + 1)) = true := by simpa using hd
  cases hr : l.drop (m + 1) with
  | nil => exact ⟨by simp, rfl⟩
  | cons b r =>
    rw [hr, nd] at h2
    have h3 : ¬ b = 63 := by
      intro e
      subst e
      simp at h2
    refine ⟨by simpa using h3, ?_⟩
    rw [nd]
    have e : (b == 63) = false := by rw [beq_eq_false_iff_ne]; exact h3
    rw [e] at h2 ⊢
    simpa using h2
theorem idx_split {c : UInt8} {l : List UInt8} {r : Int} (h : IdxIs c l r) (hr : r ≠ -1) : ∃ m : Nat, r = m ∧ m < l.length ∧ l = l.take m ++ c :: l.drop (m + 1) ∧ c ∉ l.take m := by
  rcases h with ⟨h, _⟩ | ⟨h0, h1, h2, h3⟩
  · exact absurd h hr
  · obtain ⟨m, rfl⟩ : ∃ m : Nat, r = m := ⟨r.toNat, by omega⟩
    simp only [Int.toNat_natCast] at h2 h3
    have hm : m < l.length := by omega
    refine ⟨m, rfl, hm, ?_, h3⟩
    rw [List.getD_eq_getElem?_getD, List.getElem?_eq_getElem hm] at h2
    have h4 : l[m] = c := h2
    rw [← h4, ← List.drop_eq_getElem_cons hm, List.take_append_drop]
theorem count_at {m : Nat} {l : List UInt8} (h : l = l.take m ++ 63 :: l.drop (m + 1)) (hn : (63 : UInt8) ∉ l.take m) : l.count 63 = (l.drop (m + 1)).count 63 + 1 := by
  have h1 := congrArg (List.count (63 : UInt8)) h
  rw [List.count_append, List.count_cons_self, List.count_eq_zero_of_not_mem hn] at h1
  omega
theorem fill_at {m : Nat} {l : List UInt8} (h : l = l.take m ++ 63 :: l.drop (m + 1)) (hn : (63 : UInt8) ∉ l.take m) (a : List UInt8) (rs : List (List UInt8)) : fillL l (a :: rs) = l.take m ++ 39 :: (a ++ 39 :: fillL (l.drop (m + 1)) rs) := by
  have h1 : fillL l (a :: rs) = fillL (l.take m ++ 63 :: l.drop (m + 1)) (a :: rs) := by rw [← h]
  rw [h1, fill_plain _ _ _ hn, fillL, if_pos rfl]
  rfl
def strSize : Value → Nat
  | .string s => s.size
  | _ => 0
def Buf (b : Nat) (l : List UInt8) (w : World) : Prop := Lib.IsBuffer 56 5 b b (Lib.byteCells l) w
theorem Buf_write (b : Nat) (l : List UInt8) (s : ByteArray) (w : World) (h : Buf b l w) (hl : l.length + s.size ≤ 140737488355328) (hb : b ≤ w.heap.size) :
    Calls Tryd.prog 18 #[.pointer (some ⟨b, 0, none⟩), .string s] w fun e w' => e = .returned (.tuple #[.int .i64 s.size, .nilIface]) ∧ Buf b (l ++ s.data.toList) w' ∧ Below b w w' := by
  refine (Tryd.Buffer_WriteString_k b b _ s w h hb (Lib.byteCells_one _) (by rw [Lib.byteCells_length]; exact hl)).mono ?_
  rintro e w' ⟨rfl, h2, h3, h4⟩
  rw [← Lib.byteCells_append] at h2
  exact ⟨rfl, h2, h3⟩
theorem Buf_string (b : Nat) (l : List UInt8) (w : World) (h : Buf b l w) :
    Calls Tryd.prog 20 #[.pointer (some ⟨b, 0, none⟩)] w fun e w' => e = .returned (.string ⟨l.toArray⟩) ∧ Below w.heap.size w w' := by
  refine (Tryd.Buffer_String b b l w h).mono ?_
  rintro e w' ⟨rfl, n, rfl⟩
  exact ⟨rfl, pw_below_drewN (Below.refl _ _) n⟩
theorem Buf_below {b : Nat} {l : List UInt8} {w w1 : World} (h : Buf b l w) (hb : Below w.heap.size w w1) : Buf b l w1 := by
  exact h.old hb
theorem drop_extract (Q : ByteArray) (k : Nat) : (Q.extract k Q.size).data.toList = Q.data.toList.drop k := by
  have e : (Q.extract k Q.size).data = Q.data.extract k Q.size := by simp
  rw [e, Array.toList_extract, List.extract_eq_take_drop]
  exact List.take_of_length_le (by rw [List.length_drop, ← Lib.size_eq]; omega)
theorem take_extract (Q : ByteArray) (k : Nat) : (Q.extract 0 k).data.toList = Q.data.toList.take k := by
  have e : (Q.extract 0 k).data = Q.data.extract 0 k := by simp
  rw [e, Array.toList_extract, List.extract_eq_take_drop]
  simp
theorem ext_two (s : ByteArray) (k : Nat) (h : k + 1 < s.size) : (s.extract k (k + 2)).toList = [s.data.toList.getD k 0, s.data.toList.getD (k + 1) 0] := by
  rw [Lib.toList_data]
  have e : (s.extract k (k + 2)).data = s.data.extract k (k + 2) := by simp
  rw [e, Array.toList_extract]
  simp only [List.extract_eq_take_drop, Nat.add_sub_cancel_left]
  have hk : k + 1 < s.data.toList.length := by rw [← Lib.size_eq]; exact h
  rw [List.getD_eq_getElem?_getD, List.getD_eq_getElem?_getD, List.getElem?_eq_getElem hk, List.getElem?_eq_getElem (by omega), List.drop_eq_getElem_cons (by omega), List.drop_eq_getElem_cons hk]
  rfl
theorem method_Sql (q : ByteArray) (A : Option Addr) (n c : Nat) (w : World) : (method 204 62 (.agg #[.string q, .slice A n c]) "ToSql").run Tryd.prog w = .ok (55, .agg #[.string q, .slice A n c]) w := by kernel_rfl
set_option maxRecDepth 100000 in
set_option maxHeartbeats 8000000 in
theorem DebugSqlizer_is (q : ByteArray) (ps : List PI) (A : Option Addr) (c : Nat) (w : World) (hr : kPI.C w A ps.length ps) (ht : Tab w) (hf : ∀ p ∈ ps, p.fits ∧ p.s.size ≤ 200) (hq : q.size ≤ 100000) (hn : ps.length ≤ 100) (hct : q.data.toList.count 63 = ps.length) (hnd : nd false q.data.toList = true) :
    Calls Tryd.prog 13 #[.iface 62 (.agg #[.string q, .slice A ps.length c])] w fun e w' => e = .returned (.string ⟨(fillL q.data.toList (ps.map PI.text)).toArray⟩) ∧ Below w.heap.size w w' := by
  obtain ⟨tx, htx⟩ : ∃ tx, tx = fillL q.data.toList (ps.map PI.text) := ⟨_, rfl⟩
  have hout : tx.length ≤ 1000000 := by
    have h := fill_len q.data.toList (ps.map PI.text) (fun x hx => by
      obtain ⟨p, hp, rfl⟩ := List.mem_map.1 hx
      have := p.text_len (hf p hp).1 (hf p hp).2
      omega)
    rw [← htx, List.length_map, ← Lib.size_eq] at h
    omega
  rw [← htx]
  have HTX := Lib.hid htx
  have HO := Lib.hid hout
  have HCT := Lib.hid hct
  have HND := Lib.hid hnd
  have HF := Aside0.mk hf
  have HTAB := Aside0.mk ht
  have HR := Aside0.mk hr
  have HTS := Aside0.mk (fun W (h : kPI.C W A ps.length ps) => ToSql_is q ps A c W h)
  have hdn := taDown (.agg #[.string q, .slice A ps.length c])
  have hms := method_Sql q A ps.length c
  clear hout htx hct hnd hf ht hr
  go_enter Tryd.func13, Tryd.ntmps13
  go_wp2_with (go_at_call 55; refine (HTS.out _ HR.out).mono ?_; rintro e w1 ⟨rfl, h1⟩; have HB1 := Aside0.mk h1; clear h1)
  have HR1 := Aside0.mk (Kd.C_below HR.out HB1.out)
  have HTAB1 := Aside0.mk (HTAB.out.below HB1.out)
  have HB0 := Aside0.mk (show Buf w1.heap.size [] (w1.alloc (.cells #[.slice none 0 0, .int .i64 0, .int .i8 0] 56)) from Lib.fresh_isBuffer 56 5 w1)
  clear hms hdn HTS HR HTAB
  go_loopw [3, 10] (fun sq sj wr => ∃ (Q : ByteArray) (l : List UInt8) (j : Nat), sq = .string Q ∧ sj = .int .i64 j ∧ Q.size ≤ 100000 ∧ j ≤ ps.length ∧ Aside0 (j + Q.data.toList.count 63 = ps.length) ∧ Aside0 (nd false Q.data.toList = true) ∧ Aside0 (l ++ fillL Q.data.toList ((ps.map PI.text).drop j) = tx) ∧ Aside0 (Buf w1.heap.size l wr) ∧ Aside0 (Below w1.heap.size w1 wr)) (fun sq _ _ => strSize sq)
  case atStart => exact ⟨q, [], 0, rfl, rfl, hq, Nat.zero_le _, ⟨by simpa using HCT.out⟩, ⟨HND.out⟩, ⟨by rw [HTX.out]; rfl⟩, HB0, ⟨below_alloc (Below.refl _ _) _⟩⟩
  case round =>
    clear HB0
    obtain ⟨Q, l, j, rfl, rfl, hQ, hj, HC, HN, HT, HB, HW⟩ := hrel
    go_wp2_with fail
    refine (sqIndex_one Q 63 _ (by omega)).mono ?_
    rintro e w3 ⟨⟨r, rfl, hr⟩, rfl⟩
    have HI := Aside0.mk hr
    clear hr
    have hlq : l.length ≤ 1000000 := by
      have := HO.out
      rw [← HT.out, List.length_append] at this
      omega
    by_cases hr1 : r = -1
    · subst hr1
      have hno : (63 : UInt8) ∉ Q.data.toList := by
        rcases HI.out with ⟨_, h⟩ | ⟨h, _⟩
        · exact h
        · omega
      have hjl : j = ps.length := by
        have := HC.out
        rw [List.count_eq_zero_of_not_mem hno] at this
        omega
      have hfin : l ++ Q.data.toList = tx := by
        rw [← HT.out]
        have h := fill_plain Q.data.toList [] ((ps.map PI.text).drop j) hno
        rw [List.append_nil] at h
        rw [h, fillL, List.append_nil]
      have HFIN := Lib.hid hfin
      clear hno hfin
      subst hjl
      go_wp2_with (first | (go_at_call 18; refine (Buf_write w1.heap.size l Q _ HB.out (by omega) HW.out.size).mono ?_; rintro e w4 ⟨rfl, h1, h2⟩; rw [HFIN.out] at h1; have X1 := Aside0.mk h1; have X2 := Aside0.mk (HW.out.trans h2); clear h1 h2) | (go_at_call 20; refine (Buf_string w1.heap.size tx _ X1.out).mono ?_; rintro e w5 ⟨rfl, h2⟩; have X3 := Aside0.mk (below_step X2.out h2); clear h2))
      go_ret
      exact ⟨rfl, below_step HB1.out X3.out⟩
    · obtain ⟨m, hm1, hm2, hm3, hm4⟩ := idx_split HI.out hr1
      subst hm1
      obtain ⟨hd1, hd2⟩ := nd_at hm3 hm4 HN.out
      have hcnt := count_at hm3 hm4
      have hcc := HC.out
      have hj1 : j < ps.length := by omega
      have hms : m < Q.size := by rw [Lib.size_eq]; exact hm2
      have hsz1 : (Q.extract 0 m).size = m := by rw [Lib.size_eq, take_extract, List.length_take, ← Lib.size_eq]; omega
      have hdrop : (ps.map PI.text).drop j = (ps.getD j .nil).text :: (ps.map PI.text).drop (j + 1) := by
        rw [List.drop_eq_getElem_cons (by rw [List.length_map]; exact hj1), List.getElem_map, List.getD_eq_getElem?_getD, List.getElem?_eq_getElem hj1]
        rfl
      obtain ⟨ad, rfl, h0⟩ := at_S HR1.out .nil j hj1
      have hmem : ps.getD j .nil ∈ ps := by
        rw [List.getD_eq_getElem?_getD, List.getElem?_eq_getElem hj1]
        exact List.getElem_mem hj1
      have hpf := HF.out _ hmem
      have hfill := fill_at hm3 hm4 (ps.getD j .nil).text ((ps.map PI.text).drop (j + 1))
      generalize ps.getD j .nil = p at hdrop h0 hpf hfill
      have htl := p.text_len hpf.1 hpf.2
      have hT2 : (l ++ (Q.extract 0 m).data.toList ++ (39 :: (p.text ++ [39]))) ++ fillL (Q.extract (m + 1) Q.size).data.toList ((ps.map PI.text).drop (j + 1)) = tx := by
        rw [← HT.out, hdrop, hfill, take_extract, drop_extract]
        simp
      have hc2 : j + 1 + (Q.extract (m + 1) Q.size).data.toList.count 63 = ps.length := by rw [drop_extract]; omega
      have hn2 : nd false (Q.extract (m + 1) Q.size).data.toList = true := by rw [drop_extract]; exact hd2
      have hqs : (Q.extract (m + 1) Q.size).size = Q.size - (m + 1) := by rw [Lib.size_eq, drop_extract, List.length_drop, ← Lib.size_eq]
      have hor : Q.size - m ≤ 1 ∨ ((1 : Int) < ((Q.size - m : Nat) : Int) ∧ ((Q.extract m (m + 2)).toList == [63, 63]) = false) := by
        by_cases hm5 : m + 1 < Q.size
        · refine .inr ⟨by omega, ?_⟩
          rw [ext_two Q m hm5]
          cases hb : ([Q.data.toList.getD m 0, Q.data.toList.getD (m + 1) 0] == [63, 63]) with
          | false => rfl
          | true =>
            have h3 := eq_of_beq hb
            simp only [List.cons.injEq, and_true] at h3
            exfalso
            apply hd1
            have h4 := h3.2
            rw [List.getD_eq_getElem?_getD] at h4
            have h5 : m + 1 < Q.data.toList.length := by rw [← Lib.size_eq]; exact hm5
            rw [List.head?_drop, List.getElem?_eq_getElem h5]
            rw [List.getElem?_eq_getElem h5] at h4
            rw [← h4]
            rfl
        · exact .inl (by omega)
      have HT2 := Lib.hid hT2
      have HC2 := Lib.hid hc2
      have HN2 := Lib.hid hn2
      have HQS := Lib.hid hqs
      have HS1 := Lib.hid hsz1
      have HPF := Aside0.mk hpf
      have H0 := Aside0.mk h0
      have HTL := Lib.hid htl
      have hj2 : ¬ (ps.length : Int) < (j : Int) + 1 := by omega
      clear hT2 hc2 hn2 hqs hsz1 hd1 hd2 hcnt hcc hdrop h0 hmem hpf hfill htl hm2 hm3 hm4 HI hr1 HT HC HN
      have e39 : (⟨#[39]⟩ : ByteArray).size = 1 := rfl
      rcases hor with hor | ⟨ho1, ho2⟩
      all_goals
        first | (have hg1 : ¬ (1 : Int) < ((Q.size - m : Nat) : Int) := by omega) | skip
        go_wp2_with fail
        refine (Buf_write w1.heap.size l (Q.extract 0 m) _ HB.out (by rw [HS1.out]; omega) HW.out.size).mono ?_
        rintro e w4 ⟨rfl, h1, h2⟩
        have X1 := Aside0.mk h1
        have X2 := Aside0.mk (HW.out.trans h2)
        have c4 := pw_cell_below X2.out H0.out
        clear h1 h2
        go_wp2_with fail
        refine (zzText_is p _ HPF.out.1 (HTAB1.out.below X2.out)).mono ?_
        rintro e w5 ⟨⟨S, rfl, hS⟩, h2⟩
        have X3 := Aside0.mk (Buf_below X1.out h2)
        have X4 := Aside0.mk (below_step X2.out h2)
        have hSz : S.size ≤ 200 := by rw [Lib.size_eq, hS]; exact HTL.out
        have HS := Lib.hid hS
        clear h2 hS c4
        go_wp2_with fail
        have hsz9 : (l ++ (Q.extract 0 m).data.toList).length + (⟨#[39]⟩ ++ S ++ ⟨#[39]⟩ : ByteArray).size ≤ 140737488355328 := by
          rw [List.length_append, ← Lib.size_eq, HS1.out, ByteArray.size_append, ByteArray.size_append, e39]
          omega
        have hwr := Buf_write w1.heap.size (l ++ (Q.extract 0 m).data.toList) (⟨#[39]⟩ ++ S ++ ⟨#[39]⟩ : ByteArray) w5 X3.out hsz9 X4.out.size
        refine hwr.mono ?_
        rintro e w6 ⟨rfl, h1, h2⟩
        have e7 : (⟨#[39]⟩ ++ S ++ ⟨#[39]⟩ : ByteArray).data.toList = 39 :: (p.text ++ [39]) := by simp [HS.out]
        rw [e7] at h1
        have Y1 := Aside0.mk h1
        have Y2 := Aside0.mk (X4.out.trans h2)
        clear h1 h2 e7
        go_wp2
        have hqs := HQS.out
        refine ⟨⟨Q.extract (m + 1) Q.size, _, j + 1, rfl, by go_num, by omega, by omega, ⟨HC2.out⟩, ⟨HN2.out⟩, ⟨HT2.out⟩, Y1, Y2⟩, ?_⟩
        simp only [strSize]
        omega
end Go.Proofs.YthokjeplcfibbaaDoor
