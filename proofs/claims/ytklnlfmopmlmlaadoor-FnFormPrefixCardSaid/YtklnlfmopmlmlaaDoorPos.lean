/- squirrel.replacePositionalPlaceholders: it is the machine of XRp. -/
import Derived.Test.YtklnlfmopmlmlaaDoorRp
import Derived.Test.YtklnlfmopmlmlaaDoorRebindK
import Derived.Lib.BufferKept
import Derived.Lib.BufferOld
namespace Go.Proofs.YtklnlfmopmlmlaaDoor
open Go Go.RowKit Go.Proofs.YtklnlfmopmlmlaaDoorW.PrintWords
set_option linter.unusedVariables false
set_option maxRecDepth 100000

theorem sqIndex_one (s : ByteArray) (c : UInt8) (w : World) (hs : s.size ≤ 4611686018427387904) :
    Calls Tryd.prog 43 #[.string s, .string ⟨#[c]⟩] w fun e w' => (∃ r, e = .returned (.int .i64 r) ∧ IdxIs c s.data.toList r) ∧ w' = w := by
  go_enter Tryd.func43, Tryd.ntmps43
  go_wp2
  go_loop [5] (fun i => ∃ k : Nat, i = .int .i64 k ∧ k ≤ s.size ∧ Aside0 (c ∉ s.data.toList.take k)) (fun i => s.size - (intOf i).toNat)
  case atStart => exact ⟨0, rfl, by omega, ⟨by simp⟩⟩
  case round =>
    obtain ⟨k, rfl, hk, H⟩ := hrel
    by_cases hlt : k < s.size
    · go_wp2
      · go_ret
        refine ⟨⟨_, rfl, .inr ⟨by omega, by rw [← Lib.size_eq]; omega, ?_, by simpa using H.out⟩⟩, rfl⟩
        have q := eq_of_beq (by assumption : ((s.extract k (k + 1)).toList == [c]) = true)
        rw [ext_one s k hlt] at q
        simpa using q
      · refine ⟨⟨k + 1, by go_num, by omega, ⟨?_⟩⟩, by simp [intOf]; omega⟩
        have q := ne_of_beq_false (by assumption : ((s.extract k (k + 1)).toList == [c]) = false)
        rw [ext_one s k hlt] at q
        rw [take_snoc' _ k (by rw [← Lib.size_eq]; exact hlt) (0 : UInt8), List.mem_append, not_or]
        exact ⟨H.out, fun h => q (by rw [List.mem_singleton.1 h])⟩
    · go_wp2
      go_ret
      have hk' : k = s.size := by omega
      refine ⟨⟨_, rfl, .inl ⟨rfl, ?_⟩⟩, rfl⟩
      have q := H.out
      rwa [hk', Lib.size_eq, List.take_length] at q
theorem Itoa_tell (n : Int) (w : World) (m : Nat) (hn : n = m) (hm : m ≤ 99) : Calls Tryd.prog 48 #[.int .i64 n] w fun e w' => (∃ D : ByteArray, e = .returned (.string D) ∧ D.data.toList = Lib.decDigits m ∧ D.size ≤ 2) ∧ w = w' := by
  subst hn
  refine (Tryd.strconv_Itoa_small m (by omega) w).mono ?_
  rintro e w' ⟨rfl, rfl⟩
  refine ⟨⟨_, rfl, by simp, ?_⟩, rfl⟩
  rw [Lib.size_eq]
  simpa using dec_len m hm
def Buf (b : Nat) (l : List UInt8) (w : World) : Prop := Lib.IsBuffer 84 5 b b (Lib.byteCells l) w
theorem Buf_write (b : Nat) (l : List UInt8) (s : ByteArray) (w : World) (h : Buf b l w) (hl : l.length + s.size ≤ 140737488355328) (hb : b ≤ w.heap.size) :
    Calls Tryd.prog 44 #[.pointer (some ⟨b, 0, none⟩), .string s] w fun e w' => e = .returned (.tuple #[.int .i64 s.size, .nilIface]) ∧ Buf b (l ++ s.data.toList) w' ∧ Below b w w' ∧ Lib.OthersKept 5 (some b) w w' := by
  refine (Tryd.Buffer_WriteString_k b b _ s w h hb (Lib.byteCells_one _) (by rw [Lib.byteCells_length]; exact hl)).mono ?_
  rintro e w' ⟨rfl, h2, h3, h4⟩
  rw [← Lib.byteCells_append] at h2
  exact ⟨rfl, h2, h3, h4⟩
theorem Buf_string (b : Nat) (l : List UInt8) (w : World) (h : Buf b l w) :
    Calls Tryd.prog 46 #[.pointer (some ⟨b, 0, none⟩)] w fun e w' => e = .returned (.string ⟨l.toArray⟩) ∧ Below w.heap.size w w' := by
  refine (Tryd.Buffer_String b b l w h).mono ?_
  rintro e w' ⟨rfl, n, rfl⟩
  exact ⟨rfl, pw_below_drewN (Below.refl _ _) n⟩
theorem ext_two (s : ByteArray) (k : Nat) (h : k + 1 < s.size) : (s.extract k (k + 2)).toList = [s.data.toList.getD k 0, s.data.toList.getD (k + 1) 0] := by
  rw [Lib.toList_data]
  have e : (s.extract k (k + 2)).data = s.data.extract k (k + 2) := by simp
  rw [e, Array.toList_extract]
  simp only [List.extract_eq_take_drop, Nat.add_sub_cancel_left]
  have hk : k + 1 < s.data.toList.length := by rw [← Lib.size_eq]; exact h
  rw [List.getD_eq_getElem?_getD, List.getD_eq_getElem?_getD, List.getElem?_eq_getElem hk, List.getElem?_eq_getElem (by omega), List.drop_eq_getElem_cons (by omega), List.drop_eq_getElem_cons hk]
  rfl
theorem split_get {l : List UInt8} {m : Nat} (h : l = l.take m ++ 63 :: l.drop (m + 1)) (hm : m < l.length) : l.getD m 0 = 63 := by
  have h1 := congrArg (fun x : List UInt8 => x[m]?) h
  simp only [List.getElem?_append_right (List.length_take_le _ _), List.length_take] at h1
  rw [Nat.min_eq_left (by omega), Nat.sub_self] at h1
  rw [List.getD_eq_getElem?_getD, h1]
  rfl
theorem head_drop (l : List UInt8) (k : Nat) : (l.drop k).head? = l[k]? := by rw [List.head?_drop]
theorem drop_two (Q : ByteArray) (k : Nat) : (Q.extract k Q.size).data.toList = Q.data.toList.drop k := drop_extract Q k
theorem count_split {l : List UInt8} {m : Nat} (h : l = l.take m ++ 63 :: l.drop (m + 1)) : (l.drop (m + 1)).count 63 + 1 ≤ l.count 63 := by
  have h1 := congrArg (List.count (63 : UInt8)) h
  rw [List.count_append, List.count_cons_self] at h1
  omega
theorem count_drop_le (l : List UInt8) (k : Nat) : (l.drop k).count 63 ≤ l.count 63 := (List.drop_sublist k l).count_le _
set_option maxHeartbeats 4000000 in
theorem positional_is (q pf : ByteArray) (w : World) (hq : q.size ≤ 100000) (hpf : pf.size ≤ 1000) (hc : q.data.toList.count 63 ≤ 98) (hout : (rp pf.data.toList q.data.toList false 0).length ≤ 10000000) :
    Calls Tryd.prog 38 #[.string q, .string pf] w fun e w' => e = .returned (.tuple #[.string ⟨(rp pf.data.toList q.data.toList false 0).toArray⟩, .nilIface]) ∧ Below w.heap.size w w' := by
  obtain ⟨tx, htx⟩ : ∃ tx, tx = rp pf.data.toList q.data.toList false 0 := ⟨_, rfl⟩
  rw [← htx] at hout ⊢
  have HTX := Lib.hid htx
  have HO := Lib.hid hout
  have HCT := Lib.hid hc
  clear hout htx hc
  go_enter Tryd.func38, Tryd.ntmps38
  go_wp2
  have hB0 : Buf w.heap.size [] (w.alloc (.cells #[.slice none 0 0, .int .i64 0, .int .i8 0] 84)) := Lib.fresh_isBuffer 84 5 w
  have HB0 := Aside0.mk hB0
  clear hB0
  go_loopw [0, 7] (fun sq sj wr => ∃ (Q : ByteArray) (l : List UInt8) (j : Nat), sq = .string Q ∧ sj = .int .i64 j ∧ Q.size ≤ 100000 ∧ Aside0 (j + Q.data.toList.count 63 ≤ 98) ∧ Aside0 (l ++ rp pf.data.toList Q.data.toList false j = tx) ∧ Aside0 (Buf w.heap.size l wr) ∧ Aside0 (Below w.heap.size w wr)) (fun sq _ _ => strSize sq)
  case atStart => exact ⟨q, [], 0, rfl, rfl, hq, ⟨by simpa using HCT.out⟩, ⟨by rw [HTX.out]; rfl⟩, HB0, ⟨below_alloc (Below.refl _ _) _⟩⟩
  case round =>
    obtain ⟨Q, l, j, rfl, rfl, hQ, HC, HT, HB, HW⟩ := hrel
    go_wp2_with fail
    refine (sqIndex_one Q 63 _ (by omega)).mono ?_
    rintro e w3 ⟨⟨r, rfl, hr⟩, rfl⟩
    have HI := Aside0.mk hr
    clear hr
    have hlq : l.length ≤ 10000000 := by
      have := HO.out
      rw [← HT.out, List.length_append] at this
      omega
    by_cases hr1 : r = -1
    · subst hr1
      have hno : (63 : UInt8) ∉ Q.data.toList := by
        rcases HI.out with ⟨_, h⟩ | ⟨h, _⟩
        · exact h
        · omega
      have hfin : l ++ Q.data.toList = tx := by rw [← HT.out, rp_none _ _ _ hno]
      have HFIN := Lib.hid hfin
      clear hno hfin
      go_wp2_with (first | (go_at_call 44; refine (Buf_write w.heap.size l Q _ HB.out (by omega) HW.out.size).mono ?_; rintro e w4 ⟨rfl, h1, h2, _⟩; rw [HFIN.out] at h1; have X1 := Aside0.mk h1; have X2 := Aside0.mk (HW.out.trans h2); clear h1 h2) | (go_at_call 46; refine (Buf_string w.heap.size tx _ X1.out).mono ?_; rintro e w5 ⟨rfl, h2⟩; have X3 := Aside0.mk (below_step X2.out h2); clear h2))
      go_ret2
      exact ⟨rfl, X3.out⟩
    · obtain ⟨m, hm1, hm2, hm3, hm4⟩ := idx_split HI.out hr1
      subst hm1
      have hms : m < Q.size := by rw [Lib.size_eq]; exact hm2
      have hsz1 : (Q.extract 0 m).size = m := size_take_extract Q m (by omega)
      have hget := split_get hm3 hm2
      have hcnt := count_split hm3
      have HS1 := Lib.hid hsz1
      have HCN := Lib.hid hcnt
      have hl2 : l.length + m + 3000 ≤ 20000000 := by omega
      by_cases h2 : (Q.data.toList.drop (m + 1)).head? = some 63
      · have hm5 : m + 1 < Q.size := by
          rw [head_drop] at h2
          have := (List.getElem?_eq_some_iff.1 h2).1
          rwa [← Lib.size_eq] at this
        have ht2 := rp_at_two pf.data.toList (j := j) hm3 hm4 h2
        have hext : ((Q.extract m (m + 2)).toList == [63, 63]) = true := by
          rw [ext_two Q m hm5, hget]
          rw [head_drop] at h2
          rw [List.getD_eq_getElem?_getD, h2]
          rfl
        have hT2 : (l ++ (Q.extract 0 m).data.toList ++ [63]) ++ rp pf.data.toList (Q.extract (m + 2) Q.size).data.toList false j = tx := by
          rw [← HT.out, ht2, take_extract, drop_extract]
          simp
        have HT2 := Lib.hid hT2
        have hg1 : (1 : Int) < ((Q.size - m : Nat) : Int) := by omega
        have hg2 : (((Q.size - m : Nat) : Int) == 1) = false := by
          have : ¬ ((Q.size - m : Nat) : Int) = 1 := by omega
          simpa using this
        clear ht2 hT2 hget hcnt hsz1 hm2 hm3 hm4 h2 HI hr1
        go_wp2_with (go_at_call 44; first | (have hz := X1; clear hz; refine (Buf_write w.heap.size _ ⟨#[63]⟩ _ X1.out (by rw [List.length_append, ← Lib.size_eq, HS1.out, E1.out]; omega) X2.out.size).mono ?_; rintro e w5 ⟨rfl, h1, h2, _⟩; have Y1 := Aside0.mk h1; have Y2 := Aside0.mk (X2.out.trans h2); clear h1 h2) | (refine (Buf_write w.heap.size l (Q.extract 0 m) _ HB.out (by rw [HS1.out]; omega) HW.out.size).mono ?_; rintro e w4 ⟨rfl, h1, h2, _⟩; have X1 := Aside0.mk h1; have X2 := Aside0.mk (HW.out.trans h2); have E1 := Lib.hid (show (⟨#[63]⟩ : ByteArray).size = 1 from rfl); clear h1 h2))
        have hqs : (Q.extract (m + 2) Q.size).size = Q.size - (m + 2) := by rw [Lib.size_eq, drop_extract, List.length_drop, ← Lib.size_eq]
        refine ⟨⟨Q.extract (m + 2) Q.size, _, j, rfl, rfl, by omega, ⟨?_⟩, ⟨HT2.out⟩, Y1, Y2⟩, ?_⟩
        · rw [drop_extract]
          have h1 := HC.out
          have h2 := HCN.out
          have h3 := count_drop_le (Q.data.toList.drop (m + 1)) 1
          rw [List.drop_drop] at h3
          have h4 : m + 1 + 1 = m + 2 := rfl
          rw [h4] at h3
          omega
        · simp only [strSize]
          omega
      · have ht2 := rp_at_one pf.data.toList (j := j) hm3 hm4 h2
        have hT2 : (l ++ (Q.extract 0 m).data.toList ++ (pf.data.toList ++ Lib.decDigits (j + 1))) ++ rp pf.data.toList (Q.extract (m + 1) Q.size).data.toList false (j + 1) = tx := by
          rw [← HT.out, ht2, take_extract, drop_extract]
          simp
        have HT2 := Lib.hid hT2
        have hj9 : j + 1 ≤ 99 := by
          have h1 := HC.out
          omega
        have hor : Q.size - m ≤ 1 ∨ ((1 : Int) < ((Q.size - m : Nat) : Int) ∧ ((Q.extract m (m + 2)).toList == [63, 63]) = false) := by
          by_cases hm5 : m + 1 < Q.size
          · refine .inr ⟨by omega, ?_⟩
            rw [ext_two Q m hm5]
            rw [head_drop] at h2
            cases hb : ([Q.data.toList.getD m 0, Q.data.toList.getD (m + 1) 0] == [63, 63]) with
            | false => rfl
            | true =>
              have h3 := eq_of_beq hb
              simp only [List.cons.injEq, and_true] at h3
              exfalso
              apply h2
              have h4 := h3.2
              rw [List.getD_eq_getElem?_getD] at h4
              have h5 : m + 1 < Q.data.toList.length := by rw [← Lib.size_eq]; exact hm5
              rw [List.getElem?_eq_getElem h5] at h4 ⊢
              rw [← h4]
              rfl
          · exact .inl (by omega)
        clear ht2 hT2 hget hcnt hsz1 hm2 hm3 hm4 h2 HI hr1
        have hqs : (Q.extract (m + 1) Q.size).size = Q.size - (m + 1) := by rw [Lib.size_eq, drop_extract, List.length_drop, ← Lib.size_eq]
        have HQS := Lib.hid hqs
        clear hqs
        rcases hor with hor | ⟨ho1, ho2⟩
        all_goals
          first | (have hg1 : ¬ (1 : Int) < ((Q.size - m : Nat) : Int) := by omega) | skip
          go_wp2_with (first | (go_at_call 48; refine (Itoa_tell _ _ (j + 1) (by omega) hj9).mono ?_; rintro e wz ⟨⟨D, rfl, hD, hDz⟩, rfl⟩; have HD := Lib.hid hD; clear hD) | (go_at_call 44; first | (have hz := X1; clear hz; refine (Buf_write w.heap.size _ (pf ++ D) _ X1.out (by rw [List.length_append, ← Lib.size_eq, HS1.out, app_size']; omega) X2.out.size).mono ?_; rintro e w5 ⟨rfl, h1, h2, _⟩; rw [app_data', HD.out] at h1; have Y1 := Aside0.mk h1; have Y2 := Aside0.mk (X2.out.trans h2); clear h1 h2) | (refine (Buf_write w.heap.size l (Q.extract 0 m) _ HB.out (by rw [HS1.out]; omega) HW.out.size).mono ?_; rintro e w4 ⟨rfl, h1, h2, _⟩; have X1 := Aside0.mk h1; have X2 := Aside0.mk (HW.out.trans h2); clear h1 h2)))
          have hqs := HQS.out
          refine ⟨⟨Q.extract (m + 1) Q.size, _, j + 1, rfl, by go_num, by omega, ⟨?_⟩, ⟨HT2.out⟩, Y1, Y2⟩, ?_⟩
          · rw [drop_extract]
            have h1 := HC.out
            have h2 := HCN.out
            omega
          · simp only [strSize]
            omega
end Go.Proofs.YtklnlfmopmlmlaaDoor
