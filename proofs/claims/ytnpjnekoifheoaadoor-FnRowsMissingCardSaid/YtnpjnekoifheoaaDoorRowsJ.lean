/- impl.NamedMany over the text of an insert: with all rows, with a row that lacks a name, with none. -/
import Derived.Test.YtnpjnekoifheoaaDoorFixB
import Derived.Test.YtnpjnekoifheoaaDoorNamedMany
import Derived.Test.YtnpjnekoifheoaaDoorIns9
namespace Go.Proofs.YtnpjnekoifheoaaDoor
open Go Go.RowKit Go.MapKept Go.Proofs.YtnpjnekoifheoaaDoorW.PrintWords
set_option linter.unusedVariables false
set_option maxRecDepth 100000

theorem diff_nodup {names : List ByteArray} (h : Diff9 names names.length) : names.Nodup := by
  rw [List.nodup_iff_pairwise_ne, List.pairwise_iff_getElem]
  intro i j hi hj hij e
  refine h j hj i hij ?_
  rw [List.getD_eq_getElem?_getD, List.getD_eq_getElem?_getD, List.getElem?_eq_getElem hi, List.getElem?_eq_getElem hj]
  simpa using e
theorem zip_names {names : List ByteArray} {ps : List PI} (h : ps.length = names.length) : (names.zip ps).map (·.1) = names := List.map_fst_zip (by omega)
theorem look_zip {names : List ByteArray} {ps : List PI} (hn : names.Nodup) (h : ps.length = names.length) (j : Nat) (hj : j < names.length) : look ((names.zip ps).map entry) (names.getD j ⟨#[]⟩) = some (ps.getD j .nil).enc := by
  have hz := zip_getD names ps j hj (by omega)
  have hjz : j < (names.zip ps).length := by rw [zip_len _ _ h]; exact hj
  have hm : entry ((names.zip ps).getD j zA) ∈ (names.zip ps).map entry := by
    rw [List.getD_eq_getElem?_getD, List.getElem?_eq_getElem hjz]
    exact List.mem_map_of_mem (List.getElem_mem hjz)
  have hz' : (names.zip ps).getD j zA = (names.getD j ⟨#[]⟩, ps.getD j .nil) := hz
  rw [hz'] at hm
  have hnd : (((names.zip ps).map entry).map (·.1)).Nodup := by rw [entry_names, zip_names h]; exact hn
  exact look_some hnd hm
theorem look_entry (xs : List (ByteArray × PI)) (s : ByteArray) : look (xs.map entry) s = none ∨ ∃ u : UV, look (xs.map entry) s = some u.1 := by
  induction xs with
  | nil => exact .inl rfl
  | cons x r ih =>
    rw [List.map_cons, look]
    by_cases e : (entry x).1 = s
    · rw [if_pos e]
      exact .inr ⟨⟨x.2.enc, x.2.enc_one, x.2.enc_cells⟩, rfl⟩
    · rw [if_neg e]
      exact ih
theorem ess_at (rss : List (List (ByteArray × PI))) (i : Nat) (hi : i < rss.length) : (rss.map (fun r => r.map entry)).getD i [] = (rss.getD i []).map entry := by
  rw [List.getD_eq_getElem?_getD, List.getD_eq_getElem?_getD, List.getElem?_map, List.getElem?_eq_getElem hi]
  rfl
theorem rowsOf_at (names : List ByteArray) (pss : List (List PI)) (i : Nat) (hi : i < pss.length) : (rowsOf names pss).getD i [] = names.zip (pss.getD i []) := by
  rw [rowsOf, List.getD_eq_getElem?_getD, List.getD_eq_getElem?_getD, List.getElem?_map, List.getElem?_eq_getElem hi]
  rfl
theorem rowsOf_len (names : List ByteArray) (pss : List (List PI)) : (rowsOf names pss).length = pss.length := by rw [rowsOf, List.length_map]
theorem flat_len {α : Type} (vss : List (List α)) (m : Nat) (h : ∀ i, i < vss.length → (vss.getD i []).length ≤ m) : vss.flatten.length ≤ m * vss.length := by
  have := flat_take_len vss m h vss.length (Nat.le_refl _)
  rwa [List.take_length] at this
theorem named_rows_ok (q out : ByteArray) (names : List ByteArray) (pss : List (List PI)) (W b : List UInt8) (A : Option Addr) (c : Nat) (w : World) (hq : q.size ≤ 100000) (hqt : q.data.toList = textL names names.length W b) (h0 : 0 < names.length) (h6 : names.length ≤ 6) (hok : ∀ j, j < names.length → NameOk (names.getD j ⟨#[]⟩)) (hdf : Diff9 names names.length) (hW : (58 : UInt8) ∉ W) (hb : (58 : UInt8) ∉ b)
    (hp0 : 0 < pss.length) (hp8 : pss.length ≤ 8) (hpl : ∀ i, i < pss.length → (pss.getD i []).length = names.length) (hr : kAS.C w A pss.length (rowsOf names pss))
    (hfix1 : pss.length = 1 → (⟨(boundL names.length W b).toArray⟩ : ByteArray) = out) (hfix2 : 1 < pss.length → ∀ W' : World, Calls Tryd.prog 69 #[.string ⟨(boundL names.length W b).toArray⟩, .int .i64 pss.length] W' fun e w' => e = .returned (.string out) ∧ Below W'.heap.size W' w') :
    Calls Tryd.prog 30 #[.string q, .slice A pss.length c] w fun e w' => (∃ v, e = .returned (.tuple #[.string out, v, .bool true]) ∧ kPV.R 41 w' w.heap.size (fun _ => True) v pss.flatten) ∧ Below w.heap.size w w' := by
  have hnd := diff_nodup hdf
  have hrl := rowsOf_len names pss
  have hfl := flat_len pss 6 (fun i hi => by rw [hpl i hi]; exact h6)
  have hmain := NamedManyOf_ok q out (rowsOf names pss) pss.flatten A c w (by rw [hrl]; exact hr) (fun i hi => by rw [hrl] at hi; rw [rowsOf_at _ _ _ hi, zip_names (hpl i hi)]; exact hnd) (by omega) (by omega)
    (fun bs W' B g hbl hC hm => BindNamed_list _ 1 q B bs.length g W' (bindArray_ok q ⟨boundL names.length W b, names, none⟩ out bs ((rowsOf names pss).map (fun r => r.map entry)) pss B g W' hq (by rw [hqt]; exact insert_count names W b (by omega) hok hW hb) (by rw [hqt]; exact insert_run names W b h0 (by omega) hok hW hb) (by show names.length ≤ 90; omega) hC
      (fun i hi => by rw [ess_at _ i (by omega)]; exact hm i (by omega)) (by omega) (by omega) (by omega) (fun i hi => hpl i (by omega))
      (fun i hi j hj => by rw [ess_at _ i (by omega), rowsOf_at _ _ _ (by omega)]; exact look_zip hnd (hpl i (by omega)) j hj)
      (fun h => hfix1 (by omega)) (fun h => by rw [show bs.length = pss.length by omega]; exact hfix2 (by omega))))
  rw [hrl] at hmain
  refine NamedMany_is _ q _ w (fun e w' h => ?_) hmain
  obtain ⟨⟨v, he, _⟩, _⟩ := h
  exact ⟨_, _, _, he⟩
/-- One row without one name. -/
def lessRow (names : List ByteArray) (ps : List PI) (k : Nat) : List (ByteArray × PI) := (names.zip ps).take k ++ (names.zip ps).drop (k + 1)
theorem lessRow_nodup {names : List ByteArray} {ps : List PI} (hn : names.Nodup) (h : ps.length = names.length) (k : Nat) : ((lessRow names ps k).map (·.1)).Nodup := by
  rw [lessRow, List.map_append, List.map_take, List.map_drop, zip_names h]
  refine List.Nodup.sublist ?_ hn
  conv => rhs; rw [← List.take_append_drop k names]
  refine List.Sublist.append (List.Sublist.refl _) ?_
  rw [← List.drop_drop]
  exact List.drop_sublist 1 _
theorem lessRow_look {names : List ByteArray} {ps : List PI} (hn : names.Nodup) (h : ps.length = names.length) (k : Nat) (hk : k < names.length) : look ((lessRow names ps k).map entry) (names.getD k ⟨#[]⟩) = none := by
  refine look_none fun x hx e => ?_
  have hm : names.getD k ⟨#[]⟩ ∈ names.take k ++ names.drop (k + 1) := by
    have h1 : x.1 ∈ ((lessRow names ps k).map entry).map (·.1) := List.mem_map_of_mem hx
    rw [entry_names, lessRow, List.map_append, List.map_take, List.map_drop, zip_names h, e] at h1
    exact h1
  have h2 : names = names.take k ++ names.getD k ⟨#[]⟩ :: names.drop (k + 1) := by
    rw [List.getD_eq_getElem?_getD, List.getElem?_eq_getElem hk, Option.getD_some, ← List.drop_eq_getElem_cons hk, List.take_append_drop]
  have h3 : (names.take k ++ names.getD k ⟨#[]⟩ :: names.drop (k + 1)).Nodup := by rw [← h2]; exact hn
  rw [List.nodup_append] at h3
  obtain ⟨_, h4, h5⟩ := h3
  rcases List.mem_append.1 hm with hm | hm
  · exact h5 _ hm _ (List.mem_cons_self ..) rfl
  · exact (List.nodup_cons.1 h4).1 hm
theorem set_at {α : Type} (l : List α) (i j : Nat) (x z : α) (hi : i < l.length) : (l.set i x).getD j z = if j = i then x else l.getD j z := by
  rw [List.getD_eq_getElem?_getD, List.getD_eq_getElem?_getD, List.getElem?_set]
  by_cases e : i = j
  · subst e
    rw [if_pos rfl, if_pos rfl, if_pos hi]
    rfl
  · rw [if_neg e, if_neg (fun h => e h.symm)]
theorem named_rows_bad (q : ByteArray) (names : List ByteArray) (pss : List (List PI)) (W b : List UInt8) (i0 k0 : Nat) (A : Option Addr) (c : Nat) (w : World) (hq : q.size ≤ 100000) (hqt : q.data.toList = textL names names.length W b) (h0 : 0 < names.length) (h6 : names.length ≤ 6) (hok : ∀ j, j < names.length → NameOk (names.getD j ⟨#[]⟩)) (hdf : Diff9 names names.length) (hW : (58 : UInt8) ∉ W) (hb : (58 : UInt8) ∉ b)
    (hp8 : pss.length ≤ 8) (hpl : ∀ i, i < pss.length → (pss.getD i []).length = names.length) (hi0 : i0 < pss.length) (hk0 : k0 < names.length) (hr : kAS.C w A pss.length ((rowsOf names pss).set i0 (lessRow names (pss.getD i0 []) k0))) :
    Calls Tryd.prog 30 #[.string q, .slice A pss.length c] w fun e w' => e = .returned (.tuple #[.string ⟨#[]⟩, .slice none 0 0, .bool false]) ∧ Below w.heap.size w w' := by
  have hnd := diff_nodup hdf
  obtain ⟨rss, hrss⟩ : ∃ rss, rss = (rowsOf names pss).set i0 (lessRow names (pss.getD i0 []) k0) := ⟨_, rfl⟩
  have hrl : rss.length = pss.length := by rw [hrss, List.length_set, rowsOf_len]
  have hat : ∀ i, i < pss.length → rss.getD i [] = if i = i0 then lessRow names (pss.getD i0 []) k0 else names.zip (pss.getD i []) := fun i hi => by rw [hrss, set_at _ _ _ _ _ (by rw [rowsOf_len]; exact hi0), rowsOf_at _ _ _ hi]
  rw [← hrss] at hr
  have hmain := NamedManyOf_bad q rss A c w (by rw [hrl]; exact hr) (fun i hi => by
      rw [hat i (by omega)]
      split
      · exact lessRow_nodup hnd (hpl i0 hi0) k0
      · rw [zip_names (hpl i (by omega))]; exact hnd) (by omega)
    (fun bs W' B g hbl hC hm => BindNamed_list _ 1 q B bs.length g W' (bindArray_bad q ⟨boundL names.length W b, names, none⟩ bs (rss.map (fun r => r.map entry)) pss i0 B g W' hq (by rw [hqt]; exact insert_count names W b (by omega) hok hW hb) (by rw [hqt]; exact insert_run names W b h0 (by omega) hok hW hb) (by show names.length ≤ 90; omega) hC
      (fun i hi => by rw [ess_at _ i (by omega)]; exact hm i (by omega)) (by omega) (by omega) (by omega) (fun i hi => hpl i (by omega))
      (fun i hi j hj => by rw [ess_at _ i (by omega), hat i (by omega), if_neg (by omega)]; exact look_zip hnd (hpl i (by omega)) j hj)
      (fun j hj => by rw [ess_at _ i0 (by omega)]; exact look_entry _ _)
      ⟨k0, hk0, by rw [ess_at _ i0 (by omega), hat i0 hi0, if_pos rfl]; exact lessRow_look hnd (hpl i0 hi0) k0 hk0⟩))
  rw [hrl] at hmain
  exact NamedMany_is _ q _ w (fun e w' h => ⟨_, _, _, h.1⟩) hmain
theorem named_rows_none (q : ByteArray) (names : List ByteArray) (W b : List UInt8) (w : World) (hq : q.size ≤ 100000) (hqt : q.data.toList = textL names names.length W b) (h0 : 0 < names.length) (h6 : names.length ≤ 6) (hok : ∀ j, j < names.length → NameOk (names.getD j ⟨#[]⟩)) (hW : (58 : UInt8) ∉ W) (hb : (58 : UInt8) ∉ b) :
    Calls Tryd.prog 30 #[.string q, .slice none 0 0] w fun e w' => e = .returned (.tuple #[.string ⟨#[]⟩, .slice none 0 0, .bool false]) ∧ Below w.heap.size w w' := by
  refine NamedMany_is _ q _ w (fun e w' h => ⟨_, _, _, h.1⟩) (NamedManyOf_bad q [] none 0 w ⟨rfl, by simp, fun h => absurd h (Nat.lt_irrefl 0)⟩ (fun i hi => by cases hi) (by simp)
    (fun bs W' B g hbl hC hm => BindNamed_list _ 1 q B bs.length g W' ?_))
  rw [hbl]
  exact bindArray_none q ⟨boundL names.length W b, names, none⟩ B g W' hq (by rw [hqt]; exact insert_count names W b (by omega) hok hW hb) (by rw [hqt]; exact insert_run names W b h0 (by omega) hok hW hb)
/-! fixBound at the insert's text. -/
theorem head_len (n : Nat) (hn : n ≤ 10) (w : List UInt8) (hw : w.length ≤ 100) : (headL n w).length ≤ 200 := by
  have : ∀ i, i ≤ 10 → (colsL i).length ≤ 5 * i := by
    intro i
    induction i with
    | zero => intro _; exact Nat.le_refl _
    | succ i ih =>
      intro hi
      have h1 := ih (by omega)
      have h2 : (sepL i).length ≤ 2 := by unfold sepL; split <;> simp
      rw [colsL, dec_last i (by omega)]
      simp
      omega
  have h := this n hn
  simp [headL, preL]
  omega
theorem boundL_split (n : Nat) (w b : List UInt8) : boundL n w b = headL n w ++ (40 :: (marksL n ++ [41])) ++ b := by simp [boundL]
theorem fix_values (n many : Nat) (b : List UInt8) (hn : n ≤ 10) (hm : 2 ≤ many) (hm2 : many ≤ 100) (hb : b.length ≤ 1000) (hb2 : ∀ c ∈ b, c < 128) (w : World) :
    Calls Tryd.prog 69 #[.string ⟨(boundL n valuesW b).toArray⟩, .int .i64 many] w fun e w' => e = .returned (.string ⟨(wantL n many valuesW b).toArray⟩) ∧ Below w.heap.size w w' := by
  obtain ⟨i0, hi0, f1, f2, f3, f4, f5, f6, f7⟩ := facts_values n hn b
  have hl := head_len n hn valuesW (by decide)
  have hml := marks_len n
  have hlen : (boundL n valuesW b).length ≤ 2000 := by
    rw [boundL_split]
    simp only [List.length_append, List.length_cons, List.length_nil]
    omega
  have hi0l : i0 < (boundL n valuesW b).length := by
    rcases Nat.lt_or_ge i0 (boundL n valuesW b).length with h | h
    · exact h
    · rw [List.getD_eq_getElem?_getD, List.getElem?_eq_none h] at f1
      exact absurd f1 (by decide)
  have hfm := fm_bracket n b
  refine fixBound_hit (headL n valuesW) (40 :: (marksL n ++ [41])) b (repL n) ⟨(boundL n valuesW b).toArray⟩ many w (by rw [← boundL_split]) (by rw [Lib.size_eq]; simp; omega) (by simp) (by simp; omega) hm hm2 (by simp [repL]) (fun i hi => ?_) (fun i K h hf => ?_) ⟨i0, by rw [Lib.size_eq]; simpa using hi0l, ?_⟩ ?_ (by simp) (fun c hc => ?_)
  · rw [repL, if_neg (by omega)]
    simp
  · exact hit_only f1 f2 f3 f4 f5 h hf f6 f7
  · exact fail_not f1 f3 f4 f5 f6 f7
  · have e : (40 :: (marksL n ++ [41])) ++ b = 40 :: (marksL n ++ 41 :: b) := by simp
    rw [e, hfm]
    simp
  · rcases List.mem_append.1 hc with hc | hc
    · rcases List.mem_cons.1 hc with rfl | hc
      · decide
      · rcases List.mem_append.1 hc with hc | hc
        · exact (marks_q n c hc).2.2.2
        · rw [List.mem_singleton.1 hc]; decide
    · exact hb2 c hc
theorem fix_other (n q : Nat) (m : Int) (hn : n ≤ 10) (w : World) :
    Calls Tryd.prog 69 #[.string ⟨(boundL n (otherW q) []).toArray⟩, .int .i64 m] w fun e w' => e = .returned (.string ⟨(boundL n (otherW q) []).toArray⟩) ∧ Below w.heap.size w w' := by
  have hw : (otherW q).length ≤ 100 := by
    match q with
    | 0 => decide
    | 1 => decide
    | 2 => decide
    | 3 => decide
    | _ + 4 => show ([32, 86, 65, 76, 85, 69, 32, 83, 32] : List UInt8).length ≤ 100; decide
  have hl := head_len n hn (otherW q) hw
  have hml := marks_len n
  refine fixBound_none _ m w ?_ (fun i K => ?_)
  · rw [Lib.size_eq, List.toList_toArray, boundL_split]
    simp only [List.length_append, List.length_cons, List.length_nil]
    omega
  · rw [List.toList_toArray]
    exact no_hit_other n hn q i K
theorem want_one (n : Nat) (w b : List UInt8) : boundL n w b = wantL n 1 w b := by simp [boundL, wantL, repL]
end Go.Proofs.YtnpjnekoifheoaaDoor
