/- sqlx.Rebind, for each kind of placeholders. Printed by wip/genrebind.py. -/
import Derived.Test.YtklnlfmopmlmlaaDoorRebind
import Derived.Test.YtklnlfmopmlmlaaDoorShelf
namespace Go.Proofs.YtklnlfmopmlmlaaDoor
open Go Go.RowKit Go.Proofs.YtklnlfmopmlmlaaDoorW.PrintWords
set_option linter.unusedVariables false
set_option maxRecDepth 100000

/-- A text with numbered signs in the place of question marks, from number j + 1 on. -/
def rb (sg : List UInt8) : List UInt8 → Nat → List UInt8
  | [], _ => []
  | c :: r, j => if c = 63 then sg ++ Lib.itoa ((j + 1 : Nat) : Int) ++ rb sg r (j + 1) else c :: rb sg r j
theorem rb_pre (sg pre rest : List UInt8) (j : Nat) (h : (63 : UInt8) ∉ pre) : rb sg (pre ++ rest) j = pre ++ rb sg rest j := by
  induction pre with
  | nil => rfl
  | cons c r ih =>
    simp only [List.mem_cons, not_or] at h
    rw [List.cons_append, rb, if_neg (fun e => h.1 e.symm), ih h.2, List.cons_append]
theorem rb_none (sg l : List UInt8) (j : Nat) (h : (63 : UInt8) ∉ l) : rb sg l j = l := by
  have := rb_pre sg l [] j h
  simpa [rb] using this
theorem rb_at (sg : List UInt8) {T : List UInt8} {m j : Nat} (hs : T = T.take m ++ 63 :: T.drop (m + 1)) (hn : (63 : UInt8) ∉ T.take m) : rb sg T j = T.take m ++ (sg ++ Lib.itoa ((j + 1 : Nat) : Int) ++ rb sg (T.drop (m + 1)) (j + 1)) := by
  conv => lhs; rw [hs]
  rw [rb_pre _ _ _ _ hn, rb, if_pos rfl]
theorem idx_split {c : UInt8} {l : List UInt8} {r : Int} (h : IdxIs c l r) (hr : r ≠ -1) : ∃ m : Nat, r = m ∧ m < l.length ∧ l = l.take m ++ c :: l.drop (m + 1) ∧ c ∉ l.take m := by
  rcases h with ⟨h, _⟩ | ⟨h0, h1, h2, h3⟩
  · exact absurd h hr
  · obtain ⟨m, rfl⟩ := Int.eq_ofNat_of_zero_le h0
    have hm : m < l.length := by omega
    refine ⟨m, rfl, hm, ?_, by simpa using h3⟩
    simp only [Int.toNat_natCast] at h2
    rw [List.getD_eq_getElem?_getD, List.getElem?_eq_getElem hm] at h2
    have h2' : l[m] = c := h2
    conv => lhs; rw [← List.take_append_drop m l, List.drop_eq_getElem_cons hm, h2']
theorem drop_extract (Q : ByteArray) (k : Nat) : (Q.extract k Q.size).data.toList = Q.data.toList.drop k := by
  have e : (Q.extract k Q.size).data = Q.data.extract k Q.size := by simp
  rw [e, Array.toList_extract, List.extract_eq_take_drop, Lib.size_eq]
  rw [List.take_of_length_le (by simp)]
theorem take_extract (Q : ByteArray) (k : Nat) : (Q.extract 0 k).data.toList = Q.data.toList.take k := by
  have e : (Q.extract 0 k).data = Q.data.extract 0 k := by simp
  rw [e, Array.toList_extract, List.extract_eq_take_drop]
  simp
theorem size_take_extract (Q : ByteArray) (k : Nat) (h : k ≤ Q.size) : (Q.extract 0 k).size = k := by
  rw [Lib.size_eq, take_extract, List.length_take, ← Lib.size_eq]
  omega
def strSize : Value → Nat
  | .string s => s.size
  | _ => 0
theorem Rebind_stay (k : Int) (hk : k = 0 ∨ k = 1) (q : ByteArray) (w : World) : Calls Tryd.prog 27 #[.int .i64 k, .string q] w fun e w' => e = .returned (.string q) ∧ w' = w := by
  rcases hk with rfl | rfl
  all_goals
    go_enter Tryd.func27, Tryd.ntmps27
    go_wp2
    go_ret
    exact ⟨rfl, rfl⟩
theorem Rebound_stay (k : Int) (hk : k = 0 ∨ k = 1) (q : ByteArray) (w : World) : Calls Tryd.prog 14 #[.int .i64 k, .string q] w fun e w' => e = .returned (.string q) ∧ w' = w := by
  have HK := Lib.hid hk
  clear hk
  go_enter Tryd.func14, Tryd.ntmps14
  go_wp2_with (go_at_call 27; refine (Rebind_stay k HK.out q _).mono ?_; rintro e w1 ⟨rfl, rfl⟩)
  go_ret
  exact ⟨rfl, rfl⟩

set_option maxRecDepth 20000 in
set_option maxHeartbeats 2000000 in
theorem Rebind_2 (q : ByteArray) (w : World) (hq : q.size ≤ 100000) (hout : (rb [36] q.data.toList 0).length ≤ 10000000) (htab : Lib.TabBelow Tryd.prog w.heap.size w "internal/strconv.uint64pow10" .u64 Lib.pow10Tab) :
    Calls Tryd.prog 27 #[.int .i64 2, .string q] w fun e w' => e = .returned (.string ⟨(rb [36] q.data.toList 0).toArray⟩) ∧ Below w.heap.size w w' := by
  obtain ⟨tx, htx⟩ : ∃ tx, tx = rb [36] q.data.toList 0 := ⟨_, rfl⟩
  rw [← htx] at hout ⊢
  have HTX := Lib.hid htx
  have HO := Lib.hid hout
  have HTAB := Aside0.mk htab
  have hu43 := Tryd.underlying43
  clear hout htab htx
  have hmk := run_makeCap (P := Tryd.prog) 43 5 (.int .u8 0) 1 1 Tryd.underlying43 infoB (q.size + 10) (by omega) (by omega)
  have hcast : ((q.size + 10 : Nat) : Int) = (q.size : Int) + 10 := by omega
  rw [hcast] at hmk
  clear hcast
  go_enter Tryd.func27, Tryd.ntmps27
  go_wp2_with (go_at_call 36; refine (zzIndex_one q 63 _ (by omega)).mono ?_; rintro e w3 ⟨⟨r, rfl, hr⟩, rfl⟩; have HRR := Aside0.mk hr; clear hr)
  go_loopw [1, 5, 6, 7] (fun sq sv si sj wr => ∃ (Q : ByteArray) (l : List UInt8) (r : Int) (j : Nat), sq = .string Q ∧ si = .int .i64 r ∧ sj = .int .i64 j ∧ Q.size + j ≤ q.size ∧ Aside0 (IdxIs 63 Q.data.toList r) ∧ Aside0 (l ++ rb [36] Q.data.toList j = tx) ∧ Aside0 (kB.R 5 wr w.heap.size (fun _ => True) sv l) ∧ Aside0 (Below w.heap.size w wr)) (fun sq _ _ _ _ => strSize sq)
  case atStart => exact ⟨q, [], r, 0, rfl, rfl, rfl, by omega, HRR, ⟨by rw [HTX.out]; rfl⟩, ⟨R_cap kB 5 w _ _ (by omega) (by rw [size_madeCells]; exact (Nat.mul_one _).symm)⟩, ⟨below_alloc (Below.refl _ _) _⟩⟩
  case round =>
    obtain ⟨Q, l, r', j, rfl, rfl, rfl, hQj, HI, HT, HR, HB⟩ := hrel
    have hlq : l.length ≤ 10000000 := by
      have := HO.out
      rw [← HT.out, List.length_append] at this
      omega
    by_cases hr1 : r' = -1
    · subst hr1
      have hno : (63 : UInt8) ∉ Q.data.toList := by
        rcases HI.out with ⟨_, h⟩ | ⟨h, _⟩
        · exact h
        · omega
      have hfin : l ++ Q.data.toList = tx := by rw [← HT.out, rb_none _ _ _ hno]
      have HFIN := Lib.hid hfin
      clear hno hfin
      go_wp2_with (at_builtin; refine wp_append_text w.heap.size rfl (.tmp 53) (.tmp 54) rfl _ l rfl HR.out Q rfl (by omega) HB.out.size ?_; intro v' w' h1 h2; rw [HFIN.out] at h1; obtain ⟨C, f, rfl, hle, hC⟩ := Kd.R_reads h1; have hcv := convert_back (c := f) hC; have H2 := Aside0.mk h2; clear h1 h2 hC hle)
      go_ret
      exact ⟨rfl, HB.out.trans H2.out⟩
    · obtain ⟨m, hm1, hm2, hm3, hm4⟩ := idx_split HI.out hr1
      subst hm1
      have hms : m < Q.size := by rw [Lib.size_eq]; exact hm2
      have hat := rb_at [36] (j := j) hm3 hm4
      have hsz1 : (Q.extract 0 m).size = m := size_take_extract Q m (by omega)
      have hT2 : (l ++ (Q.extract 0 m).data.toList ++ [36] ++ Lib.itoa ((j + 1 : Nat) : Int)) ++ rb [36] (Q.extract (m + 1) Q.size).data.toList (j + 1) = tx := by
        rw [← HT.out, hat, take_extract, drop_extract]
        simp
      have hl2 : l.length + m + 1 ≤ 20000000 := by omega
      have HT2 := Lib.hid hT2
      have HS1 := Lib.hid hsz1
      clear hat hsz1 hT2 hm2 hm3 hm4
      go_wp2_with (first | (at_builtin; refine wp_append_text w.heap.size rfl (.tmp 23) (.tmp 26) rfl _ l rfl HR.out (Q.extract 0 m) rfl (by rw [HS1.out]; omega) HB.out.size ?_; intro v1 w4 h1 h2; have M1 := Aside0.mk h1; have M2 := Aside0.mk (HB.out.trans h2); clear h1 h2) | (at_builtin; refine Kd.R_append_rows kB (Rr := fun (b : UInt8) cs => cs = [encB b]) (w0 := w) w.heap.size rfl (.tmp 31) (.tmp 32) 43 5 (.int .u8 0) 1 rfl hu43 infoB rfl (by decide) (by omega) v1 (l ++ (Q.extract 0 m).data.toList) [36] (some ⟨w4.heap.size, 0, none⟩) 1 1 (fun _ => True) (fun _ => False) rfl rfl (Kd.R_below M1.out (below_alloc (Below.refl _ _) _)) (reads_B _ _ [36] (blk_new _ _) (by decide)) (fun _ _ h => h) (fun _ h => h.elim) (fun _ _ => trivial) (below_alloc M2.out _) (Nat.le_trans M2.out.size (by simp)) (by rw [List.length_append, ← Lib.size_eq, HS1.out]; omega) ?_; intro v2 w5 h1 h2 _ _; have M3 := Aside0.mk h1; have M4 := Aside0.mk h2; clear h1 h2) | (go_at_call 37; refine (Tryd.strconv_AppendInt_10 w.heap.size _ _ (by omega) (by omega) _ _ _ (own_B M3.out) M4.out.size (by rw [List.length_append, List.length_append, ← Lib.size_eq, HS1.out]; simp only [List.length_cons, List.length_nil]; omega) (HTAB.out.on M4.out)).mono ?_; rintro e w6 ⟨v6, rfl, h1, h2, _⟩; have M5 := Aside0.mk h1; have M6 := Aside0.mk (M4.out.trans h2); clear h1 h2) | (go_at_call 36; refine (zzIndex_one (Q.extract (m + 1) Q.size) 63 _ (by rw [Lib.size_eq, drop_extract, List.length_drop, ← Lib.size_eq]; omega)).mono ?_; rintro e w7 ⟨⟨r2, rfl, hr⟩, rfl⟩; have HR2 := Aside0.mk hr; clear hr))
      have hqs : (Q.extract (m + 1) Q.size).size = Q.size - (m + 1) := by rw [Lib.size_eq, drop_extract, List.length_drop, ← Lib.size_eq]
      refine ⟨⟨Q.extract (m + 1) Q.size, l ++ (Q.extract 0 m).data.toList ++ [36] ++ Lib.itoa ((j + 1 : Nat) : Int), r2, j + 1, rfl, rfl, by go_num, by omega, HR2, ⟨HT2.out⟩, ⟨B_own ?_⟩, M6⟩, ?_⟩
      · rw [Lib.byteCells_append, List.length_append]
        exact M5.out
      · simp only [strSize]
        omega
theorem Rebound_2 (q : ByteArray) (w : World) (hq : q.size ≤ 100000) (hout : (rb [36] q.data.toList 0).length ≤ 10000000) (htab : Lib.TabBelow Tryd.prog w.heap.size w "internal/strconv.uint64pow10" .u64 Lib.pow10Tab) :
    Calls Tryd.prog 14 #[.int .i64 2, .string q] w fun e w' => e = .returned (.string ⟨(rb [36] q.data.toList 0).toArray⟩) ∧ Below w.heap.size w w' := by
  obtain ⟨tx, htx⟩ : ∃ tx : ByteArray, tx = ⟨(rb [36] q.data.toList 0).toArray⟩ := ⟨_, rfl⟩
  rw [← htx]
  have HC := Aside0.mk (Rebind_2 q w hq hout htab)
  rw [← htx] at HC
  clear hout htab htx
  go_enter Tryd.func14, Tryd.ntmps14
  go_wp2_with (go_at_call 27; refine HC.out.mono ?_; rintro e w1 ⟨rfl, h1⟩; have H1 := Aside0.mk h1; clear h1)
  go_ret
  exact ⟨rfl, H1.out⟩

set_option maxRecDepth 20000 in
set_option maxHeartbeats 2000000 in
theorem Rebind_3 (q : ByteArray) (w : World) (hq : q.size ≤ 100000) (hout : (rb [58, 97, 114, 103] q.data.toList 0).length ≤ 10000000) (htab : Lib.TabBelow Tryd.prog w.heap.size w "internal/strconv.uint64pow10" .u64 Lib.pow10Tab) :
    Calls Tryd.prog 27 #[.int .i64 3, .string q] w fun e w' => e = .returned (.string ⟨(rb [58, 97, 114, 103] q.data.toList 0).toArray⟩) ∧ Below w.heap.size w w' := by
  obtain ⟨tx, htx⟩ : ∃ tx, tx = rb [58, 97, 114, 103] q.data.toList 0 := ⟨_, rfl⟩
  rw [← htx] at hout ⊢
  have HTX := Lib.hid htx
  have HO := Lib.hid hout
  have HTAB := Aside0.mk htab
  have hu43 := Tryd.underlying43
  clear hout htab htx
  have hmk := run_makeCap (P := Tryd.prog) 43 5 (.int .u8 0) 1 1 Tryd.underlying43 infoB (q.size + 10) (by omega) (by omega)
  have hcast : ((q.size + 10 : Nat) : Int) = (q.size : Int) + 10 := by omega
  rw [hcast] at hmk
  clear hcast
  go_enter Tryd.func27, Tryd.ntmps27
  go_wp2_with (go_at_call 36; refine (zzIndex_one q 63 _ (by omega)).mono ?_; rintro e w3 ⟨⟨r, rfl, hr⟩, rfl⟩; have HRR := Aside0.mk hr; clear hr)
  go_loopw [1, 5, 6, 7] (fun sq sv si sj wr => ∃ (Q : ByteArray) (l : List UInt8) (r : Int) (j : Nat), sq = .string Q ∧ si = .int .i64 r ∧ sj = .int .i64 j ∧ Q.size + j ≤ q.size ∧ Aside0 (IdxIs 63 Q.data.toList r) ∧ Aside0 (l ++ rb [58, 97, 114, 103] Q.data.toList j = tx) ∧ Aside0 (kB.R 5 wr w.heap.size (fun _ => True) sv l) ∧ Aside0 (Below w.heap.size w wr)) (fun sq _ _ _ _ => strSize sq)
  case atStart => exact ⟨q, [], r, 0, rfl, rfl, rfl, by omega, HRR, ⟨by rw [HTX.out]; rfl⟩, ⟨R_cap kB 5 w _ _ (by omega) (by rw [size_madeCells]; exact (Nat.mul_one _).symm)⟩, ⟨below_alloc (Below.refl _ _) _⟩⟩
  case round =>
    obtain ⟨Q, l, r', j, rfl, rfl, rfl, hQj, HI, HT, HR, HB⟩ := hrel
    have hlq : l.length ≤ 10000000 := by
      have := HO.out
      rw [← HT.out, List.length_append] at this
      omega
    by_cases hr1 : r' = -1
    · subst hr1
      have hno : (63 : UInt8) ∉ Q.data.toList := by
        rcases HI.out with ⟨_, h⟩ | ⟨h, _⟩
        · exact h
        · omega
      have hfin : l ++ Q.data.toList = tx := by rw [← HT.out, rb_none _ _ _ hno]
      have HFIN := Lib.hid hfin
      clear hno hfin
      go_wp2_with (at_builtin; refine wp_append_text w.heap.size rfl (.tmp 53) (.tmp 54) rfl _ l rfl HR.out Q rfl (by omega) HB.out.size ?_; intro v' w' h1 h2; rw [HFIN.out] at h1; obtain ⟨C, f, rfl, hle, hC⟩ := Kd.R_reads h1; have hcv := convert_back (c := f) hC; have H2 := Aside0.mk h2; clear h1 h2 hC hle)
      go_ret
      exact ⟨rfl, HB.out.trans H2.out⟩
    · obtain ⟨m, hm1, hm2, hm3, hm4⟩ := idx_split HI.out hr1
      subst hm1
      have hms : m < Q.size := by rw [Lib.size_eq]; exact hm2
      have hat := rb_at [58, 97, 114, 103] (j := j) hm3 hm4
      have hsz1 : (Q.extract 0 m).size = m := size_take_extract Q m (by omega)
      have hT2 : (l ++ (Q.extract 0 m).data.toList ++ [58, 97, 114, 103] ++ Lib.itoa ((j + 1 : Nat) : Int)) ++ rb [58, 97, 114, 103] (Q.extract (m + 1) Q.size).data.toList (j + 1) = tx := by
        rw [← HT.out, hat, take_extract, drop_extract]
        simp
      have hl2 : l.length + m + 4 ≤ 20000000 := by omega
      have HT2 := Lib.hid hT2
      have HS1 := Lib.hid hsz1
      clear hat hsz1 hT2 hm2 hm3 hm4
      go_wp2_with (first | (at_builtin; refine wp_append_text w.heap.size rfl (.tmp 23) (.tmp 26) rfl _ l rfl HR.out (Q.extract 0 m) rfl (by rw [HS1.out]; omega) HB.out.size ?_; intro v1 w4 h1 h2; have M1 := Aside0.mk h1; have M2 := Aside0.mk (HB.out.trans h2); clear h1 h2) | (at_builtin; refine Kd.R_append_rows kB (Rr := fun (b : UInt8) cs => cs = [encB b]) (w0 := w) w.heap.size rfl (.tmp 36) (.tmp 37) 43 5 (.int .u8 0) 1 rfl hu43 infoB rfl (by decide) (by omega) v1 (l ++ (Q.extract 0 m).data.toList) [58, 97, 114, 103] (some ⟨w4.heap.size, 0, none⟩) 4 4 (fun _ => True) (fun _ => False) rfl rfl (Kd.R_below M1.out (below_alloc (Below.refl _ _) _)) (reads_B _ _ [58, 97, 114, 103] (blk_new _ _) (by decide)) (fun _ _ h => h) (fun _ h => h.elim) (fun _ _ => trivial) (below_alloc M2.out _) (Nat.le_trans M2.out.size (by simp)) (by rw [List.length_append, ← Lib.size_eq, HS1.out]; omega) ?_; intro v2 w5 h1 h2 _ _; have M3 := Aside0.mk h1; have M4 := Aside0.mk h2; clear h1 h2) | (go_at_call 37; refine (Tryd.strconv_AppendInt_10 w.heap.size _ _ (by omega) (by omega) _ _ _ (own_B M3.out) M4.out.size (by rw [List.length_append, List.length_append, ← Lib.size_eq, HS1.out]; simp only [List.length_cons, List.length_nil]; omega) (HTAB.out.on M4.out)).mono ?_; rintro e w6 ⟨v6, rfl, h1, h2, _⟩; have M5 := Aside0.mk h1; have M6 := Aside0.mk (M4.out.trans h2); clear h1 h2) | (go_at_call 36; refine (zzIndex_one (Q.extract (m + 1) Q.size) 63 _ (by rw [Lib.size_eq, drop_extract, List.length_drop, ← Lib.size_eq]; omega)).mono ?_; rintro e w7 ⟨⟨r2, rfl, hr⟩, rfl⟩; have HR2 := Aside0.mk hr; clear hr))
      have hqs : (Q.extract (m + 1) Q.size).size = Q.size - (m + 1) := by rw [Lib.size_eq, drop_extract, List.length_drop, ← Lib.size_eq]
      refine ⟨⟨Q.extract (m + 1) Q.size, l ++ (Q.extract 0 m).data.toList ++ [58, 97, 114, 103] ++ Lib.itoa ((j + 1 : Nat) : Int), r2, j + 1, rfl, rfl, by go_num, by omega, HR2, ⟨HT2.out⟩, ⟨B_own ?_⟩, M6⟩, ?_⟩
      · rw [Lib.byteCells_append, List.length_append]
        exact M5.out
      · simp only [strSize]
        omega
theorem Rebound_3 (q : ByteArray) (w : World) (hq : q.size ≤ 100000) (hout : (rb [58, 97, 114, 103] q.data.toList 0).length ≤ 10000000) (htab : Lib.TabBelow Tryd.prog w.heap.size w "internal/strconv.uint64pow10" .u64 Lib.pow10Tab) :
    Calls Tryd.prog 14 #[.int .i64 3, .string q] w fun e w' => e = .returned (.string ⟨(rb [58, 97, 114, 103] q.data.toList 0).toArray⟩) ∧ Below w.heap.size w w' := by
  obtain ⟨tx, htx⟩ : ∃ tx : ByteArray, tx = ⟨(rb [58, 97, 114, 103] q.data.toList 0).toArray⟩ := ⟨_, rfl⟩
  rw [← htx]
  have HC := Aside0.mk (Rebind_3 q w hq hout htab)
  rw [← htx] at HC
  clear hout htab htx
  go_enter Tryd.func14, Tryd.ntmps14
  go_wp2_with (go_at_call 27; refine HC.out.mono ?_; rintro e w1 ⟨rfl, h1⟩; have H1 := Aside0.mk h1; clear h1)
  go_ret
  exact ⟨rfl, H1.out⟩

set_option maxRecDepth 20000 in
set_option maxHeartbeats 2000000 in
theorem Rebind_4 (q : ByteArray) (w : World) (hq : q.size ≤ 100000) (hout : (rb [64, 112] q.data.toList 0).length ≤ 10000000) (htab : Lib.TabBelow Tryd.prog w.heap.size w "internal/strconv.uint64pow10" .u64 Lib.pow10Tab) :
    Calls Tryd.prog 27 #[.int .i64 4, .string q] w fun e w' => e = .returned (.string ⟨(rb [64, 112] q.data.toList 0).toArray⟩) ∧ Below w.heap.size w w' := by
  obtain ⟨tx, htx⟩ : ∃ tx, tx = rb [64, 112] q.data.toList 0 := ⟨_, rfl⟩
  rw [← htx] at hout ⊢
  have HTX := Lib.hid htx
  have HO := Lib.hid hout
  have HTAB := Aside0.mk htab
  have hu43 := Tryd.underlying43
  clear hout htab htx
  have hmk := run_makeCap (P := Tryd.prog) 43 5 (.int .u8 0) 1 1 Tryd.underlying43 infoB (q.size + 10) (by omega) (by omega)
  have hcast : ((q.size + 10 : Nat) : Int) = (q.size : Int) + 10 := by omega
  rw [hcast] at hmk
  clear hcast
  go_enter Tryd.func27, Tryd.ntmps27
  go_wp2_with (go_at_call 36; refine (zzIndex_one q 63 _ (by omega)).mono ?_; rintro e w3 ⟨⟨r, rfl, hr⟩, rfl⟩; have HRR := Aside0.mk hr; clear hr)
  go_loopw [1, 5, 6, 7] (fun sq sv si sj wr => ∃ (Q : ByteArray) (l : List UInt8) (r : Int) (j : Nat), sq = .string Q ∧ si = .int .i64 r ∧ sj = .int .i64 j ∧ Q.size + j ≤ q.size ∧ Aside0 (IdxIs 63 Q.data.toList r) ∧ Aside0 (l ++ rb [64, 112] Q.data.toList j = tx) ∧ Aside0 (kB.R 5 wr w.heap.size (fun _ => True) sv l) ∧ Aside0 (Below w.heap.size w wr)) (fun sq _ _ _ _ => strSize sq)
  case atStart => exact ⟨q, [], r, 0, rfl, rfl, rfl, by omega, HRR, ⟨by rw [HTX.out]; rfl⟩, ⟨R_cap kB 5 w _ _ (by omega) (by rw [size_madeCells]; exact (Nat.mul_one _).symm)⟩, ⟨below_alloc (Below.refl _ _) _⟩⟩
  case round =>
    obtain ⟨Q, l, r', j, rfl, rfl, rfl, hQj, HI, HT, HR, HB⟩ := hrel
    have hlq : l.length ≤ 10000000 := by
      have := HO.out
      rw [← HT.out, List.length_append] at this
      omega
    by_cases hr1 : r' = -1
    · subst hr1
      have hno : (63 : UInt8) ∉ Q.data.toList := by
        rcases HI.out with ⟨_, h⟩ | ⟨h, _⟩
        · exact h
        · omega
      have hfin : l ++ Q.data.toList = tx := by rw [← HT.out, rb_none _ _ _ hno]
      have HFIN := Lib.hid hfin
      clear hno hfin
      go_wp2_with (at_builtin; refine wp_append_text w.heap.size rfl (.tmp 53) (.tmp 54) rfl _ l rfl HR.out Q rfl (by omega) HB.out.size ?_; intro v' w' h1 h2; rw [HFIN.out] at h1; obtain ⟨C, f, rfl, hle, hC⟩ := Kd.R_reads h1; have hcv := convert_back (c := f) hC; have H2 := Aside0.mk h2; clear h1 h2 hC hle)
      go_ret
      exact ⟨rfl, HB.out.trans H2.out⟩
    · obtain ⟨m, hm1, hm2, hm3, hm4⟩ := idx_split HI.out hr1
      subst hm1
      have hms : m < Q.size := by rw [Lib.size_eq]; exact hm2
      have hat := rb_at [64, 112] (j := j) hm3 hm4
      have hsz1 : (Q.extract 0 m).size = m := size_take_extract Q m (by omega)
      have hT2 : (l ++ (Q.extract 0 m).data.toList ++ [64, 112] ++ Lib.itoa ((j + 1 : Nat) : Int)) ++ rb [64, 112] (Q.extract (m + 1) Q.size).data.toList (j + 1) = tx := by
        rw [← HT.out, hat, take_extract, drop_extract]
        simp
      have hl2 : l.length + m + 2 ≤ 20000000 := by omega
      have HT2 := Lib.hid hT2
      have HS1 := Lib.hid hsz1
      clear hat hsz1 hT2 hm2 hm3 hm4
      go_wp2_with (first | (at_builtin; refine wp_append_text w.heap.size rfl (.tmp 23) (.tmp 26) rfl _ l rfl HR.out (Q.extract 0 m) rfl (by rw [HS1.out]; omega) HB.out.size ?_; intro v1 w4 h1 h2; have M1 := Aside0.mk h1; have M2 := Aside0.mk (HB.out.trans h2); clear h1 h2) | (at_builtin; refine Kd.R_append_rows kB (Rr := fun (b : UInt8) cs => cs = [encB b]) (w0 := w) w.heap.size rfl (.tmp 41) (.tmp 42) 43 5 (.int .u8 0) 1 rfl hu43 infoB rfl (by decide) (by omega) v1 (l ++ (Q.extract 0 m).data.toList) [64, 112] (some ⟨w4.heap.size, 0, none⟩) 2 2 (fun _ => True) (fun _ => False) rfl rfl (Kd.R_below M1.out (below_alloc (Below.refl _ _) _)) (reads_B _ _ [64, 112] (blk_new _ _) (by decide)) (fun _ _ h => h) (fun _ h => h.elim) (fun _ _ => trivial) (below_alloc M2.out _) (Nat.le_trans M2.out.size (by simp)) (by rw [List.length_append, ← Lib.size_eq, HS1.out]; omega) ?_; intro v2 w5 h1 h2 _ _; have M3 := Aside0.mk h1; have M4 := Aside0.mk h2; clear h1 h2) | (go_at_call 37; refine (Tryd.strconv_AppendInt_10 w.heap.size _ _ (by omega) (by omega) _ _ _ (own_B M3.out) M4.out.size (by rw [List.length_append, List.length_append, ← Lib.size_eq, HS1.out]; simp only [List.length_cons, List.length_nil]; omega) (HTAB.out.on M4.out)).mono ?_; rintro e w6 ⟨v6, rfl, h1, h2, _⟩; have M5 := Aside0.mk h1; have M6 := Aside0.mk (M4.out.trans h2); clear h1 h2) | (go_at_call 36; refine (zzIndex_one (Q.extract (m + 1) Q.size) 63 _ (by rw [Lib.size_eq, drop_extract, List.length_drop, ← Lib.size_eq]; omega)).mono ?_; rintro e w7 ⟨⟨r2, rfl, hr⟩, rfl⟩; have HR2 := Aside0.mk hr; clear hr))
      have hqs : (Q.extract (m + 1) Q.size).size = Q.size - (m + 1) := by rw [Lib.size_eq, drop_extract, List.length_drop, ← Lib.size_eq]
      refine ⟨⟨Q.extract (m + 1) Q.size, l ++ (Q.extract 0 m).data.toList ++ [64, 112] ++ Lib.itoa ((j + 1 : Nat) : Int), r2, j + 1, rfl, rfl, by go_num, by omega, HR2, ⟨HT2.out⟩, ⟨B_own ?_⟩, M6⟩, ?_⟩
      · rw [Lib.byteCells_append, List.length_append]
        exact M5.out
      · simp only [strSize]
        omega
theorem Rebound_4 (q : ByteArray) (w : World) (hq : q.size ≤ 100000) (hout : (rb [64, 112] q.data.toList 0).length ≤ 10000000) (htab : Lib.TabBelow Tryd.prog w.heap.size w "internal/strconv.uint64pow10" .u64 Lib.pow10Tab) :
    Calls Tryd.prog 14 #[.int .i64 4, .string q] w fun e w' => e = .returned (.string ⟨(rb [64, 112] q.data.toList 0).toArray⟩) ∧ Below w.heap.size w w' := by
  obtain ⟨tx, htx⟩ : ∃ tx : ByteArray, tx = ⟨(rb [64, 112] q.data.toList 0).toArray⟩ := ⟨_, rfl⟩
  rw [← htx]
  have HC := Aside0.mk (Rebind_4 q w hq hout htab)
  rw [← htx] at HC
  clear hout htab htx
  go_enter Tryd.func14, Tryd.ntmps14
  go_wp2_with (go_at_call 27; refine HC.out.mono ?_; rintro e w1 ⟨rfl, h1⟩; have H1 := Aside0.mk h1; clear h1)
  go_ret
  exact ⟨rfl, H1.out⟩
end Go.Proofs.YtklnlfmopmlmlaaDoor
