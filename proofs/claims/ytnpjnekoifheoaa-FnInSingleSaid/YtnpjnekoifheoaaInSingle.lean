/- The walk of laws.FnInSingle. -/
import Derived.Test.YtnpjnekoifheoaaInBeside
import Derived.Test.YtnpjnekoifheoaaTexts
namespace Go.Proofs.Ytnpjnekoifheoaa
open Go Go.RowKit Go.Proofs.YtnpjnekoifheoaaW.PrintWords
set_option linter.unusedVariables false

/-- A literal of two elements, read. -/
theorem reads_lit2 {α : Type} (d : Kd α) (W : World) (g t : Nat) (c1 c2 : List Value) (x1 x2 : α) (hb : W.heap[g]? = some (.cells (c1 ++ c2).toArray t (0, 0))) (h1 : d.K W x1 c1) (h2 : d.K W x2 c2) : d.C W (some ⟨g, 0, none⟩) 2 [x1, x2] := by
  have l1 := d.K_len h1
  have l2 := d.K_len h2
  refine ⟨rfl, by omega, fun _ => ⟨_, rfl, fun j p h => ?_⟩⟩
  match j, h with
  | 0, h =>
    simp at h
    subst h
    refine ⟨c1, l1, h1, fun i u hu => ?_⟩
    have hi := (List.getElem?_eq_some_iff.1 hu).1
    rw [Nat.zero_mul, Nat.zero_add, add_plain, blk_cell hb]
    simp [List.getElem?_append_left hi, hu]
  | 1, h =>
    simp at h
    subst h
    refine ⟨c2, l2, h2, fun i u hu => ?_⟩
    rw [Nat.one_mul, add_plain, blk_cell hb, ← l1]
    simp [List.getElem?_append_right (Nat.le_add_right _ _), hu]
  | j + 2, h => simp at h

theorem boxed {w W0 w1 : World} {T : Nat} {p0 p1 p2 p3 q0 q1 q2 q3 : Value} (h0 : W0 = (w.alloc (.cells #[p0, p1, p2, p3] T)).alloc (.cells #[q0, q1, q2, q3] T)) (hb : Below W0.heap.size W0 w1) :
    w1.cell? ⟨w.heap.size, 0, none⟩ = some p0 ∧ w1.cell? ⟨w.heap.size, 1, none⟩ = some p1 ∧ w1.cell? ⟨w.heap.size, 2, none⟩ = some p2 ∧ w1.cell? ⟨w.heap.size, 3, none⟩ = some p3 ∧ w1.cell? ⟨w.heap.size + 1, 0, none⟩ = some q0 ∧ w1.cell? ⟨w.heap.size + 1, 1, none⟩ = some q1 ∧ w1.cell? ⟨w.heap.size + 1, 2, none⟩ = some q2 ∧ w1.cell? ⟨w.heap.size + 1, 3, none⟩ = some q3 := by
  have h1 : w1.heap[w.heap.size]? = some (.cells #[p0, p1, p2, p3] T (0, 0)) := by
    rw [hb.block _ (by rw [h0]; simp; omega), h0]
    exact blk_alloc (blk_new w _) _
  have h2 : w1.heap[w.heap.size + 1]? = some (.cells #[q0, q1, q2, q3] T (0, 0)) := by
    rw [hb.block _ (by rw [h0]; simp), h0]
    exact blk_new' _ _ _ (by simp)
  refine ⟨?_, ?_, ?_, ?_, ?_, ?_, ?_, ?_⟩
  all_goals first | (rw [Lib.cell_of_heap h1]; rfl) | (rw [Lib.cell_of_heap h2]; rfl)
theorem pair_plain {x y : SV} (h : ∃ ps, Plain [x, y] ps) : ∃ px py, x = PI.sv px ∧ y = PI.sv py := by
  obtain ⟨ps, h1, _⟩ := h
  match ps, h1 with
  | [px, py], h1 =>
    simp at h1
    exact ⟨px, py, h1.1, h1.2⟩
theorem bare_no {s : ByteArray} (h : BareOk s) : (63 : UInt8) ∉ s.data.toList := by
  intro hm
  obtain ⟨i, hi, he⟩ := List.getElem_of_mem hm
  have hi' : i < s.size := by rw [Lib.size_eq]; exact hi
  have h1 := (h.1 i hi').2.2.1
  have h2 : s[i] = 63 := by rw [← he]; simp [ByteArray.getElem_eq_getElem_data]
  rw [h2] at h1
  exact h1 rfl
theorem bytes_eta (s : ByteArray) : (⟨s.data.toList.toArray⟩ : ByteArray) = s := by simp
theorem single_data (a b : ByteArray) : (a ++ ⟨#[63]⟩ ++ b ++ ⟨#[32, 63]⟩ : ByteArray).data.toList = a.data.toList ++ 63 :: (b.data.toList ++ [32] ++ 63 :: []) := by
  rw [app_data, app_data, app_data]
  simp
theorem single_text (a b : ByteArray) (px py : PI) (ha : (63 : UInt8) ∉ a.data.toList) (hb : (63 : UInt8) ∉ b.data.toList) :
    expand (a ++ ⟨#[63]⟩ ++ b ++ ⟨#[32, 63]⟩ : ByteArray).data.toList ([none, some py].map (toIV [px])) = (a ++ ⟨#[63]⟩ ++ b ++ ⟨#[32, 63]⟩ : ByteArray).data.toList := by
  have hb2 : (63 : UInt8) ∉ b.data.toList ++ [32] := by
    intro h
    rcases List.mem_append.1 h with h | h
    · exact hb h
    · simp at h
  rw [single_data]
  show expand _ [.many [px], .one py] = _
  rw [expand_pre _ _ _ ha, expand, if_pos rfl, expand_pre _ _ _ hb2, expand, if_pos rfl]
  simp [IV.ph, IV.flat, expand]
theorem single_count (a b : ByteArray) (ha : (63 : UInt8) ∉ a.data.toList) (hb : (63 : UInt8) ∉ b.data.toList) : (a ++ ⟨#[63]⟩ ++ b ++ ⟨#[32, 63]⟩ : ByteArray).data.toList.count 63 = 2 := by
  rw [single_data, List.count_append, List.count_cons_self, List.count_append, List.count_append, List.count_eq_zero_of_not_mem ha, List.count_eq_zero_of_not_mem hb]
  decide
theorem single_len (a b : ByteArray) (ha : a.size ≤ 100) (hb : b.size ≤ 100) : (a ++ ⟨#[63]⟩ ++ b ++ ⟨#[32, 63]⟩ : ByteArray).data.toList.length ≤ 10000000 := by
  rw [← Lib.size_eq, app_size, app_size, app_size]
  have e1 : (⟨#[63]⟩ : ByteArray).size = 1 := rfl
  have e2 : (⟨#[32, 63]⟩ : ByteArray).size = 2 := rfl
  omega
theorem two_below {w W0 w1 : World} {o1 o2 : Obj} (h0 : W0 = (w.alloc o1).alloc o2) (hb : Below W0.heap.size W0 w1) : Below w.heap.size w w1 := by
  have h1 : Below w.heap.size w W0 := by rw [h0]; exact below_alloc (below_alloc (Below.refl _ _) _) _
  exact below_step h1 hb
set_option maxRecDepth 100000 in
set_option maxHeartbeats 4000000 in
theorem inSingle_walk (a b : ByteArray) (x y : SV) (A B : Option Addr) (c d : Nat) (w : World) (ha : a.size ≤ 9223372036854775807) (hb : b.size ≤ 9223372036854775807) (hX : kV.C w A x.l.length x.l) (hY : kV.C w B y.l.length y.l) (hc : x.l.length ≤ c) (hd : y.l.length ≤ d) :
    Calls Try.prog 5 #[.string a, .string b, .agg #[.int .i64 x.k, .int .i64 x.n, .string x.s, .slice A x.l.length c], .agg #[.int .i64 y.k, .int .i64 y.n, .string y.s, .slice B y.l.length d]] w fun e w' => e = .returned (.bool true) ∧ Below w.heap.size w w' := by
  have hu2 := Try.underlying30
  have HX := Aside0.mk hX
  have HY := Aside0.mk hY
  have HC := Lib.hid hc
  have HD := Lib.hid hd
  clear hX hY hc hd
  go_enter Try.func5, Try.ntmps5
  obtain ⟨W0, hW0⟩ : ∃ W0, W0 = (w.alloc (.cells #[.int .i64 x.k, .int .i64 x.n, .string x.s, .slice A x.l.length c] 30)).alloc (.cells #[.int .i64 y.k, .int .i64 y.n, .string y.s, .slice B y.l.length d] 30) := ⟨_, rfl⟩
  have HW0 := Lib.hid hW0
  clear hW0
  go_wp2_with (first | (go_at_call 12; first | (have hzz := HB1; clear hzz; refine (zzFits4_any _ _ _ _ _ _ _).mono ?_; rintro e w2 ⟨⟨b, rfl, _⟩, hb1⟩; have HB2 := Aside0.mk (below_step HB1.out hb1); obtain ⟨p0, p1, p2, p3, q0, q1, q2, q3⟩ := boxed HW0.out HB2.out; clear hb1; cases b) | (refine (zzFits4_any _ _ _ _ _ _ _).mono ?_; rintro e w1 ⟨⟨b, rfl, _⟩, hb1⟩; rw [← HW0.out] at hb1; have HB1 := Aside0.mk hb1; obtain ⟨p0, p1, p2, p3, q0, q1, q2, q3⟩ := boxed HW0.out HB1.out; clear hb1; cases b)) | (go_at_call 13; refine (bare9_any [a, b] _ _ _ (reads_lit2 Kd.string _ w2.heap.size 9 [.string a] [.string b] a b (blk_new _ _) rfl rfl)).mono ?_; rintro e w3 ⟨⟨b', rfl, hb3⟩, rfl⟩; have HBR := Aside0.mk hb3; clear hb3; obtain ⟨p0, p1, p2, p3, q0, q1, q2, q3⟩ := boxed HW0.out (below_alloc HB2.out (.cells #[Value.string a, Value.string b] 9)); cases b') | (go_at_call 7; refine (single9_any [x, y] (some ⟨w2.heap.size + 1, 0, none⟩) 2 ((w2.alloc (.cells #[Value.string a, Value.string b] 9)).alloc (.cells #[Value.int .i64 x.k, .int .i64 x.n, .string x.s, .slice A x.l.length c, .int .i64 y.k, .int .i64 y.n, .string y.s, .slice B y.l.length d] 30)) (reads_lit2 kV ((w2.alloc (.cells #[Value.string a, Value.string b] 9)).alloc (.cells #[Value.int .i64 x.k, .int .i64 x.n, .string x.s, .slice A x.l.length c, .int .i64 y.k, .int .i64 y.n, .string y.s, .slice B y.l.length d] 30)) (w2.heap.size + 1) 30 [.int .i64 x.k, .int .i64 x.n, .string x.s, .slice A x.l.length c] [.int .i64 y.k, .int .i64 y.n, .string y.s, .slice B y.l.length d] x y (blk_new' _ _ _ (by simp)) (kV_mk _ x HC.out (Kd.C_below HX.out (below_alloc (below_alloc (two_below HW0.out HB2.out) _) _))) (kV_mk _ y HD.out (Kd.C_below HY.out (below_alloc (below_alloc (two_below HW0.out HB2.out) _) _))))).mono ?_; rintro e w4 ⟨⟨b', rfl, hb4⟩, hl4⟩; have HSI := Aside0.mk hb4; have HB4 := Aside0.mk (below_step (below_alloc (below_alloc HB2.out (.cells #[Value.string a, Value.string b] 9)) (.cells #[Value.int .i64 x.k, .int .i64 x.n, .string x.s, .slice A x.l.length c, .int .i64 y.k, .int .i64 y.n, .string y.s, .slice B y.l.length d] 30)) hl4); clear hb4 hl4; obtain ⟨p0, p1, p2, p3, q0, q1, q2, q3⟩ := boxed HW0.out HB4.out; obtain ⟨_, _, _, _, r0, r1, r2, r3⟩ := boxed HW0.out (below_alloc (below_alloc HB4.out (.cells #[Value.int .i64 x.k, .int .i64 x.n, .string x.s, .slice A x.l.length c] 30)) (.cells #[Value.int .i64 5, .int .i64 0, .string ⟨#[]⟩, .slice (some ⟨w4.heap.size, 0, none⟩) 1 1] 30)); cases b'))
  all_goals first | (go_ret; exact ⟨rfl, by first | exact below_alloc (below_alloc (Below.refl _ _) _) _ | exact two_below HW0.out HB4.out | exact below_alloc (below_alloc (two_below HW0.out HB2.out) _) _ | exact below_alloc (two_below HW0.out HB2.out) _ | exact two_below HW0.out HB2.out | exact two_below HW0.out HB1.out⟩) | skip
  go_wp2_with (first | (go_at_call 11; obtain ⟨px, py, hx, hy⟩ := pair_plain (HSI.out (by first | rfl | trivial)).2; have hba := (HBR.out (by first | rfl | trivial)).2 0 (by simp); have hbb := (HBR.out (by first | rfl | trivial)).2 1 (by simp); have hza := hba.2; have hzb := hbb.2; refine (Expanded_calls _ [none, some py] [px] (some ⟨w4.heap.size, 0, none⟩) 1 (some ⟨w4.heap.size + 1 + 1, 0, none⟩) 2 (((w4.alloc (.cells #[Value.int .i64 x.k, .int .i64 x.n, .string x.s, .slice A x.l.length c] 30)).alloc (.cells #[Value.int .i64 5, .int .i64 0, .string ⟨#[]⟩, .slice (some ⟨w4.heap.size, 0, none⟩) 1 1] 30)).alloc (.cells #[Value.int .i64 5, .int .i64 0, .string ⟨#[]⟩, .slice (some ⟨w4.heap.size, 0, none⟩) 1 1, .int .i64 y.k, .int .i64 y.n, .string y.s, .slice B y.l.length d] 30)) (reads_lit2 (kLV (some ⟨w4.heap.size, 0, none⟩) 1 1) _ _ 30 [.int .i64 5, .int .i64 0, .string ⟨#[]⟩, .slice (some ⟨w4.heap.size, 0, none⟩) 1 1] [.int .i64 y.k, .int .i64 y.n, .string y.s, .slice B y.l.length d] none (some py) (blk_new' _ _ _ (by simp)) rfl ⟨B, d, by rw [hy]; rfl⟩) (reads_lit1 (kPV.K _) _ _ 30 [.int .i64 x.k, .int .i64 x.n, .string x.s, .slice A x.l.length c] px (blk_alloc (blk_alloc (blk_new _ _) _) _) ⟨A, c, by rw [hx]; rfl⟩) (by simp) (by simp) (by simp) (by simp) (by rw [app_size, app_size, app_size]; have e1 : (⟨#[63]⟩ : ByteArray).size = 1 := rfl; have e2 : (⟨#[32, 63]⟩ : ByteArray).size = 2 := rfl; have e3 : a.size ≤ 100 := hza; have e4 : b.size ≤ 100 := hzb; omega) (single_count a b (bare_no hba) (bare_no hbb)) (by rw [single_text a b px py (bare_no hba) (bare_no hbb)]; exact single_len a b hza hzb)).mono ?_; rintro e w6 ⟨v5, he, h1, h2⟩; rw [single_text a b px py (bare_no hba) (bare_no hbb), bytes_eta] at he; subst he; obtain ⟨F, r, rfl, hleF, hF⟩ := Kd.R_reads h1; have M7 := Aside0.mk hF; have M8 := Aside0.mk (below_step (below_alloc (below_alloc (below_alloc HB4.out (.cells #[Value.int .i64 x.k, .int .i64 x.n, .string x.s, .slice A x.l.length c] 30)) (.cells #[Value.int .i64 5, .int .i64 0, .string ⟨#[]⟩, .slice (some ⟨w4.heap.size, 0, none⟩) 1 1] 30)) (.cells #[Value.int .i64 5, .int .i64 0, .string ⟨#[]⟩, .slice (some ⟨w4.heap.size, 0, none⟩) 1 1, .int .i64 y.k, .int .i64 y.n, .string y.s, .slice B y.l.length d] 30)) h2); clear h1 h2 hF; obtain ⟨p0, p1, p2, p3, q0, q1, q2, q3⟩ := boxed HW0.out M8.out; have HXP := Lib.hid hx; have HYP := Lib.hid hy; clear hx hy hba hbb hza hzb) | (go_at_call 10; refine (equalValues_plain (([none, some py].map (toIV [px])).flatMap IV.flat) F (some ⟨w6.heap.size, 0, none⟩) r 2 (w6.alloc (.cells #[Value.int .i64 x.k, .int .i64 x.n, .string x.s, .slice A x.l.length c, .int .i64 y.k, .int .i64 y.n, .string y.s, .slice B y.l.length d] 30)) (Kd.C_below M7.out (below_alloc (Below.refl _ _) _)) (reads_lit2 kPV _ _ 30 [.int .i64 x.k, .int .i64 x.n, .string x.s, .slice A x.l.length c] [.int .i64 y.k, .int .i64 y.n, .string y.s, .slice B y.l.length d] px py (blk_new _ _) ⟨A, c, by rw [HXP.out]; rfl⟩ ⟨B, d, by rw [HYP.out]; rfl⟩)).mono ?_; rintro e w11 ⟨rfl, h2⟩; have N7 := Aside0.mk (below_step (below_alloc M8.out (.cells #[Value.int .i64 x.k, .int .i64 x.n, .string x.s, .slice A x.l.length c, .int .i64 y.k, .int .i64 y.n, .string y.s, .slice B y.l.length d] 30)) h2); clear h2))
  go_ret
  exact ⟨rfl, two_below HW0.out N7.out⟩
end Go.Proofs.Ytnpjnekoifheoaa
