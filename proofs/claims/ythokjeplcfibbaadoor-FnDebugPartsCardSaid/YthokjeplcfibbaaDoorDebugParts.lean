/- impl.Debug; the walk of laws.FnDebugParts. -/
import Derived.Test.YthokjeplcfibbaaDoorDbgS
import Derived.Test.YthokjeplcfibbaaDoorFlat
import Derived.Test.YthokjeplcfibbaaDoorRead
namespace Go.Proofs.YthokjeplcfibbaaDoor
open Go Go.RowKit Go.Proofs.YthokjeplcfibbaaDoorW.PrintWords
set_option linter.unusedVariables false
set_option maxRecDepth 100000

theorem Debug_is (q : ByteArray) (ps : List PI) (A : Option Addr) (c : Nat) (w : World) (hr : kPV.C w A ps.length ps) (ht : Tab w) (hf : ∀ p ∈ ps, p.fits ∧ p.s.size ≤ 200) (hq : q.size ≤ 100000) (hn : ps.length ≤ 100) (hct : q.data.toList.count 63 = ps.length) (hnd : nd false q.data.toList = true) :
    Calls Tryd.prog 10 #[.string q, .slice A ps.length c] w fun e w' => (∃ D : ByteArray, e = .returned (.string D) ∧ D.data.toList = fillL q.data.toList (ps.map PI.text) ∧ D.size ≤ 1000000) ∧ Below w.heap.size w w' := by
  have hsz : (fillL q.data.toList (ps.map PI.text)).length ≤ 1000000 := by
    have h := fill_len q.data.toList (ps.map PI.text) (fun x hx => by
      obtain ⟨p, hp, rfl⟩ := List.mem_map.1 hx
      have := p.text_len (hf p hp).1 (hf p hp).2
      omega)
    rw [List.length_map, ← Lib.size_eq] at h
    omega
  obtain ⟨tx, htx⟩ : ∃ tx : ByteArray, tx = ⟨(fillL q.data.toList (ps.map PI.text)).toArray⟩ := ⟨_, rfl⟩
  have htd : tx.data.toList = fillL q.data.toList (ps.map PI.text) := by rw [htx]
  have htz : tx.size ≤ 1000000 := by rw [Lib.size_eq, htd]; exact hsz
  have HGL := Aside0.mk (goList_plain ps A c 0 w hr (by omega))
  have HDS := Aside0.mk (fun (B : Option Addr) (d : Nat) (W : World) (hb : Below w.heap.size w W) (h : kPI.C W B ps.length ps) => DebugSqlizer_is q ps B d W h (ht.below hb) hf hq hn hct hnd)
  rw [← htx] at HDS
  have HTD := Lib.hid htd
  clear hr ht hf hct hnd hsz htx htd
  go_enter Tryd.func10, Tryd.ntmps10
  go_wp2_with (first
    | (go_at_call 12; refine HGL.out.mono ?_; rintro e w1 ⟨v, rfl, h1, h2⟩; obtain ⟨B, d, rfl, hle, hC⟩ := Kd.R_reads h1; have HC := Aside0.mk hC; have HB := Aside0.mk h2; clear h1 h2 hle hC)
    | (go_at_call 14; refine (Expr_is q B ps.length d _).mono ?_; rintro e w2 ⟨rfl, rfl⟩)
    | (go_at_call 13; refine (HDS.out B d _ HB.out HC.out).mono ?_; rintro e w3 ⟨rfl, h3⟩; have H3 := Aside0.mk (below_step HB.out h3); clear h3))
  go_ret
  exact ⟨⟨tx, rfl, HTD.out, htz⟩, H3.out⟩
def FullL (ss : List ByteArray) : Prop := ∀ j, 1 ≤ j → j + 1 < ss.length → (ss.getD j ⟨#[]⟩).data.toList ≠ []
set_option maxHeartbeats 800000 in
theorem full9_any (ss : List ByteArray) (A : Option Addr) (c : Nat) (w : World) (hr : Kd.string.C w A ss.length ss) :
    Calls Tryd.prog 6 #[.slice A ss.length c] w fun e w' => SaysB (FullL ss) e ∧ w = w' := by
  have hl := (C_len hr).2
  go_enter Tryd.func6, Tryd.ntmps6
  go_wp2
  go_loop [3] (fun i => ∃ k : Nat, i = .int .i64 k ∧ 1 ≤ k ∧ (k + 1 ≤ ss.length ∨ k = 1) ∧ Aside0 (∀ j, 1 ≤ j → j < k → j + 1 < ss.length → (ss.getD j ⟨#[]⟩).data.toList ≠ [])) (fun i => ss.length - (intOf i).toNat)
  case atStart => exact ⟨1, rfl, Nat.le_refl _, .inr rfl, ⟨fun j h1 h2 => by omega⟩⟩
  case round =>
    obtain ⟨k, rfl, hk1, hk, HP⟩ := hrel
    by_cases hlt : k + 1 < ss.length
    · obtain ⟨ad, rfl, h0⟩ := at_S hr (⟨#[]⟩ : ByteArray) k (by omega)
      obtain ⟨s, hs⟩ : ∃ s, s = ss.getD k ⟨#[]⟩ := ⟨_, rfl⟩
      rw [← hs] at h0
      have HS := Aside0.mk hs
      clear hs hr
      go_wp2
      all_goals first | (go_ret; exact ⟨⟨_, rfl, fun h => by cases h⟩, rfl⟩) | skip
      · have hne : s.toList.isEmpty = false ∨ ¬ s.toList = [] := by
          first
            | (left; assumption)
            | (right; assumption)
            | (right; intro h; simp_all)
        go_round
        case rel =>
          refine ⟨k + 1, by go_num, by omega, .inl (by omega), ⟨fun j h1 h2 h3 => ?_⟩⟩
          by_cases e : j = k
          · subst e
            rw [← HS.out, ← Lib.toList_data]
            rcases hne with h | h
            · intro e; rw [e] at h; cases h
            · exact h
          · exact HP.out j h1 (by omega) h3
        case measure => simp [intOf]; omega
    · have hnl : ¬ (k : Int) + 1 < (ss.length : Int) := by omega
      have hkb : (k : Int) + 1 ≤ 9223372036854775807 := by omega
      clear hk
      go_wp2
      go_ret
      exact ⟨⟨_, rfl, fun _ j h1 h2 => HP.out j h1 (by omega) h2⟩, rfl⟩
/-! The text between. -/
theorem bare_63 {s : ByteArray} (h : BareOk s) : (63 : UInt8) ∉ s.data.toList := by
  intro hm
  obtain ⟨i, hi, he⟩ := List.getElem_of_mem hm
  have h1 := h.1 i (by rw [Lib.size_eq]; exact hi)
  have e : (s.data.toList[i]'hi) = s[i]'(by rw [Lib.size_eq]; exact hi) := rfl
  rw [← e, he] at h1
  exact h1.2.2.1 rfl
def NoQ (l : List ByteArray) : Prop := ∀ j, (63 : UInt8) ∉ (l.getD j ⟨#[]⟩).data.toList
theorem noq_of {l : List ByteArray} (h : AllBare l l.length) : NoQ l := by
  intro j
  by_cases hj : j < l.length
  · exact bare_63 (h j hj)
  · rw [List.getD_eq_getElem?_getD, List.getElem?_eq_none (by omega)]
    decide
theorem small_of {l : List ByteArray} (h : AllBare l l.length) : ∀ j, (l.getD j ⟨#[]⟩).size ≤ 100 := by
  intro j
  by_cases hj : j < l.length
  · exact (h j hj).2
  · rw [List.getD_eq_getElem?_getD, List.getElem?_eq_none (by omega)]
    decide
abbrev betwQ (l : List ByteArray) (k : Nat) : List UInt8 := betw l (fun _ => [63]) k
theorem betw_count (l : List ByteArray) (hq : NoQ l) : ∀ k, (betwQ l (k + 1)).count 63 = k := by
  intro k
  induction k with
  | zero =>
    show (betw l _ (0 + 1)).count 63 = 0
    rw [betw, betw, if_pos rfl]
    exact List.count_eq_zero_of_not_mem (by simpa using hq 0)
  | succ k ih =>
    show (betw l _ (k + 1 + 1)).count 63 = k + 1
    rw [betw, if_neg (by omega), List.count_append, List.count_append, List.count_eq_zero_of_not_mem (hq (k + 1))]
    have ih' : (betw l (fun _ => [63]) (k + 1)).count 63 = k := ih
    rw [ih']
    rfl
theorem nd_q (t : List UInt8) : nd false (63 :: t) = nd true t := by
  rw [nd]
  simp
theorem betw_nd (l : List ByteArray) (hq : NoQ l) (hf : FullL l) : ∀ k, k + 1 ≤ l.length → ∀ rest, nd false (betwQ l (k + 1) ++ rest) = nd (decide (0 < k) && (l.getD k ⟨#[]⟩).data.toList.isEmpty) rest := by
  intro k
  induction k with
  | zero =>
    intro _ rest
    show nd false (betw l _ (0 + 1) ++ rest) = _
    rw [betw, betw, if_pos rfl, List.nil_append, List.nil_append, nd_plain _ _ (hq 0)]
    rfl
  | succ k ih =>
    intro hk rest
    show nd false (betw l _ (k + 1 + 1) ++ rest) = _
    rw [betw, if_neg (by omega), List.append_assoc, List.append_assoc]
    have h := ih (by omega) ([63] ++ ((l.getD (k + 1) ⟨#[]⟩).data.toList ++ rest))
    have h' : nd false (betw l (fun _ => [63]) (k + 1) ++ ([63] ++ ((l.getD (k + 1) ⟨#[]⟩).data.toList ++ rest))) = _ := h
    rw [h']
    have hb : (decide (0 < k) && (l.getD k ⟨#[]⟩).data.toList.isEmpty) = false := by
      by_cases h0 : 0 < k
      · have := hf k h0 (by omega)
        cases hl : (l.getD k ⟨#[]⟩).data.toList with
        | nil => exact absurd hl this
        | cons b r => simp
      · simp [h0]
    rw [hb, List.singleton_append, nd_q]
    have hp := hq (k + 1)
    cases hl : (l.getD (k + 1) ⟨#[]⟩).data.toList with
    | nil => simp
    | cons b r =>
      rw [hl] at hp
      have h1 : nd true (b :: r ++ rest) = nd false ((b :: r) ++ rest) := by
        simp only [List.mem_cons, not_or] at hp
        have e : (b == 63) = false := by
          rw [beq_eq_false_iff_ne]
          exact fun e => hp.1 e.symm
        rw [List.cons_append, nd, nd, e]
        rfl
      rw [h1, nd_plain _ _ hp]
      simp
theorem betw_end (l : List ByteArray) (hq : NoQ l) (hf : FullL l) (h0 : 0 < l.length) (rest : List UInt8) : nd false (betwQ l l.length ++ [32] ++ rest) = nd false rest := by
  obtain ⟨k, hk⟩ : ∃ k, l.length = k + 1 := ⟨l.length - 1, by omega⟩
  rw [hk, List.append_assoc, betw_nd l hq hf k (by omega), List.singleton_append, nd]
  simp
/-- Values that are told: their integers fit. -/
theorem fits_of {xs : List SV} {ps : List PI} (h : Plain xs ps) (hs : ∀ a ∈ xs, SVOk a) : ∀ p ∈ ps, p.fits ∧ p.s.size ≤ 200 := by
  intro p hp
  refine ⟨?_, h.2 p hp⟩
  have hm : p.sv ∈ xs := by rw [h.1]; exact List.mem_map_of_mem hp
  obtain ⟨_, _, hn, _, _⟩ := hs _ hm
  rcases p with _ | n | s | b
  · trivial
  · exact hn
  · trivial
  · trivial
theorem infoV9 : (Tryd.prog.info? 32).map (fun i => (i.zero, i.size, i.bytes)) = some (some (.agg #[.int .i64 0, .int .i64 0, .string ⟨#[]⟩, .slice none 0 0]), 4, 56) := by kernel_rfl
set_option maxRecDepth 100000 in
set_option maxHeartbeats 8000000 in
theorem debugParts_walk (as' : List ByteArray) (A : Option Addr) (ca : Nat) (bs : List ByteArray) (B : Option Addr) (cb : Nat) (xs : List SV) (X : Option Addr) (cx : Nat) (ys : List SV) (Y : Option Addr) (cy : Nat) (w : World) (hA : Kd.string.C w A as'.length as') (hAs : ∀ s ∈ as', s.size ≤ 9223372036854775807) (hB : Kd.string.C w B bs.length bs) (hBs : ∀ s ∈ bs, s.size ≤ 9223372036854775807) (hX : kV.C w X xs.length xs) (hXs : ∀ a ∈ xs, SVOk a) (hY : kV.C w Y ys.length ys) (hYs : ∀ a ∈ ys, SVOk a) (ht : Tab w) :
    Calls Tryd.prog 3 #[.slice A as'.length ca, .slice B bs.length cb, .slice X xs.length cx, .slice Y ys.length cy] w fun e w' => e = .returned (.bool true) ∧ Below w.heap.size w w' := by
  have HA := Aside0.mk hA
  have HB := Aside0.mk hB
  have HX := Aside0.mk hX
  have HY := Aside0.mk hY
  have HXs := Aside0.mk hXs
  have HYs := Aside0.mk hYs
  have HT := Aside0.mk ht
  have la := (C_len hA).2
  have lb := (C_len hB).2
  clear hA hB hX hY hXs hYs ht hAs hBs
  go_enter Tryd.func3, Tryd.ntmps3
  go_wp2_with fail
  refine (zzFits2_any as' _ _ _ HA.out).mono ?_
  rintro e wz ⟨⟨b, rfl, _⟩, rfl⟩
  cases b
  · go_wp2
    go_ret
    exact ⟨rfl, Below.refl _ _⟩
  go_wp2_with fail
  refine (zzFits2_any bs _ _ _ HB.out).mono ?_
  rintro e wz ⟨⟨b, rfl, _⟩, rfl⟩
  cases b
  · go_wp2
    go_ret
    exact ⟨rfl, Below.refl _ _⟩
  go_wp2_with fail
  all_goals first | (go_ret; exact ⟨rfl, Below.refl _ _⟩) | skip
  refine (bare9_any as' _ _ _ HA.out).mono ?_
  rintro e wz ⟨⟨b, rfl, hb⟩, rfl⟩
  have H1 := Aside0.mk hb
  clear hb
  cases b
  · go_wp2
    go_ret
    exact ⟨rfl, Below.refl _ _⟩
  go_wp2_with fail
  refine (bare9_any bs _ _ _ HB.out).mono ?_
  rintro e wz ⟨⟨b, rfl, hb⟩, rfl⟩
  have H2 := Aside0.mk hb
  clear hb
  cases b
  · go_wp2
    go_ret
    exact ⟨rfl, Below.refl _ _⟩
  go_wp2_with fail
  refine (full9_any as' _ _ _ HA.out).mono ?_
  rintro e wz ⟨⟨b, rfl, hb⟩, rfl⟩
  have H3 := Aside0.mk hb
  clear hb
  cases b
  · go_wp2
    go_ret
    exact ⟨rfl, Below.refl _ _⟩
  go_wp2_with fail
  refine (full9_any bs _ _ _ HB.out).mono ?_
  rintro e wz ⟨⟨b, rfl, hb⟩, rfl⟩
  have H4 := Aside0.mk hb
  clear hb
  cases b
  · go_wp2
    go_ret
    exact ⟨rfl, Below.refl _ _⟩
  go_wp2_with fail
  all_goals first | (go_ret; exact ⟨rfl, Below.refl _ _⟩) | skip
  refine (single9_any xs _ _ _ HX.out).mono ?_
  rintro e w1 ⟨⟨b, rfl, hb⟩, h1⟩
  have H5 := Aside0.mk hb
  have W1 := Aside0.mk h1
  clear hb h1
  cases b
  · go_wp2
    go_ret
    exact ⟨rfl, W1.out⟩
  go_wp2_with fail
  refine (single9_any ys _ _ _ (Kd.C_below HY.out W1.out)).mono ?_
  rintro e w2 ⟨⟨b, rfl, hb⟩, h1⟩
  have H6 := Aside0.mk hb
  have W2 := Aside0.mk (below_step W1.out h1)
  clear hb h1
  cases b
  · go_wp2
    go_ret
    exact ⟨rfl, W2.out⟩
  have hba := (H1.out (by first | rfl | trivial))
  have hbb := (H2.out (by first | rfl | trivial))
  have hfa := (H3.out (by first | rfl | trivial))
  have hfb := (H4.out (by first | rfl | trivial))
  obtain ⟨hx30, ps, hps⟩ := (H5.out (by first | rfl | trivial))
  obtain ⟨hy30, qs, hqs⟩ := (H6.out (by first | rfl | trivial))
  have hxa : xs.length + 1 = as'.length := by omega
  have hyb : ys.length + 1 = bs.length := by omega
  have hpx : ps.length = xs.length := by rw [hps.1, List.length_map]
  have hqy : qs.length = ys.length := by rw [hqs.1, List.length_map]
  have HPX : Aside0 (∀ W, Below w.heap.size w W → kPV.C W X xs.length ps) := ⟨fun W h => by
    have h1 := Kd.C_below HX.out h
    rw [← hpx]
    rw [hps.1, List.length_map] at h1
    exact kPV_of_kV h1⟩
  have HQY : Aside0 (∀ W, Below w.heap.size w W → kPV.C W Y ys.length qs) := ⟨fun W h => by
    have h1 := Kd.C_below HY.out h
    rw [← hqy]
    rw [hqs.1, List.length_map] at h1
    exact kPV_of_kV h1⟩
  have hfp := fits_of hps HXs.out
  have hfq := fits_of hqs HYs.out
  have ha20 := hba.1
  have hb20 := hbb.1
  have e32 : (⟨#[32]⟩ : ByteArray).size = 1 := rfl
  have hnqa := noq_of hba.2
  have hnqb := noq_of hbb.2
  have hsma := small_of hba.2
  have hsmb := small_of hbb.2
  have HBA := Aside0.mk (fun W (h : Below w.heap.size w W) => between9_question as' A ca W (Kd.C_below HA.out h) ha20 hsma)
  have HBB := Aside0.mk (fun W (h : Below w.heap.size w W) => between9_question bs B cb W (Kd.C_below HB.out h) hb20 hsmb)
  clear H1 H2 H3 H4 H5 H6 HX HY HXs HYs HA HB hsma hsmb
  have HPS := Aside0.mk hps
  have HQS := Aside0.mk hqs
  have HFP := Aside0.mk hfp
  have HFQ := Aside0.mk hfq
  have HFA := Aside0.mk hfa
  have HFB := Aside0.mk hfb
  have HNA := Aside0.mk hnqa
  have HNB := Aside0.mk hnqb
  clear hps hqs hfp hfq hfa hfb hnqa hnqb hba hbb
  go_wp2_with fail
  refine (HBA.out _ W2.out).mono ?_
  rintro e w3 ⟨⟨Sa, rfl, hSa, hSaz⟩, rfl⟩
  go_wp2_with fail
  refine (HBB.out _ W2.out).mono ?_
  rintro e w4 ⟨⟨Sb, rfl, hSb, hSbz⟩, rfl⟩
  have d1 : (Sa ++ ⟨#[32]⟩ : ByteArray).data.toList = betwQ as' as'.length ++ [32] := by rw [app_data', hSa]
  have d2 : (Sb ++ ⟨#[32]⟩ : ByteArray).data.toList = betwQ bs bs.length ++ [32] := by rw [app_data', hSb]
  have c1 : (Sa ++ ⟨#[32]⟩ : ByteArray).data.toList.count 63 = ps.length := by
    rw [d1, List.count_append, ← hxa, betw_count as' HNA.out, hpx]
    rfl
  have c2 : (Sb ++ ⟨#[32]⟩ : ByteArray).data.toList.count 63 = qs.length := by
    rw [d2, List.count_append, ← hyb, betw_count bs HNB.out, hqy]
    rfl
  have n2 : nd false (Sb ++ ⟨#[32]⟩ : ByteArray).data.toList = true := by
    have h := betw_end bs HNB.out HFB.out (by omega) []
    rw [List.append_nil] at h
    rw [d2, h]
    rfl
  have n1 : nd false (Sa ++ ⟨#[32]⟩ : ByteArray).data.toList = true := by
    have h := betw_end as' HNA.out HFA.out (by omega) []
    rw [List.append_nil] at h
    rw [d1, h]
    rfl
  have n12 : nd false (Sa ++ ⟨#[32]⟩ ++ (Sb ++ ⟨#[32]⟩) : ByteArray).data.toList = true := by
    rw [app_data', d1, betw_end as' HNA.out HFA.out (by omega)]
    exact n2
  have z1 : (Sa ++ ⟨#[32]⟩ : ByteArray).size ≤ 3001 := by rw [app_size', e32]; omega
  have z2 : (Sb ++ ⟨#[32]⟩ : ByteArray).size ≤ 3001 := by rw [app_size', e32]; omega
  have z12 : (Sa ++ ⟨#[32]⟩ ++ (Sb ++ ⟨#[32]⟩) : ByteArray).size ≤ 6002 := by rw [app_size']; omega
  obtain ⟨zs, hzs⟩ : ∃ zs, zs = ps ++ qs := ⟨_, rfl⟩
  have hzl : zs.length ≤ 60 := by rw [hzs, List.length_append]; omega
  have c12 : (Sa ++ ⟨#[32]⟩ ++ (Sb ++ ⟨#[32]⟩) : ByteArray).data.toList.count 63 = zs.length := by rw [app_data', List.count_append, c1, c2, hzs, List.length_append]
  have hfz : ∀ p ∈ zs, p.fits ∧ p.s.size ≤ 200 := fun p hp => by
    rw [hzs] at hp
    rcases List.mem_append.1 hp with hp | hp
    · exact HFP.out p hp
    · exact HFQ.out p hp
  have hD1 := fun (L : Option Addr) (f : Nat) (W : World) (h : Below w.heap.size w W) (hr : kPV.C W L zs.length zs) => Debug_is (Sa ++ ⟨#[32]⟩ ++ (Sb ++ ⟨#[32]⟩)) zs L f W hr (HT.out.below h) hfz (by omega) (by omega) c12 n12
  have hD2 := fun (W : World) (h : Below w.heap.size w W) => Debug_is (Sa ++ ⟨#[32]⟩) ps X cx W (by rw [hpx]; exact HPX.out W h) (HT.out.below h) HFP.out (by omega) (by omega) c1 n1
  have hD3 := fun (W : World) (h : Below w.heap.size w W) => Debug_is (Sb ++ ⟨#[32]⟩) qs Y cy W (by rw [hqy]; exact HQY.out W h) (HT.out.below h) HFQ.out (by omega) (by omega) c2 n2
  have hD4 := fun (W : World) (h : Below w.heap.size w W) => Debug_is ⟨#[97]⟩ [] none 0 W ⟨rfl, by simp, fun h => absurd h (Nat.lt_irrefl 0)⟩ (HT.out.below h) (fun p hp => by cases hp) (by decide) (by decide) (by decide) (by decide)
  have hE : fillL (Sa ++ ⟨#[32]⟩ ++ (Sb ++ ⟨#[32]⟩) : ByteArray).data.toList (zs.map PI.text) = fillL (Sa ++ ⟨#[32]⟩ : ByteArray).data.toList (ps.map PI.text) ++ fillL (Sb ++ ⟨#[32]⟩ : ByteArray).data.toList (qs.map PI.text) := by
    rw [app_data' (Sa ++ ⟨#[32]⟩) (Sb ++ ⟨#[32]⟩), hzs, List.map_append]
    exact fill_app _ _ _ _ (by rw [c1, List.length_map])
  rw [hpx] at hD2
  rw [hqy] at hD3
  have HD1 := Aside0.mk hD1
  have HD2 := Aside0.mk hD2
  have HD3 := Aside0.mk hD3
  have HD4 := Aside0.mk hD4
  have HE := Lib.hid hE
  have HZS := Lib.hid hzs
  have HPXL := Lib.hid hpx
  have HQYL := Lib.hid hqy
  clear hD1 hD2 hD3 hD4 hE hzs d1 d2 c1 c2 n1 n2 n12 c12 hfz hSa hSb z1 z2 z12 hpx hqy
  have hu := Tryd.underlying23
  have hi2 := infoV9
  have l1 : ((([] : List PI).length + xs.length) * 56 ≤ 140737488355328) := by rw [List.length_nil]; omega
  have HR0 := Aside0.mk (Kd.R_lower (R_empty kPV 32 w4) W2.out.size)
  have HB0 := Aside0.mk (below_alloc W2.out (.cells #[] 32))
  go_wp2_with (at_builtin; refine Kd.R_append_rows kPV (Rr := fun (p : PI) cs => ∃ A c, cs = [Value.int .i64 p.k, .int .i64 p.n, .string p.s, .slice A 0 c]) (w0 := w) w.heap.size rfl (.tmp 92) (.tmp 93) 23 32 (.agg #[.int .i64 0, .int .i64 0, .string ⟨#[]⟩, .slice none 0 0]) 56 rfl hu hi2 rfl (by decide) (by omega) _ [] ps X xs.length cx (fun _ => True) (fun _ => False) rfl rfl HR0.out (HPX.out _ HB0.out) (fun _ _ h => h) (fun _ hk => hk.elim) (fun _ _ => trivial) HB0.out HB0.out.size l1 ?_)
  intro v5 w5 hR5 hB5 _ _
  have HR5 := Aside0.mk hR5
  have HB5 := Aside0.mk hB5
  have l2 : ((ps.length + ys.length) * 56 ≤ 140737488355328) := by rw [HPXL.out]; omega
  clear hR5 hB5 l1 HR0 HB0
  go_wp2_with (at_builtin; refine Kd.R_append_rows kPV (Rr := fun (p : PI) cs => ∃ A c, cs = [Value.int .i64 p.k, .int .i64 p.n, .string p.s, .slice A 0 c]) (w0 := w) w.heap.size rfl (.tmp 94) (.tmp 95) 23 32 (.agg #[.int .i64 0, .int .i64 0, .string ⟨#[]⟩, .slice none 0 0]) 56 rfl hu hi2 rfl (by decide) (by omega) _ ps qs Y ys.length cy (fun _ => True) (fun _ => False) rfl rfl HR5.out (HQY.out _ HB5.out) (fun _ _ h => h) (fun _ hk => hk.elim) (fun _ _ => trivial) HB5.out HB5.out.size l2 ?_)
  intro v6 w6 hR6 hB6 _ _
  rw [← HZS.out] at hR6
  obtain ⟨L, f, rfl, hle, hC6⟩ := Kd.R_reads hR6
  have HB6 := Aside0.mk hB6
  have HC6 := Aside0.mk hC6
  clear hR6 hB6 l2 hle hC6 HR5 HB5
  go_wp2_with fail
  refine (HD1.out L f _ HB6.out HC6.out).mono ?_
  rintro e w7 ⟨⟨D1, rfl, hD1, hz1⟩, h7⟩
  have HB7 := Aside0.mk (below_step HB6.out h7)
  clear h7
  go_wp2_with fail
  refine (HD2.out _ HB7.out).mono ?_
  rintro e w8 ⟨⟨D2, rfl, hD2, hz2⟩, h8⟩
  have HB8 := Aside0.mk (below_step HB7.out h8)
  clear h8
  go_wp2_with fail
  refine (HD3.out _ HB8.out).mono ?_
  rintro e w9 ⟨⟨D3, rfl, hD3, hz3⟩, h9⟩
  have HB9 := Aside0.mk (below_step HB8.out h9)
  clear h9
  obtain rfl : D1 = D2 ++ D3 := ba_ext (by rw [app_data' D2 D3, hD1, hD2, hD3]; exact HE.out)
  clear hD1 hD2 hD3 hz1
  go_wp2_with (go_at_call 10; refine (HD4.out _ HB9.out).mono ?_; rintro e w10 ⟨⟨D4, rfl, hD4, hz4⟩, h10⟩; obtain rfl : D4 = ⟨#[97]⟩ := ba_ext hD4; have HB10 := Aside0.mk (below_step HB9.out h10); clear h10 hD4 hz4)
  go_ret
  exact ⟨rfl, HB10.out⟩
end Go.Proofs.YthokjeplcfibbaaDoor
