/- The walk of laws.FnBoundOrder. -/
import Derived.Test.YtnpjnekoifheoaaBound
import Derived.Test.YtnpjnekoifheoaaEqual
import Derived.Test.YtnpjnekoifheoaaFlat
import Derived.Test.YtnpjnekoifheoaaTexts
import Derived.Test.YtnpjnekoifheoaaLaws2
import Derived.Deep.RegionHeld3
import Derived.Deep.QuietTactic
import Derived.BigQuiet
namespace Go.Proofs.Ytnpjnekoifheoaa
open Go Go.RowKit Go.MapKept Go.Proofs.YtnpjnekoifheoaaW.PrintWords
set_option linter.unusedVariables false

/-- The arguments after k rounds: the names with their values, the last one first. -/
def revArgs (names : List ByteArray) (ps : List PI) (k : Nat) : List (ByteArray × PI) := ((names.zip ps).take k).reverse
theorem infoS : (Try.prog.info? 9).map (fun i => (i.zero, i.size, i.bytes)) = some (some (.string ⟨#[]⟩), 1, 16) := by kernel_rfl
/-- What is asked after j rounds, and what is wanted. -/
def askedL (names : List ByteArray) (order : List Int) (j : Nat) : List ByteArray := (order.take j).map fun o => names.getD (o.toNat % names.length) ⟨#[]⟩
def wantL (n : Nat) (ps : List PI) (order : List Int) (j : Nat) : List PI := (order.take j).map fun o => ps.getD (o.toNat % n) .nil
theorem askedL_step (names : List ByteArray) (order : List Int) (j : Nat) (h : j < order.length) : askedL names order (j + 1) = askedL names order j ++ [names.getD ((order.getD j 0).toNat % names.length) ⟨#[]⟩] := by
  unfold askedL
  rw [take_snoc' order j h 0, List.map_append]
  rfl
theorem wantL_step (n : Nat) (ps : List PI) (order : List Int) (j : Nat) (h : j < order.length) : wantL n ps order (j + 1) = wantL n ps order j ++ [ps.getD ((order.getD j 0).toNat % n) .nil] := by
  unfold wantL
  rw [take_snoc' order j h 0, List.map_append]
  rfl
theorem revArgs_nodup (names : List ByteArray) (ps : List PI) (hl : ps.length = names.length) (hd : names.Nodup) : ((revArgs names ps names.length).map (·.1)).Nodup := by
  unfold revArgs
  rw [List.take_of_length_le (by simp; omega), List.map_reverse]
  refine (List.reverse_perm _).nodup_iff.2 ?_
  rw [List.map_fst_zip (by omega)]
  exact hd
theorem bound_look (names : List ByteArray) (ps : List PI) (order : List Int) (hl : ps.length = names.length) (hn : 0 < names.length) (hd : names.Nodup) : ∀ i, i < (askedL names order order.length).length → look ((revArgs names ps names.length).map entry) ((askedL names order order.length).getD i ⟨#[]⟩) = some ((wantL names.length ps order order.length).getD i .nil).enc := by
  intro i hi
  have hi' : i < order.length := by unfold askedL at hi; simpa using hi
  have hk : (order[i]).toNat % names.length < names.length := Nat.mod_lt _ hn
  have e1 : (askedL names order order.length).getD i ⟨#[]⟩ = names[(order[i]).toNat % names.length] := by
    unfold askedL
    simp only [List.take_length, List.getD_eq_getElem?_getD, List.getElem?_map, List.getElem?_eq_getElem hi', Option.map_some, Option.getD_some, List.getElem?_eq_getElem hk]
  have e2 : (wantL names.length ps order order.length).getD i .nil = ps[(order[i]).toNat % names.length] := by
    unfold wantL
    simp only [List.take_length, List.getD_eq_getElem?_getD, List.getElem?_map, List.getElem?_eq_getElem hi', Option.map_some, Option.getD_some, List.getElem?_eq_getElem (show (order[i]).toNat % names.length < ps.length by omega)]
  rw [e1, e2]
  have hm : entry (names[(order[i]).toNat % names.length], ps[(order[i]).toNat % names.length]) ∈ (revArgs names ps names.length).map entry := by
    refine List.mem_map_of_mem ?_
    unfold revArgs
    rw [List.take_of_length_le (by simp; omega), List.mem_reverse]
    have := List.getElem_mem (l := names.zip ps) (n := (order[i]).toNat % names.length) (by simp; omega)
    rwa [List.getElem_zip] at this
  exact look_some (by rw [entry_names]; exact revArgs_nodup names ps hl hd) hm
theorem infoA : (Try.prog.info? 32).map (fun i => (i.zero, i.size, i.bytes)) = some (some (.agg #[.string ⟨#[]⟩, .int .i64 0, .int .i64 0, .string ⟨#[]⟩, .slice none 0 0]), 5, 72) := by kernel_rfl

set_option maxRecDepth 100000 in
set_option maxHeartbeats 4000000 in
theorem boundOrder_walk (names : List ByteArray) (vals : List SV) (order : List Int) (A B D : Option Addr) (c d f : Nat) (w : World) (hN : Kd.string.C w A names.length names) (hV : kV.C w B vals.length vals) (hO : (Kd.int .u8).C w D order.length order) (hNs : ∀ j, (names.getD j ⟨#[]⟩).size ≤ 9223372036854775807) (hOs : ∀ j, 0 ≤ order.getD j 0 ∧ order.getD j 0 ≤ 255) :
    Calls Try.prog 3 #[.slice A names.length c, .slice B vals.length d, .slice D order.length f] w fun e w' => e = .returned (.bool true) ∧ Below w.heap.size w w' := by
  have hu2 := Try.underlying30
  have HN := Aside0.mk hN
  have HV := Aside0.mk hV
  have HO := Aside0.mk hO
  have HNs := Aside0.mk hNs
  have HOs := Aside0.mk hOs
  clear hN hV hO hNs hOs
  go_enter Try.func3, Try.ntmps3
  go_wp2_with (first | (go_at_call 6; refine (zzFits2_any names _ _ _ HN.out).mono ?_; rintro e w1 ⟨⟨b, rfl, _⟩, rfl⟩; cases b) | (go_at_call 7; refine (single9_any vals _ _ _ HV.out).mono ?_; rintro e w1 ⟨⟨b, rfl, hb⟩, hb1⟩; have HS := Aside0.mk hb; have HB := Aside0.mk hb1; clear hb hb1; cases b))
  all_goals first | (go_ret; exact ⟨rfl, by first | exact Below.refl _ _ | exact HB.out⟩) | skip
  have hn10 : names.length ≤ 10 := by omega
  have hn0 : 0 < names.length := by omega
  have hvl : vals.length = names.length := by omega
  have ho30 : order.length ≤ 30 := by omega
  obtain ⟨ps, hps⟩ := (HS.out (by first | rfl | trivial)).2
  have hpl : ps.length = names.length := by rw [← hvl, hps.1]; simp
  have HP := Aside0.mk (show kPV.C w B names.length ps from kPV_of_kV (by rw [← hps.1, ← hvl]; exact HV.out))
  have HPL := Lib.hid hpl
  have HVL := Lib.hid hvl
  clear hps hpl hvl HS HV
  go_loopw [7, 56] (fun out i wr => ∃ k : Nat, i = .int .i64 k ∧ k ≤ names.length ∧ Aside0 (kA.R 32 wr w.heap.size (fun _ => True) out (revArgs names ps k)) ∧ Aside0 (Below w.heap.size w wr) ∧ Aside0 ((names.take k).Nodup)) (fun _ i _ => names.length - (intOf i).toNat)
  case atStart => exact ⟨0, rfl, Nat.zero_le _, ⟨Kd.R_nil _ _ _ _ _⟩, ⟨HB.out⟩, ⟨by simp⟩⟩
  case round =>
    clear HB
    obtain ⟨k, rfl, hk, HR, HB, HD⟩ := hrel
    by_cases hlt : k < names.length
    · obtain ⟨ad, rfl, h0⟩ := at_S (Kd.C_below HN.out HB.out) (⟨#[]⟩ : ByteArray) k hlt
      obtain ⟨s, hs⟩ : ∃ s, s = names.getD k ⟨#[]⟩ := ⟨_, rfl⟩
      have hsz : s.size ≤ 9223372036854775807 := by rw [hs]; exact HNs.out k
      rw [← hs] at h0
      have HE := Aside0.mk hs
      clear hs
      go_wp2_with (go_at_call 8; refine (named9_any s _ hsz).mono ?_; rintro e w2 ⟨⟨b, rfl, hb⟩, rfl⟩; have HNm := Aside0.mk hb; clear hb; cases b)
      all_goals first | (go_ret; exact ⟨rfl, HB.out⟩) | skip
      clear h0
      obtain ⟨wo, rfl⟩ : ∃ wo : World, wo = wr := ⟨_, rfl⟩
      go_loopw [66] (fun j wi => ∃ m : Nat, j = .int .i64 m ∧ m ≤ k ∧ Aside0 (∀ i, i < m → ¬ names.getD i ⟨#[]⟩ = s) ∧ Aside0 (Below wo.heap.size wo wi)) (fun j _ => k - (intOf j).toNat)
      case atStart => exact ⟨0, rfl, Nat.zero_le _, ⟨fun i hi => by omega⟩, ⟨Below.refl _ _⟩⟩
      case round =>
        obtain ⟨m, rfl, hm, HF, HBI⟩ := hrel
        have HB2 := Aside0.mk (below_step HB.out HBI.out)
        by_cases hmt : m < k
        · obtain ⟨ad', ha', g0⟩ := at_S (Kd.C_below HN.out HB2.out) (⟨#[]⟩ : ByteArray) m (by omega)
          obtain ⟨ad'', ha'', h0⟩ := at_S (Kd.C_below HN.out HB2.out) (⟨#[]⟩ : ByteArray) k (by omega)
          cases ha'
          cases ha''
          rw [← HE.out] at h0
          obtain ⟨s', hs'⟩ : ∃ s', s' = names.getD m ⟨#[]⟩ := ⟨_, rfl⟩
          rw [← hs'] at g0
          have HE' := Aside0.mk hs'
          clear hs'
          have hml : m < names.length := by omega
          have i0 : (0 : Int) ≤ (m : Int) := by omega
          have i1 : (m : Int) < (names.length : Int) := by omega
          have i2 : (0 : Int) ≤ (k : Int) := by omega
          have i3 : (k : Int) < (names.length : Int) := by omega
          go_wp2_with fail
          go_quiet (fail)
          go_wp2
          · go_ret
            exact ⟨rfl, pw_below_drewN HB2.out _⟩
          · have hne : (s'.toList == s.toList) = false := by assumption
            go_roundw
            case rel =>
              refine ⟨m + 1, by go_num, by omega, ⟨fun i hi => ?_⟩, ⟨pw_below_drewN HBI.out _⟩⟩
              by_cases e : i = m
              · subst e
                rw [← HE'.out]
                rintro rfl
                simp at hne
              · exact HF.out i (by omega)
            case measure => simp [intOf]; omega
        · have hm' : m = k := by omega
          subst hm'
          obtain ⟨bd, C3, c3, rfl, g0, g1, g2, g3⟩ := at_PV HP.out m (by omega)
          obtain ⟨ad'', ha'', h0⟩ := at_S HN.out (⟨#[]⟩ : ByteArray) m (by omega)
          cases ha''
          rw [← HE.out] at h0
          obtain ⟨p, hp⟩ : ∃ p, p = ps.getD m .nil := ⟨_, rfl⟩
          rw [← hp] at g0 g1 g2
          have HPP := Aside0.mk hp
          clear hp
          have HSS : Hid (∀ w', Below w.heap.size w w' → (Below w.heap.size w w' ∧ w'.cell? (ad.add m) = some (.string s) ∧ w'.cell? (bd.add (m * 4)) = some (.int .i64 p.k) ∧ w'.cell? ⟨(bd.add (m * 4)).block, (bd.add (m * 4)).off + 1, none⟩ = some (.int .i64 p.n) ∧
            w'.cell? ⟨(bd.add (m * 4)).block, (bd.add (m * 4)).off + 2, none⟩ = some (.string p.s) ∧ w'.cell? ⟨(bd.add (m * 4)).block, (bd.add (m * 4)).off + 3, none⟩ = some (.slice C3 0 c3))) :=
            fun w' hb => ⟨hb, pw_cell_below hb h0, pw_cell_below hb g0, pw_cell_below hb g1, pw_cell_below hb g2, pw_cell_below hb g3⟩
          clear h0 g0 g1 g2 g3
          have i2 : (0 : Int) ≤ (m : Int) := by omega
          have i3 : (m : Int) < (names.length : Int) := by omega
          have i4 : m < vals.length := by omega
          have i5 : (m : Int) < (vals.length : Int) := by omega
          obtain ⟨A1, c1, rfl, hle1, hC1⟩ := Kd.R_reads (Kd.R_below HR.out HBI.out)
          have HC1 := Aside0.mk hC1
          clear hC1
          have hws := HB2.out.size
          have HQ1 := Aside0.mk (R_lit1 kA 32 wr.drew w.heap.size hws (s, p) [.string s, .int .i64 p.k, .int .i64 p.n, .string p.s, .slice C3 0 c3] (fun _ => ⟨[.string s], [.int .i64 p.k, .int .i64 p.n, .string p.s, .slice C3 0 c3], rfl, rfl, ⟨C3, c3, rfl⟩⟩))
          have HQ2 := Aside0.mk (ReadsRow.imp_ (R' := kA.K wr) HC1.out (below_alloc (below_drew (Below.refl wr.heap.size wr)) (.cells #[.string s, .int .i64 p.k, .int .i64 p.n, .string p.s, .slice C3 0 c3] 32)) (fun _ _ h => h))
          have HQ3 := Aside0.mk (below_alloc HB2.out.drew (.cells #[.string s, .int .i64 p.k, .int .i64 p.n, .string p.s, .slice C3 0 c3] 32))
          have HQ5 := Aside0.mk (show (1 + (revArgs names ps m).length) * 72 ≤ 140737488355328 by unfold revArgs; rw [List.length_reverse, List.length_take]; omega)
          go_wp2_with fail
          go_region_held3 (fun w' => Below w.heap.size w w' ∧ w'.cell? (ad.add m) = some (.string s) ∧ w'.cell? (bd.add (m * 4)) = some (.int .i64 p.k) ∧ w'.cell? ⟨(bd.add (m * 4)).block, (bd.add (m * 4)).off + 1, none⟩ = some (.int .i64 p.n) ∧
            w'.cell? ⟨(bd.add (m * 4)).block, (bd.add (m * 4)).off + 2, none⟩ = some (.string p.s) ∧ w'.cell? ⟨(bd.add (m * 4)).block, (bd.add (m * 4)).off + 3, none⟩ = some (.slice C3 0 c3))
            (exact HSS.out _ (by first | exact HB2.out.drew | exact below_alloc HB2.out.drew _ | assumption))
            ((refine Kd.R_append_rows_step kA (Rr := kA.K wr) (w0 := w) w.heap.size (by rfl) (.tmp 88) (.tmp 89) 27 32 _ 72 (by rfl) Try.underlying27 infoA (by rfl) (by decide) (by omega) _ [(s, p)] (revArgs names ps m) A1 _ _ (fun _ => True) (fun _ => False) (by rfl) (by rfl) HQ1.out HQ2.out (fun x cs h => h) (fun _ h => h.elim) (fun _ _ => trivial) HQ3.out HQ3.out.size HQ5.out ?_; intro v1 w3 hR3 hB3 hg3 hat3))
          have HR3 := Aside0.mk hR3
          have HB3 := Aside0.mk hB3
          clear hR3 hB3 hg3 hat3 HQ1 HQ2 HQ3 HQ5
          go_wp2
          go_roundw
          case rel =>
            refine ⟨m + 1, by go_num, by omega, ⟨?_⟩, HB3, ⟨?_⟩⟩
            · have e1 : revArgs names ps (m + 1) = [(s, p)] ++ revArgs names ps m := by
                unfold revArgs
                have hpl := HPL.out
                rw [take_snoc' (names.zip ps) m (by simp; omega) zA, List.reverse_append, zip_getD names ps m hlt (by omega), ← HE.out, ← HPP.out]
                rfl
              rw [e1]; exact HR3.out
            · rw [take_snoc' names m hlt ⟨#[]⟩, List.nodup_append]
              refine ⟨HD.out, by simp, fun x hx y hy => ?_⟩
              rw [List.mem_singleton.1 hy, ← HE.out]
              obtain ⟨i, hi, rfl⟩ := List.getElem_of_mem hx
              rw [List.length_take] at hi
              have := HF.out i (by omega)
              rw [List.getD_eq_getElem?_getD, List.getElem?_eq_getElem (by omega)] at this
              rw [List.getElem_take]
              exact this
          case measure => simp [intOf]; omega
    · have hk' : k = names.length := by omega
      subst hk'
      rw [List.take_length] at HD
      go_wp2
      obtain ⟨wo, rfl⟩ : ∃ wo : World, wo = wr := ⟨_, rfl⟩
      have hs0 := HB.out.size
      go_loopw [10, 11, 94] (fun asked want i wr => ∃ j : Nat, i = .int .i64 j ∧ j ≤ order.length ∧ Aside0 (Kd.string.R 9 wr wo.heap.size (fun _ => True) asked (askedL names order j)) ∧ Aside0 (kPV.R 30 wr wo.heap.size (fun _ => True) want (wantL names.length ps order j)) ∧ Aside0 (Below wo.heap.size wo wr)) (fun _ _ i _ => order.length - (intOf i).toNat)
      case atStart => exact ⟨0, rfl, Nat.zero_le _, ⟨Kd.R_nil _ _ _ _ _⟩, ⟨Kd.R_nil _ _ _ _ _⟩, ⟨Below.refl _ _⟩⟩
      case round =>
        obtain ⟨j, rfl, hj, J1, J2, HBr⟩ := hrel
        have HB3 := Aside0.mk (below_step HB.out HBr.out)
        by_cases hjt : j < order.length
        · obtain ⟨od, rfl, o0⟩ := at_S (Kd.C_below HO.out HB3.out) (0 : Int) j hjt
          have hob := HOs.out j
          obtain ⟨o, ho⟩ : ∃ o, o = order.getD j 0 := ⟨_, rfl⟩
          rw [← ho] at o0 hob
          have HOO := Aside0.mk ho
          clear ho
          obtain ⟨hob1, hob2⟩ := hob
          obtain ⟨kk, hkk⟩ : ∃ kk : Nat, kk = o.toNat % names.length := ⟨_, rfl⟩
          have hkn : kk < names.length := by rw [hkk]; exact Nat.mod_lt _ hn0
          have e1 : o % (names.length : Int) = (kk : Int) := by rw [hkk, Int.natCast_emod, Int.toNat_of_nonneg hob1]
          have e2 : o.tmod (names.length : Int) = (kk : Int) := by rw [Int.tmod_eq_emod_of_nonneg hob1]; exact e1
          have HKK := Aside0.mk hkk
          clear hkk
          obtain ⟨bd, C3, c3, rfl, g0, g1, g2, g3⟩ := at_PV HP.out kk (by omega)
          obtain ⟨ad, rfl, h0⟩ := at_S HN.out (⟨#[]⟩ : ByteArray) kk (by omega)
          obtain ⟨s, hs⟩ : ∃ s, s = names.getD kk ⟨#[]⟩ := ⟨_, rfl⟩
          obtain ⟨p, hp⟩ : ∃ p, p = ps.getD kk .nil := ⟨_, rfl⟩
          rw [← hs] at h0
          rw [← hp] at g0 g1 g2
          have HPP := Aside0.mk hp
          have HE := Aside0.mk hs
          clear hp hs
          have HSS : Hid (∀ w', Below w.heap.size w w' → (Below w.heap.size w w' ∧ w'.cell? (ad.add kk) = some (.string s) ∧ w'.cell? (bd.add (kk * 4)) = some (.int .i64 p.k) ∧ w'.cell? ⟨(bd.add (kk * 4)).block, (bd.add (kk * 4)).off + 1, none⟩ = some (.int .i64 p.n) ∧
            w'.cell? ⟨(bd.add (kk * 4)).block, (bd.add (kk * 4)).off + 2, none⟩ = some (.string p.s) ∧ w'.cell? ⟨(bd.add (kk * 4)).block, (bd.add (kk * 4)).off + 3, none⟩ = some (.slice C3 0 c3))) :=
            fun w' hb => ⟨hb, pw_cell_below hb h0, pw_cell_below hb g0, pw_cell_below hb g1, pw_cell_below hb g2, pw_cell_below hb g3⟩
          clear h0 g0 g1 g2 g3
          have i2 : (0 : Int) ≤ (kk : Int) := by omega
          have i3 : (kk : Int) < (names.length : Int) := by omega
          have i4 : kk < vals.length := by omega
          have i5 : (kk : Int) < (vals.length : Int) := by omega
          go_wp2_with fail
          have hT1 : ∀ q, q ∈ 9 :: Kd.string.E → q ≠ 30 := by intro q hq; simp [Kd.string, Kd.scalar] at hq; omega
          have hT2 : ∀ q, q ∈ 30 :: kPV.E → q ≠ 9 := by intro q hq; simp [kPV] at hq; omega
          have HL1 := Aside0.mk (show ((askedL names order j).length + 1) * 16 ≤ 140737488355328 by unfold askedL; rw [List.length_map, List.length_take]; omega)
          have HL2 := Aside0.mk (show ((wantL names.length ps order j).length + 1) * 56 ≤ 140737488355328 by unfold wantL; rw [List.length_map, List.length_take]; omega)
          have HT1 := Lib.hid hT1
          have HT2 := Lib.hid hT2
          clear hT1 hT2
          go_region_held3 (fun w' => Below w.heap.size w w' ∧ w'.cell? (ad.add kk) = some (.string s) ∧ w'.cell? (bd.add (kk * 4)) = some (.int .i64 p.k) ∧ w'.cell? ⟨(bd.add (kk * 4)).block, (bd.add (kk * 4)).off + 1, none⟩ = some (.int .i64 p.n) ∧
            w'.cell? ⟨(bd.add (kk * 4)).block, (bd.add (kk * 4)).off + 2, none⟩ = some (.string p.s) ∧ w'.cell? ⟨(bd.add (kk * 4)).block, (bd.add (kk * 4)).off + 3, none⟩ = some (.slice C3 0 c3))
            (exact HSS.out _ (below_step HB.out (by repeat (first | exact HBr.out | exact hB2 | exact hB1 | apply below_alloc | apply below_drew))))
            (first | (refine Kd.R_append_rows_step Kd.string (Rr := (fun (x : ByteArray) cs => cs = [Value.string x])) (w0 := wo) wo.heap.size (by rfl) (.tmp 105) (.tmp 110) 22 9 _ 16 (by rfl) Try.underlying22 infoS (by rfl) (by decide) (by omega) _ (askedL names order j) [s] _ 1 1 (fun _ => True) (fun _ => False) (by rfl) (by rfl) (by first | (refine Kd.R_below J1.out ?_; (repeat (first | exact Below.refl _ _ | apply below_alloc | apply below_drew)); done) | (refine Kd.R_below (R_past (Kd.R_below J1.out ?_) (Kd.R_below J2.out ?_) hg2 HT1.out) ?_ <;> ((repeat (first | exact Below.refl _ _ | apply below_alloc | apply below_drew)); done))) (reads_lit1 _ _ _ 9 [.string s] s (by first | (refine blk_drew (blk_new' _ _ _ ?_); simp; done) | (refine blk_drew (blk_alloc (blk_new' _ _ _ ?_) _); simp; done) | (refine blk_new' _ _ _ ?_; simp; done) | (refine blk_alloc (blk_new' _ _ _ ?_) _; simp; done) | (refine blk_past (w0 := wr) ?_ (by simp) J2.out hg2; (first | (refine blk_drew (blk_new' _ _ _ ?_); simp; done) | (refine blk_drew (blk_alloc (blk_new' _ _ _ ?_) _); simp; done) | (refine blk_new' _ _ _ ?_; simp; done) | (refine blk_alloc (blk_new' _ _ _ ?_) _; simp; done)))) rfl) (fun x cs h => h) (fun _ h => h.elim) (fun _ _ => trivial) (by repeat (first | exact HBr.out | exact hB2 | exact hB1 | apply below_alloc | apply below_drew)) (Below.size (B := wo.heap.size) (w := wo) (by repeat (first | exact HBr.out | exact hB2 | exact hB1 | apply below_alloc | apply below_drew))) HL1.out ?_; intro v1 w3 hR1 hB1 hg1 hat1) | (refine Kd.R_append_rows_step kPV (Rr := (fun (p : PI) cs => ∃ A c, cs = [.int .i64 p.k, .int .i64 p.n, .string p.s, .slice A 0 c])) (w0 := wo) wo.heap.size (by rfl) (.tmp 112) (.tmp 117) 23 30 _ 56 (by rfl) Try.underlying23 infoV (by rfl) (by decide) (by omega) _ (wantL names.length ps order j) [p] _ 1 1 (fun _ => True) (fun _ => False) (by rfl) (by rfl) (by first | (refine Kd.R_below J2.out ?_; (repeat (first | exact Below.refl _ _ | apply below_alloc | apply below_drew)); done) | (refine Kd.R_below (R_past (Kd.R_below J2.out ?_) (Kd.R_below J1.out ?_) hg1 HT2.out) ?_ <;> ((repeat (first | exact Below.refl _ _ | apply below_alloc | apply below_drew)); done))) (reads_lit1 _ _ _ 30 [.int .i64 p.k, .int .i64 p.n, .string p.s, .slice C3 0 c3] p (by first | (refine blk_drew (blk_new' _ _ _ ?_); simp; done) | (refine blk_drew (blk_alloc (blk_new' _ _ _ ?_) _); simp; done) | (refine blk_new' _ _ _ ?_; simp; done) | (refine blk_alloc (blk_new' _ _ _ ?_) _; simp; done) | (refine blk_past (w0 := wr) ?_ (by simp) J1.out hg1; (first | (refine blk_drew (blk_new' _ _ _ ?_); simp; done) | (refine blk_drew (blk_alloc (blk_new' _ _ _ ?_) _); simp; done) | (refine blk_new' _ _ _ ?_; simp; done) | (refine blk_alloc (blk_new' _ _ _ ?_) _; simp; done)))) ⟨C3, c3, rfl⟩) (fun x cs h => h) (fun _ h => h.elim) (fun _ _ => trivial) (by repeat (first | exact HBr.out | exact hB2 | exact hB1 | apply below_alloc | apply below_drew)) (Below.size (B := wo.heap.size) (w := wo) (by repeat (first | exact HBr.out | exact hB2 | exact hB1 | apply below_alloc | apply below_drew))) HL2.out ?_; intro v2 w4 hR2 hB2 hg2 hat2))
          all_goals first
            | (have F1 : Kd.string.R 9 w4 wo.heap.size (fun _ => True) v1 (askedL names order j ++ [s]) := by
                 refine R_past (Kd.R_below hR1 ?_) (Kd.R_below (R_past (Kd.R_below J2.out ?_) (Kd.R_below J1.out ?_) hg1 HT2.out) ?_) hg2 HT1.out <;> ((repeat (first | exact Below.refl _ _ | apply below_alloc | apply below_drew)); done)
               have F2 := hR2
               have F3 := hB2
               have HF1 := Aside0.mk F1
               have HF2 := Aside0.mk F2
               have HF3 := Aside0.mk F3
               clear F1 F2 F3 hR1 hB1 hg1 hat1 hR2 hB2 hg2 hat2)
            | (have F2 : kPV.R 30 w3 wo.heap.size (fun _ => True) v2 (wantL names.length ps order j ++ [p]) := by
                 refine R_past (Kd.R_below hR2 ?_) (Kd.R_below (R_past (Kd.R_below J1.out ?_) (Kd.R_below J2.out ?_) hg2 HT1.out) ?_) hg1 HT2.out <;> ((repeat (first | exact Below.refl _ _ | apply below_alloc | apply below_drew)); done)
               have F1 := hR1
               have F3 := hB1
               have HF1 := Aside0.mk F1
               have HF2 := Aside0.mk F2
               have HF3 := Aside0.mk F3
               clear F1 F2 F3 hR1 hB1 hg1 hat1 hR2 hB2 hg2 hat2)
          all_goals
            go_wp2
            go_roundw
          case rel =>
            refine ⟨j + 1, by go_num, by omega, ⟨?_⟩, ⟨?_⟩, HF3⟩
            · rw [askedL_step names order j hjt, ← HOO.out, ← HKK.out, ← HE.out]; exact HF1.out
            · rw [wantL_step names.length ps order j hjt, ← HOO.out, ← HKK.out, ← HPP.out]; exact HF2.out
          case measure => simp [intOf]; omega
          case rel =>
            refine ⟨j + 1, by go_num, by omega, ⟨?_⟩, ⟨?_⟩, HF3⟩
            · rw [askedL_step names order j hjt, ← HOO.out, ← HKK.out, ← HE.out]; exact HF1.out
            · rw [wantL_step names.length ps order j hjt, ← HOO.out, ← HKK.out, ← HPP.out]; exact HF2.out
          case measure => simp [intOf]; omega
          case rel =>
            refine ⟨j + 1, by go_num, by omega, ⟨?_⟩, ⟨?_⟩, HF3⟩
            · rw [askedL_step names order j hjt, ← HOO.out, ← HKK.out, ← HE.out]; exact HF1.out
            · rw [wantL_step names.length ps order j hjt, ← HOO.out, ← HKK.out, ← HPP.out]; exact HF2.out
          case measure => simp [intOf]; omega
        · have hj' : j = order.length := by omega
          subst hj'
          obtain ⟨A1, c1, rfl, hle1, hC1⟩ := Kd.R_reads J1.out
          obtain ⟨B1, d1, rfl, hle2, hC2⟩ := Kd.R_reads J2.out
          obtain ⟨E1, f1, rfl, hle3, hC3⟩ := Kd.R_reads (Kd.R_below HR.out HBr.out)
          have HC1 := Aside0.mk hC1
          have HC2 := Aside0.mk hC2
          have HC3 := Aside0.mk hC3
          clear hC1 hC2 hC3
          have hL1 : (askedL names order order.length).length = order.length := by unfold askedL; simp
          have hL2 : (wantL names.length ps order order.length).length = order.length := by unfold wantL; simp
          have HL1 := Lib.hid hL1
          have HL2 := Lib.hid hL2
          clear hL1 hL2
          have HND := Lib.hid (revArgs_nodup names ps HPL.out HD.out)
          have HLK := Lib.hid (bound_look names ps order HPL.out hn0 HD.out)
          go_wp2_with (first | (go_at_call 9; refine (Bound_plain (askedL names order order.length) (wantL names.length ps order order.length) (revArgs names ps names.length) HND.out _ _ _ _ _ HC1.out HC3.out (HL2.out.trans HL1.out.symm) HLK.out (by rw [HL1.out]; omega)).mono ?_; rintro e w5 ⟨v5, rfl, hv5, hb5⟩; obtain ⟨G5, g5, rfl, hle5, hC5⟩ := Kd.R_reads hv5; have HC5 := Aside0.mk hC5; have HB5 := Aside0.mk hb5; clear hv5 hC5 hb5) | (go_at_call 10; refine (equalValues_plain _ _ _ _ _ _ HC5.out (Kd.C_below HC2.out HB5.out)).mono ?_; rintro e w6 ⟨rfl, hb6⟩; have HB6 := Aside0.mk hb6; clear hb6))
          go_ret
          exact ⟨rfl, below_step (below_step (below_step HB.out HBr.out) HB5.out) HB6.out⟩

end Go.Proofs.Ytnpjnekoifheoaa
