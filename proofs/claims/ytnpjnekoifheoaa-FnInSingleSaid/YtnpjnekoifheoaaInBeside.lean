/- The walk of laws.FnInBeside. -/
import Derived.Test.YtnpjnekoifheoaaExpd
import Derived.Test.YtnpjnekoifheoaaEqual
import Derived.Test.YtnpjnekoifheoaaFlat
import Derived.Test.YtnpjnekoifheoaaWGuard
import Derived.Deep.RegionHeld3
import Derived.Deep.QuietTactic
import Derived.BigQuiet
import Derived.BigGuardPart
namespace Go.Proofs.Ytnpjnekoifheoaa
open Go Go.RowKit Go.Proofs.YtnpjnekoifheoaaW.PrintWords
set_option linter.unusedVariables false

/-! #### the texts -/
def rep (n : Nat) (t : List UInt8) : List UInt8 := (List.replicate n t).flatten
theorem rep_succ (n : Nat) (t : List UInt8) : rep (n + 1) t = rep n t ++ t := by
  unfold rep
  rw [List.replicate_succ', List.flatten_append]
  simp
theorem rep_len (n : Nat) (t : List UInt8) : (rep n t).length = n * t.length := by
  unfold rep
  simp
theorem app_data (s t : ByteArray) : (s ++ t).data.toList = s.data.toList ++ t.data.toList := by simp
theorem app_size (s t : ByteArray) : (s ++ t).size = s.size + t.size := by simp
/-- One placeholder between texts without a question mark. -/
theorem expand_at (pre post r : List UInt8) (x : IV) (xs : List IV) (h1 : (63 : UInt8) ∉ pre) (h2 : (63 : UInt8) ∉ post) : expand (pre ++ 63 :: (post ++ r)) (x :: xs) = pre ++ (x.ph ++ (post ++ expand r xs)) := by
  rw [expand_pre _ _ _ h1, expand, if_pos rfl, expand_pre _ _ _ h2]
/-- Plain values in a row, each with its text. -/
theorem expand_rep (pre post r : List UInt8) (ps : List PI) (xs : List IV) (h1 : (63 : UInt8) ∉ pre) (h2 : (63 : UInt8) ∉ post) : expand (rep ps.length (pre ++ 63 :: post) ++ r) (ps.map IV.one ++ xs) = rep ps.length (pre ++ 63 :: post) ++ expand r xs := by
  induction ps with
  | nil => simp [rep]
  | cons p ps ih =>
    have e : rep (p :: ps).length (pre ++ 63 :: post) = pre ++ 63 :: (post ++ rep ps.length (pre ++ 63 :: post)) := by
      unfold rep
      rw [List.length_cons, List.replicate_succ, List.flatten_cons]
      simp
    have e2 : pre ++ 63 :: (post ++ rep ps.length (pre ++ 63 :: post)) ++ r = pre ++ 63 :: (post ++ (rep ps.length (pre ++ 63 :: post) ++ r)) := by simp
    rw [e, e2, List.map_cons, List.cons_append, expand_at _ _ _ _ _ h1 h2, ih]
    simp [IV.ph, IV.flat]
theorem count_rep (n : Nat) (t : List UInt8) : (rep n t).count 63 = n * t.count 63 := by
  induction n with
  | zero => simp [rep]
  | succ n ih => rw [rep_succ, List.count_append, ih, Nat.succ_mul]

def tA : List UInt8 := [97, 32, 61, 32, 63, 32, 65, 78, 68, 32]
def tB : List UInt8 := [98, 32, 73, 78, 32, 40, 63]
def tP : List UInt8 := [44, 32, 63]
def tC : List UInt8 := [32, 65, 78, 68, 32, 99, 32, 61, 32, 63]
theorem beside_text (xp lp yp : List PI) (hl : 0 < lp.length) : expand (rep xp.length tA ++ (tB ++ [41]) ++ rep yp.length tC) ((xp.map some ++ [none] ++ yp.map some).map (toIV lp)) = rep xp.length tA ++ tB ++ rep (lp.length - 1) tP ++ [41] ++ rep yp.length tC := by
  have e1 : ∀ zp : List PI, (zp.map some).map (toIV lp) = zp.map IV.one := fun zp => by rw [List.map_map]; rfl
  have e2 : (xp.map some ++ [none] ++ yp.map some).map (toIV lp) = xp.map IV.one ++ (IV.many lp :: (yp.map IV.one ++ [])) := by
    rw [List.map_append, List.map_append, e1, e1]
    simp [toIV]
  have hA : tA = [97, 32, 61, 32] ++ 63 :: [32, 65, 78, 68, 32] := rfl
  have hC : tC = [32, 65, 78, 68, 32, 99, 32, 61, 32] ++ 63 :: [] := rfl
  have e3 : rep xp.length tA ++ (tB ++ [41]) ++ rep yp.length tC = rep xp.length tA ++ ([98, 32, 73, 78, 32, 40] ++ 63 :: ([41] ++ (rep yp.length tC ++ []))) := by simp [tB]
  rw [e2, e3]
  conv => lhs; rw [hA]
  rw [expand_rep _ _ _ _ _ (by decide) (by decide), expand_at _ _ _ _ _ (by decide) (by decide), hC, expand_rep _ _ _ _ _ (by decide) (by decide), ← hA]
  simp [IV.ph, IV.flat, expand, rep, tB, tP]
theorem beside_count (n m : Nat) : (rep n tA ++ (tB ++ [41]) ++ rep m tC).count 63 = n + 1 + m := by
  rw [List.count_append, List.count_append, count_rep, count_rep]
  have h1 : tA.count 63 = 1 := by decide
  have h2 : (tB ++ [41]).count 63 = 1 := by decide
  have h3 : tC.count 63 = 1 := by decide
  rw [h1, h2, h3, Nat.mul_one, Nat.mul_one]
/-- A row of plain values, read as values that may be a list. -/
theorem LV_of_PV {w : World} {A : Option Addr} {n : Nat} {ps : List PI} (h : kPV.C w A n ps) : ReadsRow (fun (o : Option PI) cs => ∃ p, o = some p ∧ ∃ A c, cs = [.int .i64 p.k, .int .i64 p.n, .string p.s, .slice A 0 c]) 4 w A n (ps.map some) := by
  obtain ⟨h1, h2, h3⟩ := h
  refine ⟨by simpa using h1, h2, fun hn => ?_⟩
  obtain ⟨ad, e, hc⟩ := h3 hn
  refine ⟨ad, e, fun j o hj => ?_⟩
  rw [List.getElem?_map] at hj
  obtain ⟨p, hp, rfl⟩ := Option.map_eq_some_iff.1 hj
  obtain ⟨cs, hl, hK, hcell⟩ := hc j p hp
  exact ⟨cs, hl, ⟨p, rfl, hK⟩, hcell⟩
set_option maxRecDepth 100000 in
set_option maxHeartbeats 4000000 in
theorem inBeside_walk (x l y : List SV) (A B D : Option Addr) (c d f : Nat) (w : World) (hX : kV.C w A x.length x) (hL : kV.C w B l.length l) (hY : kV.C w D y.length y) :
    Calls Try.prog 4 #[.slice A x.length c, .slice B l.length d, .slice D y.length f] w fun e w' => e = .returned (.bool true) ∧ Below w.heap.size w w' := by
  have hu2 := Try.underlying30
  have HX := Aside0.mk hX
  have HL := Aside0.mk hL
  have HY := Aside0.mk hY
  clear hX hL hY
  go_enter Try.func4, Try.ntmps4
  go_wp2_with (go_at_call 7; first | (refine (single9_any y D _ _ (Kd.C_below HY.out HB2.out)).mono ?_; rintro e w3 ⟨⟨b, rfl, hb⟩, hb1⟩; have HS3 := Aside0.mk hb; have HB3 := Aside0.mk (below_step HB2.out hb1); clear hb hb1; cases b) | (refine (single9_any l B _ _ (Kd.C_below HL.out HB.out)).mono ?_; rintro e w2 ⟨⟨b, rfl, hb⟩, hb1⟩; have HS2 := Aside0.mk hb; have HB2 := Aside0.mk (below_step HB.out hb1); clear hb hb1; cases b) | (refine (single9_any x A _ _ HX.out).mono ?_; rintro e w1 ⟨⟨b, rfl, hb⟩, hb1⟩; have HS := Aside0.mk hb; have HB := Aside0.mk hb1; clear hb hb1; cases b))
  all_goals first | (go_ret; exact ⟨rfl, by first | exact Below.refl _ _ | exact HB3.out | exact HB2.out | exact HB.out⟩) | skip
  have hx10 : x.length ≤ 10 := by omega
  have hy10 : y.length ≤ 10 := by omega
  have hl20 : l.length ≤ 20 := by omega
  have hl0 : 0 < l.length := by omega
  obtain ⟨xp, hxp⟩ := (HS.out (by first | rfl | trivial)).2
  obtain ⟨lp, hlp⟩ := (HS2.out (by first | rfl | trivial)).2
  obtain ⟨yp, hyp⟩ := (HS3.out (by first | rfl | trivial)).2
  have hxl : xp.length = x.length := by rw [hxp.1]; simp
  have hll : lp.length = l.length := by rw [hlp.1]; simp
  have hyl : yp.length = y.length := by rw [hyp.1]; simp
  have PX := Aside0.mk (show kPV.C w A x.length xp from kPV_of_kV (by rw [← hxp.1]; exact HX.out))
  have PL := Aside0.mk (show kPV.C w B l.length lp from kPV_of_kV (by rw [← hlp.1]; exact HL.out))
  have PY := Aside0.mk (show kPV.C w D y.length yp from kPV_of_kV (by rw [← hyp.1]; exact HY.out))
  have HXL := Lib.hid hxl
  have HLL := Lib.hid hll
  have HYL := Lib.hid hyl
  clear hxp hlp hyp hxl hll hyl HS HS2 HS3 HX HL HY HB HB2
  go_loop [7, 8, 61] (fun s t i => ∃ (k : Nat) (S : ByteArray), i = .int .i64 k ∧ s = .string S ∧ t = .string S ∧ k ≤ x.length ∧ S.size = 10 * k ∧ Aside0 (S.data.toList = rep k tA)) (fun _ _ i => x.length - (intOf i).toNat)
  case atStart => exact ⟨0, ⟨#[]⟩, rfl, rfl, rfl, Nat.zero_le _, rfl, ⟨rfl⟩⟩
  case round =>
    obtain ⟨k, S, rfl, rfl, rfl, hk, hz, HSS⟩ := hrel
    by_cases hlt : k < x.length
    · go_wp2
      go_round
      case rel =>
        refine ⟨k + 1, _, by go_num, rfl, rfl, by omega, by rw [app_size, hz]; rfl, ⟨?_⟩⟩
        rw [app_data, HSS.out, rep_succ]
        rfl
      case measure => simp [intOf]; omega
    · have hk' : k = x.length := by omega
      subst hk'
      go_wp2
      generalize hS1 : S ++ (⟨#[98, 32, 73, 78, 32, 40, 63, 41]⟩ : ByteArray) = S1
      generalize hT1 : S ++ (⟨#[98, 32, 73, 78, 32, 40, 63]⟩ : ByteArray) = T1
      have hz1 : S1.size = 10 * x.length + 8 := by rw [← hS1, app_size, hz]; rfl
      have hz2 : T1.size = 10 * x.length + 7 := by rw [← hT1, app_size, hz]; rfl
      have HS1 := Lib.hid (show S1.data.toList = rep x.length tA ++ (tB ++ [41]) by rw [← hS1, app_data, HSS.out]; rfl)
      have HT1 := Lib.hid (show T1.data.toList = rep x.length tA ++ tB by rw [← hT1, app_data, HSS.out]; rfl)
      clear hS1 hT1 hz HSS
      go_loop [8, 75] (fun t i => ∃ (k : Nat) (T : ByteArray), i = .int .i64 k ∧ t = .string T ∧ k + 1 ≤ l.length ∧ T.size = 10 * x.length + 7 + 3 * k ∧ Aside0 (T.data.toList = rep x.length tA ++ tB ++ rep k tP)) (fun _ i => l.length - (intOf i).toNat)
      case atStart => exact ⟨0, T1, rfl, rfl, by omega, by omega, ⟨by rw [HT1.out]; simp [rep]⟩⟩
      case round =>
        obtain ⟨k, T, rfl, rfl, hk, hz, HTT⟩ := hrel
        by_cases hlt : k + 1 < l.length
        · go_wp2
          go_round
          case rel =>
            refine ⟨k + 1, _, by go_num, rfl, by omega, by rw [app_size, hz]; rfl, ⟨?_⟩⟩
            rw [app_data, HTT.out, rep_succ]
            simp [tP]
          case measure => simp [intOf]; omega
        · have hk' : k = l.length - 1 := by omega
          go_wp2
          generalize hT2 : T ++ (⟨#[41]⟩ : ByteArray) = T2
          have hz3 : T2.size = 10 * x.length + 8 + 3 * k := by rw [← hT2, app_size, hz]; show _ + 1 = _; omega
          have HT2 := Lib.hid (show T2.data.toList = rep x.length tA ++ tB ++ rep k tP ++ [41] by rw [← hT2, app_data, HTT.out])
          clear hT2 hz HTT
          go_loop [7, 8, 84] (fun s t i => ∃ (k2 : Nat) (S T : ByteArray), i = .int .i64 k2 ∧ s = .string S ∧ t = .string T ∧ k2 ≤ y.length ∧ S.size = 10 * x.length + 8 + 10 * k2 ∧ T.size = 10 * x.length + 8 + 3 * k + 10 * k2 ∧ Aside0 (S.data.toList = rep x.length tA ++ (tB ++ [41]) ++ rep k2 tC) ∧ Aside0 (T.data.toList = rep x.length tA ++ tB ++ rep k tP ++ [41] ++ rep k2 tC)) (fun _ _ i => y.length - (intOf i).toNat)
          case atStart => exact ⟨0, S1, T2, rfl, rfl, rfl, Nat.zero_le _, by omega, by omega, ⟨by rw [HS1.out]; simp [rep]⟩, ⟨by rw [HT2.out]; simp [rep]⟩⟩
          case round =>
            obtain ⟨k2, S, T, rfl, rfl, rfl, hk2, hzS, hzT, HS, HT⟩ := hrel
            by_cases hlt2 : k2 < y.length
            · go_wp2
              go_round
              case rel =>
                refine ⟨k2 + 1, _, _, by go_num, rfl, rfl, by omega, by rw [app_size, hzS]; rfl, by rw [app_size, hzT]; rfl, ⟨?_⟩, ⟨?_⟩⟩
                · rw [app_data, HS.out, rep_succ]; simp [tC]
                · rw [app_data, HT.out, rep_succ]; simp [tC]
              case measure => simp [intOf]; omega
            · have hk2' : k2 = y.length := by omega
              subst hk2'
              have hkl : k = lp.length - 1 := by rw [HLL.out]; exact hk'
              have hexp : expand S.data.toList ((xp.map some ++ [none] ++ yp.map some).map (toIV lp)) = T.data.toList := by
                rw [HS.out, HT.out, hkl, ← HXL.out, ← HYL.out]
                exact beside_text xp lp yp (by rw [HLL.out]; exact hl0)
              have hcnt : S.data.toList.count 63 = (xp.map some ++ [none] ++ yp.map some).length := by
                rw [HS.out, beside_count]
                simp [HXL.out, HYL.out]; omega
              obtain ⟨zs, hzs⟩ : ∃ zs, zs = xp.map some ++ [none] ++ yp.map some := ⟨_, rfl⟩
              have hzl : zs.length = x.length + 1 + y.length := by rw [hzs]; simp [HXL.out, HYL.out]; omega
              have hnone : none ∈ zs := by rw [hzs]; simp
              obtain ⟨ap, hap⟩ : ∃ ap, ap = xp ++ lp ++ yp := ⟨_, rfl⟩
              have hal : ap.length = x.length + l.length + y.length := by rw [hap]; simp [HXL.out, HLL.out, HYL.out]; omega
              have HAP := Lib.hid hap
              have HAL := Lib.hid hal
              have hfl : (zs.map (toIV lp)).flatMap IV.flat = ap := by
                rw [hap]
                rw [hzs]
                have e1 : ∀ zp : List PI, ((zp.map some).map (toIV lp)).flatMap IV.flat = zp := by
                  intro zp
                  induction zp with
                  | nil => rfl
                  | cons a b ih => rw [List.map_cons, List.map_cons, List.flatMap_cons, ih]; rfl
                rw [List.map_append, List.map_append, List.flatMap_append, List.flatMap_append, e1, e1]
                simp [toIV, IV.flat]
              rw [← hzs] at hexp hcnt
              have hlp : lp.length = l.length := HLL.out
              have HEXP := Lib.hid hexp
              have HCNT := Lib.hid hcnt
              have HZS := Lib.hid hzs
              have HZL := Lib.hid hzl
              have HNONE := Lib.hid hnone
              have HFL := Lib.hid hfl
              clear hexp hcnt hzs hzl hnone hfl hkl hap hal
              have HSS := Aside0.mk HS
              have HTT := Aside0.mk HT
              clear HS HT
              go_wp2_with (first | (at_builtin; refine Kd.R_append_rows (kLV B l.length d) (Rr := fun (o : Option PI) cs => ∃ p, o = some p ∧ ∃ A c, cs = [.int .i64 p.k, .int .i64 p.n, .string p.s, .slice A 0 c]) (w0 := w3) w3.heap.size rfl (.tmp 91) (.tmp 92) 23 30 _ 56 rfl Try.underlying23 infoV rfl (Nat.succ_pos 3) (by omega) _ [] (xp.map some) A x.length c (fun _ => True) (fun _ => False) rfl rfl (R_empty _ _ _) (LV_of_PV (Kd.C_below PX.out (below_alloc HB3.out _))) (fun o cs h => by obtain ⟨p, rfl, h⟩ := h; exact h) (fun _ h => h.elim) (fun _ _ => trivial) (below_alloc (Below.refl _ _) _) (by simp) (by rw [List.length_nil]; omega) ?_; intro v1 w4 h1 h2 h3 _; have M1 := Aside0.mk h1; have M2 := Aside0.mk h2; clear h1 h2 h3) | (at_builtin; refine Kd.R_append (kLV B l.length d) (w0 := w3) w3.heap.size rfl (.tmp 93) (.tmp 96) 23 30 _ 56 rfl Try.underlying23 infoV rfl (Nat.succ_pos 3) (by omega) _ ([] ++ xp.map some) none [.int .i64 5, .int .i64 0, .string ⟨#[]⟩, .slice B l.length d] (fun _ => True) (fun _ => False) rfl rfl rfl (fun _ h => h.elim) (fun _ _ => trivial) M1.out M2.out M2.out.size (by rw [List.nil_append, List.length_map, HXL.out]; omega) ?_; intro v2 w5 h1 h2 h3 _; have M3 := Aside0.mk h1; have M4 := Aside0.mk h2; clear h1 h2 h3) | (at_builtin; refine Kd.R_append_rows (kLV B l.length d) (Rr := fun (o : Option PI) cs => ∃ p, o = some p ∧ ∃ A c, cs = [.int .i64 p.k, .int .i64 p.n, .string p.s, .slice A 0 c]) (w0 := w3) w3.heap.size rfl (.tmp 97) (.tmp 98) 23 30 _ 56 rfl Try.underlying23 infoV rfl (Nat.succ_pos 3) (by omega) _ ([] ++ xp.map some ++ [none]) (yp.map some) D y.length f (fun _ => True) (fun _ => False) rfl rfl M3.out (LV_of_PV (Kd.C_below PY.out (below_step HB3.out M4.out))) (fun o cs h => by obtain ⟨p, rfl, h⟩ := h; exact h) (fun _ h => h.elim) (fun _ _ => trivial) M4.out M4.out.size (by rw [List.nil_append, List.length_append, List.length_map, HXL.out, List.length_singleton]; omega) ?_; intro v3 w6 h1 h2 h3 _; rw [List.nil_append, ← HZS.out] at h1; obtain ⟨E, g, rfl, hleE, hE⟩ := Kd.R_reads h1; have M5 := Aside0.mk hE; have M6 := Aside0.mk (below_step HB3.out h2); clear h1 h2 h3 hE) | (go_at_call 11; refine (Expanded_calls S zs lp B d E g _ (by rw [HLL.out]; exact M5.out) (by rw [HLL.out]; exact Kd.C_below PL.out M6.out) (by rw [HZL.out]; omega) (by omega) (by omega) HNONE.out (by omega) HCNT.out (by rw [HEXP.out, ← Lib.size_eq]; omega)).mono ?_; rintro e w7 ⟨v5, he, h1, h2⟩; rw [HEXP.out, show (⟨T.data.toList.toArray⟩ : ByteArray) = T by simp] at he; subst he; rw [HFL.out] at h1; obtain ⟨F, r, rfl, hleF, hF⟩ := Kd.R_reads h1; have M7 := Aside0.mk hF; have M8 := Aside0.mk (below_step M6.out h2); clear h1 h2 hF) | (refine gate_guard (by rfl) ?_; refine Kd.R_append_rows kPV (Rr := fun (p : PI) cs => ∃ A c, cs = [.int .i64 p.k, .int .i64 p.n, .string p.s, .slice A 0 c]) (w0 := w7) w7.heap.size rfl (.tmp 115) (.tmp 116) 23 30 _ 56 rfl Try.underlying23 infoV rfl (Nat.succ_pos 3) (by omega) _ [] xp A x.length c (fun _ => True) (fun _ => False) rfl rfl (R_empty _ _ _) (Kd.C_below PX.out (below_alloc M8.out _)) (fun p cs h => h) (fun _ h => h.elim) (fun _ _ => trivial) (below_alloc (Below.refl _ _) _) (by simp) (by rw [List.length_nil]; omega) ?_; intro v6 w8 h1 h2 h3 _; have N1 := Aside0.mk h1; have N2 := Aside0.mk h2; clear h1 h2 h3) | (refine gate_guard (by rfl) ?_; refine Kd.R_append_rows kPV (Rr := fun (p : PI) cs => ∃ A c, cs = [.int .i64 p.k, .int .i64 p.n, .string p.s, .slice A 0 c]) (w0 := w7) w7.heap.size rfl (.tmp 117) (.tmp 118) 23 30 _ 56 rfl Try.underlying23 infoV rfl (Nat.succ_pos 3) (by omega) _ ([] ++ xp) lp B l.length d (fun _ => True) (fun _ => False) rfl rfl N1.out (Kd.C_below PL.out (below_step M8.out N2.out)) (fun p cs h => h) (fun _ h => h.elim) (fun _ _ => trivial) N2.out N2.out.size (by rw [List.nil_append, HXL.out]; omega) ?_; intro v7 w9 h1 h2 h3 _; have N3 := Aside0.mk h1; have N4 := Aside0.mk h2; clear h1 h2 h3) | (refine gate_guard (by rfl) ?_; refine Kd.R_append_rows kPV (Rr := fun (p : PI) cs => ∃ A c, cs = [.int .i64 p.k, .int .i64 p.n, .string p.s, .slice A 0 c]) (w0 := w7) w7.heap.size rfl (.tmp 119) (.tmp 120) 23 30 _ 56 rfl Try.underlying23 infoV rfl (Nat.succ_pos 3) (by omega) _ ([] ++ xp ++ lp) yp D y.length f (fun _ => True) (fun _ => False) rfl rfl N3.out (Kd.C_below PY.out (below_step M8.out N4.out)) (fun p cs h => h) (fun _ h => h.elim) (fun _ _ => trivial) N4.out N4.out.size (by rw [List.nil_append, List.length_append, HXL.out, HLL.out]; omega) ?_; intro v8 w10 h1 h2 h3 _; rw [List.nil_append, ← HAP.out] at h1; obtain ⟨G, q, rfl, hleG, hG⟩ := Kd.R_reads h1; have N5 := Aside0.mk hG; have N6 := Aside0.mk h2; clear h1 h2 h3 hG) | (go_at_call 10; refine (equalValues_plain ap F G r q _ (Kd.C_below M7.out N6.out) N5.out).mono ?_; rintro e w11 ⟨rfl, h2⟩; have N7 := Aside0.mk h2; clear h2))
              go_ret
              exact ⟨rfl, below_step (below_step M8.out N6.out) N7.out⟩
end Go.Proofs.Ytnpjnekoifheoaa
