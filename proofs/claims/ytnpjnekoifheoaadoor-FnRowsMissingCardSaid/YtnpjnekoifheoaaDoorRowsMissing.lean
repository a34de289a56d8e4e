/- The walk of laws.FnRowsMissing. -/
import Derived.Test.YtnpjnekoifheoaaDoorRowsJ
import Derived.Deep.RegionLaw
namespace Go.Proofs.YtnpjnekoifheoaaDoor
open Go Go.RowKit Go.Proofs.YtnpjnekoifheoaaDoorW.PrintWords
set_option linter.unusedVariables false
set_option maxRecDepth 100000

/-- A row of one's own with something in it: its block. -/
theorem R_form {α : Type} {d : Kd α} {e : Nat} {w : World} {base : Nat} {ok : Nat → Prop} {v : Value} {xs : List α} (h : d.R e w base ok v xs) (hn : 0 < xs.length) : ∃ g c, v = .slice (some ⟨g, 0, none⟩) xs.length c ∧ base ≤ g ∧ g < w.heap.size := by
  obtain ⟨inner, ho⟩ := Kd.R_own h
  rcases ho.2 with ⟨_, h0⟩ | ⟨g, cap, cur, hv, hb, hg, _⟩
  · omega
  · exact ⟨g, cap, hv, hb, blk_lt hg⟩
/-- A row of rows is written over in place. -/
theorem store_row (w : World) (base g n cap i : Nat) (rows : List (List (ByteArray × PI))) (b4 : Nat) (h : kAS.R 49 w base (fun _ => True) (.slice (some ⟨g, 0, none⟩) n cap) rows) (hi : i < n) (v : Value) (less : List (ByteArray × PI)) (hv : kA.R 48 w b4 (fun _ => True) v less) (hb : base ≤ b4) (hg : g < b4) (u : Value) (hu : w.cell? ⟨g, i, none⟩ = some u) :
    kAS.C (w.setCell ⟨g, i, none⟩ v) (some ⟨g, 0, none⟩) n (rows.set i less) := by
  have hM : kAS.M w base (fun k => k ≠ g) less ([u].take 0 ++ [v] ++ [u].drop (0 + [v].length)) := ⟨v, rfl, Kd.R_lower (Kd.R_mono (Kd.R_bound hv) (fun k hk => by have := hk.2.1; omega)) hb⟩
  have e : ((i : Int).toNat * kAS.sz + 0) = i := by
    show i * 1 + 0 = i
    omega
  have h1 := (Kd.R_seg h (i : Int) (by omega) (by omega) (c := [u]) (seg := [v]) (j := 0) rfl (fun j x hx => by
    match j, hx with
    | 0, hx =>
      have hx' : u = x := by simpa using hx
      rw [e, ← hx']
      exact hu
    | j + 1, hx => simp at hx) (by show 0 + 1 ≤ 1; omega) hM (fun k hk => ⟨trivial, hk⟩)).1
  rw [e] at h1
  have h2 := (Kd.R_reads' h1).2.2
  have h3 := (Kd.R_reads' h1).1
  rw [← h3] at h2
  exact h2
set_option maxRecDepth 100000 in
set_option maxHeartbeats 16000000 in
theorem rowsMissing_walk (names : List ByteArray) (N : Option Addr) (cn : Nat) (vss : List (List SV)) (V : Option Addr) (cv : Nat) (a b : Int) (w : World) (hN : Kd.string.C w N names.length names) (hNs : ∀ s ∈ names, s.size ≤ 9223372036854775807) (hV : kVV.C w V vss.length vss) (ha : (Lit.int .u8 a).wf = true) (hb : (Lit.int .u8 b).wf = true) :
    Calls Tryd.prog 9 #[.slice N names.length cn, .slice V vss.length cv, .int .u8 a, .int .u8 b] w fun e w' => e = .returned (.bool true) ∧ Below w.heap.size w w' := by
  have hmin : IntKind.u8.min = 0 := by decide
  have hmax : IntKind.u8.max = 255 := by decide
  have h : 0 ≤ a ∧ a ≤ 255 := by
    simp [Lit.wf] at ha
    omega
  obtain ⟨h0, h1⟩ := h
  have h : 0 ≤ b ∧ b ≤ 255 := by
    simp [Lit.wf] at hb
    omega
  obtain ⟨h2, h3⟩ := h
  have HN := Aside0.mk hN
  have HNs := Aside0.mk hNs
  have HV := Aside0.mk hV
  clear hN hNs hV ha hb hmin hmax
  go_enter Tryd.func9, Tryd.ntmps9
  go_wp2_with (first
    | (go_at_call 15; refine (zzFits2_any names _ _ _ HN.out).mono ?_; rintro e wz ⟨⟨b, rfl, _⟩, rfl⟩; cases b)
    | (go_at_call 28; refine (rows9_any names N cn vss V cv _ HN.out HNs.out HV.out (by omega)).mono ?_; rintro e w1 ⟨⟨v, b, rfl, hb1⟩, h2⟩; have HR := Aside0.mk hb1; have HB1 := Aside0.mk h2; clear hb1 h2; cases b; rotate_left 1; (obtain ⟨pss, hok, hRR⟩ := HR.out rfl; obtain ⟨g, rc, rfl, hg1, hg2⟩ := R_form hRR (by rw [rowsOf_len, hok.len]; exact hok.v0); rw [rowsOf_len, hok.len] at hRR ⊢; have HOK := Aside0.mk hok; have HRR := Aside0.mk hRR; clear hok hRR HR)))
  all_goals first | (go_ret; exact ⟨rfl, by first | exact Below.refl _ _ | exact HB1.out⟩) | skip
  have hok := HOK.out
  have hz0 := hok.v0
  have hz8 := hok.v8
  have hn0 := hok.n0
  have hn6 := hok.n6
  refine (insert9_is names N cn 1 ⟨#[32, 86, 65, 76, 85, 69, 83, 32]⟩ ⟨#[]⟩ w1 (Kd.C_below HN.out HB1.out) hok.ok (by omega) (by omega) (by decide) (by decide)).mono ?_
  rintro e w2 ⟨⟨T, X, rfl, hT, _, hTz, _⟩, hb2⟩
  have hT' : T.data.toList = textL names names.length valuesW [] := hT
  have HB2 := Aside0.mk (below_step HB1.out hb2)
  have HR2 := Aside0.mk (Kd.R_below HRR.out hb2)
  have hC2 := (Kd.R_reads' HR2.out).2.2
  have hwide : ∀ i, i < pss.length → (pss.getD i []).length = names.length := fun i hi => hok.wide i (by rw [← hok.len]; exact hi)
  have hnm := fun (W : World) (hr : kAS.C W (some ⟨g, 0, none⟩) pss.length (rowsOf names pss)) => named_rows_ok T ⟨(wantL names.length pss.length valuesW []).toArray⟩ names pss valuesW [] (some ⟨g, 0, none⟩) rc W (by omega) hT' hn0 hn6 hok.ok hok.diff (by decide) (by simp) (by rw [hok.len]; exact hz0) (by rw [hok.len]; exact hz8) hwide hr
    (fun h => by rw [h, want_one]) (fun h W => fix_values names.length pss.length [] (by omega) (by omega) (by rw [hok.len]; omega) (by simp) (by simp) W)
  have hbad := fun (i0 k0 : Nat) (hi0 : i0 < pss.length) (hk0 : k0 < names.length) (W : World) (hr : kAS.C W (some ⟨g, 0, none⟩) pss.length ((rowsOf names pss).set i0 (lessRow names (pss.getD i0 []) k0))) => named_rows_bad T names pss valuesW [] i0 k0 (some ⟨g, 0, none⟩) rc W (by omega) hT' hn0 hn6 hok.ok hok.diff (by decide) (by simp) (by rw [hok.len]; exact hz8) hwide hi0 hk0 hr
  have hnone := fun (W : World) => named_rows_none T names valuesW [] W (by omega) hT' hn0 hn6 hok.ok (by decide) (by simp)
  rw [hok.len] at hnm hbad
  have HNM := Aside0.mk hnm
  have HBAD := Aside0.mk hbad
  have HNONE := Aside0.mk hnone
  have hC2' : kAS.C w2 (some ⟨g, 0, none⟩) vss.length (rowsOf names pss) := by
    have h := hC2
    rwa [rowsOf_len, hok.len] at h
  have HC2 := Aside0.mk hC2'
  clear hnm hbad hnone hT hT' hTz hb2 hC2 hC2' hwide hok
  go_wp2_with fail
  refine (HNM.out _ HC2.out).mono ?_
  rintro e w3 ⟨⟨v3, rfl, _⟩, hb3⟩
  have HB3 := Aside0.mk (below_step HB2.out hb3)
  have HR3 := Aside0.mk (Kd.R_below HR2.out hb3)
  clear hb3
  have ha1 : 0 ≤ a % (vss.length : Int) := Int.emod_nonneg a (by omega)
  have ha2 : a % (vss.length : Int) < vss.length := Int.emod_lt_of_pos a (by omega)
  have hb1 : 0 ≤ b % (names.length : Int) := Int.emod_nonneg b (by omega)
  have hb2 : b % (names.length : Int) < names.length := Int.emod_lt_of_pos b (by omega)
  have hvb : ((vss.length : Int) == 0) = false := by
    have h : ¬ (vss.length : Int) = 0 := by omega
    simpa using h
  have hnb : ((names.length : Int) == 0) = false := by
    have h : ¬ (names.length : Int) = 0 := by omega
    simpa using h
  go_wp2_with fail
  go_quiet (fail)
  obtain ⟨i0, hi0⟩ : ∃ i0 : Nat, a % (vss.length : Int) = i0 := ⟨(a % (vss.length : Int)).toNat, by omega⟩
  obtain ⟨k0, hk0⟩ : ∃ k0 : Nat, b % (names.length : Int) = k0 := ⟨(b % (names.length : Int)).toNat, by omega⟩
  rw [hi0, hk0]
  rw [hi0] at ha2
  rw [hk0] at hb2
  have hi : i0 < vss.length := by omega
  have hk : k0 < names.length := by omega
  have hB4 : Below w.heap.size w (w3.drewN nq) := pw_below_drewN HB3.out nq
  have hR4 : kAS.R 49 (w3.drewN nq) w.heap.size (fun _ => True) (.slice (some ⟨g, 0, none⟩) vss.length rc) (rowsOf names pss) := Kd.R_below HR3.out (pw_below_drewN (Below.refl w3.heap.size w3) nq)
  generalize w3.drewN nq = w4 at hB4 hR4 ⊢
  have HB4 := Aside0.mk hB4
  have HR4 := Aside0.mk hR4
  obtain ⟨c, hcl, hM, hcell, hfz⟩ := Kd.R_elem hR4 [] (i0 : Int) (by omega) (by omega)
  simp only [Int.toNat_natCast] at hM hcell hfz
  rw [rowsOf_at names pss i0 (by rw [HOK.out.len]; exact hi)] at hM
  obtain ⟨hv, rfl, hRow⟩ := hM
  have hwide := HOK.out.wide i0 hi
  obtain ⟨zs, hzs⟩ : ∃ zs, zs = names.zip (pss.getD i0 []) := ⟨_, rfl⟩
  rw [← hzs] at hRow
  have hzl : zs.length = names.length := by rw [hzs]; exact zip_len _ _ hwide
  obtain ⟨A3, c3, rfl, hle3, hC3⟩ := Kd.R_reads hRow
  rw [hzl] at hle3 hC3
  obtain ⟨L, hL, _⟩ := hC3.2.2 hn0
  subst hL
  have q0 : w4.cell? ⟨g, i0, none⟩ = some (.slice (some L) names.length c3) := by
    have h := hcell 0 _ rfl
    rw [hzl] at h
    have e : i0 * kAS.sz + 0 = i0 := Nat.mul_one i0
    rwa [e] at h
  have q1 : w4.frozen? ⟨g, i0, none⟩ = false := by
    have h := hfz 0
    have e : i0 * kAS.sz + 0 = i0 := Nat.mul_one i0
    rwa [e] at h
  obtain ⟨inner, ho⟩ := Kd.R_own hR4
  obtain ⟨gcs, hgb⟩ := own_typed ho g rfl
  have HGB := Aside0.mk hgb
  have HZS := Lib.hid hzs
  have HZL := Lib.hid hzl
  have HC3 := Aside0.mk hC3
  have HQ0 := Aside0.mk q0
  clear hB4 hR4 hcl hcell hfz hRow hwide hzs hzl hC3 ho hgb inner ha1 hb1 hi0 hk0
  have hu49 := Tryd.underlying49
  have hu56 := Tryd.underlying56
  have qd : w4.drew.cell? ⟨g, i0, none⟩ = some (.slice (some L) names.length c3) := q0
  have HWA := Aside0.mk (show Below w4.heap.size w4 (w4.alloc (.cells #[] 48)).drew from (below_alloc (Below.refl w4.heap.size w4) _).drew)
  have qa : (w4.alloc (.cells #[] 48)).drew.cell? ⟨g, i0, none⟩ = some (.slice (some L) names.length c3) := cell_under9 q0 HWA.out
  have HE1 := Aside0.mk (show kA.R 48 (w4.alloc (.cells #[] 48)).drew w4.heap.size (fun _ => True) (.slice (some ⟨w4.heap.size, 0, none⟩) 0 0) [] from Kd.R_below (R_empty kA 48 w4) (Below.refl _ _).drew)
  have htk : (zs.take k0).length = k0 := by rw [List.length_take, HZL.out]; omega
  have HTK := Aside0.mk (show ∀ W, Below w4.heap.size w4 W → kA.C W (some L) k0 (zs.take k0) from fun W h => by
    have h1 := Kd.C_below HC3.out h
    have h2 : kA.C W (some L) zs.length zs := by rw [HZL.out]; exact h1
    have h3 := Kd.C_take h2 (m := k0) (by rw [HZL.out]; omega)
    rwa [htk] at h3)
  have l1 : ((([] : List (ByteArray × PI)).length + k0) * 72 ≤ 140737488355328) := by rw [List.length_nil]; omega
  have hdl : (zs.drop (k0 + 1)).length = names.length - (k0 + 1) := by rw [List.length_drop, HZL.out]
  have hdr : ∀ W, Below w4.heap.size w4 W → kA.C W (if c3 = k0 + 1 then some L else some (L.add ((k0 + 1) * 5))) (names.length - (k0 + 1)) (zs.drop (k0 + 1)) := fun W h => by
    have h1 := Kd.C_below HC3.out h
    have h2 : kA.C W (some L) zs.length zs := by rw [HZL.out]; exact h1
    have h3 := Kd.C_drop h2 (m := k0 + 1) (c := c3) (by rw [HZL.out]; omega) (by rw [HZL.out]; exact hle3)
    rwa [hdl] at h3
  have l2 : (((zs.take k0).length + (names.length - (k0 + 1))) * 72 ≤ 140737488355328) := by rw [htk]; omega
  have hkc : k0 ≤ c3 := by omega
  have hkn : k0 + 1 ≤ names.length := by omega
  have hkc1 : k0 + 1 ≤ c3 := by omega
  have hwr : IntKind.i64.wrap ((k0 : Int) + 1) = (k0 : Int) + 1 := by rw [IntKind.wrap_i64]; omega
  have htn : ((k0 : Int) + 1).toNat = k0 + 1 := by omega
  have hw0 : (0 : Int) ≤ (k0 : Int) + 1 := by omega
  have hw1 : (k0 : Int) + 1 ≤ (names.length : Int) := by omega
  have HDR := Aside0.mk hdr
  have HGW := Aside0.mk (show ∀ W, Below w4.heap.size w4 W → W.frozen? ⟨g, i0, none⟩ = false from fun W h => blk_frozen (blk_below HGB.out h) _)
  clear hdr
  go_wp2_with fail
  go_region_law (first
      | (have hz := HR5; clear hz; refine Kd.R_append_rows_step kA (Rr := kA.K w4) (w0 := w4) w4.heap.size (by rfl) (.tmp 71) (.tmp 78) 49 48 _ 72 (by rfl) hu49 infoArg9 (by rfl) (by decide) (by omega) _ (zs.take k0) (zs.drop (k0 + 1)) _ (names.length - (k0 + 1)) _ (fun _ => True) (fun _ => False) (by rfl) (by rfl) HR5.out (HDR.out _ HB5.out) (fun _ _ h => h) (fun _ hk => hk.elim) (fun _ _ => trivial) HB5.out HB5.out.size l2 ?_; intro v6 w6 hR6 hB6 hg6 hat6; have q6 := cell_under9 HQ0.out hB6; have f6 := HGW.out _ hB6; have HB6 := Aside0.mk hB6; have HR6 := Aside0.mk hR6; obtain ⟨B6, c6, hv6, _, _⟩ := Kd.R_reads hR6; subst hv6; clear hR6 hB6 hg6 hat6)
      | (refine Kd.R_append_rows_step kA (Rr := kA.K w4) (w0 := w4) w4.heap.size (by rfl) (.tmp 64) (.tmp 70) 49 48 _ 72 (by rfl) hu49 infoArg9 (by rfl) (by decide) (by omega) _ [] (zs.take k0) (some L) k0 c3 (fun _ => True) (fun _ => False) (by rfl) (by rfl) HE1.out (HTK.out _ HWA.out) (fun _ _ h => h) (fun _ hk => hk.elim) (fun _ _ => trivial) HWA.out HWA.out.size l1 ?_; intro v5 w5 hR5 hB5 hg5 hat5; have q5 := cell_under9 HQ0.out hB5; have HR5 : Aside0 (kA.R 48 w5 w4.heap.size (fun _ => True) v5 (zs.take k0)) := ⟨hR5⟩; have HB5 := Aside0.mk hB5; clear hR5 hB5 hg5 hat5))
  all_goals
    have hlr : lessRow names (pss.getD i0 []) k0 = zs.take k0 ++ zs.drop (k0 + 1) := by rw [HZS.out]; rfl
    have hll : (zs.take k0 ++ zs.drop (k0 + 1)).length = k0 + (names.length - (k0 + 1)) := by rw [List.length_append, htk, hdl]
    have hv6 := HR6.out
    rw [hll] at hv6
    have hC7 := store_row w6 w.heap.size g vss.length rc i0 (rowsOf names pss) w4.heap.size (Kd.R_below HR4.out HB6.out) hi _ _ hv6 HB4.out.size (blk_lt HGB.out) _ q6
    have hB7 : Below w.heap.size w (w6.setCell ⟨g, i0, none⟩ (.slice B6 (k0 + (names.length - (k0 + 1))) c6)) := (below_step HB4.out HB6.out).setCell hg1 _
    rw [← hlr] at hC7
    generalize w6.setCell ⟨g, i0, none⟩ (.slice B6 (k0 + (names.length - (k0 + 1))) c6) = w7 at hC7 hB7 ⊢
    have HC7 := Aside0.mk hC7
    have HB7 := Aside0.mk hB7
    clear hC7 hB7 hv6 hll hlr q0 q1 qd qa q5 q6 f6 HE1 HWA HTK HDR HGW HR5 HR6
    go_wp2_with fail
    all_goals
      refine (HBAD.out i0 k0 hi hk _ HC7.out).mono ?_
      rintro e w8 ⟨rfl, h8⟩
      have HB8 := Aside0.mk (below_step HB7.out h8)
      clear h8
      go_wp2_with fail
      refine (HNONE.out _).mono ?_
      rintro e w9 ⟨rfl, h9⟩
      have HB9 := Aside0.mk (below_step HB8.out h9)
      clear h9
      go_wp2
      go_ret
      exact ⟨rfl, HB9.out⟩
end Go.Proofs.YtnpjnekoifheoaaDoor
