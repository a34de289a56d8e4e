/- laws.rows9: rows of arguments with names. -/
import Derived.Test.YtnpjnekoifheoaaDoorAll9
import Derived.Test.YtnpjnekoifheoaaDoorNames
import Derived.Test.YtnpjnekoifheoaaDoorLaws2
import Derived.Test.YtnpjnekoifheoaaDoorTexts
import Derived.Deep.RegionHeld3
import Derived.Deep.QuietTactic
import Derived.BigQuiet
import Derived.StillTailTactics
namespace Go.Proofs.YtnpjnekoifheoaaDoor
open Go Go.RowKit Go.Proofs.YtnpjnekoifheoaaDoorW.PrintWords
set_option linter.unusedVariables false
set_option maxRecDepth 100000

def Diff9 (names : List ByteArray) (i : Nat) : Prop := ∀ j, j < i → ∀ k, k < j → names.getD k ⟨#[]⟩ ≠ names.getD j ⟨#[]⟩
def rowsOf (names : List ByteArray) (pss : List (List PI)) : List (List (ByteArray × PI)) := pss.map (fun ps => names.zip ps)
/-- Rows of arguments. -/
def kAS : Kd (List (ByteArray × PI)) := Kd.slice 48 kA
structure RowsOk (names : List ByteArray) (vss : List (List SV)) (pss : List (List PI)) : Prop where
  n0 : 0 < names.length
  n6 : names.length ≤ 6
  ok : ∀ j, j < names.length → NameOk (names.getD j ⟨#[]⟩)
  diff : Diff9 names names.length
  v0 : 0 < vss.length
  v8 : vss.length ≤ 8
  len : pss.length = vss.length
  plain : ∀ i, i < vss.length → Plain (vss.getD i []) (pss.getD i [])
  wide : ∀ i, i < vss.length → (pss.getD i []).length = names.length
def Rows9Post (names : List ByteArray) (vss : List (List SV)) (base : Nat) (e : Ending) (w' : World) : Prop := ∃ v b, e = .returned (.tuple #[v, .bool b]) ∧ (b = true → ∃ pss, RowsOk names vss pss ∧ kAS.R 49 w' base (fun _ => True) v (rowsOf names pss))
theorem rows9_no {names : List ByteArray} {vss : List (List SV)} {base : Nat} {w' : World} (v : Value) : Rows9Post names vss base (.returned (.tuple #[v, .bool false])) w' := ⟨v, false, rfl, fun h => by cases h⟩
theorem getD_mem9 {l : List ByteArray} {i : Nat} (h : i < l.length) : l.getD i ⟨#[]⟩ ∈ l := by
  rw [List.getD_eq_getElem?_getD, List.getElem?_eq_getElem h]
  exact List.getElem_mem h
theorem str_ne9 {a b : ByteArray} (h : (a.toList == b.toList) = false) : a ≠ b := by
  rintro rfl
  simp at h
theorem cell_under9 {w w1 : World} {a : Addr} {v : Value} (h : w.cell? a = some v) (hb : Below w.heap.size w w1) : w1.cell? a = some v := by
  rw [hb.cell ?_]
  · exact h
  · rcases Nat.lt_or_ge a.block w.heap.size with h' | h'
    · exact h'
    · simp [World.cell?, Array.getElem?_eq_none h'] at h
theorem infoArg9 : (Tryd.prog.info? 48).map (fun i => (i.zero, i.size, i.bytes)) = some (some (.agg #[.string ⟨#[]⟩, .int .i64 0, .int .i64 0, .string ⟨#[]⟩, .slice none 0 0]), 5, 72) := by kernel_rfl
theorem infoArgs9 : (Tryd.prog.info? 49).map (fun i => (i.zero, i.size, i.bytes)) = some (some (.slice none 0 0), 1, 24) := by kernel_rfl
theorem zip_len (names : List ByteArray) (ps : List PI) (h : ps.length = names.length) : (names.zip ps).length = names.length := by rw [List.length_zip, h, Nat.min_self]
theorem getD_snoc_lt {α : Type} {l : List α} {x z : α} {j : Nat} (h : j < l.length) : (l ++ [x]).getD j z = l.getD j z := by
  rw [List.getD_eq_getElem?_getD, List.getD_eq_getElem?_getD, List.getElem?_append_left h]
theorem getD_snoc_eq {α : Type} {l : List α} {x z : α} {j : Nat} (h : j = l.length) : (l ++ [x]).getD j z = x := by
  subst h
  rw [List.getD_eq_getElem?_getD, List.getElem?_append_right (Nat.le_refl _), Nat.sub_self]
  rfl
set_option maxRecDepth 100000 in
set_option maxHeartbeats 8000000 in
theorem rows9_any (names : List ByteArray) (N : Option Addr) (cn : Nat) (vss : List (List SV)) (V : Option Addr) (cv : Nat) (w : World) (hN : Kd.string.C w N names.length names) (hNs : ∀ s ∈ names, s.size ≤ 9223372036854775807) (hV : kVV.C w V vss.length vss) (hlen : vss.length ≤ 2147483647) :
    Calls Tryd.prog 28 #[.slice N names.length cn, .slice V vss.length cv] w fun e w' => Rows9Post names vss w.heap.size e w' ∧ Below w.heap.size w w' := by
  have hu2 := Tryd.underlying41
  have hu3 := Tryd.underlying48
  have hu49 := Tryd.underlying49
  have hu56 := Tryd.underlying56
  have HN := Aside0.mk hN
  have HNs := Aside0.mk hNs
  have HV := Aside0.mk hV
  have hnl := (C_len hN).2
  clear hN hNs hV
  go_enter Tryd.func28, Tryd.ntmps28
  go_wp2
  go_loopw [14] (fun si wr => ∃ i : Nat, si = .int .i64 i ∧ i ≤ names.length ∧ Aside0 (∀ j, j < i → NameOk (names.getD j ⟨#[]⟩)) ∧ Aside0 (Diff9 names i) ∧ Aside0 (Below w.heap.size w wr)) (fun si _ => names.length - (intOf si).toNat)
  case atStart => exact ⟨0, rfl, Nat.zero_le _, ⟨fun j hj => by omega⟩, ⟨fun j hj => by omega⟩, ⟨Below.refl _ _⟩⟩
  case round =>
    obtain ⟨i, rfl, hi, HOKS, HDI, HB⟩ := hrel
    by_cases hlt : i < names.length
    · obtain ⟨ad, rfl, g0⟩ := at_S (Kd.C_below HN.out HB.out) (⟨#[]⟩ : ByteArray) i hlt
      have hsz := HNs.out _ (getD_mem9 hlt)
      obtain ⟨nm, hnm⟩ : ∃ nm, nm = names.getD i ⟨#[]⟩ := ⟨_, rfl⟩
      rw [← hnm] at g0 hsz
      have HNM := Lib.hid hnm
      clear hnm
      go_wp2_with (go_at_call 12; refine (named9_any nm _ hsz).mono ?_; rintro e w4 ⟨⟨b', rfl, hb⟩, rfl⟩; have HNK := Aside0.mk hb; clear hb; cases b')
      · go_ret2
        exact ⟨rows9_no _, HB.out⟩
      have HOK := Aside0.mk (HNK.out (by first | rfl | trivial))
      clear HNK
      go_loopw [24] (fun ui w5 => ∃ k : Nat, ui = .int .i64 k ∧ k ≤ i ∧ Aside0 (∀ j, j < k → names.getD j ⟨#[]⟩ ≠ nm) ∧ Aside0 (Below wr.heap.size wr w5)) (fun ui _ => i - (intOf ui).toNat)
      case atStart => exact ⟨0, rfl, Nat.zero_le _, ⟨fun j hj => by omega⟩, ⟨Below.refl _ _⟩⟩
      case round =>
        obtain ⟨k, rfl, hk, HNE, HB5⟩ := hrel
        have g5 := cell_under9 g0 HB5.out
        by_cases hlk : k < i
        · obtain ⟨ad2, ead, t0⟩ := at_S (Kd.C_below HN.out (below_step HB.out HB5.out)) (⟨#[]⟩ : ByteArray) k (by omega)
          injection ead with ead
          subst ead
          obtain ⟨n2, hn2⟩ : ∃ n2, n2 = names.getD k ⟨#[]⟩ := ⟨_, rfl⟩
          rw [← hn2] at t0
          have HN2 := Lib.hid hn2
          clear hn2
          go_wp2_with fail
          go_quiet (fail)
          go_wp2
          · go_ret2
            exact ⟨rows9_no _, below_step HB.out (pw_below_drewN HB5.out _)⟩
          · go_roundw
            case rel =>
              refine ⟨k + 1, by go_num, by omega, ⟨fun j hj => ?_⟩, ⟨pw_below_drewN HB5.out _⟩⟩
              by_cases e : j = k
              · subst e; rw [← HN2.out]; exact str_ne9 (a := n2) (b := nm) (by assumption)
              · exact HNE.out j (by omega)
            case measure => simp [intOf]; omega
        · have hki : k = i := by omega
          subst hki
          go_wp2
          go_roundw
          case rel =>
            refine ⟨k + 1, by go_num, by omega, ⟨fun j hj => ?_⟩, ⟨fun j hj q hq => ?_⟩, ⟨below_step HB.out HB5.out⟩⟩
            · by_cases e : j = k
              · subst e; rw [← HNM.out]; exact HOK.out
              · exact HOKS.out j (by omega)
            · by_cases e : j = k
              · subst e; rw [← HNM.out]; exact HNE.out q hq
              · exact HDI.out j (by omega) q hq
          case measure => simp [intOf]; omega
    · have hie : i = names.length := by omega
      subst hie
      go_wp2
      go_loopw [6, 40] (fun so si w5 => ∃ (i : Nat) (pss : List (List PI)), si = .int .i64 i ∧ i ≤ vss.length ∧ Aside0 (pss.length = i) ∧ Aside0 (∀ j, j < i → Plain (vss.getD j []) (pss.getD j []) ∧ (pss.getD j []).length = names.length) ∧ Aside0 (kAS.R 49 w5 w.heap.size (fun _ => True) so (rowsOf names pss)) ∧ Aside0 (Below w.heap.size w w5)) (fun _ si _ => vss.length - (intOf si).toNat)
      case atStart => exact ⟨0, [], rfl, Nat.zero_le _, ⟨rfl⟩, ⟨fun j hj => by omega⟩, ⟨Kd.R_nil _ _ _ _ _⟩, HB⟩
      case round =>
        clear HB
        obtain ⟨i, pss, rfl, hi2, HPL, HPS, HO, HB⟩ := hrel
        by_cases hlt : i < vss.length
        · obtain ⟨ad, A3, c3, rfl, g0, hle, hC⟩ := at_SL (Kd.C_below HV.out HB.out) i hlt
          obtain ⟨xs, hxs⟩ : ∃ xs, xs = vss.getD i [] := ⟨_, rfl⟩
          rw [← hxs] at g0 hle hC
          have HXS := Lib.hid hxs
          clear hxs
          by_cases hxl : xs.length = names.length
          · have hs9 := fun W h => single9_any xs A3 c3 W h
            rw [hxl] at g0 hle hC hs9
            have HC := Aside0.mk hC
            have HS9 := Aside0.mk hs9
            have HXL := Lib.hid hxl
            clear hC hs9 hxl
            go_wp2_with (go_at_call 18; refine (HS9.out _ HC.out).mono ?_; rintro e w4 ⟨⟨b', rfl, hb⟩, h2⟩; have HSK := Aside0.mk hb; have H4 := Aside0.mk h2; have g4 := cell_under9 g0 h2; clear hb h2; cases b')
            · go_ret2
              exact ⟨rows9_no _, below_step HB.out H4.out⟩
            obtain ⟨h30, ps, hps⟩ := HSK.out (by first | rfl | trivial)
            have hpl : ps.length = names.length := by rw [← HXL.out, hps.1, List.length_map]
            have HPX := Aside0.mk hps
            have HPZ := Lib.hid hpl
            have HC4 : Aside0 (kPV.C w4 A3 names.length ps) := ⟨by have h := Kd.C_below HC.out H4.out; rw [hps.1] at h; exact kPV_of_kV h⟩
            have HO4 := Aside0.mk (Kd.R_below HO.out H4.out)
            have HB4 := Aside0.mk (below_step HB.out H4.out)
            clear HSK hps hpl HC HO HB H4 g0
            obtain ⟨zs, hzs⟩ : ∃ zs, zs = names.zip ps := ⟨_, rfl⟩
            have hzl : zs.length = names.length := by rw [hzs]; exact zip_len _ _ HPZ.out
            have HZS := Lib.hid hzs
            have HZL := Lib.hid hzl
            have HRL := Lib.hid (show (rowsOf names pss).length = i by rw [rowsOf, List.length_map, HPL.out])
            clear hzs hzl
            go_loopw [10, 61] (fun sr su w6 => ∃ k : Nat, su = .int .i64 k ∧ k ≤ names.length ∧ Aside0 (kA.R 48 w6 w4.heap.size (fun _ => True) sr (zs.take k)) ∧ Aside0 (Below w4.heap.size w4 w6)) (fun _ su _ => names.length - (intOf su).toNat)
            case atStart => exact ⟨0, rfl, Nat.zero_le _, ⟨Kd.R_nil _ _ _ _ _⟩, ⟨Below.refl _ _⟩⟩
            case round =>
              obtain ⟨k, rfl, hk, HR, HB6⟩ := hrel
              by_cases hlk : k < names.length
              · obtain ⟨nd, rfl, t0⟩ := at_S (Kd.C_below HN.out HB4.out) (⟨#[]⟩ : ByteArray) k hlk
                obtain ⟨pd, A5, c5, rfl, q0, q1, q2, q3⟩ := at_PV HC4.out k hlk
                have e1 : zs.take (k + 1) = zs.take k ++ [(names.getD k ⟨#[]⟩, ps.getD k .nil)] := by
                  have h := zip_getD names ps k hlk (by rw [HPZ.out]; exact hlk)
                  rw [← HZS.out] at h
                  rw [take_snoc' zs k (by rw [HZL.out]; exact hlk) zA]
                  exact congrArg (fun x => zs.take k ++ [x]) h
                obtain ⟨nm, hnm⟩ : ∃ nm, nm = names.getD k ⟨#[]⟩ := ⟨_, rfl⟩
                obtain ⟨p, hp⟩ : ∃ p, p = ps.getD k .nil := ⟨_, rfl⟩
                rw [← hnm] at t0 e1
                rw [← hp] at q0 q1 q2 e1
                have E1 := Lib.hid e1
                have HNM := Lib.hid hnm
                have HP := Lib.hid hp
                clear e1 hnm hp
                go_wp2_with fail
                have HSS := Aside0.mk (show ∀ W', Below w4.heap.size w4 W' → (Below w4.heap.size w4 W' ∧ W'.cell? (nd.add k) = some (.string nm) ∧ W'.cell? (ad.add i) = some (.slice (some pd) names.length c3) ∧ W'.cell? (pd.add (k * 4)) = some (.int .i64 p.k) ∧ W'.cell? ⟨(pd.add (k * 4)).block, (pd.add (k * 4)).off + 1, none⟩ = some (.int .i64 p.n) ∧ W'.cell? ⟨(pd.add (k * 4)).block, (pd.add (k * 4)).off + 2, none⟩ = some (.string p.s) ∧ W'.cell? ⟨(pd.add (k * 4)).block, (pd.add (k * 4)).off + 3, none⟩ = some (.slice A5 0 c5)) from fun W' h => ⟨h, cell_under9 t0 h, cell_under9 g4 h, cell_under9 q0 h, cell_under9 q1 h, cell_under9 q2 h, cell_under9 q3 h⟩)
                have HQ0 := Aside0.mk (show kA.M wr.drew w4.heap.size (fun _ => False) (nm, p) [.string nm, .int .i64 p.k, .int .i64 p.n, .string p.s, .slice A5 0 c5] from ⟨[.string nm], _, rfl, rfl, A5, c5, rfl⟩)
                have HQ2 := Aside0.mk (Kd.R_below HR.out (Below.refl wr.heap.size wr).drew)
                have HQ3 := Aside0.mk HB6.out.drew
                have HQ4 := Aside0.mk (show ((zs.take k).length + 1) * 72 ≤ 140737488355328 by rw [List.length_take]; omega)
                go_region_held3 (fun w' => Below w4.heap.size w4 w' ∧ w'.cell? (nd.add k) = some (.string nm) ∧ w'.cell? (ad.add i) = some (.slice (some pd) names.length c3) ∧ w'.cell? (pd.add (k * 4)) = some (.int .i64 p.k) ∧ w'.cell? ⟨(pd.add (k * 4)).block, (pd.add (k * 4)).off + 1, none⟩ = some (.int .i64 p.n) ∧ w'.cell? ⟨(pd.add (k * 4)).block, (pd.add (k * 4)).off + 2, none⟩ = some (.string p.s) ∧ w'.cell? ⟨(pd.add (k * 4)).block, (pd.add (k * 4)).off + 3, none⟩ = some (.slice A5 0 c5))
                  (exact HSS.out _ (by first | exact HB6.out.drew | exact HB6.out | exact below_alloc HB6.out.drew _ | assumption))
                  ((refine Kd.R_append_step kA (w0 := w4) w4.heap.size (by rfl) (.tmp 64) (.tmp 77) 49 48 _ 72 (by rfl) hu49 infoArg9 (by rfl) (by decide) (by omega) _ (zs.take k) (nm, p) [.string nm, .int .i64 p.k, .int .i64 p.n, .string p.s, .slice A5 0 c5] (fun _ => True) (fun _ => False) (by rfl) (by rfl) HQ0.out (fun _ hk => hk.elim) (fun _ _ => trivial) HQ2.out HQ3.out HQ3.out.size HQ4.out ?_; intro v1 w3 hR3 hB3 hg3 hat3))
                have HR7 := Aside0.mk (show kA.R 48 w3 w4.heap.size (fun _ => True) v1 (zs.take (k + 1)) by rw [E1.out]; exact hR3)
                have HB7 := Aside0.mk hB3
                clear HQ0 HQ2 HQ3 HQ4 HR hR3 hB3 hg3 hat3 HSS t0 q0 q1 q2 q3
                go_wp2
                go_roundw
                case rel => exact ⟨k + 1, by go_num, by omega, HR7, HB7⟩
                case measure => simp [intOf]; omega
              · have hke : k = names.length := by omega
                subst hke
                rw [List.take_of_length_le (by rw [HZL.out]; exact Nat.le_refl _)] at HR
                obtain ⟨RA, rc, rfl, hle, hRC⟩ := Kd.R_reads HR.out
                clear hle hRC
                go_wp2_with (first | (with_reducible refine wpList_buildOne rfl (.tmp 81) 56 49 (.slice none 0 0) 24 rfl hu56 infoArgs9 rfl (.slice RA zs.length rc) rfl rfl ?_) | (at_builtin; refine Kd.R_append kAS (w0 := w) w.heap.size rfl (.tmp 80) (.tmp 82) 56 49 (.slice none 0 0) 24 rfl hu56 infoArgs9 rfl (by decide) (by omega) _ (rowsOf names pss) zs [.slice RA zs.length rc] (fun _ => True) (fun q => w4.heap.size ≤ q) rfl rfl ?aP ?aK (fun _ _ => trivial) ?aO ?aB ?aS ?aL ?_))
                case aP => exact ⟨_, rfl, Kd.R_lower (Kd.R_mono (Kd.R_bound HR.out) (fun q hq => hq.2.1)) HB4.out.size⟩
                case aK =>
                  intro q hq he
                  obtain ⟨inner, ho⟩ := Kd.R_own HO4.out
                  have := own_lt ho q he.symm
                  omega
                case aO => exact Kd.R_below HO4.out HB6.out
                case aB => exact below_step HB4.out HB6.out
                case aS => exact (below_step HB4.out HB6.out).size
                case aL => rw [HRL.out]; omega
                intro v1 w7 hR7 hB7 _ _
                have HR7 := Aside0.mk hR7
                have HB7 := Aside0.mk hB7
                clear hR7 hB7 HR HO4 HB6
                go_wp2
                go_roundw
                case rel =>
                  refine ⟨i + 1, pss ++ [ps], by go_num, by omega, ⟨by rw [List.length_append, HPL.out]; rfl⟩, ⟨fun j hj => ?_⟩, ⟨?_⟩, HB7⟩
                  · by_cases e : j = i
                    · rw [getD_snoc_eq (by rw [HPL.out]; exact e), e, ← HXS.out]
                      exact ⟨HPX.out, HPZ.out⟩
                    · rw [getD_snoc_lt (by rw [HPL.out]; omega)]
                      exact HPS.out j (by omega)
                  · have e : rowsOf names (pss ++ [ps]) = rowsOf names pss ++ [zs] := by rw [rowsOf, List.map_append, HZS.out]; rfl
                    rw [e]
                    exact HR7.out
                case measure => simp [intOf]; omega
          · clear hC
            have hxb : ((xs.length : Int) != (names.length : Int)) = true := by simp only [bne_iff_ne, ne_eq]; omega
            go_wp2
            go_ret2
            exact ⟨rows9_no _, HB.out⟩
        · have hie : i = vss.length := by omega
          subst hie
          obtain ⟨A, c, rfl, hle, hC⟩ := Kd.R_reads HO.out
          have hrl : (rowsOf names pss).length = vss.length := by rw [rowsOf, List.length_map, HPL.out]
          rw [hrl] at HO
          rw [hrl]
          go_wp2
          all_goals
            go_ret2
            first
              | exact ⟨rows9_no _, HB.out⟩
              | (refine ⟨⟨_, _, rfl, fun h => ?_⟩, HB.out⟩
                 have h' := of_decide_eq_true h
                 exact ⟨pss, ⟨by omega, by omega, HOKS.out, HDI.out, by omega, by omega, HPL.out, fun j hj => (HPS.out j hj).1, fun j hj => (HPS.out j hj).2⟩, HO.out⟩)
end Go.Proofs.YtnpjnekoifheoaaDoor
