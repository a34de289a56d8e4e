/- sqlx.bindMap, sqlx.bindNamedMapper, sqlx.BindNamed, impl.NamedOf, impl.Named at right values. (Printed by wip/gennamed.py.) -/
import Derived.Test.YtnpjnekoifheoaaDoorBindR
import Derived.Test.YtnpjnekoifheoaaDoorCompd
namespace Go.Proofs.YtnpjnekoifheoaaDoor
open Go Go.RowKit Go.MapKept Go.Proofs.YtnpjnekoifheoaaDoorW.PrintWords
set_option linter.unusedVariables false
set_option maxRecDepth 100000

theorem pick {w : World} {xs : List (ByteArray × RX)} {vs : List IV} {es : List (ByteArray × Value)} (h : MapHas w xs vs xs.length es) (hn : (xs.map (·.1)).Nodup) : ∀ (asked : List ByteArray), (∀ a ∈ asked, ∃ j, j < xs.length ∧ a = (xs.getD j zAX).1) →
    ∃ (us : List UV) (ws : List IV), us.length = asked.length ∧ ws.length = asked.length ∧ (∀ i, i < asked.length → look es (asked.getD i ⟨#[]⟩) = some (us.getD i zU).1 ∧ IVAt w (ws.getD i (.one .nil)) (us.getD i zU).1 ∧ ∃ j, j < xs.length ∧ asked.getD i ⟨#[]⟩ = (xs.getD j zAX).1 ∧ ws.getD i (.one .nil) = vs.getD j (.one .nil)) := by
  intro asked
  induction asked with
  | nil => intro _; exact ⟨[], [], rfl, rfl, fun i hi => absurd hi (Nat.not_lt_zero i)⟩
  | cons a r ih =>
    intro ha
    obtain ⟨us, ws, h1, h2, h3⟩ := ih (fun b hb => ha b (List.mem_cons_of_mem _ hb))
    obtain ⟨j, hj, hja⟩ := ha a (List.mem_cons_self ..)
    obtain ⟨u, hu1, hu2⟩ := h.look hn j hj
    refine ⟨uvOf hu2 :: us, vs.getD j (.one .nil) :: ws, by simp [h1], by simp [h2], fun i hi => ?_⟩
    cases i with
    | zero => exact ⟨by rw [← hja] at hu1; exact hu1, hu2, j, hj, hja, rfl⟩
    | succ i =>
      have := h3 i (by simpa using hi)
      simpa using this
theorem pick_small {xs : List (ByteArray × RX)} {vs ws : List IV} {asked : List ByteArray} (h3 : ∀ i, i < asked.length → ∃ j, j < xs.length ∧ asked.getD i ⟨#[]⟩ = (xs.getD j zAX).1 ∧ ws.getD i (.one .nil) = vs.getD j (.one .nil)) (hwl : ws.length = asked.length) (hz : ∀ i ps, vs.getD i (.one .nil) = .many ps → ps.length ≤ 20) :
    ∀ i ps, ws.getD i (.one .nil) = .many ps → ps.length ≤ 20 := by
  intro i ps h
  by_cases hi : i < asked.length
  · obtain ⟨j, _, _, hj⟩ := h3 i hi
    exact hz j ps (by rw [← hj]; exact h)
  · rw [List.getD_eq_getElem?_getD, List.getElem?_eq_none (by rw [hwl]; omega)] at h
    cases h
theorem taMapMap (v : Value) (W : World) : (Instr.typeAssert (.iface 77 v) 20 77 true).run Tryd.prog W = .ok (.tuple #[v, .bool true]) W := by rfl
set_option maxHeartbeats 800000 in
theorem bindMap_ok (k : Int) (q : ByteArray) (fin : CS) (b : Nat) (es : List (ByteArray × Value)) (w : World) (hk0 : 0 ≤ k) (hk4 : k ≤ 4) (hq : q.size ≤ 100000) (hc : q.data.toList.count 58 ≤ 90) (hrun : crun k q.data.toList ⟨[], [], none⟩ = some fin) (hm : MapIs w b es) (hnl : fin.names.length ≤ 90) (us : List UV) (hl : us.length = fin.names.length) (ha : ∀ i, i < fin.names.length → look es (fin.names.getD i ⟨#[]⟩) = some (us.getD i zU).1) :
    Calls Tryd.prog 61 #[.int .i64 k, .string q, .map (some b)] w fun e w' => (∃ v, e = .returned (.tuple #[.string ⟨fin.reb.toArray⟩, v, .nilIface]) ∧ kU.R 20 w' w.heap.size (fun _ => True) v us) ∧ Below w.heap.size w w' := by
  have hcv := Lib.run_convert_string_bytes (P := Tryd.prog) w 9 26 5 q Tryd.underlying9 Tryd.underlying26 Tryd.underlying5
  have hC := bytes_read w q hq
  have hB := Lib.bytesWorld_below w 5 q
  generalize grownCap w q.size 0 5 = cc at hcv
  rw [Lib.size_eq] at hcv
  generalize Lib.bytesWorld w 5 q = w1 at hcv hC hB
  have HC := Aside0.mk (compile_any k q.data.toList fin _ cc w1 hk0 hk4 hC (by rw [← Lib.size_eq]; exact hq) hc hrun)
  have HB1 := Aside0.mk hB
  have HM := Aside0.mk hm
  have HL := Lib.hid hl
  have HA := Aside0.mk ha
  clear hC hB hc hrun hm hl ha
  go_enter Tryd.func61, Tryd.ntmps61
  go_wp2_with (first | (go_at_call 44; refine HC.out.mono ?_; rintro e w2 ⟨v, rfl, h1, h2⟩; obtain ⟨D, f, rfl, hle, hD⟩ := Kd.R_reads h1; have H1 := Aside0.mk hD; have HB2' := Aside0.mk h2; have HB2 := Aside0.mk (below_step HB1.out h2); clear h1 h2 hD hle) | (go_at_call 67; refine (bindMapArgs_ok fin.names us es b _ _ _ H1.out (HM.out.below HB2.out) HL.out HA.out (by omega)).mono ?_; rintro e w3 ⟨⟨v2, rfl, hv2⟩, h2⟩; have HV := Aside0.mk hv2; have HB3 := Aside0.mk (below_step HB2.out h2); clear h2))
  exact bodyPost_ret (v := .tuple #[.string ⟨fin.reb.toArray⟩, v2, .nilIface]) (by simp [results, Tryd.results61, go_sem]) rfl ⟨⟨v2, rfl, Kd.R_lower HV.out (below_step HB1.out HB2'.out).size⟩, HB3.out⟩
theorem bindNamedMapper_ok (k : Int) (q : ByteArray) (fin : CS) (b : Nat) (es : List (ByteArray × Value)) (w : World) (hk0 : 0 ≤ k) (hk4 : k ≤ 4) (hq : q.size ≤ 100000) (hc : q.data.toList.count 58 ≤ 90) (hrun : crun k q.data.toList ⟨[], [], none⟩ = some fin) (hm : MapIs w b es) (hnl : fin.names.length ≤ 90) (us : List UV) (hl : us.length = fin.names.length) (ha : ∀ i, i < fin.names.length → look es (fin.names.getD i ⟨#[]⟩) = some (us.getD i zU).1) :
    Calls Tryd.prog 55 #[.int .i64 k, .string q, .iface 77 (.map (some b))] w fun e w' => (∃ v, e = .returned (.tuple #[.string ⟨fin.reb.toArray⟩, v, .nilIface]) ∧ kU.R 20 w' w.heap.size (fun _ => True) v us) ∧ Below w.heap.size w w' := by
  have HC := Aside0.mk (bindMap_ok k q fin b es w hk0 hk4 hq hc hrun hm hnl us hl ha)
  have hta := taMapMap
  clear hc hrun hm hl ha
  go_enter Tryd.func55, Tryd.ntmps55
  go_wp2_with (go_at_call 61; refine HC.out.mono ?_; rintro e w2 ⟨⟨v2, rfl, hv2⟩, h2⟩; have HV := Aside0.mk hv2; have H2 := Aside0.mk h2; clear h2)
  exact bodyPost_ret (v := .tuple #[.string ⟨fin.reb.toArray⟩, v2, .nilIface]) (by simp [results, Tryd.results55, go_sem]) rfl ⟨⟨v2, rfl, HV.out⟩, H2.out⟩
theorem BindNamed_ok (k : Int) (q : ByteArray) (fin : CS) (b : Nat) (es : List (ByteArray × Value)) (w : World) (hk0 : 0 ≤ k) (hk4 : k ≤ 4) (hq : q.size ≤ 100000) (hc : q.data.toList.count 58 ≤ 90) (hrun : crun k q.data.toList ⟨[], [], none⟩ = some fin) (hm : MapIs w b es) (hnl : fin.names.length ≤ 90) (us : List UV) (hl : us.length = fin.names.length) (ha : ∀ i, i < fin.names.length → look es (fin.names.getD i ⟨#[]⟩) = some (us.getD i zU).1) :
    Calls Tryd.prog 41 #[.int .i64 k, .string q, .iface 77 (.map (some b))] w fun e w' => (∃ v, e = .returned (.tuple #[.string ⟨fin.reb.toArray⟩, v, .nilIface]) ∧ kU.R 20 w' w.heap.size (fun _ => True) v us) ∧ Below w.heap.size w w' := by
  have HC := Aside0.mk (bindNamedMapper_ok k q fin b es w hk0 hk4 hq hc hrun hm hnl us hl ha)
  have hta := taMapMap
  clear hc hrun hm hl ha
  go_enter Tryd.func41, Tryd.ntmps41
  go_wp2_with (go_at_call 55; refine HC.out.mono ?_; rintro e w2 ⟨⟨v2, rfl, hv2⟩, h2⟩; have HV := Aside0.mk hv2; have H2 := Aside0.mk h2; clear h2)
  exact bodyPost_ret (v := .tuple #[.string ⟨fin.reb.toArray⟩, v2, .nilIface]) (by simp [results, Tryd.results41, go_sem]) rfl ⟨⟨v2, rfl, HV.out⟩, H2.out⟩
set_option maxHeartbeats 800000 in
theorem bindMap_bad (k : Int) (q : ByteArray) (fin : CS) (b : Nat) (es : List (ByteArray × Value)) (w : World) (hk0 : 0 ≤ k) (hk4 : k ≤ 4) (hq : q.size ≤ 100000) (hc : q.data.toList.count 58 ≤ 90) (hrun : crun k q.data.toList ⟨[], [], none⟩ = some fin) (hm : MapIs w b es) (hnl : fin.names.length ≤ 90) (ha : ∀ i, i < fin.names.length → look es (fin.names.getD i ⟨#[]⟩) = none ∨ ∃ u : UV, look es (fin.names.getD i ⟨#[]⟩) = some u.1) (hbad : ∃ i, i < fin.names.length ∧ look es (fin.names.getD i ⟨#[]⟩) = none) :
    Calls Tryd.prog 61 #[.int .i64 k, .string q, .map (some b)] w fun e w' => (∃ v p, e = .returned (.tuple #[.string ⟨fin.reb.toArray⟩, v, .iface 103 p])) ∧ Below w.heap.size w w' := by
  have hcv := Lib.run_convert_string_bytes (P := Tryd.prog) w 9 26 5 q Tryd.underlying9 Tryd.underlying26 Tryd.underlying5
  have hC := bytes_read w q hq
  have hB := Lib.bytesWorld_below w 5 q
  generalize grownCap w q.size 0 5 = cc at hcv
  rw [Lib.size_eq] at hcv
  generalize Lib.bytesWorld w 5 q = w1 at hcv hC hB
  have HC := Aside0.mk (compile_any k q.data.toList fin _ cc w1 hk0 hk4 hC (by rw [← Lib.size_eq]; exact hq) hc hrun)
  have HB1 := Aside0.mk hB
  have HM := Aside0.mk hm
  have HA := Aside0.mk ha
  have HBAD := Aside0.mk hbad
  clear hC hB hc hrun hm ha hbad
  go_enter Tryd.func61, Tryd.ntmps61
  go_wp2_with (first | (go_at_call 44; refine HC.out.mono ?_; rintro e w2 ⟨v, rfl, h1, h2⟩; obtain ⟨D, f, rfl, hle, hD⟩ := Kd.R_reads h1; have H1 := Aside0.mk hD; have HB2' := Aside0.mk h2; have HB2 := Aside0.mk (below_step HB1.out h2); clear h1 h2 hD hle) | (go_at_call 67; refine (bindMapArgs_bad fin.names es b _ _ _ H1.out (HM.out.below HB2.out) HA.out HBAD.out (by omega)).mono ?_; rintro e w3 ⟨⟨v2, p2, rfl⟩, h2⟩; have HB3 := Aside0.mk (below_step HB2.out h2); clear h2))
  exact bodyPost_ret (v := .tuple #[.string ⟨fin.reb.toArray⟩, v2, .iface 103 p2]) (by simp [results, Tryd.results61, go_sem]) rfl ⟨⟨v2, p2, rfl⟩, HB3.out⟩
theorem bindNamedMapper_bad (k : Int) (q : ByteArray) (fin : CS) (b : Nat) (es : List (ByteArray × Value)) (w : World) (hk0 : 0 ≤ k) (hk4 : k ≤ 4) (hq : q.size ≤ 100000) (hc : q.data.toList.count 58 ≤ 90) (hrun : crun k q.data.toList ⟨[], [], none⟩ = some fin) (hm : MapIs w b es) (hnl : fin.names.length ≤ 90) (ha : ∀ i, i < fin.names.length → look es (fin.names.getD i ⟨#[]⟩) = none ∨ ∃ u : UV, look es (fin.names.getD i ⟨#[]⟩) = some u.1) (hbad : ∃ i, i < fin.names.length ∧ look es (fin.names.getD i ⟨#[]⟩) = none) :
    Calls Tryd.prog 55 #[.int .i64 k, .string q, .iface 77 (.map (some b))] w fun e w' => (∃ v p, e = .returned (.tuple #[.string ⟨fin.reb.toArray⟩, v, .iface 103 p])) ∧ Below w.heap.size w w' := by
  have HC := Aside0.mk (bindMap_bad k q fin b es w hk0 hk4 hq hc hrun hm hnl ha hbad)
  have hta := taMapMap
  clear hc hrun hm ha hbad
  go_enter Tryd.func55, Tryd.ntmps55
  go_wp2_with (go_at_call 61; refine HC.out.mono ?_; rintro e w2 ⟨⟨v2, p2, rfl⟩, h2⟩; have H2 := Aside0.mk h2; clear h2)
  exact bodyPost_ret (v := .tuple #[.string ⟨fin.reb.toArray⟩, v2, .iface 103 p2]) (by simp [results, Tryd.results55, go_sem]) rfl ⟨⟨v2, p2, rfl⟩, H2.out⟩
theorem BindNamed_bad (k : Int) (q : ByteArray) (fin : CS) (b : Nat) (es : List (ByteArray × Value)) (w : World) (hk0 : 0 ≤ k) (hk4 : k ≤ 4) (hq : q.size ≤ 100000) (hc : q.data.toList.count 58 ≤ 90) (hrun : crun k q.data.toList ⟨[], [], none⟩ = some fin) (hm : MapIs w b es) (hnl : fin.names.length ≤ 90) (ha : ∀ i, i < fin.names.length → look es (fin.names.getD i ⟨#[]⟩) = none ∨ ∃ u : UV, look es (fin.names.getD i ⟨#[]⟩) = some u.1) (hbad : ∃ i, i < fin.names.length ∧ look es (fin.names.getD i ⟨#[]⟩) = none) :
    Calls Tryd.prog 41 #[.int .i64 k, .string q, .iface 77 (.map (some b))] w fun e w' => (∃ v p, e = .returned (.tuple #[.string ⟨fin.reb.toArray⟩, v, .iface 103 p])) ∧ Below w.heap.size w w' := by
  have HC := Aside0.mk (bindNamedMapper_bad k q fin b es w hk0 hk4 hq hc hrun hm hnl ha hbad)
  have hta := taMapMap
  clear hc hrun hm ha hbad
  go_enter Tryd.func41, Tryd.ntmps41
  go_wp2_with (go_at_call 55; refine HC.out.mono ?_; rintro e w2 ⟨⟨v2, p2, rfl⟩, h2⟩; have H2 := Aside0.mk h2; clear h2)
  exact bodyPost_ret (v := .tuple #[.string ⟨fin.reb.toArray⟩, v2, .iface 103 p2]) (by simp [results, Tryd.results41, go_sem]) rfl ⟨⟨v2, p2, rfl⟩, H2.out⟩
theorem names_known {w : World} {xs : List (ByteArray × RX)} {vs : List IV} {es : List (ByteArray × Value)} (h : MapHas w xs vs xs.length es) (hn : (xs.map (·.1)).Nodup) (s : ByteArray) : look es s = none ∨ ∃ u : UV, look es s = some u.1 := by
  by_cases hs : s ∈ xs.map (·.1)
  · obtain ⟨y, hy, rfl⟩ := List.mem_map.1 hs
    obtain ⟨i, hi, rfl⟩ := List.getElem_of_mem hy
    obtain ⟨u, hu1, hu2⟩ := h.look hn i hi
    rw [List.getD_eq_getElem?_getD, List.getElem?_eq_getElem hi] at hu1
    exact .inr ⟨uvOf hu2, hu1⟩
  · exact .inl (h.none hs).2
theorem names_bad {w : World} {xs : List (ByteArray × RX)} {vs : List IV} {es : List (ByteArray × Value)} (h : MapHas w xs vs xs.length es) {l : List ByteArray} (hb : ∃ a ∈ l, a ∉ xs.map (·.1)) : ∃ i, i < l.length ∧ look es (l.getD i ⟨#[]⟩) = none := by
  obtain ⟨a, ha, hx⟩ := hb
  obtain ⟨i, hi, rfl⟩ := List.getElem_of_mem ha
  refine ⟨i, hi, ?_⟩
  rw [List.getD_eq_getElem?_getD, List.getElem?_eq_getElem hi]
  exact (h.none hx).2
set_option maxHeartbeats 1600000 in
theorem NamedOf_ok (k : Int) (q : ByteArray) (fin : CS) (xs : List (ByteArray × RX)) (vs : List IV) (A : Option Addr) (c : Nat) (w : World) (hk0 : 0 ≤ k) (hk4 : k ≤ 4) (hq : q.size ≤ 100000) (hc : q.data.toList.count 58 ≤ 90) (hrun : crun k q.data.toList ⟨[], [], none⟩ = some fin) (hnl : fin.names.length ≤ 90) (hn : (xs.map (·.1)).Nodup) (hr : kAX.C w A xs.length xs) (hv : ∀ i, i < xs.length → IsIV w (xs.getD i zAX).2 (vs.getD i (.one .nil))) (hall : ∀ a ∈ fin.names, ∃ j, j < xs.length ∧ a = (xs.getD j zAX).1) (hz : ∀ i ps, vs.getD i (.one .nil) = .many ps → ps.length ≤ 20) :
    Calls Tryd.prog 25 #[.int .i64 k, .string q, .slice A xs.length c] w fun e w' => (∃ C f ys, e = .returned (.tuple #[.string ⟨fin.reb.toArray⟩, .slice C fin.names.length f, .bool true]) ∧ kRX.C w' C fin.names.length ys ∧ (fin.names.length = 1 → ∃ j, j < xs.length ∧ fin.names.getD 0 ⟨#[]⟩ = (xs.getD j zAX).1 ∧ IsIV w' (ys.getD 0 zRX) (vs.getD j (.one .nil)))) ∧ Below w.heap.size w w' := by
  have HM0 := Aside0.mk (mapOf_raw xs vs hn A c w hr hv)
  have HN := Aside0.mk hn
  have HALL := Aside0.mk hall
  have HZ := Aside0.mk hz
  have HBN := Aside0.mk (fun (es : List (ByteArray × Value)) (b : Nat) (W : World) (hm : MapIs W b es) (us : List UV) (hl : us.length = fin.names.length) (ha : ∀ i, i < fin.names.length → look es (fin.names.getD i ⟨#[]⟩) = some (us.getD i zU).1) => BindNamed_ok k q fin b es W hk0 hk4 hq hc hrun hm hnl us hl ha)
  clear hn hr hv hall hz hc hrun
  go_enter Tryd.func25, Tryd.ntmps25
  go_wp2_with (first | (go_at_call 40; refine HM0.out.mono ?_; rintro e w1 ⟨rfl, ⟨es, hm, hh⟩, hb1⟩; obtain ⟨us, ws, hul, hwl, hus⟩ := pick hh HN.out fin.names HALL.out; have HM := Aside0.mk hm; have HUL := Lib.hid hul; have HUS := Aside0.mk hus; have HB1 := Aside0.mk hb1; have HWL := Lib.hid hwl; clear hm hh hul hwl hus hb1) | (go_at_call 41; refine (HBN.out es w.heap.size _ HM.out us HUL.out (fun i hi => (HUS.out i hi).1)).mono ?_; rintro e w2 ⟨⟨v2, rfl, hv2⟩, h2⟩; obtain ⟨D, g, rfl, hle, hD⟩ := Kd.R_reads hv2; have HD := Aside0.mk hD; have HB2' := Aside0.mk h2; have HB2 := Aside0.mk (below_step HB1.out h2); clear hv2 h2 hD hle) | (go_at_call 37; refine (valuesOf_any us ws D g _ HD.out (fun i hi => ((HUS.out i (by rw [← HUL.out]; exact hi)).2.1).below HB2'.out) (pick_small (fun i hi => (HUS.out i hi).2.2) HWL.out HZ.out) (by have := HUL.out; omega)).mono ?_; rintro e w3 ⟨⟨C, f, ys, rfl, hC, h1⟩, h2⟩; have HC := Aside0.mk hC; have H1 := Aside0.mk h1; have HB3 := Aside0.mk (below_step HB2.out h2); clear hC h1 h2))
  refine bodyPost_ret (v := .tuple #[.string ⟨fin.reb.toArray⟩, .slice C us.length f, .bool true]) (by simp [results, Tryd.results25, go_sem]) rfl ⟨⟨C, f, ys, by rw [HUL.out], by rw [← HUL.out]; exact HC.out, fun h => ?_⟩, HB3.out⟩
  obtain ⟨j, hj1, hj2, hj3⟩ := (HUS.out 0 (by omega)).2.2
  refine ⟨j, hj1, hj2, ?_⟩
  rw [← hj3]
  exact H1.out (by rw [HUL.out]; exact h)
set_option maxHeartbeats 1600000 in
theorem NamedOf_bad (k : Int) (q : ByteArray) (fin : CS) (xs : List (ByteArray × RX)) (vs : List IV) (A : Option Addr) (c : Nat) (w : World) (hk0 : 0 ≤ k) (hk4 : k ≤ 4) (hq : q.size ≤ 100000) (hc : q.data.toList.count 58 ≤ 90) (hrun : crun k q.data.toList ⟨[], [], none⟩ = some fin) (hnl : fin.names.length ≤ 90) (hn : (xs.map (·.1)).Nodup) (hr : kAX.C w A xs.length xs) (hv : ∀ i, i < xs.length → IsIV w (xs.getD i zAX).2 (vs.getD i (.one .nil))) (hbad : ∃ a ∈ fin.names, a ∉ xs.map (·.1)) :
    Calls Tryd.prog 25 #[.int .i64 k, .string q, .slice A xs.length c] w fun e w' => e = .returned (.tuple #[.string ⟨#[]⟩, .slice none 0 0, .bool false]) ∧ Below w.heap.size w w' := by
  have HM0 := Aside0.mk (mapOf_raw xs vs hn A c w hr hv)
  have HN := Aside0.mk hn
  have HBAD := Aside0.mk hbad
  have HBN := Aside0.mk (fun (es : List (ByteArray × Value)) (b : Nat) (W : World) (hm : MapIs W b es) (ha : ∀ i, i < fin.names.length → look es (fin.names.getD i ⟨#[]⟩) = none ∨ ∃ u : UV, look es (fin.names.getD i ⟨#[]⟩) = some u.1) (hb : ∃ i, i < fin.names.length ∧ look es (fin.names.getD i ⟨#[]⟩) = none) => BindNamed_bad k q fin b es W hk0 hk4 hq hc hrun hm hnl ha hb)
  clear hn hr hv hbad hc hrun
  go_enter Tryd.func25, Tryd.ntmps25
  go_wp2_with (first | (go_at_call 40; refine HM0.out.mono ?_; rintro e w1 ⟨rfl, ⟨es, hm, hh⟩, hb1⟩; have HM := Aside0.mk hm; have HH := Aside0.mk hh; have HB1 := Aside0.mk hb1; clear hm hh hb1) | (go_at_call 41; refine (HBN.out es w.heap.size _ HM.out (fun i hi => names_known HH.out HN.out _) (names_bad HH.out HBAD.out)).mono ?_; rintro e w2 ⟨⟨v2, p2, rfl⟩, h2⟩; have HB2 := Aside0.mk (below_step HB1.out h2); clear h2))
  exact bodyPost_ret (v := .tuple #[.string ⟨#[]⟩, .slice none 0 0, .bool false]) (by simp [results, Tryd.results25, go_sem]) rfl ⟨rfl, HB2.out⟩
end Go.Proofs.YtnpjnekoifheoaaDoor
