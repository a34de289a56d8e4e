/- sqlx.bindArray, the list's branch of sqlx.bindNamedMapper, sqlx.BindNamed over lists, at plain values. -/
import Derived.Test.YtnpjnekoifheoaaDoorAny9
import Derived.Test.YtnpjnekoifheoaaDoorAll9
namespace Go.Proofs.YtnpjnekoifheoaaDoor
open Go Go.RowKit Go.MapKept Go.Proofs.YtnpjnekoifheoaaDoorW.PrintWords
set_option linter.unusedVariables false
set_option maxRecDepth 100000

/-- A map, as an interface holds it. -/
def kM : Kd Nat := Kd.scalar (fun b => .iface 77 (.map (some b))) (fun _ => rfl)
theorem MapIs.past {w w1 : World} {b : Nat} {es : List (ByteArray × Value)} (h : MapIs w b es) {β : Type} {d' : Kd β} {e' b' : Nat} {ok' : Nat → Prop} {u : Value} {ys : List β} (hu : d'.R e' w b' ok' u ys) (hg : w.grownBy w1 u.ownBlock) : MapIs w1 b es := by
  refine h.grown hg (fun he => ?_)
  obtain ⟨inner, ho⟩ := Kd.R_own hu
  obtain ⟨cells, hc⟩ := own_typed ho b he.symm
  obtain ⟨arr, clock, hb, _⟩ := h
  rw [hc] at hb
  cases hb
theorem taListMap (v : Value) (W : World) : (Instr.typeAssert (.iface 71 v) 20 77 true).run Tryd.prog W = .ok (.tuple #[.map none, .bool false]) W := by rfl
theorem bindAnyArgs_plain (asked : List ByteArray) (ps : List PI) (es : List (ByteArray × Value)) (b : Nat) (A : Option Addr) (c : Nat) (w : World) (hr : Kd.string.C w A asked.length asked) (hm : MapIs w b es)
    (hl : ps.length = asked.length) (ha : ∀ i, i < asked.length → look es (asked.getD i ⟨#[]⟩) = some (ps.getD i .nil).enc) (hlen : asked.length * 16 ≤ 140737488355328) :
    Calls Tryd.prog 68 #[.slice A asked.length c, .iface 77 (.map (some b))] w fun e w' => (∃ v, e = .returned (.tuple #[v, .nilIface]) ∧ kPI.R 20 w' w.heap.size (fun _ => True) v ps) ∧ Below w.heap.size w w' := by
  have HC := Aside0.mk (bindMapArgs_plain asked ps es b A c w hr hm hl ha hlen)
  have hta := taMapMap
  clear hr hm hl ha
  go_enter Tryd.func68, Tryd.ntmps68
  go_wp2_with (go_at_call 67; refine HC.out.mono ?_; rintro e w2 ⟨v2, rfl, hv2, h2⟩; have HV := Aside0.mk hv2; have H2 := Aside0.mk h2; clear h2)
  exact bodyPost_ret (v := .tuple #[v2, .nilIface]) (by simp [results, Tryd.results68, go_sem]) rfl ⟨⟨v2, rfl, HV.out⟩, H2.out⟩
set_option maxHeartbeats 1600000 in
theorem bindArray_ok (q : ByteArray) (fin : CS) (out : ByteArray) (bs : List Nat) (ess : List (List (ByteArray × Value))) (vss : List (List PI)) (A : Option Addr) (c : Nat) (w : World) (hq : q.size ≤ 100000) (hc : q.data.toList.count 58 ≤ 90) (hrun : crun 1 q.data.toList ⟨[], [], none⟩ = some fin) (hnl : fin.names.length ≤ 90)
    (hr : kM.C w A bs.length bs) (hm : ∀ i, i < bs.length → MapIs w (bs.getD i 0) (ess.getD i [])) (hb0 : 0 < bs.length) (hb8 : bs.length ≤ 100) (hvl : vss.length = bs.length)
    (hv1 : ∀ i, i < bs.length → (vss.getD i []).length = fin.names.length) (hv2 : ∀ i, i < bs.length → ∀ j, j < fin.names.length → look (ess.getD i []) (fin.names.getD j ⟨#[]⟩) = some ((vss.getD i []).getD j .nil).enc)
    (hfix1 : bs.length = 1 → (⟨fin.reb.toArray⟩ : ByteArray) = out) (hfix2 : 1 < bs.length → ∀ W : World, Calls Tryd.prog 69 #[.string ⟨fin.reb.toArray⟩, .int .i64 bs.length] W fun e w' => e = .returned (.string out) ∧ Below W.heap.size W w') :
    Calls Tryd.prog 62 #[.int .i64 1, .string q, .slice A bs.length c] w fun e w' => (∃ s v x, e = .returned (.tuple #[.string s, v, x]) ∧ s = out ∧ x = .nilIface ∧ kPI.R 20 w' w.heap.size (fun _ => True) v vss.flatten) ∧ Below w.heap.size w w' := by
  have hcv := Lib.run_convert_string_bytes (P := Tryd.prog) w 9 26 5 q Tryd.underlying9 Tryd.underlying26 Tryd.underlying5
  have hC := bytes_read w q hq
  have hB := Lib.bytesWorld_below w 5 q
  generalize grownCap w q.size 0 5 = cc at hcv
  rw [Lib.size_eq] at hcv
  generalize Lib.bytesWorld w 5 q = w1 at hcv hC hB
  have HC := Aside0.mk (compile_1 q.data.toList fin _ cc w1 hC (by rw [← Lib.size_eq]; exact hq) hc hrun)
  have HB1 := Aside0.mk hB
  have HR := Aside0.mk hr
  have HM := Aside0.mk hm
  have HVL := Lib.hid hvl
  have HV1 := Aside0.mk hv1
  have HV2 := Aside0.mk hv2
  have HF1 := Aside0.mk hfix1
  have HF2 := Aside0.mk hfix2
  have HFL := Aside0.mk (flat_take_len vss 90 (fun i hi => by rw [hv1 i (by omega)]; exact hnl))
  have hu := Tryd.underlying71
  obtain ⟨N, hN⟩ : ∃ N, N = fin.names.length := ⟨_, rfl⟩
  have hN90 : N ≤ 90 := by omega
  have hN' := Lib.hid hN
  obtain ⟨M, hM⟩ : ∃ M : Nat, (M : Int) = (N : Int) * (bs.length : Int) := ⟨N * bs.length, by rw [Int.natCast_mul]⟩
  have hM1 : M ≤ 90 * 100 := by
    have : N * bs.length ≤ 90 * 100 := Nat.mul_le_mul hN90 hb8
    have e : ((N * bs.length : Nat) : Int) = (N : Int) * (bs.length : Int) := Int.natCast_mul _ _
    omega
  have hmk := run_makeCap (P := Tryd.prog) 71 20 .nilIface 1 16 Tryd.underlying71 infoI M (by omega) (by omega)
  simp only [Value.cells, Nat.mul_one] at hmk
  rw [hM] at hmk
  obtain ⟨reb, hreb⟩ : ∃ reb : ByteArray, reb = ⟨fin.reb.toArray⟩ := ⟨_, rfl⟩
  rw [← hreb] at HF1 HF2
  have HREB := Lib.hid hreb
  have hM0 : (0 : Int) ≤ (N : Int) * (bs.length : Int) := by omega
  have hM2 : (N : Int) * (bs.length : Int) ≤ 9000 := by omega
  have hb00 : ((bs.length : Int) == 0) = false := by
    have h : ¬ (bs.length : Int) = 0 := by omega
    simpa using h
  clear hC hB hc hrun hr hm hvl hv1 hv2 hfix1 hfix2 hN hreb
  go_enter Tryd.func62, Tryd.ntmps62
  go_wp2_with (go_at_call 44; refine HC.out.mono ?_; rintro e w2 ⟨v, rfl, h1, h2⟩; rw [← HREB.out]; obtain ⟨D, f, rfl, hle, hD⟩ := Kd.R_reads h1; rw [← hN'.out] at hD ⊢; have HD := Aside0.mk hD; have HB2 := Aside0.mk (below_step HB1.out h2); clear h1 h2 hD hle)
  go_loopw [13, 14] (fun so si wr => ∃ k : Nat, si = .int .i64 k ∧ k ≤ bs.length ∧ Aside0 (kPI.R 20 wr w2.heap.size (fun _ => True) so ((vss.take k).flatten)) ∧ Aside0 (Below w2.heap.size w2 wr)) (fun _ si _ => bs.length - (intOf si).toNat)
  case atStart => exact ⟨0, rfl, Nat.zero_le _, ⟨R_cap kPI _ w2 _ _ (by omega) (by simp [kPI, Kd.scalar, size_madeCells])⟩, ⟨below_alloc (Below.refl _ _) _⟩⟩
  case round =>
    clear hmk
    obtain ⟨k, rfl, hk, HO, HB⟩ := hrel
    by_cases hlt : k < bs.length
    · obtain ⟨ad, rfl, h0⟩ := at_S (Kd.C_below HR.out (below_step HB2.out HB.out)) (0 : Nat) k hlt
      have hmk := (HM.out k hlt).below (below_step HB2.out HB.out)
      have hv1k := HV1.out k hlt
      have hv2k := HV2.out k hlt
      have hfl := HFL.out k (by rw [HVL.out]; omega)
      have hfn := flat_take_next vss k (by rw [HVL.out]; exact hlt)
      have h0' : wr.cell? (ad.add k) = some (.iface 77 (.map (some (bs.getD k 0)))) := h0
      generalize vss.getD k [] = ps at hv1k hv2k hfn
      generalize bs.getD k 0 = b at h0' hmk
      generalize ess.getD k [] = es at hmk hv2k
      rw [← hN'.out] at hv1k hv2k
      have HC3 := Aside0.mk (fun W (hD : Kd.string.C W D N fin.names) (hm : MapIs W b es) => bindAnyArgs_plain fin.names ps es b D f W (by rw [← hN'.out]; exact hD) hm (by rw [hv1k, hN'.out]) (by rw [← hN'.out]; exact hv2k) (by rw [← hN'.out]; omega))
      rw [← hN'.out] at HC3
      have HMK := Aside0.mk hmk
      have HFN := Lib.hid hfn
      have HPZ := Lib.hid hv1k
      clear hmk hv1k hv2k hfn h0
      go_wp2_with (first | (go_at_call 68; refine (HC3.out _ (Kd.C_below HD.out HB.out) HMK.out).mono ?_; rintro e w3 ⟨⟨v3, rfl, hv3⟩, h3⟩; obtain ⟨G, g, rfl, hle, hG⟩ := Kd.R_reads hv3; rw [HPZ.out] at hG ⊢; have HG := Aside0.mk hG; have HB3 := Aside0.mk h3; clear h3 hle hG hv3) | (at_builtin; refine Kd.R_append_rows kPI (Rr := fun (p : PI) cs => cs = [p.enc]) (w0 := w2) w2.heap.size rfl (.tmp 57) (.tmp 58) 71 20 .nilIface 16 rfl hu infoI rfl (by decide) (by omega) _ ((vss.take k).flatten) ps G N g (fun _ => True) (fun _ => False) rfl rfl ?aO HG.out (fun _ _ h => h) (fun _ hk => hk.elim) (fun _ _ => trivial) ?aB ?aS ?aL ?_))
      case aO => exact Kd.R_below HO.out HB3.out
      case aB => exact below_step HB.out HB3.out
      case aS => exact (below_step HB.out HB3.out).size
      case aL => omega
      intro v1 w4 hR hB2 _ _
      rw [← HFN.out] at hR
      have HO2 := Aside0.mk hR
      have HB4 := Aside0.mk hB2
      clear hR hB2 HO HB h0'
      go_wp2
      go_roundw
      case rel => exact ⟨k + 1, by go_num, by omega, HO2, HB4⟩
      case measure => simp [intOf]; omega
    · have hke : k = bs.length := by omega
      subst hke
      rw [← HVL.out, List.take_length] at HO
      by_cases h1 : bs.length = 1
      · have hout := HF1.out h1
        have HOUT := Lib.hid hout
        clear hout
        go_wp2
        rw [HOUT.out]
        exact bodyPost_ret (v := .tuple #[.string out, u13, .nilIface]) (by simp [results, Tryd.results62, go_sem]) rfl ⟨⟨out, u13, .nilIface, rfl, rfl, rfl, Kd.R_lower HO.out HB2.out.size⟩, below_step HB2.out HB.out⟩
      · have HF3 := Aside0.mk (HF2.out (by omega))
        go_wp2_with (go_at_call 69; refine (HF3.out _).mono ?_; rintro e w3 ⟨rfl, h3⟩; have HB3 := Aside0.mk h3; clear h3)
        exact bodyPost_ret (v := .tuple #[.string out, u13, .nilIface]) (by simp [results, Tryd.results62, go_sem]) rfl ⟨⟨out, u13, .nilIface, rfl, rfl, rfl, Kd.R_lower (Kd.R_below HO.out HB3.out) HB2.out.size⟩, below_step (below_step HB2.out HB.out) HB3.out⟩
set_option maxHeartbeats 1600000 in
theorem bindArray_bad (q : ByteArray) (fin : CS) (bs : List Nat) (ess : List (List (ByteArray × Value))) (vss : List (List PI)) (i0 : Nat) (A : Option Addr) (c : Nat) (w : World) (hq : q.size ≤ 100000) (hc : q.data.toList.count 58 ≤ 90) (hrun : crun 1 q.data.toList ⟨[], [], none⟩ = some fin) (hnl : fin.names.length ≤ 90)
    (hr : kM.C w A bs.length bs) (hm : ∀ i, i < bs.length → MapIs w (bs.getD i 0) (ess.getD i [])) (hb0 : i0 < bs.length) (hb8 : bs.length ≤ 100) (hvl : vss.length = bs.length)
    (hv1 : ∀ i, i < bs.length → (vss.getD i []).length = fin.names.length) (hv2 : ∀ i, i < i0 → ∀ j, j < fin.names.length → look (ess.getD i []) (fin.names.getD j ⟨#[]⟩) = some ((vss.getD i []).getD j .nil).enc)
    (hbad1 : ∀ j, j < fin.names.length → look (ess.getD i0 []) (fin.names.getD j ⟨#[]⟩) = none ∨ ∃ u : UV, look (ess.getD i0 []) (fin.names.getD j ⟨#[]⟩) = some u.1) (hbad2 : ∃ j, j < fin.names.length ∧ look (ess.getD i0 []) (fin.names.getD j ⟨#[]⟩) = none) :
    Calls Tryd.prog 62 #[.int .i64 1, .string q, .slice A bs.length c] w fun e w' => (∃ s v x, e = .returned (.tuple #[.string s, v, x]) ∧ ∃ p, x = .iface 103 p) ∧ Below w.heap.size w w' := by
  have hcv := Lib.run_convert_string_bytes (P := Tryd.prog) w 9 26 5 q Tryd.underlying9 Tryd.underlying26 Tryd.underlying5
  have hC := bytes_read w q hq
  have hB := Lib.bytesWorld_below w 5 q
  generalize grownCap w q.size 0 5 = cc at hcv
  rw [Lib.size_eq] at hcv
  generalize Lib.bytesWorld w 5 q = w1 at hcv hC hB
  have HC := Aside0.mk (compile_1 q.data.toList fin _ cc w1 hC (by rw [← Lib.size_eq]; exact hq) hc hrun)
  have HB1 := Aside0.mk hB
  have HR := Aside0.mk hr
  have HM := Aside0.mk hm
  have HVL := Lib.hid hvl
  have HV1 := Aside0.mk hv1
  have HV2 := Aside0.mk hv2
  have HBA1 := Aside0.mk hbad1
  have HBA2 := Aside0.mk hbad2
  have HFL := Aside0.mk (flat_take_len vss 90 (fun i hi => by rw [hv1 i (by omega)]; exact hnl))
  have hu := Tryd.underlying71
  obtain ⟨N, hN⟩ : ∃ N, N = fin.names.length := ⟨_, rfl⟩
  have hN90 : N ≤ 90 := by omega
  have hN' := Lib.hid hN
  obtain ⟨M, hM⟩ : ∃ M : Nat, (M : Int) = (N : Int) * (bs.length : Int) := ⟨N * bs.length, by rw [Int.natCast_mul]⟩
  have hM1 : M ≤ 90 * 100 := by
    have : N * bs.length ≤ 90 * 100 := Nat.mul_le_mul hN90 hb8
    have e : ((N * bs.length : Nat) : Int) = (N : Int) * (bs.length : Int) := Int.natCast_mul _ _
    omega
  have hmk := run_makeCap (P := Tryd.prog) 71 20 .nilIface 1 16 Tryd.underlying71 infoI M (by omega) (by omega)
  simp only [Value.cells, Nat.mul_one] at hmk
  rw [hM] at hmk
  obtain ⟨reb, hreb⟩ : ∃ reb : ByteArray, reb = ⟨fin.reb.toArray⟩ := ⟨_, rfl⟩
  have HREB := Lib.hid hreb
  have hM0 : (0 : Int) ≤ (N : Int) * (bs.length : Int) := by omega
  have hM2 : (N : Int) * (bs.length : Int) ≤ 9000 := by omega
  have hb00 : ((bs.length : Int) == 0) = false := by
    have h : ¬ (bs.length : Int) = 0 := by omega
    simpa using h
  clear hC hB hc hrun hr hm hvl hv1 hv2 hbad1 hbad2 hN hreb
  go_enter Tryd.func62, Tryd.ntmps62
  go_wp2_with (go_at_call 44; refine HC.out.mono ?_; rintro e w2 ⟨v, rfl, h1, h2⟩; rw [← HREB.out]; obtain ⟨D, f, rfl, hle, hD⟩ := Kd.R_reads h1; rw [← hN'.out] at hD ⊢; have HD := Aside0.mk hD; have HB2 := Aside0.mk (below_step HB1.out h2); clear h1 h2 hD hle)
  go_loopw [13, 14] (fun so si wr => ∃ k : Nat, si = .int .i64 k ∧ k ≤ i0 ∧ Aside0 (kPI.R 20 wr w2.heap.size (fun _ => True) so ((vss.take k).flatten)) ∧ Aside0 (Below w2.heap.size w2 wr)) (fun _ si _ => bs.length - (intOf si).toNat)
  case atStart => exact ⟨0, rfl, Nat.zero_le _, ⟨R_cap kPI _ w2 _ _ (by omega) (by simp [kPI, Kd.scalar, size_madeCells])⟩, ⟨below_alloc (Below.refl _ _) _⟩⟩
  case round =>
    clear hmk
    obtain ⟨k, rfl, hk, HO, HB⟩ := hrel
    have hlt2 : k < bs.length := by omega
    by_cases hlt : k < i0
    · obtain ⟨ad, rfl, h0⟩ := at_S (Kd.C_below HR.out (below_step HB2.out HB.out)) (0 : Nat) k hlt2
      have hmk := (HM.out k hlt2).below (below_step HB2.out HB.out)
      have hv1k := HV1.out k hlt2
      have hv2k := HV2.out k hlt
      have hfl := HFL.out k (by rw [HVL.out]; omega)
      have hfn := flat_take_next vss k (by rw [HVL.out]; exact hlt2)
      have h0' : wr.cell? (ad.add k) = some (.iface 77 (.map (some (bs.getD k 0)))) := h0
      generalize vss.getD k [] = ps at hv1k hv2k hfn
      generalize bs.getD k 0 = b at h0' hmk
      generalize ess.getD k [] = es at hmk hv2k
      rw [← hN'.out] at hv1k hv2k
      have HC3 := Aside0.mk (fun W (hD : Kd.string.C W D N fin.names) (hm : MapIs W b es) => bindAnyArgs_plain fin.names ps es b D f W (by rw [← hN'.out]; exact hD) hm (by rw [hv1k, hN'.out]) (by rw [← hN'.out]; exact hv2k) (by rw [← hN'.out]; omega))
      rw [← hN'.out] at HC3
      have HMK := Aside0.mk hmk
      have HFN := Lib.hid hfn
      have HPZ := Lib.hid hv1k
      clear hmk hv1k hv2k hfn h0
      go_wp2_with (first | (go_at_call 68; refine (HC3.out _ (Kd.C_below HD.out HB.out) HMK.out).mono ?_; rintro e w3 ⟨⟨v3, rfl, hv3⟩, h3⟩; obtain ⟨G, g, rfl, hle, hG⟩ := Kd.R_reads hv3; rw [HPZ.out] at hG ⊢; have HG := Aside0.mk hG; have HB3 := Aside0.mk h3; clear h3 hle hG hv3) | (at_builtin; refine Kd.R_append_rows kPI (Rr := fun (p : PI) cs => cs = [p.enc]) (w0 := w2) w2.heap.size rfl (.tmp 57) (.tmp 58) 71 20 .nilIface 16 rfl hu infoI rfl (by decide) (by omega) _ ((vss.take k).flatten) ps G N g (fun _ => True) (fun _ => False) rfl rfl ?aO HG.out (fun _ _ h => h) (fun _ hk => hk.elim) (fun _ _ => trivial) ?aB ?aS ?aL ?_))
      case aO => exact Kd.R_below HO.out HB3.out
      case aB => exact below_step HB.out HB3.out
      case aS => exact (below_step HB.out HB3.out).size
      case aL => omega
      intro v1 w4 hR hB2 _ _
      rw [← HFN.out] at hR
      have HO2 := Aside0.mk hR
      have HB4 := Aside0.mk hB2
      clear hR hB2 HO HB h0'
      go_wp2
      go_roundw
      case rel => exact ⟨k + 1, by go_num, by omega, HO2, HB4⟩
      case measure => simp [intOf]; omega
    · have hke : k = i0 := by omega
      subst hke
      obtain ⟨ad, rfl, h0⟩ := at_S (Kd.C_below HR.out (below_step HB2.out HB.out)) (0 : Nat) k hlt2
      have hmk := (HM.out k hlt2).below (below_step HB2.out HB.out)
      have h0' : wr.cell? (ad.add k) = some (.iface 77 (.map (some (bs.getD k 0)))) := h0
      generalize bs.getD k 0 = b at h0' hmk
      have HC3 := Aside0.mk (fun W (hD : Kd.string.C W D N fin.names) (hm : MapIs W b (ess.getD k [])) => bindAnyArgs_bad fin.names (ess.getD k []) b D f W (by rw [← hN'.out]; exact hD) hm HBA1.out HBA2.out (by rw [← hN'.out]; omega))
      rw [← hN'.out] at HC3
      have HMK := Aside0.mk hmk
      clear hmk h0
      go_wp2_with (go_at_call 68; refine (HC3.out _ (Kd.C_below HD.out HB.out) HMK.out).mono ?_; rintro e w3 ⟨⟨v3, p3, rfl⟩, h3⟩; have HB3 := Aside0.mk h3; clear h3)
      refine bodyPost_ret (v := .tuple #[.string ⟨#[]⟩, .slice (some ⟨w3.heap.size, 0, none⟩) 0 0, .iface 103 p3]) (by simp [results, Tryd.results62, go_sem]) rfl ⟨⟨_, _, _, rfl, p3, rfl⟩, ?_⟩
      exact below_alloc (below_step (below_step HB2.out HB.out) HB3.out) _
set_option maxHeartbeats 1600000 in
theorem bindArray_none (q : ByteArray) (fin : CS) (A : Option Addr) (c : Nat) (w : World) (hq : q.size ≤ 100000) (hc : q.data.toList.count 58 ≤ 90) (hrun : crun 1 q.data.toList ⟨[], [], none⟩ = some fin) :
    Calls Tryd.prog 62 #[.int .i64 1, .string q, .slice A 0 c] w fun e w' => (∃ s v x, e = .returned (.tuple #[.string s, v, x]) ∧ ∃ p, x = .iface 103 p) ∧ Below w.heap.size w w' := by
  have hcv := Lib.run_convert_string_bytes (P := Tryd.prog) w 9 26 5 q Tryd.underlying9 Tryd.underlying26 Tryd.underlying5
  have hC := bytes_read w q hq
  have hB := Lib.bytesWorld_below w 5 q
  generalize grownCap w q.size 0 5 = cc at hcv
  rw [Lib.size_eq] at hcv
  generalize Lib.bytesWorld w 5 q = w1 at hcv hC hB
  have HC := Aside0.mk (compile_1 q.data.toList fin _ cc w1 hC (by rw [← Lib.size_eq]; exact hq) hc hrun)
  have HB1 := Aside0.mk hB
  obtain ⟨reb, hreb⟩ : ∃ reb : ByteArray, reb = ⟨fin.reb.toArray⟩ := ⟨_, rfl⟩
  have HREB := Lib.hid hreb
  clear hC hB hc hrun hreb
  go_enter Tryd.func62, Tryd.ntmps62
  go_wp2_with (first | (go_at_call 44; refine HC.out.mono ?_; rintro e w2 ⟨v, rfl, h1, h2⟩; rw [← HREB.out]; obtain ⟨D, f, rfl, hle, hD⟩ := Kd.R_reads h1; have HB2 := Aside0.mk (below_step HB1.out h2); clear h1 h2 hD hle) | (go_at_call 47; refine (errorsNew _ _).mono ?_; rintro e w3 ⟨rfl, h2⟩; have H3 := Aside0.mk (below_step (below_alloc HB2.out _) h2); clear h2))
  exact bodyPost_ret (v := .tuple #[.string ⟨#[]⟩, .slice (some ⟨w2.heap.size, 0, none⟩) 0 0, .iface 103 (.pointer (some ⟨w2.heap.size + 1, 0, none⟩))]) (by simp [results, Tryd.results62, go_sem]) rfl ⟨⟨_, _, _, rfl, _, rfl⟩, H3.out⟩
/-- The list's branch hands on what bindArray answers. -/
theorem bindNamedMapper_list (Φ : ByteArray → Value → Value → World → Prop) (k : Int) (q : ByteArray) (A : Option Addr) (n c : Nat) (w : World)
    (h : Calls Tryd.prog 62 #[.int .i64 k, .string q, .slice A n c] w fun e w' => (∃ s v x, e = .returned (.tuple #[.string s, v, x]) ∧ Φ s v x w') ∧ Below w.heap.size w w') :
    Calls Tryd.prog 55 #[.int .i64 k, .string q, .iface 71 (.slice A n c)] w fun e w' => (∃ s v x, e = .returned (.tuple #[.string s, v, x]) ∧ Φ s v x w') ∧ Below w.heap.size w w' := by
  have HC := Aside0.mk h
  have t1 := taListMap
  have t2 := taListList
  clear h
  go_enter Tryd.func55, Tryd.ntmps55
  go_wp2_with (go_at_call 62; refine HC.out.mono ?_; rintro e w2 ⟨⟨s, v, x, rfl, hv2⟩, h2⟩; have HV := Aside0.mk hv2; have H2 := Aside0.mk h2; clear h2 hv2)
  exact bodyPost_ret (v := .tuple #[.string s, v, x]) (by simp [results, Tryd.results55, go_sem]) rfl ⟨⟨s, v, x, rfl, HV.out⟩, H2.out⟩
theorem BindNamed_list (Φ : ByteArray → Value → Value → World → Prop) (k : Int) (q : ByteArray) (A : Option Addr) (n c : Nat) (w : World)
    (h : Calls Tryd.prog 62 #[.int .i64 k, .string q, .slice A n c] w fun e w' => (∃ s v x, e = .returned (.tuple #[.string s, v, x]) ∧ Φ s v x w') ∧ Below w.heap.size w w') :
    Calls Tryd.prog 41 #[.int .i64 k, .string q, .iface 71 (.slice A n c)] w fun e w' => (∃ s v x, e = .returned (.tuple #[.string s, v, x]) ∧ Φ s v x w') ∧ Below w.heap.size w w' := by
  have HC := Aside0.mk (bindNamedMapper_list Φ k q A n c w h)
  clear h
  go_enter Tryd.func41, Tryd.ntmps41
  go_wp2_with (go_at_call 55; refine HC.out.mono ?_; rintro e w2 ⟨⟨s, v, x, rfl, hv2⟩, h2⟩; have HV := Aside0.mk hv2; have H2 := Aside0.mk h2; clear h2 hv2)
  exact bodyPost_ret (v := .tuple #[.string s, v, x]) (by simp [results, Tryd.results41, go_sem]) rfl ⟨⟨s, v, x, rfl, HV.out⟩, H2.out⟩
end Go.Proofs.YtnpjnekoifheoaaDoor
