/- sqlx.bindMapArgs and impl.valuesOf at values of interface{} as they lie there. -/
import Derived.Test.YtnpjnekoifheoaaDoorRaw
import Derived.Test.YtnpjnekoifheoaaDoorValueOf
namespace Go.Proofs.YtnpjnekoifheoaaDoor
open Go Go.RowKit Go.MapKept Go.Proofs.YtnpjnekoifheoaaDoorW.PrintWords
set_option linter.unusedVariables false
set_option maxRecDepth 100000

/-- One cell of interface{}, as it lies there. -/
abbrev UV : Type := { u : Value // u.oneCell' = true ∧ u.cells = #[u] }
def zU : UV := ⟨.nilIface, rfl, rfl⟩
def kU : Kd UV := Kd.scalar (fun u => u.1) (fun u => u.2.1)
def uvOf {w : World} {v : IV} {u : Value} (h : IVAt w v u) : UV := ⟨u, h.one, by
  rcases v with p | ps
  · have h' : u = p.enc := h
    rw [h']
    exact p.enc_cells
  · obtain ⟨A, c, rfl, _, _⟩ := h
    rfl⟩
set_option maxHeartbeats 800000 in
theorem bindMapArgs_ok (asked : List ByteArray) (us : List UV) (es : List (ByteArray × Value)) (b : Nat) (A : Option Addr) (c : Nat) (w : World) (hr : Kd.string.C w A asked.length asked) (hm : MapIs w b es)
    (hl : us.length = asked.length) (ha : ∀ i, i < asked.length → look es (asked.getD i ⟨#[]⟩) = some (us.getD i zU).1) (hlen : asked.length * 16 ≤ 140737488355328) :
    Calls Tryd.prog 67 #[.slice A asked.length c, .map (some b)] w fun e w' => (∃ v, e = .returned (.tuple #[v, .nilIface]) ∧ kU.R 20 w' w.heap.size (fun _ => True) v us) ∧ Below w.heap.size w w' := by
  have hu := Tryd.underlying71
  have HR := Aside0.mk hr
  have HM := Aside0.mk hm
  have HLL := Lib.hid hl
  have HA := Aside0.mk ha
  clear hr hm hl ha
  go_enter Tryd.func67, Tryd.ntmps67
  have hmk := run_makeCap (P := Tryd.prog) 71 20 .nilIface 1 16 Tryd.underlying71 infoI asked.length (by omega) (by omega)
  simp only [Value.cells, Nat.mul_one] at hmk
  go_wp2
  go_loopw [6, 16] (fun out i wr => ∃ k : Nat, i = .int .i64 k ∧ k ≤ asked.length ∧ Aside0 (kU.R 20 wr w.heap.size (fun _ => True) out (us.take k)) ∧ Aside0 (Below w.heap.size w wr)) (fun _ i _ => asked.length - (intOf i).toNat)
  case atStart => exact ⟨0, rfl, Nat.zero_le _, ⟨R_cap kU _ w _ _ (C_len HR.out).2 (by simp [kU, Kd.scalar, size_madeCells])⟩, ⟨(Below.refl _ _).alloc (Nat.le_refl _) _⟩⟩
  case round =>
    clear hmk
    obtain ⟨k, rfl, hk, HO, HB⟩ := hrel
    have hl := (C_len HR.out).2
    by_cases hlt : k < asked.length
    · obtain ⟨ad, rfl, h0⟩ := at_S (Kd.C_below HR.out HB.out) (⟨#[]⟩ : ByteArray) k hlt
      have ha0 := HA.out k hlt
      obtain ⟨s, hs⟩ : ∃ s, s = asked.getD k ⟨#[]⟩ := ⟨_, rfl⟩
      obtain ⟨p, hp⟩ : ∃ p, p = us.getD k zU := ⟨_, rfl⟩
      rw [← hs] at h0 ha0
      rw [← hp] at ha0
      have HP := Aside0.mk hp
      have HA0 := Aside0.mk ha0
      have HM1 := Aside0.mk (HM.out.below HB.out)
      clear hp hs ha0
      obtain ⟨u, hu1, hu2⟩ := p
      simp only at HA0
      go_wp2_with (first | (at_lookup; refine wpList_lookup_is rfl (.tmp 21) (.tmp 22) 77 9 20 rfl Tryd.underlying77 Tryd.underlying9 zeroI b _ s rfl rfl HM1.out ?_; rw [HA0.out, Option.getD_some, Option.isSome_some]) | (with_reducible refine wpList_buildOne rfl (.tmp 31) 71 20 .nilIface 16 rfl hu infoI rfl u rfl hu2 ?_) | (at_builtin; refine Kd.R_append kU (w0 := w) w.heap.size rfl (.tmp 30) (.tmp 32) 71 20 .nilIface 16 rfl hu infoI rfl (by decide) (by omega) _ (us.take k) ⟨u, hu1, hu2⟩ [u] (fun _ => True) (fun _ => False) rfl rfl ?aP (fun _ hk => hk.elim) (fun _ _ => trivial) HO.out HB.out HB.out.size ?aL ?_))
      case aP => exact rfl
      case aL => rw [List.length_take]; omega
      intro v1 w2 hR hB2 _ _
      have e1 : us.take (k + 1) = us.take k ++ [⟨u, hu1, hu2⟩] := by rw [HP.out]; exact take_snoc' us k (by rw [HLL.out]; exact hlt) _
      have HO2 : Aside0 (kU.R 20 w2 w.heap.size (fun _ => True) v1 (us.take (k + 1))) := ⟨by rw [e1]; exact hR⟩
      have HB2 := Aside0.mk hB2
      clear hR hB2 e1 HO HB h0 HP HA0 HM1
      go_wp2
      go_roundw
      case rel => exact ⟨k + 1, by go_num, by omega, HO2, HB2⟩
      case measure => simp [intOf]; omega
    · have hk' : k = asked.length := by omega
      subst hk'
      rw [List.take_of_length_le (by rw [HLL.out]; exact Nat.le_refl _)] at HO
      go_wp2
      go_ret2
      exact ⟨⟨u6, rfl, HO.out⟩, HB.out⟩
set_option maxHeartbeats 800000 in
theorem bindMapArgs_bad (asked : List ByteArray) (es : List (ByteArray × Value)) (b : Nat) (A : Option Addr) (c : Nat) (w : World) (hr : Kd.string.C w A asked.length asked) (hm : MapIs w b es)
    (ha : ∀ i, i < asked.length → look es (asked.getD i ⟨#[]⟩) = none ∨ ∃ u : UV, look es (asked.getD i ⟨#[]⟩) = some u.1) (hbad : ∃ i, i < asked.length ∧ look es (asked.getD i ⟨#[]⟩) = none) (hlen : asked.length * 16 ≤ 140737488355328) :
    Calls Tryd.prog 67 #[.slice A asked.length c, .map (some b)] w fun e w' => (∃ v p, e = .returned (.tuple #[v, .iface 103 p])) ∧ Below w.heap.size w w' := by
  have hu := Tryd.underlying71
  have HR := Aside0.mk hr
  have HM := Aside0.mk hm
  have HA := Aside0.mk ha
  have HBAD := Aside0.mk hbad
  clear hr hm ha hbad
  go_enter Tryd.func67, Tryd.ntmps67
  have hmk := run_makeCap (P := Tryd.prog) 71 20 .nilIface 1 16 Tryd.underlying71 infoI asked.length (by omega) (by omega)
  simp only [Value.cells, Nat.mul_one] at hmk
  go_wp2
  go_loopw [6, 16] (fun out i wr => ∃ (k : Nat) (us : List UV), i = .int .i64 k ∧ k ≤ asked.length ∧ Aside0 (kU.R 20 wr w.heap.size (fun _ => True) out us) ∧ Aside0 (us.length = k) ∧ Aside0 (∀ i, i < k → ¬ look es (asked.getD i ⟨#[]⟩) = none) ∧ Aside0 (Below w.heap.size w wr)) (fun _ i _ => asked.length - (intOf i).toNat)
  case atStart => exact ⟨0, [], rfl, Nat.zero_le _, ⟨R_cap kU _ w _ _ (C_len HR.out).2 (by simp [kU, Kd.scalar, size_madeCells])⟩, ⟨rfl⟩, ⟨fun i hi => by omega⟩, ⟨(Below.refl _ _).alloc (Nat.le_refl _) _⟩⟩
  case round =>
    clear hmk
    obtain ⟨k, us, rfl, hk, HO, HUL, HNB, HB⟩ := hrel
    have hl := (C_len HR.out).2
    by_cases hlt : k < asked.length
    · obtain ⟨ad, rfl, h0⟩ := at_S (Kd.C_below HR.out HB.out) (⟨#[]⟩ : ByteArray) k hlt
      have ha0 := HA.out k hlt
      obtain ⟨s, hs⟩ : ∃ s, s = asked.getD k ⟨#[]⟩ := ⟨_, rfl⟩
      rw [← hs] at h0 ha0
      have HS := Aside0.mk hs
      have HM1 := Aside0.mk (HM.out.below HB.out)
      clear hs
      rcases ha0 with ha0 | ⟨⟨u, hu1, hu2⟩, ha0⟩
      · have HA0 := Aside0.mk ha0
        clear ha0
        go_wp2_with (first | (at_lookup; refine wpList_lookup_is rfl (.tmp 21) (.tmp 22) 77 9 20 rfl Tryd.underlying77 Tryd.underlying9 zeroI b _ s rfl rfl HM1.out ?_; rw [HA0.out, Option.getD_none, Option.isSome_none]) | (go_at_call 47; refine (errorsNew _ _).mono ?_; rintro e w2 ⟨rfl, h2⟩; have H2 := Aside0.mk (below_step HB.out h2); clear h2))
        go_ret2
        exact ⟨⟨_, _, rfl⟩, H2.out⟩
      · have HA0 := Aside0.mk ha0
        clear ha0
        simp only at HA0
        go_wp2_with (first | (at_lookup; refine wpList_lookup_is rfl (.tmp 21) (.tmp 22) 77 9 20 rfl Tryd.underlying77 Tryd.underlying9 zeroI b _ s rfl rfl HM1.out ?_; rw [HA0.out, Option.getD_some, Option.isSome_some]) | (with_reducible refine wpList_buildOne rfl (.tmp 31) 71 20 .nilIface 16 rfl hu infoI rfl u rfl hu2 ?_) | (at_builtin; refine Kd.R_append kU (w0 := w) w.heap.size rfl (.tmp 30) (.tmp 32) 71 20 .nilIface 16 rfl hu infoI rfl (by decide) (by omega) _ us ⟨u, hu1, hu2⟩ [u] (fun _ => True) (fun _ => False) rfl rfl ?aP (fun _ hk => hk.elim) (fun _ _ => trivial) HO.out HB.out HB.out.size ?aL ?_))
        case aP => exact rfl
        case aL => rw [HUL.out]; omega
        intro v1 w2 hR hB2 _ _
        have HO2 := Aside0.mk hR
        have HB2 := Aside0.mk hB2
        have HNB2 := Aside0.mk (show ∀ i, i < k + 1 → ¬ look es (asked.getD i ⟨#[]⟩) = none from fun i hi => by
          by_cases e : i = k
          · subst e
            rw [← HS.out, HA0.out]
            exact fun e => by cases e
          · exact HNB.out i (by omega))
        clear hR hB2 HO HB h0 HM1
        go_wp2
        go_roundw
        case rel => exact ⟨k + 1, _, by go_num, by omega, HO2, ⟨by rw [List.length_append, HUL.out]; rfl⟩, HNB2, HB2⟩
        case measure => simp [intOf]; omega
    · obtain ⟨i, hi, hn⟩ := HBAD.out
      exact absurd hn (HNB.out i (by omega))
theorem set_blk {w : World} {b o : Nat} {c : Array Value} {T : TypeId} {fz : Nat × Nat} (h : w.heap[b]? = some (.cells c T fz)) (v : Value) : (w.setCell ⟨b, o, none⟩ v).heap[b]? = some (.cells (c.setIfInBounds o v) T fz) := by
  simp [World.setCell, Array.getElem?_modify, h]
theorem below_setO {w w1 : World} {B b o : Nat} (h : Below B w w1) (hb : B ≤ b) (v : Value) : Below B w (w1.setCell ⟨b, o, none⟩ v) := h.setCell hb v
theorem store4 {w1 : World} {b T : Nat} {c0 c1 c2 c3 : Value} (h : w1.heap[b]? = some (.cells #[c0, c1, c2, c3] T (0, 0))) (v0 v1 v2 v3 : Value) :
    w1.cell? ⟨b, 0, none⟩ = some c0 ∧ w1.frozen? ⟨b, 0, none⟩ = false ∧ (w1.setCell ⟨b, 0, none⟩ v0).cell? ⟨b, 1, none⟩ = some c1 ∧ (w1.setCell ⟨b, 0, none⟩ v0).frozen? ⟨b, 1, none⟩ = false ∧
    ((w1.setCell ⟨b, 0, none⟩ v0).setCell ⟨b, 1, none⟩ v1).cell? ⟨b, 2, none⟩ = some c2 ∧ ((w1.setCell ⟨b, 0, none⟩ v0).setCell ⟨b, 1, none⟩ v1).frozen? ⟨b, 2, none⟩ = false ∧
    (((w1.setCell ⟨b, 0, none⟩ v0).setCell ⟨b, 1, none⟩ v1).setCell ⟨b, 2, none⟩ v2).cell? ⟨b, 3, none⟩ = some c3 ∧ (((w1.setCell ⟨b, 0, none⟩ v0).setCell ⟨b, 1, none⟩ v1).setCell ⟨b, 2, none⟩ v2).frozen? ⟨b, 3, none⟩ = false ∧
    ((((w1.setCell ⟨b, 0, none⟩ v0).setCell ⟨b, 1, none⟩ v1).setCell ⟨b, 2, none⟩ v2).setCell ⟨b, 3, none⟩ v3).cell? ⟨b, 0, none⟩ = some v0 ∧ ((((w1.setCell ⟨b, 0, none⟩ v0).setCell ⟨b, 1, none⟩ v1).setCell ⟨b, 2, none⟩ v2).setCell ⟨b, 3, none⟩ v3).cell? ⟨b, 1, none⟩ = some v1 ∧ ((((w1.setCell ⟨b, 0, none⟩ v0).setCell ⟨b, 1, none⟩ v1).setCell ⟨b, 2, none⟩ v2).setCell ⟨b, 3, none⟩ v3).cell? ⟨b, 2, none⟩ = some v2 ∧ ((((w1.setCell ⟨b, 0, none⟩ v0).setCell ⟨b, 1, none⟩ v1).setCell ⟨b, 2, none⟩ v2).setCell ⟨b, 3, none⟩ v3).cell? ⟨b, 3, none⟩ = some v3 := by
  have h1 := set_blk (o := 0) h v0
  have h2 := set_blk (o := 1) h1 v1
  have h3 := set_blk (o := 2) h2 v2
  have h4 := set_blk (o := 3) h3 v3
  refine ⟨by rw [Lib.cell_of_heap h]; rfl, Lib.frozen_of_heap h _, by rw [Lib.cell_of_heap h1]; rfl, Lib.frozen_of_heap h1 _, by rw [Lib.cell_of_heap h2]; rfl, Lib.frozen_of_heap h2 _, by rw [Lib.cell_of_heap h3]; rfl, Lib.frozen_of_heap h3 _, by rw [Lib.cell_of_heap h4]; rfl, by rw [Lib.cell_of_heap h4]; rfl, by rw [Lib.cell_of_heap h4]; rfl, by rw [Lib.cell_of_heap h4]; rfl⟩
theorem far4 {w1 : World} {b e : Nat} {v : Value} {ps : List PI} (h : kPV.R e w1 (b + 1) (fun _ => True) v ps) (v0 v1 v2 v3 : Value) :
    kPV.R e ((((w1.setCell ⟨b, 0, none⟩ v0).setCell ⟨b, 1, none⟩ v1).setCell ⟨b, 2, none⟩ v2).setCell ⟨b, 3, none⟩ v3) (b + 1) (fun _ => True) v ps := by
  have one : ∀ {w : World} (o : Nat) (u : Value), kPV.R e w (b + 1) (fun _ => True) v ps → kPV.R e (w.setCell ⟨b, o, none⟩ u) (b + 1) (fun _ => True) v ps := by
    intro w o u h
    refine Kd.R_mono (Kd.R_far (Kd.R_bound h) (fun k hk => ?_) u) (fun _ _ => trivial)
    have := hk.2.1
    show k ≠ b
    omega
  exact one 3 v3 (one 2 v2 (one 1 v1 (one 0 v0 h)))
theorem valueOf_any (v : IV) (u : Value) (w : World) (h : IVAt w v u) (hsz : ∀ ps, v = .many ps → ps.length ≤ 20) :
    Calls Tryd.prog 53 #[u] w fun e w' => (∃ x : RX, e = .returned (.agg #[.int .i64 x.k, .int .i64 x.n, .string x.s, .slice x.A x.m x.c]) ∧ IsIV w' x v) ∧ Below w.heap.size w w' := by
  rcases v with p | ps
  · have h' : u = p.enc := h
    subst h'
    refine (valueOf_plain p w).mono ?_
    rintro e w' ⟨rfl, hb⟩
    exact ⟨⟨⟨p.k, p.n, p.s, none, 0, 0⟩, rfl, rfl, rfl, rfl, rfl⟩, hb⟩
  · obtain ⟨A, c, rfl, hle, hC⟩ := h
    have hz := hsz ps rfl
    have HC := Aside0.mk hC
    have tInt := taListInt
    have tStr := taListStr
    have tBool := taListBool
    have tList := taListList
    have hu2 := Tryd.underlying41
    clear hC
    go_enter Tryd.func53, Tryd.ntmps53
    go_wp2_with (go_at_call 37; refine (valuesOf_plain ps A c _ (Kd.C_below HC.out (by first | exact Below.refl _ _ | exact below_alloc (Below.refl _ _) _)) (by omega)).mono ?_; rintro e w1 ⟨v1, rfl, h1, h2⟩; obtain ⟨B, f, rfl, hle2, hC2⟩ := Kd.R_reads h1; have H1 := Aside0.mk h1; have H2 := Aside0.mk h2; obtain ⟨s0, s1, s2, s3, s4, s5, s6, s7, r0, r1, r2, r3⟩ := store4 (blk_below (blk_new w (.cells #[.int .i64 0, .int .i64 0, .string ⟨#[]⟩, .slice none 0 0] 41)) h2) (.int .i64 5) (.int .i64 0) (.string ⟨#[]⟩) (.slice B ps.length f); clear h1 h2 hC2)
    have hR1 := H1.out
    rw [World.size_alloc] at hR1
    have hR4 := far4 hR1 (.int .i64 5) (.int .i64 0) (.string ⟨#[]⟩) (.slice B ps.length f)
    refine bodyPost_ret (v := .agg #[.int .i64 5, .int .i64 0, .string ⟨#[]⟩, .slice B ps.length f]) (by simp [results, Tryd.results53, go_sem, r0, r1, r2, r3]) rfl ⟨⟨⟨5, 0, ⟨#[]⟩, B, ps.length, f⟩, rfl, rfl, rfl, rfl, rfl, (Kd.R_reads' hR4).2.2, hz⟩, ?_⟩
    exact below_setO (below_setO (below_setO (below_setO (below_step (below_alloc (Below.refl _ _) _) H2.out) (Nat.le_refl _) _) (Nat.le_refl _) _) (Nat.le_refl _) _) (Nat.le_refl _) _
set_option maxHeartbeats 800000 in
theorem valuesOf_any (us : List UV) (vs : List IV) (A : Option Addr) (c : Nat) (w : World) (hr : kU.C w A us.length us) (hv : ∀ i, i < us.length → IVAt w (vs.getD i (.one .nil)) (us.getD i zU).1) (hz : ∀ i ps, vs.getD i (.one .nil) = .many ps → ps.length ≤ 20) (hlen : us.length ≤ 1000) :
    Calls Tryd.prog 37 #[.slice A us.length c] w fun e w' => (∃ C f xs, e = .returned (.slice C us.length f) ∧ kRX.C w' C us.length xs ∧ (us.length = 1 → IsIV w' (xs.getD 0 zRX) (vs.getD 0 (.one .nil)))) ∧ Below w.heap.size w w' := by
  have hu := Tryd.underlying35
  have hu2 := Tryd.underlying41
  have hi2 := infoV
  have HR := Aside0.mk hr
  have HV := Aside0.mk hv
  have HZ := Aside0.mk hz
  clear hr hv hz
  go_enter Tryd.func37, Tryd.ntmps37
  go_wp2
  go_loopw [3, 8] (fun out i wr => ∃ (k : Nat) (xs : List RX), i = .int .i64 k ∧ k ≤ us.length ∧ Aside0 (kRX.R 41 wr w.heap.size (fun _ => True) out xs) ∧ Aside0 (xs.length = k) ∧ Aside0 (k = 0 → out = .slice none 0 0) ∧ Aside0 (k = 1 → IsIV wr (xs.getD 0 zRX) (vs.getD 0 (.one .nil))) ∧ Aside0 (Below w.heap.size w wr)) (fun _ i _ => us.length - (intOf i).toNat)
  case atStart => exact ⟨0, [], rfl, Nat.zero_le _, ⟨Kd.R_nil _ _ _ _ _⟩, ⟨rfl⟩, ⟨fun _ => rfl⟩, ⟨fun h => by cases h⟩, ⟨Below.refl _ _⟩⟩
  case round =>
    obtain ⟨k, xs, rfl, hk, HO, HXL, HN0, HI1, HB⟩ := hrel
    have hl := (C_len HR.out).2
    by_cases hlt : k < us.length
    · obtain ⟨ad, rfl, h0⟩ := at_S (Kd.C_below HR.out HB.out) zU k hlt
      have hv0 := (HV.out k hlt).below HB.out
      obtain ⟨p, hp⟩ : ∃ p, p = us.getD k zU := ⟨_, rfl⟩
      rw [← hp] at h0 hv0
      have HV0 := Aside0.mk hv0
      clear hp hv0
      obtain ⟨u, hu3, hu4⟩ := p
      replace h0 : wr.cell? (ad.add k) = some u := h0
      have HV1 : Aside0 (IVAt wr (vs.getD k (.one .nil)) u) := ⟨HV0.out⟩
      clear HV0 hu3 hu4
      go_wp2_with (first | (go_at_call 53; refine (valueOf_any _ u _ HV1.out (fun ps h => HZ.out k ps h)).mono ?_; rintro e w1 ⟨⟨x, rfl, hx⟩, hb1⟩; have HX := Aside0.mk hx; have HB1 := Aside0.mk hb1; clear hb1 hx) | (at_builtin; refine Kd.R_append kRX (w0 := w) w.heap.size rfl (.tmp 12) (.tmp 15) 35 41 (.agg #[.int .i64 0, .int .i64 0, .string ⟨#[]⟩, .slice none 0 0]) 56 rfl hu hi2 rfl (by decide) (by omega) _ xs x [.int .i64 x.k, .int .i64 x.n, .string x.s, .slice x.A x.m x.c] (fun _ => True) (fun _ => False) rfl rfl ?aP (fun _ hk => hk.elim) (fun _ _ => trivial) ?aO ?aB ?aS ?aL ?_))
      case aP => exact rfl
      case aO => exact Kd.R_below HO.out HB1.out
      case aB => exact below_step HB.out HB1.out
      case aS => have := HB1.out.size; have := HB.out.size; simp at *; omega
      case aL => rw [HXL.out]; omega
      intro v1 w2 hR hB2 hg2 _
      have HO2 := Aside0.mk hR
      have HB2 := Aside0.mk hB2
      have HI2 := Aside0.mk (show k + 1 = 1 → IsIV w2 ((xs ++ [x]).getD 0 zRX) (vs.getD 0 (.one .nil)) from fun e => by
        have hk0 : k = 0 := by omega
        have hnil := HN0.out hk0
        have hxs : xs = [] := List.eq_nil_of_length_eq_zero (by rw [HXL.out, hk0])
        subst hxs
        have hx := HX.out
        rw [hk0] at hx
        rw [hnil] at hg2
        exact hx.below ((Below.refl _ w1).grown hg2 (Nat.le_refl _) (fun j hj => by simp [Value.ownBlock] at hj)))
      clear hR hB2 hg2 HO HB HB1 h0 HX HI1 HN0
      go_wp2
      go_roundw
      case rel => exact ⟨k + 1, _, by go_num, by omega, HO2, ⟨by rw [List.length_append, HXL.out]; rfl⟩, ⟨fun h => by omega⟩, HI2, HB2⟩
      case measure => simp [intOf]; omega
    · have hk' : k = us.length := by omega
      subst hk'
      obtain ⟨C, f, hvv, hle, hC⟩ := Kd.R_reads HO.out
      have hxl := HXL.out
      rw [hxl] at hvv hC
      have HC := Aside0.mk hC
      clear hC hle hxl
      subst hvv
      go_wp2
      go_ret
      exact ⟨⟨C, f, xs, rfl, HC.out, HI1.out⟩, HB.out⟩
end Go.Proofs.YtnpjnekoifheoaaDoor
