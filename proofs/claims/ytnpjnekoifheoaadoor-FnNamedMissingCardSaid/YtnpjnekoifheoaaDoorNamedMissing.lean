/- The walk of laws.FnNamedMissing. -/
import Derived.Test.YtnpjnekoifheoaaDoorMiss
import Derived.Deep.RegionHeld3
import Derived.StillTailTactics
namespace Go.Proofs.YtnpjnekoifheoaaDoor
open Go Go.RowKit Go.Proofs.YtnpjnekoifheoaaDoorW.PrintWords
set_option linter.unusedVariables false
set_option maxRecDepth 100000

theorem boxed1 {w W0 w1 : World} {T : Nat} {p0 p1 p2 p3 : Value} (h0 : W0 = w.alloc (.cells #[p0, p1, p2, p3] T)) (hb : Below W0.heap.size W0 w1) :
    w1.cell? ⟨w.heap.size, 0, none⟩ = some p0 ∧ w1.cell? ⟨w.heap.size, 1, none⟩ = some p1 ∧ w1.cell? ⟨w.heap.size, 2, none⟩ = some p2 ∧ w1.cell? ⟨w.heap.size, 3, none⟩ = some p3 := by
  have h1 : w1.heap[w.heap.size]? = some (.cells #[p0, p1, p2, p3] T (0, 0)) := by
    rw [hb.block _ (by rw [h0]; simp), h0]
    exact blk_new w _
  refine ⟨?_, ?_, ?_, ?_⟩
  all_goals (rw [Lib.cell_of_heap h1]; rfl)
theorem one_below2 {w W0 w1 : World} {o1 : Obj} (h0 : W0 = w.alloc o1) (hb : Below W0.heap.size W0 w1) : Below w.heap.size w w1 := by
  have h1 : Below w.heap.size w W0 := by rw [h0]; exact below_alloc (Below.refl _ _) _
  exact below_step h1 hb
/-- The parameter's cells. -/
def rxOf (x : SV) (A : Option Addr) (c : Nat) : RX := ⟨x.k, x.n, x.s, A, x.l.length, c⟩
theorem infoArg : (Tryd.prog.info? 48).map (fun i => (i.zero, i.size, i.bytes)) = some (some (.agg #[.string ⟨#[]⟩, .int .i64 0, .int .i64 0, .string ⟨#[]⟩, .slice none 0 0]), 5, 72) := by kernel_rfl
/-- Two own rows, apart. -/
def Rows2 (w : World) (base : Nat) (vl ve : Value) (xs ys : List (ByteArray × RX)) : Prop :=
  kAX.R 48 w base (fun k => some k ≠ ve.ownBlock) vl xs ∧ kAX.R 48 w base (fun k => some k ≠ vl.ownBlock) ve ys
theorem Rows2.symm {w : World} {base : Nat} {vl ve : Value} {xs ys : List (ByteArray × RX)} (h : Rows2 w base vl ve xs ys) : Rows2 w base ve vl ys xs := ⟨h.2, h.1⟩
theorem Rows2.below {w w1 : World} {base : Nat} {vl ve : Value} {xs ys : List (ByteArray × RX)} (h : Rows2 w base vl ve xs ys) (hb : Below w.heap.size w w1) : Rows2 w1 base vl ve xs ys := ⟨Kd.R_below h.1 hb, Kd.R_below h.2 hb⟩
theorem Rows2.fresh {w : World} {base : Nat} {vl ve : Value} {xs ys : List (ByteArray × RX)} (h : Rows2 w base vl ve xs ys) (k : Nat) (hk : w.heap.size ≤ k) : some k ≠ ve.ownBlock := by
  intro he
  obtain ⟨inner, ho⟩ := Kd.R_own h.2
  have := own_lt ho k he.symm
  omega
theorem Rows2.left {W w1 : World} {base : Nat} {vl ve v1 : Value} {xs ys xs' : List (ByteArray × RX)} (h : Rows2 W base vl ve xs ys) (hR : kAX.R 48 w1 base (fun k => some k ≠ ve.ownBlock) v1 xs') (hg : W.grownBy w1 vl.ownBlock) (hat : v1.ownBlock = vl.ownBlock ∨ ∃ b, v1.ownBlock = some b ∧ W.heap.size ≤ b) : Rows2 w1 base v1 ve xs' ys := by
  refine ⟨hR, Kd.R_mono (Kd.R_grown (Kd.R_bound h.2) hg (fun k hk => hk.1)) (fun k hk he => ?_)⟩
  rcases hat with e | ⟨b, e, hb⟩
  · rw [e] at he; exact hk.1 he
  · rw [e] at he
    injection he with he
    have := hk.2.2.1
    omega
theorem zz_ne {nm : ByteArray} (h : (nm.toList == [122, 122]) = false) : nm ≠ ⟨#[122, 122]⟩ := by
  rintro rfl
  rw [Lib.toList_data] at h
  exact absurd h (by decide)
theorem str_ne {a b : ByteArray} (h : (a.toList == b.toList) = false) : a ≠ b := by
  rintro rfl
  simp at h
theorem withV_next (rx : RX) (names : List ByteArray) (m k : Nat) (h : ¬ k = m) : withV rx (lessN names m (k + 1)) = withV rx (lessN names m k) ++ [(names.getD k ⟨#[]⟩, rx)] := by
  rw [lessN, if_neg h]
  simp [withV]
theorem withV_skip (rx : RX) (names : List ByteArray) (k : Nat) : withV rx (lessN names k (k + 1)) = withV rx (lessN names k k) := by
  rw [lessN, if_pos rfl]
theorem lessN_len (names : List ByteArray) (m : Nat) : ∀ k, (lessN names m k).length ≤ k := by
  intro k
  induction k with
  | zero => exact Nat.le_refl _
  | succ k ih =>
    rw [lessN]
    split
    · omega
    · rw [List.length_append, List.length_singleton]; omega
theorem lessN_small (names : List ByteArray) (m k : Nat) (hk : k ≤ 10) : ((lessN names m k).length + 1) * 72 ≤ 140737488355328 := by
  have := lessN_len names m k
  omega
set_option maxRecDepth 100000 in
set_option maxHeartbeats 4000000 in
theorem namedMissing_walk (names : List ByteArray) (N : Option Addr) (cn : Nat) (x : SV) (A : Option Addr) (c : Nat) (a : Int) (w : World) (hN : Kd.string.C w N names.length names) (hNs : ∀ s ∈ names, s.size ≤ 9223372036854775807) (hX : kV.C w A x.l.length x.l) (hc : x.l.length ≤ c) (ha : (Lit.int .u8 a).wf = true) :
    Calls Tryd.prog 8 #[.slice N names.length cn, .agg #[.int .i64 x.k, .int .i64 x.n, .string x.s, .slice A x.l.length c], .int .u8 a] w fun e w' => e = .returned (.bool true) ∧ Below w.heap.size w w' := by
  have hmin : IntKind.u8.min = 0 := by decide
  have hmax : IntKind.u8.max = 255 := by decide
  have h : 0 ≤ a ∧ a ≤ 255 := by
    simp [Lit.wf] at ha
    omega
  obtain ⟨h0, h1⟩ := h
  clear ha hmin hmax
  have hu2 := Tryd.underlying41
  have hu3 := Tryd.underlying48
  have HN := Aside0.mk hN
  have HNs := Aside0.mk hNs
  have HX := Aside0.mk hX
  clear hN hNs hX hc
  go_enter Tryd.func8, Tryd.ntmps8
  obtain ⟨W0, hW0⟩ : ∃ W0, W0 = w.alloc (.cells #[.int .i64 x.k, .int .i64 x.n, .string x.s, .slice A x.l.length c] 41) := ⟨_, rfl⟩
  have HW0 := Lib.hid hW0
  clear hW0
  go_wp2_with (first
    | (go_at_call 15; refine (zzFits2_any names _ _ _ (Kd.C_below HN.out (below_alloc (Below.refl _ _) _))).mono ?_; rintro e wz ⟨⟨b, rfl, _⟩, rfl⟩; cases b)
    | (go_at_call 22; refine (zzFits4_any _ _ _ _ _ _ _).mono ?_; rintro e w1 ⟨⟨b, rfl, _⟩, hb1⟩; rw [← HW0.out] at hb1; have HB1 := Aside0.mk hb1; obtain ⟨p0, p1, p2, p3⟩ := boxed1 HW0.out HB1.out; clear hb1; cases b)
    | (go_at_call 23; refine (argumentRight_any x _ _ _ (Kd.C_below HX.out (one_below2 HW0.out HB1.out))).mono ?_; rintro e w3 ⟨⟨b', rfl, hb⟩, hb1⟩; have HR1 := Aside0.mk hb; have HB3 := Aside0.mk (below_step HB1.out hb1); obtain ⟨p0, p1, p2, p3⟩ := boxed1 HW0.out HB3.out; clear hb hb1; cases b'))
  all_goals first | (go_ret; exact ⟨rfl, by first | exact below_alloc (Below.refl _ _) _ | exact one_below2 HW0.out HB3.out | exact one_below2 HW0.out HB1.out⟩) | skip
  obtain ⟨m, hm⟩ : ∃ m : Nat, a % (names.length : Int) = m := ⟨(a % (names.length : Int)).toNat, by have := Int.emod_nonneg a (show (names.length : Int) ≠ 0 by omega); omega⟩
  have hml : m < names.length := by have := Int.emod_lt_of_pos a (show (0 : Int) < names.length by omega); omega
  rw [hm]
  obtain ⟨vx, hvx⟩ := HR1.out (by first | rfl | trivial)
  have HVX := Aside0.mk hvx
  have hn10 : names.length ≤ 10 := by omega
  have hu49 := Tryd.underlying49
  clear hm hvx HR1 p0 p1 p2 p3
  go_loopw [7, 8, 9, 50] (fun ss sl se si wr => ∃ (i : Nat) (S : ByteArray), ss = .string S ∧ si = .int .i64 i ∧ i ≤ names.length ∧ S.size ≤ 40 * i ∧ Aside0 (S.data.toList = missS names i) ∧ Aside0 (∀ j, j < i → NameOk (names.getD j ⟨#[]⟩)) ∧ Aside0 (∀ j, j < i → names.getD j ⟨#[]⟩ ≠ ⟨#[122, 122]⟩) ∧ Aside0 (Diff names i) ∧ Aside0 (Rows2 wr W0.heap.size sl se (withV (rxOf x A c) (lessN names names.length i)) (withV (rxOf x A c) (lessN names m i))) ∧ Aside0 (Below W0.heap.size W0 wr)) (fun _ _ _ si _ => names.length - (intOf si).toNat)
  case atStart => exact ⟨0, ⟨#[]⟩, rfl, rfl, Nat.zero_le _, Nat.le_refl _, ⟨rfl⟩, ⟨fun j hj => by omega⟩, ⟨fun j hj => by omega⟩, ⟨fun j hj => by omega⟩, ⟨Kd.R_nil _ _ _ _ _, Kd.R_nil _ _ _ _ _⟩, HB3⟩
  case round =>
    obtain ⟨i, S, rfl, rfl, hi, hz1, HS, HOKS, HZZ, HDI, HR, HB⟩ := hrel
    by_cases hlt : i < names.length
    · obtain ⟨ad, rfl, g0⟩ := at_S (Kd.C_below HN.out (one_below2 HW0.out HB.out)) (⟨#[]⟩ : ByteArray) i hlt
      have hsz := HNs.out _ (getD_mem hlt)
      obtain ⟨nm, hnm⟩ : ∃ nm, nm = names.getD i ⟨#[]⟩ := ⟨_, rfl⟩
      rw [← hnm] at g0 hsz
      have HNM := Lib.hid hnm
      clear hnm
      go_wp2_with (go_at_call 12; refine (named9_any nm _ hsz).mono ?_; rintro e w4 ⟨⟨b', rfl, hb⟩, rfl⟩; have HNK := Aside0.mk hb; clear hb; cases b')
      all_goals first | (go_ret; exact ⟨rfl, one_below2 HW0.out HB.out⟩) | skip
      have hok := HNK.out (by first | rfl | trivial)
      have hnz := hok.2.2.1
      have HOK := Aside0.mk hok
      have HZ := Aside0.mk (zz_ne (nm := nm) (by assumption))
      clear hok HNK
      go_loopw [67] (fun ui w5 => ∃ k : Nat, ui = .int .i64 k ∧ k ≤ i ∧ Aside0 (∀ j, j < k → names.getD j ⟨#[]⟩ ≠ nm) ∧ Aside0 (Below wr.heap.size wr w5)) (fun ui _ => i - (intOf ui).toNat)
      case atStart => exact ⟨0, rfl, Nat.zero_le _, ⟨fun j hj => by omega⟩, ⟨Below.refl _ _⟩⟩
      case round =>
        obtain ⟨k, rfl, hk, HNE, HB5⟩ := hrel
        have g5 := cell_under g0 HB5.out
        by_cases hlk : k < i
        · obtain ⟨ad2, ead, t0⟩ := at_S (Kd.C_below HN.out (one_below2 HW0.out (below_step HB.out HB5.out))) (⟨#[]⟩ : ByteArray) k (by omega)
          injection ead with ead
          subst ead
          obtain ⟨n2, hn2⟩ : ∃ n2, n2 = names.getD k ⟨#[]⟩ := ⟨_, rfl⟩
          rw [← hn2] at t0
          have HN2 := Lib.hid hn2
          clear hn2
          go_wp2_with fail
          go_quiet (fail)
          go_wp2
          · go_ret
            exact ⟨rfl, one_below2 HW0.out (below_step HB.out (pw_below_drewN HB5.out _))⟩
          · go_roundw
            case rel =>
              refine ⟨k + 1, by go_num, by omega, ⟨fun j hj => ?_⟩, ⟨pw_below_drewN HB5.out _⟩⟩
              by_cases e : j = k
              · subst e; rw [← HN2.out]; exact str_ne (a := n2) (b := nm) (by assumption)
              · exact HNE.out j (by omega)
            case measure => simp [intOf]; omega
        · have hki : k = i := by omega
          subst hki
          have HB6 := Aside0.mk (below_step HB.out HB5.out)
          have HR6 := Aside0.mk (HR.out.below HB5.out)
          obtain ⟨p0, p1, p2, p3⟩ := boxed1 HW0.out HB6.out
          have e1 : (⟨#[58]⟩ : ByteArray).size = 1 := rfl
          have e2 : (⟨#[44, 32]⟩ : ByteArray).size = 2 := rfl
          clear HB5 HR HB g0
          go_wp2_with fail
          have HSS := Aside0.mk (show ∀ W', Below W0.heap.size W0 W' → (Below W0.heap.size W0 W' ∧ W'.cell? (ad.add k) = some (.string nm) ∧ W'.cell? ⟨w.heap.size, 0, none⟩ = some (.int .i64 x.k) ∧ W'.cell? ⟨w.heap.size, 1, none⟩ = some (.int .i64 x.n) ∧ W'.cell? ⟨w.heap.size, 2, none⟩ = some (.string x.s) ∧ W'.cell? ⟨w.heap.size, 3, none⟩ = some (.slice A x.l.length c)) from fun W' h => by
            obtain ⟨ad2, e, t⟩ := at_S (Kd.C_below HN.out (one_below2 HW0.out h)) (⟨#[]⟩ : ByteArray) k hlt
            injection e with e
            subst e
            rw [← HNM.out] at t
            exact ⟨h, t, boxed1 HW0.out h⟩)
          have HQ0 := Aside0.mk (show kAX.M wr.drew W0.heap.size (fun _ => False) (nm, rxOf x A c) [.string nm, .int .i64 x.k, .int .i64 x.n, .string x.s, .slice A x.l.length c] from ⟨[.string nm], (rxOf x A c).cells, rfl, rfl, rfl⟩)
          have HQ1 := Aside0.mk (show ∀ k, wr.drew.heap.size ≤ k → some k ≠ u9.ownBlock from fun k hk => HR6.out.fresh k hk)
          have HQ2 := Aside0.mk (Kd.R_below HR6.out.1 (Below.refl wr.heap.size wr).drew)
          have HQ3 := Aside0.mk HB6.out.drew
          have hxl : (withV (rxOf x A c) (lessN names names.length k)).length = k := by rw [withV_len, lessN_all names _ k (by omega) (by omega), List.length_take]; omega
          have HQ4 := Aside0.mk (show ((withV (rxOf x A c) (lessN names names.length k)).length + 1) * 72 ≤ 140737488355328 by rw [hxl]; omega)
          go_region_held3 (fun w' => Below W0.heap.size W0 w' ∧ w'.cell? (ad.add k) = some (.string nm) ∧ w'.cell? ⟨w.heap.size, 0, none⟩ = some (.int .i64 x.k) ∧ w'.cell? ⟨w.heap.size, 1, none⟩ = some (.int .i64 x.n) ∧ w'.cell? ⟨w.heap.size, 2, none⟩ = some (.string x.s) ∧ w'.cell? ⟨w.heap.size, 3, none⟩ = some (.slice A x.l.length c))
            (exact HSS.out _ (by first | exact HB6.out.drew | exact HB6.out | exact below_alloc HB6.out.drew _ | assumption))
            ((refine Kd.R_append_step kAX (w0 := W0) W0.heap.size (by rfl) (.tmp 88) (.tmp 95) 49 48 _ 72 (by rfl) hu49 infoArg (by rfl) (by decide) (by omega) _ (withV (rxOf x A c) (lessN names names.length k)) (nm, rxOf x A c) [.string nm, .int .i64 x.k, .int .i64 x.n, .string x.s, .slice A x.l.length c] (fun k => some k ≠ u9.ownBlock) (fun _ => False) (by rfl) (by rfl) HQ0.out (fun _ hk => hk.elim) HQ1.out HQ2.out HQ3.out HQ3.out.size HQ4.out ?_; intro v1 w3 hR3 hB3 hg3 hat3))
          obtain ⟨L, f, hv1, hle, hC⟩ := Kd.R_reads hR3
          have hgd : (withV (rxOf x A c) (lessN names names.length k) ++ [(nm, rxOf x A c)]).getD k zAX = (nm, rxOf x A c) := by
            rw [List.getD_eq_getElem?_getD, List.getElem?_append_right (by omega), hxl]
            simp
          have hl1 : (withV (rxOf x A c) (lessN names names.length k) ++ [(nm, rxOf x A c)]).length = k + 1 := by rw [List.length_append, hxl]; rfl
          rw [hl1] at hv1 hC
          have HR7 := Aside0.mk (HR6.out.below (Below.refl wr.heap.size wr).drew |>.left hR3 hg3 hat3)
          have HB7 := Aside0.mk hB3
          obtain ⟨l0, rfl, c0, c1, c2, c3, c4⟩ := at_AX hC k (by omega)
          rw [hgd] at c0 c1 c2 c3 c4
          subst hv1
          clear HQ0 HQ1 HQ2 HQ3 HQ4 HR6 hR3 hB3 hg3 hat3 hC hgd hle HSS g5 p0 p1 p2 p3
          by_cases hkm : k = m
          · subst hkm
            go_wp2
            go_roundw
            case rel =>
              refine ⟨k + 1, _, rfl, by go_num, by omega, ?_, ⟨?_⟩, ⟨fun j hj => ?_⟩, ⟨fun j hj => ?_⟩, ⟨fun j hj q hq => ?_⟩, ⟨?_⟩, HB7⟩
              · simp only [ba_size, e1, e2]; omega
              · rw [missS, nmAt, ← HNM.out]
                simp [HS.out]
              · by_cases e : j = k
                · subst e; rw [← HNM.out]; exact HOK.out
                · exact HOKS.out j (by omega)
              · by_cases e : j = k
                · subst e; rw [← HNM.out]; exact HZ.out
                · exact HZZ.out j (by omega)
              · by_cases e : j = k
                · subst e; rw [← HNM.out]; exact HNE.out q hq
                · exact HDI.out j (by omega) q hq
              · rw [withV_next (rxOf x A c) names names.length k (by omega), withV_skip (rxOf x A c) names k, ← HNM.out]
                exact HR7.out
            case measure => simp [intOf]; omega
          · go_wp2_with (at_builtin; refine Kd.R_append kAX (w0 := W0) W0.heap.size rfl (.tmp 100) (.tmp 105) 49 48 (.agg #[.string ⟨#[]⟩, .int .i64 0, .int .i64 0, .string ⟨#[]⟩, .slice none 0 0]) 72 rfl hu49 infoArg rfl (by decide) (by omega) _ (withV (rxOf x A c) (lessN names m k)) (nm, rxOf x A c) [.string nm, .int .i64 x.k, .int .i64 x.n, .string x.s, .slice A x.l.length c] (fun q => some q ≠ (Value.slice (some l0) (k + 1) f).ownBlock) (fun _ => False) rfl rfl ?aP (fun _ hk => hk.elim) ?aN ?aO ?aB ?aS ?aL ?_)
            case aP => exact ⟨[.string nm], (rxOf x A c).cells, rfl, rfl, rfl⟩
            case aN => exact fun q hq => HR7.out.symm.fresh q hq
            case aO => exact HR7.out.2
            case aS => exact HB7.out.size
            case aL => rw [withV_len]; exact lessN_small names m k (by omega)
            intro v2 w4 hR4 hB4 hg4 hat4
            have HR8 := Aside0.mk (HR7.out.symm.left hR4 hg4 hat4).symm
            have HB8 := Aside0.mk hB4
            clear hR4 hB4 hg4 hat4 HR7 c0 c1 c2 c3 c4
            go_wp2
            go_roundw
            case rel =>
              refine ⟨k + 1, _, rfl, by go_num, by omega, ?_, ⟨?_⟩, ⟨fun j hj => ?_⟩, ⟨fun j hj => ?_⟩, ⟨fun j hj q hq => ?_⟩, ⟨?_⟩, HB8⟩
              · simp only [ba_size, e1, e2]; omega
              · rw [missS, nmAt, ← HNM.out]
                simp [HS.out]
              · by_cases e : j = k
                · subst e; rw [← HNM.out]; exact HOK.out
                · exact HOKS.out j (by omega)
              · by_cases e : j = k
                · subst e; rw [← HNM.out]; exact HZ.out
                · exact HZZ.out j (by omega)
              · by_cases e : j = k
                · subst e; rw [← HNM.out]; exact HNE.out q hq
                · exact HDI.out j (by omega) q hq
              · rw [withV_next (rxOf x A c) names names.length k (by omega), withV_next (rxOf x A c) names m k hkm, ← HNM.out]
                exact HR8.out
            case measure => simp [intOf]; omega
    · have hie : i = names.length := by omega
      subst hie
      have hall : lessN names names.length names.length = names := by rw [lessN_all names _ _ (Nat.le_refl _) (Nat.le_refl _), List.take_length]
      obtain ⟨R, hR⟩ := miss_run 1 names names.length (Nat.le_refl _) HOKS.out
      have hrun := hR []
      rw [List.append_nil, crun, List.take_length, ← HS.out] at hrun
      have HRUN := Aside0.mk hrun
      have HCT := Aside0.mk (show S.data.toList.count 58 ≤ 90 by rw [HS.out, miss_count names _ (Nat.le_refl _) HOKS.out]; omega)
      have hnd := lessN_nodup names names.length names.length HDI.out
      rw [hall] at hnd
      have HND := Aside0.mk hnd
      have HBAD := Aside0.mk (show ∃ a ∈ names, a ∉ lessN names m names.length from ⟨_, getD_mem hml, lessN_not names m names.length hml HDI.out⟩)
      have HND2 := Aside0.mk (lessN_nodup names m names.length HDI.out)
      have hzn : (⟨#[122, 122]⟩ : ByteArray) ∉ names := by
        intro hmem
        obtain ⟨j, hj, e⟩ := List.getElem_of_mem hmem
        refine HZZ.out j hj ?_
        rw [List.getD_eq_getElem?_getD, List.getElem?_eq_getElem hj]
        exact e
      have HND3 := Aside0.mk (show (names ++ [(⟨#[122, 122]⟩ : ByteArray)]).Nodup by
        rw [List.nodup_append]
        exact ⟨hnd, by simp, fun a ha b hb e => hzn (by rw [List.mem_singleton.1 hb] at e; rw [← e]; exact ha)⟩)
      rw [hall] at HR
      obtain ⟨A1, c1, e1, hle1, hC1⟩ := Kd.R_reads HR.out.1
      obtain ⟨A2, c2, e2, hle2, hC2⟩ := Kd.R_reads HR.out.2
      rw [withV_len] at e1 hC1 e2 hC2
      subst e1 e2
      have HC1 := Aside0.mk hC1
      have HC2 := Aside0.mk hC2
      have hq : S.size ≤ 100000 := by omega
      clear hall hR hrun hnd hzn hC1 hC2 hle1 hle2
      go_wp2_with (first | (at_builtin; refine Kd.R_append kAX (w0 := W0) W0.heap.size rfl (.tmp 124) (.tmp 127) 49 48 (.agg #[.string ⟨#[]⟩, .int .i64 0, .int .i64 0, .string ⟨#[]⟩, .slice none 0 0]) 72 rfl hu49 infoArg rfl (by decide) (by omega) _ (withV (rxOf x A c) names) ((⟨#[122, 122]⟩ : ByteArray), rxOf x A c) [.string ⟨#[122, 122]⟩, .int .i64 x.k, .int .i64 x.n, .string x.s, .slice A x.l.length c] (fun q => some q ≠ (Value.slice A2 (lessN names m names.length).length c2).ownBlock) (fun _ => False) rfl rfl ?bP (fun _ hk => hk.elim) ?bN ?bO ?bB ?bS ?bL ?_) | (go_at_call 27; first
        | (have hzz := HB4; clear hzz; refine (named_less S ⟨R, names, none⟩ (rxOf x A c) vx (lessN names m names.length) _ _ _ hq HCT.out HRUN.out (by show names.length ≤ 90; omega) HND2.out (Kd.C_below HC2.out HB4L.out) (HVX.out.is (Kd.C_below HX.out (one_below2 HW0.out HB4.out))) HBAD.out).mono ?_; rintro e w5 ⟨rfl, h2⟩; have HB5 := Aside0.mk (below_step HB4.out h2); have HB5L := Aside0.mk (below_step HB4L.out h2); obtain ⟨p0, p1, p2, p3⟩ := boxed1 HW0.out HB5.out; have HR5 := Aside0.mk (HR.out.below HB5L.out); clear h2)
        | (refine (named_all S ⟨R, names, none⟩ (rxOf x A c) vx names _ _ _ hq HCT.out HRUN.out (by show names.length ≤ 90; omega) HND.out HC1.out (HVX.out.is (Kd.C_below HX.out (one_below2 HW0.out HB.out))) (right_small HVX.out) (fun a h => h)).mono ?_; rintro e w4 ⟨⟨rb, C, f, rfl⟩, h2⟩; have HB4 := Aside0.mk (below_step HB.out h2); have HB4L := Aside0.mk h2; clear h2)))
      case bP => exact ⟨[.string ⟨#[122, 122]⟩], (rxOf x A c).cells, rfl, rfl, rfl⟩
      case bN => exact fun q hq => HR5.out.fresh q hq
      case bO => exact HR5.out.1
      case bB => exact HB5.out
      case bS => exact HB5.out.size
      case bL => rw [withV_len]; omega
      intro v1 w6 hR6 hB6 hg6 hat6
      obtain ⟨L, f6, hv1, hle, hC⟩ := Kd.R_reads hR6
      have hl1 : (withV (rxOf x A c) names ++ [((⟨#[122, 122]⟩ : ByteArray), rxOf x A c)]).length = (names ++ [(⟨#[122, 122]⟩ : ByteArray)]).length := by rw [List.length_append, withV_len, List.length_append]; rfl
      have hl2 : withV (rxOf x A c) names ++ [((⟨#[122, 122]⟩ : ByteArray), rxOf x A c)] = withV (rxOf x A c) (names ++ [(⟨#[122, 122]⟩ : ByteArray)]) := by simp [withV]
      have hl3 : (names ++ [(⟨#[122, 122]⟩ : ByteArray)]).length = names.length + 1 := by rw [List.length_append]; rfl
      rw [hl1] at hv1 hC
      rw [hl2] at hC
      have hlast := named_all S ⟨R, names, none⟩ (rxOf x A c) vx (names ++ [(⟨#[122, 122]⟩ : ByteArray)]) L f6 w6 hq HCT.out HRUN.out (by show names.length ≤ 90; omega) HND3.out hC (HVX.out.is (Kd.C_below HX.out (one_below2 HW0.out hB6))) (right_small HVX.out) (fun a h => List.mem_append_left _ h)
      rw [hl3] at hv1 hlast
      subst hv1
      have HLAST := Aside0.mk hlast
      have HB6 := Aside0.mk hB6
      clear hR6 hB6 hg6 hat6 hC hle hl1 hl2 hl3 hlast p0 p1 p2 p3
      go_wp2_with (go_at_call 27; refine HLAST.out.mono ?_; rintro e w7 ⟨⟨rb7, C7, f7, rfl⟩, h2⟩; have HB7 := Aside0.mk (below_step HB6.out h2); clear h2)
      go_ret
      exact ⟨rfl, one_below2 HW0.out HB7.out⟩
end Go.Proofs.YtnpjnekoifheoaaDoor
