/- impl.goOf, impl.mapOf at right values, lists among them; sqlx.bindMapArgs at values of interface{} as they lie there. -/
import Derived.Test.YtnpjnekoifheoaaDoorRight
namespace Go.Proofs.YtnpjnekoifheoaaDoor
open Go Go.RowKit Go.MapKept Go.Proofs.YtnpjnekoifheoaaDoorW.PrintWords
set_option linter.unusedVariables false
set_option maxRecDepth 100000

theorem IVAt.below {w w1 : World} {v : IV} {u : Value} (h : IVAt w v u) (hb : Below w.heap.size w w1) : IVAt w1 v u := by
  rcases v with p | ps
  · exact h
  · obtain ⟨A, c, h1, h2, h3⟩ := h
    exact ⟨A, c, h1, h2, Kd.C_below h3 hb⟩
theorem IVAt.one {w : World} {v : IV} {u : Value} (h : IVAt w v u) : u.oneCell' = true := by
  rcases v with p | ps
  · have h' : u = p.enc := h
    rw [h']
    exact p.enc_one
  · obtain ⟨A, c, rfl, _, _⟩ := h
    rfl
theorem goOf_any (x : RX) (v : IV) (w : World) (h : IsIV w x v) :
    Calls Tryd.prog 45 #[.agg #[.int .i64 x.k, .int .i64 x.n, .string x.s, .slice x.A x.m x.c], .int .i64 0] w fun e w' => (∃ u, e = .returned (.tuple #[u, .bool true]) ∧ IVAt w' v u) ∧ Below w.heap.size w w' := by
  rcases v with p | ps
  · obtain ⟨k, n, s, A, m, c⟩ := x
    obtain ⟨h1, h2, h3, h4⟩ := h
    simp only at h1 h2 h3 h4
    subst h1 h2 h3 h4
    refine (goOf_plain p A c 0 w).mono ?_
    rintro e w' ⟨rfl, hb⟩
    exact ⟨⟨_, rfl, rfl⟩, hb⟩
  · obtain ⟨k, n, s, A, m, c⟩ := x
    obtain ⟨h1, h2, h3, h4, h5, h6⟩ := h
    simp only at h1 h2 h3 h4 h5
    subst h1 h2 h3 h4
    refine (goOf_list ps A c w h5 (by omega)).mono ?_
    rintro e w' ⟨v, rfl, hv, hb⟩
    obtain ⟨C, f, rfl, hle, hC⟩ := Kd.R_reads hv
    exact ⟨⟨_, rfl, C, f, rfl, hle, hC⟩, hb⟩
/-- A cell stays while a map's block is turned. -/
theorem cell_map {w w2 : World} {b : Nat} {es : List (ByteArray × Value)} (hm : MapIs w b es) (hg : w.grownBy w2 (some b)) {a : Addr} {u : Value} (hc : w.cell? a = some u) : w2.cell? a = some u := by
  obtain ⟨arr, clock, hb, _⟩ := hm
  have hne : ¬ a.block = b := by
    intro e
    simp [World.cell?, e, hb] at hc
  have hlt : a.block < w.heap.size := by
    rcases Nat.lt_or_ge a.block w.heap.size with h' | h'
    · exact h'
    · simp [World.cell?, Array.getElem?_eq_none h'] at hc
  have h1 := hg.block a.block hlt (fun e => hne (Option.some.inj e))
  simp only [World.cell?, h1] at hc ⊢
  exact hc
theorem IVAt.map {w w2 : World} {b : Nat} {es : List (ByteArray × Value)} (hm : MapIs w b es) (hg : w.grownBy w2 (some b)) {v : IV} {u : Value} (h : IVAt w v u) : IVAt w2 v u := by
  rcases v with p | ps
  · exact h
  · obtain ⟨A, c, h1, h2, h3, h4, h5⟩ := h
    refine ⟨A, c, h1, h2, h3, h4, fun hn => ?_⟩
    obtain ⟨ad, e, hc⟩ := h5 hn
    refine ⟨ad, e, fun j p hj => ?_⟩
    obtain ⟨cs, hl, hK, hcell⟩ := hc j p hj
    exact ⟨cs, hl, hK, fun i u hu => cell_map hm hg (hcell i u hu)⟩
/-- What the map holds of the first arguments. -/
def MapHas (w : World) (xs : List (ByteArray × RX)) (vs : List IV) (k : Nat) (es : List (ByteArray × Value)) : Prop :=
  es.length = k ∧ ∀ i, i < k → (es.getD i (⟨#[]⟩, .nilIface)).1 = (xs.getD i zAX).1 ∧ IVAt w (vs.getD i (.one .nil)) (es.getD i (⟨#[]⟩, .nilIface)).2
theorem MapHas.below {w w1 : World} {xs : List (ByteArray × RX)} {vs : List IV} {k : Nat} {es : List (ByteArray × Value)} (h : MapHas w xs vs k es) (hb : Below w.heap.size w w1) : MapHas w1 xs vs k es :=
  ⟨h.1, fun i hi => ⟨(h.2 i hi).1, (h.2 i hi).2.below hb⟩⟩
theorem MapHas.names {w : World} {xs : List (ByteArray × RX)} {vs : List IV} {k : Nat} {es : List (ByteArray × Value)} (h : MapHas w xs vs k es) (hk : k ≤ xs.length) : es.map (·.1) = (xs.take k).map (·.1) := by
  apply List.ext_getElem
  · simp [h.1]; omega
  · intro i h1 h2
    have hi : i < k := by simp [h.1] at h1; exact h1
    have := (h.2 i hi).1
    rw [List.getD_eq_getElem?_getD, List.getD_eq_getElem?_getD, List.getElem?_eq_getElem (by rw [h.1]; exact hi), List.getElem?_eq_getElem (by omega)] at this
    simpa using this
theorem MapHas.look {w : World} {xs : List (ByteArray × RX)} {vs : List IV} {es : List (ByteArray × Value)} (h : MapHas w xs vs xs.length es) (hn : (xs.map (·.1)).Nodup) (i : Nat) (hi : i < xs.length) : ∃ u, look es (xs.getD i zAX).1 = some u ∧ IVAt w (vs.getD i (.one .nil)) u := by
  refine ⟨_, ?_, (h.2 i hi).2⟩
  rw [← (h.2 i hi).1]
  have hm := h.names (Nat.le_refl _)
  rw [List.take_length] at hm
  refine look_some (by rw [hm]; exact hn) ?_
  rw [List.getD_eq_getElem?_getD, List.getElem?_eq_getElem (by rw [h.1]; exact hi)]
  exact List.getElem_mem _
theorem MapHas.none {w : World} {xs : List (ByteArray × RX)} {vs : List IV} {es : List (ByteArray × Value)} (h : MapHas w xs vs xs.length es) {s : ByteArray} (hs : s ∉ xs.map (·.1)) : MapHas w xs vs xs.length es ∧ Go.Proofs.YtnpjnekoifheoaaDoor.look es s = Option.none := by
  refine ⟨h, look_none fun x hx e => hs ?_⟩
  have hm := h.names (Nat.le_refl _)
  rw [List.take_length] at hm
  rw [← hm, ← e]
  exact List.mem_map_of_mem hx
theorem MapHas.map {w w2 : World} {b : Nat} {fs : List (ByteArray × Value)} (hm : MapIs w b fs) (hg : w.grownBy w2 (some b)) {xs : List (ByteArray × RX)} {vs : List IV} {k : Nat} {es : List (ByteArray × Value)} (h : MapHas w xs vs k es) : MapHas w2 xs vs k es :=
  ⟨h.1, fun i hi => ⟨(h.2 i hi).1, (h.2 i hi).2.map hm hg⟩⟩
theorem look_new2 {w : World} {xs : List (ByteArray × RX)} {vs : List IV} {k : Nat} {es : List (ByteArray × Value)} (h : MapHas w xs vs k es) (hn : (xs.map (·.1)).Nodup) (hk : k < xs.length) : look es (xs.getD k zAX).1 = none := by
  refine look_none fun x hx e => ?_
  have hm := h.names (by omega)
  have hmem : (xs.getD k zAX).1 ∈ (xs.take k).map (·.1) := by
    rw [← hm, ← e]
    exact List.mem_map_of_mem hx
  obtain ⟨y, hy, he⟩ := List.mem_map.1 hmem
  obtain ⟨i, hi, hiy⟩ := List.getElem_of_mem hy
  rw [List.length_take] at hi
  rw [List.getElem_take] at hiy
  have h1 := List.pairwise_iff_getElem.1 hn i k (by simp; omega) (by simpa using hk) (by omega)
  simp only [List.getElem_map] at h1
  rw [List.getD_eq_getElem?_getD, List.getElem?_eq_getElem hk] at he
  exact h1 (by rw [hiy]; exact he)
theorem MapHas.add {w : World} {xs : List (ByteArray × RX)} {vs : List IV} {k : Nat} {es : List (ByteArray × Value)} (h : MapHas w xs vs k es) {u : Value} (hu : IVAt w (vs.getD k (.one .nil)) u) : MapHas w xs vs (k + 1) (es ++ [((xs.getD k zAX).1, u)]) := by
  refine ⟨by simp [h.1], fun i hi => ?_⟩
  by_cases hik : i < k
  · have e : (es ++ [((xs.getD k zAX).1, u)]).getD i (⟨#[]⟩, .nilIface) = es.getD i (⟨#[]⟩, .nilIface) := by
      rw [List.getD_eq_getElem?_getD, List.getElem?_append_left (by rw [h.1]; exact hik), ← List.getD_eq_getElem?_getD]
    rw [e]
    exact h.2 i hik
  · have hik' : i = k := by omega
    subst hik'
    have e : (es ++ [((xs.getD i zAX).1, u)]).getD i (⟨#[]⟩, .nilIface) = ((xs.getD i zAX).1, u) := by
      rw [List.getD_eq_getElem?_getD, List.getElem?_append_right (by rw [h.1]; exact Nat.le_refl _), h.1]
      simp
    rw [e]
    exact ⟨rfl, hu⟩
set_option maxHeartbeats 1600000 in
theorem mapOf_raw (xs : List (ByteArray × RX)) (vs : List IV) (hn : (xs.map (·.1)).Nodup) (A : Option Addr) (c : Nat) (w : World) (hr : kAX.C w A xs.length xs) (hv : ∀ i, i < xs.length → IsIV w (xs.getD i zAX).2 (vs.getD i (.one .nil))) :
    Calls Tryd.prog 40 #[.slice A xs.length c] w fun e w' => e = .returned (.tuple #[.map (some w.heap.size), .bool true]) ∧ (∃ es, MapIs w' w.heap.size es ∧ MapHas w' xs vs xs.length es) ∧ Below w.heap.size w w' := by
  have hu := Tryd.underlying48
  have hu2 := Tryd.underlying41
  have hmm := @run_makeMap Tryd.prog
  have HR := Aside0.mk hr
  have HV := Aside0.mk hv
  have HN := Aside0.mk hn
  clear hr hv hn
  go_enter Tryd.func40, Tryd.ntmps40
  go_wp2
  go_loopw [14] (fun i wr => ∃ k : Nat, i = .int .i64 k ∧ k ≤ xs.length ∧ Aside0 (∃ es, MapIs wr w.heap.size es ∧ MapHas wr xs vs k es) ∧ Aside0 (Below w.heap.size w wr)) (fun i _ => xs.length - (intOf i).toNat)
  case atStart => exact ⟨0, rfl, Nat.zero_le _, ⟨[], MapIs.made w, rfl, fun i hi => by omega⟩, ⟨(Below.refl _ _).alloc (Nat.le_refl _) _⟩⟩
  case round =>
    obtain ⟨k, rfl, hk, HM0, HB⟩ := hrel
    obtain ⟨es, hes1, hes2⟩ := HM0.out
    have HM := Aside0.mk hes1
    have HH := Aside0.mk hes2
    clear HM0 hes1 hes2
    have hl := (C_len HR.out).2
    by_cases hlt : k < xs.length
    · obtain ⟨ad, rfl, h0, h1, h2, h3, h4⟩ := at_AX (Kd.C_below HR.out HB.out) k hlt
      have hnew := look_new2 HH.out HN.out hlt
      have hiv := (HV.out k hlt).below HB.out
      obtain ⟨p, hp⟩ : ∃ p, p = xs.getD k zAX := ⟨_, rfl⟩
      rw [← hp] at h0 h1 h2 h3 h4 hnew hiv
      have HP := Aside0.mk hp
      have HN2 := Aside0.mk hnew
      have HIV := Aside0.mk hiv
      clear hp hnew hiv
      go_wp2_with (first | (go_at_call 45; refine (goOf_any p.2 _ _ (HIV.out.below (below_alloc (Below.refl _ _) _))).mono ?_; rintro e w1 ⟨⟨u, rfl, hu1⟩, hb1⟩; have q0 : w1.cell? ⟨wr.heap.size, 0, none⟩ = some (.string p.1) := blk_cell (blk_below (blk_new wr _) hb1) 0; have HU := Aside0.mk hu1; have HB1 := Aside0.mk hb1; have HM1 := Aside0.mk ((HM.out.below (below_alloc (Below.refl _ _) _)).below hb1); have HH1 := Aside0.mk ((HH.out.below (below_alloc (Below.refl _ _) _)).below hb1); clear hb1 hu1 HM) | (at_lookup; refine wpList_lookup_is rfl (.tmp 25) (.tmp 27) 77 9 20 rfl Tryd.underlying77 Tryd.underlying9 zeroI w.heap.size _ p.1 rfl rfl HM1.out ?_; rw [HN2.out]) | (at_mapUpdate; refine wpList_update_new rfl (.tmp 36) (.tmp 38) (.tmp 39) 77 9 20 rfl Tryd.underlying77 Tryd.underlying9 w.heap.size _ p.1 u rfl rfl rfl HM1.out HN2.out ?_; intro w2 hm2 hg2; have HM2 := Aside0.mk hm2; have HG2 := Aside0.mk hg2; clear hm2 hg2))
      go_roundw
      case rel =>
        have hs := HB.out.size
        have hs1 := HB1.out.size
        simp only [World.size_alloc] at hs1
        refine ⟨k + 1, by go_num, by omega, ⟨es ++ [(p.1, u)], HM2.out, ?_⟩, ⟨(below_step (below_alloc HB.out _) HB1.out).grown HG2.out (by omega) (fun j hj => by cases hj; exact Nat.le_refl _)⟩⟩
        have h5 := (HH1.out.map HM1.out HG2.out).add (HU.out.map HM1.out HG2.out)
        rwa [← HP.out] at h5
      case measure => simp [intOf]; omega
    · have hk' : k = xs.length := by omega
      subst hk'
      go_wp2
      go_ret2
      exact ⟨rfl, ⟨es, HM.out, HH.out⟩, HB.out⟩
end Go.Proofs.YtnpjnekoifheoaaDoor
