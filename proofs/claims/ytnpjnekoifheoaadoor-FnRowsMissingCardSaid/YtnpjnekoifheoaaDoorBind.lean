/- Contracts of impl.mapOf, sqlx.bindMapArgs, sqlx.BindMapArgs at plain values. -/
import Derived.Test.YtnpjnekoifheoaaDoorMap
import Derived.Test.YtnpjnekoifheoaaDoorGoOf
namespace Go.Proofs.YtnpjnekoifheoaaDoor
open Go Go.RowKit Go.MapKept Go.Proofs.YtnpjnekoifheoaaDoorW.PrintWords
set_option linter.unusedVariables false
set_option maxRecDepth 100000

/-- impl.Arg, of a plain value. -/
def kA : Kd (ByteArray × PI) := Kd.pair Kd.string kPV
abbrev zA : ByteArray × PI := (⟨#[]⟩, .nil)
theorem at_A {w : World} {A : Option Addr} {n : Nat} {xs : List (ByteArray × PI)} (h : kA.C w A n xs) (i : Nat) (hi : i < n) : ∃ ad A3 c3, A = some ad ∧ w.cell? (ad.add (i * 5)) = some (.string (xs.getD i zA).1) ∧ w.cell? ⟨(ad.add (i * 5)).block, (ad.add (i * 5)).off + 1, none⟩ = some (.int .i64 (xs.getD i zA).2.k) ∧ w.cell? ⟨(ad.add (i * 5)).block, (ad.add (i * 5)).off + 2, none⟩ = some (.int .i64 (xs.getD i zA).2.n) ∧ w.cell? ⟨(ad.add (i * 5)).block, (ad.add (i * 5)).off + 3, none⟩ = some (.string (xs.getD i zA).2.s) ∧ w.cell? ⟨(ad.add (i * 5)).block, (ad.add (i * 5)).off + 4, none⟩ = some (.slice A3 0 c3) := by
  obtain ⟨ad, c, e, _, hK, hc0⟩ := Kd.C_get h zA (i : Int) (by omega) (by omega)
  simp only [Int.toNat_natCast] at hK hc0
  have hc : ∀ j u, c[j]? = some u → w.cell? (ad.add (i * 5 + j)) = some u := hc0
  obtain ⟨c0, c1, rfl, h0, h1⟩ := hK
  have h0' : c0 = [.string (xs.getD i zA).1] := h0
  subst h0'
  obtain ⟨A3, c3, rfl⟩ := h1
  exact ⟨ad, A3, c3, e, hc 0 _ rfl, by rw [← add_field _ _ 1 (by omega)]; exact hc 1 _ rfl, by rw [← add_field _ _ 2 (by omega)]; exact hc 2 _ rfl, by rw [← add_field _ _ 3 (by omega)]; exact hc 3 _ rfl, by rw [← add_field _ _ 4 (by omega)]; exact hc 4 _ rfl⟩
/-- A name with a plain value, as a map has it. -/
def entry (x : ByteArray × PI) : ByteArray × Value := (x.1, x.2.enc)
theorem entry_names (xs : List (ByteArray × PI)) : (xs.map entry).map (·.1) = xs.map (·.1) := by simp [entry, Function.comp_def]
theorem zeroI (W : World) : (zeroValue 20).run Tryd.prog W = .ok .nilIface W := by rfl

theorem look_new (xs : List (ByteArray × PI)) (hn : (xs.map (·.1)).Nodup) (k : Nat) (hk : k < xs.length) : look ((xs.map entry).take k) (xs.getD k zA).1 = none := by
  refine look_none fun x hx => ?_
  rw [← List.map_take] at hx
  obtain ⟨y, hy, rfl⟩ := List.mem_map.1 hx
  obtain ⟨i, hi, hiy⟩ := List.getElem_of_mem hy
  rw [List.length_take] at hi
  rw [List.getElem_take] at hiy
  rw [List.getD_eq_getElem?_getD, List.getElem?_eq_getElem hk]
  simp only [Option.getD_some, entry]
  intro he
  have := List.pairwise_iff_getElem.1 hn i k (by simp; omega) (by simpa using hk) (by omega)
  simp only [List.getElem_map] at this
  exact this (by rw [hiy]; exact he)

set_option maxHeartbeats 800000 in
theorem mapOf_plain (xs : List (ByteArray × PI)) (hn : (xs.map (·.1)).Nodup) (A : Option Addr) (c : Nat) (w : World) (hr : kA.C w A xs.length xs) :
    Calls Tryd.prog 40 #[.slice A xs.length c] w fun e w' => e = .returned (.tuple #[.map (some w.heap.size), .bool true]) ∧ MapIs w' w.heap.size (xs.map entry) ∧ Below w.heap.size w w' := by
  have hu := Tryd.underlying48
  have hu2 := Tryd.underlying41
  have hmm := @run_makeMap Tryd.prog
  go_enter Tryd.func40, Tryd.ntmps40
  go_wp2
  go_loopw [14] (fun i wr => ∃ k : Nat, i = .int .i64 k ∧ k ≤ xs.length ∧ Aside0 (MapIs wr w.heap.size ((xs.map entry).take k)) ∧ Aside0 (Below w.heap.size w wr)) (fun i _ => xs.length - (intOf i).toNat)
  case atStart => exact ⟨0, rfl, Nat.zero_le _, ⟨MapIs.made w⟩, ⟨(Below.refl _ _).alloc (Nat.le_refl _) _⟩⟩
  case round =>
    obtain ⟨k, rfl, hk, HM, HB⟩ := hrel
    have hl := (C_len hr).2
    by_cases hlt : k < xs.length
    · obtain ⟨ad, A3, c3, rfl, h0, h1, h2, h3, h4⟩ := at_A (Kd.C_below hr HB.out) k hlt
      have HN := Aside0.mk (look_new xs hn k hlt)
      obtain ⟨p, hp⟩ : ∃ p, p = xs.getD k zA := ⟨_, rfl⟩
      rw [← hp] at h0 h1 h2 h3 HN
      have HP := Aside0.mk hp
      clear hp
      have hn0 : look ((xs.map entry).take k) p.1 = none := HN.out
      have HN2 := Aside0.mk hn0
      clear hn0 HN
      go_wp2_with (first | (go_at_call 45; refine (goOf_plain p.2 _ _ _ _).mono ?_; rintro e w1 ⟨rfl, hb1⟩; have q0 : w1.cell? ⟨wr.heap.size, 0, none⟩ = some (.string p.1) := blk_cell (blk_below (blk_new wr _) hb1) 0; have HB1 := Aside0.mk hb1; have HM1 := Aside0.mk ((HM.out.below (below_alloc (Below.refl _ _) _)).below hb1); clear hb1 HM) | (at_lookup; refine wpList_lookup_is rfl (.tmp 25) (.tmp 27) 77 9 20 rfl Tryd.underlying77 Tryd.underlying9 zeroI w.heap.size _ p.1 rfl rfl HM1.out ?_; rw [HN2.out]) | (at_mapUpdate; refine wpList_update_new rfl (.tmp 36) (.tmp 38) (.tmp 39) 77 9 20 rfl Tryd.underlying77 Tryd.underlying9 w.heap.size _ p.1 p.2.enc rfl rfl rfl HM1.out HN2.out ?_; intro w2 hm2 hg2; have HM2 := Aside0.mk hm2; have HG2 := Aside0.mk hg2; clear hm2 hg2))
      go_roundw
      case rel =>
        have e1 : (xs.map entry).take (k + 1) = (xs.map entry).take k ++ [(p.1, p.2.enc)] := by
          rw [take_snoc' _ k (by simpa using hlt) (⟨#[]⟩, .nilIface), HP.out]
          simp [List.getD_eq_getElem?_getD, List.getElem?_map, List.getElem?_eq_getElem hlt, entry]
        have hs := HB.out.size
        have hs1 := HB1.out.size
        simp only [World.size_alloc] at hs1
        exact ⟨k + 1, by go_num, by omega, ⟨by rw [e1]; exact HM2.out⟩, ⟨(below_step (below_alloc HB.out _) HB1.out).grown HG2.out (by omega) (fun j hj => by cases hj; exact Nat.le_refl _)⟩⟩
      case measure => simp [intOf]; omega
    · have hk' : k = xs.length := by omega
      subst hk'
      rw [List.take_of_length_le (by simp)] at HM
      go_wp2
      go_ret2
      exact ⟨rfl, HM.out, HB.out⟩

set_option maxHeartbeats 800000 in
theorem bindMapArgs_plain (asked : List ByteArray) (ps : List PI) (es : List (ByteArray × Value)) (b : Nat) (A : Option Addr) (c : Nat) (w : World) (hr : Kd.string.C w A asked.length asked) (hm : MapIs w b es)
    (hl : ps.length = asked.length) (ha : ∀ i, i < asked.length → look es (asked.getD i ⟨#[]⟩) = some (ps.getD i .nil).enc) (hlen : asked.length * 16 ≤ 140737488355328) :
    Calls Tryd.prog 67 #[.slice A asked.length c, .map (some b)] w fun e w' => ∃ v, e = .returned (.tuple #[v, .nilIface]) ∧ kPI.R 20 w' w.heap.size (fun _ => True) v ps ∧ Below w.heap.size w w' := by
  have hu := Tryd.underlying71
  go_enter Tryd.func67, Tryd.ntmps67
  have hmk := run_makeCap (P := Tryd.prog) 71 20 .nilIface 1 16 Tryd.underlying71 infoI asked.length (by omega) (by omega)
  simp only [Value.cells, Nat.mul_one] at hmk
  go_wp2
  go_loopw [6, 16] (fun out i wr => ∃ k : Nat, i = .int .i64 k ∧ k ≤ asked.length ∧ Aside0 (kPI.R 20 wr w.heap.size (fun _ => True) out (ps.take k)) ∧ Aside0 (Below w.heap.size w wr)) (fun _ i _ => asked.length - (intOf i).toNat)
  case atStart => exact ⟨0, rfl, Nat.zero_le _, ⟨R_cap kPI _ w _ _ (C_len hr).2 (by simp [kPI, Kd.scalar, size_madeCells])⟩, ⟨(Below.refl _ _).alloc (Nat.le_refl _) _⟩⟩
  case round =>
    clear hmk
    obtain ⟨k, rfl, hk, HO, HB⟩ := hrel
    have hl := (C_len hr).2
    by_cases hlt : k < asked.length
    · obtain ⟨ad, rfl, h0⟩ := at_S (Kd.C_below hr HB.out) (⟨#[]⟩ : ByteArray) k hlt
      have ha0 := ha k hlt
      obtain ⟨s, hs⟩ : ∃ s, s = asked.getD k ⟨#[]⟩ := ⟨_, rfl⟩
      obtain ⟨p, hp⟩ : ∃ p, p = ps.getD k .nil := ⟨_, rfl⟩
      rw [← hs] at h0 ha0
      rw [← hp] at ha0
      have HP := Aside0.mk hp
      have HA := Aside0.mk ha0
      have HM := Aside0.mk (hm.below HB.out)
      have HL := Aside0.mk hl
      clear hp hs ha0 ha hm
      go_wp2_with (first | (at_lookup; refine wpList_lookup_is rfl (.tmp 21) (.tmp 22) 77 9 20 rfl Tryd.underlying77 Tryd.underlying9 zeroI b _ s rfl rfl HM.out ?_; rw [HA.out, Option.getD_some, Option.isSome_some]) | (with_reducible refine wpList_buildOne rfl (.tmp 31) 71 20 .nilIface 16 rfl hu infoI rfl p.enc rfl p.enc_cells ?_) | (at_builtin; refine Kd.R_append kPI (w0 := w) w.heap.size rfl (.tmp 30) (.tmp 32) 71 20 .nilIface 16 rfl hu infoI rfl (by decide) (by omega) _ (ps.take k) p [p.enc] (fun _ => True) (fun _ => False) rfl rfl ?aP (fun _ hk => hk.elim) (fun _ _ => trivial) HO.out HB.out HB.out.size ?aL ?_))
      case aP => exact rfl
      case aL => rw [List.length_take]; omega
      intro v1 w2 hR hB2 _ _
      have e1 : ps.take (k + 1) = ps.take k ++ [p] := by rw [HP.out]; exact take_snoc' ps k (by omega) _
      rw [← e1] at hR
      have HO2 := Aside0.mk hR
      have HB2 := Aside0.mk hB2
      clear hR hB2 e1 HO HB h0 HP HA HM
      go_wp2
      go_roundw
      case rel => exact ⟨k + 1, by go_num, by omega, HO2, HB2⟩
      case measure => simp [intOf]; omega
    · have hk' : k = asked.length := by omega
      subst hk'
      rw [List.take_of_length_le (by omega)] at HO
      go_wp2
      go_ret2
      exact ⟨u6, rfl, HO.out, HB.out⟩

end Go.Proofs.YtnpjnekoifheoaaDoor
