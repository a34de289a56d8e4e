/- impl.goOf, impl.goList and impl.Expanded where values may be lists. -/
import Derived.Test.YtnpjnekoifheoaaDoorIn
namespace Go.Proofs.YtnpjnekoifheoaaDoor
open Go Go.RowKit Go.Proofs.YtnpjnekoifheoaaDoorW.PrintWords
set_option linter.unusedVariables false
set_option maxRecDepth 100000

/-- Values, plain ones and one list: its header is A0, n0, c0. -/
def kLV (A0 : Option Addr) (n0 c0 : Nat) : Kd (Option PI) where
  sz := 4
  E := []
  K := fun _ x cs => match x with
    | some p => ∃ A c, cs = [.int .i64 p.k, .int .i64 p.n, .string p.s, .slice A 0 c]
    | none => cs = [.int .i64 5, .int .i64 0, .string ⟨#[]⟩, .slice A0 n0 c0]
  M := fun _ _ _ x cs => match x with
    | some p => ∃ A c, cs = [.int .i64 p.k, .int .i64 p.n, .string p.s, .slice A 0 c]
    | none => cs = [.int .i64 5, .int .i64 0, .string ⟨#[]⟩, .slice A0 n0 c0]
  K_len := by
    rintro w (_ | p) cs h
    · rw [show cs = _ from h]; rfl
    · obtain ⟨A, c, rfl⟩ := h; rfl
  K_one := by
    rintro w (_ | p) cs h u hu
    · rw [show cs = _ from h] at hu
      simp at hu
      rcases hu with rfl | rfl | rfl | rfl <;> rfl
    · obtain ⟨A, c, rfl⟩ := h
      simp at hu
      rcases hu with rfl | rfl | rfl | rfl <;> rfl
  K_below := fun _ h => h
  K_of_M := fun h => h
  M_mono := fun _ h => h
  M_bound := fun h => h
  M_move := fun _ h => h
  M_lower := fun _ h => h

theorem at_LV {A0 : Option Addr} {n0 c0 : Nat} {w : World} {A : Option Addr} {n : Nat} {xs : List (Option PI)} (h : (kLV A0 n0 c0).C w A n xs) (i : Nat) (hi : i < n) : ∃ ad v0 v1 v2 v3, A = some ad ∧ w.cell? (ad.add (i * 4)) = some v0 ∧ w.cell? ⟨(ad.add (i * 4)).block, (ad.add (i * 4)).off + 1, none⟩ = some v1 ∧ w.cell? ⟨(ad.add (i * 4)).block, (ad.add (i * 4)).off + 2, none⟩ = some v2 ∧ w.cell? ⟨(ad.add (i * 4)).block, (ad.add (i * 4)).off + 3, none⟩ = some v3 ∧
    (kLV A0 n0 c0).K w (xs.getD i none) [v0, v1, v2, v3] := by
  obtain ⟨ad, c, e, hl, hK, hc0⟩ := Kd.C_get h none (i : Int) (by omega) (by omega)
  simp only [Int.toNat_natCast] at hK hc0
  have hc : ∀ j u, c[j]? = some u → w.cell? (ad.add (i * 4 + j)) = some u := hc0
  match c, hl with
  | [v0, v1, v2, v3], _ =>
    exact ⟨ad, v0, v1, v2, v3, e, hc 0 _ rfl, by rw [← add_field _ _ 1 (by omega)]; exact hc 1 _ rfl, by rw [← add_field _ _ 2 (by omega)]; exact hc 2 _ rfl, by rw [← add_field _ _ 3 (by omega)]; exact hc 3 _ rfl, hK⟩

theorem goOf_list (ps : List PI) (A0 : Option Addr) (c0 : Nat) (w : World) (hr : kPV.C w A0 ps.length ps) (hlen : ps.length * 16 ≤ 140737488355328) :
    Calls Tryd.prog 45 #[.agg #[.int .i64 5, .int .i64 0, .string ⟨#[]⟩, .slice A0 ps.length c0], .int .i64 0] w fun e w' => ∃ v, e = .returned (.tuple #[.iface 71 v, .bool true]) ∧ kPI.R 20 w' w.heap.size (fun _ => True) v ps ∧ Below w.heap.size w w' := by
  have HR := Aside0.mk hr
  clear hr
  go_enter Tryd.func45, Tryd.ntmps45
  go_wp2_with (go_at_call 35; refine (goList_plain ps A0 c0 _ _ (Kd.C_below HR.out (below_alloc (Below.refl _ _) _)) hlen).mono ?_; rintro e w1 ⟨v, rfl, h1, h2⟩; have H1 := Aside0.mk h1; have H2 := Aside0.mk h2; clear h1 h2)
  go_ret2
  exact ⟨v, rfl, Kd.R_lower H1.out (by simp), below_step (below_alloc (Below.refl _ _) _) H2.out⟩

def toIV (ps : List PI) : Option PI → IV
  | some p => .one p
  | none => .many ps

set_option maxHeartbeats 800000 in
theorem goList_lists (xs : List (Option PI)) (ps : List PI) (A0 : Option Addr) (c0 : Nat) (A : Option Addr) (c : Nat) (w : World) (hr : (kLV A0 ps.length c0).C w A xs.length xs) (h0 : kPV.C w A0 ps.length ps) (hlen : xs.length * 16 ≤ 140737488355328) (hlen2 : ps.length * 16 ≤ 140737488355328) :
    Calls Tryd.prog 35 #[.slice A xs.length c, .int .i64 0] w fun e w' => ∃ v, e = .returned (.tuple #[v, .bool true]) ∧ kIV.R 20 w' w.heap.size (fun _ => True) v (xs.map (toIV ps)) ∧ Below w.heap.size w w' := by
  have hu := Tryd.underlying71
  have hu2 := Tryd.underlying41
  obtain ⟨ys, hys⟩ : ∃ ys, ys = xs.map (toIV ps) := ⟨_, rfl⟩
  have hyl : ys.length = xs.length := by rw [hys, List.length_map]
  rw [← hys]
  have HY := Lib.hid hys
  have HYL := Lib.hid hyl
  clear hys hyl
  have HR0 := Aside0.mk h0
  have HR := Aside0.mk hr
  clear hr h0
  go_enter Tryd.func35, Tryd.ntmps35
  go_wp2
  go_loopw [6, 14] (fun out i wr => ∃ k : Nat, i = .int .i64 k ∧ k ≤ xs.length ∧ Aside0 (kIV.R 20 wr w.heap.size (fun _ => True) out (ys.take k)) ∧ Aside0 (Below w.heap.size w wr)) (fun _ i _ => xs.length - (intOf i).toNat)
  case atStart => exact ⟨0, rfl, Nat.zero_le _, ⟨R_empty kIV _ w⟩, ⟨(Below.refl _ _).alloc (Nat.le_refl _) _⟩⟩
  case round =>
    obtain ⟨k, rfl, hk, HO, HB⟩ := hrel
    have hl := (C_len HR.out).2
    by_cases hlt : k < xs.length
    · obtain ⟨ad, v0, v1, v2, v3, rfl, g0, g1, g2, g3, hK⟩ := at_LV (Kd.C_below HR.out HB.out) k hlt
      have e1 : ys.take (k + 1) = ys.take k ++ [toIV ps (xs.getD k none)] := by rw [HY.out, ← List.map_take, ← List.map_take, take_snoc' xs k hlt none, List.map_append]; rfl
      have E1 := Lib.hid e1
      clear e1
      generalize hx : xs.getD k none = x at hK E1
      clear hx
      rcases x with _ | p
      · have hK' : [v0, v1, v2, v3] = [Value.int .i64 5, .int .i64 0, .string ⟨#[]⟩, .slice A0 ps.length c0] := hK
        cases hK'
        clear hK
        have hs1 : w.heap.size ≤ wr.heap.size := HB.out.size
        go_wp2_with (first | (go_at_call 45; refine (goOf_list ps A0 c0 _ (Kd.C_below HR0.out (below_alloc HB.out _)) hlen2).mono ?_; rintro e w1 ⟨v, rfl, h1, h2⟩; have H1 := Aside0.mk h1; have H2 := Aside0.mk h2; clear h1 h2) | (with_reducible refine wpList_buildOne rfl (.tmp 27) 71 20 .nilIface 16 rfl hu infoI rfl (.iface 71 v) rfl rfl ?_) | (at_builtin; refine Kd.R_append kIV (w0 := w) w.heap.size rfl (.tmp 26) (.tmp 28) 71 20 .nilIface 16 rfl hu infoI rfl (by decide) (by omega) _ (ys.take k) (.many ps) [.iface 71 v] (fun _ => True) (fun q => wr.heap.size ≤ q) rfl rfl ?aP ?aK (fun _ _ => trivial) ?aO ?aB ?aS ?aL ?_))
        case aP => exact ⟨v, rfl, v, rfl, Kd.R_lower (Kd.R_mono (Kd.R_bound H1.out) (fun q hq => by have := hq.2.1; simp at this; omega)) (by simp; omega)⟩
        case aK =>
          intro q hq he
          obtain ⟨inner, ho⟩ := Kd.R_own HO.out
          have := own_lt ho q he.symm
          omega
        case aO => exact Kd.R_below (Kd.R_below HO.out (below_alloc (Below.refl _ _) _)) H2.out
        case aB => exact below_step (below_alloc HB.out _) H2.out
        case aS => have := H2.out.size; simp at this; omega
        case aL => rw [List.length_take, HYL.out]; omega
        intro v1 w2 hR hB2 _ _
        have hR' := E1.out ▸ hR
        have HO2 := Aside0.mk hR'
        have HB2 := Aside0.mk hB2
        clear hR hR' hB2 HO HB H1 H2 g0 g1 g2 g3
        go_wp2
        go_roundw
        case rel => exact ⟨k + 1, by go_num, by omega, HO2, HB2⟩
        case measure => simp [intOf]; omega
      · obtain ⟨A3, c3, hK'⟩ := hK
        cases hK'
        have hs1 : w.heap.size ≤ wr.heap.size := HB.out.size
        go_wp2_with (first | (go_at_call 45; refine (goOf_plain p _ _ _ _).mono ?_; rintro e w1 ⟨rfl, h2⟩; have H2 := Aside0.mk h2; clear h2) | (with_reducible refine wpList_buildOne rfl (.tmp 27) 71 20 .nilIface 16 rfl hu infoI rfl p.enc rfl p.enc_cells ?_) | (at_builtin; refine Kd.R_append kIV (w0 := w) w.heap.size rfl (.tmp 26) (.tmp 28) 71 20 .nilIface 16 rfl hu infoI rfl (by decide) (by omega) _ (ys.take k) (.one p) [p.enc] (fun _ => True) (fun q => False) rfl rfl rfl (fun _ h => h.elim) (fun _ _ => trivial) ?aO ?aB ?aS ?aL ?_))
        case aO => exact Kd.R_below (Kd.R_below HO.out (below_alloc (Below.refl _ _) _)) H2.out
        case aB => exact below_step (below_alloc HB.out _) H2.out
        case aS => have := H2.out.size; simp at this; omega
        case aL => rw [List.length_take, HYL.out]; omega
        intro v1 w2 hR hB2 _ _
        have hR' := E1.out ▸ hR
        have HO2 := Aside0.mk hR'
        have HB2 := Aside0.mk hB2
        clear hR hR' hB2 HO HB H2 g0 g1 g2 g3
        go_wp2
        go_roundw
        case rel => exact ⟨k + 1, by go_num, by omega, HO2, HB2⟩
        case measure => simp [intOf]; omega
    · have hk' : k = xs.length := by omega
      subst hk'
      rw [← HYL.out, List.take_length] at HO
      go_wp2
      go_ret2
      exact ⟨u6, rfl, HO.out, HB.out⟩

end Go.Proofs.YtnpjnekoifheoaaDoor
