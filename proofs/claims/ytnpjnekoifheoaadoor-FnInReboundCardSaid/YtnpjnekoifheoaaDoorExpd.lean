/- impl.Expanded where one value is a list. -/
import Derived.Test.YtnpjnekoifheoaaDoorExpanded
namespace Go.Proofs.YtnpjnekoifheoaaDoor
open Go Go.RowKit Go.Proofs.YtnpjnekoifheoaaDoorW.PrintWords
set_option linter.unusedVariables false
set_option maxRecDepth 100000

theorem Expanded_calls (q : ByteArray) (xs : List (Option PI)) (ps : List PI) (A0 : Option Addr) (c0 : Nat) (A : Option Addr) (c : Nat) (w : World) (hr : (kLV A0 ps.length c0).C w A xs.length xs) (h0 : kPV.C w A0 ps.length ps) (hn : xs.length ≤ 32) (hps : 0 < ps.length) (hn2 : ps.length ≤ 1000)
    (hnone : none ∈ xs) (hq : q.size ≤ 100000) (hcount : q.data.toList.count 63 = xs.length) (hout : (expand q.data.toList (xs.map (toIV ps))).length ≤ 10000000) :
    Calls Tryd.prog 20 #[.string q, .slice A xs.length c] w fun e w' => ∃ v, e = .returned (.tuple #[.string ⟨(expand q.data.toList (xs.map (toIV ps))).toArray⟩, v, .bool true]) ∧ kPV.R 41 w' w.heap.size (fun _ => True) v ((xs.map (toIV ps)).flatMap IV.flat) ∧ Below w.heap.size w w' := by
  obtain ⟨ys, hys⟩ : ∃ ys, ys = xs.map (toIV ps) := ⟨_, rfl⟩
  have hyl : ys.length = xs.length := by rw [hys, List.length_map]
  have hE : ∀ i l, ys.getD i (.one .nil) = .many l → 0 < l.length := by
    intro i l h
    rw [hys, List.getD_eq_getElem?_getD, List.getElem?_map] at h
    cases hx : xs[i]? with
    | none => simp [hx] at h
    | some x =>
      rcases x with _ | p
      · simp [hx, toIV] at h
        subst h
        exact hps
      · simp [hx, toIV] at h
  have hA : anyN ys ys.length = true := by
    unfold anyN
    rw [List.take_length, hys, List.any_map]
    exact List.any_eq_true.2 ⟨none, hnone, rfl⟩
  have hF : (ys.flatMap IV.flat).length ≤ 1000 * 32 := by
    have : ∀ zs : List (Option PI), ((zs.map (toIV ps)).flatMap IV.flat).length ≤ 1000 * zs.length := by
      intro zs
      induction zs with
      | nil => simp
      | cons z zs ih =>
        rw [List.map_cons, List.flatMap_cons, List.length_append, List.length_cons]
        have : (toIV ps z).flat.length ≤ 1000 := by
          rcases z with _ | p
          · exact hn2
          · simp [toIV, IV.flat]
        omega
    have h1 := this xs
    rw [← hys] at h1
    omega
  have hF2 : flatN ys ys.length ≤ 100000 := by unfold flatN; rw [List.take_length]; omega
  rw [← hys] at hout ⊢
  obtain ⟨fl, hfl⟩ : ∃ fl, fl = ys.flatMap IV.flat := ⟨_, rfl⟩
  rw [← hfl] at hF ⊢
  have HFL := Lib.hid hfl
  have HF := Lib.hid hF
  have HF2 := Lib.hid hF2
  have HA := Lib.hid hA
  have HE := Lib.hid hE
  have HY := Lib.hid hys
  have HYL := Lib.hid hyl
  have HO := Lib.hid hout
  have HC := Lib.hid hcount
  have HR := Aside0.mk hr
  have HR0 := Aside0.mk h0
  clear hfl hr h0 hys hyl hE hA hF hF2 hout hcount hnone
  go_enter Tryd.func20, Tryd.ntmps20
  go_wp2_with (first | (go_at_call 35; refine (goList_lists xs ps A0 c0 A c _ HR.out HR0.out (by omega) (by omega)).mono ?_; rintro e w1 ⟨v, rfl, h1, h2⟩; rw [← HY.out] at h1; obtain ⟨C, f, rfl, hle, hC⟩ := Kd.R_reads h1; have H1 := Aside0.mk hC; have H2 := Aside0.mk h2; clear h1 h2 hC) | (go_at_call 36; refine (In_calls q ys C f _ H1.out (by rw [HYL.out]; exact hn) HE.out HF2.out HA.out hq (by rw [HYL.out]; exact HC.out) HO.out).mono ?_; rintro e w2 ⟨v2, he, h1, h2⟩; rw [← HFL.out] at h1; obtain ⟨D, g, hv2, hle2, hD⟩ := Kd.R_reads h1; generalize hout : (⟨(expand q.data.toList ys).toArray⟩ : ByteArray) = out at he; subst hv2; subst he; have H3 := Aside0.mk hD; have H4 := Aside0.mk h2; have HOUT := Lib.hid hout; clear h1 h2 hD hout) | (go_at_call 37; refine (valuesOf_plain fl _ _ _ H3.out (by have := HF.out; omega)).mono ?_; rintro e w3 ⟨v3, rfl, h1, h2⟩; have H5 := Aside0.mk h1; have H6 := Aside0.mk h2; clear h1 h2))
  refine bodyPost_ret (v := .tuple #[.string out, v3, .bool true]) (by simp [results, Tryd.results20, go_sem]) rfl ⟨v3, by rw [HOUT.out], Kd.R_lower H5.out ?_, below_step (below_step H2.out H4.out) H6.out⟩
  exact Nat.le_trans H2.out.size H4.out.size

end Go.Proofs.YtnpjnekoifheoaaDoor
