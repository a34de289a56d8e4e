/- The walk of laws.FnRowsOther. -/
import Derived.Test.YtnpjnekoifheoaaDoorRowsJ
import Derived.Test.YtnpjnekoifheoaaDoorEqual
namespace Go.Proofs.YtnpjnekoifheoaaDoor
open Go Go.RowKit Go.Proofs.YtnpjnekoifheoaaDoorW.PrintWords
set_option linter.unusedVariables false
set_option maxRecDepth 100000

theorem other_58 (q : Nat) : (58 : UInt8) ∉ otherW q := by
  match q with
  | 0 => decide
  | 1 => decide
  | 2 => decide
  | 3 => decide
  | _ + 4 => show (58 : UInt8) ∉ [32, 86, 65, 76, 85, 69, 32, 83, 32]; decide
/-- One of the five words. -/
def IsOther (W : ByteArray) : Prop := W.size ≤ 100 ∧ ∃ q, W.data.toList = otherW q
theorem insert9_other (names : List ByteArray) (N : Option Addr) (cn : Nat) (Wd : ByteArray) (hW : IsOther Wd) (w : World) (hN : Kd.string.C w N names.length names) (hOK : ∀ j, j < names.length → NameOk (names.getD j ⟨#[]⟩)) (h10 : names.length ≤ 10) :
    Calls Tryd.prog 29 #[.slice N names.length cn, .int .i64 1, .string Wd, .string ⟨#[]⟩] w fun e w' => (∃ (T X : ByteArray) (q : Nat), e = .returned (.tuple #[.string T, .string X]) ∧ T.data.toList = textL names names.length (otherW q) [] ∧ X.data.toList = boundL names.length (otherW q) [] ∧ T.size ≤ 10000) ∧ Below w.heap.size w w' := by
  obtain ⟨h1, q, hq⟩ := hW
  refine (insert9_is names N cn 1 Wd ⟨#[]⟩ w hN hOK h10 (by omega) h1 (by decide)).mono ?_
  rintro e w' ⟨⟨T, X, rfl, hT, hX, hTz, _⟩, hb⟩
  rw [hq] at hT hX
  exact ⟨⟨T, X, q, rfl, hT, by rw [want_one]; exact hX, hTz⟩, hb⟩
set_option maxRecDepth 100000 in
set_option maxHeartbeats 8000000 in
theorem rowsOther_walk (names : List ByteArray) (N : Option Addr) (cn : Nat) (vss : List (List SV)) (V : Option Addr) (cv : Nat) (a : Int) (w : World) (hN : Kd.string.C w N names.length names) (hNs : ∀ s ∈ names, s.size ≤ 9223372036854775807) (hV : kVV.C w V vss.length vss) (ha : (Lit.int .u8 a).wf = true) :
    Calls Tryd.prog 10 #[.slice N names.length cn, .slice V vss.length cv, .int .u8 a] w fun e w' => e = .returned (.bool true) ∧ Below w.heap.size w w' := by
  have hmin : IntKind.u8.min = 0 := by decide
  have hmax : IntKind.u8.max = 255 := by decide
  have h : 0 ≤ a ∧ a ≤ 255 := by
    simp [Lit.wf] at ha
    omega
  obtain ⟨h0, h1⟩ := h
  have HN := Aside0.mk hN
  have HNs := Aside0.mk hNs
  have HV := Aside0.mk hV
  have h5 : a % 5 = 0 ∨ a % 5 = 1 ∨ a % 5 = 2 ∨ a % 5 = 3 ∨ a % 5 = 4 := by omega
  have w0 : IsOther ⟨#[32, 86, 65, 76, 85, 69, 32]⟩ := ⟨by decide, 0, rfl⟩
  have w1 : IsOther ⟨#[32]⟩ := ⟨by decide, 1, rfl⟩
  have w2 : IsOther ⟨#[32, 83, 69, 76, 69, 67, 84, 32]⟩ := ⟨by decide, 2, rfl⟩
  have w3 : IsOther ⟨#[32, 86, 65, 76, 85, 69, 83, 83, 32]⟩ := ⟨by decide, 3, rfl⟩
  have w4 : IsOther ⟨#[32, 86, 65, 76, 85, 69, 32, 83, 32]⟩ := ⟨by decide, 4, rfl⟩
  have HW := Aside0.mk (show _ ∧ _ ∧ _ ∧ _ ∧ _ from ⟨w0, w1, w2, w3, w4⟩)
  clear hN hNs hV ha hmin hmax w0 w1 w2 w3 w4
  go_enter Tryd.func10, Tryd.ntmps10
  rcases h5 with h5 | h5 | h5 | h5 | h5
  all_goals
    go_wp2_with (first
      | (go_at_call 15; refine (zzFits2_any names _ _ _ HN.out).mono ?_; rintro e wz ⟨⟨b, rfl, _⟩, rfl⟩; cases b)
      | (go_at_call 28; refine (rows9_any names N cn vss V cv _ HN.out HNs.out HV.out (by omega)).mono ?_; rintro e w1 ⟨⟨v, b, rfl, hb1⟩, h2⟩; have HR := Aside0.mk hb1; have HB1 := Aside0.mk h2; clear hb1 h2; cases b; rotate_left 1; (obtain ⟨pss, hok, hRR⟩ := HR.out rfl; obtain ⟨RA, rc, rfl, hle, hRC⟩ := Kd.R_reads hRR; rw [rowsOf_len, hok.len] at hRC ⊢; have HOK := Aside0.mk hok; have HRC := Aside0.mk hRC; clear hok hRR hle hRC HR)))
  all_goals first | (go_ret; exact ⟨rfl, by first | exact Below.refl _ _ | exact HB1.out | exact below_alloc HB1.out _⟩) | skip
  all_goals
    have hok := HOK.out
    have HX := Aside0.mk (fun (Wd : ByteArray) (hWd : IsOther Wd) (W : World) (hB : Below w.heap.size w W) => insert9_other names N cn Wd hWd W (Kd.C_below HN.out hB) hok.ok (by have := hok.n6; omega))
    have HRC2 := Aside0.mk (fun (W : World) (h : Below w1.heap.size w1 W) => Kd.C_below HRC.out h)
    refine (HX.out _ (by first | exact HW.out.1 | exact HW.out.2.1 | exact HW.out.2.2.1 | exact HW.out.2.2.2.1 | exact HW.out.2.2.2.2) _ (below_alloc HB1.out _)).mono ?_
    rintro e w3 ⟨⟨T, X, q, rfl, hT, hX, hTz⟩, h3⟩
    have h31 := below_step (below_alloc (Below.refl w1.heap.size w1) _) h3
    have H3 := Aside0.mk (below_step HB1.out h31)
    have hRC3 := HRC2.out _ h31
    obtain ⟨fl, hfl⟩ : ∃ fl, fl = pss.flatten := ⟨_, rfl⟩
    have hXe : (⟨(boundL names.length (otherW q) []).toArray⟩ : ByteArray) = X := ba_ext (by rw [hX])
    have hnm := named_rows_ok T X names pss (otherW q) [] RA rc w3 (by omega) hT hok.n0 hok.n6 hok.ok hok.diff (other_58 q) (by simp) (by rw [hok.len]; exact hok.v0) (by rw [hok.len]; exact hok.v8) (fun i hi => hok.wide i (by rw [← hok.len]; exact hi)) (by rw [hok.len]; exact hRC3)
      (fun h => hXe)
      (fun h W => by
        have hf := fix_other names.length q pss.length (by have := hok.n6; omega) W
        rwa [hXe] at hf ⊢)
    rw [hok.len, ← hfl] at hnm
    have hall := fun W (h : Below w.heap.size w W) => all9_is vss pss V cv W (Kd.C_below HV.out h) hok.len hok.plain (fun i hi => by rw [hok.wide i (by rw [← hok.len]; exact hi)]; have := hok.n6; omega) (by have := hok.v8; omega)
    rw [← hfl] at hall
    have HNM := Aside0.mk hnm
    have HALL := Aside0.mk hall
    clear hnm hall hT hX hTz h3 hok hfl hRC3 h31 hXe HX HRC2
    go_wp2_with (first
      | (go_at_call 30; refine HNM.out.mono ?_; rintro e w4 ⟨⟨v4, rfl, hv4⟩, h4⟩; obtain ⟨D4, c4, rfl, hle4, hC4⟩ := Kd.R_reads hv4; have HL4 := Aside0.mk hC4; have H4 := Aside0.mk (below_step H3.out h4); clear hv4 hle4 hC4 h4)
      | (go_at_call 32; refine (HALL.out _ H4.out).mono ?_; rintro e w5 ⟨⟨v5, rfl, hv5⟩, h5⟩; obtain ⟨D5, c5, rfl, hle5, hC5⟩ := Kd.R_reads hv5; have HL5 := Aside0.mk hC5; have H5 := Aside0.mk (below_step H4.out h5); have HL45 := Aside0.mk (Kd.C_below HL4.out h5); clear hv5 hle5 hC5 h5)
      | (go_at_call 31; refine (equalValues_plain fl D4 D5 c4 c5 _ HL45.out HL5.out).mono ?_; rintro e w6 ⟨rfl, h6⟩; have H6 := Aside0.mk (below_step H5.out h6); clear h6))
    go_ret
    exact ⟨rfl, H6.out⟩
end Go.Proofs.YtnpjnekoifheoaaDoor
