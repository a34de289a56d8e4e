/- The walk of laws.FnRowsText. -/
import Derived.Test.YtnpjnekoifheoaaDoorRowsJ
import Derived.Test.YtnpjnekoifheoaaDoorEqual
namespace Go.Proofs.YtnpjnekoifheoaaDoor
open Go Go.RowKit Go.Proofs.YtnpjnekoifheoaaDoorW.PrintWords
set_option linter.unusedVariables false
set_option maxRecDepth 100000

theorem bare_128 {s : ByteArray} (h : BareOk s) : ∀ c ∈ s.data.toList, c < 128 := by
  intro b hm
  obtain ⟨i, hi, he⟩ := List.getElem_of_mem hm
  have h1 := h.1 i (by rw [Lib.size_eq]; exact hi)
  have e : (s.data.toList[i]'hi) = s[i]'(by rw [Lib.size_eq]; exact hi) := rfl
  rw [← e, he] at h1
  have h2 := h1.2.1
  rw [UInt8.lt_iff_toNat_lt]
  show b.toNat < 128
  omega
set_option maxRecDepth 100000 in
set_option maxHeartbeats 8000000 in
theorem rowsText_walk (names : List ByteArray) (N : Option Addr) (cn : Nat) (vss : List (List SV)) (V : Option Addr) (cv : Nat) (bh : ByteArray) (w : World) (hN : Kd.string.C w N names.length names) (hNs : ∀ s ∈ names, s.size ≤ 9223372036854775807) (hV : kVV.C w V vss.length vss) (hb : bh.size ≤ maxLen) :
    Calls Tryd.prog 11 #[.slice N names.length cn, .slice V vss.length cv, .string bh] w fun e w' => e = .returned (.bool true) ∧ Below w.heap.size w w' := by
  have HN := Aside0.mk hN
  have HNs := Aside0.mk hNs
  have HV := Aside0.mk hV
  unfold maxLen at hb
  have e32 : (⟨#[32]⟩ : ByteArray).size = 1 := rfl
  clear hN hNs hV
  go_enter Tryd.func11, Tryd.ntmps11
  go_wp2_with (first
    | (go_at_call 15; refine (zzFits2_any names _ _ _ HN.out).mono ?_; rintro e wz ⟨⟨b, rfl, _⟩, rfl⟩; cases b)
    | (go_at_call 28; refine (rows9_any names N cn vss V cv _ HN.out HNs.out HV.out (by omega)).mono ?_; rintro e w1 ⟨⟨v, b, rfl, hb1⟩, h2⟩; have HR := Aside0.mk hb1; have HB1 := Aside0.mk h2; clear hb1 h2; cases b; rotate_left 1; (obtain ⟨pss, hok, hRR⟩ := HR.out rfl; obtain ⟨RA, rc, rfl, hle, hRC⟩ := Kd.R_reads hRR; rw [rowsOf_len, hok.len] at hRC ⊢; have HOK := Aside0.mk hok; have HRC := Aside0.mk hRC; clear hok hRR hle hRC HR))
    | (go_at_call 13; refine (bare9_any [bh] _ _ _ (reads_lit1 (Kd.string.K _) _ w1.heap.size 9 [.string bh] bh (blk_new _ _) rfl)).mono ?_; rintro e w3 ⟨⟨b', rfl, hb3⟩, rfl⟩; have HBR := Aside0.mk hb3; clear hb3; cases b'))
  all_goals first | (go_ret; exact ⟨rfl, by first | exact Below.refl _ _ | exact HB1.out | exact below_alloc HB1.out _⟩) | skip
  have hbh : BareOk bh := (HBR.out (by first | rfl | trivial)).2 0 (by simp)
  have hbz := hbh.2
  obtain ⟨bb, hbb⟩ : ∃ bb : ByteArray, bb = ⟨#[32]⟩ ++ bh := ⟨_, rfl⟩
  have hbbl : bb.data.toList = 32 :: bh.data.toList := by rw [hbb]; simp
  have hbbz : bb.size ≤ 101 := by rw [hbb, ByteArray.size_append, e32]; omega
  have hbbz2 : bb.data.toList.length ≤ 101 := by rw [← Lib.size_eq]; exact hbbz
  have hbb58 : (58 : UInt8) ∉ bb.data.toList := by
    rw [hbbl]
    simp only [List.mem_cons, not_or]
    exact ⟨by decide, bare_58 hbh⟩
  have hbb128 : ∀ c ∈ bb.data.toList, c < 128 := by
    rw [hbbl]
    intro c hc
    rcases List.mem_cons.1 hc with rfl | hc
    · decide
    · exact bare_128 hbh c hc
  have hok := HOK.out
  have hH2 : Below w.heap.size w (w1.alloc (.cells #[.string bh] 9)) := below_alloc HB1.out _
  have hRC2 := Kd.C_below HRC.out (below_alloc (Below.refl w1.heap.size w1) (.cells #[.string bh] 9))
  generalize w1.alloc (.cells #[.string bh] 9) = w2 at hH2 hRC2 ⊢
  have H2 := Aside0.mk hH2
  have HRC2 := Aside0.mk hRC2
  have hins := insert9_is names N cn vss.length ⟨#[32, 86, 65, 76, 85, 69, 83, 32]⟩ bb w2 (Kd.C_below HN.out hH2) hok.ok (by have := hok.n6; omega) (by have := hok.v8; omega) (by decide) (by omega)
  rw [hbb] at hins
  refine hins.mono ?_
  rintro e w3 ⟨⟨T, X, rfl, hT, hX, hTz, hXz⟩, h3⟩
  rw [← hbb] at hT hX
  have H3 := Aside0.mk (below_step hH2 h3)
  have HRC3 := Aside0.mk (Kd.C_below hRC2 h3)
  obtain ⟨fl, hfl⟩ : ∃ fl, fl = pss.flatten := ⟨_, rfl⟩
  have hnm := named_rows_ok T X names pss valuesW bb.data.toList RA rc w3 (by omega) hT hok.n0 hok.n6 hok.ok hok.diff (by decide) hbb58 (by rw [hok.len]; exact hok.v0) (by rw [hok.len]; exact hok.v8) (fun i hi => hok.wide i (by rw [← hok.len]; exact hi)) (by rw [hok.len]; exact HRC3.out)
    (fun h => ba_ext (by rw [hX, ← hok.len, h]; exact want_one _ _ _))
    (fun h W => by
      refine (fix_values names.length pss.length bb.data.toList (by have := hok.n6; omega) (by omega) (by have := hok.v8; rw [hok.len]; omega) (by omega) hbb128 W).mono ?_
      rintro e w' ⟨rfl, h'⟩
      refine ⟨congrArg (fun x : ByteArray => Ending.returned (.string x)) (ba_ext ?_), h'⟩
      rw [hX, ← hok.len])
  rw [hok.len, ← hfl] at hnm
  have hall := fun W (h : Below w.heap.size w W) => all9_is vss pss V cv W (Kd.C_below HV.out h) hok.len hok.plain (fun i hi => by rw [hok.wide i (by rw [← hok.len]; exact hi)]; have := hok.n6; omega) (by have := hok.v8; omega)
  rw [← hfl] at hall
  have HNM := Aside0.mk hnm
  have HALL := Aside0.mk hall
  clear hins hnm hall hT hX hTz hXz h3 hbb hbbl hbbz hbbz2 hbb58 hbb128 hbh hbz hok hfl hRC2 hH2 HBR
  go_wp2_with (first
    | (go_at_call 30; refine HNM.out.mono ?_; rintro e w4 ⟨⟨v4, rfl, hv4⟩, h4⟩; obtain ⟨D4, c4, rfl, hle4, hC4⟩ := Kd.R_reads hv4; have HL4 := Aside0.mk hC4; have H4 := Aside0.mk (below_step H3.out h4); clear hv4 hle4 hC4 h4)
    | (go_at_call 32; refine (HALL.out _ H4.out).mono ?_; rintro e w5 ⟨⟨v5, rfl, hv5⟩, h5⟩; obtain ⟨D5, c5, rfl, hle5, hC5⟩ := Kd.R_reads hv5; have HL5 := Aside0.mk hC5; have H5 := Aside0.mk (below_step H4.out h5); have HL45 := Aside0.mk (Kd.C_below HL4.out h5); clear hv5 hle5 hC5 h5)
    | (go_at_call 31; refine (equalValues_plain fl D4 D5 c4 c5 _ HL45.out HL5.out).mono ?_; rintro e w6 ⟨rfl, h6⟩; have H6 := Aside0.mk (below_step H5.out h6); clear h6))
  go_ret
  exact ⟨rfl, H6.out⟩
end Go.Proofs.YtnpjnekoifheoaaDoor
