/- The walk of laws.FnRebindStay. -/
import Derived.Test.YtklnlfmopmlmlaaDoorRebindK
import Derived.Test.YtklnlfmopmlmlaaDoorBetween
namespace Go.Proofs.YtklnlfmopmlmlaaDoor
open Go Go.RowKit Go.Proofs.YtklnlfmopmlmlaaDoorW.PrintWords
set_option linter.unusedVariables false

theorem bare_sz {ss : List ByteArray} (h : AllBare ss ss.length) (j : Nat) : (ss.getD j ⟨#[]⟩).size ≤ 100 := by
  by_cases hj : j < ss.length
  · exact (h j hj).2
  · rw [List.getD_eq_getElem?_getD, List.getElem?_eq_none (by omega)]
    decide
theorem rb_one : (⟨(rb [64, 112] (⟨#[63]⟩ : ByteArray).data.toList 0).toArray⟩ : ByteArray) = ⟨#[64, 112, 49]⟩ := by
  have h : Lib.itoa ((0 + 1 : Nat) : Int) = [49] := by simp [Lib.itoa, Lib.decDigits]
  show (⟨(rb [64, 112] [63] 0).toArray⟩ : ByteArray) = _
  rw [rb, if_pos rfl, h]
  rfl
theorem rb_len : (rb [64, 112] (⟨#[63]⟩ : ByteArray).data.toList 0).length ≤ 10000000 := by
  have h := congrArg (fun s : ByteArray => s.data.toList.length) rb_one
  simp only at h
  rw [h]
  decide
set_option maxHeartbeats 1000000 in
theorem rebindStay_walk (ss : List ByteArray) (A : Option Addr) (c : Nat) (w : World) (hr : Kd.string.C w A ss.length ss) (htab : Lib.TabIs Tryd.prog w "internal/strconv.uint64pow10" .u64 Lib.pow10Tab) :
    Calls Tryd.prog 3 #[.slice A ss.length c] w fun e w' => e = .returned (.bool true) ∧ Below w.heap.size w w' := by
  have HR := Aside0.mk hr
  have HT := Aside0.mk (Rebound_4 ⟨#[63]⟩ w (by decide) rb_len (Lib.tabBelow_of_tabIs htab))
  rw [rb_one] at HT
  clear hr htab
  go_enter Tryd.func3, Tryd.ntmps3
  go_wp2_with (first | (go_at_call 10; refine (zzFits2_any ss _ _ _ HR.out).mono ?_; rintro e w1 ⟨⟨b, rfl, _⟩, rfl⟩; cases b) | (go_at_call 11; refine (bare9_any ss _ _ _ HR.out).mono ?_; rintro e w1 ⟨⟨b, rfl, hb⟩, rfl⟩; have HBR := Aside0.mk hb; clear hb; cases b) | (go_at_call 12; refine (between9_question ss _ _ _ HR.out (HBR.out (by first | rfl | trivial)).1 (fun j => bare_sz (HBR.out (by first | rfl | trivial)).2 j)).mono ?_; rintro e w1 ⟨⟨S, rfl, hS, hz⟩, rfl⟩; clear hS hz) | (go_at_call 14; first | (have hz := HDONE; clear hz; refine HT.out.mono ?_; rintro e w1 ⟨rfl, h1⟩; have H1 := Aside0.mk h1; clear h1) | (have hz := HONE; clear hz; refine (Rebound_stay 0 (.inl rfl) _ _).mono ?_; rintro e w1 ⟨rfl, rfl⟩; have HDONE := trivial) | (refine (Rebound_stay 1 (.inr rfl) _ _).mono ?_; rintro e w1 ⟨rfl, rfl⟩; have HONE := trivial)))
  all_goals (go_ret; exact ⟨rfl, by first | exact Below.refl _ _ | exact H1.out⟩)
end Go.Proofs.YtklnlfmopmlmlaaDoor
