/- The walk of laws.FnNameAssign. -/
import Derived.Test.YtnpjnekoifheoaaDoorTold
import Derived.Test.YtnpjnekoifheoaaDoorNameLaws
namespace Go.Proofs.YtnpjnekoifheoaaDoor
open Go Go.RowKit Go.Proofs.YtnpjnekoifheoaaDoorW.PrintWords
set_option linter.unusedVariables false
set_option maxRecDepth 100000

theorem ba_size (s t : ByteArray) : (s ++ t).size = s.size + t.size := by simp
set_option maxHeartbeats 4000000 in
theorem nameAssign_walk (a : Int) (x y s : ByteArray) (w : World) (ha : (Lit.int .u8 a).wf = true) (hx : x.size ≤ maxLen) (hy : y.size ≤ maxLen) (hs : s.size ≤ maxLen) :
    Calls Tryd.prog 3 #[.int .u8 a, .string x, .string y, .string s] w fun e w' => e = .returned (.bool true) ∧ Below w.heap.size w w' := by
  have h : 0 ≤ a ∧ a ≤ 255 := by
    simp [Lit.wf] at ha
    have hmin : IntKind.u8.min = 0 := by decide
    have hmax : IntKind.u8.max = 255 := by decide
    omega
  obtain ⟨h0, h1⟩ := h
  unfold maxLen at hx hy hs
  clear ha
  go_enter Tryd.func3, Tryd.ntmps3
  go_wp2_with (first | (go_at_call 12; refine (named9_any s _ hs).mono ?_; rintro e w1 ⟨⟨b, rfl, hb⟩, rfl⟩; have HN := Aside0.mk hb; clear hb; cases b) | (go_at_call 13; refine (bare9_any [x, y] _ _ _ (reads_lit2 Kd.string _ w.heap.size 9 [.string x] [.string y] x y (blk_new _ _) rfl rfl)).mono ?_; rintro e w3 ⟨⟨b', rfl, hb3⟩, rfl⟩; have HBR := Aside0.mk hb3; clear hb3; cases b'))
  all_goals first | (go_ret; exact ⟨rfl, by first | exact Below.refl _ _ | exact below_alloc (Below.refl _ _) _⟩) | skip
  have HNM := Aside0.mk (HN.out (by first | rfl | trivial))
  have HX := Aside0.mk ((HBR.out (by first | rfl | trivial)).2 0 (by simp))
  have HY := Aside0.mk ((HBR.out (by first | rfl | trivial)).2 1 (by simp))
  have z1 := HNM.out.2.2.1
  have z2 : x.size ≤ 100 := HX.out.2
  have z3 : y.size ≤ 100 := HY.out.2
  have e1 : (⟨#[58, 61]⟩ : ByteArray).size = 2 := rfl
  have e2 : (⟨#[58]⟩ : ByteArray).size = 1 := rfl
  have e3 : (⟨#[32, 58, 61, 32]⟩ : ByteArray).size = 4 := rfl
  have e4 : (⟨#[]⟩ : ByteArray).size = 0 := rfl
  have t1 := fun W => told9_true a (x ++ ⟨#[58, 61]⟩ ++ y ++ ⟨#[58]⟩ ++ s) (x ++ ⟨#[58, 61]⟩ ++ y) s ⟨#[]⟩ W h0 h1 (by simp only [ba_size, e1, e2]; omega) (by simp only [ba_size, e1]; omega) (by omega) (by rw [e4]; omega) (count_1 HX.out HY.out HNM.out) (assign_1 (a % 5) HX.out HY.out HNM.out)
  have t2 := fun W => told9_true a (⟨#[58]⟩ ++ s ++ ⟨#[32, 58, 61, 32]⟩ ++ y) ⟨#[]⟩ s (⟨#[32, 58, 61, 32]⟩ ++ y) W h0 h1 (by simp only [ba_size, e2, e3]; omega) (by rw [e4]; omega) (by omega) (by simp only [ba_size, e3]; omega) (count_2 HY.out HNM.out) (assign_2 (a % 5) HY.out HNM.out)
  have T1 := Aside0.mk t1
  have T2 := Aside0.mk t2
  clear e1 e2 e3 e4 t1 t2 HN HBR
  go_wp2_with (go_at_call 14; first | (have hz := HD; clear hz; refine (T2.out _).mono ?_; rintro e w6 ⟨rfl, h2⟩; have H6 := Aside0.mk h2; clear h2) | (refine (T1.out _).mono ?_; rintro e w5 ⟨rfl, h2⟩; have H5 := Aside0.mk h2; have HD := trivial; clear h2))
  go_ret
  exact ⟨rfl, below_step (below_step (below_alloc (Below.refl _ _) _) H5.out) H6.out⟩
end Go.Proofs.YtnpjnekoifheoaaDoor
