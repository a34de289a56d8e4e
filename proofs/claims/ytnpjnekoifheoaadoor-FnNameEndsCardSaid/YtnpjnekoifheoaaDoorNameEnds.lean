/- The walk of laws.FnNameEnds. -/
import Derived.Test.YtnpjnekoifheoaaDoorNameAssign
namespace Go.Proofs.YtnpjnekoifheoaaDoor
open Go Go.RowKit Go.Proofs.YtnpjnekoifheoaaDoorW.PrintWords
set_option linter.unusedVariables false
set_option maxRecDepth 100000

/-- A sign of ASCII that ends a name. -/
def EndsB (d : Int) : Prop := 0 ≤ d ∧ d < 128 ∧ ¬ d = 58 ∧ ¬ d = 95 ∧ ¬ d = 46 ∧ ¬ (48 ≤ d ∧ d ≤ 57) ∧ ¬ (97 ≤ d ∧ d ≤ 122) ∧ ¬ (65 ≤ d ∧ d ≤ 90)
theorem ends_byte {d : Int} (h : EndsB d) : ∃ c : UInt8, (c.toNat : Int) = d ∧ alw c = false ∧ c ≠ 95 ∧ c ≠ 46 ∧ c ≠ 58 := by
  obtain ⟨h0, h1, h2, h3, h4, h5, h6, h7⟩ := h
  have e : ((UInt8.ofNat d.toNat).toNat : Int) = d := by
    simp
    omega
  refine ⟨UInt8.ofNat d.toNat, e, ?_, fun h => ?_, fun h => ?_, fun h => ?_⟩
  · unfold alw alwI
    rw [e]
    exact decide_eq_false (by omega)
  · rw [h] at e; exact h3 e.symm
  · rw [h] at e; exact h4 e.symm
  · rw [h] at e; exact h2 e.symm
theorem conv_sign (W : World) (d : Int) (c : UInt8) (hc : (c.toNat : Int) = d) :
    (convert 26 9 (.slice (some ⟨W.heap.size, 0, none⟩) 1 1)).run Tryd.prog (W.alloc (.cells #[.int .u8 d] 5)) = .ok (.string ⟨#[c]⟩) (W.alloc (.cells #[.int .u8 d] 5)) := by
  have e : #[Value.int .u8 d] = ([c].map encB).toArray := by simp [encB, hc]
  rw [e]
  exact convert_back (c := 1) (reads_B _ _ [c] (blk_new _ _) (by simp))
theorem ends_1 (k : Int) {s : ByteArray} {c : UInt8} (hs : NameOk s) (hc : alw c = false ∧ c ≠ 95 ∧ c ≠ 46 ∧ c ≠ 58) : crun k (⟨#[58]⟩ ++ s ++ ⟨#[c]⟩ ++ ⟨#[32, 120]⟩ : ByteArray).data.toList ⟨[], [], none⟩ = some ⟨(⟨#[]⟩ : ByteArray).data.toList ++ markL k 1 s.data.toList ++ (⟨#[c]⟩ ++ ⟨#[32, 120]⟩ : ByteArray).data.toList, [s], none⟩ := by
  have e : (⟨#[58]⟩ ++ s ++ ⟨#[c]⟩ ++ ⟨#[32, 120]⟩ : ByteArray).data.toList = 58 :: (s.data.toList ++ c :: [32, 120]) := by simp
  rw [e, crun_nameThen k hs c hc _ _ _ (.inr (by simp)), crun_all k _ _ _ (by decide)]
  simp
theorem ends_2 (k : Int) {s : ByteArray} {c : UInt8} (hs : NameOk s) (hc : alw c = false ∧ c ≠ 95 ∧ c ≠ 46 ∧ c ≠ 58) : crun k (⟨#[120, 32, 58]⟩ ++ s ++ ⟨#[c]⟩ ++ ⟨#[c]⟩ : ByteArray).data.toList ⟨[], [], none⟩ = some ⟨(⟨#[120, 32]⟩ : ByteArray).data.toList ++ markL k 1 s.data.toList ++ (⟨#[c]⟩ ++ ⟨#[c]⟩ : ByteArray).data.toList, [s], none⟩ := by
  have e : (⟨#[120, 32, 58]⟩ ++ s ++ ⟨#[c]⟩ ++ ⟨#[c]⟩ : ByteArray).data.toList = [120, 32] ++ 58 :: (s.data.toList ++ c :: [c]) := by simp
  have h58 : (58 : UInt8) ∉ [c] := by
    simp only [List.mem_singleton]
    exact fun h => hc.2.2.2 h.symm
  rw [e, crun_plain k _ _ _ _ (by decide), crun_nameThen k hs c hc _ _ _ (.inr (by simp)), crun_all k _ _ _ h58]
  simp
theorem ends_c1 {s : ByteArray} {c : UInt8} (hs : NameOk s) (hc : c ≠ 58) : (⟨#[58]⟩ ++ s ++ ⟨#[c]⟩ ++ ⟨#[32, 120]⟩ : ByteArray).data.toList.count 58 ≤ 90 := by
  simp [count_0 (nb_58 (name_split hs).1), hc]
theorem ends_c2 {s : ByteArray} {c : UInt8} (hs : NameOk s) (hc : c ≠ 58) : (⟨#[120, 32, 58]⟩ ++ s ++ ⟨#[c]⟩ ++ ⟨#[c]⟩ : ByteArray).data.toList.count 58 ≤ 90 := by
  simp [count_0 (nb_58 (name_split hs).1), hc]
set_option maxHeartbeats 4000000 in
theorem nameEnds_walk (a : Int) (s : ByteArray) (b : Int) (w : World) (ha : (Lit.int .u8 a).wf = true) (hs : s.size ≤ maxLen) (hb : (Lit.int .u8 b).wf = true) :
    Calls Tryd.prog 4 #[.int .u8 a, .string s, .int .u8 b] w fun e w' => e = .returned (.bool true) ∧ Below w.heap.size w w' := by
  have hmin : IntKind.u8.min = 0 := by decide
  have hmax : IntKind.u8.max = 255 := by decide
  have h : 0 ≤ a ∧ a ≤ 255 := by
    simp [Lit.wf] at ha
    omega
  have h' : 0 ≤ b ∧ b ≤ 255 := by
    simp [Lit.wf] at hb
    omega
  obtain ⟨h0, h1⟩ := h
  obtain ⟨b0, b1⟩ := h'
  unfold maxLen at hs
  have hu26 := Tryd.underlying26
  clear ha hb hmin hmax
  obtain ⟨d, hd⟩ : ∃ d, d = b % 128 := ⟨_, rfl⟩
  have d0 : 0 ≤ d := by omega
  have d1 : d < 128 := by omega
  have hbd : b % 128 = d := hd.symm
  by_cases hE : EndsB d
  · obtain ⟨c, hc, hcc⟩ := ends_byte hE
    have hcv := fun W => conv_sign W d c hc
    have HCC := Lib.hid hcc
    obtain ⟨_, _, n1, n2, n3, n4, n5, n6⟩ := hE
    have m1 : (d == 58) = false := by simpa using n1
    have m2 : (d == 95) = false := by simpa using n2
    have m3 : (d == 46) = false := by simpa using n3
    have hor : (d < 48 ∧ d < 97 ∧ d < 65) ∨ (57 < d ∧ d < 97 ∧ d < 65) ∨ (57 < d ∧ d < 97 ∧ 90 < d) ∨ (57 < d ∧ 122 < d ∧ 90 < d) := by omega
    clear hc hcc hd n1 n2 n3 n4 n5 n6
    rcases hor with ⟨q1, q2, q3⟩ | ⟨q1, q2, q3⟩ | ⟨q1, q2, q3⟩ | ⟨q1, q2, q3⟩
    all_goals
      go_enter Tryd.func4, Tryd.ntmps4
      go_wp2_with (first | (go_at_call 12; refine (named9_any s _ hs).mono ?_; rintro e w1 ⟨⟨b', rfl, hb⟩, rfl⟩; have HN := Aside0.mk hb; clear hb; cases b'))
      all_goals first | (exfalso; omega) | (go_ret; exact ⟨rfl, Below.refl _ _⟩) | skip
      have HNM := Aside0.mk (HN.out (by first | rfl | trivial))
      have z1 := HNM.out.2.2.1
      go_wp2_with (first | (go_at_call 14; first | (have hz := HD; clear hz; refine (told9_true a (⟨#[120, 32, 58]⟩ ++ s ++ ⟨#[c]⟩ ++ ⟨#[c]⟩) ⟨#[120, 32]⟩ s (⟨#[c]⟩ ++ ⟨#[c]⟩) _ h0 h1 (by have e1 : (⟨#[120, 32, 58]⟩ : ByteArray).size = 3 := rfl; have e2 : (⟨#[c]⟩ : ByteArray).size = 1 := rfl; simp only [ba_size, e1, e2]; omega) (by decide) (by omega) (by have e2 : (⟨#[c]⟩ : ByteArray).size = 1 := rfl; simp only [ba_size, e2]; omega) (ends_c2 HNM.out HCC.out.2.2.2) (ends_2 (a % 5) HNM.out HCC.out)).mono ?_; rintro e w6 ⟨rfl, h2⟩; have H6 := Aside0.mk h2; clear h2) | (refine (told9_true a (⟨#[58]⟩ ++ s ++ ⟨#[c]⟩ ++ ⟨#[32, 120]⟩) ⟨#[]⟩ s (⟨#[c]⟩ ++ ⟨#[32, 120]⟩) _ h0 h1 (by have e1 : (⟨#[58]⟩ : ByteArray).size = 1 := rfl; have e2 : (⟨#[c]⟩ : ByteArray).size = 1 := rfl; have e3 : (⟨#[32, 120]⟩ : ByteArray).size = 2 := rfl; simp only [ba_size, e1, e2, e3]; omega) (by decide) (by omega) (by have e2 : (⟨#[c]⟩ : ByteArray).size = 1 := rfl; have e3 : (⟨#[32, 120]⟩ : ByteArray).size = 2 := rfl; simp only [ba_size, e2, e3]; omega) (ends_c1 HNM.out HCC.out.2.2.2) (ends_1 (a % 5) HNM.out HCC.out)).mono ?_; rintro e w5 ⟨rfl, h2⟩; have H5 := Aside0.mk h2; have HD := trivial; clear h2)))
      all_goals first | (exfalso; omega) | (go_ret; exact ⟨rfl, by first | exact Below.refl _ _ | exact below_step (below_step (below_alloc (Below.refl _ _) _) H5.out) H6.out⟩)
  · have hor : d = 58 ∨ d = 95 ∨ d = 46 ∨ (48 ≤ d ∧ d ≤ 57) ∨ (97 ≤ d ∧ d ≤ 122) ∨ (65 ≤ d ∧ d ≤ 90) := by
      unfold EndsB at hE
      omega
    clear hE hd
    rcases hor with rfl | rfl | rfl | ⟨q1, q2⟩ | ⟨q1, q2⟩ | ⟨q1, q2⟩
    all_goals
      go_enter Tryd.func4, Tryd.ntmps4
      go_wp2_with (go_at_call 12; refine (named9_any s _ hs).mono ?_; rintro e w1 ⟨⟨b', rfl, hb⟩, rfl⟩; clear hb; cases b')
      all_goals (go_ret; exact ⟨rfl, Below.refl _ _⟩)
end Go.Proofs.YtnpjnekoifheoaaDoor
