/- sqlx.fixBound: behind a hit the bracket is written again and again; without one the text stays. -/
import Derived.Test.YtnpjnekoifheoaaDoorInsert
import Derived.Lib.BufferKept
import Derived.Lib.BufferOld
namespace Go.Proofs.YtnpjnekoifheoaaDoor
open Go Go.RowKit Go.Proofs.YtnpjnekoifheoaaDoorW.PrintWords
set_option linter.unusedVariables false
set_option maxRecDepth 100000

def Buf (b : Nat) (l : List UInt8) (w : World) : Prop := Lib.IsBuffer 129 5 b b (Lib.byteCells l) w
theorem Buf_write (b : Nat) (l : List UInt8) (s : ByteArray) (w : World) (h : Buf b l w) (hl : l.length + s.size ≤ 140737488355328) (hb : b ≤ w.heap.size) :
    Calls Tryd.prog 77 #[.pointer (some ⟨b, 0, none⟩), .string s] w fun e w' => e = .returned (.tuple #[.int .i64 s.size, .nilIface]) ∧ Buf b (l ++ s.data.toList) w' ∧ Below b w w' := by
  refine (Tryd.Buffer_WriteString_k b b _ s w h hb (Lib.byteCells_one _) (by rw [Lib.byteCells_length]; exact hl)).mono ?_
  rintro e w' ⟨rfl, h2, h3, h4⟩
  rw [← Lib.byteCells_append] at h2
  exact ⟨rfl, h2, h3⟩
theorem Buf_string (b : Nat) (l : List UInt8) (w : World) (h : Buf b l w) :
    Calls Tryd.prog 78 #[.pointer (some ⟨b, 0, none⟩)] w fun e w' => e = .returned (.string ⟨l.toArray⟩) ∧ Below w.heap.size w w' := by
  refine (Tryd.Buffer_String b b l w h).mono ?_
  rintro e w' ⟨rfl, n, rfl⟩
  exact ⟨rfl, pw_below_drewN (Below.refl _ _) n⟩
theorem drop_extract (Q : ByteArray) (k : Nat) : (Q.extract k Q.size).data.toList = Q.data.toList.drop k := by
  have e : (Q.extract k Q.size).data = Q.data.extract k Q.size := by simp
  rw [e, Array.toList_extract, List.extract_eq_take_drop, Lib.size_eq]
  rw [List.take_of_length_le (by simp)]
theorem take_extract (Q : ByteArray) (k : Nat) : (Q.extract 0 k).data.toList = Q.data.toList.take k := by
  have e : (Q.extract 0 k).data = Q.data.extract 0 k := by simp
  rw [e, Array.toList_extract, List.extract_eq_take_drop]
  simp
theorem mid_extract (Q : ByteArray) (j k : Nat) : (Q.extract j k).data.toList = (Q.data.toList.drop j).take (k - j) := by
  have e : (Q.extract j k).data = Q.data.extract j k := by simp
  rw [e, Array.toList_extract, List.extract_eq_take_drop]
set_option maxHeartbeats 4000000 in
theorem fixBound_none (B : ByteArray) (n : Int) (w : World) (hB : B.size ≤ 1000000) (hno : ∀ i K, ¬ HitAt B.data.toList i K) :
    Calls Tryd.prog 69 #[.string B, .int .i64 n] w fun e w' => e = .returned (.string B) ∧ Below w.heap.size w w' := by
  have HC := Aside0.mk (fun W => zzValues_is B W hB)
  have HNO := Aside0.mk hno
  clear hno
  go_enter Tryd.func69, Tryd.ntmps69
  go_wp2_with (go_at_call 75; refine (HC.out _).mono ?_; rintro e w1 ⟨h1, h2⟩; rcases h1 with ⟨rfl, _⟩ | ⟨A, i, K, _, hh, _⟩; rotate_left 1; exact absurd hh (HNO.out i K); have H2 := Aside0.mk h2; clear h2)
  go_ret
  exact ⟨rfl, H2.out⟩
set_option maxHeartbeats 8000000 in
theorem fixBound_hit (H br b : List UInt8) (R : Nat → List UInt8) (B : ByteArray) (n : Nat) (w : World) (hB : B.data.toList = H ++ br ++ b) (hz : B.size ≤ 10000) (hbr : 0 < br.length) (hbr2 : br.length ≤ 1000) (hn : 2 ≤ n) (hn2 : n ≤ 100)
    (hR1 : R 1 = br) (hRs : ∀ i, 1 ≤ i → R (i + 1) = R i ++ 44 :: br)
    (h1 : ∀ i K, HitAt B.data.toList i K → (∀ j, j < i → FailAt B.data.toList j) → K = H.length) (h2 : ∃ i, i < B.size ∧ ¬ FailAt B.data.toList i)
    (hfm : fm (br ++ b) 0 0 + 1 = br.length) (hfm0 : 1 < br.length) (hasc : ∀ c ∈ br ++ b, c < 128) :
    Calls Tryd.prog 69 #[.string B, .int .i64 n] w fun e w' => e = .returned (.string ⟨(H ++ R n ++ b).toArray⟩) ∧ Below w.heap.size w w' := by
  obtain ⟨K, hK⟩ : ∃ K, K = H.length := ⟨_, rfl⟩
  obtain ⟨L, hL⟩ : ∃ L, L = br.length := ⟨_, rfl⟩
  have hlen : B.size = K + L + b.length := by rw [Lib.size_eq, hB, hK, hL]; simp; omega
  have hbz : b.length ≤ 10000 := by omega
  have d1 : (B.extract K B.size).data.toList = br ++ b := by rw [drop_extract, hB, hK, List.append_assoc, List.drop_left']; rfl
  have d2 : (B.extract 0 (K + L)).data.toList = H ++ R 1 := by rw [take_extract, hB, hR1, hK, hL, List.take_left']; simp
  have d3 : (B.extract K (K + L)).data.toList = br := by rw [mid_extract, hB, hK, hL, List.append_assoc, List.drop_left' rfl, Nat.add_sub_cancel_left, List.take_left' rfl]
  have d4 : (B.extract (K + L) B.size).data.toList = b := by rw [drop_extract, hB, hK, hL, List.drop_left']; simp
  have s1 : (B.extract K B.size).size = L + b.length := by rw [Lib.size_eq, d1, hL]; simp
  have s2 : (B.extract 0 (K + L)).size = K + L := by rw [Lib.size_eq, d2, hR1, hK, hL]; simp
  have s3 : (B.extract K (K + L)).size = L := by rw [Lib.size_eq, d3, hL]
  have s4 : (B.extract (K + L) B.size).size = b.length := by rw [Lib.size_eq, d4]
  have HM := Aside0.mk (fun W => match_is (B.extract K B.size) W (by omega) (fun i hi => hasc _ (by rw [← d1, ← getD_at _ i hi, List.getD_eq_getElem?_getD, List.getElem?_eq_getElem (by rw [← Lib.size_eq]; exact hi)]; exact List.getElem_mem _)))
  obtain ⟨F, hF⟩ : ∃ F, F = fm (br ++ b) 0 0 := ⟨_, rfl⟩
  rw [d1, ← hF] at HM
  have hFL : F + 1 = L := by rw [hF, hL]; exact hfm
  have hF0 : 0 < F := by omega
  obtain rfl : L = F + 1 := hFL.symm
  rw [← Nat.add_assoc] at d2 d3 d4 s2 s3 s4 hlen
  have hKB : K + F + 1 ≤ B.size := by omega
  have HLEN := Lib.hid hlen
  have HC := Aside0.mk (fun W => zzValues_is B W (by omega))
  have H1 := Aside0.mk h1
  have H2 := Aside0.mk h2
  have HRs := Aside0.mk hRs
  have D2 := Lib.hid d2
  have D3 := Lib.hid d3
  have D4 := Lib.hid d4
  have S2 := Lib.hid s2
  have S3 := Lib.hid s3
  have S4 := Lib.hid s4
  have HKK := Lib.hid hK
  have hLz : F ≤ 1000 := by omega
  have hF00 : ((F : Int) == 0) = false := by
    have h : ¬ (F : Int) = 0 := by omega
    simpa using h
  have HRL := Aside0.mk (show ∀ j, j ≤ 100 → (H ++ R (j + 1)).length ≤ 10000 + 2000 * j from by
    intro j
    induction j with
    | zero => intro _; rw [← d2, ← Lib.size_eq, s2]; omega
    | succ j ih =>
      intro hj
      have h := ih (by omega)
      rw [hRs (j + 1) (by omega)]
      simp only [List.length_append, List.length_cons] at h ⊢
      omega)
  have HR1 := Lib.hid (show (H ++ R 1).length ≤ 10000 + 2000 * 0 by rw [← d2, ← Lib.size_eq, s2]; omega)
  clear hB hbr hbr2 hR1 hRs h1 h2 hfm hfm0 hasc d1 d2 d3 d4 s1 s2 s3 s4 hK hL hF hlen hFL
  go_enter Tryd.func69, Tryd.ntmps69
  have e1 : (⟨#[44]⟩ : ByteArray).size = 1 := rfl
  go_wp2_with (go_at_call 75; refine (HC.out _).mono ?_; rintro e w1 ⟨hq, hb1⟩; rcases hq with ⟨_, hq⟩ | ⟨A, i, K', rfl, hh, hf, c0, c1⟩; (exact absurd (hq _ H2.out.choose_spec.1) H2.out.choose_spec.2); obtain rfl : K = K' := HKK.out.trans (H1.out i K' hh hf).symm; rw [show A.add 1 = ⟨A.block, A.off + 1, none⟩ by simp [Addr.add]] at c1; have HB1 := Aside0.mk hb1; clear hb1 hh hf c0)
  refine (HM.out _).mono ?_
  rintro e w2 ⟨rfl, h2⟩
  have HB2 := Aside0.mk (below_step HB1.out h2)
  clear h2
  go_wp2_with fail
  refine (Buf_write w2.heap.size [] (B.extract 0 (K + F + 1)) _ (Lib.fresh_isBuffer 129 5 w2) (by rw [S2.out]; simp; omega) (by simp)).mono ?_
  rintro e w3 ⟨rfl, h1, h2⟩
  rw [D2.out, List.nil_append] at h1
  have HX := Aside0.mk h1
  have HY := Aside0.mk ((below_alloc (Below.refl w2.heap.size w2) _).trans h2)
  clear h1 h2 c1
  go_wp2_with fail
  go_loopw [10] (fun si wr => ∃ j : Nat, si = .int .i64 j ∧ j + 1 ≤ n ∧ Aside0 (Buf w2.heap.size (H ++ R (j + 1)) wr) ∧ Aside0 (Below w2.heap.size w2 wr)) (fun si _ => n - (intOf si).toNat)
  case atStart => exact ⟨0, rfl, by omega, HX, HY⟩
  case round =>
    clear HX HY
    obtain ⟨j, rfl, hj, HX, HY⟩ := hrel
    have hz1 := HRL.out j (by omega)
    by_cases hlt : j + 1 < n
    · go_wp2_with fail
      refine (Buf_write w2.heap.size (H ++ R (j + 1)) ⟨#[44]⟩ _ HX.out (by rw [e1]; omega) HY.out.size).mono ?_
      rintro e w4 ⟨rfl, h1, h2⟩
      have HX4 : Aside0 (Buf w2.heap.size (H ++ R (j + 1) ++ [44]) w4) := ⟨h1⟩
      have HY4 := Aside0.mk (HY.out.trans h2)
      clear h1 h2 HX HY
      go_wp2_with fail
      refine (Buf_write w2.heap.size (H ++ R (j + 1) ++ [44]) (B.extract K (K + F + 1)) _ HX4.out (by rw [S3.out, List.length_append, List.length_singleton]; omega) HY4.out.size).mono ?_
      rintro e w5 ⟨rfl, h1, h2⟩
      rw [D3.out] at h1
      have e3 : H ++ R (j + 1) ++ [44] ++ br = H ++ R (j + 1 + 1) := by rw [HRs.out (j + 1) (by omega)]; simp
      rw [e3] at h1
      have HX5 := Aside0.mk h1
      have HY5 := Aside0.mk (HY4.out.trans h2)
      clear h1 h2 e3 HX4 HY4
      go_wp2
      go_roundw
      case rel => exact ⟨j + 1, by go_num, by omega, HX5, HY5⟩
      case measure => simp [intOf]; omega
    · have hje : n = j + 1 := by omega
      subst hje
      go_wp2_with fail
      refine (Buf_write w2.heap.size (H ++ R (j + 1)) (B.extract (K + F + 1) B.size) _ HX.out (by rw [S4.out]; omega) HY.out.size).mono ?_
      rintro e w4 ⟨rfl, h1, h2⟩
      rw [D4.out] at h1
      have HX4 := Aside0.mk h1
      have HY4 := Aside0.mk (HY.out.trans h2)
      clear h1 h2 HX HY
      go_wp2_with (go_at_call 78; refine (Buf_string w2.heap.size _ _ HX4.out).mono ?_; rintro e w5 ⟨rfl, h2⟩; have HY5 := Aside0.mk (below_step HY4.out h2); clear h2)
      go_ret
      exact ⟨by rw [List.append_assoc]; rfl, below_step HB2.out HY5.out⟩
end Go.Proofs.YtnpjnekoifheoaaDoor
