/- laws.insert9: the text of an insert, and what it is for so many rows. -/
import Derived.Test.YtnpjnekoifheoaaDoorInsert
import Derived.Test.YtnpjnekoifheoaaDoorRows9
import Derived.Test.YtnpjnekoifheoaaDoorDigits
namespace Go.Proofs.YtnpjnekoifheoaaDoor
open Go Go.RowKit Go.Proofs.YtnpjnekoifheoaaDoorW.PrintWords
set_option linter.unusedVariables false
set_option maxRecDepth 100000

theorem digits9_tell (n : Int) (w : World) (m : Nat) (hn : n = m) (hm : m ≤ 99) : Calls Tryd.prog 19 #[.int .i64 n] w fun e w' => (∃ D : ByteArray, e = .returned (.string D) ∧ D.data.toList = Lib.decDigits m ∧ D.size ≤ 2) ∧ Below w.heap.size w w' := by
  subst hn
  refine (digits9_is m w (by omega)).mono ?_
  rintro e w' ⟨rfl, h⟩
  refine ⟨⟨_, rfl, by simp, ?_⟩, h⟩
  rw [Lib.size_eq]
  simpa using dec_len m hm
theorem ba_size (s t : ByteArray) : (s ++ t).size = s.size + t.size := by simp
theorem marks_len (i : Nat) : (marksL i).length ≤ 3 * i := by
  induction i with
  | zero => exact Nat.le_refl _
  | succ i ih =>
    rw [marksL, List.length_append, List.length_append]
    have : (sepL i).length ≤ 2 := by unfold sepL; split <;> simp
    simp
    omega
set_option maxRecDepth 100000 in
set_option maxHeartbeats 8000000 in
theorem insert9_is (names : List ByteArray) (N : Option Addr) (cn many : Nat) (W0 B0 : ByteArray) (w : World) (hN : Kd.string.C w N names.length names) (hOK : ∀ j, j < names.length → NameOk (names.getD j ⟨#[]⟩)) (h10 : names.length ≤ 10) (hm : many ≤ 10) (hW : W0.size ≤ 100) (hB0 : B0.size ≤ 200) :
    Calls Tryd.prog 29 #[.slice N names.length cn, .int .i64 many, .string W0, .string B0] w fun e w' => (∃ T X : ByteArray, e = .returned (.tuple #[.string T, .string X]) ∧ T.data.toList = textL names names.length W0.data.toList B0.data.toList ∧ X.data.toList = wantL names.length many W0.data.toList B0.data.toList ∧ T.size ≤ 10000 ∧ X.size ≤ 10000) ∧ Below w.heap.size w w' := by
  have HN := Aside0.mk hN
  have HOK := Aside0.mk hOK
  clear hN hOK
  have e2 : (⟨#[44, 32]⟩ : ByteArray).size = 2 := rfl
  have e99 : (⟨#[99]⟩ : ByteArray).size = 1 := rfl
  have e63 : (⟨#[63]⟩ : ByteArray).size = 1 := rfl
  have e58 : (⟨#[58]⟩ : ByteArray).size = 1 := rfl
  have e44 : (⟨#[44]⟩ : ByteArray).size = 1 := rfl
  have e40 : (⟨#[40]⟩ : ByteArray).size = 1 := rfl
  have e41 : (⟨#[41]⟩ : ByteArray).size = 1 := rfl
  have eI : (⟨#[73, 78, 83, 69, 82, 84, 32, 73, 78, 84, 79, 32, 116, 32, 40]⟩ : ByteArray).size = 15 := rfl
  go_enter Tryd.func29, Tryd.ntmps29
  go_wp2
  go_loopw [10, 11, 12, 19] (fun sc sm sa si wr => ∃ (i : Nat) (C M Q : ByteArray), sc = .string C ∧ sm = .string M ∧ sa = .string Q ∧ si = .int .i64 i ∧ i ≤ names.length ∧ C.size ≤ 5 * i ∧ M.size ≤ 3 * i ∧ Q.size ≤ 33 * i ∧ Aside0 (C.data.toList = colsL i) ∧ Aside0 (M.data.toList = marksL i) ∧ Aside0 (Q.data.toList = askL names i) ∧ Aside0 (Below w.heap.size w wr)) (fun _ _ _ si _ => names.length - (intOf si).toNat)
  case atStart => exact ⟨0, ⟨#[]⟩, ⟨#[]⟩, ⟨#[]⟩, rfl, rfl, rfl, rfl, Nat.zero_le _, Nat.le_refl _, Nat.le_refl _, Nat.le_refl _, ⟨rfl⟩, ⟨rfl⟩, ⟨rfl⟩, ⟨Below.refl _ _⟩⟩
  case round =>
    obtain ⟨i, C, M, Q, rfl, rfl, rfl, rfl, hi, hz1, hz2, hz3, HC, HM, HQ, HB⟩ := hrel
    by_cases hlt : i < names.length
    · obtain ⟨nd, rfl, t0⟩ := at_S (Kd.C_below HN.out HB.out) (⟨#[]⟩ : ByteArray) i hlt
      have hok := HOK.out i hlt
      obtain ⟨nm, hnm⟩ : ∃ nm, nm = names.getD i ⟨#[]⟩ := ⟨_, rfl⟩
      rw [← hnm] at t0 hok
      have hz4 := hok.2.2.1
      have HNM := Lib.hid hnm
      clear hnm hok
      have HDG := fun W => digits9_tell (i : Int) W i rfl (by omega)
      have HDG2 := Aside0.mk HDG
      clear HDG
      have HSS := Aside0.mk (show ∀ W', Below wr.heap.size wr W' → (Below wr.heap.size wr W' ∧ W'.cell? (nd.add i) = some (.string nm)) from fun W' h => ⟨h, cell_under9 t0 h⟩)
      by_cases hi0 : (0 : Int) < (i : Int)
      · go_wp2_with fail
        have f1 : ¬ 9223372036854775807 < C.size + 2 + 1 := by omega
        have f2 : ¬ 9223372036854775807 < M.size + 2 + 1 := by omega
        have f3 : ¬ 9223372036854775807 < Q.size + 2 + 1 := by omega
        have f4 : ¬ 9223372036854775807 < Q.size + 2 + 1 + nm.size := by omega
        go_region_held3 (fun w' => Below wr.heap.size wr w' ∧ w'.cell? (nd.add i) = some (.string nm)) (exact HSS.out _ (by first | assumption | exact (Below.refl _ _).drew | exact Below.refl _ _))
          ((go_at_call 19; refine (HDG2.out _).mono ?_; rintro e w1 ⟨⟨D, rfl, hD, hDz⟩, h2⟩; have hB2 := below_step (Below.refl wr.heap.size wr).drew h2; have HD := Lib.hid hD; have f5 : ¬ 9223372036854775807 < C.size + 2 + 1 + D.size := (by omega); clear hD h2))
        have HB2 := Aside0.mk (below_step HB.out hB2)
        clear hB2 HSS t0 f1 f2 f3 f4 f5
        go_wp2
        go_roundw
        case rel =>
          refine ⟨i + 1, _, _, _, rfl, rfl, rfl, by go_num, by omega, ?_, ?_, ?_, ⟨?_⟩, ⟨?_⟩, ⟨?_⟩, HB2⟩
          · simp only [ba_size, e2, e99]; omega
          · simp only [ba_size, e2, e63]; omega
          · simp only [ba_size, e2, e58]; omega
          · rw [colsL, sepL, if_neg (by omega)]; simp [HC.out, HD.out]
          · rw [marksL, sepL, if_neg (by omega)]; simp [HM.out]
          · rw [askL, sepL, if_neg (by omega), nmAt, ← HNM.out]; simp [HQ.out]
        case measure => simp [intOf]; omega
      · go_wp2_with fail
        have f1 : ¬ 9223372036854775807 < C.size + 1 := by omega
        have f2 : ¬ 9223372036854775807 < M.size + 1 := by omega
        have f3 : ¬ 9223372036854775807 < Q.size + 1 := by omega
        have f4 : ¬ 9223372036854775807 < Q.size + 1 + nm.size := by omega
        go_region_held3 (fun w' => Below wr.heap.size wr w' ∧ w'.cell? (nd.add i) = some (.string nm)) (exact HSS.out _ (by first | assumption | exact (Below.refl _ _).drew | exact Below.refl _ _))
          ((go_at_call 19; refine (HDG2.out _).mono ?_; rintro e w1 ⟨⟨D, rfl, hD, hDz⟩, h2⟩; have hB2 := below_step (Below.refl wr.heap.size wr).drew h2; have HD := Lib.hid hD; have f5 : ¬ 9223372036854775807 < C.size + 1 + D.size := (by omega); clear hD h2))
        have HB2 := Aside0.mk (below_step HB.out hB2)
        clear hB2 HSS t0 f1 f2 f3 f4 f5
        go_wp2
        go_roundw
        case rel =>
          refine ⟨i + 1, _, _, _, rfl, rfl, rfl, by go_num, by omega, ?_, ?_, ?_, ⟨?_⟩, ⟨?_⟩, ⟨?_⟩, HB2⟩
          · simp only [ba_size, e99]; omega
          · simp only [ba_size, e63]; omega
          · simp only [ba_size, e58]; omega
          · rw [colsL, sepL, if_pos (by omega)]; simp [HC.out, HD.out]
          · rw [marksL, sepL, if_pos (by omega)]; simp [HM.out]
          · rw [askL, sepL, if_pos (by omega), nmAt, ← HNM.out]; simp [HQ.out]
        case measure => simp [intOf]; omega
    · have hie : i = names.length := by omega
      subst hie
      clear HOK
      have g1 : C.size ≤ 50 := by omega
      have g2 : M.size ≤ 30 := by omega
      have g3 : Q.size ≤ 330 := by omega
      have hHz : (⟨#[73, 78, 83, 69, 82, 84, 32, 73, 78, 84, 79, 32, 116, 32, 40]⟩ ++ C ++ ⟨#[41]⟩ ++ W0 : ByteArray).size ≤ 170 := by simp only [ba_size, e41, eI]; omega
      have hHL : (⟨#[73, 78, 83, 69, 82, 84, 32, 73, 78, 84, 79, 32, 116, 32, 40]⟩ ++ C ++ ⟨#[41]⟩ ++ W0 : ByteArray).data.toList = headL names.length W0.data.toList := by simp [headL, preL, HC.out]
      have HHZ := Lib.hid hHz
      have HHL := Lib.hid hHL
      clear hHz hHL
      go_wp2_with fail
      go_loopw [15, 52] (fun sx sj w5 => ∃ (j : Nat) (X : ByteArray), sx = .string X ∧ sj = .int .i64 j ∧ j ≤ many ∧ X.size ≤ 170 + 50 * j ∧ Aside0 (X.data.toList = headL names.length W0.data.toList ++ repL names.length j) ∧ Aside0 (Below w.heap.size w w5)) (fun _ sj _ => many - (intOf sj).toNat)
      case atStart => exact ⟨0, _, rfl, rfl, Nat.zero_le _, HHZ.out, ⟨by rw [HHL.out]; simp [repL]⟩, HB⟩
      case round =>
        clear HB
        obtain ⟨j, X, rfl, rfl, hj, hz5, HX, HB⟩ := hrel
        by_cases hlt : j < many
        · by_cases hj0 : (0 : Int) < (j : Int)
          · go_wp2
            go_roundw
            case rel =>
              refine ⟨j + 1, _, rfl, by go_num, by omega, ?_, ⟨?_⟩, HB⟩
              · simp only [ba_size, e44, e40, e41]; omega
              · rw [repL, if_neg (by omega)]; simp [HX.out, HM.out]
            case measure => simp [intOf]; omega
          · go_wp2
            go_roundw
            case rel =>
              refine ⟨j + 1, _, rfl, by go_num, by omega, ?_, ⟨?_⟩, HB⟩
              · simp only [ba_size, e40, e41]; omega
              · rw [repL, if_pos (by omega)]; simp [HX.out, HM.out]
            case measure => simp [intOf]; omega
        · have hje : j = many := by omega
          subst hje
          have hHz := HHZ.out
          go_wp2
          go_ret2
          refine ⟨⟨_, _, rfl, ?_, ?_, ?_, ?_⟩, HB.out⟩
          · simp [textL, headL, preL, HC.out, HQ.out]
          · simp [wantL, HX.out]
          · simp only [ba_size, e40, e41, eI]; omega
          · simp only [ba_size]; omega
end Go.Proofs.YtnpjnekoifheoaaDoor
