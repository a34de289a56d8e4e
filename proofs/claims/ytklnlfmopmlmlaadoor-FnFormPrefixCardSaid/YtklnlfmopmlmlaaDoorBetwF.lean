/- laws.between9 with numbered signs: FnRebuffEach's and FnFormPrefix's closures. -/
import Derived.Test.YtklnlfmopmlmlaaDoorOther
import Derived.Deep.QuietTactic
import Derived.BigQuiet
import Derived.StillTactics
import Derived.Deep.RegionHeld3
namespace Go.Proofs.YtklnlfmopmlmlaaDoor
open Go Go.RowKit Go.Proofs.YtklnlfmopmlmlaaDoorW.PrintWords
set_option linter.unusedVariables false
set_option maxRecDepth 100000

theorem cell_under {w w1 : World} {a : Addr} {v : Value} (h : w.cell? a = some v) (hb : Below w.heap.size w w1) : w1.cell? a = some v := by
  rw [hb.cell ?_]
  · exact h
  · rcases Nat.lt_or_ge a.block w.heap.size with h' | h'
    · exact h'
    · simp [World.cell?, Array.getElem?_eq_none h'] at h

theorem dollar9_is (z : Int) (n : Nat) (hz : z = n) (w : World) (hn : n ≤ 99) :
    Calls Tryd.prog 23 #[.int .i64 z] w fun e w' => (∃ M : ByteArray, e = .returned (.string M) ∧ M.data.toList = num [36] n ∧ M.size ≤ 1003) ∧ Below w.heap.size w w' := by
  have HC := Aside0.mk (digits9_tell z w n hz hn)
  clear hz
  have e1 : (⟨#[36]⟩ : ByteArray).size = 1 := rfl
  go_enter Tryd.func23, Tryd.ntmps23
  go_wp2_with (go_at_call 18; refine HC.out.mono ?_; rintro e w1 ⟨⟨D, rfl, hD, hDz⟩, h2⟩; have HD := Lib.hid hD; have H2 := Aside0.mk h2; clear hD h2)
  go_ret
  exact ⟨⟨_, rfl, by rw [app_data', HD.out]; rfl, by rw [app_size', e1]; omega⟩, H2.out⟩
theorem prefix9_is (z : Int) (n : Nat) (hz : z = n) (b : Nat) (P : ByteArray) (w : World) (hn : n ≤ 99) (hP : P.size ≤ 1000) (hb : w.cell? ⟨b, 0, none⟩ = some (.string P)) :
    Calls Tryd.prog 17 #[.int .i64 z, .pointer (some ⟨b, 0, none⟩)] w fun e w' => (∃ M : ByteArray, e = .returned (.string M) ∧ M.data.toList = num P.data.toList n ∧ M.size ≤ 1003) ∧ Below w.heap.size w w' := by
  have HC := fun W => digits9_tell z W n hz hn
  have HC2 := Aside0.mk HC
  have HSS := Aside0.mk (show ∀ W', Below w.heap.size w W' → (Below w.heap.size w W' ∧ W'.cell? ⟨b, 0, none⟩ = some (.string P)) from fun W' h => ⟨h, cell_under hb h⟩)
  clear hz HC
  go_enter Tryd.func17, Tryd.ntmps17
  go_wp2_with fail
  go_region_held3 (fun w' => Below w.heap.size w w' ∧ w'.cell? ⟨b, 0, none⟩ = some (.string P)) (exact HSS.out _ (by first | assumption | exact (Below.refl _ _).drew | exact Below.refl _ _))
    ((go_at_call 18; refine (HC2.out _).mono ?_; rintro e w1 ⟨⟨D, rfl, hD, hDz⟩, h2⟩; have hB2 := below_step (Below.refl w.heap.size w).drew h2; have HD := Lib.hid hD; have hs1 : ¬ 9223372036854775807 < P.size + D.size := (by omega); have hs2 : P.size + D.size ≤ 9223372036854775807 := (by omega); clear hD h2))
  go_wp2
  go_ret
  exact ⟨⟨_, rfl, by rw [app_data', HD.out]; rfl, by rw [app_size']; omega⟩, hB2⟩
set_option maxHeartbeats 1000000 in
theorem between9_dollar (ss : List ByteArray) (A : Option Addr) (c : Nat) (w : World) (hr : Kd.string.C w A ss.length ss) (hn : ss.length ≤ 20) (hl : ∀ j, (ss.getD j ⟨#[]⟩).size ≤ 100) :
    Calls Tryd.prog 12 #[.slice A ss.length c, .func (.func 23) #[] #[]] w fun e w' => e = .returned (.string ⟨(betw ss (num [36]) ss.length).toArray⟩) ∧ Below w.heap.size w w' := by
  have HR := Aside0.mk hr
  have HL := Lib.hid hl
  clear hr hl
  go_enter Tryd.func12, Tryd.ntmps12
  go_wp2
  go_loopw [5, 9] (fun s i wr => ∃ (k : Nat) (S : ByteArray), i = .int .i64 k ∧ s = .string S ∧ k ≤ ss.length ∧ S.size ≤ 1103 * k ∧ Aside0 (S.data.toList = betw ss (num [36]) k) ∧ Aside0 (Below w.heap.size w wr)) (fun _ i _ => ss.length - (intOf i).toNat)
  case atStart => exact ⟨0, ⟨#[]⟩, rfl, rfl, Nat.zero_le _, Nat.le_refl _, ⟨rfl⟩, ⟨Below.refl _ _⟩⟩
  case round =>
    obtain ⟨k, S, rfl, rfl, hk, hz, HSS, HB⟩ := hrel
    by_cases hlt : k < ss.length
    · obtain ⟨ad, rfl, h0⟩ := at_S (Kd.C_below HR.out HB.out) (⟨#[]⟩ : ByteArray) k hlt
      have hsz := HL.out k
      obtain ⟨s, hs⟩ : ∃ s, s = ss.getD k ⟨#[]⟩ := ⟨_, rfl⟩
      rw [← hs] at h0 hsz
      have HS := Aside0.mk hs
      clear hs
      by_cases hk0 : (0 : Int) < (k : Int)
      · go_wp2_with (go_at_call 23; refine (dollar9_is _ k (by omega) _ (by omega)).mono ?_; rintro e w1 ⟨⟨M, rfl, hM, hMz⟩, h2⟩; have h1 := cell_under h0 h2; have HM := Lib.hid hM; have HB2 := Aside0.mk (below_step HB.out h2); clear hM h2)
        go_roundw
        case rel =>
          refine ⟨k + 1, _, by go_num, rfl, by omega, ?_, ⟨?_⟩, HB2⟩
          · rw [app_size', app_size']
            omega
          · rw [app_data', app_data', HSS.out, HM.out, HS.out, betw, if_neg (by omega)]
            simp
        case measure => simp [intOf]; omega
      · go_wp2
        go_roundw
        case rel =>
          refine ⟨k + 1, _, by go_num, rfl, by omega, by rw [app_size']; omega, ⟨?_⟩, HB⟩
          rw [app_data', HSS.out, HS.out, betw, if_pos (by omega)]
          simp
        case measure => simp [intOf]; omega
    · have hk' : k = ss.length := by omega
      subst hk'
      have HF := Lib.hid (show S = ⟨(betw ss (num [36]) ss.length).toArray⟩ from ba_ext (by rw [HSS.out]))
      go_wp2
      go_ret
      exact ⟨congrArg (fun s : ByteArray => Ending.returned (.string s)) HF.out, HB.out⟩
set_option maxHeartbeats 1000000 in
theorem between9_prefix (ss : List ByteArray) (A : Option Addr) (c : Nat) (b : Nat) (P : ByteArray) (w : World) (hP : P.size ≤ 1000) (hb : w.cell? ⟨b, 0, none⟩ = some (.string P)) (hr : Kd.string.C w A ss.length ss) (hn : ss.length ≤ 20) (hl : ∀ j, (ss.getD j ⟨#[]⟩).size ≤ 100) :
    Calls Tryd.prog 12 #[.slice A ss.length c, .func (.func 17) #[] #[.pointer (some ⟨b, 0, none⟩)]] w fun e w' => e = .returned (.string ⟨(betw ss (num P.data.toList) ss.length).toArray⟩) ∧ Below w.heap.size w w' := by
  have HR := Aside0.mk hr
  have HL := Lib.hid hl
  have HBC := Aside0.mk hb
  clear hr hl hb
  go_enter Tryd.func12, Tryd.ntmps12
  go_wp2
  go_loopw [5, 9] (fun s i wr => ∃ (k : Nat) (S : ByteArray), i = .int .i64 k ∧ s = .string S ∧ k ≤ ss.length ∧ S.size ≤ 1103 * k ∧ Aside0 (S.data.toList = betw ss (num P.data.toList) k) ∧ Aside0 (Below w.heap.size w wr)) (fun _ i _ => ss.length - (intOf i).toNat)
  case atStart => exact ⟨0, ⟨#[]⟩, rfl, rfl, Nat.zero_le _, Nat.le_refl _, ⟨rfl⟩, ⟨Below.refl _ _⟩⟩
  case round =>
    obtain ⟨k, S, rfl, rfl, hk, hz, HSS, HB⟩ := hrel
    by_cases hlt : k < ss.length
    · obtain ⟨ad, rfl, h0⟩ := at_S (Kd.C_below HR.out HB.out) (⟨#[]⟩ : ByteArray) k hlt
      have hsz := HL.out k
      obtain ⟨s, hs⟩ : ∃ s, s = ss.getD k ⟨#[]⟩ := ⟨_, rfl⟩
      rw [← hs] at h0 hsz
      have HS := Aside0.mk hs
      clear hs
      by_cases hk0 : (0 : Int) < (k : Int)
      · go_wp2_with (go_at_call 17; refine (prefix9_is _ k (by omega) b P _ (by omega) hP (cell_under HBC.out HB.out)).mono ?_; rintro e w1 ⟨⟨M, rfl, hM, hMz⟩, h2⟩; have h1 := cell_under h0 h2; have HM := Lib.hid hM; have HB2 := Aside0.mk (below_step HB.out h2); clear hM h2)
        go_roundw
        case rel =>
          refine ⟨k + 1, _, by go_num, rfl, by omega, ?_, ⟨?_⟩, HB2⟩
          · rw [app_size', app_size']
            omega
          · rw [app_data', app_data', HSS.out, HM.out, HS.out, betw, if_neg (by omega)]
            simp
        case measure => simp [intOf]; omega
      · go_wp2
        go_roundw
        case rel =>
          refine ⟨k + 1, _, by go_num, rfl, by omega, by rw [app_size']; omega, ⟨?_⟩, HB⟩
          rw [app_data', HSS.out, HS.out, betw, if_pos (by omega)]
          simp
        case measure => simp [intOf]; omega
    · have hk' : k = ss.length := by omega
      subst hk'
      have HF := Lib.hid (show S = ⟨(betw ss (num P.data.toList) ss.length).toArray⟩ from ba_ext (by rw [HSS.out]))
      go_wp2
      go_ret
      exact ⟨congrArg (fun s : ByteArray => Ending.returned (.string s)) HF.out, HB.out⟩
end Go.Proofs.YtklnlfmopmlmlaaDoor
