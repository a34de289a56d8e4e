/- impl.Placeholders; the walk of laws.FnPlaceholdersForm. -/
import Derived.Test.YtklnlfmopmlmlaaDoorFormRow
namespace Go.Proofs.YtklnlfmopmlmlaaDoor
open Go Go.RowKit Go.Proofs.YtklnlfmopmlmlaaDoorW.PrintWords
set_option linter.unusedVariables false
set_option maxRecDepth 100000

def phC (i : Nat) : List UInt8 := if i = 0 then [] else [44]
/-- So many question marks with commas between; so many numbered signs. -/
def phQ : Nat → List UInt8
  | 0 => []
  | i + 1 => phQ i ++ (phC i ++ [63])
def phW (pf : List UInt8) : Nat → List UInt8
  | 0 => []
  | i + 1 => phW pf i ++ (phC i ++ (pf ++ Lib.decDigits (i + 1)))
theorem digits9_tell (n : Int) (w : World) (m : Nat) (hn : n = m) (hm : m ≤ 99) : Calls Tryd.prog 18 #[.int .i64 n] w fun e w' => (∃ D : ByteArray, e = .returned (.string D) ∧ D.data.toList = Lib.decDigits m ∧ D.size ≤ 2) ∧ Below w.heap.size w w' := by
  subst hn
  refine (digits9_is m w (by omega)).mono ?_
  rintro e w' ⟨rfl, h⟩
  refine ⟨⟨_, rfl, by simp, ?_⟩, h⟩
  rw [Lib.size_eq]
  simpa using dec_len m hm
theorem phQ_run (pf : List UInt8) : ∀ (i : Nat) (R : List UInt8), R.head? ≠ some 63 → rp pf (phQ i ++ R) false 0 = phW pf i ++ rp pf R false i := by
  intro i
  induction i with
  | zero => intro R _; rfl
  | succ i ih =>
    intro R hR
    by_cases hi : i = 0
    · subst hi
      have e : phQ (0 + 1) ++ R = 63 :: R := by simp [phQ, phC]
      rw [e, rp_one pf R 0 hR]
      simp [phW, phC]
    · have e : phQ (i + 1) ++ R = phQ i ++ (44 :: 63 :: R) := by simp [phQ, phC, hi]
      have e2 : rp pf (44 :: 63 :: R) false i = 44 :: rp pf (63 :: R) false i := by simp [rp]
      rw [e, ih _ (by simp), e2, rp_one pf R i hR]
      simp [phW, phC, hi]
theorem phQ_all (pf : List UInt8) (n : Nat) : rp pf (phQ n) false 0 = phW pf n := by
  have h := phQ_run pf n [] (by simp)
  rwa [List.append_nil, rp, List.append_nil] at h
theorem phQ_len (n : Nat) : (phQ n).length ≤ 2 * n := by
  induction n with
  | zero => simp [phQ]
  | succ i ih =>
    have h : (phC i).length ≤ 1 := by unfold phC; split <;> simp
    simp only [phQ, List.length_append, List.length_cons, List.length_nil]
    omega
theorem phQ_count (n : Nat) : (phQ n).count 63 = n := by
  induction n with
  | zero => rfl
  | succ i ih =>
    have h : (phC i).count 63 = 0 := by unfold phC; split <;> rfl
    rw [phQ, List.count_append, List.count_append, ih, h]
    rfl
theorem phW_len (pf : List UInt8) (n : Nat) (h : n ≤ 99) : (phW pf n).length ≤ (pf.length + 3) * n := by
  induction n with
  | zero => simp [phW]
  | succ i ih =>
    have h1 : (phC i).length ≤ 1 := by unfold phC; split <;> simp
    have h2 := dec_len (i + 1) h
    have h3 := ih (by omega)
    rw [phW, List.length_append, List.length_append, List.length_append, Nat.mul_succ]
    omega
theorem rep_snoc (i : Nat) : Lib.repeatL [44, 63] (i + 1) = Lib.repeatL [44, 63] i ++ [44, 63] := by
  induction i with
  | zero => rfl
  | succ i ih =>
    show [44, 63] ++ Lib.repeatL [44, 63] (i + 1) = ([44, 63] ++ Lib.repeatL [44, 63] i) ++ [44, 63]
    rw [ih, List.append_assoc]
theorem rep_drop (i : Nat) : (63 : UInt8) :: Lib.repeatL [44, 63] i = phQ (i + 1) := by
  induction i with
  | zero => rfl
  | succ i ih =>
    rw [rep_snoc, ← List.cons_append, ih]
    simp [phQ, phC]
theorem plh_str (i : Nat) : ((⟨(Lib.repeatL [44, 63] (i + 1)).toArray⟩ : ByteArray).extract 1 (⟨(Lib.repeatL [44, 63] (i + 1)).toArray⟩ : ByteArray).size) = ⟨(phQ (i + 1)).toArray⟩ := by
  refine ba_ext ?_
  rw [drop_extract, ← rep_drop]
  rfl
set_option maxHeartbeats 1000000 in
theorem Placeholders_is (z : Int) (n : Nat) (hz : z = n) (w : World) (hn : n ≤ 99) :
    Calls Tryd.prog 24 #[.int .i64 z] w fun e w' => e = .returned (.string ⟨(phQ n).toArray⟩) ∧ Below w.heap.size w w' := by
  have HC : Aside0 (Calls Tryd.prog 31 #[.int .i64 z] w fun e w' => e = .returned (.string ⟨(phQ n).toArray⟩) ∧ Below w.heap.size w w') := by
    constructor
    cases n with
    | zero =>
      subst hz
      go_enter Tryd.func31, Tryd.ntmps31
      go_wp2
      go_ret
      exact ⟨rfl, Below.refl _ _⟩
    | succ i =>
      have hz1 : 1 ≤ z := by omega
      have HP := Lib.hid (plh_str i)
      have HRP := Aside0.mk (Tryd.strings_Repeat ⟨#[44, 63]⟩ (i + 1) w (by omega) (by have e : (⟨#[44, 63]⟩ : ByteArray).size = 2 := rfl; rw [e]; omega))
      have hlen : 1 ≤ (⟨(Lib.repeatL [44, 63] (i + 1)).toArray⟩ : ByteArray).size := by
        rw [Lib.size_eq]
        simp [Lib.repeatL]
      rw [show (((i + 1 : Nat)) : Int) = z from hz.symm] at HRP
      generalize hX : (⟨(Lib.repeatL [44, 63] (i + 1)).toArray⟩ : ByteArray) = X at HP hlen
      have hX' : (⟨(Lib.repeatL (⟨#[44, 63]⟩ : ByteArray).data.toList (i + 1)).toArray⟩ : ByteArray) = X := hX
      rw [hX'] at HRP
      clear hX hX' hz
      go_enter Tryd.func31, Tryd.ntmps31
      go_wp2_with (go_at_call 40; refine HRP.out.mono ?_; rintro e w1 ⟨rfl, h1⟩; have H1 := Aside0.mk h1; clear h1)
      go_ret
      exact ⟨congrArg (fun s : ByteArray => Ending.returned (.string s)) HP.out, H1.out⟩
  clear hz
  go_enter Tryd.func24, Tryd.ntmps24
  go_wp2_with (go_at_call 31; refine HC.out.mono ?_; rintro e w1 ⟨rfl, h1⟩; have H1 := Aside0.mk h1; clear h1)
  go_ret
  exact ⟨rfl, H1.out⟩
set_option maxHeartbeats 4000000 in
theorem placeholdersForm_walk (a m : Int) (w : World) (ha : (Lit.int .u8 a).wf = true) (hm : (Lit.int .u8 m).wf = true) :
    Calls Tryd.prog 8 #[.int .u8 a, .int .u8 m] w fun e w' => e = .returned (.bool true) ∧ Below w.heap.size w w' := by
  have hmin : IntKind.u8.min = 0 := by decide
  have hmax : IntKind.u8.max = 255 := by decide
  have h : 0 ≤ a ∧ a ≤ 255 := by
    simp [Lit.wf] at ha
    omega
  have h' : 0 ≤ m ∧ m ≤ 255 := by
    simp [Lit.wf] at hm
    omega
  obtain ⟨h0, h1⟩ := h
  obtain ⟨n, hn⟩ := Int.eq_ofNat_of_zero_le h'.1
  obtain ⟨_, hn2⟩ := h'
  subst hn
  clear ha hm hmin hmax
  obtain ⟨k, hk⟩ : ∃ k, k = a % 3 := ⟨_, rfl⟩
  have hk0 : 0 ≤ k := by omega
  have hk2 : k ≤ 2 := by omega
  have HK := Lib.hid hk
  clear hk
  by_cases hn60 : n ≤ 60
  · go_enter Tryd.func8, Tryd.ntmps8
    go_wp2_with (go_at_call 19; refine (sign9_is a _ h0 h1).mono ?_; rintro e w2 ⟨he, h2⟩; rw [← HK.out] at he; generalize hPF : (⟨(signL k).toArray⟩ : ByteArray) = PF at he; subst he; have HPF := Lib.hid hPF; have HB := Aside0.mk h2; clear h2 hPF)
    have z4 : PF.size ≤ 2 := by rw [← HPF.out, Lib.size_eq]; exact signL_len k
    have e1 : (⟨#[44]⟩ : ByteArray).size = 1 := rfl
    go_loopw [7, 20] (fun ss si wr => ∃ (i : Nat) (S : ByteArray), ss = .string S ∧ si = .int .i64 i ∧ i ≤ n ∧ S.size ≤ 5 * i ∧ Aside0 (S.data.toList = phW (signL k) i) ∧ Aside0 (Below w.heap.size w wr)) (fun _ si _ => n - (intOf si).toNat)
    case atStart => exact ⟨0, ⟨#[]⟩, rfl, rfl, Nat.zero_le _, Nat.le_refl _, ⟨rfl⟩, HB⟩
    case round =>
      clear HB
      obtain ⟨i, S, rfl, rfl, hi, hz, HS, HB⟩ := hrel
      by_cases hlt : i < n
      · by_cases hi0 : i = 0
        · subst hi0
          go_wp2_with (go_at_call 18; refine (digits9_tell _ _ (0 + 1) (by omega) (by omega)).mono ?_; rintro e w3 ⟨⟨D, rfl, hD, hDz⟩, h2⟩; have HD := Lib.hid hD; have HB2 := Aside0.mk (below_step HB.out h2); clear h2 hD)
          go_roundw
          case rel =>
            refine ⟨0 + 1, _, rfl, by go_num, by omega, by rw [app_size', app_size']; omega, ⟨?_⟩, HB2⟩
            rw [app_data', app_data', HS.out, HD.out, ← HPF.out]
            simp [phW, phC]
          case measure => simp [intOf]; omega
        · have hi1 : (0 : Int) < (i : Int) := by omega
          go_wp2_with (go_at_call 18; refine (digits9_tell _ _ (i + 1) (by omega) (by omega)).mono ?_; rintro e w3 ⟨⟨D, rfl, hD, hDz⟩, h2⟩; have HD := Lib.hid hD; have HB2 := Aside0.mk (below_step HB.out h2); clear h2 hD)
          go_roundw
          case rel =>
            refine ⟨i + 1, _, rfl, by go_num, by omega, by rw [app_size', app_size', app_size', e1]; omega, ⟨?_⟩, HB2⟩
            rw [app_data', app_data', app_data', HS.out, HD.out, ← HPF.out]
            simp [phW, phC, hi0]
          case measure => simp [intOf]; omega
      · have hie : i = n := by omega
        subst hie
        have hQ : (⟨(phQ i).toArray⟩ : ByteArray).data.toList = phQ i := rfl
        have hout : (⟨(rp (signL k) (⟨(phQ i).toArray⟩ : ByteArray).data.toList false 0).toArray⟩ : ByteArray) = S := ba_ext (by rw [hQ, phQ_all, HS.out])
        have hlen : (rp (signL k) (⟨(phQ i).toArray⟩ : ByteArray).data.toList false 0).length ≤ 10000000 := by
          rw [hQ, phQ_all]
          have h1 := phW_len (signL k) i (by omega)
          have h2 := signL_len k
          have h3 : ((signL k).length + 3) * i ≤ 5 * i := Nat.mul_le_mul_right _ (by omega)
          omega
        have hcnt : (⟨(phQ i).toArray⟩ : ByteArray).data.toList.count 63 ≤ 98 := by rw [hQ, phQ_count]; omega
        have hsz : (⟨(phQ i).toArray⟩ : ByteArray).size ≤ 100000 := by
          rw [Lib.size_eq, hQ]
          have := phQ_len i
          omega
        have HOUT := Lib.hid hout
        have HRE := Aside0.mk (fun W => Replaced_is k ⟨(phQ i).toArray⟩ W hk0 hk2 hsz hcnt hlen)
        have HP1 := Aside0.mk (fun W => Placeholders_is 1 1 rfl W (by omega))
        have hq1 : (⟨(phQ 1).toArray⟩ : ByteArray) = ⟨#[63]⟩ := rfl
        rw [hq1] at HP1
        rw [hout] at HRE
        have HPN := Aside0.mk (fun W => Placeholders_is (i : Int) i rfl W (by omega))
        generalize (⟨(phQ i).toArray⟩ : ByteArray) = Q at HRE HPN
        clear hQ hout hlen hcnt hsz hq1 HOUT
        go_wp2_with (first | (go_at_call 24; first | (have hz := HD1; clear hz; refine (HP1.out _).mono ?_; rintro e w5 ⟨rfl, h2⟩; have HB5 := Aside0.mk (below_step HB4.out h2); clear h2) | (refine (HPN.out _).mono ?_; rintro e w3 ⟨rfl, h2⟩; have HB3 := Aside0.mk (below_step HB.out h2); have HD1 := trivial; clear h2)) | (go_at_call 20; refine (HRE.out _).mono ?_; rintro e w4 ⟨rfl, h2⟩; have HB4 := Aside0.mk (below_step HB3.out h2); clear h2))
        go_ret
        exact ⟨rfl, HB5.out⟩
  · have hn61 : (60 : Int) < (n : Int) := by omega
    go_enter Tryd.func8, Tryd.ntmps8
    go_wp2
    go_ret
    exact ⟨rfl, Below.refl _ _⟩
end Go.Proofs.YtklnlfmopmlmlaaDoor
