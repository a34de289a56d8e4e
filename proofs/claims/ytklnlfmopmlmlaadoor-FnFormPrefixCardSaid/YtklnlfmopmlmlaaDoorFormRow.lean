/- The walk of laws.FnFormRow. -/
import Derived.Test.YtklnlfmopmlmlaaDoorSign
namespace Go.Proofs.YtklnlfmopmlmlaaDoor
open Go Go.RowKit Go.Proofs.YtklnlfmopmlmlaaDoorW.PrintWords
set_option linter.unusedVariables false
set_option maxRecDepth 100000

theorem bare_63 {s : ByteArray} (h : BareOk s) : (63 : UInt8) ∉ s.data.toList := by
  intro hm
  obtain ⟨i, hi, he⟩ := List.getElem_of_mem hm
  have h1 := h.1 i (by rw [Lib.size_eq]; exact hi)
  have e : (s.data.toList[i]'hi) = s[i]'(by rw [Lib.size_eq]; exact hi) := rfl
  rw [← e, he] at h1
  exact h1.2.2.1 rfl
theorem signL_len (k : Int) : (signL k).length ≤ 2 := by
  unfold signL
  split
  · simp
  · split <;> simp
def rowOut (pf a : List UInt8) (n : Nat) (b : List UInt8) : List UInt8 := a ++ (List.replicate (n / 2) 63 ++ (if n % 2 = 1 then pf ++ [49] else []) ++ b)
theorem row_run (pf : List UInt8) {a b : List UInt8} (ha : (63 : UInt8) ∉ a) (hb : (63 : UInt8) ∉ b) (n : Nat) : rp pf (a ++ List.replicate n 63 ++ b) false 0 = rowOut pf a n b := by
  rw [List.append_assoc, rp_pre _ _ _ _ ha, rp_row pf b hb n 0, rowOut]
  have e : Lib.decDigits (0 + 1) = [49] := by rw [dec_last _ (by omega)]; rfl
  rw [e]
theorem row_len (pf a b : List UInt8) (n : Nat) : (rowOut pf a n b).length ≤ a.length + n + pf.length + 1 + b.length := by
  unfold rowOut
  by_cases h : n % 2 = 1
  · rw [if_pos h]; simp; omega
  · rw [if_neg h]; simp; omega
theorem row_count {a b : List UInt8} (ha : (63 : UInt8) ∉ a) (hb : (63 : UInt8) ∉ b) (n : Nat) : (a ++ List.replicate n 63 ++ b).count 63 = n := by
  rw [List.count_append, List.count_append, List.count_eq_zero_of_not_mem ha, List.count_eq_zero_of_not_mem hb, List.count_replicate_self]
  omega
set_option maxHeartbeats 4000000 in
theorem formRow_walk (a m : Int) (x y : ByteArray) (w : World) (ha : (Lit.int .u8 a).wf = true) (hm : (Lit.int .u8 m).wf = true) (hx : x.size ≤ maxLen) (hy : y.size ≤ maxLen) :
    Calls Tryd.prog 6 #[.int .u8 a, .int .u8 m, .string x, .string y] w fun e w' => e = .returned (.bool true) ∧ Below w.heap.size w w' := by
  have hmin : IntKind.u8.min = 0 := by decide
  have hmax : IntKind.u8.max = 255 := by decide
  have h : 0 ≤ a ∧ a ≤ 255 := by
    simp [Lit.wf] at ha
    omega
  have h' : 0 ≤ m ∧ m ≤ 255 := by
    simp [Lit.wf] at hm
    omega
  obtain ⟨h0, h1⟩ := h
  obtain ⟨n, hn⟩ := Int.eq_ofNat_of_zero_le h'.1
  obtain ⟨_, hn2⟩ := h'
  subst hn
  clear ha hm hmin hmax
  unfold maxLen at hx hy
  obtain ⟨k, hk⟩ : ∃ k, k = a % 3 := ⟨_, rfl⟩
  have hk0 : 0 ≤ k := by omega
  have hk2 : k ≤ 2 := by omega
  have HK := Lib.hid hk
  clear hk
  go_enter Tryd.func6, Tryd.ntmps6
  go_wp2_with (first | (go_at_call 11; refine (bare9_any [x, y] _ _ _ (reads_lit2 Kd.string _ w.heap.size 9 [.string x] [.string y] x y (blk_new _ _) rfl rfl)).mono ?_; rintro e w3 ⟨⟨b', rfl, hb3⟩, rfl⟩; have HBR := Aside0.mk hb3; clear hb3; cases b') | (go_at_call 19; refine (sign9_is a _ h0 h1).mono ?_; rintro e w2 ⟨he, h2⟩; rw [← HK.out] at he; generalize hPF : (⟨(signL k).toArray⟩ : ByteArray) = PF at he; subst he; have HPF := Lib.hid hPF; have HB := Aside0.mk (below_step (below_alloc (Below.refl _ _) _) h2); clear h2 hPF))
  all_goals first | (go_ret; exact ⟨rfl, by first | exact Below.refl _ _ | exact below_alloc (Below.refl _ _) _⟩) | skip
  have HX : Aside0 (BareOk x) := Aside0.mk ((HBR.out (by first | rfl | trivial)).2 0 (by simp))
  have HY : Aside0 (BareOk y) := Aside0.mk ((HBR.out (by first | rfl | trivial)).2 1 (by simp))
  have z2 : x.size ≤ 100 := HX.out.2
  have z3 : y.size ≤ 100 := HY.out.2
  have z4 : PF.size ≤ 2 := by rw [← HPF.out, Lib.size_eq]; exact signL_len k
  have hn60 : n ≤ 60 := by omega
  have e1 : (⟨#[63]⟩ : ByteArray).size = 1 := rfl
  have e2 : (⟨#[49]⟩ : ByteArray).size = 1 := rfl
  go_loop [11, 40] (fun ss si => ∃ (i : Nat) (S : ByteArray), ss = .string S ∧ si = .int .u8 i ∧ i ≤ n ∧ S.size = x.size + i ∧ Aside0 (S.data.toList = x.data.toList ++ List.replicate i 63)) (fun _ si => n - (intOf si).toNat)
  case atStart => exact ⟨0, x, rfl, rfl, Nat.zero_le _, rfl, ⟨by simp⟩⟩
  case round =>
    obtain ⟨i, S, rfl, rfl, hi, hz, HS⟩ := hrel
    by_cases hlt : i < n
    · go_wp2
      go_round
      case rel =>
        refine ⟨i + 1, _, rfl, by go_num, by omega, by rw [app_size', e1]; omega, ⟨?_⟩⟩
        rw [app_data', HS.out, List.replicate_succ']
        simp
      case measure => simp [intOf]; omega
    · have hie : i = n := by omega
      subst hie
      go_wp2
      go_loop [12, 47] (fun ss si => ∃ (j : Nat) (W0 : ByteArray), ss = .string W0 ∧ si = .int .u8 j ∧ j ≤ i / 2 ∧ W0.size = x.size + j ∧ Aside0 (W0.data.toList = x.data.toList ++ List.replicate j 63)) (fun _ si => i / 2 - (intOf si).toNat)
      case atStart => exact ⟨0, x, rfl, rfl, Nat.zero_le _, rfl, ⟨by simp⟩⟩
      case round =>
        obtain ⟨j, W0, rfl, rfl, hj, hz5, HW⟩ := hrel
        by_cases hlt : j < i / 2
        · have hlt2 : (j : Int) < (i : Int) / 2 := by omega
          go_wp2
          go_round
          case rel =>
            refine ⟨j + 1, _, rfl, by go_num, by omega, by rw [app_size', e1]; omega, ⟨?_⟩⟩
            rw [app_data', HW.out, List.replicate_succ']
            simp
          case measure => simp [intOf]; omega
        · have hje : j = i / 2 := by omega
          have hlt2 : ¬ (j : Int) < (i : Int) / 2 := by omega
          have hrun : rp (signL k) (S ++ y).data.toList false 0 = rowOut (signL k) x.data.toList i y.data.toList := by
            rw [app_data', HS.out, row_run _ (bare_63 HX.out) (bare_63 HY.out)]
          have hcnt : (S ++ y).data.toList.count 63 ≤ 98 := by
            rw [app_data', HS.out, row_count (bare_63 HX.out) (bare_63 HY.out)]
            omega
          have hlen : (rowOut (signL k) x.data.toList i y.data.toList).length ≤ 10000000 := by
            have h1 := row_len (signL k) x.data.toList y.data.toList i
            have h2 := signL_len k
            rw [← Lib.size_eq, ← Lib.size_eq] at h1
            omega
          have HRUN := Lib.hid hrun
          have HCNT := Lib.hid hcnt
          have HLEN := Lib.hid hlen
          have HJE := Lib.hid hje
          clear hrun hcnt hlen hje
          by_cases hodd : i % 2 = 1
          · have hod : ((i : Int) % 2 == 1) = true := by
              have : (i : Int) % 2 = 1 := by omega
              simpa using this
            have hout : (⟨(rowOut (signL k) x.data.toList i y.data.toList).toArray⟩ : ByteArray) = W0 ++ (PF ++ ⟨#[49]⟩) ++ y := ba_ext (by simp [rowOut, hodd, HW.out, HJE.out, ← HPF.out])
            have HOUT := Lib.hid hout
            clear hout hodd
            go_wp2_with (go_at_call 20; refine (Replaced_is k (S ++ y) _ hk0 hk2 (by rw [app_size']; omega) HCNT.out (by rw [HRUN.out]; exact HLEN.out)).mono ?_; rintro e w3 ⟨he, h2⟩; rw [HRUN.out, HOUT.out] at he; subst he; have HB3 := Aside0.mk (below_step HB.out h2); clear h2)
            go_ret
            exact ⟨rfl, HB3.out⟩
          · have hod : ((i : Int) % 2 == 1) = false := by
              have : ¬ (i : Int) % 2 = 1 := by omega
              simpa using this
            have hout : (⟨(rowOut (signL k) x.data.toList i y.data.toList).toArray⟩ : ByteArray) = W0 ++ y := ba_ext (by simp [rowOut, hodd, HW.out, HJE.out])
            have HOUT := Lib.hid hout
            clear hout hodd
            go_wp2_with (go_at_call 20; refine (Replaced_is k (S ++ y) _ hk0 hk2 (by rw [app_size']; omega) HCNT.out (by rw [HRUN.out]; exact HLEN.out)).mono ?_; rintro e w3 ⟨he, h2⟩; rw [HRUN.out, HOUT.out] at he; subst he; have HB3 := Aside0.mk (below_step HB.out h2); clear h2)
            go_ret
            exact ⟨rfl, HB3.out⟩
end Go.Proofs.YtklnlfmopmlmlaaDoor
