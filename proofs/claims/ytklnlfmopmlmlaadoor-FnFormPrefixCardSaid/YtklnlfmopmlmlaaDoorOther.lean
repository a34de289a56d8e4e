/- laws.swapped9; the walk of laws.FnFormOther. -/
import Derived.Test.YtklnlfmopmlmlaaDoorPlh
namespace Go.Proofs.YtklnlfmopmlmlaaDoor
open Go Go.RowKit Go.Proofs.YtklnlfmopmlmlaaDoorW.PrintWords
set_option linter.unusedVariables false
set_option maxRecDepth 100000

/-- A text of bytes and places of a sign. -/
def flatT (s : List UInt8) (l : List (Option UInt8)) : List UInt8 := l.flatMap fun | none => s | some b => [b]
def toks (l : List ByteArray) : Nat → List (Option UInt8)
  | 0 => []
  | k + 1 => toks l k ++ ((if k = 0 then [] else none :: (Lib.decDigits k).map some) ++ (l.getD k ⟨#[]⟩).data.toList.map some)
theorem flatT_app (s : List UInt8) (a b : List (Option UInt8)) : flatT s (a ++ b) = flatT s a ++ flatT s b := by simp [flatT]
theorem flatT_some (s l : List UInt8) : flatT s (l.map some) = l := by
  induction l with
  | nil => rfl
  | cons a r ih =>
    show a :: flatT s (r.map some) = a :: r
    rw [ih]
theorem toks_flat (s : List UInt8) (l : List ByteArray) (k : Nat) : flatT s (toks l k) = betw l (num s) k := by
  induction k with
  | zero => rfl
  | succ k ih =>
    rw [toks, betw, flatT_app, flatT_app, ih, flatT_some]
    by_cases hk : k = 0
    · rw [if_pos hk, if_pos hk]; rfl
    · rw [if_neg hk, if_neg hk]
      show _ ++ ((s ++ flatT s ((Lib.decDigits k).map some)) ++ _) = _
      rw [flatT_some, num]
/-- No byte is a sign's. -/
def TokOk (l : List (Option UInt8)) : Prop := ∀ b, some b ∈ l → b ≠ 36 ∧ b ≠ 58 ∧ b ≠ 64
theorem dec_bytes (m : Nat) (hm : m ≤ 99) : ∀ b ∈ Lib.decDigits m, b ≠ 36 ∧ b ≠ 58 ∧ b ≠ 64 := by
  have one : ∀ d : Nat, d < 10 → UInt8.ofNat (48 + d) ≠ 36 ∧ UInt8.ofNat (48 + d) ≠ 58 ∧ UInt8.ofNat (48 + d) ≠ 64 := by
    intro d hd
    rcases (show d = 0 ∨ d = 1 ∨ d = 2 ∨ d = 3 ∨ d = 4 ∨ d = 5 ∨ d = 6 ∨ d = 7 ∨ d = 8 ∨ d = 9 by omega) with rfl | rfl | rfl | rfl | rfl | rfl | rfl | rfl | rfl | rfl <;> decide
  intro b hb
  by_cases h1 : m < 10
  · rw [dec_last m h1, List.mem_singleton] at hb
    subst hb
    exact one m h1
  · rw [dec_step m h1, dec_last (m / 10) (by omega)] at hb
    simp only [List.singleton_append, List.mem_cons, List.not_mem_nil, or_false] at hb
    rcases hb with rfl | rfl
    · exact one _ (by omega)
    · exact one _ (by omega)
theorem bare_bytes {s : ByteArray} (h : BareOk s) : ∀ b ∈ s.data.toList, b ≠ 36 ∧ b ≠ 58 ∧ b ≠ 64 := by
  intro b hm
  obtain ⟨i, hi, he⟩ := List.getElem_of_mem hm
  have h1 := h.1 i (by rw [Lib.size_eq]; exact hi)
  have e : (s.data.toList[i]'hi) = s[i]'(by rw [Lib.size_eq]; exact hi) := rfl
  rw [← e, he] at h1
  exact ⟨fun e => h1.2.2.2.2.1 (by rw [e]; rfl), fun e => h1.2.2.2.1 (by rw [e]; rfl), fun e => h1.2.2.2.2.2 (by rw [e]; rfl)⟩
theorem toks_ok (l : List ByteArray) (h : AllBare l l.length) (hn : l.length ≤ 90) : ∀ k, k ≤ l.length → TokOk (toks l k) := by
  intro k
  induction k with
  | zero => intro _ b hb; cases hb
  | succ k ih =>
    intro hk b hb
    rw [toks] at hb
    rcases List.mem_append.1 hb with hb | hb
    · exact ih (by omega) b hb
    · rcases List.mem_append.1 hb with hb | hb
      · by_cases h0 : k = 0
        · rw [if_pos h0] at hb; cases hb
        · rw [if_neg h0] at hb
          rcases List.mem_cons.1 hb with hb | hb
          · cases hb
          · obtain ⟨c, hc, he⟩ := List.mem_map.1 hb
            injection he with he
            subst he
            exact dec_bytes k (by omega) c hc
      · obtain ⟨c, hc, he⟩ := List.mem_map.1 hb
        injection he with he
        subst he
        exact bare_bytes (h k (by omega)) c hc
/-- The sign's first byte. -/
theorem sign_head (k : Int) : ∃ c r, signL k = c :: r ∧ (c = 36 ∨ c = 58 ∨ c = 64) := by
  unfold signL
  split
  · exact ⟨36, [], rfl, .inl rfl⟩
  · split
    · exact ⟨58, [], rfl, .inr (.inl rfl)⟩
    · exact ⟨64, [112], rfl, .inr (.inr rfl)⟩
theorem ext_any (s : ByteArray) (i n : Nat) : (s.extract i (i + n)).toList = (s.data.toList.drop i).take n := by
  rw [Lib.toList_data]
  have e : (s.extract i (i + n)).data = s.data.extract i (i + n) := by simp
  rw [e, Array.toList_extract, List.extract_eq_take_drop, Nat.add_sub_cancel_left]
theorem betw_count (l : List ByteArray) (hq : NoQ l) : ∀ k, (betw l (fun _ => [63]) k).count 63 ≤ k := by
  intro k
  induction k with
  | zero => exact Nat.le_refl _
  | succ k ih =>
    rw [betw, List.count_append, List.count_append, List.count_eq_zero_of_not_mem (hq k)]
    by_cases hk : k = 0
    · rw [if_pos hk]; simp; omega
    · rw [if_neg hk]; simp; omega
theorem noq_of {l : List ByteArray} (h : AllBare l l.length) : NoQ l := by
  intro j
  by_cases hj : j < l.length
  · exact bare_63 (h j hj)
  · rw [List.getD_eq_getElem?_getD, List.getElem?_eq_none (by omega)]
    decide
set_option maxHeartbeats 4000000 in
theorem swapped9_is (A O R : ByteArray) (tk : List (Option UInt8)) (T : List UInt8) (k : Int) (w : World) (hO : O.data.toList = signL k) (hA : A.data.toList = flatT O.data.toList tk) (hT : T = flatT R.data.toList tk) (hok : TokOk tk) (hAz : A.size ≤ 100000) (hRz : R.size ≤ 1000) (hTz : T.length ≤ 10000000) :
    Calls Tryd.prog 21 #[.string A, .string O, .string R] w fun e w' => e = .returned (.string ⟨T.toArray⟩) ∧ w' = w := by
  have hOz : O.size ≤ 2 := by rw [Lib.size_eq, hO]; exact signL_len k
  have HO := Lib.hid hO
  have HA := Lib.hid hA
  have HT := Lib.hid hT
  have HOK := Aside0.mk hok
  have HTZ := Lib.hid hTz
  have HAS := Lib.hid (Lib.size_eq A)
  clear hO hA hT hok hTz
  go_enter Tryd.func21, Tryd.ntmps21
  go_wp2
  go_loop [7, 8] (fun so si => ∃ (i : Nat) (S : ByteArray), so = .string S ∧ si = .int .i64 i ∧ i ≤ A.size ∧ Aside0 (∃ r, TokOk r ∧ A.data.toList.drop i = flatT O.data.toList r ∧ S.data.toList ++ flatT R.data.toList r = T)) (fun _ si => A.size - (intOf si).toNat)
  case atStart => exact ⟨0, ⟨#[]⟩, rfl, rfl, Nat.zero_le _, ⟨tk, HOK.out, by rw [List.drop_zero]; exact HA.out, by rw [HT.out]; rfl⟩⟩
  case round =>
    obtain ⟨i, S, rfl, rfl, hi, HR⟩ := hrel
    obtain ⟨r, hr1, hr2, hr3⟩ := HR.out
    have hSz : S.size ≤ 10000000 := by
      have h1 := HTZ.out
      rw [← hr3, List.length_append, ← Lib.size_eq] at h1
      omega
    by_cases hlt : i < A.size
    · have hdl : (A.data.toList.drop i).length = A.size - i := by rw [List.length_drop, ← Lib.size_eq]
      rcases r with _ | ⟨_ | b, r⟩
      · rw [hr2] at hdl
        simp [flatT] at hdl
        omega
      · have hr2' : A.data.toList.drop i = O.data.toList ++ flatT O.data.toList r := hr2
        have hr3' : S.data.toList ++ (R.data.toList ++ flatT R.data.toList r) = T := hr3
        have hle : i + O.size ≤ A.size := by
          rw [hr2', List.length_append, ← Lib.size_eq] at hdl
          omega
        have heq : ((A.extract i (i + O.size)).toList == O.toList) = true := by
          rw [ext_any, hr2', Lib.toList_data, Lib.size_eq, List.take_left']
          · exact beq_self_eq_true _
          · rfl
        have hle2 : (i : Int) + (O.size : Int) ≤ (A.size : Int) := by omega
        have hos : 0 < O.size := by
          obtain ⟨c, rr, e, _⟩ := sign_head k
          rw [Lib.size_eq, HO.out, e]
          simp
        have HD := Lib.hid (show A.data.toList.drop (i + O.size) = flatT O.data.toList r by rw [← List.drop_drop, hr2', Lib.size_eq, List.drop_left'] <;> rfl)
        have H3 := Lib.hid (show (S ++ R).data.toList ++ flatT R.data.toList r = T by rw [app_data', List.append_assoc]; exact hr3')
        have HR1 := Aside0.mk (show TokOk r from fun b hb => hr1 b (List.mem_cons_of_mem _ hb))
        clear hr1 hr2 hr3 hr2' hr3' hdl HR
        go_wp2
        go_round
        case rel => exact ⟨i + O.size, _, rfl, by go_num, by omega, ⟨r, HR1.out, HD.out, H3.out⟩⟩
        case measure => simp [intOf]; omega
      · have hr2' : A.data.toList.drop i = b :: flatT O.data.toList r := hr2
        have hr3' : S.data.toList ++ (b :: flatT R.data.toList r) = T := hr3
        have hb := hr1 b (by simp)
        have hext : (A.extract i (i + 1)) = ⟨#[b]⟩ := ba_ext (by rw [← Lib.toList_data, ext_any, hr2']; rfl)
        have hor : (A.size : Int) < (i : Int) + (O.size : Int) ∨ ((i : Int) + (O.size : Int) ≤ (A.size : Int) ∧ ((A.extract i (i + O.size)).toList == O.toList) = false) := by
          by_cases hle : i + O.size ≤ A.size
          · refine .inr ⟨by omega, ?_⟩
            obtain ⟨c, rr, e, hc⟩ := sign_head k
            rw [ext_any, hr2', Lib.toList_data, Lib.size_eq, HO.out, e]
            simp only [List.length_cons, List.take_succ_cons]
            cases hbq : (b :: (flatT (c :: rr) r).take rr.length == c :: rr) with
            | false => rfl
            | true =>
              have h5 := eq_of_beq hbq
              injection h5 with h5 _
              subst h5
              rcases hc with hc | hc | hc
              · exact absurd hc hb.1
              · exact absurd hc hb.2.1
              · exact absurd hc hb.2.2
          · exact .inl (by omega)
        have HD := Lib.hid (show A.data.toList.drop (i + 1) = flatT O.data.toList r by rw [← List.drop_drop, hr2']; rfl)
        have H3 := Lib.hid (show (S ++ ⟨#[b]⟩ : ByteArray).data.toList ++ flatT R.data.toList r = T by rw [app_data', List.append_assoc]; exact hr3')
        have HR1 := Aside0.mk (show TokOk r from fun b hb => hr1 b (List.mem_cons_of_mem _ hb))
        clear hr1 hr2 hr3 hr2' hr3' hdl HR hb
        have e1 : (⟨#[b]⟩ : ByteArray).size = 1 := rfl
        rcases hor with ho | ⟨ho1, ho2⟩
        all_goals
          go_wp2
          go_round
          case rel => exact ⟨i + 1, _, rfl, by go_num, by omega, ⟨r, HR1.out, HD.out, H3.out⟩⟩
          case measure => simp [intOf]; omega
    · have hie : i = A.size := by omega
      subst hie
      have hnil : r = [] := by
        rw [List.drop_eq_nil_of_le (by rw [← Lib.size_eq]; exact Nat.le_refl _)] at hr2
        rcases r with _ | ⟨_ | b, r⟩
        · rfl
        · have hr2' : [] = O.data.toList ++ flatT O.data.toList r := hr2
          obtain ⟨c, rr, e, _⟩ := sign_head k
          rw [HO.out, e] at hr2'
          cases hr2'
        · have hr2' : [] = b :: flatT O.data.toList r := hr2
          cases hr2'
      subst hnil
      have hfin : S = ⟨T.toArray⟩ := ba_ext (by rw [← hr3]; simp [flatT])
      have HF := Lib.hid hfin
      clear hfin hr1 hr2 hr3 HR
      go_wp2
      go_ret
      exact ⟨congrArg (fun s : ByteArray => Ending.returned (.string s)) HF.out, rfl⟩
theorem betw_len2 (l : List ByteArray) (m : Nat → List UInt8) (M : Nat) (hm : ∀ i, i ≤ 99 → (m i).length ≤ M) (hl : ∀ j, (l.getD j ⟨#[]⟩).size ≤ 100) : ∀ k, k ≤ 99 → (betw l m k).length ≤ (100 + M) * k := by
  intro k
  induction k with
  | zero => intro _; simp [betw]
  | succ k ih =>
    intro hk9
    have h0 := ih (by omega)
    have h1 := hm k (by omega)
    have h2 := hl k
    rw [Lib.size_eq] at h2
    rw [betw, List.length_append, List.length_append, Nat.mul_succ]
    by_cases hk : k = 0
    · rw [if_pos hk]; simp only [List.length_nil]; omega
    · rw [if_neg hk]; omega
theorem num_len (pf : List UInt8) (i : Nat) (h : i ≤ 99) : (num pf i).length ≤ pf.length + 2 := by
  have := dec_len i h
  simp only [num, List.length_append]
  omega
theorem bare_size {l : List ByteArray} (h : AllBare l l.length) : ∀ j, (l.getD j ⟨#[]⟩).size ≤ 100 := by
  intro j
  by_cases hj : j < l.length
  · exact (h j hj).2
  · rw [List.getD_eq_getElem?_getD, List.getElem?_eq_none (by omega)]
    decide
/-- What between9 gives, with question marks: one text. -/
theorem between9_q (ss : List ByteArray) (A : Option Addr) (c : Nat) (w : World) (hr : Kd.string.C w A ss.length ss) (hn : ss.length ≤ 20) (hl : ∀ j, (ss.getD j ⟨#[]⟩).size ≤ 100) :
    Calls Tryd.prog 12 #[.slice A ss.length c, .func (.func 13) #[] #[]] w fun e w' => e = .returned (.string ⟨(betw ss (fun _ => [63]) ss.length).toArray⟩) ∧ w' = w := by
  refine (between9_question ss A c w hr hn hl).mono ?_
  rintro e w' ⟨⟨S, rfl, hS, _⟩, rfl⟩
  exact ⟨congrArg (fun s : ByteArray => Ending.returned (.string s)) (ba_ext (by rw [hS])), rfl⟩
/-- The text with question marks: what is asked of it. -/
structure QText (ss : List ByteArray) (Q : ByteArray) : Prop where
  size : Q.size ≤ 3000
  count : Q.data.toList.count 63 ≤ 98
  run : ∀ pf, rp pf Q.data.toList false 0 = betw ss (num pf) ss.length
theorem qtext {ss : List ByteArray} (hb : AllBare ss ss.length) (hf : FullL ss) (hn : ss.length ≤ 20) : QText ss ⟨(betw ss (fun _ => [63]) ss.length).toArray⟩ := by
  have e : (⟨(betw ss (fun _ => [63]) ss.length).toArray⟩ : ByteArray).data.toList = betw ss (fun _ => [63]) ss.length := rfl
  refine ⟨?_, ?_, fun pf => ?_⟩
  · rw [Lib.size_eq, e]
    have := betw_len2 ss (fun _ => [63]) 1 (fun _ _ => Nat.le_refl _) (bare_size hb) ss.length (by omega)
    omega
  · rw [e]
    have := betw_count ss (noq_of hb) ss.length
    omega
  · rw [e, rp_betw_all pf ss (noq_of hb) hf]
theorem btext_len {ss : List ByteArray} (hb : AllBare ss ss.length) (hn : ss.length ≤ 20) (pf : List UInt8) (hp : pf.length ≤ 1000) : (betw ss (num pf) ss.length).length ≤ 30000 := by
  have := betw_len2 ss (num pf) (pf.length + 2) (fun i hi => num_len pf i hi) (bare_size hb) ss.length (by omega)
  have h2 : (100 + (pf.length + 2)) * ss.length ≤ 1102 * 20 := Nat.mul_le_mul (by omega) hn
  omega
set_option maxHeartbeats 4000000 in
theorem formOther_walk (a b : Int) (ss : List ByteArray) (A : Option Addr) (c : Nat) (w : World) (ha : (Lit.int .u8 a).wf = true) (hb : (Lit.int .u8 b).wf = true) (hr : Kd.string.C w A ss.length ss) :
    Calls Tryd.prog 5 #[.int .u8 a, .int .u8 b, .slice A ss.length c] w fun e w' => e = .returned (.bool true) ∧ Below w.heap.size w w' := by
  have hmin : IntKind.u8.min = 0 := by decide
  have hmax : IntKind.u8.max = 255 := by decide
  have h : 0 ≤ a ∧ a ≤ 255 := by
    simp [Lit.wf] at ha
    omega
  have h' : 0 ≤ b ∧ b ≤ 255 := by
    simp [Lit.wf] at hb
    omega
  obtain ⟨h0, h1⟩ := h
  obtain ⟨g0, g1⟩ := h'
  clear ha hb hmin hmax
  obtain ⟨k, hk⟩ : ∃ k, k = a % 3 := ⟨_, rfl⟩
  obtain ⟨m, hm⟩ : ∃ m, m = b % 3 := ⟨_, rfl⟩
  have hk0 : 0 ≤ k := by omega
  have hk2 : k ≤ 2 := by omega
  have hm0 : 0 ≤ m := by omega
  have hm2 : m ≤ 2 := by omega
  have HK := Lib.hid hk
  have HM := Lib.hid hm
  have HR := Aside0.mk hr
  clear hk hm hr
  obtain ⟨P1, hP1⟩ : ∃ P1 : ByteArray, P1 = ⟨(signL k).toArray⟩ := ⟨_, rfl⟩
  obtain ⟨P2, hP2⟩ : ∃ P2 : ByteArray, P2 = ⟨(signL m).toArray⟩ := ⟨_, rfl⟩
  have HP1 := Lib.hid hP1
  have HP2 := Lib.hid hP2
  clear hP1 hP2
  go_enter Tryd.func5, Tryd.ntmps5
  go_wp2_with (first | (go_at_call 10; refine (zzFits2_any ss _ _ _ HR.out).mono ?_; rintro e w1 ⟨⟨b, rfl, _⟩, rfl⟩; cases b) | (go_at_call 11; refine (bare9_any ss _ _ _ HR.out).mono ?_; rintro e w3 ⟨⟨b', rfl, hb3⟩, rfl⟩; have HBR := Aside0.mk hb3; clear hb3; cases b') | (go_at_call 15; refine (full9_any ss _ _ _ HR.out).mono ?_; rintro e w3 ⟨⟨b', rfl, hb3⟩, rfl⟩; have HFL := Aside0.mk hb3; clear hb3; cases b') | (go_at_call 19; first | (have hz := HD1; clear hz; refine (sign9_is b _ g0 g1).mono ?_; rintro e w5 ⟨he, h2⟩; rw [← HM.out, ← HP2.out] at he; subst he; have HB2 := Aside0.mk (below_step HB1.out h2); clear h2) | (refine (sign9_is a _ h0 h1).mono ?_; rintro e w4 ⟨he, h2⟩; rw [← HK.out, ← HP1.out] at he; subst he; have HB1 := Aside0.mk h2; have HD1 := trivial; clear h2)))
  all_goals first | (go_ret; exact ⟨rfl, Below.refl _ _⟩) | skip
  have hbr := HBR.out (by first | rfl | trivial)
  have hfl := HFL.out (by first | rfl | trivial)
  have hn20 := hbr.1
  have hQT := qtext hbr.2 hfl hbr.1
  have hL1 := btext_len hbr.2 hbr.1 (signL k) (by have := signL_len k; omega)
  have hL2 := btext_len hbr.2 hbr.1 (signL m) (by have := signL_len m; omega)
  have hBT := fun (W : World) (hW : Below w.heap.size w W) => between9_q ss A c W (Kd.C_below HR.out hW) hbr.1 (bare_size hbr.2)
  generalize (⟨(betw ss (fun _ => [63]) ss.length).toArray⟩ : ByteArray) = Q at hQT hBT
  have hR1 := fun W => Replaced_is k Q W hk0 hk2 (by have := hQT.size; omega) hQT.count (by rw [hQT.run]; omega)
  have hR2 := fun W => Replaced_is m Q W hm0 hm2 (by have := hQT.size; omega) hQT.count (by rw [hQT.run]; omega)
  rw [hQT.run] at hR1 hR2
  have hP1d : P1.data.toList = signL k := by rw [HP1.out]
  have hP2d : P2.data.toList = signL m := by rw [HP2.out]
  have hX : ∀ X1 : ByteArray, X1 = ⟨(betw ss (num (signL k)) ss.length).toArray⟩ → ∀ W, Calls Tryd.prog 21 #[.string X1, .string P1, .string P2] W fun e w' => e = .returned (.string ⟨(betw ss (num (signL m)) ss.length).toArray⟩) ∧ w' = W := by
    rintro X1 rfl W
    have e1 : (⟨(betw ss (num (signL k)) ss.length).toArray⟩ : ByteArray).data.toList = betw ss (num (signL k)) ss.length := rfl
    exact swapped9_is _ P1 P2 (toks ss ss.length) _ k W hP1d (by rw [e1, hP1d, toks_flat]) (by rw [hP2d, toks_flat]) (toks_ok ss hbr.2 (by omega) _ (Nat.le_refl _)) (by rw [Lib.size_eq, e1]; omega) (by rw [Lib.size_eq, hP2d]; have := signL_len m; omega) (by omega)
  obtain ⟨X1, hX1⟩ : ∃ X1 : ByteArray, X1 = ⟨(betw ss (num (signL k)) ss.length).toArray⟩ := ⟨_, rfl⟩
  obtain ⟨X2, hX2⟩ : ∃ X2 : ByteArray, X2 = ⟨(betw ss (num (signL m)) ss.length).toArray⟩ := ⟨_, rfl⟩
  have hSW := hX X1 hX1
  rw [← hX1] at hR1
  rw [← hX2] at hR2 hSW
  have R1 := Aside0.mk hR1
  have R2 := Aside0.mk hR2
  have SW := Aside0.mk hSW
  have BT := Aside0.mk hBT
  clear hX1 hX2 hX hR1 hR2 hSW hBT hQT hL1 hL2 hbr hfl HBR HFL hP1d hP2d HD1
  go_wp2_with (first | (go_at_call 12; first | (have hz := HD3; clear hz; refine (BT.out _ HB3.out).mono ?_; rintro e w6 ⟨rfl, rfl⟩) | (refine (BT.out _ HB2.out).mono ?_; rintro e w6 ⟨rfl, rfl⟩)) | (go_at_call 20; first | (have hz := HD3; clear hz; refine (R2.out _).mono ?_; rintro e w8 ⟨rfl, h2⟩; have HB4 := Aside0.mk (below_step HB3.out h2); clear h2) | (refine (R1.out _).mono ?_; rintro e w7 ⟨rfl, h2⟩; have HB3 := Aside0.mk (below_step HB2.out h2); have HD3 := trivial; clear h2)) | (go_at_call 21; refine (SW.out _).mono ?_; rintro e w9 ⟨rfl, rfl⟩))
  go_ret
  exact ⟨rfl, HB4.out⟩
end Go.Proofs.YtklnlfmopmlmlaaDoor
