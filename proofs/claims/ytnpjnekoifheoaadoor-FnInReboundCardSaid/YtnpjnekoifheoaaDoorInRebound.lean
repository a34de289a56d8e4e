/- The walk of laws.FnInRebound. -/
import Derived.Test.YtnpjnekoifheoaaDoorExpd
import Derived.Test.YtnpjnekoifheoaaDoorDigits
import Derived.Test.YtnpjnekoifheoaaDoorRebindK
import Derived.Test.YtnpjnekoifheoaaDoorFlat
import Derived.BigGuardPart
namespace Go.Proofs.YtnpjnekoifheoaaDoor
open Go Go.RowKit Go.Proofs.YtnpjnekoifheoaaDoorW.PrintWords
set_option linter.unusedVariables false
set_option maxRecDepth 100000

/-- The names of the placeholders with their numbers, from 2 on, with commas between. -/
def signs (sg : List UInt8) : Nat → List UInt8
  | 0 => []
  | k + 1 => signs sg k ++ ((if k = 0 then [] else [44, 32]) ++ (sg ++ Lib.decDigits (k + 2)))
theorem itoa_dec (n : Nat) : Lib.itoa (n : Int) = Lib.decDigits n := by
  unfold Lib.itoa
  rw [if_neg (by omega)]
  rfl
/-- Numbers from j + 1 on, each behind a comma. -/
def more (sg : List UInt8) : Nat → Nat → List UInt8
  | _, 0 => []
  | j, n + 1 => [44, 32] ++ (sg ++ Lib.decDigits (j + 1)) ++ more sg (j + 1) n
theorem more_snoc (sg : List UInt8) (n : Nat) : ∀ j, more sg j (n + 1) = more sg j n ++ ([44, 32] ++ (sg ++ Lib.decDigits (j + n + 1))) := by
  induction n with
  | zero => intro j; simp [more]
  | succ n ih =>
    intro j
    rw [more, ih (j + 1), more]
    have e : j + 1 + n + 1 = j + (n + 1) + 1 := by omega
    rw [e]
    simp
theorem signs_more (sg : List UInt8) (n : Nat) : signs sg (n + 1) = sg ++ Lib.decDigits 2 ++ more sg 2 n := by
  induction n with
  | zero => simp [signs, more]
  | succ n ih =>
    rw [signs, ih, more_snoc, if_neg (by omega)]
    have e : 2 + n + 1 = n + 1 + 2 := by omega
    rw [e]
    simp
theorem rb_more (sg : List UInt8) (n : Nat) (r : List UInt8) (hr : (63 : UInt8) ∉ r) : ∀ j, rb sg ((List.replicate n [44, 32, 63]).flatten ++ r) j = more sg j n ++ r := by
  induction n with
  | zero => intro j; simp [more, rb_none _ _ _ hr]
  | succ n ih =>
    intro j
    rw [List.replicate_succ, List.flatten_cons]
    have e : [44, 32, 63] ++ (List.replicate n [44, 32, 63]).flatten ++ r = [44, 32] ++ (63 :: ((List.replicate n [44, 32, 63]).flatten ++ r)) := by simp
    rw [e, rb_pre _ _ _ _ (by decide), rb, if_pos rfl, ih (j + 1), more, itoa_dec]
    simp
/-- Question marks with commas between, numbered from 2 on. -/
theorem rb_marks (sg : List UInt8) (n : Nat) (r : List UInt8) (hr : (63 : UInt8) ∉ r) : rb sg (63 :: ((List.replicate n [44, 32, 63]).flatten ++ r)) 1 = signs sg (n + 1) ++ r := by
  rw [rb, if_pos rfl, rb_more sg n r hr, signs_more, itoa_dec]
  simp
def qT : List UInt8 := [97, 32, 61, 32, 63, 32, 65, 78, 68, 32, 98, 32, 73, 78, 32, 40, 63, 41]
theorem expand_T (lp : List PI) : expand qT ([some PI.nil, none].map (toIV lp)) = [97, 32, 61, 32] ++ 63 :: ([32, 65, 78, 68, 32, 98, 32, 73, 78, 32, 40] ++ 63 :: ((List.replicate (lp.length - 1) [44, 32, 63]).flatten ++ [41])) := by
  show expand ([97, 32, 61, 32] ++ 63 :: ([32, 65, 78, 68, 32, 98, 32, 73, 78, 32, 40] ++ 63 :: [41])) [.one .nil, .many lp] = _
  rw [expand_pre _ _ _ (by decide), expand, if_pos rfl, expand_pre _ _ _ (by decide), expand, if_pos rfl, expand_nil]
  simp [IV.ph, IV.flat]
theorem app_data' (s t : ByteArray) : (s ++ t).data.toList = s.data.toList ++ t.data.toList := by simp
theorem app_size' (s t : ByteArray) : (s ++ t).size = s.size + t.size := by simp
theorem dec_two (m : Nat) (h : m ≤ 99) : (Lib.decDigits m).length ≤ 2 := by
  by_cases h1 : m < 10
  · rw [dec_last m h1]; simp
  · rw [dec_step m h1, dec_last (m / 10) (by omega)]; simp
theorem digits9_int (n : Int) (w : World) (m : Nat) (hn : n = m) (hm : m ≤ 99) : Calls Tryd.prog 19 #[.int .i64 n] w fun e w' => (∃ D : ByteArray, e = .returned (.string D) ∧ D.data.toList = Lib.decDigits m ∧ D.size ≤ 2) ∧ Below w.heap.size w w' := by
  subst hn
  refine (digits9_is m w (by omega)).mono ?_
  rintro e w' ⟨rfl, h⟩
  refine ⟨⟨_, rfl, by simp, ?_⟩, h⟩
  rw [Lib.size_eq]
  simpa using dec_two m hm
theorem dec_1 : Lib.decDigits 1 = [49] := by rw [dec_last 1 (by omega)]; rfl
theorem rb_T (sg : List UInt8) (lp : List PI) (h : 0 < lp.length) : rb sg (expand qT ([some PI.nil, none].map (toIV lp))) 0 = [97, 32, 61, 32] ++ sg ++ [49, 32, 65, 78, 68, 32, 98, 32, 73, 78, 32, 40] ++ signs sg lp.length ++ [41] := by
  have e : lp.length - 1 + 1 = lp.length := by omega
  rw [expand_T, rb_pre _ _ _ _ (by decide), rb, if_pos rfl, rb_pre _ _ _ _ (by decide), rb_marks _ _ _ (by decide), e, itoa_dec, dec_1]
  simp
theorem signs_len (sg : List UInt8) (hsg : sg.length ≤ 4) (k : Nat) (hk : k ≤ 90) : (signs sg k).length ≤ 8 * k := by
  induction k with
  | zero => simp [signs]
  | succ k ih =>
    have h1 := ih (by omega)
    have h2 := dec_two (k + 2) (by omega)
    rw [signs, List.length_append, List.length_append, List.length_append]
    by_cases hk0 : k = 0
    · rw [if_pos hk0]; simp only [List.length_nil]; omega
    · rw [if_neg hk0]; simp only [List.length_cons, List.length_nil]; omega
theorem rbX_size {X : ByteArray} {lp : List PI} {n : Nat} (h : X = ⟨(expand qT ([some PI.nil, none].map (toIV lp))).toArray⟩) (hn : n ≤ 20) (hl : lp.length = n) : X.size ≤ 100000 := by
  rw [h, Lib.size_eq, expand_T]
  simp
  omega
theorem rbX_len {sg : List UInt8} {X : ByteArray} {lp : List PI} {n : Nat} (hsg : sg.length ≤ 4) (h : X = ⟨(expand qT ([some PI.nil, none].map (toIV lp))).toArray⟩) (h0 : 0 < n) (hn : n ≤ 20) (hl : lp.length = n) : (rb sg X.data.toList 0).length ≤ 10000000 := by
  have e : X.data.toList = expand qT ([some PI.nil, none].map (toIV lp)) := by rw [h]
  have h1 := signs_len sg hsg lp.length (by omega)
  rw [e, rb_T sg lp (by omega)]
  simp
  omega
theorem rb_fin {sg : List UInt8} {X S : ByteArray} {lp : List PI} {n : Nat} (h : X = ⟨(expand qT ([some PI.nil, none].map (toIV lp))).toArray⟩) (hS : S.data.toList = [97, 32, 61, 32] ++ sg ++ [49, 32, 65, 78, 68, 32, 98, 32, 73, 78, 32, 40] ++ signs sg n) (h0 : 0 < n) (hl : lp.length = n) : (⟨(rb sg X.data.toList 0).toArray⟩ : ByteArray) = S ++ ⟨#[41]⟩ := by
  have e : X.data.toList = expand qT ([some PI.nil, none].map (toIV lp)) := by rw [h]
  refine ba_ext ?_
  rw [app_data', hS, e, rb_T sg lp (by omega), hl]
theorem tab_on {w w1 : World} {nm : String} {k : IntKind} {z : List Int} (h : Lib.TabIs Tryd.prog w nm k z) (hb : Below w.heap.size w w1) : Lib.TabBelow Tryd.prog w1.heap.size w1 nm k z := Lib.tabBelow_of_tabIs ((Lib.tabBelow_of_tabIs h) w1 hb)
theorem inRebound_0 (a : Int) (x : List SV) (A : Option Addr) (c : Nat) (w : World) (ha : 0 ≤ a ∧ a ≤ 255) (h3 : a % 3 = 0) (hX : kV.C w A x.length x) (htab : Lib.TabIs Tryd.prog w "internal/strconv.uint64pow10" .u64 Lib.pow10Tab) :
    Calls Tryd.prog 6 #[.int .u8 a, .slice A x.length c] w fun e w' => e = .returned (.bool true) ∧ Below w.heap.size w w' := by
  have HX := Aside0.mk hX
  have HT := Aside0.mk htab
  obtain ⟨ha1, ha2⟩ := ha
  clear hX htab
  go_enter Tryd.func6, Tryd.ntmps6
  go_wp2_with (go_at_call 18; refine (single9_any x A _ _ HX.out).mono ?_; rintro e w1 ⟨⟨b, rfl, hb⟩, hb1⟩; have HS := Aside0.mk hb; have HB := Aside0.mk hb1; clear hb hb1; cases b)
  all_goals first | (go_ret; exact ⟨rfl, by first | exact Below.refl _ _ | exact HB.out⟩) | skip
  have hx20 : x.length ≤ 20 := by omega
  have hx0 : 0 < x.length := by omega
  obtain ⟨xp, hxp⟩ := (HS.out (by first | rfl | trivial)).2
  have hxl : xp.length = x.length := by rw [hxp.1]; simp
  have PX := Aside0.mk (show kPV.C w A x.length xp from kPV_of_kV (by rw [← hxp.1]; exact HX.out))
  have HXL := Lib.hid hxl
  clear hxp hxl HS HX
  have hd1 : decide ((20 : Int) < (x.length : Int)) = false := decide_eq_false (by omega)
  have hd2 : decide ((2147483647 : Int) < (x.length : Int)) = false := decide_eq_false (by omega)
  simp only [hd1, hd2, h3]
  go_loopw [7, 40] (fun s i wr => ∃ (k : Nat) (S : ByteArray), i = .int .i64 k ∧ s = .string S ∧ k ≤ x.length ∧ S.size ≤ 40 + 10 * k ∧ Aside0 (S.data.toList = [97, 32, 61, 32] ++ [36] ++ [49, 32, 65, 78, 68, 32, 98, 32, 73, 78, 32, 40] ++ signs [36] k) ∧ Aside0 (Below w.heap.size w wr)) (fun _ i _ => x.length - (intOf i).toNat)
  case atStart => exact ⟨0, _, rfl, rfl, Nat.zero_le _, by decide, ⟨by simp [signs]⟩, ⟨below_alloc HB.out _⟩⟩
  case round =>
    obtain ⟨k, S, rfl, rfl, hk, hz, HSS, HB2⟩ := hrel
    by_cases hlt : k < x.length
    · go_wp2_with (go_at_call 19; refine (digits9_int _ _ (k + 2) (by omega) (by omega)).mono ?_; rintro e w2 ⟨⟨D, rfl, hD, hDz⟩, h2⟩; have H2 := Aside0.mk (below_step HB2.out h2); have HDD := Lib.hid hD; clear h2 hD)
      · go_roundw
        case rel =>
          have e1 : (⟨#[36]⟩ : ByteArray).size = 1 := rfl
          have e2 : (⟨#[44, 32]⟩ : ByteArray).size = 2 := rfl
          refine ⟨k + 1, _, by go_num, rfl, by omega, by rw [app_size', app_size', app_size']; omega, ⟨?_⟩, H2⟩
          rw [app_data', app_data', app_data', HSS.out, HDD.out, signs, if_neg (by omega)]
          simp
        case measure => simp [intOf]; omega
      · go_roundw
        case rel =>
          have e1 : (⟨#[36]⟩ : ByteArray).size = 1 := rfl
          refine ⟨k + 1, _, by go_num, rfl, by omega, by rw [app_size', app_size']; omega, ⟨?_⟩, H2⟩
          rw [app_data', app_data', HSS.out, HDD.out, signs, if_pos (by omega)]
          simp
        case measure => simp [intOf]; omega
    · have hk' : k = x.length := by omega
      subst hk'
      have hlx : xp.length = x.length := HXL.out
      go_wp2_with (first | (go_at_call 20; refine (Expanded_calls ⟨qT.toArray⟩ [some .nil, none] xp A c (some ⟨wr.heap.size, 0, none⟩) 2 (wr.alloc (.cells #[Value.int .i64 0, .int .i64 0, .string ⟨#[]⟩, .slice none 0 0, .int .i64 5, .int .i64 0, .string ⟨#[]⟩, .slice A x.length c] 41)) (by rw [HXL.out]; exact reads_lit2 (kLV A x.length c) _ _ 41 [.int .i64 0, .int .i64 0, .string ⟨#[]⟩, .slice none 0 0] [.int .i64 5, .int .i64 0, .string ⟨#[]⟩, .slice A x.length c] (some .nil) none (blk_new _ _) ⟨none, 0, rfl⟩ rfl) (by rw [HXL.out]; exact Kd.C_below PX.out (below_alloc HB2.out _)) (by simp) (by omega) (by omega) (by simp) (by decide) (by decide) (by rw [show (⟨qT.toArray⟩ : ByteArray).data.toList = qT from rfl, expand_T]; simp; omega)).mono ?_; rintro e w5 ⟨v5, he, h1, h2⟩; generalize hX : (⟨(expand (⟨qT.toArray⟩ : ByteArray).data.toList ([some PI.nil, none].map (toIV xp))).toArray⟩ : ByteArray) = X at he; obtain ⟨F, r, hv5, hleF, hF⟩ := Kd.R_reads h1; subst he; have HXX := Lib.hid (show X = ⟨(expand qT ([some PI.nil, none].map (toIV xp))).toArray⟩ from hX.symm); have M5 := Aside0.mk (below_step (below_alloc HB2.out _) h2); clear h1 h2 hX hF hleF) | (go_at_call 21; refine (Rebound_2 X _ (rbX_size HXX.out hx20 hlx) (rbX_len (by decide) HXX.out hx0 hx20 hlx) (tab_on HT.out (below_alloc M5.out _))).mono ?_; rintro e w6 ⟨he, h2⟩; rw [rb_fin HXX.out HSS.out hx0 hlx] at he; subst he; have M6 := Aside0.mk (below_step (below_alloc M5.out _) h2); clear h2))
      go_ret
      exact ⟨rfl, M6.out⟩
theorem inRebound_1 (a : Int) (x : List SV) (A : Option Addr) (c : Nat) (w : World) (ha : 0 ≤ a ∧ a ≤ 255) (h3 : a % 3 = 1) (hX : kV.C w A x.length x) (htab : Lib.TabIs Tryd.prog w "internal/strconv.uint64pow10" .u64 Lib.pow10Tab) :
    Calls Tryd.prog 6 #[.int .u8 a, .slice A x.length c] w fun e w' => e = .returned (.bool true) ∧ Below w.heap.size w w' := by
  have HX := Aside0.mk hX
  have HT := Aside0.mk htab
  obtain ⟨ha1, ha2⟩ := ha
  clear hX htab
  go_enter Tryd.func6, Tryd.ntmps6
  go_wp2_with (go_at_call 18; refine (single9_any x A _ _ HX.out).mono ?_; rintro e w1 ⟨⟨b, rfl, hb⟩, hb1⟩; have HS := Aside0.mk hb; have HB := Aside0.mk hb1; clear hb hb1; cases b)
  all_goals first | (go_ret; exact ⟨rfl, by first | exact Below.refl _ _ | exact HB.out⟩) | skip
  have hx20 : x.length ≤ 20 := by omega
  have hx0 : 0 < x.length := by omega
  obtain ⟨xp, hxp⟩ := (HS.out (by first | rfl | trivial)).2
  have hxl : xp.length = x.length := by rw [hxp.1]; simp
  have PX := Aside0.mk (show kPV.C w A x.length xp from kPV_of_kV (by rw [← hxp.1]; exact HX.out))
  have HXL := Lib.hid hxl
  clear hxp hxl HS HX
  have hd1 : decide ((20 : Int) < (x.length : Int)) = false := decide_eq_false (by omega)
  have hd2 : decide ((2147483647 : Int) < (x.length : Int)) = false := decide_eq_false (by omega)
  simp only [hd1, hd2, h3]
  go_loopw [7, 40] (fun s i wr => ∃ (k : Nat) (S : ByteArray), i = .int .i64 k ∧ s = .string S ∧ k ≤ x.length ∧ S.size ≤ 40 + 10 * k ∧ Aside0 (S.data.toList = [97, 32, 61, 32] ++ [58, 97, 114, 103] ++ [49, 32, 65, 78, 68, 32, 98, 32, 73, 78, 32, 40] ++ signs [58, 97, 114, 103] k) ∧ Aside0 (Below w.heap.size w wr)) (fun _ i _ => x.length - (intOf i).toNat)
  case atStart => exact ⟨0, _, rfl, rfl, Nat.zero_le _, by decide, ⟨by simp [signs]⟩, ⟨below_alloc HB.out _⟩⟩
  case round =>
    obtain ⟨k, S, rfl, rfl, hk, hz, HSS, HB2⟩ := hrel
    by_cases hlt : k < x.length
    · go_wp2_with (go_at_call 19; refine (digits9_int _ _ (k + 2) (by omega) (by omega)).mono ?_; rintro e w2 ⟨⟨D, rfl, hD, hDz⟩, h2⟩; have H2 := Aside0.mk (below_step HB2.out h2); have HDD := Lib.hid hD; clear h2 hD)
      · go_roundw
        case rel =>
          have e1 : (⟨#[58, 97, 114, 103]⟩ : ByteArray).size = 4 := rfl
          have e2 : (⟨#[44, 32]⟩ : ByteArray).size = 2 := rfl
          refine ⟨k + 1, _, by go_num, rfl, by omega, by rw [app_size', app_size', app_size']; omega, ⟨?_⟩, H2⟩
          rw [app_data', app_data', app_data', HSS.out, HDD.out, signs, if_neg (by omega)]
          simp
        case measure => simp [intOf]; omega
      · go_roundw
        case rel =>
          have e1 : (⟨#[58, 97, 114, 103]⟩ : ByteArray).size = 4 := rfl
          refine ⟨k + 1, _, by go_num, rfl, by omega, by rw [app_size', app_size']; omega, ⟨?_⟩, H2⟩
          rw [app_data', app_data', HSS.out, HDD.out, signs, if_pos (by omega)]
          simp
        case measure => simp [intOf]; omega
    · have hk' : k = x.length := by omega
      subst hk'
      have hlx : xp.length = x.length := HXL.out
      go_wp2_with (first | (go_at_call 20; refine (Expanded_calls ⟨qT.toArray⟩ [some .nil, none] xp A c (some ⟨wr.heap.size, 0, none⟩) 2 (wr.alloc (.cells #[Value.int .i64 0, .int .i64 0, .string ⟨#[]⟩, .slice none 0 0, .int .i64 5, .int .i64 0, .string ⟨#[]⟩, .slice A x.length c] 41)) (by rw [HXL.out]; exact reads_lit2 (kLV A x.length c) _ _ 41 [.int .i64 0, .int .i64 0, .string ⟨#[]⟩, .slice none 0 0] [.int .i64 5, .int .i64 0, .string ⟨#[]⟩, .slice A x.length c] (some .nil) none (blk_new _ _) ⟨none, 0, rfl⟩ rfl) (by rw [HXL.out]; exact Kd.C_below PX.out (below_alloc HB2.out _)) (by simp) (by omega) (by omega) (by simp) (by decide) (by decide) (by rw [show (⟨qT.toArray⟩ : ByteArray).data.toList = qT from rfl, expand_T]; simp; omega)).mono ?_; rintro e w5 ⟨v5, he, h1, h2⟩; generalize hX : (⟨(expand (⟨qT.toArray⟩ : ByteArray).data.toList ([some PI.nil, none].map (toIV xp))).toArray⟩ : ByteArray) = X at he; obtain ⟨F, r, hv5, hleF, hF⟩ := Kd.R_reads h1; subst he; have HXX := Lib.hid (show X = ⟨(expand qT ([some PI.nil, none].map (toIV xp))).toArray⟩ from hX.symm); have M5 := Aside0.mk (below_step (below_alloc HB2.out _) h2); clear h1 h2 hX hF hleF) | (go_at_call 21; refine (Rebound_3 X _ (rbX_size HXX.out hx20 hlx) (rbX_len (by decide) HXX.out hx0 hx20 hlx) (tab_on HT.out (below_alloc M5.out _))).mono ?_; rintro e w6 ⟨he, h2⟩; rw [rb_fin HXX.out HSS.out hx0 hlx] at he; subst he; have M6 := Aside0.mk (below_step (below_alloc M5.out _) h2); clear h2))
      go_ret
      exact ⟨rfl, M6.out⟩
theorem inRebound_4 (a : Int) (x : List SV) (A : Option Addr) (c : Nat) (w : World) (ha : 0 ≤ a ∧ a ≤ 255) (h3 : a % 3 = 2) (hX : kV.C w A x.length x) (htab : Lib.TabIs Tryd.prog w "internal/strconv.uint64pow10" .u64 Lib.pow10Tab) :
    Calls Tryd.prog 6 #[.int .u8 a, .slice A x.length c] w fun e w' => e = .returned (.bool true) ∧ Below w.heap.size w w' := by
  have HX := Aside0.mk hX
  have HT := Aside0.mk htab
  obtain ⟨ha1, ha2⟩ := ha
  clear hX htab
  go_enter Tryd.func6, Tryd.ntmps6
  go_wp2_with (go_at_call 18; refine (single9_any x A _ _ HX.out).mono ?_; rintro e w1 ⟨⟨b, rfl, hb⟩, hb1⟩; have HS := Aside0.mk hb; have HB := Aside0.mk hb1; clear hb hb1; cases b)
  all_goals first | (go_ret; exact ⟨rfl, by first | exact Below.refl _ _ | exact HB.out⟩) | skip
  have hx20 : x.length ≤ 20 := by omega
  have hx0 : 0 < x.length := by omega
  obtain ⟨xp, hxp⟩ := (HS.out (by first | rfl | trivial)).2
  have hxl : xp.length = x.length := by rw [hxp.1]; simp
  have PX := Aside0.mk (show kPV.C w A x.length xp from kPV_of_kV (by rw [← hxp.1]; exact HX.out))
  have HXL := Lib.hid hxl
  clear hxp hxl HS HX
  have hd1 : decide ((20 : Int) < (x.length : Int)) = false := decide_eq_false (by omega)
  have hd2 : decide ((2147483647 : Int) < (x.length : Int)) = false := decide_eq_false (by omega)
  simp only [hd1, hd2, h3]
  go_loopw [7, 40] (fun s i wr => ∃ (k : Nat) (S : ByteArray), i = .int .i64 k ∧ s = .string S ∧ k ≤ x.length ∧ S.size ≤ 40 + 10 * k ∧ Aside0 (S.data.toList = [97, 32, 61, 32] ++ [64, 112] ++ [49, 32, 65, 78, 68, 32, 98, 32, 73, 78, 32, 40] ++ signs [64, 112] k) ∧ Aside0 (Below w.heap.size w wr)) (fun _ i _ => x.length - (intOf i).toNat)
  case atStart => exact ⟨0, _, rfl, rfl, Nat.zero_le _, by decide, ⟨by simp [signs]⟩, ⟨below_alloc HB.out _⟩⟩
  case round =>
    obtain ⟨k, S, rfl, rfl, hk, hz, HSS, HB2⟩ := hrel
    by_cases hlt : k < x.length
    · go_wp2_with (go_at_call 19; refine (digits9_int _ _ (k + 2) (by omega) (by omega)).mono ?_; rintro e w2 ⟨⟨D, rfl, hD, hDz⟩, h2⟩; have H2 := Aside0.mk (below_step HB2.out h2); have HDD := Lib.hid hD; clear h2 hD)
      · go_roundw
        case rel =>
          have e1 : (⟨#[64, 112]⟩ : ByteArray).size = 2 := rfl
          have e2 : (⟨#[44, 32]⟩ : ByteArray).size = 2 := rfl
          refine ⟨k + 1, _, by go_num, rfl, by omega, by rw [app_size', app_size', app_size']; omega, ⟨?_⟩, H2⟩
          rw [app_data', app_data', app_data', HSS.out, HDD.out, signs, if_neg (by omega)]
          simp
        case measure => simp [intOf]; omega
      · go_roundw
        case rel =>
          have e1 : (⟨#[64, 112]⟩ : ByteArray).size = 2 := rfl
          refine ⟨k + 1, _, by go_num, rfl, by omega, by rw [app_size', app_size']; omega, ⟨?_⟩, H2⟩
          rw [app_data', app_data', HSS.out, HDD.out, signs, if_pos (by omega)]
          simp
        case measure => simp [intOf]; omega
    · have hk' : k = x.length := by omega
      subst hk'
      have hlx : xp.length = x.length := HXL.out
      go_wp2_with (first | (go_at_call 20; refine (Expanded_calls ⟨qT.toArray⟩ [some .nil, none] xp A c (some ⟨wr.heap.size, 0, none⟩) 2 (wr.alloc (.cells #[Value.int .i64 0, .int .i64 0, .string ⟨#[]⟩, .slice none 0 0, .int .i64 5, .int .i64 0, .string ⟨#[]⟩, .slice A x.length c] 41)) (by rw [HXL.out]; exact reads_lit2 (kLV A x.length c) _ _ 41 [.int .i64 0, .int .i64 0, .string ⟨#[]⟩, .slice none 0 0] [.int .i64 5, .int .i64 0, .string ⟨#[]⟩, .slice A x.length c] (some .nil) none (blk_new _ _) ⟨none, 0, rfl⟩ rfl) (by rw [HXL.out]; exact Kd.C_below PX.out (below_alloc HB2.out _)) (by simp) (by omega) (by omega) (by simp) (by decide) (by decide) (by rw [show (⟨qT.toArray⟩ : ByteArray).data.toList = qT from rfl, expand_T]; simp; omega)).mono ?_; rintro e w5 ⟨v5, he, h1, h2⟩; generalize hX : (⟨(expand (⟨qT.toArray⟩ : ByteArray).data.toList ([some PI.nil, none].map (toIV xp))).toArray⟩ : ByteArray) = X at he; obtain ⟨F, r, hv5, hleF, hF⟩ := Kd.R_reads h1; subst he; have HXX := Lib.hid (show X = ⟨(expand qT ([some PI.nil, none].map (toIV xp))).toArray⟩ from hX.symm); have M5 := Aside0.mk (below_step (below_alloc HB2.out _) h2); clear h1 h2 hX hF hleF) | (go_at_call 21; refine (Rebound_4 X _ (rbX_size HXX.out hx20 hlx) (rbX_len (by decide) HXX.out hx0 hx20 hlx) (tab_on HT.out (below_alloc M5.out _))).mono ?_; rintro e w6 ⟨he, h2⟩; rw [rb_fin HXX.out HSS.out hx0 hlx] at he; subst he; have M6 := Aside0.mk (below_step (below_alloc M5.out _) h2); clear h2))
      go_ret
      exact ⟨rfl, M6.out⟩
theorem inRebound_walk (a : Int) (x : List SV) (A : Option Addr) (c : Nat) (w : World) (ha : (Lit.int .u8 a).wf = true) (hX : kV.C w A x.length x) (htab : Lib.TabIs Tryd.prog w "internal/strconv.uint64pow10" .u64 Lib.pow10Tab) :
    Calls Tryd.prog 6 #[.int .u8 a, .slice A x.length c] w fun e w' => e = .returned (.bool true) ∧ Below w.heap.size w w' := by
  have h : 0 ≤ a ∧ a ≤ 255 := by
    simp [Lit.wf] at ha
    have hmin : IntKind.u8.min = 0 := by decide
    have hmax : IntKind.u8.max = 255 := by decide
    omega
  rcases (show a % 3 = 0 ∨ a % 3 = 1 ∨ a % 3 = 2 by omega) with h3 | h3 | h3
  · exact inRebound_0 a x A c w h h3 hX htab
  · exact inRebound_1 a x A c w h h3 hX htab
  · exact inRebound_4 a x A c w h h3 hX htab
end Go.Proofs.YtnpjnekoifheoaaDoor
