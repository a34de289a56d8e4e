/- squirrel.zzIndex of one byte; squirrel.zzText; squirrel.Expr, its ToSql at plain arguments; laws.full9. -/
import Derived.Test.YthokjeplcfibbaaDoorGoOf
import Derived.Test.YthokjeplcfibbaaDoorDec
import Derived.Test.YthokjeplcfibbaaDoorBetween
import Derived.Test.YthokjeplcfibbaaDoorShelf
import Derived.BigGuardPart
import Derived.Lib.Strings
import Derived.Lib.ItoaLen
import Derived.Lib.AppendIntMem
import Derived.Lib.SmallJoins
import Derived.Deep.QuietTactic
import Derived.BigQuiet
import Derived.StillTailTactics
import Derived.Stop.Asserts
namespace Go.Proofs.YthokjeplcfibbaaDoor
open Go Go.RowKit Go.Proofs.YthokjeplcfibbaaDoorW.PrintWords
set_option linter.unusedVariables false
set_option maxRecDepth 100000

/-- r is the first place of c in l, or -1. -/
def IdxIs (c : UInt8) (l : List UInt8) (r : Int) : Prop := (r = -1 ∧ c ∉ l) ∨ (0 ≤ r ∧ r < l.length ∧ l.getD r.toNat 0 = c ∧ c ∉ l.take r.toNat)
theorem ext_one (s : ByteArray) (k : Nat) (h : k < s.size) : (s.extract k (k + 1)).toList = [s.data.toList.getD k 0] := by
  rw [Lib.toList_data]
  have e : (s.extract k (k + 1)).data = s.data.extract k (k + 1) := by simp
  rw [e, Array.toList_extract]
  simp only [List.extract_eq_take_drop, Nat.add_sub_cancel_left]
  have hk : k < s.data.toList.length := by rw [← Lib.size_eq]; exact h
  rw [List.getD_eq_getElem?_getD, List.getElem?_eq_getElem hk, List.drop_eq_getElem_cons hk]
  rfl
theorem sqIndex_one (s : ByteArray) (c : UInt8) (w : World) (hs : s.size ≤ 4611686018427387904) :
    Calls Tryd.prog 17 #[.string s, .string ⟨#[c]⟩] w fun e w' => (∃ r, e = .returned (.int .i64 r) ∧ IdxIs c s.data.toList r) ∧ w' = w := by
  go_enter Tryd.func17, Tryd.ntmps17
  go_wp2
  go_loop [5] (fun i => ∃ k : Nat, i = .int .i64 k ∧ k ≤ s.size ∧ Aside0 (c ∉ s.data.toList.take k)) (fun i => s.size - (intOf i).toNat)
  case atStart => exact ⟨0, rfl, by omega, ⟨by simp⟩⟩
  case round =>
    obtain ⟨k, rfl, hk, H⟩ := hrel
    by_cases hlt : k < s.size
    · go_wp2
      · go_ret
        refine ⟨⟨_, rfl, .inr ⟨by omega, by rw [← Lib.size_eq]; omega, ?_, by simpa using H.out⟩⟩, rfl⟩
        have q := eq_of_beq (by assumption : ((s.extract k (k + 1)).toList == [c]) = true)
        rw [ext_one s k hlt] at q
        simpa using q
      · refine ⟨⟨k + 1, by go_num, by omega, ⟨?_⟩⟩, by simp [intOf]; omega⟩
        have q := ne_of_beq_false (by assumption : ((s.extract k (k + 1)).toList == [c]) = false)
        rw [ext_one s k hlt] at q
        rw [take_snoc' _ k (by rw [← Lib.size_eq]; exact hlt) (0 : UInt8), List.mem_append, not_or]
        exact ⟨H.out, fun h => q (by rw [List.mem_singleton.1 h])⟩
    · go_wp2
      go_ret
      have hk' : k = s.size := by omega
      refine ⟨⟨_, rfl, .inl ⟨rfl, ?_⟩⟩, rfl⟩
      have q := H.out
      rwa [hk', Lib.size_eq, List.take_length] at q
/-- A value for people. -/
def PI.text : PI → List UInt8
  | .nil => [60, 110, 105, 108, 62]
  | .int n => Lib.itoa n
  | .str s => s.data.toList
  | .bool true => [116, 114, 117, 101]
  | .bool false => [102, 97, 108, 115, 101]
/-- Integers fit. -/
def PI.fits : PI → Prop
  | .int n => -9223372036854775808 ≤ n ∧ n ≤ 9223372036854775807
  | _ => True
theorem PI.text_len (p : PI) (h : p.fits) (hs : p.s.size ≤ 200) : p.text.length ≤ 200 := by
  rcases p with _ | n | s | b
  · decide
  · have := Lib.itoa_length_le n h.1 h.2
    simp only [PI.text]
    omega
  · simp only [PI.text]
    rw [← Lib.size_eq]
    exact hs
  · cases b <;> decide
abbrev Tab (w : World) : Prop := Lib.TabIs Tryd.prog w "internal/strconv.uint64pow10" .u64 Lib.pow10Tab
theorem Tab.below {w w1 : World} (h : Tab w) (hb : Below w.heap.size w w1) : Tab w1 := (Lib.tabBelow_of_tabIs h) w1 hb
theorem FormatInt_is (n : Int) (h0 : -9223372036854775808 ≤ n) (h1 : n ≤ 9223372036854775807) (w : World) (ht : Tab w) :
    Calls Tryd.prog 23 #[.int .i64 n, .int .i64 10] w fun e w' => e = .returned (.string ⟨(Lib.itoa n).toArray⟩) ∧ Below w.heap.size w w' := by
  have HC := Aside0.mk (Tryd.internal_strconv_FormatInt_10 n h0 h1 w ht)
  clear ht
  go_enter Tryd.func23, Tryd.ntmps23
  go_wp2_with (go_at_call 27; refine HC.out.mono ?_; rintro e w1 ⟨rfl, k, os, rfl⟩)
  go_ret
  exact ⟨rfl, Lib.below_grow _ _ (Nat.le_refl _) _ _⟩
theorem taIntInt (v : Value) (W : World) : (Instr.typeAssert (.iface 2 v) 20 2 true).run Tryd.prog W = .ok (.tuple #[v, .bool true]) W := by rfl
theorem taIntStr (v : Value) (W : World) : (Instr.typeAssert (.iface 2 v) 20 9 true).run Tryd.prog W = .ok (.tuple #[(.string ⟨#[]⟩), .bool false]) W := by rfl
theorem taStrStr (v : Value) (W : World) : (Instr.typeAssert (.iface 9 v) 20 9 true).run Tryd.prog W = .ok (.tuple #[v, .bool true]) W := by rfl
theorem taBoolInt (v : Value) (W : World) : (Instr.typeAssert (.iface 4 v) 20 2 true).run Tryd.prog W = .ok (.tuple #[(.int .i64 0), .bool false]) W := by rfl
theorem taBoolStr (v : Value) (W : World) : (Instr.typeAssert (.iface 4 v) 20 9 true).run Tryd.prog W = .ok (.tuple #[(.string ⟨#[]⟩), .bool false]) W := by rfl
theorem taBoolBool (v : Value) (W : World) : (Instr.typeAssert (.iface 4 v) 20 4 true).run Tryd.prog W = .ok (.tuple #[v, .bool true]) W := by rfl
theorem zzText_is (p : PI) (w : World) (hf : p.fits) (ht : Tab w) :
    Calls Tryd.prog 19 #[p.enc] w fun e w' => (∃ S : ByteArray, e = .returned (.string S) ∧ S.data.toList = p.text) ∧ Below w.heap.size w w' := by
  have t1 := taIntInt
  have t2 := taIntStr
  have t3 := taStrStr
  have t4 := taBoolInt
  have t5 := taBoolStr
  have t6 := taBoolBool
  rcases p with _ | n | s | b
  · simp only [PI.enc]
    clear ht
    go_enter Tryd.func19, Tryd.ntmps19
    go_wp2
    go_ret
    exact ⟨⟨_, rfl, rfl⟩, Below.refl _ _⟩
  · have HC := Aside0.mk (FormatInt_is n hf.1 hf.2 w ht)
    simp only [PI.enc]
    clear ht
    go_enter Tryd.func19, Tryd.ntmps19
    go_wp2_with (go_at_call 23; refine HC.out.mono ?_; rintro e w1 ⟨rfl, h1⟩; have H1 := Aside0.mk h1; clear h1)
    go_ret
    exact ⟨⟨_, rfl, rfl⟩, H1.out⟩
  · simp only [PI.enc]
    clear ht
    go_enter Tryd.func19, Tryd.ntmps19
    go_wp2
    go_ret
    exact ⟨⟨_, rfl, rfl⟩, Below.refl _ _⟩
  · clear ht
    cases b
    all_goals
      simp only [PI.enc]
      go_enter Tryd.func19, Tryd.ntmps19
      go_wp2
      go_ret
      exact ⟨⟨_, rfl, rfl⟩, Below.refl _ _⟩
theorem Expr_is (q : ByteArray) (A : Option Addr) (n c : Nat) (w : World) :
    Calls Tryd.prog 14 #[.string q, .slice A n c] w fun e w' => e = .returned (.iface 62 (.agg #[.string q, .slice A n c])) ∧ w' = w := by
  go_enter Tryd.func14, Tryd.ntmps14
  go_wp2
  go_ret
  exact ⟨rfl, rfl⟩
theorem taSqlizer (p : PI) (W : World) : (Instr.typeAssert p.enc 20 39 true).run Tryd.prog W = .ok (.tuple #[.nilIface, .bool false]) W := by
  cases p
  · rfl
  · exact run_typeAssert_lacksB Tryd.underlying39 (by kernel_rfl) (by kernel_rfl) _ _ W
  · exact run_typeAssert_lacksB Tryd.underlying39 (by kernel_rfl) (by kernel_rfl) _ _ W
  · exact run_typeAssert_lacksB Tryd.underlying39 (by kernel_rfl) (by kernel_rfl) _ _ W
theorem taDown (v : Value) (W : World) : (Instr.typeAssert (.iface 62 v) 39 49 true).run Tryd.prog W = .ok (.tuple #[.nilIface, .bool false]) W :=
  run_typeAssert_lacksB Tryd.underlying49 (by kernel_rfl) (by kernel_rfl) v _ W
theorem infoExpr : (Tryd.prog.info? 62).map (fun i => i.size) = some 2 := by kernel_rfl
set_option maxHeartbeats 800000 in
theorem ToSql_is (q : ByteArray) (ps : List PI) (A : Option Addr) (c : Nat) (w : World) (hr : kPI.C w A ps.length ps) :
    Calls Tryd.prog 55 #[.agg #[.string q, .slice A ps.length c]] w fun e w' => e = .returned (.tuple #[.string q, .slice A ps.length c, .nilIface]) ∧ Below w.heap.size w w' := by
  have hu := Tryd.underlying62
  have HR := Aside0.mk hr
  have hts := taSqlizer
  clear hr
  go_enter Tryd.func55, Tryd.ntmps55
  go_wp2
  go_loop [5, 21] (fun sb si => ∃ k : Nat, sb = .bool true ∧ si = .int .i64 k ∧ k ≤ ps.length) (fun _ si => ps.length - (intOf si).toNat)
  case atStart => exact ⟨0, rfl, rfl, Nat.zero_le _⟩
  case round =>
    obtain ⟨k, rfl, rfl, hk⟩ := hrel
    have hl := (C_len HR.out).2
    by_cases hlt : k < ps.length
    · obtain ⟨ad, rfl, h0⟩ := at_S (Kd.C_below HR.out (below_alloc (Below.refl _ _) (.cells #[.string q, .slice A ps.length c] 62))) .nil k hlt
      obtain ⟨p, hp⟩ : ∃ p, p = ps.getD k .nil := ⟨_, rfl⟩
      rw [← hp] at h0
      have htp := hts p
      clear hp hts
      go_wp2
      go_round
      case rel => exact ⟨k + 1, rfl, by go_num, by omega⟩
      case measure => simp [intOf]; omega
    · have hk' : k = ps.length := by omega
      subst hk'
      go_wp2_with fail
      go_quiet (fail)
      go_wp2
      exact bodyPost_ret (v := .tuple #[.string q, .slice A ps.length c, .nilIface]) (by simp [results, Tryd.results55, go_sem]) rfl ⟨rfl, pw_below_drewN (below_alloc (Below.refl _ _) _) _⟩
end Go.Proofs.YthokjeplcfibbaaDoor
