/- Contracts of impl.valueOf and impl.valuesOf at plain values. -/
import Derived.Test.YtnpjnekoifheoaaDoorLaws
namespace Go.Proofs.YtnpjnekoifheoaaDoor
open Go Go.RowKit Go.Proofs.YtnpjnekoifheoaaDoorW.PrintWords
set_option linter.unusedVariables false
set_option maxRecDepth 100000

theorem taIntInt (v : Value) (W : World) : (Instr.typeAssert (.iface 2 v) 20 2 true).run Tryd.prog W = .ok (.tuple #[v, .bool true]) W := by rfl
theorem taIntStr (v : Value) (W : World) : (Instr.typeAssert (.iface 2 v) 20 9 true).run Tryd.prog W = .ok (.tuple #[(.string ⟨#[]⟩), .bool false]) W := by rfl
theorem taIntBool (v : Value) (W : World) : (Instr.typeAssert (.iface 2 v) 20 4 true).run Tryd.prog W = .ok (.tuple #[(.bool false), .bool false]) W := by rfl
theorem taIntList (v : Value) (W : World) : (Instr.typeAssert (.iface 2 v) 20 71 true).run Tryd.prog W = .ok (.tuple #[(.slice none 0 0), .bool false]) W := by rfl
theorem taStrInt (v : Value) (W : World) : (Instr.typeAssert (.iface 9 v) 20 2 true).run Tryd.prog W = .ok (.tuple #[(.int .i64 0), .bool false]) W := by rfl
theorem taStrStr (v : Value) (W : World) : (Instr.typeAssert (.iface 9 v) 20 9 true).run Tryd.prog W = .ok (.tuple #[v, .bool true]) W := by rfl
theorem taStrBool (v : Value) (W : World) : (Instr.typeAssert (.iface 9 v) 20 4 true).run Tryd.prog W = .ok (.tuple #[(.bool false), .bool false]) W := by rfl
theorem taStrList (v : Value) (W : World) : (Instr.typeAssert (.iface 9 v) 20 71 true).run Tryd.prog W = .ok (.tuple #[(.slice none 0 0), .bool false]) W := by rfl
theorem taBoolInt (v : Value) (W : World) : (Instr.typeAssert (.iface 4 v) 20 2 true).run Tryd.prog W = .ok (.tuple #[(.int .i64 0), .bool false]) W := by rfl
theorem taBoolStr (v : Value) (W : World) : (Instr.typeAssert (.iface 4 v) 20 9 true).run Tryd.prog W = .ok (.tuple #[(.string ⟨#[]⟩), .bool false]) W := by rfl
theorem taBoolBool (v : Value) (W : World) : (Instr.typeAssert (.iface 4 v) 20 4 true).run Tryd.prog W = .ok (.tuple #[v, .bool true]) W := by rfl
theorem taBoolList (v : Value) (W : World) : (Instr.typeAssert (.iface 4 v) 20 71 true).run Tryd.prog W = .ok (.tuple #[(.slice none 0 0), .bool false]) W := by rfl
theorem taListInt (v : Value) (W : World) : (Instr.typeAssert (.iface 71 v) 20 2 true).run Tryd.prog W = .ok (.tuple #[(.int .i64 0), .bool false]) W := by rfl
theorem taListStr (v : Value) (W : World) : (Instr.typeAssert (.iface 71 v) 20 9 true).run Tryd.prog W = .ok (.tuple #[(.string ⟨#[]⟩), .bool false]) W := by rfl
theorem taListBool (v : Value) (W : World) : (Instr.typeAssert (.iface 71 v) 20 4 true).run Tryd.prog W = .ok (.tuple #[(.bool false), .bool false]) W := by rfl
theorem taListList (v : Value) (W : World) : (Instr.typeAssert (.iface 71 v) 20 71 true).run Tryd.prog W = .ok (.tuple #[v, .bool true]) W := by rfl

theorem valueOf_plain (p : PI) (w : World) :
    Calls Tryd.prog 53 #[p.enc] w fun e w' => e = .returned (.agg #[.int .i64 p.k, .int .i64 p.n, .string p.s, .slice none 0 0]) ∧ Below w.heap.size w w' := by
  have hu2 := Tryd.underlying41
  rcases p with _ | n | s | b
  · simp only [PI.k, PI.n, PI.s, PI.enc]
    go_enter Tryd.func53, Tryd.ntmps53
    go_wp2
    refine bodyPost_ret (v := .agg #[.int .i64 0, .int .i64 0, .string ⟨#[]⟩, .slice none 0 0]) (by simp [results, Tryd.results53, go_sem]) rfl ⟨rfl, ?_⟩
    exact (Below.refl _ _).alloc (Nat.le_refl _) _
  · simp only [PI.k, PI.n, PI.s, PI.enc]
    have tInt := taIntInt
    have tStr := taIntStr
    have tBool := taIntBool
    have tList := taIntList
    go_enter Tryd.func53, Tryd.ntmps53
    go_wp2
    refine bodyPost_ret (v := .agg #[.int .i64 1, .int .i64 n, .string ⟨#[]⟩, .slice none 0 0]) (by simp [results, Tryd.results53, go_sem]) rfl ⟨rfl, ?_⟩
    exact (Below.refl _ _).alloc (Nat.le_refl _) _
  · simp only [PI.k, PI.n, PI.s, PI.enc]
    have tInt := taStrInt
    have tStr := taStrStr
    have tBool := taStrBool
    have tList := taStrList
    go_enter Tryd.func53, Tryd.ntmps53
    go_wp2
    refine bodyPost_ret (v := .agg #[.int .i64 2, .int .i64 0, .string s, .slice none 0 0]) (by simp [results, Tryd.results53, go_sem]) rfl ⟨rfl, ?_⟩
    exact (Below.refl _ _).alloc (Nat.le_refl _) _
  · cases b
    all_goals
      have tInt := taBoolInt
      have tStr := taBoolStr
      have tBool := taBoolBool
      have tList := taBoolList
      simp only [PI.k, PI.n, PI.s, PI.enc]
      go_enter Tryd.func53, Tryd.ntmps53
      go_wp2
    · refine bodyPost_ret (v := .agg #[.int .i64 4, .int .i64 0, .string ⟨#[]⟩, .slice none 0 0]) (by simp [results, Tryd.results53, go_sem]) rfl ⟨rfl, ?_⟩
      exact (Below.refl _ _).alloc (Nat.le_refl _) _
    · refine bodyPost_ret (v := .agg #[.int .i64 3, .int .i64 0, .string ⟨#[]⟩, .slice none 0 0]) (by simp [results, Tryd.results53, go_sem]) rfl ⟨rfl, ?_⟩
      exact (Below.refl _ _).alloc (Nat.le_refl _) _

theorem infoV : (Tryd.prog.info? 41).map (fun i => (i.zero, i.size, i.bytes)) = some (some (.agg #[.int .i64 0, .int .i64 0, .string ⟨#[]⟩, .slice none 0 0]), 4, 56) := by kernel_rfl

set_option maxHeartbeats 400000 in
theorem valuesOf_plain (ps : List PI) (A : Option Addr) (c : Nat) (w : World) (hr : kPI.C w A ps.length ps) (hlen : ps.length * 56 ≤ 140737488355328) :
    Calls Tryd.prog 37 #[.slice A ps.length c] w fun e w' => ∃ v, e = .returned v ∧ kPV.R 41 w' w.heap.size (fun _ => True) v ps ∧ Below w.heap.size w w' := by
  have hu := Tryd.underlying35
  have hu2 := Tryd.underlying41
  have hi2 := infoV
  go_enter Tryd.func37, Tryd.ntmps37
  go_wp2
  go_loopw [3, 8] (fun out i wr => ∃ k : Nat, i = .int .i64 k ∧ k ≤ ps.length ∧ Aside0 (kPV.R 41 wr w.heap.size (fun _ => True) out (ps.take k)) ∧ Aside0 (Below w.heap.size w wr)) (fun _ i _ => ps.length - (intOf i).toNat)
  case atStart => exact ⟨0, rfl, Nat.zero_le _, ⟨Kd.R_nil _ _ _ _ _⟩, ⟨Below.refl _ _⟩⟩
  case round =>
    obtain ⟨k, rfl, hk, HO, HB⟩ := hrel
    have hl := (C_len hr).2
    by_cases hlt : k < ps.length
    · obtain ⟨ad, rfl, h0⟩ := at_S (Kd.C_below hr HB.out) .nil k hlt
      obtain ⟨p, hp⟩ : ∃ p, p = ps.getD k .nil := ⟨_, rfl⟩
      rw [← hp] at h0
      have HP := Aside0.mk hp
      clear hp
      go_wp2_with (first | (go_at_call 53; refine (valueOf_plain p _).mono ?_; rintro e w1 ⟨rfl, hb1⟩; have HB1 := Aside0.mk hb1; clear hb1) | (at_builtin; refine Kd.R_append kPV (w0 := w) w.heap.size rfl (.tmp 12) (.tmp 15) 35 41 (.agg #[.int .i64 0, .int .i64 0, .string ⟨#[]⟩, .slice none 0 0]) 56 rfl hu hi2 rfl (by decide) (by omega) _ (ps.take k) p [.int .i64 p.k, .int .i64 p.n, .string p.s, .slice none 0 0] (fun _ => True) (fun _ => False) rfl rfl ?aP (fun _ hk => hk.elim) (fun _ _ => trivial) ?aO ?aB ?aS ?aL ?_))
      case aP => exact ⟨none, 0, rfl⟩
      case aO => exact Kd.R_below HO.out HB1.out
      case aB => exact below_step HB.out HB1.out
      case aS => have := HB1.out.size; have := HB.out.size; simp at *; omega
      case aL => rw [List.length_take]; omega
      intro v1 w2 hR hB2 _ _
      have e1 : ps.take (k + 1) = ps.take k ++ [p] := by rw [HP.out]; exact take_snoc' ps k hlt _
      rw [← e1] at hR
      have HO2 := Aside0.mk hR
      have HB2 := Aside0.mk hB2
      clear hR hB2 e1 HO HB HB1 h0 HP
      go_wp2
      go_roundw
      case rel => exact ⟨k + 1, by go_num, by omega, HO2, HB2⟩
      case measure => simp [intOf]; omega
    · have hk' : k = ps.length := by omega
      subst hk'
      rw [List.take_length] at HO
      go_wp2
      go_ret
      exact ⟨u3, rfl, HO.out, HB.out⟩

end Go.Proofs.YtnpjnekoifheoaaDoor
