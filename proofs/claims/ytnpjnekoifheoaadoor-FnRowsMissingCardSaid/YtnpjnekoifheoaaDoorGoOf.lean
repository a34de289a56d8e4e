/- Contracts of impl.goOf and impl.goList at plain values. -/
import Derived.Test.YtnpjnekoifheoaaDoorLaws
namespace Go.Proofs.YtnpjnekoifheoaaDoor
open Go Go.RowKit Go.Proofs.YtnpjnekoifheoaaDoorW.PrintWords
set_option linter.unusedVariables false
set_option maxRecDepth 100000

theorem goOf_plain (p : PI) (A : Option Addr) (c : Nat) (d : Int) (w : World) :
    Calls Tryd.prog 45 #[.agg #[.int .i64 p.k, .int .i64 p.n, .string p.s, .slice A 0 c], .int .i64 d] w fun e w' => e = .returned (.tuple #[p.enc, .bool true]) ∧ Below w.heap.size w w' := by
  rcases p with _ | n | s | _ | _
  all_goals
    simp only [PI.k, PI.n, PI.s, PI.enc]
    go_enter Tryd.func45, Tryd.ntmps45
    go_wp2
    go_ret2
    exact ⟨rfl, (Below.refl _ _).alloc (Nat.le_refl _) _⟩

theorem infoI : (Tryd.prog.info? 20).map (fun i => (i.zero, i.size, i.bytes)) = some (some .nilIface, 1, 16) := by kernel_rfl

set_option maxHeartbeats 400000 in
theorem goList_plain (ps : List PI) (A : Option Addr) (c : Nat) (d : Int) (w : World) (hr : kPV.C w A ps.length ps) (hlen : ps.length * 16 ≤ 140737488355328) :
    Calls Tryd.prog 35 #[.slice A ps.length c, .int .i64 d] w fun e w' => ∃ v, e = .returned (.tuple #[v, .bool true]) ∧ kPI.R 20 w' w.heap.size (fun _ => True) v ps ∧ Below w.heap.size w w' := by
  have hu := Tryd.underlying71
  have hu2 := Tryd.underlying41
  go_enter Tryd.func35, Tryd.ntmps35
  go_wp2
  go_loopw [6, 14] (fun out i wr => ∃ k : Nat, i = .int .i64 k ∧ k ≤ ps.length ∧ Aside0 (kPI.R 20 wr w.heap.size (fun _ => True) out (ps.take k)) ∧ Aside0 (Below w.heap.size w wr)) (fun _ i _ => ps.length - (intOf i).toNat)
  case atStart => exact ⟨0, rfl, Nat.zero_le _, ⟨R_empty kPI _ w⟩, ⟨(Below.refl _ _).alloc (Nat.le_refl _) _⟩⟩
  case round =>
    obtain ⟨k, rfl, hk, HO, HB⟩ := hrel
    have hl := (C_len hr).2
    by_cases hlt : k < ps.length
    · obtain ⟨ad, A3, c3, rfl, h0, h1, h2, h3⟩ := at_PV (Kd.C_below hr HB.out) k hlt
      obtain ⟨p, hp⟩ : ∃ p, p = ps.getD k .nil := ⟨_, rfl⟩
      rw [← hp] at h0 h1 h2
      have HP := Aside0.mk hp
      clear hp
      go_wp2_with (first | (go_at_call 45; refine (goOf_plain p _ _ _ _).mono ?_; rintro e w1 ⟨rfl, hb1⟩; have HB1 := Aside0.mk hb1; clear hb1) | (with_reducible refine wpList_buildOne rfl (.tmp 27) 71 20 .nilIface 16 rfl hu infoI rfl p.enc rfl p.enc_cells ?_) | (at_builtin; refine Kd.R_append kPI (w0 := w) w.heap.size rfl (.tmp 26) (.tmp 28) 71 20 .nilIface 16 rfl hu infoI rfl (by decide) (by omega) _ (ps.take k) p [p.enc] (fun _ => True) (fun _ => False) rfl rfl ?aP (fun _ hk => hk.elim) (fun _ _ => trivial) ?aO ?aB ?aS ?aL ?_))
      case aP => exact rfl
      case aO => exact Kd.R_below (Kd.R_below HO.out (below_alloc (Below.refl _ _) _)) HB1.out
      case aB => exact below_step (below_alloc HB.out _) HB1.out
      case aS => have := HB1.out.size; have := HB.out.size; simp at *; omega
      case aL => rw [List.length_take]; omega
      intro v1 w2 hR hB2 _ _
      have e1 : ps.take (k + 1) = ps.take k ++ [p] := by rw [HP.out]; exact take_snoc' ps k hlt _
      rw [← e1] at hR
      have HO2 := Aside0.mk hR
      have HB2 := Aside0.mk hB2
      clear hR hB2 e1 HO HB HB1 h0 h1 h2 h3 HP
      go_wp2
      go_roundw
      case rel => exact ⟨k + 1, by go_num, by omega, HO2, HB2⟩
      case measure => simp [intOf]; omega
    · have hk' : k = ps.length := by omega
      subst hk'
      rw [List.take_length] at HO
      go_wp2
      go_ret2
      exact ⟨u6, rfl, HO.out, HB.out⟩

end Go.Proofs.YtnpjnekoifheoaaDoor
