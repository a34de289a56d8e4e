/- Values of interface{} that may be lists (of plain values): a kind, and what of sqlx.In's callees they meet. -/
import Derived.Test.YtnpjnekoifheoaaDoorValueOf
import Derived.Test.YtnpjnekoifheoaaDoorLaws2
import Derived.Test.YtnpjnekoifheoaaDoorGoOf
namespace Go.Proofs.YtnpjnekoifheoaaDoor
open Go Go.RowKit Go.Proofs.YtnpjnekoifheoaaDoorW.PrintWords
set_option linter.unusedVariables false
set_option maxRecDepth 100000

/-- A value of interface{}: plain, or a list of plain ones. -/
inductive IV where
  | one (p : PI)
  | many (l : List PI)
/-- The rows of a list. -/
def kPL : Kd (List PI) := Kd.slice 20 kPI
def kIV : Kd IV where
  sz := 1
  E := [20]
  K := fun w x cs => match x with
    | .one p => cs = [p.enc]
    | .many l => ∃ u, cs = [.iface 71 u] ∧ kPL.K w l [u]
  M := fun w base ok x cs => match x with
    | .one p => cs = [p.enc]
    | .many l => ∃ u, cs = [.iface 71 u] ∧ kPL.M w base ok l [u]
  K_len := by
    rintro w (p | l) cs h
    · rw [show cs = [p.enc] from h]; rfl
    · obtain ⟨u, rfl, _⟩ := h; rfl
  K_one := by
    rintro w (p | l) cs h u hu
    · rw [show cs = [p.enc] from h] at hu
      rw [List.mem_singleton.1 hu]
      exact p.enc_one
    · obtain ⟨u', rfl, _⟩ := h
      rw [List.mem_singleton.1 hu]
      rfl
  K_below := by
    rintro w w1 (p | l) cs hb h
    · exact h
    · obtain ⟨u, h1, h2⟩ := h; exact ⟨u, h1, kPL.K_below hb h2⟩
  K_of_M := by
    rintro w base ok (p | l) cs h
    · exact h
    · obtain ⟨u, h1, h2⟩ := h; exact ⟨u, h1, kPL.K_of_M h2⟩
  M_mono := by
    rintro w base ok ok' (p | l) cs hok h
    · exact h
    · obtain ⟨u, h1, h2⟩ := h; exact ⟨u, h1, kPL.M_mono hok h2⟩
  M_bound := by
    rintro w base ok (p | l) cs h
    · exact h
    · obtain ⟨u, h1, h2⟩ := h; exact ⟨u, h1, kPL.M_bound h2⟩
  M_move := by
    rintro w w1 base ok (p | l) cs hm h
    · exact h
    · obtain ⟨u, h1, h2⟩ := h; exact ⟨u, h1, kPL.M_move hm h2⟩
  M_lower := by
    rintro w base base' ok (p | l) cs hb h
    · exact h
    · obtain ⟨u, h1, h2⟩ := h; exact ⟨u, h1, kPL.M_lower hb h2⟩

/-- An element of a row that is read. -/
def IVAt (w : World) (x : IV) (u : Value) : Prop := match x with
  | .one p => u = p.enc
  | .many l => ∃ A c, u = .iface 71 (.slice A l.length c) ∧ l.length ≤ c ∧ kPI.C w A l.length l
theorem at_IV {w : World} {A : Option Addr} {n : Nat} {xs : List IV} (h : kIV.C w A n xs) (i : Nat) (hi : i < n) : ∃ ad u, A = some ad ∧ w.cell? (ad.add i) = some u ∧ IVAt w (xs.getD i (.one .nil)) u := by
  obtain ⟨ad, c, e, _, hK, hc⟩ := Kd.C_get h (.one .nil) (i : Int) (by omega) (by omega)
  simp only [Int.toNat_natCast] at hK hc
  generalize xs.getD i (.one .nil) = x at hK ⊢
  rcases x with p | l
  · have hk : c = [p.enc] := hK
    subst hk
    have := hc 0 _ rfl
    rw [Nat.add_zero, show i * kIV.sz = i from Nat.mul_one i] at this
    exact ⟨ad, _, e, this, rfl⟩
  · obtain ⟨u, rfl, B, c', hu, hl, hC⟩ := hK
    injection hu with hu
    subst hu
    have := hc 0 _ rfl
    rw [Nat.add_zero, show i * kIV.sz = i from Nat.mul_one i] at this
    exact ⟨ad, _, e, this, B, c', rfl, hl, hC⟩

theorem taNilList (W : World) : (Instr.typeAssert .nilIface 20 71 true).run Tryd.prog W = .ok (.tuple #[(.slice none 0 0), .bool false]) W := by rfl
theorem asSlice_one (p : PI) (w : World) : Calls Tryd.prog 46 #[p.enc] w fun e w' => e = .returned (.tuple #[.slice none 0 0, .bool false]) ∧ w' = w := by
  have t1 := taIntList
  have t2 := taStrList
  have t3 := taBoolList
  have t4 := taNilList
  rcases p with _ | n | s | b
  all_goals
    simp only [PI.enc]
    go_enter Tryd.func46, Tryd.ntmps46
    go_wp2
    go_ret2
    exact ⟨rfl, rfl⟩
theorem asSlice_many (v : Value) (w : World) : Calls Tryd.prog 46 #[.iface 71 v] w fun e w' => e = .returned (.tuple #[v, .bool true]) ∧ w' = w := by
  have t1 := taListList
  go_enter Tryd.func46, Tryd.ntmps46
  go_wp2
  go_ret2
  exact ⟨rfl, rfl⟩
/-- append(args, v...). -/
theorem appendReflect (xs ys : List PI) (v : Value) (A : Option Addr) (c : Nat) (n : Int) (base : Nat) (w : World) (hv : kPI.R 20 w base (fun _ => True) v xs) (hr : kPI.C w A ys.length ys) (hb : base ≤ w.heap.size) (hl : xs.length + ys.length ≤ 1000000) :
    Calls Tryd.prog 51 #[v, .slice A ys.length c, .int .i64 n] w fun e w' => ∃ v', e = .returned v' ∧ kPI.R 20 w' base (fun _ => True) v' (xs ++ ys) ∧ Below base w w' ∧ w.grownBy w' v.ownBlock := by
  have HV := Aside0.mk hv
  have HR := Aside0.mk hr
  clear hv hr
  go_enter Tryd.func51, Tryd.ntmps51
  go_wp2_with (at_builtin; refine Kd.R_append_rows kPI (Rr := fun (p : PI) cs => cs = [p.enc]) (w0 := w) base rfl (.tmp 7) (.tmp 8) 71 20 .nilIface 16 rfl Tryd.underlying71 infoI rfl (by decide) (by omega) v xs ys A ys.length c (fun _ => True) (fun _ => False) rfl rfl HV.out HR.out (fun _ _ h => h) (fun _ hk => hk.elim) (fun _ _ => trivial) (Below.refl _ _) hb (by omega) ?_; intro v1 w1 h1 h2 h3 h4; have H1 := Aside0.mk h1; have H2 := Aside0.mk h2; have H3 := Aside0.mk h3; clear h1 h2 h3 h4)
  go_ret
  exact ⟨_, rfl, H1.out, H2.out, H3.out⟩
end Go.Proofs.YtnpjnekoifheoaaDoor
