/- laws.all9: rows of plain values, one behind the other. -/
import Derived.Test.YtnpjnekoifheoaaDoorBind
import Derived.Test.YtnpjnekoifheoaaDoorValueOf
import Derived.Test.YtnpjnekoifheoaaDoorFlat
namespace Go.Proofs.YtnpjnekoifheoaaDoor
open Go Go.RowKit Go.Proofs.YtnpjnekoifheoaaDoorW.PrintWords
set_option linter.unusedVariables false
set_option maxRecDepth 100000

theorem flat_take_len {α : Type} (vss : List (List α)) (m : Nat) (h : ∀ i, i < vss.length → (vss.getD i []).length ≤ m) : ∀ k, k ≤ vss.length → ((vss.take k).flatten).length ≤ m * k := by
  intro k
  induction k with
  | zero => intro _; simp
  | succ k ih =>
    intro hk
    rw [take_snoc' vss k (by omega) [], List.flatten_append, List.length_append]
    have h1 := ih (by omega)
    have h2 := h k (by omega)
    simp only [List.flatten_cons, List.flatten_nil, List.append_nil]
    rw [Nat.mul_succ]
    omega
theorem flat_take_next {α : Type} (vss : List (List α)) (k : Nat) (hk : k < vss.length) : (vss.take (k + 1)).flatten = (vss.take k).flatten ++ vss.getD k [] := by
  rw [take_snoc' vss k hk [], List.flatten_append]
  simp
/-- Rows of values, as they come in. -/
def kVV : Kd (List SV) := Kd.slice 41 kV
theorem at_SL {α : Type} {d : Kd α} {e : Nat} {w : World} {A : Option Addr} {n : Nat} {xs : List (List α)} (h : (Kd.slice e d).C w A n xs) (i : Nat) (hi : i < n) : ∃ ad A3 c3, A = some ad ∧ w.cell? (ad.add i) = some (.slice A3 (xs.getD i []).length c3) ∧ (xs.getD i []).length ≤ c3 ∧ d.C w A3 (xs.getD i []).length (xs.getD i []) := by
  obtain ⟨ad, c, e1, _, hK, hc⟩ := Kd.C_get h [] (i : Int) (by omega) (by omega)
  simp only [Int.toNat_natCast] at hK hc
  obtain ⟨A3, c3, rfl, hl, hC⟩ := hK
  have := hc 0 _ rfl
  exact ⟨ad, A3, c3, e1, by simpa [Kd.slice] using this, hl, hC⟩
theorem kPV_reads {w : World} {A : Option Addr} {n : Nat} {ps : List PI} (h : kPV.C w A n ps) : ReadsRow (fun (p : PI) cs => ∃ A c, cs = [Value.int .i64 p.k, .int .i64 p.n, .string p.s, .slice A 0 c]) 4 w A n ps := h
set_option maxHeartbeats 1600000 in
theorem all9_is (xss : List (List SV)) (pss : List (List PI)) (A : Option Addr) (c : Nat) (w : World) (hr : kVV.C w A xss.length xss) (hp : pss.length = xss.length) (hP : ∀ i, i < xss.length → Plain (xss.getD i []) (pss.getD i [])) (hl : ∀ i, i < pss.length → (pss.getD i []).length ≤ 30) (h8 : xss.length ≤ 100) :
    Calls Tryd.prog 32 #[.slice A xss.length c] w fun e w' => (∃ v, e = .returned v ∧ kPV.R 41 w' w.heap.size (fun _ => True) v pss.flatten) ∧ Below w.heap.size w w' := by
  have hu := Tryd.underlying35
  have hi2 := infoV
  have HR := Aside0.mk hr
  have HP := Aside0.mk hP
  have HPL := Lib.hid hp
  have HFL := Aside0.mk (flat_take_len pss 30 hl)
  have HL := Aside0.mk hl
  clear hr hP hp hl
  go_enter Tryd.func32, Tryd.ntmps32
  go_wp2
  go_loopw [3, 7] (fun out i wr => ∃ k : Nat, i = .int .i64 k ∧ k ≤ xss.length ∧ Aside0 (kPV.R 41 wr w.heap.size (fun _ => True) out ((pss.take k).flatten)) ∧ Aside0 (Below w.heap.size w wr)) (fun _ i _ => xss.length - (intOf i).toNat)
  case atStart => exact ⟨0, rfl, Nat.zero_le _, ⟨Kd.R_nil _ _ _ _ _⟩, ⟨Below.refl _ _⟩⟩
  case round =>
    obtain ⟨k, rfl, hk, HO, HB⟩ := hrel
    by_cases hlt : k < xss.length
    · obtain ⟨ad, A3, c3, rfl, h0, hle, hC⟩ := at_SL (Kd.C_below HR.out HB.out) k hlt
      have hpl := HP.out k hlt
      have hfl := HFL.out k (by have := HPL.out; omega)
      have hfn := flat_take_next pss k (by have := HPL.out; omega)
      have hxl : (xss.getD k []).length = (pss.getD k []).length := by rw [hpl.1, List.length_map]
      rw [hxl] at h0 hle hC
      rw [hpl.1] at hC
      have hC2 := kPV_of_kV hC
      have hpz := HL.out k (by have := HPL.out; omega)
      generalize pss.getD k [] = ps at h0 hle hC2 hfn hpz
      have HC2 := Aside0.mk hC2
      have HFN := Lib.hid hfn
      clear hC hC2 hpl hxl hfn
      go_wp2_with (at_builtin; refine Kd.R_append_rows kPV (Rr := fun (p : PI) cs => ∃ A c, cs = [Value.int .i64 p.k, .int .i64 p.n, .string p.s, .slice A 0 c]) (w0 := w) w.heap.size rfl (.tmp 10) (.tmp 14) 35 41 (.agg #[.int .i64 0, .int .i64 0, .string ⟨#[]⟩, .slice none 0 0]) 56 rfl hu hi2 rfl (by decide) (by omega) _ ((pss.take k).flatten) ps A3 ps.length c3 (fun _ => True) (fun _ => False) rfl rfl HO.out HC2.out (fun _ _ h => h) (fun _ hk => hk.elim) (fun _ _ => trivial) HB.out HB.out.size ?aL ?_)
      case aL => omega
      intro v1 w2 hR hB2 _ _
      rw [← HFN.out] at hR
      have HO2 := Aside0.mk hR
      have HB2 := Aside0.mk hB2
      clear hR hB2 HO HB h0
      go_wp2
      go_roundw
      case rel => exact ⟨k + 1, by go_num, by omega, HO2, HB2⟩
      case measure => simp [intOf]; omega
    · have hk' : k = xss.length := by omega
      subst hk'
      rw [← HPL.out, List.take_length] at HO
      go_wp2
      go_ret
      exact ⟨⟨u3, rfl, HO.out⟩, HB.out⟩
end Go.Proofs.YtnpjnekoifheoaaDoor
