/- laws.mark9, laws.told9. -/
import Derived.Test.YtnpjnekoifheoaaDoorCompd
import Derived.Test.YtnpjnekoifheoaaDoorDigits
namespace Go.Proofs.YtnpjnekoifheoaaDoor
open Go Go.RowKit Go.Proofs.YtnpjnekoifheoaaDoorW.PrintWords
set_option linter.unusedVariables false
set_option maxRecDepth 100000

theorem digits9_tell (n : Int) (w : World) (m : Nat) (hn : n = m) (hm : m ≤ 99) : Calls Tryd.prog 19 #[.int .i64 n] w fun e w' => (∃ D : ByteArray, e = .returned (.string D) ∧ D.data.toList = Lib.decDigits m ∧ D.size ≤ 2) ∧ Below w.heap.size w w' := by
  subst hn
  refine (digits9_is m w (by omega)).mono ?_
  rintro e w' ⟨rfl, h⟩
  refine ⟨⟨_, rfl, by simp, ?_⟩, h⟩
  rw [Lib.size_eq]
  simpa using dec_len m hm
theorem mark9_is (a : Int) (n : Nat) (nm : ByteArray) (w : World) (h0 : 0 ≤ a) (h1 : a ≤ 255) (hn : n ≤ 99) (hnm : nm.size ≤ 1000000) :
    Calls Tryd.prog 16 #[.int .u8 a, .int .i64 n, .string nm] w fun e w' => e = .returned (.tuple #[.int .i64 (a % 5), .string ⟨(markL (a % 5) n nm.data.toList).toArray⟩]) ∧ Below w.heap.size w w' := by
  rcases (show a % 5 = 0 ∨ a % 5 = 1 ∨ a % 5 = 2 ∨ a % 5 = 3 ∨ a % 5 = 4 by omega) with h | h | h | h | h
  all_goals
    rw [h]
    go_enter Tryd.func16, Tryd.ntmps16
    go_wp2_with (go_at_call 19; refine (digits9_tell _ _ n rfl hn).mono ?_; rintro e w2 ⟨⟨D, rfl, hD, hz⟩, h2⟩; have H2 := Aside0.mk h2; have HD := Lib.hid hD; clear h2 hD)
    go_ret2
    refine ⟨?_, by first | exact H2.out | exact Below.refl _ _⟩
  · rfl
  · rfl
  · have e : (⟨#[36]⟩ ++ D : ByteArray) = ⟨(markL 2 n nm.data.toList).toArray⟩ := ba_ext (by simp [markL, HD.out])
    exact congrArg (fun s : ByteArray => Ending.returned (.tuple #[.int .i64 2, .string s])) e
  · have e : (⟨#[58]⟩ ++ nm : ByteArray) = ⟨(markL 3 n nm.data.toList).toArray⟩ := ba_ext (by simp [markL])
    exact congrArg (fun s : ByteArray => Ending.returned (.tuple #[.int .i64 3, .string s])) e
  · have e : (⟨#[64, 112]⟩ ++ D : ByteArray) = ⟨(markL 4 n nm.data.toList).toArray⟩ := ba_ext (by simp [markL, HD.out])
    exact congrArg (fun s : ByteArray => Ending.returned (.tuple #[.int .i64 4, .string s])) e
theorem told9_true (a : Int) (q x nm y : ByteArray) (w : World) (h0 : 0 ≤ a) (h1 : a ≤ 255) (hq : q.size ≤ 1000) (hx : x.size ≤ 1000) (hn : nm.size ≤ 1000) (hy : y.size ≤ 1000) (hc : q.data.toList.count 58 ≤ 90)
    (hrun : crun (a % 5) q.data.toList ⟨[], [], none⟩ = some ⟨x.data.toList ++ markL (a % 5) 1 nm.data.toList ++ y.data.toList, [nm], none⟩) :
    Calls Tryd.prog 14 #[.int .u8 a, .string q, .string x, .string nm, .string y] w fun e w' => e = .returned (.bool true) ∧ Below w.heap.size w w' := by
  have HRUN := Lib.hid hrun
  have HC := Lib.hid hc
  obtain ⟨M, hM⟩ : ∃ M : ByteArray, M = ⟨(markL (a % 5) 1 nm.data.toList).toArray⟩ := ⟨_, rfl⟩
  have hMz : M.size ≤ 2000 := by
    rw [hM, Lib.size_eq]
    have h2 := dec_len 1 (by omega)
    have h3 := Lib.size_eq nm
    unfold markL
    split
    · simp; omega
    · split
      · simp; omega
      · split
        · simp; omega
        · simp
  have HM := Lib.hid hM
  have hfin : (⟨(x.data.toList ++ markL (a % 5) 1 nm.data.toList ++ y.data.toList).toArray⟩ : ByteArray) = x ++ M ++ y := ba_ext (by simp [hM])
  have HF := Lib.hid hfin
  obtain ⟨kk, hkk⟩ : ∃ kk, kk = a % 5 := ⟨_, rfl⟩
  have hk0 : 0 ≤ kk := by omega
  have hk4 : kk ≤ 4 := by omega
  have HK := Lib.hid hkk
  clear hrun hc hM hfin hkk
  go_enter Tryd.func14, Tryd.ntmps14
  go_wp2_with (first | (go_at_call 16; refine (mark9_is a 1 nm _ h0 h1 (by omega) (by omega)).mono ?_; rintro e w2 ⟨he, h2⟩; rw [← HM.out, ← HK.out] at he; subst he; have H2 := Aside0.mk h2; clear h2) | (go_at_call 17; refine (Compiled_ok kk q _ _ hk0 hk4 (by omega) HC.out (by rw [HK.out]; exact HRUN.out)).mono ?_; rintro e w3 ⟨v, he, h1, h2⟩; simp only [HF.out] at he; obtain ⟨C, f, rfl, hle, hC⟩ := Kd.R_reads h1; subst he; have g0 := (at_S hC (⟨#[]⟩ : ByteArray) 0 (by simp)); obtain ⟨ad, rfl, g1⟩ := g0; have g2 : w3.cell? ad = some (.string nm) := (by rw [Addr.add_zero'] at g1; exact g1); have H3 := Aside0.mk h2; clear h1 h2 hC hle))
  go_ret
  exact ⟨rfl, below_step H2.out H3.out⟩
end Go.Proofs.YtnpjnekoifheoaaDoor
