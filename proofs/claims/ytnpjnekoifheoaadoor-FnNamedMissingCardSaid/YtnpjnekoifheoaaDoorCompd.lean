/- sqlx.compileNamedQuery at any kind, sqlx.Compile, impl.Compiled, where the machine comes through. -/
import Derived.Test.YtnpjnekoifheoaaDoorComp0
import Derived.Test.YtnpjnekoifheoaaDoorComp1
import Derived.Test.YtnpjnekoifheoaaDoorComp2
import Derived.Test.YtnpjnekoifheoaaDoorComp3
import Derived.Test.YtnpjnekoifheoaaDoorComp4
import Derived.Lib.ConvBytes
import Derived.Lib.AtoiErrMem
namespace Go.Proofs.YtnpjnekoifheoaaDoor
open Go Go.RowKit Go.Proofs.YtnpjnekoifheoaaDoorW.PrintWords
set_option linter.unusedVariables false
set_option maxRecDepth 100000

theorem compile_any (k : Int) (L : List UInt8) (fin : CS) (A : Option Addr) (c : Nat) (w : World) (hk0 : 0 ≤ k) (hk4 : k ≤ 4) (hr : kB.C w A L.length L) (hL : L.length ≤ 100000) (hc : L.count 58 ≤ 90) (hrun : crun k L ⟨[], [], none⟩ = some fin) :
    Calls Tryd.prog 44 #[.slice A L.length c, .int .i64 k] w (CompPost fin w) := by
  rcases (show k = 0 ∨ k = 1 ∨ k = 2 ∨ k = 3 ∨ k = 4 by omega) with rfl | rfl | rfl | rfl | rfl
  · exact compile_0 L fin A c w hr hL hc hrun
  · exact compile_1 L fin A c w hr hL hc hrun
  · exact compile_2 L fin A c w hr hL hc hrun
  · exact compile_3 L fin A c w hr hL hc hrun
  · exact compile_4 L fin A c w hr hL hc hrun
theorem bytes_read (w : World) (q : ByteArray) (hq : q.size ≤ 100000) : kB.C (Lib.bytesWorld w 5 q) (some ⟨w.heap.size, 0, none⟩) q.data.toList.length q.data.toList := by
  have hs := Lib.size_eq q
  refine ⟨rfl, by omega, fun _ => ⟨_, rfl, fun j p hj => ⟨[encB p], rfl, rfl, fun i u hu => ?_⟩⟩⟩
  have hi : i = 0 := by have := (List.getElem?_eq_some_iff.1 hu).1; simp at this; exact this
  subst hi
  have hu' : encB p = u := by simpa using hu
  have hjl := (List.getElem?_eq_some_iff.1 hj).1
  rw [Nat.add_zero, show j * kB.sz = j from Nat.mul_one j, add_plain, ← hu']
  have h1 := Lib.bytesWorld_cell w 5 q j (by omega)
  rw [List.getD_eq_getElem?_getD, hj] at h1
  simpa [encB] using h1
theorem Compile_ok (k : Int) (q : ByteArray) (fin : CS) (w : World) (hk0 : 0 ≤ k) (hk4 : k ≤ 4) (hq : q.size ≤ 100000) (hc : q.data.toList.count 58 ≤ 90) (hrun : crun k q.data.toList ⟨[], [], none⟩ = some fin) :
    Calls Tryd.prog 34 #[.string q, .int .i64 k] w (CompPost fin w) := by
  have hcv := Lib.run_convert_string_bytes (P := Tryd.prog) w 9 26 5 q Tryd.underlying9 Tryd.underlying26 Tryd.underlying5
  have hC := bytes_read w q hq
  have hB := Lib.bytesWorld_below w 5 q
  generalize grownCap w q.size 0 5 = cc at hcv
  rw [Lib.size_eq] at hcv
  generalize Lib.bytesWorld w 5 q = w1 at hcv hC hB
  have HC := Aside0.mk (compile_any k q.data.toList fin _ cc w1 hk0 hk4 hC (by rw [← Lib.size_eq]; exact hq) hc hrun)
  have HB := Aside0.mk hB
  clear hC hB hc hrun
  go_enter Tryd.func34, Tryd.ntmps34
  go_wp2_with (go_at_call 44; refine HC.out.mono ?_; rintro e w2 ⟨v, rfl, h1, h2⟩; have H1 := Aside0.mk h1; have H2 := Aside0.mk h2; clear h1 h2)
  exact bodyPost_ret (v := .tuple #[.string ⟨fin.reb.toArray⟩, v, .nilIface]) (by simp [results, Tryd.results34, go_sem]) rfl ⟨v, rfl, Kd.R_lower H1.out HB.out.size, below_step HB.out H2.out⟩
theorem Compiled_ok (k : Int) (q : ByteArray) (fin : CS) (w : World) (hk0 : 0 ≤ k) (hk4 : k ≤ 4) (hq : q.size ≤ 100000) (hc : q.data.toList.count 58 ≤ 90) (hrun : crun k q.data.toList ⟨[], [], none⟩ = some fin) :
    Calls Tryd.prog 17 #[.int .i64 k, .string q] w fun e w' => ∃ v, e = .returned (.tuple #[.string ⟨fin.reb.toArray⟩, v, .bool true]) ∧ Kd.string.R 9 w' w.heap.size (fun _ => True) v fin.names ∧ Below w.heap.size w w' := by
  have HC := Aside0.mk (Compile_ok k q fin w hk0 hk4 hq hc hrun)
  clear hc hrun
  go_enter Tryd.func17, Tryd.ntmps17
  go_wp2_with (go_at_call 34; refine HC.out.mono ?_; rintro e w2 ⟨v, rfl, h1, h2⟩; have H1 := Aside0.mk h1; have H2 := Aside0.mk h2; clear h1 h2)
  exact bodyPost_ret (v := .tuple #[.string ⟨fin.reb.toArray⟩, v, .bool true]) (by simp [results, Tryd.results17, go_sem]) rfl ⟨v, rfl, H1.out, H2.out⟩
end Go.Proofs.YtnpjnekoifheoaaDoor
