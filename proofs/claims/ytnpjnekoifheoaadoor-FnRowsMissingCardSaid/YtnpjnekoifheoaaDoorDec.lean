/- Decimal digits, and texts by their bytes. -/
import Derived.Test.YtnpjnekoifheoaaDoorLaws
import Derived.Lib.ItoaNum
namespace Go.Proofs.YtnpjnekoifheoaaDoor
open Go Go.RowKit Go.Proofs.YtnpjnekoifheoaaDoorW.PrintWords
set_option linter.unusedVariables false
set_option maxRecDepth 100000

theorem ba_ext {a b : ByteArray} (h : a.data.toList = b.data.toList) : a = b := by
  cases a
  cases b
  simp at h
  rw [h]
theorem dec_step (n : Nat) (h : ¬ n < 10) : Lib.decDigits n = Lib.decDigits (n / 10) ++ [UInt8.ofNat (48 + n % 10)] := by
  rw [Lib.decDigits, dif_neg h]
theorem dec_last (n : Nat) (h : n < 10) : Lib.decDigits n = [UInt8.ofNat (48 + n)] := by
  rw [Lib.decDigits, dif_pos h]
theorem dec_len (n : Nat) (h : n ≤ 99) : (Lib.decDigits n).length ≤ 2 := by
  by_cases h1 : n < 10
  · rw [dec_last n h1]; simp
  · rw [dec_step n h1, dec_last (n / 10) (by omega)]; simp
end Go.Proofs.YtnpjnekoifheoaaDoor
