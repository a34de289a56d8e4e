/- laws.digits9: the decimal digits. -/
import Derived.Test.YtnpjnekoifheoaaDoorRebind
import Derived.Test.YtnpjnekoifheoaaDoorDec
namespace Go.Proofs.YtnpjnekoifheoaaDoor
open Go Go.RowKit Go.Proofs.YtnpjnekoifheoaaDoorW.PrintWords
set_option linter.unusedVariables false
set_option maxRecDepth 100000

theorem conv_one (W : World) (x : Int) (d : Nat) (hx : x = 48 + (d : Int)) (hd : d < 10) :
    (convert 26 9 (.slice (some ⟨W.heap.size, 0, none⟩) 1 1)).run Tryd.prog (W.alloc (.cells #[.int .u8 x] 5)) = .ok (.string ⟨#[UInt8.ofNat (48 + d)]⟩) (W.alloc (.cells #[.int .u8 x] 5)) := by
  have e : #[Value.int .u8 x] = ([UInt8.ofNat (48 + d)].map encB).toArray := by
    simp [encB, hx]
    omega
  rw [e]
  exact convert_back (c := 1) (reads_B _ _ [UInt8.ofNat (48 + d)] (blk_new _ _) (by simp))
theorem digits9_is (n : Nat) (w : World) (hn : n ≤ 1000) :
    Calls Tryd.prog 19 #[.int .i64 n] w fun e w' => e = .returned (.string ⟨(Lib.decDigits n).toArray⟩) ∧ Below w.heap.size w w' := by
  go_enter Tryd.func19, Tryd.ntmps19
  go_wp2
  go_loopw [0, 3] (fun i s wr => ∃ (m : Nat) (S : ByteArray), i = .int .i64 m ∧ s = .string S ∧ S.size + m ≤ 1000 ∧ Aside0 (Lib.decDigits n = Lib.decDigits m ++ S.data.toList) ∧ Aside0 (Below w.heap.size w wr)) (fun i _ _ => (intOf i).toNat)
  case atStart => exact ⟨n, ⟨#[]⟩, rfl, rfl, by have : (⟨#[]⟩ : ByteArray).size = 0 := rfl; omega, ⟨by simp⟩, ⟨Below.refl _ _⟩⟩
  case round =>
    obtain ⟨m, S, rfl, rfl, hz, HD, HB⟩ := hrel
    by_cases hm : m < 10
    · have hcv := conv_one wr (48 + (m : Int)) m rfl hm
      have hl := dec_last m hm
      generalize UInt8.ofNat (48 + m) = d at hcv hl
      have HL := Lib.hid hl
      clear hl
      have h9 : ¬ (9 < (m : Int)) := by omega
      go_wp2
      go_ret
      refine ⟨?_, below_alloc HB.out _⟩
      rw [HD.out, HL.out]
      have e : (⟨#[d]⟩ ++ S : ByteArray) = ⟨([d] ++ S.data.toList).toArray⟩ := ba_ext (by simp)
      show Ending.returned (.string (⟨#[d]⟩ ++ S)) = _
      rw [e]
    · have h9 : 9 < (m : Int) := by omega
      have hcv := conv_one wr (48 + (m : Int) % 10) (m % 10) (by omega) (by omega)
      have hl := dec_step m hm
      generalize UInt8.ofNat (48 + m % 10) = d at hcv hl
      have HL := Lib.hid hl
      clear hl
      go_wp2
      go_roundw
      case rel =>
        refine ⟨m / 10, _, by first | rfl | go_num, rfl, ?_, ⟨?_⟩, ⟨below_alloc HB.out _⟩⟩
        · have e : (⟨#[d]⟩ ++ S : ByteArray).size = 1 + S.size := by simp; rfl
          omega
        · rw [HD.out, HL.out]
          simp
      case measure => simp [intOf]; omega
end Go.Proofs.YtnpjnekoifheoaaDoor
