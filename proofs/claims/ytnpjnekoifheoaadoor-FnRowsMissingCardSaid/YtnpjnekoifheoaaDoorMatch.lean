/- sqlx.findMatchingClosingBracketIndex over a text of ASCII. -/
import Derived.Test.YtnpjnekoifheoaaDoorFix
import Derived.Test.YtnpjnekoifheoaaDoorCompH
namespace Go.Proofs.YtnpjnekoifheoaaDoor
open Go Go.RowKit Go.Proofs.YtnpjnekoifheoaaDoorW.PrintWords
set_option linter.unusedVariables false
set_option maxRecDepth 100000

/-- The place of the bracket that closes the first one. -/
def fm : List UInt8 → Nat → Int → Nat
  | [], _, _ => 0
  | b :: r, pos, n => if b = 40 then fm r (pos + 1) (n + 1) else if b = 41 then (if n - 1 = 0 then pos else fm r (pos + 1) (n - 1)) else fm r (pos + 1) n
theorem u8_40 {c : UInt8} (h : ((c.toNat : Int) == 40) = true) : c = 40 := by
  have h1 := eq_of_beq h
  exact UInt8.toNat_inj.1 (by have : c.toNat = 40 := by omega
                              simpa using this)
theorem u8_41 {c : UInt8} (h : ((c.toNat : Int) == 41) = true) : c = 41 := by
  have h1 := eq_of_beq h
  exact UInt8.toNat_inj.1 (by have : c.toNat = 41 := by omega
                              simpa using this)
theorem u8_n40 {c : UInt8} (h : ((c.toNat : Int) == 40) = false) : ¬ c = 40 := by
  rintro rfl
  exact absurd h (by decide)
theorem u8_n41 {c : UInt8} (h : ((c.toNat : Int) == 41) = false) : ¬ c = 41 := by
  rintro rfl
  exact absurd h (by decide)
theorem fm_drop (s : ByteArray) (pos : Nat) (h : pos < s.size) (n : Int) : fm (s.data.toList.drop pos) pos n = if s[pos]'h = 40 then fm (s.data.toList.drop (pos + 1)) (pos + 1) (n + 1) else if s[pos]'h = 41 then (if n - 1 = 0 then pos else fm (s.data.toList.drop (pos + 1)) (pos + 1) (n - 1)) else fm (s.data.toList.drop (pos + 1)) (pos + 1) n := by
  have hk : pos < s.data.toList.length := by rw [← Lib.size_eq]; exact h
  rw [List.drop_eq_getElem_cons hk, fm]
  rfl
set_option maxHeartbeats 1600000 in
theorem match_is (s : ByteArray) (w : World) (hs : s.size ≤ 1000000) (ha : ∀ i, (h : i < s.size) → s[i]'h < 128) :
    Calls Tryd.prog 76 #[.string s] w fun e w' => e = .returned (.int .i64 (fm s.data.toList 0 0)) ∧ Below w.heap.size w w' := by
  have HA := Aside0.mk ha
  clear ha
  go_enter Tryd.func76, Tryd.ntmps76
  go_wp2
  have hk0 : (w.iter s 0).heap[w.heap.size]? = some (.stringIter s 0) := World.iter_heap w s 0
  have hb0 : Below w.heap.size w (w.iter s 0) := below_alloc (Below.refl _ _) _
  have HK0 := Aside0.mk hk0
  have HB0 := Aside0.mk hb0
  generalize w.iter s 0 = W5 at HK0 HB0 ⊢
  clear hk0 hb0
  go_loopw [3] (fun u3 wr => ∃ (pos : Nat) (n : Int), u3 = .int .i64 n ∧ pos ≤ s.size ∧ n ≤ pos ∧ -(pos : Int) ≤ n ∧ Aside0 (wr.heap[w.heap.size]? = some (.stringIter s pos)) ∧ Aside0 (fm s.data.toList 0 0 = fm (s.data.toList.drop pos) pos n) ∧ Aside0 (Below w.heap.size w wr)) (fun _ wr => s.size - wr.iterPos w.heap.size)
  case atStart => exact ⟨0, 0, rfl, Nat.zero_le _, by omega, by omega, HK0, ⟨rfl⟩, HB0⟩
  case round =>
    clear HK0 HB0
    obtain ⟨pos, n, rfl, hps, hn1, hn2, HK, HT, HB⟩ := hrel
    by_cases hp : pos < s.size
    · have h128 := HA.out pos hp
      have hnext : ∀ ty, (Instr.next (.pointer (some ⟨w.heap.size, 0, none⟩)) true ty).run Tryd.prog wr = _ := fun ty => Lib.run_next_ascii_at wr w.heap.size s pos ty HK.out hp h128
      have hk1 := Lib.iterAt_heap wr w.heap.size s pos (pos + 1) HK.out
      have hb1 := Lib.below_iterAt HB.out (show w.heap.size ≤ w.heap.size by omega) s (pos + 1)
      have hmu : wr.iterPos w.heap.size = pos := by simp [World.iterPos, HK.out]
      have hfm := fm_drop s pos hp n
      generalize wr.iterAt w.heap.size s (pos + 1) = W1 at hnext hk1 hb1
      obtain ⟨c, hc⟩ : ∃ c, c = s[pos]'hp := ⟨_, rfl⟩
      rw [← hc] at hnext h128 hfm
      have HK1 := Aside0.mk hk1
      have HB1 := Aside0.mk hb1
      have HMU := Lib.hid hmu
      have HFM := Lib.hid hfm
      have hmu2 : W1.iterPos w.heap.size = pos + 1 := by simp [World.iterPos, hk1]
      have HMU2 := Lib.hid hmu2
      clear hc hk1 hb1 hmu hfm hmu2
      have q1 : n + 1 ≤ 9223372036854775807 := by omega
      have q2 : -9223372036854775808 ≤ n + 1 := by omega
      have q3 : n - 1 ≤ 9223372036854775807 := by omega
      have q4 : -9223372036854775808 ≤ n - 1 := by omega
      go_wp2
      · refine ⟨⟨pos + 1, n + 1, rfl, by omega, by omega, by omega, HK1, ⟨?_⟩, HB1⟩, by rw [HMU.out, HMU2.out]; omega⟩
        rw [HT.out, HFM.out, if_pos (u8_40 (by assumption))]
      · go_ret
        refine ⟨?_, HB1.out⟩
        rw [HT.out, HFM.out, if_neg (u8_n40 (by assumption)), if_pos (u8_41 (by assumption)), if_pos (eq_of_beq (by assumption : (n - 1 == 0) = true))]
        rfl
      · refine ⟨⟨pos + 1, n - 1, rfl, by omega, by omega, by omega, HK1, ⟨?_⟩, HB1⟩, by rw [HMU.out, HMU2.out]; omega⟩
        rw [HT.out, HFM.out, if_neg (u8_n40 (by assumption)), if_pos (u8_41 (by assumption)), if_neg (ne_of_beq_false (by assumption : (n - 1 == 0) = false))]
      · refine ⟨⟨pos + 1, n, rfl, by omega, by omega, by omega, HK1, ⟨?_⟩, HB1⟩, by rw [HMU.out, HMU2.out]; omega⟩
        rw [HT.out, HFM.out, if_neg (u8_n40 (by assumption)), if_neg (u8_n41 (by assumption))]
    · have hnext : ∀ ty, (Instr.next (.pointer (some ⟨w.heap.size, 0, none⟩)) true ty).run Tryd.prog wr = _ := fun ty => Lib.run_next_end_at wr w.heap.size s pos ty HK.out hp
      go_wp2
      go_ret
      refine ⟨?_, HB.out⟩
      rw [HT.out, List.drop_eq_nil_of_le (by rw [← Lib.size_eq]; omega), fm]
      rfl
end Go.Proofs.YtnpjnekoifheoaaDoor
