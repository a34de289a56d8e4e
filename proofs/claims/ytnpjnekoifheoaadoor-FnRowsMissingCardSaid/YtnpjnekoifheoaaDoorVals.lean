/- sqlx.zzValues (under way). -/
import Derived.Test.YtnpjnekoifheoaaDoorMatch
namespace Go.Proofs.YtnpjnekoifheoaaDoor
open Go Go.RowKit Go.Proofs.YtnpjnekoifheoaaDoorW.PrintWords
set_option linter.unusedVariables false
set_option maxRecDepth 100000

/-- The letters are folded one by one, from k to r. -/
def FoldsTo (l : List UInt8) : Nat → List Int → Nat → Prop
  | k, [], r => k = r
  | k, c :: cs, r => ∃ n : Nat, n ≠ 0 ∧ FoldIs l k c n ∧ FoldsTo l (k + n) cs r
abbrev valsS : ByteArray := ⟨#[118, 97, 108, 117, 101, 115]⟩
def vals : List Int := [118, 97, 108, 117, 101, 115]
/-- Behind the bracket at i stands the word, and a bracket at K. -/
def HitAt (l : List UInt8) (i K : Nat) : Prop := l.getD i 0 = 41 ∧ ∃ k0 k, SpIs l (i + 1) k0 ∧ FoldsTo l k0 vals k ∧ SpIs l k K ∧ K < l.length ∧ l.getD K 0 = 40
/-- Behind the place i there is none. -/
def FailAt (l : List UInt8) (i : Nat) : Prop := l.getD i 0 ≠ 41 ∨ ∃ k0, SpIs l (i + 1) k0 ∧ ((∃ j k, j < 6 ∧ FoldsTo l k0 (vals.take j) k ∧ FoldIs l k (vals.getD j 0) 0) ∨ ∃ k K, FoldsTo l k0 vals k ∧ SpIs l k K ∧ ¬ (K < l.length ∧ l.getD K 0 = 40))
theorem folds_snoc {l : List UInt8} {c : Int} : ∀ {cs : List Int} {k0 k : Nat}, FoldsTo l k0 cs k → ∀ n : Nat, n ≠ 0 → FoldIs l k c n → FoldsTo l k0 (cs ++ [c]) (k + n)
  | [], k0, k, h, n, hn, hf => by
    have h' : k0 = k := h
    subst h'
    exact ⟨n, hn, hf, rfl⟩
  | _ :: cs, k0, k, ⟨m, h1, h2, h3⟩, n, hn, hf => ⟨m, h1, h2, folds_snoc h3 n hn hf⟩
theorem vals_128 (j : Nat) (h : j < 6) : valsS[j]'(show j < valsS.size from h) < 128 := by
  match j, h with
  | 0, _ => show (118 : UInt8) < 128; decide
  | 1, _ => show (97 : UInt8) < 128; decide
  | 2, _ => show (108 : UInt8) < 128; decide
  | 3, _ => show (117 : UInt8) < 128; decide
  | 4, _ => show (101 : UInt8) < 128; decide
  | 5, _ => show (115 : UInt8) < 128; decide
theorem u8_b41 {c : UInt8} (h : ((c.toNat : Int) != 41) = false) : c = 41 := by
  refine u8_41 ?_
  cases e : ((c.toNat : Int) == 41)
  · simp [bne, e] at h
  · rfl
theorem fold_n {l : List UInt8} {k : Nat} {c n : Int} (h : FoldIs l k c n) : n = 0 ∨ (n = 1 ∧ k + 1 ≤ l.length) ∨ (n = 2 ∧ k + 2 ≤ l.length) := by
  rcases h with h | h | h
  · exact .inr (.inl ⟨h.1, by omega⟩)
  · exact .inr (.inr ⟨h.1, by omega⟩)
  · exact .inl h.1
set_option maxHeartbeats 4000000 in
theorem zzValues_is (s : ByteArray) (w : World) (hs : s.size ≤ 1000000) :
    Calls Tryd.prog 75 #[.string s] w fun e w' => ((e = .returned (.slice none 0 0) ∧ ∀ i, i < s.size → FailAt s.data.toList i) ∨ ∃ A i K, e = .returned (.slice (some A) 2 2) ∧ HitAt s.data.toList i K ∧ (∀ j, j < i → FailAt s.data.toList j) ∧ w'.cell? A = some (.int .i64 i) ∧ w'.cell? (A.add 1) = some (.int .i64 (K + 1))) ∧ Below w.heap.size w w' := by
  go_enter Tryd.func75, Tryd.ntmps75
  go_wp2
  go_loopw [3] (fun ui wr => ∃ i : Nat, ui = .int .i64 i ∧ i ≤ s.size ∧ Aside0 (∀ j, j < i → FailAt s.data.toList j) ∧ Aside0 (Below w.heap.size w wr)) (fun ui _ => s.size - (intOf ui).toNat)
  case atStart => exact ⟨0, rfl, Nat.zero_le _, ⟨fun j hj => by omega⟩, ⟨Below.refl _ _⟩⟩
  case round =>
    obtain ⟨i, rfl, hi, HF, HB⟩ := hrel
    by_cases hlt : i < s.size
    · have e1 := getD_at s i hlt
      have HE := Lib.hid e1
      clear e1
      go_wp2_with (go_at_call 84; refine (zzSpace_is s (i + 1) _ (by omega) (by omega)).mono ?_; rintro e w1 ⟨⟨k0, rfl, hsp⟩, rfl⟩; have HSP := Aside0.mk hsp; clear hsp)
      · refine ⟨⟨i + 1, by go_num, by omega, ⟨fun j hj => ?_⟩, HB⟩, by simp [intOf]; omega⟩
        by_cases e : j = i
        · subst e
          refine .inl fun h => ?_
          rw [HE.out] at h
          have q : ((s[j].toNat : Int) != 41) = true := by assumption
          rw [h] at q
          exact absurd q (by decide)
        · exact HF.out j (by omega)
      · have hk0 : (w1.iter valsS 0).heap[w1.heap.size]? = some (.stringIter valsS 0) := World.iter_heap w1 valsS 0
        have hb0 : Below w.heap.size w (w1.iter valsS 0) := below_alloc HB.out _
        have HK0 := Aside0.mk hk0
        have HB0 := Aside0.mk hb0
        have hbs := HB.out.size
        have hk0s : k0 ≤ s.size := by rw [Lib.size_eq]; exact HSP.out.2.1
        generalize w1.iter valsS 0 = W5 at HK0 HB0 ⊢
        clear hk0 hb0
        go_loopw [4] (fun uk wr => ∃ j k : Nat, uk = .int .i64 k ∧ j ≤ 6 ∧ k ≤ s.size ∧ Aside0 (FoldsTo s.data.toList k0 (vals.take j) k) ∧ Aside0 (wr.heap[w1.heap.size]? = some (.stringIter valsS j)) ∧ Aside0 (Below w.heap.size w wr)) (fun _ wr => 6 - wr.iterPos w1.heap.size)
        case atStart => exact ⟨0, k0, rfl, by omega, hk0s, ⟨rfl⟩, HK0, HB0⟩
        case round =>
          obtain ⟨j, k, rfl, hj, hk, HFO, HK, HB2⟩ := hrel
          by_cases hj6 : j < 6
          · have h128 : valsS[j]'(show j < valsS.size from hj6) < 128 := by exact vals_128 j hj6
            have hnext : ∀ ty, (Instr.next (.pointer (some ⟨w1.heap.size, 0, none⟩)) true ty).run Tryd.prog wr = _ := fun ty => Lib.run_next_ascii_at wr w1.heap.size valsS j ty HK.out hj6 h128
            have hk1 := Lib.iterAt_heap wr w1.heap.size valsS j (j + 1) HK.out
            have hb1 := Lib.below_iterAt HB2.out hbs valsS (j + 1)
            have hmu : wr.iterPos w1.heap.size = j := by simp [World.iterPos, HK.out]
            generalize wr.iterAt w1.heap.size valsS (j + 1) = W1 at hnext hk1 hb1
            have HK1 := Aside0.mk hk1
            have HB3 := Aside0.mk hb1
            have HMU := Lib.hid hmu
            have hmu2 : W1.iterPos w1.heap.size = j + 1 := by simp [World.iterPos, hk1]
            have HMU2 := Lib.hid hmu2
            clear hk1 hb1 hmu hmu2 h128 HK
            rcases (show j = 0 ∨ j = 1 ∨ j = 2 ∨ j = 3 ∨ j = 4 ∨ j = 5 by omega) with rfl | rfl | rfl | rfl | rfl | rfl
            · replace hnext : ∀ ty, (Instr.next (.pointer (some ⟨w1.heap.size, 0, none⟩)) true ty).run Tryd.prog wr = .ok (.tuple #[.bool true, .int .i64 0, .int .i32 118]) W1 := hnext
              go_wp2_with (go_at_call 85; refine (zzFold_is s k 118 _ (by decide) hk (by omega)).mono ?_; rintro e w2 ⟨⟨n, rfl, hn⟩, rfl⟩; have HN := Aside0.mk hn; clear hn; rcases fold_n HN.out with rfl | ⟨rfl, hkn⟩ | ⟨rfl, hkn⟩)
              · refine ⟨⟨i + 1, by go_num, by omega, ⟨fun q hq => ?_⟩, HB3⟩, by simp [intOf]; omega⟩
                by_cases e : q = i
                · rw [e]; exact .inr ⟨k0, HSP.out, .inl ⟨0, k, by omega, HFO.out, HN.out⟩⟩
                · exact HF.out q (by omega)
              · rw [← Lib.size_eq] at hkn
                exact ⟨⟨1, k + 1, rfl, by omega, hkn, ⟨folds_snoc HFO.out 1 (by omega) HN.out⟩, HK1, HB3⟩, by rw [HMU.out, HMU2.out]; omega⟩
              · rw [← Lib.size_eq] at hkn
                exact ⟨⟨1, k + 2, rfl, by omega, hkn, ⟨folds_snoc HFO.out 2 (by omega) HN.out⟩, HK1, HB3⟩, by rw [HMU.out, HMU2.out]; omega⟩
            · replace hnext : ∀ ty, (Instr.next (.pointer (some ⟨w1.heap.size, 0, none⟩)) true ty).run Tryd.prog wr = .ok (.tuple #[.bool true, .int .i64 1, .int .i32 97]) W1 := hnext
              go_wp2_with (go_at_call 85; refine (zzFold_is s k 97 _ (by decide) hk (by omega)).mono ?_; rintro e w2 ⟨⟨n, rfl, hn⟩, rfl⟩; have HN := Aside0.mk hn; clear hn; rcases fold_n HN.out with rfl | ⟨rfl, hkn⟩ | ⟨rfl, hkn⟩)
              · refine ⟨⟨i + 1, by go_num, by omega, ⟨fun q hq => ?_⟩, HB3⟩, by simp [intOf]; omega⟩
                by_cases e : q = i
                · rw [e]; exact .inr ⟨k0, HSP.out, .inl ⟨1, k, by omega, HFO.out, HN.out⟩⟩
                · exact HF.out q (by omega)
              · rw [← Lib.size_eq] at hkn
                exact ⟨⟨2, k + 1, rfl, by omega, hkn, ⟨folds_snoc HFO.out 1 (by omega) HN.out⟩, HK1, HB3⟩, by rw [HMU.out, HMU2.out]; omega⟩
              · rw [← Lib.size_eq] at hkn
                exact ⟨⟨2, k + 2, rfl, by omega, hkn, ⟨folds_snoc HFO.out 2 (by omega) HN.out⟩, HK1, HB3⟩, by rw [HMU.out, HMU2.out]; omega⟩
            · replace hnext : ∀ ty, (Instr.next (.pointer (some ⟨w1.heap.size, 0, none⟩)) true ty).run Tryd.prog wr = .ok (.tuple #[.bool true, .int .i64 2, .int .i32 108]) W1 := hnext
              go_wp2_with (go_at_call 85; refine (zzFold_is s k 108 _ (by decide) hk (by omega)).mono ?_; rintro e w2 ⟨⟨n, rfl, hn⟩, rfl⟩; have HN := Aside0.mk hn; clear hn; rcases fold_n HN.out with rfl | ⟨rfl, hkn⟩ | ⟨rfl, hkn⟩)
              · refine ⟨⟨i + 1, by go_num, by omega, ⟨fun q hq => ?_⟩, HB3⟩, by simp [intOf]; omega⟩
                by_cases e : q = i
                · rw [e]; exact .inr ⟨k0, HSP.out, .inl ⟨2, k, by omega, HFO.out, HN.out⟩⟩
                · exact HF.out q (by omega)
              · rw [← Lib.size_eq] at hkn
                exact ⟨⟨3, k + 1, rfl, by omega, hkn, ⟨folds_snoc HFO.out 1 (by omega) HN.out⟩, HK1, HB3⟩, by rw [HMU.out, HMU2.out]; omega⟩
              · rw [← Lib.size_eq] at hkn
                exact ⟨⟨3, k + 2, rfl, by omega, hkn, ⟨folds_snoc HFO.out 2 (by omega) HN.out⟩, HK1, HB3⟩, by rw [HMU.out, HMU2.out]; omega⟩
            · replace hnext : ∀ ty, (Instr.next (.pointer (some ⟨w1.heap.size, 0, none⟩)) true ty).run Tryd.prog wr = .ok (.tuple #[.bool true, .int .i64 3, .int .i32 117]) W1 := hnext
              go_wp2_with (go_at_call 85; refine (zzFold_is s k 117 _ (by decide) hk (by omega)).mono ?_; rintro e w2 ⟨⟨n, rfl, hn⟩, rfl⟩; have HN := Aside0.mk hn; clear hn; rcases fold_n HN.out with rfl | ⟨rfl, hkn⟩ | ⟨rfl, hkn⟩)
              · refine ⟨⟨i + 1, by go_num, by omega, ⟨fun q hq => ?_⟩, HB3⟩, by simp [intOf]; omega⟩
                by_cases e : q = i
                · rw [e]; exact .inr ⟨k0, HSP.out, .inl ⟨3, k, by omega, HFO.out, HN.out⟩⟩
                · exact HF.out q (by omega)
              · rw [← Lib.size_eq] at hkn
                exact ⟨⟨4, k + 1, rfl, by omega, hkn, ⟨folds_snoc HFO.out 1 (by omega) HN.out⟩, HK1, HB3⟩, by rw [HMU.out, HMU2.out]; omega⟩
              · rw [← Lib.size_eq] at hkn
                exact ⟨⟨4, k + 2, rfl, by omega, hkn, ⟨folds_snoc HFO.out 2 (by omega) HN.out⟩, HK1, HB3⟩, by rw [HMU.out, HMU2.out]; omega⟩
            · replace hnext : ∀ ty, (Instr.next (.pointer (some ⟨w1.heap.size, 0, none⟩)) true ty).run Tryd.prog wr = .ok (.tuple #[.bool true, .int .i64 4, .int .i32 101]) W1 := hnext
              go_wp2_with (go_at_call 85; refine (zzFold_is s k 101 _ (by decide) hk (by omega)).mono ?_; rintro e w2 ⟨⟨n, rfl, hn⟩, rfl⟩; have HN := Aside0.mk hn; clear hn; rcases fold_n HN.out with rfl | ⟨rfl, hkn⟩ | ⟨rfl, hkn⟩)
              · refine ⟨⟨i + 1, by go_num, by omega, ⟨fun q hq => ?_⟩, HB3⟩, by simp [intOf]; omega⟩
                by_cases e : q = i
                · rw [e]; exact .inr ⟨k0, HSP.out, .inl ⟨4, k, by omega, HFO.out, HN.out⟩⟩
                · exact HF.out q (by omega)
              · rw [← Lib.size_eq] at hkn
                exact ⟨⟨5, k + 1, rfl, by omega, hkn, ⟨folds_snoc HFO.out 1 (by omega) HN.out⟩, HK1, HB3⟩, by rw [HMU.out, HMU2.out]; omega⟩
              · rw [← Lib.size_eq] at hkn
                exact ⟨⟨5, k + 2, rfl, by omega, hkn, ⟨folds_snoc HFO.out 2 (by omega) HN.out⟩, HK1, HB3⟩, by rw [HMU.out, HMU2.out]; omega⟩
            · replace hnext : ∀ ty, (Instr.next (.pointer (some ⟨w1.heap.size, 0, none⟩)) true ty).run Tryd.prog wr = .ok (.tuple #[.bool true, .int .i64 5, .int .i32 115]) W1 := hnext
              go_wp2_with (go_at_call 85; refine (zzFold_s s k _ hk (by omega)).mono ?_; rintro e w2 ⟨⟨n, rfl, hn⟩, rfl⟩; have HN := Aside0.mk hn; clear hn; rcases fold_n HN.out with rfl | ⟨rfl, hkn⟩ | ⟨rfl, hkn⟩)
              · refine ⟨⟨i + 1, by go_num, by omega, ⟨fun q hq => ?_⟩, HB3⟩, by simp [intOf]; omega⟩
                by_cases e : q = i
                · rw [e]; exact .inr ⟨k0, HSP.out, .inl ⟨5, k, by omega, HFO.out, HN.out⟩⟩
                · exact HF.out q (by omega)
              · rw [← Lib.size_eq] at hkn
                exact ⟨⟨6, k + 1, rfl, by omega, hkn, ⟨folds_snoc HFO.out 1 (by omega) HN.out⟩, HK1, HB3⟩, by rw [HMU.out, HMU2.out]; omega⟩
              · rw [← Lib.size_eq] at hkn
                exact ⟨⟨6, k + 2, rfl, by omega, hkn, ⟨folds_snoc HFO.out 2 (by omega) HN.out⟩, HK1, HB3⟩, by rw [HMU.out, HMU2.out]; omega⟩
          · have hj' : j = 6 := by omega
            subst hj'
            have hnext : ∀ ty, (Instr.next (.pointer (some ⟨w1.heap.size, 0, none⟩)) true ty).run Tryd.prog wr = _ := fun ty => Lib.run_next_end_at wr w1.heap.size valsS 6 ty HK.out hj6
            have HFO2 : Aside0 (FoldsTo s.data.toList k0 vals k) := ⟨HFO.out⟩
            clear HK HFO HK0 HB0
            go_wp2_with (go_at_call 84; refine (zzSpace_is s k _ hk (by omega)).mono ?_; rintro e w2 ⟨⟨K, rfl, hsp⟩, rfl⟩; have HSP2 := Aside0.mk hsp; clear hsp)
            · go_ret
              refine ⟨.inr ⟨⟨w2.heap.size, 0, none⟩, i, K, rfl, ⟨?_, k0, k, HSP.out, HFO2.out, HSP2.out, by rw [← Lib.size_eq]; assumption, ?_⟩, HF.out, ?_, ?_⟩, below_alloc HB2.out _⟩
              · rw [HE.out]; exact u8_b41 (by assumption)
              · rw [getD_at s K (by assumption)]; exact u8_40 (by assumption)
              · rw [Lib.cell_of_heap (blk_new _ _)]; rfl
              · rw [show (⟨w2.heap.size, 0, none⟩ : Addr).add 1 = ⟨w2.heap.size, 1, none⟩ by simp [Addr.add], Lib.cell_of_heap (blk_new _ _)]; rfl
            all_goals
              refine ⟨⟨i + 1, by go_num, by omega, ⟨fun q hq => ?_⟩, HB2⟩, by simp [intOf]; omega⟩
              by_cases e : q = i
              · rw [e]
                refine .inr ⟨k0, HSP.out, .inr ⟨k, K, HFO2.out, HSP2.out, fun hh => ?_⟩⟩
                obtain ⟨g1, g2⟩ := hh
                rw [← Lib.size_eq] at g1
                first
                  | (have hb : ((s[K].toNat : Int) == 40) = false := by assumption
                     rw [getD_at s K g1] at g2
                     exact u8_n40 hb g2)
                  | omega
              · exact HF.out q (by omega)
    · go_wp2
      go_ret
      have hie : i = s.size := by omega
      exact ⟨.inl ⟨rfl, by rw [← hie]; exact HF.out⟩, HB.out⟩
end Go.Proofs.YtnpjnekoifheoaaDoor
