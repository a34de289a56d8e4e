/- laws.turned9 (some text of the same length), spec.EqualValue at right values. -/
import Derived.Test.YtnpjnekoifheoaaDoorRight
import Derived.Test.YtnpjnekoifheoaaDoorEqual
import Derived.Test.YtnpjnekoifheoaaDoorCompd
import Derived.Test.YtnpjnekoifheoaaDoorBindR
namespace Go.Proofs.YtnpjnekoifheoaaDoor
open Go Go.RowKit Go.Proofs.YtnpjnekoifheoaaDoorW.PrintWords
set_option linter.unusedVariables false
set_option maxRecDepth 100000

theorem equalValue_iv (x y : RX) (v : IV) (w : World) (hx : IsIV w x v) (hy : IsIV w y v) :
    Calls Tryd.prog 26 #[.agg #[.int .i64 x.k, .int .i64 x.n, .string x.s, .slice x.A x.m x.c], .agg #[.int .i64 y.k, .int .i64 y.n, .string y.s, .slice y.A y.m y.c]] w fun e w' => e = .returned (.bool true) ∧ Below w.heap.size w w' := by
  rcases v with p | ps
  · obtain ⟨h1, h2, h3, h4⟩ := hx
    obtain ⟨g1, g2, g3, g4⟩ := hy
    rw [h1, h2, h3, h4, g1, g2, g3, g4]
    exact equalValue_plain p _ _ _ _ w
  · obtain ⟨h1, h2, h3, h4, h5, h6⟩ := hx
    obtain ⟨g1, g2, g3, g4, g5, g6⟩ := hy
    rw [h1, h2, h3, h4, g1, g2, g3, g4]
    have hu2 := Tryd.underlying41
    have H5 := Aside0.mk h5
    have G5 := Aside0.mk g5
    clear h1 h2 h3 h4 g1 g2 g3 g4 h5 g5
    go_enter Tryd.func26, Tryd.ntmps26
    go_wp2_with (go_at_call 31; refine (equalValues_plain ps _ _ _ _ _ (Kd.C_below H5.out (below_alloc (below_alloc (Below.refl _ _) _) _)) (Kd.C_below G5.out (below_alloc (below_alloc (Below.refl _ _) _) _))).mono ?_; rintro e w1 ⟨rfl, hb1⟩)
    go_ret
    exact ⟨rfl, below_step (below_alloc (below_alloc (Below.refl _ _) _) _) hb1⟩

/-- A byte written in place. -/
theorem set_B {W : World} {b : Nat} {l : List UInt8} (h : kB.C W (some ⟨b, 0, none⟩) l.length l) (i : Nat) (hi : i < l.length) (v : UInt8) : kB.C (W.setCell ⟨b, i, none⟩ (encB v)) (some ⟨b, 0, none⟩) (l.set i v).length (l.set i v) := by
  have hm := h.2.1
  refine ⟨rfl, by simpa using hm, fun _ => ⟨_, rfl, fun j p hj => ⟨[encB p], rfl, rfl, fun i' u hu => ?_⟩⟩⟩
  have hi' : i' = 0 := by have := (List.getElem?_eq_some_iff.1 hu).1; simp at this; exact this
  subst hi'
  have hu' : encB p = u := by simpa using hu
  have hjl := (List.getElem?_eq_some_iff.1 hj).1
  rw [List.length_set] at hjl
  rw [Nat.add_zero, show j * kB.sz = j from Nat.mul_one j, add_plain, ← hu']
  have hold : ∀ j, j < l.length → W.cell? ⟨b, j, none⟩ = some (encB (l.getD j 0)) := by
    intro j hj
    obtain ⟨ad', ha, hc⟩ := at_S (enc := encB) (h1 := encB_one) h (0 : UInt8) j hj
    injection ha with ha
    subst ha
    rw [add_plain] at hc
    exact hc
  by_cases e : i = j
  · subst e
    rw [List.getElem?_set_self hi] at hj
    injection hj with hj
    rw [← hj, World.cell?_setCell_same _ _ _ (hold i hi)]
  · rw [List.getElem?_set_ne e] at hj
    rw [World.cell?_setCell_other _ _ _ _ (by intro h'; injection h' with _ h''; exact e (by simpa using h'')), hold j hjl, List.getD_eq_getElem?_getD, hj]
    rfl
theorem set_Bz {W : World} {b : Nat} {l : List UInt8} (h : kB.C W (some ⟨b, 0, none⟩) l.length l) (i : Nat) (hi : i < l.length) (z : Int) (h0 : 0 ≤ z) (h1 : z < 256) : kB.C (W.setCell ⟨b, i, none⟩ (.int .u8 z)) (some ⟨b, 0, none⟩) (l.set i (UInt8.ofNat z.toNat)).length (l.set i (UInt8.ofNat z.toNat)) := by
  have e : encB (UInt8.ofNat z.toNat) = .int .u8 z := by
    have h2 : z.toNat < 256 := by omega
    simp [encB, UInt8.toNat_ofNat', Nat.mod_eq_of_lt h2]
    omega
  rw [← e]
  exact set_B h i hi _
theorem frozen_bytes (w : World) (q : ByteArray) (hq : q.size ≤ 100000) (j : Nat) (hj : j < q.size) : (Lib.bytesWorld w 5 q).frozen? ⟨w.heap.size, j, none⟩ = false := by
  have h := Lib.bytesWorld_at_new w 5 q
  have hz : q.size ≤ (Lib.bytesCells w 5 q).size := by simp [Lib.bytesCells]
  simp [World.frozen?, h]
  omega
/-- The own row of bytes. -/
def TW (w : World) (n : Nat) (wr : World) : Prop := ∃ l : List UInt8, l.length = n ∧ kB.C wr (some ⟨w.heap.size, 0, none⟩) l.length l ∧ (∀ j, j < n → wr.frozen? ⟨w.heap.size, j, none⟩ = false) ∧ Below w.heap.size w wr
theorem TW.set {w wr : World} {n : Nat} (h : TW w n wr) (k : Nat) (hk : k < n) (z : Int) (h0 : 0 ≤ z) (h1 : z < 256) : TW w n (wr.setCell ⟨w.heap.size, k, none⟩ (.int .u8 z)) := by
  obtain ⟨l, hl, hC, hF, hB⟩ := h
  exact ⟨l.set k (UInt8.ofNat z.toNat), by simp [hl], set_Bz hC k (by omega) z h0 h1, fun j hj => (World.frozen?_setCell _ _ _ _).trans (hF j hj), below_setO hB (Nat.le_refl _) _⟩
theorem TW.get {w wr : World} {n : Nat} (h : TW w n wr) (k : Nat) (hk : k < n) : ∃ z : Int, wr.cell? ⟨w.heap.size, k, none⟩ = some (.int .u8 z) ∧ 0 ≤ z ∧ z < 256 ∧ wr.frozen? ⟨w.heap.size, k, none⟩ = false := by
  obtain ⟨l, hl, hC, hF, hB⟩ := h
  obtain ⟨ad', ha, hc⟩ := at_S (enc := encB) (h1 := encB_one) hC (0 : UInt8) k (by omega)
  injection ha with ha
  subst ha
  rw [add_plain] at hc
  have hb : (l.getD k 0).toNat < 256 := (l.getD k 0).toNat_lt
  exact ⟨_, hc, by omega, by omega, hF k hk⟩
set_option maxHeartbeats 1600000 in
theorem turned9_any (s : ByteArray) (w : World) (hs : s.size ≤ 30) :
    Calls Tryd.prog 24 #[.string s] w fun e w' => (∃ T : ByteArray, e = .returned (.string T) ∧ T.size = s.size) ∧ Below w.heap.size w w' := by
  have hcv := Lib.run_convert_string_bytes (P := Tryd.prog) w 9 26 5 s Tryd.underlying9 Tryd.underlying26 Tryd.underlying5
  have hC := bytes_read w s (by omega)
  have hB := Lib.bytesWorld_below w 5 s
  have hF := frozen_bytes w s (by omega)
  have hz := Lib.size_eq s
  generalize grownCap w s.size 0 5 = cc at hcv
  rw [hz] at hcv hF hs
  have HZ := Lib.hid hz
  generalize s.data.toList = l0 at hcv hC hF hs HZ
  generalize Lib.bytesWorld w 5 s = w1 at hcv hC hB hF
  have HC := Aside0.mk hC
  have HB0 := Aside0.mk hB
  have HF := Aside0.mk hF
  clear hC hB hF hz
  go_enter Tryd.func24, Tryd.ntmps24
  go_wp2
  go_loopw [10] (fun ui wr => ∃ k : Nat, ui = .int .i64 k ∧ k ≤ l0.length ∧ Aside0 (TW w l0.length wr)) (fun ui _ => l0.length - (intOf ui).toNat)
  case atStart => exact ⟨0, rfl, Nat.zero_le _, ⟨l0, rfl, HC.out, HF.out, HB0.out⟩⟩
  case round =>
    clear HC HB0 HF
    obtain ⟨k, rfl, hk, HT⟩ := hrel
    by_cases hlt : k < l0.length
    · obtain ⟨z, hcell, hz0, hz2, hfr⟩ := HT.out.get k hlt
      go_wp2
      all_goals
        go_roundw
        case rel =>
          refine ⟨k + 1, by go_num, by omega, ?_⟩
          first | with_reducible exact HT | with_reducible exact Aside0.mk (TW.set HT.out k hlt (z - 97 + 65) (by omega) (by omega)) | with_reducible exact Aside0.mk (TW.set HT.out k hlt (z - 65 + 97) (by omega) (by omega))
        case measure => simp [intOf]; omega
    · have hie : k = l0.length := by omega
      subst hie
      obtain ⟨l, hl, hC, _, hB⟩ := HT.out
      have hcb := convert_back (c := cc) hC
      rw [hl] at hcb
      go_wp2
      go_ret
      refine ⟨⟨_, rfl, ?_⟩, hB⟩
      have := HZ.out
      rw [Lib.size_eq]
      simp
      omega
end Go.Proofs.YtnpjnekoifheoaaDoor
