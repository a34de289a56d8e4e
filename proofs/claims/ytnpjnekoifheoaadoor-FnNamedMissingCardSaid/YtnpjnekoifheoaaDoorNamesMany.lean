/- The walk of laws.FnNamesMany. -/
import Derived.Test.YtnpjnekoifheoaaDoorNameAssign
import Derived.Deep.QuietTactic
import Derived.BigQuiet
namespace Go.Proofs.YtnpjnekoifheoaaDoor
open Go Go.RowKit Go.Proofs.YtnpjnekoifheoaaDoorW.PrintWords
set_option linter.unusedVariables false
set_option maxRecDepth 100000

def nmAt (l : List ByteArray) (i : Nat) : List UInt8 := (l.getD i ⟨#[]⟩).data.toList
/-- The text of the first names. -/
def manyS (names texts : List ByteArray) : Nat → List UInt8
  | 0 => []
  | i + 1 => manyS names texts i ++ (58 :: (nmAt names i ++ 32 :: nmAt texts i))
/-- What it becomes. -/
def manyW (k : Int) (names texts : List ByteArray) : Nat → List UInt8
  | 0 => []
  | i + 1 => manyW k names texts i ++ (markL k (i + 1) (nmAt names i) ++ 32 :: nmAt texts i)
theorem many_run (k : Int) (names texts : List ByteArray) (ht : AllBare texts names.length) : ∀ (i : Nat), i ≤ names.length → (∀ j, j < i → NameOk (names.getD j ⟨#[]⟩)) → ∀ rest, crun k (manyS names texts i ++ rest) ⟨[], [], none⟩ = crun k rest ⟨manyW k names texts i, names.take i, none⟩ := by
  intro i
  induction i with
  | zero => intro _ _ rest; rfl
  | succ i ih =>
    intro hi hn rest
    have h1 := hn i (by omega)
    have e : manyS names texts (i + 1) ++ rest = manyS names texts i ++ (58 :: ((names.getD i ⟨#[]⟩).data.toList ++ 32 :: (nmAt texts i ++ rest))) := by simp [manyS, nmAt]
    have hl : (names.take i).length = i := by rw [List.length_take]; omega
    rw [e, ih (by omega) (fun j hj => hn j (by omega)), crun_nameThen k h1 32 sp32 _ _ _ (.inl (by decide)), crun_plain k (nmAt texts i) rest _ _ (bare_58 (ht i (by omega))), hl, take_snoc' names i (by omega) (⟨#[]⟩ : ByteArray)]
    simp [manyW, nmAt]
theorem many_count (names texts : List ByteArray) (ht : AllBare texts names.length) : ∀ (i : Nat), i ≤ names.length → (∀ j, j < i → NameOk (names.getD j ⟨#[]⟩)) → (manyS names texts i).count 58 = i := by
  intro i
  induction i with
  | zero => intro _ _; rfl
  | succ i ih =>
    intro hi hn
    have h1 := count_0 (nb_58 (name_split (hn i (by omega))).1)
    have h2 := count_0 (bare_58 (ht i (by omega)))
    simp [manyS, nmAt, List.count_append, ih (by omega) (fun j hj => hn j (by omega))] at h1 h2 ⊢
    omega
theorem markL_len (k : Int) (n : Nat) (hn : n ≤ 99) (nm : List UInt8) : (markL k n nm).length ≤ nm.length + 4 := by
  have h2 := dec_len n hn
  unfold markL
  split
  · simp
  · split
    · simp; omega
    · split
      · simp; omega
      · simp
theorem cell_under {w w1 : World} {a : Addr} {v : Value} (h : w.cell? a = some v) (hb : Below w.heap.size w w1) : w1.cell? a = some v := by
  rw [hb.cell ?_]
  · exact h
  · rcases Nat.lt_or_ge a.block w.heap.size with h' | h'
    · exact h'
    · simp [World.cell?, Array.getElem?_eq_none h'] at h

theorem mark9_at (a z : Int) (n : Nat) (hz : z = n) (nm : ByteArray) (w : World) (h0 : 0 ≤ a) (h1 : a ≤ 255) (hn : n ≤ 99) (hnm : nm.size ≤ 1000000) :
    Calls Tryd.prog 16 #[.int .u8 a, .int .i64 z, .string nm] w fun e w' => (∃ M : ByteArray, e = .returned (.tuple #[.int .i64 (a % 5), .string M]) ∧ M.data.toList = markL (a % 5) n nm.data.toList ∧ M.size ≤ nm.size + 4) ∧ Below w.heap.size w w' := by
  subst hz
  refine (mark9_is a n nm w h0 h1 hn hnm).mono ?_
  rintro e w' ⟨rfl, h⟩
  refine ⟨⟨_, rfl, by simp, ?_⟩, h⟩
  rw [Lib.size_eq, Lib.size_eq nm]
  simpa using markL_len (a % 5) n hn nm.data.toList
theorem getD_mem {l : List ByteArray} {i : Nat} (h : i < l.length) : l.getD i ⟨#[]⟩ ∈ l := by
  rw [List.getD_eq_getElem?_getD, List.getElem?_eq_getElem h]
  exact List.getElem_mem h
set_option maxHeartbeats 4000000 in
theorem namesMany_walk (a : Int) (names : List ByteArray) (A : Option Addr) (c : Nat) (texts : List ByteArray) (B : Option Addr) (d : Nat) (w : World) (ha : (Lit.int .u8 a).wf = true) (hN : Kd.string.C w A names.length names) (hNs : ∀ s ∈ names, s.size ≤ 9223372036854775807) (hT : Kd.string.C w B texts.length texts) (hTs : ∀ s ∈ texts, s.size ≤ 9223372036854775807) :
    Calls Tryd.prog 5 #[.int .u8 a, .slice A names.length c, .slice B texts.length d] w fun e w' => e = .returned (.bool true) ∧ Below w.heap.size w w' := by
  have hmin : IntKind.u8.min = 0 := by decide
  have hmax : IntKind.u8.max = 255 := by decide
  have h : 0 ≤ a ∧ a ≤ 255 := by
    simp [Lit.wf] at ha
    omega
  obtain ⟨h0, h1⟩ := h
  clear ha hmin hmax
  have HN := Aside0.mk hN
  have HT := Aside0.mk hT
  have HNs := Aside0.mk hNs
  obtain ⟨kk, hkk⟩ : ∃ kk, kk = a % 5 := ⟨_, rfl⟩
  have hk0 : 0 ≤ kk := by omega
  have hk4 : kk ≤ 4 := by omega
  have HK := Lib.hid hkk
  clear hN hT hNs hTs hkk
  go_enter Tryd.func5, Tryd.ntmps5
  go_wp2_with (first | (go_at_call 15; first | (have hz := HD1; clear hz; refine (zzFits2_any texts _ _ _ HT.out).mono ?_; rintro e w1 ⟨⟨b, rfl, _⟩, rfl⟩; cases b) | (refine (zzFits2_any names _ _ _ HN.out).mono ?_; rintro e w1 ⟨⟨b, rfl, _⟩, rfl⟩; have HD1 := trivial; cases b)) | (go_at_call 13; refine (bare9_any texts _ _ _ HT.out).mono ?_; rintro e w3 ⟨⟨b', rfl, hb3⟩, rfl⟩; have HBR := Aside0.mk hb3; clear hb3; cases b') | (go_at_call 16; refine (mark9_is a 1 ⟨#[]⟩ _ h0 h1 (by omega) (by decide)).mono ?_; rintro e w2 ⟨he, h2⟩; rw [← HK.out] at he; generalize (⟨(markL kk 1 (⟨#[]⟩ : ByteArray).data.toList).toArray⟩ : ByteArray) = M0 at he; subst he; have H2 := Aside0.mk h2; clear h2))
  all_goals first | (go_ret; exact ⟨rfl, Below.refl _ _⟩) | skip
  have htl : texts.length = names.length := by omega
  have hn15 : names.length ≤ 15 := by omega
  have HBT : Aside0 (AllBare texts names.length) := ⟨by rw [← htl]; exact (HBR.out (by first | rfl | trivial)).2⟩
  have HTL := Lib.hid htl
  have HT' : Aside0 (Kd.string.C w B names.length texts) := ⟨by have h := HT.out; rw [htl] at h; exact h⟩
  clear htl HBR HT HD1
  go_loopw [7, 8, 48] (fun ss sw si wr => ∃ (i : Nat) (S W0 : ByteArray), ss = .string S ∧ sw = .string W0 ∧ si = .int .i64 i ∧ i ≤ names.length ∧ S.size ≤ 140 * i ∧ W0.size ≤ 140 * i ∧ Aside0 (S.data.toList = manyS names texts i) ∧ Aside0 (W0.data.toList = manyW kk names texts i) ∧ Aside0 (∀ j, j < i → NameOk (names.getD j ⟨#[]⟩)) ∧ Aside0 (Below w.heap.size w wr)) (fun _ _ si _ => names.length - (intOf si).toNat)
  case atStart => exact ⟨0, ⟨#[]⟩, ⟨#[]⟩, rfl, rfl, rfl, Nat.zero_le _, Nat.le_refl _, Nat.le_refl _, ⟨rfl⟩, ⟨rfl⟩, ⟨fun j hj => by omega⟩, H2⟩
  case round =>
    clear H2
    obtain ⟨i, S, W0, rfl, rfl, rfl, hi, hz1, hz2, HS, HW, HP, HB⟩ := hrel
    by_cases hlt : i < names.length
    · obtain ⟨ad, rfl, g0⟩ := at_S (Kd.C_below HN.out HB.out) (⟨#[]⟩ : ByteArray) i hlt
      obtain ⟨bd, rfl, t0⟩ := at_S (Kd.C_below HT'.out HB.out) (⟨#[]⟩ : ByteArray) i hlt
      have hsz := HNs.out _ (getD_mem hlt)
      have htz := (HBT.out i hlt).2
      obtain ⟨nm, hnm⟩ : ∃ nm, nm = names.getD i ⟨#[]⟩ := ⟨_, rfl⟩
      obtain ⟨tx, htx⟩ : ∃ tx, tx = texts.getD i ⟨#[]⟩ := ⟨_, rfl⟩
      rw [← hnm] at g0 hsz
      rw [← htx] at t0 htz
      have HNM := Lib.hid hnm
      have HTX := Lib.hid htx
      clear hnm htx
      go_wp2_with (go_at_call 12; refine (named9_any nm _ hsz).mono ?_; rintro e w1 ⟨⟨b', rfl, hb⟩, rfl⟩; have HNK := Aside0.mk hb; clear hb; cases b')
      all_goals first | (go_ret; exact ⟨rfl, HB.out⟩) | skip
      have HOK := Aside0.mk (HNK.out (by first | rfl | trivial))
      have hz3 := HOK.out.2.2.1
      clear HNK
      go_wp2_with (go_at_call 16; refine (mark9_at a _ (i + 1) (by omega) nm _ h0 h1 (by omega) (by omega)).mono ?_; rintro e w2 ⟨⟨M, he, hM, hMz⟩, h2⟩; rw [← HK.out] at he hM; subst he; have g1 := cell_under g0 h2; have t1 := cell_under t0 h2; have HB2 := Aside0.mk (below_step HB.out h2); have HM := Lib.hid hM; clear h2 hM)
      clear g0 t0
      have e1 : (⟨#[58]⟩ : ByteArray).size = 1 := rfl
      have e2 : (⟨#[32]⟩ : ByteArray).size = 1 := rfl
      go_quiet (fail)
      go_wp2
      go_roundw
      case rel =>
        refine ⟨i + 1, _, _, rfl, rfl, by go_num, by omega, ?_, ?_, ⟨?_⟩, ⟨?_⟩, ⟨fun j hj => ?_⟩, ⟨pw_below_drewN HB2.out _⟩⟩
        · simp only [ba_size, e1, e2]; omega
        · simp only [ba_size, e2]; omega
        · rw [manyS, nmAt, nmAt, ← HNM.out, ← HTX.out]
          simp [HS.out]
        · rw [manyW, nmAt, nmAt, ← HNM.out, ← HTX.out]
          simp [HW.out, HM.out]
        · by_cases e : j = i
          · subst e; rw [← HNM.out]; exact HOK.out
          · exact HP.out j (by omega)
      case measure => simp [intOf]; omega
    · have hie : i = names.length := by omega
      subst hie
      have hWe : (⟨(manyW kk names texts names.length).toArray⟩ : ByteArray) = W0 := ba_ext (by simp [HW.out])
      have HWE := Lib.hid hWe
      have HCR := Aside0.mk (show crun kk S.data.toList ⟨[], [], none⟩ = some ⟨manyW kk names texts names.length, names, none⟩ by have h := many_run kk names texts HBT.out _ (Nat.le_refl _) HP.out []; rw [List.append_nil, crun, ← HS.out, List.take_length] at h; exact h)
      have HCC := Aside0.mk (show S.data.toList.count 58 ≤ 90 by rw [HS.out, many_count names texts HBT.out _ (Nat.le_refl _) HP.out]; omega)
      clear hWe
      go_wp2_with (go_at_call 17; refine (Compiled_ok kk S _ _ hk0 hk4 (by omega) HCC.out HCR.out).mono ?_; rintro e w3 ⟨v, he, h1, h2⟩; simp only [HWE.out] at he; obtain ⟨C, f, rfl, hle, hC⟩ := Kd.R_reads h1; subst he; have HL := Aside0.mk hC; have HB3 := Aside0.mk (below_step HB.out h2); clear h1 h2 hC hle)
      go_loopw [114] (fun ui wr => ∃ j : Nat, ui = .int .i64 j ∧ j ≤ names.length ∧ Aside0 (Below w3.heap.size w3 wr)) (fun ui _ => names.length - (intOf ui).toNat)
      case atStart => exact ⟨0, rfl, Nat.zero_le _, ⟨Below.refl _ _⟩⟩
      case round =>
        obtain ⟨j, rfl, hj, HBJ⟩ := hrel
        have HB4 := Aside0.mk (below_step HB3.out HBJ.out)
        by_cases hlt : j < names.length
        · obtain ⟨ad, rfl, g0⟩ := at_S (Kd.C_below HN.out HB4.out) (⟨#[]⟩ : ByteArray) j hlt
          obtain ⟨bd, rfl, t0⟩ := at_S (Kd.C_below HL.out HBJ.out) (⟨#[]⟩ : ByteArray) j hlt
          obtain ⟨nm, hnm⟩ : ∃ nm, nm = names.getD j ⟨#[]⟩ := ⟨_, rfl⟩
          rw [← hnm] at g0 t0
          clear hnm
          go_wp2_with fail
          go_quiet (fail)
          go_wp2
          go_roundw
          case rel => exact ⟨j + 1, by go_num, by omega, ⟨pw_below_drewN HBJ.out _⟩⟩
          case measure => simp [intOf]; omega
        · have hje : j = names.length := by omega
          subst hje
          go_wp2
          go_ret
          exact ⟨rfl, HB4.out⟩
end Go.Proofs.YtnpjnekoifheoaaDoor
