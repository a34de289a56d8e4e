/- The walk of laws.FnFormPrefix. -/
import Derived.Test.YtklnlfmopmlmlaaDoorBetwF
namespace Go.Proofs.YtklnlfmopmlmlaaDoor
open Go Go.RowKit Go.Proofs.YtklnlfmopmlmlaaDoorW.PrintWords
set_option linter.unusedVariables false
set_option maxRecDepth 100000

set_option maxHeartbeats 4000000 in
theorem formPrefix_walk (P : ByteArray) (ss : List ByteArray) (A : Option Addr) (c : Nat) (w : World) (hP : P.size ≤ maxLen) (hr : Kd.string.C w A ss.length ss) :
    Calls Tryd.prog 4 #[.string P, .slice A ss.length c] w fun e w' => e = .returned (.bool true) ∧ Below w.heap.size w w' := by
  unfold maxLen at hP
  have HR := Aside0.mk (show Kd.string.C (w.alloc (.cells #[.string P] 9)) A ss.length ss from Kd.C_below hr (below_alloc (Below.refl _ _) _))
  have hu22 := Tryd.underlying22
  clear hr
  go_enter Tryd.func4, Tryd.ntmps4
  go_wp2_with (first | (go_at_call 10; refine (zzFits2_any ss _ _ _ HR.out).mono ?_; rintro e w1 ⟨⟨b, rfl, _⟩, rfl⟩; cases b) | (go_at_call 15; refine (full9_any ss _ _ _ HR.out).mono ?_; rintro e w3 ⟨⟨b', rfl, hb3⟩, rfl⟩; have HFL := Aside0.mk hb3; clear hb3; cases b') | (go_at_call 11; first | (have hz := HD1; clear hz; refine (bare9_any [P] (some ⟨w.heap.size + 1, 0, none⟩) 1 _ (reads_lit1 (Kd.string.K _) _ _ 9 [.string P] P (blk_new' _ _ _ (by simp)) rfl)).mono ?_; rintro e w3 ⟨⟨b', rfl, hb3⟩, rfl⟩; have HBP := Aside0.mk hb3; clear hb3; cases b') | ((with_reducible refine (bare9_any ss _ _ _ HR.out).mono ?_); rintro e w3 ⟨⟨b', rfl, hb3⟩, rfl⟩; have HBR := Aside0.mk hb3; have HD1 := trivial; clear hb3; cases b')))
  all_goals first | (go_ret; exact ⟨rfl, by first | exact below_alloc (Below.refl _ _) _ | exact below_alloc (below_alloc (Below.refl _ _) _) _⟩) | skip
  have hbr := HBR.out (by first | rfl | trivial)
  have hfl := HFL.out (by first | rfl | trivial)
  have hbp : BareOk P := (HBP.out (by first | rfl | trivial)).2 0 (by simp)
  have hpz := hbp.2
  have hQT := qtext hbr.2 hfl hbr.1
  have hpl : P.data.toList.length ≤ 100 := by rw [← Lib.size_eq]; exact hpz
  have hL1 := btext_len hbr.2 hbr.1 P.data.toList (by omega)
  obtain ⟨wB, hwB⟩ : ∃ wB, wB = (w.alloc (.cells #[.string P] 9)).alloc (.cells #[.string P] 9) := ⟨_, rfl⟩
  have hb0 : Below w.heap.size w wB := by rw [hwB]; exact below_alloc (below_alloc (Below.refl _ _) _) _
  have hbx : wB.cell? ⟨w.heap.size, 0, none⟩ = some (.string P) := by
    have h1 : wB.heap[w.heap.size]? = some (.cells #[.string P] 9 (0, 0)) := by rw [hwB]; exact blk_alloc (blk_new w _) _
    rw [Lib.cell_of_heap h1]
    rfl
  have hRB : Kd.string.C wB A ss.length ss := by rw [hwB]; exact Kd.C_below HR.out (below_alloc (Below.refl _ _) _)
  rw [← hwB]
  have hBT := fun (W : World) (hW : Below wB.heap.size wB W) => between9_q ss A c W (Kd.C_below hRB hW) hbr.1 (bare_size hbr.2)
  have hBD := fun (W : World) (hW : Below wB.heap.size wB W) => between9_prefix ss A c w.heap.size P W (by omega) (cell_under hbx hW) (Kd.C_below hRB hW) hbr.1 (bare_size hbr.2)
  generalize (⟨(betw ss (fun _ => [63]) ss.length).toArray⟩ : ByteArray) = Q at hQT hBT
  have hPQ := fun W => Positional_is Q P W (by have := hQT.size; omega) (by omega) hQT.count (by rw [hQT.run]; omega)
  rw [hQT.run] at hPQ
  have hP1 := fun W => Positional_is ⟨#[63]⟩ ⟨#[35]⟩ W (by decide) (by decide) (by decide) (by rw [show rp (⟨#[35]⟩ : ByteArray).data.toList (⟨#[63]⟩ : ByteArray).data.toList false 0 = [35] ++ Lib.decDigits (0 + 1) from rfl, dec_last _ (by omega)]; decide)
  have hone : (⟨(rp (⟨#[35]⟩ : ByteArray).data.toList (⟨#[63]⟩ : ByteArray).data.toList false 0).toArray⟩ : ByteArray) = ⟨#[35, 49]⟩ := ba_ext (by rw [show rp (⟨#[35]⟩ : ByteArray).data.toList (⟨#[63]⟩ : ByteArray).data.toList false 0 = [35] ++ Lib.decDigits (0 + 1) from rfl, dec_last _ (by omega)]; rfl)
  rw [hone] at hP1
  generalize (⟨(betw ss (num P.data.toList) ss.length).toArray⟩ : ByteArray) = X at hPQ hBD
  have BT := Aside0.mk hBT
  have BD := Aside0.mk hBD
  have PQ := Aside0.mk hPQ
  have P1 := Aside0.mk hP1
  have HB0 := Aside0.mk hb0
  have HSS := Aside0.mk (show ∀ W', Below wB.heap.size wB W' → (Below wB.heap.size wB W' ∧ W'.cell? ⟨w.heap.size, 0, none⟩ = some (.string P)) from fun W' h => ⟨h, cell_under hbx h⟩)
  clear hBT hBD hPQ hP1 hone hb0 hbx hRB hwB hQT hL1 hbp hbr hfl HBR HFL HBP HD1 HR
  go_region_held3 (fun w' => Below wB.heap.size wB w' ∧ w'.cell? ⟨w.heap.size, 0, none⟩ = some (.string P)) (exact HSS.out _ (by first | assumption | exact (Below.refl _ _).drew | exact below_alloc (by assumption) _))
    ((first
      | (go_at_call 12; first | (have hz := HD2; clear hz; refine (BD.out _ hB2).mono ?_; rintro e w2 ⟨rfl, h2⟩; have hB3 := below_step hB2 h2; clear h2) | ((try go_split_ands); refine (BT.out _ (by assumption)).mono ?_; rintro e w1 ⟨rfl, rfl⟩))
      | (go_at_call 16; first | (have hz := HD2; clear hz; refine (P1.out _).mono ?_; rintro e w3 ⟨rfl, h2⟩; have hB4 := below_step hB3 h2; clear h2) | ((try go_split_ands); refine (PQ.out _).mono ?_; rintro e w1 ⟨rfl, h2⟩; have hB2 := below_step (show Below wB.heap.size wB _ from (by assumption)) h2; have HD2 := trivial; clear h2))))
  all_goals
    go_wp2
    go_ret
    exact ⟨rfl, below_step HB0.out hB4⟩
end Go.Proofs.YtklnlfmopmlmlaaDoor
