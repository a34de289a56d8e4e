/- The walk of laws.FnNamedOne. -/
import Derived.Test.YtnpjnekoifheoaaDoorOnes
import Derived.Deep.RegionHeld3
import Derived.StillTailTactics
namespace Go.Proofs.YtnpjnekoifheoaaDoor
open Go Go.RowKit Go.Proofs.YtnpjnekoifheoaaDoorW.PrintWords
set_option linter.unusedVariables false
set_option maxRecDepth 100000

theorem at_RX1 {w : World} {ad : Addr} {z : RX} (h : kRX.C w (some ad) 1 [z]) : w.cell? ad = some (.int .i64 z.k) ∧ w.cell? ⟨ad.block, ad.off + 1, none⟩ = some (.int .i64 z.n) ∧ w.cell? ⟨ad.block, ad.off + 2, none⟩ = some (.string z.s) ∧ w.cell? ⟨ad.block, ad.off + 3, none⟩ = some (.slice z.A z.m z.c) := by
  obtain ⟨ad', c, e, _, hK, hc0⟩ := Kd.C_get h zRX (0 : Int) (by omega) (by omega)
  injection e with e
  subst e
  have hK' : c = z.cells := hK
  subst hK'
  have hc : ∀ j u, z.cells[j]? = some u → w.cell? (ad.add (0 * 4 + j)) = some u := hc0
  have a0 : ad.add (0 * 4 + 0) = ad := by simp [Addr.add]
  refine ⟨by rw [← a0]; exact hc 0 _ rfl, ?_, ?_, ?_⟩
  · have := hc 1 _ rfl
    simpa [Addr.add] using this
  · have := hc 2 _ rfl
    simpa [Addr.add] using this
  · have := hc 3 _ rfl
    simpa [Addr.add] using this
set_option maxRecDepth 100000 in
set_option maxHeartbeats 4000000 in
theorem namedOne_walk (a : Int) (nm : ByteArray) (x : SV) (A : Option Addr) (c : Nat) (y : SV) (B : Option Addr) (d : Nat) (w : World) (ha : (Lit.int .u8 a).wf = true) (hnm : nm.size ≤ 9223372036854775807) (hX : kV.C w A x.l.length x.l) (hc : x.l.length ≤ c) (hY : kV.C w B y.l.length y.l) (hd : y.l.length ≤ d) :
    Calls Tryd.prog 7 #[.int .u8 a, .string nm, .agg #[.int .i64 x.k, .int .i64 x.n, .string x.s, .slice A x.l.length c], .agg #[.int .i64 y.k, .int .i64 y.n, .string y.s, .slice B y.l.length d]] w fun e w' => e = .returned (.bool true) ∧ Below w.heap.size w w' := by
  have hmin : IntKind.u8.min = 0 := by decide
  have hmax : IntKind.u8.max = 255 := by decide
  have h : 0 ≤ a ∧ a ≤ 255 := by
    simp [Lit.wf] at ha
    omega
  obtain ⟨h0, h1⟩ := h
  clear ha hmin hmax
  have hu2 := Tryd.underlying41
  have hu3 := Tryd.underlying48
  have HX := Aside0.mk hX
  have HY := Aside0.mk hY
  obtain ⟨kk, hkk⟩ : ∃ kk, kk = a % 5 := ⟨_, rfl⟩
  have hk0 : 0 ≤ kk := by omega
  have hk4 : kk ≤ 4 := by omega
  have HK := Lib.hid hkk
  clear hX hY hkk hc hd
  go_enter Tryd.func7, Tryd.ntmps7
  obtain ⟨W0, hW0⟩ : ∃ W0, W0 = (w.alloc (.cells #[.int .i64 x.k, .int .i64 x.n, .string x.s, .slice A x.l.length c] 41)).alloc (.cells #[.int .i64 y.k, .int .i64 y.n, .string y.s, .slice B y.l.length d] 41) := ⟨_, rfl⟩
  have HW0 := Lib.hid hW0
  clear hW0
  go_wp2_with (first
    | (go_at_call 22; first | (have hzz := HB1; clear hzz; refine (zzFits4_any _ _ _ _ _ _ _).mono ?_; rintro e w2 ⟨⟨b, rfl, _⟩, hb1⟩; have HB2 := Aside0.mk (below_step HB1.out hb1); obtain ⟨p0, p1, p2, p3, q0, q1, q2, q3⟩ := boxed2 HW0.out HB2.out; clear hb1; cases b) | (refine (zzFits4_any _ _ _ _ _ _ _).mono ?_; rintro e w1 ⟨⟨b, rfl, _⟩, hb1⟩; rw [← HW0.out] at hb1; have HB1 := Aside0.mk hb1; obtain ⟨p0, p1, p2, p3, q0, q1, q2, q3⟩ := boxed2 HW0.out HB1.out; clear hb1; cases b))
    | (go_at_call 12; refine (named9_any nm _ hnm).mono ?_; rintro e wz ⟨⟨b', rfl, hb⟩, rfl⟩; have HNK := Aside0.mk hb; clear hb; cases b')
    | (go_at_call 23; first | (have hzz := HR1; clear hzz; refine (argumentRight_any y _ _ _ (Kd.C_below HY.out (two_below2 HW0.out HB3.out))).mono ?_; rintro e w4 ⟨⟨b', rfl, hb⟩, hb1⟩; have HR2 := Aside0.mk hb; have HB4 := Aside0.mk (below_step HB3.out hb1); obtain ⟨p0, p1, p2, p3, q0, q1, q2, q3⟩ := boxed2 HW0.out HB4.out; clear hb hb1; cases b') | (refine (argumentRight_any x _ _ _ (Kd.C_below HX.out (two_below2 HW0.out HB2.out))).mono ?_; rintro e w3 ⟨⟨b', rfl, hb⟩, hb1⟩; have HR1 := Aside0.mk hb; have HB3 := Aside0.mk (below_step HB2.out hb1); obtain ⟨p0, p1, p2, p3, q0, q1, q2, q3⟩ := boxed2 HW0.out HB3.out; clear hb hb1; cases b'))
    | (go_at_call 16; have hok := HNK.out (by first | rfl | trivial); have hnz := hok.2.2.1; refine (mark9_at a _ 1 rfl nm _ h0 h1 (by omega) (by omega)).mono ?_; rintro e w5 ⟨⟨M, he, hM, hMz⟩, h2⟩; rw [← HK.out] at he hM; subst he; have HOK := Aside0.mk hok; clear hok; have HM := Lib.hid hM; have HB5 := Aside0.mk (below_step HB4.out h2); obtain ⟨p0, p1, p2, p3, q0, q1, q2, q3⟩ := boxed2 HW0.out HB5.out; clear h2 hM)
    | (go_at_call 24; refine (turned9_any nm _ hnz).mono ?_; rintro e w6 ⟨⟨T, rfl, hT⟩, h2⟩; have HB6 := Aside0.mk (below_step HB5.out h2); obtain ⟨p0, p1, p2, p3, q0, q1, q2, q3⟩ := boxed2 HW0.out HB6.out; obtain ⟨_, _, _, _, r0, r1, r2, r3⟩ := boxed2 HW0.out (below_alloc HB6.out (.cells #[Value.string nm, .int .i64 x.k, .int .i64 x.n, .string x.s, .slice A x.l.length c] 48)); obtain ⟨vx, hvx⟩ := HR1.out (by first | rfl | trivial); obtain ⟨vy, hvy⟩ := HR2.out (by first | rfl | trivial); have HVX := Aside0.mk hvx; have HVY := Aside0.mk hvy; clear h2 hvx hvy))
  all_goals first | (go_ret; exact ⟨rfl, by first | exact below_alloc (below_alloc (Below.refl _ _) _) _ | exact two_below2 HW0.out HB4.out | exact two_below2 HW0.out HB3.out | exact two_below2 HW0.out HB2.out | exact two_below2 HW0.out HB1.out⟩) | skip
  · have hne := (by assumption : (!T.toList == nm.toList) = true)
    refine (named_first kk nm ⟨x.k, x.n, x.s, A, x.l.length, c⟩ vx [(T, ⟨y.k, y.n, y.s, B, y.l.length, d⟩)] [vy] _ _ _ hk0 hk4 HOK.out (nodup_two (ne_texts hne) _ _) ?hr ?hx ?hv (right_small HVX.out) (small_single (right_small HVY.out))).mono ?_
    case hr =>
      refine reads_two (by rw [drew_heap2]; exact blk_new' _ _ _ (by simp)) ?_ ?_
      · exact (two_cells _ _ _ _ _ _ _ _ _ _ _).1
      · exact (two_cells _ _ _ _ _ _ _ _ _ _ _).2
    case hx => exact HVX.out.is (Kd.C_below HX.out (two_below2 HW0.out (below_alloc (below_alloc (below_alloc HB6.out _) _) _).drew))
    case hv => exact iv_single T (HVY.out.is (Kd.C_below HY.out (two_below2 HW0.out (below_alloc (below_alloc (below_alloc HB6.out _) _) _).drew)))
    rintro e w7 ⟨⟨C, f, z, he, hC, hz⟩, h2⟩
    rw [marks_eq HM.out] at he
    subst he
    have HC7 := Aside0.mk hC
    have HE7 := Aside0.mk hz
    have HB7 := Aside0.mk (below_step ((below_alloc (below_alloc (below_alloc HB6.out _) _) _).drew) h2)
    have HC1 : Aside0 (kAX.C w7 (some ⟨w6.heap.size + 1 + 1, 5, none⟩) 1 [(T, ⟨y.k, y.n, y.s, B, y.l.length, d⟩)]) := by
      refine ⟨Kd.C_below ?_ h2⟩
      refine reads_one (by rw [drew_heap2]; exact blk_new' _ _ _ (by simp)) ?_
      exact (two_cells _ _ _ _ _ _ _ _ _ _ _).2
    clear h2 hC hz
    clear p0 p1 p2 p3 q0 q1 q2 q3 r0 r1 r2 r3
    have hcp : ¬ (Question.appendCap 2 1 48).cut (w6.tape w6.drawn (Question.appendCap 2 1 48)) = 1 := by
      show ¬ (2 + _ % _ = 1)
      omega
    go_wp2_with (go_at_call 25; refine (named_without kk nm [(T, ⟨y.k, y.n, y.s, B, y.l.length, d⟩)] [vy] _ _ _ hk0 hk4 HOK.out (by simp) HC1.out (iv_single T (HVY.out.is (Kd.C_below HY.out (two_below2 HW0.out HB7.out)))) (by simpa using fun e => ne_texts hne e.symm)).mono ?_; rintro e w8 ⟨rfl, h2⟩; have HE8 := Aside0.mk (HE7.out.below h2); have HC8 := Aside0.mk (Kd.C_below HC7.out h2); have HB8 := Aside0.mk (below_step HB7.out h2); clear h2)
    obtain ⟨p0, p1, p2, p3, q0, q1, q2, q3⟩ := boxed2 HW0.out HB8.out
    obtain ⟨z0, z1, z2, z3⟩ := at_RX1 HC8.out
    clear q0 q1 q2 q3
    go_still_tail 20, (by kernel_rfl)
    change wpList _ _ _ _ _ w8.drew
    go_wp2_with (go_at_call 26; refine (equalValue_iv z ⟨x.k, x.n, x.s, A, x.l.length, c⟩ vx _ (HE8.out.below (Below.refl _ w8).drew) (HVX.out.is (Kd.C_below HX.out (two_below2 HW0.out HB8.out.drew)))).mono ?_; rintro e w9 ⟨rfl, h2⟩; have HB9 := Aside0.mk (below_step HB8.out.drew h2); clear h2)
    go_ret
    exact ⟨rfl, two_below2 HW0.out HB9.out⟩
  · have hne := (by assumption : (!T.toList == nm.toList) = false)
    refine (named_first kk nm ⟨x.k, x.n, x.s, A, x.l.length, c⟩ vx [] [] _ _ _ hk0 hk4 HOK.out (by simp) ?hr ?hx (fun i hi => absurd hi (Nat.not_lt_zero i)) (right_small HVX.out) small_nil).mono ?_
    case hr =>
      refine reads_one (blk_new' _ _ _ rfl) (fun i u hu => ?_)
      simpa [argCells] using hu
    case hx => exact HVX.out.is (Kd.C_below HX.out (two_below2 HW0.out (below_alloc HB6.out _)))
    rintro e w7 ⟨⟨C, f, z, he, hC, hz⟩, h2⟩
    rw [marks_eq HM.out] at he
    subst he
    have HC7 := Aside0.mk hC
    have HE7 := Aside0.mk hz
    have HB7 := Aside0.mk (below_step (below_alloc HB6.out _) h2)
    clear h2 hC hz
    clear p0 p1 p2 p3 q0 q1 q2 q3 r0 r1 r2 r3
    go_wp2_with (go_at_call 25; refine (named_without kk nm [] [] _ _ _ hk0 hk4 HOK.out (by simp) (reads_nil2 _ _) (fun i hi => absurd hi (Nat.not_lt_zero i)) (by simp)).mono ?_; rintro e w8 ⟨rfl, h2⟩; have HE8 := Aside0.mk (HE7.out.below h2); have HC8 := Aside0.mk (Kd.C_below HC7.out h2); have HB8 := Aside0.mk (below_step HB7.out h2); clear h2)
    obtain ⟨p0, p1, p2, p3, q0, q1, q2, q3⟩ := boxed2 HW0.out HB8.out
    obtain ⟨z0, z1, z2, z3⟩ := at_RX1 HC8.out
    clear q0 q1 q2 q3
    go_still_tail 20, (by kernel_rfl)
    change wpList _ _ _ _ _ w8.drew
    go_wp2_with (go_at_call 26; refine (equalValue_iv z ⟨x.k, x.n, x.s, A, x.l.length, c⟩ vx _ (HE8.out.below (Below.refl _ w8).drew) (HVX.out.is (Kd.C_below HX.out (two_below2 HW0.out HB8.out.drew)))).mono ?_; rintro e w9 ⟨rfl, h2⟩; have HB9 := Aside0.mk (below_step HB8.out.drew h2); clear h2)
    go_ret
    exact ⟨rfl, two_below2 HW0.out HB9.out⟩
end Go.Proofs.YtnpjnekoifheoaaDoor
