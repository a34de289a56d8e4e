/- Contract of spec.ArgumentRight at any value: what a yes says; values as the law hands them on. -/
import Derived.Test.YtnpjnekoifheoaaDoorFlat
import Derived.Test.YtnpjnekoifheoaaDoorMany
import Derived.Test.YtnpjnekoifheoaaDoorBind
import Derived.Test.YtnpjnekoifheoaaDoorExpanded
namespace Go.Proofs.YtnpjnekoifheoaaDoor
open Go Go.RowKit Go.MapKept Go.Proofs.YtnpjnekoifheoaaDoorW.PrintWords
set_option linter.unusedVariables false
set_option maxRecDepth 100000

/-- A value's cells as they lie there. -/
structure RX where
  k : Int
  n : Int
  s : ByteArray
  A : Option Addr
  m : Nat
  c : Nat
def RX.cells (x : RX) : List Value := [.int .i64 x.k, .int .i64 x.n, .string x.s, .slice x.A x.m x.c]
def zRX : RX := ⟨0, 0, ⟨#[]⟩, none, 0, 0⟩
def kRX : Kd RX where
  sz := 4
  E := []
  K := fun _ x cs => cs = x.cells
  M := fun _ _ _ x cs => cs = x.cells
  K_len := by
    rintro w x cs rfl
    rfl
  K_one := by
    rintro w x cs rfl u hu
    simp only [RX.cells, List.mem_cons, List.not_mem_nil, or_false] at hu
    rcases hu with rfl | rfl | rfl | rfl <;> rfl
  K_below := fun _ h => h
  K_of_M := fun h => h
  M_mono := fun _ h => h
  M_bound := fun h => h
  M_move := fun _ h => h
  M_lower := fun _ h => h
/-- impl.Arg, its cells as they lie there. -/
def kAX : Kd (ByteArray × RX) := Kd.pair Kd.string kRX
abbrev zAX : ByteArray × RX := (⟨#[]⟩, zRX)
theorem at_AX {w : World} {A : Option Addr} {n : Nat} {xs : List (ByteArray × RX)} (h : kAX.C w A n xs) (i : Nat) (hi : i < n) : ∃ ad, A = some ad ∧ w.cell? (ad.add (i * 5)) = some (.string (xs.getD i zAX).1) ∧ w.cell? ⟨(ad.add (i * 5)).block, (ad.add (i * 5)).off + 1, none⟩ = some (.int .i64 (xs.getD i zAX).2.k) ∧ w.cell? ⟨(ad.add (i * 5)).block, (ad.add (i * 5)).off + 2, none⟩ = some (.int .i64 (xs.getD i zAX).2.n) ∧ w.cell? ⟨(ad.add (i * 5)).block, (ad.add (i * 5)).off + 3, none⟩ = some (.string (xs.getD i zAX).2.s) ∧ w.cell? ⟨(ad.add (i * 5)).block, (ad.add (i * 5)).off + 4, none⟩ = some (.slice (xs.getD i zAX).2.A (xs.getD i zAX).2.m (xs.getD i zAX).2.c) := by
  obtain ⟨ad, c, e, _, hK, hc0⟩ := Kd.C_get h zAX (i : Int) (by omega) (by omega)
  simp only [Int.toNat_natCast] at hK hc0
  have hc : ∀ j u, c[j]? = some u → w.cell? (ad.add (i * 5 + j)) = some u := hc0
  obtain ⟨c0, c1, rfl, h0, h1⟩ := hK
  have h0' : c0 = [.string (xs.getD i zAX).1] := h0
  subst h0'
  have h1' : c1 = (xs.getD i zAX).2.cells := h1
  subst h1'
  exact ⟨ad, e, hc 0 _ rfl, by rw [← add_field _ _ 1 (by omega)]; exact hc 1 _ rfl, by rw [← add_field _ _ 2 (by omega)]; exact hc 2 _ rfl, by rw [← add_field _ _ 3 (by omega)]; exact hc 3 _ rfl, by rw [← add_field _ _ 4 (by omega)]; exact hc 4 _ rfl⟩
/-- These cells are a right value. -/
def IsIV (w : World) (x : RX) (v : IV) : Prop := match v with
  | .one p => x.k = p.k ∧ x.n = p.n ∧ x.s = p.s ∧ x.m = 0
  | .many ps => x.k = 5 ∧ x.n = 0 ∧ x.s = ⟨#[]⟩ ∧ x.m = ps.length ∧ kPV.C w x.A ps.length ps ∧ ps.length ≤ 20
theorem IsIV.below {w w1 : World} {x : RX} {v : IV} (h : IsIV w x v) (hb : Below w.heap.size w w1) : IsIV w1 x v := by
  rcases v with p | ps
  · exact h
  · obtain ⟨h1, h2, h3, h4, h5, h6⟩ := h
    exact ⟨h1, h2, h3, h4, Kd.C_below h5 hb, h6⟩

/-- What a right value is, as the law's parameter. -/
def RightV (x : SV) (v : IV) : Prop := match v with
  | .one p => x = p.sv
  | .many ps => x.k = 5 ∧ x.n = 0 ∧ x.s = ⟨#[]⟩ ∧ x.l = ps.map PI.sv ∧ ps.length ≤ 20
theorem RightV.is {w : World} {x : SV} {v : IV} (h : RightV x v) {A : Option Addr} {c : Nat} (hC : kV.C w A x.l.length x.l) : IsIV w ⟨x.k, x.n, x.s, A, x.l.length, c⟩ v := by
  rcases v with p | ps
  · have h' : x = p.sv := h
    subst h'
    exact ⟨rfl, rfl, rfl, rfl⟩
  · obtain ⟨h1, h2, h3, h4, h5⟩ := h
    have hl : x.l.length = ps.length := by rw [h4, List.length_map]
    refine ⟨h1, h2, h3, hl, ?_, h5⟩
    rw [hl, h4] at hC
    exact kPV_of_kV hC
set_option maxHeartbeats 1600000 in
theorem argumentRight_any (x : SV) (A : Option Addr) (c : Nat) (w : World) (hr : kV.C w A x.l.length x.l) :
    Calls Tryd.prog 23 #[.agg #[.int .i64 x.k, .int .i64 x.n, .string x.s, .slice A x.l.length c]] w fun e w' => SaysB (∃ v, RightV x v) e ∧ Below w.heap.size w w' := by
  by_cases hk : x.k = 5
  · have hu2 := Tryd.underlying41
    have HR := Aside0.mk hr
    have HK := Lib.hid hk
    obtain ⟨k, n, s, l⟩ := x
    simp only at hk HR HK ⊢
    subst hk
    have hlx := (C_len HR.out).2
    clear hr
    go_enter Tryd.func23, Tryd.ntmps23
    go_wp2
    all_goals first | (go_ret; exact ⟨⟨_, rfl, fun h => by cases h⟩, below_alloc (Below.refl _ _) _⟩) | skip
    have hs : s = ⟨#[]⟩ := str_empty (by assumption)
    have HS := Lib.hid hs
    clear hs
    go_loopw [3] (fun ui wr => ∃ i : Nat, ui = .int .i64 i ∧ i ≤ l.length ∧ Aside0 (∃ ps, Plain (l.take i) ps) ∧ Aside0 (wr.heap[w.heap.size]? = some (.cells #[.int .i64 5, .int .i64 0, .string s, .slice A l.length c] 41 (0, 0))) ∧ Aside0 (Below w.heap.size w wr)) (fun ui _ => l.length - (intOf ui).toNat)
    case atStart => exact ⟨0, rfl, Nat.zero_le _, ⟨[], rfl, by simp⟩, ⟨blk_new w _⟩, ⟨below_alloc (Below.refl _ _) _⟩⟩
    case round =>
      obtain ⟨i, rfl, hi, HP, HBX, HB⟩ := hrel
      have e3 : wr.cell? ⟨w.heap.size, 3, none⟩ = some (.slice A l.length c) := by rw [Lib.cell_of_heap HBX.out]; rfl
      by_cases hlt : i < l.length
      · obtain ⟨ad, A3, c3, rfl, g0, g1, g2, g3, _, _⟩ := at_V (Kd.C_below HR.out HB.out) i hlt
        obtain ⟨y, hy⟩ : ∃ y, y = l.getD i zSV := ⟨_, rfl⟩
        rw [← hy] at g0 g1 g2 g3
        have HY := Aside0.mk hy
        clear hy
        by_cases h5 : y.k = 5
        · go_wp2
          go_ret
          exact ⟨⟨_, rfl, fun h => by cases h⟩, HB.out⟩
        · go_wp2_with (go_at_call 39; refine (flat_any _ _ _ _ _ _ _).mono ?_; rintro e w1 ⟨⟨b, rfl, hb⟩, hb1⟩; have HF := Aside0.mk hb; have HB1 := Aside0.mk hb1; have HX1 := Aside0.mk (blk_below HBX.out hb1); clear hb hb1; cases b)
          · go_ret
            exact ⟨⟨_, rfl, fun h => by cases h⟩, below_step HB.out HB1.out⟩
          · go_roundw
            case rel =>
              obtain ⟨ps, hps⟩ := HP.out
              have hf := HF.out (by first | rfl | trivial)
              rw [HY.out] at hf
              exact ⟨i + 1, by go_num, by omega, ⟨_, plain_snoc hps hlt hf⟩, HX1, ⟨below_step HB.out HB1.out⟩⟩
            case measure => simp [intOf]; omega
      · have hie : i = l.length := by omega
        subst hie
        rw [List.take_length] at HP
        go_wp2
        go_ret
        refine ⟨⟨_, rfl, fun _ => ?_⟩, HB.out⟩
        obtain ⟨ps, hps⟩ := HP.out
        exact ⟨.many ps, rfl, (show n = 0 by assumption), HS.out, hps.1, by have h := congrArg List.length hps.1; rw [List.length_map] at h; omega⟩
  · refine (argumentRight_flat x.k x.n x.s A x.l.length c w hk).mono ?_
    rintro e w' ⟨h1, h2⟩
    exact ⟨h1.mono (fun hf => ⟨.one (svPI x), (flat_sv hf).1⟩), h2⟩
end Go.Proofs.YtnpjnekoifheoaaDoor
