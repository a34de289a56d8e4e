/- What laws.FnNamedOne's walk takes. -/
import Derived.Test.YtnpjnekoifheoaaDoorNamed
import Derived.Test.YtnpjnekoifheoaaDoorTurned
import Derived.Test.YtnpjnekoifheoaaDoorTold
import Derived.Test.YtnpjnekoifheoaaDoorNamesMany
import Derived.Test.YtnpjnekoifheoaaDoorNames
import Derived.Deep.RegionHeld3
namespace Go.Proofs.YtnpjnekoifheoaaDoor
open Go Go.RowKit Go.Proofs.YtnpjnekoifheoaaDoorW.PrintWords
set_option linter.unusedVariables false
set_option maxRecDepth 100000

theorem boxed2 {w W0 w1 : World} {T : Nat} {p0 p1 p2 p3 q0 q1 q2 q3 : Value} (h0 : W0 = (w.alloc (.cells #[p0, p1, p2, p3] T)).alloc (.cells #[q0, q1, q2, q3] T)) (hb : Below W0.heap.size W0 w1) :
    w1.cell? ⟨w.heap.size, 0, none⟩ = some p0 ∧ w1.cell? ⟨w.heap.size, 1, none⟩ = some p1 ∧ w1.cell? ⟨w.heap.size, 2, none⟩ = some p2 ∧ w1.cell? ⟨w.heap.size, 3, none⟩ = some p3 ∧ w1.cell? ⟨w.heap.size + 1, 0, none⟩ = some q0 ∧ w1.cell? ⟨w.heap.size + 1, 1, none⟩ = some q1 ∧ w1.cell? ⟨w.heap.size + 1, 2, none⟩ = some q2 ∧ w1.cell? ⟨w.heap.size + 1, 3, none⟩ = some q3 := by
  have h1 : w1.heap[w.heap.size]? = some (.cells #[p0, p1, p2, p3] T (0, 0)) := by
    rw [hb.block _ (by rw [h0]; simp; omega), h0]
    exact blk_alloc (blk_new w _) _
  have h2 : w1.heap[w.heap.size + 1]? = some (.cells #[q0, q1, q2, q3] T (0, 0)) := by
    rw [hb.block _ (by rw [h0]; simp), h0]
    exact blk_new' _ _ _ (by simp)
  refine ⟨?_, ?_, ?_, ?_, ?_, ?_, ?_, ?_⟩
  all_goals first | (rw [Lib.cell_of_heap h1]; rfl) | (rw [Lib.cell_of_heap h2]; rfl)
theorem two_below2 {w W0 w1 : World} {o1 o2 : Obj} (h0 : W0 = (w.alloc o1).alloc o2) (hb : Below W0.heap.size W0 w1) : Below w.heap.size w w1 := by
  have h1 : Below w.heap.size w W0 := by rw [h0]; exact below_alloc (below_alloc (Below.refl _ _) _) _
  exact below_step h1 hb

theorem drew_heap2 (w : World) : w.drew.heap = w.heap := rfl
theorem right_small {x : SV} {v : IV} (h : RightV x v) : ∀ ps, v = .many ps → ps.length ≤ 20 := by
  rintro ps rfl
  exact h.2.2.2.2
def argCells (n : ByteArray) (x : RX) : List Value := [.string n, .int .i64 x.k, .int .i64 x.n, .string x.s, .slice x.A x.m x.c]
theorem argK (w : World) (n : ByteArray) (x : RX) : kAX.K w (n, x) (argCells n x) := ⟨[.string n], x.cells, rfl, rfl, rfl⟩
theorem reads_one {W : World} {g t o : Nat} {n : ByteArray} {x : RX} {cs : Array Value} {fz : Nat × Nat} (hb : W.heap[g]? = some (.cells cs t fz)) (hc : ∀ i u, (argCells n x)[i]? = some u → cs[o + i]? = some u) : kAX.C W (some ⟨g, o, none⟩) 1 [(n, x)] := by
  refine ⟨rfl, by omega, fun _ => ⟨_, rfl, fun j p h => ?_⟩⟩
  match j, h with
  | 0, h =>
    simp at h
    subst h
    refine ⟨argCells n x, rfl, argK W n x, fun i u hu => ?_⟩
    have e : (⟨g, o, none⟩ : Addr).add i = ⟨g, o + i, none⟩ := by simp [Addr.add]
    rw [Nat.zero_mul, Nat.zero_add, e]
    rw [Lib.cell_of_heap hb]
    exact hc i u hu
  | j + 1, h => simp at h
theorem reads_two {W : World} {g t : Nat} {n1 n2 : ByteArray} {x1 x2 : RX} {cs : Array Value} {fz : Nat × Nat} (hb : W.heap[g]? = some (.cells cs t fz)) (h1 : ∀ i u, (argCells n1 x1)[i]? = some u → cs[0 + i]? = some u) (h2 : ∀ i u, (argCells n2 x2)[i]? = some u → cs[5 + i]? = some u) : kAX.C W (some ⟨g, 0, none⟩) 2 [(n1, x1), (n2, x2)] := by
  refine ⟨rfl, by omega, fun _ => ⟨_, rfl, fun j p h => ?_⟩⟩
  match j, h with
  | 0, h =>
    simp at h
    subst h
    refine ⟨argCells n1 x1, rfl, argK W n1 x1, fun i u hu => ?_⟩
    rw [Nat.zero_mul, add_plain, Lib.cell_of_heap hb]
    exact h1 i u hu
  | 1, h =>
    simp at h
    subst h
    refine ⟨argCells n2 x2, rfl, argK W n2 x2, fun i u hu => ?_⟩
    rw [Nat.one_mul, add_plain, Lib.cell_of_heap hb]
    exact h2 i u hu
  | j + 2, h => simp at h
theorem two_cells (a0 a1 a2 a3 a4 b0 b1 b2 b3 b4 : Value) (rest : Array Value) : (∀ i u, [a0, a1, a2, a3, a4][i]? = some u → (#[a0, a1, a2, a3, a4] ++ (#[b0, b1, b2, b3, b4] ++ rest))[0 + i]? = some u) ∧ (∀ i u, [b0, b1, b2, b3, b4][i]? = some u → (#[a0, a1, a2, a3, a4] ++ (#[b0, b1, b2, b3, b4] ++ rest))[5 + i]? = some u) := by
  constructor
  · intro i u hu
    have hi := (List.getElem?_eq_some_iff.1 hu).1
    simp at hi
    rw [Nat.zero_add, Array.getElem?_append_left (by simpa using hi)]
    simpa using hu
  · intro i u hu
    have hi := (List.getElem?_eq_some_iff.1 hu).1
    simp at hi
    rw [Array.getElem?_append_right (by simp), Array.getElem?_append_left (by simp; omega)]
    simpa using hu
theorem one_data (nm : ByteArray) : ((⟨#[58]⟩ : ByteArray) ++ nm).data.toList = 58 :: nm.data.toList := by simp
theorem one_size (nm : ByteArray) (h : nm.size ≤ 30) : ((⟨#[58]⟩ : ByteArray) ++ nm).size ≤ 100000 := by
  have e1 : (⟨#[58]⟩ : ByteArray).size = 1 := rfl
  rw [ba_size, e1]
  omega
theorem one_run (kk : Int) {nm : ByteArray} (h : NameOk nm) : crun kk ((⟨#[58]⟩ : ByteArray) ++ nm).data.toList ⟨[], [], none⟩ = some ⟨markL kk 1 nm.data.toList, [nm], none⟩ := by
  rw [one_data, crun_nameEnd kk h]
  rfl
theorem one_count {nm : ByteArray} (h : NameOk nm) : ((⟨#[58]⟩ : ByteArray) ++ nm).data.toList.count 58 ≤ 90 := by
  rw [one_data, List.count_cons_self, count_0 (nb_58 (name_split h).1)]
  decide
/-- The text of one name, its argument first in the list. -/
theorem named_first (kk : Int) (nm : ByteArray) (rx : RX) (vx : IV) (xs : List (ByteArray × RX)) (vs : List IV) (A : Option Addr) (c : Nat) (W : World) (hk0 : 0 ≤ kk) (hk4 : kk ≤ 4) (h : NameOk nm) (hn : (((nm, rx) :: xs).map (·.1)).Nodup) (hr : kAX.C W A ((nm, rx) :: xs).length ((nm, rx) :: xs)) (hx : IsIV W rx vx) (hv : ∀ i, i < xs.length → IsIV W (xs.getD i zAX).2 (vs.getD i (.one .nil))) (hzx : ∀ ps, vx = .many ps → ps.length ≤ 20) (hz : ∀ i ps, vs.getD i (.one .nil) = .many ps → ps.length ≤ 20) :
    Calls Tryd.prog 25 #[.int .i64 kk, .string ((⟨#[58]⟩ : ByteArray) ++ nm), .slice A (xs.length + 1) c] W fun e w' => (∃ C f y, e = .returned (.tuple #[.string ⟨(markL kk 1 nm.data.toList).toArray⟩, .slice (some C) 1 f, .bool true]) ∧ kRX.C w' (some C) 1 [y] ∧ IsIV w' y vx) ∧ Below W.heap.size W w' := by
  refine (NamedOf_ok kk _ ⟨markL kk 1 nm.data.toList, [nm], none⟩ ((nm, rx) :: xs) (vx :: vs) A c W hk0 hk4 (one_size nm h.2.2.1) (one_count h) (one_run kk h) (by show 1 ≤ 90; omega) hn hr ?_ ?_ ?_).mono ?_
  · intro i hi
    cases i with
    | zero => exact hx
    | succ i => exact hv i (by simpa using hi)
  · intro a ha
    exact ⟨0, by simp, by simpa using ha⟩
  · intro i ps e
    cases i with
    | zero => exact hzx ps (by simpa using e)
    | succ i => exact hz i ps (by simpa using e)
  · rintro e w' ⟨⟨C, f, ys, rfl, hC, h1⟩, hb⟩
    obtain ⟨j, hj, hj2, hj3⟩ := h1 rfl
    have hl := (C_len hC).1
    obtain ⟨y, rfl⟩ : ∃ y, ys = [y] := by
      match ys, hl with
      | [y], _ => exact ⟨y, rfl⟩
    have hj0 : j = 0 := by
      cases j with
      | zero => rfl
      | succ j =>
        exfalso
        have hj' : j < xs.length := by simpa using hj
        have h4 := (List.nodup_cons.1 (by simpa using hn : (nm :: xs.map (·.1)).Nodup)).1
        refine h4 ?_
        have h5 : nm = (xs.getD j zAX).1 := by simpa using hj2
        rw [h5, List.getD_eq_getElem?_getD, List.getElem?_eq_getElem hj']
        exact List.mem_map_of_mem (List.getElem_mem hj')
    subst hj0
    obtain ⟨ad, rfl, _⟩ := hC.2.2 (by simp)
    exact ⟨⟨ad, f, y, rfl, hC, by simpa using hj3⟩, hb⟩
/-- The text of one name that no argument has. -/
theorem named_without (kk : Int) (nm : ByteArray) (xs : List (ByteArray × RX)) (vs : List IV) (A : Option Addr) (c : Nat) (W : World) (hk0 : 0 ≤ kk) (hk4 : kk ≤ 4) (h : NameOk nm) (hn : (xs.map (·.1)).Nodup) (hr : kAX.C W A xs.length xs) (hv : ∀ i, i < xs.length → IsIV W (xs.getD i zAX).2 (vs.getD i (.one .nil))) (hno : nm ∉ xs.map (·.1)) :
    Calls Tryd.prog 25 #[.int .i64 kk, .string ((⟨#[58]⟩ : ByteArray) ++ nm), .slice A xs.length c] W fun e w' => e = .returned (.tuple #[.string ⟨#[]⟩, .slice none 0 0, .bool false]) ∧ Below W.heap.size W w' :=
  NamedOf_bad kk _ ⟨markL kk 1 nm.data.toList, [nm], none⟩ xs vs A c W hk0 hk4 (one_size nm h.2.2.1) (one_count h) (one_run kk h) (by show 1 ≤ 90; omega) hn hr hv ⟨nm, by simp, hno⟩

theorem ne_texts {T nm : ByteArray} (h : (!T.toList == nm.toList) = true) : T ≠ nm := by
  rintro rfl
  simp at h
theorem iv_single {W : World} {ry : RX} {vy : IV} (n : ByteArray) (h : IsIV W ry vy) : ∀ i, i < [(n, ry)].length → IsIV W ([(n, ry)].getD i zAX).2 ([vy].getD i (.one .nil)) := by
  intro i hi
  cases i with
  | zero => exact h
  | succ i => simp at hi
theorem small_single {vy : IV} (h : ∀ ps, vy = .many ps → ps.length ≤ 20) : ∀ i ps, [vy].getD i (.one .nil) = .many ps → ps.length ≤ 20 := by
  intro i ps e
  cases i with
  | zero => exact h ps (by simpa using e)
  | succ i => simp at e
theorem small_nil : ∀ i ps, ([] : List IV).getD i (.one .nil) = .many ps → ps.length ≤ 20 := by
  intro i ps e
  simp at e
theorem nodup_two {T nm : ByteArray} (h : T ≠ nm) (rx ry : RX) : (((nm, rx) :: [(T, ry)]).map (·.1)).Nodup := by
  simp
  exact fun e => h e.symm
theorem reads_nil2 (W : World) (A : Option Addr) : kAX.C W A 0 [] := ⟨rfl, by omega, fun h => absurd h (Nat.lt_irrefl 0)⟩
theorem marks_eq {M : ByteArray} {l : List UInt8} (h : M.data.toList = l) : (⟨l.toArray⟩ : ByteArray) = M := ba_ext (by simp [h])
end Go.Proofs.YtnpjnekoifheoaaDoor
