/- The kinds of data that the walks speak of: plain values (PI: what an interface{} that is no list holds), values (SV: a tree, as impl.Value is), as Lean data. -/
import Derived.Test.YtnpjnekoifheoaaDoorProg
import Derived.Test.YtnpjnekoifheoaaDoorWWords
import Derived.WalkLawsBesides
import Derived.WalkSpells
import Derived.Lib.Hide
namespace Go.Proofs.YtnpjnekoifheoaaDoor
open Go Go.RowKit Go.Proofs.YtnpjnekoifheoaaDoorW.PrintWords
set_option linter.unusedVariables false
set_option maxRecDepth 100000

/-- A value of interface{} that is no list. -/
inductive PI where
  | nil
  | int (n : Int)
  | str (s : ByteArray)
  | bool (b : Bool)
def PI.enc : PI → Value
  | .nil => .nilIface
  | .int n => .iface 2 (.int .i64 n)
  | .str s => .iface 9 (.string s)
  | .bool b => .iface 4 (.bool b)
def PI.k : PI → Int
  | .nil => 0
  | .int _ => 1
  | .str _ => 2
  | .bool true => 3
  | .bool false => 4
def PI.n : PI → Int
  | .int n => n
  | _ => 0
def PI.s : PI → ByteArray
  | .str s => s
  | _ => ⟨#[]⟩
theorem PI.enc_one (p : PI) : p.enc.oneCell' = true := by cases p <;> rfl
def kPI : Kd PI := Kd.scalar PI.enc PI.enc_one

/-! #### impl.Value, a struct nested in itself (the text is the print's, for this type) -/
structure SV where
  k : Int
  n : Int
  s : ByteArray
  l : (List SV)
def zSV : SV := ⟨(0 : Int), (0 : Int), (⟨#[]⟩ : ByteArray), ([] : List SV)⟩
def fSV (d : Kd SV) : Kd SV := Kd.iso (Kd.pair (Kd.int .i64) (Kd.pair (Kd.int .i64) (Kd.pair Kd.string (Kd.slice 41 d)))) (fun x : SV => (x.k, x.n, x.s, x.l))
theorem monoSV : Kd.Mono fSV := Kd.mono_iso _ (Kd.mono_pair (Kd.mono_const _) (Kd.mono_pair (Kd.mono_const _) (Kd.mono_pair (Kd.mono_const _) (Kd.mono_slice 41 Kd.mono_id))))
theorem subSV : Kd.Sub fSV [41] := Kd.sub_iso _ (Kd.sub_pair (Kd.sub_const _ (by decide)) (Kd.sub_pair (Kd.sub_const _ (by decide)) (Kd.sub_pair (Kd.sub_const _ (by decide)) (Kd.sub_slice 41 (by decide) Kd.sub_id))))
theorem szSV : ∀ n, (Kd.upto fSV 4 [41] n).sz = 4 := Kd.upto_sz (fun _ => rfl)
def kV : Kd SV := Kd.fix fSV 4 [41] szSV (Kd.upto_E subSV)
theorem kV_open {w : World} {x : SV} {cs : List Value} (h : kV.K w x cs) : ∃ A3 c3, cs = [.int .i64 x.k, .int .i64 x.n, .string x.s, .slice A3 x.l.length c3] ∧ x.l.length ≤ c3 ∧ kV.C w A3 x.l.length x.l := by
  obtain ⟨n, h⟩ := h
  cases n with
  | zero => exact h.elim
  | succ n =>
    obtain ⟨_, _, rfl, rfl, ⟨_, _, rfl, rfl, ⟨_, _, rfl, rfl, ⟨A3, c3, rfl, l3, g3⟩⟩⟩⟩ := h
    exact ⟨A3, c3, rfl, l3, Kd.fix_C g3⟩
theorem kV_openM {w : World} {base : Nat} {ok : Nat → Prop} {x : SV} {cs : List Value} (h : kV.M w base ok x cs) : ∃ v3, cs = [.int .i64 x.k, .int .i64 x.n, .string x.s, v3] ∧ kV.R 41 w base ok v3 x.l := by
  obtain ⟨n, h⟩ := h
  cases n with
  | zero => exact h.elim
  | succ n =>
    obtain ⟨_, _, rfl, rfl, ⟨_, _, rfl, rfl, ⟨_, _, rfl, rfl, ⟨v3, rfl, g3⟩⟩⟩⟩ := h
    exact ⟨v3, rfl, Kd.fix_R g3⟩
theorem kV_mk (w : World) (x : SV) {A3 : Option Addr} {c3 : Nat} (l3 : x.l.length ≤ c3) (g3 : kV.C w A3 x.l.length x.l) : kV.K w x [.int .i64 x.k, .int .i64 x.n, .string x.s, .slice A3 x.l.length c3] := by
  obtain ⟨n3, q3⟩ := Kd.fix_C_back monoSV g3
  have r3 := Kd.upto_C_le monoSV szSV (show n3 ≤ n3 by omega) q3
  exact ⟨n3 + 1, ⟨[.int .i64 x.k], [.int .i64 x.n, .string x.s, .slice A3 x.l.length c3], rfl, rfl, ⟨[.int .i64 x.n], [.string x.s, .slice A3 x.l.length c3], rfl, rfl, ⟨[.string x.s], [.slice A3 x.l.length c3], rfl, rfl, ⟨A3, c3, rfl, l3, r3⟩⟩⟩⟩⟩
theorem kV_mkM (w : World) (base : Nat) (ok : Nat → Prop) (x : SV) {v3 : Value} (g3 : kV.R 41 w base ok v3 x.l) : kV.M w base ok x [.int .i64 x.k, .int .i64 x.n, .string x.s, v3] := by
  obtain ⟨n3, q3⟩ := Kd.fix_R_back monoSV g3
  have r3 := Kd.upto_R_le monoSV szSV (show n3 ≤ n3 by omega) q3
  exact ⟨n3 + 1, ⟨[.int .i64 x.k], [.int .i64 x.n, .string x.s, v3], rfl, rfl, ⟨[.int .i64 x.n], [.string x.s, v3], rfl, rfl, ⟨[.string x.s], [v3], rfl, rfl, ⟨v3, rfl, r3⟩⟩⟩⟩⟩

/-- The i-th element of a row of values that is read: its cells. -/
theorem at_V {w : World} {A : Option Addr} {n : Nat} {xs : List SV} (h : kV.C w A n xs) (i : Nat) (hi : i < n) : ∃ ad A3 c3, A = some ad ∧ w.cell? (ad.add (i * 4)) = some (.int .i64 (xs.getD i zSV).k) ∧ w.cell? ⟨(ad.add (i * 4)).block, (ad.add (i * 4)).off + 1, none⟩ = some (.int .i64 (xs.getD i zSV).n) ∧ w.cell? ⟨(ad.add (i * 4)).block, (ad.add (i * 4)).off + 2, none⟩ = some (.string (xs.getD i zSV).s) ∧ w.cell? ⟨(ad.add (i * 4)).block, (ad.add (i * 4)).off + 3, none⟩ = some (.slice A3 (xs.getD i zSV).l.length c3) ∧ (xs.getD i zSV).l.length ≤ c3 ∧ kV.C w A3 (xs.getD i zSV).l.length (xs.getD i zSV).l := by
  obtain ⟨ad, c, e, _, hK, hc0⟩ := Kd.C_get h zSV (i : Int) (by omega) (by omega)
  simp only [Int.toNat_natCast] at hK hc0
  have hc : ∀ j u, c[j]? = some u → w.cell? (ad.add (i * 4 + j)) = some u := hc0
  obtain ⟨A3, c3, rfl, l3, g3⟩ := kV_open hK
  exact ⟨ad, A3, c3, e, hc 0 _ rfl, by rw [← add_field _ _ 1 (by omega)]; exact hc 1 _ rfl, by rw [← add_field _ _ 2 (by omega)]; exact hc 2 _ rfl, by rw [← add_field _ _ 3 (by omega)]; exact hc 3 _ rfl, l3, g3⟩
/-- The i-th element of a row of one-cell elements that is read. -/
theorem at_S {α : Type} {enc : α → Value} {h1 : ∀ x, (enc x).oneCell' = true} {w : World} {A : Option Addr} {n : Nat} {xs : List α} (h : (Kd.scalar enc h1).C w A n xs) (z : α) (i : Nat) (hi : i < n) : ∃ ad, A = some ad ∧ w.cell? (ad.add i) = some (enc (xs.getD i z)) := by
  obtain ⟨ad, c, e, _, hK, hc⟩ := Kd.C_get h z (i : Int) (by omega) (by omega)
  simp only [Int.toNat_natCast] at hK hc
  have hk : c = [enc (xs.getD i z)] := hK
  subst hk
  have := hc 0 _ rfl
  exact ⟨ad, e, by simpa [Kd.scalar] using this⟩
/-- A row's length is bounded. -/
theorem C_len {α : Type} {d : Kd α} {w : World} {A : Option Addr} {n : Nat} {xs : List α} (h : d.C w A n xs) : xs.length = n ∧ n ≤ 9223372036854775807 := ⟨h.1, h.2.1⟩

/-- []T{}: an empty row of one's own. -/
theorem R_empty {α : Type} (d : Kd α) (e : Nat) (w : World) : d.R e (w.alloc (.cells #[] e)) w.heap.size (fun _ => True) (.slice (some ⟨w.heap.size, 0, none⟩) 0 0) [] := by
  refine ⟨fun _ _ => trivial, [], ⟨by simp, .inr ⟨w.heap.size, 0, #[], rfl, Nat.le_refl _, heap_alloc_new w _, Nat.le_refl _, Nat.zero_le _, by simp, by simp⟩⟩, by simp, fun j p h => by simp at h⟩

/-- A plain value as impl.Value has it. -/
def PI.sv (p : PI) : SV := ⟨p.k, p.n, p.s, []⟩
/-- A plain value as impl.Value has it, its empty list wherever it may lie. -/
def kPV : Kd PI where
  sz := 4
  E := []
  K := fun _ p cs => ∃ A c, cs = [.int .i64 p.k, .int .i64 p.n, .string p.s, .slice A 0 c]
  M := fun _ _ _ p cs => ∃ A c, cs = [.int .i64 p.k, .int .i64 p.n, .string p.s, .slice A 0 c]
  K_len := by
    rintro w x cs ⟨A, c, rfl⟩
    rfl
  K_one := by
    rintro w x cs ⟨A, c, rfl⟩ u hu
    simp only [List.mem_cons, List.not_mem_nil, or_false] at hu
    rcases hu with rfl | rfl | rfl | rfl <;> rfl
  K_below := fun _ h => h
  K_of_M := fun h => h
  M_mono := fun _ h => h
  M_bound := fun h => h
  M_move := fun _ h => h
  M_lower := fun _ h => h
theorem at_PV {w : World} {A : Option Addr} {n : Nat} {xs : List PI} (h : kPV.C w A n xs) (i : Nat) (hi : i < n) : ∃ ad A3 c3, A = some ad ∧ w.cell? (ad.add (i * 4)) = some (.int .i64 (xs.getD i .nil).k) ∧ w.cell? ⟨(ad.add (i * 4)).block, (ad.add (i * 4)).off + 1, none⟩ = some (.int .i64 (xs.getD i .nil).n) ∧ w.cell? ⟨(ad.add (i * 4)).block, (ad.add (i * 4)).off + 2, none⟩ = some (.string (xs.getD i .nil).s) ∧ w.cell? ⟨(ad.add (i * 4)).block, (ad.add (i * 4)).off + 3, none⟩ = some (.slice A3 0 c3) := by
  obtain ⟨ad, c, e, _, hK, hc0⟩ := Kd.C_get h .nil (i : Int) (by omega) (by omega)
  simp only [Int.toNat_natCast] at hK hc0
  have hc : ∀ j u, c[j]? = some u → w.cell? (ad.add (i * 4 + j)) = some u := hc0
  obtain ⟨A3, c3, rfl⟩ := hK
  exact ⟨ad, A3, c3, e, hc 0 _ rfl, by rw [← add_field _ _ 1 (by omega)]; exact hc 1 _ rfl, by rw [← add_field _ _ 2 (by omega)]; exact hc 2 _ rfl, by rw [← add_field _ _ 3 (by omega)]; exact hc 3 _ rfl⟩
theorem kPV_of_kV {w : World} {A : Option Addr} {n : Nat} {ps : List PI} (h : kV.C w A n (ps.map PI.sv)) : kPV.C w A n ps := by
  obtain ⟨h1, h2, h3⟩ := h
  refine ⟨by simpa using h1, h2, fun hn => ?_⟩
  obtain ⟨ad, e, hc⟩ := h3 hn
  refine ⟨ad, e, fun j p hj => ?_⟩
  obtain ⟨c, hl, hK, hcell⟩ := hc j p.sv (by rw [List.getElem?_map, hj]; rfl)
  obtain ⟨A3, c3, rfl, _, _⟩ := kV_open hK
  exact ⟨_, hl, ⟨A3, c3, rfl⟩, hcell⟩
end Go.Proofs.YtnpjnekoifheoaaDoor
