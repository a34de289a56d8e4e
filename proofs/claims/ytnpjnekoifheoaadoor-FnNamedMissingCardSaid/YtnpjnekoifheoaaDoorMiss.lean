/- What laws.FnNamedMissing's walk takes: the text of names with commas, impl.Named. -/
import Derived.Test.YtnpjnekoifheoaaDoorOnes
namespace Go.Proofs.YtnpjnekoifheoaaDoor
open Go Go.RowKit Go.Proofs.YtnpjnekoifheoaaDoorW.PrintWords
set_option linter.unusedVariables false
set_option maxRecDepth 100000

/-- The text of the first names. -/
def missS (names : List ByteArray) : Nat → List UInt8
  | 0 => []
  | i + 1 => missS names i ++ (58 :: (nmAt names i ++ [44, 32]))
theorem sp44 : alw 44 = false ∧ (44 : UInt8) ≠ 95 ∧ (44 : UInt8) ≠ 46 ∧ (44 : UInt8) ≠ 58 := by decide
theorem miss_run (k : Int) (names : List ByteArray) : ∀ (i : Nat), i ≤ names.length → (∀ j, j < i → NameOk (names.getD j ⟨#[]⟩)) → ∃ R, ∀ rest, crun k (missS names i ++ rest) ⟨[], [], none⟩ = crun k rest ⟨R, names.take i, none⟩ := by
  intro i
  induction i with
  | zero => intro _ _; exact ⟨[], fun rest => rfl⟩
  | succ i ih =>
    intro hi hn
    obtain ⟨R, hR⟩ := ih (by omega) (fun j hj => hn j (by omega))
    have h1 := hn i (by omega)
    have hl : (names.take i).length = i := by rw [List.length_take]; omega
    refine ⟨R ++ markL k (i + 1) (nmAt names i) ++ [44] ++ [32], fun rest => ?_⟩
    have e : missS names (i + 1) ++ rest = missS names i ++ (58 :: ((names.getD i ⟨#[]⟩).data.toList ++ 44 :: ([32] ++ rest))) := by simp [missS, nmAt]
    rw [e, hR, crun_nameThen k h1 44 sp44 _ _ _ (.inl (by decide)), crun_plain k [32] rest _ _ (by decide), hl, take_snoc' names i (by omega) (⟨#[]⟩ : ByteArray)]
    simp [nmAt]
theorem miss_count (names : List ByteArray) : ∀ (i : Nat), i ≤ names.length → (∀ j, j < i → NameOk (names.getD j ⟨#[]⟩)) → (missS names i).count 58 = i := by
  intro i
  induction i with
  | zero => intro _ _; rfl
  | succ i ih =>
    intro hi hn
    have h1 := hn i (by omega)
    have h2 := count_0 (nb_58 (name_split h1).1)
    simp [missS, nmAt, List.count_append, ih (by omega) (fun j hj => hn j (by omega))] at h2 ⊢
    omega
/-- The names but one. -/
def lessN (names : List ByteArray) (at' : Nat) : Nat → List ByteArray
  | 0 => []
  | i + 1 => if i = at' then lessN names at' i else lessN names at' i ++ [names.getD i ⟨#[]⟩]
theorem lessN_all (names : List ByteArray) (m : Nat) : ∀ i, i ≤ names.length → i ≤ m → lessN names m i = names.take i := by
  intro i
  induction i with
  | zero => intro _ _; rfl
  | succ i ih =>
    intro hi hm
    rw [lessN, if_neg (by omega), ih (by omega) (by omega), take_snoc' names i (by omega) (⟨#[]⟩ : ByteArray)]
theorem lessN_mem (names : List ByteArray) (m : Nat) {x : ByteArray} : ∀ i, x ∈ lessN names m i → ∃ j, j < i ∧ j ≠ m ∧ x = names.getD j ⟨#[]⟩ := by
  intro i
  induction i with
  | zero => intro h; cases h
  | succ i ih =>
    intro h
    rw [lessN] at h
    by_cases hi : i = m
    · rw [if_pos hi] at h
      obtain ⟨j, h1, h2, h3⟩ := ih h
      exact ⟨j, by omega, h2, h3⟩
    · rw [if_neg hi] at h
      rcases List.mem_append.1 h with h | h
      · obtain ⟨j, h1, h2, h3⟩ := ih h
        exact ⟨j, by omega, h2, h3⟩
      · exact ⟨i, by omega, hi, List.mem_singleton.1 h⟩
def Diff (names : List ByteArray) (i : Nat) : Prop := ∀ j, j < i → ∀ k, k < j → names.getD k ⟨#[]⟩ ≠ names.getD j ⟨#[]⟩
theorem lessN_nodup (names : List ByteArray) (m : Nat) : ∀ i, Diff names i → (lessN names m i).Nodup := by
  intro i
  induction i with
  | zero => intro _; exact List.nodup_nil
  | succ i ih =>
    intro h
    have h1 := ih (fun j hj => h j (by omega))
    rw [lessN]
    by_cases hi : i = m
    · rw [if_pos hi]; exact h1
    · rw [if_neg hi, List.nodup_append]
      refine ⟨h1, by simp, fun x hx y hy => ?_⟩
      obtain ⟨j, hj, _, rfl⟩ := lessN_mem names m i hx
      rw [List.mem_singleton.1 hy]
      exact h i (by omega) j hj
theorem lessN_not (names : List ByteArray) (m i : Nat) (hm : m < i) (h : Diff names i) : names.getD m ⟨#[]⟩ ∉ lessN names m i := by
  intro hx
  obtain ⟨j, hj, hne, e⟩ := lessN_mem names m i hx
  rcases Nat.lt_or_ge j m with h1 | h1
  · exact h m hm j h1 e.symm
  · exact h j hj m (by omega) e
def withV (rx : RX) (l : List ByteArray) : List (ByteArray × RX) := l.map fun n => (n, rx)
theorem withV_len (rx : RX) (l : List ByteArray) : (withV rx l).length = l.length := by simp [withV]
theorem withV_names (rx : RX) (l : List ByteArray) : (withV rx l).map (·.1) = l := by simp [withV, Function.comp_def]
theorem withV_at (rx : RX) (l : List ByteArray) (i : Nat) (hi : i < l.length) : (withV rx l).getD i zAX = (l.getD i ⟨#[]⟩, rx) := by
  rw [List.getD_eq_getElem?_getD, List.getD_eq_getElem?_getD, List.getElem?_eq_getElem (by rw [withV_len]; exact hi), List.getElem?_eq_getElem hi]
  simp [withV]
theorem withV_iv {W : World} {rx : RX} {vx : IV} (l : List ByteArray) (hx : IsIV W rx vx) : ∀ i, i < (withV rx l).length → IsIV W ((withV rx l).getD i zAX).2 ((l.map fun _ => vx).getD i (.one .nil)) := by
  intro i hi
  rw [withV_len] at hi
  have e : (l.map fun _ => vx).getD i (.one .nil) = vx := by
    rw [List.getD_eq_getElem?_getD, List.getElem?_eq_getElem (by simpa using hi)]
    simp
  rw [withV_at rx l i hi, e]
  exact hx
theorem withV_small {vx : IV} (l : List ByteArray) (h : ∀ ps, vx = .many ps → ps.length ≤ 20) : ∀ i ps, (l.map fun _ => vx).getD i (.one .nil) = .many ps → ps.length ≤ 20 := by
  intro i ps e
  by_cases hi : i < l.length
  · rw [List.getD_eq_getElem?_getD, List.getElem?_eq_getElem (by simpa using hi)] at e
    exact h ps (by simpa using e)
  · rw [List.getD_eq_getElem?_getD, List.getElem?_eq_none (by simpa using hi)] at e
    cases e
theorem named_all (q : ByteArray) (fin : CS) (rx : RX) (vx : IV) (l : List ByteArray) (A : Option Addr) (c : Nat) (W : World) (hq : q.size ≤ 100000) (hc : q.data.toList.count 58 ≤ 90) (hrun : crun 1 q.data.toList ⟨[], [], none⟩ = some fin) (hnl : fin.names.length ≤ 90) (hn : l.Nodup) (hr : kAX.C W A l.length (withV rx l)) (hx : IsIV W rx vx) (hz : ∀ ps, vx = .many ps → ps.length ≤ 20) (hall : ∀ a ∈ fin.names, a ∈ l) :
    Calls Tryd.prog 27 #[.string q, .slice A l.length c] W fun e w' => (∃ reb C f, e = .returned (.tuple #[.string reb, .slice C fin.names.length f, .bool true])) ∧ Below W.heap.size W w' := by
  have hl := withV_len rx l
  have HC := Aside0.mk (NamedOf_ok 1 q fin (withV rx l) (l.map fun _ => vx) A c W (by omega) (by omega) hq hc hrun hnl (by rw [withV_names]; exact hn) (by rw [hl]; exact hr) (withV_iv l hx) (fun a ha => by
    obtain ⟨j, hj, e⟩ := List.getElem_of_mem (hall a ha)
    refine ⟨j, by rw [hl]; exact hj, ?_⟩
    rw [withV_at rx l j hj, List.getD_eq_getElem?_getD, List.getElem?_eq_getElem hj]
    exact e.symm) (withV_small l hz))
  rw [hl] at HC
  clear hrun hr hx hz hall
  go_enter Tryd.func27, Tryd.ntmps27
  go_wp2_with (go_at_call 25; refine HC.out.mono ?_; rintro e w1 ⟨⟨C, f, ys, rfl, _, _⟩, h2⟩; have H2 := Aside0.mk h2; clear h2)
  exact bodyPost_ret (v := .tuple #[.string ⟨fin.reb.toArray⟩, .slice C fin.names.length f, .bool true]) (by simp [results, Tryd.results27, go_sem]) rfl ⟨⟨_, C, f, rfl⟩, H2.out⟩
theorem named_less (q : ByteArray) (fin : CS) (rx : RX) (vx : IV) (l : List ByteArray) (A : Option Addr) (c : Nat) (W : World) (hq : q.size ≤ 100000) (hc : q.data.toList.count 58 ≤ 90) (hrun : crun 1 q.data.toList ⟨[], [], none⟩ = some fin) (hnl : fin.names.length ≤ 90) (hn : l.Nodup) (hr : kAX.C W A l.length (withV rx l)) (hx : IsIV W rx vx) (hbad : ∃ a ∈ fin.names, a ∉ l) :
    Calls Tryd.prog 27 #[.string q, .slice A l.length c] W fun e w' => e = .returned (.tuple #[.string ⟨#[]⟩, .slice none 0 0, .bool false]) ∧ Below W.heap.size W w' := by
  have hl := withV_len rx l
  have HC := Aside0.mk (NamedOf_bad 1 q fin (withV rx l) (l.map fun _ => vx) A c W (by omega) (by omega) hq hc hrun hnl (by rw [withV_names]; exact hn) (by rw [hl]; exact hr) (withV_iv l hx) (by rw [withV_names]; exact hbad))
  rw [hl] at HC
  clear hrun hr hx hbad
  go_enter Tryd.func27, Tryd.ntmps27
  go_wp2_with (go_at_call 25; refine HC.out.mono ?_; rintro e w1 ⟨rfl, h2⟩; have H2 := Aside0.mk h2; clear h2)
  exact bodyPost_ret (v := .tuple #[.string ⟨#[]⟩, .slice none 0 0, .bool false]) (by simp [results, Tryd.results27, go_sem]) rfl ⟨rfl, H2.out⟩
end Go.Proofs.YtnpjnekoifheoaaDoor
