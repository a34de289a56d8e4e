/- A contract of sqlx.In: a text with as many question marks as values, lists among them, none of them empty. -/
import Derived.Test.YtnpjnekoifheoaaDoorExpand
import Derived.Test.YtnpjnekoifheoaaDoorMap
import Derived.Test.YtnpjnekoifheoaaDoorBuilder
namespace Go.Proofs.YtnpjnekoifheoaaDoor
open Go Go.RowKit Go.Proofs.YtnpjnekoifheoaaDoorW.PrintWords
set_option linter.unusedVariables false
set_option maxRecDepth 100000

/-- The array of metas after k values. -/
def MetaAt (w : World) (x : IV) (c : Array Value) (i : Nat) : Prop := match x with
  | .one p => c[i * 3]? = some (.slice none 0 0) ∧ c[i * 3 + 1]? = some p.enc ∧ c[i * 3 + 2]? = some (.int .i64 0)
  | .many l => ∃ A cp, c[i * 3]? = some (.slice A l.length cp) ∧ c[i * 3 + 1]? = some .nilIface ∧ c[i * 3 + 2]? = some (.int .i64 l.length) ∧ l.length ≤ cp ∧ kPI.C w A l.length l
def MetaIs (w : World) (c : Array Value) (xs : List IV) (k : Nat) : Prop :=
  c.size = 96 ∧ (∀ i, i < k → MetaAt w (xs.getD i (.one .nil)) c i) ∧ (∀ i, k ≤ i → i < 32 → c[i * 3]? = some (.slice none 0 0) ∧ c[i * 3 + 1]? = some .nilIface ∧ c[i * 3 + 2]? = some (.int .i64 0))

def metaZero : Array Value := (List.replicate 32 [Value.slice none 0 0, .nilIface, .int .i64 0]).flatten.toArray
theorem infoMetas : (Tryd.prog.info? 88).map (fun i => i.zero) = some (some (.agg metaZero)) := by kernel_rfl
theorem run_zero {P : Program} {t : TypeId} {z : Value} (h : (P.info? t).map (fun i => i.zero) = some (some z)) (W : World) : (zeroValue t).run P W = .ok z W := by
  obtain ⟨i, hi, hz⟩ := Option.map_eq_some_iff.1 h
  simp [zeroValue, typeInfo, hi, hz]
theorem metaZero_is (w : World) (xs : List IV) : MetaIs w metaZero xs 0 := by
  refine ⟨by decide, fun i hi => by omega, fun i _ hi => ?_⟩
  have : ∀ (n i : Nat), i < n → (List.replicate n [Value.slice none 0 0, .nilIface, .int .i64 0]).flatten[i * 3]? = some (.slice none 0 0) ∧ (List.replicate n [Value.slice none 0 0, .nilIface, .int .i64 0]).flatten[i * 3 + 1]? = some .nilIface ∧ (List.replicate n [Value.slice none 0 0, .nilIface, .int .i64 0]).flatten[i * 3 + 2]? = some (.int .i64 0) := by
    intro n
    induction n with
    | zero => intro i h; omega
    | succ n ih =>
      intro i h
      rw [List.replicate_succ, List.flatten_cons]
      match i with
      | 0 => exact ⟨rfl, rfl, rfl⟩
      | i + 1 =>
        have e : (i + 1) * 3 = i * 3 + 1 + 1 + 1 := by omega
        rw [e]
        exact ih i (by omega)
  simpa [metaZero] using this 32 i hi

def flatN (xs : List IV) (k : Nat) : Nat := ((xs.take k).flatMap IV.flat).length
def IV.isMany : IV → Bool
  | .one _ => false
  | .many _ => true
def anyN (xs : List IV) (k : Nat) : Bool := (xs.take k).any IV.isMany
theorem take_mono {xs : List IV} {k : Nat} (hk : k < xs.length) : xs.take (k + 1) = xs.take k ++ [xs.getD k (.one .nil)] := take_snoc' xs k hk _
theorem flatN_step (xs : List IV) (k : Nat) (hk : k < xs.length) : flatN xs (k + 1) = flatN xs k + (xs.getD k (.one .nil)).flat.length := by
  unfold flatN
  rw [take_mono hk, List.flatMap_append, List.length_append]
  simp
theorem anyN_step (xs : List IV) (k : Nat) (hk : k < xs.length) : anyN xs (k + 1) = (anyN xs k || (xs.getD k (.one .nil)).isMany) := by
  unfold anyN
  rw [take_mono hk, List.any_append]
  simp
theorem flatN_le (xs : List IV) (k m : Nat) (h : k ≤ m) : flatN xs k ≤ flatN xs m := by
  unfold flatN
  obtain ⟨t, ht⟩ : ∃ t, xs.take m = xs.take k ++ t := by
    refine ⟨(xs.take m).drop k, ?_⟩
    have := List.take_append_drop k (xs.take m)
    rw [List.take_take, Nat.min_eq_left h] at this
    exact this.symm
  rw [ht, List.flatMap_append, List.length_append]
  omega
theorem set_block {w : World} {b o : Nat} {c : Array Value} {T : TypeId} {fz : Nat × Nat} (h : w.heap[b]? = some (.cells c T fz)) (v : Value) : (w.setCell ⟨b, o, none⟩ v).heap[b]? = some (.cells (c.setIfInBounds o v) T fz) := by
  simp [World.setCell, Array.getElem?_modify, h]
theorem below_setOwn {w w1 : World} {B b o : Nat} (h : Below B w w1) (hb : B ≤ b) (v : Value) : Below B w (w1.setCell ⟨b, o, none⟩ v) := h.setCell hb v
theorem set_get_ne {c : Array Value} {i j : Nat} {v : Value} (h : i ≠ j) : (c.setIfInBounds i v)[j]? = c[j]? := by
  rw [Array.getElem?_setIfInBounds]; simp [h]
theorem set_get_eq {c : Array Value} {i : Nat} {v : Value} (h : i < c.size) : (c.setIfInBounds i v)[i]? = some v := by
  rw [Array.getElem?_setIfInBounds]; simp [h]
theorem MetaAt_set {w : World} {x : IV} {c : Array Value} {i j : Nat} {v : Value} (h : MetaAt w x c i) (hj : j < i * 3 ∨ i * 3 + 2 < j) : MetaAt w x (c.setIfInBounds j v) i := by
  unfold MetaAt at h ⊢
  rcases x with p | l
  · simp only at h ⊢
    rw [set_get_ne (by omega), set_get_ne (by omega), set_get_ne (by omega)]
    exact h
  · simp only at h ⊢
    rw [set_get_ne (by omega), set_get_ne (by omega), set_get_ne (by omega)]
    exact h
theorem MetaIs_one {w : World} {c : Array Value} {xs : List IV} {k : Nat} {p : PI} (h : MetaIs w c xs k) (hk : k < 32) (hx : .one p = xs.getD k (.one .nil)) : MetaIs w (c.setIfInBounds (k * 3 + 1) p.enc) xs (k + 1) := by
  obtain ⟨h1, h2, h3⟩ := h
  refine ⟨by simpa using h1, fun i hi => ?_, fun i h4 h5 => ?_⟩
  · by_cases e : i = k
    · subst e
      rw [← hx]
      obtain ⟨a1, a2, a3⟩ := h3 i (Nat.le_refl _) hk
      exact ⟨by rw [set_get_ne (by omega)]; exact a1, set_get_eq (by omega), by rw [set_get_ne (by omega)]; exact a3⟩
    · exact MetaAt_set (h2 i (by omega)) (by omega)
  · obtain ⟨a1, a2, a3⟩ := h3 i (by omega) h5
    rw [set_get_ne (by omega), set_get_ne (by omega), set_get_ne (by omega)]
    exact ⟨a1, a2, a3⟩
theorem MetaIs_many {w : World} {c : Array Value} {xs : List IV} {k : Nat} {l : List PI} {A : Option Addr} {cp : Nat} (h : MetaIs w c xs k) (hk : k < 32) (hx : .many l = xs.getD k (.one .nil)) (hl : l.length ≤ cp) (hC : kPI.C w A l.length l) :
    MetaIs w ((c.setIfInBounds (k * 3 + 2) (.int .i64 l.length)).setIfInBounds (k * 3) (.slice A l.length cp)) xs (k + 1) := by
  obtain ⟨h1, h2, h3⟩ := h
  refine ⟨by simpa using h1, fun i hi => ?_, fun i h4 h5 => ?_⟩
  · by_cases e : i = k
    · subst e
      rw [← hx]
      obtain ⟨a1, a2, a3⟩ := h3 i (Nat.le_refl _) hk
      exact ⟨A, cp, set_get_eq (by simp; omega), by rw [set_get_ne (by omega), set_get_ne (by omega)]; exact a2, by rw [set_get_ne (by omega)]; exact set_get_eq (by omega), hl, hC⟩
    · exact MetaAt_set (MetaAt_set (h2 i (by omega)) (by omega)) (by omega)
  · obtain ⟨a1, a2, a3⟩ := h3 i (by omega) h5
    rw [set_get_ne (by omega), set_get_ne (by omega), set_get_ne (by omega), set_get_ne (by omega), set_get_ne (by omega), set_get_ne (by omega)]
    exact ⟨a1, a2, a3⟩

theorem cell_below {w w1 : World} {a : Addr} {v : Value} (h : w.cell? a = some v) (hb : Below w.heap.size w w1) : w1.cell? a = some v := by
  rw [hb.cell ?_]
  · exact h
  · rcases Nat.lt_or_ge a.block w.heap.size with h' | h'
    · exact h'
    · simp [World.cell?, Array.getElem?_eq_none h'] at h

theorem blk_past_type {w w1 : World} {g : Nat} {c : Array Value} {T : Nat} {fz : Nat × Nat} (h : w.heap[g]? = some (.cells c T fz)) {β : Type} {d' : Kd β} {e' b' : Nat} {ok' : Nat → Prop} {u : Value} {ys : List β} (hu : d'.R e' w b' ok' u ys)
    (hg : w.grownBy w1 u.ownBlock) (hT : T ≠ e') : w1.heap[g]? = some (.cells c T fz) := by
  refine (hg.block g (Array.getElem?_eq_some_iff.1 h).1 (fun hq => ?_)).trans h
  obtain ⟨inner, ho⟩ := Kd.R_own hu
  obtain ⟨cells', hc'⟩ := own_typed ho g hq.symm
  rw [h] at hc'
  injection hc' with hc'
  injection hc' with _ hc'
  exact hT hc'
theorem drop_extract (Q : ByteArray) (k : Nat) : (Q.extract k Q.size).data.toList = Q.data.toList.drop k := by
  have e : (Q.extract k Q.size).data = Q.data.extract k Q.size := by simp
  rw [e, Array.toList_extract, List.extract_eq_take_drop, Lib.size_eq]
  rw [List.take_of_length_le (by simp)]
theorem take_extract (Q : ByteArray) (k : Nat) : (Q.extract 0 k).data.toList = Q.data.toList.take k := by
  have e : (Q.extract 0 k).data = Q.data.extract 0 k := by simp
  rw [e, Array.toList_extract, List.extract_eq_take_drop]
  simp
theorem size_take_extract (Q : ByteArray) (k : Nat) (h : k ≤ Q.size) : (Q.extract 0 k).size = k := by
  rw [Lib.size_eq, take_extract, List.length_take, ← Lib.size_eq]
  omega
theorem Bld.lt {b : Nat} {l : List UInt8} {w : World} (h : Bld b l w) : b < w.heap.size := h.elim (fun x => x.lt) (fun x => x.lt)
theorem run_store_enc {P : Program} (a : Addr) (p : PI) (m : Mode) (w : World) : (store a p.enc m).run P w = stored P w a p.enc m := run_store P w a _ m p.enc_one
set_option maxRecDepth 20000 in
set_option maxHeartbeats 4000000 in
theorem In_calls (q : ByteArray) (xs : List IV) (A : Option Addr) (c : Nat) (w : World) (hr : kIV.C w A xs.length xs) (hn : xs.length ≤ 32) (hE : ∀ i l, xs.getD i (.one .nil) = .many l → 0 < l.length) (hF : flatN xs xs.length ≤ 100000) (hA : anyN xs xs.length = true) (hq : q.size ≤ 100000)
    (hcount : q.data.toList.count 63 = xs.length) (hout : (expand q.data.toList xs).length ≤ 10000000) :
    Calls Tryd.prog 36 #[.string q, .slice A xs.length c] w fun e w' => ∃ v, e = .returned (.tuple #[.string ⟨(expand q.data.toList xs).toArray⟩, v, .nilIface]) ∧ kPI.R 20 w' w.heap.size (fun _ => True) v (xs.flatMap IV.flat) ∧ Below w.heap.size w w' := by
  have HR := Aside0.mk hr
  have HE := Lib.hid hE
  have HF := Lib.hid hF
  have hz63 := run_zero infoMetas
  have hn' : (xs.length : Int) ≤ 32 := by omega
  have hdec : decide ((xs.length : Int) ≤ 32) = true := decide_eq_true (by omega)
  have HT := Lib.hid hcount
  have HO := Lib.hid hout
  clear hr hE hF hcount hout
  go_enter Tryd.func36, Tryd.ntmps36
  go_wp2
  go_loopw [7, 8, 33] (fun sf sa i wr => ∃ (k : Nat) (c : Array Value), i = .int .i64 k ∧ k ≤ xs.length ∧ sf = .int .i64 (flatN xs k) ∧ sa = .bool (anyN xs k) ∧ Aside0 (wr.heap[w.heap.size]? = some (.cells c 88 (0, 0))) ∧ Aside0 (MetaIs w c xs k) ∧ Aside0 (Below w.heap.size w wr)) (fun _ _ i _ => xs.length - (intOf i).toNat)
  case atStart => exact ⟨0, metaZero, rfl, Nat.zero_le _, rfl, rfl, ⟨blk_new w _⟩, ⟨metaZero_is w xs⟩, ⟨below_alloc (Below.refl _ _) _⟩⟩
  case round =>
    obtain ⟨k, cc, rfl, hk, rfl, rfl, HH, HM, HB⟩ := hrel
    have hl := (C_len HR.out).2
    by_cases hlt : k < xs.length
    · obtain ⟨ad, u, rfl, hu0, hU⟩ := at_IV HR.out k hlt
      have hu := cell_below hu0 HB.out
      clear hu0
      obtain ⟨x, hx⟩ : ∃ x, x = xs.getD k (.one .nil) := ⟨_, rfl⟩
      rw [← hx] at hU
      have hfs := flatN_step xs k hlt
      have has := anyN_step xs k hlt
      have hfl := flatN_le xs (k + 1) xs.length (by omega)
      rw [← hx] at hfs has
      have HX := Aside0.mk hx
      have hF := HF.out
      clear hx
      rcases x with p | l
      · have hfs1 : flatN xs (k + 1) = flatN xs k + 1 := hfs
        have hfk : flatN xs k + 1 ≤ 100000 := by omega
        have HFS := Lib.hid hfs1
        have HAS := Lib.hid has
        clear hfs hfs1 has hfl hF
        have hz1 := (HM.out.2.2 k (Nat.le_refl _) (by omega)).2.1
        have hf1 : wr.frozen? ⟨w.heap.size, k * 3 + 1, none⟩ = false := Lib.frozen_of_heap HH.out _
        have hc1 : wr.cell? ⟨w.heap.size, k * 3 + 1, none⟩ = some .nilIface := by rw [Lib.cell_of_heap HH.out]; exact hz1
        have HZ := Lib.hid hz1
        clear hz1
        have HC := Aside0.mk (asSlice_one p)
        rw [show u = p.enc from hU] at hu
        clear hU
        have HS : ∃ wx c', wx = wr.setCell ⟨w.heap.size, k * 3 + 1, none⟩ p.enc ∧ c' = cc.setIfInBounds (k * 3 + 1) p.enc ∧ wx.heap[w.heap.size]? = some (.cells c' 88 (0, 0)) ∧ MetaIs w c' xs (k + 1) ∧ Below w.heap.size w wx := ⟨_, _, rfl, rfl, set_block HH.out _, MetaIs_one HM.out (by omega) HX.out, below_setOwn HB.out (Nat.le_refl _) _⟩
        have HS1 := Aside0.mk HS
        clear HS
        rcases p with _ | n | s | b
        · replace hu : wr.cell? (ad.add k) = some .nilIface := hu
          go_wp2_with (go_at_call 46; refine (HC.out _).mono ?_; rintro e w1 ⟨rfl, rfl⟩)
          go_roundw
          case rel =>
            obtain ⟨_, _, rfl, rfl, h1, h2, h3⟩ := HS1.out
            exact ⟨k + 1, _, by go_num, by omega, by rw [HFS.out]; rfl, by rw [HAS.out]; simp [IV.isMany], ⟨h1⟩, ⟨h2⟩, ⟨h3⟩⟩
          case measure => simp [intOf]; omega
        · replace hu : wr.cell? (ad.add k) = some (.iface 2 (.int .i64 n)) := hu
          go_wp2_with (go_at_call 46; refine (HC.out _).mono ?_; rintro e w1 ⟨rfl, rfl⟩)
          go_roundw
          case rel =>
            obtain ⟨_, _, rfl, rfl, h1, h2, h3⟩ := HS1.out
            exact ⟨k + 1, _, by go_num, by omega, by rw [HFS.out]; rfl, by rw [HAS.out]; simp [IV.isMany], ⟨h1⟩, ⟨h2⟩, ⟨h3⟩⟩
          case measure => simp [intOf]; omega
        · replace hu : wr.cell? (ad.add k) = some (.iface 9 (.string s)) := hu
          go_wp2_with (go_at_call 46; refine (HC.out _).mono ?_; rintro e w1 ⟨rfl, rfl⟩)
          go_roundw
          case rel =>
            obtain ⟨_, _, rfl, rfl, h1, h2, h3⟩ := HS1.out
            exact ⟨k + 1, _, by go_num, by omega, by rw [HFS.out]; rfl, by rw [HAS.out]; simp [IV.isMany], ⟨h1⟩, ⟨h2⟩, ⟨h3⟩⟩
          case measure => simp [intOf]; omega
        · replace hu : wr.cell? (ad.add k) = some (.iface 4 (.bool b)) := hu
          go_wp2_with (go_at_call 46; refine (HC.out _).mono ?_; rintro e w1 ⟨rfl, rfl⟩)
          go_roundw
          case rel =>
            obtain ⟨_, _, rfl, rfl, h1, h2, h3⟩ := HS1.out
            exact ⟨k + 1, _, by go_num, by omega, by rw [HFS.out]; rfl, by rw [HAS.out]; simp [IV.isMany], ⟨h1⟩, ⟨h2⟩, ⟨h3⟩⟩
          case measure => simp [intOf]; omega
      · obtain ⟨B, cb, rfl, hlb, hCB⟩ := hU
        have hpos := HE.out k l HX.out.symm
        have hfs1 : flatN xs (k + 1) = flatN xs k + l.length := hfs
        have hfk : flatN xs k + l.length ≤ 100000 := by omega
        have HFS := Lib.hid hfs1
        have HAS := Lib.hid has
        clear hfs hfs1 has hfl hF
        have hz := (HM.out.2.2 k (Nat.le_refl _) (by omega))
        have hf1 : wr.frozen? ⟨w.heap.size, k * 3 + 2, none⟩ = false := Lib.frozen_of_heap HH.out _
        have hc1 : wr.cell? ⟨w.heap.size, k * 3 + 2, none⟩ = some (.int .i64 0) := by rw [Lib.cell_of_heap HH.out]; exact hz.2.2
        have hb1 := set_block (o := k * 3 + 2) HH.out (.int .i64 l.length)
        have hf2 : (wr.setCell ⟨w.heap.size, k * 3 + 2, none⟩ (.int .i64 l.length)).frozen? ⟨w.heap.size, k * 3, none⟩ = false := Lib.frozen_of_heap hb1 _
        have hc2 : (wr.setCell ⟨w.heap.size, k * 3 + 2, none⟩ (.int .i64 l.length)).cell? ⟨w.heap.size, k * 3, none⟩ = some (.slice none 0 0) := by rw [Lib.cell_of_heap hb1, set_get_ne (by omega)]; exact hz.1
        have hb2 := set_block (o := k * 3) hb1 (.slice B l.length cb)
        have hc3 : ((wr.setCell ⟨w.heap.size, k * 3 + 2, none⟩ (.int .i64 l.length)).setCell ⟨w.heap.size, k * 3, none⟩ (.slice B l.length cb)).cell? ⟨w.heap.size, k * 3 + 2, none⟩ = some (.int .i64 l.length) := by
          rw [Lib.cell_of_heap hb2, set_get_ne (by omega)]
          exact set_get_eq (by rw [HM.out.1]; omega)
        have HB2 := Aside0.mk hb2
        have HZ := Lib.hid hz
        have HCB := Aside0.mk hCB
        clear hz hb1 hb2 hCB
        go_wp2_with (go_at_call 46; refine (asSlice_many _ _).mono ?_; rintro e w1 ⟨rfl, rfl⟩)
        go_roundw
        case rel => exact ⟨k + 1, _, by go_num, by omega, by rw [HFS.out]; simp, by rw [HAS.out]; simp [IV.isMany], HB2, ⟨MetaIs_many HM.out (by omega) HX.out hlb HCB.out⟩, ⟨below_setOwn (below_setOwn HB.out (Nat.le_refl _) _) (Nat.le_refl _) _⟩⟩
        case measure => simp [intOf]; omega
    · have hk' : k = xs.length := by omega
      subst hk'
      have hF := HF.out
      have hmk := run_makeCap (P := Tryd.prog) 71 20 .nilIface 1 16 Tryd.underlying71 infoI (flatN xs xs.length) (by omega) (by omega)
      have hsz := HB.out.size
      have hgb : wr.heap.size + 1 = (wr.alloc (.cells (madeCells #[Value.nilIface] (flatN xs xs.length)) 20)).heap.size := by simp
      have HG := Lib.hid hgb.symm
      have HZ := Lib.hid hsz
      clear hgb hsz
      go_wp2_with (first | (go_at_call 48; refine (Grow_new _ _ HG.out _ (by omega) (by omega)).mono ?_; rintro e w2 ⟨rfl, hb2, hbl2⟩; have HB2 := Aside0.mk hb2; have HL2 := Aside0.mk hbl2; clear hb2 hbl2) | (go_at_call 49; refine (zzIndex_one _ 63 _ ?zz).mono ?_; rotate_left; rintro e w3 ⟨⟨r, rfl, hr⟩, rfl⟩; have HRR := Aside0.mk hr; clear hr))
      case zz => omega
      have hF1 : w3.heap[w.heap.size]? = some (.cells cc 88 (0, 0)) := by
        have h1 := (Array.getElem?_eq_some_iff.1 HH.out).1
        exact (HL2.out.block _ (by omega)).trans (blk_alloc HH.out _)
      have hF2 : kPI.R 20 w3 w.heap.size (fun _ => True) (.slice (some ⟨wr.heap.size, 0, none⟩) 0 (flatN xs xs.length)) [] := by
        refine Kd.R_below (w := wr.alloc (.cells (madeCells #[Value.nilIface] (flatN xs xs.length)) 20)) (Kd.R_lower (R_cap kPI 20 wr _ (flatN xs xs.length) (by omega) (by rw [size_madeCells]; exact (Nat.mul_one _).symm)) HZ.out) ?_
        rw [HG.out]
        exact HL2.out
      have hF4 : Below w.heap.size w w3 := below_step (below_step HB.out (below_alloc (Below.refl _ _) _)) (by rw [HG.out]; exact HL2.out)
      have hF5 : wr.heap.size + 1 ≤ w3.heap.size := by have := HL2.out.size; rw [HG.out] at this; exact this
      have hF6 : w.heap.size < wr.heap.size := (Array.getElem?_eq_some_iff.1 HH.out).1
      obtain ⟨bb, hbb⟩ : ∃ bb, bb = wr.heap.size + 1 := ⟨_, rfl⟩
      rw [← hbb] at hF5
      have hF3 := HB2.out
      rw [← hbb] at hF3 ⊢
      have hF7 : w.heap.size < bb := by omega
      have G1 := Aside0.mk hF1
      have G2 := Aside0.mk hF2
      have G3 := Aside0.mk hF3
      have G4 := Aside0.mk hF4
      clear hF1 hF2 hF3 hF4 hF6 hbb HG HZ HB HH HB2 HL2 hmk hF
      go_loopw [0, 15, 17, 18, 19] (fun sq sv sa so si wr => ∃ (Q : ByteArray) (j o : Nat) (r : Int) (l : List UInt8), sq = .string Q ∧ sa = .int .i64 j ∧ so = .int .i64 o ∧ si = .int .i64 r ∧ j ≤ xs.length ∧ o ≤ Q.size ∧ Q.size ≤ 100000 ∧ bb ≤ wr.heap.size ∧ Aside0 (IdxIs 63 (Q.data.toList.drop o) r) ∧ Aside0 (TextIs q.data.toList xs l Q.data.toList o j) ∧ Aside0 (wr.heap[w.heap.size]? = some (.cells cc 88 (0, 0))) ∧
          Aside0 (kPI.R 20 wr w.heap.size (fun _ => True) sv ((xs.take j).flatMap IV.flat)) ∧ Aside0 (Bld bb l wr) ∧ Aside0 (Below w.heap.size w wr)) (fun _ _ sa _ _ _ => xs.length - (intOf sa).toNat)
      case atStart => exact ⟨q, 0, 0, r, [], rfl, rfl, rfl, rfl, Nat.zero_le _, Nat.zero_le _, hq, hF5, ⟨by simpa using HRR.out⟩, ⟨TextIs.start _ _ HT.out⟩, G1, ⟨by simpa using G2.out⟩, G3, G4⟩
      case round =>
        obtain ⟨Q, j, o, r', l, rfl, rfl, rfl, rfl, hj, ho, hQ, hbs, HI, HTX, K1, K2, K3, K4⟩ := hrel
        have hQl := Lib.hid (Lib.size_eq Q)
        by_cases hr1 : r' = -1
        · subst hr1
          have hno : (63 : UInt8) ∉ Q.data.toList.drop o := by
            rcases HI.out with ⟨_, h⟩ | ⟨h, _⟩
            · exact h
            · omega
          obtain ⟨hjx, hlx⟩ := HTX.out.done hno
          subst hjx
          have hol : l.length + Q.size ≤ 10000000 := by
            have := HO.out
            rw [← hlx, List.length_append, ← hQl.out] at this
            exact this
          have HLX := Lib.hid hlx
          clear hno hlx
          go_wp2_with (first | (go_at_call 50; refine (WriteString_at bb l Q _ K3.out (by omega) hbs).mono ?_; rintro e w4 ⟨rfl, h1, h2, h3⟩; have L1 := Aside0.mk h1; have L2 := Aside0.mk h2; have L3 := Aside0.mk h3; clear h1 h2 h3) | (go_at_call 52; refine (String_at bb _ _ L1.out (Nat.le_of_lt (Bld.lt L1.out))).mono ?_; rintro e w5 ⟨rfl, h2, h3⟩; have M2 := Aside0.mk h2; have M3 := Aside0.mk h3; clear h2 h3))
          refine bodyPost_ret (v := .tuple #[.string ⟨(l ++ Q.data.toList).toArray⟩, u15, .nilIface]) (by simp [results, Tryd.results36, go_sem]) rfl ⟨u15, by rw [HLX.out], ?_, (K4.out.trans (L2.out.mono (by omega))).trans (M2.out.mono (by omega))⟩
          have := R_builder (R_builder K2.out K3.out L3.out (by decide)) L1.out M3.out (by decide)
          rwa [List.take_length] at this
        · obtain ⟨m, hm1, hm2, hm3, hm4⟩ := idx_split HI.out hr1
          subst hm1
          have hmore := HTX.out.more hm2 hm3 hm4
          have hjn := hmore.1
          have hom : o + m + 1 ≤ Q.size := by rw [hQl.out]; exact hmore.2.1
          obtain ⟨x, hx⟩ : ∃ x, x = xs.getD j (.one .nil) := ⟨_, rfl⟩
          have hMx := HM.out.2.1 j hjn
          rw [← hx] at hMx
          have hm2' := Lib.hid hm2
          have hm3' := Lib.hid hm3
          have hm4' := Lib.hid hm4
          have HX := Aside0.mk hx
          clear hmore hx hm2 hm3 hm4
          rcases x with p | y
          · obtain ⟨c0, c1, c2⟩ := hMx
            have e0 : wr.cell? ⟨w.heap.size, j * 3, none⟩ = some (.slice none 0 0) := by rw [Lib.cell_of_heap K1.out]; exact c0
            have e1 : wr.cell? ⟨w.heap.size, j * 3 + 1, none⟩ = some p.enc := by rw [Lib.cell_of_heap K1.out]; exact c1
            have e2 : wr.cell? ⟨w.heap.size, j * 3 + 2, none⟩ = some (.int .i64 0) := by rw [Lib.cell_of_heap K1.out]; exact c2
            clear c0 c1 c2
            have hst := @run_store_enc Tryd.prog
            have hu46 := Tryd.underlying71
            have hfl := flatN_step xs j hjn
            rw [← HX.out] at hfl
            have hfl1 : flatN xs (j + 1) = flatN xs j + 1 := hfl
            have hfl2 := flatN_le xs (j + 1) xs.length hjn
            have hfl3 := HF.out
            have hcj : ((xs.take j).flatMap IV.flat).length + 1 ≤ 100000 := by
              have : ((xs.take j).flatMap IV.flat).length = flatN xs j := rfl
              omega
            have HCJ := Lib.hid hcj
            clear hfl hfl1 hfl2 hfl3 hcj
            go_wp2_with (first | (with_reducible refine wpList_buildOne rfl (.tmp 119) 71 20 .nilIface 16 rfl hu46 infoI rfl p.enc rfl p.enc_cells ?_) | (at_builtin; refine Kd.R_append kPI (w0 := w) w.heap.size rfl (.tmp 117) (.tmp 120) 71 20 .nilIface 16 rfl hu46 infoI rfl (by decide) (by omega) _ ((xs.take j).flatMap IV.flat) p [p.enc] (fun _ => True) (fun _ => False) rfl (by simp [Act.eval, Act.put]) rfl (fun _ hk => hk.elim) (fun _ _ => trivial) (Kd.R_below K2.out (below_alloc (Below.refl _ _) _)) (below_alloc K4.out _) (Nat.le_trans K4.out.size (by simp)) (by have := HCJ.out; omega) ?_; intro v1 w4 h1 h2 h3 _; have L1 := Aside0.mk h1; have L2 := Aside0.mk h2; have L3 := Aside0.mk h3; clear h1 h2 h3) | (go_at_call 49; refine (zzIndex_one _ 63 _ ?zz).mono ?_; rotate_left; rintro e w5 ⟨⟨r2, rfl, hr⟩, rfl⟩; have HR2 := Aside0.mk hr; clear hr))
            case zz => omega
            have hR4 := Kd.R_below K2.out (below_alloc (Below.refl _ _) (.cells #[Value.slice none 0 0, p.enc, .int .i64 0] 87))
            refine ⟨⟨Q, j + 1, o + m + 1, r2, l, rfl, by go_num, by go_num, rfl, by omega, hom, hQ, Nat.le_trans hbs (Nat.le_trans (by simp) L3.out.size), ⟨?_⟩, ⟨HTX.out.one hm2'.out hm3'.out hm4'.out HX.out⟩, ⟨blk_past_type (blk_alloc K1.out _) hR4 L3.out (by decide)⟩, ⟨?_⟩, ⟨Bld.past (Bld.below K3.out (below_alloc (Below.refl _ _) _)) hR4 L3.out (by decide)⟩, L2⟩, by simp [intOf]; omega⟩
            · have := HR2.out
              rwa [drop_extract] at this
            · rw [take_mono hjn, List.flatMap_append, ← HX.out]
              simpa [IV.flat] using L1.out
          · obtain ⟨A2, cp, c0, c1, c2, hcp, hC2⟩ := hMx
            have hpos := HE.out j y HX.out.symm
            have e0 : wr.cell? ⟨w.heap.size, j * 3, none⟩ = some (.slice A2 y.length cp) := by rw [Lib.cell_of_heap K1.out]; exact c0
            have e1 : wr.cell? ⟨w.heap.size, j * 3 + 1, none⟩ = some .nilIface := by rw [Lib.cell_of_heap K1.out]; exact c1
            have e2 : wr.cell? ⟨w.heap.size, j * 3 + 2, none⟩ = some (.int .i64 y.length) := by rw [Lib.cell_of_heap K1.out]; exact c2
            have hlt2 : bb < wr.heap.size := Bld.lt K3.out
            have HTN := Aside0.mk (HTX.out.many hm2'.out hm3'.out hm4'.out HX.out)
            have hlen : l.length + (o + m + 1) + 3 * (y.length - 1) ≤ 10000000 := by
              have h1 := HTN.out.len
              have h2 := HO.out
              have h3 : (List.take (o + m + 1) Q.data.toList).length = o + m + 1 := by rw [List.length_take, ← hQl.out]; omega
              have h4 : ((List.replicate (y.length - 1) [(44 : UInt8), 32, 63]).flatten).length = 3 * (y.length - 1) := by simp; omega
              simp only [List.length_append, h3, h4] at h1
              omega
            have HLEN := Lib.hid hlen
            have HC2 := Aside0.mk hC2
            have hfl := flatN_step xs j hjn
            rw [← HX.out] at hfl
            have hfl1 : flatN xs (j + 1) = flatN xs j + y.length := hfl
            have hfl2 := flatN_le xs (j + 1) xs.length hjn
            have hfl3 := HF.out
            have hcj : ((xs.take j).flatMap IV.flat).length + y.length ≤ 100000 := by
              have : ((xs.take j).flatMap IV.flat).length = flatN xs j := rfl
              omega
            have HCJ := Lib.hid hcj
            have hyl : y.length ≤ 100000 := by omega
            clear c0 c1 c2 hC2 hlen hfl hfl1 hfl2 hfl3 hcj
            go_wp2_with (first | (go_at_call 50; refine (WriteString_at bb l _ _ (Bld.below K3.out (below_alloc (Below.refl _ _) _)) (by have := HLEN.out; have := size_take_extract Q (o + m + 1) hom; omega) (by simp; omega)).mono ?_; rintro e w4 ⟨rfl, h1, h2, h3⟩; have L1 := Aside0.mk h1; have L2 := Aside0.mk h2; have L3 := Aside0.mk h3; clear h1 h2 h3))
            obtain ⟨g, hg⟩ : ∃ g, g = wr.heap.size := ⟨_, rfl⟩
            have hbg : bb ≠ wr.heap.size := by omega
            have hR0 : kPI.R 20 (wr.alloc (.cells #[Value.slice A2 y.length cp, .nilIface, .int .i64 y.length] 87)) w.heap.size (fun _ => True) u15 ((xs.take j).flatMap IV.flat) := Kd.R_below K2.out (below_alloc (Below.refl _ _) _)
            have hB0 : Bld bb l (wr.alloc (.cells #[Value.slice A2 y.length cp, .nilIface, .int .i64 y.length] 87)) := Bld.below K3.out (below_alloc (Below.refl _ _) _)
            have hN1 : w4.heap[g]? = some (.cells #[Value.slice A2 y.length cp, .nilIface, .int .i64 y.length] 87 (0, 0)) := blk_builder (blk_new' _ _ _ hg.symm) L3.out (by decide) (by omega)
            have hN2 : w4.heap[w.heap.size]? = some (.cells cc 88 (0, 0)) := blk_builder (blk_alloc K1.out _) L3.out (by decide) (by omega)
            have hN3 := R_builder hR0 hB0 L3.out (by decide)
            have hN4 : Below w.heap.size w w4 := (below_alloc K4.out _).trans (L2.out.mono (by omega))
            have hN5 : bb ≤ w4.heap.size := Nat.le_of_lt (Bld.lt L1.out)
            rw [← hg]
            have hgl : w.heap.size < g := by have := K4.out.size; omega
            have hgb : g ≠ bb := by omega
            have N1 := Aside0.mk hN1
            have N2 := Aside0.mk hN2
            have N3 := Aside0.mk hN3
            have N4 := Aside0.mk hN4
            clear hN1 hN2 hN3 hN4 hR0 hB0 hg hbg K1 K2 K3 K4 L2 L3 e0 e1 e2 hlt2 hbs
            go_loopw [21] (fun i wr => ∃ (t : Nat), i = .int .i64 t ∧ 1 ≤ t ∧ t ≤ y.length ∧ bb ≤ wr.heap.size ∧ Aside0 (wr.heap[g]? = some (.cells #[Value.slice A2 y.length cp, .nilIface, .int .i64 y.length] 87 (0, 0))) ∧ Aside0 (wr.heap[w.heap.size]? = some (.cells cc 88 (0, 0))) ∧
                Aside0 (kPI.R 20 wr w.heap.size (fun _ => True) u15 ((xs.take j).flatMap IV.flat)) ∧ Aside0 (Bld bb (l ++ Q.data.toList.take (o + m + 1) ++ (List.replicate (t - 1) [44, 32, 63]).flatten) wr) ∧ Aside0 (Below w.heap.size w wr)) (fun i _ => y.length - (intOf i).toNat)
            case atStart => exact ⟨1, rfl, Nat.le_refl _, hpos, hN5, N1, N2, N3, ⟨by simpa [take_extract] using L1.out⟩, N4⟩
            case round =>
              obtain ⟨t, rfl, ht1, ht2, hbs, K1, K2, K3, K4, K5⟩ := hrel
              have e2 : wr.cell? ⟨g, 2, none⟩ = some (.int .i64 y.length) := by rw [Lib.cell_of_heap K1.out]; rfl
              have e0 : wr.cell? ⟨g, 0, none⟩ = some (.slice A2 y.length cp) := by rw [Lib.cell_of_heap K1.out]; rfl
              by_cases htl : t < y.length
              · go_wp2_with (first | (go_at_call 50; refine (WriteString_at bb _ _ _ K4.out (by have := HLEN.out; have h3 : (List.take (o + m + 1) Q.data.toList).length = o + m + 1 := (by rw [List.length_take, ← hQl.out]; omega); have h4 : ((List.replicate (t - 1) [(44 : UInt8), 32, 63]).flatten).length = 3 * (t - 1) := (by simp; omega); have h5 : (⟨#[44, 32, 63]⟩ : ByteArray).size = 3 := rfl; simp only [List.length_append, h3, h4, h5]; omega) hbs).mono ?_; rintro e w5 ⟨rfl, h1, h2, h3⟩; have L1 := Aside0.mk h1; have L2 := Aside0.mk h2; have L3 := Aside0.mk h3; clear h1 h2 h3))
                go_roundw
                case rel =>
                  refine ⟨t + 1, by go_num, by omega, by omega, Nat.le_of_lt (Bld.lt L1.out), ⟨blk_builder K1.out L3.out (by decide) hgb⟩, ⟨blk_builder K2.out L3.out (by decide) (by omega)⟩, ⟨R_builder K3.out K4.out L3.out (by decide)⟩, ⟨?_⟩, ⟨K5.out.trans (L2.out.mono (by omega))⟩⟩
                  have e : t + 1 - 1 = (t - 1) + 1 := by omega
                  rw [e, List.replicate_succ', List.flatten_append]
                  simpa using L1.out
                case measure => simp [intOf]; omega
              · have ht : t = y.length := by omega
                subst ht
                go_wp2_with (first | (go_at_call 51; refine (appendReflect ((xs.take j).flatMap IV.flat) y _ A2 cp _ w.heap.size _ K3.out (Kd.C_below HC2.out K5.out) K5.out.size (by have := HCJ.out; omega)).mono ?_; rintro e w6 ⟨v6, rfl, h1, h2, h3⟩; have L1 := Aside0.mk h1; have L2 := Aside0.mk h2; have L3 := Aside0.mk h3; clear h1 h2 h3) | (go_at_call 49; refine (zzIndex_one _ 63 _ ?zz).mono ?_; rotate_left; rintro e w5 ⟨⟨r2, rfl, hr⟩, rfl⟩; have HR2 := Aside0.mk hr; clear hr))
                case zz =>
                  have h1 : ((Q.extract (o + m + 1) Q.size).extract 0 (Q.size - (o + m + 1))).size ≤ Q.size := by
                    rw [Lib.size_eq, take_extract, List.length_take]
                    omega
                  omega
                have hql : (Q.extract (o + m + 1) Q.size).size = Q.size - (o + m + 1) := by rw [Lib.size_eq, drop_extract, List.length_drop, ← Lib.size_eq]
                refine ⟨⟨Q.extract (o + m + 1) Q.size, j + 1, 0, r2, _, rfl, by go_num, rfl, rfl, by omega, Nat.zero_le _, by omega, Nat.le_trans hbs L3.out.size, ⟨?_⟩, ⟨?_⟩, ⟨blk_past_type K2.out K3.out L3.out (by decide)⟩, ⟨?_⟩, ⟨Bld.past K4.out K3.out L3.out (by decide)⟩, ⟨K5.out.trans L2.out⟩⟩, by simp [intOf]; omega⟩
                · have h1 := HR2.out
                  rw [take_extract, drop_extract, List.take_of_length_le (by rw [List.length_drop, ← Lib.size_eq]; exact Nat.le_refl _)] at h1
                  rw [List.drop_zero, drop_extract]
                  exact h1
                · rw [drop_extract]
                  exact HTN.out
                · rw [take_mono hjn, List.flatMap_append, ← HX.out]
                  simpa [IV.flat] using L1.out
end Go.Proofs.YtnpjnekoifheoaaDoor
