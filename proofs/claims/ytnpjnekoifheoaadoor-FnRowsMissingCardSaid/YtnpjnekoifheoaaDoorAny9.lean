/- sqlx.bindMapArgs where a name is missing, sqlx.bindAnyArgs there; a text's bytes. (Parts of XBindR, XAnyArgs, XCompd, without what stands below them: a claim's files are counted.) -/
import Derived.Test.YtnpjnekoifheoaaDoorBind
import Derived.Test.YtnpjnekoifheoaaDoorComp1
import Derived.Lib.ConvBytes
import Derived.Lib.AtoiErrMem
namespace Go.Proofs.YtnpjnekoifheoaaDoor
open Go Go.RowKit Go.MapKept Go.Proofs.YtnpjnekoifheoaaDoorW.PrintWords
set_option linter.unusedVariables false
set_option maxRecDepth 100000

/-- One cell of interface{}, as it lies there. -/
abbrev UV : Type := { u : Value // u.oneCell' = true ∧ u.cells = #[u] }
def zU : UV := ⟨.nilIface, rfl, rfl⟩
def kU : Kd UV := Kd.scalar (fun u => u.1) (fun u => u.2.1)
set_option maxHeartbeats 800000 in
theorem bindMapArgs_bad (asked : List ByteArray) (es : List (ByteArray × Value)) (b : Nat) (A : Option Addr) (c : Nat) (w : World) (hr : Kd.string.C w A asked.length asked) (hm : MapIs w b es)
    (ha : ∀ i, i < asked.length → look es (asked.getD i ⟨#[]⟩) = none ∨ ∃ u : UV, look es (asked.getD i ⟨#[]⟩) = some u.1) (hbad : ∃ i, i < asked.length ∧ look es (asked.getD i ⟨#[]⟩) = none) (hlen : asked.length * 16 ≤ 140737488355328) :
    Calls Tryd.prog 67 #[.slice A asked.length c, .map (some b)] w fun e w' => (∃ v p, e = .returned (.tuple #[v, .iface 103 p])) ∧ Below w.heap.size w w' := by
  have hu := Tryd.underlying71
  have HR := Aside0.mk hr
  have HM := Aside0.mk hm
  have HA := Aside0.mk ha
  have HBAD := Aside0.mk hbad
  clear hr hm ha hbad
  go_enter Tryd.func67, Tryd.ntmps67
  have hmk := run_makeCap (P := Tryd.prog) 71 20 .nilIface 1 16 Tryd.underlying71 infoI asked.length (by omega) (by omega)
  simp only [Value.cells, Nat.mul_one] at hmk
  go_wp2
  go_loopw [6, 16] (fun out i wr => ∃ (k : Nat) (us : List UV), i = .int .i64 k ∧ k ≤ asked.length ∧ Aside0 (kU.R 20 wr w.heap.size (fun _ => True) out us) ∧ Aside0 (us.length = k) ∧ Aside0 (∀ i, i < k → ¬ look es (asked.getD i ⟨#[]⟩) = none) ∧ Aside0 (Below w.heap.size w wr)) (fun _ i _ => asked.length - (intOf i).toNat)
  case atStart => exact ⟨0, [], rfl, Nat.zero_le _, ⟨R_cap kU _ w _ _ (C_len HR.out).2 (by simp [kU, Kd.scalar, size_madeCells])⟩, ⟨rfl⟩, ⟨fun i hi => by omega⟩, ⟨(Below.refl _ _).alloc (Nat.le_refl _) _⟩⟩
  case round =>
    clear hmk
    obtain ⟨k, us, rfl, hk, HO, HUL, HNB, HB⟩ := hrel
    have hl := (C_len HR.out).2
    by_cases hlt : k < asked.length
    · obtain ⟨ad, rfl, h0⟩ := at_S (Kd.C_below HR.out HB.out) (⟨#[]⟩ : ByteArray) k hlt
      have ha0 := HA.out k hlt
      obtain ⟨s, hs⟩ : ∃ s, s = asked.getD k ⟨#[]⟩ := ⟨_, rfl⟩
      rw [← hs] at h0 ha0
      have HS := Aside0.mk hs
      have HM1 := Aside0.mk (HM.out.below HB.out)
      clear hs
      rcases ha0 with ha0 | ⟨⟨u, hu1, hu2⟩, ha0⟩
      · have HA0 := Aside0.mk ha0
        clear ha0
        go_wp2_with (first | (at_lookup; refine wpList_lookup_is rfl (.tmp 21) (.tmp 22) 77 9 20 rfl Tryd.underlying77 Tryd.underlying9 zeroI b _ s rfl rfl HM1.out ?_; rw [HA0.out, Option.getD_none, Option.isSome_none]) | (go_at_call 47; refine (errorsNew _ _).mono ?_; rintro e w2 ⟨rfl, h2⟩; have H2 := Aside0.mk (below_step HB.out h2); clear h2))
        go_ret2
        exact ⟨⟨_, _, rfl⟩, H2.out⟩
      · have HA0 := Aside0.mk ha0
        clear ha0
        simp only at HA0
        go_wp2_with (first | (at_lookup; refine wpList_lookup_is rfl (.tmp 21) (.tmp 22) 77 9 20 rfl Tryd.underlying77 Tryd.underlying9 zeroI b _ s rfl rfl HM1.out ?_; rw [HA0.out, Option.getD_some, Option.isSome_some]) | (with_reducible refine wpList_buildOne rfl (.tmp 31) 71 20 .nilIface 16 rfl hu infoI rfl u rfl hu2 ?_) | (at_builtin; refine Kd.R_append kU (w0 := w) w.heap.size rfl (.tmp 30) (.tmp 32) 71 20 .nilIface 16 rfl hu infoI rfl (by decide) (by omega) _ us ⟨u, hu1, hu2⟩ [u] (fun _ => True) (fun _ => False) rfl rfl ?aP (fun _ hk => hk.elim) (fun _ _ => trivial) HO.out HB.out HB.out.size ?aL ?_))
        case aP => exact rfl
        case aL => rw [HUL.out]; omega
        intro v1 w2 hR hB2 _ _
        have HO2 := Aside0.mk hR
        have HB2 := Aside0.mk hB2
        have HNB2 := Aside0.mk (show ∀ i, i < k + 1 → ¬ look es (asked.getD i ⟨#[]⟩) = none from fun i hi => by
          by_cases e : i = k
          · subst e
            rw [← HS.out, HA0.out]
            exact fun e => by cases e
          · exact HNB.out i (by omega))
        clear hR hB2 HO HB h0 HM1
        go_wp2
        go_roundw
        case rel => exact ⟨k + 1, _, by go_num, by omega, HO2, ⟨by rw [List.length_append, HUL.out]; rfl⟩, HNB2, HB2⟩
        case measure => simp [intOf]; omega
    · obtain ⟨i, hi, hn⟩ := HBAD.out
      exact absurd hn (HNB.out i (by omega))
theorem taMapMap (v : Value) (W : World) : (Instr.typeAssert (.iface 77 v) 20 77 true).run Tryd.prog W = .ok (.tuple #[v, .bool true]) W := by rfl
theorem bindAnyArgs_bad (asked : List ByteArray) (es : List (ByteArray × Value)) (b : Nat) (A : Option Addr) (c : Nat) (w : World) (hr : Kd.string.C w A asked.length asked) (hm : MapIs w b es)
    (ha : ∀ i, i < asked.length → look es (asked.getD i ⟨#[]⟩) = none ∨ ∃ u : UV, look es (asked.getD i ⟨#[]⟩) = some u.1) (hbad : ∃ i, i < asked.length ∧ look es (asked.getD i ⟨#[]⟩) = none) (hlen : asked.length * 16 ≤ 140737488355328) :
    Calls Tryd.prog 68 #[.slice A asked.length c, .iface 77 (.map (some b))] w fun e w' => (∃ v p, e = .returned (.tuple #[v, .iface 103 p])) ∧ Below w.heap.size w w' := by
  have HC := Aside0.mk (bindMapArgs_bad asked es b A c w hr hm ha hbad hlen)
  have hta := taMapMap
  clear hr hm ha hbad
  go_enter Tryd.func68, Tryd.ntmps68
  go_wp2_with (go_at_call 67; refine HC.out.mono ?_; rintro e w2 ⟨⟨v2, p2, rfl⟩, h2⟩; have H2 := Aside0.mk h2; clear h2)
  exact bodyPost_ret (v := .tuple #[v2, .iface 103 p2]) (by simp [results, Tryd.results68, go_sem]) rfl ⟨⟨v2, p2, rfl⟩, H2.out⟩
theorem bytes_read (w : World) (q : ByteArray) (hq : q.size ≤ 100000) : kB.C (Lib.bytesWorld w 5 q) (some ⟨w.heap.size, 0, none⟩) q.data.toList.length q.data.toList := by
  have hs := Lib.size_eq q
  refine ⟨rfl, by omega, fun _ => ⟨_, rfl, fun j p hj => ⟨[encB p], rfl, rfl, fun i u hu => ?_⟩⟩⟩
  have hi : i = 0 := by have := (List.getElem?_eq_some_iff.1 hu).1; simp at this; exact this
  subst hi
  have hu' : encB p = u := by simpa using hu
  have hjl := (List.getElem?_eq_some_iff.1 hj).1
  rw [Nat.add_zero, show j * kB.sz = j from Nat.mul_one j, add_plain, ← hu']
  have h1 := Lib.bytesWorld_cell w 5 q j (by omega)
  rw [List.getD_eq_getElem?_getD, hj] at h1
  simpa [encB] using h1
end Go.Proofs.YtnpjnekoifheoaaDoor
