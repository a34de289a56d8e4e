/- impl.NamedManyOf, impl.NamedMany at rows of plain arguments. -/
import Derived.Test.YtnpjnekoifheoaaDoorBindMany
import Derived.Test.YtnpjnekoifheoaaDoorRows9
namespace Go.Proofs.YtnpjnekoifheoaaDoor
open Go Go.RowKit Go.MapKept Go.Proofs.YtnpjnekoifheoaaDoorW.PrintWords
set_option linter.unusedVariables false
set_option maxRecDepth 100000

/-- The maps of the first rows. -/
def MapsAt (w : World) (bs : List Nat) (rss : List (List (ByteArray × PI))) (k : Nat) : Prop := ∀ i, i < k → MapIs w (bs.getD i 0) ((rss.getD i []).map entry)
theorem MapsAt.below {w w1 : World} {bs : List Nat} {rss : List (List (ByteArray × PI))} {k : Nat} (h : MapsAt w bs rss k) (hb : Below w.heap.size w w1) : MapsAt w1 bs rss k := fun i hi => (h i hi).below hb
theorem MapsAt.next {w w1 : World} {bs : List Nat} {rss : List (List (ByteArray × PI))} {k b : Nat} (h : MapsAt w bs rss k) (hl : bs.length = k) (hb : MapIs w b ((rss.getD k []).map entry)) {u : Value} {e' b' : Nat} {ok' : Nat → Prop} (hu : kM.R e' w b' ok' u bs) (hg : w.grownBy w1 u.ownBlock) : MapsAt w1 (bs ++ [b]) rss (k + 1) := by
  intro i hi
  by_cases e : i = k
  · subst e
    rw [getD_snoc_eq hl.symm]
    exact hb.past hu hg
  · rw [getD_snoc_lt (by omega)]
    exact (h i (by omega)).past hu hg
set_option maxHeartbeats 1600000 in
theorem NamedManyOf_ok (q out : ByteArray) (rss : List (List (ByteArray × PI))) (fl : List PI) (A : Option Addr) (c : Nat) (w : World) (hr : kAS.C w A rss.length rss) (hnd : ∀ i, i < rss.length → ((rss.getD i []).map (·.1)).Nodup) (hl : rss.length ≤ 100) (hfl : fl.length ≤ 100000)
    (HBN : ∀ (bs : List Nat) (W : World) (B : Option Addr) (b : Nat), bs.length = rss.length → kM.C W B bs.length bs → MapsAt W bs rss rss.length → Calls Tryd.prog 41 #[.int .i64 1, .string q, .iface 71 (.slice B bs.length b)] W fun e w' => (∃ s v x, e = .returned (.tuple #[.string s, v, x]) ∧ s = out ∧ x = .nilIface ∧ kPI.R 20 w' W.heap.size (fun _ => True) v fl) ∧ Below W.heap.size W w') :
    Calls Tryd.prog 42 #[.int .i64 1, .string q, .slice A rss.length c] w fun e w' => (∃ v, e = .returned (.tuple #[.string out, v, .bool true]) ∧ kPV.R 41 w' w.heap.size (fun _ => True) v fl) ∧ Below w.heap.size w w' := by
  have hu := Tryd.underlying71
  have HR := Aside0.mk hr
  have HND := Aside0.mk hnd
  have HBN := Aside0.mk HBN
  clear hr hnd
  go_enter Tryd.func42, Tryd.ntmps42
  go_wp2
  go_loopw [9, 18] (fun so si wr => ∃ (k : Nat) (bs : List Nat), si = .int .i64 k ∧ k ≤ rss.length ∧ Aside0 (bs.length = k) ∧ Aside0 (kM.R 20 wr w.heap.size (fun _ => True) so bs) ∧ Aside0 (MapsAt wr bs rss k) ∧ Aside0 (Below w.heap.size w wr)) (fun _ si _ => rss.length - (intOf si).toNat)
  case atStart => exact ⟨0, [], rfl, Nat.zero_le _, ⟨rfl⟩, ⟨Kd.R_nil _ _ _ _ _⟩, ⟨fun i hi => by omega⟩, ⟨Below.refl _ _⟩⟩
  case round =>
    obtain ⟨k, bs, rfl, hk, HL, HO, HM, HB⟩ := hrel
    by_cases hlt : k < rss.length
    · obtain ⟨ad, A3, c3, rfl, g0, hle, hC⟩ := at_SL (Kd.C_below HR.out HB.out) k hlt
      have hn := HND.out k hlt
      obtain ⟨r, hrr⟩ : ∃ r, r = rss.getD k [] := ⟨_, rfl⟩
      rw [← hrr] at g0 hle hC hn
      have HRR := Lib.hid hrr
      have HC := Aside0.mk hC
      have HN := Aside0.mk hn
      clear hrr hC hn
      go_wp2_with (first | (go_at_call 40; refine (mapOf_plain r HN.out A3 c3 _ HC.out).mono ?_; rintro e w1 ⟨rfl, hm, hb1⟩; have HM1 := Aside0.mk hm; have HB1 := Aside0.mk hb1; clear hm hb1) | (with_reducible refine wpList_buildOne rfl (.tmp 31) 71 20 .nilIface 16 rfl hu infoI rfl (.iface 77 (.map (some wr.heap.size))) rfl rfl ?_) | (at_builtin; refine Kd.R_append kM (w0 := w) w.heap.size rfl (.tmp 29) (.tmp 32) 71 20 .nilIface 16 rfl hu infoI rfl (by decide) (by omega) _ bs wr.heap.size [.iface 77 (.map (some wr.heap.size))] (fun _ => True) (fun _ => False) rfl rfl rfl (fun _ hk => hk.elim) (fun _ _ => trivial) ?aO ?aB ?aS ?aL ?_))
      case aO => exact Kd.R_below HO.out HB1.out
      case aB => exact below_step HB.out HB1.out
      case aS => exact (below_step HB.out HB1.out).size
      case aL => rw [HL.out]; omega
      intro v1 w2 hR hB2 hg _
      have HM2 := Aside0.mk ((HM.out.below HB1.out).next HL.out (by rw [← HRR.out]; exact HM1.out) (Kd.R_below HO.out HB1.out) hg)
      have HO2 := Aside0.mk hR
      have HB2 := Aside0.mk hB2
      clear hR hB2 hg HO HB HM HM1 HB1 g0
      go_wp2
      go_roundw
      case rel => exact ⟨k + 1, _, by go_num, by omega, ⟨by rw [List.length_append, HL.out]; rfl⟩, HO2, HM2, HB2⟩
      case measure => simp [intOf]; omega
    · have hke : k = rss.length := by omega
      subst hke
      obtain ⟨D, f, rfl, hle, hD⟩ := Kd.R_reads HO.out
      have hcall := HBN.out bs wr D f HL.out hD HM.out
      have HCALL := Aside0.mk hcall
      clear hcall hD hle
      go_wp2_with (first | (go_at_call 41; refine HCALL.out.mono ?_; rintro e w2 ⟨⟨s2, v2, x2, rfl, rfl, rfl, hv2⟩, h2⟩; obtain ⟨G, g, rfl, hle, hG⟩ := Kd.R_reads hv2; have HG := Aside0.mk hG; have HB2 := Aside0.mk (below_step HB.out h2); clear hv2 hG hle h2) | (go_at_call 37; refine (valuesOf_plain fl G g _ HG.out (by omega)).mono ?_; rintro e w3 ⟨v3, rfl, h1, h2⟩; have H5 := Aside0.mk h1; have H6 := Aside0.mk h2; clear h1 h2))
      exact bodyPost_ret (v := .tuple #[.string s2, v3, .bool true]) (by simp [results, Tryd.results42, go_sem]) rfl ⟨⟨v3, rfl, Kd.R_lower H5.out HB2.out.size⟩, below_step HB2.out H6.out⟩
set_option maxHeartbeats 1600000 in
theorem NamedManyOf_bad (q : ByteArray) (rss : List (List (ByteArray × PI))) (A : Option Addr) (c : Nat) (w : World) (hr : kAS.C w A rss.length rss) (hnd : ∀ i, i < rss.length → ((rss.getD i []).map (·.1)).Nodup) (hl : rss.length ≤ 100)
    (HBN : ∀ (bs : List Nat) (W : World) (B : Option Addr) (b : Nat), bs.length = rss.length → kM.C W B bs.length bs → MapsAt W bs rss rss.length → Calls Tryd.prog 41 #[.int .i64 1, .string q, .iface 71 (.slice B bs.length b)] W fun e w' => (∃ s v x, e = .returned (.tuple #[.string s, v, x]) ∧ ∃ p, x = .iface 103 p) ∧ Below W.heap.size W w') :
    Calls Tryd.prog 42 #[.int .i64 1, .string q, .slice A rss.length c] w fun e w' => e = .returned (.tuple #[.string ⟨#[]⟩, .slice none 0 0, .bool false]) ∧ Below w.heap.size w w' := by
  have hu := Tryd.underlying71
  have HR := Aside0.mk hr
  have HND := Aside0.mk hnd
  have HBN := Aside0.mk HBN
  clear hr hnd
  go_enter Tryd.func42, Tryd.ntmps42
  go_wp2
  go_loopw [9, 18] (fun so si wr => ∃ (k : Nat) (bs : List Nat), si = .int .i64 k ∧ k ≤ rss.length ∧ Aside0 (bs.length = k) ∧ Aside0 (kM.R 20 wr w.heap.size (fun _ => True) so bs) ∧ Aside0 (MapsAt wr bs rss k) ∧ Aside0 (Below w.heap.size w wr)) (fun _ si _ => rss.length - (intOf si).toNat)
  case atStart => exact ⟨0, [], rfl, Nat.zero_le _, ⟨rfl⟩, ⟨Kd.R_nil _ _ _ _ _⟩, ⟨fun i hi => by omega⟩, ⟨Below.refl _ _⟩⟩
  case round =>
    obtain ⟨k, bs, rfl, hk, HL, HO, HM, HB⟩ := hrel
    by_cases hlt : k < rss.length
    · obtain ⟨ad, A3, c3, rfl, g0, hle, hC⟩ := at_SL (Kd.C_below HR.out HB.out) k hlt
      have hn := HND.out k hlt
      obtain ⟨r, hrr⟩ : ∃ r, r = rss.getD k [] := ⟨_, rfl⟩
      rw [← hrr] at g0 hle hC hn
      have HRR := Lib.hid hrr
      have HC := Aside0.mk hC
      have HN := Aside0.mk hn
      clear hrr hC hn
      go_wp2_with (first | (go_at_call 40; refine (mapOf_plain r HN.out A3 c3 _ HC.out).mono ?_; rintro e w1 ⟨rfl, hm, hb1⟩; have HM1 := Aside0.mk hm; have HB1 := Aside0.mk hb1; clear hm hb1) | (with_reducible refine wpList_buildOne rfl (.tmp 31) 71 20 .nilIface 16 rfl hu infoI rfl (.iface 77 (.map (some wr.heap.size))) rfl rfl ?_) | (at_builtin; refine Kd.R_append kM (w0 := w) w.heap.size rfl (.tmp 29) (.tmp 32) 71 20 .nilIface 16 rfl hu infoI rfl (by decide) (by omega) _ bs wr.heap.size [.iface 77 (.map (some wr.heap.size))] (fun _ => True) (fun _ => False) rfl rfl rfl (fun _ hk => hk.elim) (fun _ _ => trivial) ?aO ?aB ?aS ?aL ?_))
      case aO => exact Kd.R_below HO.out HB1.out
      case aB => exact below_step HB.out HB1.out
      case aS => exact (below_step HB.out HB1.out).size
      case aL => rw [HL.out]; omega
      intro v1 w2 hR hB2 hg _
      have HM2 := Aside0.mk ((HM.out.below HB1.out).next HL.out (by rw [← HRR.out]; exact HM1.out) (Kd.R_below HO.out HB1.out) hg)
      have HO2 := Aside0.mk hR
      have HB2 := Aside0.mk hB2
      clear hR hB2 hg HO HB HM HM1 HB1 g0
      go_wp2
      go_roundw
      case rel => exact ⟨k + 1, _, by go_num, by omega, ⟨by rw [List.length_append, HL.out]; rfl⟩, HO2, HM2, HB2⟩
      case measure => simp [intOf]; omega
    · have hke : k = rss.length := by omega
      subst hke
      obtain ⟨D, f, rfl, hle, hD⟩ := Kd.R_reads HO.out
      have hcall := HBN.out bs wr D f HL.out hD HM.out
      have HCALL := Aside0.mk hcall
      clear hcall hD hle
      go_wp2_with (go_at_call 41; refine HCALL.out.mono ?_; rintro e w2 ⟨⟨s2, v2, x2, rfl, p2, rfl⟩, h2⟩; have HB2 := Aside0.mk (below_step HB.out h2); clear h2)
      exact bodyPost_ret (v := .tuple #[.string ⟨#[]⟩, .slice none 0 0, .bool false]) (by simp [results, Tryd.results42, go_sem]) rfl ⟨rfl, HB2.out⟩
/-- impl.NamedMany hands on. -/
theorem NamedMany_is (Φ : Ending → World → Prop) (q : ByteArray) (v : Value) (w : World) (hret : ∀ e w', Φ e w' → ∃ x y z, e = .returned (.tuple #[x, y, z]))
    (h : Calls Tryd.prog 42 #[.int .i64 1, .string q, v] w Φ) : Calls Tryd.prog 30 #[.string q, v] w Φ := by
  have HC := Aside0.mk h
  have HR := Aside0.mk hret
  clear h hret
  go_enter Tryd.func30, Tryd.ntmps30
  go_wp2_with (go_at_call 42; refine HC.out.mono ?_; intro e w1 hp; obtain ⟨x, y, z, rfl⟩ := HR.out e w1 hp; have HP := Aside0.mk hp; clear hp)
  exact bodyPost_ret (v := .tuple #[x, y, z]) (by simp [results, Tryd.results30, go_sem]) rfl HP.out
end Go.Proofs.YtnpjnekoifheoaaDoor
