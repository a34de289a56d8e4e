/- sqlx.rebindBuff; the walk of laws.FnRebuffEach. -/
import Derived.Test.YtklnlfmopmlmlaaDoorBetwF
import Derived.Test.YtklnlfmopmlmlaaDoorRuneShelf
import Derived.Lib.OthersKept
import Derived.Laws.RangeString
namespace Go.Proofs.YtklnlfmopmlmlaaDoor
open Go Go.RowKit Go.Proofs.YtklnlfmopmlmlaaDoorW.PrintWords
set_option linter.unusedVariables false
set_option maxRecDepth 100000

theorem itoa_dec (n : Nat) : Lib.itoa (n : Int) = Lib.decDigits n := by
  unfold Lib.itoa
  rw [if_neg (by omega), Int.toNat_natCast]
/-- A buffer of its own, its block above the base. -/
def BufB (B b : Nat) (l : List UInt8) (w : World) : Prop := Lib.IsBuffer 84 5 B b (Lib.byteCells l) w
theorem BufB_rune (B b : Nat) (l : List UInt8) (c : UInt8) (r : Int) (hr : r = c.toNat) (h128 : c.toNat < 128) (w : World) (h : BufB B b l w) (hl : l.length + 1 ≤ 140737488355328) (hb : B ≤ w.heap.size) :
    Calls Tryd.prog 50 #[.pointer (some ⟨b, 0, none⟩), .int .i32 r] w fun e w' => e = .returned (.tuple #[.int .i64 1, .nilIface]) ∧ BufB B b (l ++ [c]) w' ∧ Below B w w' ∧ Lib.OthersKept 5 (some b) w w' := by
  refine (Tryd.Buffer_WriteRune_ascii B b _ r (by omega) (by omega) w h hb (Lib.byteCells_one _) (by rw [Lib.byteCells_length]; exact hl)).mono ?_
  rintro e w' ⟨rfl, h2, h3, h4⟩
  refine ⟨rfl, ?_, h3, h4⟩
  have e : Lib.byteCells (l ++ [c]) = Lib.byteCells l ++ [.int .u8 r] := by
    rw [Lib.byteCells_append, hr]
    rfl
  unfold BufB
  rw [e]
  exact h2
theorem BufB_write (B b : Nat) (l : List UInt8) (s : ByteArray) (w : World) (h : BufB B b l w) (hl : l.length + s.size ≤ 140737488355328) (hb : B ≤ w.heap.size) :
    Calls Tryd.prog 44 #[.pointer (some ⟨b, 0, none⟩), .string s] w fun e w' => e = .returned (.tuple #[.int .i64 s.size, .nilIface]) ∧ BufB B b (l ++ s.data.toList) w' ∧ Below B w w' ∧ Lib.OthersKept 5 (some b) w w' := by
  refine (Tryd.Buffer_WriteString_k B b _ s w h hb (Lib.byteCells_one _) (by rw [Lib.byteCells_length]; exact hl)).mono ?_
  rintro e w' ⟨rfl, h2, h3, h4⟩
  unfold BufB
  rw [Lib.byteCells_append]
  exact ⟨rfl, h2, h3, h4⟩
theorem BufB_string (B b : Nat) (l : List UInt8) (w : World) (h : BufB B b l w) :
    Calls Tryd.prog 46 #[.pointer (some ⟨b, 0, none⟩)] w fun e w' => e = .returned (.string ⟨l.toArray⟩) ∧ Below w.heap.size w w' := by
  refine (Tryd.Buffer_String B b l w h).mono ?_
  rintro e w' ⟨rfl, n, rfl⟩
  exact ⟨rfl, pw_below_drewN (Below.refl _ _) n⟩
theorem rb_betw (sg : List UInt8) (l : List ByteArray) (hq : NoQ l) : ∀ (k : Nat) (R : List UInt8), k + 1 ≤ l.length → rb sg (betw l (fun _ => [63]) (k + 1) ++ R) 0 = betw l (num sg) (k + 1) ++ rb sg R k := by
  intro k
  induction k with
  | zero =>
    intro R _
    simp only [betw, if_pos, List.nil_append]
    rw [rb_pre _ _ _ _ (hq 0)]
  | succ k ih =>
    intro R hk
    have e1 : betw l (fun _ => [63]) (k + 1 + 1) = betw l (fun _ => [63]) (k + 1) ++ (63 :: (l.getD (k + 1) ⟨#[]⟩).data.toList) := by
      rw [betw, if_neg (by omega)]; rfl
    have e2 : betw l (num sg) (k + 1 + 1) = betw l (num sg) (k + 1) ++ (num sg (k + 1) ++ (l.getD (k + 1) ⟨#[]⟩).data.toList) := by
      rw [betw, if_neg (by omega)]
    rw [e1, e2, List.append_assoc, List.cons_append, ih _ (by omega), rb, if_pos rfl, itoa_dec, rb_pre _ _ _ _ (hq (k + 1))]
    simp [num]
theorem rb_betw_all (sg : List UInt8) (l : List ByteArray) (hq : NoQ l) : rb sg (betw l (fun _ => [63]) l.length) 0 = betw l (num sg) l.length := by
  cases hl : l.length with
  | zero => rfl
  | succ k =>
    have := rb_betw sg l hq k [] (by omega)
    simpa [rb] using this
theorem rb_cons (sg : List UInt8) (Q : ByteArray) (i : Nat) (h : i < Q.size) (j : Nat) : rb sg (Q.data.toList.drop i) j = if Q[i]'h = 63 then sg ++ Lib.decDigits (j + 1) ++ rb sg (Q.data.toList.drop (i + 1)) (j + 1) else Q[i]'h :: rb sg (Q.data.toList.drop (i + 1)) j := by
  rw [List.drop_eq_getElem_cons (by rw [← Lib.size_eq]; exact h), rb, itoa_dec]
  rfl
theorem count_next (Q : ByteArray) (i : Nat) (h : i < Q.size) : (Q.data.toList.drop i).count 63 = (if Q[i]'h = 63 then 1 else 0) + (Q.data.toList.drop (i + 1)).count 63 := by
  rw [List.drop_eq_getElem_cons (by rw [← Lib.size_eq]; exact h), List.count_cons, Nat.add_comm]
  have e : Q.data.toList[i]'(by rw [← Lib.size_eq]; exact h) = Q[i]'h := rfl
  rw [e]
  by_cases h2 : Q[i]'h = 63
  · rw [if_pos h2, if_pos (beq_iff_eq.2 h2)]
  · rw [if_neg h2, if_neg (fun e => h2 (beq_iff_eq.1 e))]
theorem newBuffer_is (A : Option Addr) (n c : Nat) (w : World) :
    Calls Tryd.prog 49 #[.slice A n c] w fun e w' => e = .returned (.pointer (some ⟨w.heap.size, 0, none⟩)) ∧ w' = w.alloc (.cells #[.slice A n c, .int .i64 0, .int .i8 0] 84) := by
  go_enter Tryd.func49, Tryd.ntmps49
  go_wp2
  go_ret
  exact ⟨rfl, rfl⟩
theorem bufB_made (w : World) (n : Nat) (hn : n ≤ 100000) : BufB w.heap.size (w.heap.size + 1) [] ((w.alloc (.cells (madeCells #[Value.int .u8 0] n) 5)).alloc (.cells #[.slice (some ⟨w.heap.size, 0, none⟩) 0 n, .int .i64 0, .int .i8 0] 84)) := by
  have h1 := R_cap kB 5 w (madeCells #[Value.int .u8 0] n) n (by omega) (by rw [size_madeCells]; exact (Nat.mul_one _).symm)
  refine ⟨by omega, _, 0, blk_new' _ _ _ (by simp), own_B (Kd.R_alloc h1 _), ?_⟩
  simp [Value.ownBlock]
set_option maxHeartbeats 4000000 in
theorem rebindBuff_is (Q : ByteArray) (w : World) (hQ : Q.size ≤ 100000) (hasc : ∀ i, (h : i < Q.size) → (Q[i]'h).toNat < 128) (hc : Q.data.toList.count 63 ≤ 98) (hout : (rb [36] Q.data.toList 0).length ≤ 10000000) :
    Calls Tryd.prog 39 #[.int .i64 2, .string Q] w fun e w' => e = .returned (.string ⟨(rb [36] Q.data.toList 0).toArray⟩) ∧ Below w.heap.size w w' := by
  obtain ⟨tx, htx⟩ : ∃ tx, tx = rb [36] Q.data.toList 0 := ⟨_, rfl⟩
  rw [← htx] at hout ⊢
  have HTX := Lib.hid htx
  have HO := Lib.hid hout
  have HCT := Lib.hid hc
  have HAS := Aside0.mk hasc
  clear hout htx hc hasc
  have hmk := run_makeCap (P := Tryd.prog) 43 5 (.int .u8 0) 1 1 Tryd.underlying43 infoB Q.size (by omega) (by omega)
  go_enter Tryd.func39, Tryd.ntmps39
  go_wp2_with (go_at_call 49; refine (newBuffer_is _ _ _ _).mono ?_; rintro e w2 ⟨rfl, rfl⟩)
  have hB0 := bufB_made w Q.size hQ
  obtain ⟨W0, hW0⟩ : ∃ W0, W0 = (w.alloc (.cells (madeCells #[Value.int .u8 0] Q.size) 5)).alloc (.cells #[.slice (some ⟨w.heap.size, 0, none⟩) 0 Q.size, .int .i64 0, .int .i8 0] 84) := ⟨_, rfl⟩
  have hW1 : Below w.heap.size w W0 := by rw [hW0]; exact below_alloc (below_alloc (Below.refl _ _) _) _
  have hW2 : W0.heap.size = w.heap.size + 1 + 1 := by rw [hW0]; simp
  rw [← hW0] at hB0
  have hI0 : BufB w.heap.size (w.heap.size + 1) [] (W0.iter Q 0) := hB0.alloc _
  have hk0 : (W0.iter Q 0).heap[w.heap.size + 1 + 1]? = some (.stringIter Q 0) := by rw [← hW2]; exact World.iter_heap W0 Q 0
  have hb0 : Below w.heap.size w (W0.iter Q 0) := below_alloc hW1 _
  have HI0 := Aside0.mk hI0
  have HK0 := Aside0.mk hk0
  have HB0 := Aside0.mk hb0
  rw [← hW0]
  generalize W0.iter Q 0 = W5 at HI0 HK0 HB0 ⊢
  clear hB0 hW0 hW1 hW2 hI0 hk0 hb0 hmk
  go_loopw [7] (fun u7 wr => ∃ (pos j : Nat) (l : List UInt8), u7 = .int .i64 ((j : Int) + 1) ∧ pos ≤ Q.size ∧ Aside0 (wr.heap[w.heap.size + 1 + 1]? = some (.stringIter Q pos)) ∧ Aside0 (l ++ rb [36] (Q.data.toList.drop pos) j = tx) ∧ Aside0 (j + (Q.data.toList.drop pos).count 63 ≤ 98) ∧ Aside0 (BufB w.heap.size (w.heap.size + 1) l wr) ∧ Aside0 (Below w.heap.size w wr)) (fun _ wr => Q.size - wr.iterPos (w.heap.size + 1 + 1))
  case atStart => exact ⟨0, 0, [], rfl, Nat.zero_le _, HK0, ⟨by rw [HTX.out]; rfl⟩, ⟨by simpa using HCT.out⟩, HI0, HB0⟩
  case round =>
    clear HI0 HK0 HB0
    obtain ⟨pos, j, l, rfl, hps, HK, HT, HC, HI, HB⟩ := hrel
    have hlq : l.length ≤ 10000000 := by
      have := HO.out
      rw [← HT.out, List.length_append] at this
      omega
    by_cases hp : pos < Q.size
    · have h128 := HAS.out pos hp
      have hnext : ∀ ty, (Instr.next (.pointer (some ⟨w.heap.size + 1 + 1, 0, none⟩)) true ty).run Tryd.prog wr = _ := fun ty => Lib.run_next_ascii_at wr (w.heap.size + 1 + 1) Q pos ty HK.out hp h128
      have hI1 : BufB w.heap.size (w.heap.size + 1) l (wr.iterAt (w.heap.size + 1 + 1) Q (pos + 1)) := HI.out.iterAt HK.out (pos + 1)
      have hk1 := Lib.iterAt_heap wr (w.heap.size + 1 + 1) Q pos (pos + 1) HK.out
      have hb1 := Lib.below_iterAt HB.out (show w.heap.size ≤ w.heap.size + 1 + 1 by omega) Q (pos + 1)
      have hmu : wr.iterPos (w.heap.size + 1 + 1) = pos := by simp [World.iterPos, HK.out]
      have hrb := rb_cons [36] Q pos hp j
      have hcn := count_next Q pos hp
      generalize wr.iterAt (w.heap.size + 1 + 1) Q (pos + 1) = W1 at hnext hI1 hk1 hb1
      obtain ⟨c, hc⟩ : ∃ c, c = Q[pos]'hp := ⟨_, rfl⟩
      rw [← hc] at hnext h128 hrb hcn
      have HI1 := Aside0.mk hI1
      have HK1 := Aside0.mk hk1
      have HB1 := Aside0.mk hb1
      have HMU := Lib.hid hmu
      clear hc hI1 hk1 hb1 hmu
      by_cases hc63 : c = 63
      · subst hc63
        rw [if_pos rfl] at hrb hcn
        replace hnext : ∀ ty, (Instr.next (.pointer (some ⟨w.heap.size + 1 + 1, 0, none⟩)) true ty).run Tryd.prog wr = .ok (.tuple #[.bool true, .int .i64 pos, .int .i32 63]) W1 := hnext
        have HRB := Lib.hid hrb
        have HCN := Lib.hid hcn
        have hj9 : j + 1 ≤ 99 := by
          have := HC.out
          omega
        clear hrb hcn
        go_wp2_with (first | (go_at_call 50; refine (BufB_rune _ _ l 36 36 rfl (by decide) _ HI1.out (by omega) HB1.out.size).mono ?_; rintro e w2 ⟨rfl, h1, h2, h3⟩; have hk2 := h3.iter HK1.out (Lib.IsBuffer.ne_iter HI1.out HK1.out); have X1 := Aside0.mk h1; have X2 := Aside0.mk (HB1.out.trans h2); have XK := Aside0.mk hk2; clear h1 h2 h3 hk2) | (go_at_call 48; refine (Itoa_tell _ _ (j + 1) (by omega) hj9).mono ?_; rintro e wz ⟨⟨D, rfl, hD, hDz⟩, rfl⟩; have HD := Lib.hid hD; clear hD) | (go_at_call 44; refine (BufB_write _ _ (l ++ [36]) D _ X1.out (by rw [List.length_append]; simp only [List.length_cons, List.length_nil]; omega) X2.out.size).mono ?_; rintro e w3 ⟨rfl, h1, h2, h3⟩; have hk2 := h3.iter XK.out (Lib.IsBuffer.ne_iter X1.out XK.out); have Y1 := Aside0.mk h1; have Y2 := Aside0.mk (X2.out.trans h2); have YK := Aside0.mk hk2; clear h1 h2 h3 hk2))
        go_roundw
        case rel =>
          refine ⟨pos + 1, j + 1, _, by go_num, by omega, YK, ⟨?_⟩, ⟨?_⟩, Y1, Y2⟩
          · rw [← HT.out, HRB.out, HD.out]
            simp
          · have h1 := HC.out
            have h2 := HCN.out
            omega
        case measure =>
          have hmu2 : w3.iterPos (w.heap.size + 1 + 1) = pos + 1 := by simp [World.iterPos, YK.out]
          rw [HMU.out, hmu2]
          omega
      · rw [if_neg hc63] at hrb hcn
        have hne : ((c.toNat : Int) == 63) = false := by
          have : ¬ (c.toNat : Int) = 63 := fun e => hc63 (UInt8.toNat_inj.1 (by have : c.toNat = 63 := by omega
                                                                                simpa using this))
          simpa using this
        have HRB := Lib.hid hrb
        have HCN := Lib.hid hcn
        clear hrb hcn hc63
        go_wp2_with (go_at_call 50; refine (BufB_rune _ _ l c _ rfl h128 _ HI1.out (by omega) HB1.out.size).mono ?_; rintro e w2 ⟨rfl, h1, h2, h3⟩; have hk2 := h3.iter HK1.out (Lib.IsBuffer.ne_iter HI1.out HK1.out); have X1 := Aside0.mk h1; have X2 := Aside0.mk (HB1.out.trans h2); have XK := Aside0.mk hk2; clear h1 h2 h3 hk2)
        go_roundw
        case rel =>
          refine ⟨pos + 1, j, _, rfl, by omega, XK, ⟨?_⟩, ⟨?_⟩, X1, X2⟩
          · rw [← HT.out, HRB.out]
            simp
          · have h1 := HC.out
            have h2 := HCN.out
            omega
        case measure =>
          have hmu2 : w2.iterPos (w.heap.size + 1 + 1) = pos + 1 := by simp [World.iterPos, XK.out]
          rw [HMU.out, hmu2]
          omega
    · have hnext : ∀ ty, (Instr.next (.pointer (some ⟨w.heap.size + 1 + 1, 0, none⟩)) true ty).run Tryd.prog wr = _ := fun ty => Lib.run_next_end_at wr (w.heap.size + 1 + 1) Q pos ty HK.out hp
      have hfin : l = tx := by
        have h1 := HT.out
        rw [List.drop_eq_nil_of_le (by rw [← Lib.size_eq]; omega), rb, List.append_nil] at h1
        exact h1
      have HF := Lib.hid hfin
      clear hfin
      go_wp2_with (go_at_call 46; refine (BufB_string _ _ l _ HI.out).mono ?_; rintro e w2 ⟨rfl, h2⟩; have X2 := Aside0.mk (below_step HB.out h2); clear h2)
      go_ret
      exact ⟨congrArg (fun s : List UInt8 => Ending.returned (.string ⟨s.toArray⟩)) HF.out, X2.out⟩
theorem Rebuffed_is (Q : ByteArray) (w : World) (hQ : Q.size ≤ 100000) (hasc : ∀ i, (h : i < Q.size) → (Q[i]'h).toNat < 128) (hc : Q.data.toList.count 63 ≤ 98) (hout : (rb [36] Q.data.toList 0).length ≤ 10000000) :
    Calls Tryd.prog 22 #[.string Q] w fun e w' => e = .returned (.string ⟨(rb [36] Q.data.toList 0).toArray⟩) ∧ Below w.heap.size w w' := by
  obtain ⟨tx, htx⟩ : ∃ tx : ByteArray, tx = ⟨(rb [36] Q.data.toList 0).toArray⟩ := ⟨_, rfl⟩
  have HC := Aside0.mk (rebindBuff_is Q w hQ hasc hc hout)
  rw [← htx] at HC ⊢
  clear hout htx hc hasc
  have HC2 : Aside0 (Calls Tryd.prog 30 #[.int .i64 2, .string Q] w fun e w' => e = .returned (.string tx) ∧ Below w.heap.size w w') := by
    constructor
    go_enter Tryd.func30, Tryd.ntmps30
    go_wp2_with (go_at_call 39; refine HC.out.mono ?_; rintro e w1 ⟨rfl, h1⟩; have H1 := Aside0.mk h1; clear h1)
    go_ret
    exact ⟨rfl, H1.out⟩
  go_enter Tryd.func22, Tryd.ntmps22
  go_wp2_with (go_at_call 30; refine HC2.out.mono ?_; rintro e w1 ⟨rfl, h1⟩; have H1 := Aside0.mk h1; clear h1)
  go_ret
  exact ⟨rfl, H1.out⟩
theorem bare_asc {s : ByteArray} (h : BareOk s) : ∀ b ∈ s.data.toList, b.toNat < 128 := by
  intro b hm
  obtain ⟨i, hi, he⟩ := List.getElem_of_mem hm
  have h1 := h.1 i (by rw [Lib.size_eq]; exact hi)
  have e : (s.data.toList[i]'hi) = s[i]'(by rw [Lib.size_eq]; exact hi) := rfl
  rw [← e, he] at h1
  have := h1.2.1
  omega
theorem betw_asc (l : List ByteArray) (h : AllBare l l.length) : ∀ k, k ≤ l.length → ∀ b ∈ betw l (fun _ => [63]) k, b.toNat < 128 := by
  intro k
  induction k with
  | zero => intro _ b hb; cases hb
  | succ k ih =>
    intro hk b hb
    rw [betw] at hb
    rcases List.mem_append.1 hb with hb | hb
    · exact ih (by omega) b hb
    · rcases List.mem_append.1 hb with hb | hb
      · by_cases h0 : k = 0
        · rw [if_pos h0] at hb; cases hb
        · rw [if_neg h0, List.mem_singleton] at hb
          subst hb
          decide
      · exact bare_asc (h k (by omega)) b hb
theorem asc_at {Q : ByteArray} (h : ∀ b ∈ Q.data.toList, b.toNat < 128) (i : Nat) (hi : i < Q.size) : (Q[i]'hi).toNat < 128 :=
  h _ (List.getElem_mem (l := Q.data.toList) (n := i) (by rw [← Lib.size_eq]; exact hi))
set_option maxHeartbeats 4000000 in
theorem rebuffEach_walk (ss : List ByteArray) (A : Option Addr) (c : Nat) (w : World) (hr : Kd.string.C w A ss.length ss) :
    Calls Tryd.prog 7 #[.slice A ss.length c] w fun e w' => e = .returned (.bool true) ∧ Below w.heap.size w w' := by
  have HR := Aside0.mk hr
  clear hr
  go_enter Tryd.func7, Tryd.ntmps7
  go_wp2_with (first | (go_at_call 10; refine (zzFits2_any ss _ _ _ HR.out).mono ?_; rintro e w1 ⟨⟨b, rfl, _⟩, rfl⟩; cases b) | (go_at_call 11; refine (bare9_any ss _ _ _ HR.out).mono ?_; rintro e w3 ⟨⟨b', rfl, hb3⟩, rfl⟩; have HBR := Aside0.mk hb3; clear hb3; cases b'))
  all_goals first | (go_ret; exact ⟨rfl, Below.refl _ _⟩) | skip
  have hbr := HBR.out (by first | rfl | trivial)
  have hn20 := hbr.1
  have hL1 := btext_len hbr.2 hbr.1 [36] (by decide)
  have hBT := between9_q ss A c w HR.out hbr.1 (bare_size hbr.2)
  have hBD := fun (W : World) (hW : Below w.heap.size w W) => between9_dollar ss A c W (Kd.C_below HR.out hW) hbr.1 (bare_size hbr.2)
  have e1 : (⟨(betw ss (fun _ => [63]) ss.length).toArray⟩ : ByteArray).data.toList = betw ss (fun _ => [63]) ss.length := rfl
  have hrun : rb [36] (⟨(betw ss (fun _ => [63]) ss.length).toArray⟩ : ByteArray).data.toList 0 = betw ss (num [36]) ss.length := by rw [e1, rb_betw_all [36] ss (noq_of hbr.2)]
  have hsz : (⟨(betw ss (fun _ => [63]) ss.length).toArray⟩ : ByteArray).size ≤ 3000 := by
    rw [Lib.size_eq, e1]
    have := betw_len2 ss (fun _ => [63]) 1 (fun _ _ => Nat.le_refl _) (bare_size hbr.2) ss.length (by omega)
    omega
  have hcnt : (⟨(betw ss (fun _ => [63]) ss.length).toArray⟩ : ByteArray).data.toList.count 63 ≤ 98 := by
    rw [e1]
    have := betw_count ss (noq_of hbr.2) ss.length
    omega
  have hasc : ∀ b ∈ (⟨(betw ss (fun _ => [63]) ss.length).toArray⟩ : ByteArray).data.toList, b.toNat < 128 := by
    rw [e1]
    exact betw_asc ss hbr.2 ss.length (Nat.le_refl _)
  generalize (⟨(betw ss (fun _ => [63]) ss.length).toArray⟩ : ByteArray) = Q at hBT hrun hsz hcnt hasc
  have hRQ := fun W => Rebuffed_is Q W (by omega) (fun i hi => asc_at hasc i hi) hcnt (by rw [hrun]; omega)
  rw [hrun] at hRQ
  have hR1 := fun W => Rebuffed_is ⟨#[63]⟩ W (by decide) (fun i hi => asc_at (Q := ⟨#[63]⟩) (by decide) i hi) (by decide) (by rw [show rb [36] (⟨#[63]⟩ : ByteArray).data.toList 0 = [36] ++ Lib.itoa ((0 + 1 : Nat) : Int) ++ [] from rfl, itoa_dec, dec_last _ (by omega)]; decide)
  have hone : (⟨(rb [36] (⟨#[63]⟩ : ByteArray).data.toList 0).toArray⟩ : ByteArray) = ⟨#[36, 49]⟩ := ba_ext (by rw [show rb [36] (⟨#[63]⟩ : ByteArray).data.toList 0 = [36] ++ Lib.itoa ((0 + 1 : Nat) : Int) ++ [] from rfl, itoa_dec, dec_last _ (by omega)]; rfl)
  rw [hone] at hR1
  generalize (⟨(betw ss (num [36]) ss.length).toArray⟩ : ByteArray) = X at hRQ hBD
  have BT := Aside0.mk hBT
  have BD := Aside0.mk hBD
  have RQ := Aside0.mk hRQ
  have R1 := Aside0.mk hR1
  clear hBT hBD hRQ hR1 hone hrun hsz hcnt hasc e1 hL1 hbr HBR
  go_wp2_with (first | (go_at_call 12; first | (have hz := HD1; clear hz; refine (BD.out _ HB1.out).mono ?_; rintro e w6 ⟨rfl, h2⟩; have HB2 := Aside0.mk (below_step HB1.out h2); clear h2) | (refine BT.out.mono ?_; rintro e w5 ⟨rfl, rfl⟩)) | (go_at_call 22; first | (have hz := HD1; clear hz; refine (R1.out _).mono ?_; rintro e w8 ⟨rfl, h2⟩; have HB3 := Aside0.mk (below_step HB2.out h2); clear h2) | (refine (RQ.out _).mono ?_; rintro e w7 ⟨rfl, h2⟩; have HB1 := Aside0.mk h2; have HD1 := trivial; clear h2)))
  go_ret
  exact ⟨rfl, HB3.out⟩
end Go.Proofs.YtklnlfmopmlmlaaDoor
