/- sqlx.compileNamedQuery at one kind of placeholders: it is the machine. Printed by wip/gencomp.py. -/
import Derived.Test.YtnpjnekoifheoaaDoorCompH
namespace Go.Proofs.YtnpjnekoifheoaaDoor
open Go Go.RowKit Go.Proofs.YtnpjnekoifheoaaDoorW.PrintWords
set_option linter.unusedVariables false
set_option maxRecDepth 100000

set_option maxHeartbeats 20000000 in
theorem compile_1 (L : List UInt8) (fin : CS) (A : Option Addr) (c : Nat) (w : World) (hr : kB.C w A L.length L) (hL : L.length ≤ 100000) (hc : L.count 58 ≤ 90) (hrun : crun 1 L ⟨[], [], none⟩ = some fin) :
    Calls Tryd.prog 44 #[.slice A L.length c, .int .i64 1] w (CompPost fin w) := by
  have HR := Aside0.mk hr
  have HRUN := Lib.hid hrun
  have HC := Lib.hid hc
  have hu26 := Tryd.underlying26
  have hu28 := Tryd.underlying28
  have hmk1 := run_makeCap (P := Tryd.prog) 28 9 (.string ⟨#[]⟩) 1 16 Tryd.underlying28 infoS 10 (by omega) (by omega)
  have hmk2 := run_makeCap (P := Tryd.prog) 26 5 (.int .u8 0) 1 1 Tryd.underlying26 infoB L.length (by omega) (by omega)
  have hmk3 := run_makeCap (P := Tryd.prog) 26 5 (.int .u8 0) 1 1 Tryd.underlying26 infoB 10 (by omega) (by omega)
  have e10 : ((10 : Nat) : Int) = 10 := rfl
  rw [e10] at hmk1 hmk3
  clear hr hrun hc e10
  go_enter Tryd.func44, Tryd.ntmps44
  go_wp2
  have B0 : Below w.heap.size w (w.alloc (.cells (madeCells #[Value.string ⟨#[]⟩] 10) 9)) := below_alloc (Below.refl _ _) _
  have B1 := below_alloc B0 (.cells (madeCells #[Value.int .u8 0] L.length) 5)
  have B2 := below_alloc B1 (.cells (madeCells #[Value.int .u8 0] 10) 5)
  have hI : CInv 1 L fin w 0 false [] [] [] (.slice (some ⟨w.heap.size, 0, none⟩) 0 10) (.slice (some ⟨w.heap.size + 1, 0, none⟩) 0 L.length) (.slice (some ⟨w.heap.size + 1 + 1, 0, none⟩) 0 10) (((w.alloc (.cells (madeCells #[Value.string ⟨#[]⟩] 10) 9)).alloc (.cells (madeCells #[Value.int .u8 0] L.length) 5)).alloc (.cells (madeCells #[Value.int .u8 0] 10) 5)) := by
    have hA := R_cap Kd.string 9 w (madeCells #[Value.string ⟨#[]⟩] 10) 10 (by omega) (by rw [size_madeCells]; rfl)
    have hB := R_cap kB 5 (w.alloc (.cells (madeCells #[Value.string ⟨#[]⟩] 10) 9)) (madeCells #[Value.int .u8 0] L.length) L.length (by omega) (by rw [size_madeCells]; exact (Nat.mul_one _).symm)
    have hC := R_cap kB 5 ((w.alloc (.cells (madeCells #[Value.string ⟨#[]⟩] 10) 9)).alloc (.cells (madeCells #[Value.int .u8 0] L.length) 5)) (madeCells #[Value.int .u8 0] 10) 10 (by omega) (by rw [size_madeCells]; rfl)
    simp only [World.size_alloc] at hB hC
    refine ⟨by simpa [nmOf] using HRUN.out, fun h => (by cases h), by simp, by simp, by simpa using HC.out, Kd.R_alloc (Kd.R_alloc hA _) _, Kd.R_alloc (Kd.R_lower hB (by omega)) _, Kd.R_lower hC (by omega), fun k h1 h2 => ?_, B2⟩
    simp [Value.ownBlock] at h1 h2
    omega
  have HI := Aside0.mk hI
  clear B0 B1 B2 hI hmk1 hmk2 hmk3
  go_loopw [5, 6, 7, 8, 10, 11, 28] (fun u5 u6 u7 ub u10 u11 ui wr => ∃ (i : Nat) (b : Bool) (R nl : List UInt8) (N : List ByteArray), u6 = .nilIface ∧ ub = .bool b ∧ u10 = .int .i64 (curN 1 N.length) ∧ ui = .int .i64 i ∧ i ≤ L.length ∧ Aside0 (CInv 1 L fin w i b R nl N u5 u7 u11 wr)) (fun _ _ _ _ _ _ ui _ => L.length - (intOf ui).toNat)
  case atStart => exact ⟨0, false, [], [], [], rfl, rfl, by simp [curN], rfl, Nat.zero_le _, HI⟩
  case round =>
    obtain ⟨i, b, R, nl, N, rfl, rfl, rfl, rfl, hi, HI⟩ := hrel
    obtain ⟨c1, c2, c3, c4, c5, rw0⟩ := HI.out
    have hlt := CInv.step HI.out
    have hbad := CInv.bad HI.out
    have RW := Aside0.mk rw0
    have C1 := Lib.hid c1
    have C2 := Lib.hid c2
    have C5 := Lib.hid c5
    have hcd := @count_drop L i
    clear HI c1 c2 c5 rw0
    by_cases hil : i < L.length
    · obtain ⟨ad, rfl, hcell⟩ := at_S (enc := encB) (h1 := encB_one) (Kd.C_below HR.out RW.out.2.2.2.2) (0 : UInt8) i hil
      replace hlt := fun t => hlt (t := t) hil
      replace hbad := hbad hil
      replace hcd := hcd hil
      obtain ⟨p, hp⟩ : ∃ p, p = L.getD i 0 := ⟨_, rfl⟩
      rw [← hp] at hcell hlt hbad hcd
      have HP := Lib.hid hp
      have HSTEP := Aside0.mk hlt
      have HCD := Lib.hid hcd
      have HBAD := Aside0.mk hbad
      have hlim : (R.length + 1) * 1 ≤ 140737488355328 := by
        have : R.length ≤ 5 * i := by omega
        omega
      have hlim2 : R.length + 2 ≤ 1000000 := by
        have : R.length ≤ 5 * i := by omega
        omega
      clear hp hlt hcd hbad
      rcases b with _ | _
      · have c3' : R.length ≤ 5 * i := by simpa using c3
        have c5' : N.length + (L.drop i).count 58 ≤ 90 := by simpa using C5.out
        have H5 := Lib.hid c5'
        clear c3 c5' C5 C2
        by_cases h58 : p = 58
        ·
          subst h58
          replace hcell : wr.cell? (ad.add i) = some (.int .u8 58) := hcell
          have HST := Lib.hid (HSTEP.out ⟨R, N, some []⟩ (by simp [cstep, nmOf]))
          have hcount := HCD.out
          rw [if_pos rfl] at hcount
          have HCO := Lib.hid hcount
          clear hcount HSTEP HBAD HCD C1
          go_wp2
          go_roundw
          case rel =>
            refine ⟨i + 1, true, R, [], N, rfl, rfl, rfl, by go_num, by omega, ⟨HST.out, fun _ => ⟨by omega, ?_⟩, ?_, by simp, ?_, RW.out.fresh⟩⟩
            · rw [show i + 1 - 1 = i from rfl, ← HP.out]
              simp
            · simp; omega
            · have h1 := H5.out
              have h2 := HCO.out
              simp only [if_true]
              omega
          case measure => simp [intOf]; omega
        ·
          have hc58 : ((p.toNat : Int) == 58) = false := byte_ne h58
          replace hcell : wr.cell? (ad.add i) = some (.int .u8 p.toNat) := hcell
          have HST := Lib.hid (HSTEP.out ⟨R ++ [p], N, none⟩ (by simp [cstep, nmOf, h58]))
          have hcount := HCD.out
          rw [if_neg h58] at hcount
          have HCO := Lib.hid hcount
          clear hcount HSTEP HBAD HCD C1 h58
          go_wp2_with (at_builtin; refine Kd.R_append kB (w0 := w) w.heap.size rfl (.tmp 181) (.tmp 183) 26 5 (.int .u8 0) 1 rfl hu26 infoB rfl (by decide) (by omega) u7 (R) p [encB p] (fun _ => True) (fun _ => False) rfl rfl rfl (fun _ hk => hk.elim) (fun _ _ => trivial) RW.out.2.1 RW.out.2.2.2.2 RW.out.2.2.2.2.size (hlim) ?_; intro v1 w1 h1 h2 h3 h4; have RW1 := Aside0.mk (RW.out.reb h1 h2 h3 h4); clear h1 h2 h3 h4)
          go_roundw
          case rel =>
            refine ⟨i + 1, false, R ++ [p], nl, N, rfl, rfl, rfl, by go_num, by omega, ⟨HST.out, fun h => (by cases h), by simp; omega, by omega, ?_, RW1.out⟩⟩
            have h1 := H5.out
            have h2 := HCO.out
            simp only [Bool.false_eq_true, if_false]
            omega
          case measure => simp [intOf]; omega
      · have c3' : R.length + nl.length ≤ 5 * i := by simpa using c3
        have c5' : N.length + 1 + (L.drop i).count 58 ≤ 90 := by simpa using C5.out
        have H5 := Lib.hid c5'
        obtain ⟨hi0, hpr⟩ := C2.out rfl
        have HPR := Lib.hid hpr
        clear c3 c5' C5 C2 hpr
        by_cases h58 : p = 58
        ·
          subst h58
          have hnl : nl = [] := by
            by_cases hn : nl = []
            · exact hn
            · exact (HBAD.out (by simp [cstep, nmOf, hn])).elim
          subst hnl
          have hprev : L.getD (i - 1) 0 = 58 := HPR.out.2 rfl
          obtain ⟨ad2, hadd, hcell2⟩ := at_S (enc := encB) (h1 := encB_one) (Kd.C_below HR.out RW.out.2.2.2.2) (0 : UInt8) (i - 1) (by omega)
          cases hadd
          rw [hprev] at hcell2
          replace hcell2 : wr.cell? (ad.add (i - 1)) = some (.int .u8 58) := hcell2
          replace hcell : wr.cell? (ad.add i) = some (.int .u8 58) := hcell
          have HST := Lib.hid (HSTEP.out ⟨R ++ [58], N, none⟩ (by simp [cstep, nmOf]))
          have hcount := HCD.out
          rw [if_pos rfl] at hcount
          have HCO := Lib.hid hcount
          have hi1 : ((i : Int) - 1).toNat = i - 1 := by omega
          have hi2 : (1 : Int) ≤ (i : Int) := by omega
          have hi3 : (0 : Int) ≤ (i : Int) - 1 := by omega
          have hi4 : decide ((0 : Int) < (i : Int)) = true := decide_eq_true (by omega)
          clear hcount HSTEP HBAD HCD C1 hprev
          go_wp2_with (at_builtin; refine Kd.R_append kB (w0 := w) w.heap.size rfl (.tmp 48) (.tmp 49) 26 5 (.int .u8 0) 1 rfl hu26 infoB rfl (by decide) (by omega) u7 (R) 58 [encB 58] (fun _ => True) (fun _ => False) rfl rfl rfl (fun _ hk => hk.elim) (fun _ _ => trivial) RW.out.2.1 RW.out.2.2.2.2 RW.out.2.2.2.2.size (hlim) ?_; intro v1 w1 h1 h2 h3 h4; have RW1 := Aside0.mk (RW.out.reb h1 h2 h3 h4); clear h1 h2 h3 h4)
          go_roundw
          case rel =>
            refine ⟨i + 1, false, R ++ [58], [], N, rfl, rfl, rfl, by go_num, by omega, ⟨HST.out, fun h => (by cases h), by simp; omega, by simp, ?_, RW1.out⟩⟩
            have h1 := H5.out
            have h2 := HCO.out
            simp only [Bool.false_eq_true, if_false]
            omega
          case measure => simp [intOf]; omega
        · have hc58 : ((p.toNat : Int) == 58) = false := byte_ne h58
          by_cases h61 : p = 61 ∧ nl = []
          ·
            obtain ⟨rfl, rfl⟩ := h61
            replace hcell : wr.cell? (ad.add i) = some (.int .u8 61) := hcell
            have HST := Lib.hid (HSTEP.out ⟨R ++ [58, 61], N, none⟩ (by simp [cstep, nmOf]))
            have hcount := HCD.out
            rw [if_neg h58] at hcount
            have HCO := Lib.hid hcount
            obtain ⟨hi1, hnl⟩ : ∃ C c, u11 = .slice C 0 c := Kd.R_slice RW.out.2.2.1
            obtain ⟨hi2, rfl⟩ := hnl
            have hi4 : decide ((0 : Int) < (i : Int)) = true := decide_eq_true (by omega)
            clear hcount HSTEP HBAD HCD C1 h58 hc58
            go_wp2_with (at_builtin; refine Kd.R_append_rows kB (Rr := fun (b : UInt8) cs => cs = [encB b]) (w0 := w) w.heap.size rfl (.tmp 74) (.tmp 75) 26 5 (.int .u8 0) 1 rfl hu26 infoB rfl (by decide) (by omega) u7 (R) [58, 61] (some ⟨wr.heap.size, 0, none⟩) 2 2 (fun _ => True) (fun _ => False) rfl rfl (RW.out.alloc _).2.1 (reads_B _ _ [58, 61] (blk_new _ _) (by decide)) (fun _ _ h => h) (fun _ h => h.elim) (fun _ _ => trivial) (RW.out.alloc _).2.2.2.2 (RW.out.alloc _).2.2.2.2.size (by omega) ?_; intro v1 w1 h1 h2 h3 h4; have RW1 := Aside0.mk ((RW.out.alloc _).reb h1 h2 h3 h4); clear h1 h2 h3 h4)
            go_roundw
            case rel =>
              refine ⟨i + 1, false, R ++ [58, 61], [], N, rfl, rfl, rfl, by go_num, by omega, ⟨HST.out, fun h => (by cases h), by simp; omega, by simp, ?_, RW1.out⟩⟩
              have h1 := H5.out
              have h2 := HCO.out
              simp only [Bool.false_eq_true, if_false]
              omega
            case measure => simp [intOf]; omega
          · have h61' : p = 61 → nl ≠ [] := fun e h => h61 ⟨e, h⟩
            clear h61
            by_cases hend : i = L.length - 1
            · by_cases hn : alw p = true
              ·
                have hp0 : (0 : Int) ≤ (p.toNat : Int) := by omega
                have hp1 : (p.toNat : Int) ≤ 255 := by have := p.toNat_lt; omega
                have hi4 : decide ((0 : Int) < (i : Int)) = true := decide_eq_true (by omega)
                replace hcell : wr.cell? (ad.add i) = some (.int .u8 p.toNat) := hcell
                have hcount := HCD.out
                rw [if_neg h58] at hcount
                have HCO := Lib.hid hcount
                clear hcount HCD HBAD C1

                have hl1 : ((i : Int) != (L.length : Int) - 1) = false := by
                  have : (i : Int) = (L.length : Int) - 1 := by omega
                  simpa using this
                have hl2 : ((i : Int) == (L.length : Int) - 1) = true := by
                  have : (i : Int) = (L.length : Int) - 1 := by omega
                  simpa using this

                have ha : alwI (p.toNat : Int) = true := hn
                have hp61 : p ≠ 61 := fun e => by subst e; cases ha
                have hc61 : ((p.toNat : Int) == 61) = false := byte_ne (q := 61) hp61
                obtain ⟨n2, hn2⟩ : ∃ n2, n2 = nl ++ [p] := ⟨_, rfl⟩
                have hn2l : n2.length = nl.length + 1 := by rw [hn2]; simp
                have hn2b : n2.length ≤ i + 1 := by omega
                have hn2c : R.length + n2.length ≤ 5 * i + 1 := by omega
                have HN2 := Lib.hid hn2
                have HNL := Lib.hid hn2l
                obtain ⟨NM, hNM⟩ : ∃ NM : ByteArray, NM = ⟨n2.toArray⟩ := ⟨_, rfl⟩
                have HNM := Lib.hid hNM
                have HST := Lib.hid (HSTEP.out ⟨R ++ markL 1 (N.length + 1) n2 ++ [], N ++ [NM], none⟩ (by
                  simp only [cstep, nmOf, if_true, if_neg h58, decide_eq_true hend]
                  rw [if_neg (fun e => hp61 e.1), if_neg (fun e => by cases e.2), if_neg (fun e => by rcases e.2 with rfl | rfl | rfl <;> cases ha)]
                  have ha' : alw p = true := ha
                  simp [nameEnd, bytesEnd, ha', hNM, hn2]))
                have hcN : N.length + 1 ≤ 90 := by have := H5.out; omega
                have RW0 := RW
                clear hNM RW HSTEP hn2 hn2l hp61 h61' h58 hn HPR hend
                go_wp2_with (first | (go_at_call 57; refine (zzAllowed_is _ _ hp0 hp1).mono ?_; rintro e wz ⟨rfl, rfl⟩) | (at_builtin; refine Kd.R_append kB (w0 := w) w.heap.size rfl (.tmp 107) (.tmp 109) 26 5 (.int .u8 0) 1 rfl hu26 infoB rfl (by decide) (by omega) u11 (nl) p [encB p] (fun _ => True) (fun _ => False) rfl rfl rfl (fun _ hk => hk.elim) (fun _ _ => trivial) RW0.out.2.2.1 RW0.out.2.2.2.2 RW0.out.2.2.2.2.size (by omega) ?_; intro va wa h1 h2 h3 h4; rw [← HN2.out] at h1; have RWa := Aside0.mk (RW0.out.nm h1 h2 h3 h4); obtain ⟨C, f, rfl, hle, hC⟩ := Kd.R_reads RWa.out.2.2.1; have hcv := convert_back (c := f) hC; rw [← HNM.out] at hcv; clear h1 h2 h3 h4 hle hC) | (at_builtin; refine Kd.R_append Kd.string (w0 := w) w.heap.size rfl (.tmp 111) (.tmp 114) 28 9 (.string ⟨#[]⟩) 16 rfl hu28 infoS rfl (by decide) (by omega) u5 N NM [.string NM] (fun _ => True) (fun _ => False) rfl rfl rfl (fun _ hk => hk.elim) (fun _ _ => trivial) RWa.out.1 RWa.out.2.2.2.2 RWa.out.2.2.2.2.size (by omega) ?_; intro v1 w1 h1 h2 h3 h4; have RW1 := Aside0.mk (RWa.out.add h1 h2 h3); clear h1 h2 h3 h4) | (at_builtin; refine Kd.R_append kB (w0 := w) w.heap.size rfl (.tmp 128) (.tmp 129) 26 5 (.int .u8 0) 1 rfl hu26 infoB rfl (by decide) (by omega) u7 (R) 63 [encB 63] (fun _ => True) (fun _ => False) rfl rfl rfl (fun _ hk => hk.elim) (fun _ _ => trivial) RW1.out.2.1 RW1.out.2.2.2.2 RW1.out.2.2.2.2.size (hlim) ?_; intro v2 w2 h1 h2 h3 h4; have RW2 := Aside0.mk (RW1.out.reb h1 h2 h3 h4); clear h1 h2 h3 h4))
                go_roundw
                case rel =>
                  refine ⟨i + 1, false, R ++ markL 1 (N.length + 1) n2 ++ [], n2, N ++ [NM], rfl, rfl, by simp [curN], by go_num, by omega, ⟨HST.out, fun h => (by cases h), ?_, by omega, ?_, ?_⟩⟩
                  · simp [markL]
                    omega
                  · have h1 := H5.out
                    have h2 := HCO.out
                    simp
                    omega
                  · have h1 := RW2.out
                    simpa [markL] using h1
                case measure => simp [intOf]; omega
              ·
                have hnq : ¬ (p = 95 ∨ p = 46 ∨ p = 61) := fun hq => HBAD.out (by
                  simp only [cstep, nmOf, if_true, if_neg h58, decide_eq_true hend]
                  rw [if_neg (fun e => h61' e.1 e.2), if_neg (fun e => by cases e.2), if_pos ⟨trivial, hq⟩])

                have hp0 : (0 : Int) ≤ (p.toNat : Int) := by omega
                have hp1 : (p.toNat : Int) ≤ 255 := by have := p.toNat_lt; omega
                have hi4 : decide ((0 : Int) < (i : Int)) = true := decide_eq_true (by omega)
                replace hcell : wr.cell? (ad.add i) = some (.int .u8 p.toNat) := hcell
                have hcount := HCD.out
                rw [if_neg h58] at hcount
                have HCO := Lib.hid hcount
                clear hcount HCD HBAD C1

                have hl1 : ((i : Int) != (L.length : Int) - 1) = false := by
                  have : (i : Int) = (L.length : Int) - 1 := by omega
                  simpa using this
                have hl2 : ((i : Int) == (L.length : Int) - 1) = true := by
                  have : (i : Int) = (L.length : Int) - 1 := by omega
                  simpa using this

                have ha : alwI (p.toNat : Int) = false := by
                  cases h : alwI (p.toNat : Int) with
                  | false => rfl
                  | true => exact absurd h hn
                have ha' : alw p = false := ha
                obtain ⟨C, f, rfl, hle, hC⟩ := Kd.R_reads RW.out.2.2.1
                have hcv := convert_back (c := f) hC
                obtain ⟨NM, hNM⟩ : ∃ NM : ByteArray, NM = ⟨nl.toArray⟩ := ⟨_, rfl⟩
                have HNM := Lib.hid hNM
                rw [← hNM] at hcv
                have HST := Lib.hid (HSTEP.out ⟨R ++ markL 1 (N.length + 1) nl ++ [p], N ++ [NM], none⟩ (by
                  simp only [cstep, nmOf, if_true, if_neg h58, decide_eq_true hend]
                  rw [if_neg (fun e => h61' e.1 e.2), if_neg (fun e => by cases e.2), if_neg (fun e => hnq e.2)]
                  simp [nameEnd, bytesEnd, ha', hNM]))
                have hcN : N.length + 1 ≤ 90 := by have := H5.out; omega
                have RW0 := RW
                clear hNM RW HSTEP hC hle
                have hc61 : ((p.toNat : Int) == 61) = false := byte_ne (q := 61) (fun e => hnq (.inr (.inr e)))
                have h95 : ((p.toNat : Int) == 95) = false := byte_ne (q := 95) (fun e => hnq (.inl e))
                have h46 : ((p.toNat : Int) == 46) = false := byte_ne (q := 46) (fun e => hnq (.inr (.inl e)))
                clear h61' h58 hn ha' HPR hend hnq
                go_wp2_with (first | (go_at_call 57; refine (zzAllowed_is _ _ hp0 hp1).mono ?_; rintro e wz ⟨rfl, rfl⟩) | (at_builtin; refine Kd.R_append Kd.string (w0 := w) w.heap.size rfl (.tmp 111) (.tmp 114) 28 9 (.string ⟨#[]⟩) 16 rfl hu28 infoS rfl (by decide) (by omega) u5 N NM [.string NM] (fun _ => True) (fun _ => False) rfl rfl rfl (fun _ hk => hk.elim) (fun _ _ => trivial) RW0.out.1 RW0.out.2.2.2.2 RW0.out.2.2.2.2.size (by omega) ?_; intro v1 w1 h1 h2 h3 h4; have RW1 := Aside0.mk (RW0.out.add h1 h2 h3); clear h1 h2 h3 h4) | (at_builtin; refine Kd.R_append kB (w0 := w) w.heap.size rfl (.tmp 128) (.tmp 129) 26 5 (.int .u8 0) 1 rfl hu26 infoB rfl (by decide) (by omega) u7 (R) 63 [encB 63] (fun _ => True) (fun _ => False) rfl rfl rfl (fun _ hk => hk.elim) (fun _ _ => trivial) RW1.out.2.1 RW1.out.2.2.2.2 RW1.out.2.2.2.2.size (hlim) ?_; intro v2 w2 h1 h2 h3 h4; have RW2 := Aside0.mk (RW1.out.reb h1 h2 h3 h4); clear h1 h2 h3 h4) | (at_builtin; refine Kd.R_append kB (w0 := w) w.heap.size rfl (.tmp 177) (.tmp 179) 26 5 (.int .u8 0) 1 rfl hu26 infoB rfl (by decide) (by omega) v2 (R ++ [63]) p [encB p] (fun _ => True) (fun _ => False) rfl rfl rfl (fun _ hk => hk.elim) (fun _ _ => trivial) RW2.out.2.1 RW2.out.2.2.2.2 RW2.out.2.2.2.2.size (by simp only [List.length_append, List.length_cons, List.length_nil]; omega) ?_; intro v6 w6 h1 h2 h3 h4; have RW6 := Aside0.mk (RW2.out.reb h1 h2 h3 h4); clear h1 h2 h3 h4))
                go_roundw
                case rel =>
                  refine ⟨i + 1, false, R ++ markL 1 (N.length + 1) nl ++ [p], nl, N ++ [NM], rfl, rfl, by simp [curN], by go_num, by omega, ⟨HST.out, fun h => (by cases h), ?_, by omega, ?_, ?_⟩⟩
                  · simp [markL]
                    omega
                  · have h1 := H5.out
                    have h2 := HCO.out
                    simp
                    omega
                  · have h1 := RW6.out
                    simpa [markL] using h1
                case measure => simp [intOf]; omega
            · by_cases hn : alw p = true ∨ p = 95 ∨ p = 46
              ·
                by_cases hna : alw p = true
                · have ha : alwI (p.toNat : Int) = true := hna
                  clear hna
                  have hp0 : (0 : Int) ≤ (p.toNat : Int) := by omega
                  have hp1 : (p.toNat : Int) ≤ 255 := by have := p.toNat_lt; omega
                  have hi4 : decide ((0 : Int) < (i : Int)) = true := decide_eq_true (by omega)
                  replace hcell : wr.cell? (ad.add i) = some (.int .u8 p.toNat) := hcell
                  have hcount := HCD.out
                  rw [if_neg h58] at hcount
                  have HCO := Lib.hid hcount
                  clear hcount HCD HBAD C1

                  have hl1 : ((i : Int) != (L.length : Int) - 1) = true := by
                    have : ¬ (i : Int) = (L.length : Int) - 1 := by omega
                    simpa using this
                  have hl2 : ((i : Int) == (L.length : Int) - 1) = false := by
                    have : ¬ (i : Int) = (L.length : Int) - 1 := by omega
                    simpa using this

                  have hp61 : p ≠ 61 := by
                    rintro rfl
                    rcases hn with h | h | h <;> cases h
                  have hc61 : ((p.toNat : Int) == 61) = false := byte_ne (q := 61) hp61
                  have HST := Lib.hid (HSTEP.out ⟨R, N, some (nl ++ [p])⟩ (by
                    simp only [cstep, nmOf, if_true, if_neg h58, decide_eq_false hend]
                    rw [if_neg (fun e => hp61 e.1), if_pos ⟨hn, trivial⟩]))
                  have hp58 := Lib.hid h58
                  clear h58 hn hp61 h61' HPR hend HSTEP
                  go_wp2_with (first | (go_at_call 57; refine (zzAllowed_is _ _ hp0 hp1).mono ?_; rintro e wz ⟨rfl, rfl⟩) | (at_builtin; refine Kd.R_append kB (w0 := w) w.heap.size rfl (.tmp 95) (.tmp 97) 26 5 (.int .u8 0) 1 rfl hu26 infoB rfl (by decide) (by omega) u11 (nl) p [encB p] (fun _ => True) (fun _ => False) rfl rfl rfl (fun _ hk => hk.elim) (fun _ _ => trivial) RW.out.2.2.1 RW.out.2.2.2.2 RW.out.2.2.2.2.size (by omega) ?_; intro v1 w1 h1 h2 h3 h4; have RW1 := Aside0.mk (RW.out.nm h1 h2 h3 h4); clear h1 h2 h3 h4))
                  go_roundw
                  case rel =>
                    refine ⟨i + 1, true, R, nl ++ [p], N, rfl, rfl, rfl, by go_num, by omega, ⟨HST.out, fun _ => ⟨by omega, ?_⟩, ?_, by simp; omega, ?_, RW1.out⟩⟩
                    · rw [show i + 1 - 1 = i from rfl, ← HP.out]
                      simp [hp58.out]
                    · simp
                      omega
                    · have h1 := H5.out
                      have h2 := HCO.out
                      simp only [if_true]
                      omega
                  case measure => simp [intOf]; omega

                · have ha : alwI (p.toNat : Int) = false := by
                    cases h : alwI (p.toNat : Int) with
                    | false => rfl
                    | true => exact absurd h hna
                  by_cases hn95 : p = 95
                  · have h95 : ((p.toNat : Int) == 95) = true := by subst hn95; rfl
                    clear hna hn95
                    have hp0 : (0 : Int) ≤ (p.toNat : Int) := by omega
                    have hp1 : (p.toNat : Int) ≤ 255 := by have := p.toNat_lt; omega
                    have hi4 : decide ((0 : Int) < (i : Int)) = true := decide_eq_true (by omega)
                    replace hcell : wr.cell? (ad.add i) = some (.int .u8 p.toNat) := hcell
                    have hcount := HCD.out
                    rw [if_neg h58] at hcount
                    have HCO := Lib.hid hcount
                    clear hcount HCD HBAD C1

                    have hl1 : ((i : Int) != (L.length : Int) - 1) = true := by
                      have : ¬ (i : Int) = (L.length : Int) - 1 := by omega
                      simpa using this
                    have hl2 : ((i : Int) == (L.length : Int) - 1) = false := by
                      have : ¬ (i : Int) = (L.length : Int) - 1 := by omega
                      simpa using this

                    have hp61 : p ≠ 61 := by
                      rintro rfl
                      rcases hn with h | h | h <;> cases h
                    have hc61 : ((p.toNat : Int) == 61) = false := byte_ne (q := 61) hp61
                    have HST := Lib.hid (HSTEP.out ⟨R, N, some (nl ++ [p])⟩ (by
                      simp only [cstep, nmOf, if_true, if_neg h58, decide_eq_false hend]
                      rw [if_neg (fun e => hp61 e.1), if_pos ⟨hn, trivial⟩]))
                    have hp58 := Lib.hid h58
                    clear h58 hn hp61 h61' HPR hend HSTEP
                    go_wp2_with (first | (go_at_call 57; refine (zzAllowed_is _ _ hp0 hp1).mono ?_; rintro e wz ⟨rfl, rfl⟩) | (at_builtin; refine Kd.R_append kB (w0 := w) w.heap.size rfl (.tmp 95) (.tmp 97) 26 5 (.int .u8 0) 1 rfl hu26 infoB rfl (by decide) (by omega) u11 (nl) p [encB p] (fun _ => True) (fun _ => False) rfl rfl rfl (fun _ hk => hk.elim) (fun _ _ => trivial) RW.out.2.2.1 RW.out.2.2.2.2 RW.out.2.2.2.2.size (by omega) ?_; intro v1 w1 h1 h2 h3 h4; have RW1 := Aside0.mk (RW.out.nm h1 h2 h3 h4); clear h1 h2 h3 h4))
                    go_roundw
                    case rel =>
                      refine ⟨i + 1, true, R, nl ++ [p], N, rfl, rfl, rfl, by go_num, by omega, ⟨HST.out, fun _ => ⟨by omega, ?_⟩, ?_, by simp; omega, ?_, RW1.out⟩⟩
                      · rw [show i + 1 - 1 = i from rfl, ← HP.out]
                        simp [hp58.out]
                      · simp
                        omega
                      · have h1 := H5.out
                        have h2 := HCO.out
                        simp only [if_true]
                        omega
                    case measure => simp [intOf]; omega

                  · have h95 : ((p.toNat : Int) == 95) = false := byte_ne (q := 95) hn95
                    have h46 : ((p.toNat : Int) == 46) = true := by
                      rcases hn with h | h | h
                      · exact absurd h hna
                      · exact absurd h hn95
                      · subst h; rfl
                    clear hna hn95
                    have hp0 : (0 : Int) ≤ (p.toNat : Int) := by omega
                    have hp1 : (p.toNat : Int) ≤ 255 := by have := p.toNat_lt; omega
                    have hi4 : decide ((0 : Int) < (i : Int)) = true := decide_eq_true (by omega)
                    replace hcell : wr.cell? (ad.add i) = some (.int .u8 p.toNat) := hcell
                    have hcount := HCD.out
                    rw [if_neg h58] at hcount
                    have HCO := Lib.hid hcount
                    clear hcount HCD HBAD C1

                    have hl1 : ((i : Int) != (L.length : Int) - 1) = true := by
                      have : ¬ (i : Int) = (L.length : Int) - 1 := by omega
                      simpa using this
                    have hl2 : ((i : Int) == (L.length : Int) - 1) = false := by
                      have : ¬ (i : Int) = (L.length : Int) - 1 := by omega
                      simpa using this

                    have hp61 : p ≠ 61 := by
                      rintro rfl
                      rcases hn with h | h | h <;> cases h
                    have hc61 : ((p.toNat : Int) == 61) = false := byte_ne (q := 61) hp61
                    have HST := Lib.hid (HSTEP.out ⟨R, N, some (nl ++ [p])⟩ (by
                      simp only [cstep, nmOf, if_true, if_neg h58, decide_eq_false hend]
                      rw [if_neg (fun e => hp61 e.1), if_pos ⟨hn, trivial⟩]))
                    have hp58 := Lib.hid h58
                    clear h58 hn hp61 h61' HPR hend HSTEP
                    go_wp2_with (first | (go_at_call 57; refine (zzAllowed_is _ _ hp0 hp1).mono ?_; rintro e wz ⟨rfl, rfl⟩) | (at_builtin; refine Kd.R_append kB (w0 := w) w.heap.size rfl (.tmp 95) (.tmp 97) 26 5 (.int .u8 0) 1 rfl hu26 infoB rfl (by decide) (by omega) u11 (nl) p [encB p] (fun _ => True) (fun _ => False) rfl rfl rfl (fun _ hk => hk.elim) (fun _ _ => trivial) RW.out.2.2.1 RW.out.2.2.2.2 RW.out.2.2.2.2.size (by omega) ?_; intro v1 w1 h1 h2 h3 h4; have RW1 := Aside0.mk (RW.out.nm h1 h2 h3 h4); clear h1 h2 h3 h4))
                    go_roundw
                    case rel =>
                      refine ⟨i + 1, true, R, nl ++ [p], N, rfl, rfl, rfl, by go_num, by omega, ⟨HST.out, fun _ => ⟨by omega, ?_⟩, ?_, by simp; omega, ?_, RW1.out⟩⟩
                      · rw [show i + 1 - 1 = i from rfl, ← HP.out]
                        simp [hp58.out]
                      · simp
                        omega
                      · have h1 := H5.out
                        have h2 := HCO.out
                        simp only [if_true]
                        omega
                    case measure => simp [intOf]; omega
              ·
                have hp0 : (0 : Int) ≤ (p.toNat : Int) := by omega
                have hp1 : (p.toNat : Int) ≤ 255 := by have := p.toNat_lt; omega
                have hi4 : decide ((0 : Int) < (i : Int)) = true := decide_eq_true (by omega)
                replace hcell : wr.cell? (ad.add i) = some (.int .u8 p.toNat) := hcell
                have hcount := HCD.out
                rw [if_neg h58] at hcount
                have HCO := Lib.hid hcount
                clear hcount HCD HBAD C1

                have hl1 : ((i : Int) != (L.length : Int) - 1) = true := by
                  have : ¬ (i : Int) = (L.length : Int) - 1 := by omega
                  simpa using this
                have hl2 : ((i : Int) == (L.length : Int) - 1) = false := by
                  have : ¬ (i : Int) = (L.length : Int) - 1 := by omega
                  simpa using this

                have ha : alwI (p.toNat : Int) = false := by
                  cases h : alwI (p.toNat : Int) with
                  | false => rfl
                  | true => exact absurd (.inl h) hn
                have ha' : alw p = false := ha
                obtain ⟨C, f, rfl, hle, hC⟩ := Kd.R_reads RW.out.2.2.1
                have hcv := convert_back (c := f) hC

                have h95 : ((p.toNat : Int) == 95) = false := byte_ne (q := 95) (fun e => hn (.inr (.inl e)))
                have h46 : ((p.toNat : Int) == 46) = false := byte_ne (q := 46) (fun e => hn (.inr (.inr e)))
                obtain ⟨NM, hNM⟩ : ∃ NM : ByteArray, NM = ⟨nl.toArray⟩ := ⟨_, rfl⟩
                have HNM := Lib.hid hNM
                rw [← hNM] at hcv
                have HST := Lib.hid (HSTEP.out ⟨R ++ markL 1 (N.length + 1) nl ++ [p], N ++ [NM], none⟩ (by
                  simp only [cstep, nmOf, if_true, if_neg h58, decide_eq_false hend]
                  rw [if_neg (fun e => h61' e.1 e.2), if_neg (fun e => hn e.1), if_neg (fun e => by cases e.1)]
                  simp [nameEnd, bytesEnd, ha', hNM]))
                have hcN : N.length + 1 ≤ 90 := by have := H5.out; omega
                have RW0 := RW
                clear hNM RW HSTEP hC hle
                by_cases h61 : p = 61
                · have hc61 : ((p.toNat : Int) == 61) = true := by subst h61; rfl
                  have hnl0 : ((nl.length : Int) == 0) = false := by
                    have h := h61' h61
                    have : ¬ (nl.length : Int) = 0 := fun e => h (List.eq_nil_of_length_eq_zero (by omega))
                    simpa using this
                  clear h61 h61' h58 hn ha' HPR hend
                  go_wp2_with (first | (go_at_call 57; refine (zzAllowed_is _ _ hp0 hp1).mono ?_; rintro e wz ⟨rfl, rfl⟩) | (at_builtin; refine Kd.R_append Kd.string (w0 := w) w.heap.size rfl (.tmp 111) (.tmp 114) 28 9 (.string ⟨#[]⟩) 16 rfl hu28 infoS rfl (by decide) (by omega) u5 N NM [.string NM] (fun _ => True) (fun _ => False) rfl rfl rfl (fun _ hk => hk.elim) (fun _ _ => trivial) RW0.out.1 RW0.out.2.2.2.2 RW0.out.2.2.2.2.size (by omega) ?_; intro v1 w1 h1 h2 h3 h4; have RW1 := Aside0.mk (RW0.out.add h1 h2 h3); clear h1 h2 h3 h4) | (at_builtin; refine Kd.R_append kB (w0 := w) w.heap.size rfl (.tmp 128) (.tmp 129) 26 5 (.int .u8 0) 1 rfl hu26 infoB rfl (by decide) (by omega) u7 (R) 63 [encB 63] (fun _ => True) (fun _ => False) rfl rfl rfl (fun _ hk => hk.elim) (fun _ _ => trivial) RW1.out.2.1 RW1.out.2.2.2.2 RW1.out.2.2.2.2.size (hlim) ?_; intro v2 w2 h1 h2 h3 h4; have RW2 := Aside0.mk (RW1.out.reb h1 h2 h3 h4); clear h1 h2 h3 h4) | (at_builtin; refine Kd.R_append kB (w0 := w) w.heap.size rfl (.tmp 170) (.tmp 172) 26 5 (.int .u8 0) 1 rfl hu26 infoB rfl (by decide) (by omega) v2 (R ++ [63]) p [encB p] (fun _ => True) (fun _ => False) rfl rfl rfl (fun _ hk => hk.elim) (fun _ _ => trivial) RW2.out.2.1 RW2.out.2.2.2.2 RW2.out.2.2.2.2.size (by simp only [List.length_append, List.length_cons, List.length_nil]; omega) ?_; intro v6 w6 h1 h2 h3 h4; have RW6 := Aside0.mk (RW2.out.reb h1 h2 h3 h4); clear h1 h2 h3 h4))
                  go_roundw
                  case rel =>
                    refine ⟨i + 1, false, R ++ markL 1 (N.length + 1) nl ++ [p], nl, N ++ [NM], rfl, rfl, by simp [curN], by go_num, by omega, ⟨HST.out, fun h => (by cases h), ?_, by omega, ?_, ?_⟩⟩
                    · simp [markL]
                      omega
                    · have h1 := H5.out
                      have h2 := HCO.out
                      simp
                      omega
                    · have h1 := RW6.out
                      simpa [markL] using h1
                  case measure => simp [intOf]; omega
                · have hc61 : ((p.toNat : Int) == 61) = false := byte_ne (q := 61) h61
                  clear h61 h61' h58 hn ha' HPR hend
                  go_wp2_with (first | (go_at_call 57; refine (zzAllowed_is _ _ hp0 hp1).mono ?_; rintro e wz ⟨rfl, rfl⟩) | (at_builtin; refine Kd.R_append Kd.string (w0 := w) w.heap.size rfl (.tmp 111) (.tmp 114) 28 9 (.string ⟨#[]⟩) 16 rfl hu28 infoS rfl (by decide) (by omega) u5 N NM [.string NM] (fun _ => True) (fun _ => False) rfl rfl rfl (fun _ hk => hk.elim) (fun _ _ => trivial) RW0.out.1 RW0.out.2.2.2.2 RW0.out.2.2.2.2.size (by omega) ?_; intro v1 w1 h1 h2 h3 h4; have RW1 := Aside0.mk (RW0.out.add h1 h2 h3); clear h1 h2 h3 h4) | (at_builtin; refine Kd.R_append kB (w0 := w) w.heap.size rfl (.tmp 128) (.tmp 129) 26 5 (.int .u8 0) 1 rfl hu26 infoB rfl (by decide) (by omega) u7 (R) 63 [encB 63] (fun _ => True) (fun _ => False) rfl rfl rfl (fun _ hk => hk.elim) (fun _ _ => trivial) RW1.out.2.1 RW1.out.2.2.2.2 RW1.out.2.2.2.2.size (hlim) ?_; intro v2 w2 h1 h2 h3 h4; have RW2 := Aside0.mk (RW1.out.reb h1 h2 h3 h4); clear h1 h2 h3 h4) | (at_builtin; refine Kd.R_append kB (w0 := w) w.heap.size rfl (.tmp 170) (.tmp 172) 26 5 (.int .u8 0) 1 rfl hu26 infoB rfl (by decide) (by omega) v2 (R ++ [63]) p [encB p] (fun _ => True) (fun _ => False) rfl rfl rfl (fun _ hk => hk.elim) (fun _ _ => trivial) RW2.out.2.1 RW2.out.2.2.2.2 RW2.out.2.2.2.2.size (by simp only [List.length_append, List.length_cons, List.length_nil]; omega) ?_; intro v6 w6 h1 h2 h3 h4; have RW6 := Aside0.mk (RW2.out.reb h1 h2 h3 h4); clear h1 h2 h3 h4))
                  go_roundw
                  case rel =>
                    refine ⟨i + 1, false, R ++ markL 1 (N.length + 1) nl ++ [p], nl, N ++ [NM], rfl, rfl, by simp [curN], by go_num, by omega, ⟨HST.out, fun h => (by cases h), ?_, by omega, ?_, ?_⟩⟩
                    · simp [markL]
                      omega
                    · have h1 := H5.out
                      have h2 := HCO.out
                      simp
                      omega
                    · have h1 := RW6.out
                      simpa [markL] using h1
                  case measure => simp [intOf]; omega
    ·
      have hie : i = L.length := by omega
      subst hie
      have hfin := C1.out
      rw [List.drop_length, crun] at hfin
      injection hfin with hfin
      subst hfin
      obtain ⟨C, f, rfl, hle, hC⟩ := Kd.R_reads RW.out.2.1
      have hcv := convert_back (c := f) hC
      clear hC hle hlt hbad hcd C1
      go_wp2
      refine bodyPost_ret (v := .tuple #[.string ⟨R.toArray⟩, u5, .nilIface]) (by simp [results, Tryd.results44, go_sem]) rfl ⟨u5, rfl, RW.out.1, RW.out.2.2.2.2⟩
end Go.Proofs.YtnpjnekoifheoaaDoor
