/- The decoder reads a palette: the whole. The decoder reads a chunk: its head. No conditions but those in each theorem's own binders. -/
import Derived.Test.YtnpkgmgedgcjmaaGreatDoorCE8
namespace Go.Proofs.YtnpkgmgedgcjmaaGreatDoor
set_option linter.unusedVariables false
set_option linter.unusedSimpArgs false
open Go.RowKit Go.Png

theorem plte_room {depth np : Nat} (hd : depth = 1 ∨ depth = 2 ∨ depth = 4 ∨ depth = 8 ∨ depth = 16) (h : np ≤ 256) (h2 : np ≤ 2 ^ depth) :
    depth = 1 ∧ np ≤ 2 ∨ depth = 2 ∧ np ≤ 4 ∨ depth = 4 ∧ np ≤ 16 ∨ depth = 8 ∧ np ≤ 256 ∨ depth = 16 ∧ np ≤ 65536 := by
  rcases hd with rfl | rfl | rfl | rfl | rfl <;> simp at h2 ⊢ <;> omega

theorem slTmp (w : World) (D n : Nat) (h : n ≤ 768) : (Instr.sliceAt 127 (.pointer (some ⟨D, 10, none⟩)) none (some (.int .i64 (n : Nat))) none).run Tryz.prog w = .ok (.slice (some ⟨D, 10, none⟩) n 768) w := by
  have hl : Tryz.prog.arrayLen 127 = 768 := by kernel_rfl
  rw [run_sliceAt_array_h w 127 ⟨D, 10, none⟩ (by kernel_rfl) .i64 n (by omega) (by rw [hl]; omega)]
  have hs : ((sizeOf (Tryz.prog.elem 127)).run Tryz.prog w) = .ok 1 w := by kernel_rfl
  rw [hs, hl]
  simp [slicedAt, Result.andThen, Addr.add]

set_option maxRecDepth 100000 in
set_option maxHeartbeats 8000000 in
theorem parsePLTE (L : Lay) (r : Src) (D C : Nat) (s : Sep L r D C) (w : World) (d : Dec) (inp : List UInt8) (n np depth : Nat) (hn : n = 3 * np) (hn1 : 1 ≤ np) (hnp : np ≤ 256) (hdp : d.depth = (depth : Nat))
    (hd : depth = 1 ∨ depth = 2 ∨ depth = 4 ∨ depth = 8 ∨ depth = 16) (hn2 : np ≤ 2 ^ depth) (hk : isPal d.cb = true ∨ d.cb = 6 ∨ d.cb = 11 ∨ d.cb = 14 ∨ d.cb = 15) (h : St L r D C w d inp) :
    Calls Tryz.prog 89 #[.pointer (some ⟨D, 0, none⟩), .int .u32 n] w fun e w' => PlteRes L r D C w d inp np e w' := by
  have hr5 := plte_room hd hnp hn2
  clear hd hn2
  have c0 := h.dec.r
  have c5 := h.dec.depth
  rw [hdp] at c5
  have hq1 : (n : Int).tdiv 3 = (np : Int) := by rw [Int.tdiv_eq_ediv_of_nonneg (by omega)]; omega
  have hq2 : (n : Int).tmod 3 = 0 := by rw [Int.tmod_eq_emod_of_nonneg (by omega)]; omega
  have hcall := (h.drew s).call s 10 n 768 (by omega) (by omega) (by omega) (by omega) (by omega)
  have HC := Lib.hid hcall; clear hcall
  have HST0 := Lib.hid h; have HK := Lib.hid hk; have HN := Lib.hid hn
  clear h hk hn
  have t0 : decide ((256 : Int) < (np : Int)) = false := decide_eq_false (by omega)
  go_enter Tryz.func89, Tryz.ntmps89
  go_upto_region 2 with fail
  go_cut [33] (fun v wx => v = .bool false ∧ wx = w)
  case first =>
    rcases hr5 with ⟨rfl, h5⟩ | ⟨rfl, h5⟩ | ⟨rfl, h5⟩ | ⟨rfl, h5⟩ | ⟨rfl, h5⟩
    · have t1 : decide ((2 : Int) < (np : Int)) = false := decide_eq_false (by omega)
      as_aux_lemma =>
        go_wp2
        go_meet
        case rel => exact ⟨by simp [t0, t1], rfl⟩
    · have t1 : decide ((4 : Int) < (np : Int)) = false := decide_eq_false (by omega)
      as_aux_lemma =>
        go_wp2
        go_meet
        case rel => exact ⟨by simp [t0, t1], rfl⟩
    · have t1 : decide ((16 : Int) < (np : Int)) = false := decide_eq_false (by omega)
      as_aux_lemma =>
        go_wp2
        go_meet
        case rel => exact ⟨by simp [t0, t1], rfl⟩
    · have t1 : decide ((256 : Int) < (np : Int)) = false := decide_eq_false (by omega)
      as_aux_lemma =>
        go_wp2
        go_meet
        case rel => exact ⟨by simp [t0, t1], rfl⟩
    · have t1 : decide ((65536 : Int) < (np : Int)) = false := decide_eq_false (by omega)
      as_aux_lemma =>
        go_wp2
        go_meet
        case rel => exact ⟨by simp [t0, t1], rfl⟩
  case rest =>
    obtain ⟨rfl, rfl⟩ := hcut
    clear hr5 c5 hq1 hq2 t0
    have hn7 : n ≤ 768 := by have := HN.out; omega
    have e1 : IntKind.i64.wrap (3 * (np : Int)) = (n : Int) := by rw [IntWalk.i64_in _ (by omega)]; have := HN.out; omega
    have hsl := slTmp wc.drew D n hn7
    by_cases hl : n ≤ inp.length
    · go_wp2
      go_region_with (go_at_call 84; refine HC.out.mono ?_; rintro e w1 ⟨err, hp⟩; have he := hp.end_; rw [Nat.min_eq_left hl] at he; subst he; have HP := Lib.hid hp; clear hp; go_simp)
      all_goals
        obtain ⟨st1, m1, b1⟩ := St.read HST0.out s HP.out.undrew (by omega) (by omega)
        have he := HP.out.good hl
        subst he
        have hlen : (inp.take n).length = n := by simp; omega
        have hcw := crcWrite L w1.drew (st1.drew s |>.env s) C D 10 768 d.crc (inp.take n) (by omega) st1.dec.crc st1.dec.fzc b1
        rw [hlen] at hcw
        have HCW := Lib.hid hcw; clear hcw
        have c2 := st1.dec.crcp
        have st2 := (st1.drew s).setCrc s (crcW d.crc (inp.take n))
        have m2 : Mod (foot r D C) wc (w1.drew.setCell ⟨C, 0, none⟩ (.int .u32 ((crcW d.crc (inp.take n)).toNat : Nat))) := m1.drew.trans (Mod.setC _)
        have q' : Bytes (w1.drew.setCell ⟨C, 0, none⟩ (.int .u32 ((crcW d.crc (inp.take n)).toNat : Nat))) D 10 (inp.take n) := fun i hi => by
          rw [World.cell?_setCell_other _ _ _ _ (fun e => s.ne (congrArg Addr.block e).symm)]; exact b1 i hi
        have HST := Lib.hid st2; have HM := Lib.hid m2; have HQ := Lib.hid q'
        have HL := Lib.hid hl; have HLEN := Lib.hid hlen
        have hsl2 := slTmp w1.drew D n hn7
        clear q' b1 st1 m1 hlen hl st2 m2 hsl
        clear HC HP
        go_upto_region 7 with fail
        go_cut [] (fun wx => wx = w1.drew.setCell ⟨C, 0, none⟩ (.int .u32 ((crcW d.crc (inp.take n)).toNat : Nat)))
        case first =>
          go_wp2
          go_region_with (go_at_call 87; refine HCW.out.mono ?_; rintro e w2 ⟨rfl, hw2⟩; have HW2 := Lib.hid hw2; clear hw2; go_simp)
          go_wp2
          all_goals
            go_meet
            case rel => exact HW2.out.symm
        case rest =>
          obtain ⟨w2, rfl⟩ : ∃ w2, w2 = wc := ⟨_, rfl⟩
          rw [← hcut] at HST HM HQ
          clear hcut HCW
          rename_i K hK
          refine hK _ _ ?_
          refine plte_tail L r D C s w2 _ (inp.drop n) (inp.take n) np hnp HST.out HQ.out (by rw [HLEN.out, HN.out]) HK.out _ _ _ _ _ _ _ _ _ _ _ _ _ _ _ _ _ _ _ _ _ _ _ _ _ _ _ _ _ _ _ _ _ _ _ _ _ _ _ _ _ _ _ _ _ _ _ _ _ _ _ _ _ _ _ _ _ _ _ _ _ _ _ _ _ _ _ _ _ _ _ _ _ _ _ _ _ _ _ _ _ _ _ _ _ _ _ _ _ _ _ _ _ _ _ _ _ _ _ _ _ _ _ _ _ _ _ _ _ _ _ _ _ _ _ _ _ _ _ _ _ _ _ _ _ _ _ _ _ _ _ _ _ _ _ _ _ _ _ _ ?_
          intro e w' pv mm st hp
          have h3 : 3 * np = n := HN.out.symm
          refine ⟨HM.out.trans mm, fun hok => ?_, fun hok => ?_⟩
          · rw [h3]
            unfold plteOk at hok
            rw [h3] at hok
            simp only [Bool.and_eq_true] at hok
            refine ⟨st.good hok.2, pv, ?_, hp⟩
            have := st.st
            rw [List.drop_drop] at this
            exact this
          · unfold plteOk at hok
            rw [h3, decide_eq_true HL.out, Bool.true_and] at hok
            exact st.bad hok
    · go_wp2
      go_region_with (go_at_call 84; refine HC.out.mono ?_; rintro e w1 ⟨err, hp⟩; obtain rfl := hp.end_; have HP := Lib.hid hp; clear hp; go_simp)
      all_goals
        obtain ⟨st1, m1, b1⟩ := St.read HST0.out s HP.out.undrew (by omega) (by omega)
        obtain ⟨g, hg⟩ := HP.out.bad (by omega)
        obtain ⟨t, v, hv⟩ := GErr.val_iface L g
        rw [hv] at hg
        subst hg
        have HV := Lib.hid hv; clear hv
        have HM := Lib.hid m1; clear m1 st1 b1
        have HL := Lib.hid hl
        as_aux_lemma =>
          go_wp2
          go_ret
          refine ⟨HM.out, fun hok => ?_, fun _ => ⟨g, by rw [HV.out]; rfl⟩⟩
          unfold plteOk at hok
          rw [HN.out.symm, decide_eq_false HL.out, Bool.false_and] at hok
          cases hok

end Go.Proofs.YtnpkgmgedgcjmaaGreatDoor
namespace Go.Proofs.YtnpkgmgedgcjmaaGreatDoor
set_option linter.unusedVariables false
set_option linter.unusedSimpArgs false
open Go.RowKit Go.Png

theorem Res.value {L : Lay} {r : Src} {D C : Nat} {w w' : World} {ok : Option (Dec × List UInt8)} {e : Ending} (h : Res L r D C w ok e w') : ∃ v, e = .returned v := by
  cases ok with
  | none => obtain ⟨g, hg⟩ := h.bad rfl; exact ⟨_, hg⟩
  | some p => exact ⟨_, (h.good p.1 p.2 rfl).1⟩

/-- The names of the chunks that the decoder knows. -/
def nIHDR : List UInt8 := [73, 72, 68, 82]
def nPLTE : List UInt8 := [80, 76, 84, 69]
def ntRNS : List UInt8 := [116, 82, 78, 83]
def nIDAT : List UInt8 := [73, 68, 65, 84]
def nIEND : List UInt8 := [73, 69, 78, 68]

theorem bytes_crc {w : World} {C D : Nat} (ne : D ≠ C) {off : Nat} {l : List UInt8} (v : Value) (h : Bytes w D off l) : Bytes (w.setCell ⟨C, 0, none⟩ v) D off l := fun i hi => by
  rw [World.cell?_setCell_other _ _ _ _ (fun e => ne (congrArg Addr.block e).symm)]; exact h i hi

theorem _root_.Go.Png.Bytes.part {w : World} {b off : Nat} {l : List UInt8} (h : Bytes w b off l) (k n : Nat) : Bytes w b (off + k) ((l.drop k).take n) := fun i hi => by
  simp at hi
  have := h (k + i) (by omega)
  have e : off + k + i = off + (k + i) := by omega
  rw [e, this]
  simp

set_option maxRecDepth 100000 in
set_option maxHeartbeats 8000000 in
/-- The head of a chunk is read: what is left is to be shown from the test of its name on. -/
theorem chunk_head (L : Lay) (r : Src) (D C : Nat) (s : Sep L r D C) (w : World) (d : Dec) (inp : List UInt8) (cfg : Bool) (hl : 8 ≤ inp.length) (h : St L r D C w d inp) (R : Ending → World → Prop)
    (hP : ∀ w' (u2 u3 u5 u6 u8 u9 u10 u11 u12 u13 u14 u15 u16 u17 u18 u19 u20 u21 u22 u23 u24 u25 u26 u27 u28 u29 u30 u31 u32 u33 u34 u35 u36 u37 u38 u39 u40 u41 u42 u43 u44 u45 u46 u47 u48 u49 u50 u51 u52 u53 u54 u55 u56 u57 u58 u59 u60 u61 u62 u63 u64 u65 u66 u67 u68 u69 u70 u71 u72 u73 u74 u75 u76 u77 u78 u79 u80 u81 u82 u83 u84 u85 u86 u87 u88 u89 u90 u91 u92 u93 u94 u95 u96 u97 u98 u99 u100 u101 u102 u103 u104 u105 u106 u107 u108 u109 u110 u111 u112 u113 u114 u115 u116 u117 u118 u119 u120 u121 u122 u123 u124 u125 u126 u127 u128 u129 u130 u131 u132 u133 u134 u135 u136 u137 u138 u139 u140 u141 u142 u143 u144 u145 u146 u147 u148 u149 u150 u151 u152 u153 u154 u155 u156 u157 u158 u159 u160 u161 u162 u163 u164 u165 u166 u167 u168 u169 u170 u171 u172 u173 u174 u175 u176 u177 u178 u179 u180 u181 u182 u183 u184 u185 u186 u187 u188 u189 u190 u191 u192 u193 u194 u195 u196 u197 u198 u199 u200 u201 u202 u203 u204 u205 u206 u207 u208 : Value), St L r D C w' { d with crc := crcW 0#32 ((inp.drop 4).take 4) } (inp.drop 8) → Bytes w' D 14 ((inp.drop 4).take 4) → Mod (foot r D C) w w' →
      Code.wp Tryz.prog (navc [1, 1, 1, 1, 1] (textOf Tryz.f65)) (bodyPost Tryz.prog Tryz.f65 R)
        ⟨#[.pointer (some ⟨D, 0, none⟩), .bool cfg, u2, u3, .nilIface, u5, u6, .int .u32 (beAt inp : Nat), u8, u9, u10, u11, u12, u13, u14, u15, u16, u17, u18, u19, u20, u21, u22, u23, u24, u25, u26, u27, u28, u29, u30, u31, u32, u33, u34, u35, u36, u37, u38, u39, u40, u41, u42, u43, u44, u45, u46, u47, u48, u49, u50, u51, u52, u53, u54, u55, u56, u57, u58, u59, u60, u61, u62, u63, u64, u65, u66, u67, u68, u69, u70, u71, u72, u73, u74, u75, u76, u77, u78, u79, u80, u81, u82, u83, u84, u85, u86, u87, u88, u89, u90, u91, u92, u93, u94, u95, u96, u97, u98, u99, u100, u101, u102, u103, u104, u105, u106, u107, u108, u109, u110, u111, u112, u113, u114, u115, u116, u117, u118, u119, u120, u121, u122, u123, u124, u125, u126, u127, u128, u129, u130, u131, u132, u133, u134, u135, u136, u137, u138, u139, u140, u141, u142, u143, u144, u145, u146, u147, u148, u149, u150, u151, u152, u153, u154, u155, u156, u157, u158, u159, u160, u161, u162, u163, u164, u165, u166, u167, u168, u169, u170, u171, u172, u173, u174, u175, u176, u177, u178, u179, u180, u181, u182, u183, u184, u185, u186, u187, u188, u189, u190, u191, u192, u193, u194, u195, u196, u197, u198, u199, u200, u201, u202, u203, u204, u205, u206, u207, u208], []⟩ w') :
    Calls Tryz.prog 65 #[.pointer (some ⟨D, 0, none⟩), .bool cfg] w R := by
  have HP0 := Lib.hid hP; clear hP
  have c0 := h.dec.r
  have hcall := (h.drew s).call s 10 8 768 (by omega) (by omega) (by omega) (by omega) (by omega)
  have HC := Lib.hid hcall; clear hcall
  have HST0 := Lib.hid h; clear h
  go_enter Tryz.func65, Tryz.ntmps65
  go_wp2
  go_region_with (go_at_call 84; refine HC.out.mono ?_; rintro e w1 ⟨err, hp⟩; have he := hp.end_; rw [Nat.min_eq_left hl] at he; subst he; have HP := Lib.hid hp; clear hp; go_simp)
  all_goals
    obtain ⟨st1, m1, b1⟩ := St.read HST0.out s HP.out.undrew (by omega) (by omega)
    have he := HP.out.good hl
    subst he
    have b4 : Bytes w1 D 10 (inp.take 4) := by
      have := b1.part 0 4
      simpa [List.take_take] using this
    obtain ⟨q0, q1, q2, q3⟩ := b4.cell4 (by omega)
    have b5 : Bytes w1 D 14 ((inp.drop 4).take 4) := by
      have := b1.part 4 4
      rw [List.drop_take, List.take_take] at this
      exact this
    have hbe : Calls Tryz.prog 85 #[.slice (some ⟨D, 10, none⟩) 4 768] w1 fun e w' => e = .returned (.int .u32 (beAt inp : Nat)) ∧ ∃ m, w' = w1.drewN m :=
      beUint32 _ D 10 4 768 _ _ _ _ (by omega) q0 q1 q2 q3
    have HBE := Lib.hid hbe; clear hbe
    have HST1 := Lib.hid st1; have HM1 := Lib.hid m1; have HB5 := Lib.hid b5
    clear st1 m1 b5 b4 b1 q0 q1 q2 q3 HC HP
    go_upto_region 4 with fail
    go_cut [7] (fun v wx => v = .int .u32 (beAt inp : Nat) ∧ St L r D C wx d (inp.drop 8) ∧ Bytes wx D 14 ((inp.drop 4).take 4) ∧ Mod (foot r D C) w wx)
    case first =>
      go_wp2_with (go_at_call 85; refine HBE.out.mono ?_; rintro e w2 ⟨rfl, m, hm⟩)
      go_meet
      case rel => subst hm; exact ⟨rfl, HST1.out.drewN s m, HB5.out.mod (L := fun _ => False) ((Mod.refl _ _).drewN m) HST1.out.dec.ltD id, HM1.out.drewN m⟩
    case rest =>
      obtain ⟨rfl, st2, b2, m2⟩ := hcut
      have c2 := st2.dec.crcp
      have hrs := crcReset wc C _ st2.dec.crc st2.dec.fzc
      have HRS := Lib.hid hrs; clear hrs
      have st3 := st2.setCrc s 0#32
      have b3 := bytes_crc s.ne (.int .u32 ((0#32 : BitVec 32).toNat : Nat)) b2
      have m3 : Mod (foot r D C) w (wc.setCell ⟨C, 0, none⟩ (.int .u32 ((0#32 : BitVec 32).toNat : Nat))) := m2.trans (Mod.setC _)
      have HST3 := Lib.hid st3; have HB3 := Lib.hid b3; have HM3 := Lib.hid m3
      clear st2 b2 m2 st3 b3 m3 HST1 HM1 HB5 HBE HST0
      go_upto_region 5 with fail
      go_cut [] (fun wx => wx = wc.setCell ⟨C, 0, none⟩ (.int .u32 ((0#32 : BitVec 32).toNat : Nat)))
      case first =>
        go_wp2_with (go_at_call 86; refine HRS.out.mono ?_; rintro e w2 ⟨rfl, hm⟩)
        go_meet
        case rel => exact hm.symm
      case rest =>
        rw [← hcut] at HST3 HB3 HM3
        clear hcut HRS c2
        have hcw := crcWrite L wc.drew (HST3.out.drew s |>.env s) C D 14 764 0#32 ((inp.drop 4).take 4) (by simp; omega) HST3.out.dec.crc HST3.out.dec.fzc HB3.out
        have hlen : ((inp.drop 4).take 4).length = 4 := by simp; omega
        rw [hlen] at hcw
        have HCW := Lib.hid hcw; clear hcw hlen
        have c2 := HST3.out.dec.crcp
        have st4 := (HST3.out.drew s).setCrc s (crcW 0#32 ((inp.drop 4).take 4))
        have b4 := bytes_crc s.ne (.int .u32 ((crcW 0#32 ((inp.drop 4).take 4)).toNat : Nat)) (w := wc.drew) HB3.out
        have m4 : Mod (foot r D C) w (wc.drew.setCell ⟨C, 0, none⟩ (.int .u32 ((crcW 0#32 ((inp.drop 4).take 4)).toNat : Nat))) := HM3.out.drew.trans (Mod.setC _)
        have HST4 := Lib.hid st4; have HB4 := Lib.hid b4; have HM4 := Lib.hid m4
        clear st4 b4 m4 HST3 HB3 HM3
        rename_i K hK
        refine hK _ _ ?_
        go_upto_region 6 with fail
        go_cut [] (fun wx => wx = wc.drew.setCell ⟨C, 0, none⟩ (.int .u32 ((crcW 0#32 ((inp.drop 4).take 4)).toNat : Nat)))
        case first =>
          go_wp2
          go_region_with (go_at_call 87; refine HCW.out.mono ?_; rintro e w2 ⟨rfl, hw2⟩; have HW2 := Lib.hid hw2; clear hw2; go_simp)
          go_wp2
          all_goals
            go_meet
            case rel => exact HW2.out.symm
        case rest =>
          rw [← hcut] at HST4 HB4 HM4
          clear hcut HCW c2
          rename_i K hK
          refine hK _ _ ?_
          exact HP0.out _ _ _ _ _ _ _ _ _ _ _ _ _ _ _ _ _ _ _ _ _ _ _ _ _ _ _ _ _ _ _ _ _ _ _ _ _ _ _ _ _ _ _ _ _ _ _ _ _ _ _ _ _ _ _ _ _ _ _ _ _ _ _ _ _ _ _ _ _ _ _ _ _ _ _ _ _ _ _ _ _ _ _ _ _ _ _ _ _ _ _ _ _ _ _ _ _ _ _ _ _ _ _ _ _ _ _ _ _ _ _ _ _ _ _ _ _ _ _ _ _ _ _ _ _ _ _ _ _ _ _ _ _ _ _ _ _ _ _ _ _ _ _ _ _ _ _ _ _ _ _ _ _ _ _ _ _ _ _ _ _ _ _ _ _ _ _ _ _ _ _ _ _ _ _ _ _ _ _ _ _ _ _ _ _ _ _ _ _ _ _ _ _ _ _ _ _ _ _ _ _ _ _ _ _ _ HST4.out HB4.out HM4.out

end Go.Proofs.YtnpkgmgedgcjmaaGreatDoor
