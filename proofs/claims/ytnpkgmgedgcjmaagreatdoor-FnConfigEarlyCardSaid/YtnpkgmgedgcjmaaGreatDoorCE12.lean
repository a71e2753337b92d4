/- The decoder reads the alphas of a palette: the whole method, on bytes that are right. No conditions but those in each theorem's own binders. -/
import Derived.Test.YtnpkgmgedgcjmaaGreatDoorCE11
namespace Go.Proofs.YtnpkgmgedgcjmaaGreatDoor
set_option linter.unusedVariables false
set_option linter.unusedSimpArgs false
open Go.RowKit Go.Png

theorem slTmpU (w : World) (D n : Nat) (h : n ≤ 768) : (Instr.sliceAt 127 (.pointer (some ⟨D, 10, none⟩)) none (some (.int .u32 (n : Nat))) none).run Tryz.prog w = .ok (.slice (some ⟨D, 10, none⟩) n 768) w := by
  have hl : Tryz.prog.arrayLen 127 = 768 := by kernel_rfl
  rw [run_sliceAt_array_h w 127 ⟨D, 10, none⟩ (by kernel_rfl) .u32 n (by omega) (by rw [hl]; omega)]
  have hs : ((sizeOf (Tryz.prog.elem 127)).run Tryz.prog w) = .ok 1 w := by kernel_rfl
  rw [hs, hl]
  simp [slicedAt, Result.andThen, Addr.add]

/-- The bytes of the alphas are there, and their sum is right. -/
def trnsOk (d : Dec) (inp : List UInt8) (n : Nat) : Prop := n ≤ inp.length ∧ sumOk (inp.drop n) (crcW d.crc (inp.take n)) = true

/-- What a chunk of alphas comes to. -/
structure TrnsRes (L : Lay) (r : Src) (D C : Nat) (w : World) (d : Dec) (inp pl : List UInt8) (np n pb : Nat) (e : Ending) (w' : World) : Prop where
  end_ : e = .returned .nilIface
  st : St L r D C w' { d with pal := .slice (some ⟨pb, 0, none⟩) np 256, crc := crcW d.crc (inp.take n) } (inp.drop (n + 4))
  pal : PalAt L r D C w' pb (palC np n pl (inp.take n))
  mod : Mod (fun k => foot r D C k ∨ k = pb) w w'


set_option maxRecDepth 100000 in
set_option maxHeartbeats 4000000 in
theorem parsetRNS_pal7 (L : Lay) (r : Src) (D C : Nat) (s : Sep L r D C) (w : World) (d : Dec) (inp pl : List UInt8) (np n pb : Nat) (hnp : np ≤ 256) (hn : n ≤ np) (hn1 : 1 ≤ n) (hok : trnsOk d inp n)
    (h : St L r D C w { d with pal := .slice (some ⟨pb, 0, none⟩) np 256 } inp) (hp : PalAt L r D C w pb (palE np pl)) (hk : d.cb = 7) :
    Calls Tryz.prog 91 #[.pointer (some ⟨D, 0, none⟩), .int .u32 n] w fun e w' => TrnsRes L r D C w d inp pl np n pb e w' := by
  obtain ⟨hl, hsum⟩ := hok
  have c7 := h.dec.cb
  rw [hk] at c7
  have c0 := h.dec.r
  have hcall := (h.drew s).call s 10 n 768 (by omega) (by omega) (by omega) (by omega) (by omega)
  have HC := Lib.hid hcall; clear hcall
  have HST0 := Lib.hid h; have HP0 := Lib.hid hp; have HSUM := Lib.hid hsum
  have t0 : decide ((256 : Int) < (n : Int)) = false := decide_eq_false (by omega)
  have hsl := slTmpU w.drew D n (by omega)
  clear h hp hsum hk
  go_enter Tryz.func91, Tryz.ntmps91
  go_upto_region 39 with fail
  go_region_with (go_at_call 84; refine HC.out.mono ?_; rintro e w1 ⟨err, hp⟩; have he := hp.end_; rw [Nat.min_eq_left hl] at he; subst he; have HP := Lib.hid hp; clear hp; go_simp)
  all_goals
    obtain ⟨st1, m1, b1⟩ := St.read HST0.out s HP.out.undrew (by omega) (by omega)
    have he := HP.out.good hl
    subst he
    have pp1 : PalAt L r D C w1 pb (palE np pl) := HP0.out.mod m1 HP0.out.foot
    have hlen : (inp.take n).length = n := by simp; omega
    have hcw := crcWrite L w1.drew (st1.drew s |>.env s) C D 10 768 d.crc (inp.take n) (by omega) st1.dec.crc st1.dec.fzc b1
    rw [hlen] at hcw
    have HCW := Lib.hid hcw; clear hcw
    have c2 := st1.dec.crcp
    have st2 : St L r D C (w1.drew.setCell ⟨C, 0, none⟩ (.int .u32 ((crcW d.crc (inp.take n)).toNat : Nat))) { d with pal := .slice (some ⟨pb, 0, none⟩) np 256, crc := crcW d.crc (inp.take n) } (inp.drop n) := (st1.drew s).setCrc s (crcW d.crc (inp.take n))
    have m2 : Mod (foot r D C) w (w1.drew.setCell ⟨C, 0, none⟩ (.int .u32 ((crcW d.crc (inp.take n)).toNat : Nat))) := m1.drew.trans (Mod.setC _)
    have q' : Bytes (w1.drew.setCell ⟨C, 0, none⟩ (.int .u32 ((crcW d.crc (inp.take n)).toNat : Nat))) D 10 (inp.take n) := fun i hi => by
      rw [World.cell?_setCell_other _ _ _ _ (fun e => s.ne (congrArg Addr.block e).symm)]; exact b1 i hi
    have pp2 : PalAt L r D C (w1.drew.setCell ⟨C, 0, none⟩ (.int .u32 ((crcW d.crc (inp.take n)).toNat : Nat))) pb (palE np pl) :=
      pp1.mod (((Mod.refl (foot r D C) w1).drew).trans (Mod.setC _)) pp1.foot
    have HST := Lib.hid st2; have HM := Lib.hid m2; have HQ := Lib.hid q'; have HPP := Lib.hid pp2
    have HLEN := Lib.hid hlen
    have hsl2 := slTmp w1.drew D n (by omega)
    clear q' b1 st1 m1 hlen st2 m2 hsl pp1 pp2
    clear HC HP c7 c0 t0
    go_upto_region 42 with fail
    go_still_tail 9, (by kernel_rfl)
    change wpList _ _ _ _ _ w1.drew
    clear hsl2 c2
    go_wp2_with (fail)
    refine HCW.out.mono ?_
    rintro e w2 ⟨rfl, hw2⟩
    rw [hw2] at HST HM HQ HPP
    clear hw2 HCW
    have c6 := HST.out.dec.pal
    have g1 : decide (np < n) = false := decide_eq_false (by omega)
    have g2 : decide ((np : Int) < (n : Int)) = false := decide_eq_false (by omega)
    go_upto_block 2 with fail
    clear c6 g1 g2
    refine trns_loop L r D C s w2 { d with crc := crcW d.crc (inp.take n) } (inp.drop n) pl (inp.take n) np n pb hnp hn HST.out HQ.out HLEN.out HPP.out _ _ _ _ _ _ _ _ _ _ _ _ _ _ _ _ _ _ _ _ _ _ _ _ _ _ _ _ _ _ _ _ _ _ _ _ _ _ _ _ _ _ _ _ _ _ _ _ _ _ _ _ _ _ _ _ _ _ _ _ _ _ _ _ _ _ _ _ _ _ _ _ _ _ _ _ _ _ _ _ _ _ _ _ _ _ _ _ _ _ _ _ _ _ _ _ _ _ _ _ _ _ _ _ _ _ _ _ _ _ _ _ _ _ _ _ _ _ _ _ _ _ _ _ _ _ _ _ _ _ _ _ _ _ _ _ _ _ _ _ _ _ _ _ _ _ _ _ _ _ _ _ _ _ _ _ _ _ _ _ _ _ _ _ _ _ _ _ _ _ _ _ _ _ _ _ _ _ _ _ _ _ _ _ _ _ _ _ _ _ _ _ _ _ _ _ _ _ _ _ _ _ _ _ _ _ _ _ _ _ _ _ _ _ _ _ _ _ _ _ _ _ _ _ _ _ _ _ _ _ ?_
    intro w3
    intros
    rename_i st3 pp3 mm3
    have mall : Mod (fun k => foot r D C k ∨ k = pb) w w3 := (HM.out.mono (fun _ _ hk => Or.inl hk)).trans (mm3.mono (fun _ _ hk => Or.inr hk))
    have hv := verifyChecksum L r D C s w3 _ _ st3
    have HV := Lib.hid hv; have HPP3 := Lib.hid pp3; have HMM3 := Lib.hid mall
    clear st3 pp3 mm3 mall hv HST HQ HLEN HPP HM HST0 HP0
    as_aux_lemma =>
      go_wp2_with (go_at_call 94; refine HV.out.mono ?_; rintro e w4 hr; obtain rfl := hr.good HSUM.out; have HR2 := Lib.hid hr; clear hr)
      go_ret
      refine ⟨rfl, ?_, HPP3.out.mod HR2.out.mod HPP3.out.foot, HMM3.out.trans (HR2.out.mod.mono (fun _ _ hk => Or.inl hk))⟩
      have := HR2.out.st
      rw [List.drop_drop] at this
      exact this

set_option maxRecDepth 100000 in
set_option maxHeartbeats 4000000 in
theorem parsetRNS_pal8 (L : Lay) (r : Src) (D C : Nat) (s : Sep L r D C) (w : World) (d : Dec) (inp pl : List UInt8) (np n pb : Nat) (hnp : np ≤ 256) (hn : n ≤ np) (hn1 : 1 ≤ n) (hok : trnsOk d inp n)
    (h : St L r D C w { d with pal := .slice (some ⟨pb, 0, none⟩) np 256 } inp) (hp : PalAt L r D C w pb (palE np pl)) (hk : d.cb = 8) :
    Calls Tryz.prog 91 #[.pointer (some ⟨D, 0, none⟩), .int .u32 n] w fun e w' => TrnsRes L r D C w d inp pl np n pb e w' := by
  obtain ⟨hl, hsum⟩ := hok
  have c7 := h.dec.cb
  rw [hk] at c7
  have c0 := h.dec.r
  have hcall := (h.drew s).call s 10 n 768 (by omega) (by omega) (by omega) (by omega) (by omega)
  have HC := Lib.hid hcall; clear hcall
  have HST0 := Lib.hid h; have HP0 := Lib.hid hp; have HSUM := Lib.hid hsum
  have t0 : decide ((256 : Int) < (n : Int)) = false := decide_eq_false (by omega)
  have hsl := slTmpU w.drew D n (by omega)
  clear h hp hsum hk
  go_enter Tryz.func91, Tryz.ntmps91
  go_upto_region 39 with fail
  go_region_with (go_at_call 84; refine HC.out.mono ?_; rintro e w1 ⟨err, hp⟩; have he := hp.end_; rw [Nat.min_eq_left hl] at he; subst he; have HP := Lib.hid hp; clear hp; go_simp)
  all_goals
    obtain ⟨st1, m1, b1⟩ := St.read HST0.out s HP.out.undrew (by omega) (by omega)
    have he := HP.out.good hl
    subst he
    have pp1 : PalAt L r D C w1 pb (palE np pl) := HP0.out.mod m1 HP0.out.foot
    have hlen : (inp.take n).length = n := by simp; omega
    have hcw := crcWrite L w1.drew (st1.drew s |>.env s) C D 10 768 d.crc (inp.take n) (by omega) st1.dec.crc st1.dec.fzc b1
    rw [hlen] at hcw
    have HCW := Lib.hid hcw; clear hcw
    have c2 := st1.dec.crcp
    have st2 : St L r D C (w1.drew.setCell ⟨C, 0, none⟩ (.int .u32 ((crcW d.crc (inp.take n)).toNat : Nat))) { d with pal := .slice (some ⟨pb, 0, none⟩) np 256, crc := crcW d.crc (inp.take n) } (inp.drop n) := (st1.drew s).setCrc s (crcW d.crc (inp.take n))
    have m2 : Mod (foot r D C) w (w1.drew.setCell ⟨C, 0, none⟩ (.int .u32 ((crcW d.crc (inp.take n)).toNat : Nat))) := m1.drew.trans (Mod.setC _)
    have q' : Bytes (w1.drew.setCell ⟨C, 0, none⟩ (.int .u32 ((crcW d.crc (inp.take n)).toNat : Nat))) D 10 (inp.take n) := fun i hi => by
      rw [World.cell?_setCell_other _ _ _ _ (fun e => s.ne (congrArg Addr.block e).symm)]; exact b1 i hi
    have pp2 : PalAt L r D C (w1.drew.setCell ⟨C, 0, none⟩ (.int .u32 ((crcW d.crc (inp.take n)).toNat : Nat))) pb (palE np pl) :=
      pp1.mod (((Mod.refl (foot r D C) w1).drew).trans (Mod.setC _)) pp1.foot
    have HST := Lib.hid st2; have HM := Lib.hid m2; have HQ := Lib.hid q'; have HPP := Lib.hid pp2
    have HLEN := Lib.hid hlen
    have hsl2 := slTmp w1.drew D n (by omega)
    clear q' b1 st1 m1 hlen st2 m2 hsl pp1 pp2
    clear HC HP c7 c0 t0
    go_upto_region 42 with fail
    go_still_tail 9, (by kernel_rfl)
    change wpList _ _ _ _ _ w1.drew
    clear hsl2 c2
    go_wp2_with (fail)
    refine HCW.out.mono ?_
    rintro e w2 ⟨rfl, hw2⟩
    rw [hw2] at HST HM HQ HPP
    clear hw2 HCW
    have c6 := HST.out.dec.pal
    have g1 : decide (np < n) = false := decide_eq_false (by omega)
    have g2 : decide ((np : Int) < (n : Int)) = false := decide_eq_false (by omega)
    go_upto_block 2 with fail
    clear c6 g1 g2
    refine trns_loop L r D C s w2 { d with crc := crcW d.crc (inp.take n) } (inp.drop n) pl (inp.take n) np n pb hnp hn HST.out HQ.out HLEN.out HPP.out _ _ _ _ _ _ _ _ _ _ _ _ _ _ _ _ _ _ _ _ _ _ _ _ _ _ _ _ _ _ _ _ _ _ _ _ _ _ _ _ _ _ _ _ _ _ _ _ _ _ _ _ _ _ _ _ _ _ _ _ _ _ _ _ _ _ _ _ _ _ _ _ _ _ _ _ _ _ _ _ _ _ _ _ _ _ _ _ _ _ _ _ _ _ _ _ _ _ _ _ _ _ _ _ _ _ _ _ _ _ _ _ _ _ _ _ _ _ _ _ _ _ _ _ _ _ _ _ _ _ _ _ _ _ _ _ _ _ _ _ _ _ _ _ _ _ _ _ _ _ _ _ _ _ _ _ _ _ _ _ _ _ _ _ _ _ _ _ _ _ _ _ _ _ _ _ _ _ _ _ _ _ _ _ _ _ _ _ _ _ _ _ _ _ _ _ _ _ _ _ _ _ _ _ _ _ _ _ _ _ _ _ _ _ _ _ _ _ _ _ _ _ _ _ _ _ _ _ _ _ ?_
    intro w3
    intros
    rename_i st3 pp3 mm3
    have mall : Mod (fun k => foot r D C k ∨ k = pb) w w3 := (HM.out.mono (fun _ _ hk => Or.inl hk)).trans (mm3.mono (fun _ _ hk => Or.inr hk))
    have hv := verifyChecksum L r D C s w3 _ _ st3
    have HV := Lib.hid hv; have HPP3 := Lib.hid pp3; have HMM3 := Lib.hid mall
    clear st3 pp3 mm3 mall hv HST HQ HLEN HPP HM HST0 HP0
    as_aux_lemma =>
      go_wp2_with (go_at_call 94; refine HV.out.mono ?_; rintro e w4 hr; obtain rfl := hr.good HSUM.out; have HR2 := Lib.hid hr; clear hr)
      go_ret
      refine ⟨rfl, ?_, HPP3.out.mod HR2.out.mod HPP3.out.foot, HMM3.out.trans (HR2.out.mod.mono (fun _ _ hk => Or.inl hk))⟩
      have := HR2.out.st
      rw [List.drop_drop] at this
      exact this

set_option maxRecDepth 100000 in
set_option maxHeartbeats 4000000 in
theorem parsetRNS_pal9 (L : Lay) (r : Src) (D C : Nat) (s : Sep L r D C) (w : World) (d : Dec) (inp pl : List UInt8) (np n pb : Nat) (hnp : np ≤ 256) (hn : n ≤ np) (hn1 : 1 ≤ n) (hok : trnsOk d inp n)
    (h : St L r D C w { d with pal := .slice (some ⟨pb, 0, none⟩) np 256 } inp) (hp : PalAt L r D C w pb (palE np pl)) (hk : d.cb = 9) :
    Calls Tryz.prog 91 #[.pointer (some ⟨D, 0, none⟩), .int .u32 n] w fun e w' => TrnsRes L r D C w d inp pl np n pb e w' := by
  obtain ⟨hl, hsum⟩ := hok
  have c7 := h.dec.cb
  rw [hk] at c7
  have c0 := h.dec.r
  have hcall := (h.drew s).call s 10 n 768 (by omega) (by omega) (by omega) (by omega) (by omega)
  have HC := Lib.hid hcall; clear hcall
  have HST0 := Lib.hid h; have HP0 := Lib.hid hp; have HSUM := Lib.hid hsum
  have t0 : decide ((256 : Int) < (n : Int)) = false := decide_eq_false (by omega)
  have hsl := slTmpU w.drew D n (by omega)
  clear h hp hsum hk
  go_enter Tryz.func91, Tryz.ntmps91
  go_upto_region 39 with fail
  go_region_with (go_at_call 84; refine HC.out.mono ?_; rintro e w1 ⟨err, hp⟩; have he := hp.end_; rw [Nat.min_eq_left hl] at he; subst he; have HP := Lib.hid hp; clear hp; go_simp)
  all_goals
    obtain ⟨st1, m1, b1⟩ := St.read HST0.out s HP.out.undrew (by omega) (by omega)
    have he := HP.out.good hl
    subst he
    have pp1 : PalAt L r D C w1 pb (palE np pl) := HP0.out.mod m1 HP0.out.foot
    have hlen : (inp.take n).length = n := by simp; omega
    have hcw := crcWrite L w1.drew (st1.drew s |>.env s) C D 10 768 d.crc (inp.take n) (by omega) st1.dec.crc st1.dec.fzc b1
    rw [hlen] at hcw
    have HCW := Lib.hid hcw; clear hcw
    have c2 := st1.dec.crcp
    have st2 : St L r D C (w1.drew.setCell ⟨C, 0, none⟩ (.int .u32 ((crcW d.crc (inp.take n)).toNat : Nat))) { d with pal := .slice (some ⟨pb, 0, none⟩) np 256, crc := crcW d.crc (inp.take n) } (inp.drop n) := (st1.drew s).setCrc s (crcW d.crc (inp.take n))
    have m2 : Mod (foot r D C) w (w1.drew.setCell ⟨C, 0, none⟩ (.int .u32 ((crcW d.crc (inp.take n)).toNat : Nat))) := m1.drew.trans (Mod.setC _)
    have q' : Bytes (w1.drew.setCell ⟨C, 0, none⟩ (.int .u32 ((crcW d.crc (inp.take n)).toNat : Nat))) D 10 (inp.take n) := fun i hi => by
      rw [World.cell?_setCell_other _ _ _ _ (fun e => s.ne (congrArg Addr.block e).symm)]; exact b1 i hi
    have pp2 : PalAt L r D C (w1.drew.setCell ⟨C, 0, none⟩ (.int .u32 ((crcW d.crc (inp.take n)).toNat : Nat))) pb (palE np pl) :=
      pp1.mod (((Mod.refl (foot r D C) w1).drew).trans (Mod.setC _)) pp1.foot
    have HST := Lib.hid st2; have HM := Lib.hid m2; have HQ := Lib.hid q'; have HPP := Lib.hid pp2
    have HLEN := Lib.hid hlen
    have hsl2 := slTmp w1.drew D n (by omega)
    clear q' b1 st1 m1 hlen st2 m2 hsl pp1 pp2
    clear HC HP c7 c0 t0
    go_upto_region 42 with fail
    go_still_tail 9, (by kernel_rfl)
    change wpList _ _ _ _ _ w1.drew
    clear hsl2 c2
    go_wp2_with (fail)
    refine HCW.out.mono ?_
    rintro e w2 ⟨rfl, hw2⟩
    rw [hw2] at HST HM HQ HPP
    clear hw2 HCW
    have c6 := HST.out.dec.pal
    have g1 : decide (np < n) = false := decide_eq_false (by omega)
    have g2 : decide ((np : Int) < (n : Int)) = false := decide_eq_false (by omega)
    go_upto_block 2 with fail
    clear c6 g1 g2
    refine trns_loop L r D C s w2 { d with crc := crcW d.crc (inp.take n) } (inp.drop n) pl (inp.take n) np n pb hnp hn HST.out HQ.out HLEN.out HPP.out _ _ _ _ _ _ _ _ _ _ _ _ _ _ _ _ _ _ _ _ _ _ _ _ _ _ _ _ _ _ _ _ _ _ _ _ _ _ _ _ _ _ _ _ _ _ _ _ _ _ _ _ _ _ _ _ _ _ _ _ _ _ _ _ _ _ _ _ _ _ _ _ _ _ _ _ _ _ _ _ _ _ _ _ _ _ _ _ _ _ _ _ _ _ _ _ _ _ _ _ _ _ _ _ _ _ _ _ _ _ _ _ _ _ _ _ _ _ _ _ _ _ _ _ _ _ _ _ _ _ _ _ _ _ _ _ _ _ _ _ _ _ _ _ _ _ _ _ _ _ _ _ _ _ _ _ _ _ _ _ _ _ _ _ _ _ _ _ _ _ _ _ _ _ _ _ _ _ _ _ _ _ _ _ _ _ _ _ _ _ _ _ _ _ _ _ _ _ _ _ _ _ _ _ _ _ _ _ _ _ _ _ _ _ _ _ _ _ _ _ _ _ _ _ _ _ _ _ _ _ ?_
    intro w3
    intros
    rename_i st3 pp3 mm3
    have mall : Mod (fun k => foot r D C k ∨ k = pb) w w3 := (HM.out.mono (fun _ _ hk => Or.inl hk)).trans (mm3.mono (fun _ _ hk => Or.inr hk))
    have hv := verifyChecksum L r D C s w3 _ _ st3
    have HV := Lib.hid hv; have HPP3 := Lib.hid pp3; have HMM3 := Lib.hid mall
    clear st3 pp3 mm3 mall hv HST HQ HLEN HPP HM HST0 HP0
    as_aux_lemma =>
      go_wp2_with (go_at_call 94; refine HV.out.mono ?_; rintro e w4 hr; obtain rfl := hr.good HSUM.out; have HR2 := Lib.hid hr; clear hr)
      go_ret
      refine ⟨rfl, ?_, HPP3.out.mod HR2.out.mod HPP3.out.foot, HMM3.out.trans (HR2.out.mod.mono (fun _ _ hk => Or.inl hk))⟩
      have := HR2.out.st
      rw [List.drop_drop] at this
      exact this

set_option maxRecDepth 100000 in
set_option maxHeartbeats 4000000 in
theorem parsetRNS_pal10 (L : Lay) (r : Src) (D C : Nat) (s : Sep L r D C) (w : World) (d : Dec) (inp pl : List UInt8) (np n pb : Nat) (hnp : np ≤ 256) (hn : n ≤ np) (hn1 : 1 ≤ n) (hok : trnsOk d inp n)
    (h : St L r D C w { d with pal := .slice (some ⟨pb, 0, none⟩) np 256 } inp) (hp : PalAt L r D C w pb (palE np pl)) (hk : d.cb = 10) :
    Calls Tryz.prog 91 #[.pointer (some ⟨D, 0, none⟩), .int .u32 n] w fun e w' => TrnsRes L r D C w d inp pl np n pb e w' := by
  obtain ⟨hl, hsum⟩ := hok
  have c7 := h.dec.cb
  rw [hk] at c7
  have c0 := h.dec.r
  have hcall := (h.drew s).call s 10 n 768 (by omega) (by omega) (by omega) (by omega) (by omega)
  have HC := Lib.hid hcall; clear hcall
  have HST0 := Lib.hid h; have HP0 := Lib.hid hp; have HSUM := Lib.hid hsum
  have t0 : decide ((256 : Int) < (n : Int)) = false := decide_eq_false (by omega)
  have hsl := slTmpU w.drew D n (by omega)
  clear h hp hsum hk
  go_enter Tryz.func91, Tryz.ntmps91
  go_upto_region 39 with fail
  go_region_with (go_at_call 84; refine HC.out.mono ?_; rintro e w1 ⟨err, hp⟩; have he := hp.end_; rw [Nat.min_eq_left hl] at he; subst he; have HP := Lib.hid hp; clear hp; go_simp)
  all_goals
    obtain ⟨st1, m1, b1⟩ := St.read HST0.out s HP.out.undrew (by omega) (by omega)
    have he := HP.out.good hl
    subst he
    have pp1 : PalAt L r D C w1 pb (palE np pl) := HP0.out.mod m1 HP0.out.foot
    have hlen : (inp.take n).length = n := by simp; omega
    have hcw := crcWrite L w1.drew (st1.drew s |>.env s) C D 10 768 d.crc (inp.take n) (by omega) st1.dec.crc st1.dec.fzc b1
    rw [hlen] at hcw
    have HCW := Lib.hid hcw; clear hcw
    have c2 := st1.dec.crcp
    have st2 : St L r D C (w1.drew.setCell ⟨C, 0, none⟩ (.int .u32 ((crcW d.crc (inp.take n)).toNat : Nat))) { d with pal := .slice (some ⟨pb, 0, none⟩) np 256, crc := crcW d.crc (inp.take n) } (inp.drop n) := (st1.drew s).setCrc s (crcW d.crc (inp.take n))
    have m2 : Mod (foot r D C) w (w1.drew.setCell ⟨C, 0, none⟩ (.int .u32 ((crcW d.crc (inp.take n)).toNat : Nat))) := m1.drew.trans (Mod.setC _)
    have q' : Bytes (w1.drew.setCell ⟨C, 0, none⟩ (.int .u32 ((crcW d.crc (inp.take n)).toNat : Nat))) D 10 (inp.take n) := fun i hi => by
      rw [World.cell?_setCell_other _ _ _ _ (fun e => s.ne (congrArg Addr.block e).symm)]; exact b1 i hi
    have pp2 : PalAt L r D C (w1.drew.setCell ⟨C, 0, none⟩ (.int .u32 ((crcW d.crc (inp.take n)).toNat : Nat))) pb (palE np pl) :=
      pp1.mod (((Mod.refl (foot r D C) w1).drew).trans (Mod.setC _)) pp1.foot
    have HST := Lib.hid st2; have HM := Lib.hid m2; have HQ := Lib.hid q'; have HPP := Lib.hid pp2
    have HLEN := Lib.hid hlen
    have hsl2 := slTmp w1.drew D n (by omega)
    clear q' b1 st1 m1 hlen st2 m2 hsl pp1 pp2
    clear HC HP c7 c0 t0
    go_upto_region 42 with fail
    go_still_tail 9, (by kernel_rfl)
    change wpList _ _ _ _ _ w1.drew
    clear hsl2 c2
    go_wp2_with (fail)
    refine HCW.out.mono ?_
    rintro e w2 ⟨rfl, hw2⟩
    rw [hw2] at HST HM HQ HPP
    clear hw2 HCW
    have c6 := HST.out.dec.pal
    have g1 : decide (np < n) = false := decide_eq_false (by omega)
    have g2 : decide ((np : Int) < (n : Int)) = false := decide_eq_false (by omega)
    go_upto_block 2 with fail
    clear c6 g1 g2
    refine trns_loop L r D C s w2 { d with crc := crcW d.crc (inp.take n) } (inp.drop n) pl (inp.take n) np n pb hnp hn HST.out HQ.out HLEN.out HPP.out _ _ _ _ _ _ _ _ _ _ _ _ _ _ _ _ _ _ _ _ _ _ _ _ _ _ _ _ _ _ _ _ _ _ _ _ _ _ _ _ _ _ _ _ _ _ _ _ _ _ _ _ _ _ _ _ _ _ _ _ _ _ _ _ _ _ _ _ _ _ _ _ _ _ _ _ _ _ _ _ _ _ _ _ _ _ _ _ _ _ _ _ _ _ _ _ _ _ _ _ _ _ _ _ _ _ _ _ _ _ _ _ _ _ _ _ _ _ _ _ _ _ _ _ _ _ _ _ _ _ _ _ _ _ _ _ _ _ _ _ _ _ _ _ _ _ _ _ _ _ _ _ _ _ _ _ _ _ _ _ _ _ _ _ _ _ _ _ _ _ _ _ _ _ _ _ _ _ _ _ _ _ _ _ _ _ _ _ _ _ _ _ _ _ _ _ _ _ _ _ _ _ _ _ _ _ _ _ _ _ _ _ _ _ _ _ _ _ _ _ _ _ _ _ _ _ _ _ _ _ ?_
    intro w3
    intros
    rename_i st3 pp3 mm3
    have mall : Mod (fun k => foot r D C k ∨ k = pb) w w3 := (HM.out.mono (fun _ _ hk => Or.inl hk)).trans (mm3.mono (fun _ _ hk => Or.inr hk))
    have hv := verifyChecksum L r D C s w3 _ _ st3
    have HV := Lib.hid hv; have HPP3 := Lib.hid pp3; have HMM3 := Lib.hid mall
    clear st3 pp3 mm3 mall hv HST HQ HLEN HPP HM HST0 HP0
    as_aux_lemma =>
      go_wp2_with (go_at_call 94; refine HV.out.mono ?_; rintro e w4 hr; obtain rfl := hr.good HSUM.out; have HR2 := Lib.hid hr; clear hr)
      go_ret
      refine ⟨rfl, ?_, HPP3.out.mod HR2.out.mod HPP3.out.foot, HMM3.out.trans (HR2.out.mod.mono (fun _ _ hk => Or.inl hk))⟩
      have := HR2.out.st
      rw [List.drop_drop] at this
      exact this

end Go.Proofs.YtnpkgmgedgcjmaaGreatDoor
