/- The decoder reads a palette. No conditions but those in each theorem's own binders. -/
import Derived.Test.YtnpkgmgedgcjmaaGreatDoorCE7
namespace Go.Proofs.YtnpkgmgedgcjmaaGreatDoor
set_option linter.unusedVariables false
set_option linter.unusedSimpArgs false
open Go.RowKit Go.Png

theorem plte_make (w : World) : (Instr.makeSlice 102 (.int .i64 256) (.int .i64 256)).run Tryz.prog w =
    .ok (.slice (some ⟨w.heap.size, 0, none⟩) 256 256) (w.alloc (.cells (Array.replicate 256 .nilIface) 140)) := by kernel_rfl

theorem palette_new (L : Lay) (r : Src) (D C : Nat) (s : Sep L r D C) (w : World) (d : Dec) (inp : List UInt8) (h : St L r D C w d inp) :
    PalAt L r D C (w.alloc (.cells (Array.replicate 256 .nilIface) 140)) w.heap.size (fun _ => .nilIface) := by
  refine ⟨(h.env s).lo, ?_, by simp, fun i hi => ?_, fun i => ?_⟩
  · rintro (hf | hf | hf)
    · exact absurd (s.rok.size w inp _ h.inv hf) (Nat.lt_irrefl _)
    · have := h.dec.ltD; omega
    · have := h.dec.ltC; omega
  · rw [World.cell?_alloc_new]; simp [hi]
  · rw [World.frozen?_alloc_new]

set_option maxRecDepth 100000 in
set_option maxHeartbeats 4000000 in
/-- A palette is laid. -/
theorem plte_pal (L : Lay) (r : Src) (D C : Nat) (s : Sep L r D C) (w : World) (d : Dec) (inp pl : List UInt8) (np : Nat) (hnp : np ≤ 256) (h : St L r D C w d inp)
    (hb : Bytes w D 10 pl) (hpl : pl.length = 3 * np)
    (u1 u2 u3 u6 u7 u8 u9 u10 u11 u12 u13 u14 u15 u16 u17 u18 u19 u20 u21 u22 u23 u24 u25 u26 u27 u28 u29 u30 u31 u32 u33 u34 u35 u36 u37 u38 u39 u40 u41 u42 u43 u44 u45 u46 u47 u48 u49 u50 u51 u52 u53 u54 u55 u56 u57 u58 u59 u60 u61 u62 u63 u64 u65 u66 u67 u68 u69 u70 u71 u72 u73 u74 u75 u76 u77 u78 u79 u80 u81 u82 u83 u84 u85 u86 u87 u88 u89 u90 u91 u92 u93 u94 u95 u96 u97 u98 u99 u100 u101 u102 u103 u104 u105 u106 u107 u108 u109 u110 u111 u112 u113 u114 u115 u116 u117 u118 u119 u120 u121 u122 u123 u124 u125 u126 u127 u128 u129 u130 u131 u132 u133 u134 u135 u136 u137 u138 u139 u140 u141 : Value) (Q : Exit → Act → World → Prop)
    (hQ : ∀ w' (u8 u9 u10 u11 u12 u13 u14 u15 u16 u17 u18 u19 u20 u21 u22 u23 u24 u25 u26 u27 u28 u29 u30 u31 u32 u33 u34 u35 u36 u37 u38 u39 u40 u41 u42 u43 u44 u45 u46 u47 u48 u49 u50 u51 u52 u53 u54 u55 u56 u57 u58 u59 u60 u61 u62 u63 u64 u65 u66 u67 u68 u69 u70 u71 u72 u73 u74 u75 u76 u77 u78 u79 u80 u81 u82 u83 u84 u85 u86 u87 u88 u89 u90 u91 u92 u93 u94 u95 u96 u97 u98 u99 u100 u101 u102 u103 u104 u105 u106 u107 u108 u109 u110 u111 u112 u113 u114 u115 u116 u117 u118 u119 u120 u121 u122 u123 u124 u125 u126 u127 u128 u129 u130 u131 u132 u133 u134 u135 u136 u137 u138 u139 u140 u141 : Value), St L r D C w' { d with pal := .slice (some ⟨w.heap.size, 0, none⟩) np 256 } inp → PalAt L r D C w' w.heap.size (palE np pl) → Mod (foot r D C) w w' →
       Q .normal ⟨#[.pointer (some ⟨D, 0, none⟩), u1, u2, u3, .nilIface, .int .i64 np, u6, u7, u8, u9, u10, u11, u12, u13, u14, u15, u16, u17, u18, u19, u20, u21, u22, u23, u24, u25, u26, u27, u28, u29, u30, u31, u32, u33, u34, u35, u36, u37, u38, u39, u40, u41, u42, u43, u44, u45, u46, u47, u48, u49, u50, u51, u52, u53, u54, u55, u56, u57, u58, u59, u60, u61, u62, u63, u64, u65, u66, u67, u68, u69, u70, u71, u72, u73, u74, u75, u76, u77, u78, u79, u80, u81, u82, u83, u84, u85, u86, u87, u88, u89, u90, u91, u92, u93, u94, u95, u96, u97, u98, u99, u100, u101, u102, u103, u104, u105, u106, u107, u108, u109, u110, u111, u112, u113, u114, u115, u116, u117, u118, u119, u120, u121, u122, u123, u124, u125, u126, u127, u128, u129, u130, u131, u132, u133, u134, u135, u136, u137, u138, u139, u140, u141], []⟩ w') :
    Code.wp Tryz.prog (navc [1, 1, 1, 1, 1, 1, 0, 1, 0, 1, 0] (textOf Tryz.f89)) Q
      ⟨#[.pointer (some ⟨D, 0, none⟩), u1, u2, u3, .nilIface, .int .i64 np, u6, u7, u8, u9, u10, u11, u12, u13, u14, u15, u16, u17, u18, u19, u20, u21, u22, u23, u24, u25, u26, u27, u28, u29, u30, u31, u32, u33, u34, u35, u36, u37, u38, u39, u40, u41, u42, u43, u44, u45, u46, u47, u48, u49, u50, u51, u52, u53, u54, u55, u56, u57, u58, u59, u60, u61, u62, u63, u64, u65, u66, u67, u68, u69, u70, u71, u72, u73, u74, u75, u76, u77, u78, u79, u80, u81, u82, u83, u84, u85, u86, u87, u88, u89, u90, u91, u92, u93, u94, u95, u96, u97, u98, u99, u100, u101, u102, u103, u104, u105, u106, u107, u108, u109, u110, u111, u112, u113, u114, u115, u116, u117, u118, u119, u120, u121, u122, u123, u124, u125, u126, u127, u128, u129, u130, u131, u132, u133, u134, u135, u136, u137, u138, u139, u140, u141], []⟩ w := by
  conv => arg 2; whnf
  have HQ := Lib.hid hQ; clear hQ
  have hmk := plte_make w
  have hpn := palette_new L r D C s w d inp h
  have m0 : Mod (foot r D C) w (w.alloc (.cells (Array.replicate 256 .nilIface) 140)) := (Mod.refl _ w).alloc _
  have st0 : St L r D C (w.alloc (.cells (Array.replicate 256 .nilIface) 140)) d inp :=
    h.mod s (S := fun _ => False) ((Mod.refl _ w).alloc _) (fun _ hf => hf.elim)
  have hb0 : Bytes (w.alloc (.cells (Array.replicate 256 .nilIface) 140)) D 10 pl := hb.mod (L := fun _ => False) ((Mod.refl _ w).alloc _) h.dec.ltD id
  have c6 := st0.dec.pal
  have f6 := st0.dec.fz 6
  have HPN := Lib.hid hpn; have HST := Lib.hid st0; have HB := Lib.hid hb0; have HM := Lib.hid m0
  clear hpn st0 hb0 m0 h hb
  generalize hpb : w.heap.size = pb at *
  generalize hw0 : w.alloc (.cells (Array.replicate 256 .nilIface) 140) = w0 at *
  clear hw0
  go_upto_block 1 with fail
  have m1 : Mod (fun k => k = D) w0 (w0.setCell ⟨D, 6, none⟩ (.slice (some ⟨pb, 0, none⟩) 256 256)) := (Mod.refl (fun k => k = D) w0).setCell (p := ⟨D, 6, none⟩) (Or.inl rfl) _
  have hbd : Bytes (w0.setCell ⟨D, 6, none⟩ (.slice (some ⟨pb, 0, none⟩) 256 256)) D 10 pl := fun i hi => by
    rw [World.cell?_setCell_other _ _ _ _ (fun e => by have := congrArg Addr.off e; simp at this; omega)]; exact HB.out i hi
  have hps : PalAt L r D C (w0.setCell ⟨D, 6, none⟩ (.slice (some ⟨pb, 0, none⟩) 256 256)) pb (fun _ => .nilIface) := HPN.out.mod m1 (fun e => HPN.out.foot (Or.inr (Or.inl e)))
  refine plte_loop1 L r D C s _ d inp pl np pb _ hnp (HST.out.setPal s _) hbd hpl hps _ _ _ _ _ _ _ _ _ _ _ _ _ _ _ _ _ _ _ _ _ _ _ _ _ _ _ _ _ _ _ _ _ _ _ _ _ _ _ _ _ _ _ _ _ _ _ _ _ _ _ _ _ _ _ _ _ _ _ _ _ _ _ _ _ _ _ _ _ _ _ _ _ _ _ _ _ _ _ _ _ _ _ _ _ _ _ _ _ _ _ _ _ _ _ _ _ _ _ _ _ _ _ _ _ _ _ _ _ _ _ _ _ _ _ _ _ _ _ _ _ _ _ _ _ _ _ _ _ _ _ _ _ _ _ _ _ _ _ ?_
  intro w1
  intros
  rename_i st1 pp1 mm1
  have HST1 := Lib.hid st1; have HPP1 := Lib.hid pp1; have HMM1 := Lib.hid mm1
  clear st1 pp1 mm1 hbd hps m1
  go_upto_block 3 with fail
  refine plte_loop2 L r D C s w1 d inp pl np pb _ hnp HST1.out HPP1.out _ _ _ _ _ _ _ _ _ _ _ _ _ _ _ _ _ _ _ _ _ _ _ _ _ _ _ _ _ _ _ _ _ _ _ _ _ _ _ _ _ _ _ _ _ _ _ _ _ _ _ _ _ _ _ _ _ _ _ _ _ _ _ _ _ _ _ _ _ _ _ _ _ _ _ _ _ _ _ _ _ _ _ _ _ _ _ _ _ _ _ _ _ _ _ _ _ _ _ _ _ _ _ _ _ _ _ _ _ _ _ _ _ _ _ _ _ _ _ _ _ _ _ _ _ _ _ _ _ _ _ _ _ _ _ _ _ _ _ ?_
  intro w2
  intros
  rename_i st2 pp2 mm2
  have c6' := st2.dec.pal
  have f6' := st2.dec.fz 6
  have HST2 := Lib.hid st2; have HPP2 := Lib.hid pp2; have HMM2 := Lib.hid mm2
  clear st2 pp2 mm2
  go_wp2
  have m2 : Mod (fun k => k = D) w2 (w2.setCell ⟨D, 6, none⟩ (.slice (some ⟨pb, 0, none⟩) np 256)) := (Mod.refl (fun k => k = D) w2).setCell (p := ⟨D, 6, none⟩) (Or.inl rfl) _
  refine HQ.out _ _ _ _ _ _ _ _ _ _ _ _ _ _ _ _ _ _ _ _ _ _ _ _ _ _ _ _ _ _ _ _ _ _ _ _ _ _ _ _ _ _ _ _ _ _ _ _ _ _ _ _ _ _ _ _ _ _ _ _ _ _ _ _ _ _ _ _ _ _ _ _ _ _ _ _ _ _ _ _ _ _ _ _ _ _ _ _ _ _ _ _ _ _ _ _ _ _ _ _ _ _ _ _ _ _ _ _ _ _ _ _ _ _ _ _ _ _ _ _ _ _ _ _ _ _ _ _ _ _ _ _ _ _ _ (HST2.out.setPal s _) (HPP2.out.mod m2 (fun e => HPP2.out.foot (Or.inr (Or.inl e)))) ?_
  have q1 : Mod (foot r D C) w w1 := (HM.out.trans (Mod.setD _ _)).then HMM1.out (fun i hi he => absurd he (by omega))
  exact (q1.then HMM2.out (fun i hi he => absurd he (by omega))).trans (Mod.setD _ _)

/-- What is read behind the length of a palette's chunk: is it there, with its sum? -/
def plteOk (d : Dec) (inp : List UInt8) (np : Nat) : Bool := decide (3 * np ≤ inp.length) && sumOk (inp.drop (3 * np)) (crcW d.crc (inp.take (3 * np)))

structure PlteRes (L : Lay) (r : Src) (D C : Nat) (w : World) (d : Dec) (inp : List UInt8) (np : Nat) (e : Ending) (w' : World) : Prop where
  mod : Mod (foot r D C) w w'
  good : plteOk d inp np = true → e = .returned .nilIface ∧ ∃ pv, St L r D C w' { d with crc := crcW d.crc (inp.take (3 * np)), pal := pv } (inp.drop (3 * np + 4)) ∧
    (isPal d.cb = true → ∃ pb, pv = .slice (some ⟨pb, 0, none⟩) np 256 ∧ PalAt L r D C w' pb (palE np (inp.take (3 * np))))
  bad : plteOk d inp np = false → ∃ g : GErr, e = .returned (g.val L)

set_option maxRecDepth 100000 in
set_option maxHeartbeats 4000000 in
/-- What stands behind the bytes of a palette. -/
theorem plte_tail (L : Lay) (r : Src) (D C : Nat) (s : Sep L r D C) (w : World) (d : Dec) (inp pl : List UInt8) (np : Nat) (hnp : np ≤ 256) (h : St L r D C w d inp)
    (hb : Bytes w D 10 pl) (hpl : pl.length = 3 * np) (hk : isPal d.cb = true ∨ d.cb = 6 ∨ d.cb = 11 ∨ d.cb = 14 ∨ d.cb = 15)
    (u1 u2 u3 u6 u7 u8 u9 u10 u11 u12 u13 u14 u15 u16 u17 u18 u19 u20 u21 u22 u23 u24 u25 u26 u27 u28 u29 u30 u31 u32 u33 u34 u35 u36 u37 u38 u39 u40 u41 u42 u43 u44 u45 u46 u47 u48 u49 u50 u51 u52 u53 u54 u55 u56 u57 u58 u59 u60 u61 u62 u63 u64 u65 u66 u67 u68 u69 u70 u71 u72 u73 u74 u75 u76 u77 u78 u79 u80 u81 u82 u83 u84 u85 u86 u87 u88 u89 u90 u91 u92 u93 u94 u95 u96 u97 u98 u99 u100 u101 u102 u103 u104 u105 u106 u107 u108 u109 u110 u111 u112 u113 u114 u115 u116 u117 u118 u119 u120 u121 u122 u123 u124 u125 u126 u127 u128 u129 u130 u131 u132 u133 u134 u135 u136 u137 u138 u139 u140 u141 : Value) (R : Ending → World → Prop)
    (hR : ∀ e w' pv, Mod (foot r D C) w w' → Step L r D C w' { d with pal := pv } (inp.drop 4) (sumOk inp d.crc) e w' → (isPal d.cb = true → ∃ pb, pv = .slice (some ⟨pb, 0, none⟩) np 256 ∧ PalAt L r D C w' pb (palE np pl)) → R e w') :
    Code.wp Tryz.prog (navc [1, 1, 1, 1, 1, 1] (textOf Tryz.f89)) (bodyPost Tryz.prog Tryz.f89 R)
      ⟨#[.pointer (some ⟨D, 0, none⟩), u1, u2, u3, .nilIface, .int .i64 np, u6, u7, u8, u9, u10, u11, u12, u13, u14, u15, u16, u17, u18, u19, u20, u21, u22, u23, u24, u25, u26, u27, u28, u29, u30, u31, u32, u33, u34, u35, u36, u37, u38, u39, u40, u41, u42, u43, u44, u45, u46, u47, u48, u49, u50, u51, u52, u53, u54, u55, u56, u57, u58, u59, u60, u61, u62, u63, u64, u65, u66, u67, u68, u69, u70, u71, u72, u73, u74, u75, u76, u77, u78, u79, u80, u81, u82, u83, u84, u85, u86, u87, u88, u89, u90, u91, u92, u93, u94, u95, u96, u97, u98, u99, u100, u101, u102, u103, u104, u105, u106, u107, u108, u109, u110, u111, u112, u113, u114, u115, u116, u117, u118, u119, u120, u121, u122, u123, u124, u125, u126, u127, u128, u129, u130, u131, u132, u133, u134, u135, u136, u137, u138, u139, u140, u141], []⟩ w := by
  conv => arg 2; whnf
  have HR := Lib.hid hR; clear hR
  have c7 := h.dec.cb
  have HST := Lib.hid h; have HB := Lib.hid hb
  clear h hb
  go_upto_block 0 with fail
  go_cut [4, 5, 65] (fun v4 v5 v65 wx => v4 = .nilIface ∧ v5 = .int .i64 np ∧ Mod (foot r D C) w wx ∧ ∃ pv, St L r D C wx { d with pal := pv } inp ∧ (isPal d.cb = true → ∃ pb, pv = .slice (some ⟨pb, 0, none⟩) np 256 ∧ PalAt L r D C wx pb (palE np pl)))
  case rest =>
    obtain ⟨rfl, rfl, mm, pv, st, hp⟩ := hcut
    have hv := verifyChecksum L r D C s wc _ inp st
    have HV := Lib.hid hv; have HM := Lib.hid mm; have HP := Lib.hid hp; have HK := Lib.hid hk
    clear hv st mm hp hk c7
    as_aux_lemma =>
      go_wp2_with (fail)
      refine HV.out.mono ?_
      intro e w1 hstep
      have hcase : ∃ v, e = .returned v := by
        cases hok : sumOk inp d.crc with
        | true => exact ⟨_, hstep.good hok⟩
        | false => obtain ⟨g, hg⟩ := hstep.bad hok; exact ⟨_, hg⟩
      have hpal : isPal d.cb = true → ∃ pb, pv = .slice (some ⟨pb, 0, none⟩) np 256 ∧ PalAt L r D C w1 pb (palE np pl) := fun hi => by
        obtain ⟨pb, h1, h2⟩ := HP.out hi
        exact ⟨pb, h1, h2.mod hstep.mod h2.foot⟩
      have hres := HR.out e w1 pv (HM.out.trans hstep.mod) ⟨hstep.st, Mod.refl _ _, hstep.good, hstep.bad⟩ hpal
      obtain ⟨v, rfl⟩ := hcase
      have HRES := Lib.hid hres
      clear hres hstep hpal
      go_wp2
      exact HRES.out
  case first =>
    have hk8 : d.cb = 7 ∨ d.cb = 8 ∨ d.cb = 9 ∨ d.cb = 10 ∨ d.cb = 6 ∨ d.cb = 11 ∨ d.cb = 14 ∨ d.cb = 15 := by
      rcases hk with hk | hk | hk | hk | hk
      · have := of_decide_eq_true hk; omega
      all_goals simp [hk]
    clear hk
    rcases hk8 with hk | hk | hk | hk | hk | hk | hk | hk
    · rw [hk] at c7
      as_aux_lemma =>
        go_upto_if 67 with fail
        refine wp_cond_true rfl ?_
        go_upto_if 67 with fail
        refine wp_cond_true rfl ?_
        refine plte_pal L r D C s w d inp pl np hnp HST.out HB.out hpl _ _ _ _ _ _ _ _ _ _ _ _ _ _ _ _ _ _ _ _ _ _ _ _ _ _ _ _ _ _ _ _ _ _ _ _ _ _ _ _ _ _ _ _ _ _ _ _ _ _ _ _ _ _ _ _ _ _ _ _ _ _ _ _ _ _ _ _ _ _ _ _ _ _ _ _ _ _ _ _ _ _ _ _ _ _ _ _ _ _ _ _ _ _ _ _ _ _ _ _ _ _ _ _ _ _ _ _ _ _ _ _ _ _ _ _ _ _ _ _ _ _ _ _ _ _ _ _ _ _ _ _ _ _ _ _ _ _ _ _ ?_
        intro w1
        intros
        rename_i st1 pp1 mm1
        have HST1 := Lib.hid st1; have HPP1 := Lib.hid pp1; have HMM1 := Lib.hid mm1
        clear st1 pp1 mm1
        go_wp2
        go_meet
        case rel => exact ⟨rfl, rfl, HMM1.out, _, HST1.out, fun _ => ⟨_, rfl, HPP1.out⟩⟩
    · rw [hk] at c7
      as_aux_lemma =>
        go_upto_if 67 with fail
        refine wp_cond_false rfl ?_
        go_upto_if 67 with fail
        refine wp_cond_true rfl ?_
        go_upto_if 67 with fail
        refine wp_cond_true rfl ?_
        refine plte_pal L r D C s w d inp pl np hnp HST.out HB.out hpl _ _ _ _ _ _ _ _ _ _ _ _ _ _ _ _ _ _ _ _ _ _ _ _ _ _ _ _ _ _ _ _ _ _ _ _ _ _ _ _ _ _ _ _ _ _ _ _ _ _ _ _ _ _ _ _ _ _ _ _ _ _ _ _ _ _ _ _ _ _ _ _ _ _ _ _ _ _ _ _ _ _ _ _ _ _ _ _ _ _ _ _ _ _ _ _ _ _ _ _ _ _ _ _ _ _ _ _ _ _ _ _ _ _ _ _ _ _ _ _ _ _ _ _ _ _ _ _ _ _ _ _ _ _ _ _ _ _ _ _ ?_
        intro w1
        intros
        rename_i st1 pp1 mm1
        have HST1 := Lib.hid st1; have HPP1 := Lib.hid pp1; have HMM1 := Lib.hid mm1
        clear st1 pp1 mm1
        go_wp2
        go_meet
        case rel => exact ⟨rfl, rfl, HMM1.out, _, HST1.out, fun _ => ⟨_, rfl, HPP1.out⟩⟩
    · rw [hk] at c7
      as_aux_lemma =>
        go_upto_if 67 with fail
        refine wp_cond_false rfl ?_
        go_upto_if 67 with fail
        refine wp_cond_false rfl ?_
        go_upto_if 67 with fail
        refine wp_cond_true rfl ?_
        go_upto_if 67 with fail
        refine wp_cond_true rfl ?_
        refine plte_pal L r D C s w d inp pl np hnp HST.out HB.out hpl _ _ _ _ _ _ _ _ _ _ _ _ _ _ _ _ _ _ _ _ _ _ _ _ _ _ _ _ _ _ _ _ _ _ _ _ _ _ _ _ _ _ _ _ _ _ _ _ _ _ _ _ _ _ _ _ _ _ _ _ _ _ _ _ _ _ _ _ _ _ _ _ _ _ _ _ _ _ _ _ _ _ _ _ _ _ _ _ _ _ _ _ _ _ _ _ _ _ _ _ _ _ _ _ _ _ _ _ _ _ _ _ _ _ _ _ _ _ _ _ _ _ _ _ _ _ _ _ _ _ _ _ _ _ _ _ _ _ _ _ ?_
        intro w1
        intros
        rename_i st1 pp1 mm1
        have HST1 := Lib.hid st1; have HPP1 := Lib.hid pp1; have HMM1 := Lib.hid mm1
        clear st1 pp1 mm1
        go_wp2
        go_meet
        case rel => exact ⟨rfl, rfl, HMM1.out, _, HST1.out, fun _ => ⟨_, rfl, HPP1.out⟩⟩
    · rw [hk] at c7
      as_aux_lemma =>
        go_upto_if 67 with fail
        refine wp_cond_false rfl ?_
        go_upto_if 67 with fail
        refine wp_cond_false rfl ?_
        go_upto_if 67 with fail
        refine wp_cond_false rfl ?_
        go_upto_if 67 with fail
        refine wp_cond_true rfl ?_
        refine plte_pal L r D C s w d inp pl np hnp HST.out HB.out hpl _ _ _ _ _ _ _ _ _ _ _ _ _ _ _ _ _ _ _ _ _ _ _ _ _ _ _ _ _ _ _ _ _ _ _ _ _ _ _ _ _ _ _ _ _ _ _ _ _ _ _ _ _ _ _ _ _ _ _ _ _ _ _ _ _ _ _ _ _ _ _ _ _ _ _ _ _ _ _ _ _ _ _ _ _ _ _ _ _ _ _ _ _ _ _ _ _ _ _ _ _ _ _ _ _ _ _ _ _ _ _ _ _ _ _ _ _ _ _ _ _ _ _ _ _ _ _ _ _ _ _ _ _ _ _ _ _ _ _ _ ?_
        intro w1
        intros
        rename_i st1 pp1 mm1
        have HST1 := Lib.hid st1; have HPP1 := Lib.hid pp1; have HMM1 := Lib.hid mm1
        clear st1 pp1 mm1
        go_wp2
        go_meet
        case rel => exact ⟨rfl, rfl, HMM1.out, _, HST1.out, fun _ => ⟨_, rfl, HPP1.out⟩⟩
    · rw [hk] at c7
      have hnp : isPal d.cb = false := by rw [hk]; rfl
      have HNP := Lib.hid hnp
      clear hnp
      as_aux_lemma =>
        go_wp2
        go_meet
        case rel => exact ⟨rfl, rfl, Mod.refl _ _, d.pal, HST.out, fun hh => absurd hh (by rw [HNP.out]; decide)⟩
    · rw [hk] at c7
      have hnp : isPal d.cb = false := by rw [hk]; rfl
      have HNP := Lib.hid hnp
      clear hnp
      as_aux_lemma =>
        go_wp2
        go_meet
        case rel => exact ⟨rfl, rfl, Mod.refl _ _, d.pal, HST.out, fun hh => absurd hh (by rw [HNP.out]; decide)⟩
    · rw [hk] at c7
      have hnp : isPal d.cb = false := by rw [hk]; rfl
      have HNP := Lib.hid hnp
      clear hnp
      as_aux_lemma =>
        go_wp2
        go_meet
        case rel => exact ⟨rfl, rfl, Mod.refl _ _, d.pal, HST.out, fun hh => absurd hh (by rw [HNP.out]; decide)⟩
    · rw [hk] at c7
      have hnp : isPal d.cb = false := by rw [hk]; rfl
      have HNP := Lib.hid hnp
      clear hnp
      as_aux_lemma =>
        go_wp2
        go_meet
        case rel => exact ⟨rfl, rfl, Mod.refl _ _, d.pal, HST.out, fun hh => absurd hh (by rw [HNP.out]; decide)⟩

end Go.Proofs.YtnpkgmgedgcjmaaGreatDoor
