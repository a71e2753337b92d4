/- The decoder reads the data of the first chunk: the walk. No conditions but those in each theorem's own binders. -/
import Derived.Test.YtnpkgmgedgcjmaaGreatDoorCE5
namespace Go.Proofs.YtnpkgmgedgcjmaaGreatDoor
set_option linter.unusedVariables false
set_option linter.unusedSimpArgs false
open Go.RowKit Go.Png

theorem ihdr_no {inp : List UInt8} {p : Prop} (h : ihdrOk inp = true → p) (hn : ¬ p) : ihdrOk inp = false := by
  cases hi : ihdrOk inp with
  | false => rfl
  | true => exact (hn (h hi)).elim
theorem ihdr_yes {inp : List UInt8} (h : ihdrOk inp = true) : 13 ≤ inp.length ∧ at_ inp 10 = 0 ∧ at_ inp 11 = 0 ∧ (at_ inp 12).toNat < 2 ∧ 0 < wideOf inp ∧ wideOf inp < 2147483648 ∧ 0 < highOf inp ∧ highOf inp < 2147483648 ∧
    wideOf inp * highOf inp < 1152921504606846976 ∧ cbIn inp ≠ 0 := of_decide_eq_true h

theorem far8 (p : Nat) (h1 : p < 4611686018427387904) (h2 : ¬ p < 1152921504606846976) : (((p : Int) != wrap64 ((wrap64 ((p : Int) * 8)).tdiv 8)) : Bool) = true := by
  rw [bne_iff_ne]
  intro e
  have hx : wrap64 ((p : Int) * 8) < 9223372036854775808 ∧ -9223372036854775808 ≤ wrap64 ((p : Int) * 8) := by unfold wrap64; omega
  generalize wrap64 ((p : Int) * 8) = x at *
  have ht : x.tdiv 8 < 1152921504606846976 ∧ -1152921504606846976 ≤ x.tdiv 8 := by
    by_cases h0 : 0 ≤ x
    · rw [Int.tdiv_eq_ediv_of_nonneg h0]; omega
    · have : x.tdiv 8 = -((-x).tdiv 8) := by rw [Int.neg_tdiv]; simp
      rw [this, Int.tdiv_eq_ediv_of_nonneg (by omega)]; omega
  unfold wrap64 at e
  omega

theorem u8_ne_zero {x : UInt8} (h : x ≠ 0) : ((x.toNat : Nat) : Int) ≠ 0 := by
  intro e
  exact h (UInt8.toNat_inj.1 (by simpa using e))

/-- The kind of pixels has no number: the error. -/
theorem ihdr_cb {inp : List UInt8} (h : cbIn inp = 0) : ihdrOk inp = false := ihdr_no (fun hh => (ihdr_yes hh).2.2.2.2.2.2.2.2.2) (fun hn => hn h)

/-- Width, height and kind are well. -/
def dimOk (hd : List UInt8) : Bool := decide (0 < wideOf hd ∧ wideOf hd < 2147483648 ∧ 0 < highOf hd ∧ highOf hd < 2147483648 ∧ wideOf hd * highOf hd < 1152921504606846976 ∧ cbIn hd ≠ 0)

theorem dim_no {inp : List UInt8} {p : Prop} (h : dimOk inp = true → p) (hn : ¬ p) : dimOk inp = false := by
  cases hi : dimOk inp with
  | false => rfl
  | true => exact (hn (h hi)).elim
theorem dim_yes {inp : List UInt8} (h : dimOk inp = true) : 0 < wideOf inp ∧ wideOf inp < 2147483648 ∧ 0 < highOf inp ∧ highOf inp < 2147483648 ∧
    wideOf inp * highOf inp < 1152921504606846976 ∧ cbIn inp ≠ 0 := of_decide_eq_true h

def Dec.dims (d : Dec) (hd : List UInt8) : Dec := { d with cb := cbIn hd, depth := (at_ hd 8).toNat, width := wideOf hd, height := highOf hd }

/-- What stands behind the tests of the first chunk's bytes. -/
def ihdrT (d : Dec) (hd inp : List UInt8) : Option (Dec × List UInt8) := if dimOk hd = true ∧ sumOk inp d.crc = true then some (d.dims hd, inp.drop 4) else none

theorem ihdrT_none {d : Dec} {hd inp : List UInt8} (h : dimOk hd = false) : ihdrT d hd inp = none := by
  unfold ihdrT; rw [if_neg]; rw [h]; simp

theorem Res.trans {L : Lay} {r : Src} {D C : Nat} {w w1 w' : World} {ok : Option (Dec × List UInt8)} {e : Ending} (m : Mod (foot r D C) w w1) (h : Res L r D C w1 ok e w') : Res L r D C w ok e w' :=
  ⟨m.trans h.mod, h.good, h.bad⟩

set_option maxRecDepth 100000 in
set_option maxHeartbeats 4000000 in
theorem ihdr_tail4 (L : Lay) (r : Src) (D C : Nat) (s : Sep L r D C) (w : World) (d : Dec) (inp : List UInt8) (k wd hg : Nat) (h : St L r D C w d inp) (hk : d.cb = k) (hwd : wd < 2147483648) (hhg : hg < 2147483648)
    (u1 u2 u3 u5 u6 u9 u10 u11 u12 u13 u14 u15 u16 u17 u18 u19 u20 u21 u22 u23 u24 u25 u26 u27 u28 u29 u30 u31 u32 u33 u34 u35 u36 u37 u38 u39 u40 u41 u42 u43 u44 u45 u46 u47 u48 u49 u50 u51 u52 u53 u54 u55 u56 u57 u58 u59 u60 u61 u62 u63 u64 u65 u66 u67 u68 u69 u70 u71 u72 u73 u74 u75 u76 u77 u78 u79 u80 u81 u82 u83 u84 u85 u86 u87 u88 u89 u90 u91 u92 u93 u94 u95 u96 u97 u98 u99 u100 u101 u102 u103 u104 u105 u106 u107 u108 u109 u110 u111 u112 u113 u114 u115 u116 u117 u118 u119 u120 u121 u122 u123 u124 u125 u126 u127 u128 u129 u130 u131 u132 u133 u134 u135 u136 u137 u138 u139 u140 u141 u142 u143 u144 u145 u146 u147 u148 u149 u150 u151 u152 u153 u154 u155 u156 u157 u158 u159 u160 u161 u162 u163 u164 u165 u166 u167 u168 u169 u170 u171 u172 u173 u174 u175 u176 u177 u178 u179 u180 u181 u182 u183 u184 u185 u186 u187 u188 u189 u190 u191 u192 u193 u194 u195 u196 u197 u198 u199 u200 u201 u202 u203 u204 u205 u206 u207 u208 u209 u210 u211 u212 u213 u214 u215 u216 u217 u218 u219 u220 u221 u222 u223 u224 u225 u226 u227 u228 u229 u230 u231 u232 u233 u234 u235 u236 u237 u238 u239 u240 u241 u242 u243 u244 u245 u246 u247 u248 u249 u250 u251 u252 u253 u254 : Value) :
    Code.wp Tryz.prog (navc [1, 1, 1, 1, 1, 1, 1, 1, 1, 1, 1, 1, 1, 1, 1, 1, 1, 1] (textOf Tryz.f88)) (bodyPost Tryz.prog Tryz.f88 fun e w' => Res L r D C w (if k ≠ 0 ∧ sumOk inp d.crc = true then some ({ d with width := wd, height := hg }, inp.drop 4) else none) e w')
      ⟨#[.pointer (some ⟨D, 0, none⟩), u1, u2, u3, .nilIface, u5, u6, .int .i32 wd, .int .i32 hg, u9, u10, u11, u12, u13, u14, u15, u16, u17, u18, u19, u20, u21, u22, u23, u24, u25, u26, u27, u28, u29, u30, u31, u32, u33, u34, u35, u36, u37, u38, u39, u40, u41, u42, u43, u44, u45, u46, u47, u48, u49, u50, u51, u52, u53, u54, u55, u56, u57, u58, u59, u60, u61, u62, u63, u64, u65, u66, u67, u68, u69, u70, u71, u72, u73, u74, u75, u76, u77, u78, u79, u80, u81, u82, u83, u84, u85, u86, u87, u88, u89, u90, u91, u92, u93, u94, u95, u96, u97, u98, u99, u100, u101, u102, u103, u104, u105, u106, u107, u108, u109, u110, u111, u112, u113, u114, u115, u116, u117, u118, u119, u120, u121, u122, u123, u124, u125, u126, u127, u128, u129, u130, u131, u132, u133, u134, u135, u136, u137, u138, u139, u140, u141, u142, u143, u144, u145, u146, u147, u148, u149, u150, u151, u152, u153, u154, u155, u156, u157, u158, u159, u160, u161, u162, u163, u164, u165, u166, u167, u168, u169, u170, u171, u172, u173, u174, u175, u176, u177, u178, u179, u180, u181, u182, u183, u184, u185, u186, u187, u188, u189, u190, u191, u192, u193, u194, u195, u196, u197, u198, u199, u200, u201, u202, u203, u204, u205, u206, u207, u208, u209, u210, u211, u212, u213, u214, u215, u216, u217, u218, u219, u220, u221, u222, u223, u224, u225, u226, u227, u228, u229, u230, u231, u232, u233, u234, u235, u236, u237, u238, u239, u240, u241, u242, u243, u244, u245, u246, u247, u248, u249, u250, u251, u252, u253, u254], []⟩ w := by
  obtain ⟨R, hR⟩ : ∃ R, R = (if k ≠ 0 ∧ sumOk inp d.crc = true then some ({ d with width := wd, height := hg }, inp.drop 4) else none) := ⟨_, rfl⟩
  rw [← hR]
  have HR := Lib.hid hR; have HST := Lib.hid h; clear hR
  have c7 := h.dec.cb
  rw [hk] at c7
  have c3 := h.dec.width
  have c4 := h.dec.height
  have f3 := h.dec.fz 3
  have f4 := h.dec.fz 4
  clear h hk
  conv => arg 2; whnf
  by_cases hk0 : k = 0
  · subst hk0
    have hr : R = none := by rw [HR.out, if_neg (fun hh => hh.1 rfl)]
    have HRN := Lib.hid hr; clear hr
    as_aux_lemma =>
      go_wp2
      go_ret
      exact Res.err (.unsup _) (Mod.refl _ _) HRN.out
  · have hkb : (((k : Nat) : Int) == 0) = false := by rw [beq_eq_false_iff_ne]; omega
    have hR2 : R = (if sumOk inp d.crc = true then some ({ d with width := (wd : Int), height := (hg : Int) }, inp.drop 4) else none) := by
      rw [HR.out]
      by_cases hso : sumOk inp d.crc = true
      · rw [if_pos ⟨hk0, hso⟩, if_pos hso]
      · rw [if_neg (fun hh => hso hh.2), if_neg hso]
    have st2 := ((HST.out.setWidth s (wd : Int)).setHeight s (hg : Int))
    have m2 : Mod (foot r D C) w ((w.setCell ⟨D, 3, none⟩ (.int .i64 (wd : Int))).setCell ⟨D, 4, none⟩ (.int .i64 (hg : Int))) := (Mod.setD _ _).trans (Mod.setD _ _)
    have hv := verifyChecksum L r D C s _ _ _ st2
    have HV := Lib.hid hv; have HM := Lib.hid m2; have HR2 := Lib.hid hR2
    clear hk0 hR2 st2 m2 hv
    as_aux_lemma =>
      go_wp2_with (fail)
      refine HV.out.mono ?_
      intro e w1 hstep
      have hres := Res.of_step HM.out hstep
      have hcase : ∃ v, e = .returned v := by
        cases hok : sumOk inp d.crc with
        | true => exact ⟨_, hstep.good hok⟩
        | false => obtain ⟨g, hg⟩ := hstep.bad hok; exact ⟨_, hg⟩
      obtain ⟨v, rfl⟩ := hcase
      have HRES := Lib.hid hres
      clear hres hstep
      go_wp2
      go_ret
      rw [HR2.out]
      exact HRES.out

set_option maxRecDepth 100000 in
set_option maxHeartbeats 8000000 in
theorem ihdr_tail3 (L : Lay) (r : Src) (D C : Nat) (s : Sep L r D C) (w : World) (d : Dec) (inp : List UInt8) (x8 x9 wd hg : Nat) (h : St L r D C w d inp) (hx8 : x8 < 256) (hx9 : x9 < 256)
    (q8 : w.cell? ⟨D, 18, none⟩ = some (.int .u8 x8)) (q9 : w.cell? ⟨D, 19, none⟩ = some (.int .u8 x9)) (hwd : wd < 2147483648) (hhg : hg < 2147483648)
    (u1 u2 u3 u5 u6 u9 u10 u11 u12 u13 u14 u15 u16 u17 u18 u19 u20 u21 u22 u23 u24 u25 u26 u27 u28 u29 u30 u31 u32 u33 u34 u35 u36 u37 u38 u39 u40 u41 u42 u43 u44 u45 u46 u47 u48 u49 u50 u51 u52 u53 u54 u55 u56 u57 u58 u59 u60 u61 u62 u63 u64 u65 u66 u67 u68 u69 u70 u71 u72 u73 u74 u75 u76 u77 u78 u79 u80 u81 u82 u83 u84 u85 u86 u87 u88 u89 u90 u91 u92 u93 u94 u95 u96 u97 u98 u99 u100 u101 u102 u103 u104 u105 u106 u107 u108 u109 u110 u111 u112 u113 u114 u115 u116 u117 u118 u119 u120 u121 u122 u123 u124 u125 u126 u127 u128 u129 u130 u131 u132 u133 u134 u135 u136 u137 u138 u139 u140 u141 u142 u143 u144 u145 u146 u147 u148 u149 u150 u151 u152 u153 u154 u155 u156 u157 u158 u159 u160 u161 u162 u163 u164 u165 u166 u167 u168 u169 u170 u171 u172 u173 u174 u175 u176 u177 u178 u179 u180 u181 u182 u183 u184 u185 u186 u187 u188 u189 u190 u191 u192 u193 u194 u195 u196 u197 u198 u199 u200 u201 u202 u203 u204 u205 u206 u207 u208 u209 u210 u211 u212 u213 u214 u215 u216 u217 u218 u219 u220 u221 u222 u223 u224 u225 u226 u227 u228 u229 u230 u231 u232 u233 u234 u235 u236 u237 u238 u239 u240 u241 u242 u243 u244 u245 u246 u247 u248 u249 u250 u251 u252 u253 u254 : Value) :
    Code.wp Tryz.prog (navc [1, 1, 1, 1, 1, 1, 1, 1, 1, 1, 1, 1, 1, 1, 1] (textOf Tryz.f88)) (bodyPost Tryz.prog Tryz.f88 fun e w' => Res L r D C w (if cbOf x8 x9 ≠ 0 ∧ sumOk inp d.crc = true then some ({ d with cb := (cbOf x8 x9 : Nat), depth := x8, width := wd, height := hg }, inp.drop 4) else none) e w')
      ⟨#[.pointer (some ⟨D, 0, none⟩), u1, u2, u3, .nilIface, u5, u6, .int .i32 wd, .int .i32 hg, u9, u10, u11, u12, u13, u14, u15, u16, u17, u18, u19, u20, u21, u22, u23, u24, u25, u26, u27, u28, u29, u30, u31, u32, u33, u34, u35, u36, u37, u38, u39, u40, u41, u42, u43, u44, u45, u46, u47, u48, u49, u50, u51, u52, u53, u54, u55, u56, u57, u58, u59, u60, u61, u62, u63, u64, u65, u66, u67, u68, u69, u70, u71, u72, u73, u74, u75, u76, u77, u78, u79, u80, u81, u82, u83, u84, u85, u86, u87, u88, u89, u90, u91, u92, u93, u94, u95, u96, u97, u98, u99, u100, u101, u102, u103, u104, u105, u106, u107, u108, u109, u110, u111, u112, u113, u114, u115, u116, u117, u118, u119, u120, u121, u122, u123, u124, u125, u126, u127, u128, u129, u130, u131, u132, u133, u134, u135, u136, u137, u138, u139, u140, u141, u142, u143, u144, u145, u146, u147, u148, u149, u150, u151, u152, u153, u154, u155, u156, u157, u158, u159, u160, u161, u162, u163, u164, u165, u166, u167, u168, u169, u170, u171, u172, u173, u174, u175, u176, u177, u178, u179, u180, u181, u182, u183, u184, u185, u186, u187, u188, u189, u190, u191, u192, u193, u194, u195, u196, u197, u198, u199, u200, u201, u202, u203, u204, u205, u206, u207, u208, u209, u210, u211, u212, u213, u214, u215, u216, u217, u218, u219, u220, u221, u222, u223, u224, u225, u226, u227, u228, u229, u230, u231, u232, u233, u234, u235, u236, u237, u238, u239, u240, u241, u242, u243, u244, u245, u246, u247, u248, u249, u250, u251, u252, u253, u254], []⟩ w := by
  have st5 := ((h.setCb s 0).setDepth s (x8 : Int))
  have m5 : Mod (foot r D C) w ((w.setCell ⟨D, 7, none⟩ (.int .i64 0)).setCell ⟨D, 5, none⟩ (.int .i64 (x8 : Int))) := (Mod.setD _ _).trans (Mod.setD _ _)
  have HST5 := Lib.hid st5; have HM5 := Lib.hid m5
  have c5 := h.dec.depth
  have c7 := h.dec.cb
  have f5 := h.dec.fz 5
  have f7 := h.dec.fz 7
  clear h st5 m5
  conv => arg 2; whnf
  go_upto_block 0 with fail
  go_cut [] (fun wx => St L r D C wx { d with cb := (cbOf x8 x9 : Nat), depth := x8 } inp ∧ Mod (foot r D C) w wx)
  case rest =>
    obtain ⟨st6, m6⟩ := hcut
    rename_i K hK
    refine hK _ _ ?_
    refine wp_mono (ihdr_tail4 L r D C s wc { d with cb := (cbOf x8 x9 : Nat), depth := x8 } inp (cbOf x8 x9) wd hg st6 rfl hwd hhg _ _ _ _ _ _ _ _ _ _ _ _ _ _ _ _ _ _ _ _ _ _ _ _ _ _ _ _ _ _ _ _ _ _ _ _ _ _ _ _ _ _ _ _ _ _ _ _ _ _ _ _ _ _ _ _ _ _ _ _ _ _ _ _ _ _ _ _ _ _ _ _ _ _ _ _ _ _ _ _ _ _ _ _ _ _ _ _ _ _ _ _ _ _ _ _ _ _ _ _ _ _ _ _ _ _ _ _ _ _ _ _ _ _ _ _ _ _ _ _ _ _ _ _ _ _ _ _ _ _ _ _ _ _ _ _ _ _ _ _ _ _ _ _ _ _ _ _ _ _ _ _ _ _ _ _ _ _ _ _ _ _ _ _ _ _ _ _ _ _ _ _ _ _ _ _ _ _ _ _ _ _ _ _ _ _ _ _ _ _ _ _ _ _ _ _ _ _ _ _ _ _ _ _ _ _ _ _ _ _ _ _ _ _ _ _ _ _ _ _ _ _ _ _ _ _ _ _ _ _ _ _ _ _ _ _ _ _ _ _ _ _ _ _ _ _ _ _ _ _ _) ?_
    intro e a w2 hq
    exact bodyPost_mono (fun e w hr => Res.trans m6 hr) hq
  case first =>
      by_cases e8_1 : x8 = 1
      · subst e8_1
        by_cases e9_0 : x9 = 0
        · subst e9_0
          have hc : cbOf 1 0 = 1 := by decide
          have HC := Lib.hid hc
          clear hc
          as_aux_lemma =>
            go_wp2
            go_meet
            case rel => rw [HC.out]; exact ⟨HST5.out.setCb s 1, HM5.out.trans (Mod.setD _ _)⟩
        have o9_0 : (((x9 : Nat) : Int) == 0) = false := by rw [beq_eq_false_iff_ne]; omega
        by_cases e9_3 : x9 = 3
        · subst e9_3
          have hc : cbOf 1 3 = 7 := by decide
          have HC := Lib.hid hc
          clear hc
          as_aux_lemma =>
            go_wp2
            go_meet
            case rel => rw [HC.out]; exact ⟨HST5.out.setCb s 7, HM5.out.trans (Mod.setD _ _)⟩
        have o9_3 : (((x9 : Nat) : Int) == 3) = false := by rw [beq_eq_false_iff_ne]; omega
        have hc : cbOf 1 x9 = 0 := by simp [cbOf, e9_0, e9_3]
        have HC := Lib.hid hc
        clear hc e9_0 e9_3
        as_aux_lemma =>
          go_wp2
          go_meet
          case rel => rw [HC.out]; exact ⟨HST5.out, HM5.out⟩
      have o8_1 : (((x8 : Nat) : Int) == 1) = false := by rw [beq_eq_false_iff_ne]; omega
      by_cases e8_2 : x8 = 2
      · subst e8_2
        by_cases e9_0 : x9 = 0
        · subst e9_0
          have hc : cbOf 2 0 = 2 := by decide
          have HC := Lib.hid hc
          clear hc
          as_aux_lemma =>
            go_wp2
            go_meet
            case rel => rw [HC.out]; exact ⟨HST5.out.setCb s 2, HM5.out.trans (Mod.setD _ _)⟩
        have o9_0 : (((x9 : Nat) : Int) == 0) = false := by rw [beq_eq_false_iff_ne]; omega
        by_cases e9_3 : x9 = 3
        · subst e9_3
          have hc : cbOf 2 3 = 8 := by decide
          have HC := Lib.hid hc
          clear hc
          as_aux_lemma =>
            go_wp2
            go_meet
            case rel => rw [HC.out]; exact ⟨HST5.out.setCb s 8, HM5.out.trans (Mod.setD _ _)⟩
        have o9_3 : (((x9 : Nat) : Int) == 3) = false := by rw [beq_eq_false_iff_ne]; omega
        have hc : cbOf 2 x9 = 0 := by simp [cbOf, e9_0, e9_3]
        have HC := Lib.hid hc
        clear hc e9_0 e9_3
        as_aux_lemma =>
          go_wp2
          go_meet
          case rel => rw [HC.out]; exact ⟨HST5.out, HM5.out⟩
      have o8_2 : (((x8 : Nat) : Int) == 2) = false := by rw [beq_eq_false_iff_ne]; omega
      by_cases e8_4 : x8 = 4
      · subst e8_4
        by_cases e9_0 : x9 = 0
        · subst e9_0
          have hc : cbOf 4 0 = 3 := by decide
          have HC := Lib.hid hc
          clear hc
          as_aux_lemma =>
            go_wp2
            go_meet
            case rel => rw [HC.out]; exact ⟨HST5.out.setCb s 3, HM5.out.trans (Mod.setD _ _)⟩
        have o9_0 : (((x9 : Nat) : Int) == 0) = false := by rw [beq_eq_false_iff_ne]; omega
        by_cases e9_3 : x9 = 3
        · subst e9_3
          have hc : cbOf 4 3 = 9 := by decide
          have HC := Lib.hid hc
          clear hc
          as_aux_lemma =>
            go_wp2
            go_meet
            case rel => rw [HC.out]; exact ⟨HST5.out.setCb s 9, HM5.out.trans (Mod.setD _ _)⟩
        have o9_3 : (((x9 : Nat) : Int) == 3) = false := by rw [beq_eq_false_iff_ne]; omega
        have hc : cbOf 4 x9 = 0 := by simp [cbOf, e9_0, e9_3]
        have HC := Lib.hid hc
        clear hc e9_0 e9_3
        as_aux_lemma =>
          go_wp2
          go_meet
          case rel => rw [HC.out]; exact ⟨HST5.out, HM5.out⟩
      have o8_4 : (((x8 : Nat) : Int) == 4) = false := by rw [beq_eq_false_iff_ne]; omega
      by_cases e8_8 : x8 = 8
      · subst e8_8
        by_cases e9_0 : x9 = 0
        · subst e9_0
          have hc : cbOf 8 0 = 4 := by decide
          have HC := Lib.hid hc
          clear hc
          as_aux_lemma =>
            go_wp2
            go_meet
            case rel => rw [HC.out]; exact ⟨HST5.out.setCb s 4, HM5.out.trans (Mod.setD _ _)⟩
        have o9_0 : (((x9 : Nat) : Int) == 0) = false := by rw [beq_eq_false_iff_ne]; omega
        by_cases e9_2 : x9 = 2
        · subst e9_2
          have hc : cbOf 8 2 = 6 := by decide
          have HC := Lib.hid hc
          clear hc
          as_aux_lemma =>
            go_wp2
            go_meet
            case rel => rw [HC.out]; exact ⟨HST5.out.setCb s 6, HM5.out.trans (Mod.setD _ _)⟩
        have o9_2 : (((x9 : Nat) : Int) == 2) = false := by rw [beq_eq_false_iff_ne]; omega
        by_cases e9_3 : x9 = 3
        · subst e9_3
          have hc : cbOf 8 3 = 10 := by decide
          have HC := Lib.hid hc
          clear hc
          as_aux_lemma =>
            go_wp2
            go_meet
            case rel => rw [HC.out]; exact ⟨HST5.out.setCb s 10, HM5.out.trans (Mod.setD _ _)⟩
        have o9_3 : (((x9 : Nat) : Int) == 3) = false := by rw [beq_eq_false_iff_ne]; omega
        by_cases e9_4 : x9 = 4
        · subst e9_4
          have hc : cbOf 8 4 = 5 := by decide
          have HC := Lib.hid hc
          clear hc
          as_aux_lemma =>
            go_wp2
            go_meet
            case rel => rw [HC.out]; exact ⟨HST5.out.setCb s 5, HM5.out.trans (Mod.setD _ _)⟩
        have o9_4 : (((x9 : Nat) : Int) == 4) = false := by rw [beq_eq_false_iff_ne]; omega
        by_cases e9_6 : x9 = 6
        · subst e9_6
          have hc : cbOf 8 6 = 11 := by decide
          have HC := Lib.hid hc
          clear hc
          as_aux_lemma =>
            go_wp2
            go_meet
            case rel => rw [HC.out]; exact ⟨HST5.out.setCb s 11, HM5.out.trans (Mod.setD _ _)⟩
        have o9_6 : (((x9 : Nat) : Int) == 6) = false := by rw [beq_eq_false_iff_ne]; omega
        have hc : cbOf 8 x9 = 0 := by simp [cbOf, e9_0, e9_2, e9_3, e9_4, e9_6]
        have HC := Lib.hid hc
        clear hc e9_0 e9_2 e9_3 e9_4 e9_6
        as_aux_lemma =>
          go_wp2
          go_meet
          case rel => rw [HC.out]; exact ⟨HST5.out, HM5.out⟩
      have o8_8 : (((x8 : Nat) : Int) == 8) = false := by rw [beq_eq_false_iff_ne]; omega
      by_cases e8_16 : x8 = 16
      · subst e8_16
        by_cases e9_0 : x9 = 0
        · subst e9_0
          have hc : cbOf 16 0 = 12 := by decide
          have HC := Lib.hid hc
          clear hc
          as_aux_lemma =>
            go_wp2
            go_meet
            case rel => rw [HC.out]; exact ⟨HST5.out.setCb s 12, HM5.out.trans (Mod.setD _ _)⟩
        have o9_0 : (((x9 : Nat) : Int) == 0) = false := by rw [beq_eq_false_iff_ne]; omega
        by_cases e9_2 : x9 = 2
        · subst e9_2
          have hc : cbOf 16 2 = 14 := by decide
          have HC := Lib.hid hc
          clear hc
          as_aux_lemma =>
            go_wp2
            go_meet
            case rel => rw [HC.out]; exact ⟨HST5.out.setCb s 14, HM5.out.trans (Mod.setD _ _)⟩
        have o9_2 : (((x9 : Nat) : Int) == 2) = false := by rw [beq_eq_false_iff_ne]; omega
        by_cases e9_4 : x9 = 4
        · subst e9_4
          have hc : cbOf 16 4 = 13 := by decide
          have HC := Lib.hid hc
          clear hc
          as_aux_lemma =>
            go_wp2
            go_meet
            case rel => rw [HC.out]; exact ⟨HST5.out.setCb s 13, HM5.out.trans (Mod.setD _ _)⟩
        have o9_4 : (((x9 : Nat) : Int) == 4) = false := by rw [beq_eq_false_iff_ne]; omega
        by_cases e9_6 : x9 = 6
        · subst e9_6
          have hc : cbOf 16 6 = 15 := by decide
          have HC := Lib.hid hc
          clear hc
          as_aux_lemma =>
            go_wp2
            go_meet
            case rel => rw [HC.out]; exact ⟨HST5.out.setCb s 15, HM5.out.trans (Mod.setD _ _)⟩
        have o9_6 : (((x9 : Nat) : Int) == 6) = false := by rw [beq_eq_false_iff_ne]; omega
        have hc : cbOf 16 x9 = 0 := by simp [cbOf, e9_0, e9_2, e9_4, e9_6]
        have HC := Lib.hid hc
        clear hc e9_0 e9_2 e9_4 e9_6
        as_aux_lemma =>
          go_wp2
          go_meet
          case rel => rw [HC.out]; exact ⟨HST5.out, HM5.out⟩
      have o8_16 : (((x8 : Nat) : Int) == 16) = false := by rw [beq_eq_false_iff_ne]; omega
      have hc : cbOf x8 x9 = 0 := by simp [cbOf, e8_1, e8_2, e8_4, e8_8, e8_16]
      have HC := Lib.hid hc
      clear hc e8_1 e8_2 e8_4 e8_8 e8_16
      as_aux_lemma =>
        go_wp2
        go_meet
        case rel => rw [HC.out]; exact ⟨HST5.out, HM5.out⟩

set_option maxRecDepth 100000 in
set_option maxHeartbeats 4000000 in
theorem ihdr_tail2 (L : Lay) (r : Src) (D C : Nat) (s : Sep L r D C) (w : World) (d : Dec) (hd inp : List UInt8) (h : St L r D C w d inp) (q : ∀ i, i < 13 → w.cell? ⟨D, 10 + i, none⟩ = some (.int .u8 ((at_ hd i).toNat : Nat)))
    (u1 u2 u3 u5 u6 u7 u8 u9 u10 u11 u12 u13 u14 u15 u16 u17 u18 u19 u20 u21 u22 u23 u24 u25 u26 u27 u28 u29 u30 u31 u32 u33 u34 u35 u36 u37 u38 u39 u40 u41 u42 u43 u44 u45 u46 u47 u48 u49 u50 u51 u52 u53 u54 u55 u56 u57 u58 u59 u60 u61 u62 u63 u64 u65 u66 u67 u68 u69 u70 u71 u72 u73 u74 u75 u76 u77 u78 u79 u80 u81 u82 u83 u84 u85 u86 u87 u88 u89 u90 u91 u92 u93 u94 u95 u96 u97 u98 u99 u100 u101 u102 u103 u104 u105 u106 u107 u108 u109 u110 u111 u112 u113 u114 u115 u116 u117 u118 u119 u120 u121 u122 u123 u124 u125 u126 u127 u128 u129 u130 u131 u132 u133 u134 u135 u136 u137 u138 u139 u140 u141 u142 u143 u144 u145 u146 u147 u148 u149 u150 u151 u152 u153 u154 u155 u156 u157 u158 u159 u160 u161 u162 u163 u164 u165 u166 u167 u168 u169 u170 u171 u172 u173 u174 u175 u176 u177 u178 u179 u180 u181 u182 u183 u184 u185 u186 u187 u188 u189 u190 u191 u192 u193 u194 u195 u196 u197 u198 u199 u200 u201 u202 u203 u204 u205 u206 u207 u208 u209 u210 u211 u212 u213 u214 u215 u216 u217 u218 u219 u220 u221 u222 u223 u224 u225 u226 u227 u228 u229 u230 u231 u232 u233 u234 u235 u236 u237 u238 u239 u240 u241 u242 u243 u244 u245 u246 u247 u248 u249 u250 u251 u252 u253 u254 : Value) :
    Code.wp Tryz.prog (navc [1, 1, 1, 1, 1, 1, 1, 1] (textOf Tryz.f88)) (bodyPost Tryz.prog Tryz.f88 fun e w' => Res L r D C w (ihdrT d hd inp) e w')
      ⟨#[.pointer (some ⟨D, 0, none⟩), u1, u2, u3, .nilIface, u5, u6, u7, u8, u9, u10, u11, u12, u13, u14, u15, u16, u17, u18, u19, u20, u21, u22, u23, u24, u25, u26, u27, u28, u29, u30, u31, u32, u33, u34, u35, u36, u37, u38, u39, u40, u41, u42, u43, u44, u45, u46, u47, u48, u49, u50, u51, u52, u53, u54, u55, u56, u57, u58, u59, u60, u61, u62, u63, u64, u65, u66, u67, u68, u69, u70, u71, u72, u73, u74, u75, u76, u77, u78, u79, u80, u81, u82, u83, u84, u85, u86, u87, u88, u89, u90, u91, u92, u93, u94, u95, u96, u97, u98, u99, u100, u101, u102, u103, u104, u105, u106, u107, u108, u109, u110, u111, u112, u113, u114, u115, u116, u117, u118, u119, u120, u121, u122, u123, u124, u125, u126, u127, u128, u129, u130, u131, u132, u133, u134, u135, u136, u137, u138, u139, u140, u141, u142, u143, u144, u145, u146, u147, u148, u149, u150, u151, u152, u153, u154, u155, u156, u157, u158, u159, u160, u161, u162, u163, u164, u165, u166, u167, u168, u169, u170, u171, u172, u173, u174, u175, u176, u177, u178, u179, u180, u181, u182, u183, u184, u185, u186, u187, u188, u189, u190, u191, u192, u193, u194, u195, u196, u197, u198, u199, u200, u201, u202, u203, u204, u205, u206, u207, u208, u209, u210, u211, u212, u213, u214, u215, u216, u217, u218, u219, u220, u221, u222, u223, u224, u225, u226, u227, u228, u229, u230, u231, u232, u233, u234, u235, u236, u237, u238, u239, u240, u241, u242, u243, u244, u245, u246, u247, u248, u249, u250, u251, u252, u253, u254], []⟩ w := by
  obtain ⟨R, hR⟩ : ∃ R, R = ihdrT d hd inp := ⟨_, rfl⟩
  rw [← hR]
  have HR := Lib.hid hR; have NQ := Lib.hid q; have HST := Lib.hid h; clear hR q h
  conv => arg 2; whnf
  go_wp2_with (fail)
  refine (beUint32 _ D 10 4 768 (at_ hd 0) (at_ hd 1) (at_ hd 2) (at_ hd 3) (by omega) (NQ.out 0 (by omega)) (NQ.out 1 (by omega)) (NQ.out 2 (by omega)) (NQ.out 3 (by omega))).mono ?_
  rintro e w3 ⟨rfl, n3, rfl⟩
  go_wp2_with (fail)
  refine (beUint32 (w.drewN n3) D 14 4 764 (at_ hd 4) (at_ hd 5) (at_ hd 6) (at_ hd 7) (by omega) (NQ.out 4 (by omega)) (NQ.out 5 (by omega)) (NQ.out 6 (by omega)) (NQ.out 7 (by omega))).mono ?_
  rintro e w4 ⟨rfl, n4, rfl⟩
  rw [show be4 (at_ hd 0) (at_ hd 1) (at_ hd 2) (at_ hd 3) = wideOf hd from rfl, show be4 (at_ hd 4) (at_ hd 5) (at_ hd 6) (at_ hd 7) = highOf hd from rfl]
  have wlt : wideOf hd < 4294967296 := be4_lt _ _ _ _
  have hlt : highOf hd < 4294967296 := be4_lt _ _ _ _
  generalize hwd : wideOf hd = wd at *
  generalize hhg : highOf hd = hg at *
  have HWD := Lib.hid hwd; have HHG := Lib.hid hhg
  clear hwd hhg
  by_cases hw1 : 0 < wd ∧ wd < 2147483648
  · have e1 : wrap32 (wd : Int) = wd := by unfold wrap32; omega
    have p1 : (0 : Int) < wd := by omega
    by_cases hh1 : 0 < hg ∧ hg < 2147483648
    · have e2 : wrap32 (hg : Int) = hg := by unfold wrap32; omega
      have p2 : (0 : Int) < hg := by omega
      obtain ⟨p, hp⟩ : ∃ p : Nat, p = wd * hg := ⟨_, rfl⟩
      have hp2 : (wd : Int) * (hg : Int) = (p : Int) := by rw [hp]; simp
      have plt : p < 4611686018427387904 := by
        rw [hp]
        have : wd * hg < 2147483648 * 2147483648 := Nat.mul_lt_mul_of_lt_of_lt hw1.2 hh1.2
        omega
      have HP1 := Lib.hid hp; clear hp
      by_cases hp8 : p < 1152921504606846976
      · clear plt
        have hdim : dimOk hd = decide (cbOf (at_ hd 8).toNat (at_ hd 9).toNat ≠ 0) := by
          unfold dimOk
          rw [HWD.out, HHG.out, ← HP1.out]
          have e1 : cbIn hd = cbOf (at_ hd 8).toNat (at_ hd 9).toNat := rfl
          rw [e1]
          simp [hw1.1, hw1.2, hh1.1, hh1.2, hp8]
        have hR2 : R = (if cbOf (at_ hd 8).toNat (at_ hd 9).toNat ≠ 0 ∧ sumOk inp d.crc = true then some ({ d with cb := (cbOf (at_ hd 8).toNat (at_ hd 9).toNat : Nat), depth := (at_ hd 8).toNat, width := (wd : Int), height := (hg : Int) }, inp.drop 4) else none) := by
          rw [HR.out]
          unfold ihdrT Dec.dims
          rw [hdim, HWD.out, HHG.out]
          by_cases hc : cbOf (at_ hd 8).toNat (at_ hd 9).toNat = 0 <;> simp [hc]
          rfl
        have HR2 := Lib.hid hR2
        have HH := Lib.hid (And.intro hw1 hh1)
        clear hdim hR2
        as_aux_lemma =>
          go_upto_if 109 with fail
          go_cut [4] (fun v4 wx => v4 = .nilIface ∧ wx = w.drewN (n3 + n4))
          case first =>
            as_aux_lemma =>
              go_wp2
              go_meet
              case rel => exact ⟨rfl, rfl⟩
          case rest =>
            obtain ⟨rfl, rfl⟩ := hcut
            rename_i K hK
            refine hK _ _ ?_
            refine wp_mono (ihdr_tail3 L r D C s (w.drewN (n3 + n4)) d inp (at_ hd 8).toNat (at_ hd 9).toNat wd hg (HST.out.drewN s _) (at_ hd 8).toNat_lt (at_ hd 9).toNat_lt (NQ.out 8 (by omega)) (NQ.out 9 (by omega)) HH.out.1.2 HH.out.2.2 _ _ _ _ _ _ _ _ _ _ _ _ _ _ _ _ _ _ _ _ _ _ _ _ _ _ _ _ _ _ _ _ _ _ _ _ _ _ _ _ _ _ _ _ _ _ _ _ _ _ _ _ _ _ _ _ _ _ _ _ _ _ _ _ _ _ _ _ _ _ _ _ _ _ _ _ _ _ _ _ _ _ _ _ _ _ _ _ _ _ _ _ _ _ _ _ _ _ _ _ _ _ _ _ _ _ _ _ _ _ _ _ _ _ _ _ _ _ _ _ _ _ _ _ _ _ _ _ _ _ _ _ _ _ _ _ _ _ _ _ _ _ _ _ _ _ _ _ _ _ _ _ _ _ _ _ _ _ _ _ _ _ _ _ _ _ _ _ _ _ _ _ _ _ _ _ _ _ _ _ _ _ _ _ _ _ _ _ _ _ _ _ _ _ _ _ _ _ _ _ _ _ _ _ _ _ _ _ _ _ _ _ _ _ _ _ _ _ _ _ _ _ _ _ _ _ _ _ _ _ _ _ _ _ _ _ _ _ _ _ _ _ _ _ _ _ _ _ _ _ _) ?_
            intro e a w2 hq
            exact bodyPost_mono (fun e w' hr => by rw [HR2.out]; exact Res.trans ((Mod.refl _ _).drewN _) hr) hq
      · have hz := far8 p plt hp8
        have hr : R = none := by rw [HR.out]; exact ihdrT_none (dim_no (fun hh => by have := dim_yes hh; rw [HWD.out, HHG.out, ← HP1.out] at this; exact this.2.2.2.2.1) hp8)
        have HRN := Lib.hid hr; clear hr hp8 hh1 hw1
        as_aux_lemma =>
          go_wp2
          go_ret
          exact Res.err (.unsup _) ((Mod.refl _ _).drewN _) HRN.out
    · have e2 : wrap32 (hg : Int) ≤ 0 := by unfold wrap32; omega
      have hr : R = none := by rw [HR.out]; exact ihdrT_none (dim_no (fun hh => by have := dim_yes hh; rw [HHG.out] at this; exact ⟨this.2.2.1, this.2.2.2.1⟩) hh1)
      have HRN := Lib.hid hr; clear hr hh1 hw1
      as_aux_lemma =>
        go_wp2
        go_ret
        exact Res.err (.fmt _) ((Mod.refl _ _).drewN _) HRN.out
  · have e1 : wrap32 (wd : Int) ≤ 0 := by unfold wrap32; omega
    have hr : R = none := by rw [HR.out]; exact ihdrT_none (dim_no (fun hh => by have := dim_yes hh; rw [HWD.out] at this; exact ⟨this.1, this.2.1⟩) hw1)
    have HRN := Lib.hid hr; clear hr hw1
    as_aux_lemma =>
      go_wp2
      go_ret
      exact Res.err (.fmt _) ((Mod.refl _ _).drewN _) HRN.out

theorem ihdrP_eq {d : Dec} {inp : List UInt8} (hl : 13 ≤ inp.length) : ihdrP d inp =
    (if at_ inp 10 = 0 ∧ at_ inp 11 = 0 ∧ (at_ inp 12).toNat < 2 then ihdrT { d with crc := crcW d.crc (inp.take 13), ilace := (at_ inp 12).toNat } inp (inp.drop 13) else none) := by
  unfold ihdrP ihdrT
  by_cases h : at_ inp 10 = 0 ∧ at_ inp 11 = 0 ∧ (at_ inp 12).toNat < 2
  · rw [if_pos h]
    have e : ihdrOk inp = dimOk inp := by
      unfold ihdrOk dimOk
      simp [hl, h.1, h.2.1, h.2.2]
    rw [e, List.drop_drop]
    rfl
  · rw [if_neg h, if_neg]
    intro hh
    have := ihdr_yes hh.1
    exact h ⟨this.2.1, this.2.2.1, this.2.2.2.1⟩

set_option maxRecDepth 100000 in
set_option maxHeartbeats 8000000 in
theorem parseIHDR (L : Lay) (r : Src) (D C : Nat) (s : Sep L r D C) (w : World) (d : Dec) (inp : List UInt8) (n : Nat) (h : St L r D C w d inp) :
    Calls Tryz.prog 88 #[.pointer (some ⟨D, 0, none⟩), .int .u32 n] w fun e w' => Res L r D C w (if n = 13 then ihdrP d inp else none) e w' := by
  obtain ⟨R, hR⟩ : ∃ R, R = (if n = 13 then ihdrP d inp else none) := ⟨_, rfl⟩
  rw [← hR]
  have HR := Lib.hid hR; clear hR
  have c0 := h.dec.r
  have hcall := (h.drew s).call s 10 13 768 (by omega) (by omega) (by omega) (by omega) (by omega)
  have HC := Lib.hid hcall; clear hcall
  by_cases hn : n = 13
  · have hn2 : (((n : Nat) : Int) != 13) = false := by rw [hn]; rfl
    have hR2 : R = ihdrP d inp := by rw [HR.out, if_pos hn]
    have HN := Lib.hid hn; have HR2 := Lib.hid hR2; clear hn HR hR2
    go_enter Tryz.func88, Tryz.ntmps88
    go_wp2
    go_region_with (go_at_call 84; refine HC.out.mono ?_; rintro e w1 ⟨err, hp⟩; obtain rfl := hp.end_; have HP := Lib.hid hp; clear hp; go_simp)
    obtain ⟨st1, m1, b1⟩ := St.read h s HP.out.undrew (by omega) (by omega)
    by_cases hl : 13 ≤ inp.length
    · have he := HP.out.good hl
      subst he
      have hlen : (inp.take 13).length = 13 := by simp; omega
      have hcw := crcWrite L w1.drew (st1.drew s |>.env s) C D 10 768 d.crc (inp.take 13) (by omega) st1.dec.crc st1.dec.fzc b1
      rw [hlen] at hcw
      have HCW := Lib.hid hcw; clear hcw
      have c2 := st1.dec.crcp
      have st2 := (st1.drew s).setCrc s (crcW d.crc (inp.take 13))
      have m2 : Mod (foot r D C) w (w1.drew.setCell ⟨C, 0, none⟩ (.int .u32 ((crcW d.crc (inp.take 13)).toNat : Nat))) := m1.drew.trans (Mod.setC _)
      have q : ∀ i, i < 13 → w1.cell? ⟨D, 10 + i, none⟩ = some (.int .u8 ((at_ inp i).toNat : Nat)) := b1.take_at hl
      have q' : ∀ i, i < 13 → (w1.drew.setCell ⟨C, 0, none⟩ (.int .u32 ((crcW d.crc (inp.take 13)).toNat : Nat))).cell? ⟨D, 10 + i, none⟩ = some (.int .u8 ((at_ inp i).toNat : Nat)) := fun i hi => by
        rw [World.cell?_setCell_other _ _ _ _ (fun e => s.ne (congrArg Addr.block e).symm)]; exact q i hi
      have HST := Lib.hid st2; have HM := Lib.hid m2; have HQ := Lib.hid q'
      have HL := Lib.hid hl
      clear q q' b1 st1 m1 hlen hl st2 m2
      go_wp2
      go_region_with (go_at_call 87; refine HCW.out.mono ?_; rintro e w2 ⟨rfl, hw2⟩; have HW2 := Lib.hid hw2; clear hw2; go_simp)
      rw [HW2.out] at HST HM HQ
      clear HCW c0 c2 HW2 HP HC h
      have q10 := HQ.out 10 (by omega); have q11 := HQ.out 11 (by omega); have q12 := HQ.out 12 (by omega)
      have hR3 : R = (if at_ inp 10 = 0 ∧ at_ inp 11 = 0 ∧ (at_ inp 12).toNat < 2 then ihdrT { d with crc := crcW d.crc (inp.take 13), ilace := (at_ inp 12).toNat } inp (inp.drop 13) else none) := by
        rw [HR2.out]
        exact ihdrP_eq HL.out
      have HR3 := Lib.hid hR3
      clear hR3 HR2
      generalize hcc : crcW d.crc (inp.take 13) = cc at *
      clear hcc
      by_cases h10 : at_ inp 10 = 0
      · rw [h10] at q10
        by_cases h11 : at_ inp 11 = 0
        · rw [h11] at q11
          by_cases h12 : (at_ inp 12).toNat < 2
          · have hR4 : R = ihdrT { d with crc := cc, ilace := (at_ inp 12).toNat } inp (inp.drop 13) := by rw [HR3.out, if_pos ⟨h10, h11, h12⟩]
            have HR4 := Lib.hid hR4
            clear h10 h11 hR4 HR3
            go_upto_region 11 with fail
            go_cut [65] (fun v wx => v = .bool false ∧ wx = w2)
            case first =>
              have h01 : (at_ inp 12).toNat = 0 ∨ (at_ inp 12).toNat = 1 := by omega
              rcases h01 with h01 | h01
              · rw [h01] at q12
                clear h01 h12
                as_aux_lemma =>
                  go_wp2
                  go_meet
                  case rel => exact ⟨rfl, rfl⟩
              · rw [h01] at q12
                clear h01 h12
                as_aux_lemma =>
                  go_wp2
                  go_meet
                  case rel => exact ⟨rfl, rfl⟩
            case rest =>
              obtain ⟨rfl, rfl⟩ := hcut
              have c778 := HST.out.dec.ilace
              have f778 := HST.out.dec.fz 778
              have nq : ∀ i, i < 13 → (wc.setCell ⟨D, 778, none⟩ (.int .i64 ((at_ inp 12).toNat : Nat))).cell? ⟨D, 10 + i, none⟩ = some (.int .u8 ((at_ inp i).toNat : Nat)) := fun i hi => by
                rw [World.cell?_setCell_other _ _ _ _ (fun e => by have := congrArg Addr.off e; simp at this; omega)]; exact HQ.out i hi
              have NQ := Lib.hid nq; clear nq q10 q11
              go_upto_region 13 with fail
              go_cut [] (fun wx => wx = wc.setCell ⟨D, 778, none⟩ (.int .i64 ((at_ inp 12).toNat : Nat)))
              case first =>
                as_aux_lemma =>
                  go_wp2
                  go_meet
                  case rel => rfl
              case rest =>
                subst hcut
                rename_i K hK
                refine hK _ _ ?_
                refine wp_mono (ihdr_tail2 L r D C s (wc.setCell ⟨D, 778, none⟩ (.int .i64 ((at_ inp 12).toNat : Nat))) { d with crc := cc, ilace := (at_ inp 12).toNat } inp (inp.drop 13) (HST.out.setIlace s _) NQ.out _ _ _ _ _ _ _ _ _ _ _ _ _ _ _ _ _ _ _ _ _ _ _ _ _ _ _ _ _ _ _ _ _ _ _ _ _ _ _ _ _ _ _ _ _ _ _ _ _ _ _ _ _ _ _ _ _ _ _ _ _ _ _ _ _ _ _ _ _ _ _ _ _ _ _ _ _ _ _ _ _ _ _ _ _ _ _ _ _ _ _ _ _ _ _ _ _ _ _ _ _ _ _ _ _ _ _ _ _ _ _ _ _ _ _ _ _ _ _ _ _ _ _ _ _ _ _ _ _ _ _ _ _ _ _ _ _ _ _ _ _ _ _ _ _ _ _ _ _ _ _ _ _ _ _ _ _ _ _ _ _ _ _ _ _ _ _ _ _ _ _ _ _ _ _ _ _ _ _ _ _ _ _ _ _ _ _ _ _ _ _ _ _ _ _ _ _ _ _ _ _ _ _ _ _ _ _ _ _ _ _ _ _ _ _ _ _ _ _ _ _ _ _ _ _ _ _ _ _ _ _ _ _ _ _ _ _ _ _ _ _ _ _ _ _ _ _ _ _ _ _ _ _) ?_
                intro e a w2 hq
                exact bodyPost_mono (fun e w' hr => by rw [HR4.out]; exact Res.trans (HM.out.trans (Mod.setD _ _)) hr) hq
          · have t0 : ((((at_ inp 12).toNat : Nat) : Int) != 0) = true := by rw [bne_iff_ne]; omega
            have t1 : ((((at_ inp 12).toNat : Nat) : Int) != 1) = true := by rw [bne_iff_ne]; omega
            have hr : R = none := by rw [HR3.out, if_neg (fun hh => h12 hh.2.2)]
            clear h12 h10 h11
            have HRN := Lib.hid hr; clear hr
            as_aux_lemma =>
              go_wp2
              go_ret
              exact Res.err (.fmt _) HM.out HRN.out
        · have hz := u8_ne_zero h11
          have hr : R = none := by rw [HR3.out, if_neg (fun hh => h11 hh.2.1)]
          have HRN := Lib.hid hr; clear hr h10 h11
          as_aux_lemma =>
            go_wp2
            go_ret
            exact Res.err (.unsup _) HM.out HRN.out
      · have hz := u8_ne_zero h10
        have hr : R = none := by rw [HR3.out, if_neg (fun hh => h10 hh.1)]
        have HRN := Lib.hid hr; clear hr h10
        as_aux_lemma =>
          go_wp2
          go_ret
          exact Res.err (.unsup _) HM.out HRN.out
    · obtain ⟨g, hg⟩ := HP.out.bad (by omega)
      obtain ⟨t, v, hv⟩ := GErr.val_iface L g
      rw [hv] at hg
      subst hg
      have HV := Lib.hid hv; clear hv
      have hr : R = none := by rw [HR2.out]; exact ihdrP_none (ihdr_no (fun hh => (ihdr_yes hh).1) hl)
      have HRN := Lib.hid hr; have HM := Lib.hid m1; clear hr m1
      as_aux_lemma =>
        go_wp2
        go_ret
        exact HV.out ▸ Res.err g HM.out HRN.out
  · have hn2 : (((n : Nat) : Int) != 13) = true := by simp; omega
    have hr : R = none := by rw [HR.out, if_neg hn]
    have HRN := Lib.hid hr; clear hr hn
    go_enter Tryz.func88, Tryz.ntmps88
    go_wp2
    go_ret
    exact Res.err (.fmt _) (Mod.refl _ _) HRN.out

end Go.Proofs.YtnpkgmgedgcjmaaGreatDoor
