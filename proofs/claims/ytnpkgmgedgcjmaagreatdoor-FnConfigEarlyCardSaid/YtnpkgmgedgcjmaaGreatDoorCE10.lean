/- The decoder reads a chunk: by its name. No conditions but those in each theorem's own binders. -/
import Derived.Test.YtnpkgmgedgcjmaaGreatDoorCE9
namespace Go.Proofs.YtnpkgmgedgcjmaaGreatDoor
set_option linter.unusedVariables false
set_option linter.unusedSimpArgs false
open Go.RowKit Go.Png

set_option maxRecDepth 100000 in
set_option maxHeartbeats 8000000 in
/-- Too few bytes for a head. -/
theorem chunk_short (L : Lay) (r : Src) (D C : Nat) (s : Sep L r D C) (w : World) (d : Dec) (inp : List UInt8) (cfg : Bool) (hl : inp.length < 8) (h : St L r D C w d inp) :
    Calls Tryz.prog 65 #[.pointer (some ⟨D, 0, none⟩), .bool cfg] w fun e w' => Res L r D C w none e w' := by
  have c0 := h.dec.r
  have hcall := (h.drew s).call s 10 8 768 (by omega) (by omega) (by omega) (by omega) (by omega)
  have HC := Lib.hid hcall; clear hcall
  have HST0 := Lib.hid h; clear h
  go_enter Tryz.func65, Tryz.ntmps65
  go_wp2
  go_region_with (go_at_call 84; refine HC.out.mono ?_; rintro e w1 ⟨err, hp⟩; obtain rfl := hp.end_; have HP := Lib.hid hp; clear hp; go_simp)
  all_goals
    obtain ⟨st1, m1, b1⟩ := St.read HST0.out s HP.out.undrew (by omega) (by omega)
    obtain ⟨g, hg⟩ := HP.out.bad (by omega)
    obtain ⟨t, v, hv⟩ := GErr.val_iface L g
    rw [hv] at hg
    subst hg
    have HV := Lib.hid hv; clear hv
    have HM := Lib.hid m1; clear m1 st1 b1
    as_aux_lemma =>
      go_wp2
      go_ret
      exact HV.out ▸ Res.err g HM.out rfl

set_option maxRecDepth 100000 in
set_option maxHeartbeats 8000000 in
theorem chunk_IHDR (L : Lay) (r : Src) (D C : Nat) (s : Sep L r D C) (w : World) (d : Dec) (inp : List UInt8) (n : Nat) (cfg : Bool) (h : St L r D C w d inp) (hb : Bytes w D 14 nIHDR) (hst : d.stage = 0)
    (u2 u3 u5 u6 u8 u9 u10 u11 u12 u13 u14 u15 u16 u17 u18 u19 u20 u21 u22 u23 u24 u25 u26 u27 u28 u29 u30 u31 u32 u33 u34 u35 u36 u37 u38 u39 u40 u41 u42 u43 u44 u45 u46 u47 u48 u49 u50 u51 u52 u53 u54 u55 u56 u57 u58 u59 u60 u61 u62 u63 u64 u65 u66 u67 u68 u69 u70 u71 u72 u73 u74 u75 u76 u77 u78 u79 u80 u81 u82 u83 u84 u85 u86 u87 u88 u89 u90 u91 u92 u93 u94 u95 u96 u97 u98 u99 u100 u101 u102 u103 u104 u105 u106 u107 u108 u109 u110 u111 u112 u113 u114 u115 u116 u117 u118 u119 u120 u121 u122 u123 u124 u125 u126 u127 u128 u129 u130 u131 u132 u133 u134 u135 u136 u137 u138 u139 u140 u141 u142 u143 u144 u145 u146 u147 u148 u149 u150 u151 u152 u153 u154 u155 u156 u157 u158 u159 u160 u161 u162 u163 u164 u165 u166 u167 u168 u169 u170 u171 u172 u173 u174 u175 u176 u177 u178 u179 u180 u181 u182 u183 u184 u185 u186 u187 u188 u189 u190 u191 u192 u193 u194 u195 u196 u197 u198 u199 u200 u201 u202 u203 u204 u205 u206 u207 u208 : Value) (R : Ending → World → Prop) (hR : ∀ e w', Res L r D C w (if n = 13 then ihdrP { d with stage := 1 } inp else none) e w' → R e w') :
    Code.wp Tryz.prog (navc [1, 1, 1, 1, 1] (textOf Tryz.f65)) (bodyPost Tryz.prog Tryz.f65 R)
        ⟨#[.pointer (some ⟨D, 0, none⟩), .bool cfg, u2, u3, .nilIface, u5, u6, .int .u32 n, u8, u9, u10, u11, u12, u13, u14, u15, u16, u17, u18, u19, u20, u21, u22, u23, u24, u25, u26, u27, u28, u29, u30, u31, u32, u33, u34, u35, u36, u37, u38, u39, u40, u41, u42, u43, u44, u45, u46, u47, u48, u49, u50, u51, u52, u53, u54, u55, u56, u57, u58, u59, u60, u61, u62, u63, u64, u65, u66, u67, u68, u69, u70, u71, u72, u73, u74, u75, u76, u77, u78, u79, u80, u81, u82, u83, u84, u85, u86, u87, u88, u89, u90, u91, u92, u93, u94, u95, u96, u97, u98, u99, u100, u101, u102, u103, u104, u105, u106, u107, u108, u109, u110, u111, u112, u113, u114, u115, u116, u117, u118, u119, u120, u121, u122, u123, u124, u125, u126, u127, u128, u129, u130, u131, u132, u133, u134, u135, u136, u137, u138, u139, u140, u141, u142, u143, u144, u145, u146, u147, u148, u149, u150, u151, u152, u153, u154, u155, u156, u157, u158, u159, u160, u161, u162, u163, u164, u165, u166, u167, u168, u169, u170, u171, u172, u173, u174, u175, u176, u177, u178, u179, u180, u181, u182, u183, u184, u185, u186, u187, u188, u189, u190, u191, u192, u193, u194, u195, u196, u197, u198, u199, u200, u201, u202, u203, u204, u205, u206, u207, u208], []⟩ w := by
  have HR := Lib.hid hR; clear hR
  have hcv := convBytes w D 14 764 4 nIHDR rfl hb
  have e1 : ((strOf nIHDR).toList == [73, 72, 68, 82]) = true := by rw [strOf_toList]; rfl
  generalize strOf nIHDR = sg at *
  have c8 := h.dec.stage
  have f8 := h.dec.fz 8
  rw [hst] at c8
  have hcall := parseIHDR L r D C s (w.setCell ⟨D, 8, none⟩ (.int .i64 1)) _ inp n (h.setStage s 1)
  have HC := Lib.hid hcall
  clear hcall h
  conv => arg 2; whnf
  go_wp2_with (go_at_call 88; refine HC.out.mono ?_; rintro e w2 hr; obtain ⟨v, hv⟩ := hr.value; subst hv; have HR2 := Lib.hid hr; clear hr)
  exact HR.out _ _ (Res.trans (Mod.setD _ _) HR2.out)

theorem PlteRes.value {L : Lay} {r : Src} {D C : Nat} {w w' : World} {d : Dec} {inp : List UInt8} {np : Nat} {e : Ending} (h : PlteRes L r D C w d inp np e w') : ∃ v, e = .returned v := by
  cases hok : plteOk d inp np with
  | false => obtain ⟨g, hg⟩ := h.bad hok; exact ⟨_, hg⟩
  | true => exact ⟨_, (h.good hok).1⟩

theorem PlteRes.trans {L : Lay} {r : Src} {D C : Nat} {w w1 w' : World} {d : Dec} {inp : List UInt8} {np : Nat} {e : Ending} (m : Mod (foot r D C) w w1) (h : PlteRes L r D C w1 d inp np e w') : PlteRes L r D C w d inp np e w' :=
  ⟨m.trans h.mod, h.good, h.bad⟩

set_option maxRecDepth 100000 in
set_option maxHeartbeats 8000000 in
theorem chunk_PLTE (L : Lay) (r : Src) (D C : Nat) (s : Sep L r D C) (w : World) (d : Dec) (inp : List UInt8) (n : Nat) (cfg : Bool) (h : St L r D C w d inp) (hb : Bytes w D 14 nPLTE) (np depth : Nat) (hst : d.stage = 1) (hn : n = 3 * np) (hn1 : 1 ≤ np) (hnp : np ≤ 256) (hdp : d.depth = (depth : Nat)) (hd : depth = 1 ∨ depth = 2 ∨ depth = 4 ∨ depth = 8 ∨ depth = 16) (hn2 : np ≤ 2 ^ depth) (hk : isPal d.cb = true ∨ d.cb = 6 ∨ d.cb = 11 ∨ d.cb = 14 ∨ d.cb = 15)
    (u2 u3 u5 u6 u8 u9 u10 u11 u12 u13 u14 u15 u16 u17 u18 u19 u20 u21 u22 u23 u24 u25 u26 u27 u28 u29 u30 u31 u32 u33 u34 u35 u36 u37 u38 u39 u40 u41 u42 u43 u44 u45 u46 u47 u48 u49 u50 u51 u52 u53 u54 u55 u56 u57 u58 u59 u60 u61 u62 u63 u64 u65 u66 u67 u68 u69 u70 u71 u72 u73 u74 u75 u76 u77 u78 u79 u80 u81 u82 u83 u84 u85 u86 u87 u88 u89 u90 u91 u92 u93 u94 u95 u96 u97 u98 u99 u100 u101 u102 u103 u104 u105 u106 u107 u108 u109 u110 u111 u112 u113 u114 u115 u116 u117 u118 u119 u120 u121 u122 u123 u124 u125 u126 u127 u128 u129 u130 u131 u132 u133 u134 u135 u136 u137 u138 u139 u140 u141 u142 u143 u144 u145 u146 u147 u148 u149 u150 u151 u152 u153 u154 u155 u156 u157 u158 u159 u160 u161 u162 u163 u164 u165 u166 u167 u168 u169 u170 u171 u172 u173 u174 u175 u176 u177 u178 u179 u180 u181 u182 u183 u184 u185 u186 u187 u188 u189 u190 u191 u192 u193 u194 u195 u196 u197 u198 u199 u200 u201 u202 u203 u204 u205 u206 u207 u208 : Value) (R : Ending → World → Prop) (hR : ∀ e w', PlteRes L r D C w { d with stage := 2 } inp np e w' → R e w') :
    Code.wp Tryz.prog (navc [1, 1, 1, 1, 1] (textOf Tryz.f65)) (bodyPost Tryz.prog Tryz.f65 R)
        ⟨#[.pointer (some ⟨D, 0, none⟩), .bool cfg, u2, u3, .nilIface, u5, u6, .int .u32 n, u8, u9, u10, u11, u12, u13, u14, u15, u16, u17, u18, u19, u20, u21, u22, u23, u24, u25, u26, u27, u28, u29, u30, u31, u32, u33, u34, u35, u36, u37, u38, u39, u40, u41, u42, u43, u44, u45, u46, u47, u48, u49, u50, u51, u52, u53, u54, u55, u56, u57, u58, u59, u60, u61, u62, u63, u64, u65, u66, u67, u68, u69, u70, u71, u72, u73, u74, u75, u76, u77, u78, u79, u80, u81, u82, u83, u84, u85, u86, u87, u88, u89, u90, u91, u92, u93, u94, u95, u96, u97, u98, u99, u100, u101, u102, u103, u104, u105, u106, u107, u108, u109, u110, u111, u112, u113, u114, u115, u116, u117, u118, u119, u120, u121, u122, u123, u124, u125, u126, u127, u128, u129, u130, u131, u132, u133, u134, u135, u136, u137, u138, u139, u140, u141, u142, u143, u144, u145, u146, u147, u148, u149, u150, u151, u152, u153, u154, u155, u156, u157, u158, u159, u160, u161, u162, u163, u164, u165, u166, u167, u168, u169, u170, u171, u172, u173, u174, u175, u176, u177, u178, u179, u180, u181, u182, u183, u184, u185, u186, u187, u188, u189, u190, u191, u192, u193, u194, u195, u196, u197, u198, u199, u200, u201, u202, u203, u204, u205, u206, u207, u208], []⟩ w := by
  have HR := Lib.hid hR; clear hR
  have hcv := convBytes w D 14 764 4 nPLTE rfl hb
  have e1 : ((strOf nPLTE).toList == [73, 72, 68, 82]) = false := by rw [strOf_toList]; rfl
  have e2 : ((strOf nPLTE).toList == [80, 76, 84, 69]) = true := by rw [strOf_toList]; rfl
  generalize strOf nPLTE = sg at *
  have c8 := h.dec.stage
  have f8 := h.dec.fz 8
  rw [hst] at c8
  have hcall := parsePLTE L r D C s (w.setCell ⟨D, 8, none⟩ (.int .i64 2)) { d with stage := 2 } inp n np depth hn hn1 hnp hdp hd hn2 hk (h.setStage s 2)
  have HC := Lib.hid hcall
  clear hcall h hn hn1 hnp hdp hd hn2 hk
  conv => arg 2; whnf
  go_wp2_with (go_at_call 89; refine HC.out.mono ?_; rintro e w2 hr; obtain ⟨v, hv⟩ := hr.value; subst hv; have HR2 := Lib.hid hr; clear hr)
  exact HR.out _ _ (PlteRes.trans (Mod.setD _ _) HR2.out)

theorem Step.value {L : Lay} {r : Src} {D C : Nat} {w w' : World} {d : Dec} {inp : List UInt8} {ok : Bool} {e : Ending} (h : Step L r D C w d inp ok e w') : ∃ v, e = .returned v := by
  cases hok : ok with
  | false => obtain ⟨g, hg⟩ := h.bad hok; exact ⟨_, hg⟩
  | true => exact ⟨_, h.good hok⟩

theorem Step.trans {L : Lay} {r : Src} {D C : Nat} {w w1 w' : World} {d : Dec} {inp : List UInt8} {ok : Bool} {e : Ending} (m : Mod (foot r D C) w w1) (h : Step L r D C w1 d inp ok e w') : Step L r D C w d inp ok e w' :=
  ⟨h.st, m.trans h.mod, h.good, h.bad⟩

set_option maxRecDepth 100000 in
set_option maxHeartbeats 2000000 in
theorem parseIEND (L : Lay) (r : Src) (D C : Nat) (s : Sep L r D C) (w : World) (d : Dec) (inp : List UInt8) (h : St L r D C w d inp) :
    Calls Tryz.prog 93 #[.pointer (some ⟨D, 0, none⟩), .int .u32 0] w fun e w' => Step L r D C w d (inp.drop 4) (sumOk inp d.crc) e w' := by
  have hcall := verifyChecksum L r D C s w d inp h
  have HC := Lib.hid hcall
  clear hcall h
  go_enter Tryz.func93, Tryz.ntmps93
  go_wp2_with (go_at_call 94; refine HC.out.mono ?_; rintro e w2 hr; obtain ⟨v, hv⟩ := hr.value; subst hv; have HR2 := Lib.hid hr; clear hr)
  go_ret
  exact HR2.out

set_option maxRecDepth 100000 in
set_option maxHeartbeats 8000000 in
theorem chunk_IEND (L : Lay) (r : Src) (D C : Nat) (s : Sep L r D C) (w : World) (d : Dec) (inp : List UInt8) (n : Nat) (cfg : Bool) (h : St L r D C w d inp) (hb : Bytes w D 14 nIEND) (hn : n = 0) (hst : d.stage = 4)
    (u2 u3 u5 u6 u8 u9 u10 u11 u12 u13 u14 u15 u16 u17 u18 u19 u20 u21 u22 u23 u24 u25 u26 u27 u28 u29 u30 u31 u32 u33 u34 u35 u36 u37 u38 u39 u40 u41 u42 u43 u44 u45 u46 u47 u48 u49 u50 u51 u52 u53 u54 u55 u56 u57 u58 u59 u60 u61 u62 u63 u64 u65 u66 u67 u68 u69 u70 u71 u72 u73 u74 u75 u76 u77 u78 u79 u80 u81 u82 u83 u84 u85 u86 u87 u88 u89 u90 u91 u92 u93 u94 u95 u96 u97 u98 u99 u100 u101 u102 u103 u104 u105 u106 u107 u108 u109 u110 u111 u112 u113 u114 u115 u116 u117 u118 u119 u120 u121 u122 u123 u124 u125 u126 u127 u128 u129 u130 u131 u132 u133 u134 u135 u136 u137 u138 u139 u140 u141 u142 u143 u144 u145 u146 u147 u148 u149 u150 u151 u152 u153 u154 u155 u156 u157 u158 u159 u160 u161 u162 u163 u164 u165 u166 u167 u168 u169 u170 u171 u172 u173 u174 u175 u176 u177 u178 u179 u180 u181 u182 u183 u184 u185 u186 u187 u188 u189 u190 u191 u192 u193 u194 u195 u196 u197 u198 u199 u200 u201 u202 u203 u204 u205 u206 u207 u208 : Value) (R : Ending → World → Prop) (hR : ∀ e w', Step L r D C w { d with stage := 5 } (inp.drop 4) (sumOk inp d.crc) e w' → R e w') :
    Code.wp Tryz.prog (navc [1, 1, 1, 1, 1] (textOf Tryz.f65)) (bodyPost Tryz.prog Tryz.f65 R)
        ⟨#[.pointer (some ⟨D, 0, none⟩), .bool cfg, u2, u3, .nilIface, u5, u6, .int .u32 n, u8, u9, u10, u11, u12, u13, u14, u15, u16, u17, u18, u19, u20, u21, u22, u23, u24, u25, u26, u27, u28, u29, u30, u31, u32, u33, u34, u35, u36, u37, u38, u39, u40, u41, u42, u43, u44, u45, u46, u47, u48, u49, u50, u51, u52, u53, u54, u55, u56, u57, u58, u59, u60, u61, u62, u63, u64, u65, u66, u67, u68, u69, u70, u71, u72, u73, u74, u75, u76, u77, u78, u79, u80, u81, u82, u83, u84, u85, u86, u87, u88, u89, u90, u91, u92, u93, u94, u95, u96, u97, u98, u99, u100, u101, u102, u103, u104, u105, u106, u107, u108, u109, u110, u111, u112, u113, u114, u115, u116, u117, u118, u119, u120, u121, u122, u123, u124, u125, u126, u127, u128, u129, u130, u131, u132, u133, u134, u135, u136, u137, u138, u139, u140, u141, u142, u143, u144, u145, u146, u147, u148, u149, u150, u151, u152, u153, u154, u155, u156, u157, u158, u159, u160, u161, u162, u163, u164, u165, u166, u167, u168, u169, u170, u171, u172, u173, u174, u175, u176, u177, u178, u179, u180, u181, u182, u183, u184, u185, u186, u187, u188, u189, u190, u191, u192, u193, u194, u195, u196, u197, u198, u199, u200, u201, u202, u203, u204, u205, u206, u207, u208], []⟩ w := by
  have HR := Lib.hid hR; clear hR
  have hcv := convBytes w D 14 764 4 nIEND rfl hb
  have e1 : ((strOf nIEND).toList == [73, 72, 68, 82]) = false := by rw [strOf_toList]; rfl
  have e2 : ((strOf nIEND).toList == [80, 76, 84, 69]) = false := by rw [strOf_toList]; rfl
  have e3 : ((strOf nIEND).toList == [116, 82, 78, 83]) = false := by rw [strOf_toList]; rfl
  have e4 : ((strOf nIEND).toList == [73, 68, 65, 84]) = false := by rw [strOf_toList]; rfl
  have e5 : ((strOf nIEND).toList == [73, 69, 78, 68]) = true := by rw [strOf_toList]; rfl
  generalize strOf nIEND = sg at *
  have c8 := h.dec.stage
  have f8 := h.dec.fz 8
  rw [hst] at c8
  have hcall := parseIEND L r D C s (w.setCell ⟨D, 8, none⟩ (.int .i64 5)) _ inp (h.setStage s 5)
  have HC := Lib.hid hcall
  clear hcall h
  subst hn
  conv => arg 2; whnf
  go_wp2_with (go_at_call 93; refine HC.out.mono ?_; rintro e w2 hr; obtain ⟨v, hv⟩ := hr.value; subst hv; have HR2 := Lib.hid hr; clear hr)
  exact HR.out _ _ (Step.trans (Mod.setD _ _) HR2.out)

set_option maxRecDepth 100000 in
set_option maxHeartbeats 8000000 in
theorem chunk_IDAT (L : Lay) (r : Src) (D C : Nat) (s : Sep L r D C) (w : World) (d : Dec) (inp : List UInt8) (n : Nat) (cfg : Bool) (h : St L r D C w d inp) (hb : Bytes w D 14 nIDAT) (hcfg : cfg = true) (hst : d.stage = 1 ∧ isPal d.cb = false ∨ d.stage = 2 ∨ d.stage = 3)
    (u2 u3 u5 u6 u8 u9 u10 u11 u12 u13 u14 u15 u16 u17 u18 u19 u20 u21 u22 u23 u24 u25 u26 u27 u28 u29 u30 u31 u32 u33 u34 u35 u36 u37 u38 u39 u40 u41 u42 u43 u44 u45 u46 u47 u48 u49 u50 u51 u52 u53 u54 u55 u56 u57 u58 u59 u60 u61 u62 u63 u64 u65 u66 u67 u68 u69 u70 u71 u72 u73 u74 u75 u76 u77 u78 u79 u80 u81 u82 u83 u84 u85 u86 u87 u88 u89 u90 u91 u92 u93 u94 u95 u96 u97 u98 u99 u100 u101 u102 u103 u104 u105 u106 u107 u108 u109 u110 u111 u112 u113 u114 u115 u116 u117 u118 u119 u120 u121 u122 u123 u124 u125 u126 u127 u128 u129 u130 u131 u132 u133 u134 u135 u136 u137 u138 u139 u140 u141 u142 u143 u144 u145 u146 u147 u148 u149 u150 u151 u152 u153 u154 u155 u156 u157 u158 u159 u160 u161 u162 u163 u164 u165 u166 u167 u168 u169 u170 u171 u172 u173 u174 u175 u176 u177 u178 u179 u180 u181 u182 u183 u184 u185 u186 u187 u188 u189 u190 u191 u192 u193 u194 u195 u196 u197 u198 u199 u200 u201 u202 u203 u204 u205 u206 u207 u208 : Value) (R : Ending → World → Prop) (hR : ∀ e w', e = .returned .nilIface ∧ St L r D C w' { d with stage := 4 } inp ∧ Mod (foot r D C) w w' → R e w') :
    Code.wp Tryz.prog (navc [1, 1, 1, 1, 1] (textOf Tryz.f65)) (bodyPost Tryz.prog Tryz.f65 R)
        ⟨#[.pointer (some ⟨D, 0, none⟩), .bool cfg, u2, u3, .nilIface, u5, u6, .int .u32 n, u8, u9, u10, u11, u12, u13, u14, u15, u16, u17, u18, u19, u20, u21, u22, u23, u24, u25, u26, u27, u28, u29, u30, u31, u32, u33, u34, u35, u36, u37, u38, u39, u40, u41, u42, u43, u44, u45, u46, u47, u48, u49, u50, u51, u52, u53, u54, u55, u56, u57, u58, u59, u60, u61, u62, u63, u64, u65, u66, u67, u68, u69, u70, u71, u72, u73, u74, u75, u76, u77, u78, u79, u80, u81, u82, u83, u84, u85, u86, u87, u88, u89, u90, u91, u92, u93, u94, u95, u96, u97, u98, u99, u100, u101, u102, u103, u104, u105, u106, u107, u108, u109, u110, u111, u112, u113, u114, u115, u116, u117, u118, u119, u120, u121, u122, u123, u124, u125, u126, u127, u128, u129, u130, u131, u132, u133, u134, u135, u136, u137, u138, u139, u140, u141, u142, u143, u144, u145, u146, u147, u148, u149, u150, u151, u152, u153, u154, u155, u156, u157, u158, u159, u160, u161, u162, u163, u164, u165, u166, u167, u168, u169, u170, u171, u172, u173, u174, u175, u176, u177, u178, u179, u180, u181, u182, u183, u184, u185, u186, u187, u188, u189, u190, u191, u192, u193, u194, u195, u196, u197, u198, u199, u200, u201, u202, u203, u204, u205, u206, u207, u208], []⟩ w := by
  have HR := Lib.hid hR; clear hR
  have hcv := convBytes w D 14 764 4 nIDAT rfl hb
  have e1 : ((strOf nIDAT).toList == [73, 72, 68, 82]) = false := by rw [strOf_toList]; rfl
  have e2 : ((strOf nIDAT).toList == [80, 76, 84, 69]) = false := by rw [strOf_toList]; rfl
  have e3 : ((strOf nIDAT).toList == [116, 82, 78, 83]) = false := by rw [strOf_toList]; rfl
  have e4 : ((strOf nIDAT).toList == [73, 68, 65, 84]) = true := by rw [strOf_toList]; rfl
  generalize strOf nIDAT = sg at *
  have c8 := h.dec.stage
  have f8 := h.dec.fz 8
  have c7 := h.dec.cb
  have hpc := cbPaletted w d.cb
  have HPC := Lib.hid hpc; clear hpc
  have hfin := HR.out (.returned .nilIface) (w.setCell ⟨D, 8, none⟩ (.int .i64 4)) ⟨rfl, h.setStage s 4, Mod.setD _ _⟩
  have HFIN := Lib.hid hfin; have HH := Lib.hid h; clear hfin h
  subst hcfg
  rcases hst with ⟨hst, hp⟩ | hst | hst
  · rw [hst] at c8
    conv => arg 2; whnf
    go_wp2_with (go_at_call 66; refine HPC.out.mono ?_; rintro e w2 ⟨he, m, hm⟩; rw [hp] at he; subst he)
    subst hm
    exact HR.out _ _ ⟨rfl, (HH.out.drewN s m).setStage s 4, ((Mod.refl _ w).drewN m).trans (Mod.setD _ _)⟩
  · rw [hst] at c8
    conv => arg 2; whnf
    go_wp2
    exact HFIN.out
  · rw [hst] at c8
    conv => arg 2; whnf
    go_wp2
    exact HFIN.out

end Go.Proofs.YtnpkgmgedgcjmaaGreatDoor
