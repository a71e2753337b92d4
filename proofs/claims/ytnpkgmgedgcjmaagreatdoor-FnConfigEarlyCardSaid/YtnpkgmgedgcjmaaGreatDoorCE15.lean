/- png.DecodeConfig on files that are right as far as it reads them. No conditions but those in each theorem's own binders. -/
import Derived.Test.YtnpkgmgedgcjmaaGreatDoorCE14
namespace Go.Proofs.YtnpkgmgedgcjmaaGreatDoor
set_option linter.unusedVariables false
set_option linter.unusedSimpArgs false
open Go.RowKit Go.Png

theorem at_append (a b : List UInt8) (i : Nat) (h : i < a.length) : at_ (a ++ b) i = at_ a i := by
  unfold at_
  rw [List.getD_eq_getElem?_getD, List.getD_eq_getElem?_getD, List.getElem?_append_left h]

/-- The data of a first chunk that are right. -/
structure HdOk (hd : List UInt8) : Prop where
  len : hd.length = 13
  h10 : at_ hd 10 = 0
  h11 : at_ hd 11 = 0
  h12 : (at_ hd 12).toNat < 2
  w0 : 0 < wideOf hd
  w1 : wideOf hd < 2147483648
  g0 : 0 < highOf hd
  g1 : highOf hd < 2147483648
  wg : wideOf hd * highOf hd < 1152921504606846976
  cb : cbIn hd ≠ 0

theorem wideOf_append (a b : List UInt8) (h : 4 ≤ a.length) : wideOf (a ++ b) = wideOf a := by
  unfold wideOf; rw [at_append _ _ _ (by omega), at_append _ _ _ (by omega), at_append _ _ _ (by omega), at_append _ _ _ (by omega)]
theorem highOf_append (a b : List UInt8) (h : 8 ≤ a.length) : highOf (a ++ b) = highOf a := by
  unfold highOf; rw [at_append _ _ _ (by omega), at_append _ _ _ (by omega), at_append _ _ _ (by omega), at_append _ _ _ (by omega)]
theorem cbIn_append (a b : List UInt8) (h : 10 ≤ a.length) : cbIn (a ++ b) = cbIn a := by
  unfold cbIn; rw [at_append _ _ _ (by omega), at_append _ _ _ (by omega)]

theorem HdOk.ok {hd : List UInt8} (h : HdOk hd) (r : List UInt8) : ihdrOk (hd ++ r) = true := by
  have hl := h.len
  unfold ihdrOk
  rw [wideOf_append _ _ (by omega), highOf_append _ _ (by omega), cbIn_append _ _ (by omega), at_append _ _ _ (by omega), at_append _ _ _ (by omega), at_append _ _ _ (by omega)]
  refine decide_eq_true ⟨?_, h.h10, h.h11, h.h12, h.w0, h.w1, h.g0, h.g1, h.wg, h.cb⟩
  simp; omega

/-- What the decoder knows behind the first chunk. -/
structure Knows (hd : List UInt8) (d : Dec) : Prop where
  cb : d.cb = cbIn hd
  depth : d.depth = (at_ hd 8).toNat
  wd : d.width = wideOf hd
  hg : d.height = highOf hd

theorem ihdr_res {hd r : List UInt8} (h : HdOk hd) (d : Dec) (hc : d.crc = crcW 0#32 nIHDR) :
    ihdrP d (hd ++ (four (crc (nIHDR ++ hd)).toNat ++ r)) = some (d.head hd (crc (nIHDR ++ hd)), r) := by
  have hl := h.len
  have ht : (hd ++ (four (crc (nIHDR ++ hd)).toNat ++ r)).take 13 = hd := List.take_left' hl
  have hdr : (hd ++ (four (crc (nIHDR ++ hd)).toNat ++ r)).drop 13 = four (crc (nIHDR ++ hd)).toNat ++ r := List.drop_left' hl
  have hd2 : (hd ++ (four (crc (nIHDR ++ hd)).toNat ++ r)).drop 17 = r := by
    rw [show (17 : Nat) = 13 + 4 by rfl, ← List.drop_drop, hdr, List.drop_left' (four_length _)]
  unfold ihdrP
  rw [ht, hdr, hd2, hc, crcW_two, sumOk_four, h.ok, if_pos ⟨rfl, rfl⟩]
  unfold Dec.head
  rw [wideOf_append _ _ (by omega), highOf_append _ _ (by omega), cbIn_append _ _ (by omega), at_append _ _ _ (by omega), at_append _ _ _ (by omega)]

/-- A chunk's head is read; the rest is told by the name. -/
theorem chunk_call (L : Lay) (r : Src) (D C : Nat) (s : Sep L r D C) (w : World) (d : Dec) (inp : List UInt8) (n : Nat) (name body : List UInt8) (h : St L r D C w d inp)
    (hv : 8 ≤ inp.length ∧ beAt inp = n ∧ (inp.drop 4).take 4 = name ∧ inp.drop 8 = body) (R : Ending → World → Prop)
    (hP : ∀ w' (u2 u3 u5 u6 u8 u9 u10 u11 u12 u13 u14 u15 u16 u17 u18 u19 u20 u21 u22 u23 u24 u25 u26 u27 u28 u29 u30 u31 u32 u33 u34 u35 u36 u37 u38 u39 u40 u41 u42 u43 u44 u45 u46 u47 u48 u49 u50 u51 u52 u53 u54 u55 u56 u57 u58 u59 u60 u61 u62 u63 u64 u65 u66 u67 u68 u69 u70 u71 u72 u73 u74 u75 u76 u77 u78 u79 u80 u81 u82 u83 u84 u85 u86 u87 u88 u89 u90 u91 u92 u93 u94 u95 u96 u97 u98 u99 u100 u101 u102 u103 u104 u105 u106 u107 u108 u109 u110 u111 u112 u113 u114 u115 u116 u117 u118 u119 u120 u121 u122 u123 u124 u125 u126 u127 u128 u129 u130 u131 u132 u133 u134 u135 u136 u137 u138 u139 u140 u141 u142 u143 u144 u145 u146 u147 u148 u149 u150 u151 u152 u153 u154 u155 u156 u157 u158 u159 u160 u161 u162 u163 u164 u165 u166 u167 u168 u169 u170 u171 u172 u173 u174 u175 u176 u177 u178 u179 u180 u181 u182 u183 u184 u185 u186 u187 u188 u189 u190 u191 u192 u193 u194 u195 u196 u197 u198 u199 u200 u201 u202 u203 u204 u205 u206 u207 u208 : Value), St L r D C w' { d with crc := crcW 0#32 name } body → Bytes w' D 14 name → Mod (foot r D C) w w' →
      Code.wp Tryz.prog (navc [1, 1, 1, 1, 1] (textOf Tryz.f65)) (bodyPost Tryz.prog Tryz.f65 R)
        ⟨#[.pointer (some ⟨D, 0, none⟩), .bool true, u2, u3, .nilIface, u5, u6, .int .u32 n, u8, u9, u10, u11, u12, u13, u14, u15, u16, u17, u18, u19, u20, u21, u22, u23, u24, u25, u26, u27, u28, u29, u30, u31, u32, u33, u34, u35, u36, u37, u38, u39, u40, u41, u42, u43, u44, u45, u46, u47, u48, u49, u50, u51, u52, u53, u54, u55, u56, u57, u58, u59, u60, u61, u62, u63, u64, u65, u66, u67, u68, u69, u70, u71, u72, u73, u74, u75, u76, u77, u78, u79, u80, u81, u82, u83, u84, u85, u86, u87, u88, u89, u90, u91, u92, u93, u94, u95, u96, u97, u98, u99, u100, u101, u102, u103, u104, u105, u106, u107, u108, u109, u110, u111, u112, u113, u114, u115, u116, u117, u118, u119, u120, u121, u122, u123, u124, u125, u126, u127, u128, u129, u130, u131, u132, u133, u134, u135, u136, u137, u138, u139, u140, u141, u142, u143, u144, u145, u146, u147, u148, u149, u150, u151, u152, u153, u154, u155, u156, u157, u158, u159, u160, u161, u162, u163, u164, u165, u166, u167, u168, u169, u170, u171, u172, u173, u174, u175, u176, u177, u178, u179, u180, u181, u182, u183, u184, u185, u186, u187, u188, u189, u190, u191, u192, u193, u194, u195, u196, u197, u198, u199, u200, u201, u202, u203, u204, u205, u206, u207, u208], []⟩ w') :
    Calls Tryz.prog 65 #[.pointer (some ⟨D, 0, none⟩), .bool true] w R := by
  obtain ⟨h8, rfl, rfl, rfl⟩ := hv
  exact chunk_head L r D C s w d inp true h8 h R hP

set_option maxRecDepth 100000 in
theorem call_IHDR (L : Lay) (r : Src) (D C : Nat) (s : Sep L r D C) (w : World) (d : Dec) (hd rest : List UInt8) (hh : HdOk hd) (h : St L r D C w d (chunkL nIHDR hd ++ rest)) (hst : d.stage = 0) :
    Calls Tryz.prog 65 #[.pointer (some ⟨D, 0, none⟩), .bool true] w fun e w' => e = .returned .nilIface ∧ Mod (foot r D C) w w' ∧
      ∃ d1, St L r D C w' d1 rest ∧ d1.stage = 1 ∧ Knows hd d1 ∧ d1.pal = d.pal := by
  refine chunk_call L r D C s w d _ _ _ _ h (chunk_view nIHDR hd rest rfl (by rw [hh.len]; decide)) _ ?_
  intro w1
  intros
  rename_i st1 b1 m1
  refine chunk_IHDR L r D C s w1 _ _ hd.length true st1 b1 hst _ _ _ _ _ _ _ _ _ _ _ _ _ _ _ _ _ _ _ _ _ _ _ _ _ _ _ _ _ _ _ _ _ _ _ _ _ _ _ _ _ _ _ _ _ _ _ _ _ _ _ _ _ _ _ _ _ _ _ _ _ _ _ _ _ _ _ _ _ _ _ _ _ _ _ _ _ _ _ _ _ _ _ _ _ _ _ _ _ _ _ _ _ _ _ _ _ _ _ _ _ _ _ _ _ _ _ _ _ _ _ _ _ _ _ _ _ _ _ _ _ _ _ _ _ _ _ _ _ _ _ _ _ _ _ _ _ _ _ _ _ _ _ _ _ _ _ _ _ _ _ _ _ _ _ _ _ _ _ _ _ _ _ _ _ _ _ _ _ _ _ _ _ _ _ _ _ _ _ _ _ _ _ _ _ _ _ _ _ _ _ _ _ _ _ _ _ _ _ _ _ _ _ _ _ _ ?_
  intro e w' hres
  rw [if_pos hh.len, ihdr_res hh _ rfl] at hres
  obtain ⟨he, st⟩ := hres.good _ _ rfl
  exact ⟨he, m1.trans hres.mod, _, st, rfl, ⟨rfl, rfl, rfl, rfl⟩, rfl⟩

/-- A chunk that may be left out, as the decoder sees it. -/
structure Anc (c : List UInt8 × List UInt8) : Prop where
  name : c.1.length = 4
  len : c.2.length < 2147483648
  n1 : c.1 ≠ nIHDR
  n2 : c.1 ≠ nPLTE
  n3 : c.1 ≠ ntRNS
  n4 : c.1 ≠ nIDAT
  n5 : c.1 ≠ nIEND

set_option maxRecDepth 100000 in
theorem call_other (L : Lay) (r : Src) (D C : Nat) (s : Sep L r D C) (w : World) (d : Dec) (c : List UInt8 × List UInt8) (rest : List UInt8) (ha : Anc c) (h : St L r D C w d (chunkL c.1 c.2 ++ rest)) :
    Calls Tryz.prog 65 #[.pointer (some ⟨D, 0, none⟩), .bool true] w fun e w' => e = .returned .nilIface ∧ Mod (foot r D C) w w' ∧
      ∃ k, St L r D C w' { d with crc := k } rest := by
  refine chunk_call L r D C s w d _ _ _ _ h (chunk_view c.1 c.2 rest ha.name (by have := ha.len; omega)) _ ?_
  intro w1
  intros
  rename_i st1 b1 m1
  refine chunk_other L r D C s w1 _ _ c.1 c.2.length true st1 b1 ha.name ha.n1 ha.n2 ha.n3 ha.n4 ha.n5 ha.len _ _ _ _ _ _ _ _ _ _ _ _ _ _ _ _ _ _ _ _ _ _ _ _ _ _ _ _ _ _ _ _ _ _ _ _ _ _ _ _ _ _ _ _ _ _ _ _ _ _ _ _ _ _ _ _ _ _ _ _ _ _ _ _ _ _ _ _ _ _ _ _ _ _ _ _ _ _ _ _ _ _ _ _ _ _ _ _ _ _ _ _ _ _ _ _ _ _ _ _ _ _ _ _ _ _ _ _ _ _ _ _ _ _ _ _ _ _ _ _ _ _ _ _ _ _ _ _ _ _ _ _ _ _ _ _ _ _ _ _ _ _ _ _ _ _ _ _ _ _ _ _ _ _ _ _ _ _ _ _ _ _ _ _ _ _ _ _ _ _ _ _ _ _ _ _ _ _ _ _ _ _ _ _ _ _ _ _ _ _ _ _ _ _ _ _ _ _ _ _ _ _ _ _ _ _ ?_
  intro e w' hres
  have ht : (c.2 ++ (four (crc (c.1 ++ c.2)).toNat ++ rest)).take c.2.length = c.2 := List.take_left' rfl
  have hdr : (c.2 ++ (four (crc (c.1 ++ c.2)).toNat ++ rest)).drop c.2.length = four (crc (c.1 ++ c.2)).toNat ++ rest := List.drop_left' rfl
  have hd2 : (c.2 ++ (four (crc (c.1 ++ c.2)).toNat ++ rest)).drop (c.2.length + 4) = rest := by
    rw [← List.drop_drop, hdr, List.drop_left' (four_length _)]
  unfold skipP at hres
  rw [ht, hdr, hd2, crcW_two, sumOk_four, if_pos ⟨by simp, rfl⟩] at hres
  obtain ⟨he, st⟩ := hres.good _ _ rfl
  exact ⟨he, m1.trans hres.mod, _, st⟩

set_option maxRecDepth 100000 in
theorem call_PLTE (L : Lay) (r : Src) (D C : Nat) (s : Sep L r D C) (w : World) (d : Dec) (pl rest : List UInt8) (np depth : Nat) (hpl : pl.length = 3 * np) (hn1 : 1 ≤ np) (hnp : np ≤ 256) (hdp : d.depth = (depth : Nat))
    (hd : depth = 1 ∨ depth = 2 ∨ depth = 4 ∨ depth = 8 ∨ depth = 16) (hn2 : np ≤ 2 ^ depth) (hk : isPal d.cb = true) (hst : d.stage = 1) (h : St L r D C w d (chunkL nPLTE pl ++ rest)) :
    Calls Tryz.prog 65 #[.pointer (some ⟨D, 0, none⟩), .bool true] w fun e w' => e = .returned .nilIface ∧ Mod (foot r D C) w w' ∧
      ∃ k pb, St L r D C w' { d with stage := 2, crc := k, pal := .slice (some ⟨pb, 0, none⟩) np 256 } rest ∧ PalAt L r D C w' pb (palE np pl) := by
  refine chunk_call L r D C s w d _ _ _ _ h (chunk_view nPLTE pl rest rfl (by omega)) _ ?_
  intro w1
  intros
  rename_i st1 b1 m1
  refine chunk_PLTE L r D C s w1 _ _ pl.length true st1 b1 np depth hst hpl hn1 hnp hdp hd hn2 (Or.inl hk) _ _ _ _ _ _ _ _ _ _ _ _ _ _ _ _ _ _ _ _ _ _ _ _ _ _ _ _ _ _ _ _ _ _ _ _ _ _ _ _ _ _ _ _ _ _ _ _ _ _ _ _ _ _ _ _ _ _ _ _ _ _ _ _ _ _ _ _ _ _ _ _ _ _ _ _ _ _ _ _ _ _ _ _ _ _ _ _ _ _ _ _ _ _ _ _ _ _ _ _ _ _ _ _ _ _ _ _ _ _ _ _ _ _ _ _ _ _ _ _ _ _ _ _ _ _ _ _ _ _ _ _ _ _ _ _ _ _ _ _ _ _ _ _ _ _ _ _ _ _ _ _ _ _ _ _ _ _ _ _ _ _ _ _ _ _ _ _ _ _ _ _ _ _ _ _ _ _ _ _ _ _ _ _ _ _ _ _ _ _ _ _ _ _ _ _ _ _ _ _ _ _ _ _ _ _ ?_
  intro e w' hres
  have ht : (pl ++ (four (crc (nPLTE ++ pl)).toNat ++ rest)).take (3 * np) = pl := List.take_left' hpl
  have hdr : (pl ++ (four (crc (nPLTE ++ pl)).toNat ++ rest)).drop (3 * np) = four (crc (nPLTE ++ pl)).toNat ++ rest := List.drop_left' hpl
  have hd2 : (pl ++ (four (crc (nPLTE ++ pl)).toNat ++ rest)).drop (3 * np + 4) = rest := by
    rw [← List.drop_drop, hdr, List.drop_left' (four_length _)]
  have hok := hres.good (by
    unfold plteOk
    rw [ht, hdr, crcW_two, sumOk_four, Bool.and_true]
    refine decide_eq_true ?_
    simp; omega)
  obtain ⟨he, pv, st, hp⟩ := hok
  obtain ⟨pb, rfl, hpa⟩ := hp hk
  rw [hd2, ht] at st
  rw [ht] at hpa
  exact ⟨he, m1.trans hres.mod, _, pb, st, hpa⟩

set_option maxRecDepth 100000 in
theorem call_tRNS (L : Lay) (r : Src) (D C : Nat) (s : Sep L r D C) (w : World) (d : Dec) (pl al rest : List UInt8) (np pb : Nat) (hnp : np ≤ 256) (hal : al.length ≤ np) (hal1 : 1 ≤ al.length) (hk : isPal d.cb = true) (hst : d.stage = 2)
    (h : St L r D C w { d with pal := .slice (some ⟨pb, 0, none⟩) np 256 } (chunkL ntRNS al ++ rest)) (hp : PalAt L r D C w pb (palE np pl)) :
    Calls Tryz.prog 65 #[.pointer (some ⟨D, 0, none⟩), .bool true] w fun e w' => e = .returned .nilIface ∧ Mod (fun k => foot r D C k ∨ k = pb) w w' ∧
      ∃ k, St L r D C w' { d with stage := 3, crc := k, pal := .slice (some ⟨pb, 0, none⟩) np 256 } rest ∧ PalAt L r D C w' pb (palC np al.length pl al) := by
  refine chunk_call L r D C s w { d with pal := .slice (some ⟨pb, 0, none⟩) np 256 } _ _ _ _ h (chunk_view ntRNS al rest rfl (by omega)) _ ?_
  intro w1
  intros
  rename_i st1 b1 m1
  have ht : (al ++ (four (crc (ntRNS ++ al)).toNat ++ rest)).take al.length = al := List.take_left' rfl
  have hdr : (al ++ (four (crc (ntRNS ++ al)).toNat ++ rest)).drop al.length = four (crc (ntRNS ++ al)).toNat ++ rest := List.drop_left' rfl
  have hd2 : (al ++ (four (crc (ntRNS ++ al)).toNat ++ rest)).drop (al.length + 4) = rest := by
    rw [← List.drop_drop, hdr, List.drop_left' (four_length _)]
  refine chunk_tRNS L r D C s w1 { d with crc := crcW 0#32 ntRNS } _ pl np al.length pb true hnp hal hal1 ⟨by simp, ?_⟩ st1 (hp.mod m1 hp.foot) hk hst b1 _ _ _ _ _ _ _ _ _ _ _ _ _ _ _ _ _ _ _ _ _ _ _ _ _ _ _ _ _ _ _ _ _ _ _ _ _ _ _ _ _ _ _ _ _ _ _ _ _ _ _ _ _ _ _ _ _ _ _ _ _ _ _ _ _ _ _ _ _ _ _ _ _ _ _ _ _ _ _ _ _ _ _ _ _ _ _ _ _ _ _ _ _ _ _ _ _ _ _ _ _ _ _ _ _ _ _ _ _ _ _ _ _ _ _ _ _ _ _ _ _ _ _ _ _ _ _ _ _ _ _ _ _ _ _ _ _ _ _ _ _ _ _ _ _ _ _ _ _ _ _ _ _ _ _ _ _ _ _ _ _ _ _ _ _ _ _ _ _ _ _ _ _ _ _ _ _ _ _ _ _ _ _ _ _ _ _ _ _ _ _ _ _ _ _ _ _ _ _ _ _ _ _ _ _ _ ?_
  · rw [ht, hdr, crcW_two, sumOk_four]
  intro e w' hres
  have st := hres.st
  have pp := hres.pal
  rw [hd2, ht] at st
  rw [ht] at pp
  exact ⟨hres.end_, (m1.mono (fun _ _ hk => Or.inl hk)).trans hres.mod, _, st, pp⟩

set_option maxRecDepth 100000 in
theorem call_IDAT (L : Lay) (r : Src) (D C : Nat) (s : Sep L r D C) (w : World) (d : Dec) (n : Nat) (rest : List UInt8) (hn : n < 4294967296) (hst : d.stage = 2)
    (h : St L r D C w d (four n ++ (nIDAT ++ rest))) :
    Calls Tryz.prog 65 #[.pointer (some ⟨D, 0, none⟩), .bool true] w fun e w' => e = .returned .nilIface ∧ Mod (foot r D C) w w' ∧
      ∃ k, St L r D C w' { d with stage := 4, crc := k } rest := by
  refine chunk_call L r D C s w d _ n nIDAT rest h ⟨by simp [four_length, nIDAT]; omega, beAt_four n _ hn, ?_, ?_⟩ _ ?_
  · rw [List.drop_left' (four_length _)]; exact List.take_left' rfl
  · rw [show (8 : Nat) = 4 + 4 by rfl, ← List.drop_drop, List.drop_left' (four_length _)]; exact List.drop_left' rfl
  intro w1
  intros
  rename_i st1 b1 m1
  refine chunk_IDAT L r D C s w1 _ _ n true st1 b1 rfl (Or.inr (Or.inl hst)) _ _ _ _ _ _ _ _ _ _ _ _ _ _ _ _ _ _ _ _ _ _ _ _ _ _ _ _ _ _ _ _ _ _ _ _ _ _ _ _ _ _ _ _ _ _ _ _ _ _ _ _ _ _ _ _ _ _ _ _ _ _ _ _ _ _ _ _ _ _ _ _ _ _ _ _ _ _ _ _ _ _ _ _ _ _ _ _ _ _ _ _ _ _ _ _ _ _ _ _ _ _ _ _ _ _ _ _ _ _ _ _ _ _ _ _ _ _ _ _ _ _ _ _ _ _ _ _ _ _ _ _ _ _ _ _ _ _ _ _ _ _ _ _ _ _ _ _ _ _ _ _ _ _ _ _ _ _ _ _ _ _ _ _ _ _ _ _ _ _ _ _ _ _ _ _ _ _ _ _ _ _ _ _ _ _ _ _ _ _ _ _ _ _ _ _ _ _ _ _ _ _ _ _ _ _ ?_
  rintro e w' ⟨he, st, m2⟩
  exact ⟨he, m1.trans m2, _, st⟩

end Go.Proofs.YtnpkgmgedgcjmaaGreatDoor
