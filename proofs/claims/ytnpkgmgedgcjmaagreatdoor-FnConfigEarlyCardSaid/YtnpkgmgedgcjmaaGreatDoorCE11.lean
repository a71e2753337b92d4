/- The decoder passes over a chunk. The decoder reads the alphas of a palette. No conditions but those in each theorem's own binders. -/
import Derived.Test.YtnpkgmgedgcjmaaGreatDoorCE10
namespace Go.Proofs.YtnpkgmgedgcjmaaGreatDoor
set_option linter.unusedVariables false
set_option linter.unusedSimpArgs false
open Go.RowKit Go.Png

theorem slIgn (w : World) (b n : Nat) (h : n ≤ 4096) : (Instr.sliceAt 188 (.pointer (some ⟨b, 0, none⟩)) none (some (.int .i64 (n : Nat))) none).run Tryz.prog w = .ok (.slice (some ⟨b, 0, none⟩) n 4096) w := by
  have hl : Tryz.prog.arrayLen 188 = 4096 := by kernel_rfl
  rw [run_sliceAt_array_h w 188 ⟨b, 0, none⟩ (by kernel_rfl) .i64 n (by omega) (by rw [hl]; omega)]
  have hs : ((sizeOf (Tryz.prog.elem 188)).run Tryz.prog w) = .ok 1 w := by kernel_rfl
  rw [hs, hl]
  simp [slicedAt, Result.andThen, Addr.add]

/-- Bytes were read into a block of its own. -/
theorem St.readAway {L : Lay} {r : Src} {D C : Nat} {w w' : World} {d : Dec} {inp : List UInt8} {b off n : Nat} {e : Ending} {err : Value} (h : St L r D C w d inp) (s : Sep L r D C) (hb : ¬ foot r D C b)
    (p : SrcPost L r w inp b off n e w' err) : St L r D C w' d (inp.drop n) ∧ Mod (fun k => foot r D C k ∨ k = b) w w' ∧ Bytes w' b off (inp.take n) := by
  refine ⟨⟨h.dec.mod p.mod ?_ ?_, p.inv⟩, p.mod.mono (fun k _ hk => by rcases hk with hk | hk; exact Or.inl (Or.inl hk); exact Or.inr hk), Bytes.of_wrote p.wrote⟩
  · rintro (hd | hd)
    · exact s.fD hd
    · exact hb (Or.inr (Or.inl hd.symm))
  · rintro (hd | hd)
    · exact s.fC hd
    · exact hb (Or.inr (Or.inr hd.symm))

/-- Passing over so many bytes, and their sum. -/
def skipP (d : Dec) (inp : List UInt8) (n : Nat) : Option (Dec × List UInt8) :=
  if n ≤ inp.length ∧ sumOk (inp.drop n) (crcW d.crc (inp.take n)) = true then some ({ d with crc := crcW d.crc (inp.take n) }, inp.drop (n + 4)) else none

set_option maxRecDepth 100000 in
set_option maxHeartbeats 8000000 in
theorem chunk_other (L : Lay) (r : Src) (D C : Nat) (s : Sep L r D C) (w : World) (d : Dec) (inp name : List UInt8) (n : Nat) (cfg : Bool) (h : St L r D C w d inp) (hb : Bytes w D 14 name) (hnl : name.length = 4)
    (h1 : name ≠ nIHDR) (h2 : name ≠ nPLTE) (h3 : name ≠ ntRNS) (h4 : name ≠ nIDAT) (h5 : name ≠ nIEND) (hn : n < 2147483648)
    (u2 u3 u5 u6 u8 u9 u10 u11 u12 u13 u14 u15 u16 u17 u18 u19 u20 u21 u22 u23 u24 u25 u26 u27 u28 u29 u30 u31 u32 u33 u34 u35 u36 u37 u38 u39 u40 u41 u42 u43 u44 u45 u46 u47 u48 u49 u50 u51 u52 u53 u54 u55 u56 u57 u58 u59 u60 u61 u62 u63 u64 u65 u66 u67 u68 u69 u70 u71 u72 u73 u74 u75 u76 u77 u78 u79 u80 u81 u82 u83 u84 u85 u86 u87 u88 u89 u90 u91 u92 u93 u94 u95 u96 u97 u98 u99 u100 u101 u102 u103 u104 u105 u106 u107 u108 u109 u110 u111 u112 u113 u114 u115 u116 u117 u118 u119 u120 u121 u122 u123 u124 u125 u126 u127 u128 u129 u130 u131 u132 u133 u134 u135 u136 u137 u138 u139 u140 u141 u142 u143 u144 u145 u146 u147 u148 u149 u150 u151 u152 u153 u154 u155 u156 u157 u158 u159 u160 u161 u162 u163 u164 u165 u166 u167 u168 u169 u170 u171 u172 u173 u174 u175 u176 u177 u178 u179 u180 u181 u182 u183 u184 u185 u186 u187 u188 u189 u190 u191 u192 u193 u194 u195 u196 u197 u198 u199 u200 u201 u202 u203 u204 u205 u206 u207 u208 : Value) (R : Ending → World → Prop) (hR : ∀ e w', Res L r D C w (skipP d inp n) e w' → R e w') :
    Code.wp Tryz.prog (navc [1, 1, 1, 1, 1] (textOf Tryz.f65)) (bodyPost Tryz.prog Tryz.f65 R)
        ⟨#[.pointer (some ⟨D, 0, none⟩), .bool cfg, u2, u3, .nilIface, u5, u6, .int .u32 n, u8, u9, u10, u11, u12, u13, u14, u15, u16, u17, u18, u19, u20, u21, u22, u23, u24, u25, u26, u27, u28, u29, u30, u31, u32, u33, u34, u35, u36, u37, u38, u39, u40, u41, u42, u43, u44, u45, u46, u47, u48, u49, u50, u51, u52, u53, u54, u55, u56, u57, u58, u59, u60, u61, u62, u63, u64, u65, u66, u67, u68, u69, u70, u71, u72, u73, u74, u75, u76, u77, u78, u79, u80, u81, u82, u83, u84, u85, u86, u87, u88, u89, u90, u91, u92, u93, u94, u95, u96, u97, u98, u99, u100, u101, u102, u103, u104, u105, u106, u107, u108, u109, u110, u111, u112, u113, u114, u115, u116, u117, u118, u119, u120, u121, u122, u123, u124, u125, u126, u127, u128, u129, u130, u131, u132, u133, u134, u135, u136, u137, u138, u139, u140, u141, u142, u143, u144, u145, u146, u147, u148, u149, u150, u151, u152, u153, u154, u155, u156, u157, u158, u159, u160, u161, u162, u163, u164, u165, u166, u167, u168, u169, u170, u171, u172, u173, u174, u175, u176, u177, u178, u179, u180, u181, u182, u183, u184, u185, u186, u187, u188, u189, u190, u191, u192, u193, u194, u195, u196, u197, u198, u199, u200, u201, u202, u203, u204, u205, u206, u207, u208], []⟩ w := by
  have HR := Lib.hid hR; clear hR
  have hcv := convBytes w D 14 764 4 name hnl.symm hb
  have e1 : ((strOf name).toList == [73, 72, 68, 82]) = false := by rw [strOf_toList]; simpa [nIHDR] using h1
  have e2 : ((strOf name).toList == [80, 76, 84, 69]) = false := by rw [strOf_toList]; simpa [nPLTE] using h2
  have e3 : ((strOf name).toList == [116, 82, 78, 83]) = false := by rw [strOf_toList]; simpa [ntRNS] using h3
  have e4 : ((strOf name).toList == [73, 68, 65, 84]) = false := by rw [strOf_toList]; simpa [nIDAT] using h4
  have e5 : ((strOf name).toList == [73, 69, 78, 68]) = false := by rw [strOf_toList]; simpa [nIEND] using h5
  generalize strOf name = sg at *
  have HST := Lib.hid h
  have t0 : decide ((2147483647 : Int) < (n : Int)) = false := decide_eq_false (by omega)
  clear h hb h1 h2 h3 h4 h5
  conv => arg 2; whnf
  go_upto_block 1 with fail
  have hz : (Tryz.zeroCells188).size = 4096 := by kernel_rfl
  have hroom : Room (w.alloc (.cells Tryz.zeroCells188 188)) w.heap.size 0 4096 := ⟨by simp, fun i hi => by
    rw [World.cell?_alloc_new, World.frozen?_alloc_new]
    refine ⟨?_, rfl⟩
    rw [Nat.zero_add, Array.getElem?_eq_getElem (by rw [hz]; exact hi)]; rfl⟩
  have hibf : ¬ foot r D C w.heap.size := by
    rintro (hf | hf | hf)
    · exact absurd (s.rok.size w inp _ HST.out.inv hf) (Nat.lt_irrefl _)
    · have := HST.out.dec.ltD; omega
    · have := HST.out.dec.ltC; omega
  have hiblo : L.lo ≤ w.heap.size := (HST.out.env s).lo
  have m0 : Mod (foot r D C) w (w.alloc (.cells Tryz.zeroCells188 188)) := (Mod.refl _ w).alloc _
  have st0 : St L r D C (w.alloc (.cells Tryz.zeroCells188 188)) d inp := HST.out.mod s (S := fun _ => False) ((Mod.refl _ w).alloc _) (fun _ hf => hf.elim)
  have hend : ∀ w', Mod (fun k => foot r D C k ∨ k = w.heap.size) (w.alloc (.cells Tryz.zeroCells188 188)) w' → Mod (foot r D C) w w' := fun w' m => m0.then m (fun i hi he => by
    rcases he with he | he
    · exact he
    · omega)
  have HEND := Lib.hid hend; have HROOM := Lib.hid hroom; have HST0 := Lib.hid st0
  clear hz hroom m0 st0 hend HST
  generalize w.alloc (.cells Tryz.zeroCells188 188) = w0 at *
  generalize w.heap.size = ib at *
  clear hcv e1 e2 e3 e4 e5 t0
  go_wp2
  go_loopg [7, 9, 10] n (fun k v7 v9 v10 wr => ∃ j m : Nat, j + m = n ∧ k = m ∧ v7 = .int .u32 m ∧ j ≤ inp.length ∧ St L r D C wr { d with crc := crcW d.crc (inp.take j) } (inp.drop j) ∧ Mod (fun k => foot r D C k ∨ k = ib) w0 wr ∧ Room wr ib 0 4096)
  case atStart => exact ⟨0, n, by omega, rfl, rfl, by omega, by simpa [crcW, crcUpd_nil] using HST0.out, Mod.refl _ _, HROOM.out⟩
  case round =>
    obtain ⟨j, m, hjm, hk, rfl, hj, st, mm, rm⟩ := hrel
    have HJ := Lib.hid hjm; have HK := Lib.hid hk; clear hjm hk
    by_cases hm : m = 0
    · subst hm
      obtain rfl : j = n := HJ.out
      have hv := verifyChecksum L r D C s wr _ _ st
      have HV := Lib.hid hv; have HM := Lib.hid mm
      clear hv st mm rm HROOM HST0
      as_aux_lemma =>
        go_wp2_with (go_at_call 94; refine HV.out.mono ?_; rintro e w2 hr; obtain ⟨v, hv⟩ := hr.value; subst hv; have HR2 := Lib.hid hr; clear hr)
        refine HR.out _ _ ⟨(HEND.out _ HM.out).trans HR2.out.mod, fun d' inp' hs => ?_, fun hs => ?_⟩
        · unfold skipP at hs
          by_cases hc : j ≤ inp.length ∧ sumOk (inp.drop j) (crcW d.crc (inp.take j)) = true
          · rw [if_pos hc] at hs
            cases hs
            have hst := HR2.out.st
            rw [List.drop_drop] at hst
            exact ⟨HR2.out.good hc.2, hst⟩
          · rw [if_neg hc] at hs; cases hs
        · unfold skipP at hs
          by_cases hc : j ≤ inp.length ∧ sumOk (inp.drop j) (crcW d.crc (inp.take j)) = true
          · rw [if_pos hc] at hs; cases hs
          · refine HR2.out.bad ?_
            cases hq : sumOk (inp.drop j) (crcW d.crc (inp.take j)) with
            | false => rfl
            | true => exact absurd ⟨hj, hq⟩ hc
    · obtain ⟨q, hq, hqm, hmin, hq4⟩ : ∃ q : Nat, 0 < q ∧ q ≤ m ∧ (if IntKind.i64.wrap (m : Int) < 4096 then IntKind.i64.wrap (m : Int) else 4096) = (q : Int) ∧ q ≤ 4096 := by
        have hw : IntKind.i64.wrap (m : Int) = (m : Int) := IntWalk.i64_in _ (by have := HJ.out; omega)
        rw [hw]
        by_cases h4 : m < 4096
        · exact ⟨m, by omega, by omega, by rw [if_pos (by omega)], by omega⟩
        · exact ⟨4096, by omega, by omega, by rw [if_neg (by omega)]; rfl, by omega⟩
      have t0 : decide ((0 : Int) < (m : Int)) = true := decide_eq_true (by omega)
      have c0 := st.dec.r
      have hrd := readSrc L r s.rok wr.drew (inp.drop j) ib 0 q 4096 (st.drew s).inv hq hq4 (by omega) hiblo (fun hf => hibf (Or.inl hf)) (rm.drew.part 0 q (by omega))
      have HC := Lib.hid hrd; clear hrd
      have hsl := slIgn wr.drew ib q hq4
      have HSTr := Lib.hid st; have HMr := Lib.hid mm; have HRm := Lib.hid rm
      clear st mm rm HROOM HST0
      by_cases hl : q ≤ (inp.drop j).length
      · go_wp2
        go_region_with (go_at_call 84; refine HC.out.mono ?_; rintro e w1 ⟨err, hp⟩; have he := hp.end_; rw [Nat.min_eq_left hl] at he; subst he; have HP := Lib.hid hp; clear hp; go_simp)
        all_goals
          obtain ⟨st1, m1, b1⟩ := St.readAway HSTr.out s hibf HP.out.undrew
          have he := HP.out.good hl
          subst he
          have hlen : ((inp.drop j).take q).length = q := by simp at hl ⊢; omega
          have hcw := crcWrite L w1.drew (st1.drew s |>.env s) C ib 0 4096 _ ((inp.drop j).take q) (by omega) st1.dec.crc st1.dec.fzc b1
          rw [hlen, ← crcW_append, ← List.take_add] at hcw
          have HCW := Lib.hid hcw; clear hcw
          have c2 := st1.dec.crcp
          have st2 := (st1.drew s).setCrc s (crcW d.crc (inp.take (j + q)))
          rw [List.drop_drop] at st2
          have m2 := (HMr.out.trans m1).drew.trans (show Mod (fun k => foot r D C k ∨ k = ib) w1.drew (w1.drew.setCell ⟨C, 0, none⟩ (.int .u32 ((crcW d.crc (inp.take (j + q))).toNat : Nat))) from (Mod.setC _).mono (fun _ _ h => Or.inl h))
          have rm2 : Room (w1.drew.setCell ⟨C, 0, none⟩ (.int .u32 ((crcW d.crc (inp.take (j + q))).toNat : Nat))) ib 0 4096 := by
            have r1 : Room w1 ib 0 4096 := HRm.out.wrote HP.out.undrew.wrote HP.out.undrew.mod.size
            exact r1.drew.mod ((Mod.refl (fun k => k = C) w1.drew).setCell (p := ⟨C, 0, none⟩) (Or.inl rfl) _) (fun e => hibf (Or.inr (Or.inr e)))
          have HST2 := Lib.hid st2; have HM2 := Lib.hid m2; have HR2 := Lib.hid rm2
          have hsl2 := slIgn w1.drew ib q hq4
          have hl2 : j + q ≤ inp.length := by simp at hl; omega
          have hsub : IntKind.u32.wrap ((m : Int) - (q : Int)) = ((m - q : Nat) : Int) := by
            have : IntKind.u32.wrap ((m : Int) - (q : Int)) = ((m : Int) - (q : Int)) % 4294967296 := rfl
            rw [this]; have := HJ.out; omega
          clear st1 m1 b1 st2 m2 rm2 hsl hlen HSTr HMr HRm HC HP
          go_wp2
          go_region_with (go_at_call 87; refine HCW.out.mono ?_; rintro e w2 ⟨rfl, hw2⟩; have HW2 := Lib.hid hw2; clear hw2; go_simp)
          all_goals
            rw [HW2.out] at HST2 HM2 HR2
            go_wp2
            go_roundg (m - q)
            case measure => have := HK.out; omega
            case rel => exact ⟨j + q, m - q, by have := HJ.out; omega, rfl, by go_num, hl2, HST2.out, HM2.out, HR2.out⟩
      · go_wp2
        go_region_with (go_at_call 84; refine HC.out.mono ?_; rintro e w1 ⟨err, hp⟩; obtain rfl := hp.end_; have HP := Lib.hid hp; clear hp; go_simp)
        all_goals
          obtain ⟨st1, m1, b1⟩ := St.readAway HSTr.out s hibf HP.out.undrew
          obtain ⟨g, hg⟩ := HP.out.bad (by omega)
          obtain ⟨t, v, hv⟩ := GErr.val_iface L g
          rw [hv] at hg
          subst hg
          have hfin := HR.out (.returned (g.val L)) w1 (Res.err g (HEND.out _ (HMr.out.trans m1)) (by
            unfold skipP
            rw [if_neg]
            intro hc
            have := HJ.out
            simp at hl
            omega))
          rw [hv] at hfin
          have HFIN := Lib.hid hfin
          clear st1 m1 b1 hv hfin
          as_aux_lemma =>
            go_wp2
            exact HFIN.out

end Go.Proofs.YtnpkgmgedgcjmaaGreatDoor
namespace Go.Proofs.YtnpkgmgedgcjmaaGreatDoor
set_option linter.unusedVariables false
set_option linter.unusedSimpArgs false
open Go.RowKit Go.Png

/-- A color with alpha, as the program keeps it. -/
def nrgbaV (r g b a : UInt8) : Value := .iface 141 (.agg #[.int .u8 (r.toNat : Nat), .int .u8 (g.toNat : Nat), .int .u8 (b.toNat : Nat), .int .u8 (a.toNat : Nat)])

/-- The entries of a palette of np colors, the first m of them with alphas. -/
def palC (np m : Nat) (pl al : List UInt8) (i : Nat) : Value :=
  if i < m then nrgbaV (at_ pl (3 * i)) (at_ pl (3 * i + 1)) (at_ pl (3 * i + 2)) (at_ al i) else palE np pl i

theorem rgba_assert (w : World) (r g b : UInt8) : (Instr.typeAssert (.iface 142 (.agg #[.int .u8 (r.toNat : Nat), .int .u8 (g.toNat : Nat), .int .u8 (b.toNat : Nat), .int .u8 255])) 140 142 false).run Tryz.prog w =
    .ok (.agg #[.int .u8 (r.toNat : Nat), .int .u8 (g.toNat : Nat), .int .u8 (b.toNat : Nat), .int .u8 255]) w := by kernel_rfl

set_option maxRecDepth 100000 in
set_option maxHeartbeats 8000000 in
theorem trns_loop (L : Lay) (r : Src) (D C : Nat) (s : Sep L r D C) (w : World) (d : Dec) (inp pl al : List UInt8) (np n pb : Nat) (hnp : np ≤ 256) (hn : n ≤ np) (h : St L r D C w { d with pal := .slice (some ⟨pb, 0, none⟩) np 256 } inp)
    (hb : Bytes w D 10 al) (hal : al.length = n) (hp : PalAt L r D C w pb (palE np pl))
    (u1 u2 u3 u5 u6 u7 u8 u10 u12 u13 u14 u15 u16 u17 u18 u19 u20 u21 u22 u23 u24 u25 u26 u27 u28 u29 u30 u31 u32 u33 u34 u35 u36 u37 u38 u39 u40 u41 u42 u43 u44 u45 u46 u47 u48 u49 u50 u51 u52 u53 u54 u55 u56 u57 u58 u59 u60 u61 u62 u63 u64 u65 u66 u67 u68 u69 u70 u71 u72 u73 u74 u75 u76 u77 u78 u79 u80 u81 u82 u83 u84 u85 u86 u87 u88 u89 u90 u91 u92 u93 u94 u95 u96 u97 u98 u99 u100 u101 u102 u103 u104 u105 u106 u107 u108 u109 u110 u111 u112 u113 u114 u115 u116 u117 u118 u119 u120 u121 u122 u123 u124 u125 u126 u127 u128 u129 u130 u131 u132 u133 u134 u135 u136 u137 u138 u139 u140 u141 u142 u143 u144 u145 u146 u147 u148 u149 u150 u151 u152 u153 u154 u155 u156 u157 u158 u159 u160 u161 u162 u163 u164 u165 u166 u167 u168 u169 u170 u171 u172 u173 u174 u175 u176 u177 u178 u179 u180 u181 u182 u183 u184 u185 u186 u187 u188 u189 u190 u191 u192 u193 u194 u195 u196 u197 u198 u199 u200 u201 u202 u203 u204 u205 u206 u207 u208 u209 u210 u211 u212 u213 u214 u215 u216 u217 u218 u219 u220 u221 u222 u223 u224 u225 u226 u227 u228 u229 u230 u231 u232 : Value) (Q : Exit → Act → World → Prop)
    (hQ : ∀ w' (u11 u12 u13 u14 u15 u16 u17 u18 u19 u20 u21 u22 u23 u24 u25 u26 u27 u28 u29 u30 u31 u32 u33 u34 u35 u36 u37 u38 u39 u40 u41 u42 u43 u44 u45 u46 u47 u48 u49 u50 u51 u52 u53 u54 u55 u56 u57 u58 u59 u60 u61 u62 u63 u64 u65 u66 u67 u68 u69 u70 u71 u72 u73 u74 u75 u76 u77 u78 u79 u80 u81 u82 u83 u84 u85 u86 u87 u88 u89 u90 u91 u92 u93 u94 u95 u96 u97 u98 u99 u100 u101 u102 u103 u104 u105 u106 u107 u108 u109 u110 u111 u112 u113 u114 u115 u116 u117 u118 u119 u120 u121 u122 u123 u124 u125 u126 u127 u128 u129 u130 u131 u132 u133 u134 u135 u136 u137 u138 u139 u140 u141 u142 u143 u144 u145 u146 u147 u148 u149 u150 u151 u152 u153 u154 u155 u156 u157 u158 u159 u160 u161 u162 u163 u164 u165 u166 u167 u168 u169 u170 u171 u172 u173 u174 u175 u176 u177 u178 u179 u180 u181 u182 u183 u184 u185 u186 u187 u188 u189 u190 u191 u192 u193 u194 u195 u196 u197 u198 u199 u200 u201 u202 u203 u204 u205 u206 u207 u208 u209 u210 u211 u212 u213 u214 u215 u216 u217 u218 u219 u220 u221 u222 u223 u224 u225 u226 u227 u228 u229 u230 u231 u232 : Value), St L r D C w' { d with pal := .slice (some ⟨pb, 0, none⟩) np 256 } inp → PalAt L r D C w' pb (palC np n pl al) → Mod (fun k => k = pb) w w' →
       Q .normal ⟨#[.pointer (some ⟨D, 0, none⟩), u1, u2, u3, .nilIface, u5, u6, u7, u8, .int .i64 n, u10, u11, u12, u13, u14, u15, u16, u17, u18, u19, u20, u21, u22, u23, u24, u25, u26, u27, u28, u29, u30, u31, u32, u33, u34, u35, u36, u37, u38, u39, u40, u41, u42, u43, u44, u45, u46, u47, u48, u49, u50, u51, u52, u53, u54, u55, u56, u57, u58, u59, u60, u61, u62, u63, u64, u65, u66, u67, u68, u69, u70, u71, u72, u73, u74, u75, u76, u77, u78, u79, u80, u81, u82, u83, u84, u85, u86, u87, u88, u89, u90, u91, u92, u93, u94, u95, u96, u97, u98, u99, u100, u101, u102, u103, u104, u105, u106, u107, u108, u109, u110, u111, u112, u113, u114, u115, u116, u117, u118, u119, u120, u121, u122, u123, u124, u125, u126, u127, u128, u129, u130, u131, u132, u133, u134, u135, u136, u137, u138, u139, u140, u141, u142, u143, u144, u145, u146, u147, u148, u149, u150, u151, u152, u153, u154, u155, u156, u157, u158, u159, u160, u161, u162, u163, u164, u165, u166, u167, u168, u169, u170, u171, u172, u173, u174, u175, u176, u177, u178, u179, u180, u181, u182, u183, u184, u185, u186, u187, u188, u189, u190, u191, u192, u193, u194, u195, u196, u197, u198, u199, u200, u201, u202, u203, u204, u205, u206, u207, u208, u209, u210, u211, u212, u213, u214, u215, u216, u217, u218, u219, u220, u221, u222, u223, u224, u225, u226, u227, u228, u229, u230, u231, u232], []⟩ w') :
    Code.wp Tryz.prog (navc [1, 0, 1, 0, 1, 1, 1, 1, 1, 0, 1, 1, 1, 1, 1, 1] (textOf Tryz.f91)) Q
      ⟨#[.pointer (some ⟨D, 0, none⟩), u1, u2, u3, .nilIface, u5, u6, u7, u8, .int .i64 n, u10, .int .i64 0, u12, u13, u14, u15, u16, u17, u18, u19, u20, u21, u22, u23, u24, u25, u26, u27, u28, u29, u30, u31, u32, u33, u34, u35, u36, u37, u38, u39, u40, u41, u42, u43, u44, u45, u46, u47, u48, u49, u50, u51, u52, u53, u54, u55, u56, u57, u58, u59, u60, u61, u62, u63, u64, u65, u66, u67, u68, u69, u70, u71, u72, u73, u74, u75, u76, u77, u78, u79, u80, u81, u82, u83, u84, u85, u86, u87, u88, u89, u90, u91, u92, u93, u94, u95, u96, u97, u98, u99, u100, u101, u102, u103, u104, u105, u106, u107, u108, u109, u110, u111, u112, u113, u114, u115, u116, u117, u118, u119, u120, u121, u122, u123, u124, u125, u126, u127, u128, u129, u130, u131, u132, u133, u134, u135, u136, u137, u138, u139, u140, u141, u142, u143, u144, u145, u146, u147, u148, u149, u150, u151, u152, u153, u154, u155, u156, u157, u158, u159, u160, u161, u162, u163, u164, u165, u166, u167, u168, u169, u170, u171, u172, u173, u174, u175, u176, u177, u178, u179, u180, u181, u182, u183, u184, u185, u186, u187, u188, u189, u190, u191, u192, u193, u194, u195, u196, u197, u198, u199, u200, u201, u202, u203, u204, u205, u206, u207, u208, u209, u210, u211, u212, u213, u214, u215, u216, u217, u218, u219, u220, u221, u222, u223, u224, u225, u226, u227, u228, u229, u230, u231, u232], []⟩ w := by
  conv => arg 2; whnf
  dsimp only
  have HQ := Lib.hid hQ; clear hQ
  have HST := Lib.hid h; have HP := Lib.hid hp; have HB := Lib.hid hb
  clear h hp hb
  go_wp2
  go_loopg [11, 12] (n - 0) (fun k v11 v12 wr => ∃ j : Nat, j ≤ n ∧ k = n - j ∧ v11 = .int .i64 j ∧ St L r D C wr { d with pal := .slice (some ⟨pb, 0, none⟩) np 256 } inp ∧ PalAt L r D C wr pb (palC np j pl al) ∧ Mod (fun k => k = pb) w wr ∧ Bytes wr D 10 al)
  case atStart => exact ⟨0, by omega, rfl, rfl, HST.out, (by
    have := HP.out
    exact ⟨this.lo, this.foot, this.lt, fun i hi => by rw [palC, if_neg (by omega)]; exact this.cell i hi, this.fz⟩), Mod.refl _ _, HB.out⟩
  case round =>
    obtain ⟨j, hj, hk, rfl, st, pp, mm, bb⟩ := hrel
    by_cases hlt : j < n
    · have b0 := bb j (by omega)
      have c6 := st.dec.pal
      have cj := pp.cell j (by omega)
      rw [palC, if_neg (by omega), palE, if_pos (by omega), rgbaV] at cj
      have fj := pp.fz j
      have HSTr := Lib.hid st; have HPr := Lib.hid pp; have HMr := Lib.hid mm; have HBr := Lib.hid bb; have HK := Lib.hid hk
      clear st pp mm bb hk
      have g1 : decide ((j : Int) < (n : Int)) = true := decide_eq_true (by omega)
      have g2 : j < np := by omega
      have g3 : j < 768 := by omega
      have g4 : (j : Int) < 768 := by omega
      have g5 : (0 : Int) ≤ (j : Int) := by omega
      have hta := rgba_assert wr (at_ pl (3 * j)) (at_ pl (3 * j + 1)) (at_ pl (3 * j + 2))
      go_upto_region 49 with fail
      have k0 : (wr.alloc (.cells #[.int .u8 ((at_ pl (3 * j)).toNat : Nat), .int .u8 ((at_ pl (3 * j + 1)).toNat : Nat), .int .u8 ((at_ pl (3 * j + 2)).toNat : Nat), .int .u8 255] 142)).cell? ⟨wr.heap.size, 0, none⟩ = some (.int .u8 ((at_ pl (3 * j)).toNat : Nat)) := by rw [World.cell?_alloc_new]; rfl
      have k1 : (wr.alloc (.cells #[.int .u8 ((at_ pl (3 * j)).toNat : Nat), .int .u8 ((at_ pl (3 * j + 1)).toNat : Nat), .int .u8 ((at_ pl (3 * j + 2)).toNat : Nat), .int .u8 255] 142)).cell? ⟨wr.heap.size, 1, none⟩ = some (.int .u8 ((at_ pl (3 * j + 1)).toNat : Nat)) := by rw [World.cell?_alloc_new]; rfl
      have k2 : (wr.alloc (.cells #[.int .u8 ((at_ pl (3 * j)).toNat : Nat), .int .u8 ((at_ pl (3 * j + 1)).toNat : Nat), .int .u8 ((at_ pl (3 * j + 2)).toNat : Nat), .int .u8 255] 142)).cell? ⟨wr.heap.size, 2, none⟩ = some (.int .u8 ((at_ pl (3 * j + 2)).toNat : Nat)) := by rw [World.cell?_alloc_new]; rfl
      have ma : Mod (fun _ => False) wr (wr.alloc (.cells #[.int .u8 ((at_ pl (3 * j)).toNat : Nat), .int .u8 ((at_ pl (3 * j + 1)).toNat : Nat), .int .u8 ((at_ pl (3 * j + 2)).toNat : Nat), .int .u8 255] 142)) := (Mod.refl _ wr).alloc _
      have sta := HSTr.out.mod s ma (fun _ hf => hf.elim)
      have ppa := HPr.out.mod ma id
      have bba := HBr.out.mod ma HSTr.out.dec.ltD id
      generalize hwa : wr.alloc (.cells #[.int .u8 ((at_ pl (3 * j)).toNat : Nat), .int .u8 ((at_ pl (3 * j + 1)).toNat : Nat), .int .u8 ((at_ pl (3 * j + 2)).toNat : Nat), .int .u8 255] 142) = wa at *
      generalize wr.heap.size = ib at *
      clear b0 c6 cj fj hta
      have b0 := bba j (by omega)
      have c6 := sta.dec.pal
      have cj := ppa.cell j (by omega)
      have fj := ppa.fz j
      have HSTa := Lib.hid sta; have HPa := Lib.hid ppa; have HMa := Lib.hid ma; have HBa := Lib.hid bba
      clear sta ppa ma bba hwa
      go_still_tail 19, (by kernel_rfl)
      change wpList _ _ _ _ _ wa.drew
      clear k0 k1 k2 b0
      have m1 : Mod (fun k => k = pb) wa (wa.drew.setCell ⟨pb, j, none⟩ (nrgbaV (at_ pl (3 * j)) (at_ pl (3 * j + 1)) (at_ pl (3 * j + 2)) al[j])) := ((Mod.refl (fun k => k = pb) wa).drew).setCell (p := ⟨pb, j, none⟩) (Or.inl rfl) _
      have M1 := Lib.hid m1; clear m1
      go_wp2
      have hpp := HPa.out
      have m1 := M1.out
      go_roundg (n - (j + 1))
      case measure => have := HK.out; omega
      case rel =>
        refine ⟨j + 1, by omega, rfl, by go_num, HSTa.out.mod s m1 (fun k hk => by subst hk; exact ⟨hpp.lo, hpp.foot⟩), ?_, (HMr.out.trans (HMa.out.mono (fun _ _ hf => hf.elim))).trans m1, HBa.out.mod m1 HSTa.out.dec.ltD (fun e => hpp.foot (Or.inr (Or.inl e.symm)))⟩
        refine ⟨hpp.lo, hpp.foot, by simpa using hpp.lt, fun i hi => ?_, fun i => by simpa using hpp.fz i⟩
        by_cases hij : i = j
        · subst hij
          have := World.cell?_setCell_same wa.drew ⟨pb, i, none⟩ (nrgbaV (at_ pl (3 * i)) (at_ pl (3 * i + 1)) (at_ pl (3 * i + 2)) al[i]) (hpp.cell i hi)
          rw [palC, if_pos (by omega)]
          have e0 : at_ al i = al[i] := by unfold at_; rw [List.getD_eq_getElem?_getD, List.getElem?_eq_getElem (by omega)]; rfl
          rw [e0]
          exact this
        · have hc := hpp.cell i hi
          have : (wa.drew.setCell ⟨pb, j, none⟩ (nrgbaV (at_ pl (3 * j)) (at_ pl (3 * j + 1)) (at_ pl (3 * j + 2)) al[j])).cell? ⟨pb, i, none⟩ = wa.drew.cell? ⟨pb, i, none⟩ :=
            World.cell?_setCell_other _ _ _ _ (fun e => hij (congrArg Addr.off e).symm)
          refine (this.trans hc).trans ?_
          rw [palC, palC]
          by_cases h1 : i < j
          · rw [if_pos h1, if_pos (by omega)]
          · rw [if_neg h1, if_neg (by omega)]
    · obtain rfl : j = n := by omega
      have HSTr := Lib.hid st; have HPr := Lib.hid pp; have HMr := Lib.hid mm
      clear st pp mm bb hk
      have HQ2 := HQ.out
      clear HQ
      go_wp2
      exact HQ2 wr _ _ _ _ _ _ _ _ _ _ _ _ _ _ _ _ _ _ _ _ _ _ _ _ _ _ _ _ _ _ _ _ _ _ _ _ _ _ _ _ _ _ _ _ _ _ _ _ _ _ _ _ _ _ _ _ _ _ _ _ _ _ _ _ _ _ _ _ _ _ _ _ _ _ _ _ _ _ _ _ _ _ _ _ _ _ _ _ _ _ _ _ _ _ _ _ _ _ _ _ _ _ _ _ _ _ _ _ _ _ _ _ _ _ _ _ _ _ _ _ _ _ _ _ _ _ _ _ _ _ _ _ _ _ _ _ _ _ _ _ _ _ _ _ _ _ _ _ _ _ _ _ _ _ _ _ _ _ _ _ _ _ _ _ _ _ _ _ _ _ _ _ _ _ _ _ _ _ _ _ _ _ _ _ _ _ _ _ _ _ _ _ _ _ _ _ _ _ _ _ _ _ _ _ _ _ _ _ _ _ _ _ _ _ _ _ _ _ _ _ _ _ HSTr.out HPr.out HMr.out

end Go.Proofs.YtnpkgmgedgcjmaaGreatDoor
