/- The law of what is told early: the law. No conditions but those in each theorem's own binders. -/
import Derived.Test.YtnpkgmgedgcjmaaGreatDoorCE46
import Derived.Test.YtnpkgmgedgcjmaaGreatDoorCE37
namespace Go.Proofs.YtnpkgmgedgcjmaaGreatDoor
set_option linter.unusedVariables false
set_option linter.unusedSimpArgs false
open Go.RowKit Go.Png

theorem ImgV.mod {w w' : World} {base : Nat} {m : Img} {vs vp vl vd : Value} (h : ImgV w base m vs vp vl vd) (k : Mod (fun _ => False) w w') : ImgV w' base m vs vp vl vd := by
  obtain ⟨dl, h1, g, c, h2, h3⟩ := h.d
  exact ⟨h.s.mod k (fun _ _ h => h), h.p.mod k (fun _ _ _ h => h), h.l.mod k (fun _ _ h => h), dl, h1, g, c, h2, h3.mod k id⟩

/-- The cells of what is told ahead of a picture. -/
structure CfAt (w : World) (B : Nat) (kind wide high : Nat) (v : Value) : Prop where
  kind : w.cell? ⟨B, 0, none⟩ = some (.int .i64 kind)
  wide : w.cell? ⟨B, 1, none⟩ = some (.int .i64 wide)
  high : w.cell? ⟨B, 2, none⟩ = some (.int .i64 high)
  pal : w.cell? ⟨B, 3, none⟩ = some v
theorem CfAt.mod {w w' : World} {B kind wide high : Nat} {v : Value} (h : CfAt w B kind wide high v) {S : Nat → Prop} (m : Mod S w w') (hS : ¬ S B) : CfAt w' B kind wide high v := by
  have hb := lt_of_cell h.kind
  exact ⟨(m.cell hb hS _).trans h.kind, (m.cell hb hS _).trans h.wide, (m.cell hb hS _).trans h.high, (m.cell hb hS _).trans h.pal⟩

theorem flat_len (m : Img) (h : m.Ok) : (flatC (chunksOf m)).length ≤ 2000 := by
  have hp := h.pal
  have hc := h.cl
  have h1 : (headL m.s).length = 13 := rfl
  have h2 := shadesL_length m.pal
  have h3 := clearsL_length m.pal
  have h4 : (rowL 16 m.cl).length = 2 * m.cl.length := by unfold rowL; rw [rowP_length 16 (by unfold DepOk; omega)]; omega
  unfold chunksOf
  rw [flatC_append, flatC_append, flatC_append, List.length_append, List.length_append, List.length_append]
  have a1 : (flatC [(nIHDR, headL m.s)]).length ≤ 25 := by simp only [flatC, List.append_nil]; rw [chunkL_length _ _ rfl]; omega
  have a2 : (flatC (if m.pal.length = 0 then [] else [(nPLTE, shadesL m.pal)])).length ≤ 780 := by
    split
    · simp [flatC]
    · simp only [flatC, List.append_nil]; rw [chunkL_length _ _ rfl]; omega
  have a3 : (flatC (if anyL m.pal then [(ntRNS, clearsL m.pal)] else [])).length ≤ 268 := by
    split
    · simp only [flatC, List.append_nil]; rw [chunkL_length _ _ rfl]; omega
    · simp [flatC]
  have a4 : (flatC (if m.cl = [] then [] else [(ntRNS, rowL 16 m.cl)])).length ≤ 20 := by
    split
    · simp [flatC]
    · simp only [flatC, List.append_nil]; rw [chunkL_length _ _ rfl]; omega
  omega

theorem packed_len (m : Img) (h : m.Ok) (fl : List UInt8) (bs : List Bool) (hb : bs.length ≤ 132 * (bareL m.s m.sm fl).length) : (packedL (bareL m.s m.sm fl) bs).length ≤ 20000000 := by
  have hble := bareL_le m.s m.sm fl h.dep h.wide.2 h.high.2 h.len
  unfold packedL
  rw [List.length_append, List.length_append, packL_length, four_length]
  have : ([120, 1] : List UInt8).length = 2 := rfl
  omega

set_option maxRecDepth 100000 in
set_option maxHeartbeats 4000000 in
theorem fnConfigEarly (L : Lay) (w : World) (he : Env L w) (kind wide high : Nat) (laced : Bool) (ua qa ca : Option Addr) (un uc qn qc cn cc : Nat) (ul clr : List Nat) (ps : List Shd) (hk : kind < 256) (hwd : wide < 256) (hhg : high < 256)
    (hul : ul.length = un) (hU : SlU w ua ul) (hub : ∀ x ∈ ul, x < 65536) (hps : ps.length = qn) (hP : SlS w qa ps) (hcl : clr.length = cn) (hC : SlU w ca clr) (hcb : ∀ x ∈ clr, x < 65536) (hcc : cn ≤ cc) :
    Calls Tryz.prog 14 #[.int .u8 kind, .int .u8 wide, .int .u8 high, .bool laced, .slice ua un uc, .slice qa qn qc, .slice ca cn cc] w
      fun e w' => e = .returned (.bool true) ∧ Mod (fun _ => False) w w' := by
  by_cases h1 : un ≤ 2147483647
  case neg =>
    have i1 : ((2147483647 : Int) < (un : Int)) := by omega
    clear hul hU hub hps hP hcl hC hcb he
    go_enter Tryz.func14, Tryz.ntmps14
    go_wp2
    go_ret
    exact ⟨rfl, Mod.refl _ _⟩
  by_cases h2 : qn ≤ 2147483647
  case neg =>
    have i0 : ¬ ((2147483647 : Int) < (un : Int)) := by omega
    have i1 : ((2147483647 : Int) < (qn : Int)) := by omega
    clear hul hU hub hps hP hcl hC hcb he
    go_enter Tryz.func14, Tryz.ntmps14
    go_wp2
    go_ret
    exact ⟨rfl, Mod.refl _ _⟩
  by_cases h3 : cn ≤ 2147483647
  case neg =>
    have i0 : ¬ ((2147483647 : Int) < (un : Int)) := by omega
    have i2 : ¬ ((2147483647 : Int) < (qn : Int)) := by omega
    have i1 : ((2147483647 : Int) < (cn : Int)) := by omega
    clear hul hU hub hps hP hcl hC hcb he
    go_enter Tryz.func14, Tryz.ntmps14
    go_wp2
    go_ret
    exact ⟨rfl, Mod.refl _ _⟩
  have hdr := drawnOf w kind wide high laced ua qa ca un uc qn qc cn cc ul clr ps hk hwd hhg hul hU hub (by omega) hps hP (by omega) hcl hC hcb (by omega) hcc
  have hok := imgOf_ok kind wide high laced ul ps clr
  have hkd := imgOf_kd kind wide high laced ul ps clr
  generalize imgOf kind wide high laced ul ps clr = m at *
  have HDR := Lib.hid hdr; have HOK := Lib.hid hok; have HKD := Lib.hid hkd; have HE := Lib.hid he
  have i0 : ¬ ((2147483647 : Int) < (un : Int)) := by omega
  have i1 : ¬ ((2147483647 : Int) < (qn : Int)) := by omega
  have i2 : ¬ ((2147483647 : Int) < (cn : Int)) := by omega
  clear hdr hok hkd hul hU hub hps hP hcl hC hcb he
  go_enter Tryz.func14, Tryz.ntmps14
  go_wp2_with (fail)
  refine HDR.out.mono ?_
  rintro e w1 ⟨vs, vp, vl, vd, rfl, iv, m1⟩
  obtain ⟨sa, sn, sc, hvs⟩ : ∃ a n c, vs = .slice a n c := by obtain ⟨a, c, h, -⟩ := iv.s.form; exact ⟨a, _, c, h⟩
  obtain ⟨la, ln, lc, hvl⟩ : ∃ a n c, vl = .slice a n c := by obtain ⟨a, c, h, -⟩ := iv.l.form; exact ⟨a, _, c, h⟩
  obtain ⟨pa, pn, pc, hvp⟩ : ∃ a n c, vp = .slice a n c := by obtain ⟨a, n, c, h, -⟩ := iv.p.ex; exact ⟨a, n, c, h⟩
  obtain ⟨da, dn, dc, hvd⟩ : ∃ a n c, vd = .slice a n c := by obtain ⟨dl, _, g, c, h, -⟩ := iv.d; exact ⟨_, _, _, h⟩
  subst hvs hvl hvp hvd
  have IV := Lib.hid iv; have M1 := Lib.hid m1
  clear iv m1 HDR i0 i1 i2
  unfold Img.val
  go_upto_region 4 with fail
  have d2 : DrAt (w1.alloc (.cells #[.int .i64 m.s.wide, .int .i64 m.s.high, .int .i64 m.s.depth, .int .i64 m.s.colour, .bool m.s.laced, .slice sa sn sc, .slice pa pn pc, .slice la ln lc, .slice da dn dc] 30)) w1.heap.size m.s (.slice sa sn sc) (.slice pa pn pc) (.slice la ln lc) (.slice da dn dc) :=
    ⟨by rw [World.cell?_alloc_new]; rfl, by rw [World.cell?_alloc_new]; rfl, by rw [World.cell?_alloc_new]; rfl, by rw [World.cell?_alloc_new]; rfl, by rw [World.cell?_alloc_new]; rfl, by rw [World.cell?_alloc_new]; rfl, by rw [World.cell?_alloc_new]; rfl, by rw [World.cell?_alloc_new]; rfl, by rw [World.cell?_alloc_new]; rfl, fun o => by rw [World.frozen?_alloc_new]⟩
  have m2 : Mod (fun _ => False) w1 (w1.alloc (.cells #[.int .i64 m.s.wide, .int .i64 m.s.high, .int .i64 m.s.depth, .int .i64 m.s.colour, .bool m.s.laced, .slice sa sn sc, .slice pa pn pc, .slice la ln lc, .slice da dn dc] 30)) := (Mod.refl _ w1).alloc _
  have iv2 : ImgV (w1.alloc (.cells #[.int .i64 m.s.wide, .int .i64 m.s.high, .int .i64 m.s.depth, .int .i64 m.s.colour, .bool m.s.laced, .slice sa sn sc, .slice pa pn pc, .slice la ln lc, .slice da dn dc] 30)) w.heap.size m (.slice sa sn sc) (.slice pa pn pc) (.slice la ln lc) (.slice da dn dc) := IV.out.mod m2
  have D2 := Lib.hid d2; have M2 := Lib.hid (M1.out.trans m2); have IV2 := Lib.hid iv2
  clear d2 m2 iv2 IV
  generalize w1.alloc (.cells #[.int .i64 m.s.wide, .int .i64 m.s.high, .int .i64 m.s.depth, .int .i64 m.s.colour, .bool m.s.laced, .slice sa sn sc, .slice pa pn pc, .slice la ln lc, .slice da dn dc] 30) = w2 at *
  generalize w1.heap.size = DB at *
  have hf := drawnFile w2 w.heap.size m _ _ _ _ HOK.out IV2.out none none none none 0 0 0 0 0 0 0 0 1000 1 [] [] [] [] rfl (Or.inl rfl) (by omega) rfl (Or.inl rfl) (Nat.le_refl _) rfl (Or.inl rfl) (fun _ => Or.inl ⟨rfl, rfl⟩) (by omega) rfl (Or.inl rfl) (fun _ => Or.inl ⟨rfl, rfl⟩) (by omega) (by omega) (by omega)
  unfold Img.val at hf
  have HF := Lib.hid hf
  obtain ⟨c0, c1, c2, c3, c4, c5, c6, c7, c8, -⟩ := D2.out
  clear hf
  go_wp2_with (fail)
  refine HF.out.mono ?_
  rintro e w3 ⟨g, c, bs, rfl, hbk, hbl, own, m3⟩
  rw [List.take_nil] at own
  simp only [List.take_nil]
  have hfc := file_chunks m [] bs
  have hpk := packed_len m HOK.out [] bs hbl
  have hfl := flat_len m HOK.out
  have hcs := chunksOf_ok m HOK.out
  rw [hfc] at own ⊢
  generalize packedL (bareL m.s m.sm []) bs = data at *
  obtain ⟨F, hF⟩ : ∃ F, F = sigL ++ (flatC (chunksOf m) ++ (chunkL nIDAT data ++ chunkL nIEND [])) := ⟨_, rfl⟩
  rw [← hF] at own ⊢
  have hFlen : F.length = 8 + (flatC (chunksOf m)).length + (12 + data.length) + 12 := by
    rw [hF, List.length_append, List.length_append, List.length_append, chunkL_length _ _ rfl, chunkL_length _ _ rfl]
    show 8 + _ = _
    simp; omega
  have hcap := own.cap
  have O3 := Lib.hid own; have M3 := Lib.hid (M2.out.trans m3); have D3 := Lib.hid (D2.out.mod m3 id); have HFE := Lib.hid hF; have HFC := Lib.hid hfc; have HCS := Lib.hid hcs; have HFLEN := Lib.hid hFlen
  clear hFlen own m3 D2 M2 IV2 M1 HF hbk hbl hfc hF c0 c1 c2 c3 c4 c5 c6 c7 c8 hcs
  go_upto_block 0 with fail
  rename_i K hK
  have hFlen := HFLEN.out
  refine early_loop w3 g c (chunksOf m) data (chunkL nIEND []) F HFE.out O3.out.bytes hcap.1 (by omega) HCS.out _ _ _ _ _ _ _ _ _ _ _ _ _ _ _ _ _ _ _ _ _ _ _ _ _ _ _ _ _ _ _ _ _ _ _ _ _ _ _ _ _ _ _ _ _ _ _ _ _ _ _ _ _ _ _ _ _ _ _ _ _ _ _ _ _ _ _ _ _ _ _ _ _ _ _ _ _ _ _ _ _ _ _ _ _ _ _ _ _ _ _ _ _ _ _ _ _ _ _ _ _ _ _ _ _ _ _ _ _ _ _ _ _ _ _ _ _ _ _ _ _ _ _ _ _ _ _ _ _ _ _ _ _ ?_
  intro w4 _ _ _ _ _ _ _ _ _ _ _ _ _ _ _ _ _ _ _ _ _ _ _ _ _ _ _ _ _ _ _ _ m4
  change K _ _
  refine hK _ _ ?_
  clear hK K
  have O4 := Lib.hid (O3.out.mod m4 id); have M4 := Lib.hid (M3.out.trans m4); have D4 := Lib.hid (D3.out.mod m4 id)
  clear m4 O3 M3 D3 HFC HCS
  obtain ⟨p, hp⟩ : ∃ p, p = (flatC (chunksOf m)).length := ⟨_, rfl⟩
  rw [← hp] at hFlen hfl ⊢
  have HP := Lib.hid hp
  have hFw : F = sigL ++ (flatC (chunksOf m) ++ (four data.length ++ (nIDAT ++ (data ++ four (crc (nIDAT ++ data)).toNat ++ chunkL nIEND [])))) := by
    rw [HFE.out]; unfold chunkL; simp
  have hFp : F.take (16 + p) = sigL ++ (flatC (chunksOf m) ++ (four data.length ++ (nIDAT ++ []))) := by
    have e : F = (sigL ++ (flatC (chunksOf m) ++ (four data.length ++ (nIDAT ++ [])))) ++ (data ++ four (crc (nIDAT ++ data)).toNat ++ chunkL nIEND []) := by rw [hFw]; simp
    rw [e]
    refine List.take_left' ?_
    rw [hp]
    simp [four_length, sigStr, nIDAT]; omega
  have hcf1 := fun wz (mz : Mod (fun _ => False) w4 wz) => early_cfg L wz (HE.out.mod (M4.out.trans mz) (fun _ h => h.elim)) m HOK.out HKD.out g 0 F.length c data.length _ F hFw (by omega) rfl (by omega) (O4.out.mod mz id).bytes
  have hcf2 := fun wz (mz : Mod (fun _ => False) w4 wz) => early_cfg L wz (HE.out.mod (M4.out.trans mz) (fun _ h => h.elim)) m HOK.out HKD.out g 0 (16 + p) c data.length [] (F.take (16 + p)) hFp (by omega) (by rw [List.length_take]; omega) (by omega) (fun i hi => by
    have hl : i < F.length := by rw [List.length_take] at hi; omega
    rw [(O4.out.mod mz id).bytes i hl, List.getElem_take])
  have HC1 := Lib.hid hcf1; have HC2 := Lib.hid hcf2
  have j1 : 16 + p ≤ c := by omega
  have j2 : 16 + p ≤ F.length := by omega
  clear hFlen HFLEN hcf1 hcf2 hFw hFp hp O4 HP HFE HE
  generalize F.length = FL at *
  go_wp2_with (fail)
  refine (HC1.out _ (Mod.refl _ _)).mono ?_
  rintro e w5 ⟨A1, q1, cq1, rfl, hq1, hs1, m5⟩
  have M5 := Lib.hid m5; have S1 := Lib.hid hs1; have Q1 := Lib.hid hq1
  clear m5 hs1 hq1 HC1
  go_upto_region 12 with fail
  have hq1b : q1 ≤ 256 := by
    have := Q1.out
    have hpal := HOK.out.pal
    unfold shdOf at this
    split at this
    · rw [shdL_length] at this; omega
    · simp at this; omega
  obtain ⟨KN, hKN⟩ : ∃ KN, KN = kindN (cbOf m.s.depth m.s.colour) := ⟨_, rfl⟩
  rw [← hKN]
  have HKN := Lib.hid hKN
  clear hKN
  have a6 : CfAt (w5.alloc (.cells #[.int .i64 KN, .int .i64 m.s.wide, .int .i64 m.s.high, .slice A1 q1 cq1] 64)) w5.heap.size KN m.s.wide m.s.high (.slice A1 q1 cq1) := ⟨by rw [World.cell?_alloc_new]; rfl, by rw [World.cell?_alloc_new]; rfl, by rw [World.cell?_alloc_new]; rfl, by rw [World.cell?_alloc_new]; rfl⟩
  have m6 : Mod (fun _ => False) w5 (w5.alloc (.cells #[.int .i64 KN, .int .i64 m.s.wide, .int .i64 m.s.high, .slice A1 q1 cq1] 64)) := (Mod.refl _ w5).alloc _
  have A6 := Lib.hid a6; have M6 := Lib.hid (M5.out.trans m6); have S6 := Lib.hid (S1.out.mod m6 (fun _ _ h => h)); have D6 := Lib.hid (D4.out.mod (M5.out.trans m6) id)
  clear a6 m6 M5 S1 D4
  generalize w5.alloc (.cells #[.int .i64 KN, .int .i64 m.s.wide, .int .i64 m.s.high, .slice A1 q1 cq1] 64) = w6 at *
  generalize w5.heap.size = AB at *
  have i1 : (16 : Int) + (p : Int) ≤ (c : Int) := by omega
  have i2 : (16 : Int) + (p : Int) ≤ (FL : Int) := by omega
  go_wp2_with (fail)
  refine (HC2.out _ M6.out).mono ?_
  rintro e w7 ⟨A2, q2, cq2, rfl, hq2, hs2, m7⟩
  rw [← HKN.out]
  obtain rfl : q1 = q2 := Q1.out.symm.trans hq2
  have S2 := Lib.hid hs2; have M7 := Lib.hid (M6.out.trans m7); have A7 := Lib.hid (A6.out.mod m7 id); have S7 := Lib.hid (S6.out.mod m7 (fun _ _ h => h)); have D7 := Lib.hid (D6.out.mod m7 id)
  clear m7 hs2 hq2 HC2 A6 S6 D6 M6
  go_upto_region 13 with fail
  have b8 : CfAt (w7.alloc (.cells #[.int .i64 KN, .int .i64 m.s.wide, .int .i64 m.s.high, .slice A2 q1 cq2] 64)) w7.heap.size KN m.s.wide m.s.high (.slice A2 q1 cq2) := ⟨by rw [World.cell?_alloc_new]; rfl, by rw [World.cell?_alloc_new]; rfl, by rw [World.cell?_alloc_new]; rfl, by rw [World.cell?_alloc_new]; rfl⟩
  have m8 : Mod (fun _ => False) w7 (w7.alloc (.cells #[.int .i64 KN, .int .i64 m.s.wide, .int .i64 m.s.high, .slice A2 q1 cq2] 64)) := (Mod.refl _ w7).alloc _
  have B8 := Lib.hid b8; have A8 := Lib.hid (A7.out.mod m8 id); have M8 := Lib.hid ((M4.out.trans M7.out).trans m8); have S8 := Lib.hid (S7.out.mod m8 (fun _ _ h => h)); have T8 := Lib.hid (S2.out.mod m8 (fun _ _ h => h)); have D8 := Lib.hid (D7.out.mod m8 id)
  clear b8 m8 M7 A7 S7 S2 D7 M4
  generalize w7.alloc (.cells #[.int .i64 KN, .int .i64 m.s.wide, .int .i64 m.s.high, .slice A2 q1 cq2] 64) = w8 at *
  generalize w7.heap.size = BB at *
  obtain ⟨a0, a1, a2, a3⟩ := A8.out
  obtain ⟨b0, b1, b2, b3⟩ := B8.out
  have d0 := D8.out.wide
  have FINM := Lib.hid M8.out
  generalize shdOf m = sl at *
  have hd1 := fun wz (mz : Mod (fun _ => False) w8 wz) => lawsDots wz A1 q1 cq1 sl Q1.out (S8.out.mod mz (fun _ _ h => h)) (by omega)
  have hd2 := fun wz (mz : Mod (fun _ => False) w8 wz) => lawsDots wz A2 q1 cq2 sl Q1.out (T8.out.mod mz (fun _ _ h => h)) (by omega)
  have hlen : (sl.map Shd.dot).length = q1 := by rw [List.length_map]; exact Q1.out
  have H1 := Lib.hid hd1; have H2 := Lib.hid hd2; have HLEN := Lib.hid hlen
  clear hd1 hd2 hlen
  go_region_held3 (fun wz => wz.cell? ⟨AB, 0, none⟩ = some (.int .i64 KN) ∧ wz.cell? ⟨AB, 1, none⟩ = some (.int .i64 m.s.wide) ∧ wz.cell? ⟨AB, 2, none⟩ = some (.int .i64 m.s.high) ∧ wz.cell? ⟨AB, 3, none⟩ = some (.slice A1 q1 cq1) ∧
      wz.cell? ⟨BB, 0, none⟩ = some (.int .i64 KN) ∧ wz.cell? ⟨BB, 1, none⟩ = some (.int .i64 m.s.wide) ∧ wz.cell? ⟨BB, 2, none⟩ = some (.int .i64 m.s.high) ∧ wz.cell? ⟨BB, 3, none⟩ = some (.slice A2 q1 cq2) ∧ wz.cell? ⟨DB, 0, none⟩ = some (.int .i64 m.s.wide))
    (go_keep)
    ((first
      | (go_at_call 29; refine (specSame _ (some ⟨g1, 0, none⟩) (some ⟨g2, 0, none⟩) q1 q1 c1 c2 (sl.map Shd.dot) (sl.map Shd.dot) HLEN.out HLEN.out O12.out.sld O2.out.sld (by omega) (by omega)).mono ?_; rintro e w11 ⟨rfl, nq, rfl⟩; have hh := A10.out; have hh2 := B10.out; have k0 := hh.kind; have k1 := hh.wide; have k2 := hh.high; have k3 := hh.pal; have j0 := hh2.kind; have j1 := hh2.wide; have j2 := hh2.high; have j3 := hh2.pal; have dd := (D8.out.mod M10.out id).wide; clear hh hh2; go_simp)
      | (go_at_call 30; (with_reducible refine (H1.out _ (by first | exact Mod.refl _ _ | exact (Mod.refl _ _).drew)).mono ?_); rintro e w9 ⟨g1, c1, rfl, own1, m9⟩; have M9 := Lib.hid (Mod.trans (L := fun _ => False) (a := w8) (by first | exact Mod.refl _ _ | exact (Mod.refl _ _).drew) m9); have O1 := Lib.hid own1; have hh := A8.out.mod M9.out id; have hh2 := B8.out.mod M9.out id; have k0 := hh.kind; have k1 := hh.wide; have k2 := hh.high; have k3 := hh.pal; have j0 := hh2.kind; have j1 := hh2.wide; have j2 := hh2.high; have j3 := hh2.pal; have dd := (D8.out.mod M9.out id).wide; clear hh hh2 own1 m9; go_simp)
      | (go_at_call 30; (with_reducible refine (H2.out _ M9.out).mono ?_); rintro e w10 ⟨g2, c2, rfl, own2, m10⟩; have M10 := Lib.hid (M9.out.trans m10); have O12 := Lib.hid (O1.out.mod m10 id); have O2 := Lib.hid own2; have A10 := Lib.hid (A8.out.mod M10.out id); have B10 := Lib.hid (B8.out.mod M10.out id); have hh := A10.out; have hh2 := B10.out; have k0 := hh.kind; have k1 := hh.wide; have k2 := hh.high; have k3 := hh.pal; have j0 := hh2.kind; have j1 := hh2.wide; have j2 := hh2.high; have j3 := hh2.pal; have dd := (D8.out.mod M10.out id).wide; clear hh hh2 own2 m10; go_simp)))
  all_goals
    have MFIN := Lib.hid (FINM.out.trans (M10.out.drewN nq))
    go_wp2
    go_ret
    exact ⟨rfl, MFIN.out⟩
end Go.Proofs.YtnpkgmgedgcjmaaGreatDoor
