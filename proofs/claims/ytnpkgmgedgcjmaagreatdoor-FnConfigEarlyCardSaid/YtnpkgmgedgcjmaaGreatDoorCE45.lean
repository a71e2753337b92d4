/- The law's file of an image. The law of what is told early: the search for the first chunk of packed bytes. No conditions but those in each theorem's own binders. -/
import Derived.Test.YtnpkgmgedgcjmaaGreatDoorCE44
import Derived.Test.YtnpkgmgedgcjmaaGreatDoorCE35
import Derived.Test.YtnpkgmgedgcjmaaGreatDoorCE36
namespace Go.Proofs.YtnpkgmgedgcjmaaGreatDoor
set_option linter.unusedVariables false
set_option linter.unusedSimpArgs false
open Go.RowKit Go.Png

theorem SlB.take {w : World} {a : Option Addr} {l : List UInt8} (h : SlB w a l) (n : Nat) : SlB w a (l.take n) := by
  rcases h with h | ⟨b, o, h1, h2⟩
  · subst h; exact Or.inl (by simp)
  · exact Or.inr ⟨b, o, h1, fun i hi => by
      have hl : i < l.length := by rw [List.length_take] at hi; omega
      rw [h2 i hl, List.getElem_take]⟩

/-- What of an image its file asks. -/
structure Img.Ok (m : Img) : Prop where
  wide : 1 ≤ m.s.wide ∧ m.s.wide ≤ 40
  high : 1 ≤ m.s.high ∧ m.s.high ≤ 40
  col : ColOk m.s.colour
  dep : DepOk m.s.depth
  len : m.sm.length = m.s.wide * m.s.high * chanN m.s.colour
  smb : ∀ x ∈ m.sm, x < 65536
  pal : m.pal.length ≤ 256
  pok : ∀ d ∈ m.pal, d.Ok
  cl : m.cl.length ≤ 4
  clb : ∀ x ∈ m.cl, x < 65536

theorem palL_ok (ps : List Shd) (colour top : Nat) : ∀ d ∈ palL ps colour top, d.Ok := by
  intro d hd
  unfold palL at hd
  split at hd
  · have hd2 := List.mem_of_mem_take hd
    split at hd2
    · simp at hd2; subst hd2; exact ⟨by decide, by decide, by decide, by decide⟩
    · obtain ⟨x, _, rfl⟩ := List.mem_map.1 hd2
      have h1 := x.r.toNat_lt; have h2 := x.g.toNat_lt; have h3 := x.b.toNat_lt; have h4 := x.a.toNat_lt
      refine ⟨?_, ?_, ?_, ?_⟩ <;> simp [Shd.dot] <;> omega
  · simp at hd

theorem imgOf_ok (kind wide high : Nat) (laced : Bool) (ul : List Nat) (ps : List Shd) (clr : List Nat) : (imgOf kind wide high laced ul ps clr).Ok := by
  obtain ⟨hco, hd, hcd⟩ := colK_ok (kind % 15) (Nat.mod_lt _ (by decide))
  have hp := pow_dep hd
  have ht := topL_bd ps (colK (kind % 15)) (2 ^ depK (kind % 15)) (by omega)
  refine ⟨⟨?_, ?_⟩, ⟨?_, ?_⟩, hco, hd, smP_length _ _ _, fun x hx => ?_, ?_, palL_ok _ _ _, ?_, fun x hx => ?_⟩
  · show 1 ≤ 1 + wide % 40; omega
  · show 1 + wide % 40 ≤ 40; omega
  · show 1 ≤ 1 + high % 40; omega
  · show 1 + high % 40 ≤ 40; omega
  · have := smP_lt ul _ (by omega) _ x hx; omega
  · show (palL ps (colK (kind % 15)) (2 ^ depK (kind % 15))).length ≤ 256
    unfold palL
    split
    · rename_i h3
      have h8 := hcd h3
      have : 2 ^ depK (kind % 15) ≤ 2 ^ 8 := Nat.pow_le_pow_right (by decide) h8
      rw [List.length_take]; omega
    · simp
  · show (clL clr (colK (kind % 15)) (chanN (colK (kind % 15))) _).length ≤ 4
    have := chan_le (colK (kind % 15))
    unfold clL
    split
    · rw [clP_length]; omega
    · simp
  · have hx2 : x ∈ clL clr (colK (kind % 15)) (chanN (colK (kind % 15))) (topL ps (colK (kind % 15)) (2 ^ depK (kind % 15))) := hx
    unfold clL at hx2
    split at hx2
    · have := clP_lt clr _ (by omega) _ x hx2; omega
    · simp at hx2

set_option maxRecDepth 100000 in
set_option maxHeartbeats 4000000 in
theorem drawnFile (w : World) (base : Nat) (m : Img) (vs vp vl vd : Value) (hm : m.Ok) (hv : ImgV w base m vs vp vl vd) (fa ca ha ba : Option Addr) (fn fc cn cc hn hc bn bc size ways : Nat) (fl cuts ahead behind : List UInt8)
    (hfl : fl.length = fn) (hF : SlB w fa fl) (hfn : fn ≤ 4294967296) (hcu : cuts.length = cn) (hU : SlB w ca cuts) (hcc : cn ≤ cc) (hah : ahead.length = hn) (hA : SlB w ha ahead) (hA0 : hn = 0 → (ha = none ∧ hc = 0) ∨ ∃ b o, ha = some ⟨b, o, none⟩) (hhn : hn ≤ 1000000)
    (hbe : behind.length = bn) (hB : SlB w ba behind) (hB0 : bn = 0 → (ba = none ∧ bc = 0) ∨ ∃ b o, ba = some ⟨b, o, none⟩) (hbn : bn ≤ 1000000) (hsz : size ≤ 65535) (hways : ways ≤ 255) :
    Calls Tryz.prog 20 #[m.val vs vp vl vd, .slice fa fn fc, .int .u16 size, .int .u8 ways, .slice ca cn cc, .slice ha hn hc, .slice ba bn bc] w
      fun e w' => ∃ g c bs, e = .returned (.slice (some ⟨g, 0, none⟩) (fileL m.s m.sm m.pal m.cl fl bs (cuts.take 50) ahead behind).length c) ∧ Blks (bareL m.s m.sm fl) (bareL m.s m.sm fl).length bs true ∧ bs.length ≤ 132 * (bareL m.s m.sm fl).length ∧ Own8 w' w.heap.size g c (fileL m.s m.sm m.pal m.cl fl bs (cuts.take 50) ahead behind) ∧ Mod (fun _ => False) w w' := by
  obtain ⟨sa, sc, rfl, s1, s2, s3, s4, -, -⟩ := hv.s.form
  obtain ⟨la, lc, rfl, l1, l2, l3, l4, -, -⟩ := hv.l.form
  obtain ⟨pa, pn, pc, rfl, p1, p2, p3, p4, p5, p6⟩ := hv.p.ex
  obtain ⟨k, hk⟩ : ∃ k, k = min cn 50 := ⟨_, rfl⟩
  have hwr := fun wz (mz : Mod (fun _ => False) w wz) => specWrite wz m.s sa pa la fa ca ha ba _ sc pn pc _ lc fn fc k cc hn hc bn bc size ways m.sm m.cl m.pal fl (cuts.take 50) ahead behind rfl s2 hm.smb (s1.mod mz (fun _ _ h => h)) hm.len p1 hm.pok (p4.mod mz (fun _ _ h => h)) (by have := hm.pal; omega) rfl hm.clb (l1.mod mz (fun _ _ h => h)) (by have := hm.cl; omega)
    hfl (hF.news mz) hfn (by rw [List.length_take]; omega) ((hU.news mz).take 50) (by omega) hah (hA.news mz) hA0 hhn hbe (hB.news mz) hB0 hbn hm.wide.1 hm.high.1 hm.wide.2 hm.high.2 hm.col hm.dep hsz hways
  unfold Img.val
  unfold Shp.val at hwr
  have HWR := Lib.hid hwr
  clear hwr s1 s2 s3 s4 l1 l2 l3 l4 p1 p2 p3 p4 p5 p6 hfl hF hU hah hA hA0 hbe hB hB0 hv hm hcu
  generalize fileL m.s m.sm m.pal m.cl fl = ff at *
  generalize bareL m.s m.sm fl = bb at *
  generalize m.sm.length = sn at *
  generalize m.cl.length = ln at *
  have i0 : k ≤ cc := by omega
  have i1 : (k : Int) ≤ (cc : Int) := by omega
  by_cases hc50 : cn ≤ 50
  · obtain rfl : k = cn := by omega
    have i2 : (k : Int) ≤ 50 := by omega
    clear hk
    go_enter Tryz.func20, Tryz.ntmps20
    go_wp2_with (fail)
    have M2 := Lib.hid (show Mod (fun _ => False) w _ from ((Mod.refl (fun _ => False) w).alloc (.cells #[.int .i64 m.s.wide, .int .i64 m.s.high, .int .i64 m.s.depth, .int .i64 m.s.colour, .bool m.s.laced, .slice sa sn sc, .slice pa pn pc, .slice la ln lc, vd] 30)).alloc (.cells #[.slice fa fn fc, .int .i64 size, .int .i64 ways, .slice ca k cc] 81))
    refine (HWR.out _ M2.out).mono ?_
    rintro e w3 ⟨g, c, bs, rfl, hbk, hbl, own, m3⟩
    have HFIN := Lib.hid (And.intro hbk (And.intro hbl (And.intro (own.mono M2.out.size) (M2.out.trans m3))))
    clear hbk hbl own m3 M2 HWR
    go_wp2
    go_ret
    exact ⟨g, c, bs, rfl, HFIN.out⟩
  · obtain rfl : k = 50 := by omega
    have i2 : ¬ (cn : Int) ≤ 50 := by omega
    clear hk
    go_enter Tryz.func20, Tryz.ntmps20
    go_wp2_with (fail)
    have M2 := Lib.hid (show Mod (fun _ => False) w _ from ((Mod.refl (fun _ => False) w).alloc (.cells #[.int .i64 m.s.wide, .int .i64 m.s.high, .int .i64 m.s.depth, .int .i64 m.s.colour, .bool m.s.laced, .slice sa sn sc, .slice pa pn pc, .slice la ln lc, vd] 30)).alloc (.cells #[.slice fa fn fc, .int .i64 size, .int .i64 ways, .slice ca 50 cc] 81))
    refine (HWR.out _ M2.out).mono ?_
    rintro e w3 ⟨g, c, bs, rfl, hbk, hbl, own, m3⟩
    have HFIN := Lib.hid (And.intro hbk (And.intro hbl (And.intro (own.mono M2.out.size) (M2.out.trans m3))))
    clear hbk hbl own m3 M2 HWR
    go_wp2
    go_ret
    exact ⟨g, c, bs, rfl, HFIN.out⟩
end Go.Proofs.YtnpkgmgedgcjmaaGreatDoor
namespace Go.Proofs.YtnpkgmgedgcjmaaGreatDoor
set_option linter.unusedVariables false
set_option linter.unusedSimpArgs false
open Go.RowKit Go.Png

theorem chunk_at {F A nm d r : List UInt8} (h : F = A ++ (chunkL nm d ++ r)) (hn : nm.length = 4) :
    A.length + 12 + d.length ≤ F.length ∧ F.getD (A.length + 2) 0 = UInt8.ofNat (d.length / 256) ∧ F.getD (A.length + 3) 0 = UInt8.ofNat d.length ∧ (F.drop (A.length + 4)).take 4 = nm := by
  subst h
  have hc : chunkL nm d ++ r = four d.length ++ (nm ++ (d ++ four (crc (nm ++ d)).toNat ++ r)) := by unfold chunkL; simp
  rw [hc]
  have hf := four_length d.length
  refine ⟨by simp [four_length]; omega, ?_, ?_, ?_⟩
  · rw [List.getD_eq_getElem?_getD, List.getElem?_append_right (by omega), show A.length + 2 - A.length = 2 by omega, List.getElem?_append_left (by omega)]; rfl
  · rw [List.getD_eq_getElem?_getD, List.getElem?_append_right (by omega), show A.length + 3 - A.length = 3 by omega, List.getElem?_append_left (by omega)]; rfl
  · rw [List.drop_append, List.drop_eq_nil_of_le (show A.length ≤ A.length + 4 by omega), show A.length + 4 - A.length = 4 by omega, List.nil_append, List.drop_append, List.drop_eq_nil_of_le (by omega), hf, Nat.sub_self, List.drop_zero, List.nil_append, List.take_left' hn]

theorem bytesGetD {w : World} {b off : Nat} {l : List UInt8} (h : Bytes w b off l) (i : Nat) (hi : i < l.length) : w.cell? ⟨b, off + i, none⟩ = some (.int .u8 ((l.getD i 0).toNat : Nat)) := by
  rw [h i hi, List.getD_eq_getElem?_getD, List.getElem?_eq_getElem hi]; rfl
theorem bytesSub {w : World} {b off : Nat} {l : List UInt8} (h : Bytes w b off l) (k n : Nat) : Bytes w b (off + k) ((l.drop k).take n) := by
  intro i hi
  have hl : k + i < l.length := by rw [List.length_take, List.length_drop] at hi; omega
  rw [Nat.add_assoc, h (k + i) hl, List.getElem_take, List.getElem_drop]

theorem flatC_append (a b : List (List UInt8 × List UInt8)) : flatC (a ++ b) = flatC a ++ flatC b := by
  induction a with
  | nil => rfl
  | cons x t ih => simp [flatC, ih]
theorem flatC_split (cs : List (List UInt8 × List UInt8)) (j : Nat) (hj : j < cs.length) : flatC cs = flatC (cs.take j) ++ (chunkL cs[j].1 cs[j].2 ++ flatC (cs.drop (j + 1))) := by
  have : cs = cs.take j ++ (cs[j] :: cs.drop (j + 1)) := by rw [← List.drop_eq_getElem_cons hj, List.take_append_drop]
  rw [show flatC cs = flatC (cs.take j ++ (cs[j] :: cs.drop (j + 1))) by rw [← this], flatC_append]; rfl

set_option maxRecDepth 100000 in
set_option maxHeartbeats 4000000 in
theorem early_loop (w : World) (g c : Nat) (cs : List (List UInt8 × List UInt8)) (data tl F : List UInt8) (hF : F = sigL ++ (flatC cs ++ (chunkL nIDAT data ++ tl))) (hB : Bytes w g 0 F) (hc : F.length ≤ c) (hlim : F.length ≤ 1000000000)
    (hcs : ∀ x ∈ cs, x.1.length = 4 ∧ x.1 ≠ nIDAT ∧ x.2.length < 65536)
    (u0 u1 u2 u3 u4 u5 u6 u7 u8 u9 u10 u11 u12 u13 u14 u15 u19 u20 u21 u22 u23 u24 u25 u26 u27 u28 u29 u30 u31 u32 u33 u34 u35 u36 u37 u38 u39 u40 u41 u42 u43 u44 u45 u46 u47 u48 u49 u50 u51 u52 u53 u54 u55 u56 u57 u58 u59 u60 u61 u62 u63 u64 u65 u66 u67 u68 u69 u70 u71 u72 u73 u74 u75 u76 u77 u78 u79 u80 u81 u82 u83 u84 u85 u86 u87 u88 u89 u90 u91 u92 u93 u94 u95 u96 u97 u98 u99 u100 u101 u102 u103 u104 u105 u106 u107 u108 u109 u110 u111 u112 u113 u114 u115 u116 u117 u118 u119 u120 u121 u122 u123 u124 u125 u126 u127 u128 u129 u130 u131 u132 u133 u134 : Value) (Q : Exit → Act → World → Prop)
    (hQ : ∀ w' (v18 v48 v49 v50 v51 v52 v53 v54 v55 v56 v57 v58 v59 v60 v61 v62 v63 v64 v65 v66 v67 v68 v69 v70 v71 v72 v73 v74 v75 v76 v77 v78 : Value), Mod (fun _ => False) w w' →
       Q .normal ⟨#[u0, u1, u2, u3, u4, u5, u6, u7, u8, u9, u10, u11, u12, u13, u14, u15, .slice (some ⟨g, 0, none⟩) F.length c, .int .i64 (16 + (flatC cs).length : Nat), v18, u19, u20, u21, u22, u23, u24, u25, u26, u27, u28, u29, u30, u31, u32, u33, u34, u35, u36, u37, u38, u39, u40, u41, u42, u43, u44, u45, u46, u47, v48, v49, v50, v51, v52, v53, v54, v55, v56, v57, v58, v59, v60, v61, v62, v63, v64, v65, v66, v67, v68, v69, v70, v71, v72, v73, v74, v75, v76, v77, v78, u79, u80, u81, u82, u83, u84, u85, u86, u87, u88, u89, u90, u91, u92, u93, u94, u95, u96, u97, u98, u99, u100, u101, u102, u103, u104, u105, u106, u107, u108, u109, u110, u111, u112, u113, u114, u115, u116, u117, u118, u119, u120, u121, u122, u123, u124, u125, u126, u127, u128, u129, u130, u131, u132, u133, u134], []⟩ w') :
    Code.wp Tryz.prog (navc [1, 1, 1, 1, 1, 0, 1] (textOf Tryz.f14)) Q
      ⟨#[u0, u1, u2, u3, u4, u5, u6, u7, u8, u9, u10, u11, u12, u13, u14, u15, .slice (some ⟨g, 0, none⟩) F.length c, .int .i64 F.length, .int .i64 8, u19, u20, u21, u22, u23, u24, u25, u26, u27, u28, u29, u30, u31, u32, u33, u34, u35, u36, u37, u38, u39, u40, u41, u42, u43, u44, u45, u46, u47, u48, u49, u50, u51, u52, u53, u54, u55, u56, u57, u58, u59, u60, u61, u62, u63, u64, u65, u66, u67, u68, u69, u70, u71, u72, u73, u74, u75, u76, u77, u78, u79, u80, u81, u82, u83, u84, u85, u86, u87, u88, u89, u90, u91, u92, u93, u94, u95, u96, u97, u98, u99, u100, u101, u102, u103, u104, u105, u106, u107, u108, u109, u110, u111, u112, u113, u114, u115, u116, u117, u118, u119, u120, u121, u122, u123, u124, u125, u126, u127, u128, u129, u130, u131, u132, u133, u134], []⟩ w := by
  conv => arg 2; whnf
  dsimp only
  have HQ := Lib.hid hQ; have HB := Lib.hid hB; have HF := Lib.hid hF; have HCS := Lib.hid hcs
  clear hQ hB hF hcs
  generalize hFL : F.length = FL at *
  have HFL := Lib.hid hFL
  clear hFL
  go_wp2
  go_loopg [18] (cs.length - 0) (fun gk v18 wr => ∃ j : Nat, j ≤ cs.length ∧ gk = cs.length - j ∧ v18 = .int .i64 (8 + (flatC (cs.take j)).length : Nat) ∧ Mod (fun _ => False) w wr)
  case atStart => exact ⟨0, by omega, rfl, rfl, Mod.refl _ _⟩
  case round =>
    obtain ⟨j, hj, hkk, rfl, mm⟩ := hrel
    have HK := Lib.hid hkk; have MM := Lib.hid mm
    clear hkk mm
    have hbw : Bytes wr g 0 F := fun i hi => by
      have := HB.out i hi
      rw [MM.out.cell (lt_of_cell this) id]; exact this
    have HBW := Lib.hid hbw
    clear hbw
    by_cases hlt : j < cs.length
    · obtain ⟨hn1, hn2, hn3⟩ := HCS.out cs[j] (List.getElem_mem hlt)
      have hsp : F = (sigL ++ flatC (cs.take j)) ++ (chunkL cs[j].1 cs[j].2 ++ (flatC (cs.drop (j + 1)) ++ (chunkL nIDAT data ++ tl))) := by
        rw [HF.out, flatC_split cs j hlt]; simp
      have hnext : 8 + (flatC (cs.take (j + 1))).length = 8 + (flatC (cs.take j)).length + (12 + cs[j].2.length) := by
        rw [← List.take_append_getElem hlt, flatC_append, List.length_append]
        show _ + (_ + (chunkL cs[j].1 cs[j].2 ++ flatC []).length) = _
        rw [List.length_append, chunkL_length _ _ hn1]; simp [flatC]; omega
      obtain ⟨v1, v2, v3, v4⟩ := chunk_at hsp hn1
      have hal : (sigL ++ flatC (cs.take j)).length = 8 + (flatC (cs.take j)).length := by rw [List.length_append]; rfl
      rw [hal] at v1 v2 v3 v4
      rw [HFL.out] at v1
      have HNX := Lib.hid hnext
      have hbn := bytesSub HBW.out (8 + (flatC (cs.take j)).length + 4) 4
      rw [v4] at hbn
      have q2 := bytesGetD HBW.out (8 + (flatC (cs.take j)).length + 2) (by rw [HFL.out]; omega)
      have q3 := bytesGetD HBW.out (8 + (flatC (cs.take j)).length + 3) (by rw [HFL.out]; omega)
      rw [v2] at q2
      rw [v3] at q3
      generalize (flatC (cs.take j)).length = p at *
      generalize cs[j].2.length = dl at *
      generalize cs[j].1 = nm at *
      rw [Nat.zero_add] at hbn q2 q3
      have hcv := convBytes wr g (8 + p + 4) (c - (8 + p + 4)) 4 nm hn1.symm hbn
      have e1 : ((strOf nm).toList == [73, 68, 65, 84]) = false := by rw [strOf_toList]; simpa [nIDAT] using hn2
      have hu1 : ((UInt8.ofNat (dl / 256)).toNat) = dl / 256 := by rw [UInt8.toNat_ofNat']; omega
      have hu2 : ((UInt8.ofNat dl).toNat) = dl % 256 := by rw [UInt8.toNat_ofNat']
      rw [hu1] at q2
      rw [hu2] at q3
      clear hsp hnext hal hbn v2 v3 v4 hu1 hu2 hn1 hn2
      generalize strOf nm = sg at *
      obtain ⟨x, hx⟩ : ∃ x, x = dl / 256 := ⟨_, rfl⟩
      obtain ⟨y, hy⟩ : ∃ y, y = dl % 256 := ⟨_, rfl⟩
      have hxy : x * 256 + y = dl := by omega
      have hxb : x < 256 := by omega
      have hyb : y < 256 := by omega
      rw [← hx] at q2
      rw [← hy] at q3
      have HXY := Lib.hid hxy
      have hpp : 8 + p + 12 + (x * 256 + y) ≤ FL := by omega
      clear hx hy hxy v1 hn3
      generalize 8 + p = a at *
      have i0 : (a : Int) < (FL : Int) := by omega
      have i1 : (a : Int) + 4 ≤ (FL : Int) := by omega
      have i2 : (a : Int) + 8 ≤ (FL : Int) := by omega
      have i3 : (a : Int) + 8 ≤ (c : Int) := by omega
      have i4 : a + 8 ≤ c := by omega
      have i5 : a + 4 ≤ c := by omega
      go_upto_region 10 with fail
      have s1 : IntKind.i64.wrap ((a : Int) + 2) = (a : Int) + 2 := IntWalk.i64_in _ (by omega)
      have s2 : IntKind.i64.wrap ((a : Int) + 3) = (a : Int) + 3 := IntWalk.i64_in _ (by omega)
      have s3 : ((a : Int) + 2).toNat = a + 2 := by omega
      have s4 : ((a : Int) + 3).toNat = a + 3 := by omega
      have s5 : (0 : Int) ≤ (a : Int) + 2 := by omega
      have s6 : (0 : Int) ≤ (a : Int) + 3 := by omega
      have s7 : (a : Int) + 2 < (FL : Int) := by omega
      have s8 : (a : Int) + 3 < (FL : Int) := by omega
      have t1 : IntKind.i64.wrap (x : Int) = (x : Int) := IntWalk.i64_in _ (by omega)
      have t2 : IntKind.i64.wrap (y : Int) = (y : Int) := IntWalk.i64_in _ (by omega)
      have t3 : IntKind.i64.wrap ((x : Int) * 256) = (x : Int) * 256 := IntWalk.i64_in _ (by omega)
      have t4 : IntKind.i64.wrap (12 + (x : Int) * 256) = 12 + (x : Int) * 256 := IntWalk.i64_in _ (by omega)
      have t5 : IntKind.i64.wrap (12 + (x : Int) * 256 + (y : Int)) = 12 + (x : Int) * 256 + (y : Int) := IntWalk.i64_in _ (by omega)
      have t6 : IntKind.i64.wrap ((a : Int) + (12 + (x : Int) * 256 + (y : Int))) = (a : Int) + (12 + (x : Int) * 256 + (y : Int)) := IntWalk.i64_in _ (by omega)
      go_quiet (fail)
      clear s1 s2 s3 s4 s5 s6 s7 s8 t1 t2 t3 t4 t5 t6 q2 q3 hcv e1 i0 i1 i2 i3 i4 i5
      have hv : (a : Int) + (12 + (x : Int) * 256 + (y : Int)) = ((8 + (flatC (cs.take (j + 1))).length : Nat) : Int) := by rw [HNX.out, ← HXY.out]; omega
      have HV := Lib.hid hv
      clear hv
      go_wp2
      go_roundg (cs.length - (j + 1))
      case measure => have := HK.out; omega
      case rel => exact ⟨j + 1, by omega, rfl, by rw [HV.out], MM.out.drewN _⟩
    · obtain rfl : j = cs.length := by omega
      have hsp : F = (sigL ++ flatC cs) ++ (chunkL nIDAT data ++ tl) := by rw [HF.out]; simp
      obtain ⟨v1, v2, v3, v4⟩ := chunk_at hsp rfl
      have hal : (sigL ++ flatC cs).length = 8 + (flatC cs).length := by rw [List.length_append]; rfl
      rw [hal] at v1 v4
      rw [HFL.out] at v1
      have hbn := bytesSub HBW.out (8 + (flatC cs).length + 4) 4
      rw [v4, Nat.zero_add] at hbn
      rw [List.take_length]
      generalize hpl : (flatC cs).length = p at *
      have HPL := Lib.hid hpl
      have hcv := convBytes wr g (8 + p + 4) (c - (8 + p + 4)) 4 nIDAT rfl hbn
      have e1 : ((strOf nIDAT).toList == [73, 68, 65, 84]) = true := by rw [strOf_toList]; rfl
      have i0 : (8 : Int) + (p : Int) < (FL : Int) := by omega
      have i1 : (8 : Int) + (p : Int) + 8 ≤ (FL : Int) := by omega
      have i4 : 8 + p + 8 ≤ c := by omega
      clear hsp hal hbn v2 v3 v4 hpl v1
      generalize strOf nIDAT = sg at *
      have hv : (8 : Int) + (p : Int) + 8 = ((16 + p : Nat) : Int) := by omega
      have HV := Lib.hid hv
      clear hv
      go_wp2
      rw [HV.out]
      exact HQ.out wr _ _ _ _ _ _ _ _ _ _ _ _ _ _ _ _ _ _ _ _ _ _ _ _ _ _ _ _ _ _ _ _ MM.out
end Go.Proofs.YtnpkgmgedgcjmaaGreatDoor
