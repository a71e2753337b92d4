/- The law's images of numbers: the function. No conditions but those in each theorem's own binders. -/
import Derived.Test.YtnpkgmgedgcjmaaGreatDoorCE43
import Derived.Test.YtnpkgmgedgcjmaaGreatDoorCE40
namespace Go.Proofs.YtnpkgmgedgcjmaaGreatDoor
set_option linter.unusedVariables false
set_option linter.unusedSimpArgs false
open Go.RowKit Go.Png

/-- What an image of numbers is. -/
structure Img where
  s : Shp
  sm : List Nat
  pal : List Dt
  cl : List Nat
def imgOf (kind wide high : Nat) (laced : Bool) (ul : List Nat) (ps : List Shd) (clr : List Nat) : Img :=
  let colour := colK (kind % 15)
  let depth := depK (kind % 15)
  let top := topL ps colour (2 ^ depth)
  { s := ⟨1 + wide % 40, 1 + high % 40, depth, colour, laced⟩
    sm := smP ul top ((1 + wide % 40) * (1 + high % 40) * chanN colour)
    pal := palL ps colour (2 ^ depth)
    cl := clL clr colour (chanN colour) top }
/-- The values of an image's lists. -/
structure ImgV (w : World) (base : Nat) (m : Img) (vs vp vl vd : Value) : Prop where
  s : OwnI w base vs m.sm
  p : DtsV w base vp m.pal
  l : OwnI w base vl m.cl
  d : ∃ dl, dotsN m.s m.sm m.pal m.cl = some dl ∧ ∃ g c, vd = .slice (some ⟨g, 0, none⟩) dl.length c ∧ OwnD w base g c dl
def Img.val (m : Img) (vs vp vl vd : Value) : Value := .agg #[.int .i64 m.s.wide, .int .i64 m.s.high, .int .i64 m.s.depth, .int .i64 m.s.colour, .bool m.s.laced, vs, vp, vl, vd]

theorem colK_ok (k : Nat) (h : k < 15) : ColOk (colK k) ∧ DepOk (depK k) ∧ (colK k = 3 → depK k ≤ 8) := by
  have : k = 0 ∨ k = 1 ∨ k = 2 ∨ k = 3 ∨ k = 4 ∨ k = 5 ∨ k = 6 ∨ k = 7 ∨ k = 8 ∨ k = 9 ∨ k = 10 ∨ k = 11 ∨ k = 12 ∨ k = 13 ∨ k = 14 := by omega
  unfold ColOk DepOk
  rcases this with rfl | rfl | rfl | rfl | rfl | rfl | rfl | rfl | rfl | rfl | rfl | rfl | rfl | rfl | rfl <;> decide

theorem pow_dep {d : Nat} (h : DepOk d) : 2 ≤ 2 ^ d ∧ 2 ^ d ≤ 65536 := by rcases h with rfl | rfl | rfl | rfl | rfl <;> decide
theorem topL_bd (ps : List Shd) (colour top : Nat) (h1 : 1 ≤ top) : 1 ≤ topL ps colour top ∧ topL ps colour top ≤ top := by
  unfold topL
  split
  · rename_i h
    unfold palL
    rw [if_pos h, List.length_take]
    split <;> simp <;> omega
  · exact ⟨h1, Nat.le_refl _⟩

theorem dotN_some (s : Shp) (sm : List Nat) (pal : List Dt) (cl : List Nat) (k : Nat) (h : s.colour = 3 → sm.getD k 0 < pal.length) : ∃ d, dotN s sm pal cl k = some d := by
  unfold dotN
  have : ∃ d, baseD s.colour (vsP (topN s.depth) sm k (chanN s.colour)) pal (sm.getD k 0) = some d := by
    unfold baseD
    by_cases h0 : s.colour = 0
    · rw [if_pos h0]; exact ⟨_, rfl⟩
    · rw [if_neg h0]
      by_cases h2 : s.colour = 2
      · rw [if_pos h2]; exact ⟨_, rfl⟩
      · rw [if_neg h2]
        by_cases h3 : s.colour = 3
        · rw [if_pos h3, List.getElem?_eq_getElem (h h3)]; exact ⟨_, rfl⟩
        · rw [if_neg h3]
          split <;> exact ⟨_, rfl⟩
  obtain ⟨d, hd⟩ := this
  rw [hd]
  exact ⟨_, rfl⟩
theorem dotsN_some (s : Shp) (sm : List Nat) (pal : List Dt) (cl : List Nat) (h : s.colour = 3 → ∀ x ∈ sm, x < pal.length) (h0 : s.colour = 3 → 0 < pal.length) : ∃ dl, dotsN s sm pal cl = some dl := by
  unfold dotsN
  generalize sm.length / chanN s.colour = n
  induction n with
  | zero => exact ⟨[], rfl⟩
  | succ n ih =>
    obtain ⟨l, hl⟩ := ih
    obtain ⟨d, hd⟩ := dotN_some s sm pal cl (n * chanN s.colour) (fun hc => by
      rw [List.getD_eq_getElem?_getD]
      cases hk : sm[n * chanN s.colour]? with
      | none => exact h0 hc
      | some x => exact h hc x (List.mem_of_getElem? hk))
    rw [dotsP, hl]
    show ∃ dl, (dotN s sm pal cl (n * chanN s.colour)).map (fun d => l ++ [d]) = some dl
    rw [hd]
    exact ⟨_, rfl⟩

set_option maxRecDepth 100000 in
set_option maxHeartbeats 4000000 in
theorem drawnOf (w : World) (kind wide high : Nat) (laced : Bool) (ua qa ca : Option Addr) (un uc qn qc cn cc : Nat) (ul clr : List Nat) (ps : List Shd) (hk : kind < 256) (hwd : wide < 256) (hhg : high < 256)
    (hul : ul.length = un) (hU : SlU w ua ul) (hub : ∀ x ∈ ul, x < 65536) (hun : un ≤ 4294967296) (hps : ps.length = qn) (hP : SlS w qa ps) (hqn : qn ≤ 4294967296) (hcl : clr.length = cn) (hC : SlU w ca clr) (hcb : ∀ x ∈ clr, x < 65536) (hcn : cn ≤ 4294967296) (hcc : cn ≤ cc) :
    Calls Tryz.prog 17 #[.int .u8 kind, .int .u8 wide, .int .u8 high, .bool laced, .slice ua un uc, .slice qa qn qc, .slice ca cn cc] w
      fun e w' => ∃ vs vp vl vd, e = .returned ((imgOf kind wide high laced ul ps clr).val vs vp vl vd) ∧ ImgV w' w.heap.size (imgOf kind wide high laced ul ps clr) vs vp vl vd ∧ Mod (fun _ => False) w w' := by
  have hkk := fun wz => lawsKindOf wz kind hk
  obtain ⟨hco, hd, hcd⟩ := colK_ok (kind % 15) (Nat.mod_lt _ (by decide))
  have hsh := fun wz => lawsShapeOf wz (colK (kind % 15)) (depK (kind % 15)) wide high laced hwd hhg
  have hch := fun wz : World => specChannels wz (colK (kind % 15)) hco
  unfold imgOf
  dsimp only
  generalize colK (kind % 15) = colour at *
  generalize depK (kind % 15) = depth at *
  have hw1 : 1 + wide % 40 ≤ 40 := by omega
  have hh1 : 1 + high % 40 ≤ 40 := by omega
  have hw0 : 1 ≤ 1 + wide % 40 := by omega
  have hh0 : 1 ≤ 1 + high % 40 := by omega
  generalize 1 + wide % 40 = wd at *
  generalize 1 + high % 40 = hg at *
  have HKK := Lib.hid hkk; have HSH := Lib.hid hsh; have HCH := Lib.hid hch; have HCO := Lib.hid hco; have HD := Lib.hid hd; have HCD := Lib.hid hcd
  have HUL := Lib.hid hul; have HU := Lib.hid hU; have HUB := Lib.hid hub; have HPS := Lib.hid hps; have HP := Lib.hid hP; have HCL := Lib.hid hcl; have HC := Lib.hid hC; have HCB := Lib.hid hcb
  clear hkk hsh hch hco hd hcd hul hU hub hps hP hcl hC hcb
  go_enter Tryz.func17, Tryz.ntmps17
  go_wp2_with (fail)
  refine (HKK.out _).mono ?_
  rintro e w2 ⟨rfl, nk, rfl⟩
  go_wp2_with (fail)
  refine (HSH.out _).mono ?_
  rintro e w3 ⟨rfl, m3⟩
  unfold Shp.val
  go_upto_region 3 with fail
  rename_i K hK
  have hl3 := m3.size
  have hz0 : ((w.alloc (.cells #[.int .i64 0, .int .i64 0, .int .i64 0, .int .i64 0, .bool false, .slice none 0 0, .slice none 0 0, .slice none 0 0, .slice none 0 0] 30)).drewN nk).heap.size = w.heap.size + 1 := by simp
  rw [hz0] at hl3
  have hmr : Mod (fun _ => False) w ((w.alloc (.cells #[.int .i64 0, .int .i64 0, .int .i64 0, .int .i64 0, .bool false, .slice none 0 0, .slice none 0 0, .slice none 0 0, .slice none 0 0] 30)).drewN nk) := ((Mod.refl _ w).alloc _).drewN nk
  have hres : DrAt ((w.alloc (.cells #[.int .i64 0, .int .i64 0, .int .i64 0, .int .i64 0, .bool false, .slice none 0 0, .slice none 0 0, .slice none 0 0, .slice none 0 0] 30)).drewN nk) w.heap.size ⟨0, 0, 0, 0, false⟩ (.slice none 0 0) (.slice none 0 0) (.slice none 0 0) (.slice none 0 0) := by
    refine DrAt.mod (w := w.alloc (.cells #[.int .i64 0, .int .i64 0, .int .i64 0, .int .i64 0, .bool false, .slice none 0 0, .slice none 0 0, .slice none 0 0, .slice none 0 0] 30)) ?_ ((Mod.refl (fun _ => False) _).drewN nk) id
    exact ⟨by rw [World.cell?_alloc_new]; rfl, by rw [World.cell?_alloc_new]; rfl, by rw [World.cell?_alloc_new]; rfl, by rw [World.cell?_alloc_new]; rfl, by rw [World.cell?_alloc_new]; rfl, by rw [World.cell?_alloc_new]; rfl, by rw [World.cell?_alloc_new]; rfl, by rw [World.cell?_alloc_new]; rfl, by rw [World.cell?_alloc_new]; rfl, fun o => by rw [World.frozen?_alloc_new]⟩
  have hd4 : DrAt (w3.alloc (.cells #[.int .i64 wd, .int .i64 hg, .int .i64 depth, .int .i64 colour, .bool laced, .slice none 0 0, .slice none 0 0, .slice none 0 0, .slice none 0 0] 30)) w3.heap.size ⟨wd, hg, depth, colour, laced⟩ (.slice none 0 0) (.slice none 0 0) (.slice none 0 0) (.slice none 0 0) :=
    ⟨by rw [World.cell?_alloc_new]; rfl, by rw [World.cell?_alloc_new]; rfl, by rw [World.cell?_alloc_new]; rfl, by rw [World.cell?_alloc_new]; rfl, by rw [World.cell?_alloc_new]; rfl, by rw [World.cell?_alloc_new]; rfl, by rw [World.cell?_alloc_new]; rfl, by rw [World.cell?_alloc_new]; rfl, by rw [World.cell?_alloc_new]; rfl, fun o => by rw [World.frozen?_alloc_new]⟩
  have m4 : Mod (fun _ => False) w3 (w3.alloc (.cells #[.int .i64 wd, .int .i64 hg, .int .i64 depth, .int .i64 colour, .bool laced, .slice none 0 0, .slice none 0 0, .slice none 0 0, .slice none 0 0] 30)) := (Mod.refl _ w3).alloc _
  have R4 := Lib.hid ((hres.mod m3 id).mod m4 id); have M4 := Lib.hid ((hmr.trans m3).trans m4); have D4 := Lib.hid hd4
  have hlt4 := hd4.lt
  clear hz0 hmr hres hd4 m4 m3 HKK HSH
  generalize w3.alloc (.cells #[.int .i64 wd, .int .i64 hg, .int .i64 depth, .int .i64 colour, .bool laced, .slice none 0 0, .slice none 0 0, .slice none 0 0, .slice none 0 0] 30) = w4 at *
  generalize w3.heap.size = DB at *
  have i0 : (0 : Int) ≤ (depth : Int) := by omega
  go_quiet ((go_at_call 36; exact Calls.quiet_of_same ((HCH.out _).mono fun e w' h => ⟨h.1, h.2.symm⟩)))
  have etop : wrap64 (2 ^ min depth 64) = ((2 ^ depth : Nat) : Int) := by
    rcases HD.out with h | h | h | h | h <;> rw [h] <;> kernel_rfl
  rw [etop]
  change K _ _
  refine hK _ _ ?_
  clear hK K etop i0 HCH
  obtain ⟨top, htop⟩ : ∃ top, top = 2 ^ depth := ⟨_, rfl⟩
  have htb := pow_dep HD.out
  rw [← htop] at htb ⊢
  have HTOP := Lib.hid htop
  clear htop
  have R5 := Lib.hid (R4.out.mod ((Mod.refl (fun _ => False) w4).drewN nq) id); have M5 := Lib.hid (M4.out.drewN nq); have D5 := Lib.hid (D4.out.mod ((Mod.refl (fun _ => False) w4).drewN nq) id)
  have hlt5 := D5.out.lt
  clear R4 M4 D4 hlt4
  generalize w4.drewN nq = w5 at *
  have hM5 := M5.out.size
  refine wp_seq_k (fun K hK => ?_)
  refine drawn_pal w5 DB ⟨wd, hg, depth, colour, laced⟩ qa qn qc colour top ps _ D5.out HPS.out (HP.out.mod M5.out (fun _ _ h => h)) hqn (by omega) htb.2 _ _ _ _ _ _ _ _ _ _ _ _ _ _ _ _ _ _ _ _ _ _ _ _ _ _ _ _ _ _ _ _ _ _ _ _ _ _ _ _ _ _ _ _ _ _ _ _ _ _ _ _ _ _ _ _ _ _ _ _ _ _ _ _ _ _ _ _ _ _ _ _ _ _ _ _ _ _ _ _ _ _ _ _ _ _ _ _ _ _ _ _ _ _ _ _ _ _ _ _ _ _ _ _ _ _ _ _ _ _ _ _ _ _ _ _ _ _ _ _ _ _ _ _ _ _ _ _ _ _ _ _ _ _ _ _ _ _ ?_
  intro w6 vp _ _ _ _ _ _ _ _ _ _ _ _ _ _ _ _ _ _ _ _ _ _ _ hdr6 hdv6 m6
  change K _ _
  refine hK _ _ ?_
  clear hK K
  have htl := topL_bd ps colour top (by omega)
  have hpl3 : colour = 3 → (palL ps colour top).length = topL ps colour top := fun h => by unfold topL; rw [if_pos h]
  have HPL3 := Lib.hid hpl3
  generalize htt : topL ps colour top = tt at *
  have HTT := Lib.hid htt
  clear htt hpl3
  have D6 := Lib.hid hdr6; have V6 := Lib.hid hdv6; have M6 := Lib.hid ((M5.out.mono (L' := fun k => w.heap.size ≤ k) (fun _ _ h => h.elim)).trans (m6.mono (fun k _ h => by omega)))
  have R6 := Lib.hid (R5.out.mod m6 (by omega))
  have hs6 := m6.size
  clear hdr6 hdv6 m6 D5 R5
  have hcb := chan_le colour
  obtain ⟨P, hP⟩ : ∃ P, P = wd * hg := ⟨_, rfl⟩
  have hPb : P ≤ 40 * 40 := by rw [hP]; exact Nat.mul_le_mul hw1 hh1
  obtain ⟨N, hN⟩ : ∃ N, N = P * chanN colour := ⟨_, rfl⟩
  have hNb : N ≤ 1600 * 4 := by rw [hN]; exact Nat.mul_le_mul hPb hcb.2
  have HPP := Lib.hid hP; have HNN := Lib.hid hN
  have e1 : ((wd : Int) * (hg : Int)) = (P : Int) := by rw [hP]; exact (Int.natCast_mul _ _).symm
  have e2 : ((P : Int) * (chanN colour : Int)) = (N : Int) := by rw [hN]; exact (Int.natCast_mul _ _).symm
  have e3 : wrap64 ((wd : Int) * (hg : Int)) = (P : Int) := by rw [e1]; exact IntWalk.wrap64_in _ (by omega)
  have e4 : wrap64 ((P : Int) * (chanN colour : Int)) = (N : Int) := by rw [e2]; exact IntWalk.wrap64_in _ (by omega)
  have E1 := Lib.hid e1; have E2 := Lib.hid e2
  clear hP hN e1 e2
  have q0 := D6.out.wide; have q1 := D6.out.high
  go_upto_block 0 with fail
  rename_i K hK
  rw [e4]
  clear e3 e4 E1 E2 q0 q1
  refine drawn_samples w6 w6.heap.size DB _ ua un uc N tt ul vp _ _ (Nat.le_refl _) (by omega) D6.out HUL.out (HU.out.mod M6.out (fun k hk h => by omega)) HUB.out (fun w' m => HU.out.mod (M6.out.trans (m.mono (fun k _ h => by omega))) (fun k hk h => by omega)) hun (by omega) htl.1 (by omega) _ _ _ _ _ _ _ _ _ _ _ _ _ _ _ _ _ _ _ _ _ _ _ _ _ _ _ _ _ _ _ _ _ _ _ _ _ _ _ _ _ _ _ _ _ _ _ _ _ _ _ _ _ _ _ _ _ _ _ _ _ _ _ _ _ _ _ _ _ _ _ _ _ _ _ _ _ _ _ _ _ _ _ _ _ _ _ _ _ _ _ _ _ _ _ _ _ _ _ _ _ _ _ _ _ _ _ _ _ _ _ _ _ _ _ _ _ _ _ _ _ _ _ _ _ _ _ _ _ _ _ _ _ _ _ _ _ ?_
  intro w7 vs _ _ _ _ _ _ _ _ _ _ _ _ _ _ _ _ _ _ _ _ _ _ _ _ _ _ hdr7 own7 m7
  change K _ _
  refine hK _ _ ?_
  clear hK K
  have hs7 := m7.size
  have D7 := Lib.hid hdr7; have S7 := Lib.hid own7; have M7 := Lib.hid (M6.out.trans (m7.mono (L' := fun k => w.heap.size ≤ k) (fun k _ h => by omega)))
  have R7 := Lib.hid (R6.out.mod m7 (by omega)); have V7 := Lib.hid (V6.out.mod m7 (fun k hk1 hk2 h => by omega))
  clear hdr7 own7 m7 D6 M6 R6 V6
  refine wp_seq_k (fun K hK => ?_)
  refine drawn_clear w7 w7.heap.size DB _ ca cn cc tt (chanN colour) colour clr vs vp _ (Nat.le_refl _) (by omega) D7.out HCL.out HCB.out (fun w' m => HC.out.mod (M7.out.trans (m.mono (fun k _ h => by omega))) (fun k hk h => by omega)) hcn hcb.2 hcc htl.1 (by omega) _ _ _ _ _ _ _ _ _ _ _ _ _ _ _ _ _ _ _ _ _ _ _ _ _ _ _ _ _ _ _ _ _ _ _ _ _ _ _ _ _ _ _ _ _ _ _ _ _ _ _ _ _ _ _ _ _ _ _ _ _ _ _ _ _ _ _ _ _ _ _ _ _ _ _ _ _ _ _ _ _ _ _ _ _ _ _ _ _ _ _ _ _ _ _ _ _ _ _ _ _ _ _ _ _ _ _ _ _ _ _ _ _ _ _ _ _ _ _ _ _ _ _ _ _ _ _ _ _ _ _ _ _ _ _ _ _ ?_
  intro w8 vl _ _ _ _ _ _ _ _ _ _ _ _ _ _ _ _ _ _ _ _ _ _ _ _ _ _ _ _ _ _ _ hdr8 own8 m8
  change K _ _
  refine hK _ _ ?_
  clear hK K
  have hs8 := m8.size
  have D8 := Lib.hid hdr8; have L8 := Lib.hid own8; have M8 := Lib.hid (M7.out.trans (m8.mono (L' := fun k => w.heap.size ≤ k) (fun k _ h => by omega)))
  have R8 := Lib.hid (R7.out.mod m8 (by omega)); have V8 := Lib.hid (V7.out.mod m8 (fun k hk1 hk2 h => by omega)); have S8 := Lib.hid (S7.out.mod m8 (fun k hk h => by have := World.ownsRow.lt S7.out k hk; omega))
  clear hdr8 own8 m8 D7 M7 R7 V7 S7
  obtain ⟨sa, sc, rfl, s1, s2, s3, s4, s5, s6⟩ := S8.out.form
  obtain ⟨la, lc, rfl, l1, l2, l3, l4, l5, l6⟩ := L8.out.form
  obtain ⟨pa, pn, pc, rfl, p1, p2, p3, p4, p5, p6⟩ := V8.out.ex
  have hsmb : ∀ x ∈ smP ul tt N, x < tt := smP_lt ul tt (by omega) N
  have hdts := specDots w8 ⟨wd, hg, depth, colour, laced⟩ sa pa la _ sc pn pc _ lc _ _ _ rfl (fun x hx => by have := hsmb x hx; omega) s1 p1 p4 rfl l1 HCO.out HD.out (by rw [smP_length]; omega) (by
    unfold clL; split
    · rw [clP_length]; omega
    · simp)
  have hsome : ∃ dl, dotsN ⟨wd, hg, depth, colour, laced⟩ (smP ul tt N) (palL ps colour top) (clL clr colour (chanN colour) tt) = some dl := dotsN_some _ _ _ _ (fun h x hx => by rw [HPL3.out h]; exact hsmb x hx) (fun h => by rw [HPL3.out h]; omega)
  obtain ⟨dl, hdl⟩ := hsome
  have HDL := Lib.hid hdl
  have hpost : ∀ e w', DotsPost w8 (dotsN ⟨wd, hg, depth, colour, laced⟩ (smP ul tt N) (palL ps colour top) (clL clr colour (chanN colour) tt)) e w' → ∃ g c, e = .returned (.tuple #[.slice (some ⟨g, 0, none⟩) dl.length c, .int .i64 0]) ∧ OwnD w' w8.heap.size g c dl ∧ Mod (fun _ => False) w8 w' := by
    rintro e w' ⟨hm, h | h⟩
    · obtain ⟨l, g, c, h1, h2, h3⟩ := h
      rw [hdl] at h1
      cases h1
      exact ⟨g, c, h2, h3, hm⟩
    · rw [hdl] at h; cases h.1
  unfold Shp.val at hdts
  dsimp only at hdts
  have HDTS := Lib.hid (hdts.mono hpost)
  have c0 := D8.out.wide; have c1 := D8.out.high; have c2 := D8.out.depth; have c3 := D8.out.colour; have c4 := D8.out.laced; have c5 := D8.out.s; have c6 := D8.out.p; have c7 := D8.out.l
  dsimp only at c0 c1 c2 c3 c4
  clear hdts hpost hdl hsmb
  go_wp2_with (fail)
  refine HDTS.out.mono ?_
  rintro e w9 ⟨g9, c9, rfl, own9, m9⟩
  have D9 := Lib.hid (D8.out.mod m9 id); have R9 := Lib.hid (R8.out.mod m9 id); have V9 := Lib.hid (V8.out.mod m9 (fun _ _ _ h => h)); have S9 := Lib.hid (S8.out.mod m9 (fun _ _ h => h)); have L9 := Lib.hid (L8.out.mod m9 (fun _ _ h => h)); have M9 := Lib.hid (M8.out.trans (m9.mono (L' := fun k => w.heap.size ≤ k) (fun _ _ h => h.elim))); have O9 := Lib.hid own9
  clear own9 m9 D8 R8 V8 S8 L8 M8 HDTS c0 c1 c2 c3 c4 c5 c6 c7
  have f8 := D9.out.fz 8; have c8 := D9.out.d
  go_upto_region 25 with fail
  have hDB9 := D9.out.lt
  have ms : Mod (fun k => k = DB) w9 (w9.setCell ⟨DB, 8, none⟩ (.slice (some ⟨g9, 0, none⟩) dl.length c9)) := (Mod.refl (fun k => k = DB) w9).setCell (p := ⟨DB, 8, none⟩) (Or.inl rfl) _
  have D10 := Lib.hid (D9.out.setD (.slice (some ⟨g9, 0, none⟩) dl.length c9)); have R10 := Lib.hid (R9.out.mod ms (by omega)); have V10 := Lib.hid (V9.out.mod ms (fun k hk _ h => by omega)); have S10 := Lib.hid (S9.out.mod ms (fun k hk h => by have := World.ownsRow.lt S9.out k hk; omega)); have L10 := Lib.hid (L9.out.mod ms (fun k hk h => by have := World.ownsRow.lt L9.out k hk; omega)); have M10 := Lib.hid (M9.out.trans (ms.mono (L' := fun k => w.heap.size ≤ k) (fun k _ h => by omega))); have O10 := Lib.hid (O9.out.mod ms (by have := O9.out.base; omega))
  clear ms D9 R9 V9 S9 L9 M9 O9 f8 c8
  generalize w9.setCell ⟨DB, 8, none⟩ (.slice (some ⟨g9, 0, none⟩) dl.length c9) = w10 at *
  obtain ⟨c0, c1, c2, c3, c4, c5, c6, c7, c8, -⟩ := D10.out
  dsimp only at c0 c1 c2 c3 c4
  obtain ⟨r0, r1, r2, r3, r4, r5, r6, r7, r8, rf⟩ := R10.out
  dsimp only at r0 r1 r2 r3 r4
  have g0 := rf 0; have g1 := rf 1; have g2 := rf 2; have g3 := rf 3; have g4 := rf 4; have g5 := rf 5; have g6 := rf 6; have g7 := rf 7; have g8 := rf 8
  clear rf
  have hnb : DB ≠ w.heap.size := by omega
  have fin : ∀ w', Mod (fun k => k = w.heap.size) w10 w' → ImgV w' w.heap.size ⟨⟨wd, hg, depth, colour, laced⟩, smP ul tt N, palL ps colour top, clL clr colour (chanN colour) tt⟩ (.slice sa (smP ul tt N).length sc) (.slice pa pn pc) (.slice la (clL clr colour (chanN colour) tt).length lc) (.slice (some ⟨g9, 0, none⟩) dl.length c9) ∧ Mod (fun _ => False) w w' := by
    intro w' m
    refine ⟨⟨(S10.out.mod m (fun k hk h => by have := World.ownsRow.lt S10.out k hk; omega)).mono (by omega), ?_, (L10.out.mod m (fun k hk h => by have := World.ownsRow.lt L10.out k hk; omega)).mono (by omega), dl, HDL.out, g9, c9, rfl, (O10.out.mod m (by have := O10.out.base; omega)).mono (by omega)⟩, M10.out.then m (fun k hk h => by omega) |>.mono (fun k hk h => by omega)⟩
    have h := V10.out.mod m (fun k hk _ h => by omega)
    obtain ⟨A, n, c, h1, h2, h3, h4, h5, h6, h7⟩ := h.ex
    exact ⟨A, n, c, h1, h2, h3, h4, h5, fun b o hb => ⟨by have := (h6 b o hb).1; omega, (h6 b o hb).2⟩, h7⟩
  have HPPe := HPP.out; have HNNe := HNN.out; have HTTe := HTT.out; have HTOPe := HTOP.out
  have hmg : (⟨⟨wd, hg, depth, colour, laced⟩, smP ul (topL ps colour (2 ^ depth)) (wd * hg * chanN colour), palL ps colour (2 ^ depth), clL clr colour (chanN colour) (topL ps colour (2 ^ depth))⟩ : Img) = ⟨⟨wd, hg, depth, colour, laced⟩, smP ul tt N, palL ps colour top, clL clr colour (chanN colour) tt⟩ := by
    rw [← HTOPe, HTTe, ← HPPe, ← HNNe]
  rw [← hmg] at fin
  have FIN := Lib.hid fin
  clear fin hmg HPPe HNNe HTTe HTOPe D10 R10 V10 S10 L10 M10 O10 HDL s1 s2 s3 s4 s5 s6 l1 l2 l3 l4 l5 l6 p1 p2 p3 p4 p5 p6
  generalize (smP ul tt N).length = sn at *
  generalize (clL clr colour (chanN colour) tt).length = ln at *
  go_wp2
  refine bodyPost_ret (v := .agg #[.int .i64 wd, .int .i64 hg, .int .i64 depth, .int .i64 colour, .bool laced, .slice sa sn sc, .slice pa pn pc, .slice la ln lc, .slice (some ⟨g9, 0, none⟩) dl.length c9]) (by simp [results, Tryz.results17, go_sem, r0, r1, r2, r3, r4, r5, r6, r7, r8]) rfl ?_
  refine ⟨_, _, _, _, rfl, (FIN.out _ ?_).1, (FIN.out _ ?_).2⟩
  all_goals exact ((((((((((Mod.refl (fun k => k = w.heap.size) w10).setCell (p := ⟨w.heap.size, 0, none⟩) (Or.inl rfl) _).setCell (p := ⟨w.heap.size, 1, none⟩) (Or.inl rfl) _).setCell (p := ⟨w.heap.size, 2, none⟩) (Or.inl rfl) _).setCell (p := ⟨w.heap.size, 3, none⟩) (Or.inl rfl) _).setCell (p := ⟨w.heap.size, 4, none⟩) (Or.inl rfl) _).setCell (p := ⟨w.heap.size, 5, none⟩) (Or.inl rfl) _).setCell (p := ⟨w.heap.size, 6, none⟩) (Or.inl rfl) _).setCell (p := ⟨w.heap.size, 7, none⟩) (Or.inl rfl) _).setCell (p := ⟨w.heap.size, 8, none⟩) (Or.inl rfl) _)
end Go.Proofs.YtnpkgmgedgcjmaaGreatDoor
