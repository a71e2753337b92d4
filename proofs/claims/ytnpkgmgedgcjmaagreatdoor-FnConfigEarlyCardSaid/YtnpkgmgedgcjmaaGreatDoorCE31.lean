/- The reference's rows of an image, bare: the parts, and the function. The reference's rows of an image, bare: the loop over the parts. No conditions but those in each theorem's own binders. -/
import Derived.Test.YtnpkgmgedgcjmaaGreatDoorCE30
namespace Go.Proofs.YtnpkgmgedgcjmaaGreatDoor
set_option linter.unusedVariables false
set_option linter.unusedSimpArgs false
open Go.RowKit Go.Png

def zerosL (n : Nat) : List UInt8 := List.replicate n 0
/-- The bytes of the first parts, and how many rows they have. -/
def bareP (s : Shp) (sm : List Nat) (fl : List UInt8) : Nat → List UInt8 × Nat
  | 0 => ([], 0)
  | k + 1 => ((bareP s sm fl k).1 ++ (bareY s sm fl (prtN s.laced k) (sizeN (prtN s.laced k) s.wide s.high).1 (bareP s sm fl k).2 (zerosL (rowN s (sizeN (prtN s.laced k) s.wide s.high).1)) (sizeN (prtN s.laced k) s.wide s.high).2).1, (bareP s sm fl k).2 + (sizeN (prtN s.laced k) s.wide s.high).2)
def bareL (s : Shp) (sm : List Nat) (fl : List UInt8) : List UInt8 := (bareP s sm fl (passN s.laced)).1

theorem prt_ok (laced : Bool) (k : Nat) (_ : k < passN laced) : (prtN laced k).x ≤ 4 ∧ (prtN laced k).y ≤ 4 ∧ StepOk (prtN laced k).dx ∧ StepOk (prtN laced k).dy :=
  have h := prt_step laced k
  ⟨h.2.2.1, h.2.2.2, h.1, h.2.1⟩
theorem step_le {d : Nat} (h : StepOk d) : 1 ≤ d ∧ d ≤ 8 := by rcases h with rfl | rfl | rfl | rfl <;> decide
theorem size_pix (s : Shp) (sm : List Nat) (p : Prt) (h1 : StepOk p.dx) (h2 : StepOk p.dy) (hl : sm.length = s.wide * s.high * chanN s.colour) :
    ∀ y, y < (sizeN p s.wide s.high).2 → PixOk s sm p y (sizeN p s.wide s.high).1 := by
  intro y hy x hx
  unfold sizeN at hx hy
  split at hx
  · simp at hx
  · rename_i hn
    rw [if_neg hn] at hy
    have e1 := (cnt_lt h1 (x := p.x) (n := s.wide) (j := x)).1 hx
    have e2 := (cnt_lt h2 (x := p.y) (n := s.high) (j := y)).1 hy
    unfold pixAt
    have e3 : (p.y + y * p.dy + 1) * s.wide ≤ s.high * s.wide := Nat.mul_le_mul_right _ (by omega)
    have e4 : (p.y + y * p.dy) * s.wide + p.x + x * p.dx + 1 ≤ s.wide * s.high := by rw [Nat.add_mul, Nat.one_mul] at e3; rw [Nat.mul_comm s.wide]; omega
    have e5 := Nat.mul_le_mul_right (chanN s.colour) e4
    rw [Nat.add_mul, Nat.one_mul] at e5
    omega
theorem size_le (p : Prt) (wide high : Nat) (h1 : StepOk p.dx) (h2 : StepOk p.dy) (hw : wide ≤ 40) (hh : high ≤ 40) : (sizeN p wide high).1 ≤ 40 ∧ (sizeN p wide high).2 ≤ 40 := by
  unfold sizeN
  split
  · exact ⟨Nat.zero_le _, Nat.zero_le _⟩
  · constructor
    · refine Nat.le_of_not_lt fun h => ?_
      have := (cnt_lt h1 (x := p.x) (n := wide) (j := 40)).1 h
      have := step_le h1
      have : 40 * 1 ≤ 40 * p.dx := Nat.mul_le_mul_left _ (by omega)
      omega
    · refine Nat.le_of_not_lt fun h => ?_
      have := (cnt_lt h2 (x := p.y) (n := high) (j := 40)).1 h
      have := step_le h2
      have : 40 * 1 ≤ 40 * p.dy := Nat.mul_le_mul_left _ (by omega)
      omega
theorem bareY_length (s : Shp) (sm : List Nat) (fl : List UInt8) (p : Prt) (wd t0 : Nat) (ab : List UInt8) (hh : Nat) (hd : DepOk s.depth) (hp : ∀ y, y < hh → PixOk s sm p y wd) : ∀ y, y ≤ hh → (bareY s sm fl p wd t0 ab y).1.length = y * (rowN s wd + 1) := by
  intro y
  induction y with
  | zero => intro _; simp [bareY]
  | succ y ih =>
    intro hy
    have hrl : (rowL s.depth (lineP s sm p y wd)).length = rowN s wd := by
      unfold rowL; rw [rowP_length _ hd, lineP_length (hp y (by omega)) wd (Nat.le_refl _)]; rfl
    rw [bareY, List.length_append, List.length_append, ih (by omega), filtL, filtP_length, hrl, Nat.add_mul]
    simp; omega
theorem rowN_le (s : Shp) (wd : Nat) (hw : wd ≤ 40) (hd : DepOk s.depth) : rowN s wd ≤ 400 := by
  have hd16 : s.depth ≤ 16 := by rcases hd with h | h | h | h | h <;> omega
  have h1 : wd * chanN s.colour ≤ 40 * 4 := Nat.mul_le_mul hw (chan_le _).2
  have : wd * chanN s.colour * s.depth ≤ 160 * 16 := Nat.mul_le_mul h1 hd16
  unfold rowN; omega
theorem bareP_bd (s : Shp) (sm : List Nat) (fl : List UInt8) (hd : DepOk s.depth) (hw : s.wide ≤ 40) (hh : s.high ≤ 40) (hl : sm.length = s.wide * s.high * chanN s.colour) : ∀ k, k ≤ passN s.laced → (bareP s sm fl k).1.length ≤ k * 16040 ∧ (bareP s sm fl k).2 ≤ k * 40 := by
  intro k
  induction k with
  | zero => intro _; simp [bareP]
  | succ k ih =>
    intro hk
    have h0 := ih (by omega)
    obtain ⟨_, _, s1, s2⟩ := prt_ok s.laced k (by omega)
    have hz := size_le (prtN s.laced k) s.wide s.high s1 s2 hw hh
    have hy := bareY_length s sm fl (prtN s.laced k) (sizeN (prtN s.laced k) s.wide s.high).1 (bareP s sm fl k).2 (zerosL (rowN s (sizeN (prtN s.laced k) s.wide s.high).1)) _ hd (size_pix s sm _ s1 s2 hl) _ (Nat.le_refl _)
    have hr := rowN_le s (sizeN (prtN s.laced k) s.wide s.high).1 hz.1 hd
    have hm : (sizeN (prtN s.laced k) s.wide s.high).2 * (rowN s (sizeN (prtN s.laced k) s.wide s.high).1 + 1) ≤ 40 * 401 := Nat.mul_le_mul hz.2 (by omega)
    rw [bareP]
    simp only [List.length_append]
    rw [hy]
    omega

theorem made_zeros (n : Nat) : (madeCells #[.int .u8 0] (n * 1)).toList = bytesV (zerosL n) := by
  rw [Nat.mul_one, toList_madeCells_one]
  simp [zerosL, bytesV]
theorem mk_zeros (w : World) (n : Nat) (hn : n ≤ 1000000) : ∃ w', (Instr.makeSlice 24 (.int .i64 (n : Int)) (.int .i64 (n : Int))).run Tryz.prog w = .ok (.slice (some ⟨w.heap.size, 0, none⟩) n n) w' ∧
    Own8 w' w.heap.size w.heap.size n (zerosL n) ∧ Mod (fun _ => False) w w' := by
  obtain ⟨i, z, hi, hz, hs, hb, hzs⟩ := el8.info
  obtain ⟨w', h1, h2, h3⟩ := run_makeSlice_full (P := Tryz.prog) (w := w) w.heap.size 24 5 i z 1 el8.ht hi hz hs .i64 .i64 n (by omega) (by rw [hb]; omega) (by unfold maxLen; omega) (Nat.le_refl _)
  have hz0 : z.cells = #[.int .u8 0] := by
    have : (Tryz.prog.info? 5).map (fun i => i.zero) = some (some (.int .u8 0)) := by kernel_rfl
    rw [hi] at this
    simp only [Option.map_some, Option.some.injEq] at this
    rw [hz] at this
    cases this
    rfl
  rw [hz0, made_zeros] at h2
  refine ⟨w', h1, ?_, ⟨h3.os, h3.tape, h3.output, h3.size, fun k hk _ => h3.block k hk (fun e => by cases e)⟩⟩
  unfold Own8
  rw [show (zerosL n).length = n by simp [zerosL]]
  exact h2
end Go.Proofs.YtnpkgmgedgcjmaaGreatDoor
namespace Go.Proofs.YtnpkgmgedgcjmaaGreatDoor
set_option linter.unusedVariables false
set_option linter.unusedSimpArgs false
open Go.RowKit Go.Png

set_option maxRecDepth 100000 in
set_option maxHeartbeats 1000000 in
theorem bare_parts (w : World) (base : Nat) (s : Shp) (SB : Nat) (sa fa : Option Addr) (sn sc fn fc g0 : Nat) (sm : List Nat) (fl : List UInt8) (hbase : base ≤ w.heap.size) (hown : Own8 w base g0 0 [])
    (hsm : sm.length = sn) (hsc : sn ≤ sc) (hsb : ∀ x ∈ sm, x < 65536) (hfl : fl.length = fn) (hS : ∀ w', Mod (fun k => k = g0) w w' → SlI w' sa sm ∧ ShpAt w' SB s ∧ SlB w' fa fl) (hne : SB ≠ g0) (hln : sm.length = s.wide * s.high * chanN s.colour)
    (hwide : s.wide ≤ 40) (hhigh : s.high ≤ 40) (hc : ColOk s.colour) (hd : DepOk s.depth) (hfn : fn ≤ 4294967296)
    (u0 u4 u5 u6 u10 u11 u12 u13 u14 u15 u16 u17 u18 u19 u20 u21 u22 u23 u24 u25 u26 u29 u30 u31 u32 u33 u34 u35 u36 u37 u38 u39 u40 u41 u42 u43 u44 u45 u46 u47 u48 u49 u50 u51 u52 u53 u54 u55 u56 u57 u58 u59 u60 u61 u62 u63 u64 u65 u66 u67 u68 u69 u70 u71 u72 u73 u74 u75 u76 u77 u78 u79 u80 u81 u82 u83 u84 u85 u86 u87 u88 u89 u90 u91 u92 u93 u94 u95 u96 u97 u98 u99 u100 u101 u102 u103 u104 u105 u106 u107 u108 u109 u110 u111 u112 u113 u114 u115 u116 u117 u118 u119 : Value) (Q : Exit → Act → World → Prop)
    (hQ : ∀ w' g c (v9 v10 v11 v12 v13 v14 v15 v16 v17 v18 v19 v20 v29 v30 v31 v32 v33 v34 v35 v36 v37 v38 v39 v40 v41 v42 v43 v44 v45 v46 v47 v48 v49 v50 v51 v52 v53 v54 v55 v56 v57 v58 v59 v60 v61 v62 v63 v64 v65 v66 v67 v68 v69 v70 v71 v72 v73 v74 v75 v76 v77 v78 v79 v80 v81 v82 v83 v84 v85 v86 v87 v88 v89 v90 v91 v92 v93 v94 v95 v96 v97 v98 v99 v100 v101 v102 v103 v104 v105 v106 v107 v108 v109 v110 v111 v112 v113 v114 v115 v116 v117 v118 : Value), Own8 w' base g c (bareL s sm fl) → Mod (fun k => k = g0) w w' →
       Q .normal ⟨#[u0, .slice sa sn sc, .slice fa fn fc, .pointer (some ⟨SB, 0, none⟩), u4, u5, u6, .slice (some ⟨g, 0, none⟩) (bareL s sm fl).length c, .int .i64 (chanN s.colour : Nat), v9, v10, v11, v12, v13, v14, v15, v16, v17, v18, v19, v20, u21, u22, u23, u24, u25, u26, .int .i64 (passN s.laced : Nat), .int .i64 (passN s.laced : Nat), v29, v30, v31, v32, v33, v34, v35, v36, v37, v38, v39, v40, v41, v42, v43, v44, v45, v46, v47, v48, v49, v50, v51, v52, v53, v54, v55, v56, v57, v58, v59, v60, v61, v62, v63, v64, v65, v66, v67, v68, v69, v70, v71, v72, v73, v74, v75, v76, v77, v78, v79, v80, v81, v82, v83, v84, v85, v86, v87, v88, v89, v90, v91, v92, v93, v94, v95, v96, v97, v98, v99, v100, v101, v102, v103, v104, v105, v106, v107, v108, v109, v110, v111, v112, v113, v114, v115, v116, v117, v118, u119], []⟩ w') :
    Code.wp Tryz.prog (navc [1, 1, 1, 1, 0, 1] (textOf Tryz.f56)) Q
      ⟨#[u0, .slice sa sn sc, .slice fa fn fc, .pointer (some ⟨SB, 0, none⟩), u4, u5, u6, .slice (some ⟨g0, 0, none⟩) 0 0, .int .i64 (chanN s.colour : Nat), .int .i64 0, u10, u11, u12, u13, u14, u15, u16, u17, u18, u19, u20, u21, u22, u23, u24, u25, u26, .int .i64 (passN s.laced : Nat), .int .i64 0, u29, u30, u31, u32, u33, u34, u35, u36, u37, u38, u39, u40, u41, u42, u43, u44, u45, u46, u47, u48, u49, u50, u51, u52, u53, u54, u55, u56, u57, u58, u59, u60, u61, u62, u63, u64, u65, u66, u67, u68, u69, u70, u71, u72, u73, u74, u75, u76, u77, u78, u79, u80, u81, u82, u83, u84, u85, u86, u87, u88, u89, u90, u91, u92, u93, u94, u95, u96, u97, u98, u99, u100, u101, u102, u103, u104, u105, u106, u107, u108, u109, u110, u111, u112, u113, u114, u115, u116, u117, u118, u119], []⟩ w := by
  conv => arg 2; whnf
  dsimp only
  have HQ := Lib.hid hQ; have HS := Lib.hid hS; have HSM := Lib.hid hsm; have HOWN := Lib.hid hown; have HSB := Lib.hid hsb; have HFL := Lib.hid hfl; have HC := Lib.hid hc; have HD := Lib.hid hd; have HLN := Lib.hid hln
  clear hQ hS hsm hown hsb hfl hc hd hln
  have hcb := chan_le s.colour
  have hpn : passN s.laced ≤ 7 := by unfold passN; split <;> decide
  go_wp2
  go_loopg [7, 9, 10, 11, 12, 13, 14, 15, 16, 17, 18, 19, 20, 28] (passN s.laced - 0) (fun k v7 v9 _ _ _ _ _ _ _ _ _ _ _ v28 wr => ∃ j g c : Nat, j ≤ passN s.laced ∧ k = passN s.laced - j ∧ v28 = .int .i64 j ∧ v9 = .int .i64 ((bareP s sm fl j).2 : Nat) ∧ v7 = .slice (some ⟨g, 0, none⟩) (bareP s sm fl j).1.length c ∧ Own8 wr base g c (bareP s sm fl j).1 ∧ Mod (fun k => k = g0) w wr ∧ (g = g0 ∨ w.heap.size ≤ g))
  case atStart => exact ⟨0, g0, 0, by omega, rfl, rfl, rfl, rfl, HOWN.out, Mod.refl _ _, Or.inl rfl⟩
  case round =>
    obtain ⟨j, g, c, hj, hk, rfl, rfl, rfl, own, mm, hg⟩ := hrel
    have HK := Lib.hid hk; have OWN := Lib.hid own; have MM := Lib.hid mm
    clear hk own mm
    by_cases hlt : j < passN s.laced
    · obtain ⟨p1, p2, p3, p4⟩ := prt_ok s.laced j hlt
      have hsh := (HS.out wr MM.out).2.1
      have d4 := hsh.laced
      have hpart := specPartOf wr s.laced j hlt
      have HPART := Lib.hid hpart; have HSH := Lib.hid hsh
      clear hpart hsh
      go_wp2_with (fail)
      refine HPART.out.mono ?_
      rintro e w2 ⟨rfl, m2⟩
      have M2 := Lib.hid m2
      clear m2 HPART
      have hz := size_le (prtN s.laced j) s.wide s.high p3 p4 hwide hhigh
      have hsh2 := HSH.out.mod M2.out id
      generalize hp : prtN s.laced j = p at *
      have hd3 := step_le p3; have hd4 := step_le p4
      unfold Prt.val
      go_upto_region 8 with fail
      have hpa : PrtAt (w2.alloc (.cells #[.int .i64 p.x, .int .i64 p.y, .int .i64 p.dx, .int .i64 p.dy] 151)) w2.heap.size p := ⟨by rw [World.cell?_alloc_new]; rfl, by rw [World.cell?_alloc_new]; rfl, by rw [World.cell?_alloc_new]; rfl, by rw [World.cell?_alloc_new]; rfl⟩
      have mB : Mod (fun _ => False) wr (w2.alloc (.cells #[.int .i64 p.x, .int .i64 p.y, .int .i64 p.dx, .int .i64 p.dy] 151)) := M2.out.alloc _
      have hPB : wr.heap.size ≤ w2.heap.size := M2.out.size
      have hsh3 := hsh2.mod ((Mod.refl (fun _ => False) w2).alloc (.cells #[.int .i64 p.x, .int .i64 p.y, .int .i64 p.dx, .int .i64 p.dy] 151)) id
      have MB := Lib.hid mB; have PA := Lib.hid hpa; have SH := Lib.hid hsh3
      clear mB hsh2 M2 HSH d4
      generalize w2.alloc (.cells #[.int .i64 p.x, .int .i64 p.y, .int .i64 p.dx, .int .i64 p.dy] 151) = wB at *
      generalize w2.heap.size = PB at *
      have d0 := hsh3.wide; have d1 := hsh3.high; have d2 := hsh3.depth; have d3 := hsh3.colour; have d4 := hsh3.laced
      have q0 := hpa.x; have q1 := hpa.y; have q2 := hpa.dx; have q3 := hpa.dy
      clear hsh3 hpa
      have hsz := specSize wB p s.wide s.high p3 p4 p1 p2 (by omega) (by omega)
      have HSZ := Lib.hid hsz
      clear hsz
      go_wp2_with (fail)
      refine HSZ.out.mono ?_
      rintro e w3 ⟨rfl, m3⟩
      have hz' := hz
      have hpixz := size_pix s sm p p3 p4 HLN.out
      have hbp1 : bareP s sm fl (j + 1) = ((bareP s sm fl j).1 ++ (bareY s sm fl p (sizeN p s.wide s.high).1 (bareP s sm fl j).2 (zerosL (rowN s (sizeN p s.wide s.high).1)) (sizeN p s.wide s.high).2).1, (bareP s sm fl j).2 + (sizeN p s.wide s.high).2) := by rw [bareP, hp]
      have hbb := bareP_bd s sm fl HD.out hwide hhigh HLN.out j (by omega)
      have hy9 := bareY_length s sm fl p (sizeN p s.wide s.high).1 (bareP s sm fl j).2 (zerosL (rowN s (sizeN p s.wide s.high).1)) _ HD.out hpixz _ (Nat.le_refl _)
      have HPZ := Lib.hid hpixz; have HBP := Lib.hid hbp1; have HY9 := Lib.hid hy9
      have hsh3 := SH.out.mod m3 id
      have MB3 := Lib.hid (MB.out.trans m3); have SH3 := Lib.hid hsh3; have PA3 := Lib.hid (PA.out.mod m3 id)
      clear hz' hpixz hbp1 hy9 m3 MB SH PA d0 d1 d2 d3 d4 q0 q1 q2 q3 HSZ
      generalize sizeN p s.wide s.high = z at *
      obtain ⟨wd, hh⟩ := z
      dsimp only at hz
      have d0 := hsh3.wide; have d1 := hsh3.high; have d2 := hsh3.depth; have d3 := hsh3.colour; have d4 := hsh3.laced
      have hd16 : s.depth ≤ 16 := by rcases HD.out with h | h | h | h | h <;> omega
      have hrb := specRowBytes w3 s wd HC.out hd16 (by omega)
      have hrn := rowN_le s wd hz.1 HD.out
      have HRB := Lib.hid hrb
      clear hrb hsh3
      unfold Shp.val at HRB
      dsimp only
      go_wp2_with (fail)
      refine HRB.out.mono ?_
      rintro e w4 ⟨rfl, m4⟩
      have MB4 := Lib.hid (MB3.out.trans m4); have SH4 := Lib.hid (SH3.out.mod m4 id); have PA4 := Lib.hid (PA3.out.mod m4 id)
      clear m4 MB3 SH3 PA3 d0 d1 d2 d3 d4 HRB
      obtain ⟨w5, hmk, own5, m5⟩ := mk_zeros w4 (rowN s wd) (by omega)
      have MB5 := Lib.hid (MB4.out.trans m5); have SH5 := Lib.hid (SH4.out.mod m5 id); have PA5 := Lib.hid (PA4.out.mod m5 id); have O5 := Lib.hid own5
      have hs45 := m5.size
      have hs4 := MB4.out.size
      clear m5 own5 MB4 SH4 PA4
      go_upto_block 2 with fail
      have hgw := OWN.out.base
      have hPB2 := lt_of_cell PA5.out.x
      have hwz := MM.out.size
      have hmz : Mod (fun k => k = g) wr w5 := MB5.out.mono (fun _ _ h => h.elim)
      refine bare_rows w5 base s p SB PB sa fa (some ⟨w4.heap.size, 0, none⟩) sn sc fn fc c g (rowN s wd) (bareP s sm fl j).1.length sm fl (bareP s sm fl j).1 (zerosL (rowN s wd)) wd hh (bareP s sm fl j).2 (by have := MB5.out.size; omega) (OWN.out.mod MB5.out id) rfl HSM.out hsc HSB.out HFL.out (fun w' m => ?_) (by have := lt_of_cell (HS.out w (Mod.refl _ w)).2.1.wide; omega) HPZ.out (by simp [zerosL]) hwide hz.2 hz.1 p1 p2 hd3.2 hd4.2 HC.out HD.out (by omega) (by omega) hfn _ _ _ _ _ _ _ _ _ _ _ _ _ _ _ _ _ _ _ _ _ _ _ _ _ _ _ _ _ _ _ _ _ _ _ _ _ _ _ _ _ _ _ _ _ _ _ _ _ _ _ _ _ _ _ _ _ _ _ _ _ _ _ _ _ _ _ _ _ _ _ _ _ _ _ _ _ _ _ _ _ _ _ _ _ _ _ _ _ _ _ _ _ _ _ _ _ _ _ _ _ _ _ _ _ _ _ _ _ _ ?_
      · have h := HS.out w' ((MM.out.trans (MB5.out.mono (fun _ _ h => h.elim))).then m (fun k hk h => by omega))
        exact ⟨h.1, h.2.1, PA5.out.mod m (by omega), h.2.2, (O5.out.mod m (by omega)).slb⟩
      · intro w6 g6 c6 aa6 cab6 _ _ _ _ _ _ _ _ _ _ _ _ _ _ _ _ _ _ _ _ _ _ _ _ _ _ _ _ _ _ _ _ _ _ _ _ _ _ _ _ _ _ _ _ _ _ _ _ _ _ _ _ _ _ _ _ _ _ _ _ _ _ _ _ _ _ _ _ _ _ _ _ _ _ own6 m6 hg6
        have m06 : Mod (fun k => k = g0) w w6 := (MM.out.trans (MB5.out.mono (fun _ _ h => h.elim))).then m6 (fun k hk h => by omega)
        have hb1 : (bareP s sm fl (j + 1)).1 = (bareP s sm fl j).1 ++ (bareY s sm fl p wd (bareP s sm fl j).2 (zerosL (rowN s wd)) hh).1 := by rw [HBP.out]
        have hb2 : (bareP s sm fl (j + 1)).2 = (bareP s sm fl j).2 + hh := by rw [HBP.out]
        have hb3 : (bareP s sm fl (j + 1)).1.length = (bareP s sm fl j).1.length + hh * (rowN s wd + 1) := by rw [hb1, List.length_append, HY9.out]
        rw [← hb1] at own6
        rw [← hb2, ← hb3]
        have hg7 : g6 = g0 ∨ w.heap.size ≤ g6 := by have := MB5.out.size; omega
        have O6 := Lib.hid own6; have M06 := Lib.hid m06
        clear own6 m06 m6 hb1 hb2 hb3 hg6
        go_wp2
        go_roundg (passN s.laced - (j + 1))
        case measure => have := HK.out; omega
        case rel => exact ⟨j + 1, g6, c6, by omega, rfl, by go_num, rfl, rfl, O6.out, M06.out, hg7⟩
    · obtain rfl : j = passN s.laced := by omega
      go_wp2
      exact HQ.out _ g c _ _ _ _ _ _ _ _ _ _ _ _ _ _ _ _ _ _ _ _ _ _ _ _ _ _ _ _ _ _ _ _ _ _ _ _ _ _ _ _ _ _ _ _ _ _ _ _ _ _ _ _ _ _ _ _ _ _ _ _ _ _ _ _ _ _ _ _ _ _ _ _ _ _ _ _ _ _ _ _ _ _ _ _ _ _ _ _ _ _ _ _ _ _ _ _ _ _ _ _ _ _ OWN.out MM.out
end Go.Proofs.YtnpkgmgedgcjmaaGreatDoor
