/- The reference's rows of an image, bare: a row under its filter, put behind the others. The reference's rows of an image, bare: the rows of a part. No conditions but those in each theorem's own binders. -/
import Derived.Test.YtnpkgmgedgcjmaaGreatDoorCE29
import Derived.Deep.RegionHeld3
namespace Go.Proofs.YtnpkgmgedgcjmaaGreatDoor
set_option linter.unusedVariables false
set_option linter.unusedSimpArgs false
open Go.RowKit Go.Png

theorem step_app8 {w : World} {ops : Array Oper} {o : Oper} {a : Act} {K : Act → World → Prop} {Q : Exit → Act → World → Prop} {F : Prop} (hgd : o.guard = none) (s x : Operand)
    (ho : o.op = .call { callee := .builtin .append, args := #[s, x], argTypes := #[24, 24] }) (base g0 n c0 : Nat) (l : List UInt8) (hl : l.length = n) (hsv : a.eval s = .slice (some ⟨g0, 0, none⟩) n c0) (hown : Own8 w base g0 c0 l)
    (b off : Nat) (m c : Nat) (l2 : List UInt8) (hl2 : l2.length = m) (hs : Bytes w b off l2) (hxv : a.eval x = .slice (some ⟨b, off, none⟩) m c) (hlim : n + m ≤ 140737488355328) (hbase : base ≤ w.heap.size)
    (h : ∀ g' c' w', Hid (Own8 w' base g' c' (l ++ l2)) → Hid (Mod (fun k => k = g0) w w') → Hid (g' = g0 ∨ g' = w.heap.size) → K (a.put o.dst (.slice (some ⟨g', 0, none⟩) (n + m) c')) w') :
    if Region.wanted o (yielded ops a.tmps) = true then Oper.wp Tryz.prog o a w K Q else F := by
  subst hl
  have hnews : ∀ j u, (bytesV l2)[j]? = some u → w.cell? ((⟨b, off, none⟩ : Addr).add j) = some u := by
    intro j u hu
    have hj : j < l2.length := by simpa using (List.getElem?_eq_some_iff.1 hu).1
    rw [addr_add, hs j hj]
    rw [List.getElem?_eq_getElem (by simpa using hj), bytesV_get l2 j hj] at hu
    exact hu
  refine step_app el8 hgd s x ho base (.slice (some ⟨g0, 0, none⟩) l.length c0) l.length (bytesV l) hsv hown ⟨b, off, none⟩ m c (bytesV l2) hxv (by simp [hl2]) hnews (fun u hu => ?_) (Or.inl (by simp)) (by omega) (by omega) hbase ?_
  · obtain ⟨y, _, rfl⟩ := List.mem_map.1 hu
    rfl
  · intro g c' w' hap
    refine h g c' w' (Lib.hid (hap.out.own8 hl2)) (Lib.hid (hap.out.mod.mono (fun k _ hk => by simp [Value.ownBlock] at hk; omega))) (Lib.hid ?_)
    rcases hap.out.blk with hk | hk
    · simp [Value.ownBlock] at hk; exact Or.inl hk.symm
    · exact Or.inr hk

set_option maxRecDepth 100000 in
set_option maxHeartbeats 1000000 in
theorem bare_put (w : World) (base : Nat) (s : Shp) (SB kd g0 m c0 n c1 c2 : Nat) (aa ba : Option Addr) (ol al bl : List UInt8) (hbase : base ≤ w.heap.size) (hown : Own8 w base g0 c0 ol) (hol : ol.length = m) (hk : kd ≤ 4) (hbl : bl.length = n) (hal : al.length = n)
    (hba : ∀ w', Mod (fun k => k = g0) w w' → SlB w' ba bl ∧ SlB w' aa al) (hsh : ShpAt w SB s) (hne : SB ≠ g0) (hn : n ≤ 1000000) (hm : m ≤ 1000000) (hc : ColOk s.colour) (hd : DepOk s.depth)
    (u0 u1 u2 u4 u5 u6 u8 u9 u10 u11 u12 u13 u15 u16 u17 u18 u21 u22 u23 u24 u25 u26 u27 u28 u29 u30 u31 u32 u33 u34 u35 u36 u37 u38 u39 u40 u41 u42 u43 u44 u45 u46 u47 u48 u49 u50 u51 u52 u53 u54 u55 u56 u57 u58 u59 u60 u61 u62 u63 u64 u65 u66 u67 u68 u69 u70 u71 u72 u73 u74 u75 u76 u77 u78 u79 u80 u81 u82 u83 u84 u85 u86 u87 u88 u89 u90 u91 u92 u93 u94 u95 u96 u97 u98 u99 u100 u101 u102 u103 u104 u105 u106 u107 u108 u109 u110 u111 u112 u113 u114 u115 u116 u117 u118 u119 : Value) (Q : Exit → Act → World → Prop)
    (hQ : ∀ w' g c (v104 v105 v106 v107 v108 v109 v110 v111 v112 v113 v114 v115 v116 : Value), Own8 w' base g c (ol ++ [UInt8.ofNat kd] ++ filtL kd bl al (stepN s)) → Mod (fun k => k = g0) w w' → (g = g0 ∨ w.heap.size ≤ g) →
       Q .normal ⟨#[u0, u1, u2, .pointer (some ⟨SB, 0, none⟩), u4, u5, u6, .slice (some ⟨g, 0, none⟩) (m + 1 + n) c, u8, u9, u10, u11, u12, u13, .slice ba n c2, u15, u16, u17, u18, .int .i64 kd, .slice ba n c2, u21, u22, u23, u24, u25, u26, u27, u28, u29, u30, u31, u32, u33, u34, u35, u36, u37, u38, u39, u40, u41, u42, u43, u44, u45, u46, u47, u48, u49, u50, u51, u52, u53, u54, u55, u56, u57, u58, u59, u60, u61, u62, u63, u64, u65, u66, u67, u68, u69, u70, u71, u72, u73, u74, u75, u76, u77, u78, u79, u80, u81, u82, u83, u84, u85, u86, u87, u88, u89, u90, u91, u92, u93, u94, u95, u96, u97, u98, u99, u100, u101, u102, u103, v104, v105, v106, v107, v108, v109, v110, v111, v112, v113, v114, v115, v116, u117, u118, u119], []⟩ w') :
    Code.wp Tryz.prog (navc [1, 1, 1, 1, 0, 1, 0, 0, 1, 1, 0, 0, 1, 1, 1, 1, 1, 0, 0, 1, 1, 0, 0, 1, 1, 1, 1, 1, 1, 1] (textOf Tryz.f56)) Q
      ⟨#[u0, u1, u2, .pointer (some ⟨SB, 0, none⟩), u4, u5, u6, .slice (some ⟨g0, 0, none⟩) m c0, u8, u9, u10, u11, u12, u13, .slice aa n c1, u15, u16, u17, u18, .int .i64 kd, .slice ba n c2, u21, u22, u23, u24, u25, u26, u27, u28, u29, u30, u31, u32, u33, u34, u35, u36, u37, u38, u39, u40, u41, u42, u43, u44, u45, u46, u47, u48, u49, u50, u51, u52, u53, u54, u55, u56, u57, u58, u59, u60, u61, u62, u63, u64, u65, u66, u67, u68, u69, u70, u71, u72, u73, u74, u75, u76, u77, u78, u79, u80, u81, u82, u83, u84, u85, u86, u87, u88, u89, u90, u91, u92, u93, u94, u95, u96, u97, u98, u99, u100, u101, u102, u103, u104, u105, u106, u107, u108, u109, u110, u111, u112, u113, u114, u115, u116, u117, u118, u119], []⟩ w := by
  conv => arg 2; whnf
  dsimp only
  have d0 := hsh.wide; have d1 := hsh.high; have d2 := hsh.depth; have d3 := hsh.colour; have d4 := hsh.laced
  have HQ := Lib.hid hQ; have HOWN := Lib.hid hown; have HOL := Lib.hid hol; have HBL := Lib.hid hbl; have HAL := Lib.hid hal; have HBA := Lib.hid hba; have HSH := Lib.hid hsh; have HC := Lib.hid hc; have HD := Lib.hid hd
  clear hQ hown hol hbl hal hba hsh hc hd
  have hkw : IntKind.u8.wrap (kd : Int) = ((UInt8.ofNat kd).toNat : Nat) := by
    rw [UInt8.toNat_ofNat', Nat.mod_eq_of_lt (by omega)]
    exact IntWalk.u8_in _ (by omega)
  have hown1 : Own8 (w.alloc (.cells #[.int .u8 (IntKind.u8.wrap (kd : Int))] 5)).drew base g0 c0 ol := HOWN.out.mod (((Mod.refl (fun _ => False) w).alloc _).drew) id
  have hby1 : Bytes (w.alloc (.cells #[.int .u8 (IntKind.u8.wrap (kd : Int))] 5)).drew w.heap.size 0 [UInt8.ofNat kd] := by
    intro i hi
    obtain rfl : i = 0 := by simpa using hi
    show (w.alloc (.cells #[.int .u8 (IntKind.u8.wrap (kd : Int))] 5)).cell? ⟨w.heap.size, 0 + 0, none⟩ = _
    rw [World.cell?_alloc_new, hkw]; rfl
  have hsh1 : ShpAt (w.alloc (.cells #[.int .u8 (IntKind.u8.wrap (kd : Int))] 5)).drew SB s := HSH.out.mod (((Mod.refl (fun _ => False) w).alloc _).drew) id
  have hsz1 : base ≤ (w.alloc (.cells #[.int .u8 (IntKind.u8.wrap (kd : Int))] 5)).drew.heap.size := by simp; omega
  have hd16 : s.depth ≤ 16 := by rcases HD.out with h | h | h | h | h <;> omega
  have hst1 : 1 ≤ stepN s := Nat.le_max_left ..
  have hst2 : stepN s ≤ 1000 := by
    have := chan_le s.colour
    have : chanN s.colour * s.depth ≤ 4 * 16 := Nat.mul_le_mul this.2 hd16
    unfold stepN; omega
  have M1 := Lib.hid (show Mod (fun k => k = g0) w (w.alloc (.cells #[.int .u8 (IntKind.u8.wrap (kd : Int))] 5)).drew from ((Mod.refl _ w).alloc _).drew)
  have LTB := Lib.hid (lt_of_cell d0)
  have O1 := Lib.hid hown1; have B1 := Lib.hid hby1; have SH1 := Lib.hid hsh1; have SZ1 := Lib.hid hsz1
  clear hkw hown1 hby1 hsh1 hsz1
  go_wp2
  go_region_held3 (fun wz => wz.cell? ⟨SB, 0, none⟩ = some (.int .i64 s.wide) ∧ wz.cell? ⟨SB, 1, none⟩ = some (.int .i64 s.high) ∧ wz.cell? ⟨SB, 2, none⟩ = some (.int .i64 s.depth) ∧ wz.cell? ⟨SB, 3, none⟩ = some (.int .i64 s.colour) ∧ wz.cell? ⟨SB, 4, none⟩ = some (.bool s.laced))
    (go_keep)
    ((first
      | (go_at_call 78; refine (specStep _ s HC.out hd16).mono ?_; rintro e w3 ⟨rfl, m3⟩; have hshN := SH2.out.mod (show Mod (fun _ => False) w2 w3 from m3) id; have SH3 := Lib.hid hshN; have M3 := Lib.hid (show Mod (fun _ => False) w2 w3 from m3); have k0 := hshN.wide; have k1 := hshN.high; have k2 := hshN.depth; have k3 := hshN.colour; have k4 := hshN.laced; clear hshN; clear m3; go_simp)
      | (go_at_call 77; refine (specFiltered _ kd ba aa n c2 c1 bl al (stepN s) hk HBL.out HAL.out (HBA.out _ (M2.out.trans (M3.out.mono (fun _ _ h => h.elim)))).1 (HBA.out _ (M2.out.trans (M3.out.mono (fun _ _ h => h.elim)))).2 hst1 hn hst2).mono ?_; rintro e w4 ⟨g4, c4, rfl, own4, m4⟩; have hshN := SH3.out.mod (show Mod (fun _ => False) w3 w4 from m4) id; have M4 := Lib.hid (show Mod (fun _ => False) w3 w4 from m4); have O4 := Lib.hid own4; have hw24 := (M3.out.trans M4.out).size; have O24 := Lib.hid (hown2.out.mod (M3.out.trans M4.out) id); have SH4 := Lib.hid hshN; have k0 := hshN.wide; have k1 := hshN.high; have k2 := hshN.depth; have k3 := hshN.colour; have k4 := hshN.laced; clear hshN; clear own4 m4; go_simp)
      | (refine step_app8 rfl _ _ rfl base g0 m c0 ol HOL.out rfl O1.out w.heap.size 0 1 1 [UInt8.ofNat kd] rfl B1.out rfl (by omega) SZ1.out ?_; intro g2 cc2 w2 hown2 hm2 hg2; have hshN := SH1.out.mod hm2.out hne; have SH2 := Lib.hid hshN; have M2 := Lib.hid (M1.out.trans hm2.out); have k0 := hshN.wide; have k1 := hshN.high; have k2 := hshN.depth; have k3 := hshN.colour; have k4 := hshN.laced; clear hshN; go_simp)
      | (refine step_app8 rfl _ _ rfl base g2 (m + 1) cc2 (ol ++ [UInt8.ofNat kd]) (by have := HOL.out; simp; omega) rfl O24.out g4 0 n c4 (filtL kd bl al (stepN s)) (by rw [filtL, filtP_length]; exact HBL.out) O4.out.bytes rfl (by omega) (by have := M2.out.size; omega) ?_; intro g5 c5 w5 hown5 hm5 hg5; have hshN := SH4.out.mod hm5.out (by have hlt := LTB.out; rcases hg2.out with h | h; omega; (simp at h; omega)); have k0 := hshN.wide; have k1 := hshN.high; have k2 := hshN.depth; have k3 := hshN.colour; have k4 := hshN.laced; clear hshN; go_simp)))
  go_wp2
  have hs2 : w.heap.size ≤ w2.heap.size := M2.out.size
  have hs4 : w2.heap.size ≤ w4.heap.size := (M3.out.trans M4.out).size
  have h5 : g5 = g2 ∨ g5 = w4.heap.size := hg5.out
  have h2 : g2 = g0 ∨ w.heap.size ≤ g2 := by
    rcases hg2.out with h | h
    · exact Or.inl h
    · simp at h; omega
  refine HQ.out w5 g5 c5 _ _ _ _ _ _ _ _ _ _ _ _ _ hown5.out ?_ ?_
  · exact (M2.out.trans ((M3.out.trans M4.out).mono (fun _ _ h => h.elim))).then (show Mod (fun k => k = g2) w4 w5 from hm5.out) (fun i hi hk => by omega)
  · omega
end Go.Proofs.YtnpkgmgedgcjmaaGreatDoor
namespace Go.Proofs.YtnpkgmgedgcjmaaGreatDoor
set_option linter.unusedVariables false
set_option linter.unusedSimpArgs false
open Go.RowKit Go.Png

/-- The filter of a row: its number in the turn. -/
def kindF (fl : List UInt8) (t : Nat) : Nat := if fl.length = 0 then 0 else (at_ fl (t % fl.length)).toNat % 5
theorem kindF_lt (fl : List UInt8) (t : Nat) : kindF fl t ≤ 4 := by unfold kindF; split <;> omega
/-- The first rows of a part under their filters, and the last of them bare. -/
def bareY (s : Shp) (sm : List Nat) (fl : List UInt8) (p : Prt) (wd t0 : Nat) (ab : List UInt8) : Nat → List UInt8 × List UInt8
  | 0 => ([], ab)
  | y + 1 => ((bareY s sm fl p wd t0 ab y).1 ++ [UInt8.ofNat (kindF fl (t0 + y))] ++ filtL (kindF fl (t0 + y)) (rowL s.depth (lineP s sm p y wd)) (bareY s sm fl p wd t0 ab y).2 (stepN s), rowL s.depth (lineP s sm p y wd))

theorem ints_sl {w : World} {base g n c : Nat} {l : List Nat} (h : w.ownsRow base 3 1 (.slice (some ⟨g, 0, none⟩) n c) n (intsV l)) (hl : l.length = n) : SlI w (some ⟨g, 0, none⟩) l := by
  refine Or.inr ⟨g, 0, rfl, fun i hi => ?_⟩
  have := World.ownsRow.cellAt h i (by omega)
  rw [Nat.zero_add, this]
  unfold intsV
  rw [List.getElem?_map, List.getElem?_eq_getElem hi, List.getD_eq_getElem?_getD, List.getElem?_eq_getElem hi]
  rfl

set_option maxRecDepth 100000 in
set_option maxHeartbeats 1000000 in
theorem bare_rows (w : World) (base : Nat) (s : Shp) (p : Prt) (SB PB : Nat) (sa fa aa : Option Addr) (sn sc fn fc c0 g0 cab m0 : Nat) (sm : List Nat) (fl ol ab : List UInt8) (wd hh t0 : Nat) (hbase : base ≤ w.heap.size) (hown : Own8 w base g0 c0 ol) (hol : ol.length = m0)
    (hsm : sm.length = sn) (hsc : sn ≤ sc) (hsb : ∀ x ∈ sm, x < 65536) (hfl : fl.length = fn) (hS : ∀ w', Mod (fun k => k = g0) w w' → SlI w' sa sm ∧ ShpAt w' SB s ∧ PrtAt w' PB p ∧ SlB w' fa fl ∧ SlB w' aa ab) (hne : SB ≠ g0) (hpix : ∀ y, y < hh → PixOk s sm p y wd) (hab : ab.length = rowN s wd)
    (hwide : s.wide ≤ 40) (hhh : hh ≤ 40) (hwd : wd ≤ 40) (hpx : p.x ≤ 4) (hpy : p.y ≤ 4) (hdx : p.dx ≤ 8) (hdy : p.dy ≤ 8) (hc : ColOk s.colour) (hd : DepOk s.depth) (ht : t0 ≤ 10000) (hm : m0 ≤ 500000) (hfn : fn ≤ 4294967296)
    (u0 u4 u5 u6 u10 u13 u15 u16 u17 u18 u19 u20 u21 u22 u23 u24 u25 u26 u27 u28 u29 u30 u31 u32 u33 u34 u35 u36 u37 u38 u39 u40 u41 u42 u43 u44 u45 u46 u47 u50 u51 u52 u53 u54 u55 u56 u57 u58 u59 u60 u61 u62 u63 u64 u65 u66 u67 u68 u69 u70 u71 u72 u73 u74 u75 u76 u77 u78 u79 u80 u81 u82 u83 u84 u85 u86 u87 u88 u89 u90 u91 u92 u93 u94 u95 u96 u97 u98 u99 u100 u101 u102 u103 u104 u105 u106 u107 u108 u109 u110 u111 u112 u113 u114 u115 u116 u117 u118 u119 : Value) (Q : Exit → Act → World → Prop)
    (hQ : ∀ w' g c aa' cab' (v15 v16 v17 v18 v19 v20 v50 v51 v52 v53 v54 v55 v56 v57 v58 v59 v60 v61 v62 v63 v64 v65 v66 v67 v68 v69 v70 v71 v72 v73 v74 v75 v76 v77 v78 v79 v80 v81 v82 v83 v84 v85 v86 v87 v88 v89 v90 v91 v92 v93 v94 v95 v96 v97 v98 v99 v100 v101 v102 v103 v104 v105 v106 v107 v108 v109 v110 v111 v112 v113 v114 v115 v116 v117 : Value), Own8 w' base g c (ol ++ (bareY s sm fl p wd t0 ab hh).1) → Mod (fun k => k = g0) w w' → (g = g0 ∨ w.heap.size ≤ g) →
       Q .normal ⟨#[u0, .slice sa sn sc, .slice fa fn fc, .pointer (some ⟨SB, 0, none⟩), u4, u5, u6, .slice (some ⟨g, 0, none⟩) (m0 + hh * (rowN s wd + 1)) c, .int .i64 (chanN s.colour : Nat), .int .i64 (t0 + hh : Nat), u10, .pointer (some ⟨PB, 0, none⟩), .int .i64 wd, u13, .slice aa' (rowN s wd) cab', v15, v16, v17, v18, v19, v20, u21, u22, u23, u24, u25, u26, u27, u28, u29, u30, u31, u32, u33, u34, u35, u36, u37, u38, u39, u40, u41, u42, u43, u44, u45, u46, u47, .int .i64 hh, .int .i64 hh, v50, v51, v52, v53, v54, v55, v56, v57, v58, v59, v60, v61, v62, v63, v64, v65, v66, v67, v68, v69, v70, v71, v72, v73, v74, v75, v76, v77, v78, v79, v80, v81, v82, v83, v84, v85, v86, v87, v88, v89, v90, v91, v92, v93, v94, v95, v96, v97, v98, v99, v100, v101, v102, v103, v104, v105, v106, v107, v108, v109, v110, v111, v112, v113, v114, v115, v116, v117, u118, u119], []⟩ w') :
    Code.wp Tryz.prog (navc [1, 1, 1, 1, 0, 1, 0, 0, 1, 1, 0, 0, 1, 1, 1, 1, 1] (textOf Tryz.f56)) Q
      ⟨#[u0, .slice sa sn sc, .slice fa fn fc, .pointer (some ⟨SB, 0, none⟩), u4, u5, u6, .slice (some ⟨g0, 0, none⟩) m0 c0, .int .i64 (chanN s.colour : Nat), .int .i64 t0, u10, .pointer (some ⟨PB, 0, none⟩), .int .i64 wd, u13, .slice aa (rowN s wd) cab, u15, u16, u17, u18, u19, u20, u21, u22, u23, u24, u25, u26, u27, u28, u29, u30, u31, u32, u33, u34, u35, u36, u37, u38, u39, u40, u41, u42, u43, u44, u45, u46, u47, .int .i64 hh, .int .i64 0, u50, u51, u52, u53, u54, u55, u56, u57, u58, u59, u60, u61, u62, u63, u64, u65, u66, u67, u68, u69, u70, u71, u72, u73, u74, u75, u76, u77, u78, u79, u80, u81, u82, u83, u84, u85, u86, u87, u88, u89, u90, u91, u92, u93, u94, u95, u96, u97, u98, u99, u100, u101, u102, u103, u104, u105, u106, u107, u108, u109, u110, u111, u112, u113, u114, u115, u116, u117, u118, u119], []⟩ w := by
  conv => arg 2; whnf
  dsimp only
  have HQ := Lib.hid hQ; have HS := Lib.hid hS; have HSM := Lib.hid hsm; have HPX := Lib.hid hpix; have HOWN := Lib.hid hown; have HOL := Lib.hid hol; have HSB := Lib.hid hsb; have HFL := Lib.hid hfl; have HAB := Lib.hid hab; have HC := Lib.hid hc; have HD := Lib.hid hd
  clear hQ hS hsm hpix hown hol hsb hfl hab hc hd
  have hcb := chan_le s.colour
  go_wp2
  go_loopg [7, 9, 14, 15, 16, 17, 18, 19, 20, 49] (hh - 0) (fun k v7 v9 v14 _ _ _ _ _ _ v49 wr => ∃ y g c : Nat, ∃ aa' cab', y ≤ hh ∧ k = hh - y ∧ v49 = .int .i64 y ∧ v9 = .int .i64 (t0 + y : Nat) ∧ v7 = .slice (some ⟨g, 0, none⟩) (m0 + y * (rowN s wd + 1)) c ∧ v14 = .slice aa' (rowN s wd) cab' ∧ Own8 wr base g c (ol ++ (bareY s sm fl p wd t0 ab y).1) ∧ (ol ++ (bareY s sm fl p wd t0 ab y).1).length = m0 + y * (rowN s wd + 1) ∧ (bareY s sm fl p wd t0 ab y).2.length = rowN s wd ∧ (∀ w', Mod (fun k => k = g) wr w' → SlB w' aa' (bareY s sm fl p wd t0 ab y).2) ∧ Mod (fun k => k = g0) w wr ∧ (g = g0 ∨ w.heap.size ≤ g))
  case atStart => exact ⟨0, g0, c0, aa, cab, by omega, rfl, rfl, rfl, by simp, rfl, by simpa [bareY] using HOWN.out, by simpa [bareY] using HOL.out, HAB.out, fun w' m => (HS.out w' m).2.2.2.2, Mod.refl _ _, Or.inl rfl⟩
  case round =>
    obtain ⟨y, g, c, aa', cab', hy, hk, rfl, rfl, rfl, rfl, own, hlen, hal, hA, mm, hg⟩ := hrel
    have HK := Lib.hid hk; have OWN := Lib.hid own; have MM := Lib.hid mm; have HLEN := Lib.hid hlen; have HAL := Lib.hid hal; have HA := Lib.hid hA
    clear hk own mm hlen hal hA
    by_cases hlt : y < hh
    · have own0 : (wr.alloc (.cells #[] 3)).ownsRow wr.heap.size 3 1 (.slice (some ⟨wr.heap.size, 0, none⟩) 0 0) 0 [] := World.ownsRow_made wr #[] 0 (Nat.le_refl _) (Nat.zero_le _) rfl
      go_upto_block 4 with fail
      refine bare_line (wr.alloc (.cells #[] 3)) wr.heap.size s p SB PB sa sn sc sm y wd wr.heap.size (by simp) own0 HSM.out hsc (fun w' m => ?_) (HPX.out y hlt) hwide (by omega) hwd hpx hpy hdx hdy _ _ _ _ _ _ _ _ _ _ _ _ _ _ _ _ _ _ _ _ _ _ _ _ _ _ _ _ _ _ _ _ _ _ _ _ _ _ _ _ _ _ _ _ _ _ _ _ _ _ _ _ _ _ _ _ _ _ _ _ _ _ _ _ _ _ _ _ _ _ _ _ _ _ _ _ _ _ _ _ _ _ _ _ _ _ _ _ _ _ _ _ _ _ _ _ _ _ _ _ _ _ _ _ _ _ _ _ _ _ _ _ _ ?_
      · have h := HS.out w' (MM.out.trans (((Mod.refl (fun k => k = g0) wr).alloc _).then m (fun k hk h => by omega)))
        exact ⟨h.1, h.2.1, h.2.2.1⟩
      · intro w2 g1 c1 _ _ _ _ _ _ _ _ _ _ _ _ _ _ _ _ _ _ _ _ _ _ _ _ _ _ _ _ _ _ _ _ _ own2 m2
        have m12 : Mod (fun _ => False) wr w2 := ((Mod.refl _ wr).alloc _).then m2 (fun k hk h => by omega)
        have hsa := HS.out w2 (MM.out.trans (m12.mono (fun _ _ h => h.elim)))
        have hbnd : wd * chanN s.colour ≤ 40 * 4 := Nat.mul_le_mul hwd hcb.2
        have hrow := specRow w2 (some ⟨g1, 0, none⟩) (wd * chanN s.colour) c1 s.depth (lineP s sm p y wd) HD.out (lineP_length (HPX.out y hlt) wd (Nat.le_refl _)) (ints_sl own2 (lineP_length (HPX.out y hlt) wd (Nat.le_refl _))) (lineP_lt HSB.out wd) (by omega)
        rw [show (wd * chanN s.colour * s.depth + 7) / 8 = rowN s wd from rfl] at hrow
        have hdc := hsa.2.1.depth
        have hd16 : s.depth ≤ 16 := by rcases HD.out with h | h | h | h | h <;> omega
        have hrn : rowN s wd ≤ 400 := by
          have : wd * chanN s.colour * s.depth ≤ 160 * 16 := Nat.mul_le_mul hbnd hd16
          unfold rowN; omega
        have hyr : y * (rowN s wd + 1) ≤ 40 * 401 := Nat.mul_le_mul (by omega) (by omega)
        have HROW := Lib.hid hrow; have M12 := Lib.hid m12; have HFA := Lib.hid hsa.2.2.2.1
        clear hrow m12 m2 own2 own0 hsa
        by_cases hf0 : fn = 0
        · have hkd : kindF fl (t0 + y) = 0 := by unfold kindF; rw [if_pos (by have := HFL.out; omega)]
          have HKD := Lib.hid hkd
          have hfi : ¬ (0 : Int) < (fn : Int) := by omega
          clear hkd hf0
          go_upto_region 24 with fail
          rename_i K hK
          have hK2 := fun (a : Act) (w : World) (h : Hid _) => hK a w h.out
          clear hK
          go_wp2_with (fail)
          refine HROW.out.mono ?_
          rintro e w3 ⟨gb, cb, rfl, ownb, m3⟩
          have m13 : Mod (fun _ => False) wr w3 := M12.out.trans m3
          have hbk := ownb.base
          have hgw := OWN.out.base
          have hs13 := m13.size
          have hs12 := M12.out.size
          have hs01 := MM.out.size
          have hrl : (rowL s.depth (lineP s sm p y wd)).length = rowN s wd := by
            unfold rowL; rw [rowP_length _ HD.out, lineP_length (HPX.out y hlt) wd (Nat.le_refl _)]; rfl
          have hba : ∀ w', Mod (fun k => k = g) w3 w' → SlB w' (some ⟨gb, 0, none⟩) (rowL s.depth (lineP s sm p y wd)) ∧ SlB w' aa' (bareY s sm fl p wd t0 ab y).2 := fun w' m =>
            ⟨(ownb.mod m (by omega)).slb, HA.out w' ((m13.mono (fun _ _ h => h.elim)).trans m)⟩
          have hsh3 : ShpAt w3 SB s := (HS.out w3 (MM.out.trans (m13.mono (fun _ _ h => h.elim)))).2.1
          have hneg : SB ≠ g := by have := lt_of_cell (HS.out w (Mod.refl _ w)).2.1.wide; omega
          have OWNB := Lib.hid ownb; have M13 := Lib.hid m13; have HRL := Lib.hid hrl; have HBA := Lib.hid hba; have SH3 := Lib.hid hsh3
          clear ownb m13 hrl hba hsh3 m3 HROW
          go_wp2
          refine Lib.hid ?_
          refine bare_put w3 base s SB 0 g (m0 + y * (rowN s wd + 1)) c (rowN s wd) cab' cb aa' (some ⟨gb, 0, none⟩) (ol ++ (bareY s sm fl p wd t0 ab y).1) (bareY s sm fl p wd t0 ab y).2 (rowL s.depth (lineP s sm p y wd)) (by omega) (OWN.out.mod M13.out id) HLEN.out (by omega) HRL.out HAL.out HBA.out SH3.out hneg (by omega) (by omega) HC.out HD.out _ _ _ _ _ _ _ _ _ _ _ _ _ _ _ _ _ _ _ _ _ _ _ _ _ _ _ _ _ _ _ _ _ _ _ _ _ _ _ _ _ _ _ _ _ _ _ _ _ _ _ _ _ _ _ _ _ _ _ _ _ _ _ _ _ _ _ _ _ _ _ _ _ _ _ _ _ _ _ _ _ _ _ _ _ _ _ _ _ _ _ _ _ _ _ _ _ _ _ _ _ _ _ _ _ _ _ _ _ _ _ _ _ _ _ _ ?_
          intro w4 g5 c5 _ _ _ _ _ _ _ _ _ _ _ _ _ own5 m5 hg5
          have hstep : ol ++ (bareY s sm fl p wd t0 ab y).1 ++ [UInt8.ofNat 0] ++ filtL 0 (rowL s.depth (lineP s sm p y wd)) (bareY s sm fl p wd t0 ab y).2 (stepN s) = ol ++ (bareY s sm fl p wd t0 ab (y + 1)).1 := by
            rw [bareY, HKD.out]; simp only [List.append_assoc]
          rw [hstep] at own5
          have hl5 : (ol ++ (bareY s sm fl p wd t0 ab (y + 1)).1).length = m0 + (y + 1) * (rowN s wd + 1) := by
            rw [← hstep, List.length_append, List.length_append, HLEN.out, filtL, filtP_length, HRL.out, Nat.add_mul]; simp; omega
          have hA5 : ∀ w', Mod (fun k => k = g5) w4 w' → SlB w' (some ⟨gb, 0, none⟩) (rowL s.depth (lineP s sm p y wd)) := fun w' m =>
            ((OWNB.out.mod m5 (by omega)).mod m (by have := hg5; omega)).slb
          have m05 : Mod (fun k => k = g0) w w4 := (MM.out.trans (M13.out.mono (fun _ _ h => h.elim))).then m5 (fun k hk h => by omega)
          have O5 := Lib.hid own5; have HL5 := Lib.hid hl5; have HA5 := Lib.hid hA5; have M05 := Lib.hid m05; have HRL2 := HRL
          have hmul : m0 + y * (rowN s wd + 1) + 1 + rowN s wd = m0 + (y + 1) * (rowN s wd + 1) := by rw [Nat.add_mul]; omega
          have HMUL := Lib.hid hmul
          clear own5 m5 hl5 hA5 m05 hstep hmul OWNB HBA SH3 M13
          go_wp2
          go_roundg (hh - (y + 1))
          case measure => have := HK.out; omega
          case rel => exact ⟨y + 1, g5, c5, _, _, by omega, rfl, by go_num, by go_num, by rw [← HMUL.out], rfl, O5.out, HL5.out, HRL2.out, HA5.out, M05.out, by omega⟩
        · have hfp : (0 : Int) < (fn : Int) := by omega
          obtain ⟨r, hr⟩ : ∃ r, r = (t0 + y) % fn := ⟨_, rfl⟩
          have hrl : r < fn := by rw [hr]; exact Nat.mod_lt _ (by omega)
          obtain ⟨fb, fo, rfl, hfb⟩ := HFA.out.some r (by have := HFL.out; omega)
          have cf := bytes_at hfb r (by have := HFL.out; omega)
          have hkd : kindF fl (t0 + y) = (at_ fl r).toNat % 5 := by unfold kindF; rw [if_neg (by have := HFL.out; omega), HFL.out, hr]
          have xb := (at_ fl r).toNat_lt
          have er : ((t0 + y : Nat) : Int).tmod (fn : Int) = (r : Int) := by rw [hr]; exact (Int.ofNat_tmod (t0 + y) fn).symm
          have cf3 : w2.cell? ⟨fb, fo + (t0 + y) % fn, none⟩ = some (.int .u8 ((at_ fl r).toNat : Nat)) := by rw [← hr]; exact cf
          have jm : (t0 + y) % fn < fn := by rw [← hr]; exact hrl
          have jm2 : ((t0 : Int) + (y : Int)) % (fn : Int) < (fn : Int) := Int.emod_lt_of_pos _ (by omega)
          have jm3 : (0 : Int) ≤ ((t0 : Int) + (y : Int)) % (fn : Int) := Int.emod_nonneg _ (by omega)
          generalize (at_ fl r).toNat = x at *
          obtain ⟨kd, hkx⟩ : ∃ kd, kd = x % 5 := ⟨_, rfl⟩
          have ek : (x : Int).tmod 5 = (kd : Int) := by rw [hkx]; exact (Int.ofNat_tmod x 5).symm
          have ek2 : (x : Int) % 5 = (kd : Int) := by omega
          have hk4 : kd ≤ 4 := by omega
          rw [← hkx] at hkd
          have HKD := Lib.hid hkd
          have HR := Lib.hid hr
          have j0 : (0 : Int) ≤ (r : Int) := by omega
          have j1 : (r : Int) < (fn : Int) := by omega
          clear hkd hr hkx hfb hf0
          go_upto_region 24 with fail
          rename_i K hK
          have hK2 := fun (a : Act) (w : World) (h : Hid _) => hK a w h.out
          clear hK
          go_wp2_with (fail)
          refine HROW.out.mono ?_
          rintro e w3 ⟨gb, cb, rfl, ownb, m3⟩
          have m13 : Mod (fun _ => False) wr w3 := M12.out.trans m3
          have hbk := ownb.base
          have hgw := OWN.out.base
          have hs13 := m13.size
          have hs12 := M12.out.size
          have hs01 := MM.out.size
          have hrl : (rowL s.depth (lineP s sm p y wd)).length = rowN s wd := by
            unfold rowL; rw [rowP_length _ HD.out, lineP_length (HPX.out y hlt) wd (Nat.le_refl _)]; rfl
          have hba : ∀ w', Mod (fun k => k = g) w3 w' → SlB w' (some ⟨gb, 0, none⟩) (rowL s.depth (lineP s sm p y wd)) ∧ SlB w' aa' (bareY s sm fl p wd t0 ab y).2 := fun w' m =>
            ⟨(ownb.mod m (by omega)).slb, HA.out w' ((m13.mono (fun _ _ h => h.elim)).trans m)⟩
          have hsh3 : ShpAt w3 SB s := (HS.out w3 (MM.out.trans (m13.mono (fun _ _ h => h.elim)))).2.1
          have hneg : SB ≠ g := by have := lt_of_cell (HS.out w (Mod.refl _ w)).2.1.wide; omega
          have OWNB := Lib.hid ownb; have M13 := Lib.hid m13; have HRL := Lib.hid hrl; have HBA := Lib.hid hba; have SH3 := Lib.hid hsh3
          clear ownb m13 hrl hba hsh3 m3 HROW
          go_wp2
          refine Lib.hid ?_
          refine bare_put w3 base s SB kd g (m0 + y * (rowN s wd + 1)) c (rowN s wd) cab' cb aa' (some ⟨gb, 0, none⟩) (ol ++ (bareY s sm fl p wd t0 ab y).1) (bareY s sm fl p wd t0 ab y).2 (rowL s.depth (lineP s sm p y wd)) (by omega) (OWN.out.mod M13.out id) HLEN.out (by omega) HRL.out HAL.out HBA.out SH3.out hneg (by omega) (by omega) HC.out HD.out _ _ _ _ _ _ _ _ _ _ _ _ _ _ _ _ _ _ _ _ _ _ _ _ _ _ _ _ _ _ _ _ _ _ _ _ _ _ _ _ _ _ _ _ _ _ _ _ _ _ _ _ _ _ _ _ _ _ _ _ _ _ _ _ _ _ _ _ _ _ _ _ _ _ _ _ _ _ _ _ _ _ _ _ _ _ _ _ _ _ _ _ _ _ _ _ _ _ _ _ _ _ _ _ _ _ _ _ _ _ _ _ _ _ _ _ ?_
          intro w4 g5 c5 _ _ _ _ _ _ _ _ _ _ _ _ _ own5 m5 hg5
          have hstep : ol ++ (bareY s sm fl p wd t0 ab y).1 ++ [UInt8.ofNat kd] ++ filtL kd (rowL s.depth (lineP s sm p y wd)) (bareY s sm fl p wd t0 ab y).2 (stepN s) = ol ++ (bareY s sm fl p wd t0 ab (y + 1)).1 := by
            rw [bareY, HKD.out]; simp only [List.append_assoc]
          rw [hstep] at own5
          have hl5 : (ol ++ (bareY s sm fl p wd t0 ab (y + 1)).1).length = m0 + (y + 1) * (rowN s wd + 1) := by
            rw [← hstep, List.length_append, List.length_append, HLEN.out, filtL, filtP_length, HRL.out, Nat.add_mul]; simp; omega
          have hA5 : ∀ w', Mod (fun k => k = g5) w4 w' → SlB w' (some ⟨gb, 0, none⟩) (rowL s.depth (lineP s sm p y wd)) := fun w' m =>
            ((OWNB.out.mod m5 (by omega)).mod m (by have := hg5; omega)).slb
          have m05 : Mod (fun k => k = g0) w w4 := (MM.out.trans (M13.out.mono (fun _ _ h => h.elim))).then m5 (fun k hk h => by omega)
          have O5 := Lib.hid own5; have HL5 := Lib.hid hl5; have HA5 := Lib.hid hA5; have M05 := Lib.hid m05; have HRL2 := HRL
          have hmul : m0 + y * (rowN s wd + 1) + 1 + rowN s wd = m0 + (y + 1) * (rowN s wd + 1) := by rw [Nat.add_mul]; omega
          have HMUL := Lib.hid hmul
          clear own5 m5 hl5 hA5 m05 hstep hmul OWNB HBA SH3 M13
          go_wp2
          go_roundg (hh - (y + 1))
          case measure => have := HK.out; omega
          case rel => exact ⟨y + 1, g5, c5, _, _, by omega, rfl, by go_num, by go_num, by rw [← HMUL.out], rfl, O5.out, HL5.out, HRL2.out, HA5.out, M05.out, by omega⟩
    · obtain rfl : y = hh := by omega
      go_wp2
      exact HQ.out _ g c aa' cab' _ _ _ _ _ _ _ _ _ _ _ _ _ _ _ _ _ _ _ _ _ _ _ _ _ _ _ _ _ _ _ _ _ _ _ _ _ _ _ _ _ _ _ _ _ _ _ _ _ _ _ _ _ _ _ _ _ _ _ _ _ _ _ _ _ _ _ _ _ _ _ _ _ _ OWN.out MM.out hg
end Go.Proofs.YtnpkgmgedgcjmaaGreatDoor
