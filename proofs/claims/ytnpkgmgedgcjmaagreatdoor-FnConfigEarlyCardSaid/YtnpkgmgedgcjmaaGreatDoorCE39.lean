/- The reference's pixels by their samples: a pixel by its colour type. No conditions but those in each theorem's own binders. -/
import Derived.Test.YtnpkgmgedgcjmaaGreatDoorCE38
import Derived.Test.YtnpkgmgedgcjmaaGreatDoorCE19
import Derived.StillTailTactics
namespace Go.Proofs.YtnpkgmgedgcjmaaGreatDoor
set_option linter.unusedVariables false
set_option linter.unusedSimpArgs false
open Go.RowKit Go.Png

/-- A pixel by its numbers, or by the palette. -/
def baseD (colour : Nat) (vs : List Nat) (pal : List Dt) (x : Nat) : Option Dt :=
  if colour = 0 then some ⟨vs.getD 0 0, vs.getD 0 0, vs.getD 0 0, 65535⟩
  else if colour = 2 then some ⟨vs.getD 0 0, vs.getD 1 0, vs.getD 2 0, 65535⟩
  else if colour = 3 then pal[x]?
  else if colour = 4 then some ⟨vs.getD 0 0, vs.getD 0 0, vs.getD 0 0, vs.getD 1 0⟩
  else some ⟨vs.getD 0 0, vs.getD 1 0, vs.getD 2 0, vs.getD 3 0⟩

/-- The world in which a pixel was written. -/
def setDt (w : World) (B : Nat) (d : Dt) : World :=
  (((w.setCell ⟨B, 0, none⟩ (.int .i64 d.r)).setCell ⟨B, 1, none⟩ (.int .i64 d.g)).setCell ⟨B, 2, none⟩ (.int .i64 d.b)).setCell ⟨B, 3, none⟩ (.int .i64 d.a)
theorem setDt_mod (w : World) (B : Nat) (d : Dt) : Mod (fun k => k = B) w (setDt w B d) :=
  ((((Mod.refl (fun k => k = B) w).setCell (p := ⟨B, 0, none⟩) (Or.inl rfl) _).setCell (p := ⟨B, 1, none⟩) (Or.inl rfl) _).setCell (p := ⟨B, 2, none⟩) (Or.inl rfl) _).setCell (p := ⟨B, 3, none⟩) (Or.inl rfl) _
theorem setDt_at {w : World} {B : Nat} {d0 : Dt} (h : DtAt w B 0 d0) (d : Dt) : DtAt (setDt w B d) B 0 d := by
  have n : ∀ (a b : Nat), a ≠ b → (⟨B, a, none⟩ : Addr) ≠ ⟨B, b, none⟩ := fun a b h e => h (congrArg Addr.off e)
  unfold setDt
  refine ⟨?_, ?_, ?_, ?_⟩
  · rw [World.cell?_setCell_other _ _ _ _ (n _ _ (by decide)), World.cell?_setCell_other _ _ _ _ (n _ _ (by decide)), World.cell?_setCell_other _ _ _ _ (n _ _ (by decide))]
    exact World.cell?_setCell_same _ _ _ h.r
  · rw [World.cell?_setCell_other _ _ _ _ (n _ _ (by decide)), World.cell?_setCell_other _ _ _ _ (n _ _ (by decide))]
    exact World.cell?_setCell_same _ _ _ (by rw [World.cell?_setCell_other _ _ _ _ (n _ _ (by decide))]; exact h.g)
  · rw [World.cell?_setCell_other _ _ _ _ (n _ _ (by decide))]
    exact World.cell?_setCell_same _ _ _ (by rw [World.cell?_setCell_other _ _ _ _ (n _ _ (by decide)), World.cell?_setCell_other _ _ _ _ (n _ _ (by decide))]; exact h.b)
  · exact World.cell?_setCell_same _ _ _ (by rw [World.cell?_setCell_other _ _ _ _ (n _ _ (by decide)), World.cell?_setCell_other _ _ _ _ (n _ _ (by decide)), World.cell?_setCell_other _ _ _ _ (n _ _ (by decide))]; exact h.a)
theorem setDt_frozen (w : World) (B : Nat) (d : Dt) (p : Addr) : (setDt w B d).frozen? p = w.frozen? p := by unfold setDt; simp

set_option maxRecDepth 100000 in
set_option maxHeartbeats 4000000 in
theorem dots_switch (w : World) (colour DB : Nat) (sa pa : Option Addr) (sn sc pn pc g c cc k : Nat) (sm vs : List Nat) (pal : List Dt) (d0 : Dt) (hco : ColOk colour) (hc : c = chanN colour) (hvs : ∀ i, i < c → w.cell? ⟨g, i, none⟩ = some (.int .i64 (vs.getD i 0 : Nat)))
    (hd : DtAt w DB 0 d0) (hf : ∀ o, w.frozen? ⟨DB, o, none⟩ = false) (hsm : sm.length = sn) (hk : k < sn) (hS : SlI w sa sm) (hpn : pal.length = pn) (hP : SlD w pa pal)
    (u0 u3 u4 u5 u6 u7 u8 u9 u10 u11 u12 u15 u16 u18 u19 u20 u21 u22 u23 u24 u25 u26 u27 u28 u29 u30 u31 u32 u33 u34 u35 u36 u37 u38 u39 u40 u41 u42 u43 u44 u45 u46 u47 u48 u49 u50 u51 u52 u53 u54 u55 u56 u57 u58 u59 u60 u61 u62 u63 u64 u65 u66 u67 u68 u69 u70 u71 u72 u73 u74 u75 u76 u77 u79 u80 u81 u82 u83 u84 u85 u86 u87 u88 u89 u90 u91 u92 u93 u94 u95 u96 u97 u98 u99 u100 u101 u102 u103 u104 u105 u106 u107 u108 u109 u110 u111 u112 u113 u114 u115 u116 u117 u118 u119 u120 u121 u122 u123 u124 u125 u126 u127 u128 u129 u130 u131 u132 u133 u134 u135 u136 u137 u138 u139 u140 u141 u142 u143 u144 u145 u146 u147 u148 u149 u150 u151 u152 u153 u154 u155 u156 u157 u158 u159 u160 u161 u162 u163 u164 u165 : Value) (Q : Exit → Act → World → Prop)
    (hQ : ∀ d w' (v79 v80 v81 v82 v83 v84 v85 v86 v87 v88 v89 v90 v91 v92 v93 v94 v95 v96 v97 v98 v99 v100 v101 v102 v103 v104 v105 v106 v107 v108 v109 v110 v111 v112 v113 v114 v115 v116 v117 v118 v119 v120 v121 v122 v123 v124 v125 v126 v127 v128 v129 v130 v131 v132 v133 v134 v135 v136 v137 v138 v139 v140 v141 v142 v143 v144 v145 v146 v147 v148 : Value), baseD colour vs pal (sm.getD k 0) = some d → DtAt w' DB 0 d → Mod (fun k => k = DB) w w' → (∀ o, w'.frozen? ⟨DB, o, none⟩ = false) →
       Q .normal ⟨#[u0, .slice sa sn sc, .slice pa pn pc, u3, u4, u5, u6, u7, u8, u9, u10, u11, u12, .int .i64 k, .slice (some ⟨g, 0, none⟩) c cc, u15, u16, .pointer (some ⟨DB, 0, none⟩), u18, u19, u20, u21, u22, u23, u24, u25, u26, u27, u28, u29, u30, u31, u32, u33, u34, u35, u36, u37, u38, u39, u40, u41, u42, u43, u44, u45, u46, u47, u48, u49, u50, u51, u52, u53, u54, u55, u56, u57, u58, u59, u60, u61, u62, u63, u64, u65, u66, u67, u68, u69, u70, u71, u72, u73, u74, u75, u76, u77, .int .i64 colour, v79, v80, v81, v82, v83, v84, v85, v86, v87, v88, v89, v90, v91, v92, v93, v94, v95, v96, v97, v98, v99, v100, v101, v102, v103, v104, v105, v106, v107, v108, v109, v110, v111, v112, v113, v114, v115, v116, v117, v118, v119, v120, v121, v122, v123, v124, v125, v126, v127, v128, v129, v130, v131, v132, v133, v134, v135, v136, v137, v138, v139, v140, v141, v142, v143, v144, v145, v146, v147, v148, u149, u150, u151, u152, u153, u154, u155, u156, u157, u158, u159, u160, u161, u162, u163, u164, u165], []⟩ w')
    (hR : ∀ (v79 v80 v81 v82 v83 v84 v85 v86 v87 v88 v89 v90 v91 v92 v93 v94 v95 v96 v97 v98 v99 v100 v101 v102 v103 v104 v105 v106 v107 v108 v109 v110 v111 v112 v113 v114 v115 v116 v117 v118 v119 v120 v121 v122 v123 v124 v125 v126 v127 v128 v129 v130 v131 v132 v133 v134 v135 v136 v137 v138 v139 v140 v141 v142 v143 v144 v145 v146 v147 v148 : Value), baseD colour vs pal (sm.getD k 0) = none →
       Q .ret ⟨#[u0, .slice sa sn sc, .slice pa pn pc, u3, u4, u5, u6, u7, .slice none 0 0, .int .i64 2, u10, u11, u12, .int .i64 k, .slice (some ⟨g, 0, none⟩) c cc, u15, u16, .pointer (some ⟨DB, 0, none⟩), u18, u19, u20, u21, u22, u23, u24, u25, u26, u27, u28, u29, u30, u31, u32, u33, u34, u35, u36, u37, u38, u39, u40, u41, u42, u43, u44, u45, u46, u47, u48, u49, u50, u51, u52, u53, u54, u55, u56, u57, u58, u59, u60, u61, u62, u63, u64, u65, u66, u67, u68, u69, u70, u71, u72, u73, u74, u75, u76, u77, .int .i64 colour, v79, v80, v81, v82, v83, v84, v85, v86, v87, v88, v89, v90, v91, v92, v93, v94, v95, v96, v97, v98, v99, v100, v101, v102, v103, v104, v105, v106, v107, v108, v109, v110, v111, v112, v113, v114, v115, v116, v117, v118, v119, v120, v121, v122, v123, v124, v125, v126, v127, v128, v129, v130, v131, v132, v133, v134, v135, v136, v137, v138, v139, v140, v141, v142, v143, v144, v145, v146, v147, v148, u149, u150, u151, u152, u153, u154, u155, u156, u157, u158, u159, u160, u161, u162, u163, u164, u165], []⟩ w) :
    Code.wp Tryz.prog (navc [1, 1, 1, 0, 1, 0, 0, 1, 0, 0, 1, 1, 1, 1, 0, 1] (textOf Tryz.f37)) Q
      ⟨#[u0, .slice sa sn sc, .slice pa pn pc, u3, u4, u5, u6, u7, u8, u9, u10, u11, u12, .int .i64 k, .slice (some ⟨g, 0, none⟩) c cc, u15, u16, .pointer (some ⟨DB, 0, none⟩), u18, u19, u20, u21, u22, u23, u24, u25, u26, u27, u28, u29, u30, u31, u32, u33, u34, u35, u36, u37, u38, u39, u40, u41, u42, u43, u44, u45, u46, u47, u48, u49, u50, u51, u52, u53, u54, u55, u56, u57, u58, u59, u60, u61, u62, u63, u64, u65, u66, u67, u68, u69, u70, u71, u72, u73, u74, u75, u76, u77, .int .i64 colour, u79, u80, u81, u82, u83, u84, u85, u86, u87, u88, u89, u90, u91, u92, u93, u94, u95, u96, u97, u98, u99, u100, u101, u102, u103, u104, u105, u106, u107, u108, u109, u110, u111, u112, u113, u114, u115, u116, u117, u118, u119, u120, u121, u122, u123, u124, u125, u126, u127, u128, u129, u130, u131, u132, u133, u134, u135, u136, u137, u138, u139, u140, u141, u142, u143, u144, u145, u146, u147, u148, u149, u150, u151, u152, u153, u154, u155, u156, u157, u158, u159, u160, u161, u162, u163, u164, u165], []⟩ w := by
  conv => arg 2; whnf
  dsimp only
  subst hc
  have d1 := hd.r; have d2 := hd.g; have d3 := hd.b; have d4 := hd.a
  have f0 := hf 0; have f1 := hf 1; have f2 := hf 2; have f3 := hf 3
  have hfz : ∀ d o, (setDt w.drew DB d).frozen? ⟨DB, o, none⟩ = false := fun d o => by rw [setDt_frozen]; exact hf o
  have hfz2 : ∀ d o, (setDt w DB d).frozen? ⟨DB, o, none⟩ = false := fun d o => by rw [setDt_frozen]; exact hf o
  have hat : ∀ d, DtAt (setDt w.drew DB d) DB 0 d := fun d => setDt_at (hd.mod ((Mod.refl (fun _ => False) w).drew) id) d
  have hmo : ∀ d, Mod (fun k => k = DB) w (setDt w.drew DB d) := fun d => ((Mod.refl _ w).drew).trans (setDt_mod _ _ _)
  have HQ := Lib.hid hQ; have HR := Lib.hid hR; have HD := Lib.hid hd; have HF := Lib.hid hfz; have HF2 := Lib.hid hfz2; have HAT := Lib.hid hat; have HMO := Lib.hid hmo; have HSM := Lib.hid hsm; have HS := Lib.hid hS; have HPN := Lib.hid hpn; have HP := Lib.hid hP
  clear hQ hR hd hf hfz hfz2 hat hmo hsm hS hpn hP
  rcases hco with rfl | rfl | rfl | rfl | rfl
  · have q0 := hvs 0 (by decide)
    have HB : Hid (baseD 0 vs pal (sm.getD k 0) = some ⟨vs.getD 0 0, vs.getD 0 0, vs.getD 0 0, 65535⟩) := Lib.hid rfl
    clear hvs
    generalize vs.getD 0 0 = x0 at *
    have e1 : chanN 0 = 1 := rfl
    rw [e1]
    go_wp2
    go_still_tail 10, (by kernel_rfl)
    change wpList _ _ _ _ _ w.drew
    go_wp2
    exact HQ.out _ (setDt w.drew DB ⟨x0, x0, x0, 65535⟩) _ _ _ _ _ _ _ _ _ _ _ _ _ _ _ _ _ _ _ _ _ _ _ _ _ _ _ _ _ _ _ _ _ _ _ _ _ _ _ _ _ _ _ _ _ _ _ _ _ _ _ _ _ _ _ _ _ _ _ _ _ _ _ _ _ _ _ _ _ _ HB.out (HAT.out _) (HMO.out _) (HF.out _)
  · have q0 := hvs 0 (by decide); have q1 := hvs 1 (by decide); have q2 := hvs 2 (by decide)
    have HB : Hid (baseD 2 vs pal (sm.getD k 0) = some ⟨vs.getD 0 0, vs.getD 1 0, vs.getD 2 0, 65535⟩) := Lib.hid rfl
    clear hvs
    generalize vs.getD 0 0 = x0 at *
    generalize vs.getD 1 0 = x1 at *
    generalize vs.getD 2 0 = x2 at *
    have e1 : chanN 2 = 3 := rfl
    rw [e1]
    go_wp2
    go_still_tail 10, (by kernel_rfl)
    change wpList _ _ _ _ _ w.drew
    go_wp2
    exact HQ.out _ (setDt w.drew DB ⟨x0, x1, x2, 65535⟩) _ _ _ _ _ _ _ _ _ _ _ _ _ _ _ _ _ _ _ _ _ _ _ _ _ _ _ _ _ _ _ _ _ _ _ _ _ _ _ _ _ _ _ _ _ _ _ _ _ _ _ _ _ _ _ _ _ _ _ _ _ _ _ _ _ _ _ _ _ _ HB.out (HAT.out _) (HMO.out _) (HF.out _)
  · have hkl : k < sm.length := by have := HSM.out; omega
    obtain ⟨b1, o1, rfl, q1⟩ := HS.out.some k hkl
    have HB : Hid (baseD 3 vs pal (sm.getD k 0) = pal[sm.getD k 0]?) := Lib.hid rfl
    have i1 : (k : Int) < (sn : Int) := by omega
    generalize sm.getD k 0 = x at *
    have e1 : chanN 3 = 1 := rfl
    rw [e1]
    clear hvs
    by_cases hx : x < pn
    · have hxl : x < pal.length := by have := HPN.out; omega
      obtain ⟨b2, o2, rfl, hd2⟩ := HP.out.some x hxl
      obtain ⟨p0, p1, p2, p3⟩ := hd2 x hxl
      have HB2 : Hid (baseD 3 vs pal x = some pal[x]) := Lib.hid (by rw [HB.out, List.getElem?_eq_getElem hxl])
      clear hd2
      have i2 : ¬ (pn : Int) ≤ (x : Int) := by omega
      have i3 : (x : Int) < (pn : Int) := by omega
      go_wp2
      exact HQ.out _ (setDt w DB pal[x]) _ _ _ _ _ _ _ _ _ _ _ _ _ _ _ _ _ _ _ _ _ _ _ _ _ _ _ _ _ _ _ _ _ _ _ _ _ _ _ _ _ _ _ _ _ _ _ _ _ _ _ _ _ _ _ _ _ _ _ _ _ _ _ _ _ _ _ _ _ _ HB2.out (setDt_at HD.out _) (setDt_mod _ _ _) (HF2.out _)
    · have HB2 : Hid (baseD 3 vs pal x = none) := Lib.hid (by rw [HB.out, List.getElem?_eq_none (by have := HPN.out; omega)])
      have i2 : (pn : Int) ≤ (x : Int) := by omega
      go_wp2
      exact HR.out _ _ _ _ _ _ _ _ _ _ _ _ _ _ _ _ _ _ _ _ _ _ _ _ _ _ _ _ _ _ _ _ _ _ _ _ _ _ _ _ _ _ _ _ _ _ _ _ _ _ _ _ _ _ _ _ _ _ _ _ _ _ _ _ _ _ _ _ _ _ HB2.out
  · have q0 := hvs 0 (by decide); have q1 := hvs 1 (by decide)
    have HB : Hid (baseD 4 vs pal (sm.getD k 0) = some ⟨vs.getD 0 0, vs.getD 0 0, vs.getD 0 0, vs.getD 1 0⟩) := Lib.hid rfl
    clear hvs
    generalize vs.getD 0 0 = x0 at *
    generalize vs.getD 1 0 = x1 at *
    have e1 : chanN 4 = 2 := rfl
    rw [e1]
    go_wp2
    go_still_tail 13, (by kernel_rfl)
    change wpList _ _ _ _ _ w.drew
    go_wp2
    exact HQ.out _ (setDt w.drew DB ⟨x0, x0, x0, x1⟩) _ _ _ _ _ _ _ _ _ _ _ _ _ _ _ _ _ _ _ _ _ _ _ _ _ _ _ _ _ _ _ _ _ _ _ _ _ _ _ _ _ _ _ _ _ _ _ _ _ _ _ _ _ _ _ _ _ _ _ _ _ _ _ _ _ _ _ _ _ _ HB.out (HAT.out _) (HMO.out _) (HF.out _)
  · have q0 := hvs 0 (by decide); have q1 := hvs 1 (by decide); have q2 := hvs 2 (by decide); have q3 := hvs 3 (by decide)
    have HB : Hid (baseD 6 vs pal (sm.getD k 0) = some ⟨vs.getD 0 0, vs.getD 1 0, vs.getD 2 0, vs.getD 3 0⟩) := Lib.hid rfl
    clear hvs
    generalize vs.getD 0 0 = x0 at *
    generalize vs.getD 1 0 = x1 at *
    generalize vs.getD 2 0 = x2 at *
    generalize vs.getD 3 0 = x3 at *
    have e1 : chanN 6 = 4 := rfl
    rw [e1]
    go_wp2
    go_still_tail 13, (by kernel_rfl)
    change wpList _ _ _ _ _ w.drew
    go_wp2
    exact HQ.out _ (setDt w.drew DB ⟨x0, x1, x2, x3⟩) _ _ _ _ _ _ _ _ _ _ _ _ _ _ _ _ _ _ _ _ _ _ _ _ _ _ _ _ _ _ _ _ _ _ _ _ _ _ _ _ _ _ _ _ _ _ _ _ _ _ _ _ _ _ _ _ _ _ _ _ _ _ _ _ _ _ _ _ _ _ HB.out (HAT.out _) (HMO.out _) (HF.out _)

structure ShpC (w : World) (B : Nat) (colour : Nat) : Prop where
  colour : w.cell? ⟨B, 3, none⟩ = some (.int .i64 colour)

set_option maxRecDepth 100000 in
set_option maxHeartbeats 4000000 in
theorem dots_clear (w : World) (colour SB DB : Nat) (b : Bool) (d : Dt) (hco : ColOk colour) (hs : w.cell? ⟨SB, 3, none⟩ = some (.int .i64 colour)) (hd : DtAt w DB 0 d) (hf : ∀ o, w.frozen? ⟨DB, o, none⟩ = false)
    (u0 u1 u2 u3 u5 u6 u7 u8 u9 u10 u11 u12 u13 u14 u16 u18 u19 u20 u21 u22 u23 u24 u25 u26 u27 u28 u29 u30 u31 u32 u33 u34 u35 u36 u37 u38 u39 u40 u41 u42 u43 u44 u45 u46 u47 u48 u49 u50 u51 u52 u53 u54 u55 u56 u57 u58 u59 u60 u61 u62 u63 u64 u65 u66 u67 u68 u69 u70 u71 u72 u73 u74 u75 u76 u77 u78 u79 u80 u81 u82 u83 u84 u85 u86 u87 u88 u89 u90 u91 u92 u93 u94 u95 u96 u97 u98 u99 u100 u101 u102 u103 u104 u105 u106 u107 u108 u109 u110 u111 u112 u113 u114 u115 u116 u117 u118 u119 u120 u121 u122 u123 u124 u125 u126 u127 u128 u129 u130 u131 u132 u133 u134 u135 u136 u137 u138 u139 u140 u141 u142 u143 u144 u145 u146 u147 u148 u149 u150 u151 u152 u153 u154 u155 u156 u157 u158 u159 u160 u161 u162 u163 u164 u165 : Value) (Q : Exit → Act → World → Prop)
    (hQ : ∀ w' (v149 v150 v151 v152 v153 v154 v155 v156 v157 v158 v159 v160 : Value), DtAt w' DB 0 (if b && (decide (colour = 0) || decide (colour = 2)) then { d with a := 0 } else d) → Mod (fun k => k = DB) w w' → 
       Q .normal ⟨#[u0, u1, u2, u3, .pointer (some ⟨SB, 0, none⟩), u5, u6, u7, u8, u9, u10, u11, u12, u13, u14, .bool b, u16, .pointer (some ⟨DB, 0, none⟩), u18, u19, u20, u21, u22, u23, u24, u25, u26, u27, u28, u29, u30, u31, u32, u33, u34, u35, u36, u37, u38, u39, u40, u41, u42, u43, u44, u45, u46, u47, u48, u49, u50, u51, u52, u53, u54, u55, u56, u57, u58, u59, u60, u61, u62, u63, u64, u65, u66, u67, u68, u69, u70, u71, u72, u73, u74, u75, u76, u77, u78, u79, u80, u81, u82, u83, u84, u85, u86, u87, u88, u89, u90, u91, u92, u93, u94, u95, u96, u97, u98, u99, u100, u101, u102, u103, u104, u105, u106, u107, u108, u109, u110, u111, u112, u113, u114, u115, u116, u117, u118, u119, u120, u121, u122, u123, u124, u125, u126, u127, u128, u129, u130, u131, u132, u133, u134, u135, u136, u137, u138, u139, u140, u141, u142, u143, u144, u145, u146, u147, u148, v149, v150, v151, v152, v153, v154, v155, v156, v157, v158, v159, v160, u161, u162, u163, u164, u165], []⟩ w') :
    Code.wp Tryz.prog (navc [1, 1, 1, 0, 1, 0, 0, 1, 0, 0, 1, 1, 1, 1, 1, 0] (textOf Tryz.f37)) Q
      ⟨#[u0, u1, u2, u3, .pointer (some ⟨SB, 0, none⟩), u5, u6, u7, u8, u9, u10, u11, u12, u13, u14, .bool b, u16, .pointer (some ⟨DB, 0, none⟩), u18, u19, u20, u21, u22, u23, u24, u25, u26, u27, u28, u29, u30, u31, u32, u33, u34, u35, u36, u37, u38, u39, u40, u41, u42, u43, u44, u45, u46, u47, u48, u49, u50, u51, u52, u53, u54, u55, u56, u57, u58, u59, u60, u61, u62, u63, u64, u65, u66, u67, u68, u69, u70, u71, u72, u73, u74, u75, u76, u77, u78, u79, u80, u81, u82, u83, u84, u85, u86, u87, u88, u89, u90, u91, u92, u93, u94, u95, u96, u97, u98, u99, u100, u101, u102, u103, u104, u105, u106, u107, u108, u109, u110, u111, u112, u113, u114, u115, u116, u117, u118, u119, u120, u121, u122, u123, u124, u125, u126, u127, u128, u129, u130, u131, u132, u133, u134, u135, u136, u137, u138, u139, u140, u141, u142, u143, u144, u145, u146, u147, u148, u149, u150, u151, u152, u153, u154, u155, u156, u157, u158, u159, u160, u161, u162, u163, u164, u165], []⟩ w := by
  conv => arg 2; whnf
  dsimp only
  have d4 := hd.a
  have f3 := hf 3
  have n : ∀ (a b : Nat), a ≠ b → (⟨DB, a, none⟩ : Addr) ≠ ⟨DB, b, none⟩ := fun a b h e => h (congrArg Addr.off e)
  have hset : DtAt (w.setCell ⟨DB, 3, none⟩ (.int .i64 0)) DB 0 { d with a := 0 } :=
    ⟨by rw [World.cell?_setCell_other _ _ _ _ (n _ _ (by decide))]; exact hd.r, by rw [World.cell?_setCell_other _ _ _ _ (n _ _ (by decide))]; exact hd.g, by rw [World.cell?_setCell_other _ _ _ _ (n _ _ (by decide))]; exact hd.b, World.cell?_setCell_same _ _ _ hd.a⟩
  have HSET := Lib.hid hset; have HD := Lib.hid hd; have HQ := Lib.hid hQ
  clear hset hd hQ n hf
  cases b
  · go_wp2
    exact HQ.out w _ _ _ _ _ _ _ _ _ _ _ _ HD.out (Mod.refl _ _)
  · by_cases h0 : colour = 0
    · subst h0
      go_wp2
      exact HQ.out _ _ _ _ _ _ _ _ _ _ _ _ _ HSET.out ((Mod.refl (fun k => k = DB) w).setCell (p := ⟨DB, 3, none⟩) (Or.inl rfl) _)
    · by_cases h2 : colour = 2
      · subst h2
        go_wp2
        exact HQ.out _ _ _ _ _ _ _ _ _ _ _ _ _ HSET.out ((Mod.refl (fun k => k = DB) w).setCell (p := ⟨DB, 3, none⟩) (Or.inl rfl) _)
      · have e : (if (true && (decide (colour = 0) || decide (colour = 2))) = true then { d with a := 0 } else d) = d := by simp [h0, h2]
        have i0 : ((colour : Int) == 0) = false := by simp; omega
        have i2 : ((colour : Int) == 2) = false := by simp; omega
        have hq := HQ.out
        rw [e] at hq
        have HQ2 := Lib.hid hq
        clear hq HQ h0 h2 e HSET
        go_wp2
        exact HQ2.out w _ _ _ _ _ _ _ _ _ _ _ _ HD.out (Mod.refl _ _)
end Go.Proofs.YtnpkgmgedgcjmaaGreatDoor
