/- The reference's pixels by their samples: the numbers of a pixel. No conditions but those in each theorem's own binders. -/
import Derived.Test.YtnpkgmgedgcjmaaGreatDoorCE37
namespace Go.Proofs.YtnpkgmgedgcjmaaGreatDoor
set_option linter.unusedVariables false
set_option linter.unusedSimpArgs false
open Go.RowKit Go.Png

/-- The first numbers of a pixel, of 16 bits. -/
def vsP (top : Nat) (sm : List Nat) (k : Nat) : Nat → List Nat
  | 0 => []
  | j + 1 => vsP top sm k j ++ [sm.getD (k + j) 0 * 65535 / top]
/-- Are the first samples of a pixel those that are clear? -/
def sameP (sm cl : List Nat) (k : Nat) : Nat → Bool
  | 0 => decide (0 < cl.length)
  | j + 1 => sameP sm cl k j && (decide (j < cl.length) && decide (sm.getD (k + j) 0 = cl.getD j 0))
theorem vsP_length (top : Nat) (sm : List Nat) (k : Nat) : ∀ j, (vsP top sm k j).length = j := by
  intro j
  induction j with
  | zero => rfl
  | succ j ih => rw [vsP, List.length_append, ih]; rfl

set_option maxRecDepth 100000 in
set_option maxHeartbeats 4000000 in
theorem dots_inner (w : World) (base : Nat) (sa la : Option Addr) (sn sc ln lc g0 c top k : Nat) (sm cl : List Nat) (hbase : base ≤ w.heap.size) (hown : OwnI w base (.slice (some ⟨g0, 0, none⟩) 0 0) [])
    (hsm : sm.length = sn) (hcl : cl.length = ln) (hS : ∀ w', Mod (fun k => base ≤ k) w w' → SlI w' sa sm ∧ SlI w' la cl) (hsb : ∀ x ∈ sm, x < 65536) (hk : k + c ≤ sn) (hc : c ≤ 4) (hsn : sn ≤ 1000000000) (hln : ln ≤ 1000000000) (ht1 : 1 ≤ top) (ht2 : top ≤ 65535) (b0 : Bool)
    (u0 u2 u4 u5 u6 u7 u8 u9 u12 u16 u17 u18 u19 u20 u21 u22 u23 u24 u25 u26 u27 u28 u29 u30 u31 u32 u33 u34 u35 u36 u37 u38 u41 u42 u43 u44 u45 u46 u47 u48 u49 u50 u51 u52 u53 u54 u55 u56 u57 u58 u59 u60 u61 u62 u63 u64 u65 u66 u67 u68 u69 u70 u71 u72 u73 u74 u75 u76 u77 u78 u79 u80 u81 u82 u83 u84 u85 u86 u87 u88 u89 u90 u91 u92 u93 u94 u95 u96 u97 u98 u99 u100 u101 u102 u103 u104 u105 u106 u107 u108 u109 u110 u111 u112 u113 u114 u115 u116 u117 u118 u119 u120 u121 u122 u123 u124 u125 u126 u127 u128 u129 u130 u131 u132 u133 u134 u135 u136 u137 u138 u139 u140 u141 u142 u143 u144 u145 u146 u147 u148 u149 u150 u151 u152 u153 u154 u155 u156 u157 u158 u159 u160 u161 u162 u163 u164 u165 : Value) (Q : Exit → Act → World → Prop)
    (hQ : ∀ w' g cc (v16 v41 v42 v43 v44 v45 v46 v47 v48 v49 v50 v51 v52 v53 v54 v55 v56 v57 v58 v59 v60 v61 v62 v63 v64 v65 v66 v67 v68 v69 v70 v71 v72 v73 v74 v75 : Value), OwnI w' base (.slice (some ⟨g, 0, none⟩) c cc) (vsP top sm k c) → Mod (fun k => k = g0) w w' →
       Q .normal ⟨#[u0, .slice sa sn sc, u2, .slice la ln lc, u4, u5, u6, u7, u8, u9, .int .i64 c, .int .i64 top, u12, .int .i64 k, .slice (some ⟨g, 0, none⟩) c cc, .bool (sameP sm cl k c), v16, u17, u18, u19, u20, u21, u22, u23, u24, u25, u26, u27, u28, u29, u30, u31, u32, u33, u34, u35, u36, u37, u38, .int .i64 c, .int .i64 c, v41, v42, v43, v44, v45, v46, v47, v48, v49, v50, v51, v52, v53, v54, v55, v56, v57, v58, v59, v60, v61, v62, v63, v64, v65, v66, v67, v68, v69, v70, v71, v72, v73, v74, v75, u76, u77, u78, u79, u80, u81, u82, u83, u84, u85, u86, u87, u88, u89, u90, u91, u92, u93, u94, u95, u96, u97, u98, u99, u100, u101, u102, u103, u104, u105, u106, u107, u108, u109, u110, u111, u112, u113, u114, u115, u116, u117, u118, u119, u120, u121, u122, u123, u124, u125, u126, u127, u128, u129, u130, u131, u132, u133, u134, u135, u136, u137, u138, u139, u140, u141, u142, u143, u144, u145, u146, u147, u148, u149, u150, u151, u152, u153, u154, u155, u156, u157, u158, u159, u160, u161, u162, u163, u164, u165], []⟩ w')
    (hb0 : b0 = sameP sm cl k 0) :
    Code.wp Tryz.prog (navc [1, 1, 1, 0, 1, 0, 0, 1, 0, 0, 1, 1, 0, 1] (textOf Tryz.f37)) Q
      ⟨#[u0, .slice sa sn sc, u2, .slice la ln lc, u4, u5, u6, u7, u8, u9, .int .i64 c, .int .i64 top, u12, .int .i64 k, .slice (some ⟨g0, 0, none⟩) 0 0, .bool b0, u16, u17, u18, u19, u20, u21, u22, u23, u24, u25, u26, u27, u28, u29, u30, u31, u32, u33, u34, u35, u36, u37, u38, .int .i64 c, .int .i64 0, u41, u42, u43, u44, u45, u46, u47, u48, u49, u50, u51, u52, u53, u54, u55, u56, u57, u58, u59, u60, u61, u62, u63, u64, u65, u66, u67, u68, u69, u70, u71, u72, u73, u74, u75, u76, u77, u78, u79, u80, u81, u82, u83, u84, u85, u86, u87, u88, u89, u90, u91, u92, u93, u94, u95, u96, u97, u98, u99, u100, u101, u102, u103, u104, u105, u106, u107, u108, u109, u110, u111, u112, u113, u114, u115, u116, u117, u118, u119, u120, u121, u122, u123, u124, u125, u126, u127, u128, u129, u130, u131, u132, u133, u134, u135, u136, u137, u138, u139, u140, u141, u142, u143, u144, u145, u146, u147, u148, u149, u150, u151, u152, u153, u154, u155, u156, u157, u158, u159, u160, u161, u162, u163, u164, u165], []⟩ w := by
  subst hb0
  conv => arg 2; whnf
  dsimp only
  have HQ := Lib.hid hQ; have HS := Lib.hid hS; have HSM := Lib.hid hsm; have HCL := Lib.hid hcl; have HSB := Lib.hid hsb; have H0 := Lib.hid hown
  clear hQ hS hsm hcl hsb hown
  go_wp2
  go_loopg [14, 15, 16, 40] (c - 0) (fun i v14 v15 _ v40 wr => ∃ j g cc : Nat, j ≤ c ∧ i = c - j ∧ v40 = .int .i64 j ∧ v15 = .bool (sameP sm cl k j) ∧ v14 = .slice (some ⟨g, 0, none⟩) j cc ∧ OwnI wr base (.slice (some ⟨g, 0, none⟩) j cc) (vsP top sm k j) ∧ Mod (fun k => k = g0) w wr ∧ (g = g0 ∨ w.heap.size ≤ g))
  case atStart => exact ⟨0, g0, 0, by omega, rfl, rfl, rfl, rfl, H0.out, Mod.refl _ _, Or.inl rfl⟩
  case round =>
    obtain ⟨j, g, cc, hj, hkk, rfl, rfl, rfl, own, mm, hg0⟩ := hrel
    have HK := Lib.hid hkk; have OWN := Lib.hid own; have MM := Lib.hid mm
    clear hkk own mm
    have hbg := World.ownsRow.lt OWN.out g rfl
    have hb0 := World.ownsRow.lt H0.out g0 rfl
    by_cases hlt : j < c
    · have hws := MM.out.size
      have hkj : k + j < sm.length := by have := HSM.out; omega
      obtain ⟨hs1, hs2⟩ := HS.out wr (MM.out.mono (fun k _ h => by omega))
      obtain ⟨b1, o1, rfl, q1⟩ := hs1.some (k + j) hkj
      have hv := getD_le HSB.out (k + j) (by decide)
      have hvs : vsP top sm k (j + 1) = vsP top sm k j ++ [sm.getD (k + j) 0 * 65535 / top] := rfl
      have hss : sameP sm cl k (j + 1) = (sameP sm cl k j && (decide (j < cl.length) && decide (sm.getD (k + j) 0 = cl.getD j 0))) := rfl
      have HVS := Lib.hid hvs; have HSS := Lib.hid hss
      have e0 : ((k : Int) + (j : Int)) = ((k + j : Nat) : Int) := by omega
      clear hvs hss hs1
      have hq := HS.out
      generalize hx : sm.getD (k + j) 0 = x at *
      have HX := Lib.hid hx
      clear hx hq
      have hdiv : ((x : Int) * 65535 / (top : Int)) = ((x * 65535 / top : Nat) : Int) := by
        rw [Int.natCast_ediv, Int.natCast_mul]; rfl
      have hcell : (wr.alloc (.cells #[.int .i64 ((x : Int) * 65535 / (top : Int))] 3)).cell? ⟨wr.heap.size, 0, none⟩ = some (.int .i64 (x * 65535 / top : Nat)) := by
        rw [World.cell?_alloc_new, hdiv]; rfl
      have HCE := Lib.hid hcell
      clear hdiv hcell e0
      have i1 : (k : Int) + (j : Int) < (sn : Int) := by have := HSM.out; omega
      go_upto_region 12 with (at_builtin; go_must (refine wpList_appI rfl (.tmp 43) (.tmp 53) rfl base j (.slice (some ⟨g, 0, none⟩) j cc) (vsP top sm k j) (vsP_length ..) rfl (OWN.out.mod ((Mod.refl (fun _ => False) wr).alloc _) (fun _ _ => id)) wr.heap.size 0 1 (x * 65535 / top) rfl HCE.out (by omega) (by simp; omega) ?_; intro g2 c2 w2 hown2 hm2 hg2))
      have m2 : Mod (fun k => k = g) wr w2 := ((Mod.refl _ wr).alloc _).trans (hm2.out.mono (fun k _ hk => by simp [Value.ownBlock] at hk; exact hk.symm))
      have hown := hown2.out
      rw [← HVS.out] at hown
      have hg3 : g2 = g0 ∨ w.heap.size ≤ g2 := by
        rcases hg2.out with h | h
        · simp [Value.ownBlock] at h; omega
        · right; rw [h]; simp; omega
      have mm2 : Mod (fun k => k = g0) w w2 := MM.out.then m2 (fun k hk h => by omega)
      obtain ⟨hs1, hs2⟩ := HS.out w2 (mm2.mono (fun k _ h => by omega))
      obtain ⟨b1', o1', he1, q1'⟩ := hs1.some (k + j) hkj
      cases he1
      rw [HX.out] at q1'
      have HOWN := Lib.hid hown; have M2 := Lib.hid mm2
      clear hown mm2 hown2 hm2 hg2 m2 q1 hs1 HCE HVS OWN MM
      cases hsame : sameP sm cl k j
      · have HSB2 : Hid (sameP sm cl k (j + 1) = false) := Lib.hid (by rw [HSS.out, hsame, Bool.false_and])
        clear hsame HSS hs2
        go_wp2
        go_quiet (fail)
        go_wp2
        go_roundg (c - (j + 1))
        case measure => have := HK.out; omega
        case rel => exact ⟨j + 1, g2, c2, by omega, rfl, by go_num, by rw [HSB2.out], rfl, HOWN.out, M2.out.drewN _, hg3⟩
      · by_cases hjl : j < cl.length
        · obtain ⟨b2, o2, rfl, q2⟩ := hs2.some j hjl
          have i2 : (j : Int) < (ln : Int) := by have := HCL.out; omega
          have i3 : (0 : Int) ≤ (j : Int) := by omega
          by_cases hxy : x = cl.getD j 0
          · have HSB2 : Hid (sameP sm cl k (j + 1) = true) := Lib.hid (by rw [HSS.out, hsame, decide_eq_true hjl, decide_eq_true hxy]; rfl)
            rw [← hxy] at q2
            clear hsame HSS hs2 hxy
            go_wp2
            go_quiet (fail)
            go_wp2
            go_roundg (c - (j + 1))
            case measure => have := HK.out; omega
            case rel => exact ⟨j + 1, g2, c2, by omega, rfl, by go_num, by rw [HSB2.out], rfl, HOWN.out, M2.out.drewN _, hg3⟩
          · have HSB2 : Hid (sameP sm cl k (j + 1) = false) := Lib.hid (by rw [HSS.out, hsame, decide_eq_true hjl, decide_eq_false hxy]; rfl)
            generalize cl.getD j 0 = y at *
            have i4 : ((x : Int) == (y : Int)) = false := by simp; omega
            clear hsame HSS hs2 hxy
            go_wp2
            go_quiet (fail)
            go_wp2
            go_roundg (c - (j + 1))
            case measure => have := HK.out; omega
            case rel => exact ⟨j + 1, g2, c2, by omega, rfl, by go_num, by rw [HSB2.out], rfl, HOWN.out, M2.out.drewN _, hg3⟩
        · have HSB2 : Hid (sameP sm cl k (j + 1) = false) := Lib.hid (by rw [HSS.out, hsame, decide_eq_false hjl]; rfl)
          have i2 : ¬ (j : Int) < (ln : Int) := by have := HCL.out; omega
          have i3 : decide (j < ln) = false := decide_eq_false (by omega)
          clear hsame HSS hs2
          go_wp2
          go_quiet (fail)
          go_wp2
          go_roundg (c - (j + 1))
          case measure => have := HK.out; omega
          case rel => exact ⟨j + 1, g2, c2, by omega, rfl, by go_num, by rw [HSB2.out], rfl, HOWN.out, M2.out.drewN _, hg3⟩
    · obtain rfl : j = c := by omega
      go_wp2
      exact HQ.out _ g cc _ _ _ _ _ _ _ _ _ _ _ _ _ _ _ _ _ _ _ _ _ _ _ _ _ _ _ _ _ _ _ _ _ _ _ _ OWN.out MM.out
end Go.Proofs.YtnpkgmgedgcjmaaGreatDoor
