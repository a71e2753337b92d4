/- The law's images of numbers: the palette. No conditions but those in each theorem's own binders. -/
import Derived.Test.YtnpkgmgedgcjmaaGreatDoorCE42
namespace Go.Proofs.YtnpkgmgedgcjmaaGreatDoor
set_option linter.unusedVariables false
set_option linter.unusedSimpArgs false
open Go.RowKit Go.Png

def palD : Dt := ⟨65535, 0, 0, 65535⟩
/-- The palette of an image. -/
def palL (ps : List Shd) (colour top : Nat) : List Dt := if colour = 3 then (if ps.length = 0 then [palD] else ps.map Shd.dot).take top else []
def topL (ps : List Shd) (colour top : Nat) : Nat := if colour = 3 then (palL ps colour top).length else top
/-- A slice's value, and pixels that lie there. -/
structure DtsV (w : World) (base : Nat) (v : Value) (l : List Dt) : Prop where
  ex : ∃ A n c, v = .slice A n c ∧ l.length = n ∧ n ≤ c ∧ c ≤ maxLen ∧ SlD w A l ∧ (∀ b o, A = some ⟨b, o, none⟩ → base ≤ b ∧ b < w.heap.size) ∧ (n = 0 → (A = none ∧ c = 0) ∨ ∃ b o, A = some ⟨b, o, none⟩)
theorem DtsV.mod {w w' : World} {base : Nat} {v : Value} {l : List Dt} (h : DtsV w base v l) {S : Nat → Prop} (m : Mod S w w') (hS : ∀ k, base ≤ k → k < w.heap.size → ¬ S k) : DtsV w' base v l := by
  obtain ⟨A, n, c, h1, h2, h3, h4, h5, h6, h7⟩ := h.ex
  refine ⟨A, n, c, h1, h2, h3, h4, ?_, fun b o hb => ⟨(h6 b o hb).1, Nat.lt_of_lt_of_le (h6 b o hb).2 m.size⟩, h7⟩
  rcases h5 with h5 | ⟨b, o, rfl, h5⟩
  · exact Or.inl h5
  · have hb := h6 b o rfl
    exact Or.inr ⟨b, o, rfl, fun i hi => (h5 i hi).mod m (hS b hb.1 hb.2)⟩

set_option maxRecDepth 100000 in
set_option maxHeartbeats 4000000 in
theorem pal_cut (w : World) (DB base g n c top : Nat) (s : Shp) (l : List Dt) (vd : Value) (hd : DrAt w DB s (.slice none 0 0) (.slice (some ⟨g, 0, none⟩) n c) (.slice none 0 0) vd) (hl : l.length = n) (hown : OwnD w base g c l) (hg : g ≠ DB) (hn : n ≤ 4294967296) (ht1 : 1 ≤ top) (ht2 : top ≤ 65536)
    (u0 u1 u2 u3 u4 u5 u6 u7 u8 u9 u10 u11 u12 u13 u14 u15 u16 u18 u20 u21 u22 u23 u24 u25 u26 u27 u28 u29 u30 u31 u32 u33 u34 u35 u36 u37 u38 u39 u40 u41 u42 u43 u44 u45 u46 u47 u48 u49 u50 u51 u52 u53 u54 u55 u56 u57 u58 u59 u60 u61 u62 u63 u64 u65 u66 u67 u68 u69 u70 u71 u72 u73 u74 u75 u76 u77 u78 u79 u80 u81 u82 u83 u84 u85 u86 u87 u88 u89 u90 u91 u92 u93 u94 u95 u96 u97 u98 u99 u100 u101 u102 u103 u104 u105 u106 u107 u108 u109 u110 u111 u112 u113 u114 u115 u116 u117 u118 u119 u120 u121 u122 u123 u124 u125 u126 u127 u128 u129 u130 u131 u132 u133 u134 u135 u136 u137 u138 u139 u140 : Value) (Q : Exit → Act → World → Prop)
    (hQ : ∀ w' vp (v51 v52 v53 v54 v55 v56 v57 v58 v59 v60 v61 v62 : Value), DrAt w' DB s (.slice none 0 0) vp (.slice none 0 0) vd → DtsV w' base vp (l.take top) → Mod (fun k => k = DB) w w' →
       Q .normal ⟨#[u0, u1, u2, u3, u4, u5, u6, u7, u8, u9, u10, u11, u12, u13, u14, u15, u16, .pointer (some ⟨DB, 0, none⟩), u18, .int .i64 ((l.take top).length : Nat), u20, u21, u22, u23, u24, u25, u26, u27, u28, u29, u30, u31, u32, u33, u34, u35, u36, u37, u38, u39, u40, u41, u42, u43, u44, u45, u46, u47, u48, u49, u50, v51, v52, v53, v54, v55, v56, v57, v58, v59, v60, v61, v62, u63, u64, u65, u66, u67, u68, u69, u70, u71, u72, u73, u74, u75, u76, u77, u78, u79, u80, u81, u82, u83, u84, u85, u86, u87, u88, u89, u90, u91, u92, u93, u94, u95, u96, u97, u98, u99, u100, u101, u102, u103, u104, u105, u106, u107, u108, u109, u110, u111, u112, u113, u114, u115, u116, u117, u118, u119, u120, u121, u122, u123, u124, u125, u126, u127, u128, u129, u130, u131, u132, u133, u134, u135, u136, u137, u138, u139, u140], []⟩ w') :
    Code.wp Tryz.prog (navc [1, 1, 1, 1, 0, 1, 0, 1, 1] (textOf Tryz.f17)) Q
      ⟨#[u0, u1, u2, u3, u4, u5, u6, u7, u8, u9, u10, u11, u12, u13, u14, u15, u16, .pointer (some ⟨DB, 0, none⟩), u18, .int .i64 top, u20, u21, u22, u23, u24, u25, u26, u27, u28, u29, u30, u31, u32, u33, u34, u35, u36, u37, u38, u39, u40, u41, u42, u43, u44, u45, u46, u47, u48, u49, u50, u51, u52, u53, u54, u55, u56, u57, u58, u59, u60, u61, u62, u63, u64, u65, u66, u67, u68, u69, u70, u71, u72, u73, u74, u75, u76, u77, u78, u79, u80, u81, u82, u83, u84, u85, u86, u87, u88, u89, u90, u91, u92, u93, u94, u95, u96, u97, u98, u99, u100, u101, u102, u103, u104, u105, u106, u107, u108, u109, u110, u111, u112, u113, u114, u115, u116, u117, u118, u119, u120, u121, u122, u123, u124, u125, u126, u127, u128, u129, u130, u131, u132, u133, u134, u135, u136, u137, u138, u139, u140], []⟩ w := by
  conv => arg 2; whnf
  dsimp only
  subst hl
  have d6 := hd.p; have f6 := hd.fz 6
  have hcap := hown.cap
  have hbg := hown.base
  obtain ⟨m, hm⟩ : ∃ m, m = min top l.length := ⟨_, rfl⟩
  have htk : (l.take top).length = m := by rw [hm, List.length_take]
  have hml : m ≤ l.length := by omega
  have fin : ∀ w', w' = w.setCell ⟨DB, 6, none⟩ (.slice (some ⟨g, 0, none⟩) m c) → DrAt w' DB s (.slice none 0 0) (.slice (some ⟨g, 0, none⟩) m c) (.slice none 0 0) vd ∧ DtsV w' base (.slice (some ⟨g, 0, none⟩) m c) (l.take top) ∧ Mod (fun k => k = DB) w w' := by
    intro w' hw
    subst hw
    have ms : Mod (fun k => k = DB) w (w.setCell ⟨DB, 6, none⟩ (.slice (some ⟨g, 0, none⟩) m c)) := (Mod.refl (fun k => k = DB) w).setCell (p := ⟨DB, 6, none⟩) (Or.inl rfl) _
    refine ⟨hd.setP _, ⟨some ⟨g, 0, none⟩, m, c, rfl, htk, by omega, hcap.2, Or.inr ⟨g, 0, rfl, fun i hi => ?_⟩, fun b o h => ?_, fun _ => Or.inr ⟨_, _, rfl⟩⟩, ms⟩
    · have hil : i < l.length := by rw [List.length_take] at hi; omega
      rw [List.getElem_take, Nat.zero_add]
      exact (hown.at i hil).mod ms hg
    · cases h
      exact ⟨hbg.1, Nat.lt_of_lt_of_le hbg.2 ms.size⟩
  have HQ := Lib.hid hQ; have FIN := Lib.hid fin; have HTK := Lib.hid htk; have HM := Lib.hid hm
  have hq := hQ
  rw [htk] at hq
  have HQ2 := Lib.hid hq
  clear hQ hd hown hq fin htk hm hbg
  by_cases hlt : l.length ≤ top
  · obtain rfl : m = l.length := by have := HM.out; omega
    have i1 : (l.length : Int) ≤ (top : Int) := by omega
    have i2 : l.length ≤ c := hcap.1
    clear hlt HM
    go_wp2
    obtain ⟨f1, f2, f3⟩ := FIN.out _ rfl
    exact HQ2.out _ _ _ _ _ _ _ _ _ _ _ _ _ _ f1 f2 f3
  · obtain rfl : m = top := by have := HM.out; omega
    have i1 : ¬ (l.length : Int) ≤ (m : Int) := by omega
    have i2 : m ≤ c := by omega
    clear hlt HM
    go_wp2
    obtain ⟨f1, f2, f3⟩ := FIN.out _ rfl
    exact HQ2.out _ _ _ _ _ _ _ _ _ _ _ _ _ _ f1 f2 f3

set_option maxRecDepth 100000 in
set_option maxHeartbeats 4000000 in
theorem drawn_pal (w : World) (DB : Nat) (s : Shp) (qa : Option Addr) (qn qc colour top : Nat) (ps : List Shd) (vd : Value) (hd : DrAt w DB s (.slice none 0 0) (.slice none 0 0) (.slice none 0 0) vd)
    (hps : ps.length = qn) (hP : SlS w qa ps) (hqn : qn ≤ 4294967296) (ht1 : 1 ≤ top) (ht2 : top ≤ 65536)
    (u0 u1 u2 u3 u4 u6 u7 u8 u9 u10 u11 u12 u13 u14 u16 u18 u20 u21 u22 u23 u24 u25 u26 u27 u28 u29 u30 u31 u32 u33 u34 u35 u36 u37 u38 u39 u40 u41 u42 u43 u44 u45 u46 u47 u48 u49 u50 u51 u52 u53 u54 u55 u56 u57 u58 u59 u60 u61 u62 u63 u64 u65 u66 u67 u68 u69 u70 u71 u72 u73 u74 u75 u76 u77 u78 u79 u80 u81 u82 u83 u84 u85 u86 u87 u88 u89 u90 u91 u92 u93 u94 u95 u96 u97 u98 u99 u100 u101 u102 u103 u104 u105 u106 u107 u108 u109 u110 u111 u112 u113 u114 u115 u116 u117 u118 u119 u120 u121 u122 u123 u124 u125 u126 u127 u128 u129 u130 u131 u132 u133 u134 u135 u136 u137 u138 u139 u140 : Value) (Q : Exit → Act → World → Prop)
    (hQ : ∀ w' vp (v40 v41 v42 v43 v44 v45 v46 v47 v48 v49 v50 v51 v52 v53 v54 v55 v56 v57 v58 v59 v60 v61 v62 : Value), DrAt w' DB s (.slice none 0 0) vp (.slice none 0 0) vd → DtsV w' w.heap.size vp (palL ps colour top) → Mod (fun k => k = DB) w w' →
       Q .normal ⟨#[u0, u1, u2, u3, u4, .slice qa qn qc, u6, u7, u8, u9, u10, u11, u12, u13, u14, .int .i64 colour, u16, .pointer (some ⟨DB, 0, none⟩), u18, .int .i64 (topL ps colour top : Nat), u20, u21, u22, u23, u24, u25, u26, u27, u28, u29, u30, u31, u32, u33, u34, u35, u36, u37, u38, u39, v40, v41, v42, v43, v44, v45, v46, v47, v48, v49, v50, v51, v52, v53, v54, v55, v56, v57, v58, v59, v60, v61, v62, u63, u64, u65, u66, u67, u68, u69, u70, u71, u72, u73, u74, u75, u76, u77, u78, u79, u80, u81, u82, u83, u84, u85, u86, u87, u88, u89, u90, u91, u92, u93, u94, u95, u96, u97, u98, u99, u100, u101, u102, u103, u104, u105, u106, u107, u108, u109, u110, u111, u112, u113, u114, u115, u116, u117, u118, u119, u120, u121, u122, u123, u124, u125, u126, u127, u128, u129, u130, u131, u132, u133, u134, u135, u136, u137, u138, u139, u140], []⟩ w') :
    Code.wp Tryz.prog (navc [1, 1, 1, 1, 0] (textOf Tryz.f17)) Q
      ⟨#[u0, u1, u2, u3, u4, .slice qa qn qc, u6, u7, u8, u9, u10, u11, u12, u13, u14, .int .i64 colour, u16, .pointer (some ⟨DB, 0, none⟩), u18, .int .i64 top, u20, u21, u22, u23, u24, u25, u26, u27, u28, u29, u30, u31, u32, u33, u34, u35, u36, u37, u38, u39, u40, u41, u42, u43, u44, u45, u46, u47, u48, u49, u50, u51, u52, u53, u54, u55, u56, u57, u58, u59, u60, u61, u62, u63, u64, u65, u66, u67, u68, u69, u70, u71, u72, u73, u74, u75, u76, u77, u78, u79, u80, u81, u82, u83, u84, u85, u86, u87, u88, u89, u90, u91, u92, u93, u94, u95, u96, u97, u98, u99, u100, u101, u102, u103, u104, u105, u106, u107, u108, u109, u110, u111, u112, u113, u114, u115, u116, u117, u118, u119, u120, u121, u122, u123, u124, u125, u126, u127, u128, u129, u130, u131, u132, u133, u134, u135, u136, u137, u138, u139, u140], []⟩ w := by
  conv => arg 2; whnf
  dsimp only
  have HQ := Lib.hid hQ; have HD := Lib.hid hd; have HPS := Lib.hid hps; have HP := Lib.hid hP
  clear hQ hd hps hP
  by_cases h3 : colour = 3
  · subst h3
    have hdt := lawsDots w qa qn qc ps HPS.out HP.out hqn
    have HDT := Lib.hid hdt
    clear hdt
    go_wp2_with (fail)
    refine HDT.out.mono ?_
    rintro e w2 ⟨g, c, rfl, own, m2⟩
    have O2 := Lib.hid own; have M2 := Lib.hid m2; have D2 := Lib.hid (HD.out.mod m2 id)
    have hcp := own.cap
    rw [List.length_map, HPS.out] at hcp
    clear own m2 HDT
    have d6 := D2.out.p; have f6 := D2.out.fz 6
    have hlg := O2.out.base
    go_upto_region 6 with fail
    have hd3 := D2.out.setP (.slice (some ⟨g, 0, none⟩) qn c)
    have m3 : Mod (fun k => k = DB) w (w2.setCell ⟨DB, 6, none⟩ (.slice (some ⟨g, 0, none⟩) qn c)) := (M2.out.mono (L' := fun k => k = DB) (fun _ _ h => h.elim)).setCell (p := ⟨DB, 6, none⟩) (Or.inl rfl) _
    have ms : Mod (fun k => k = DB) w2 (w2.setCell ⟨DB, 6, none⟩ (.slice (some ⟨g, 0, none⟩) qn c)) := (Mod.refl (fun k => k = DB) w2).setCell (p := ⟨DB, 6, none⟩) (Or.inl rfl) _
    have hne : g ≠ DB := by have := HD.out.lt; omega
    have o3 := O2.out.mod ms hne
    have hs3 : w2.heap.size = (w2.setCell ⟨DB, 6, none⟩ (.slice (some ⟨g, 0, none⟩) qn c)).heap.size := by simp
    have D3 := Lib.hid hd3; have M3 := Lib.hid m3; have O3 := Lib.hid o3
    clear hd3 m3 ms o3 D2 M2 O2 d6 f6 hs3
    generalize w2.setCell ⟨DB, 6, none⟩ (.slice (some ⟨g, 0, none⟩) qn c) = w3 at *
    have d6 := D3.out.p; have f6 := D3.out.fz 6
    have hlt3 := D3.out.lt
    have hws := M3.out.size
    by_cases h0 : qn = 0
    · have hpl : palL ps 3 top = [palD].take top := by unfold palL; rw [if_pos rfl, if_pos (by rw [HPS.out]; exact h0)]
      have htl : topL ps 3 top = ([palD].take top).length := by unfold topL; rw [if_pos rfl, hpl]
      have HPL := Lib.hid hpl; have HTL := Lib.hid htl
      clear hpl htl
      subst h0
      have cA : (w3.alloc (.cells #[.int .i64 65535, .int .i64 0, .int .i64 0, .int .i64 65535] 75)).cell? ⟨DB, 6, none⟩ = some (.slice (some ⟨g, 0, none⟩) 0 c) := by rw [World.cell?_alloc_old _ _ _ (Nat.ne_of_lt hlt3)]; exact d6
      have mA : Mod (fun _ => False) w3 (w3.alloc (.cells #[.int .i64 65535, .int .i64 0, .int .i64 0, .int .i64 65535] 75)) := (Mod.refl _ w3).alloc _
      have fA := (D3.out.mod mA id).fz 6
      have nA : OwnD (w3.alloc (.cells #[.int .i64 65535, .int .i64 0, .int .i64 0, .int .i64 65535] 75)) w3.heap.size w3.heap.size 1 [palD] := World.ownsRow_lit (size := 4) w3 (dotsC [palD]).toArray 1 (Nat.le_refl _) (by unfold maxLen; omega) rfl
      have MA := Lib.hid mA; have NA := Lib.hid nA
      clear mA nA d6 f6
      go_upto_if 47 with fail
      rename_i K hK
      have hK2 := fun (a : Act) (w : World) (h : Hid _) => hK a w h.out
      clear hK
      go_wp2
      refine Lib.hid ?_
      have hz4 : (w3.setCell ⟨DB, 6, none⟩ (.slice (some ⟨w3.heap.size, 0, none⟩) 1 1)).heap.size = w3.heap.size := by simp
      have m4 : Mod (fun k => k = DB) w ((w3.setCell ⟨DB, 6, none⟩ (.slice (some ⟨w3.heap.size, 0, none⟩) 1 1)).alloc (.cells #[.int .i64 65535, .int .i64 0, .int .i64 0, .int .i64 65535] 75)) := (M3.out.trans ((Mod.refl (fun k => k = DB) _).setCell (p := ⟨DB, 6, none⟩) (Or.inl rfl) _)).alloc _
      have d4 := (D3.out.setP (.slice (some ⟨w3.heap.size, 0, none⟩) 1 1)).mod ((Mod.refl (fun _ => False) _).alloc (.cells #[.int .i64 65535, .int .i64 0, .int .i64 0, .int .i64 65535] 75)) id
      have n4 : OwnD ((w3.setCell ⟨DB, 6, none⟩ (.slice (some ⟨w3.heap.size, 0, none⟩) 1 1)).alloc (.cells #[.int .i64 65535, .int .i64 0, .int .i64 0, .int .i64 65535] 75)) w3.heap.size w3.heap.size 1 [palD] := by
        have h := World.ownsRow_lit (size := 4) (e := 75) (w3.setCell ⟨DB, 6, none⟩ (.slice (some ⟨w3.heap.size, 0, none⟩) 1 1)) (dotsC [palD]).toArray 1 (Nat.le_refl _) (by unfold maxLen; omega) rfl
        rw [hz4] at h
        exact h
      have D4 := Lib.hid d4; have N4 := Lib.hid (n4.mono hws); have M4 := Lib.hid m4
      clear cA fA m4 d4 n4 MA NA hz4
      generalize (w3.setCell ⟨DB, 6, none⟩ (.slice (some ⟨w3.heap.size, 0, none⟩) 1 1)).alloc (.cells #[.int .i64 65535, .int .i64 0, .int .i64 0, .int .i64 65535] 75) = w4 at *
      refine pal_cut w4 DB w.heap.size w3.heap.size 1 1 top s [palD] vd D4.out rfl N4.out (by omega) (by omega) ht1 ht2 _ _ _ _ _ _ _ _ _ _ _ _ _ _ _ _ _ _ _ _ _ _ _ _ _ _ _ _ _ _ _ _ _ _ _ _ _ _ _ _ _ _ _ _ _ _ _ _ _ _ _ _ _ _ _ _ _ _ _ _ _ _ _ _ _ _ _ _ _ _ _ _ _ _ _ _ _ _ _ _ _ _ _ _ _ _ _ _ _ _ _ _ _ _ _ _ _ _ _ _ _ _ _ _ _ _ _ _ _ _ _ _ _ _ _ _ _ _ _ _ _ _ _ _ _ _ _ _ _ _ _ _ _ _ _ _ _ _ _ _ ?_
      intro w5 vp _ _ _ _ _ _ _ _ _ _ _ _ hdr hdv m5
      have hq := HQ.out
      rw [HTL.out] at hq
      exact hq w5 vp _ _ _ _ _ _ _ _ _ _ _ _ _ _ _ _ _ _ _ _ _ _ _ hdr (by rw [HPL.out]; exact hdv) (M4.out.trans m5)
    · have hpl : palL ps 3 top = (ps.map Shd.dot).take top := by unfold palL; rw [if_pos rfl, if_neg (by rw [HPS.out]; exact h0)]
      have htl : topL ps 3 top = ((ps.map Shd.dot).take top).length := by unfold topL; rw [if_pos rfl, hpl]
      have HPL := Lib.hid hpl; have HTL := Lib.hid htl
      have i0 : ((qn : Int) == 0) = false := by simp; omega
      clear hpl htl d6 f6
      go_upto_if 47 with fail
      rename_i K hK
      have hK2 := fun (a : Act) (w : World) (h : Hid _) => hK a w h.out
      clear hK
      go_wp2
      refine Lib.hid ?_
      refine pal_cut w3 DB w.heap.size g qn c top s (ps.map Shd.dot) vd D3.out (by rw [List.length_map, HPS.out]) O3.out hne hqn ht1 ht2 _ _ _ _ _ _ _ _ _ _ _ _ _ _ _ _ _ _ _ _ _ _ _ _ _ _ _ _ _ _ _ _ _ _ _ _ _ _ _ _ _ _ _ _ _ _ _ _ _ _ _ _ _ _ _ _ _ _ _ _ _ _ _ _ _ _ _ _ _ _ _ _ _ _ _ _ _ _ _ _ _ _ _ _ _ _ _ _ _ _ _ _ _ _ _ _ _ _ _ _ _ _ _ _ _ _ _ _ _ _ _ _ _ _ _ _ _ _ _ _ _ _ _ _ _ _ _ _ _ _ _ _ _ _ _ _ _ _ _ _ ?_
      intro w5 vp _ _ _ _ _ _ _ _ _ _ _ _ hdr hdv m5
      have hq := HQ.out
      rw [HTL.out] at hq
      exact hq w5 vp _ _ _ _ _ _ _ _ _ _ _ _ _ _ _ _ _ _ _ _ _ _ _ hdr (by rw [HPL.out]; exact hdv) (M3.out.trans m5)
  · have hpl : palL ps colour top = [] := if_neg h3
    have htl : topL ps colour top = top := if_neg h3
    have HPL := Lib.hid hpl; have HTL := Lib.hid htl
    have i3 : ((colour : Int) == 3) = false := by simp; omega
    clear hpl htl h3
    have hq := HQ.out
    rw [HTL.out] at hq
    have HQ2 := Lib.hid hq
    clear hq HQ
    go_wp2
    exact HQ2.out w _ _ _ _ _ _ _ _ _ _ _ _ _ _ _ _ _ _ _ _ _ _ _ _ HD.out ⟨none, 0, 0, rfl, by rw [HPL.out]; rfl, Nat.le_refl _, Nat.zero_le _, by rw [HPL.out]; exact Or.inl rfl, fun b o h => (by cases h), fun _ => Or.inl ⟨rfl, rfl⟩⟩ (Mod.refl _ _)
end Go.Proofs.YtnpkgmgedgcjmaaGreatDoor
