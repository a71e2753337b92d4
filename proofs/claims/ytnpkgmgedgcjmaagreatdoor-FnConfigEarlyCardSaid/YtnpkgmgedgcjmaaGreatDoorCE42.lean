/- The law's images of numbers: what is clear. No conditions but those in each theorem's own binders. -/
import Derived.Test.YtnpkgmgedgcjmaaGreatDoorCE41
namespace Go.Proofs.YtnpkgmgedgcjmaaGreatDoor
set_option linter.unusedVariables false
set_option linter.unusedSimpArgs false
open Go.RowKit Go.Png

/-- The first samples that are clear. -/
def clP (clear : List Nat) (top : Nat) : Nat → List Nat
  | 0 => []
  | k + 1 => clP clear top k ++ [clear.getD k 0 % top]
theorem clP_length (clear : List Nat) (top : Nat) : ∀ k, (clP clear top k).length = k := by
  intro k
  induction k with
  | zero => rfl
  | succ k ih => rw [clP, List.length_append, ih]; rfl
theorem clP_lt (clear : List Nat) (top : Nat) (ht : 0 < top) : ∀ k, ∀ x ∈ clP clear top k, x < top := by
  intro k
  induction k with
  | zero => intro x hx; simp [clP] at hx
  | succ k ih =>
    intro x hx
    rw [clP, List.mem_append] at hx
    rcases hx with hx | hx
    · exact ih x hx
    · simp at hx; subst hx; exact Nat.mod_lt _ ht

set_option maxRecDepth 100000 in
set_option maxHeartbeats 4000000 in
theorem drawn_put2 (w : World) (base DB n : Nat) (s : Shp) (vs vp v vd : Value) (y top : Nat) (l : List Nat) (hbase : base ≤ w.heap.size) (hDB : DB < base) (hd : DrAt w DB s vs vp v vd) (hl : l.length = n) (hown : OwnI w base v l) (hn : n ≤ 1000000) (hy : y < 65536) (ht1 : 1 ≤ top) (ht2 : top ≤ 65536)
    (u0 u1 u2 u3 u4 u5 u6 u7 u8 u9 u10 u11 u12 u13 u14 u15 u16 u18 u20 u21 u22 u24 u25 u26 u27 u28 u29 u30 u31 u32 u33 u34 u35 u36 u37 u38 u39 u40 u41 u42 u43 u44 u45 u46 u47 u48 u49 u50 u51 u52 u53 u54 u55 u56 u57 u58 u59 u60 u61 u62 u63 u64 u65 u66 u67 u68 u69 u70 u71 u72 u73 u74 u75 u76 u77 u78 u79 u80 u81 u82 u83 u84 u85 u86 u87 u88 u89 u90 u91 u92 u93 u94 u95 u96 u97 u98 u99 u100 u101 u102 u103 u104 u105 u106 u107 u108 u109 u110 u111 u112 u113 u114 u115 u116 u117 u118 u119 u120 u121 u122 u123 u124 u125 u126 u127 u128 u129 u130 u131 u132 u133 u134 u135 u136 u137 u138 u139 u140 : Value) (Q : Exit → Act → World → Prop)
    (hQ : ∀ w' g c (v117 v118 v119 v120 v121 v122 v123 v124 v125 : Value), DrAt w' DB s vs vp (.slice (some ⟨g, 0, none⟩) (n + 1) c) vd → OwnI w' base (.slice (some ⟨g, 0, none⟩) (n + 1) c) (l ++ [y % top]) → Mod (fun k => k = DB ∨ v.ownBlock = some k) w w' → (v.ownBlock = some g ∨ w.heap.size ≤ g) →
       Q .normal ⟨#[u0, u1, u2, u3, u4, u5, u6, u7, u8, u9, u10, u11, u12, u13, u14, u15, u16, .pointer (some ⟨DB, 0, none⟩), u18, .int .i64 top, u20, u21, u22, .int .u16 y, u24, u25, u26, u27, u28, u29, u30, u31, u32, u33, u34, u35, u36, u37, u38, u39, u40, u41, u42, u43, u44, u45, u46, u47, u48, u49, u50, u51, u52, u53, u54, u55, u56, u57, u58, u59, u60, u61, u62, u63, u64, u65, u66, u67, u68, u69, u70, u71, u72, u73, u74, u75, u76, u77, u78, u79, u80, u81, u82, u83, u84, u85, u86, u87, u88, u89, u90, u91, u92, u93, u94, u95, u96, u97, u98, u99, u100, u101, u102, u103, u104, u105, u106, u107, u108, u109, u110, u111, u112, u113, u114, u115, u116, v117, v118, v119, v120, v121, v122, v123, v124, v125, u126, u127, u128, u129, u130, u131, u132, u133, u134, u135, u136, u137, u138, u139, u140], []⟩ w') :
    Code.wp Tryz.prog (navc [1, 1, 1, 1, 1, 1, 0, 1, 0, 1, 0, 0, 1, 1, 0, 0, 1] (textOf Tryz.f17)) Q
      ⟨#[u0, u1, u2, u3, u4, u5, u6, u7, u8, u9, u10, u11, u12, u13, u14, u15, u16, .pointer (some ⟨DB, 0, none⟩), u18, .int .i64 top, u20, u21, u22, .int .u16 y, u24, u25, u26, u27, u28, u29, u30, u31, u32, u33, u34, u35, u36, u37, u38, u39, u40, u41, u42, u43, u44, u45, u46, u47, u48, u49, u50, u51, u52, u53, u54, u55, u56, u57, u58, u59, u60, u61, u62, u63, u64, u65, u66, u67, u68, u69, u70, u71, u72, u73, u74, u75, u76, u77, u78, u79, u80, u81, u82, u83, u84, u85, u86, u87, u88, u89, u90, u91, u92, u93, u94, u95, u96, u97, u98, u99, u100, u101, u102, u103, u104, u105, u106, u107, u108, u109, u110, u111, u112, u113, u114, u115, u116, u117, u118, u119, u120, u121, u122, u123, u124, u125, u126, u127, u128, u129, u130, u131, u132, u133, u134, u135, u136, u137, u138, u139, u140], []⟩ w := by
  conv => arg 2; whnf
  dsimp only
  have d0 := hd.wide; have d5 := hd.l; have f5 := hd.fz 7
  have em : ((y : Int) % (top : Int)) = ((y % top : Nat) : Int) := by rw [Int.natCast_emod]
  have em2 : (y : Int).tmod (top : Int) = ((y % top : Nat) : Int) := by rw [Int.tmod_eq_emod_of_nonneg (by omega), em]
  have hc1 : (w.alloc (.cells #[.int .i64 ((y : Int) % (top : Int))] 3)).cell? ⟨w.heap.size, 0, none⟩ = some (.int .i64 (y % top : Nat)) := by rw [World.cell?_alloc_new, em]; rfl
  have hc2 : (w.alloc (.cells #[.int .i64 ((y : Int).tmod (top : Int))] 3)).cell? ⟨w.heap.size, 0, none⟩ = some (.int .i64 (y % top : Nat)) := by rw [World.cell?_alloc_new, em2]; rfl
  have em3 : (IntKind.i64.wrap (y : Int)).tmod (top : Int) = ((y % top : Nat) : Int) := by rw [IntWalk.i64_in _ (by omega), em2]
  have hc3 : (w.alloc (.cells #[.int .i64 ((IntKind.i64.wrap (y : Int)).tmod (top : Int))] 3)).cell? ⟨w.heap.size, 0, none⟩ = some (.int .i64 (y % top : Nat)) := by rw [World.cell?_alloc_new, em3]; rfl
  have hlt := hd.lt
  have HQ := Lib.hid hQ; have HD := Lib.hid hd; have HL := Lib.hid hl; have OWN := Lib.hid hown; have C1 := Lib.hid hc1; have C2 := Lib.hid hc2; have C3 := Lib.hid hc3
  have t1 : (0 : Int) < (top : Int) := by omega
  have t2 : (0 : Int) ≤ (y : Int) := by omega
  have t3 : ((top : Int) == 0) = false := by simp; omega
  clear hQ hd hl hown em em2 em3 hc1 hc2 hc3
  have t4 : ¬ (top = 0) := by omega
  have hne := World.new_ne w ⟨DB, 7, none⟩ d5
  refine wp_region_noPanic ?_
  go_region_law ((first | (refine step_appI rfl _ _ rfl base n v l HL.out rfl (OWN.out.mod (S := fun _ => False) (by first | exact (Mod.refl _ _).alloc _ | exact ((Mod.refl _ _).alloc _).drew) (fun _ _ => id)) w.heap.size 0 1 (y % top) rfl (by first | exact C1.out | exact C2.out | exact C3.out) (by omega) (by simp; omega) ?_; intro g2 c2 w2 hown2 hm2 hg2; have M2 := Lib.hid (Mod.trans (L := fun k => v.ownBlock = some k) (a := w) (by first | exact (Mod.refl _ _).alloc _ | exact ((Mod.refl _ _).alloc _).drew) hm2.out); have hDR2 := HD.out.mod M2.out (fun h => by have := (World.ownsRow.lt OWN.out) DB h; omega); have k0 := hDR2.wide; have k5 := hDR2.l; have g5 := hDR2.fz 7; have DR2 := Lib.hid hDR2; clear hDR2 hm2; go_simp)))
  all_goals
    have hb2 := World.ownsRow.lt hown2.out g2 rfl
    have hgg : v.ownBlock = some g2 ∨ w.heap.size ≤ g2 := by
      rcases hg2.out with h | h
      · exact Or.inl h
      · right; rw [h]; simp
    have ms : Mod (fun k => k = DB) w2 (w2.setCell ⟨DB, 7, none⟩ (.slice (some ⟨g2, 0, none⟩) (n + 1) c2)) := (Mod.refl (fun k => k = DB) w2).setCell (p := ⟨DB, 7, none⟩) (Or.inl rfl) _
    exact HQ.out _ g2 c2 _ _ _ _ _ _ _ _ _ (DR2.out.setL _) (hown2.out.mod ms (fun k hk h => by simp [Value.ownBlock] at hk; omega)) ((M2.out.mono (fun k _ h => Or.inr h)).trans (ms.mono (fun k _ h => Or.inl h))) hgg

set_option maxRecDepth 100000 in
set_option maxHeartbeats 4000000 in
theorem clear_round (w : World) (base DB : Nat) (s : Shp) (ua : Option Addr) (un uc top c : Nat) (ul : List Nat) (vs vp vd : Value) (hbase : base ≤ w.heap.size) (hDB : DB < base) (hd : DrAt w DB s vs vp (.slice none 0 0) vd)
    (hul : ul.length = un) (hub : ∀ x ∈ ul, x < 65536) (hU2 : ∀ w', Mod (fun k => base ≤ k ∨ k = DB) w w' → SlU w' ua ul) (hc : c ≤ 4) (hcu : c ≤ un) (ht1 : 1 ≤ top) (ht2 : top ≤ 65536)
    (u0 u1 u2 u3 u4 u5 u6 u7 u8 u9 u10 u11 u12 u13 u14 u15 u16 u18 u20 u21 u22 u23 u24 u25 u26 u27 u28 u29 u30 u31 u32 u33 u34 u35 u36 u37 u38 u39 u40 u41 u42 u43 u44 u45 u46 u47 u48 u49 u50 u51 u52 u53 u54 u55 u56 u57 u58 u59 u60 u61 u62 u63 u64 u65 u66 u67 u68 u69 u70 u71 u72 u73 u74 u75 u76 u77 u78 u79 u80 u81 u82 u83 u84 u85 u86 u87 u88 u89 u90 u91 u92 u93 u94 u95 u96 u97 u98 u99 u100 u101 u102 u103 u104 u105 u106 u107 u108 u109 u110 u114 u115 u116 u117 u118 u119 u120 u121 u122 u123 u124 u125 u126 u127 u128 u129 u130 u131 u132 u133 u134 u135 u136 u137 u138 u139 u140 : Value) (Q : Exit → Act → World → Prop)
    (hQ : ∀ w' v (v23 v114 v115 v116 v117 v118 v119 v120 v121 v122 v123 v124 v125 v126 : Value), DrAt w' DB s vs vp v vd → OwnI w' base v (clP ul top c) → Mod (fun k => k = DB ∨ base ≤ k) w w' →
       Q .normal ⟨#[u0, u1, u2, u3, u4, u5, u6, u7, u8, u9, u10, u11, u12, u13, u14, u15, u16, .pointer (some ⟨DB, 0, none⟩), u18, .int .i64 top, u20, u21, u22, v23, u24, u25, u26, u27, u28, u29, u30, u31, u32, u33, u34, u35, u36, u37, u38, u39, u40, u41, u42, u43, u44, u45, u46, u47, u48, u49, u50, u51, u52, u53, u54, u55, u56, u57, u58, u59, u60, u61, u62, u63, u64, u65, u66, u67, u68, u69, u70, u71, u72, u73, u74, u75, u76, u77, u78, u79, u80, u81, u82, u83, u84, u85, u86, u87, u88, u89, u90, u91, u92, u93, u94, u95, u96, u97, u98, u99, u100, u101, u102, u103, u104, u105, u106, u107, u108, u109, u110, .slice ua c uc, .int .i64 c, .int .i64 c, v114, v115, v116, v117, v118, v119, v120, v121, v122, v123, v124, v125, v126, u127, u128, u129, u130, u131, u132, u133, u134, u135, u136, u137, u138, u139, u140], []⟩ w') :
    Code.wp Tryz.prog (navc [1, 1, 1, 1, 1, 1, 0, 1, 0, 1] (textOf Tryz.f17)) Q
      ⟨#[u0, u1, u2, u3, u4, u5, u6, u7, u8, u9, u10, u11, u12, u13, u14, u15, u16, .pointer (some ⟨DB, 0, none⟩), u18, .int .i64 top, u20, u21, u22, u23, u24, u25, u26, u27, u28, u29, u30, u31, u32, u33, u34, u35, u36, u37, u38, u39, u40, u41, u42, u43, u44, u45, u46, u47, u48, u49, u50, u51, u52, u53, u54, u55, u56, u57, u58, u59, u60, u61, u62, u63, u64, u65, u66, u67, u68, u69, u70, u71, u72, u73, u74, u75, u76, u77, u78, u79, u80, u81, u82, u83, u84, u85, u86, u87, u88, u89, u90, u91, u92, u93, u94, u95, u96, u97, u98, u99, u100, u101, u102, u103, u104, u105, u106, u107, u108, u109, u110, .slice ua c uc, .int .i64 c, .int .i64 0, u114, u115, u116, u117, u118, u119, u120, u121, u122, u123, u124, u125, u126, u127, u128, u129, u130, u131, u132, u133, u134, u135, u136, u137, u138, u139, u140], []⟩ w := by
  conv => arg 2; whnf
  dsimp only
  have HQ := Lib.hid hQ; have HD := Lib.hid hd; have HUL := Lib.hid hul; have HUB := Lib.hid hub; have HU2 := Lib.hid hU2
  clear hQ hd hul hub hU2
  go_wp2
  go_loopg [23, 113] (c - 0) (fun gk _ v113 wr => ∃ k : Nat, ∃ v, k ≤ c ∧ gk = c - k ∧ v113 = .int .i64 k ∧ DrAt wr DB s vs vp v vd ∧ OwnI wr base v (clP ul top k) ∧ Mod (fun k => k = DB ∨ base ≤ k) w wr)
  case atStart => exact ⟨0, _, by omega, rfl, rfl, HD.out, OwnI.nil _ _, Mod.refl _ _⟩
  case round =>
    obtain ⟨k, v, hk, hkk, rfl, hdr, own, mm⟩ := hrel
    have HK := Lib.hid hkk; have HDR := Lib.hid hdr; have OWN := Lib.hid own; have MM := Lib.hid mm
    clear hkk hdr own mm
    by_cases hlt : k < c
    · have hcl := clP_length ul top k
      have hws := MM.out.size
      have hkl : k < ul.length := by have := HUL.out; omega
      have hstep : clP ul top (k + 1) = clP ul top k ++ [ul.getD k 0 % top] := rfl
      obtain ⟨b, o, rfl, q1⟩ := (HU2.out wr (MM.out.mono (fun k _ h => by rcases h with h | h; exact Or.inr h; exact Or.inl h))).some k hkl
      have hyb : ul.getD k 0 < 65536 := getD_le HUB.out k (by decide)
      generalize ul.getD k 0 = y at *
      have HSTEP := Lib.hid hstep; have HCL := Lib.hid hcl
      clear hstep hcl
      go_upto_region 22 with fail
      refine drawn_put2 wr base DB k s vs vp v vd y top (clP ul top k) (by omega) hDB HDR.out HCL.out OWN.out (by omega) hyb ht1 ht2 _ _ _ _ _ _ _ _ _ _ _ _ _ _ _ _ _ _ _ _ _ _ _ _ _ _ _ _ _ _ _ _ _ _ _ _ _ _ _ _ _ _ _ _ _ _ _ _ _ _ _ _ _ _ _ _ _ _ _ _ _ _ _ _ _ _ _ _ _ _ _ _ _ _ _ _ _ _ _ _ _ _ _ _ _ _ _ _ _ _ _ _ _ _ _ _ _ _ _ _ _ _ _ _ _ _ _ _ _ _ _ _ _ _ _ _ _ _ _ _ _ _ _ _ _ _ _ _ _ _ _ _ _ _ _ _ _ _ _ ?_
      intro w2 g2 c2 _ _ _ _ _ _ _ _ _ hdr2 own2 m2 hg2
      rw [← HSTEP.out] at own2
      have mm2 : Mod (fun k => k = DB ∨ base ≤ k) w w2 := MM.out.trans (m2.mono (fun k _ h => by rcases h with h | h; exact Or.inl h; exact Or.inr (World.ownsRow.lt OWN.out k h).1))
      have D2 := Lib.hid hdr2; have O2 := Lib.hid own2; have MM2 := Lib.hid mm2
      clear hdr2 own2 m2 mm2 OWN HDR MM HSTEP HCL hg2
      go_wp2
      go_roundg (c - (k + 1))
      case measure => have := HK.out; omega
      case rel => exact ⟨k + 1, _, by omega, rfl, by go_num, D2.out, O2.out, MM2.out⟩
    · obtain rfl : k = c := by omega
      go_wp2
      exact HQ.out _ v _ _ _ _ _ _ _ _ _ _ _ _ _ _ HDR.out OWN.out MM.out

/-- The samples of an image that are clear. -/
def clL (ul : List Nat) (colour c top : Nat) : List Nat := if (colour = 0 ∨ colour = 2) ∧ c ≤ ul.length then clP ul top c else []

set_option maxRecDepth 100000 in
set_option maxHeartbeats 4000000 in
theorem drawn_clear (w : World) (base DB : Nat) (s : Shp) (ua : Option Addr) (un uc top c colour : Nat) (ul : List Nat) (vs vp vd : Value) (hbase : base ≤ w.heap.size) (hDB : DB < base) (hd : DrAt w DB s vs vp (.slice none 0 0) vd)
    (hul : ul.length = un) (hub : ∀ x ∈ ul, x < 65536) (hU2 : ∀ w', Mod (fun k => base ≤ k ∨ k = DB) w w' → SlU w' ua ul) (hun : un ≤ 4294967296) (hc : c ≤ 4) (hcuc : un ≤ uc) (ht1 : 1 ≤ top) (ht2 : top ≤ 65536)
    (u0 u1 u2 u3 u4 u5 u7 u8 u9 u10 u11 u12 u13 u14 u16 u20 u21 u22 u23 u24 u25 u26 u27 u28 u29 u30 u31 u32 u33 u34 u35 u36 u37 u38 u39 u40 u41 u42 u43 u44 u45 u46 u47 u48 u49 u50 u51 u52 u53 u54 u55 u56 u57 u58 u59 u60 u61 u62 u63 u64 u65 u66 u67 u68 u69 u70 u71 u72 u73 u74 u75 u76 u77 u78 u79 u80 u81 u82 u83 u84 u85 u86 u87 u88 u89 u90 u91 u92 u93 u94 u95 u96 u97 u98 u99 u100 u101 u102 u103 u104 u105 u106 u107 u108 u109 u110 u111 u112 u113 u114 u115 u116 u117 u118 u119 u120 u121 u122 u123 u124 u125 u126 u127 u128 u129 u130 u131 u132 u133 u134 u135 u136 u137 u138 u139 u140 : Value) (Q : Exit → Act → World → Prop)
    (hQ : ∀ w' v (v23 v97 v98 v99 v100 v101 v102 v103 v104 v105 v106 v107 v108 v109 v110 v111 v112 v113 v114 v115 v116 v117 v118 v119 v120 v121 v122 v123 v124 v125 v126 : Value), DrAt w' DB s vs vp v vd → OwnI w' base v (clL ul colour c top) → Mod (fun k => k = DB ∨ base ≤ k) w w' →
       Q .normal ⟨#[u0, u1, u2, u3, u4, u5, .slice ua un uc, u7, u8, u9, u10, u11, u12, u13, u14, .int .i64 colour, u16, .pointer (some ⟨DB, 0, none⟩), .int .i64 c, .int .i64 top, u20, u21, u22, v23, u24, u25, u26, u27, u28, u29, u30, u31, u32, u33, u34, u35, u36, u37, u38, u39, u40, u41, u42, u43, u44, u45, u46, u47, u48, u49, u50, u51, u52, u53, u54, u55, u56, u57, u58, u59, u60, u61, u62, u63, u64, u65, u66, u67, u68, u69, u70, u71, u72, u73, u74, u75, u76, u77, u78, u79, u80, u81, u82, u83, u84, u85, u86, u87, u88, u89, u90, u91, u92, u93, u94, u95, u96, v97, v98, v99, v100, v101, v102, v103, v104, v105, v106, v107, v108, v109, v110, v111, v112, v113, v114, v115, v116, v117, v118, v119, v120, v121, v122, v123, v124, v125, v126, u127, u128, u129, u130, u131, u132, u133, u134, u135, u136, u137, u138, u139, u140], []⟩ w') :
    Code.wp Tryz.prog (navc [1, 1, 1, 1, 1, 1, 0] (textOf Tryz.f17)) Q
      ⟨#[u0, u1, u2, u3, u4, u5, .slice ua un uc, u7, u8, u9, u10, u11, u12, u13, u14, .int .i64 colour, u16, .pointer (some ⟨DB, 0, none⟩), .int .i64 c, .int .i64 top, u20, u21, u22, u23, u24, u25, u26, u27, u28, u29, u30, u31, u32, u33, u34, u35, u36, u37, u38, u39, u40, u41, u42, u43, u44, u45, u46, u47, u48, u49, u50, u51, u52, u53, u54, u55, u56, u57, u58, u59, u60, u61, u62, u63, u64, u65, u66, u67, u68, u69, u70, u71, u72, u73, u74, u75, u76, u77, u78, u79, u80, u81, u82, u83, u84, u85, u86, u87, u88, u89, u90, u91, u92, u93, u94, u95, u96, u97, u98, u99, u100, u101, u102, u103, u104, u105, u106, u107, u108, u109, u110, u111, u112, u113, u114, u115, u116, u117, u118, u119, u120, u121, u122, u123, u124, u125, u126, u127, u128, u129, u130, u131, u132, u133, u134, u135, u136, u137, u138, u139, u140], []⟩ w := by
  conv => arg 2; whnf
  dsimp only
  have HQ := Lib.hid hQ; have HD := Lib.hid hd; have HUL := Lib.hid hul; have HUB := Lib.hid hub; have HU2 := Lib.hid hU2
  clear hQ hd hul hub hU2
  by_cases hcol : colour = 0 ∨ colour = 2
  · by_cases hcu : c ≤ un
    · have hcl : clL ul colour c top = clP ul top c := if_pos ⟨hcol, by rw [HUL.out]; exact hcu⟩
      have HCL := Lib.hid hcl
      have i1 : (c : Int) ≤ (un : Int) := by omega
      have i2 : (c : Int) ≤ (uc : Int) := by omega
      have i3 : c ≤ uc := by omega
      clear hcl
      rcases hcol with rfl | rfl
      all_goals
        go_upto_block 2 with fail
        refine clear_round w base DB s ua un uc top c ul vs vp vd hbase hDB HD.out HUL.out HUB.out HU2.out hc hcu ht1 ht2 _ _ _ _ _ _ _ _ _ _ _ _ _ _ _ _ _ _ _ _ _ _ _ _ _ _ _ _ _ _ _ _ _ _ _ _ _ _ _ _ _ _ _ _ _ _ _ _ _ _ _ _ _ _ _ _ _ _ _ _ _ _ _ _ _ _ _ _ _ _ _ _ _ _ _ _ _ _ _ _ _ _ _ _ _ _ _ _ _ _ _ _ _ _ _ _ _ _ _ _ _ _ _ _ _ _ _ _ _ _ _ _ _ _ _ _ _ _ _ _ _ _ _ _ _ _ _ _ _ _ _ _ _ _ _ _ _ ?_
        intro w2 v _ _ _ _ _ _ _ _ _ _ _ _ _ _ hdr own mm
        rw [← HCL.out] at own
        exact HQ.out w2 v _ _ _ _ _ _ _ _ _ _ _ _ _ _ _ _ _ _ _ _ _ _ _ _ _ _ _ _ _ _ _ hdr own mm
    · have hcl : clL ul colour c top = [] := if_neg (by rw [HUL.out]; exact fun h => hcu h.2)
      have HCL := Lib.hid hcl
      have i1 : ¬ (c : Int) ≤ (un : Int) := by omega
      clear hcl
      rcases hcol with rfl | rfl
      all_goals
        go_wp2
        exact HQ.out w _ _ _ _ _ _ _ _ _ _ _ _ _ _ _ _ _ _ _ _ _ _ _ _ _ _ _ _ _ _ _ _ HD.out (by rw [HCL.out]; exact OwnI.nil _ _) (Mod.refl _ _)
  · have hcl : clL ul colour c top = [] := if_neg (fun h => hcol h.1)
    have HCL := Lib.hid hcl
    have i0 : ((colour : Int) == 0) = false := by simp; omega
    have i2 : ((colour : Int) == 2) = false := by simp; omega
    clear hcl hcol
    go_wp2
    exact HQ.out w _ _ _ _ _ _ _ _ _ _ _ _ _ _ _ _ _ _ _ _ _ _ _ _ _ _ _ _ _ _ _ _ HD.out (by rw [HCL.out]; exact OwnI.nil _ _) (Mod.refl _ _)
end Go.Proofs.YtnpkgmgedgcjmaaGreatDoor
