/- The law's images of numbers: the samples. No conditions but those in each theorem's own binders. -/
import Derived.Test.YtnpkgmgedgcjmaaGreatDoorCE37
import Derived.Test.YtnpkgmgedgcjmaaGreatDoorCE19
import Derived.Deep.RegionHeld3
import Derived.Deep.RegionLaw
namespace Go.Proofs.YtnpkgmgedgcjmaaGreatDoor
set_option linter.unusedVariables false
set_option linter.unusedSimpArgs false
open Go.RowKit Go.Png

theorem step_appI {w : World} {ops : Array Oper} {o : Oper} {a : Act} {K : Act → World → Prop} {Q : Exit → Act → World → Prop} {F : Prop} (hgd : o.guard = none) (s x : Operand)
    (ho : o.op = .call { callee := .builtin .append, args := #[s, x], argTypes := #[27, 27] }) (base n : Nat) (v : Value) (l : List Nat) (hl : l.length = n) (hsv : a.eval s = v) (hown : OwnI w base v l)
    (b p cx y : Nat) (hx : a.eval x = .slice (some ⟨b, p, none⟩) 1 cx) (hd : w.cell? ⟨b, p, none⟩ = some (.int .i64 (y : Nat))) (hlim : n ≤ 1099511627776) (hbase : base ≤ w.heap.size)
    (h : ∀ g' c' w', Hid (OwnI w' base (.slice (some ⟨g', 0, none⟩) (n + 1) c') (l ++ [y])) → Hid (Mod (fun k => v.ownBlock = some k) w w') → Hid (v.ownBlock = some g' ∨ g' = w.heap.size) → K (a.put o.dst (.slice (some ⟨g', 0, none⟩) (n + 1) c')) w') :
    if Region.wanted o (yielded ops a.tmps) = true then Oper.wp Tryz.prog o a w K Q else F := by
  subst hl
  refine step_app elI hgd s x ho base v l.length (intsV l) hsv hown ⟨b, p, none⟩ 1 cx [.int .i64 (y : Nat)] hx rfl ?_ ?_ (Or.inr (by decide)) (by omega) (by omega) hbase ?_
  · intro j u hu
    have hj : j = 0 := by have := (List.getElem?_eq_some_iff.1 hu).1; simpa using this
    subst hj
    rw [addr_add, Nat.add_zero, hd, ← hu]; rfl
  · intro u hu
    simp at hu; subst hu; rfl
  · intro g' c' w' hap
    exact h g' c' w' (Lib.hid (OwnI.appd hap.out)) (Lib.hid hap.out.mod) (Lib.hid hap.out.blk)

/-- A slice's address, and numbers of 16 bits that lie there. -/
def SlU (w : World) (a : Option Addr) (l : List Nat) : Prop := l = [] ∨ ∃ b off, a = some ⟨b, off, none⟩ ∧ ∀ i, i < l.length → w.cell? ⟨b, off + i, none⟩ = some (.int .u16 (l.getD i 0 : Nat))
theorem SlU.mod {w w' : World} {a : Option Addr} {l : List Nat} (h : SlU w a l) {S : Nat → Prop} (m : Mod S w w') (hS : ∀ k, k < w.heap.size → ¬ S k) : SlU w' a l := by
  rcases h with h | ⟨b, off, h1, h2⟩
  · exact Or.inl h
  · exact Or.inr ⟨b, off, h1, fun i hi => (m.cell (lt_of_cell (h2 i hi)) (hS _ (lt_of_cell (h2 i hi))) _).trans (h2 i hi)⟩
theorem SlU.some {w : World} {a : Option Addr} {l : List Nat} (h : SlU w a l) (i : Nat) (hi : i < l.length) : ∃ b off, a = some ⟨b, off, none⟩ ∧ w.cell? ⟨b, off + i, none⟩ = some (.int .u16 (l.getD i 0 : Nat)) := by
  rcases h with h | ⟨b, off, h1, h2⟩
  · rw [h] at hi; exact absurd hi (by simp)
  · exact ⟨b, off, h1, h2 i hi⟩

/-- The cells of an image of numbers. -/
structure DrAt (w : World) (B : Nat) (s : Shp) (vs vp vl vd : Value) : Prop where
  wide : w.cell? ⟨B, 0, none⟩ = some (.int .i64 s.wide)
  high : w.cell? ⟨B, 1, none⟩ = some (.int .i64 s.high)
  depth : w.cell? ⟨B, 2, none⟩ = some (.int .i64 s.depth)
  colour : w.cell? ⟨B, 3, none⟩ = some (.int .i64 s.colour)
  laced : w.cell? ⟨B, 4, none⟩ = some (.bool s.laced)
  s : w.cell? ⟨B, 5, none⟩ = some vs
  p : w.cell? ⟨B, 6, none⟩ = some vp
  l : w.cell? ⟨B, 7, none⟩ = some vl
  d : w.cell? ⟨B, 8, none⟩ = some vd
  fz : ∀ o, w.frozen? ⟨B, o, none⟩ = false
theorem DrAt.lt {w : World} {B : Nat} {s : Shp} {vs vp vl vd : Value} (h : DrAt w B s vs vp vl vd) : B < w.heap.size := lt_of_cell h.wide
theorem DrAt.mod {w w' : World} {B : Nat} {s : Shp} {vs vp vl vd : Value} (h : DrAt w B s vs vp vl vd) {S : Nat → Prop} (m : Mod S w w') (hS : ¬ S B) : DrAt w' B s vs vp vl vd := by
  have hb := h.lt
  exact ⟨(m.cell hb hS _).trans h.wide, (m.cell hb hS _).trans h.high, (m.cell hb hS _).trans h.depth, (m.cell hb hS _).trans h.colour, (m.cell hb hS _).trans h.laced, (m.cell hb hS _).trans h.s, (m.cell hb hS _).trans h.p, (m.cell hb hS _).trans h.l, (m.cell hb hS _).trans h.d, fun o => (m.frozen hb hS o).trans (h.fz o)⟩
theorem DrAt.setS {w : World} {B : Nat} {s : Shp} {vs vp vl vd : Value} (h : DrAt w B s vs vp vl vd) (v : Value) : DrAt (w.setCell ⟨B, 5, none⟩ v) B s v vp vl vd := by
  have n : ∀ b, b ≠ 5 → (w.setCell ⟨B, 5, none⟩ v).cell? ⟨B, b, none⟩ = w.cell? ⟨B, b, none⟩ := fun b hb => World.cell?_setCell_other _ _ _ _ (fun e => hb (congrArg Addr.off e).symm)
  exact ⟨(n _ (by decide)).trans h.wide, (n _ (by decide)).trans h.high, (n _ (by decide)).trans h.depth, (n _ (by decide)).trans h.colour, (n _ (by decide)).trans h.laced, World.cell?_setCell_same _ _ _ h.s, (n _ (by decide)).trans h.p, (n _ (by decide)).trans h.l, (n _ (by decide)).trans h.d, fun o => by simpa using h.fz o⟩
theorem DrAt.setP {w : World} {B : Nat} {s : Shp} {vs vp vl vd : Value} (h : DrAt w B s vs vp vl vd) (v : Value) : DrAt (w.setCell ⟨B, 6, none⟩ v) B s vs v vl vd := by
  have n : ∀ b, b ≠ 6 → (w.setCell ⟨B, 6, none⟩ v).cell? ⟨B, b, none⟩ = w.cell? ⟨B, b, none⟩ := fun b hb => World.cell?_setCell_other _ _ _ _ (fun e => hb (congrArg Addr.off e).symm)
  exact ⟨(n _ (by decide)).trans h.wide, (n _ (by decide)).trans h.high, (n _ (by decide)).trans h.depth, (n _ (by decide)).trans h.colour, (n _ (by decide)).trans h.laced, (n _ (by decide)).trans h.s, World.cell?_setCell_same _ _ _ h.p, (n _ (by decide)).trans h.l, (n _ (by decide)).trans h.d, fun o => by simpa using h.fz o⟩
theorem DrAt.setL {w : World} {B : Nat} {s : Shp} {vs vp vl vd : Value} (h : DrAt w B s vs vp vl vd) (v : Value) : DrAt (w.setCell ⟨B, 7, none⟩ v) B s vs vp v vd := by
  have n : ∀ b, b ≠ 7 → (w.setCell ⟨B, 7, none⟩ v).cell? ⟨B, b, none⟩ = w.cell? ⟨B, b, none⟩ := fun b hb => World.cell?_setCell_other _ _ _ _ (fun e => hb (congrArg Addr.off e).symm)
  exact ⟨(n _ (by decide)).trans h.wide, (n _ (by decide)).trans h.high, (n _ (by decide)).trans h.depth, (n _ (by decide)).trans h.colour, (n _ (by decide)).trans h.laced, (n _ (by decide)).trans h.s, (n _ (by decide)).trans h.p, World.cell?_setCell_same _ _ _ h.l, (n _ (by decide)).trans h.d, fun o => by simpa using h.fz o⟩
theorem DrAt.setD {w : World} {B : Nat} {s : Shp} {vs vp vl vd : Value} (h : DrAt w B s vs vp vl vd) (v : Value) : DrAt (w.setCell ⟨B, 8, none⟩ v) B s vs vp vl v := by
  have n : ∀ b, b ≠ 8 → (w.setCell ⟨B, 8, none⟩ v).cell? ⟨B, b, none⟩ = w.cell? ⟨B, b, none⟩ := fun b hb => World.cell?_setCell_other _ _ _ _ (fun e => hb (congrArg Addr.off e).symm)
  exact ⟨(n _ (by decide)).trans h.wide, (n _ (by decide)).trans h.high, (n _ (by decide)).trans h.depth, (n _ (by decide)).trans h.colour, (n _ (by decide)).trans h.laced, (n _ (by decide)).trans h.s, (n _ (by decide)).trans h.p, (n _ (by decide)).trans h.l, World.cell?_setCell_same _ _ _ h.d, fun o => by simpa using h.fz o⟩

/-- The first samples of an image. -/
def smV (samples : List Nat) (k : Nat) : Nat := if samples.length = 0 then k * 7 else samples.getD (k % samples.length) 0
def smP (samples : List Nat) (top : Nat) : Nat → List Nat
  | 0 => []
  | k + 1 => smP samples top k ++ [smV samples k % top]
theorem smP_length (samples : List Nat) (top : Nat) : ∀ k, (smP samples top k).length = k := by
  intro k
  induction k with
  | zero => rfl
  | succ k ih => rw [smP, List.length_append, ih]; rfl
theorem smP_lt (samples : List Nat) (top : Nat) (ht : 0 < top) : ∀ k, ∀ x ∈ smP samples top k, x < top := by
  intro k
  induction k with
  | zero => intro x hx; simp [smP] at hx
  | succ k ih =>
    intro x hx
    rw [smP, List.mem_append] at hx
    rcases hx with hx | hx
    · exact ih x hx
    · simp at hx; subst hx; exact Nat.mod_lt _ ht

set_option maxRecDepth 100000 in
set_option maxHeartbeats 4000000 in
theorem drawn_put (w : World) (base DB n : Nat) (s : Shp) (v vp vl vd : Value) (y top : Nat) (l : List Nat) (hbase : base ≤ w.heap.size) (hDB : DB < base) (hd : DrAt w DB s v vp vl vd) (hl : l.length = n) (hown : OwnI w base v l) (hn : n ≤ 1000000) (hy : y ≤ 1000000) (ht1 : 1 ≤ top) (ht2 : top ≤ 65536)
    (u0 u1 u2 u3 u4 u5 u6 u7 u8 u9 u10 u11 u12 u13 u14 u15 u16 u18 u20 u22 u23 u24 u25 u26 u27 u28 u29 u30 u31 u32 u33 u34 u35 u36 u37 u38 u39 u40 u41 u42 u43 u44 u45 u46 u47 u48 u49 u50 u51 u52 u53 u54 u55 u56 u57 u58 u59 u60 u61 u62 u63 u64 u65 u66 u67 u68 u69 u70 u71 u72 u73 u74 u75 u76 u77 u78 u79 u80 u81 u82 u83 u84 u85 u86 u87 u88 u89 u90 u91 u92 u93 u94 u95 u96 u97 u98 u99 u100 u101 u102 u103 u104 u105 u106 u107 u108 u109 u110 u111 u112 u113 u114 u115 u116 u117 u118 u119 u120 u121 u122 u123 u124 u125 u126 u127 u128 u129 u130 u131 u132 u133 u134 u135 u136 u137 u138 u139 u140 : Value) (Q : Exit → Act → World → Prop)
    (hQ : ∀ w' g c (v88 v89 v90 v91 v92 v93 v94 v95 : Value), DrAt w' DB s (.slice (some ⟨g, 0, none⟩) (n + 1) c) vp vl vd → OwnI w' base (.slice (some ⟨g, 0, none⟩) (n + 1) c) (l ++ [y % top]) → Mod (fun k => k = DB ∨ v.ownBlock = some k) w w' → (v.ownBlock = some g ∨ w.heap.size ≤ g) →
       Q .normal ⟨#[u0, u1, u2, u3, u4, u5, u6, u7, u8, u9, u10, u11, u12, u13, u14, u15, u16, .pointer (some ⟨DB, 0, none⟩), u18, .int .i64 top, u20, .int .i64 y, u22, u23, u24, u25, u26, u27, u28, u29, u30, u31, u32, u33, u34, u35, u36, u37, u38, u39, u40, u41, u42, u43, u44, u45, u46, u47, u48, u49, u50, u51, u52, u53, u54, u55, u56, u57, u58, u59, u60, u61, u62, u63, u64, u65, u66, u67, u68, u69, u70, u71, u72, u73, u74, u75, u76, u77, u78, u79, u80, u81, u82, u83, u84, u85, u86, u87, v88, v89, v90, v91, v92, v93, v94, v95, u96, u97, u98, u99, u100, u101, u102, u103, u104, u105, u106, u107, u108, u109, u110, u111, u112, u113, u114, u115, u116, u117, u118, u119, u120, u121, u122, u123, u124, u125, u126, u127, u128, u129, u130, u131, u132, u133, u134, u135, u136, u137, u138, u139, u140], []⟩ w') :
    Code.wp Tryz.prog (navc [1, 1, 1, 1, 1, 0, 1, 0, 0, 1, 1, 0, 0, 1, 1, 1] (textOf Tryz.f17)) Q
      ⟨#[u0, u1, u2, u3, u4, u5, u6, u7, u8, u9, u10, u11, u12, u13, u14, u15, u16, .pointer (some ⟨DB, 0, none⟩), u18, .int .i64 top, u20, .int .i64 y, u22, u23, u24, u25, u26, u27, u28, u29, u30, u31, u32, u33, u34, u35, u36, u37, u38, u39, u40, u41, u42, u43, u44, u45, u46, u47, u48, u49, u50, u51, u52, u53, u54, u55, u56, u57, u58, u59, u60, u61, u62, u63, u64, u65, u66, u67, u68, u69, u70, u71, u72, u73, u74, u75, u76, u77, u78, u79, u80, u81, u82, u83, u84, u85, u86, u87, u88, u89, u90, u91, u92, u93, u94, u95, u96, u97, u98, u99, u100, u101, u102, u103, u104, u105, u106, u107, u108, u109, u110, u111, u112, u113, u114, u115, u116, u117, u118, u119, u120, u121, u122, u123, u124, u125, u126, u127, u128, u129, u130, u131, u132, u133, u134, u135, u136, u137, u138, u139, u140], []⟩ w := by
  conv => arg 2; whnf
  dsimp only
  have d0 := hd.wide; have d5 := hd.s; have f5 := hd.fz 5
  have em : ((y : Int) % (top : Int)) = ((y % top : Nat) : Int) := by rw [Int.natCast_emod]
  have em2 : (y : Int).tmod (top : Int) = ((y % top : Nat) : Int) := by rw [Int.tmod_eq_emod_of_nonneg (by omega), em]
  have hc1 : (w.alloc (.cells #[.int .i64 ((y : Int) % (top : Int))] 3)).cell? ⟨w.heap.size, 0, none⟩ = some (.int .i64 (y % top : Nat)) := by rw [World.cell?_alloc_new, em]; rfl
  have hc2 : (w.alloc (.cells #[.int .i64 ((y : Int).tmod (top : Int))] 3)).cell? ⟨w.heap.size, 0, none⟩ = some (.int .i64 (y % top : Nat)) := by rw [World.cell?_alloc_new, em2]; rfl
  have hlt := hd.lt
  have HQ := Lib.hid hQ; have HD := Lib.hid hd; have HL := Lib.hid hl; have OWN := Lib.hid hown; have C1 := Lib.hid hc1; have C2 := Lib.hid hc2
  have t1 : (0 : Int) < (top : Int) := by omega
  have t2 : (0 : Int) ≤ (y : Int) := by omega
  have t3 : ((top : Int) == 0) = false := by simp; omega
  clear hQ hd hl hown em em2 hc1 hc2
  have t4 : ¬ (top = 0) := by omega
  have hne := World.new_ne w ⟨DB, 5, none⟩ d5
  refine wp_region_noPanic ?_
  go_region_law ((first | (refine step_appI rfl _ _ rfl base n v l HL.out rfl (OWN.out.mod (S := fun _ => False) (by first | exact (Mod.refl _ _).alloc _ | exact ((Mod.refl _ _).alloc _).drew) (fun _ _ => id)) w.heap.size 0 1 (y % top) rfl (by first | exact C1.out | exact C2.out) (by omega) (by simp; omega) ?_; intro g2 c2 w2 hown2 hm2 hg2; have M2 := Lib.hid (Mod.trans (L := fun k => v.ownBlock = some k) (a := w) (by first | exact (Mod.refl _ _).alloc _ | exact ((Mod.refl _ _).alloc _).drew) hm2.out); have hDR2 := HD.out.mod M2.out (fun h => by have := (World.ownsRow.lt OWN.out) DB h; omega); have k0 := hDR2.wide; have k5 := hDR2.s; have g5 := hDR2.fz 5; have DR2 := Lib.hid hDR2; clear hDR2 hm2; go_simp)))
  all_goals
    have hb2 := World.ownsRow.lt hown2.out g2 rfl
    have hgg : v.ownBlock = some g2 ∨ w.heap.size ≤ g2 := by
      rcases hg2.out with h | h
      · exact Or.inl h
      · right; rw [h]; simp
    have ms : Mod (fun k => k = DB) w2 (w2.setCell ⟨DB, 5, none⟩ (.slice (some ⟨g2, 0, none⟩) (n + 1) c2)) := (Mod.refl (fun k => k = DB) w2).setCell (p := ⟨DB, 5, none⟩) (Or.inl rfl) _
    exact HQ.out _ g2 c2 _ _ _ _ _ _ _ _ (DR2.out.setS _) (hown2.out.mod ms (fun k hk h => by simp [Value.ownBlock] at hk; omega)) ((M2.out.mono (fun k _ h => Or.inr h)).trans (ms.mono (fun k _ h => Or.inl h))) hgg

set_option maxRecDepth 100000 in
set_option maxHeartbeats 4000000 in
theorem drawn_samples (w : World) (base DB : Nat) (s : Shp) (ua : Option Addr) (un uc N top : Nat) (ul : List Nat) (vp vl vd : Value) (hbase : base ≤ w.heap.size) (hDB : DB < base) (hd : DrAt w DB s (.slice none 0 0) vp vl vd)
    (hul : ul.length = un) (hU : SlU w ua ul) (hub : ∀ x ∈ ul, x < 65536) (hU2 : ∀ w', Mod (fun k => base ≤ k ∨ k = DB) w w' → SlU w' ua ul) (hun : un ≤ 4294967296) (hN : N ≤ 100000) (ht1 : 1 ≤ top) (ht2 : top ≤ 65536)
    (u0 u1 u2 u3 u5 u6 u7 u8 u9 u10 u11 u12 u13 u14 u15 u16 u18 u20 u21 u22 u23 u24 u25 u26 u27 u28 u29 u30 u31 u32 u33 u34 u35 u36 u37 u38 u39 u40 u41 u42 u43 u44 u45 u46 u47 u48 u49 u50 u51 u52 u53 u54 u55 u56 u57 u58 u59 u60 u61 u62 u63 u64 u65 u66 u67 u68 u69 u70 u73 u74 u75 u76 u77 u78 u79 u80 u81 u82 u83 u84 u85 u86 u87 u88 u89 u90 u91 u92 u93 u94 u95 u96 u97 u98 u99 u100 u101 u102 u103 u104 u105 u106 u107 u108 u109 u110 u111 u112 u113 u114 u115 u116 u117 u118 u119 u120 u121 u122 u123 u124 u125 u126 u127 u128 u129 u130 u131 u132 u133 u134 u135 u136 u137 u138 u139 u140 : Value) (Q : Exit → Act → World → Prop)
    (hQ : ∀ w' v (v20 v21 v73 v74 v75 v76 v77 v78 v79 v80 v81 v82 v83 v84 v85 v86 v87 v88 v89 v90 v91 v92 v93 v94 v95 v96 : Value), DrAt w' DB s v vp vl vd → OwnI w' base v (smP ul top N) → Mod (fun k => k = DB ∨ base ≤ k) w w' →
       Q .normal ⟨#[u0, u1, u2, u3, .slice ua un uc, u5, u6, u7, u8, u9, u10, u11, u12, u13, u14, u15, u16, .pointer (some ⟨DB, 0, none⟩), u18, .int .i64 top, v20, v21, u22, u23, u24, u25, u26, u27, u28, u29, u30, u31, u32, u33, u34, u35, u36, u37, u38, u39, u40, u41, u42, u43, u44, u45, u46, u47, u48, u49, u50, u51, u52, u53, u54, u55, u56, u57, u58, u59, u60, u61, u62, u63, u64, u65, u66, u67, u68, u69, u70, .int .i64 N, .int .i64 N, v73, v74, v75, v76, v77, v78, v79, v80, v81, v82, v83, v84, v85, v86, v87, v88, v89, v90, v91, v92, v93, v94, v95, v96, u97, u98, u99, u100, u101, u102, u103, u104, u105, u106, u107, u108, u109, u110, u111, u112, u113, u114, u115, u116, u117, u118, u119, u120, u121, u122, u123, u124, u125, u126, u127, u128, u129, u130, u131, u132, u133, u134, u135, u136, u137, u138, u139, u140], []⟩ w') :
    Code.wp Tryz.prog (navc [1, 1, 1, 1, 1, 0, 1] (textOf Tryz.f17)) Q
      ⟨#[u0, u1, u2, u3, .slice ua un uc, u5, u6, u7, u8, u9, u10, u11, u12, u13, u14, u15, u16, .pointer (some ⟨DB, 0, none⟩), u18, .int .i64 top, u20, u21, u22, u23, u24, u25, u26, u27, u28, u29, u30, u31, u32, u33, u34, u35, u36, u37, u38, u39, u40, u41, u42, u43, u44, u45, u46, u47, u48, u49, u50, u51, u52, u53, u54, u55, u56, u57, u58, u59, u60, u61, u62, u63, u64, u65, u66, u67, u68, u69, u70, .int .i64 N, .int .i64 0, u73, u74, u75, u76, u77, u78, u79, u80, u81, u82, u83, u84, u85, u86, u87, u88, u89, u90, u91, u92, u93, u94, u95, u96, u97, u98, u99, u100, u101, u102, u103, u104, u105, u106, u107, u108, u109, u110, u111, u112, u113, u114, u115, u116, u117, u118, u119, u120, u121, u122, u123, u124, u125, u126, u127, u128, u129, u130, u131, u132, u133, u134, u135, u136, u137, u138, u139, u140], []⟩ w := by
  conv => arg 2; whnf
  dsimp only
  have HQ := Lib.hid hQ; have HD := Lib.hid hd; have HUL := Lib.hid hul; have HU := Lib.hid hU; have HUB := Lib.hid hub; have HU2 := Lib.hid hU2
  clear hQ hd hul hU hub hU2
  go_wp2
  go_loopg [20, 21, 72] (N - 0) (fun gk _ _ v72 wr => ∃ k : Nat, ∃ v, k ≤ N ∧ gk = N - k ∧ v72 = .int .i64 k ∧ DrAt wr DB s v vp vl vd ∧ OwnI wr base v (smP ul top k) ∧ Mod (fun k => k = DB ∨ base ≤ k) w wr)
  case atStart => exact ⟨0, _, by omega, rfl, rfl, HD.out, OwnI.nil _ _, Mod.refl _ _⟩
  case round =>
    obtain ⟨k, v, hk, hkk, rfl, hdr, own, mm⟩ := hrel
    have HK := Lib.hid hkk; have HDR := Lib.hid hdr; have OWN := Lib.hid own; have MM := Lib.hid mm
    clear hkk hdr own mm
    by_cases hlt : k < N
    · have d5 := HDR.out.s
      have f5 := HDR.out.fz 5
      have hsl := smP_length ul top k
      have hws := MM.out.size
      obtain ⟨y, hy⟩ : ∃ y, y = smV ul k := ⟨_, rfl⟩
      have hstep : smP ul top (k + 1) = smP ul top k ++ [y % top] := by rw [hy]; rfl
      have HSTEP := Lib.hid hstep; have HSL := Lib.hid hsl
      clear hstep hsl
      have em : ((y : Int) % (top : Int)) = ((y % top : Nat) : Int) := by rw [Int.natCast_emod]
      have em2 : (y : Int).tmod (top : Int) = ((y % top : Nat) : Int) := by rw [Int.tmod_eq_emod_of_nonneg (by omega), em]
      have EM := Lib.hid em; have EM2 := Lib.hid em2
      clear em em2
      obtain ⟨A, vc, hvv, -⟩ := OWN.out.form
      rw [HSL.out] at hvv
      subst hvv
      by_cases h0 : un = 0
      · have hy2 : y = k * 7 := by rw [hy, smV, if_pos (by rw [HUL.out]; exact h0)]
        clear hy
        subst hy2
        subst h0
        go_upto_region 16 with fail
        refine drawn_put wr base DB k s (.slice A k vc) vp vl vd (k * 7) top (smP ul top k) (by omega) hDB HDR.out HSL.out OWN.out (by omega) (by omega) ht1 ht2 _ _ _ _ _ _ _ _ _ _ _ _ _ _ _ _ _ _ _ _ _ _ _ _ _ _ _ _ _ _ _ _ _ _ _ _ _ _ _ _ _ _ _ _ _ _ _ _ _ _ _ _ _ _ _ _ _ _ _ _ _ _ _ _ _ _ _ _ _ _ _ _ _ _ _ _ _ _ _ _ _ _ _ _ _ _ _ _ _ _ _ _ _ _ _ _ _ _ _ _ _ _ _ _ _ _ _ _ _ _ _ _ _ _ _ _ _ _ _ _ _ _ _ _ _ _ _ _ _ _ _ _ _ _ _ _ _ _ _ ?_
        intro w2 g2 c2 _ _ _ _ _ _ _ _ hdr2 own2 m2 hg2
        rw [← HSTEP.out] at own2
        have mm2 : Mod (fun k => k = DB ∨ base ≤ k) w w2 := MM.out.trans (m2.mono (fun k _ h => by rcases h with h | h; exact Or.inl h; exact Or.inr (World.ownsRow.lt OWN.out k h).1))
        have D2 := Lib.hid hdr2; have O2 := Lib.hid own2; have MM2 := Lib.hid mm2
        clear hdr2 own2 m2 mm2 OWN HDR MM HSTEP HSL d5 f5 hg2
        go_wp2
        go_roundg (N - (k + 1))
        case measure => have := HK.out; omega
        case rel => exact ⟨k + 1, _, by omega, rfl, by go_num, D2.out, O2.out, MM2.out⟩
      · have hul0 : 0 < ul.length := by have := HUL.out; omega
        obtain ⟨j, hj⟩ : ∃ j, j = k % un := ⟨_, rfl⟩
        have hjl : j < ul.length := by rw [hj, HUL.out]; exact Nat.mod_lt _ (by omega)
        have hy2 : y = ul.getD j 0 := by rw [hy, smV, if_neg (by omega), HUL.out, hj]
        obtain ⟨b, o, rfl, q1⟩ := (HU2.out wr (MM.out.mono (fun k _ h => by rcases h with h | h; exact Or.inr h; exact Or.inl h))).some j hjl
        rw [← hy2] at q1
        have hyb : y < 65536 := by rw [hy2]; exact getD_le HUB.out j (by decide)
        have e1 : ((k : Int) % (un : Int)) = (j : Int) := by rw [← Int.natCast_emod, hj]
        have e2 : (k : Int).tmod (un : Int) = (j : Int) := by rw [Int.tmod_eq_emod_of_nonneg (by omega), e1]
        have i1 : (j : Int) < (un : Int) := by have := HUL.out; omega
        have i0 : 0 < un := by omega
        have i3 : ¬ (un = 0) := by omega
        clear hy hy2 hj hul0
        go_upto_region 16 with fail
        refine drawn_put wr base DB k s (.slice A k vc) vp vl vd y top (smP ul top k) (by omega) hDB HDR.out HSL.out OWN.out (by omega) (by omega) ht1 ht2 _ _ _ _ _ _ _ _ _ _ _ _ _ _ _ _ _ _ _ _ _ _ _ _ _ _ _ _ _ _ _ _ _ _ _ _ _ _ _ _ _ _ _ _ _ _ _ _ _ _ _ _ _ _ _ _ _ _ _ _ _ _ _ _ _ _ _ _ _ _ _ _ _ _ _ _ _ _ _ _ _ _ _ _ _ _ _ _ _ _ _ _ _ _ _ _ _ _ _ _ _ _ _ _ _ _ _ _ _ _ _ _ _ _ _ _ _ _ _ _ _ _ _ _ _ _ _ _ _ _ _ _ _ _ _ _ _ _ _ ?_
        intro w2 g2 c2 _ _ _ _ _ _ _ _ hdr2 own2 m2 hg2
        rw [← HSTEP.out] at own2
        have mm2 : Mod (fun k => k = DB ∨ base ≤ k) w w2 := MM.out.trans (m2.mono (fun k _ h => by rcases h with h | h; exact Or.inl h; exact Or.inr (World.ownsRow.lt OWN.out k h).1))
        have D2 := Lib.hid hdr2; have O2 := Lib.hid own2; have MM2 := Lib.hid mm2
        clear hdr2 own2 m2 mm2 OWN HDR MM HSTEP HSL d5 f5 hg2
        go_wp2
        go_roundg (N - (k + 1))
        case measure => have := HK.out; omega
        case rel => exact ⟨k + 1, _, by omega, rfl, by go_num, D2.out, O2.out, MM2.out⟩
    · obtain rfl : k = N := by omega
      go_wp2
      exact HQ.out _ v _ _ _ _ _ _ _ _ _ _ _ _ _ _ _ _ _ _ _ _ _ _ _ _ _ _ HDR.out OWN.out MM.out
end Go.Proofs.YtnpkgmgedgcjmaaGreatDoor
