/- The reference's writer of files: the palette's bytes. No conditions but those in each theorem's own binders. -/
import Derived.Test.YtnpkgmgedgcjmaaGreatDoorCE19
import Derived.Deep.LoopGhost
namespace Go.Proofs.YtnpkgmgedgcjmaaGreatDoor
set_option linter.unusedVariables false
set_option linter.unusedSimpArgs false
open Go.RowKit Go.Png

/-- A pixel: red, green, blue, alpha. -/
structure Dt where
  r : Nat
  g : Nat
  b : Nat
  a : Nat
deriving DecidableEq

def Dt.cells (d : Dt) : List Value := [.int .i64 d.r, .int .i64 d.g, .int .i64 d.b, .int .i64 d.a]
def Dt.Ok (d : Dt) : Prop := d.r < 65536 ∧ d.g < 65536 ∧ d.b < 65536 ∧ d.a < 65536
def dotsC : List Dt → List Value
  | [] => []
  | d :: t => d.cells ++ dotsC t
theorem dotsC_append (l m : List Dt) : dotsC (l ++ m) = dotsC l ++ dotsC m := by
  induction l with
  | nil => rfl
  | cons d t ih => simp [dotsC, ih]
theorem dotsC_length (l : List Dt) : (dotsC l).length = l.length * 4 := by
  induction l with
  | nil => rfl
  | cons d t ih => simp [dotsC, Dt.cells, ih]; omega

/-- A slice's address, and pixels that lie there. -/
structure DtAt (w : World) (B o : Nat) (d : Dt) : Prop where
  r : w.cell? ⟨B, o, none⟩ = some (.int .i64 d.r)
  g : w.cell? ⟨B, o + 1, none⟩ = some (.int .i64 d.g)
  b : w.cell? ⟨B, o + 2, none⟩ = some (.int .i64 d.b)
  a : w.cell? ⟨B, o + 3, none⟩ = some (.int .i64 d.a)
def SlD (w : World) (A : Option Addr) (l : List Dt) : Prop := l = [] ∨ ∃ b off, A = some ⟨b, off, none⟩ ∧ ∀ i (h : i < l.length), DtAt w b (off + i * 4) l[i]
theorem DtAt.mod {w w' : World} {b o : Nat} {d : Dt} (h : DtAt w b o d) {S : Nat → Prop} (m : Mod S w w') (hS : ¬ S b) : DtAt w' b o d := by
  have hb := lt_of_cell h.r
  exact ⟨(m.cell hb hS _).trans h.r, (m.cell hb hS _).trans h.g, (m.cell hb hS _).trans h.b, (m.cell hb hS _).trans h.a⟩
theorem SlD.mod {w w' : World} {a : Option Addr} {l : List Dt} (h : SlD w a l) {S : Nat → Prop} (m : Mod S w w') (hS : ∀ k, k < w.heap.size → ¬ S k) : SlD w' a l := by
  rcases h with h | ⟨b, off, h1, h2⟩
  · exact Or.inl h
  · exact Or.inr ⟨b, off, h1, fun i hi => (h2 i hi).mod m (hS _ (lt_of_cell (h2 i hi).r))⟩
theorem SlD.some {w : World} {a : Option Addr} {l : List Dt} (h : SlD w a l) (k : Nat) (hk : k < l.length) : ∃ b off, a = .some ⟨b, off, none⟩ ∧ ∀ i (h : i < l.length), DtAt w b (off + i * 4) l[i] := by
  rcases h with h | h
  · subst h; simp at hk
  · exact h

def shadesL (l : List Dt) : List UInt8 := l.flatMap fun d => [UInt8.ofNat (d.r / 257), UInt8.ofNat (d.g / 257), UInt8.ofNat (d.b / 257)]
def clearsL (l : List Dt) : List UInt8 := l.map fun d => UInt8.ofNat (d.a / 257)
def anyL (l : List Dt) : Bool := l.any fun d => d.a != 65535
theorem shadesL_length (l : List Dt) : (shadesL l).length = 3 * l.length := by
  induction l with
  | nil => rfl
  | cons d t ih => simp [shadesL] at ih ⊢; omega
theorem clearsL_length (l : List Dt) : (clearsL l).length = l.length := by simp [clearsL]

theorem bytes_new (w : World) (vs : Array Value) (t : TypeId) (l : List UInt8) (h : vs.toList = bytesV l) : Bytes (w.alloc (.cells vs t)) w.heap.size 0 l := by
  intro i hi
  rw [World.cell?_alloc_new, Nat.zero_add, ← Array.getElem?_toList, h, List.getElem?_eq_getElem (by simpa using hi), bytesV_get l i hi]
theorem by257 (x : Nat) (h : x < 65536) : IntKind.u8.wrap ((x : Int) / (257 : Int)) = ((UInt8.ofNat (x / 257)).toNat : Nat) := by
  rw [UInt8.toNat_ofNat', Nat.mod_eq_of_lt (by omega)]
  have : (x : Int) / 257 = ((x / 257 : Nat) : Int) := by omega
  rw [this]; exact IntWalk.u8_in _ (by omega)
theorem by257' (x : Nat) (h : x < 65536) : ((x : Int) / (257 : Int)) = ((UInt8.ofNat (x / 257)).toNat : Nat) := by
  rw [UInt8.toNat_ofNat', Nat.mod_eq_of_lt (by omega)]; omega

set_option maxRecDepth 100000 in
set_option maxHeartbeats 2000000 in
theorem write_pal (w : World) (base : Nat) (pa : Option Addr) (pn pc g1 g2 : Nat) (l : List Dt) (hbase : base ≤ w.heap.size) (hown1 : Own8 w base g1 0 []) (hown2 : Own8 w base g2 0 []) (hne : g1 ≠ g2)
    (hl : l.length = pn) (hok : ∀ d ∈ l, d.Ok) (hs : ∀ w', Mod (fun k => base ≤ k) w w' → SlD w' pa l) (hn : pn ≤ 1000000)
    (u0 u1 u3 u4 u5 u6 u7 u8 u9 u10 u11 u12 u13 u14 u15 u16 u17 u21 u22 u23 u24 u25 u26 u27 u28 u29 u30 u31 u32 u33 u34 u35 u36 u37 u38 u39 u40 u41 u42 u43 u44 u45 u46 u47 u48 u49 u50 u51 u52 u53 u57 u58 u59 u60 u61 u62 u63 u64 u65 u66 u67 u68 u69 u70 u71 u72 u73 u74 u75 u76 u77 u78 u79 u80 u81 u82 u83 u84 u85 u86 u87 u88 u89 u90 u91 u92 u93 u94 u95 u96 u97 u98 u99 u100 u101 u102 u103 u104 u105 u106 u107 u108 u109 u110 u111 u112 u113 u114 u115 u116 u117 u118 u119 u120 u121 u122 u123 u124 u125 u126 u127 u128 u129 u130 u131 u132 u133 u134 u135 u136 u137 u138 u139 u140 u141 u142 u143 u144 u145 u146 u147 u148 u149 u150 u151 u152 u153 u154 u155 u156 u157 u158 u159 u160 u161 u162 u163 u164 u165 u166 u167 u168 u169 u170 : Value) (Q : Exit → Act → World → Prop)
    (hQ : ∀ w' x1 c1 x2 c2 (v22 v57 v58 v59 v60 v61 v62 v63 v64 v65 v66 v67 v68 v69 v70 v71 v72 v73 v74 v75 v76 v77 v78 v79 v80 v81 v82 v83 v84 v85 v86 v87 v88 : Value), Own8 w' base x1 c1 (shadesL l) → Own8 w' base x2 c2 (clearsL l) → x1 ≠ x2 → (x1 = g1 ∨ w.heap.size ≤ x1) → (x2 = g2 ∨ w.heap.size ≤ x2) → Mod (fun k => k = g1 ∨ k = g2) w w' →
       Q .normal ⟨#[u0, u1, .slice pa pn pc, u3, u4, u5, u6, u7, u8, u9, u10, u11, u12, u13, u14, u15, u16, u17, .slice (some ⟨x1, 0, none⟩) (3 * pn) c1, .slice (some ⟨x2, 0, none⟩) pn c2, .bool (anyL l), u21, v22, u23, u24, u25, u26, u27, u28, u29, u30, u31, u32, u33, u34, u35, u36, u37, u38, u39, u40, u41, u42, u43, u44, u45, u46, u47, u48, u49, u50, u51, u52, u53, .slice pa pn pc, .int .i64 pn, .int .i64 pn, v57, v58, v59, v60, v61, v62, v63, v64, v65, v66, v67, v68, v69, v70, v71, v72, v73, v74, v75, v76, v77, v78, v79, v80, v81, v82, v83, v84, v85, v86, v87, v88, u89, u90, u91, u92, u93, u94, u95, u96, u97, u98, u99, u100, u101, u102, u103, u104, u105, u106, u107, u108, u109, u110, u111, u112, u113, u114, u115, u116, u117, u118, u119, u120, u121, u122, u123, u124, u125, u126, u127, u128, u129, u130, u131, u132, u133, u134, u135, u136, u137, u138, u139, u140, u141, u142, u143, u144, u145, u146, u147, u148, u149, u150, u151, u152, u153, u154, u155, u156, u157, u158, u159, u160, u161, u162, u163, u164, u165, u166, u167, u168, u169, u170], []⟩ w') :
    Code.wp Tryz.prog (navc [1, 1, 1, 1, 1, 1, 0, 1] (textOf Tryz.f40)) Q
      ⟨#[u0, u1, .slice pa pn pc, u3, u4, u5, u6, u7, u8, u9, u10, u11, u12, u13, u14, u15, u16, u17, .slice (some ⟨g1, 0, none⟩) 0 0, .slice (some ⟨g2, 0, none⟩) 0 0, .bool false, u21, u22, u23, u24, u25, u26, u27, u28, u29, u30, u31, u32, u33, u34, u35, u36, u37, u38, u39, u40, u41, u42, u43, u44, u45, u46, u47, u48, u49, u50, u51, u52, u53, .slice pa pn pc, .int .i64 pn, .int .i64 0, u57, u58, u59, u60, u61, u62, u63, u64, u65, u66, u67, u68, u69, u70, u71, u72, u73, u74, u75, u76, u77, u78, u79, u80, u81, u82, u83, u84, u85, u86, u87, u88, u89, u90, u91, u92, u93, u94, u95, u96, u97, u98, u99, u100, u101, u102, u103, u104, u105, u106, u107, u108, u109, u110, u111, u112, u113, u114, u115, u116, u117, u118, u119, u120, u121, u122, u123, u124, u125, u126, u127, u128, u129, u130, u131, u132, u133, u134, u135, u136, u137, u138, u139, u140, u141, u142, u143, u144, u145, u146, u147, u148, u149, u150, u151, u152, u153, u154, u155, u156, u157, u158, u159, u160, u161, u162, u163, u164, u165, u166, u167, u168, u169, u170], []⟩ w := by
  conv => arg 2; whnf
  dsimp only
  have HQ := Lib.hid hQ; have HS := Lib.hid hs; have HL := Lib.hid hl; have HO1 := Lib.hid hown1; have HO2 := Lib.hid hown2; have HOK := Lib.hid hok
  clear hQ hs hl hown1 hown2 hok
  go_wp2
  go_loopg [18, 19, 20, 22, 56] (pn - 0) (fun k v18 v19 v20 _ v56 wr => ∃ j x1 c1 x2 c2 : Nat, j ≤ pn ∧ k = pn - j ∧ v56 = .int .i64 j ∧ v20 = .bool (anyL (l.take j)) ∧ v18 = .slice (some ⟨x1, 0, none⟩) (3 * j) c1 ∧ v19 = .slice (some ⟨x2, 0, none⟩) j c2 ∧
    Own8 wr base x1 c1 (shadesL (l.take j)) ∧ Own8 wr base x2 c2 (clearsL (l.take j)) ∧ x1 ≠ x2 ∧ (x1 = g1 ∨ w.heap.size ≤ x1) ∧ (x2 = g2 ∨ w.heap.size ≤ x2) ∧ Mod (fun k => k = g1 ∨ k = g2) w wr)
  case atStart => exact ⟨0, g1, 0, g2, 0, by omega, rfl, rfl, rfl, rfl, rfl, HO1.out, HO2.out, hne, Or.inl rfl, Or.inl rfl, Mod.refl _ _⟩
  case round =>
    obtain ⟨j, x1, c1, x2, c2, hj, hk, rfl, rfl, rfl, rfl, own1, own2, hx, hx1, hx2, mm⟩ := hrel
    have HK := Lib.hid hk; have OWN1 := Lib.hid own1; have OWN2 := Lib.hid own2; have MM := Lib.hid mm
    clear hk own1 own2 mm
    by_cases hlt : j < pn
    · have hjl : j < l.length := by have := HL.out; omega
      have hsl := HS.out wr (MM.out.mono (fun k _ h => by rcases h with h | h <;> subst h; exact HO1.out.base.1; exact HO2.out.base.1))
      obtain ⟨b, off, rfl, hd⟩ := hsl.some j hjl
      have hdj := hd j hjl
      obtain ⟨o1, o2, o3, o4⟩ := HOK.out l[j] (List.getElem_mem hjl)
      have hs1 : shadesL (l.take (j + 1)) = shadesL (l.take j) ++ [UInt8.ofNat (l[j].r / 257), UInt8.ofNat (l[j].g / 257), UInt8.ofNat (l[j].b / 257)] := by
        rw [← List.take_append_getElem hjl, shadesL, List.flatMap_append]; rfl
      have hs2 : clearsL (l.take (j + 1)) = clearsL (l.take j) ++ [UInt8.ofNat (l[j].a / 257)] := by
        rw [← List.take_append_getElem hjl, clearsL, List.map_append]; rfl
      have hs3 : anyL (l.take (j + 1)) = (anyL (l.take j) || l[j].a != 65535) := by
        rw [← List.take_append_getElem hjl, anyL, List.any_append]; simp [anyL]
      have q0 := hdj.r; have q1 := hdj.g; have q2 := hdj.b; have q3 := hdj.a
      have HS1 := Lib.hid hs1; have HS2 := Lib.hid hs2; have HS3 := Lib.hid hs3
      clear hs1 hs2 hs3 hd hdj hsl
      go_upto_region 10 with fail
      have m1 : Mod (fun _ => False) wr (wr.alloc (.cells #[.int .i64 l[j].r, .int .i64 l[j].g, .int .i64 l[j].b, .int .i64 l[j].a] 75)) := (Mod.refl _ wr).alloc _
      have d0 : (wr.alloc (.cells #[.int .i64 l[j].r, .int .i64 l[j].g, .int .i64 l[j].b, .int .i64 l[j].a] 75)).cell? ⟨wr.heap.size, 0, none⟩ = some (.int .i64 l[j].r) := by rw [World.cell?_alloc_new]; rfl
      have d1 : (wr.alloc (.cells #[.int .i64 l[j].r, .int .i64 l[j].g, .int .i64 l[j].b, .int .i64 l[j].a] 75)).cell? ⟨wr.heap.size, 1, none⟩ = some (.int .i64 l[j].g) := by rw [World.cell?_alloc_new]; rfl
      have d2 : (wr.alloc (.cells #[.int .i64 l[j].r, .int .i64 l[j].g, .int .i64 l[j].b, .int .i64 l[j].a] 75)).cell? ⟨wr.heap.size, 2, none⟩ = some (.int .i64 l[j].b) := by rw [World.cell?_alloc_new]; rfl
      have d3 : (wr.alloc (.cells #[.int .i64 l[j].r, .int .i64 l[j].g, .int .i64 l[j].b, .int .i64 l[j].a] 75)).cell? ⟨wr.heap.size, 3, none⟩ = some (.int .i64 l[j].a) := by rw [World.cell?_alloc_new]; rfl
      have M1 := Lib.hid m1; have O1 := Lib.hid (OWN1.out.mod m1 id); have O2 := Lib.hid (OWN2.out.mod m1 id)
      have hlb := OWN1.out.base; have hlb2 := OWN2.out.base
      have HWZ := Lib.hid MM.out.size
      have hDB1 : wr.heap.size ≠ x1 := by omega
      have hDB2 : wr.heap.size ≠ x2 := by omega
      clear m1 q0 q1 q2 q3
      generalize hwA : wr.alloc (.cells #[.int .i64 l[j].r, .int .i64 l[j].g, .int .i64 l[j].b, .int .i64 l[j].a] 75) = wA at *
      clear hwA
      have HLB := Lib.hid hlb; have HLB2 := Lib.hid hlb2
      clear hlb hlb2
      have hzA := M1.out.size
      have hltD := lt_of_cell d0
      generalize hDB : wr.heap.size = DB at *
      have HDB := Lib.hid hDB
      clear hDB
      have e1 := by257' l[j].r o1; have e2 := by257' l[j].g o2; have e3 := by257' l[j].b o3; have e4 := by257' l[j].a o4
      have hb3 : Bytes (wA.alloc (.cells #[.int .u8 ((l[j].r : Int) / 257), .int .u8 ((l[j].g : Int) / 257), .int .u8 ((l[j].b : Int) / 257)] 5)) wA.heap.size 0 [UInt8.ofNat (l[j].r / 257), UInt8.ofNat (l[j].g / 257), UInt8.ofNat (l[j].b / 257)] := by
        rw [e1, e2, e3]; exact bytes_new wA _ _ _ rfl
      have hb4 : ∀ wz : World, Bytes (wz.alloc (.cells #[.int .u8 ((l[j].a : Int) / 257)] 5)) wz.heap.size 0 [UInt8.ofNat (l[j].a / 257)] := by
        intro wz; rw [e4]; exact bytes_new wz _ _ _ rfl
      have HB3 := Lib.hid hb3; have HB4 := Lib.hid hb4
      clear e1 e2 e3 e4 hb3 hb4
      go_upto_region 11 with (at_builtin; go_must (refine wpList_app8 rfl (.tmp 60) (.tmp 73) rfl base x1 (3 * j) c1 (shadesL (l.take j)) (by rw [shadesL_length, List.length_take]; omega) rfl (O1.out.mod ((Mod.refl (fun _ => False) wA).alloc _) id) (some ⟨wA.heap.size, 0, none⟩) 3 3 [UInt8.ofNat (l[j].r / 257), UInt8.ofNat (l[j].g / 257), UInt8.ofNat (l[j].b / 257)] rfl (Or.inr ⟨_, _, rfl, HB3.out⟩) rfl (fun h => by omega) (by omega) (by have := HLB.out; simp; omega) ?_; intro y1 cy1 w2 hown2 hm2 hy1))
      have hAB : Mod (fun k => k = x1) wA w2 := ((Mod.refl _ wA).alloc _).trans hm2.out
      have k3 := (hAB.cell hltD hDB1 3).trans d3
      have hby : y1 = x1 ∨ DB ≤ y1 := by
        rcases hy1.out with h | h
        · exact Or.inl h
        · right; rw [h]; simp; omega
      have hs2 := hAB.size
      have o2 := O2.out.mod hAB (fun h => hx h.symm)
      have MAB := Lib.hid hAB; have O22 := Lib.hid o2; have HBY := Lib.hid hby
      clear hAB o2 hby hm2 hy1 d0 d1 d2 d3 HB3 O1 O2
      have hcase : (anyL (l.take j) = true) ∨ (anyL (l.take j) = false ∧ l[j].a = 65535) ∨ (anyL (l.take j) = false ∧ l[j].a ≠ 65535) := by
        cases anyL (l.take j)
        · by_cases h : l[j].a = 65535
          · exact Or.inr (Or.inl ⟨rfl, h⟩)
          · exact Or.inr (Or.inr ⟨rfl, h⟩)
        · exact Or.inl rfl
      have hnw : anyL (l.take (j + 1)) = (anyL (l.take j) || l[j].a != 65535) := HS3.out
      have fin : ∀ (w3 : World) (z2 cz2 : Nat), Own8 w3 base z2 cz2 (clearsL (l.take j) ++ [UInt8.ofNat (l[j].a / 257)]) → Mod (fun k => k = x2) (w2.alloc (.cells #[.int .u8 ((l[j].a : Int) / 257)] 5)) w3 → (z2 = x2 ∨ z2 = (w2.alloc (.cells #[.int .u8 ((l[j].a : Int) / 257)] 5)).heap.size) →
          Own8 w3 base y1 cy1 (shadesL (l.take (j + 1))) ∧ Own8 w3 base z2 cz2 (clearsL (l.take (j + 1))) ∧ y1 ≠ z2 ∧ (y1 = g1 ∨ w.heap.size ≤ y1) ∧ (z2 = g2 ∨ w.heap.size ≤ z2) ∧ Mod (fun k => k = g1 ∨ k = g2) w w3 := by
        intro w3 z2 cz2 hz hmz hzb
        rw [← HS2.out] at hz
        have hya := hown2.out
        rw [← HS1.out] at hya
        have hyb := hya.base
        have hl1 := HLB.out; have hl2 := HLB2.out; have hw := HWZ.out
        have hzb2 : z2 = x2 ∨ w2.heap.size ≤ z2 := by
          rcases hzb with h | h
          · exact Or.inl h
          · right; rw [h]; simp
        have hby := HBY.out
        have hmB : Mod (fun k => k = x2) w2 w3 := ((Mod.refl _ w2).alloc _).trans hmz
        refine ⟨hya.mod hmB (by omega), hz, by omega, by omega, by omega, ?_⟩
        have m1 : Mod (fun k => k = g1 ∨ k = g2) w w2 := (MM.out.trans (M1.out.mono (fun _ _ h => h.elim))).then MAB.out (fun k hk h => by omega)
        exact m1.then hmB (fun k hk h => by omega)
      have FIN := Lib.hid fin
      clear fin hown2 HWZ HBY M1 MM MAB HS1 HS2
      rcases hcase with ha | ⟨ha, hb⟩ | ⟨ha, hb⟩
      · rw [ha, Bool.true_or] at hnw
        rw [ha]
        have HNW := Lib.hid hnw
        clear hnw ha HS3
        go_wp2_with (at_builtin; go_must (refine wpList_app8 rfl (.tmp 75) (.tmp 80) rfl base x2 j c2 (clearsL (l.take j)) (by rw [clearsL_length, List.length_take]; omega) rfl (O22.out.mod ((Mod.refl (fun _ => False) w2).alloc _) id) (some ⟨w2.heap.size, 0, none⟩) 1 1 [UInt8.ofNat (l[j].a / 257)] rfl (Or.inr ⟨_, _, rfl, HB4.out w2⟩) rfl (fun h => by omega) (by omega) (by have := HLB.out; simp; omega) ?_; intro y2 cy2 w3 hown3 hm3 hy2; have k4 := ((((Mod.refl (fun k => k = x2) w2).alloc _).trans hm3.out).cell (by omega) hDB2 3).trans k3))
        obtain ⟨f1, f2, f3, f4, f5, f6⟩ := FIN.out w3 y2 cy2 hown3.out hm3.out hy2.out
        have F1 := Lib.hid f1; have F2 := Lib.hid f2; have F6 := Lib.hid f6
        clear f1 f2 f6 FIN k3 k4 hm3 hown3 hy2
        go_roundg (pn - (j + 1))
        case measure => have := HK.out; omega
        case rel => exact ⟨j + 1, y1, cy1, y2, cy2, by omega, rfl, by go_num, by rw [HNW.out], rfl, rfl, F1.out, F2.out, f3, f4, f5, F6.out⟩
      · rw [ha, Bool.false_or] at hnw
        rw [ha]
        have ht : ((l[j].a : Int) != 65535) = false := by simp [hb]
        have hnw2 : anyL (l.take (j + 1)) = false := by rw [hnw, hb]; rfl
        have HNW := Lib.hid hnw2
        clear hnw ha HS3 hnw2 hb
        go_wp2_with (at_builtin; go_must (refine wpList_app8 rfl (.tmp 75) (.tmp 80) rfl base x2 j c2 (clearsL (l.take j)) (by rw [clearsL_length, List.length_take]; omega) rfl (O22.out.mod ((Mod.refl (fun _ => False) w2).alloc _) id) (some ⟨w2.heap.size, 0, none⟩) 1 1 [UInt8.ofNat (l[j].a / 257)] rfl (Or.inr ⟨_, _, rfl, HB4.out w2⟩) rfl (fun h => by omega) (by omega) (by have := HLB.out; simp; omega) ?_; intro y2 cy2 w3 hown3 hm3 hy2; have k4 := ((((Mod.refl (fun k => k = x2) w2).alloc _).trans hm3.out).cell (by omega) hDB2 3).trans k3))
        obtain ⟨f1, f2, f3, f4, f5, f6⟩ := FIN.out w3 y2 cy2 hown3.out hm3.out hy2.out
        have F1 := Lib.hid f1; have F2 := Lib.hid f2; have F6 := Lib.hid f6
        clear f1 f2 f6 FIN k3 k4 hm3 hown3 hy2
        go_roundg (pn - (j + 1))
        case measure => have := HK.out; omega
        case rel => exact ⟨j + 1, y1, cy1, y2, cy2, by omega, rfl, by go_num, by rw [HNW.out], rfl, rfl, F1.out, F2.out, f3, f4, f5, F6.out⟩
      · rw [ha, Bool.false_or] at hnw
        rw [ha]
        have ht : ((l[j].a : Int) != 65535) = true := by simp; omega
        have hnw2 : anyL (l.take (j + 1)) = true := by rw [hnw]; simpa using hb
        have HNW := Lib.hid hnw2
        clear hnw ha HS3 hnw2 hb
        go_wp2_with (at_builtin; go_must (refine wpList_app8 rfl (.tmp 75) (.tmp 80) rfl base x2 j c2 (clearsL (l.take j)) (by rw [clearsL_length, List.length_take]; omega) rfl (O22.out.mod ((Mod.refl (fun _ => False) w2).alloc _) id) (some ⟨w2.heap.size, 0, none⟩) 1 1 [UInt8.ofNat (l[j].a / 257)] rfl (Or.inr ⟨_, _, rfl, HB4.out w2⟩) rfl (fun h => by omega) (by omega) (by have := HLB.out; simp; omega) ?_; intro y2 cy2 w3 hown3 hm3 hy2; have k4 := ((((Mod.refl (fun k => k = x2) w2).alloc _).trans hm3.out).cell (by omega) hDB2 3).trans k3))
        obtain ⟨f1, f2, f3, f4, f5, f6⟩ := FIN.out w3 y2 cy2 hown3.out hm3.out hy2.out
        have F1 := Lib.hid f1; have F2 := Lib.hid f2; have F6 := Lib.hid f6
        clear f1 f2 f6 FIN k3 k4 hm3 hown3 hy2
        go_roundg (pn - (j + 1))
        case measure => have := HK.out; omega
        case rel => exact ⟨j + 1, y1, cy1, y2, cy2, by omega, rfl, by go_num, by rw [HNW.out], rfl, rfl, F1.out, F2.out, f3, f4, f5, F6.out⟩
    · obtain rfl : j = pn := by omega
      have ht : l.take j = l := List.take_of_length_le (by have := HL.out; omega)
      rw [ht] at OWN1 OWN2 ⊢
      clear ht
      go_wp2
      exact HQ.out _ x1 c1 x2 c2 _ _ _ _ _ _ _ _ _ _ _ _ _ _ _ _ _ _ _ _ _ _ _ _ _ _ _ _ _ _ _ _ _ OWN1.out OWN2.out hx hx1 hx2 MM.out
end Go.Proofs.YtnpkgmgedgcjmaaGreatDoor
