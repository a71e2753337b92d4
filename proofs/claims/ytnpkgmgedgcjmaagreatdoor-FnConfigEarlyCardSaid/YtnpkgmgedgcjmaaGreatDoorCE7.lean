/- The decoder reads a palette. No conditions but those in each theorem's own binders. -/
import Derived.Test.YtnpkgmgedgcjmaaGreatDoorCE6
import Derived.StillTailTactics
namespace Go.Proofs.YtnpkgmgedgcjmaaGreatDoor
set_option linter.unusedVariables false
set_option linter.unusedSimpArgs false
open Go.RowKit Go.Png

/-- A palette's entries lie in block pb. -/
structure PalAt (L : Lay) (r : Src) (D C : Nat) (w : World) (pb : Nat) (e : Nat → Value) : Prop where
  lo : L.lo ≤ pb
  foot : ¬ foot r D C pb
  lt : pb < w.heap.size
  cell : ∀ i, i < 256 → w.cell? ⟨pb, i, none⟩ = some (e i)
  fz : ∀ i, w.frozen? ⟨pb, i, none⟩ = false

theorem PalAt.mod {L : Lay} {r : Src} {D C : Nat} {w w' : World} {pb : Nat} {e : Nat → Value} (h : PalAt L r D C w pb e) {S : Nat → Prop} (m : Mod S w w') (hS : ¬ S pb) : PalAt L r D C w' pb e :=
  ⟨h.lo, h.foot, Nat.lt_of_lt_of_le h.lt m.size, fun i hi => (m.cell h.lt hS i).trans (h.cell i hi), fun i => (m.frozen h.lt hS i).trans (h.fz i)⟩

/-- A color without alpha, as the program keeps it. -/
def rgbaV (r g b : UInt8) : Value := .iface 142 (.agg #[.int .u8 (r.toNat : Nat), .int .u8 (g.toNat : Nat), .int .u8 (b.toNat : Nat), .int .u8 255])

/-- The entries of a palette of np colors. -/
def palE (np : Nat) (pl : List UInt8) (i : Nat) : Value := if i < np then rgbaV (at_ pl (3 * i)) (at_ pl (3 * i + 1)) (at_ pl (3 * i + 2)) else rgbaV 0 0 0

set_option maxRecDepth 100000 in
set_option maxHeartbeats 4000000 in
/-- The loop that lays the colors. -/
theorem plte_loop1 (L : Lay) (r : Src) (D C : Nat) (s : Sep L r D C) (w : World) (d : Dec) (inp pl : List UInt8) (np pb : Nat) (e0 : Nat → Value) (hnp : np ≤ 256) (h : St L r D C w { d with pal := .slice (some ⟨pb, 0, none⟩) 256 256 } inp)
    (hb : Bytes w D 10 pl) (hpl : pl.length = 3 * np) (hp : PalAt L r D C w pb e0)
    (u1 u2 u3 u6 u7 u9 u10 u11 u12 u13 u14 u15 u16 u17 u18 u19 u20 u21 u22 u23 u24 u25 u26 u27 u28 u29 u30 u31 u32 u33 u34 u35 u36 u37 u38 u39 u40 u41 u42 u43 u44 u45 u46 u47 u48 u49 u50 u51 u52 u53 u54 u55 u56 u57 u58 u59 u60 u61 u62 u63 u64 u65 u66 u67 u68 u69 u70 u71 u72 u73 u74 u75 u76 u77 u78 u79 u80 u81 u82 u83 u84 u85 u86 u87 u88 u89 u90 u91 u92 u93 u94 u95 u96 u97 u98 u99 u100 u101 u102 u103 u104 u105 u106 u107 u108 u109 u110 u111 u112 u113 u114 u115 u116 u117 u118 u119 u120 u121 u122 u123 u124 u125 u126 u127 u128 u129 u130 u131 u132 u133 u134 u135 u136 u137 u138 u139 u140 u141 : Value) (Q : Exit → Act → World → Prop)
    (hQ : ∀ w' (u8 u9 u10 u11 u12 u13 u14 u15 u16 u17 u18 u19 u20 u21 u22 u23 u24 u25 u26 u27 u28 u29 u30 u31 u32 u33 u34 u35 u36 u37 u38 u39 u40 u41 u42 u43 u44 u45 u46 u47 u48 u49 u50 u51 u52 u53 u54 u55 u56 u57 u58 u59 u60 u61 u62 u63 u64 u65 u66 u67 u68 u69 u70 u71 u72 u73 u74 u75 u76 u77 u78 u79 u80 u81 u82 u83 u84 u85 u86 u87 u88 u89 u90 u91 u92 u93 u94 u95 u96 u97 u98 u99 u100 u101 u102 u103 u104 u105 u106 u107 u108 u109 u110 u111 u112 u113 u114 u115 u116 u117 u118 u119 u120 u121 u122 u123 u124 u125 u126 u127 u128 u129 u130 u131 u132 u133 u134 u135 u136 u137 u138 u139 u140 u141 : Value), St L r D C w' { d with pal := .slice (some ⟨pb, 0, none⟩) 256 256 } inp → PalAt L r D C w' pb (fun i => if i < np then palE np pl i else e0 i) → Mod (fun k => k = pb) w w' →
       Q .normal ⟨#[.pointer (some ⟨D, 0, none⟩), u1, u2, u3, .nilIface, .int .i64 np, u6, u7, u8, u9, u10, u11, u12, u13, u14, u15, u16, u17, u18, u19, u20, u21, u22, u23, u24, u25, u26, u27, u28, u29, u30, u31, u32, u33, u34, u35, u36, u37, u38, u39, u40, u41, u42, u43, u44, u45, u46, u47, u48, u49, u50, u51, u52, u53, u54, u55, u56, u57, u58, u59, u60, u61, u62, u63, u64, u65, u66, u67, u68, u69, u70, u71, u72, u73, u74, u75, u76, u77, u78, u79, u80, u81, u82, u83, u84, u85, u86, u87, u88, u89, u90, u91, u92, u93, u94, u95, u96, u97, u98, u99, u100, u101, u102, u103, u104, u105, u106, u107, u108, u109, u110, u111, u112, u113, u114, u115, u116, u117, u118, u119, u120, u121, u122, u123, u124, u125, u126, u127, u128, u129, u130, u131, u132, u133, u134, u135, u136, u137, u138, u139, u140, u141], []⟩ w') :
    Code.wp Tryz.prog (navc [1, 1, 1, 1, 1, 1, 0, 1, 0, 1, 0, 1, 0, 1] (textOf Tryz.f89)) Q
      ⟨#[.pointer (some ⟨D, 0, none⟩), u1, u2, u3, .nilIface, .int .i64 np, u6, u7, .int .i64 0, u9, u10, u11, u12, u13, u14, u15, u16, u17, u18, u19, u20, u21, u22, u23, u24, u25, u26, u27, u28, u29, u30, u31, u32, u33, u34, u35, u36, u37, u38, u39, u40, u41, u42, u43, u44, u45, u46, u47, u48, u49, u50, u51, u52, u53, u54, u55, u56, u57, u58, u59, u60, u61, u62, u63, u64, u65, u66, u67, u68, u69, u70, u71, u72, u73, u74, u75, u76, u77, u78, u79, u80, u81, u82, u83, u84, u85, u86, u87, u88, u89, u90, u91, u92, u93, u94, u95, u96, u97, u98, u99, u100, u101, u102, u103, u104, u105, u106, u107, u108, u109, u110, u111, u112, u113, u114, u115, u116, u117, u118, u119, u120, u121, u122, u123, u124, u125, u126, u127, u128, u129, u130, u131, u132, u133, u134, u135, u136, u137, u138, u139, u140, u141], []⟩ w := by
  conv => arg 2; whnf
  have HQ := Lib.hid hQ; clear hQ
  have HST := Lib.hid h; have HP := Lib.hid hp; have HB := Lib.hid hb
  clear h hp hb
  go_wp2
  go_loopg [8] (np - 0) (fun k v8 wr => ∃ j : Nat, j ≤ np ∧ k = np - j ∧ v8 = .int .i64 j ∧ St L r D C wr { d with pal := .slice (some ⟨pb, 0, none⟩) 256 256 } inp ∧ PalAt L r D C wr pb (fun i => if i < j then palE np pl i else e0 i) ∧ Mod (fun k => k = pb) w wr ∧ Bytes wr D 10 pl)
  case atStart => exact ⟨0, by omega, rfl, rfl, HST.out, by simpa using HP.out, Mod.refl _ _, HB.out⟩
  case round =>
    obtain ⟨j, hj, hk, rfl, st, pp, mm, bb⟩ := hrel
    by_cases hlt : j < np
    · have b0 := bb (3 * j) (by omega)
      have b1 := bb (3 * j + 1) (by omega)
      have b2 := bb (3 * j + 2) (by omega)
      have c6 := st.dec.pal
      have cj := pp.cell j (by omega)
      have fj := pp.fz j
      have HSTr := Lib.hid st; have HPr := Lib.hid pp; have HMr := Lib.hid mm; have HBr := Lib.hid bb; have HK := Lib.hid hk
      clear st pp mm bb hk
      go_wp2
      have a1 : IntKind.i64.wrap (3 * (j : Int)) = 3 * (j : Int) := IntWalk.i64_in _ (by omega)
      have a2 : IntKind.i64.wrap (3 * (j : Int) + 1) = 3 * (j : Int) + 1 := IntWalk.i64_in _ (by omega)
      have a3 : IntKind.i64.wrap (3 * (j : Int) + 2) = 3 * (j : Int) + 2 := IntWalk.i64_in _ (by omega)
      have g1 : (0 : Int) ≤ 3 * (j : Int) ∧ 3 * (j : Int) < 768 := by omega
      have g2 : (0 : Int) ≤ 3 * (j : Int) + 1 ∧ 3 * (j : Int) + 1 < 768 := by omega
      have g3 : (0 : Int) ≤ 3 * (j : Int) + 2 ∧ 3 * (j : Int) + 2 < 768 := by omega
      have n1 : (3 * (j : Int)).toNat = 3 * j := by omega
      have n2 : (3 * (j : Int) + 1).toNat = 3 * j + 1 := by omega
      have n3 : (3 * (j : Int) + 2).toNat = 3 * j + 2 := by omega
      go_still_tail 31, (by kernel_rfl)
      change wpList _ _ _ _ _ wr.drew
      clear a1 a2 a3 g1 g2 g3 n1 n2 n3 b0 b1 b2
      go_wp2
      have m1 : Mod (fun k => k = pb) wr (wr.drew.setCell ⟨pb, j, none⟩ (rgbaV pl[3 * j] pl[3 * j + 1] pl[3 * j + 2])) := ((Mod.refl (fun k => k = pb) wr).drew).setCell (p := ⟨pb, j, none⟩) (Or.inl rfl) _
      have hpp := HPr.out
      go_roundg (np - (j + 1))
      case measure => have := HK.out; omega
      case rel =>
        refine ⟨j + 1, by omega, rfl, by go_num, HSTr.out.mod s m1 (fun k hk => by subst hk; exact ⟨hpp.lo, hpp.foot⟩), ?_, HMr.out.trans m1, HBr.out.mod m1 HSTr.out.dec.ltD (fun e => hpp.foot (Or.inr (Or.inl e.symm)))⟩
        refine ⟨hpp.lo, hpp.foot, by simpa using hpp.lt, fun i hi => ?_, fun i => by simpa using hpp.fz i⟩
        by_cases hij : i = j
        · subst hij
          rw [if_pos (by omega)]
          have := World.cell?_setCell_same wr.drew ⟨pb, i, none⟩ (rgbaV pl[3 * i] pl[3 * i + 1] pl[3 * i + 2]) (hpp.cell i hi)
          rw [palE, if_pos hlt]
          have e0 : at_ pl (3 * i) = pl[3 * i] := by unfold at_; rw [List.getD_eq_getElem?_getD, List.getElem?_eq_getElem (by omega)]; rfl
          have e1 : at_ pl (3 * i + 1) = pl[3 * i + 1] := by unfold at_; rw [List.getD_eq_getElem?_getD, List.getElem?_eq_getElem (by omega)]; rfl
          have e2 : at_ pl (3 * i + 2) = pl[3 * i + 2] := by unfold at_; rw [List.getD_eq_getElem?_getD, List.getElem?_eq_getElem (by omega)]; rfl
          rw [e0, e1, e2]
          exact this
        · have hc := hpp.cell i hi
          have : (wr.drew.setCell ⟨pb, j, none⟩ (rgbaV pl[3 * j] pl[3 * j + 1] pl[3 * j + 2])).cell? ⟨pb, i, none⟩ = wr.drew.cell? ⟨pb, i, none⟩ :=
            World.cell?_setCell_other _ _ _ _ (fun e => hij (congrArg Addr.off e).symm)
          refine (this.trans hc).trans ?_
          by_cases h1 : i < j
          · rw [if_pos h1, if_pos (by omega)]
          · rw [if_neg h1, if_neg (by omega)]
    · obtain rfl : j = np := by omega
      have HSTr := Lib.hid st; have HPr := Lib.hid pp; have HMr := Lib.hid mm
      clear st pp mm bb hk
      have HQ2 := HQ.out
      clear HQ
      go_wp2
      exact HQ2 wr _ _ _ _ _ _ _ _ _ _ _ _ _ _ _ _ _ _ _ _ _ _ _ _ _ _ _ _ _ _ _ _ _ _ _ _ _ _ _ _ _ _ _ _ _ _ _ _ _ _ _ _ _ _ _ _ _ _ _ _ _ _ _ _ _ _ _ _ _ _ _ _ _ _ _ _ _ _ _ _ _ _ _ _ _ _ _ _ _ _ _ _ _ _ _ _ _ _ _ _ _ _ _ _ _ _ _ _ _ _ _ _ _ _ _ _ _ _ _ _ _ _ _ _ _ _ _ _ _ _ _ _ _ _ HSTr.out HPr.out HMr.out

set_option maxRecDepth 100000 in
set_option maxHeartbeats 4000000 in
/-- The loop that lays black behind them. -/
theorem plte_loop2 (L : Lay) (r : Src) (D C : Nat) (s : Sep L r D C) (w : World) (d : Dec) (inp pl : List UInt8) (np pb : Nat) (e0 : Nat → Value) (hnp : np ≤ 256) (h : St L r D C w { d with pal := .slice (some ⟨pb, 0, none⟩) 256 256 } inp)
    (hp : PalAt L r D C w pb (fun i => if i < np then palE np pl i else e0 i))
    (u1 u2 u3 u6 u7 u8 u10 u11 u12 u13 u14 u15 u16 u17 u18 u19 u20 u21 u22 u23 u24 u25 u26 u27 u28 u29 u30 u31 u32 u33 u34 u35 u36 u37 u38 u39 u40 u41 u42 u43 u44 u45 u46 u47 u48 u49 u50 u51 u52 u53 u54 u55 u56 u57 u58 u59 u60 u61 u62 u63 u64 u65 u66 u67 u68 u69 u70 u71 u72 u73 u74 u75 u76 u77 u78 u79 u80 u81 u82 u83 u84 u85 u86 u87 u88 u89 u90 u91 u92 u93 u94 u95 u96 u97 u98 u99 u100 u101 u102 u103 u104 u105 u106 u107 u108 u109 u110 u111 u112 u113 u114 u115 u116 u117 u118 u119 u120 u121 u122 u123 u124 u125 u126 u127 u128 u129 u130 u131 u132 u133 u134 u135 u136 u137 u138 u139 u140 u141 : Value) (Q : Exit → Act → World → Prop)
    (hQ : ∀ w' (u8 u9 u10 u11 u12 u13 u14 u15 u16 u17 u18 u19 u20 u21 u22 u23 u24 u25 u26 u27 u28 u29 u30 u31 u32 u33 u34 u35 u36 u37 u38 u39 u40 u41 u42 u43 u44 u45 u46 u47 u48 u49 u50 u51 u52 u53 u54 u55 u56 u57 u58 u59 u60 u61 u62 u63 u64 u65 u66 u67 u68 u69 u70 u71 u72 u73 u74 u75 u76 u77 u78 u79 u80 u81 u82 u83 u84 u85 u86 u87 u88 u89 u90 u91 u92 u93 u94 u95 u96 u97 u98 u99 u100 u101 u102 u103 u104 u105 u106 u107 u108 u109 u110 u111 u112 u113 u114 u115 u116 u117 u118 u119 u120 u121 u122 u123 u124 u125 u126 u127 u128 u129 u130 u131 u132 u133 u134 u135 u136 u137 u138 u139 u140 u141 : Value), St L r D C w' { d with pal := .slice (some ⟨pb, 0, none⟩) 256 256 } inp → PalAt L r D C w' pb (palE np pl) → Mod (fun k => k = pb) w w' →
       Q .normal ⟨#[.pointer (some ⟨D, 0, none⟩), u1, u2, u3, .nilIface, .int .i64 np, u6, u7, u8, u9, u10, u11, u12, u13, u14, u15, u16, u17, u18, u19, u20, u21, u22, u23, u24, u25, u26, u27, u28, u29, u30, u31, u32, u33, u34, u35, u36, u37, u38, u39, u40, u41, u42, u43, u44, u45, u46, u47, u48, u49, u50, u51, u52, u53, u54, u55, u56, u57, u58, u59, u60, u61, u62, u63, u64, u65, u66, u67, u68, u69, u70, u71, u72, u73, u74, u75, u76, u77, u78, u79, u80, u81, u82, u83, u84, u85, u86, u87, u88, u89, u90, u91, u92, u93, u94, u95, u96, u97, u98, u99, u100, u101, u102, u103, u104, u105, u106, u107, u108, u109, u110, u111, u112, u113, u114, u115, u116, u117, u118, u119, u120, u121, u122, u123, u124, u125, u126, u127, u128, u129, u130, u131, u132, u133, u134, u135, u136, u137, u138, u139, u140, u141], []⟩ w') :
    Code.wp Tryz.prog (navc [1, 1, 1, 1, 1, 1, 0, 1, 0, 1, 0, 1, 1, 0, 1] (textOf Tryz.f89)) Q
      ⟨#[.pointer (some ⟨D, 0, none⟩), u1, u2, u3, .nilIface, .int .i64 np, u6, u7, u8, .int .i64 np, u10, u11, u12, u13, u14, u15, u16, u17, u18, u19, u20, u21, u22, u23, u24, u25, u26, u27, u28, u29, u30, u31, u32, u33, u34, u35, u36, u37, u38, u39, u40, u41, u42, u43, u44, u45, u46, u47, u48, u49, u50, u51, u52, u53, u54, u55, u56, u57, u58, u59, u60, u61, u62, u63, u64, u65, u66, u67, u68, u69, u70, u71, u72, u73, u74, u75, u76, u77, u78, u79, u80, u81, u82, u83, u84, u85, u86, u87, u88, u89, u90, u91, u92, u93, u94, u95, u96, u97, u98, u99, u100, u101, u102, u103, u104, u105, u106, u107, u108, u109, u110, u111, u112, u113, u114, u115, u116, u117, u118, u119, u120, u121, u122, u123, u124, u125, u126, u127, u128, u129, u130, u131, u132, u133, u134, u135, u136, u137, u138, u139, u140, u141], []⟩ w := by
  conv => arg 2; whnf
  have HQ := Lib.hid hQ; clear hQ
  have HST := Lib.hid h; have HP := Lib.hid hp
  clear h hp
  go_wp2
  go_loopg [9] (256 - np) (fun k v9 wr => ∃ j : Nat, np ≤ j ∧ j ≤ 256 ∧ k = 256 - j ∧ v9 = .int .i64 j ∧ St L r D C wr { d with pal := .slice (some ⟨pb, 0, none⟩) 256 256 } inp ∧ PalAt L r D C wr pb (fun i => if i < j then palE np pl i else e0 i) ∧ Mod (fun k => k = pb) w wr)
  case atStart => exact ⟨np, by omega, by omega, rfl, rfl, HST.out, HP.out, Mod.refl _ _⟩
  case round =>
    obtain ⟨j, hj, hj2, hk, rfl, st, pp, mm⟩ := hrel
    by_cases hlt : j < 256
    · have c6 := st.dec.pal
      have cj := pp.cell j (by omega)
      have fj := pp.fz j
      have HSTr := Lib.hid st; have HPr := Lib.hid pp; have HMr := Lib.hid mm; have HK := Lib.hid hk
      clear st pp mm hk
      go_wp2
      have m1 : Mod (fun k => k = pb) wr (wr.setCell ⟨pb, j, none⟩ (rgbaV 0 0 0)) := (Mod.refl (fun k => k = pb) wr).setCell (p := ⟨pb, j, none⟩) (Or.inl rfl) _
      have hpp := HPr.out
      go_roundg (256 - (j + 1))
      case measure => have := HK.out; omega
      case rel =>
        refine ⟨j + 1, by omega, by omega, rfl, by go_num, HSTr.out.mod s m1 (fun k hk => by subst hk; exact ⟨hpp.lo, hpp.foot⟩), ?_, HMr.out.trans m1⟩
        refine ⟨hpp.lo, hpp.foot, by simpa using hpp.lt, fun i hi => ?_, fun i => by simpa using hpp.fz i⟩
        by_cases hij : i = j
        · subst hij
          rw [if_pos (by omega)]
          have := World.cell?_setCell_same wr ⟨pb, i, none⟩ (rgbaV 0 0 0) (hpp.cell i hi)
          rw [palE, if_neg (by omega)]
          exact this
        · have hc := hpp.cell i hi
          have : (wr.setCell ⟨pb, j, none⟩ (rgbaV 0 0 0)).cell? ⟨pb, i, none⟩ = wr.cell? ⟨pb, i, none⟩ :=
            World.cell?_setCell_other _ _ _ _ (fun e => hij (congrArg Addr.off e).symm)
          refine (this.trans hc).trans ?_
          by_cases h1 : i < j
          · rw [if_pos h1, if_pos (by omega)]
          · rw [if_neg h1, if_neg (by omega)]
    · obtain rfl : j = 256 := by omega
      have pp2 : PalAt L r D C wr pb (palE np pl) := ⟨pp.lo, pp.foot, pp.lt, fun i hi => by rw [pp.cell i hi, if_pos hi], pp.fz⟩
      have HSTr := Lib.hid st; have HPr := Lib.hid pp2; have HMr := Lib.hid mm
      clear st pp mm hk pp2
      have HQ2 := HQ.out
      clear HQ
      go_wp2
      exact HQ2 wr _ _ _ _ _ _ _ _ _ _ _ _ _ _ _ _ _ _ _ _ _ _ _ _ _ _ _ _ _ _ _ _ _ _ _ _ _ _ _ _ _ _ _ _ _ _ _ _ _ _ _ _ _ _ _ _ _ _ _ _ _ _ _ _ _ _ _ _ _ _ _ _ _ _ _ _ _ _ _ _ _ _ _ _ _ _ _ _ _ _ _ _ _ _ _ _ _ _ _ _ _ _ _ _ _ _ _ _ _ _ _ _ _ _ _ _ _ _ _ _ _ _ _ _ _ _ _ _ _ _ _ _ _ _ HSTr.out HPr.out HMr.out

end Go.Proofs.YtnpkgmgedgcjmaaGreatDoor
