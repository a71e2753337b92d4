/- The reference's rows of an image, bare: the function. The reference's writer of files: the head. The reference's writer of files: the packed bytes. No conditions but those in each theorem's own binders. -/
import Derived.Test.YtnpkgmgedgcjmaaGreatDoorCE31
import Derived.Test.YtnpkgmgedgcjmaaGreatDoorCE33
namespace Go.Proofs.YtnpkgmgedgcjmaaGreatDoor
set_option linter.unusedVariables false
set_option linter.unusedSimpArgs false
open Go.RowKit Go.Png

set_option maxRecDepth 100000 in
set_option maxHeartbeats 1000000 in
theorem specBare (w : World) (s : Shp) (sa fa : Option Addr) (sn sc fn fc : Nat) (sm : List Nat) (fl : List UInt8) (hsm : sm.length = sn) (hsc : sn ≤ sc) (hsb : ∀ x ∈ sm, x < 65536) (hfl : fl.length = fn) (hS : SlI w sa sm) (hF : SlB w fa fl) (hln : sm.length = s.wide * s.high * chanN s.colour)
    (hwide : s.wide ≤ 40) (hhigh : s.high ≤ 40) (hc : ColOk s.colour) (hd : DepOk s.depth) (hfn : fn ≤ 4294967296) :
    Calls Tryz.prog 56 #[s.val, .slice sa sn sc, .slice fa fn fc] w fun e w' => ∃ g c, e = .returned (.slice (some ⟨g, 0, none⟩) (bareL s sm fl).length c) ∧ Own8 w' w.heap.size g c (bareL s sm fl) ∧ Mod (fun _ => False) w w' := by
  have hs0 : ShpAt (w.alloc (.cells #[.int .i64 s.wide, .int .i64 s.high, .int .i64 s.depth, .int .i64 s.colour, .bool s.laced] 26)) w.heap.size s := ⟨by rw [World.cell?_alloc_new]; rfl, by rw [World.cell?_alloc_new]; rfl, by rw [World.cell?_alloc_new]; rfl, by rw [World.cell?_alloc_new]; rfl, by rw [World.cell?_alloc_new]; rfl⟩
  have m0 : Mod (fun _ => False) w (w.alloc (.cells #[.int .i64 s.wide, .int .i64 s.high, .int .i64 s.depth, .int .i64 s.colour, .bool s.laced] 26)) := (Mod.refl _ w).alloc _
  have hz : (w.alloc (.cells #[.int .i64 s.wide, .int .i64 s.high, .int .i64 s.depth, .int .i64 s.colour, .bool s.laced] 26)).heap.size = w.heap.size + 1 := by simp
  have H0 := Lib.hid hs0; have M0 := Lib.hid m0; have HS := Lib.hid hS; have HF := Lib.hid hF; have HSM := Lib.hid hsm; have HSB := Lib.hid hsb; have HFL := Lib.hid hfl; have HLN := Lib.hid hln; have HC := Lib.hid hc; have HD := Lib.hid hd; have HZ := Lib.hid hz
  clear hs0 m0 hS hF hsm hsb hfl hln hc hd hz
  have hch := fun wz : World => specChannels wz s.colour HC.out
  have hpa := fun wz : World => specPasses wz s.laced
  have HCH := Lib.hid hch; have HPA := Lib.hid hpa
  clear hch hpa
  unfold Shp.val
  go_enter Tryz.func56, Tryz.ntmps56
  go_upto_region 1 with fail
  have h0 := H0.out
  generalize w.alloc (.cells #[.int .i64 s.wide, .int .i64 s.high, .int .i64 s.depth, .int .i64 s.colour, .bool s.laced] 26) = w1 at *
  have m1 : Mod (fun _ => False) w1 (w1.alloc (.cells #[] 5)) := (Mod.refl _ w1).alloc _
  have hn1 := Own8.new w1 w.heap.size (by rw [HZ.out]; omega)
  have h1 := h0.mod m1 id
  have H1 := Lib.hid h1; have M1 := Lib.hid (M0.out.trans m1); have N1 := Lib.hid hn1
  clear hn1 m1 h0
  go_upto_region 2 with fail
  generalize w1.alloc (.cells #[] 5) = w2 at *
  have d3 := h1.colour; have d4 := h1.laced
  clear h1
  go_upto_block 0 with (first | (go_at_call 36; refine (HCH.out _).mono ?_; rintro e wz ⟨rfl, rfl⟩) | (go_at_call 72; refine (HPA.out _).mono ?_; rintro e wz ⟨rfl, rfl⟩))
  rename_i K hK
  have hK2 := fun (a : Act) (w : World) (h : Hid _) => hK a w h.out
  clear hK
  have hsz2 := M1.out.size
  refine bare_parts w2 w.heap.size s w.heap.size sa fa sn sc fn fc w1.heap.size sm fl hsz2 N1.out HSM.out hsc HSB.out HFL.out (fun w' m => ?_) (by have := HZ.out; omega) HLN.out hwide hhigh HC.out HD.out hfn _ _ _ _ _ _ _ _ _ _ _ _ _ _ _ _ _ _ _ _ _ _ _ _ _ _ _ _ _ _ _ _ _ _ _ _ _ _ _ _ _ _ _ _ _ _ _ _ _ _ _ _ _ _ _ _ _ _ _ _ _ _ _ _ _ _ _ _ _ _ _ _ _ _ _ _ _ _ _ _ _ _ _ _ _ _ _ _ _ _ _ _ _ _ _ _ _ _ _ _ _ _ _ _ _ _ _ _ _ _ _ _ _ ?_
  · have m2 : Mod (fun _ => False) w w' := M1.out.then m (fun k hk h => by have := HZ.out; omega)
    exact ⟨HS.out.mod m2 (fun _ _ h => h), H1.out.mod m (by have := HZ.out; omega), HF.out.news m2⟩
  · intro w3 g c _ _ _ _ _ _ _ _ _ _ _ _ _ _ _ _ _ _ _ _ _ _ _ _ _ _ _ _ _ _ _ _ _ _ _ _ _ _ _ _ _ _ _ _ _ _ _ _ _ _ _ _ _ _ _ _ _ _ _ _ _ _ _ _ _ _ _ _ _ _ _ _ _ _ _ _ _ _ _ _ _ _ _ _ _ _ _ _ _ _ _ _ _ _ _ _ _ _ _ _ _ _ own m
    change K _ _
    refine hK2 _ _ (Lib.hid ?_)
    have m2 : Mod (fun _ => False) w w3 := M1.out.then m (fun k hk h => by have := HZ.out; omega)
    have OWN := Lib.hid own; have M2 := Lib.hid m2
    clear own m m2 hsz2
    go_wp2
    go_ret
    exact ⟨g, c, rfl, OWN.out, M2.out⟩
end Go.Proofs.YtnpkgmgedgcjmaaGreatDoor
namespace Go.Proofs.YtnpkgmgedgcjmaaGreatDoor
set_option linter.unusedVariables false
set_option linter.unusedSimpArgs false
open Go.RowKit Go.Png

def lacedN (b : Bool) : Nat := if b then 1 else 0
/-- The head's last five bytes; the thirteen. -/
def head5 (s : Shp) : List UInt8 := [UInt8.ofNat s.depth, UInt8.ofNat s.colour, 0, 0, UInt8.ofNat (lacedN s.laced)]
def headL (s : Shp) : List UInt8 := four s.wide ++ four s.high ++ head5 s
abbrev headO (s : Shp) : Obj := .cells #[.int .u8 (IntKind.u8.wrap (s.depth : Int)), .int .u8 (IntKind.u8.wrap (s.colour : Int)), .int .u8 0, .int .u8 0, .int .u8 (lacedN s.laced : Nat)] 5

theorem headB (s : Shp) (hd : s.depth ≤ 16) (hc : s.colour ≤ 6) (wz : World) : Bytes (wz.alloc (headO s)) wz.heap.size 0 (head5 s) := by
  have hu : ∀ x : Nat, x < 256 → IntKind.u8.wrap (x : Int) = ((UInt8.ofNat x).toNat : Nat) := fun x hx => by
    rw [UInt8.toNat_ofNat', Nat.mod_eq_of_lt (by omega)]; exact IntWalk.u8_in _ (by omega)
  intro i hi
  unfold headO head5
  rw [World.cell?_alloc_new, hu _ (by omega), hu _ (by omega)]
  have : i = 0 ∨ i = 1 ∨ i = 2 ∨ i = 3 ∨ i = 4 := by simp [head5] at hi; omega
  have hl : (lacedN s.laced : Int) = ((UInt8.ofNat (lacedN s.laced)).toNat : Nat) := by cases s.laced <;> rfl
  rw [hl]
  rcases this with rfl | rfl | rfl | rfl | rfl <;> rfl

theorem Bytes5 {w w' : World} {q : Nat} {s : Shp} (h : Bytes w q 0 (head5 s)) {S : Nat → Prop} (m : Mod S w w') (hS : ¬ S q) : Bytes w' q 0 (head5 s) :=
  h.mod m (lt_of_cell (h 0 (by simp [head5]))) hS

set_option maxRecDepth 100000 in
set_option maxHeartbeats 2000000 in
theorem write_head (w : World) (base : Nat) (s : Shp) (SB : Nat) (hbase : base ≤ w.heap.size) (hsh : ShpAt w SB s) (hwide : s.wide ≤ 40) (hhigh : s.high ≤ 40) (hd : s.depth ≤ 16) (hc : s.colour ≤ 6)
    (u0 u1 u2 u3 u4 u5 u6 u8 u9 u10 u11 u12 u13 u14 u16 u17 u18 u19 u20 u21 u22 u23 u24 u25 u26 u27 u28 u29 u30 u31 u32 u33 u34 u35 u36 u37 u38 u39 u40 u41 u42 u43 u44 u45 u46 u47 u48 u49 u50 u51 u52 u53 u54 u55 u56 u57 u58 u59 u60 u61 u62 u63 u64 u65 u66 u67 u68 u69 u70 u71 u72 u73 u74 u75 u76 u77 u78 u79 u80 u81 u82 u83 u84 u85 u86 u87 u88 u89 u90 u91 u92 u93 u94 u95 u96 u97 u98 u99 u100 u101 u102 u103 u104 u105 u106 u107 u108 u109 u110 u111 u112 u113 u114 u115 u116 u117 u118 u119 u120 u121 u122 u123 u124 u125 u126 u127 u128 u129 u130 u131 u132 u133 u134 u135 u136 u137 u138 u139 u140 u141 u142 u143 u144 u145 u146 u147 u148 u149 u150 u151 u152 u153 u154 u155 u156 u157 u158 u159 u160 u161 u162 u163 u164 u165 u166 u167 u168 u169 u170 : Value) (Q : Exit → Act → World → Prop)
    (hQ : ∀ w' g c (v30 v31 v32 v33 v34 v35 v36 v37 v38 v39 v40 v41 v42 v43 v44 v45 v46 v47 : Value), Own8 w' base g c (headL s) → Mod (fun _ => False) w w' →
       Q .normal ⟨#[u0, u1, u2, u3, u4, u5, u6, .pointer (some ⟨SB, 0, none⟩), u8, u9, u10, u11, u12, u13, u14, .int .u8 (lacedN s.laced : Nat), .slice (some ⟨g, 0, none⟩) 13 c, u17, u18, u19, u20, u21, u22, u23, u24, u25, u26, u27, u28, u29, v30, v31, v32, v33, v34, v35, v36, v37, v38, v39, v40, v41, v42, v43, v44, v45, v46, v47, u48, u49, u50, u51, u52, u53, u54, u55, u56, u57, u58, u59, u60, u61, u62, u63, u64, u65, u66, u67, u68, u69, u70, u71, u72, u73, u74, u75, u76, u77, u78, u79, u80, u81, u82, u83, u84, u85, u86, u87, u88, u89, u90, u91, u92, u93, u94, u95, u96, u97, u98, u99, u100, u101, u102, u103, u104, u105, u106, u107, u108, u109, u110, u111, u112, u113, u114, u115, u116, u117, u118, u119, u120, u121, u122, u123, u124, u125, u126, u127, u128, u129, u130, u131, u132, u133, u134, u135, u136, u137, u138, u139, u140, u141, u142, u143, u144, u145, u146, u147, u148, u149, u150, u151, u152, u153, u154, u155, u156, u157, u158, u159, u160, u161, u162, u163, u164, u165, u166, u167, u168, u169, u170], []⟩ w') :
    Code.wp Tryz.prog (navc [1, 1, 1, 0] (textOf Tryz.f40)) Q
      ⟨#[u0, u1, u2, u3, u4, u5, u6, .pointer (some ⟨SB, 0, none⟩), u8, u9, u10, u11, u12, u13, u14, .int .u8 (lacedN s.laced : Nat), u16, u17, u18, u19, u20, u21, u22, u23, u24, u25, u26, u27, u28, u29, u30, u31, u32, u33, u34, u35, u36, u37, u38, u39, u40, u41, u42, u43, u44, u45, u46, u47, u48, u49, u50, u51, u52, u53, u54, u55, u56, u57, u58, u59, u60, u61, u62, u63, u64, u65, u66, u67, u68, u69, u70, u71, u72, u73, u74, u75, u76, u77, u78, u79, u80, u81, u82, u83, u84, u85, u86, u87, u88, u89, u90, u91, u92, u93, u94, u95, u96, u97, u98, u99, u100, u101, u102, u103, u104, u105, u106, u107, u108, u109, u110, u111, u112, u113, u114, u115, u116, u117, u118, u119, u120, u121, u122, u123, u124, u125, u126, u127, u128, u129, u130, u131, u132, u133, u134, u135, u136, u137, u138, u139, u140, u141, u142, u143, u144, u145, u146, u147, u148, u149, u150, u151, u152, u153, u154, u155, u156, u157, u158, u159, u160, u161, u162, u163, u164, u165, u166, u167, u168, u169, u170], []⟩ w := by
  conv => arg 2; whnf
  dsimp only
  have d0 := hsh.wide; have d1 := hsh.high; have d2 := hsh.depth; have d3 := hsh.colour
  have HQ := Lib.hid hQ; have HSH := Lib.hid hsh
  have LTB := Lib.hid (lt_of_cell d0)
  clear hQ hsh
  have wr1 : IntKind.u32.wrap (s.wide : Int) = (s.wide : Int) := IntWalk.u32_in _ (by omega)
  have wr2 : IntKind.u32.wrap (s.high : Int) = (s.high : Int) := IntWalk.u32_in _ (by omega)
  have hf1 : ∀ wz : World, Calls Tryz.prog 38 #[.int .u32 (IntKind.u32.wrap (s.wide : Int))] wz fun e w' => ∃ g, e = .returned (.slice (some ⟨g, 0, none⟩) 4 4) ∧ Own8 w' wz.heap.size g 4 (four s.wide) ∧ Mod (fun _ => False) wz w' := fun wz => by rw [wr1]; exact specFour wz s.wide (by omega)
  have hf2 : ∀ wz : World, Calls Tryz.prog 38 #[.int .u32 (IntKind.u32.wrap (s.high : Int))] wz fun e w' => ∃ g, e = .returned (.slice (some ⟨g, 0, none⟩) 4 4) ∧ Own8 w' wz.heap.size g 4 (four s.high) ∧ Mod (fun _ => False) wz w' := fun wz => by rw [wr2]; exact specFour wz s.high (by omega)
  have HF1 := Lib.hid hf1; have HF2 := Lib.hid hf2; have HB := Lib.hid (headB s hd hc)
  clear wr1 wr2 hf1 hf2
  go_region_held3 (fun wz => wz.cell? ⟨SB, 0, none⟩ = some (.int .i64 s.wide) ∧ wz.cell? ⟨SB, 1, none⟩ = some (.int .i64 s.high) ∧ wz.cell? ⟨SB, 2, none⟩ = some (.int .i64 s.depth) ∧ wz.cell? ⟨SB, 3, none⟩ = some (.int .i64 s.colour))
    (go_keep)
    ((first
      | (go_at_call 38; (with_reducible refine (HF1.out _).mono ?_); rintro e w1 ⟨g1, rfl, own1, m1⟩; have M1 := Lib.hid (Mod.trans (L := fun _ => False) (a := w) (by first | exact Mod.refl _ _ | exact (Mod.refl _ _).drew | exact (Mod.refl _ _).alloc _ | exact ((Mod.refl _ _).alloc _).drew) m1); have O1 := Lib.hid (own1.mono (Mod.size (L := fun _ => False) (w := w) (by first | exact Mod.refl _ _ | exact (Mod.refl _ _).drew | exact (Mod.refl _ _).alloc _ | exact ((Mod.refl _ _).alloc _).drew))); (first | (have B5 := Lib.hid (Bytes5 (HB.out w) m1 id); have Q5 := Lib.hid (show w.heap.size < g1 from Nat.lt_of_lt_of_le (by simp) own1.base.1)) | (have B5 := Lib.hid (Bytes5 (HB.out w) m1.undrew id); have Q5 := Lib.hid (show w.heap.size < g1 from Nat.lt_of_lt_of_le (by simp) own1.base.1)) | skip); have hshN := HSH.out.mod M1.out id; have k0 := hshN.wide; have k1 := hshN.high; have k2 := hshN.depth; have k3 := hshN.colour; clear hshN; clear own1 m1; go_simp)
      | (go_at_call 38; (with_reducible refine (HF2.out _).mono ?_); rintro e w2 ⟨g2, rfl, own2, m2⟩; have M2' := Lib.hid (Mod.trans (L := fun _ => False) (a := w1) (by first | exact Mod.refl _ _ | exact (Mod.refl _ _).drew | exact (Mod.refl _ _).alloc _ | exact ((Mod.refl _ _).alloc _).drew) m2); have M2 := Lib.hid (M1.out.trans M2'.out); have O12 := Lib.hid (O1.out.mod M2'.out id); have O2 := Lib.hid (own2.mono (Mod.size (L := fun _ => False) (w := w1) (by first | exact Mod.refl _ _ | exact (Mod.refl _ _).drew | exact (Mod.refl _ _).alloc _ | exact ((Mod.refl _ _).alloc _).drew))); (first | (have B5 := Lib.hid (Bytes5 (HB.out w1) m2 id); have Q5 := Lib.hid (show w1.heap.size > g1 from O1.out.base.2)) | (have B5 := Lib.hid (Bytes5 B5.out m2 id)) | skip); have hshN := HSH.out.mod M2.out id; have k0 := hshN.wide; have k1 := hshN.high; have k2 := hshN.depth; have k3 := hshN.colour; clear hshN; clear own2 m2; go_simp)
      | (refine step_app8 rfl _ _ rfl w.heap.size g1 4 4 (four s.wide) rfl rfl (Own8.mod O12.out (S := fun _ => False) (by first | exact Mod.refl _ _ | exact (Mod.refl _ _).drew | exact (Mod.refl _ _).alloc _ | exact ((Mod.refl _ _).alloc _).drew) id) g2 0 4 4 (four s.high) rfl (Own8.bytes (Own8.mod O2.out (S := fun _ => False) (by first | exact Mod.refl _ _ | exact (Mod.refl _ _).drew | exact (Mod.refl _ _).alloc _ | exact ((Mod.refl _ _).alloc _).drew) id)) rfl (by decide) (Nat.le_trans M2.out.size (Mod.size (L := fun _ => False) (by first | exact Mod.refl _ _ | exact (Mod.refl _ _).drew | exact (Mod.refl _ _).alloc _ | exact ((Mod.refl _ _).alloc _).drew))) ?_; intro g3 c3 w3 hown3 hm3 hg3; have h1 := O12.out.base; have M3 := Lib.hid (Mod.then (Mod.trans M2.out (by first | exact Mod.refl _ _ | exact (Mod.refl _ _).drew | exact (Mod.refl _ _).alloc _ | exact ((Mod.refl _ _).alloc _).drew)) hm3.out (fun k hk h => by omega)); (first | (have B5 := Lib.hid (Bytes5 (HB.out w2) hm3.out (by omega))) | (have Q6 := Q5.out; have B5 := Lib.hid (Bytes5 B5.out hm3.out (by omega))) | skip); have hshN := HSH.out.mod M3.out id; have k0 := hshN.wide; have k1 := hshN.high; have k2 := hshN.depth; have k3 := hshN.colour; clear hshN; clear hm3 h1; go_simp)
      | (refine step_app8 rfl _ _ rfl w.heap.size g3 8 c3 (four s.wide ++ four s.high) rfl rfl (Own8.mod hown3.out (S := fun _ => False) (by first | exact Mod.refl _ _ | exact (Mod.refl _ _).drew | exact (Mod.refl _ _).alloc _ | exact ((Mod.refl _ _).alloc _).drew) id) _ 0 5 5 (head5 s) rfl (by first | exact B5.out | exact HB.out w3) rfl (by decide) (Nat.le_trans M3.out.size (Mod.size (L := fun _ => False) (by first | exact Mod.refl _ _ | exact (Mod.refl _ _).drew | exact (Mod.refl _ _).alloc _ | exact ((Mod.refl _ _).alloc _).drew))) ?_; intro g4 c4 w4 hown4 hm4 hg4; have h3 := hown3.out.base; have MF := Lib.hid (Mod.then (Mod.trans M3.out (by first | exact Mod.refl _ _ | exact (Mod.refl _ _).drew | exact (Mod.refl _ _).alloc _ | exact ((Mod.refl _ _).alloc _).drew)) hm4.out (fun k hk h => by omega)); have OF := Lib.hid hown4.out; have hshN := HSH.out.mod MF.out id; have k0 := hshN.wide; have k1 := hshN.high; have k2 := hshN.depth; have k3 := hshN.colour; clear hshN; clear hm4 h3; go_simp)))
  all_goals exact HQ.out w4 g4 c4 _ _ _ _ _ _ _ _ _ _ _ _ _ _ _ _ _ _ (OF.out.mono hbase) MF.out
end Go.Proofs.YtnpkgmgedgcjmaaGreatDoor
namespace Go.Proofs.YtnpkgmgedgcjmaaGreatDoor
set_option linter.unusedVariables false
set_option linter.unusedSimpArgs false
open Go.RowKit Go.Png

theorem bareL_pos (s : Shp) (sm : List Nat) (fl : List UInt8) (hd : DepOk s.depth) (hw : 1 ≤ s.wide) (hh : 1 ≤ s.high) (hl : sm.length = s.wide * s.high * chanN s.colour) : 0 < (bareL s sm fl).length := by
  have h1 : 1 ≤ passN s.laced := by unfold passN; split <;> decide
  have mono : ∀ k, 1 ≤ k → 0 < (bareP s sm fl k).1.length := by
    intro k hk
    induction k with
    | zero => omega
    | succ k ih =>
      by_cases h0 : k = 0
      · subst h0
        obtain ⟨p1, p2, s1, s2⟩ := prt_ok s.laced 0 (by omega)
        have hy := bareY_length s sm fl (prtN s.laced 0) (sizeN (prtN s.laced 0) s.wide s.high).1 0 (zerosL (rowN s (sizeN (prtN s.laced 0) s.wide s.high).1)) _ hd (size_pix s sm _ s1 s2 hl) _ (Nat.le_refl _)
        have hx0 : (prtN s.laced 0).x = 0 ∧ (prtN s.laced 0).y = 0 := by cases s.laced <;> exact ⟨rfl, rfl⟩
        have c1 : 0 < cntN (prtN s.laced 0).x (prtN s.laced 0).dx s.wide := (cnt_lt s1).2 (by rw [hx0.1]; omega)
        have c2 : 0 < cntN (prtN s.laced 0).y (prtN s.laced 0).dy s.high := (cnt_lt s2).2 (by rw [hx0.2]; omega)
        have hz : 0 < (sizeN (prtN s.laced 0) s.wide s.high).2 := by unfold sizeN; rw [if_neg (by omega)]; exact c2
        have he : (bareP s sm fl 1).1 = (bareY s sm fl (prtN s.laced 0) (sizeN (prtN s.laced 0) s.wide s.high).1 0 (zerosL (rowN s (sizeN (prtN s.laced 0) s.wide s.high).1)) (sizeN (prtN s.laced 0) s.wide s.high).2).1 := by rw [bareP]; rfl
        rw [he, hy]
        exact Nat.mul_pos hz (by omega)
      · have := ih (by omega)
        rw [bareP]; simp only [List.length_append]; omega
  exact mono _ h1

theorem bareL_le (s : Shp) (sm : List Nat) (fl : List UInt8) (hd : DepOk s.depth) (hw : s.wide ≤ 40) (hh : s.high ≤ 40) (hl : sm.length = s.wide * s.high * chanN s.colour) : (bareL s sm fl).length ≤ 112280 := by
  have h1 : passN s.laced ≤ 7 := by unfold passN; split <;> decide
  have := (bareP_bd s sm fl hd hw hh hl _ (Nat.le_refl _)).1
  unfold bareL
  omega

set_option maxRecDepth 100000 in
set_option maxHeartbeats 4000000 in
theorem write_pack (w : World) (s : Shp) (SB BB : Nat) (sa fa ca : Option Addr) (sn sc fn fc cn cc sz ways : Nat) (sm : List Nat) (fl : List UInt8) (hsh : ShpAt w SB s) (hbl : BldAt w BB fa fn fc sz ways ca cn cc) (hsm : sm.length = sn) (hsc : sn ≤ sc) (hsb : ∀ x ∈ sm, x < 65536) (hfl : fl.length = fn) (hS : SlI w sa sm) (hF : SlB w fa fl) (hln : sm.length = s.wide * s.high * chanN s.colour)
    (hw1 : 1 ≤ s.wide) (hh1 : 1 ≤ s.high) (hwide : s.wide ≤ 40) (hhigh : s.high ≤ 40) (hc : ColOk s.colour) (hd : DepOk s.depth) (hfn : fn ≤ 4294967296) (hsz : sz ≤ 65535) (hways : ways ≤ 255)
    (u0 u2 u3 u4 u5 u6 u8 u9 u10 u12 u13 u14 u15 u16 u17 u18 u19 u20 u21 u22 u23 u24 u25 u26 u27 u28 u29 u30 u31 u32 u33 u34 u35 u36 u37 u38 u39 u40 u41 u42 u43 u44 u45 u46 u47 u48 u49 u50 u51 u52 u53 u54 u55 u56 u57 u58 u59 u60 u61 u62 u63 u64 u65 u66 u67 u68 u69 u70 u71 u72 u73 u74 u75 u76 u77 u78 u79 u80 u81 u82 u83 u84 u85 u86 u87 u88 u89 u90 u91 u92 u93 u94 u95 u96 u97 u98 u99 u100 u101 u102 u103 u104 u105 u106 u107 u108 u109 u110 u111 u112 u113 u114 u115 u116 u117 u118 u119 u120 u121 u122 u123 u124 u125 u126 u127 u128 u129 u130 u131 u132 u133 u134 u135 u136 u137 u138 u139 u140 u141 u142 u143 u144 u145 u146 u147 u148 u149 u150 u151 u152 u153 u154 u155 u156 u157 u158 u159 u160 u161 u162 u163 u164 u165 u166 u167 u168 u169 u170 : Value) (Q : Exit → Act → World → Prop)
    (hQ : ∀ w' g c bs (v127 v128 v129 v130 v131 v132 v133 v134 v135 v136 : Value), Blks (bareL s sm fl) (bareL s sm fl).length bs true → bs.length ≤ 132 * (bareL s sm fl).length → Own8 w' w.heap.size g c (packedL (bareL s sm fl) bs) → Mod (fun _ => False) w w' →
       Q .normal ⟨#[u0, .slice sa sn sc, u2, u3, u4, u5, u6, .pointer (some ⟨SB, 0, none⟩), u8, u9, u10, .pointer (some ⟨BB, 0, none⟩), u12, u13, u14, u15, u16, u17, u18, u19, u20, u21, u22, u23, u24, .slice (some ⟨g, 0, none⟩) (packedL (bareL s sm fl) bs).length c, u26, u27, u28, u29, u30, u31, u32, u33, u34, u35, u36, u37, u38, u39, u40, u41, u42, u43, u44, u45, u46, u47, u48, u49, u50, u51, u52, u53, u54, u55, u56, u57, u58, u59, u60, u61, u62, u63, u64, u65, u66, u67, u68, u69, u70, u71, u72, u73, u74, u75, u76, u77, u78, u79, u80, u81, u82, u83, u84, u85, u86, u87, u88, u89, u90, u91, u92, u93, u94, u95, u96, u97, u98, u99, u100, u101, u102, u103, u104, u105, u106, u107, u108, u109, u110, u111, u112, u113, u114, u115, u116, u117, u118, u119, u120, u121, u122, u123, u124, u125, u126, v127, v128, v129, v130, v131, v132, v133, v134, v135, v136, u137, u138, u139, u140, u141, u142, u143, u144, u145, u146, u147, u148, u149, u150, u151, u152, u153, u154, u155, u156, u157, u158, u159, u160, u161, u162, u163, u164, u165, u166, u167, u168, u169, u170], []⟩ w') :
    Code.wp Tryz.prog (navc [1, 1, 1, 1, 1, 1, 1, 1, 1, 1, 1, 0] (textOf Tryz.f40)) Q
      ⟨#[u0, .slice sa sn sc, u2, u3, u4, u5, u6, .pointer (some ⟨SB, 0, none⟩), u8, u9, u10, .pointer (some ⟨BB, 0, none⟩), u12, u13, u14, u15, u16, u17, u18, u19, u20, u21, u22, u23, u24, u25, u26, u27, u28, u29, u30, u31, u32, u33, u34, u35, u36, u37, u38, u39, u40, u41, u42, u43, u44, u45, u46, u47, u48, u49, u50, u51, u52, u53, u54, u55, u56, u57, u58, u59, u60, u61, u62, u63, u64, u65, u66, u67, u68, u69, u70, u71, u72, u73, u74, u75, u76, u77, u78, u79, u80, u81, u82, u83, u84, u85, u86, u87, u88, u89, u90, u91, u92, u93, u94, u95, u96, u97, u98, u99, u100, u101, u102, u103, u104, u105, u106, u107, u108, u109, u110, u111, u112, u113, u114, u115, u116, u117, u118, u119, u120, u121, u122, u123, u124, u125, u126, u127, u128, u129, u130, u131, u132, u133, u134, u135, u136, u137, u138, u139, u140, u141, u142, u143, u144, u145, u146, u147, u148, u149, u150, u151, u152, u153, u154, u155, u156, u157, u158, u159, u160, u161, u162, u163, u164, u165, u166, u167, u168, u169, u170], []⟩ w := by
  conv => arg 2; whnf
  dsimp only
  have hb1 := bareL_pos s sm fl hd hw1 hh1 hln
  have hb2 := bareL_le s sm fl hd hwide hhigh hln
  have hba := fun wz (m : Mod (fun _ => False) w wz) => specBare wz s sa fa sn sc fn fc sm fl hsm hsc hsb hfl (hS.mod m (fun _ _ h => h)) (hF.news m) hln hwide hhigh hc hd hfn
  unfold Shp.val at hba
  have d0 := hsh.wide; have d1 := hsh.high; have d2 := hsh.depth; have d3 := hsh.colour; have d4 := hsh.laced
  have e0 := hbl.f; have e1 := hbl.s; have e2 := hbl.y
  have HQ := Lib.hid hQ; have HSH := Lib.hid hsh; have HBL := Lib.hid hbl; have HBA := Lib.hid hba; have HB1 := Lib.hid hb1; have HB2 := Lib.hid hb2
  clear hQ hsh hbl hba hsm hsb hfl hS hF hln hc hd hb1 hb2
  generalize hll : bareL s sm fl = ll at *
  clear hll
  go_region_held3 (fun wz => wz.cell? ⟨SB, 0, none⟩ = some (.int .i64 s.wide) ∧ wz.cell? ⟨SB, 1, none⟩ = some (.int .i64 s.high) ∧ wz.cell? ⟨SB, 2, none⟩ = some (.int .i64 s.depth) ∧ wz.cell? ⟨SB, 3, none⟩ = some (.int .i64 s.colour) ∧ wz.cell? ⟨SB, 4, none⟩ = some (.bool s.laced) ∧
      wz.cell? ⟨BB, 0, none⟩ = some (.slice fa fn fc) ∧ wz.cell? ⟨BB, 1, none⟩ = some (.int .i64 sz) ∧ wz.cell? ⟨BB, 2, none⟩ = some (.int .i64 ways))
    (go_keep)
    ((first
      | (go_at_call 56; (with_reducible refine (HBA.out _ (by first | exact Mod.refl _ _ | exact (Mod.refl _ _).drew)).mono ?_); rintro e w1 ⟨g1, c1, rfl, own1, m1⟩; have M1 := Lib.hid (Mod.trans (L := fun _ => False) (a := w) (by first | exact Mod.refl _ _ | exact (Mod.refl _ _).drew) m1); have O1 := Lib.hid own1; have hcap := own1.cap; have hshN := HSH.out.mod M1.out id; have hblN := HBL.out.mod M1.out id; have k0 := hshN.wide; have k1 := hshN.high; have k2 := hshN.depth; have k3 := hshN.colour; have k4 := hshN.laced; have j0 := hblN.f; have j1 := hblN.s; have j2 := hblN.y; clear hshN hblN own1 m1; go_simp)
      | (go_at_call 55; refine (specPacked w1 (some ⟨g1, 0, none⟩) ll.length c1 ll sz ways rfl O1.out.slb HB1.out (Nat.le_trans HB2.out (by decide)) hcap.1 hsz hways).mono ?_; rintro e w2 ⟨g2, c2, bs, rfl, hblk, hbl, own2, m2⟩; have M2 := Lib.hid (M1.out.trans m2); have O2 := Lib.hid (own2.mono M1.out.size); have HK := Lib.hid hblk; have HKL := Lib.hid hbl; have hshN := HSH.out.mod M2.out id; have hblN := HBL.out.mod M2.out id; have k0 := hshN.wide; have k1 := hshN.high; have k2 := hshN.depth; have k3 := hshN.colour; have k4 := hshN.laced; have j0 := hblN.f; have j1 := hblN.s; have j2 := hblN.y; clear hshN hblN own2 m2 hblk hbl; go_simp)))
  all_goals exact HQ.out w2 g2 c2 bs _ _ _ _ _ _ _ _ _ _ HK.out HKL.out O2.out M2.out
end Go.Proofs.YtnpkgmgedgcjmaaGreatDoor
