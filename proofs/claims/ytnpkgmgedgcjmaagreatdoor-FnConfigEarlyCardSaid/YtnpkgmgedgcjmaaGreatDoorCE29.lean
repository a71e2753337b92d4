/- The reference's packing: the function. The reference's rows of an image, bare: rows of any depth, the samples of one row. The reference's rows of an image, bare: the samples of one row. No conditions but those in each theorem's own binders. -/
import Derived.Test.YtnpkgmgedgcjmaaGreatDoorCE28
import Derived.Test.YtnpkgmgedgcjmaaGreatDoorCE23
import Derived.Test.YtnpkgmgedgcjmaaGreatDoorCE20
namespace Go.Proofs.YtnpkgmgedgcjmaaGreatDoor
set_option linter.unusedVariables false
set_option linter.unusedSimpArgs false
open Go.RowKit Go.Png

set_option maxRecDepth 100000 in
set_option maxHeartbeats 1000000 in
theorem specPacked (w : World) (a : Option Addr) (n c : Nat) (l : List UInt8) (size ways : Nat) (hl : l.length = n) (hs : SlB w a l) (hn0 : 0 < n) (hn : n ≤ 1000000) (hnc : n ≤ c) (hsz : size ≤ 65535) (hways : ways ≤ 255) :
    Calls Tryz.prog 55 #[.slice a n c, .int .i64 size, .int .i64 ways] w fun e w' => ∃ g c' bs, e = .returned (.slice (some ⟨g, 0, none⟩) (packedL l bs).length c') ∧ Blks l n bs true ∧ bs.length ≤ 132 * n ∧ Own8 w' w.heap.size g c' (packedL l bs) ∧ Mod (fun _ => False) w w' := by
  have m0 : ∀ o, Mod (Off w.heap.size noF) w (w.alloc o) := fun o => (Mod.refl _ w).alloc o
  have hw0 : WrAt (w.alloc (.cells #[.slice none 0 0, .int .i64 0] 145)) w.heap.size w.heap.size noF [] :=
    ⟨Nat.le_refl _, id, fun k hk => hk.elim, ⟨.slice none 0 0, by rw [World.cell?_alloc_new]; rfl, World.ownsRow_nil _ _ _ _, by simp [Value.ownBlock], fun k hk => by simp [Value.ownBlock] at hk⟩, by rw [World.cell?_alloc_new]; rfl, fun o => by simp [World.frozen?_alloc_new]⟩
  have hS : ∀ w', Mod (Off w.heap.size noF) w w' → SlB w' a l := fun w' m => hs.mod m (fun k hk h => by have := h.1; omega)
  have HW0 := Lib.hid hw0; have HS := Lib.hid hS; have HL := Lib.hid hl; have M0 := Lib.hid m0
  clear hw0 hS hs hl m0
  obtain hc | hc | hc : size = 0 ∨ (1 ≤ size ∧ size ≤ 60000) ∨ 60000 < size := by omega
  · subst hc
    go_enter Tryz.func55, Tryz.ntmps55
    go_upto_block 0 with fail
    rename_i K hK
    have hK2 := fun (a : Act) (w : World) (h : Hid _) => hK a w h.out
    clear hK
    refine pack_loop _ w.heap.size w.heap.size a n c l 1 ways HW0.out (by simp) HL.out (fun w' m => HS.out w' ((M0.out _).trans m)) hn0 hn hnc (by omega) (by omega) hways _ _ _ _ _ _ _ _ _ _ _ _ _ _ _ _ _ _ _ _ _ _ _ _ _ _ _ _ _ _ _ _ _ _ _ _ _ _ _ _ _ _ _ _ _ _ _ _ _ _ _ _ _ _ _ _ _ _ _ _ _ _ _ _ _ _ _ _ _ _ _ _ _ _ _ _ _ _ _ _ _ _ _ _ _ _ _ _ _ _ _ _ _ _ _ _ _ _ _ ?_
    intro w2 bs _ _ _ _ _ _ _ _ _ _ _ _ _ _ _ _ _ _ _ _ _ _ _ _ _ _ _ _ _ _ _ _ _ _ _ _ _ _ _ _ _ _ _ _ _ _ _ _ _ _ _ _ _ _ _ _ _ _ _ _ _ _ _ _ _ _ _ _ _ _ _ _ _ _ _ _ _ _ _ _ _ _ _ _ _ _ _ _ _ _ _ _ _ _ _ _ _ _ _ _ _ hb hbl hw2 m2
    have m3 : Mod (Off w.heap.size noF) w w2 := (M0.out _).trans m2
    change K _ _
    refine hK2 _ _ (Lib.hid ?_)
    refine pack_end w2 w.heap.size w.heap.size bs a n c l hw2 m3.size HL.out (fun w' m => HS.out w' (m3.trans m)) hn (blks_pos hb).1 (by omega) _ _ _ _ _ _ _ _ _ _ _ _ _ _ _ _ _ _ _ _ _ _ _ _ _ _ _ _ _ _ _ _ _ _ _ _ _ _ _ _ _ _ _ _ _ _ _ _ _ _ _ _ _ _ _ _ _ _ _ _ _ _ _ _ _ _ _ _ _ _ _ _ _ _ _ _ _ _ _ _ _ _ _ _ _ _ _ _ _ _ _ _ _ _ _ _ _ _ _ _ _ _ ?_
    intro g c' w' hown m4
    exact ⟨g, c', bs, rfl, hb, hbl, hown, (m3.trans m4).mono (fun k hk h => by have := h.1; omega)⟩
  · obtain ⟨hc1, hc2⟩ := hc
    have i1 : (1 : Int) ≤ (size : Int) := by omega
    have i3 : ¬ (size : Int) ≤ 1 ∨ size = 1 := by omega
    have i2 : (size : Int) ≤ 60000 := by omega
    go_enter Tryz.func55, Tryz.ntmps55
    go_upto_block 0 with fail
    rename_i K hK
    have hK2 := fun (a : Act) (w : World) (h : Hid _) => hK a w h.out
    clear hK
    refine pack_loop _ w.heap.size w.heap.size a n c l size ways HW0.out (by simp) HL.out (fun w' m => HS.out w' ((M0.out _).trans m)) hn0 hn hnc (by omega) (by omega) hways _ _ _ _ _ _ _ _ _ _ _ _ _ _ _ _ _ _ _ _ _ _ _ _ _ _ _ _ _ _ _ _ _ _ _ _ _ _ _ _ _ _ _ _ _ _ _ _ _ _ _ _ _ _ _ _ _ _ _ _ _ _ _ _ _ _ _ _ _ _ _ _ _ _ _ _ _ _ _ _ _ _ _ _ _ _ _ _ _ _ _ _ _ _ _ _ _ _ _ ?_
    intro w2 bs _ _ _ _ _ _ _ _ _ _ _ _ _ _ _ _ _ _ _ _ _ _ _ _ _ _ _ _ _ _ _ _ _ _ _ _ _ _ _ _ _ _ _ _ _ _ _ _ _ _ _ _ _ _ _ _ _ _ _ _ _ _ _ _ _ _ _ _ _ _ _ _ _ _ _ _ _ _ _ _ _ _ _ _ _ _ _ _ _ _ _ _ _ _ _ _ _ _ _ _ _ hb hbl hw2 m2
    have m3 : Mod (Off w.heap.size noF) w w2 := (M0.out _).trans m2
    change K _ _
    refine hK2 _ _ (Lib.hid ?_)
    refine pack_end w2 w.heap.size w.heap.size bs a n c l hw2 m3.size HL.out (fun w' m => HS.out w' (m3.trans m)) hn (blks_pos hb).1 (by omega) _ _ _ _ _ _ _ _ _ _ _ _ _ _ _ _ _ _ _ _ _ _ _ _ _ _ _ _ _ _ _ _ _ _ _ _ _ _ _ _ _ _ _ _ _ _ _ _ _ _ _ _ _ _ _ _ _ _ _ _ _ _ _ _ _ _ _ _ _ _ _ _ _ _ _ _ _ _ _ _ _ _ _ _ _ _ _ _ _ _ _ _ _ _ _ _ _ _ _ _ _ _ ?_
    intro g c' w' hown m4
    exact ⟨g, c', bs, rfl, hb, hbl, hown, (m3.trans m4).mono (fun k hk h => by have := h.1; omega)⟩
  · have i1 : (1 : Int) ≤ (size : Int) := by omega
    have i2 : ¬ (size : Int) ≤ 60000 := by omega
    go_enter Tryz.func55, Tryz.ntmps55
    go_upto_block 0 with fail
    rename_i K hK
    have hK2 := fun (a : Act) (w : World) (h : Hid _) => hK a w h.out
    clear hK
    refine pack_loop _ w.heap.size w.heap.size a n c l 60000 ways HW0.out (by simp) HL.out (fun w' m => HS.out w' ((M0.out _).trans m)) hn0 hn hnc (by omega) (by omega) hways _ _ _ _ _ _ _ _ _ _ _ _ _ _ _ _ _ _ _ _ _ _ _ _ _ _ _ _ _ _ _ _ _ _ _ _ _ _ _ _ _ _ _ _ _ _ _ _ _ _ _ _ _ _ _ _ _ _ _ _ _ _ _ _ _ _ _ _ _ _ _ _ _ _ _ _ _ _ _ _ _ _ _ _ _ _ _ _ _ _ _ _ _ _ _ _ _ _ _ ?_
    intro w2 bs _ _ _ _ _ _ _ _ _ _ _ _ _ _ _ _ _ _ _ _ _ _ _ _ _ _ _ _ _ _ _ _ _ _ _ _ _ _ _ _ _ _ _ _ _ _ _ _ _ _ _ _ _ _ _ _ _ _ _ _ _ _ _ _ _ _ _ _ _ _ _ _ _ _ _ _ _ _ _ _ _ _ _ _ _ _ _ _ _ _ _ _ _ _ _ _ _ _ _ _ _ hb hbl hw2 m2
    have m3 : Mod (Off w.heap.size noF) w w2 := (M0.out _).trans m2
    change K _ _
    refine hK2 _ _ (Lib.hid ?_)
    refine pack_end w2 w.heap.size w.heap.size bs a n c l hw2 m3.size HL.out (fun w' m => HS.out w' (m3.trans m)) hn (blks_pos hb).1 (by omega) _ _ _ _ _ _ _ _ _ _ _ _ _ _ _ _ _ _ _ _ _ _ _ _ _ _ _ _ _ _ _ _ _ _ _ _ _ _ _ _ _ _ _ _ _ _ _ _ _ _ _ _ _ _ _ _ _ _ _ _ _ _ _ _ _ _ _ _ _ _ _ _ _ _ _ _ _ _ _ _ _ _ _ _ _ _ _ _ _ _ _ _ _ _ _ _ _ _ _ _ _ _ ?_
    intro g c' w' hown m4
    exact ⟨g, c', bs, rfl, hb, hbl, hown, (m3.trans m4).mono (fun k hk h => by have := h.1; omega)⟩
end Go.Proofs.YtnpkgmgedgcjmaaGreatDoor
namespace Go.Proofs.YtnpkgmgedgcjmaaGreatDoor
set_option linter.unusedVariables false
set_option linter.unusedSimpArgs false
open Go.RowKit Go.Png

theorem specRow (w : World) (a : Option Addr) (n c d : Nat) (l : List Nat) (hd : DepOk d) (hl : l.length = n) (hs : SlI w a l) (hb : ∀ x ∈ l, x < 65536) (hn : n ≤ 1000000) :
    Calls Tryz.prog 76 #[.slice a n c, .int .i64 (d : Nat)] w fun e w' => ∃ g c, e = .returned (.slice (some ⟨g, 0, none⟩) ((n * d + 7) / 8) c) ∧ Own8 w' w.heap.size g c (rowL d l) ∧ Mod (fun _ => False) w w' := by
  rcases hd with rfl | rfl | rfl | rfl | rfl
  · exact specRowB1 w a n c l hl hs hb hn
  · exact specRowB2 w a n c l hl hs hb hn
  · exact specRowB4 w a n c l hl hs hb hn
  · rw [show (n * 8 + 7) / 8 = n by omega]; exact specRow8 w a n c l hl hs hb hn
  · rw [show (n * 16 + 7) / 8 = n * 2 by omega]; exact specRow16 w a n c l hl hs hb hn

/-- Where a pixel's samples begin. -/
def pixAt (s : Shp) (p : Prt) (y x : Nat) : Nat := ((p.y + y * p.dy) * s.wide + p.x + x * p.dx) * chanN s.colour
/-- The samples of a row, the first pixels. -/
def lineP (s : Shp) (sm : List Nat) (p : Prt) (y : Nat) : Nat → List Nat
  | 0 => []
  | x + 1 => lineP s sm p y x ++ (sm.drop (pixAt s p y x)).take (chanN s.colour)
/-- An image's samples all lie in the list. -/
def PixOk (s : Shp) (sm : List Nat) (p : Prt) (y wd : Nat) : Prop := ∀ x, x < wd → pixAt s p y x + chanN s.colour ≤ sm.length
theorem lineP_length {s : Shp} {sm : List Nat} {p : Prt} {y wd : Nat} (h : PixOk s sm p y wd) : ∀ x, x ≤ wd → (lineP s sm p y x).length = x * chanN s.colour := by
  intro x
  induction x with
  | zero => intro _; simp [lineP]
  | succ x ih =>
    intro hx
    have := h x (by omega)
    rw [lineP, List.length_append, ih (by omega), List.length_take, List.length_drop, Nat.add_mul]
    omega
theorem lineP_lt {s : Shp} {sm : List Nat} {p : Prt} {y : Nat} (h : ∀ x ∈ sm, x < 65536) : ∀ x, ∀ v ∈ lineP s sm p y x, v < 65536 := by
  intro x
  induction x with
  | zero => intro v hv; simp [lineP] at hv
  | succ x ih =>
    intro v hv
    rw [lineP, List.mem_append] at hv
    rcases hv with hv | hv
    · exact ih v hv
    · exact h v (List.mem_of_mem_drop (List.mem_of_mem_take hv))

/-- The cells of a shape and of a part. -/
structure ShpAt (w : World) (B : Nat) (s : Shp) : Prop where
  wide : w.cell? ⟨B, 0, none⟩ = some (.int .i64 s.wide)
  high : w.cell? ⟨B, 1, none⟩ = some (.int .i64 s.high)
  depth : w.cell? ⟨B, 2, none⟩ = some (.int .i64 s.depth)
  colour : w.cell? ⟨B, 3, none⟩ = some (.int .i64 s.colour)
  laced : w.cell? ⟨B, 4, none⟩ = some (.bool s.laced)
structure PrtAt (w : World) (B : Nat) (p : Prt) : Prop where
  x : w.cell? ⟨B, 0, none⟩ = some (.int .i64 p.x)
  y : w.cell? ⟨B, 1, none⟩ = some (.int .i64 p.y)
  dx : w.cell? ⟨B, 2, none⟩ = some (.int .i64 p.dx)
  dy : w.cell? ⟨B, 3, none⟩ = some (.int .i64 p.dy)
theorem ShpAt.mod {w w' : World} {B : Nat} {s : Shp} (h : ShpAt w B s) {S : Nat → Prop} (m : Mod S w w') (hS : ¬ S B) : ShpAt w' B s := by
  have hb := lt_of_cell h.wide
  exact ⟨(m.cell hb hS 0).trans h.wide, (m.cell hb hS 1).trans h.high, (m.cell hb hS 2).trans h.depth, (m.cell hb hS 3).trans h.colour, (m.cell hb hS 4).trans h.laced⟩
theorem PrtAt.mod {w w' : World} {B : Nat} {s : Prt} (h : PrtAt w B s) {S : Nat → Prop} (m : Mod S w w') (hS : ¬ S B) : PrtAt w' B s := by
  have hb := lt_of_cell h.x
  exact ⟨(m.cell hb hS 0).trans h.x, (m.cell hb hS 1).trans h.y, (m.cell hb hS 2).trans h.dx, (m.cell hb hS 3).trans h.dy⟩
end Go.Proofs.YtnpkgmgedgcjmaaGreatDoor
namespace Go.Proofs.YtnpkgmgedgcjmaaGreatDoor
set_option linter.unusedVariables false
set_option linter.unusedSimpArgs false
open Go.RowKit Go.Png

set_option maxRecDepth 100000 in
set_option maxHeartbeats 1000000 in
theorem bare_line (w : World) (base : Nat) (s : Shp) (p : Prt) (SB PB : Nat) (sa : Option Addr) (sn sc : Nat) (sm : List Nat) (y wd g0 : Nat) (hbase : base ≤ w.heap.size) (hown : w.ownsRow base 3 1 (.slice (some ⟨g0, 0, none⟩) 0 0) 0 [])
    (hsm : sm.length = sn) (hsc : sn ≤ sc) (hS : ∀ w', Mod (fun k => base ≤ k) w w' → SlI w' sa sm ∧ ShpAt w' SB s ∧ PrtAt w' PB p) (hpix : PixOk s sm p y wd)
    (hwide : s.wide ≤ 40) (hy : y ≤ 40) (hwd : wd ≤ 40) (hpx : p.x ≤ 4) (hpy : p.y ≤ 4) (hdx : p.dx ≤ 8) (hdy : p.dy ≤ 8)
    (u0 u2 u4 u5 u6 u7 u9 u10 u12 u13 u14 u17 u18 u19 u20 u21 u22 u23 u24 u25 u26 u27 u28 u29 u30 u31 u32 u33 u34 u35 u36 u37 u38 u39 u40 u41 u42 u43 u44 u45 u46 u47 u48 u49 u50 u51 u52 u55 u56 u57 u58 u59 u60 u61 u62 u63 u64 u65 u66 u67 u68 u69 u70 u71 u72 u73 u74 u75 u76 u77 u78 u79 u80 u81 u82 u83 u84 u85 u86 u87 u88 u89 u90 u91 u92 u93 u94 u95 u96 u97 u98 u99 u100 u101 u102 u103 u104 u105 u106 u107 u108 u109 u110 u111 u112 u113 u114 u115 u116 u117 u118 u119 : Value) (Q : Exit → Act → World → Prop)
    (hQ : ∀ w' g c (v17 v18 v55 v56 v57 v58 v59 v60 v61 v62 v63 v64 v65 v66 v67 v68 v69 v70 v71 v72 v73 v74 v75 v76 v77 v78 v79 v80 v81 v82 v83 v84 v85 : Value), w'.ownsRow base 3 1 (.slice (some ⟨g, 0, none⟩) (wd * chanN s.colour) c) (wd * chanN s.colour) (intsV (lineP s sm p y wd)) → Mod (fun k => base ≤ k) w w' →
       Q .normal ⟨#[u0, .slice sa sn sc, u2, .pointer (some ⟨SB, 0, none⟩), u4, u5, u6, u7, .int .i64 (chanN s.colour : Nat), u9, u10, .pointer (some ⟨PB, 0, none⟩), u12, u13, u14, .int .i64 y, .slice (some ⟨g, 0, none⟩) (wd * chanN s.colour) c, v17, v18, u19, u20, u21, u22, u23, u24, u25, u26, u27, u28, u29, u30, u31, u32, u33, u34, u35, u36, u37, u38, u39, u40, u41, u42, u43, u44, u45, u46, u47, u48, u49, u50, u51, u52, .int .i64 wd, .int .i64 wd, v55, v56, v57, v58, v59, v60, v61, v62, v63, v64, v65, v66, v67, v68, v69, v70, v71, v72, v73, v74, v75, v76, v77, v78, v79, v80, v81, v82, v83, v84, v85, u86, u87, u88, u89, u90, u91, u92, u93, u94, u95, u96, u97, u98, u99, u100, u101, u102, u103, u104, u105, u106, u107, u108, u109, u110, u111, u112, u113, u114, u115, u116, u117, u118, u119], []⟩ w') :
    Code.wp Tryz.prog (navc [1, 1, 1, 1, 0, 1, 0, 0, 1, 1, 0, 0, 1, 1, 1, 1, 1, 0, 0, 1, 1, 0, 0, 1, 1, 0, 1] (textOf Tryz.f56)) Q
      ⟨#[u0, .slice sa sn sc, u2, .pointer (some ⟨SB, 0, none⟩), u4, u5, u6, u7, .int .i64 (chanN s.colour : Nat), u9, u10, .pointer (some ⟨PB, 0, none⟩), u12, u13, u14, .int .i64 y, .slice (some ⟨g0, 0, none⟩) 0 0, u17, u18, u19, u20, u21, u22, u23, u24, u25, u26, u27, u28, u29, u30, u31, u32, u33, u34, u35, u36, u37, u38, u39, u40, u41, u42, u43, u44, u45, u46, u47, u48, u49, u50, u51, u52, .int .i64 wd, .int .i64 0, u55, u56, u57, u58, u59, u60, u61, u62, u63, u64, u65, u66, u67, u68, u69, u70, u71, u72, u73, u74, u75, u76, u77, u78, u79, u80, u81, u82, u83, u84, u85, u86, u87, u88, u89, u90, u91, u92, u93, u94, u95, u96, u97, u98, u99, u100, u101, u102, u103, u104, u105, u106, u107, u108, u109, u110, u111, u112, u113, u114, u115, u116, u117, u118, u119], []⟩ w := by
  conv => arg 2; whnf
  dsimp only
  have HQ := Lib.hid hQ; have HS := Lib.hid hS; have HSM := Lib.hid hsm; have HPX := Lib.hid hpix; have HOWN := Lib.hid hown
  clear hQ hS hsm hpix hown
  have hcb := chan_le s.colour
  go_wp2
  go_loopg [16, 17, 18, 54] (wd - 0) (fun k v16 _ _ v54 wr => ∃ x g c : Nat, x ≤ wd ∧ k = wd - x ∧ v54 = .int .i64 x ∧ v16 = .slice (some ⟨g, 0, none⟩) (x * chanN s.colour) c ∧ wr.ownsRow base 3 1 (.slice (some ⟨g, 0, none⟩) (x * chanN s.colour) c) (x * chanN s.colour) (intsV (lineP s sm p y x)) ∧ Mod (fun k => base ≤ k) w wr)
  case atStart => exact ⟨0, g0, 0, by omega, rfl, rfl, by simp, by simpa [lineP, intsV] using HOWN.out, Mod.refl _ _⟩
  case round =>
    obtain ⟨x, g, c, hx, hk, rfl, rfl, own, mm⟩ := hrel
    have HK := Lib.hid hk; have OWN := Lib.hid own; have MM := Lib.hid mm
    clear hk own mm
    by_cases hlt : x < wd
    · obtain ⟨hsl, hsh, hpr⟩ := HS.out wr MM.out
      have d0 := hsh.wide
      have q0 := hpr.x; have q1 := hpr.y; have q2 := hpr.dx; have q3 := hpr.dy
      have hpx2 := HPX.out x hlt
      unfold pixAt at hpx2
      have b1 : y * p.dy ≤ 40 * 8 := Nat.mul_le_mul hy hdy
      obtain ⟨a1, ha1⟩ : ∃ a1, a1 = y * p.dy := ⟨_, rfl⟩
      obtain ⟨a2, ha2⟩ : ∃ a2, a2 = p.y + a1 := ⟨_, rfl⟩
      have b2 : a2 * s.wide ≤ 400 * 40 := Nat.mul_le_mul (by omega) hwide
      obtain ⟨a3, ha3⟩ : ∃ a3, a3 = a2 * s.wide := ⟨_, rfl⟩
      obtain ⟨a4, ha4⟩ : ∃ a4, a4 = a3 + p.x := ⟨_, rfl⟩
      have b3 : x * p.dx ≤ 40 * 8 := Nat.mul_le_mul (by omega) hdx
      obtain ⟨a5, ha5⟩ : ∃ a5, a5 = x * p.dx := ⟨_, rfl⟩
      obtain ⟨a6, ha6⟩ : ∃ a6, a6 = a4 + a5 := ⟨_, rfl⟩
      have b4 : a6 * chanN s.colour ≤ 20000 * 4 := Nat.mul_le_mul (by omega) hcb.2
      obtain ⟨a7, ha7⟩ : ∃ a7, a7 = a6 * chanN s.colour := ⟨_, rfl⟩
      have hat : pixAt s p y x = a7 := by unfold pixAt; rw [ha7, ha6, ha5, ha4, ha3, ha2, ha1]
      have hpx3 : a7 + chanN s.colour ≤ sn := by have := HPX.out x hlt; rw [hat, HSM.out] at this; exact this
      have e1 : (y : Int) * (p.dy : Int) = (a1 : Int) := by rw [ha1]; exact (Int.natCast_mul ..).symm
      have e2 : (p.y : Int) + (a1 : Int) = (a2 : Int) := by omega
      have e3 : (a2 : Int) * (s.wide : Int) = (a3 : Int) := by rw [ha3]; exact (Int.natCast_mul ..).symm
      have e4 : (a3 : Int) + (p.x : Int) = (a4 : Int) := by omega
      have e5 : (x : Int) * (p.dx : Int) = (a5 : Int) := by rw [ha5]; exact (Int.natCast_mul ..).symm
      have e6 : (a4 : Int) + (a5 : Int) = (a6 : Int) := by omega
      have e7 : (a6 : Int) * (chanN s.colour : Int) = (a7 : Int) := by rw [ha7]; exact (Int.natCast_mul ..).symm
      have hbn : a1 ≤ 320 ∧ a2 ≤ 400 ∧ a3 ≤ 16000 ∧ a4 ≤ 16400 ∧ a5 ≤ 320 ∧ a6 ≤ 20000 ∧ a7 ≤ 80000 := by omega
      obtain ⟨n1, n2, n3, n4, n5, n6, n7⟩ := hbn
      have hstep : lineP s sm p y (x + 1) = lineP s sm p y x ++ (sm.drop a7).take (chanN s.colour) := by rw [lineP, hat]
      have hxc : (x + 1) * chanN s.colour = x * chanN s.colour + chanN s.colour := by rw [Nat.add_mul, Nat.one_mul]
      have hxb : x * chanN s.colour ≤ 40 * 4 := Nat.mul_le_mul (by omega) hcb.2
      obtain ⟨sb, so, rfl, hsc0⟩ := hsl.some a7 (by have := HSM.out; omega)
      have HSL := Lib.hid hsl; have HST := Lib.hid hstep; have HXC := Lib.hid hxc
      clear b1 b2 b3 b4 ha1 ha2 ha3 ha4 ha5 ha6 ha7 hat hpx2 hsl hstep hsh hpr hsc0 hxc
      generalize hcc : chanN s.colour = cc at *
      generalize hxx : x * cc = xx at *
      obtain ⟨a8, ha8⟩ : ∃ a8, a8 = a7 + cc := ⟨_, rfl⟩
      have e8 : (a7 : Int) + (cc : Int) = (a8 : Int) := by omega
      have i1 : a8 ≤ sc := by omega
      have i2 : a7 ≤ a8 := by omega
      have i3 : a8 - a7 = cc := by omega
      have i4 : ¬ sc = a7 := by omega
      have HA8 := Lib.hid ha8
      clear ha8
      go_upto_region 18 with fail
      have hnl : (intsV ((sm.drop a7).take cc)).length = cc * 1 := by rw [intsV_length, List.length_take, List.length_drop, HSM.out]; omega
      have hnn : ∀ j u, (intsV ((sm.drop a7).take cc))[j]? = some u → wr.cell? ((⟨sb, so + a7, none⟩ : Addr).add j) = some u := by
        intro j u hu
        rcases HSL.out with h | ⟨b, off, h1, h2⟩
        · rw [h] at hu; simp [intsV] at hu
        · simp only [Option.some.injEq, Addr.mk.injEq, and_true] at h1
          obtain ⟨rfl, rfl⟩ := h1
          have hj : j < cc := by
            have := (List.getElem?_eq_some_iff.1 hu).1
            rw [hnl] at this; omega
          have h3 := h2 (a7 + j) (by have := HSM.out; omega)
          rw [addr_add, Nat.add_assoc, h3]
          unfold intsV at hu
          rw [List.getElem?_map, List.getElem?_take_of_lt hj, List.getElem?_drop] at hu
          rw [List.getD_eq_getElem?_getD]
          cases hg : sm[a7 + j]? with
          | none => rw [hg] at hu; simp at hu
          | some x => rw [hg] at hu; simpa using hu
      have hn1 : ∀ u ∈ intsV ((sm.drop a7).take cc), u.oneCell' = true := by
        intro u hu
        unfold intsV at hu
        obtain ⟨x, _, rfl⟩ := List.mem_map.1 hu
        rfl
      have HNL := Lib.hid hnl; have HNN := Lib.hid hnn; have HN1 := Lib.hid hn1
      clear hnl hnn hn1 q0 q1 q2 q3 d0
      go_wp2_with (at_builtin; go_must (refine wpList_app elI rfl (.tmp 77) (.tmp 83) rfl base (.slice (some ⟨g, 0, none⟩) xx c) xx (intsV (lineP s sm p y x)) rfl OWN.out ⟨sb, so + a7, none⟩ cc (sc - a7) (intsV ((sm.drop a7).take cc)) rfl HNL.out HNN.out HN1.out (Or.inl (by simp)) (by omega) (by omega) (by have := MM.out.size; omega) ?_; intro g2 c2 w2 hap))
      have own2 := hap.out.own
      have m2 : Mod (fun k => base ≤ k) w w2 := MM.out.then hap.out.mod (fun k _ hk => (OWN.out.lt k hk).1)
      have OWN2 := Lib.hid own2; have M2 := Lib.hid m2
      clear own2 m2 hap
      go_wp2
      go_roundg (wd - (x + 1))
      case measure => have := HK.out; omega
      case rel =>
        refine ⟨x + 1, g2, c2, by omega, rfl, by go_num, ?_, ?_, M2.out⟩
        · rw [HXC.out]
        · rw [HXC.out, HST.out]
          have := OWN2.out
          simpa [intsV] using this
    · obtain rfl : x = wd := by omega
      go_wp2
      exact HQ.out _ g c _ _ _ _ _ _ _ _ _ _ _ _ _ _ _ _ _ _ _ _ _ _ _ _ _ _ _ _ _ _ _ _ _ OWN.out MM.out
end Go.Proofs.YtnpkgmgedgcjmaaGreatDoor
