/- The thin package's DecodeConfig. No conditions but those in each theorem's own binders. -/
import Derived.Test.YtnpkgmgedgcjmaaGreatDoorCE17
import Derived.Deep.RegionHeld3
namespace Go.Proofs.YtnpkgmgedgcjmaaGreatDoor
set_option linter.unusedVariables false
set_option linter.unusedSimpArgs false
open Go.RowKit Go.Png

/-- The same account of the world, from here on. -/
def Lay.at (L : Lay) (w : World) : Lay := { L with lo := w.heap.size, w0 := w }

theorem Env.at {L : Lay} {w : World} (h : Env L w) : Env (L.at w) w := by
  have up : ∀ g b, errAt w L g b → errAt w (L.at w) g b := fun g b ⟨h1, h2, h3, h4⟩ => ⟨h1, Nat.lt_of_lt_of_le h2 h.lo, Nat.lt_of_lt_of_le h3 h.lo, h4⟩
  exact ⟨⟨Nat.le_refl _, up _ _ h.eof, up _ _ h.unexp, h.apart, Nat.lt_of_lt_of_le h.start.tablt h.lo, fun i hi => h.tab i hi⟩, Nat.le_refl _, fun _ _ => rfl⟩

theorem Low.news {L : Lay} {w w' w2 : World} (h : Low (L.at w) w' w2) (m : Mod (fun _ => False) w w') : Mod (fun _ => False) w w2 :=
  m.then h (fun i hi (hs : w.heap.size ≤ i) => by omega)

/-- The cells of the thin package's answer, not yet written. -/
structure ResAt4 (w : World) (b : Nat) : Prop where
  c0 : w.cell? ⟨b, 0, none⟩ = some (.int .i64 0)
  c1 : w.cell? ⟨b, 1, none⟩ = some (.int .i64 0)
  c2 : w.cell? ⟨b, 2, none⟩ = some (.int .i64 0)
  c3 : w.cell? ⟨b, 3, none⟩ = some (.slice none 0 0)
  fz : ∀ o, w.frozen? ⟨b, o, none⟩ = false

theorem ResAt4.mod {w w' : World} {b : Nat} (h : ResAt4 w b) {S : Nat → Prop} (m : Mod S w w') (hS : ¬ S b) : ResAt4 w' b :=
  have hb := lt_of_cell h.c0
  ⟨(m.cell hb hS 0).trans h.c0, (m.cell hb hS 1).trans h.c1, (m.cell hb hS 2).trans h.c2, (m.cell hb hS 3).trans h.c3, fun o => (m.frozen hb hS o).trans (h.fz o)⟩
theorem ResAt4.new (w : World) : ResAt4 (w.alloc (.cells #[.int .i64 0, .int .i64 0, .int .i64 0, .slice none 0 0] 64)) w.heap.size :=
  ⟨by rw [World.cell?_alloc_new]; rfl, by rw [World.cell?_alloc_new]; rfl, by rw [World.cell?_alloc_new]; rfl, by rw [World.cell?_alloc_new]; rfl, fun o => by rw [World.frozen?_alloc_new]⟩

/-- What is told: the answer's cells are written out. -/
structure CfgRes (w : World) (e : Ending) (w' : World) (kind wide high : Nat) (v : Value) (n : Nat) (xs : List Value) : Prop where
  end_ : e = .returned (.tuple #[.agg #[.int .i64 kind, .int .i64 wide, .int .i64 high, v], .int .i64 0])
  own : w'.ownsRow w.heap.size 96 4 v n xs
  mod : Mod (fun _ => False) w w'

theorem cbIn_lt (hd : List UInt8) : cbIn hd < 16 := by
  unfold cbIn cbOf
  repeat' split
  all_goals decide

/-- The reader that is made over a copy. -/
theorem br_new {L : Lay} {w w1 : World} (he : Env L w) {g c n : Nat} {l : List UInt8} (hn : l.length = n) (hlim : n ≤ 140737488355328) (hown : Own8 w1 w.heap.size g c l) (m : Mod (fun _ => False) w w1) :
    (brSrc (L.at w) w1.heap.size g 0 n c).rdr.Ok (L.at w) ∧ BrInv (L.at w) w1.heap.size g 0 n c (w1.alloc (.cells #[.slice (some ⟨g, 0, none⟩) n c, .int .i64 0, .int .i64 (-1)] 121)) l := by
  have hb := hown.base
  have hlo : (L.at w).lo ≤ w1.heap.size := m.size
  have hcap := hown.cap
  refine ⟨brSrc_ok _ _ _ _ _ _ hlo hb.1, ⟨?_, hlo, hb.1, by omega, hlim, by omega, ?_, ⟨0, ?_, ?_, ?_⟩, ⟨.int .i64 (-1), ?_⟩, fun o => ?_, ?_⟩⟩
  · have m2 : Mod (fun _ => False) w (w1.alloc (.cells #[.slice (some ⟨g, 0, none⟩) n c, .int .i64 0, .int .i64 (-1)] 121)) := m.alloc _
    exact he.at.mod m2 (fun _ h => h.elim)
  · rw [World.cell?_alloc_new]; rfl
  · omega
  · rw [World.cell?_alloc_new]; rfl
  · intro i hi
    rw [World.cell?_alloc_old _ _ _ (Nat.ne_of_lt hb.2)]
    have := hown.bytes i hi
    simpa using this
  · rw [World.cell?_alloc_new]; rfl
  · rw [World.frozen?_alloc_new]
  · simp; omega

set_option maxRecDepth 100000 in
set_option maxHeartbeats 4000000 in
theorem implConfig_flat (L : Lay) (w : World) (he : Env L w) (b off n c : Nat) (hd rest : List UInt8) (hn : (sigL ++ (chunkL nIHDR hd ++ rest)).length = n) (hlim : n ≤ 140737488355328) (hby : Bytes w b off (sigL ++ (chunkL nIHDR hd ++ rest))) (hh : HdOk hd) (hk : isPal (cbIn hd) = false) :
    Calls Tryz.prog 33 #[.slice (some ⟨b, off, none⟩) n c] w fun e w' => CfgRes w e w' (kindN (cbIn hd)) (wideOf hd) (highOf hd) (.slice none 0 0) 0 [] := by
  have hcl := cloneB (w.alloc (.cells #[.int .i64 0, .int .i64 0, .int .i64 0, .slice none 0 0] 64)) b off n c _ hn (fun i hi => by
    rw [World.cell?_alloc_old _ _ _ (Nat.ne_of_lt (lt_of_cell (hby i hi)))]; exact hby i hi) hlim
  have HCL := Lib.hid hcl; have HE := Lib.hid he; have HN := Lib.hid hn
  clear hcl he hn hby
  go_enter Tryz.func33, Tryz.ntmps33
  go_wp2_with (fail)
  refine HCL.out.mono ?_
  rintro e w1 ⟨g, c', rfl, hown, m1⟩
  have heA : Env L (w.alloc (.cells #[.int .i64 0, .int .i64 0, .int .i64 0, .slice none 0 0] 64)) := HE.out.mod (S := fun _ => False) ((Mod.refl _ w).alloc _) (fun _ h => h.elim)
  have hbr := br_new heA HN.out hlim hown m1
  have hres : ResAt4 w1 w.heap.size := (ResAt4.new w).mod m1 id
  have hA : Mod (fun _ => False) w (w.alloc (.cells #[.int .i64 0, .int .i64 0, .int .i64 0, .slice none 0 0] 64)) := (Mod.refl _ w).alloc _
  have hsA : (w.alloc (.cells #[.int .i64 0, .int .i64 0, .int .i64 0, .slice none 0 0] 64)).heap.size = w.heap.size + 1 := by simp
  have HSA := Lib.hid hsA
  clear hsA HCL hown heA HE
  generalize w.alloc (.cells #[.int .i64 0, .int .i64 0, .int .i64 0, .slice none 0 0] 64) = wa at *
  have hnr := newReader w1 (.slice (some ⟨g, 0, none⟩) n c') _ _ _ rfl
  have HNR := Lib.hid hnr; have HBR := Lib.hid hbr; have HRES := Lib.hid hres; have HA := Lib.hid hA; have HM1 := Lib.hid m1
  clear hnr hbr hres hA m1
  go_wp2_with (fail)
  refine HNR.out.mono ?_
  rintro e w2 ⟨rfl, hw2⟩
  have hbr := HBR.out
  have hres := HRES.out.mod (S := fun _ => False) ((Mod.refl _ w1).alloc (.cells #[.slice (some ⟨g, 0, none⟩) n c', .int .i64 0, .int .i64 (-1)] 121)) id
  have m2 : Mod (fun _ => False) wa (w1.alloc (.cells #[.slice (some ⟨g, 0, none⟩) n c', .int .i64 0, .int .i64 (-1)] 121)) := HM1.out.alloc _
  rw [hw2] at hbr hres m2
  have hdc := decodeConfig_flat (L.at wa) (brSrc (L.at wa) w1.heap.size g 0 n c') hbr.1 w2 hd rest hh hk hbr.2
  have HDC := Lib.hid hdc; have HRES2 := Lib.hid hres; have HM2 := Lib.hid m2
  clear hdc hres m2 hbr HBR HRES HM1 HNR hw2
  go_wp2_with (fail)
  refine HDC.out.mono ?_
  rintro e w4 ⟨w3, cb, pa, pn, pc, wd, hg, hf, m4, rfl⟩
  obtain ⟨f1, f2, f3, rfl, rfl, rfl, rfl, rfl, rfl⟩ := hf
  have hlow : Low (L.at wa) wa w4 := Mod.trans (Mod.trans (HM2.out.mono (fun _ _ h => h.elim)) f2) (m4.mono (fun k _ hk => by subst hk; exact HM2.out.size))
  have hres : ResAt4 w4 w.heap.size := (HRES2.out.mod f2 (by have := HSA.out; show ¬ (wa.heap.size ≤ _); omega)).mod m4 (by have := HSA.out; have := HM2.out.size; omega)
  have mall : Mod (fun _ => False) w w4 := HA.out.trans (Low.news hlow (Mod.refl _ _))
  have HRES := Lib.hid hres; have HALL := Lib.hid mall
  clear HDC HRES2 HM2 HA f1 f2 f3 m4 hlow hres mall
  go_upto_region 4 with fail
  have k0 : (w4.alloc (.cells #[.int .i64 (cbIn hd), .slice none 0 0, .int .i64 (wideOf hd), .int .i64 (highOf hd)] 104)).cell? ⟨w4.heap.size, 0, none⟩ = some (.int .i64 (cbIn hd)) := by rw [World.cell?_alloc_new]; rfl
  have k1 : (w4.alloc (.cells #[.int .i64 (cbIn hd), .slice none 0 0, .int .i64 (wideOf hd), .int .i64 (highOf hd)] 104)).cell? ⟨w4.heap.size, 1, none⟩ = some (.slice none 0 0) := by rw [World.cell?_alloc_new]; rfl
  have k2 : (w4.alloc (.cells #[.int .i64 (cbIn hd), .slice none 0 0, .int .i64 (wideOf hd), .int .i64 (highOf hd)] 104)).cell? ⟨w4.heap.size, 2, none⟩ = some (.int .i64 (wideOf hd)) := by rw [World.cell?_alloc_new]; rfl
  have k3 : (w4.alloc (.cells #[.int .i64 (cbIn hd), .slice none 0 0, .int .i64 (wideOf hd), .int .i64 (highOf hd)] 104)).cell? ⟨w4.heap.size, 3, none⟩ = some (.int .i64 (highOf hd)) := by rw [World.cell?_alloc_new]; rfl
  have hres5 := HRES.out.mod (S := fun _ => False) ((Mod.refl _ w4).alloc (.cells #[.int .i64 (cbIn hd), .slice none 0 0, .int .i64 (wideOf hd), .int .i64 (highOf hd)] 104)) id
  have m5 := HALL.out.alloc (.cells #[.int .i64 (cbIn hd), .slice none 0 0, .int .i64 (wideOf hd), .int .i64 (highOf hd)] 104)
  have r0' := HRES.out.c0
  have HM5 := Lib.hid m5
  have hne : w4.heap.size ≠ w.heap.size := by have := lt_of_cell r0'; omega
  have hne2 : w.heap.size ≠ w4.heap.size := Ne.symm hne
  clear HRES HALL m5
  generalize w4.alloc (.cells #[.int .i64 (cbIn hd), .slice none 0 0, .int .i64 (wideOf hd), .int .i64 (highOf hd)] 104) = w5 at *
  clear r0'
  generalize w4.heap.size = CB at *
  obtain ⟨r0, r1, r2, r3, rf⟩ := hres5
  have f0 := rf 0; have f1 := rf 1; have f2 := rf 2; have f3 := rf 3
  have hlt := cbIn_lt hd
  clear rf
  go_region_held3 (fun wz => wz.cell? ⟨CB, 0, none⟩ = some (.int .i64 (cbIn hd)) ∧ wz.cell? ⟨CB, 1, none⟩ = some (.slice none 0 0) ∧ wz.cell? ⟨CB, 2, none⟩ = some (.int .i64 (wideOf hd)) ∧ wz.cell? ⟨CB, 3, none⟩ = some (.int .i64 (highOf hd)))
    (go_keep)
    ((first | (go_at_call 53; refine (implKindOf _ _ hlt).mono ?_; rintro e wz ⟨rfl, rfl⟩; go_simp) | (go_at_call 54; refine (implShades_nil _).mono ?_; rintro e wz ⟨rfl, rfl⟩; go_simp)))
  go_wp2
  have mB : Mod (fun k => k = w.heap.size) w5 ((((w5.setCell ⟨w.heap.size, 0, none⟩ (.int .i64 (kindN (cbIn hd)))).setCell ⟨w.heap.size, 1, none⟩ (.int .i64 (wideOf hd))).setCell ⟨w.heap.size, 2, none⟩ (.int .i64 (highOf hd))).setCell ⟨w.heap.size, 3, none⟩ (.slice none 0 0)).drew :=
    ((((((Mod.refl (fun k => k = w.heap.size) w5).setCell (p := ⟨w.heap.size, 0, none⟩) (Or.inl rfl) _).setCell (p := ⟨w.heap.size, 1, none⟩) (Or.inl rfl) _).setCell (p := ⟨w.heap.size, 2, none⟩) (Or.inl rfl) _).setCell (p := ⟨w.heap.size, 3, none⟩) (Or.inl rfl) _)).drew
  exact bodyPost_ret (v := .tuple #[.agg #[.int .i64 (kindN (cbIn hd)), .int .i64 (wideOf hd), .int .i64 (highOf hd), .slice none 0 0], .int .i64 0]) (by simp [results, Tryz.results33, go_sem, r0, r1, r2, r3]) rfl
    ⟨rfl, World.ownsRow_nil _ _ _ _, HM5.out.then mB (fun i hi hs => by omega)⟩

set_option maxRecDepth 100000 in
set_option maxHeartbeats 4000000 in
theorem implConfig_pal (L : Lay) (w : World) (he : Env L w) (b off n c : Nat) (hd pl tl al : List UInt8) (np : Nat) (o1 o2 : List (List UInt8 × List UInt8)) (hn : (sigL ++ (chunkL nIHDR hd ++ (flatC o1 ++ (chunkL nPLTE pl ++ (flatC o2 ++ tl))))).length = n) (hlim : n ≤ 140737488355328) (hby : Bytes w b off (sigL ++ (chunkL nIHDR hd ++ (flatC o1 ++ (chunkL nPLTE pl ++ (flatC o2 ++ tl)))))) (hh : HdOk hd) (hk : isPal (cbIn hd) = true)
    (hpl : pl.length = 3 * np) (hn1 : 1 ≤ np) (hnp : np ≤ 256) (hdep : (at_ hd 8).toNat = 1 ∨ (at_ hd 8).toNat = 2 ∨ (at_ hd 8).toNat = 4 ∨ (at_ hd 8).toNat = 8 ∨ (at_ hd 8).toNat = 16) (hn2 : np ≤ 2 ^ (at_ hd 8).toNat)
    (ha1 : ∀ c ∈ o1, Anc c) (ha2 : ∀ c ∈ o2, Anc c) (htl : Tail np al tl) :
    Calls Tryz.prog 33 #[.slice (some ⟨b, off, none⟩) n c] w fun e w' => ∃ g c', CfgRes w e w' (kindN (cbIn hd)) (wideOf hd) (highOf hd) (.slice (some ⟨g, 0, none⟩) np c') np (shadesC al.length pl al np) := by
  have hcl := cloneB (w.alloc (.cells #[.int .i64 0, .int .i64 0, .int .i64 0, .slice none 0 0] 64)) b off n c _ hn (fun i hi => by
    rw [World.cell?_alloc_old _ _ _ (Nat.ne_of_lt (lt_of_cell (hby i hi)))]; exact hby i hi) hlim
  have HCL := Lib.hid hcl; have HE := Lib.hid he; have HN := Lib.hid hn
  clear hcl he hn hby
  go_enter Tryz.func33, Tryz.ntmps33
  go_wp2_with (fail)
  refine HCL.out.mono ?_
  rintro e w1 ⟨g, c', rfl, hown, m1⟩
  have heA : Env L (w.alloc (.cells #[.int .i64 0, .int .i64 0, .int .i64 0, .slice none 0 0] 64)) := HE.out.mod (S := fun _ => False) ((Mod.refl _ w).alloc _) (fun _ h => h.elim)
  have hbr := br_new heA HN.out hlim hown m1
  have hres : ResAt4 w1 w.heap.size := (ResAt4.new w).mod m1 id
  have hA : Mod (fun _ => False) w (w.alloc (.cells #[.int .i64 0, .int .i64 0, .int .i64 0, .slice none 0 0] 64)) := (Mod.refl _ w).alloc _
  have hsA : (w.alloc (.cells #[.int .i64 0, .int .i64 0, .int .i64 0, .slice none 0 0] 64)).heap.size = w.heap.size + 1 := by simp
  have HSA := Lib.hid hsA
  clear hsA HCL hown heA HE
  generalize w.alloc (.cells #[.int .i64 0, .int .i64 0, .int .i64 0, .slice none 0 0] 64) = wa at *
  have hnr := newReader w1 (.slice (some ⟨g, 0, none⟩) n c') _ _ _ rfl
  have HNR := Lib.hid hnr; have HBR := Lib.hid hbr; have HRES := Lib.hid hres; have HA := Lib.hid hA; have HM1 := Lib.hid m1
  clear hnr hbr hres hA m1
  go_wp2_with (fail)
  refine HNR.out.mono ?_
  rintro e w2 ⟨rfl, hw2⟩
  have hbr := HBR.out
  have hres := HRES.out.mod (S := fun _ => False) ((Mod.refl _ w1).alloc (.cells #[.slice (some ⟨g, 0, none⟩) n c', .int .i64 0, .int .i64 (-1)] 121)) id
  have m2 : Mod (fun _ => False) wa (w1.alloc (.cells #[.slice (some ⟨g, 0, none⟩) n c', .int .i64 0, .int .i64 (-1)] 121)) := HM1.out.alloc _
  rw [hw2] at hbr hres m2
  have hdc := decodeConfig_pal (L.at wa) (brSrc (L.at wa) w1.heap.size g 0 n c') hbr.1 w2 hd pl tl al np o1 o2 hh hk hpl hn1 hnp hdep hn2 ha1 ha2 htl hbr.2
  have HDC := Lib.hid hdc; have HRES2 := Lib.hid hres; have HM2 := Lib.hid m2
  clear hdc hres m2 hbr HBR HRES HM1 HNR hw2 hpl hdep hn2 ha1 ha2 htl
  go_wp2_with (fail)
  refine HDC.out.mono ?_
  rintro e w4 ⟨w3, cb, pa, pn, pc, wd, hg, hf, m4, rfl⟩
  obtain ⟨f1, f2, f3, rfl, rfl, rfl, rfl, rfl, pb, rfl, p1, p2, p3, p4⟩ := hf
  have hpal4 : ∀ i, i < pn → w4.cell? ⟨pb, i, none⟩ = some (palC pn al.length pl al i) := fun i hi => (m4.cell p3 p2 i).trans (p4 i (by omega))
  have HPAL := Lib.hid hpal4
  clear p4 hpal4
  have hlow : Low (L.at wa) wa w4 := Mod.trans (Mod.trans (HM2.out.mono (fun _ _ h => h.elim)) f2) (m4.mono (fun k _ hk => by subst hk; exact HM2.out.size))
  have hres : ResAt4 w4 w.heap.size := (HRES2.out.mod f2 (by have := HSA.out; show ¬ (wa.heap.size ≤ _); omega)).mod m4 (by have := HSA.out; have := HM2.out.size; omega)
  have mall : Mod (fun _ => False) w w4 := HA.out.trans (Low.news hlow (Mod.refl _ _))
  have HRES := Lib.hid hres; have HALL := Lib.hid mall
  clear HDC HRES2 HM2 HA f1 f2 f3 m4 hlow hres mall
  go_upto_region 4 with fail
  have k0 : (w4.alloc (.cells #[.int .i64 (cbIn hd), .slice (some ⟨pb, 0, none⟩) pn 256, .int .i64 (wideOf hd), .int .i64 (highOf hd)] 104)).cell? ⟨w4.heap.size, 0, none⟩ = some (.int .i64 (cbIn hd)) := by rw [World.cell?_alloc_new]; rfl
  have k1 : (w4.alloc (.cells #[.int .i64 (cbIn hd), .slice (some ⟨pb, 0, none⟩) pn 256, .int .i64 (wideOf hd), .int .i64 (highOf hd)] 104)).cell? ⟨w4.heap.size, 1, none⟩ = some (.slice (some ⟨pb, 0, none⟩) pn 256) := by rw [World.cell?_alloc_new]; rfl
  have k2 : (w4.alloc (.cells #[.int .i64 (cbIn hd), .slice (some ⟨pb, 0, none⟩) pn 256, .int .i64 (wideOf hd), .int .i64 (highOf hd)] 104)).cell? ⟨w4.heap.size, 2, none⟩ = some (.int .i64 (wideOf hd)) := by rw [World.cell?_alloc_new]; rfl
  have k3 : (w4.alloc (.cells #[.int .i64 (cbIn hd), .slice (some ⟨pb, 0, none⟩) pn 256, .int .i64 (wideOf hd), .int .i64 (highOf hd)] 104)).cell? ⟨w4.heap.size, 3, none⟩ = some (.int .i64 (highOf hd)) := by rw [World.cell?_alloc_new]; rfl
  have hres5 := HRES.out.mod (S := fun _ => False) ((Mod.refl _ w4).alloc (.cells #[.int .i64 (cbIn hd), .slice (some ⟨pb, 0, none⟩) pn 256, .int .i64 (wideOf hd), .int .i64 (highOf hd)] 104)) id
  have m5 := HALL.out.alloc (.cells #[.int .i64 (cbIn hd), .slice (some ⟨pb, 0, none⟩) pn 256, .int .i64 (wideOf hd), .int .i64 (highOf hd)] 104)
  have r0' := HRES.out.c0
  have hpos : 0 < pn := hn1
  have hpal5 : ∀ i, i < pn → (w4.alloc (.cells #[.int .i64 (cbIn hd), .slice (some ⟨pb, 0, none⟩) pn 256, .int .i64 (wideOf hd), .int .i64 (highOf hd)] 104)).cell? ⟨pb, i, none⟩ = some (palC pn al.length pl al i) := fun i hi => by
    rw [World.cell?_alloc_old _ _ _ (Nat.ne_of_lt (lt_of_cell (HPAL.out i hi)))]; exact HPAL.out i hi
  have HPAL5 := Lib.hid hpal5
  have hltB := lt_of_cell hres5.c0
  have hltCB := lt_of_cell k0
  clear hpal5 HPAL
  have HM5 := Lib.hid m5
  have hne : w4.heap.size ≠ w.heap.size := by have := lt_of_cell r0'; omega
  have hne2 : w.heap.size ≠ w4.heap.size := Ne.symm hne
  clear HRES HALL m5
  generalize w4.alloc (.cells #[.int .i64 (cbIn hd), .slice (some ⟨pb, 0, none⟩) pn 256, .int .i64 (wideOf hd), .int .i64 (highOf hd)] 104) = w5 at *
  clear r0'
  generalize w4.heap.size = CB at *
  obtain ⟨r0, r1, r2, r3, rf⟩ := hres5
  have f0 := rf 0; have f1 := rf 1; have f2 := rf 2; have f3 := rf 3
  have hlt := cbIn_lt hd
  clear rf
  have keep : ∀ wz, Mod (fun _ => False) w5.drew wz → wz.cell? ⟨CB, 0, none⟩ = some (.int .i64 (cbIn hd)) ∧ wz.cell? ⟨CB, 1, none⟩ = some (.slice (some ⟨pb, 0, none⟩) pn 256) ∧ wz.cell? ⟨CB, 2, none⟩ = some (.int .i64 (wideOf hd)) ∧ wz.cell? ⟨CB, 3, none⟩ = some (.int .i64 (highOf hd)) ∧
      wz.cell? ⟨w.heap.size, 0, none⟩ = some (.int .i64 0) ∧ wz.cell? ⟨w.heap.size, 1, none⟩ = some (.int .i64 0) ∧ wz.cell? ⟨w.heap.size, 2, none⟩ = some (.int .i64 0) ∧ wz.cell? ⟨w.heap.size, 3, none⟩ = some (.slice none 0 0) ∧
      wz.frozen? ⟨w.heap.size, 0, none⟩ = false ∧ wz.frozen? ⟨w.heap.size, 1, none⟩ = false ∧ wz.frozen? ⟨w.heap.size, 2, none⟩ = false ∧ wz.frozen? ⟨w.heap.size, 3, none⟩ = false := fun wz hm =>
    ⟨(hm.cell (w := w5.drew) hltCB id 0).trans k0, (hm.cell (w := w5.drew) hltCB id 1).trans k1, (hm.cell (w := w5.drew) hltCB id 2).trans k2, (hm.cell (w := w5.drew) hltCB id 3).trans k3,
      (hm.cell (w := w5.drew) hltB id 0).trans r0, (hm.cell (w := w5.drew) hltB id 1).trans r1, (hm.cell (w := w5.drew) hltB id 2).trans r2, (hm.cell (w := w5.drew) hltB id 3).trans r3,
      (hm.frozen (w := w5.drew) hltB id 0).trans f0, (hm.frozen (w := w5.drew) hltB id 1).trans f1, (hm.frozen (w := w5.drew) hltB id 2).trans f2, (hm.frozen (w := w5.drew) hltB id 3).trans f3⟩
  have hsh := implShades w5.drew pb pn al.length 256 pl al hnp (fun i hi => HPAL5.out i hi)
  have HSH := Lib.hid hsh
  clear hsh
  have KEEP := Lib.hid keep
  clear keep
  go_region_held3 (fun wz => wz.cell? ⟨CB, 0, none⟩ = some (.int .i64 (cbIn hd)) ∧ wz.cell? ⟨CB, 1, none⟩ = some (.slice (some ⟨pb, 0, none⟩) pn 256) ∧ wz.cell? ⟨CB, 2, none⟩ = some (.int .i64 (wideOf hd)) ∧ wz.cell? ⟨CB, 3, none⟩ = some (.int .i64 (highOf hd)))
    (go_keep)
    ((first | (go_at_call 53; refine (implKindOf _ _ hlt).mono ?_; rintro e wz ⟨rfl, rfl⟩; go_simp) | (go_at_call 54; refine HSH.out.mono ?_; intro e wz hq; obtain ⟨v, he, hown, hm⟩ := hq; have hform := World.ownsRow.form hown hpos; obtain ⟨gg, cc, hv, hgb, hgl⟩ := hform; subst hv; subst he; obtain ⟨K0, K1, K2, K3, R0, R1, R2, R3, F0, F1, F2, F3⟩ := KEEP.out wz hm; have HOWN := Lib.hid hown; have HMZ := Lib.hid hm; clear hown hm; go_simp)))
  go_wp2
  have mB : Mod (fun k => k = w.heap.size) wz ((((wz.setCell ⟨w.heap.size, 0, none⟩ (.int .i64 (kindN (cbIn hd)))).setCell ⟨w.heap.size, 1, none⟩ (.int .i64 (wideOf hd))).setCell ⟨w.heap.size, 2, none⟩ (.int .i64 (highOf hd))).setCell ⟨w.heap.size, 3, none⟩ (.slice (some ⟨gg, 0, none⟩) pn cc)) :=
    ((((Mod.refl (fun k => k = w.heap.size) wz).setCell (p := ⟨w.heap.size, 0, none⟩) (Or.inl rfl) _).setCell (p := ⟨w.heap.size, 1, none⟩) (Or.inl rfl) _).setCell (p := ⟨w.heap.size, 2, none⟩) (Or.inl rfl) _).setCell (p := ⟨w.heap.size, 3, none⟩) (Or.inl rfl) _
  have hgb' : w5.heap.size ≤ gg := hgb
  have own2 := ownsRow_mod (World.ownsRow.mono HOWN.out (base' := w.heap.size) (by show w.heap.size ≤ w5.heap.size; omega)) mB (by omega)
  have m5z : Mod (fun _ => False) w wz := HM5.out.trans (show Mod (fun _ => False) w5 wz from HMZ.out.undrew)
  exact bodyPost_ret (v := .tuple #[.agg #[.int .i64 (kindN (cbIn hd)), .int .i64 (wideOf hd), .int .i64 (highOf hd), .slice (some ⟨gg, 0, none⟩) pn cc], .int .i64 0]) (by simp [results, Tryz.results33, go_sem, R0, R1, R2, R3]) rfl
    ⟨gg, cc, rfl, own2, m5z.then mB (fun i hi hs => by omega)⟩

end Go.Proofs.YtnpkgmgedgcjmaaGreatDoor
