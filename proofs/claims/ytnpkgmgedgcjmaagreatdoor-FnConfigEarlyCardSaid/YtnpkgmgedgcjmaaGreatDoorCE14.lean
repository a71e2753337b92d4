/- png.DecodeConfig: the loop over chunks, for any account of what a chunk comes to. No conditions but those in each theorem's own binders. -/
import Derived.Test.YtnpkgmgedgcjmaaGreatDoorCE13
namespace Go.Proofs.YtnpkgmgedgcjmaaGreatDoor
set_option linter.unusedVariables false
set_option linter.unusedSimpArgs false
open Go.RowKit Go.Png

/-- The four cells of an answer that is not yet written. -/
structure ResAt (w : World) (b : Nat) : Prop where
  c0 : w.cell? ⟨b, 0, none⟩ = some (.int .i64 0)
  c1 : w.cell? ⟨b, 1, none⟩ = some (.slice none 0 0)
  c2 : w.cell? ⟨b, 2, none⟩ = some (.int .i64 0)
  c3 : w.cell? ⟨b, 3, none⟩ = some (.int .i64 0)
  fz : ∀ o, w.frozen? ⟨b, o, none⟩ = false

theorem ResAt.mod {w w' : World} {b : Nat} (h : ResAt w b) {S : Nat → Prop} (m : Mod S w w') (hS : ¬ S b) : ResAt w' b :=
  have hb := lt_of_cell h.c0
  ⟨(m.cell hb hS 0).trans h.c0, (m.cell hb hS 1).trans h.c1, (m.cell hb hS 2).trans h.c2, (m.cell hb hS 3).trans h.c3, fun o => (m.frozen hb hS o).trans (h.fz o)⟩

/-- More chunks are wanted. -/
def More (D : Nat) (w : World) (cb st : Int) : Prop := w.cell? ⟨D, 7, none⟩ = some (.int .i64 cb) ∧ w.cell? ⟨D, 8, none⟩ = some (.int .i64 st) ∧ (isPal cb = true ∧ st < 3 ∨ isPal cb = false ∧ st < 1)
/-- There is enough. -/
structure Enough (D : Nat) (w : World) (cb st : Int) (pa : Option Addr) (pn pc : Nat) (wd hg : Int) : Prop where
  c7 : w.cell? ⟨D, 7, none⟩ = some (.int .i64 cb)
  c8 : w.cell? ⟨D, 8, none⟩ = some (.int .i64 st)
  c6 : w.cell? ⟨D, 6, none⟩ = some (.slice pa pn pc)
  c3 : w.cell? ⟨D, 3, none⟩ = some (.int .i64 wd)
  c4 : w.cell? ⟨D, 4, none⟩ = some (.int .i64 hg)
  stop : isPal cb = true ∧ 3 ≤ st ∨ isPal cb = false ∧ 1 ≤ st

/-- What a chunk comes to. -/
def Round (D : Nat) (P : Nat → World → Prop) (Fin : World → Int → Option Addr → Nat → Nat → Int → Int → Prop) (k : Nat) (e : Ending) (w' : World) : Prop :=
  e = .returned .nilIface ∧ ((∃ k' cb st, k' < k ∧ P k' w' ∧ More D w' cb st) ∨ (∃ cb st pa pn pc wd hg, Fin w' cb pa pn pc wd hg ∧ Enough D w' cb st pa pn pc wd hg))

def CfgPost (b : Nat) (Fin : World → Int → Option Addr → Nat → Nat → Int → Int → Prop) (e : Ending) (w' : World) : Prop :=
  ∃ wf cb pa pn pc wd hg, Fin wf cb pa pn pc wd hg ∧ Mod (fun k => k = b) wf w' ∧ e = .returned (.tuple #[.agg #[.int .i64 cb, .slice pa pn pc, .int .i64 wd, .int .i64 hg], .nilIface])

set_option maxRecDepth 100000 in
theorem cfg_ret (L : Lay) (w3 : World) (B : Nat) (Fin : World → Int → Option Addr → Nat → Nat → Int → Int → Prop) (cb : Int) (pa : Option Addr) (pn pc : Nat) (wd hg : Int)
    (b0 : w3.cell? ⟨B, 0, none⟩ = some (.int .i64 0)) (b1 : w3.cell? ⟨B, 1, none⟩ = some (.slice none 0 0)) (b2 : w3.cell? ⟨B, 2, none⟩ = some (.int .i64 0)) (b3 : w3.cell? ⟨B, 3, none⟩ = some (.int .i64 0))
    (hf : Fin w3 cb pa pn pc wd hg) {w4 : World} (hw : ∃ w5, w5 = (((w3.setCell ⟨B, 0, none⟩ (.int .i64 cb)).setCell ⟨B, 1, none⟩ (.slice pa pn pc)).setCell ⟨B, 2, none⟩ (.int .i64 wd)).setCell ⟨B, 3, none⟩ (.int .i64 hg) ∧ w4 = w5.drew) (u0 u1 u4 u5 u6 u7 u8 u9 u10 u11 u12 u13 u14 u15 u16 u17 u18 u19 u20 u21 u22 u23 u24 u25 u26 u27 u28 u29 u30 u31 u32 u33 u34 u35 u36 u37 u38 u39 u40 u41 u42 u43 u44 u45 u46 u47 u48 u49 u50 u51 u52 u53 u54 u55 u56 u57 u58 u59 u60 u61 u62 : Value) :
    bodyPost Tryz.prog Tryz.f51 (CfgPost B Fin) Exit.ret ⟨#[u0, u1, .pointer (some ⟨B, 0, none⟩), .nilIface, u4, u5, u6, u7, u8, u9, u10, u11, u12, u13, u14, u15, u16, u17, u18, u19, u20, u21, u22, u23, u24, u25, u26, u27, u28, u29, u30, u31, u32, u33, u34, u35, u36, u37, u38, u39, u40, u41, u42, u43, u44, u45, u46, u47, u48, u49, u50, u51, u52, u53, u54, u55, u56, u57, u58, u59, u60, u61, u62], []⟩ w4 := by
  obtain ⟨w5, rfl, rfl⟩ := hw
  have m : Mod (fun k => k = B) w3 ((((w3.setCell ⟨B, 0, none⟩ (.int .i64 cb)).setCell ⟨B, 1, none⟩ (.slice pa pn pc)).setCell ⟨B, 2, none⟩ (.int .i64 wd)).setCell ⟨B, 3, none⟩ (.int .i64 hg)).drew :=
    ((((((Mod.refl (fun k => k = B) w3).setCell (p := ⟨B, 0, none⟩) (Or.inl rfl) _).setCell (p := ⟨B, 1, none⟩) (Or.inl rfl) _).setCell (p := ⟨B, 2, none⟩) (Or.inl rfl) _).setCell (p := ⟨B, 3, none⟩) (Or.inl rfl) _)).drew
  exact bodyPost_ret (v := .tuple #[.agg #[.int .i64 cb, .slice pa pn pc, .int .i64 wd, .int .i64 hg], .nilIface]) (by simp [results, Tryz.results51, go_sem, b0, b1, b2, b3]) rfl ⟨w3, cb, pa, pn, pc, wd, hg, hf, m, rfl⟩

set_option maxRecDepth 100000 in
set_option maxHeartbeats 4000000 in
theorem decodeConfig_gen (L : Lay) (r : Src) (hr : r.rdr.Ok L) (w : World) (inp : List UInt8) (hinv : r.inv w inp) (hsig : sigOk inp = true) (P : Nat → World → Prop) (Fin : World → Int → Option Addr → Nat → Nat → Int → Int → Prop) (N : Nat)
    (hdrew : ∀ k w1 n, P k w1 → P k (w1.drewN n)) (hdrewF : ∀ w1 cb pa pn pc wd hg n, Fin w1 cb pa pn pc wd hg → Fin (w1.drewN n) cb pa pn pc wd hg)
    (hkeep : ∀ k w1, P k w1 → ResAt w1 w.heap.size) (hkeepF : ∀ w1 cb pa pn pc wd hg, Fin w1 cb pa pn pc wd hg → ResAt w1 w.heap.size)
    (hstart : ∀ w1, Sep L r (w.heap.size + 1 + 1) (w.heap.size + 1) → St L r (w.heap.size + 1 + 1) (w.heap.size + 1) w1 dec0 (inp.drop 8) → Mod r.foot w w1 → ResAt w1 w.heap.size → P N w1)
    (hround : ∀ k w1, P k w1 → Calls Tryz.prog 65 #[.pointer (some ⟨w.heap.size + 1 + 1, 0, none⟩), .bool true] w1 (Round (w.heap.size + 1 + 1) P Fin k)) :
    Calls Tryz.prog 51 #[.iface r.t r.v] w (CfgPost w.heap.size Fin) := by
  have hsz : (Tryz.zeroCells130).size = 786 := by kernel_rfl
  have hnew := dec_new L r hr (w.alloc (.cells #[.int .i64 0, .slice none 0 0, .int .i64 0, .int .i64 0] 104)) inp (hr.frame w _ (fun _ => False) inp hinv ((Mod.refl _ w).alloc _) (fun _ h => h.elim)) _ rfl
  have e1 : (w.alloc (.cells #[.int .i64 0, .slice none 0 0, .int .i64 0, .int .i64 0] 104)).heap.size = w.heap.size + 1 := by simp
  rw [e1] at hnew
  have hres : ResAt (((w.alloc (.cells #[.int .i64 0, .slice none 0 0, .int .i64 0, .int .i64 0] 104)).alloc (.cells #[.int .u32 0] 126)).alloc
      (.cells ((Tryz.zeroCells130.setIfInBounds 0 (.iface r.t r.v)).setIfInBounds 2 (.pointer (some ⟨w.heap.size + 1, 0, none⟩))) 130)) w.heap.size := by
    have h0 : ResAt (w.alloc (.cells #[.int .i64 0, .slice none 0 0, .int .i64 0, .int .i64 0] 104)) w.heap.size :=
      ⟨by rw [World.cell?_alloc_new]; rfl, by rw [World.cell?_alloc_new]; rfl, by rw [World.cell?_alloc_new]; rfl, by rw [World.cell?_alloc_new]; rfl, fun o => by rw [World.frozen?_alloc_new]⟩
    exact h0.mod (((Mod.refl (fun _ => False) _).alloc _).alloc _) id
  have hmod : Mod r.foot w (((w.alloc (.cells #[.int .i64 0, .slice none 0 0, .int .i64 0, .int .i64 0] 104)).alloc (.cells #[.int .u32 0] 126)).alloc
      (.cells ((Tryz.zeroCells130.setIfInBounds 0 (.iface r.t r.v)).setIfInBounds 2 (.pointer (some ⟨w.heap.size + 1, 0, none⟩))) 130)) := (((Mod.refl _ w).alloc _).alloc _).alloc _
  have HNEW := Lib.hid hnew; have HRES := Lib.hid hres; have HMOD := Lib.hid hmod
  have HD := Lib.hid hdrew; have HDF := Lib.hid hdrewF; have HK := Lib.hid hkeep; have HKF := Lib.hid hkeepF; have HS := Lib.hid hstart; have HR := Lib.hid hround
  clear hnew hres hmod hdrew hdrewF hkeep hkeepF hstart hround e1
  go_enter Tryz.func51, Tryz.ntmps51
  go_upto_region 2 with fail
  obtain ⟨st0, sep⟩ := HNEW.out
  have ne0 : w.heap.size ≠ w.heap.size + 1 + 1 := by omega
  have hres0 := HRES.out; have hmod0 := HMOD.out
  clear HNEW HRES HMOD
  generalize ((w.alloc (.cells #[.int .i64 0, .slice none 0 0, .int .i64 0, .int .i64 0] 104)).alloc (.cells #[.int .u32 0] 126)).alloc
      (.cells ((Tryz.zeroCells130.setIfInBounds 0 (.iface r.t r.v)).setIfInBounds 2 (.pointer (some ⟨w.heap.size + 1, 0, none⟩))) 130) = w0 at *
  have hB : ¬ foot r (w.heap.size + 1 + 1) (w.heap.size + 1) w.heap.size := by
    rintro (h | h | h)
    · exact absurd (hr.size w inp _ hinv h) (by omega)
    · omega
    · omega
  have hN : ∀ w1, St L r (w.heap.size + 1 + 1) (w.heap.size + 1) w1 dec0 (inp.drop 8) → Mod (foot r (w.heap.size + 1 + 1) (w.heap.size + 1)) w0 w1 → P N w1 := fun w1 st m1 => HS.out w1 sep st
    (hmod0.then m1 (fun i hi hf => by
      rcases hf with hf | hf | hf
      · exact hf
      · omega
      · omega)) (hres0.mod m1 hB)
  generalize hDD : w.heap.size + 1 + 1 = D at *
  generalize w.heap.size + 1 = C at *
  generalize hBB : w.heap.size = B at *
  have hck := checkHeader L r D C sep w0 dec0 inp st0
  have HC := Lib.hid hck; have HSEP := Lib.hid sep; have HRES := Lib.hid hres0; have HMOD := Lib.hid hmod0; have HB := Lib.hid hB
  have HN := Lib.hid hN
  clear hck sep hres0 hmod0 hB hN hDD hBB st0 hinv hsz
  go_wp2_with (fail)
  refine HC.out.mono ?_
  intro e w1 hstep
  obtain rfl := hstep.good hsig
  have hP := HN.out w1 hstep.st hstep.mod
  clear HC HN hstep hsig
  have HP := Lib.hid hP; clear hP
  go_wp2
  go_loopg [6] N (fun k v6 wr => P k wr)
  case atStart => exact HP.out
  case round =>
    have hcall := HR.out _ _ hrel
    have HC := Lib.hid hcall; clear hcall
    go_wp2_with (fail)
    refine HC.out.mono ?_
    rintro e w2 ⟨rfl, hr | hr⟩
    · obtain ⟨k', cb, st, hlt, hp, c7, c8, hst⟩ := hr
      have HP2 := Lib.hid hp; have HLT := Lib.hid hlt
      clear HC hp hlt hrel HP
      have hpc := cbPaletted w2 cb
      rcases hst with ⟨h1, h2⟩ | ⟨h1, h2⟩
      · rw [h1] at hpc
        have HPC := Lib.hid hpc
        have g : decide ((3 : Int) ≤ st) = false := decide_eq_false (by omega)
        clear hpc h1 h2
        go_wp2_with (go_at_call 66; refine HPC.out.mono ?_; rintro e w3 ⟨rfl, m, hm⟩; subst hm)
        go_roundg k'
        case measure => exact HLT.out
        case rel => exact HD.out _ _ _ HP2.out
      · rw [h1] at hpc
        have HPC := Lib.hid hpc
        have g : decide ((1 : Int) ≤ st) = false := decide_eq_false (by omega)
        clear hpc h1 h2
        go_wp2_with (go_at_call 66; refine HPC.out.mono ?_; rintro e w3 ⟨rfl, m, hm⟩; subst hm)
        go_roundg k'
        case measure => exact HLT.out
        case rel => exact HD.out _ _ _ HP2.out
    · obtain ⟨cb, st, pa, pn, pc, wd, hg, hf, c7, c8, c6, c3, c4, hst⟩ := hr
      have hpc := cbPaletted w2 cb
      obtain ⟨b0, b1, b2, b3, bf⟩ := HKF.out _ _ _ _ _ _ _ hf
      have f0 := bf 0; have f1 := bf 1; have f2 := bf 2; have f3 := bf 3
      have HF := Lib.hid hf
      clear HC hf hrel HP bf
      rcases hst with ⟨h1, h2⟩ | ⟨h1, h2⟩
      · rw [h1] at hpc
        have HPC := Lib.hid hpc
        have g : decide ((3 : Int) ≤ st) = true := decide_eq_true (by omega)
        clear hpc h1 h2
        go_wp2_with (go_at_call 66; refine HPC.out.mono ?_; rintro e w3 ⟨rfl, m, hm⟩; subst hm)
        have HF2 := Lib.hid (HDF.out _ _ _ _ _ _ _ m HF.out)
        replace c3 : (w2.drewN m).cell? ⟨D, 3, none⟩ = _ := c3
        replace c4 : (w2.drewN m).cell? ⟨D, 4, none⟩ = _ := c4
        replace c6 : (w2.drewN m).cell? ⟨D, 6, none⟩ = _ := c6
        replace c7 : (w2.drewN m).cell? ⟨D, 7, none⟩ = _ := c7
        replace b0 : (w2.drewN m).cell? ⟨B, 0, none⟩ = _ := b0
        replace b1 : (w2.drewN m).cell? ⟨B, 1, none⟩ = _ := b1
        replace b2 : (w2.drewN m).cell? ⟨B, 2, none⟩ = _ := b2
        replace b3 : (w2.drewN m).cell? ⟨B, 3, none⟩ = _ := b3
        replace f0 : (w2.drewN m).frozen? ⟨B, 0, none⟩ = _ := f0
        replace f1 : (w2.drewN m).frozen? ⟨B, 1, none⟩ = _ := f1
        replace f2 : (w2.drewN m).frozen? ⟨B, 2, none⟩ = _ := f2
        replace f3 : (w2.drewN m).frozen? ⟨B, 3, none⟩ = _ := f3
        clear HF HDF HPC c8
        generalize w2.drewN m = w3 at *
        go_still_tail 17, (by kernel_rfl)
        change wpList _ _ _ _ _ w3.drew
        clear c3 c4 c6 c7
        go_wp2
        exact cfg_ret L w3 B Fin cb pa pn pc wd hg b0 b1 b2 b3 HF2.out ⟨_, rfl, rfl⟩ _ _ _ _ _ _ _ _ _ _ _ _ _ _ _ _ _ _ _ _ _ _ _ _ _ _ _ _ _ _ _ _ _ _ _ _ _ _ _ _ _ _ _ _ _ _ _ _ _ _ _ _ _ _ _ _ _ _ _ _ _
      · rw [h1] at hpc
        have HPC := Lib.hid hpc
        have g : decide ((1 : Int) ≤ st) = true := decide_eq_true (by omega)
        clear hpc h1 h2
        go_wp2_with (go_at_call 66; refine HPC.out.mono ?_; rintro e w3 ⟨rfl, m, hm⟩; subst hm)
        have HF2 := Lib.hid (HDF.out _ _ _ _ _ _ _ m HF.out)
        replace c3 : (w2.drewN m).cell? ⟨D, 3, none⟩ = _ := c3
        replace c4 : (w2.drewN m).cell? ⟨D, 4, none⟩ = _ := c4
        replace c6 : (w2.drewN m).cell? ⟨D, 6, none⟩ = _ := c6
        replace c7 : (w2.drewN m).cell? ⟨D, 7, none⟩ = _ := c7
        replace b0 : (w2.drewN m).cell? ⟨B, 0, none⟩ = _ := b0
        replace b1 : (w2.drewN m).cell? ⟨B, 1, none⟩ = _ := b1
        replace b2 : (w2.drewN m).cell? ⟨B, 2, none⟩ = _ := b2
        replace b3 : (w2.drewN m).cell? ⟨B, 3, none⟩ = _ := b3
        replace f0 : (w2.drewN m).frozen? ⟨B, 0, none⟩ = _ := f0
        replace f1 : (w2.drewN m).frozen? ⟨B, 1, none⟩ = _ := f1
        replace f2 : (w2.drewN m).frozen? ⟨B, 2, none⟩ = _ := f2
        replace f3 : (w2.drewN m).frozen? ⟨B, 3, none⟩ = _ := f3
        clear HF HDF HPC c8
        generalize w2.drewN m = w3 at *
        go_still_tail 17, (by kernel_rfl)
        change wpList _ _ _ _ _ w3.drew
        clear c3 c4 c6 c7
        go_wp2
        exact cfg_ret L w3 B Fin cb pa pn pc wd hg b0 b1 b2 b3 HF2.out ⟨_, rfl, rfl⟩ _ _ _ _ _ _ _ _ _ _ _ _ _ _ _ _ _ _ _ _ _ _ _ _ _ _ _ _ _ _ _ _ _ _ _ _ _ _ _ _ _ _ _ _ _ _ _ _ _ _ _ _ _ _ _ _ _ _ _ _ _
end Go.Proofs.YtnpkgmgedgcjmaaGreatDoor
