/- The decoder reads the first chunk. No conditions but those in each theorem's own binders. -/
import Derived.Test.YtnpkgmgedgcjmaaGreatDoorCE4
import Derived.Deep.CutBlock
import Derived.Deep.DeepCutAuto
namespace Go.Proofs.YtnpkgmgedgcjmaaGreatDoor
set_option linter.unusedVariables false
set_option linter.unusedSimpArgs false
open Go.RowKit Go.Png

/-- What a step of the decoder comes to: a new state and what is left to be read, or an error. -/
structure Res (L : Lay) (r : Src) (D C : Nat) (w : World) (ok : Option (Dec × List UInt8)) (e : Ending) (w' : World) : Prop where
  mod : Mod (foot r D C) w w'
  good : ∀ d' inp', ok = some (d', inp') → e = .returned .nilIface ∧ St L r D C w' d' inp'
  bad : ok = none → ∃ g : GErr, e = .returned (g.val L)

theorem Res.err {L : Lay} {r : Src} {D C : Nat} {w w' : World} {ok : Option (Dec × List UInt8)} (g : GErr) (h : Mod (foot r D C) w w') (hn : ok = none) : Res L r D C w ok (.returned (g.val L)) w' :=
  ⟨h, fun d' inp' hs => (by rw [hn] at hs; cases hs), fun _ => ⟨g, rfl⟩⟩

/-- A step whose last act is to check a sum. -/
theorem Res.of_step {L : Lay} {r : Src} {D C : Nat} {w w1 w' : World} {d : Dec} {inp : List UInt8} {ok : Bool} {e : Ending} (m : Mod (foot r D C) w w1) (h : Step L r D C w1 d inp ok e w') :
    Res L r D C w (if ok = true then some (d, inp) else none) e w' := by
  refine ⟨m.trans h.mod, fun d' inp' hs => ?_, fun hn => ?_⟩
  · cases hok : ok with
    | true => rw [hok] at hs; cases hs; exact ⟨h.good hok, h.st⟩
    | false => rw [hok] at hs; cases hs
  · cases hok : ok with
    | true => rw [hok] at hn; cases hn
    | false => exact h.bad hok

/-- The program's number of a kind of pixels: bits a sample, colour type; 0 where there is none. -/
def cbOf (depth colour : Nat) : Nat :=
  if depth = 1 then (if colour = 0 then 1 else if colour = 3 then 7 else 0)
  else if depth = 2 then (if colour = 0 then 2 else if colour = 3 then 8 else 0)
  else if depth = 4 then (if colour = 0 then 3 else if colour = 3 then 9 else 0)
  else if depth = 8 then (if colour = 0 then 4 else if colour = 2 then 6 else if colour = 3 then 10 else if colour = 4 then 5 else if colour = 6 then 11 else 0)
  else if depth = 16 then (if colour = 0 then 12 else if colour = 2 then 14 else if colour = 4 then 13 else if colour = 6 then 15 else 0)
  else 0

/-- The i-th byte. -/
def at_ (l : List UInt8) (i : Nat) : UInt8 := l.getD i 0

def wideOf (inp : List UInt8) : Nat := be4 (at_ inp 0) (at_ inp 1) (at_ inp 2) (at_ inp 3)
def highOf (inp : List UInt8) : Nat := be4 (at_ inp 4) (at_ inp 5) (at_ inp 6) (at_ inp 7)
def cbIn (inp : List UInt8) : Nat := cbOf (at_ inp 8).toNat (at_ inp 9).toNat

/-- May these be the data of a first chunk? -/
def ihdrOk (inp : List UInt8) : Bool := decide (13 ≤ inp.length ∧ at_ inp 10 = 0 ∧ at_ inp 11 = 0 ∧ (at_ inp 12).toNat < 2 ∧ 0 < wideOf inp ∧ wideOf inp < 2147483648 ∧ 0 < highOf inp ∧ highOf inp < 2147483648 ∧
  wideOf inp * highOf inp < 1152921504606846976 ∧ cbIn inp ≠ 0)

def Dec.head (d : Dec) (inp : List UInt8) (c : BitVec 32) : Dec :=
  { d with ilace := (at_ inp 12).toNat, cb := cbIn inp, depth := (at_ inp 8).toNat, width := wideOf inp, height := highOf inp, crc := c }

/-- What reading the data of the first chunk, and its sum, comes to. -/
def ihdrP (d : Dec) (inp : List UInt8) : Option (Dec × List UInt8) :=
  if ihdrOk inp = true ∧ sumOk (inp.drop 13) (crcW d.crc (inp.take 13)) = true then some (d.head inp (crcW d.crc (inp.take 13)), inp.drop 17) else none

theorem ihdrP_none {d : Dec} {inp : List UInt8} (h : ihdrOk inp = false) : ihdrP d inp = none := by
  unfold ihdrP; rw [if_neg]; rw [h]; simp

theorem _root_.Go.Png.Bytes.take_at {w : World} {b off n : Nat} {l : List UInt8} (h : Bytes w b off (l.take n)) (hl : n ≤ l.length) (i : Nat) (hi : i < n) :
    w.cell? ⟨b, off + i, none⟩ = some (.int .u8 ((at_ l i).toNat : Nat)) := by
  have := h i (by simp; omega)
  rw [this]
  have e : (l.take n)[i]'(by simp; omega) = at_ l i := by
    unfold at_
    rw [List.getElem_take, List.getD_eq_getElem?_getD, List.getElem?_eq_getElem (by omega)]; rfl
  rw [e]

/-- The sum's state is written. -/
theorem DecAt.setCrc {w : World} {D C : Nat} {r : Src} {d : Dec} (h : DecAt w D C r d) (ne : D ≠ C) (c : BitVec 32) : DecAt (w.setCell ⟨C, 0, none⟩ (.int .u32 (c.toNat : Nat))) D C r { d with crc := c } := by
  have g : ∀ o, (w.setCell ⟨C, 0, none⟩ (.int .u32 (c.toNat : Nat))).cell? ⟨D, o, none⟩ = w.cell? ⟨D, o, none⟩ := fun o => World.cell?_setCell_other _ _ _ _ (fun e => ne (congrArg Addr.block e).symm)
  exact ⟨(g _).trans h.r, (g _).trans h.img, (g _).trans h.crcp, (g _).trans h.width, (g _).trans h.height, (g _).trans h.depth, (g _).trans h.pal, (g _).trans h.cb, (g _).trans h.stage, (g _).trans h.idat,
    (g _).trans h.ilace, (g _).trans h.useT, fun i hi => (g _).trans (h.tr i hi), fun i hi => by rw [g]; exact h.tmp i hi, World.cell?_setCell_same _ _ _ h.crc, fun o => by simpa using h.fz o, by simpa using h.fzc⟩

/-- One cell of the decoder is written. -/
theorem DecAt.upd {w : World} {D C : Nat} (ne : D ≠ C) (o : Nat) (v : Value) (hx : ∃ u, w.cell? ⟨D, o, none⟩ = some u) :
    (∀ q, q ≠ o → (w.setCell ⟨D, o, none⟩ v).cell? ⟨D, q, none⟩ = w.cell? ⟨D, q, none⟩) ∧ (w.setCell ⟨D, o, none⟩ v).cell? ⟨D, o, none⟩ = some v ∧
    (w.setCell ⟨D, o, none⟩ v).cell? ⟨C, 0, none⟩ = w.cell? ⟨C, 0, none⟩ ∧ (∀ b q, (w.setCell ⟨D, o, none⟩ v).frozen? ⟨b, q, none⟩ = w.frozen? ⟨b, q, none⟩) := by
  obtain ⟨u, hu⟩ := hx
  exact ⟨fun q hq => World.cell?_setCell_other _ _ _ _ (fun e => hq (congrArg Addr.off e).symm), World.cell?_setCell_same _ _ _ hu, World.cell?_setCell_other _ _ _ _ (fun e => ne (congrArg Addr.block e)), fun b q => by simp⟩

theorem DecAt.setImg {w : World} {D C : Nat} {r : Src} {d : Dec} (h : DecAt w D C r d) (ne : D ≠ C) (x : Value) : DecAt (w.setCell ⟨D, 1, none⟩ (x)) D C r { d with img := x } := by
  obtain ⟨g, gv, gc, gf⟩ := DecAt.upd ne 1 (x) ⟨_, h.img⟩
  exact ⟨(g _ (by decide)).trans h.r, gv, (g _ (by decide)).trans h.crcp, (g _ (by decide)).trans h.width, (g _ (by decide)).trans h.height, (g _ (by decide)).trans h.depth, (g _ (by decide)).trans h.pal, (g _ (by decide)).trans h.cb, (g _ (by decide)).trans h.stage, (g _ (by decide)).trans h.idat, (g _ (by decide)).trans h.ilace, (g _ (by decide)).trans h.useT, fun i hi => (g _ (by omega)).trans (h.tr i hi), fun i hi => by rw [g _ (by omega)]; exact h.tmp i hi, gc.trans h.crc, fun q => (gf _ _).trans (h.fz q), (gf _ _).trans h.fzc⟩
theorem DecAt.setWidth {w : World} {D C : Nat} {r : Src} {d : Dec} (h : DecAt w D C r d) (ne : D ≠ C) (x : Int) : DecAt (w.setCell ⟨D, 3, none⟩ (.int .i64 x)) D C r { d with width := x } := by
  obtain ⟨g, gv, gc, gf⟩ := DecAt.upd ne 3 (.int .i64 x) ⟨_, h.width⟩
  exact ⟨(g _ (by decide)).trans h.r, (g _ (by decide)).trans h.img, (g _ (by decide)).trans h.crcp, gv, (g _ (by decide)).trans h.height, (g _ (by decide)).trans h.depth, (g _ (by decide)).trans h.pal, (g _ (by decide)).trans h.cb, (g _ (by decide)).trans h.stage, (g _ (by decide)).trans h.idat, (g _ (by decide)).trans h.ilace, (g _ (by decide)).trans h.useT, fun i hi => (g _ (by omega)).trans (h.tr i hi), fun i hi => by rw [g _ (by omega)]; exact h.tmp i hi, gc.trans h.crc, fun q => (gf _ _).trans (h.fz q), (gf _ _).trans h.fzc⟩
theorem DecAt.setHeight {w : World} {D C : Nat} {r : Src} {d : Dec} (h : DecAt w D C r d) (ne : D ≠ C) (x : Int) : DecAt (w.setCell ⟨D, 4, none⟩ (.int .i64 x)) D C r { d with height := x } := by
  obtain ⟨g, gv, gc, gf⟩ := DecAt.upd ne 4 (.int .i64 x) ⟨_, h.height⟩
  exact ⟨(g _ (by decide)).trans h.r, (g _ (by decide)).trans h.img, (g _ (by decide)).trans h.crcp, (g _ (by decide)).trans h.width, gv, (g _ (by decide)).trans h.depth, (g _ (by decide)).trans h.pal, (g _ (by decide)).trans h.cb, (g _ (by decide)).trans h.stage, (g _ (by decide)).trans h.idat, (g _ (by decide)).trans h.ilace, (g _ (by decide)).trans h.useT, fun i hi => (g _ (by omega)).trans (h.tr i hi), fun i hi => by rw [g _ (by omega)]; exact h.tmp i hi, gc.trans h.crc, fun q => (gf _ _).trans (h.fz q), (gf _ _).trans h.fzc⟩
theorem DecAt.setDepth {w : World} {D C : Nat} {r : Src} {d : Dec} (h : DecAt w D C r d) (ne : D ≠ C) (x : Int) : DecAt (w.setCell ⟨D, 5, none⟩ (.int .i64 x)) D C r { d with depth := x } := by
  obtain ⟨g, gv, gc, gf⟩ := DecAt.upd ne 5 (.int .i64 x) ⟨_, h.depth⟩
  exact ⟨(g _ (by decide)).trans h.r, (g _ (by decide)).trans h.img, (g _ (by decide)).trans h.crcp, (g _ (by decide)).trans h.width, (g _ (by decide)).trans h.height, gv, (g _ (by decide)).trans h.pal, (g _ (by decide)).trans h.cb, (g _ (by decide)).trans h.stage, (g _ (by decide)).trans h.idat, (g _ (by decide)).trans h.ilace, (g _ (by decide)).trans h.useT, fun i hi => (g _ (by omega)).trans (h.tr i hi), fun i hi => by rw [g _ (by omega)]; exact h.tmp i hi, gc.trans h.crc, fun q => (gf _ _).trans (h.fz q), (gf _ _).trans h.fzc⟩
theorem DecAt.setPal {w : World} {D C : Nat} {r : Src} {d : Dec} (h : DecAt w D C r d) (ne : D ≠ C) (x : Value) : DecAt (w.setCell ⟨D, 6, none⟩ (x)) D C r { d with pal := x } := by
  obtain ⟨g, gv, gc, gf⟩ := DecAt.upd ne 6 (x) ⟨_, h.pal⟩
  exact ⟨(g _ (by decide)).trans h.r, (g _ (by decide)).trans h.img, (g _ (by decide)).trans h.crcp, (g _ (by decide)).trans h.width, (g _ (by decide)).trans h.height, (g _ (by decide)).trans h.depth, gv, (g _ (by decide)).trans h.cb, (g _ (by decide)).trans h.stage, (g _ (by decide)).trans h.idat, (g _ (by decide)).trans h.ilace, (g _ (by decide)).trans h.useT, fun i hi => (g _ (by omega)).trans (h.tr i hi), fun i hi => by rw [g _ (by omega)]; exact h.tmp i hi, gc.trans h.crc, fun q => (gf _ _).trans (h.fz q), (gf _ _).trans h.fzc⟩
theorem DecAt.setCb {w : World} {D C : Nat} {r : Src} {d : Dec} (h : DecAt w D C r d) (ne : D ≠ C) (x : Int) : DecAt (w.setCell ⟨D, 7, none⟩ (.int .i64 x)) D C r { d with cb := x } := by
  obtain ⟨g, gv, gc, gf⟩ := DecAt.upd ne 7 (.int .i64 x) ⟨_, h.cb⟩
  exact ⟨(g _ (by decide)).trans h.r, (g _ (by decide)).trans h.img, (g _ (by decide)).trans h.crcp, (g _ (by decide)).trans h.width, (g _ (by decide)).trans h.height, (g _ (by decide)).trans h.depth, (g _ (by decide)).trans h.pal, gv, (g _ (by decide)).trans h.stage, (g _ (by decide)).trans h.idat, (g _ (by decide)).trans h.ilace, (g _ (by decide)).trans h.useT, fun i hi => (g _ (by omega)).trans (h.tr i hi), fun i hi => by rw [g _ (by omega)]; exact h.tmp i hi, gc.trans h.crc, fun q => (gf _ _).trans (h.fz q), (gf _ _).trans h.fzc⟩
theorem DecAt.setStage {w : World} {D C : Nat} {r : Src} {d : Dec} (h : DecAt w D C r d) (ne : D ≠ C) (x : Int) : DecAt (w.setCell ⟨D, 8, none⟩ (.int .i64 x)) D C r { d with stage := x } := by
  obtain ⟨g, gv, gc, gf⟩ := DecAt.upd ne 8 (.int .i64 x) ⟨_, h.stage⟩
  exact ⟨(g _ (by decide)).trans h.r, (g _ (by decide)).trans h.img, (g _ (by decide)).trans h.crcp, (g _ (by decide)).trans h.width, (g _ (by decide)).trans h.height, (g _ (by decide)).trans h.depth, (g _ (by decide)).trans h.pal, (g _ (by decide)).trans h.cb, gv, (g _ (by decide)).trans h.idat, (g _ (by decide)).trans h.ilace, (g _ (by decide)).trans h.useT, fun i hi => (g _ (by omega)).trans (h.tr i hi), fun i hi => by rw [g _ (by omega)]; exact h.tmp i hi, gc.trans h.crc, fun q => (gf _ _).trans (h.fz q), (gf _ _).trans h.fzc⟩
theorem DecAt.setIdat {w : World} {D C : Nat} {r : Src} {d : Dec} (h : DecAt w D C r d) (ne : D ≠ C) (x : Int) : DecAt (w.setCell ⟨D, 9, none⟩ (.int .u32 x)) D C r { d with idat := x } := by
  obtain ⟨g, gv, gc, gf⟩ := DecAt.upd ne 9 (.int .u32 x) ⟨_, h.idat⟩
  exact ⟨(g _ (by decide)).trans h.r, (g _ (by decide)).trans h.img, (g _ (by decide)).trans h.crcp, (g _ (by decide)).trans h.width, (g _ (by decide)).trans h.height, (g _ (by decide)).trans h.depth, (g _ (by decide)).trans h.pal, (g _ (by decide)).trans h.cb, (g _ (by decide)).trans h.stage, gv, (g _ (by decide)).trans h.ilace, (g _ (by decide)).trans h.useT, fun i hi => (g _ (by omega)).trans (h.tr i hi), fun i hi => by rw [g _ (by omega)]; exact h.tmp i hi, gc.trans h.crc, fun q => (gf _ _).trans (h.fz q), (gf _ _).trans h.fzc⟩
theorem DecAt.setIlace {w : World} {D C : Nat} {r : Src} {d : Dec} (h : DecAt w D C r d) (ne : D ≠ C) (x : Int) : DecAt (w.setCell ⟨D, 778, none⟩ (.int .i64 x)) D C r { d with ilace := x } := by
  obtain ⟨g, gv, gc, gf⟩ := DecAt.upd ne 778 (.int .i64 x) ⟨_, h.ilace⟩
  exact ⟨(g _ (by decide)).trans h.r, (g _ (by decide)).trans h.img, (g _ (by decide)).trans h.crcp, (g _ (by decide)).trans h.width, (g _ (by decide)).trans h.height, (g _ (by decide)).trans h.depth, (g _ (by decide)).trans h.pal, (g _ (by decide)).trans h.cb, (g _ (by decide)).trans h.stage, (g _ (by decide)).trans h.idat, gv, (g _ (by decide)).trans h.useT, fun i hi => (g _ (by omega)).trans (h.tr i hi), fun i hi => by rw [g _ (by omega)]; exact h.tmp i hi, gc.trans h.crc, fun q => (gf _ _).trans (h.fz q), (gf _ _).trans h.fzc⟩
theorem DecAt.setUseT {w : World} {D C : Nat} {r : Src} {d : Dec} (h : DecAt w D C r d) (ne : D ≠ C) (x : Bool) : DecAt (w.setCell ⟨D, 779, none⟩ (.bool x)) D C r { d with useT := x } := by
  obtain ⟨g, gv, gc, gf⟩ := DecAt.upd ne 779 (.bool x) ⟨_, h.useT⟩
  exact ⟨(g _ (by decide)).trans h.r, (g _ (by decide)).trans h.img, (g _ (by decide)).trans h.crcp, (g _ (by decide)).trans h.width, (g _ (by decide)).trans h.height, (g _ (by decide)).trans h.depth, (g _ (by decide)).trans h.pal, (g _ (by decide)).trans h.cb, (g _ (by decide)).trans h.stage, (g _ (by decide)).trans h.idat, (g _ (by decide)).trans h.ilace, gv, fun i hi => (g _ (by omega)).trans (h.tr i hi), fun i hi => by rw [g _ (by omega)]; exact h.tmp i hi, gc.trans h.crc, fun q => (gf _ _).trans (h.fz q), (gf _ _).trans h.fzc⟩

theorem Mod.setC {r : Src} {D C : Nat} {w : World} (u : Value) : Mod (foot r D C) w (w.setCell ⟨C, 0, none⟩ u) := (Mod.refl _ w).setCell (Or.inl (Or.inr (Or.inr rfl))) u
theorem Mod.setD {r : Src} {D C : Nat} {w : World} (o : Nat) (u : Value) : Mod (foot r D C) w (w.setCell ⟨D, o, none⟩ u) := (Mod.refl _ w).setCell (Or.inl (Or.inr (Or.inl rfl))) u

theorem St.setCrc {L : Lay} {r : Src} {D C : Nat} {w : World} {d : Dec} {inp : List UInt8} (h : St L r D C w d inp) (s : Sep L r D C) (c : BitVec 32) : St L r D C (w.setCell ⟨C, 0, none⟩ (.int .u32 (c.toNat : Nat))) { d with crc := c } inp :=
  ⟨h.dec.setCrc s.ne c, s.rok.frame _ _ (fun k => k = C) inp h.inv ((Mod.refl (fun k => k = C) w).setCell (p := ⟨C, 0, none⟩) (Or.inl rfl) _) (fun k hk => by subst hk; exact ⟨s.loC, s.fC⟩)⟩

theorem St.setD {L : Lay} {r : Src} {D C : Nat} {w : World} {d d' : Dec} {inp : List UInt8} (h : St L r D C w d inp) (s : Sep L r D C) (o : Nat) (v : Value) (hd : DecAt (w.setCell ⟨D, o, none⟩ v) D C r d') : St L r D C (w.setCell ⟨D, o, none⟩ v) d' inp :=
  ⟨hd, s.rok.frame _ _ (fun k => k = D) inp h.inv ((Mod.refl (fun k => k = D) w).setCell (p := ⟨D, o, none⟩) (Or.inl rfl) _) (fun k hk => by subst hk; exact ⟨s.loD, s.fD⟩)⟩
theorem St.setImg {L : Lay} {r : Src} {D C : Nat} {w : World} {d : Dec} {inp : List UInt8} (h : St L r D C w d inp) (s : Sep L r D C) (x : Value) : St L r D C (w.setCell ⟨D, 1, none⟩ (x)) { d with img := x } inp := h.setD s _ _ (h.dec.setImg s.ne x)
theorem St.setWidth {L : Lay} {r : Src} {D C : Nat} {w : World} {d : Dec} {inp : List UInt8} (h : St L r D C w d inp) (s : Sep L r D C) (x : Int) : St L r D C (w.setCell ⟨D, 3, none⟩ (.int .i64 x)) { d with width := x } inp := h.setD s _ _ (h.dec.setWidth s.ne x)
theorem St.setHeight {L : Lay} {r : Src} {D C : Nat} {w : World} {d : Dec} {inp : List UInt8} (h : St L r D C w d inp) (s : Sep L r D C) (x : Int) : St L r D C (w.setCell ⟨D, 4, none⟩ (.int .i64 x)) { d with height := x } inp := h.setD s _ _ (h.dec.setHeight s.ne x)
theorem St.setDepth {L : Lay} {r : Src} {D C : Nat} {w : World} {d : Dec} {inp : List UInt8} (h : St L r D C w d inp) (s : Sep L r D C) (x : Int) : St L r D C (w.setCell ⟨D, 5, none⟩ (.int .i64 x)) { d with depth := x } inp := h.setD s _ _ (h.dec.setDepth s.ne x)
theorem St.setPal {L : Lay} {r : Src} {D C : Nat} {w : World} {d : Dec} {inp : List UInt8} (h : St L r D C w d inp) (s : Sep L r D C) (x : Value) : St L r D C (w.setCell ⟨D, 6, none⟩ (x)) { d with pal := x } inp := h.setD s _ _ (h.dec.setPal s.ne x)
theorem St.setCb {L : Lay} {r : Src} {D C : Nat} {w : World} {d : Dec} {inp : List UInt8} (h : St L r D C w d inp) (s : Sep L r D C) (x : Int) : St L r D C (w.setCell ⟨D, 7, none⟩ (.int .i64 x)) { d with cb := x } inp := h.setD s _ _ (h.dec.setCb s.ne x)
theorem St.setStage {L : Lay} {r : Src} {D C : Nat} {w : World} {d : Dec} {inp : List UInt8} (h : St L r D C w d inp) (s : Sep L r D C) (x : Int) : St L r D C (w.setCell ⟨D, 8, none⟩ (.int .i64 x)) { d with stage := x } inp := h.setD s _ _ (h.dec.setStage s.ne x)
theorem St.setIdat {L : Lay} {r : Src} {D C : Nat} {w : World} {d : Dec} {inp : List UInt8} (h : St L r D C w d inp) (s : Sep L r D C) (x : Int) : St L r D C (w.setCell ⟨D, 9, none⟩ (.int .u32 x)) { d with idat := x } inp := h.setD s _ _ (h.dec.setIdat s.ne x)
theorem St.setIlace {L : Lay} {r : Src} {D C : Nat} {w : World} {d : Dec} {inp : List UInt8} (h : St L r D C w d inp) (s : Sep L r D C) (x : Int) : St L r D C (w.setCell ⟨D, 778, none⟩ (.int .i64 x)) { d with ilace := x } inp := h.setD s _ _ (h.dec.setIlace s.ne x)
theorem St.setUseT {L : Lay} {r : Src} {D C : Nat} {w : World} {d : Dec} {inp : List UInt8} (h : St L r D C w d inp) (s : Sep L r D C) (x : Bool) : St L r D C (w.setCell ⟨D, 779, none⟩ (.bool x)) { d with useT := x } inp := h.setD s _ _ (h.dec.setUseT s.ne x)

end Go.Proofs.YtnpkgmgedgcjmaaGreatDoor
