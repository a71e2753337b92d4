/- png.DecodeConfig on files that are right as far as it reads them: what it tells. No conditions but those in each theorem's own binders. -/
import Derived.Test.YtnpkgmgedgcjmaaGreatDoorCE15
namespace Go.Proofs.YtnpkgmgedgcjmaaGreatDoor
set_option linter.unusedVariables false
set_option linter.unusedSimpArgs false
open Go.RowKit Go.Png

/-- The world stays as it was below L.lo. -/
def Low (L : Lay) (w w' : World) : Prop := Mod (fun k => L.lo ≤ k) w w'

/-- The first chunk stands ahead; there is no palette. -/
structure FlatAt (L : Lay) (r : Src) (B D C : Nat) (w0 : World) (hd rest : List UInt8) (k : Nat) (w : World) : Prop where
  res : ResAt w B
  mod : Low L w0 w
  one : k = 1
  sep : Sep L r D C
  bd : ¬ foot r D C B
  st : St L r D C w dec0 (chunkL nIHDR hd ++ rest)

/-- What is told of a file without a palette. -/
structure FlatFin (L : Lay) (B : Nat) (w0 : World) (hd : List UInt8) (w : World) (cb : Int) (pa : Option Addr) (pn pc : Nat) (wd hg : Int) : Prop where
  res : ResAt w B
  mod : Low L w0 w
  env : Env L w
  cb : cb = cbIn hd
  pa : pa = none
  pn : pn = 0
  pc : pc = 0
  wd : wd = wideOf hd
  hg : hg = highOf hd

theorem Low.drewN {L : Lay} {w w' : World} (h : Low L w w') (n : Nat) : Low L w (w'.drewN n) := Mod.drewN h n

theorem Low.foot {L : Lay} {r : Src} {D C : Nat} {w w1 w' : World} (s : Sep L r D C) (h : Low L w w1) (m : Mod (foot r D C) w1 w') : Low L w w' :=
  Mod.trans h (m.mono fun k _ hk => by
    rcases hk with hk | rfl | rfl
    · exact s.rok.foot k hk
    · exact s.loD
    · exact s.loC)

theorem decodeConfig_flat (L : Lay) (r : Src) (hr : r.rdr.Ok L) (w : World) (hd rest : List UInt8) (hh : HdOk hd) (hk : isPal (cbIn hd) = false) (hinv : r.inv w (sigL ++ (chunkL nIHDR hd ++ rest))) :
    Calls Tryz.prog 51 #[.iface r.t r.v] w (CfgPost w.heap.size (FlatFin L w.heap.size w hd)) := by
  have hds : (sigL ++ (chunkL nIHDR hd ++ rest)).drop 8 = chunkL nIHDR hd ++ rest := List.drop_left' rfl
  have hts : (sigL ++ (chunkL nIHDR hd ++ rest)).take 8 = sigL := List.take_left' rfl
  refine decodeConfig_gen L r hr w _ hinv (decide_eq_true hts) (FlatAt L r w.heap.size (w.heap.size + 1 + 1) (w.heap.size + 1) w hd rest) (FlatFin L w.heap.size w hd) 1 ?_ ?_ ?_ ?_ ?_ ?_
  · intro k w1 n h
    exact ⟨h.res.mod (S := fun _ => False) ((Mod.refl _ w1).drewN n) id, h.mod.drewN n, h.one, h.sep, h.bd, h.st.drewN h.sep n⟩
  · intro w1 cb pa pn pc wd hg n h
    exact ⟨h.res.mod (S := fun _ => False) ((Mod.refl _ w1).drewN n) id, h.mod.drewN n, h.env.mod (S := fun _ => False) ((Mod.refl _ w1).drewN n) (fun _ hf => hf.elim), h.cb, h.pa, h.pn, h.pc, h.wd, h.hg⟩
  · exact fun k w1 h => h.res
  · exact fun w1 cb pa pn pc wd hg h => h.res
  · intro w1 s st m hres
    rw [hds] at st
    refine ⟨hres, m.mono (fun k _ hk => hr.foot k hk), rfl, s, ?_, st⟩
    rintro (hf | hf | hf)
    · exact absurd (hr.size w _ _ hinv hf) (by omega)
    · omega
    · omega
  · intro k w1 h
    refine (call_IHDR L r _ _ h.sep w1 dec0 hd rest hh h.st rfl).mono ?_
    rintro e w2 ⟨he, m, d1, st, hs1, hkn, hpal⟩
    refine ⟨he, Or.inr ⟨cbIn hd, 1, none, 0, 0, wideOf hd, highOf hd, ⟨h.res.mod m h.bd, Low.foot h.sep h.mod m, st.env h.sep, rfl, rfl, rfl, rfl, rfl, rfl⟩, ?_⟩⟩
    refine ⟨?_, ?_, ?_, ?_, ?_, Or.inr ⟨hk, by decide⟩⟩
    · rw [st.dec.cb, hkn.cb]
    · rw [st.dec.stage, hs1]
    · rw [st.dec.pal, hpal]; rfl
    · rw [st.dec.width, hkn.wd]
    · rw [st.dec.height, hkn.hg]

/-- Chunks that may be left out, one behind the other. -/
def flatC : List (List UInt8 × List UInt8) → List UInt8
  | [] => []
  | c :: o => chunkL c.1 c.2 ++ flatC o

/-- What stands behind a palette: alphas, or packed bytes. -/
inductive Tail (np : Nat) : List UInt8 → List UInt8 → Prop
  | trns (al rest : List UInt8) (h1 : 1 ≤ al.length) (h2 : al.length ≤ np) : Tail np al (chunkL ntRNS al ++ rest)
  | idat (n : Nat) (rest : List UInt8) (h : n < 4294967296) : Tail np [] (four n ++ (nIDAT ++ rest))

/-- Where a reading of a file with a palette stands. -/
structure PalRd (L : Lay) (r : Src) (B D C : Nat) (w0 : World) (hd pl tl : List UInt8) (np : Nat) (o1 o2 : List (List UInt8 × List UInt8)) (k : Nat) (w : World) : Prop where
  res : ResAt w B
  mod : Low L w0 w
  sep : Sep L r D C
  bd : ¬ foot r D C B
  at_ : (k = o1.length + o2.length + 3 ∧ St L r D C w dec0 (chunkL nIHDR hd ++ (flatC o1 ++ (chunkL nPLTE pl ++ (flatC o2 ++ tl))))) ∨
    (∃ o d, k = o.length + o2.length + 2 ∧ (∀ c ∈ o, Anc c) ∧ St L r D C w d (flatC o ++ (chunkL nPLTE pl ++ (flatC o2 ++ tl))) ∧ d.stage = 1 ∧ Knows hd d) ∨
    (∃ o d pb, k = o.length + 1 ∧ (∀ c ∈ o, Anc c) ∧ St L r D C w { d with pal := .slice (some ⟨pb, 0, none⟩) np 256 } (flatC o ++ tl) ∧ d.stage = 2 ∧ Knows hd d ∧ PalAt L r D C w pb (palE np pl))

structure PalFin (L : Lay) (B : Nat) (w0 : World) (hd pl al : List UInt8) (np : Nat) (w : World) (cb : Int) (pa : Option Addr) (pn pc : Nat) (wd hg : Int) : Prop where
  res : ResAt w B
  mod : Low L w0 w
  env : Env L w
  cb : cb = cbIn hd
  pn : pn = np
  pc : pc = 256
  wd : wd = wideOf hd
  hg : hg = highOf hd
  pal : ∃ pb, pa = some ⟨pb, 0, none⟩ ∧ L.lo ≤ pb ∧ pb ≠ B ∧ pb < w.heap.size ∧ ∀ i, i < 256 → w.cell? ⟨pb, i, none⟩ = some (palC np al.length pl al i)

theorem palC_iface (np m : Nat) (pl al : List UInt8) (i : Nat) : ∃ t v, palC np m pl al i = .iface t v := by
  unfold palC palE nrgbaV rgbaV
  split
  · exact ⟨_, _, rfl⟩
  · split <;> exact ⟨_, _, rfl⟩

theorem ResAt.ne {w : World} {B pb : Nat} (h : ResAt w B) {t : TypeId} {v : Value} (hp : w.cell? ⟨pb, 0, none⟩ = some (.iface t v)) : pb ≠ B := by
  rintro rfl
  rw [h.c0] at hp; cases hp

theorem palC_zero (np : Nat) (pl : List UInt8) (i : Nat) : palC np 0 pl [] i = palE np pl i := by
  unfold palC; rw [if_neg (by omega)]

theorem decodeConfig_pal (L : Lay) (r : Src) (hr : r.rdr.Ok L) (w : World) (hd pl tl al : List UInt8) (np : Nat) (o1 o2 : List (List UInt8 × List UInt8)) (hh : HdOk hd) (hk : isPal (cbIn hd) = true)
    (hpl : pl.length = 3 * np) (hn1 : 1 ≤ np) (hnp : np ≤ 256) (hdep : (at_ hd 8).toNat = 1 ∨ (at_ hd 8).toNat = 2 ∨ (at_ hd 8).toNat = 4 ∨ (at_ hd 8).toNat = 8 ∨ (at_ hd 8).toNat = 16) (hn2 : np ≤ 2 ^ (at_ hd 8).toNat)
    (ha1 : ∀ c ∈ o1, Anc c) (ha2 : ∀ c ∈ o2, Anc c) (htl : Tail np al tl)
    (hinv : r.inv w (sigL ++ (chunkL nIHDR hd ++ (flatC o1 ++ (chunkL nPLTE pl ++ (flatC o2 ++ tl)))))) :
    Calls Tryz.prog 51 #[.iface r.t r.v] w (CfgPost w.heap.size (PalFin L w.heap.size w hd pl al np)) := by
  have hds : (sigL ++ (chunkL nIHDR hd ++ (flatC o1 ++ (chunkL nPLTE pl ++ (flatC o2 ++ tl))))).drop 8 = chunkL nIHDR hd ++ (flatC o1 ++ (chunkL nPLTE pl ++ (flatC o2 ++ tl))) := List.drop_left' rfl
  have hts : (sigL ++ (chunkL nIHDR hd ++ (flatC o1 ++ (chunkL nPLTE pl ++ (flatC o2 ++ tl))))).take 8 = sigL := List.take_left' rfl
  refine decodeConfig_gen L r hr w _ hinv (decide_eq_true hts) (PalRd L r w.heap.size (w.heap.size + 1 + 1) (w.heap.size + 1) w hd pl tl np o1 o2) (PalFin L w.heap.size w hd pl al np) (o1.length + o2.length + 3) ?_ ?_ ?_ ?_ ?_ ?_
  · intro k w1 n h
    have dn : Mod (fun _ => False) w1 (w1.drewN n) := (Mod.refl _ w1).drewN n
    refine ⟨h.res.mod dn id, h.mod.drewN n, h.sep, h.bd, ?_⟩
    rcases h.at_ with ⟨h1, h2⟩ | ⟨o, d, h1, h2, h3, h4, h5⟩ | ⟨o, d, pb, h1, h2, h3, h4, h5, h6⟩
    · exact Or.inl ⟨h1, h2.drewN h.sep n⟩
    · exact Or.inr (Or.inl ⟨o, d, h1, h2, h3.drewN h.sep n, h4, h5⟩)
    · exact Or.inr (Or.inr ⟨o, d, pb, h1, h2, h3.drewN h.sep n, h4, h5, h6.mod dn id⟩)
  · intro w1 cb pa pn pc wd hg n h
    have dn : Mod (fun _ => False) w1 (w1.drewN n) := (Mod.refl _ w1).drewN n
    obtain ⟨pb, p1, p2, p3, p4, p5⟩ := h.pal
    exact ⟨h.res.mod dn id, h.mod.drewN n, h.env.mod dn (fun _ hf => hf.elim), h.cb, h.pn, h.pc, h.wd, h.hg, pb, p1, p2, p3, p4, p5⟩
  · exact fun k w1 h => h.res
  · exact fun w1 cb pa pn pc wd hg h => h.res
  · intro w1 s st m hres
    rw [hds] at st
    refine ⟨hres, m.mono (fun k _ hk => hr.foot k hk), s, ?_, Or.inl ⟨rfl, st⟩⟩
    rintro (hf | hf | hf)
    · exact absurd (hr.size w _ _ hinv hf) (by omega)
    · omega
    · omega
  · intro k w1 h
    rcases h.at_ with ⟨h1, h2⟩ | ⟨o, d, h1, h2, h3, h4, h5⟩ | ⟨o, d, pb, h1, h2, h3, h4, h5, h6⟩
    · refine (call_IHDR L r _ _ h.sep w1 dec0 hd _ hh h2 rfl).mono ?_
      rintro e w2 ⟨he, m, d1, st, hs1, hkn, hpal⟩
      refine ⟨he, Or.inl ⟨o1.length + o2.length + 2, cbIn hd, 1, by omega, ⟨h.res.mod m h.bd, Low.foot h.sep h.mod m, h.sep, h.bd, Or.inr (Or.inl ⟨o1, d1, rfl, ha1, st, hs1, hkn⟩)⟩, ?_, ?_, Or.inl ⟨hk, by decide⟩⟩⟩
      · rw [st.dec.cb, hkn.cb]
      · rw [st.dec.stage, hs1]
    · cases o with
      | cons c o =>
        have h3' : St L r (w.heap.size + 1 + 1) (w.heap.size + 1) w1 d (chunkL c.1 c.2 ++ (flatC o ++ (chunkL nPLTE pl ++ (flatC o2 ++ tl)))) := by rw [flatC, List.append_assoc] at h3; exact h3
        refine (call_other L r _ _ h.sep w1 d c _ (h2 c (List.mem_cons_self ..)) h3').mono ?_
        rintro e w2 ⟨he, m, q, st⟩
        refine ⟨he, Or.inl ⟨o.length + o2.length + 2, cbIn hd, 1, by simp at h1; omega, ⟨h.res.mod m h.bd, Low.foot h.sep h.mod m, h.sep, h.bd, Or.inr (Or.inl ⟨o, _, rfl, fun c hc => h2 c (List.mem_cons_of_mem _ hc), st, h4, ⟨h5.cb, h5.depth, h5.wd, h5.hg⟩⟩)⟩, ?_, ?_, Or.inl ⟨hk, by decide⟩⟩⟩
        · rw [st.dec.cb]; show some (Value.int .i64 d.cb) = _; rw [h5.cb]
        · rw [st.dec.stage]; show some (Value.int .i64 d.stage) = _; rw [h4]
      | nil =>
        refine (call_PLTE L r _ _ h.sep w1 d pl _ np (at_ hd 8).toNat hpl hn1 hnp h5.depth hdep hn2 (by rw [h5.cb]; exact hk) h4 h3).mono ?_
        rintro e w2 ⟨he, m, q, pb, st, pp⟩
        refine ⟨he, Or.inl ⟨o2.length + 1, cbIn hd, 2, by simp at h1; omega, ⟨h.res.mod m h.bd, Low.foot h.sep h.mod m, h.sep, h.bd, Or.inr (Or.inr ⟨o2, { d with stage := 2, crc := q }, pb, rfl, ha2, st, rfl, ⟨h5.cb, h5.depth, h5.wd, h5.hg⟩, pp⟩)⟩, ?_, ?_, Or.inl ⟨hk, by decide⟩⟩⟩
        · rw [st.dec.cb]; show some (Value.int .i64 d.cb) = _; rw [h5.cb]
        · rw [st.dec.stage]
    · cases o with
      | cons c o =>
        have h3' : St L r (w.heap.size + 1 + 1) (w.heap.size + 1) w1 { d with pal := .slice (some ⟨pb, 0, none⟩) np 256 } (chunkL c.1 c.2 ++ (flatC o ++ tl)) := by rw [flatC, List.append_assoc] at h3; exact h3
        refine (call_other L r _ _ h.sep w1 _ c _ (h2 c (List.mem_cons_self ..)) h3').mono ?_
        rintro e w2 ⟨he, m, q, st⟩
        refine ⟨he, Or.inl ⟨o.length + 1, cbIn hd, 2, by simp at h1; omega, ⟨h.res.mod m h.bd, Low.foot h.sep h.mod m, h.sep, h.bd, Or.inr (Or.inr ⟨o, { d with crc := q }, pb, rfl, fun c hc => h2 c (List.mem_cons_of_mem _ hc), st, h4, ⟨h5.cb, h5.depth, h5.wd, h5.hg⟩, h6.mod m h6.foot⟩)⟩, ?_, ?_, Or.inl ⟨hk, by decide⟩⟩⟩
        · rw [st.dec.cb]; show some (Value.int .i64 d.cb) = _; rw [h5.cb]
        · rw [st.dec.stage]; show some (Value.int .i64 d.stage) = _; rw [h4]
      | nil =>
        cases htl with
        | trns _ rest ha hb =>
          refine (call_tRNS L r _ _ h.sep w1 d pl al rest np pb hnp hb ha (by rw [h5.cb]; exact hk) h4 h3 h6).mono ?_
          rintro e w2 ⟨he, m, q, st, pp⟩
          obtain ⟨t, v, hc0⟩ := palC_iface np al.length pl al 0
          have hne1 : pb ≠ w.heap.size := by
            have hc1 := h6.cell 0 (by omega)
            rw [← palC_zero] at hc1
            obtain ⟨t1, v1, hc2⟩ := palC_iface np 0 pl [] 0
            rw [hc2] at hc1
            exact h.res.ne hc1
          have hres2 : ResAt w2 w.heap.size := h.res.mod m (by rintro (hf | hf); exact h.bd hf; exact hne1 hf.symm)
          have hlow : Low L w w2 := Mod.trans h.mod (m.mono fun k _ hk => by
            rcases hk with (hk | rfl | rfl) | rfl
            · exact h.sep.rok.foot k hk
            · exact h.sep.loD
            · exact h.sep.loC
            · exact h6.lo)
          refine ⟨he, Or.inr ⟨cbIn hd, 3, some ⟨pb, 0, none⟩, np, 256, wideOf hd, highOf hd, ⟨hres2, hlow, st.env h.sep, rfl, rfl, rfl, rfl, rfl, pb, rfl, pp.lo, hne1, pp.lt, pp.cell⟩, ?_⟩⟩
          refine ⟨?_, ?_, ?_, ?_, ?_, Or.inl ⟨hk, by decide⟩⟩
          · rw [st.dec.cb]; show some (Value.int .i64 d.cb) = _; rw [h5.cb]
          · rw [st.dec.stage]
          · rw [st.dec.pal]
          · rw [st.dec.width]; show some (Value.int .i64 d.width) = _; rw [h5.wd]
          · rw [st.dec.height]; show some (Value.int .i64 d.height) = _; rw [h5.hg]
        | idat n rest hn =>
          refine (call_IDAT L r _ _ h.sep w1 { d with pal := .slice (some ⟨pb, 0, none⟩) np 256 } n rest hn h4 h3).mono ?_
          rintro e w2 ⟨he, m, q, st⟩
          have hne1 : pb ≠ w.heap.size := by
            have hc1 := h6.cell 0 (by omega)
            rw [← palC_zero] at hc1
            obtain ⟨t1, v1, hc2⟩ := palC_iface np 0 pl [] 0
            rw [hc2] at hc1
            exact h.res.ne hc1
          have pp := h6.mod m h6.foot
          refine ⟨he, Or.inr ⟨cbIn hd, 4, some ⟨pb, 0, none⟩, np, 256, wideOf hd, highOf hd, ⟨h.res.mod m h.bd, Low.foot h.sep h.mod m, st.env h.sep, rfl, rfl, rfl, rfl, rfl, pb, rfl, pp.lo, hne1, pp.lt, fun i hi => by rw [pp.cell i hi]; exact congrArg some (palC_zero np pl i).symm⟩, ?_⟩⟩
          refine ⟨?_, ?_, ?_, ?_, ?_, Or.inl ⟨hk, by decide⟩⟩
          · rw [st.dec.cb]; show some (Value.int .i64 d.cb) = _; rw [h5.cb]
          · rw [st.dec.stage]
          · rw [st.dec.pal]
          · rw [st.dec.width]; show some (Value.int .i64 d.width) = _; rw [h5.wd]
          · rw [st.dec.height]; show some (Value.int .i64 d.height) = _; rw [h5.hg]

end Go.Proofs.YtnpkgmgedgcjmaaGreatDoor
