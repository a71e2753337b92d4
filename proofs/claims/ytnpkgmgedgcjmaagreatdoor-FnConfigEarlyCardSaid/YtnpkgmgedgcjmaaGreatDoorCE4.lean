/- The decoder's own memory, and its smallest methods: a number of four bytes, the sum's state. The decoder checks a sum, and the signature. No conditions but those in each theorem's own binders. -/
import Derived.Test.YtnpkgmgedgcjmaaGreatDoorCE3
namespace Go.Proofs.YtnpkgmgedgcjmaaGreatDoor
set_option linter.unusedVariables false
set_option linter.unusedSimpArgs false
open Go.RowKit Go.Png

/-- The number in four bytes, the highest first. -/
def be4 (a b c d : UInt8) : Nat := a.toNat * 16777216 + b.toNat * 65536 + c.toNat * 256 + d.toNat

theorem be4_lt (a b c d : UInt8) : be4 a b c d < 4294967296 := by
  have := a.toNat_lt; have := b.toNat_lt; have := c.toNat_lt; have := d.toNat_lt
  unfold be4; omega

theorem be_or (a b c d : UInt8) :
    bits .or .u32 (bits .or .u32 (bits .or .u32 (d.toNat : Int) ((c.toNat : Int) * 256)) ((b.toNat : Int) * 65536)) ((a.toNat : Int) * 16777216) = (be4 a b c d : Nat) := by
  have ha := a.toNat_lt; have hb := b.toNat_lt; have hc := c.toNat_lt; have hd := d.toNat_lt
  rw [show ((c.toNat : Int) * 256) = ((c.toNat * 256 : Nat) : Int) by simp, show ((b.toNat : Int) * 65536) = ((b.toNat * 65536 : Nat) : Int) by simp,
    show ((a.toNat : Int) * 16777216) = ((a.toNat * 16777216 : Nat) : Int) by simp]
  rw [u32_or_nat _ _ (by omega) (by omega), Nat.or_comm, nat_join 8 _ _ (by omega) (by omega)]
  rw [u32_or_nat _ _ (by omega) (by omega), Nat.or_comm, nat_join 16 _ _ (by omega) (by omega)]
  rw [u32_or_nat _ _ (by omega) (by omega), Nat.or_comm, nat_join 24 _ _ (by omega) (by omega)]
  exact congrArg (fun n : Nat => (n : Int)) (by unfold be4; omega)

set_option maxHeartbeats 400000 in
theorem beUint32 (w : World) (b off len cap : Nat) (x0 x1 x2 x3 : UInt8) (hl : 4 ≤ len)
    (h0 : w.cell? ⟨b, off, none⟩ = some (.int .u8 (x0.toNat : Nat))) (h1 : w.cell? ⟨b, off + 1, none⟩ = some (.int .u8 (x1.toNat : Nat)))
    (h2 : w.cell? ⟨b, off + 2, none⟩ = some (.int .u8 (x2.toNat : Nat))) (h3 : w.cell? ⟨b, off + 3, none⟩ = some (.int .u8 (x3.toNat : Nat))) :
    Calls Tryz.prog 85 #[.slice (some ⟨b, off, none⟩) len cap] w fun e w' => e = .returned (.int .u32 (be4 x0 x1 x2 x3 : Nat)) ∧ ∃ n, w' = w.drewN n := by
  have l0 : (0 : Int) < len := by omega
  have l1 : (1 : Int) < len := by omega
  have l2 : (2 : Int) < len := by omega
  have l3 : (3 : Int) < len := by omega
  have b0 : (x0.toNat : Int) < 256 := by have := x0.toNat_lt; omega
  have b1 : (x1.toNat : Int) < 256 := by have := x1.toNat_lt; omega
  have b2 : (x2.toNat : Int) < 256 := by have := x2.toNat_lt; omega
  have b3 : (x3.toNat : Int) < 256 := by have := x3.toNat_lt; omega
  have ho := be_or x0 x1 x2 x3
  go_enter Tryz.func85, Tryz.ntmps85
  go_wp2
  go_quiet (fail)
  go_wp2
  go_ret
  exact ⟨rfl, _, rfl⟩

set_option maxHeartbeats 400000 in
theorem crcSum (w : World) (C : Nat) (c : BitVec 32) (hc : w.cell? ⟨C, 0, none⟩ = some (.int .u32 (c.toNat : Nat))) :
    Calls Tryz.prog 108 #[.pointer (some ⟨C, 0, none⟩)] w fun e w' => e = .returned (.int .u32 (c.toNat : Nat)) ∧ ∃ n, w' = w.drewN n := by
  go_enter Tryz.func108, Tryz.ntmps108
  go_wp2
  go_ret
  exact ⟨rfl, 0, rfl⟩

set_option maxHeartbeats 400000 in
theorem crcReset (w : World) (C : Nat) (v : Value) (hc : w.cell? ⟨C, 0, none⟩ = some v) (hf : w.frozen? ⟨C, 0, none⟩ = false) :
    Calls Tryz.prog 86 #[.pointer (some ⟨C, 0, none⟩)] w fun e w' => e = .returned (.tuple #[]) ∧ w.setCell ⟨C, 0, none⟩ (.int .u32 0) = w' := by
  go_enter Tryz.func86, Tryz.ntmps86
  go_wp2
  go_end0
  exact ⟨rfl, rfl⟩

/-- Is this kind by a palette? -/
def isPal (k : Int) : Bool := decide (7 ≤ k ∧ k ≤ 10)
/-- Is this kind of red, green and blue? -/
def isTrue (k : Int) : Bool := k == 6 || k == 14

set_option maxHeartbeats 400000 in
theorem cbPaletted (w : World) (k : Int) :
    Calls Tryz.prog 66 #[.int .i64 k] w fun e w' => e = .returned (.bool (isPal k)) ∧ ∃ n, w' = w.drewN n := by
  go_enter Tryz.func66, Tryz.ntmps66
  go_wp2
  all_goals
    go_ret
    refine ⟨congrArg (fun b => Ending.returned (Value.bool b)) (?_ : _ = isPal k), 0, rfl⟩
    simp [isPal]
    try omega

set_option maxHeartbeats 400000 in
theorem cbTrueColor (w : World) (k : Int) :
    Calls Tryz.prog 90 #[.int .i64 k] w fun e w' => e = .returned (.bool (isTrue k)) ∧ ∃ n, w' = w.drewN n := by
  go_enter Tryz.func90, Tryz.ntmps90
  go_wp2
  all_goals
    go_ret
    refine ⟨congrArg (fun b => Ending.returned (Value.bool b)) (?_ : _ = isTrue k), 0, rfl⟩
    simp [isTrue]
    try omega

/-- A source of bytes: *bytes.Reader, or the pieces of the thin package. -/
structure Src where
  t : TypeId
  v : Value
  f : FuncId
  foot : Nat → Prop
  inv : World → List UInt8 → Prop

def Src.rdr (r : Src) : Rdr :=
  { σ := List UInt8, t := r.t, v := r.v, f := r.f, foot := r.foot, inv := r.inv, bad := fun w => r.inv w [], data := id, fin := fun _ => .eof, adv := fun l n => l.drop n }

/-- What a full read of a source comes to. -/
structure SrcPost (L : Lay) (r : Src) (w : World) (inp : List UInt8) (b off n : Nat) (e : Ending) (w' : World) (err : Value) : Prop where
  end_ : e = .returned (.tuple #[.int .i64 (min n inp.length : Nat), err])
  mod : Mod (fun k => r.foot k ∨ k = b) w w'
  wrote : Wrote b off (bytesV (inp.take n)) w w'
  inv : r.inv w' (inp.drop n)
  good : n ≤ inp.length → err = .nilIface
  bad : inp.length < n → ∃ g : GErr, err = g.val L

theorem readSrc (L : Lay) (r : Src) (hr : r.rdr.Ok L) (w : World) (inp : List UInt8) (b off n cap : Nat) (hinv : r.inv w inp) (hn : 0 < n) (hc : n ≤ cap) (hcap : cap ≤ 281474976710656)
   (hb : L.lo ≤ b) (hbf : ¬ r.foot b) (hroom : Room w b off n) :
    Calls Tryz.prog 84 #[.iface r.t r.v, .slice (some ⟨b, off, none⟩) n cap] w fun e w' => ∃ err, SrcPost L r w inp b off n e w' err := by
  refine (readFull L r.rdr hr w inp b off n cap hinv hn hc hcap hb hbf hroom).mono ?_
  rintro e w' ⟨m, err, h⟩
  obtain ⟨h1, h2, h3, h4⟩ := h
  refine ⟨err, ?_⟩
  rcases h4 with ⟨rfl, hle, he, hi⟩ | ⟨hm, hlt, ⟨g, hg, _⟩, hb⟩
  · have hle' : m ≤ inp.length := hle
    refine ⟨?_, h2, h3, ?_, fun _ => he, fun h => by omega⟩
    · rw [h1, Nat.min_eq_left hle']
    · rcases hi with hi | ⟨hm, hb⟩
      · exact hi
      · have hm' : m = inp.length := hm
        rw [hm', List.drop_length]; exact hb
  · have hlt' : inp.length < n := hlt
    have hm' : m = inp.length := hm
    refine ⟨?_, h2, ?_, ?_, fun h => by omega, fun _ => ⟨g, hg⟩⟩
    · rw [h1, hm', Nat.min_eq_right (by omega)]
    · have : inp.take n = inp := List.take_of_length_le (by omega)
      rw [this]
      have h5 : (r.rdr.data inp).take m = inp := by rw [hm']; exact List.take_length
      rw [h5] at h3; exact h3
    · rw [List.drop_eq_nil_of_le (by omega)]; exact hb

theorem SrcPost.undrew {L : Lay} {r : Src} {w : World} {inp : List UInt8} {b off n : Nat} {e : Ending} {w' : World} {err : Value} (h : SrcPost L r w.drew inp b off n e w' err) : SrcPost L r w inp b off n e w' err :=
  ⟨h.end_, h.mod.undrew, h.wrote.undrew, h.inv, h.good, h.bad⟩

/-- What the decoder's fields hold. -/
structure Dec where
  img : Value
  pal : Value
  width : Int
  height : Int
  depth : Int
  cb : Int
  stage : Int
  idat : Int
  ilace : Int
  useT : Bool
  tr : Nat → UInt8
  crc : BitVec 32

/-- The decoder lies in block D, its sum in block C. -/
structure DecAt (w : World) (D C : Nat) (r : Src) (d : Dec) : Prop where
  r : w.cell? ⟨D, 0, none⟩ = some (.iface r.t r.v)
  img : w.cell? ⟨D, 1, none⟩ = some d.img
  crcp : w.cell? ⟨D, 2, none⟩ = some (.pointer (some ⟨C, 0, none⟩))
  width : w.cell? ⟨D, 3, none⟩ = some (.int .i64 d.width)
  height : w.cell? ⟨D, 4, none⟩ = some (.int .i64 d.height)
  depth : w.cell? ⟨D, 5, none⟩ = some (.int .i64 d.depth)
  pal : w.cell? ⟨D, 6, none⟩ = some d.pal
  cb : w.cell? ⟨D, 7, none⟩ = some (.int .i64 d.cb)
  stage : w.cell? ⟨D, 8, none⟩ = some (.int .i64 d.stage)
  idat : w.cell? ⟨D, 9, none⟩ = some (.int .u32 d.idat)
  ilace : w.cell? ⟨D, 778, none⟩ = some (.int .i64 d.ilace)
  useT : w.cell? ⟨D, 779, none⟩ = some (.bool d.useT)
  tr : ∀ i, i < 6 → w.cell? ⟨D, 780 + i, none⟩ = some (.int .u8 ((d.tr i).toNat : Nat))
  tmp : ∀ i, i < 768 → ∃ x : UInt8, w.cell? ⟨D, 10 + i, none⟩ = some (.int .u8 (x.toNat : Nat))
  crc : w.cell? ⟨C, 0, none⟩ = some (.int .u32 (d.crc.toNat : Nat))
  fz : ∀ o, w.frozen? ⟨D, o, none⟩ = false
  fzc : w.frozen? ⟨C, 0, none⟩ = false

theorem DecAt.ltD {w : World} {D C : Nat} {r : Src} {d : Dec} (h : DecAt w D C r d) : D < w.heap.size := lt_of_cell h.r
theorem DecAt.ltC {w : World} {D C : Nat} {r : Src} {d : Dec} (h : DecAt w D C r d) : C < w.heap.size := lt_of_cell h.crc

theorem DecAt.mod {w w' : World} {D C : Nat} {r : Src} {d : Dec} (h : DecAt w D C r d) {S : Nat → Prop} (m : Mod S w w') (hD : ¬ S D) (hC : ¬ S C) : DecAt w' D C r d := by
  have c : ∀ o, w'.cell? ⟨D, o, none⟩ = w.cell? ⟨D, o, none⟩ := fun o => m.cell h.ltD hD o
  have cc : ∀ o, w'.cell? ⟨C, o, none⟩ = w.cell? ⟨C, o, none⟩ := fun o => m.cell h.ltC hC o
  exact ⟨(c _).trans h.r, (c _).trans h.img, (c _).trans h.crcp, (c _).trans h.width, (c _).trans h.height, (c _).trans h.depth, (c _).trans h.pal, (c _).trans h.cb, (c _).trans h.stage, (c _).trans h.idat,
    (c _).trans h.ilace, (c _).trans h.useT, fun i hi => (c _).trans (h.tr i hi), fun i hi => by rw [c]; exact h.tmp i hi, (cc _).trans h.crc, fun o => (m.frozen h.ltD hD o).trans (h.fz o), (m.frozen h.ltC hC 0).trans h.fzc⟩

theorem DecAt.drew {w : World} {D C : Nat} {r : Src} {d : Dec} (h : DecAt w D C r d) : DecAt w.drew D C r d :=
  h.mod (S := fun _ => False) ((Mod.refl _ _).drew) id id
theorem DecAt.drewN {w : World} {D C : Nat} {r : Src} {d : Dec} (h : DecAt w D C r d) (n : Nat) : DecAt (w.drewN n) D C r d :=
  h.mod (S := fun _ => False) ((Mod.refl _ _).drewN n) id id

/-- Bytes were read into the decoder's scratch. -/
theorem DecAt.wrote {w w' : World} {D C o : Nat} {r : Src} {d : Dec} {l : List UInt8} (h : DecAt w D C r d) {S : Nat → Prop} (m : Mod S w w') (hC : ¬ S C)
    (k : Wrote D (10 + o) (bytesV l) w w') (ho : o + l.length ≤ 768) : DecAt w' D C r d := by
  have c : ∀ q, (q < 10 ∨ 778 ≤ q) → w'.cell? ⟨D, q, none⟩ = w.cell? ⟨D, q, none⟩ := fun q hq => k.out q (by simp; omega)
  have cc : ∀ q, w'.cell? ⟨C, q, none⟩ = w.cell? ⟨C, q, none⟩ := fun q => m.cell h.ltC hC q
  refine ⟨(c _ (by omega)).trans h.r, (c _ (by omega)).trans h.img, (c _ (by omega)).trans h.crcp, (c _ (by omega)).trans h.width, (c _ (by omega)).trans h.height, (c _ (by omega)).trans h.depth, (c _ (by omega)).trans h.pal, (c _ (by omega)).trans h.cb, (c _ (by omega)).trans h.stage, (c _ (by omega)).trans h.idat,
    (c _ (by omega)).trans h.ilace, (c _ (by omega)).trans h.useT, fun i hi => (c _ (by omega)).trans (h.tr i hi), fun i hi => ?_, (cc _).trans h.crc, fun q => (k.frozen q).trans (h.fz q), (m.frozen h.ltC hC 0).trans h.fzc⟩
  · by_cases hq : o ≤ i ∧ i < o + l.length
    · have := k.at (i - o) (by simp; omega)
      rw [bytesV_get l (i - o) (by omega)] at this
      refine ⟨l[i - o], ?_⟩
      have e : 10 + o + (i - o) = 10 + i := by omega
      rw [e] at this; exact this
    · rw [k.out _ (by simp; omega)]; exact h.tmp i hi

theorem DecAt.room {w : World} {D C : Nat} {r : Src} {d : Dec} (h : DecAt w D C r d) (o n : Nat) (hn : o + n ≤ 768) : Room w D (10 + o) n :=
  ⟨h.ltD, fun i hi => by
    obtain ⟨x, hx⟩ := h.tmp (o + i) (by omega)
    have e : 10 + (o + i) = 10 + o + i := by omega
    rw [e] at hx
    exact ⟨by rw [hx]; rfl, h.fz _⟩⟩

/-- What lies apart. -/
structure Sep (L : Lay) (r : Src) (D C : Nat) : Prop where
  rok : r.rdr.Ok L
  loD : L.lo ≤ D
  loC : L.lo ≤ C
  ne : D ≠ C
  fD : ¬ r.foot D
  fC : ¬ r.foot C

/-- The decoder's state, and what is still to be read. -/
structure St (L : Lay) (r : Src) (D C : Nat) (w : World) (d : Dec) (inp : List UInt8) : Prop where
  dec : DecAt w D C r d
  inv : r.inv w inp

def foot (r : Src) (D C : Nat) (k : Nat) : Prop := r.foot k ∨ k = D ∨ k = C

theorem St.env {L : Lay} {r : Src} {D C : Nat} {w : World} {d : Dec} {inp : List UInt8} (h : St L r D C w d inp) (s : Sep L r D C) : Env L w := s.rok.env w inp h.inv
theorem St.mod {L : Lay} {r : Src} {D C : Nat} {w w' : World} {d : Dec} {inp : List UInt8} (h : St L r D C w d inp) (s : Sep L r D C) {S : Nat → Prop} (m : Mod S w w') (hS : ∀ k, S k → L.lo ≤ k ∧ ¬ foot r D C k) : St L r D C w' d inp :=
  ⟨h.dec.mod m (fun hs => (hS _ hs).2 (Or.inr (Or.inl rfl))) (fun hs => (hS _ hs).2 (Or.inr (Or.inr rfl))),
    s.rok.frame w w' S inp h.inv m fun k hk => ⟨(hS k hk).1, fun hf => (hS k hk).2 (Or.inl hf)⟩⟩
theorem St.drew {L : Lay} {r : Src} {D C : Nat} {w : World} {d : Dec} {inp : List UInt8} (h : St L r D C w d inp) (s : Sep L r D C) : St L r D C w.drew d inp :=
  h.mod s (S := fun _ => False) ((Mod.refl _ _).drew) (fun _ h => h.elim)
theorem St.drewN {L : Lay} {r : Src} {D C : Nat} {w : World} {d : Dec} {inp : List UInt8} (h : St L r D C w d inp) (s : Sep L r D C) (n : Nat) : St L r D C (w.drewN n) d inp :=
  h.mod s (S := fun _ => False) ((Mod.refl _ _).drewN n) (fun _ h => h.elim)

/-- Bytes were read into the scratch. -/
theorem St.read {L : Lay} {r : Src} {D C : Nat} {w w' : World} {d : Dec} {inp : List UInt8} {off n : Nat} {e : Ending} {err : Value} (h : St L r D C w d inp) (s : Sep L r D C)
    (p : SrcPost L r w inp D off n e w' err) (ho : 10 ≤ off) (hn : off + n ≤ 778) : St L r D C w' d (inp.drop n) ∧ Mod (foot r D C) w w' ∧ Bytes w' D off (inp.take n) := by
  obtain ⟨o, rfl⟩ : ∃ o, off = 10 + o := ⟨off - 10, by omega⟩
  exact ⟨⟨h.dec.wrote p.mod (fun hc => by rcases hc with hc | hc; exact s.fC hc; exact s.ne hc.symm) p.wrote (by simp; omega), p.inv⟩,
    p.mod.mono (fun k _ hk => by rcases hk with hk | hk; exact Or.inl hk; exact Or.inr (Or.inl hk)), Bytes.of_wrote p.wrote⟩

theorem St.call {L : Lay} {r : Src} {D C : Nat} {w : World} {d : Dec} {inp : List UInt8} (h : St L r D C w d inp) (s : Sep L r D C) (off n cap : Nat) (hn : 0 < n) (ho : 10 ≤ off) (ho2 : off + n ≤ 778) (hc : n ≤ cap) (hcap : cap ≤ 768) :
    Calls Tryz.prog 84 #[.iface r.t r.v, .slice (some ⟨D, off, none⟩) n cap] w fun e w' => ∃ err, SrcPost L r w inp D off n e w' err := by
  obtain ⟨o, rfl⟩ : ∃ o, off = 10 + o := ⟨off - 10, by omega⟩
  exact readSrc L r s.rok w inp D (10 + o) n cap h.inv hn hc (by omega) s.loD s.fD (h.dec.room o n (by omega))

end Go.Proofs.YtnpkgmgedgcjmaaGreatDoor
namespace Go.Proofs.YtnpkgmgedgcjmaaGreatDoor
set_option linter.unusedVariables false
set_option linter.unusedSimpArgs false
open Go.RowKit Go.Png

/-- The number in the first four bytes. -/
def beAt (l : List UInt8) : Nat := be4 (l.getD 0 0) (l.getD 1 0) (l.getD 2 0) (l.getD 3 0)

/-- Do four bytes follow that tell this sum? -/
def sumOk (inp : List UInt8) (c : BitVec 32) : Bool := decide (4 ≤ inp.length) && (beAt inp == c.toNat)

/-- What a step of the decoder comes to that only reads: nothing, or an error. -/
structure Step (L : Lay) (r : Src) (D C : Nat) (w : World) (d : Dec) (inp : List UInt8) (ok : Bool) (e : Ending) (w' : World) : Prop where
  st : St L r D C w' d inp
  mod : Mod (foot r D C) w w'
  good : ok = true → e = .returned .nilIface
  bad : ok = false → ∃ g : GErr, e = .returned (g.val L)

theorem _root_.Go.Png.Bytes.cell4 {w : World} {b off : Nat} {l : List UInt8} (h : Bytes w b off (l.take 4)) (hl : 4 ≤ l.length) :
    w.cell? ⟨b, off, none⟩ = some (.int .u8 ((l.getD 0 0).toNat : Nat)) ∧ w.cell? ⟨b, off + 1, none⟩ = some (.int .u8 ((l.getD 1 0).toNat : Nat)) ∧
    w.cell? ⟨b, off + 2, none⟩ = some (.int .u8 ((l.getD 2 0).toNat : Nat)) ∧ w.cell? ⟨b, off + 3, none⟩ = some (.int .u8 ((l.getD 3 0).toNat : Nat)) := by
  have g : ∀ i (hi : i < 4), w.cell? ⟨b, off + i, none⟩ = some (.int .u8 ((l.getD i 0).toNat : Nat)) := by
    intro i hi
    have := h i (by simp; omega)
    rw [this]
    have e : (l.take 4)[i]'(by simp; omega) = l.getD i 0 := by
      rw [List.getElem_take, List.getD_eq_getElem?_getD, List.getElem?_eq_getElem (by omega)]; rfl
    rw [e]
  exact ⟨g 0 (by omega), g 1 (by omega), g 2 (by omega), g 3 (by omega)⟩

set_option maxRecDepth 100000 in
set_option maxHeartbeats 2000000 in
theorem verifyChecksum (L : Lay) (r : Src) (D C : Nat) (s : Sep L r D C) (w : World) (d : Dec) (inp : List UInt8) (h : St L r D C w d inp) :
    Calls Tryz.prog 94 #[.pointer (some ⟨D, 0, none⟩)] w fun e w' => Step L r D C w d (inp.drop 4) (sumOk inp d.crc) e w' := by
  have c0 := h.dec.r
  have c2 := h.dec.crcp
  have hcall := (h.drew s).call s 10 4 768 (by omega) (by omega) (by omega) (by omega) (by omega)
  have HC := Lib.hid hcall; clear hcall
  go_enter Tryz.func94, Tryz.ntmps94
  go_wp2
  go_region_with (go_at_call 84; refine HC.out.mono ?_; rintro e w1 ⟨err, hp⟩; obtain rfl := hp.end_; have HP := Lib.hid hp; clear hp; go_simp)
  obtain ⟨st1, m1, b1⟩ := St.read h s HP.out.undrew (by omega) (by omega)
  by_cases hl : 4 ≤ inp.length
  · have he := HP.out.good hl
    subst he
    obtain ⟨q0, q1, q2, q3⟩ := b1.cell4 hl
    have c2' := st1.dec.crcp
    have c0' := st1.dec.crc
    have hbe : ∀ n, Calls Tryz.prog 85 #[.slice (some ⟨D, 10, none⟩) 4 768] (w1.drewN n) fun e w' => e = .returned (.int .u32 (beAt inp : Nat)) ∧ ∃ m, w' = (w1.drewN n).drewN m :=
      fun n => beUint32 _ D 10 4 768 _ _ _ _ (by omega) q0 q1 q2 q3
    have HBE := Lib.hid hbe; clear hbe
    go_wp2
    go_quiet ((first | (go_at_call 85; exact Calls.quiet_of (HBE.out _)) | (go_at_call 108; exact Calls.quiet_of (crcSum _ _ _ c0'))))
    have hs : sumOk inp d.crc = (beAt inp == d.crc.toNat) := by simp [sumOk, hl]
    have HS := Lib.hid hs; clear hs
    by_cases hq : beAt inp = d.crc.toNat
    · have hq2 : (((beAt inp : Nat) : Int) != ((d.crc.toNat : Nat) : Int)) = false := by rw [hq]; simp
      have HQ := Lib.hid hq; clear hq
      go_wp2
      go_ret
      exact ⟨st1.drewN s _, m1.drewN _, fun _ => rfl, fun hn => by rw [HS.out, HQ.out] at hn; simp at hn⟩
    · have hq2 : (((beAt inp : Nat) : Int) != ((d.crc.toNat : Nat) : Int)) = true := by simp; omega
      go_wp2
      go_ret
      exact ⟨st1.drewN s _, m1.drewN _, fun hn => by rw [HS.out] at hn; simp at hn; exact absurd hn hq, fun _ => ⟨.fmt _, rfl⟩⟩
  · obtain ⟨g, hg⟩ := HP.out.bad (by omega)
    obtain ⟨t, v, hv⟩ := GErr.val_iface L g
    rw [hv] at hg
    subst hg
    have HV := Lib.hid hv; clear hv
    go_wp2
    go_ret
    exact ⟨st1, m1, fun hn => by simp [sumOk, hl] at hn, fun _ => ⟨g, by rw [HV.out]; rfl⟩⟩

/-- How a file begins. -/
def sigL : List UInt8 := [137, 80, 78, 71, 13, 10, 26, 10]

/-- Does a file begin here? -/
def sigOk (inp : List UInt8) : Bool := decide (inp.take 8 = sigL)

set_option maxRecDepth 100000 in
set_option maxHeartbeats 2000000 in
theorem checkHeader (L : Lay) (r : Src) (D C : Nat) (s : Sep L r D C) (w : World) (d : Dec) (inp : List UInt8) (h : St L r D C w d inp) :
    Calls Tryz.prog 64 #[.pointer (some ⟨D, 0, none⟩)] w fun e w' => Step L r D C w d (inp.drop 8) (sigOk inp) e w' := by
  have c0 := h.dec.r
  have hcall := (h.drew s).call s 10 8 768 (by omega) (by omega) (by omega) (by omega) (by omega)
  have HC := Lib.hid hcall; clear hcall
  go_enter Tryz.func64, Tryz.ntmps64
  go_wp2
  go_region_with (go_at_call 84; refine HC.out.mono ?_; rintro e w1 ⟨err, hp⟩; obtain rfl := hp.end_; have HP := Lib.hid hp; clear hp; go_simp)
  obtain ⟨st1, m1, b1⟩ := St.read h s HP.out.undrew (by omega) (by omega)
  by_cases hl : 8 ≤ inp.length
  · have he := HP.out.good hl
    subst he
    have hcv := convBytes w1 D 10 768 8 (inp.take 8) (by simp; omega) b1
    have HM := Lib.hid m1; have HST := Lib.hid st1
    clear b1 m1 st1
    by_cases hq : inp.take 8 = sigL
    · have hE : ((strOf (inp.take 8)).toList == [137, 80, 78, 71, 13, 10, 26, 10]) = true := by rw [strOf_toList, hq]; rfl
      have HQ := Lib.hid hq; clear hq
      generalize strOf (inp.take 8) = sg at *
      go_wp2
      go_ret
      exact ⟨HST.out, HM.out, fun _ => rfl, fun hn => by simp [sigOk, HQ.out] at hn⟩
    · have hE : ((strOf (inp.take 8)).toList == [137, 80, 78, 71, 13, 10, 26, 10]) = false := by
        rw [strOf_toList]; simpa [sigL] using hq
      have HQ := Lib.hid hq; clear hq
      generalize strOf (inp.take 8) = sg at *
      go_wp2
      go_ret
      exact ⟨HST.out, HM.out, fun hn => by simp [sigOk, HQ.out] at hn, fun _ => ⟨.fmt _, rfl⟩⟩
  · obtain ⟨g, hg⟩ := HP.out.bad (by omega)
    obtain ⟨t, v, hv⟩ := GErr.val_iface L g
    rw [hv] at hg
    subst hg
    have HV := Lib.hid hv; clear hv
    go_wp2
    go_ret
    refine ⟨st1, m1, fun hn => ?_, fun _ => ⟨g, by rw [HV.out]; rfl⟩⟩
    simp only [sigOk, decide_eq_true_eq] at hn
    have := congrArg List.length hn
    simp [sigL] at this; omega

end Go.Proofs.YtnpkgmgedgcjmaaGreatDoor
