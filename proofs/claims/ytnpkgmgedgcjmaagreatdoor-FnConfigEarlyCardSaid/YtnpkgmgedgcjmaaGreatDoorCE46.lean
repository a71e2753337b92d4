/- The law of what is told early: what is told of a file, whole or cut off. No conditions but those in each theorem's own binders. -/
import Derived.Test.YtnpkgmgedgcjmaaGreatDoorCE45
namespace Go.Proofs.YtnpkgmgedgcjmaaGreatDoor
set_option linter.unusedVariables false
set_option linter.unusedSimpArgs false
open Go.RowKit Go.Png

def chunksOf (m : Img) : List (List UInt8 × List UInt8) :=
  [(nIHDR, headL m.s)] ++ ((if m.pal.length = 0 then [] else [(nPLTE, shadesL m.pal)]) ++ ((if anyL m.pal then [(ntRNS, clearsL m.pal)] else []) ++ (if m.cl = [] then [] else [(ntRNS, rowL 16 m.cl)])))

theorem packedL_ne (l : List UInt8) (bs : List Bool) : packedL l bs ≠ [] := by unfold packedL; simp

theorem file_chunks (m : Img) (fl : List UInt8) (bs : List Bool) : fileL m.s m.sm m.pal m.cl fl bs [] [] [] = sigL ++ (flatC (chunksOf m) ++ (chunkL nIDAT (packedL (bareL m.s m.sm fl) bs) ++ chunkL nIEND [])) := by
  unfold fileL chunksOf plteL trnsL clearC
  rw [idatsL, if_neg (packedL_ne _ _), flatC_append, flatC_append, flatC_append]
  split <;> split <;> split <;> simp [flatC]

theorem chunksOf_ok (m : Img) (h : m.Ok) : ∀ x ∈ chunksOf m, x.1.length = 4 ∧ x.1 ≠ nIDAT ∧ x.2.length < 65536 := by
  intro x hx
  have hp := h.pal
  have hc := h.cl
  unfold chunksOf at hx
  rw [List.mem_append, List.mem_append, List.mem_append] at hx
  rcases hx with hx | hx | hx | hx
  · simp at hx; subst hx; exact ⟨rfl, by show nIHDR ≠ nIDAT; decide, by show (headL m.s).length < 65536; show 13 < 65536; decide⟩
  · split at hx
    · simp at hx
    · simp at hx; subst hx; exact ⟨rfl, by show nPLTE ≠ nIDAT; decide, by show (shadesL m.pal).length < 65536; rw [shadesL_length]; omega⟩
  · split at hx
    · simp at hx; subst hx; exact ⟨rfl, by show ntRNS ≠ nIDAT; decide, by show (clearsL m.pal).length < 65536; rw [clearsL_length]; omega⟩
    · simp at hx
  · split at hx
    · simp at hx
    · simp at hx; subst hx; exact ⟨rfl, by show ntRNS ≠ nIDAT; decide, by show (rowL 16 m.cl).length < 65536; unfold rowL; rw [rowP_length 16 (by unfold DepOk; omega)]; omega⟩

/-- The number of a kind by its colour type and its bits a sample. -/
theorem head_at (s : Shp) (h : s.wide ≤ 40) (h2 : s.high ≤ 40) (hd : DepOk s.depth) (hc : ColOk s.colour) : (headL s).length = 13 ∧ at_ (headL s) 10 = 0 ∧ at_ (headL s) 11 = 0 ∧ (at_ (headL s) 12).toNat = lacedN s.laced ∧ wideOf (headL s) = s.wide ∧ highOf (headL s) = s.high ∧ (at_ (headL s) 8).toNat = s.depth ∧ (at_ (headL s) 9).toNat = s.colour := by
  have hd16 : s.depth ≤ 16 := by rcases hd with h | h | h | h | h <;> omega
  have hc6 : s.colour ≤ 6 := by rcases hc with h | h | h | h | h <;> omega
  refine ⟨rfl, rfl, rfl, ?_, ?_, ?_, ?_, ?_⟩
  · show (UInt8.ofNat (lacedN s.laced)).toNat = _
    rw [UInt8.toNat_ofNat']; cases s.laced <;> rfl
  · show be4 (UInt8.ofNat (s.wide / 16777216)) (UInt8.ofNat (s.wide / 65536)) (UInt8.ofNat (s.wide / 256)) (UInt8.ofNat s.wide) = s.wide
    unfold be4; simp only [UInt8.toNat_ofNat']; omega
  · show be4 (UInt8.ofNat (s.high / 16777216)) (UInt8.ofNat (s.high / 65536)) (UInt8.ofNat (s.high / 256)) (UInt8.ofNat s.high) = s.high
    unfold be4; simp only [UInt8.toNat_ofNat']; omega
  · show (UInt8.ofNat s.depth).toNat = _
    rw [UInt8.toNat_ofNat']; omega
  · show (UInt8.ofNat s.colour).toNat = _
    rw [UInt8.toNat_ofNat']; omega

/-- What of an image the reading of its head asks. -/
structure Img.Kd (m : Img) : Prop where
  cb : cbOf m.s.depth m.s.colour ≠ 0
  ip : isPal (cbOf m.s.depth m.s.colour : Nat) = decide (m.s.colour = 3)
  p3 : m.s.colour = 3 → 1 ≤ m.pal.length ∧ m.pal.length ≤ 2 ^ m.s.depth ∧ m.cl = []
  p0 : m.s.colour ≠ 3 → m.pal = []

theorem imgOf_kd (kind wide high : Nat) (laced : Bool) (ul : List Nat) (ps : List Shd) (clr : List Nat) : (imgOf kind wide high laced ul ps clr).Kd := by
  have hk : kind % 15 < 15 := Nat.mod_lt _ (by decide)
  obtain ⟨hco, hd, hcd⟩ := colK_ok (kind % 15) hk
  have hp := pow_dep hd
  have hcb : cbOf (depK (kind % 15)) (colK (kind % 15)) ≠ 0 ∧ isPal (cbOf (depK (kind % 15)) (colK (kind % 15)) : Nat) = decide (colK (kind % 15) = 3) := by
    generalize kind % 15 = k at *
    have : k = 0 ∨ k = 1 ∨ k = 2 ∨ k = 3 ∨ k = 4 ∨ k = 5 ∨ k = 6 ∨ k = 7 ∨ k = 8 ∨ k = 9 ∨ k = 10 ∨ k = 11 ∨ k = 12 ∨ k = 13 ∨ k = 14 := by omega
    rcases this with rfl | rfl | rfl | rfl | rfl | rfl | rfl | rfl | rfl | rfl | rfl | rfl | rfl | rfl | rfl <;> exact ⟨by decide, by decide⟩
  have ht := topL_bd ps (colK (kind % 15)) (2 ^ depK (kind % 15)) (by omega)
  refine ⟨hcb.1, hcb.2, fun h => ?_, fun h => ?_⟩
  · have h3 : colK (kind % 15) = 3 := h
    have hl : (palL ps (colK (kind % 15)) (2 ^ depK (kind % 15))).length = topL ps (colK (kind % 15)) (2 ^ depK (kind % 15)) := by unfold topL; rw [if_pos h3]
    refine ⟨?_, ?_, ?_⟩
    · show 1 ≤ (palL ps (colK (kind % 15)) (2 ^ depK (kind % 15))).length; omega
    · show (palL ps (colK (kind % 15)) (2 ^ depK (kind % 15))).length ≤ 2 ^ depK (kind % 15); omega
    · show clL clr (colK (kind % 15)) _ _ = []
      unfold clL; rw [if_neg (by rw [h3]; simp)]
  · exact if_neg h

theorem headOk (m : Img) (h : m.Ok) (k : m.Kd) : HdOk (headL m.s) ∧ cbIn (headL m.s) = cbOf m.s.depth m.s.colour ∧ wideOf (headL m.s) = m.s.wide ∧ highOf (headL m.s) = m.s.high := by
  obtain ⟨e1, e2, e3, e4, e5, e6, e7, e8⟩ := head_at m.s h.wide.2 h.high.2 h.dep h.col
  have hcb : cbIn (headL m.s) = cbOf m.s.depth m.s.colour := by unfold cbIn; rw [e7, e8]
  have h1 := h.wide; have h2 := h.high
  refine ⟨⟨e1, e2, e3, ?_, ?_, ?_, ?_, ?_, ?_, ?_⟩, hcb, e5, e6⟩
  · rw [e4]; cases m.s.laced <;> decide
  · rw [e5]; omega
  · rw [e5]; omega
  · rw [e6]; omega
  · rw [e6]; omega
  · rw [e5, e6]
    have : m.s.wide * m.s.high ≤ 40 * 40 := Nat.mul_le_mul h1.2 h2.2
    omega
  · rw [hcb]; exact k.cb

/-- The first colors that are told of a palette. -/
def shdL (m : Nat) (pl al : List UInt8) : Nat → List Shd
  | 0 => []
  | j + 1 => shdL m pl al j ++ [⟨at_ pl (3 * j), at_ pl (3 * j + 1), at_ pl (3 * j + 2), if j < m then at_ al j else 255⟩]
theorem shdL_length (m : Nat) (pl al : List UInt8) (n : Nat) : (shdL m pl al n).length = n := by
  induction n with
  | zero => rfl
  | succ n ih => rw [shdL, List.length_append, ih]; rfl
theorem shdL_get (m : Nat) (pl al : List UInt8) (n i : Nat) (h : i < n) (h2 : i < (shdL m pl al n).length) : (shdL m pl al n)[i] = ⟨at_ pl (3 * i), at_ pl (3 * i + 1), at_ pl (3 * i + 2), if i < m then at_ al i else 255⟩ := by
  induction n with
  | zero => omega
  | succ n ih =>
    have hl := shdL_length m pl al n
    simp only [shdL]
    by_cases hi : i < n
    · rw [List.getElem_append_left (by omega)]; exact ih hi (by omega)
    · obtain rfl : i = n := by omega
      rw [List.getElem_append_right (by omega)]; simp [hl]
theorem shadesC_get (m : Nat) (pl al : List UInt8) (n i j : Nat) (h : i < n) (hj : j < 4) : (shadesC m pl al n)[i * 4 + j]? = (shadeC m pl al i)[j]? := by
  have hlen : ∀ n, (shadesC m pl al n).length = n * 4 := by
    intro n
    induction n with
    | zero => rfl
    | succ n ih => rw [shadesC, List.length_append, ih]; simp [shadeC]; omega
  induction n with
  | zero => omega
  | succ n ih =>
    rw [shadesC]
    by_cases hi : i < n
    · rw [List.getElem?_append_left (by rw [hlen]; omega)]; exact ih hi
    · obtain rfl : i = n := by omega
      rw [List.getElem?_append_right (by rw [hlen]; omega), hlen]
      congr 1; omega
theorem shd_sl {w : World} {base g c n m : Nat} {pl al : List UInt8} (h : w.ownsRow base 96 4 (.slice (some ⟨g, 0, none⟩) n c) n (shadesC m pl al n)) : SlS w (some ⟨g, 0, none⟩) (shdL m pl al n) := by
  refine Or.inr ⟨g, 0, rfl, fun i hi => ?_⟩
  have hn : i < n := by rw [shdL_length] at hi; exact hi
  have hc : ∀ j, j < 4 → w.cell? ⟨g, i * 4 + j, none⟩ = (shadeC m pl al i)[j]? := fun j hj => by
    rw [← shadesC_get m pl al n i j hn hj]; exact World.ownsRow.cellAt h (i * 4 + j) (by omega)
  rw [shdL_get m pl al n i hn hi, Nat.zero_add]
  refine ⟨?_, ?_, ?_, ?_⟩
  · exact hc 0 (by decide)
  · exact hc 1 (by decide)
  · exact hc 2 (by decide)
  · exact hc 3 (by decide)

/-- The colors that are told of an image. -/
def shdOf (m : Img) : List Shd := if m.s.colour = 3 then shdL (if anyL m.pal then (clearsL m.pal).length else 0) (shadesL m.pal) (if anyL m.pal then clearsL m.pal else []) m.pal.length else []

/-- What is told ahead of the picture. -/
def CfgTold (w : World) (m : Img) (e : Ending) (w' : World) : Prop :=
  ∃ A q c, e = .returned (.tuple #[.agg #[.int .i64 (kindN (cbOf m.s.depth m.s.colour)), .int .i64 m.s.wide, .int .i64 m.s.high, .slice A q c], .int .i64 0]) ∧ (shdOf m).length = q ∧ SlS w' A (shdOf m) ∧ Mod (fun _ => False) w w'

theorem early_cfg (L : Lay) (w : World) (he : Env L w) (m : Img) (hm : m.Ok) (hk : m.Kd) (b off n c k : Nat) (rest X : List UInt8) (hX : X = sigL ++ (flatC (chunksOf m) ++ (four k ++ (nIDAT ++ rest)))) (hkk : k < 4294967296) (hn : X.length = n) (hlim : n ≤ 140737488355328) (hB : Bytes w b off X) :
    Calls Tryz.prog 33 #[.slice (some ⟨b, off, none⟩) n c] w (CfgTold w m) := by
  obtain ⟨hd, e1, e2, e3⟩ := headOk m hm hk
  by_cases h3 : m.s.colour = 3
  · obtain ⟨p1, p2, p3⟩ := hk.p3 h3
    have hpl : isPal (cbIn (headL m.s)) = true := by rw [e1, hk.ip, h3]; rfl
    have h8 : (at_ (headL m.s) 8).toNat = m.s.depth := (head_at m.s hm.wide.2 hm.high.2 hm.dep hm.col).2.2.2.2.2.2.1
    have hp0 : m.pal.length ≠ 0 := by omega
    have hsh : shdOf m = shdL (if anyL m.pal then (clearsL m.pal).length else 0) (shadesL m.pal) (if anyL m.pal then clearsL m.pal else []) m.pal.length := if_pos h3
    cases ha : anyL m.pal
    · have hfl : X = sigL ++ (chunkL nIHDR (headL m.s) ++ (flatC [] ++ (chunkL nPLTE (shadesL m.pal) ++ (flatC [] ++ (four k ++ (nIDAT ++ rest)))))) := by
        rw [hX]; unfold chunksOf; rw [if_neg hp0, ha, p3]; simp [flatC]
      subst hfl
      have hc := implConfig_pal L w he b off n c (headL m.s) (shadesL m.pal) (four k ++ (nIDAT ++ rest)) [] m.pal.length [] [] hn hlim hB hd hpl (shadesL_length _) p1 hm.pal (by rw [h8]; exact hm.dep) (by rw [h8]; exact p2) (fun _ h => by simp at h) (fun _ h => by simp at h) (.idat k rest hkk)
      refine hc.mono ?_
      rintro e w' ⟨g, c', h⟩
      rw [ha] at hsh
      refine ⟨_, _, _, by rw [h.end_, e1, e2, e3], ?_, ?_, h.mod⟩
      · rw [hsh, shdL_length]
      · rw [hsh]; exact shd_sl h.own
    · have hfl : X = sigL ++ (chunkL nIHDR (headL m.s) ++ (flatC [] ++ (chunkL nPLTE (shadesL m.pal) ++ (flatC [] ++ (chunkL ntRNS (clearsL m.pal) ++ (four k ++ (nIDAT ++ rest))))))) := by
        rw [hX]; unfold chunksOf; rw [if_neg hp0, ha, p3]; simp [flatC]
      subst hfl
      have hc := implConfig_pal L w he b off n c (headL m.s) (shadesL m.pal) (chunkL ntRNS (clearsL m.pal) ++ (four k ++ (nIDAT ++ rest))) (clearsL m.pal) m.pal.length [] [] hn hlim hB hd hpl (shadesL_length _) p1 hm.pal (by rw [h8]; exact hm.dep) (by rw [h8]; exact p2) (fun _ h => by simp at h) (fun _ h => by simp at h) (.trns _ _ (by rw [clearsL_length]; exact p1) (by rw [clearsL_length]; exact Nat.le_refl _))
      refine hc.mono ?_
      rintro e w' ⟨g, c', h⟩
      rw [ha] at hsh
      refine ⟨_, _, _, by rw [h.end_, e1, e2, e3], ?_, ?_, h.mod⟩
      · rw [hsh, shdL_length]
      · rw [hsh]; exact shd_sl h.own
  · have hpl : isPal (cbIn (headL m.s)) = false := by rw [e1, hk.ip, decide_eq_false h3]
    have hfl : ∃ r, X = sigL ++ (chunkL nIHDR (headL m.s) ++ r) := by
      refine ⟨flatC ((if m.pal.length = 0 then [] else [(nPLTE, shadesL m.pal)]) ++ ((if anyL m.pal then [(ntRNS, clearsL m.pal)] else []) ++ (if m.cl = [] then [] else [(ntRNS, rowL 16 m.cl)]))) ++ (four k ++ (nIDAT ++ rest)), ?_⟩
      rw [hX]; unfold chunksOf; rw [flatC_append]; simp [flatC]
    obtain ⟨r, hr⟩ := hfl
    subst hr
    have hc := implConfig_flat L w he b off n c (headL m.s) r hn hlim hB hd hpl
    refine hc.mono ?_
    intro e w' h
    have hsh : shdOf m = [] := if_neg h3
    refine ⟨none, 0, 0, by rw [h.end_, e1, e2, e3], by rw [hsh]; rfl, by rw [hsh]; exact Or.inl rfl, h.mod⟩
end Go.Proofs.YtnpkgmgedgcjmaaGreatDoor
