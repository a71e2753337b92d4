/- Own slices of pixels and of whole numbers; the law's pixels of a palette. The reference's Same. No conditions but those in each theorem's own binders. -/
import Derived.Test.YtnpkgmgedgcjmaaGreatDoorCE21
import Derived.Test.YtnpkgmgedgcjmaaGreatDoorCE22
import Derived.Laws.StructEq
namespace Go.Proofs.YtnpkgmgedgcjmaaGreatDoor
set_option linter.unusedVariables false
set_option linter.unusedSimpArgs false
open Go.RowKit Go.Png

/-- A slice of pixels of the call's own. -/
def OwnD (w : World) (base : Nat) (g c : Nat) (l : List Dt) : Prop := w.ownsRow base 75 4 (.slice (some ⟨g, 0, none⟩) l.length c) l.length (dotsC l)
theorem OwnD.mod {w w' : World} {base g c : Nat} {l : List Dt} (h : OwnD w base g c l) {S : Nat → Prop} (m : Mod S w w') (hS : ¬ S g) : OwnD w' base g c l := ownsRow_mod h m hS
theorem OwnD.base {w : World} {base g c : Nat} {l : List Dt} (h : OwnD w base g c l) : base ≤ g ∧ g < w.heap.size := World.ownsRow.lt h g rfl
theorem OwnD.mono {w : World} {base base' g c : Nat} {l : List Dt} (h : OwnD w base g c l) (hb : base' ≤ base) : OwnD w base' g c l := World.ownsRow.mono h hb
theorem OwnD.cap {w : World} {base g c : Nat} {l : List Dt} (h : OwnD w base g c l) : l.length ≤ c ∧ c ≤ maxLen := by
  rcases h.2 with ⟨h', _⟩ | ⟨g', cap', cur, h', _, hg, hnc, hcm, _⟩
  · simp at h'
  · simp only [Value.slice.injEq, Option.some.injEq, Addr.mk.injEq, and_true, true_and] at h'
    obtain ⟨rfl, rfl⟩ := h'
    exact ⟨hnc, hcm⟩
theorem OwnD.new (w : World) (base : Nat) (hb : base ≤ w.heap.size) : OwnD (w.alloc (.cells #[] 75)) base w.heap.size 0 [] :=
  World.ownsRow_made w #[] 0 hb (Nat.zero_le _) rfl
theorem dotsC_get (l : List Dt) (i j : Nat) (hi : i < l.length) (hj : j < 4) : (dotsC l)[i * 4 + j]? = (l[i]).cells[j]? := by
  induction l generalizing i with
  | nil => simp at hi
  | cons d t ih =>
    cases i with
    | zero =>
      rw [dotsC, Nat.zero_mul, Nat.zero_add, List.getElem?_append_left (by simp [Dt.cells]; omega)]; rfl
    | succ i =>
      rw [dotsC, List.getElem?_append_right (by simp [Dt.cells]; omega)]
      have : (i + 1) * 4 + j - d.cells.length = i * 4 + j := by simp [Dt.cells]; omega
      rw [this, ih i (by simpa using hi)]; rfl
theorem dtAt_of {w : World} {b o : Nat} {d : Dt} (h : ∀ j, j < 4 → w.cell? ⟨b, o + j, none⟩ = d.cells[j]?) : DtAt w b o d :=
  ⟨h 0 (by decide), h 1 (by decide), h 2 (by decide), h 3 (by decide)⟩
theorem OwnD.at {w : World} {base g c : Nat} {l : List Dt} (h : OwnD w base g c l) (i : Nat) (hi : i < l.length) : DtAt w g (i * 4) l[i] :=
  dtAt_of fun j hj => by rw [← dotsC_get l i j hi hj]; exact World.ownsRow.cellAt h (i * 4 + j) (by omega)
theorem OwnD.sld {w : World} {base g c : Nat} {l : List Dt} (h : OwnD w base g c l) : SlD w (some ⟨g, 0, none⟩) l := Or.inr ⟨g, 0, rfl, fun i hi => by rw [Nat.zero_add]; exact h.at i hi⟩
theorem DtAt.new (w : World) (d : Dt) (t : TypeId) : DtAt (w.alloc (.cells d.cells.toArray t)) w.heap.size 0 d :=
  dtAt_of fun j hj => by rw [World.cell?_alloc_new, Nat.zero_add]; simp

theorem wpList_appD {w : World} {ops : Array Oper} {rest : List Oper} {o : Oper} {a : Act} {Q : Exit → Act → World → Prop} (hgd : o.guard = none) (s x : Operand)
    (ho : o.op = .call { callee := .builtin .append, args := #[s, x], argTypes := #[28, 28] }) (base g n c : Nat) (l : List Dt) (hl : l.length = n) (hsv : a.eval s = .slice (some ⟨g, 0, none⟩) n c) (hown : OwnD w base g c l)
    (b p cx : Nat) (d : Dt) (hx : a.eval x = .slice (some ⟨b, p, none⟩) 1 cx) (hd : DtAt w b p d) (hlim : n ≤ 1099511627776) (hbase : base ≤ w.heap.size)
    (h : ∀ g' c' w', Hid (OwnD w' base g' c' (l ++ [d])) → Hid (Mod (fun k => k = g) w w') → Hid (g' = g ∨ g' = w.heap.size) → wpList Tryz.prog ops Q rest (a.put o.dst (.slice (some ⟨g', 0, none⟩) (n + 1) c')) w') : wpList Tryz.prog ops Q (o :: rest) a w := by
  subst hl
  refine wpList_app elD hgd s x ho base _ l.length (dotsC l) hsv hown ⟨b, p, none⟩ 1 cx d.cells hx rfl ?_ ?_ (Or.inl (by simp)) (by omega) (by omega) hbase ?_
  · intro j u hu
    have hj : j = 0 ∨ j = 1 ∨ j = 2 ∨ j = 3 := by have := (List.getElem?_eq_some_iff.1 hu).1; simp [Dt.cells] at this; omega
    rw [addr_add]
    rcases hj with rfl | rfl | rfl | rfl
    · rw [Nat.add_zero, hd.r, ← hu]; rfl
    · rw [hd.g, ← hu]; rfl
    · rw [hd.b, ← hu]; rfl
    · rw [hd.a, ← hu]; rfl
  · intro u hu
    simp [Dt.cells] at hu
    rcases hu with rfl | rfl | rfl | rfl <;> rfl
  · intro g' c' w' hap
    refine h g' c' w' (Lib.hid ?_) (Lib.hid (hap.out.mod.mono (fun k _ hk => by simp [Value.ownBlock] at hk; exact hk.symm))) (Lib.hid ?_)
    · have := hap.out.own
      unfold OwnD
      rw [List.length_append, dotsC_append]
      simpa [dotsC] using this
    · rcases hap.out.blk with hb | hb
      · simp [Value.ownBlock] at hb; exact Or.inl hb.symm
      · exact Or.inr hb

/-- A slice of whole numbers of the call's own (nil at first). -/
def OwnI (w : World) (base : Nat) (v : Value) (l : List Nat) : Prop := w.ownsRow base 3 1 v l.length (intsV l)
theorem OwnI.mod {w w' : World} {base : Nat} {v : Value} {l : List Nat} (h : OwnI w base v l) {S : Nat → Prop} (m : Mod S w w') (hS : ∀ k, v.ownBlock = some k → ¬ S k) : OwnI w' base v l := by
  refine ⟨h.1, ?_⟩
  rcases h.2 with hn | ⟨g', cap, cur, hv, hbb, hgg, rest⟩
  · exact .inl hn
  · subst hv
    exact .inr ⟨g', cap, cur, rfl, hbb, (m.block g' (Array.getElem?_eq_some_iff.1 hgg).1 (hS g' rfl)).trans hgg, rest⟩
theorem OwnI.mono {w : World} {base base' : Nat} {v : Value} {l : List Nat} (h : OwnI w base v l) (hb : base' ≤ base) : OwnI w base' v l := World.ownsRow.mono h hb
theorem OwnI.nil (w : World) (base : Nat) : OwnI w base (.slice none 0 0) [] := World.ownsRow_nil _ _ _ _
theorem OwnI.new (w : World) (base : Nat) (hb : base ≤ w.heap.size) : OwnI (w.alloc (.cells #[] 3)) base (.slice (some ⟨w.heap.size, 0, none⟩) 0 0) [] :=
  World.ownsRow_made w #[] 0 hb (Nat.zero_le _) rfl
theorem OwnI.form {w : World} {base : Nat} {v : Value} {l : List Nat} (h : OwnI w base v l) : ∃ A c, v = .slice A l.length c ∧ SlI w A l ∧ l.length ≤ c ∧ c ≤ maxLen ∧ (l.length = 0 → (A = none ∧ c = 0) ∨ ∃ b o, A = some ⟨b, o, none⟩) ∧ (∀ b o, A = some ⟨b, o, none⟩ → base ≤ b ∧ b < w.heap.size) ∧ (∀ k, v.ownBlock = some k → base ≤ k ∧ k < w.heap.size) := by
  have hlt := World.ownsRow.lt h
  rcases h.2 with ⟨rfl, hn⟩ | ⟨g', cap, cur, rfl, hbb, hgg, hnc, hcm, hsz, htk⟩
  · obtain rfl : l = [] := List.eq_nil_of_length_eq_zero hn
    exact ⟨none, 0, rfl, Or.inl rfl, Nat.le_refl _, Nat.zero_le _, fun _ => Or.inl ⟨rfl, rfl⟩, fun b o h => (by cases h), hlt⟩
  · refine ⟨some ⟨g', 0, none⟩, cap, rfl, Or.inr ⟨g', 0, rfl, fun i hi => ?_⟩, hnc, hcm, fun _ => Or.inr ⟨_, _, rfl⟩, fun b o hh => by cases hh; exact hlt g' rfl, hlt⟩
    rw [Nat.zero_add, World.ownsRow.cellAt h i (by omega), intsV, List.getElem?_map, List.getElem?_eq_getElem hi, List.getD_eq_getElem?_getD, List.getElem?_eq_getElem hi]; rfl

theorem intsV_append (l m : List Nat) : intsV (l ++ m) = intsV l ++ intsV m := by simp [intsV]

theorem OwnI.appd {base : Nat} {v : Value} {l : List Nat} {x : Nat} {w : World} {g c : Nat} {w' : World} (h : Appd base 3 1 v l.length 1 (intsV l) [.int .i64 (x : Nat)] w g c w') : OwnI w' base (.slice (some ⟨g, 0, none⟩) (l.length + 1) c) (l ++ [x]) := by
  have := h.own
  unfold OwnI
  rw [List.length_append, intsV_append]
  simpa [intsV] using this

theorem wpList_appI {w : World} {ops : Array Oper} {rest : List Oper} {o : Oper} {a : Act} {Q : Exit → Act → World → Prop} (hgd : o.guard = none) (s x : Operand)
    (ho : o.op = .call { callee := .builtin .append, args := #[s, x], argTypes := #[27, 27] }) (base n : Nat) (v : Value) (l : List Nat) (hl : l.length = n) (hsv : a.eval s = v) (hown : OwnI w base v l)
    (b p cx y : Nat) (hx : a.eval x = .slice (some ⟨b, p, none⟩) 1 cx) (hd : w.cell? ⟨b, p, none⟩ = some (.int .i64 (y : Nat))) (hlim : n ≤ 1099511627776) (hbase : base ≤ w.heap.size)
    (h : ∀ g' c' w', Hid (OwnI w' base (.slice (some ⟨g', 0, none⟩) (n + 1) c') (l ++ [y])) → Hid (Mod (fun k => v.ownBlock = some k) w w') → Hid (v.ownBlock = some g' ∨ g' = w.heap.size) → wpList Tryz.prog ops Q rest (a.put o.dst (.slice (some ⟨g', 0, none⟩) (n + 1) c')) w') : wpList Tryz.prog ops Q (o :: rest) a w := by
  subst hl
  refine wpList_app elI hgd s x ho base v l.length (intsV l) hsv hown ⟨b, p, none⟩ 1 cx [.int .i64 (y : Nat)] hx rfl ?_ ?_ (Or.inr (by decide)) (by omega) (by omega) hbase ?_
  · intro j u hu
    have hj : j = 0 := by have := (List.getElem?_eq_some_iff.1 hu).1; simpa using this
    subst hj
    rw [addr_add, Nat.add_zero, hd, ← hu]; rfl
  · intro u hu
    simp at hu; subst hu; rfl
  · intro g' c' w' hap
    exact h g' c' w' (Lib.hid (OwnI.appd hap.out)) (Lib.hid hap.out.mod) (Lib.hid hap.out.blk)

/-- A color of the thin package's palettes. -/
structure Shd where
  r : UInt8
  g : UInt8
  b : UInt8
  a : UInt8
def Shd.dot (s : Shd) : Dt := ⟨257 * s.r.toNat, 257 * s.g.toNat, 257 * s.b.toNat, 257 * s.a.toNat⟩
structure ShdAt (w : World) (B o : Nat) (d : Shd) : Prop where
  r : w.cell? ⟨B, o, none⟩ = some (.int .u8 (d.r.toNat : Nat))
  g : w.cell? ⟨B, o + 1, none⟩ = some (.int .u8 (d.g.toNat : Nat))
  b : w.cell? ⟨B, o + 2, none⟩ = some (.int .u8 (d.b.toNat : Nat))
  a : w.cell? ⟨B, o + 3, none⟩ = some (.int .u8 (d.a.toNat : Nat))
def SlS (w : World) (A : Option Addr) (l : List Shd) : Prop := l = [] ∨ ∃ b off, A = some ⟨b, off, none⟩ ∧ ∀ i (h : i < l.length), ShdAt w b (off + i * 4) l[i]
theorem ShdAt.mod {w w' : World} {b o : Nat} {d : Shd} (h : ShdAt w b o d) {S : Nat → Prop} (m : Mod S w w') (hS : ¬ S b) : ShdAt w' b o d := by
  have hb := lt_of_cell h.r
  exact ⟨(m.cell hb hS _).trans h.r, (m.cell hb hS _).trans h.g, (m.cell hb hS _).trans h.b, (m.cell hb hS _).trans h.a⟩
theorem SlS.mod {w w' : World} {a : Option Addr} {l : List Shd} (h : SlS w a l) {S : Nat → Prop} (m : Mod S w w') (hS : ∀ k, k < w.heap.size → ¬ S k) : SlS w' a l := by
  rcases h with h | ⟨b, off, h1, h2⟩
  · exact Or.inl h
  · exact Or.inr ⟨b, off, h1, fun i hi => (h2 i hi).mod m (hS _ (lt_of_cell (h2 i hi).r))⟩
theorem SlS.some {w : World} {a : Option Addr} {l : List Shd} (h : SlS w a l) (k : Nat) (hk : k < l.length) : ∃ b off, a = .some ⟨b, off, none⟩ ∧ ∀ i (h : i < l.length), ShdAt w b (off + i * 4) l[i] := by
  rcases h with h | h
  · subst h; simp at hk
  · exact h

set_option maxRecDepth 100000 in
set_option maxHeartbeats 2000000 in
theorem lawsDots (w : World) (a : Option Addr) (n c : Nat) (l : List Shd) (hl : l.length = n) (hs : SlS w a l) (hn : n ≤ 4294967296) :
    Calls Tryz.prog 30 #[.slice a n c] w fun e w' => ∃ g c, e = .returned (.slice (some ⟨g, 0, none⟩) n c) ∧ OwnD w' w.heap.size g c (l.map Shd.dot) ∧ Mod (fun _ => False) w w' := by
  have HS := Lib.hid hs; have HL := Lib.hid hl
  have h0 := OwnD.new w w.heap.size (Nat.le_refl _)
  have m0 : Mod (fun k => w.heap.size ≤ k) w (w.alloc (.cells #[] 75)) := (Mod.refl _ w).alloc _
  have H0 := Lib.hid h0; have M0 := Lib.hid m0
  clear hs hl h0 m0
  go_enter Tryz.func30, Tryz.ntmps30
  go_wp2
  go_loopg [3, 5, 9] (n - 0) (fun k v3 _ v9 wr => ∃ j g c : Nat, j ≤ n ∧ k = n - j ∧ v9 = .int .i64 j ∧ v3 = .slice (some ⟨g, 0, none⟩) j c ∧ OwnD wr w.heap.size g c ((l.take j).map Shd.dot) ∧ Mod (fun k => w.heap.size ≤ k) w wr)
  case atStart => exact ⟨0, w.heap.size, 0, by omega, rfl, rfl, rfl, H0.out, M0.out⟩
  case round =>
    obtain ⟨j, g, c, hj, hkk, rfl, rfl, own, mm⟩ := hrel
    have HK := Lib.hid hkk; have OWN := Lib.hid own; have HM := Lib.hid mm
    clear hkk own mm
    by_cases hlt : j < n
    · have hjl : j < l.length := by have := HL.out; omega
      have s1 := HS.out.mod HM.out (fun k hk h => by omega)
      obtain ⟨b, off, rfl, hd⟩ := s1.some j hjl
      obtain ⟨q0, q1, q2, q3⟩ := hd j hjl
      have hfs : (l.take (j + 1)).map Shd.dot = (l.take j).map Shd.dot ++ [(l[j]).dot] := by
        rw [← List.take_append_getElem hjl, List.map_append]; rfl
      have HFS := Lib.hid hfs
      clear hfs hd s1
      have hws := HM.out.size
      have hg := OWN.out.base
      generalize hx : l[j] = x at *
      obtain ⟨xr, xg, xb, xa⟩ := x
      clear hx
      have b0 := xr.toNat_lt; have b1 := xg.toNat_lt; have b2 := xb.toNat_lt; have b3 := xa.toNat_lt
      have hdd : DtAt ((wr.alloc (.cells #[.int .u8 (xr.toNat : Nat), .int .u8 (xg.toNat : Nat), .int .u8 (xb.toNat : Nat), .int .u8 (xa.toNat : Nat)] 96)).alloc (.cells #[.int .i64 (257 * (xr.toNat : Int)), .int .i64 (257 * (xg.toNat : Int)), .int .i64 (257 * (xb.toNat : Int)), .int .i64 (257 * (xa.toNat : Int))] 75)) (wr.heap.size + 1) 0 (Shd.dot ⟨xr, xg, xb, xa⟩) := by
        have e : ∀ x : UInt8, (257 * (x.toNat : Int)) = ((257 * x.toNat : Nat) : Int) := fun x => by omega
        rw [e, e, e, e]
        have := DtAt.new (wr.alloc (.cells #[.int .u8 (xr.toNat : Nat), .int .u8 (xg.toNat : Nat), .int .u8 (xb.toNat : Nat), .int .u8 (xa.toNat : Nat)] 96)) (Shd.dot ⟨xr, xg, xb, xa⟩) 75
        have hz : (wr.alloc (.cells #[.int .u8 (xr.toNat : Nat), .int .u8 (xg.toNat : Nat), .int .u8 (xb.toNat : Nat), .int .u8 (xa.toNat : Nat)] 96)).heap.size = wr.heap.size + 1 := by simp
        rw [hz] at this
        exact this
      have HDD := Lib.hid hdd
      clear hdd
      go_upto_region 6 with (at_builtin; go_must (refine wpList_appD rfl (.tmp 13) (.tmp 31) rfl w.heap.size g j c ((l.take j).map Shd.dot) (by rw [List.length_map, List.length_take]; omega) rfl (OWN.out.mod (((Mod.refl (fun _ => False) wr).alloc _).alloc _) id) (wr.heap.size + 1) 0 1 (Shd.dot ⟨xr, xg, xb, xa⟩) rfl HDD.out (by omega) (by simp; omega) ?_; intro g2 c2 w2 hown2 hm2 hg2))
      have hmod : Mod (fun k => w.heap.size ≤ k) w w2 := ((HM.out.alloc _).alloc _).trans (hm2.out.mono (fun k _ hk => by omega))
      have hown := hown2.out
      rw [← HFS.out] at hown
      have HOWN := Lib.hid hown; have HMOD := Lib.hid hmod
      clear hown hmod hown2 hm2 HM OWN HFS hg2 HDD
      go_wp2
      go_roundg (n - (j + 1))
      case measure => have := HK.out; omega
      case rel => exact ⟨j + 1, g2, c2, by omega, rfl, by go_num, rfl, HOWN.out, HMOD.out⟩
    · obtain rfl : j = n := by omega
      have ht : l.take j = l := List.take_of_length_le (by have := HL.out; omega)
      rw [ht] at OWN
      go_wp2
      go_ret
      exact ⟨g, c, rfl, OWN.out, (Mod.refl (fun _ => False) w).then HM.out (fun k hk hs => by omega)⟩
end Go.Proofs.YtnpkgmgedgcjmaaGreatDoor
namespace Go.Proofs.YtnpkgmgedgcjmaaGreatDoor
set_option linter.unusedVariables false
set_option linter.unusedSimpArgs false
open Go.RowKit Go.Png

def Dt.agg (d : Dt) : Value := .agg #[.int .i64 d.r, .int .i64 d.g, .int .i64 d.b, .int .i64 d.a]
theorem neq_dot (w : World) (d e : Dt) : (binOp .neq 75 (.agg #[.int .i64 d.r, .int .i64 d.g, .int .i64 d.b, .int .i64 d.a]) (.agg #[.int .i64 e.r, .int .i64 e.g, .int .i64 e.b, .int .i64 e.a])).run Tryz.prog w = .ok (.bool (decide (d ≠ e))) w := by
  have u3 := Tryz.underlying3
  have a3 := Tryz.isAgg3
  have z3 := Tryz.sizeOf3
  have hS : Tryz.prog.underlying 75 = some (.struct (Tryz.prog.fieldsOf 75)) := by kernel_rfl
  have hp : Tryz.prog.stoodInHeld 75 = false := by kernel_rfl
  rw [run_neq_struct, show (10000 : Nat) = 9999 + 1 from rfl, run_equalIn_agg w 9999 75 _ _ hS hp]
  simp only [Program.fieldsOf, Tryz.underlying75]
  obtain ⟨dr, dg, db, da⟩ := d
  obtain ⟨er, eg, eb, ea⟩ := e
  go_simp
  by_cases h1 : dr = er <;> by_cases h2 : dg = eg <;> by_cases h3 : db = eb <;> by_cases h4 : da = ea <;> simp [h1, h2, h3, h4] <;> omega

set_option maxRecDepth 100000 in
set_option maxHeartbeats 2000000 in
theorem specSame (w : World) (a b : Option Addr) (n m c1 c2 : Nat) (l k : List Dt) (hl : l.length = n) (hk : k.length = m) (hs1 : SlD w a l) (hs2 : SlD w b k) (hn : n ≤ 4294967296) (hm : m ≤ 4294967296) :
    Calls Tryz.prog 29 #[.slice a n c1, .slice b m c2] w fun e w' => e = .returned (.bool (decide (l = k))) ∧ ∃ q, w' = w.drewN q := by
  have HS1 := Lib.hid hs1; have HS2 := Lib.hid hs2; have HL := Lib.hid hl; have HKL := Lib.hid hk
  clear hs1 hs2 hl hk
  by_cases hnm : n = m
  · subst hnm
    go_enter Tryz.func29, Tryz.ntmps29
    go_wp2
    go_loopg [5, 13] (n - 0) (fun i _ v13 wr => ∃ j : Nat, j ≤ n ∧ i = n - j ∧ v13 = .int .i64 j ∧ l.take j = k.take j ∧ ∃ q, wr = w.drewN q)
    case atStart => exact ⟨0, by omega, rfl, rfl, rfl, 0, rfl⟩
    case round =>
      obtain ⟨j, hj, hkk, rfl, heq, q, rfl⟩ := hrel
      have HK := Lib.hid hkk; have HEQ := Lib.hid heq
      clear hkk heq
      by_cases hlt : j < n
      · have h1 : j < l.length := by have := HL.out; omega
        have h2 : j < k.length := by have := HKL.out; omega
        obtain ⟨b1, o1, rfl, hd1⟩ := HS1.out.some j h1
        obtain ⟨b2, o2, rfl, hd2⟩ := HS2.out.some j h2
        obtain ⟨q0, q1, q2, q3⟩ := hd1 j h1
        obtain ⟨r0, r1, r2, r3⟩ := hd2 j h2
        have hne := fun wz => neq_dot wz l[j] k[j]
        have hgt : Tryz.prog.eqGuardType Tryz.prog.depth 75 = false := by kernel_rfl
        clear hd1 hd2
        have i1 : (j : Int) < (n : Int) := by omega
        have i2 : (0 : Int) ≤ (j : Int) := by omega
        have ht : l.take (j + 1) = l.take j ++ [l[j]] := (List.take_append_getElem h1).symm
        have ht2 : k.take (j + 1) = k.take j ++ [k[j]] := (List.take_append_getElem h2).symm
        by_cases he : l[j] = k[j]
        · have hdec : decide (l[j] = k[j]) = true := by simp [he]
          have HT : Hid (l.take (j + 1) = k.take (j + 1)) := Lib.hid (by rw [ht, ht2, HEQ.out, he])
          clear he ht ht2
          go_wp2
          go_quiet (fail)
          go_wp2
          go_roundg (n - (j + 1))
          case measure => have := HK.out; omega
          case rel => exact ⟨j + 1, by omega, rfl, by go_num, HT.out, _, rfl⟩
        · have hdec : decide (l[j] = k[j]) = false := by simp [he]
          have HT : Hid (l ≠ k) := Lib.hid (by intro h; subst h; exact he rfl)
          clear he ht ht2
          go_wp2
          go_quiet (fail)
          go_wp2
          go_ret
          exact ⟨by rw [decide_eq_false HT.out]; rfl, q + nq, by simp⟩
      · obtain rfl : j = n := by omega
        have hlk : l = k := by
          have h := HEQ.out
          rw [List.take_of_length_le (by have := HL.out; omega), List.take_of_length_le (by have := HKL.out; omega)] at h
          exact h
        have HLK := Lib.hid hlk
        clear hlk
        go_wp2
        go_ret
        exact ⟨by rw [decide_eq_true HLK.out]; rfl, q, rfl⟩
  · have HN : Hid (l ≠ k) := Lib.hid (by intro h; subst h; exact hnm (HL.out.symm.trans HKL.out))
    have hne : ((n : Int) != (m : Int)) = true := by simp; omega
    go_enter Tryz.func29, Tryz.ntmps29
    go_wp2
    go_ret
    exact ⟨by rw [decide_eq_false HN.out]; rfl, 0, rfl⟩
end Go.Proofs.YtnpkgmgedgcjmaaGreatDoor
