/- From the row's list of package-level variables to what the walks ask of the world: the two sentinels, apart, and the table of 256 words. What every row of this seat needs: the reading behind the call, and the arguments opened: bytes, bools, slices of bytes, of 16-bit words, of shades. The row of FnConfigEarly: the witness, the arguments opened, the walk's contract laid in. No conditions but those in each theorem's own binders. -/
import Derived.Test.YtnpkgmgedgcjmaaGreatDoorRows
import Derived.Test.YtnpkgmgedgcjmaaGreatDoorCE2
import Derived.Stop.LaidErr
import Derived.Lib.LaidTab
import Derived.LaidHandle
import Derived.Test.YtnpkgmgedgcjmaaGreatDoorCE41
import Derived.ProofKit
import Derived.OpenVars
import Derived.OpenShut
import Derived.Deep.Slices
import Derived.ChangeSame
import Derived.Test.YtnpkgmgedgcjmaaGreatDoorCE47
import Derived.LaidMore
import Derived.Stop.Joined
namespace Go.Proofs.YtnpkgmgedgcjmaaGreatDoor
set_option linter.unusedVariables false
set_option linter.unusedSimpArgs false
open Go.RowKit Go.Png Go.ChangeShapes

/-- A sentinel as a row lists it. -/
abbrev sentD (text : List UInt8) : DataW Unit := .iface "*errors.errorString" (.ptr (.agg [.lit (.string text)]))

theorem star_err : "*" ++ "errors.errorString" = "*errors.errorString" := by decide
set_option maxHeartbeats 40000000 in
theorem row_err (u : TypeId) (h : Tryz.prog.typeName? 3 u = some "*errors.errorString") : u = 348 :=
  typeName_ptr_named (nm := "errors.errorString") (by rw [star_err]; kernel_rfl) (by kernel_rfl) (by decide) u (by rw [star_err]; exact h)

set_option maxRecDepth 100000 in
/-- Two sentinels at the head of the list: two pointers, apart, each at a block of plain memory. -/
theorem laid_two {n0 n1 : String} {t0 t1 : List UInt8} {r : List (String × DataW Unit)} {W : World} {g0 g1 : Nat} (h : laidMet Tryz.prog ((n0, sentD t0) :: (n1, sentD t1) :: r) W)
    (hg0 : Tryz.prog.globalNamed n0 = some g0) (hg1 : Tryz.prog.globalNamed n1 = some g1) (ht0 : (Tryz.prog.globals[g0]?).map (·.type) = some 106) (ht1 : (Tryz.prog.globals[g1]?).map (·.type) = some 106) :
    ∃ a0 a1 : Addr, a0 ≠ a1 ∧ W.cell? ⟨g0, 0, none⟩ = some (ptrErr a0) ∧ W.cell? ⟨g1, 0, none⟩ = some (ptrErr a1) ∧ errBlk W a0 ∧ errBlk W a1 := by
  obtain ⟨ps, ⟨g0', ty0, cs0, f0, p0, q0, hg0', hty0, hv0, hd0, ⟨g1', ty1, cs1, f1, p1, q1, hg1', hty1, hv1, hd1, hq1, e1⟩, e0⟩, hnd, hrows⟩ := h
  obtain rfl := Option.some.inj (hg0.symm.trans hg0')
  obtain rfl := Option.some.inj (hg1.symm.trans hg1')
  obtain rfl := Option.some.inj (ht0.symm.trans hty0)
  obtain rfl := Option.some.inj (ht1.symm.trans hty1)
  subst e1
  subst e0
  obtain ⟨l0⟩ := cs0
  obtain ⟨l1⟩ := cs1
  have ok0 : ∀ u v, l0 = [.iface u v] → Value.okWide Tryz.prog W .any 0 u v := fun u v e => by
    subst e
    exact (hrows g0 0 (by simp [MemPlace.row])).2 u v (by simpa using World.var?_cell hg0 hv0 0)
  have ok1 : ∀ u v, l1 = [.iface u v] → Value.okWide Tryz.prog W .any 0 u v := fun u v e => by
    subst e
    exact (hrows g1 0 (by simp [MemPlace.row])).2 u v (by simpa using World.var?_cell hg1 hv1 0)
  obtain ⟨a0, s0, rfl, _, _, _, rfl⟩ := errorString_of_trod Tryz.underlying106 row_err Tryz.underlying348 Tryz.underlying386 rfl rfl Tryz.underlying9 (by kernel_rfl) (by kernel_rfl) hd0 ok0
  obtain ⟨a1, s1, rfl, _, _, _, rfl⟩ := errorString_of_trod Tryz.underlying106 row_err Tryz.underlying348 Tryz.underlying386 rfl rfl Tryz.underlying9 (by kernel_rfl) (by kernel_rfl) hd1 ok1
  refine ⟨a0, a1, ?_, by simpa [ptrErr] using World.var?_cell hg0 hv0 0, by simpa [ptrErr] using World.var?_cell hg1 hv1 0, (hrows a0.block a0.off (by simp [MemPlace.row])).1, (hrows a1.block a1.off (by simp [MemPlace.row])).1⟩
  rintro rfl
  simp [MemPlace.row] at hnd

/-- The table's numbers. -/
def tabNums : List Int := (List.range 256).map fun i => ((crcTab (BitVec.ofNat 8 i)).toNat : Int)

/-- The rows' list without the handle. -/
def plainL : List (String × DataW Unit) := [("io.ErrShortBuffer", Rows.laid_io_ErrShortBuffer), ("io.EOF", Rows.laid_io_EOF), ("io.ErrUnexpectedEOF", Rows.laid_io_ErrUnexpectedEOF), ("io.ErrNoProgress", Rows.laid_io_ErrNoProgress), ("loop.example/pub-g03424/pub/flate.codeOrder", Rows.laid_loop_example_pub_g03424_pub_flate_codeOrder), ("loop.example/pub-g03424/pub/zlib.ErrDictionary", Rows.laid_loop_example_pub_g03424_pub_zlib_ErrDictionary), ("loop.example/pub-g03424/pub/zlib.ErrHeader", Rows.laid_loop_example_pub_g03424_pub_zlib_ErrHeader), ("loop.example/pub-g03424/pub/png.interlacing", Rows.laid_loop_example_pub_g03424_pub_png_interlacing), ("loop.example/pub-g03424/pub/png.ieeeTable", Rows.laid_loop_example_pub_g03424_pub_png_ieeeTable)]
def fullL : List (String × DataW Unit) := ("errors.errorType", Rows.laid_errors_errorType) :: plainL

set_option maxHeartbeats 40000000 in
theorem tab_datum : (Rows.laid_loop_example_pub_g03424_pub_png_ieeeTable : DataW Unit) = Lib.tabData .u32 tabNums := by kernel_rfl

set_option maxHeartbeats 40000000 in
theorem plain_of {W : World} (h : laidMetH Tryz.prog fullL W) : laidMet Tryz.prog plainL W := by
  have e1 : (fullL.filter fun x => x.2.handleName?.isSome) = [("errors.errorType", Rows.laid_errors_errorType)] := by kernel_rfl
  have e2 : (fullL.filter fun x => x.2.handleName?.isNone) = plainL := by kernel_rfl
  unfold laidMetH at h
  rw [e1, e2] at h
  exact h.1

set_option maxRecDepth 100000 in
set_option maxHeartbeats 40000000 in
/-- WHAT THE ROWS' CONDITION GIVES A WALK. -/
theorem start_of_laid {W : World} (h : laidMetH Tryz.prog fullL W) : ∃ L : Lay, L.w0 = W ∧ L.lo = W.heap.size ∧ Start L := by
  have h1 := plain_of h
  have h2 : laidMet Tryz.prog _ W := h1.tail
  obtain ⟨a0, a1, hne, hc0, hc1, hb0, hb1⟩ := laid_two (n0 := "io.EOF") (n1 := "io.ErrUnexpectedEOF") (g0 := 0) (g1 := 1) h2 (by kernel_rfl) (by kernel_rfl) (by kernel_rfl) (by kernel_rfl)
  have h9 : laidMet Tryz.prog (("loop.example/pub-g03424/pub/png.ieeeTable", Rows.laid_loop_example_pub_g03424_pub_png_ieeeTable) :: []) W := h2.tail.tail.tail.tail.tail.tail.tail
  rw [tab_datum] at h9
  have gT : Tryz.prog.globalNamed "loop.example/pub-g03424/pub/png.ieeeTable" = some 3 := by kernel_rfl
  have ht := Lib.tabIs_of_head (t := 209) (e := 23) (n := 256) gT (by kernel_rfl) (by kernel_rfl) (by kernel_rfl) (by kernel_rfl) (by kernel_rfl) h9
  have lt : ∀ {a : Addr}, errBlk W a → a.block < W.heap.size := fun ⟨c, t, e⟩ => (Array.getElem?_eq_some_iff.1 e).1
  have ltg : ∀ {g o : Nat} {v : Value}, W.cell? ⟨g, o, none⟩ = some v → g < W.heap.size := fun e => lt_of_cell e
  have hcell : ∀ i : Nat, i < 256 → W.cell? ⟨3, i, none⟩ = some (.int .u32 ((crcTab (BitVec.ofNat 8 i)).toNat : Nat)) := by
    intro i hi
    have := ht.cell gT i (by simpa [tabNums] using hi)
    rw [this]
    simp [tabNums, hi]
  exact ⟨{ eof := a0, unexp := a1, lo := W.heap.size, w0 := W }, rfl, rfl, Nat.le_refl _, ⟨hc0, ltg hc0, lt hb0, hb0⟩, ⟨hc1, ltg hc1, lt hb1, hb1⟩, hne, ltg (hcell 0 (by decide)), hcell⟩
end Go.Proofs.YtnpkgmgedgcjmaaGreatDoor
namespace Go.Proofs.YtnpkgmgedgcjmaaGreatDoor
set_option linter.unusedVariables false
set_option linter.unusedSimpArgs false
open Go.RowKit Go.ChangeShapes Go.WideShapes Go.Deep

section
variable {H : Type} {enc : TypeId × Value → H} {P : Program}

theorem trodAll_len {w : World} {base : Nat} {sp : Nat → Bool} {held : Bool} : ∀ {ts : List TypeId} {vs : List Value} {ds : List (DataW H)} {ps : List MemPlace}, DataW.TrodAll enc P w base sp held ts vs ds ps → vs.length = ts.length ∧ ds.length = ts.length
  | [], [], [], _, _ => ⟨rfl, rfl⟩
  | _ :: _, _ :: _, _ :: _, _, h => by
    obtain ⟨p, q, _, h, _⟩ := h
    have := trodAll_len h
    simp [this.1, this.2]
  | [], [], _ :: _, _, h => h.elim
  | [], _ :: _, [], _, h => h.elim
  | [], _ :: _, _ :: _, _, h => h.elim
  | _ :: _, [], [], _, h => h.elim
  | _ :: _, [], _ :: _, _, h => h.elim
  | _ :: _, _ :: _, [], _, h => h.elim

theorem trodVars_len {w : World} {sp : Nat → Bool} : ∀ {ns : List String} {ds : List (DataW H)} {ps : List MemPlace}, DataW.TrodVars enc P w sp ns ds ps → ds.length = ns.length
  | [], [], _, _ => rfl
  | _ :: _, _ :: _, _, h => by
    obtain ⟨g, t, cs, fuel, p, q, _, _, _, _, h, _⟩ := h
    have := trodVars_len h
    simp [this]
  | [], _ :: _, _, h => h.elim
  | _ :: _, [], _, h => h.elim

/-- Each of these types can be read again and is a row of the table. -/
def rowedAll (P : Program) (ts : List TypeId) : Bool := ts.all fun t => P.readableRec t && decide (t < P.types.size)

/-- The arguments read again behind a call that turned nothing old. -/
theorem below_trodAll (hl : laidOutB P = true) {W W' : World} (hb : Below W.heap.size W W') :
    ∀ {ts : List TypeId} {vs : List Value} {ds : List (DataW H)} {ps : List MemPlace}, rowedAll P ts = true → DataW.TrodAll enc P W 0 (fun _ => true) true ts vs ds ps → DataW.TrodAll enc P W' 0 (fun b => decide (b < W.heap.size)) true ts vs ds ps
  | [], [], [], _, _, h => h
  | t :: ts, v :: vs, d :: ds, ps, hr, h => by
    have hlt := h.lt
    obtain ⟨p, q, h1, h2, rfl⟩ := h
    simp only [rowedAll, List.all_cons, Bool.and_eq_true, decide_eq_true_eq] at hr
    exact ⟨p, q, hb.trod hl hr.1.1 hr.1.2 h1 (fun x hx => hlt x (List.mem_append_left _ hx)), below_trodAll hl hb (by simpa [rowedAll] using hr.2) h2, rfl⟩
  | [], [], _ :: _, _, _, h => h.elim
  | [], _ :: _, [], _, _, h => h.elim
  | [], _ :: _, _ :: _, _, _, h => h.elim
  | _ :: _, [], [], _, _, h => h.elim
  | _ :: _, [], _ :: _, _, _, h => h.elim
  | _ :: _, _ :: _, [], _, _, h => h.elim

/-- A law's statement behind a call that answers true and turns nothing old. -/
theorem post_true (hl : laidOutB P = true) {fn : Func} {s : ChangeSpec} {W W' : World} {args : Array Value} {ds gs : List (DataW H)} {before : List MemPlace} {tb : TypeId}
    (htr : rowedAll P fn.params.toList = true) (hvr : varsRowed P s.vars = true) (hrt : fn.resultTypes = #[tb]) (hb : P.underlying tb = some .bool)
    (hW : DataW.Whole enc P fn.params.toList s.vars false W args.toList ds gs before) (hB : Below W.heap.size W W')
    (hf : s.fn H (ds ++ gs) = { results := [.lit (.bool true)], args := ds, vars := gs }) : s.post enc P fn false true false false W args (.bool true) W' := by
  have hW' := hW
  obtain ⟨p, q, hA, hV, rfl, _, _⟩ := hW
  refine ⟨ds, gs, _, [], p, q, hW', ?_, ?_, ?_, hB.frame _, fun h => by cases h⟩
  · rw [hf, hrt]; exact trodAll_mk1 (shut_bool hb true)
  · rw [hf]; exact below_trodAll hl hB htr hA
  · rw [hf]; exact hB.trodVars hl hvr hV

variable {W : World} {base : Nat} {sp : Nat → Bool} {held : Bool} {r : Reach} {b0 : Nat}

theorem open_u8 {t : TypeId} {v : Value} {d : DataW H} {p : List MemPlace} (ht : P.underlying t = some (.int .u8)) (hval : Value.okWide P W r b0 t v) (h : DataW.Trod enc P W base sp held t v d p) : ∃ n : Nat, v = .int .u8 n ∧ n < 256 := by
  obtain ⟨n, rfl, _, _, hw⟩ := open_int ht hval h
  obtain ⟨h0, h1⟩ := bounds_u8 hw
  exact ⟨n.toNat, by rw [Int.toNat_of_nonneg h0], by omega⟩

theorem open_u16 {t : TypeId} {v : Value} {d : DataW H} {p : List MemPlace} (ht : P.underlying t = some (.int .u16)) (hval : Value.okWide P W r b0 t v) (h : DataW.Trod enc P W base sp held t v d p) : ∃ n : Nat, v = .int .u16 n ∧ n < 65536 := by
  obtain ⟨n, rfl, _, _, hw⟩ := open_int ht hval h
  obtain ⟨h0, h1⟩ := bounds_u16 hw
  exact ⟨n.toNat, by rw [Int.toNat_of_nonneg h0], by omega⟩

theorem open_u32 {t : TypeId} {v : Value} {d : DataW H} {p : List MemPlace} (ht : P.underlying t = some (.int .u32)) (hval : Value.okWide P W r b0 t v) (h : DataW.Trod enc P W base sp held t v d p) : ∃ n : Nat, v = .int .u32 n ∧ n < 4294967296 := by
  obtain ⟨n, rfl, _, _, hw⟩ := open_int ht hval h
  obtain ⟨h0, h1⟩ := bounds_u32 hw
  exact ⟨n.toNat, by rw [Int.toNat_of_nonneg h0], by omega⟩

/-- A slice of integers as numbers. -/
theorem open_nums {t e : TypeId} {k : IntKind} {v : Value} {d : DataW H} {p : List MemPlace} (ht : P.underlying t = some (.slice e)) (he : P.underlying e = some (.int k)) (hc : P.cellsOf e = 1) (hk : k.min = 0)
    (hval : Value.okWide P W r b0 t v) (h : DataW.Trod enc P W base sp held t v d p) :
    ∃ (a : Option Addr) (len cap : Nat) (l : List Nat), v = .slice a len cap ∧ len ≤ cap ∧ cap ≤ maxLen ∧ l.length = len ∧ (∀ x ∈ l, (x : Int) ≤ k.max) ∧
      (l = [] ∨ ∃ b off, a = some ⟨b, off, none⟩ ∧ ∀ i, i < l.length → W.cell? ⟨b, off + i, none⟩ = some (.int k (l.getD i 0 : Nat))) := by
  obtain ⟨a, len, cap, rfl⟩ := okWide_slice ht hval
  obtain ⟨fuel, hf⟩ := h
  rcases open_ints ht he hc hf with ⟨hcs, _⟩ | ⟨A, n, c, zs, hcs, _, hle, hmx, hzl, _, hat, hwf⟩
  · simp only [Value.cells, List.cons.injEq, Value.slice.injEq, and_true] at hcs
    obtain ⟨rfl, rfl, rfl⟩ := hcs
    exact ⟨none, 0, 0, [], rfl, Nat.le_refl _, Nat.zero_le _, rfl, by simp, Or.inl rfl⟩
  · simp only [Value.cells, List.cons.injEq, Value.slice.injEq, and_true] at hcs
    obtain ⟨rfl, rfl, rfl⟩ := hcs
    have hlz : len ≤ zs.length := by rw [hzl]; split <;> omega
    have hwf0 : ∀ n ∈ zs, 0 ≤ n ∧ n ≤ k.max := fun n hn => by
      have := hwf n hn
      simp only [Lit.wf, Bool.and_eq_true, decide_eq_true_eq, hk] at this
      exact this
    refine ⟨some A, len, cap, (zs.take len).map Int.toNat, rfl, hle, hmx, by simp; omega, fun x hx => ?_, ?_⟩
    · obtain ⟨z, hz, rfl⟩ := List.mem_map.1 hx
      have := hwf0 z (List.mem_of_mem_take hz)
      omega
    · rcases Nat.eq_zero_or_pos len with h0 | hpos
      · left; simp [h0]
      · right
        obtain ⟨b, off, spot⟩ := A
        have h0 := hat 0 (by omega)
        have hs : spot = none := by simpa [Addr.add] using World.cell?_spot h0
        subst hs
        refine ⟨b, off, rfl, fun i hi => ?_⟩
        have hi' : i < len := by simp at hi; omega
        have hx := hat i (by omega)
        have ha : (⟨b, off, none⟩ : Addr).add i = ⟨b, off + i, none⟩ := by
          unfold Addr.add; split <;> simp_all
        rw [ha] at hx
        rw [hx]
        have hz : zs.getD i 0 = zs[i]'(by omega) := by simp [List.getD, List.getElem?_eq_getElem (show i < zs.length by omega)]
        have hzz := hwf0 (zs[i]'(by omega)) (List.getElem_mem _)
        have : (((zs.take len).map Int.toNat).getD i 0 : Nat) = (zs[i]'(by omega)).toNat := by
          simp [List.getD, List.getElem?_take, hi', List.getElem?_eq_getElem (show i < zs.length by omega)]
        rw [this, hz, Int.toNat_of_nonneg hzz.1]

theorem open_u16s {t e : TypeId} {v : Value} {d : DataW H} {p : List MemPlace} (ht : P.underlying t = some (.slice e)) (he : P.underlying e = some (.int .u16)) (hc : P.cellsOf e = 1)
    (hval : Value.okWide P W r b0 t v) (h : DataW.Trod enc P W base sp held t v d p) :
    ∃ (a : Option Addr) (len cap : Nat) (l : List Nat), v = .slice a len cap ∧ len ≤ cap ∧ cap ≤ maxLen ∧ l.length = len ∧ (∀ x ∈ l, x < 65536) ∧ SlU W a l := by
  obtain ⟨a, len, cap, l, h1, h2, h3, h4, h5, h6⟩ := open_nums ht he hc rfl hval h
  refine ⟨a, len, cap, l, h1, h2, h3, h4, fun x hx => ?_, h6⟩
  have := h5 x hx
  simp only [IntKind.max, IntKind.signed, IntKind.bits] at this
  omega

/-- A struct of four bytes, cell by cell. -/
theorem open_four {t : TypeId} {f0 f1 f2 f3 : Field} {fuel : Nat} {cs : List Value} {x : DataW H × List MemPlace} (hs : P.underlying t = some (.struct #[f0, f1, f2, f3]))
    (h0 : f0.offset = 0 ∧ P.cellsOf f0.type = 1 ∧ P.underlying f0.type = some (.int .u8)) (h1 : f1.offset = 1 ∧ P.cellsOf f1.type = 1 ∧ P.underlying f1.type = some (.int .u8))
    (h2 : f2.offset = 2 ∧ P.cellsOf f2.type = 1 ∧ P.underlying f2.type = some (.int .u8)) (h3 : f3.offset = 3 ∧ P.cellsOf f3.type = 1 ∧ P.underlying f3.type = some (.int .u8)) (hC : P.cellsOf t = 4)
    (h : DataW.trod enc P W base sp held fuel t cs = some x) : ∃ s : Shd, cs = [.int .u8 (s.r.toNat : Nat), .int .u8 (s.g.toNat : Nat), .int .u8 (s.b.toNat : Nat), .int .u8 (s.a.toNat : Nat)] := by
  obtain ⟨xs, n, _, _, hlen, hxl, hf⟩ := DataW.trod_struct hs h
  rw [hC] at hlen
  have one : ∀ {j : Nat} {f : Field} {c : Value}, (#[f0, f1, f2, f3] : Array Field)[j]? = some f → P.cellsOf f.type = 1 → P.underlying f.type = some (.int .u8) → (cs.drop f.offset).take 1 = [c] → j < xs.length → ∃ u : UInt8, c = .int .u8 (u.toNat : Nat) := by
    intro j f c hj hc hu hcs hjl
    have := hf j f hj
    rw [hc, hcs, List.getElem?_eq_getElem hjl] at this
    obtain ⟨z, hz, _, hw⟩ := DataW.trod_int hu this
    obtain ⟨b0, b1⟩ := bounds_u8 hw
    simp only [List.cons.injEq, and_true] at hz
    refine ⟨UInt8.ofNat z.toNat, ?_⟩
    rw [hz]
    simp
    omega
  match cs, hlen with
  | [c0, c1, c2, c3], _ =>
    simp only [List.size_toArray, List.length_cons, List.length_nil] at hxl
    obtain ⟨u0, rfl⟩ := one (j := 0) (f := f0) (c := c0) rfl h0.2.1 h0.2.2 (by rw [h0.1]; rfl) (by omega)
    obtain ⟨u1, rfl⟩ := one (j := 1) (f := f1) (c := c1) rfl h1.2.1 h1.2.2 (by rw [h1.1]; rfl) (by omega)
    obtain ⟨u2, rfl⟩ := one (j := 2) (f := f2) (c := c2) rfl h2.2.1 h2.2.2 (by rw [h2.1]; rfl) (by omega)
    obtain ⟨u3, rfl⟩ := one (j := 3) (f := f3) (c := c3) rfl h3.2.1 h3.2.2 (by rw [h3.1]; rfl) (by omega)
    exact ⟨⟨u0, u1, u2, u3⟩, rfl⟩

instance : Inhabited Shd := ⟨⟨0, 0, 0, 0⟩⟩

/-- A slice of shades. -/
theorem open_shades {t e : TypeId} {f0 f1 f2 f3 : Field} {v : Value} {d : DataW H} {p : List MemPlace} (ht : P.underlying t = some (.slice e)) (hs : P.underlying e = some (.struct #[f0, f1, f2, f3]))
    (h0 : f0.offset = 0 ∧ P.cellsOf f0.type = 1 ∧ P.underlying f0.type = some (.int .u8)) (h1 : f1.offset = 1 ∧ P.cellsOf f1.type = 1 ∧ P.underlying f1.type = some (.int .u8))
    (h2 : f2.offset = 2 ∧ P.cellsOf f2.type = 1 ∧ P.underlying f2.type = some (.int .u8)) (h3 : f3.offset = 3 ∧ P.cellsOf f3.type = 1 ∧ P.underlying f3.type = some (.int .u8)) (hC : P.cellsOf e = 4)
    (hval : Value.okWide P W r b0 t v) (h : DataW.Trod enc P W base sp held t v d p) :
    ∃ (a : Option Addr) (len cap : Nat) (l : List Shd), v = .slice a len cap ∧ len ≤ cap ∧ cap ≤ maxLen ∧ l.length = len ∧ SlS W a l := by
  obtain ⟨a, len, cap, rfl⟩ := okWide_slice ht hval
  obtain ⟨fuel, hf⟩ := h
  rcases open_slice ht hf with ⟨hcs, _⟩ | ⟨A, n, c, m, k, D, Pl, hcs, _, hle, hmx, hm, _, hat⟩
  · simp only [Value.cells, List.cons.injEq, Value.slice.injEq, and_true] at hcs
    obtain ⟨rfl, rfl, rfl⟩ := hcs
    exact ⟨none, 0, 0, [], rfl, Nat.le_refl _, Nat.zero_le _, rfl, Or.inl rfl⟩
  · simp only [Value.cells, List.cons.injEq, Value.slice.injEq, and_true] at hcs
    obtain ⟨rfl, rfl, rfl⟩ := hcs
    have hlm : len ≤ m := by rw [hm]; split <;> omega
    obtain ⟨b, off, spot⟩ := A
    have key : ∀ i, i < len → ∃ s : Shd, spot = none ∧ ShdAt W b (off + i * 4) s := by
      intro i hi
      obtain ⟨cs', hc, ht'⟩ := hat i (by omega)
      obtain ⟨s, rfl⟩ := open_four hs h0 h1 h2 h3 hC ht'
      obtain ⟨_, _, hx⟩ := World.cells?_some hc
      rw [hC] at hx
      have h0' := hx 0 (by omega)
      obtain ⟨cs0, hc0, ht0⟩ := hat 0 (by omega)
      obtain ⟨s0, rfl⟩ := open_four hs h0 h1 h2 h3 hC ht0
      have hx0 := (World.cells?_some hc0).2.2 0 (by omega)
      have hspot : spot = none := by simpa [Addr.add] using World.cell?_spot hx0
      subst hspot
      have ad : ∀ j, ((⟨b, off, none⟩ : Addr).add (i * 4)).add j = ⟨b, off + i * 4 + j, none⟩ := by
        intro j
        rw [Go.Deep.add_add]
        unfold Addr.add
        split
        · simp only [Addr.mk.injEq, and_true, true_and]; omega
        · simp only [Addr.mk.injEq, and_true, true_and]; omega
      simp only [ad] at hx
      exact ⟨s, rfl, by simpa using hx 0 (by omega), by simpa using hx 1 (by omega), by simpa using hx 2 (by omega), by simpa using hx 3 (by omega)⟩
    rcases Nat.eq_zero_or_pos len with hz | hpos
    · exact ⟨_, len, cap, [], rfl, hle, hmx, hz.symm, Or.inl rfl⟩
    · obtain ⟨f, hF⟩ := choose_lt (p := fun i s => spot = none ∧ ShdAt W b (off + i * 4) s) key
      obtain ⟨rfl, _⟩ := hF 0 hpos
      exact ⟨_, len, cap, (List.range len).map f, rfl, hle, hmx, by simp, Or.inr ⟨b, off, rfl, fun i hi => by
        have e := (hF i (by simpa using hi)).2
        have e2 : ((List.range len).map f)[i] = f i := by simp
        rw [e2]; exact e⟩⟩
end

set_option maxHeartbeats 40000000 in
theorem laidOut : laidOutB Tryz.prog = true := by kernel_rfl
theorem ownKnobNone : ownKnob Tryz.prog.godebug = none := by kernel_rfl
end Go.Proofs.YtnpkgmgedgcjmaaGreatDoor
namespace Go.Proofs.YtnpkgmgedgcjmaaGreatDoor
set_option linter.unusedVariables false
set_option linter.unusedSimpArgs false
open Go.ChangeShapes Go.WideShapes Go.ChangeAt Go.RowKit

set_option maxHeartbeats 40000000 in
/-- The heap that the door's own run leaves meets the rows' condition. -/
theorem door_met (os : Os) (args : Array Value) : laidMetH Tryz.prog fullL ((World.doorLaid Tryz.prog 400 os).forCall (fun _ _ => 0) ⟨#[], args, []⟩).memory :=
  laidMetH_of_parts3 (fuel := 8) (laidMet_of_run' 8 (by kernel_rfl) (by kernel_rfl)) (by kernel_rfl) (by kernel_rfl)

set_option maxRecDepth 100000 in
set_option maxHeartbeats 40000000 in
theorem lifted_early (os : Os) (started : os.Started) (H : Type) (enc : TypeId × Value → H) :
    ReturnsInHanded {} Tryz.checked os 14 .any (fun w args => (Rows.fnConfigEarlySpec.pre enc Tryz.prog Tryz.f14 [] false w args ∧ laidMetH Tryz.prog fullL w) ∧ sizedMet enc Tryz.prog Tryz.f14 (OpenSpec.ofChange Rows.fnConfigEarlySpec) false w args)
      (Rows.fnConfigEarlySpec.post enc Tryz.prog Tryz.f14 false true false false) := by
  refine returnsInHanded_of_change_and (C := Tryz.checked) (X := fun w _ => laidMetH Tryz.prog fullL w) (fun _ _ _ hh h => h.of_heap hh) ownKnobNone started (by kernel_rfl) Tryz.func14
    (ChangeSpec.witness_shaped (enc := enc) (C := Tryz.checked) (os := os) (X := fun w _ => laidMetH Tryz.prog fullL w) false (World.doorLaid Tryz.prog 400 os) #[.int .u8 0, .int .u8 0, .int .u8 0, .bool false, .slice none 0 0, .slice none 0 0, .slice none 0 0] 8 rfl (World.shaped_of_RefB (by kernel_rfl) (by kernel_rfl)) (by kernel_rfl) (by kernel_rfl) (by kernel_rfl) (door_met os _)) ?_
  intro W base args ds gs before hval0 hW _ _ hL _
  have hval : ∀ (j : Nat) t v, Tryz.f14.params[j]? = some t → args[j]? = some v → Value.okWide Tryz.prog W .any base t v := hval0
  have hW' := hW
  obtain ⟨p, q, hA0, hV, rfl, _, _⟩ := hW
  have hA : DataW.TrodAll enc Tryz.prog W 0 (fun _ => true) true Tryz.f14.params.toList args.toList ds p := hA0
  have hgl : gs.length = 5 := trodVars_len hV
  rw [Tryz.params14] at hA hval
  obtain ⟨v0, vs0, d0, ds0, p0, q0, hargs, rfl, rfl, h0, hA⟩ := trodAll_cons hA
  obtain ⟨v1, vs1, d1, ds1, p1, q1, rfl, rfl, rfl, h1, hA⟩ := trodAll_cons hA
  obtain ⟨v2, vs2, d2, ds2, p2, q2, rfl, rfl, rfl, h2, hA⟩ := trodAll_cons hA
  obtain ⟨v3, vs3, d3, ds3, p3, q3, rfl, rfl, rfl, h3, hA⟩ := trodAll_cons hA
  obtain ⟨v4, vs4, d4, ds4, p4, q4, rfl, rfl, rfl, h4, hA⟩ := trodAll_cons hA
  obtain ⟨v5, vs5, d5, ds5, p5, q5, rfl, rfl, rfl, h5, hA⟩ := trodAll_cons hA
  obtain ⟨v6, vs6, d6, ds6, p6, q6, rfl, rfl, rfl, h6, hA⟩ := trodAll_cons hA
  obtain ⟨rfl, rfl, rfl⟩ := trodAll_nil hA
  obtain rfl : args = #[v0, v1, v2, v3, v4, v5, v6] := by cases args; simp_all
  obtain ⟨k, rfl, hk⟩ := open_u8 Tryz.underlying5 (hval 0 _ v0 rfl rfl) h0
  obtain ⟨wd, rfl, hwd⟩ := open_u8 Tryz.underlying5 (hval 1 _ v1 rfl rfl) h1
  obtain ⟨hg, rfl, hhg⟩ := open_u8 Tryz.underlying5 (hval 2 _ v2 rfl rfl) h2
  obtain ⟨lc, rfl, rfl, rfl⟩ := open_bool Tryz.underlying4 (hval 3 _ v3 rfl rfl) h3
  obtain ⟨ua, un, uc, ul, rfl, _, _, hul, hub, hU⟩ := open_u16s Tryz.underlying22 Tryz.underlying35 (by kernel_rfl) (hval 4 _ v4 rfl rfl) h4
  obtain ⟨qa, qn, qc, ql, rfl, _, _, hql, hQ⟩ := open_shades Tryz.underlying39 Tryz.underlying96 ⟨rfl, by kernel_rfl, Tryz.underlying5⟩ ⟨rfl, by kernel_rfl, Tryz.underlying5⟩ ⟨rfl, by kernel_rfl, Tryz.underlying5⟩ ⟨rfl, by kernel_rfl, Tryz.underlying5⟩ (by kernel_rfl) (hval 5 _ v5 rfl rfl) h5
  obtain ⟨ca, cn, cc, cl, rfl, hcc, _, hcl, hcb, hC⟩ := open_u16s Tryz.underlying22 Tryz.underlying35 (by kernel_rfl) (hval 6 _ v6 rfl rfl) h6
  obtain ⟨L, hL0, hL1, hS⟩ := start_of_laid hL
  have env : Env L W := ⟨hS, by rw [hL1]; exact Nat.le_refl _, fun _ _ => by rw [hL0]⟩
  refine (fnConfigEarly L W env k wd hg lc ua qa ca un uc qn qc cn cc ul cl ql hk hwd hhg hul hU hub hql hQ hcl hC hcb hcc).mono fun e W' ⟨he, hm⟩ => ?_
  subst he
  refine ⟨_, rfl, post_true laidOut (by kernel_rfl) (by kernel_rfl) (by kernel_rfl) Tryz.underlying4 hW' hm.below ?_⟩
  match gs, hgl with
  | [g1, g2, g3, g4, g5], _ => rfl
end Go.Proofs.YtnpkgmgedgcjmaaGreatDoor
