/- The CRC-32 by bits and the CRC-32 by a table of bytes are one; two texts that part in one byte have two sums. The error values of the program, and what a reader behind an interface value does. No conditions but those in each theorem's own binders. -/
import Derived.Test.YtnpkgmgedgcjmaaGreatDoorProg
import Derived.Test.YtnpkgmgedgcjmaaGreatDoorCE1
namespace Go.Png
set_option linter.unusedVariables false
set_option linter.unusedSimpArgs false

/-- One bit of the sum. -/
def crcBit (x : BitVec 32) : BitVec 32 := if x.getLsbD 0 then (x >>> 1) ^^^ 0xEDB88320#32 else x >>> 1

def crcBits : Nat → BitVec 32 → BitVec 32
  | 0, x => x
  | n + 1, x => crcBits n (crcBit x)

/-- One byte of the sum. -/
def crcByte (x : BitVec 32) (v : UInt8) : BitVec 32 := crcBits 8 (x ^^^ v.toBitVec.setWidth 32)

/-- The sum's state behind some bytes (the state is kept turned). -/
def crcUpd (x : BitVec 32) (l : List UInt8) : BitVec 32 := l.foldl crcByte x

/-- The sum of some bytes. -/
def crc (l : List UInt8) : BitVec 32 := ~~~ crcUpd (~~~ 0#32) l

theorem crcUpd_nil (x : BitVec 32) : crcUpd x [] = x := rfl
theorem crcUpd_cons (x : BitVec 32) (v : UInt8) (l : List UInt8) : crcUpd x (v :: l) = crcUpd (crcByte x v) l := rfl
theorem crcUpd_append (x : BitVec 32) (l m : List UInt8) : crcUpd x (l ++ m) = crcUpd (crcUpd x l) m := by simp [crcUpd]

theorem and_one (z : BitVec 32) : z &&& 1#32 = if z.getLsbD 0 then 1#32 else 0#32 := by
  apply BitVec.eq_of_getLsbD_eq
  intro i hi
  rw [BitVec.getLsbD_and, BitVec.getLsbD_one]
  by_cases h0 : i = 0
  · subst h0; cases z.getLsbD 0 <;> simp
  · cases z.getLsbD 0 <;> simp [h0, BitVec.getLsbD_one]

/-- What a bit of the sum is. -/
theorem crcBit_eq (x : BitVec 32) : crcBit x = (x >>> 1) ^^^ ((0#32 - (x &&& 1#32)) &&& 0xEDB88320#32) := by
  unfold crcBit
  rw [and_one]
  cases x.getLsbD 0 <;> simp

theorem and_one_xor (x y : BitVec 32) : (0#32 - ((x ^^^ y) &&& 1#32)) = (0#32 - (x &&& 1#32)) ^^^ (0#32 - (y &&& 1#32)) := by
  rw [and_one, and_one, and_one, BitVec.getLsbD_xor]
  cases x.getLsbD 0 <;> cases y.getLsbD 0 <;> decide

theorem crcBit_xor (x y : BitVec 32) : crcBit (x ^^^ y) = crcBit x ^^^ crcBit y := by
  rw [crcBit_eq, crcBit_eq, crcBit_eq, and_one_xor]
  apply BitVec.eq_of_getLsbD_eq
  intro i hi
  simp only [BitVec.getLsbD_xor, BitVec.getLsbD_and, BitVec.getLsbD_ushiftRight]
  cases x.getLsbD (1 + i) <;> cases y.getLsbD (1 + i) <;> cases (0#32 - (x &&& 1#32)).getLsbD i <;> cases (0#32 - (y &&& 1#32)).getLsbD i <;>
    cases (0xEDB88320#32).getLsbD i <;> rfl

theorem crcBits_xor (n : Nat) : ∀ x y : BitVec 32, crcBits n (x ^^^ y) = crcBits n x ^^^ crcBits n y := by
  induction n with
  | zero => intro x y; rfl
  | succ n ih => intro x y; simp only [crcBits, crcBit_xor, ih]

/-- A bit of the sum is told back by the sum behind it. -/
theorem crcBit_inj {x y : BitVec 32} (h : crcBit x = crcBit y) : x = y := by
  have hk : ∀ z : BitVec 32, crcBit z = 0#32 → z = 0#32 := by
    intro z hz
    unfold crcBit at hz
    cases hb : z.getLsbD 0 with
    | true =>
      rw [hb] at hz
      simp only [if_true] at hz
      have := congrArg (fun t => t.getLsbD 31) hz
      simp only [BitVec.getLsbD_xor, BitVec.getLsbD_ushiftRight] at this
      have h32 : z.getLsbD (1 + 31) = false := BitVec.getLsbD_of_ge _ _ (by decide)
      rw [h32] at this
      exact absurd this (by decide)
    | false =>
      rw [hb] at hz
      simp only [Bool.false_eq_true, if_false] at hz
      apply BitVec.eq_of_getLsbD_eq
      intro i hi
      cases i with
      | zero => simpa using hb
      | succ i =>
        have := congrArg (fun t => t.getLsbD i) hz
        simp only [BitVec.getLsbD_ushiftRight] at this
        rw [Nat.add_comm] at this
        simpa using this
  have := hk (x ^^^ y) (by rw [crcBit_xor, h]; simp)
  have h2 : x ^^^ y ^^^ y = y := by rw [this]; simp
  rw [BitVec.xor_assoc] at h2
  simpa using h2

theorem crcBits_inj (n : Nat) : ∀ {x y : BitVec 32}, crcBits n x = crcBits n y → x = y := by
  induction n with
  | zero => intro x y h; exact h
  | succ n ih => intro x y h; exact crcBit_inj (ih h)

theorem crcByte_inj_state {x y : BitVec 32} {v : UInt8} (h : crcByte x v = crcByte y v) : x = y := by
  have := crcBits_inj 8 h
  have h2 := congrArg (· ^^^ v.toBitVec.setWidth 32) this
  simpa [BitVec.xor_assoc] using h2

theorem crcUpd_inj (l : List UInt8) : ∀ {x y : BitVec 32}, crcUpd x l = crcUpd y l → x = y := by
  induction l with
  | nil => intro x y h; exact h
  | cons v l ih => intro x y h; exact crcByte_inj_state (ih h)

theorem crcByte_inj_byte {x : BitVec 32} {u v : UInt8} (h : crcByte x u = crcByte x v) : u = v := by
  have := crcBits_inj 8 h
  have h2 := congrArg (x ^^^ ·) this
  simp only [← BitVec.xor_assoc, BitVec.xor_self, BitVec.zero_xor] at h2
  apply UInt8.toBitVec_inj.1
  have h3 := congrArg (BitVec.setWidth 8) h2
  simpa using h3

/-- Bytes more, behind a sum. -/
def crcW (c : BitVec 32) (l : List UInt8) : BitVec 32 := ~~~ crcUpd (~~~ c) l
theorem crcW_zero (l : List UInt8) : crcW 0#32 l = crc l := rfl
theorem crcW_append (c : BitVec 32) (a b : List UInt8) : crcW c (a ++ b) = crcW (crcW c a) b := by
  unfold crcW; rw [crcUpd_append, BitVec.not_not]

/-- Two texts that part in one byte have two sums. -/
theorem crc_bent (a b : List UInt8) (u v : UInt8) (h : u ≠ v) : crc (a ++ u :: b) ≠ crc (a ++ v :: b) := by
  intro he
  apply h
  unfold crc at he
  have he2 := congrArg (~~~ ·) he
  simp only [BitVec.not_not, crcUpd_append, crcUpd_cons] at he2
  exact crcByte_inj_byte (crcUpd_inj b he2)

/-- The table's word of a byte. -/
def crcTab (i : BitVec 8) : BitVec 32 := crcBits 8 (i.setWidth 32)

/-- Eight bits of a word whose lowest byte is nought. -/
theorem crcBits_shift (n : Nat) : ∀ (x : BitVec 32), (∀ i, i < n → x.getLsbD i = false) → crcBits n x = x >>> n := by
  induction n with
  | zero => intro x _; simp [crcBits]
  | succ n ih =>
    intro x h
    have h0 : x.getLsbD 0 = false := h 0 (by omega)
    have hb : crcBit x = x >>> 1 := by unfold crcBit; rw [h0]; simp
    rw [crcBits, hb, ih]
    · rw [← BitVec.shiftRight_add]; congr 1; omega
    · intro i hi
      rw [BitVec.getLsbD_ushiftRight]
      exact h _ (by omega)

theorem split_byte (x : BitVec 32) : x = (x.setWidth 8).setWidth 32 ^^^ (x >>> 8 <<< 8) := by
  apply BitVec.eq_of_getLsbD_eq
  intro i hi
  simp only [BitVec.getLsbD_xor, BitVec.getLsbD_setWidth, BitVec.getLsbD_shiftLeft, BitVec.getLsbD_ushiftRight]
  by_cases h : i < 8
  · simp [h, hi]
  · have e : 8 + (i - 8) = i := by omega
    simp [h, hi, e]

/-- A byte of the sum by the table. -/
theorem crcByte_tab (x : BitVec 32) (v : UInt8) : crcByte x v = crcTab (x.setWidth 8 ^^^ v.toBitVec) ^^^ (x >>> 8) := by
  unfold crcByte crcTab
  have e : x ^^^ v.toBitVec.setWidth 32 = (x.setWidth 8 ^^^ v.toBitVec).setWidth 32 ^^^ (x >>> 8 <<< 8) := by
    conv => lhs; rw [split_byte x]
    apply BitVec.eq_of_getLsbD_eq
    intro i hi
    simp only [BitVec.getLsbD_xor, BitVec.getLsbD_setWidth, BitVec.getLsbD_shiftLeft, BitVec.getLsbD_ushiftRight]
    by_cases h : i < 8
    · simp [h, hi]
    · have : v.toBitVec.getLsbD i = false := BitVec.getLsbD_of_ge _ _ (by omega)
      simp [h, hi, this]
  rw [e, crcBits_xor]
  congr 1
  rw [crcBits_shift 8]
  · apply BitVec.eq_of_getLsbD_eq
    intro i hi
    simp only [BitVec.getLsbD_shiftLeft, BitVec.getLsbD_ushiftRight]
    by_cases h : 8 + i < 32
    · have h1 : ¬ (8 + i < 8) := by omega
      have h2 : 8 + (8 + i - 8) = 8 + i := by omega
      simp [h, h2]
    · have : x.getLsbD (8 + i) = false := BitVec.getLsbD_of_ge _ _ (by omega)
      simp [h, this]
  · intro i hi
    simp [BitVec.getLsbD_shiftLeft, hi]
end Go.Png
namespace Go.Proofs.YtnpkgmgedgcjmaaGreatDoor
set_option linter.unusedVariables false
set_option linter.unusedSimpArgs false
open Go.RowKit Go.Png

/-- Where the library's error values lie; what lies below lo is never written; w0 is the world in which the call began. -/
structure Lay where
  eof : Addr
  unexp : Addr
  lo : Nat
  w0 : World

/-- The errors of the program. -/
inductive GErr where
  | eof | unexp
  | fmt (s : ByteArray)
  | unsup (s : ByteArray)
  | corrupt (n : Int)
  | internal (s : ByteArray)

def GErr.ptr (L : Lay) : GErr → Option Addr
  | .eof => some L.eof | .unexp => some L.unexp
  | _ => none

def ptrErr (b : Addr) : Value := .iface 348 (.pointer (some b))

/-- The block of a pointer is plain memory. -/
def errBlk (w : World) (b : Addr) : Prop := ∃ c t, w.heap[b.block]? = some (.cells c t (0, 0))

def GErr.val (L : Lay) : GErr → Value
  | .eof => ptrErr L.eof
  | .unexp => ptrErr L.unexp
  | .fmt s => .iface 134 (.string s)
  | .unsup s => .iface 135 (.string s)
  | .corrupt n => .iface 334 (.int .i64 n)
  | .internal s => .iface 344 (.string s)

theorem GErr.val_iface (L : Lay) (e : GErr) : ∃ t v, e.val L = .iface t v := by cases e <;> exact ⟨_, _, rfl⟩

def errAt (w : World) (L : Lay) (g : Nat) (b : Addr) : Prop :=
  w.cell? ⟨g, 0, none⟩ = some (ptrErr b) ∧ g < L.lo ∧ b.block < L.lo ∧ errBlk w b

/-- What the package-level variables hold where the call begins. -/
structure Start (L : Lay) : Prop where
  lo : L.lo ≤ L.w0.heap.size
  eof : errAt L.w0 L 0 L.eof
  unexp : errAt L.w0 L 1 L.unexp
  apart : L.eof ≠ L.unexp
  tablt : 3 < L.lo
  tab : ∀ i : Nat, i < 256 → L.w0.cell? ⟨3, i, none⟩ = some (.int .u32 ((crcTab (BitVec.ofNat 8 i)).toNat : Nat))

/-- The package-level variables hold what they were given. -/
structure Env (L : Lay) (w : World) : Prop where
  start : Start L
  lo : L.lo ≤ w.heap.size
  same : ∀ k, k < L.lo → w.heap[k]? = L.w0.heap[k]?

theorem Env.mod {w w' : World} {L : Lay} (h : Env L w) {S : Nat → Prop} (m : Mod S w w') (hS : ∀ k, S k → L.lo ≤ k) : Env L w' :=
  ⟨h.start, Nat.le_trans h.lo m.size, fun k hk => (m.block k (Nat.lt_of_lt_of_le hk h.lo) (fun hs => by have := hS _ hs; omega)).trans (h.same k hk)⟩

theorem Env.cell {w : World} {L : Lay} (h : Env L w) {b : Nat} (hb : b < L.lo) (o : Nat) : w.cell? ⟨b, o, none⟩ = L.w0.cell? ⟨b, o, none⟩ := World.cell?_of_block (w := L.w0) (h.same b hb)

theorem Env.err {w : World} {L : Lay} (h : Env L w) {g : Nat} {b : Addr} (e : errAt L.w0 L g b) : errAt w L g b := by
  obtain ⟨h1, h2, h3, c, t, h4⟩ := e
  exact ⟨by rw [h.cell h2]; exact h1, h2, h3, c, t, by rw [h.same _ h3]; exact h4⟩

theorem Env.eof {w : World} {L : Lay} (h : Env L w) : errAt w L 0 L.eof := h.err h.start.eof
theorem Env.unexp {w : World} {L : Lay} (h : Env L w) : errAt w L 1 L.unexp := h.err h.start.unexp
theorem Env.apart {w : World} {L : Lay} (h : Env L w) : L.eof ≠ L.unexp := h.start.apart
theorem Env.tab {w : World} {L : Lay} (h : Env L w) (i : Nat) (hi : i < 256) : w.cell? ⟨3, i, none⟩ = some (.int .u32 ((crcTab (BitVec.ofNat 8 i)).toNat : Nat)) := by
  rw [h.cell h.start.tablt]; exact h.start.tab i hi

theorem eql_ptrErr (w : World) (a b : Addr) (ha : errBlk w a) (hb : errBlk w b) :
    (binOp .eql 106 (ptrErr a) (ptrErr b)).run Tryz.prog w = .ok (.bool (decide (a = b))) w := by
  obtain ⟨ca, ta, ha⟩ := ha
  obtain ⟨cb, tb, hb⟩ := hb
  by_cases h : a = b
  · subst h
    have := run_eql_iface_ptr_same (P := Tryz.prog) (ti := 106) (tp := 348) (te := 386) (j := Tryz.t386) (i := Tryz.t348) w a Tryz.underlying106 Tryz.underlying348 (by kernel_rfl) (by kernel_rfl) (by kernel_rfl)
    rw [show decide (a = a) = true by simp]; exact this
  · have := run_eql_iface_ptr_other (P := Tryz.prog) (ti := 106) (tp := 348) (te := 386) (j := Tryz.t386) (i := Tryz.t348) (a := a) (b := b) w Tryz.underlying106 Tryz.underlying348 (by kernel_rfl) (by kernel_rfl) (by kernel_rfl) (by decide) h ha hb
    rw [show decide (a = b) = false by simp [h]]; exact this

def GErr.isEof : GErr → Bool | .eof => true | _ => false
theorem GErr.eof_of {e : GErr} (h : e.isEof = true) : e = .eof := by
  cases e <;> first | rfl | cases h

def GErr.isUnexp : GErr → Bool | .unexp => true | _ => false

theorem eql_fmt (a : Addr) (s : ByteArray) (w : World) : (binOp .eql 106 (.iface 134 (.string s)) (ptrErr a)).run Tryz.prog w = .ok (.bool false) w := by unfold ptrErr; kernel_rfl
theorem eql_unsup (a : Addr) (s : ByteArray) (w : World) : (binOp .eql 106 (.iface 135 (.string s)) (ptrErr a)).run Tryz.prog w = .ok (.bool false) w := by unfold ptrErr; kernel_rfl
theorem eql_corrupt (a : Addr) (s : Int) (w : World) : (binOp .eql 106 (.iface 334 (.int .i64 s)) (ptrErr a)).run Tryz.prog w = .ok (.bool false) w := by unfold ptrErr; kernel_rfl
theorem eql_internal (a : Addr) (s : ByteArray) (w : World) : (binOp .eql 106 (.iface 344 (.string s)) (ptrErr a)).run Tryz.prog w = .ok (.bool false) w := by unfold ptrErr; kernel_rfl

theorem Env.eql {L : Lay} {w : World} (h : Env L w) (e : GErr) (b : Addr) (hb : errBlk w b) :
    (binOp .eql 106 (e.val L) (ptrErr b)).run Tryz.prog w = .ok (.bool (decide (e.ptr L = some b))) w := by
  cases e
  case eof => simpa [GErr.ptr, GErr.val] using eql_ptrErr w L.eof b h.eof.2.2.2 hb
  case unexp => simpa [GErr.ptr, GErr.val] using eql_ptrErr w L.unexp b h.unexp.2.2.2 hb
  case fmt s => exact eql_fmt b s w
  case unsup s => exact eql_unsup b s w
  case corrupt n => exact eql_corrupt b n w
  case internal s => exact eql_internal b s w

theorem Env.eqlEof {L : Lay} {w : World} (h : Env L w) (e : GErr) : (binOp .eql 106 (e.val L) (ptrErr L.eof)).run Tryz.prog w = .ok (.bool e.isEof) w := by
  rw [h.eql e _ h.eof.2.2.2]
  have ha := h.apart
  cases e <;> simp [GErr.ptr, GErr.isEof, Ne.symm ha]

theorem Env.eqlUnexp {L : Lay} {w : World} (h : Env L w) (e : GErr) : (binOp .eql 106 (e.val L) (ptrErr L.unexp)).run Tryz.prog w = .ok (.bool e.isUnexp) w := by
  rw [h.eql e _ h.unexp.2.2.2]
  have ha := h.apart
  cases e <;> simp [GErr.ptr, GErr.isUnexp, ha]

/-- Bytes as a string. -/
def strOf (l : List UInt8) : ByteArray := ⟨l.toArray⟩

theorem convBytes (w : World) (b off cap n : Nat) (l : List UInt8) (hn : n = l.length) (hb : Bytes w b off l) :
    (convert 24 9 (.slice (some ⟨b, off, none⟩) n cap)).run Tryz.prog w = .ok (.string (strOf l)) w := by
  subst hn
  have h := run_convert_bytes_arg (P := Tryz.prog) w 24 5 Tryz.underlying24 Tryz.underlying5 b off l.length cap (l.map fun x => (x.toNat : Int)) (by simp)
    (fun i hi => by rw [hb i hi, List.getD_eq_getElem?_getD, List.getElem?_map, List.getElem?_eq_getElem hi]; rfl) 9 Tryz.underlying9
  have e : strOfNums (l.map fun x => (x.toNat : Int)) = strOf l := by
    apply ByteArray.ext
    apply Array.toList_inj.1
    rw [strOfNums_data, List.map_map]
    have : ((fun n : Int => UInt8.ofNat n.toNat) ∘ fun x : UInt8 => (x.toNat : Int)) = id := by
      funext x; simp
    rw [this]; simp [strOf]
  rw [h, e]

theorem strOf_toList (l : List UInt8) : (strOf l).toList = l := ByteArray.toList_mk l

theorem strOf_inj {a b : List UInt8} (h : strOf a = strOf b) : a = b := by
  have := congrArg (fun x : ByteArray => x.data.toList) h
  simpa [strOf] using this

/-- A reader of bytes behind an interface value. -/
structure Rdr where
  σ : Type
  t : TypeId
  v : Value
  f : FuncId
  foot : Nat → Prop
  inv : World → σ → Prop
  bad : World → Prop
  data : σ → List UInt8
  fin : σ → GErr
  adv : σ → Nat → σ

/-- What one read comes to. -/
structure RdPost (L : Lay) (r : Rdr) (w : World) (s : r.σ) (b off n : Nat) (e : Ending) (w' : World) (m : Nat) (err : Value) : Prop where
  end_ : e = .returned (.tuple #[.int .i64 m, err])
  le : m ≤ n
  len : m ≤ (r.data s).length
  mod : Mod (fun k => r.foot k ∨ k = b) w w'
  wrote : Wrote b off (bytesV ((r.data s).take m)) w w'
  kind : (0 < m ∧ err = .nilIface ∧ r.inv w' (r.adv s m)) ∨ (m = (r.data s).length ∧ err = (r.fin s).val L ∧ r.bad w')

structure Rdr.Ok (L : Lay) (r : Rdr) : Prop where
  nil : ∀ w, (nilAhead 501 r.t r.v "Read").run Tryz.prog w = .ok (some false) w
  meth : ∀ w, (method 501 r.t r.v "Read").run Tryz.prog w = .ok (r.f, r.v) w
  call : ∀ args w, (callFunc r.f args).run Tryz.prog w = .ok (.enter r.f args) w
  frame : ∀ w w' S s, r.inv w s → Mod S w w' → (∀ k, S k → L.lo ≤ k ∧ ¬ r.foot k) → r.inv w' s
  bframe : ∀ w w' S, r.bad w → Mod S w w' → (∀ k, S k → L.lo ≤ k ∧ ¬ r.foot k) → r.bad w'
  env : ∀ w s, r.inv w s → Env L w
  benv : ∀ w, r.bad w → Env L w
  foot : ∀ k, r.foot k → L.lo ≤ k
  size : ∀ w s k, r.inv w s → r.foot k → k < w.heap.size
  data : ∀ s n, n ≤ (r.data s).length → r.data (r.adv s n) = (r.data s).drop n
  fin : ∀ s n, n ≤ (r.data s).length → r.fin (r.adv s n) = r.fin s
  adv0 : ∀ s, r.adv s 0 = s
  adv : ∀ s a b, a + b ≤ (r.data s).length → r.adv (r.adv s a) b = r.adv s (a + b)
  read : ∀ w s b off n cap, r.inv w s → 0 < n → n ≤ cap → cap ≤ 281474976710656 → L.lo ≤ b → ¬ r.foot b → Room w b off n →
    Calls Tryz.prog r.f #[r.v, .slice (some ⟨b, off, none⟩) n cap] w fun e w' => ∃ m err, RdPost L r w s b off n e w' m err

theorem Rdr.Ok.drew {L : Lay} {r : Rdr} (h : r.Ok L) {w : World} {s : r.σ} (i : r.inv w s) : r.inv w.drew s :=
  h.frame w _ (fun _ => False) s i ((Mod.refl _ _).drew) (fun _ h => h.elim)
theorem Rdr.Ok.drewN {L : Lay} {r : Rdr} (h : r.Ok L) {w : World} {s : r.σ} (i : r.inv w s) (n : Nat) : r.inv (w.drewN n) s :=
  h.frame w _ (fun _ => False) s i ((Mod.refl _ _).drewN n) (fun _ h => h.elim)
theorem RdPost.undrew {L : Lay} {r : Rdr} {w : World} {s : r.σ} {b off n : Nat} {e : Ending} {w' : World} {m : Nat} {err : Value} (h : RdPost L r w.drew s b off n e w' m err) : RdPost L r w s b off n e w' m err :=
  ⟨h.end_, h.le, h.len, h.mod.undrew, h.wrote.undrew, h.kind⟩

/-- What a full read comes to. -/
structure FullPost (L : Lay) (r : Rdr) (w : World) (s : r.σ) (b off n : Nat) (e : Ending) (w' : World) (m : Nat) (err : Value) : Prop where
  end_ : e = .returned (.tuple #[.int .i64 m, err])
  mod : Mod (fun k => r.foot k ∨ k = b) w w'
  wrote : Wrote b off (bytesV ((r.data s).take m)) w w'
  kind : (m = n ∧ n ≤ (r.data s).length ∧ err = .nilIface ∧ (r.inv w' (r.adv s n) ∨ n = (r.data s).length ∧ r.bad w')) ∨
    (m = (r.data s).length ∧ (r.data s).length < n ∧ (∃ g : GErr, err = g.val L ∧ (g = r.fin s ∨ (r.fin s = .eof ∧ 0 < m ∧ g = .unexp))) ∧ r.bad w')

theorem FullPost.undrew {L : Lay} {r : Rdr} {w : World} {s : r.σ} {b off n : Nat} {e : Ending} {w' : World} {m : Nat} {err : Value} (h : FullPost L r w.drew s b off n e w' m err) : FullPost L r w s b off n e w' m err :=
  ⟨h.end_, h.mod.undrew, h.wrote.undrew, h.kind⟩
theorem FullPost.undrewN {L : Lay} {r : Rdr} {w : World} {k : Nat} {s : r.σ} {b off n : Nat} {e : Ending} {w' : World} {m : Nat} {err : Value} (h : FullPost L r (w.drewN k) s b off n e w' m err) : FullPost L r w s b off n e w' m err :=
  ⟨h.end_, h.mod.undrewN, h.wrote.undrewN, h.kind⟩

/-- The state of the loop of a full read. -/
structure FullRel (L : Lay) (r : Rdr) (w : World) (s : r.σ) (b off n : Nat) (wr : World) (m : Nat) (err : Value) : Prop where
  le : m ≤ n
  len : m ≤ (r.data s).length
  mod : Mod (fun k => r.foot k ∨ k = b) w wr
  wrote : Wrote b off (bytesV ((r.data s).take m)) w wr
  kind : (err = .nilIface ∧ r.inv wr (r.adv s m)) ∨ (m = (r.data s).length ∧ err = (r.fin s).val L ∧ r.bad wr)

theorem FullRel.step {L : Lay} {r : Rdr} (hr : r.Ok L) {w wr w' : World} {s : r.σ} {b off n m m1 : Nat} {err err' : Value} {e : Ending} (h : FullRel L r w s b off n wr m err)
    (k : RdPost L r wr (r.adv s m) b (off + m) (n - m) e w' m1 err') (hm : m ≤ n) : FullRel L r w s b off n w' (m + m1) err' := by
  have hlen := k.len
  have hle := k.le
  have hd := hr.data s m h.len
  rw [hd] at hlen
  simp only [List.length_drop] at hlen
  have hml := h.len
  have hwr := k.wrote
  rw [hd] at hwr
  refine ⟨by omega, by omega, h.mod.trans k.mod, ?_, ?_⟩
  · have : bytesV ((r.data s).take (m + m1)) = bytesV ((r.data s).take m) ++ bytesV (((r.data s).drop m).take m1) := by
      unfold bytesV; rw [← List.map_append, List.take_add]
    rw [this]
    refine h.wrote.append ?_
    have hl : (bytesV ((r.data s).take m)).length = m := by simp; omega
    rw [hl]; exact hwr
  · rcases k.kind with ⟨h1, h2, h3⟩ | ⟨h1, h2, h3⟩
    · refine Or.inl ⟨h2, ?_⟩
      rw [hr.adv s m m1 (by omega)] at h3; exact h3
    · refine Or.inr ⟨?_, ?_, h3⟩
      · rw [h1, hd]; simp; omega
      · rw [h2, hr.fin s m h.len]
end Go.Proofs.YtnpkgmgedgcjmaaGreatDoor
