/- The reference's writer of files: the chunks of packed bytes. No conditions but those in each theorem's own binders. -/
import Derived.Test.YtnpkgmgedgcjmaaGreatDoorCE32
namespace Go.Proofs.YtnpkgmgedgcjmaaGreatDoor
set_option linter.unusedVariables false
set_option linter.unusedSimpArgs false
open Go.RowKit Go.Png

/-- The chunks of packed bytes, of so many bytes each in turn. -/
def idatsL : List UInt8 → List UInt8 → List UInt8
  | [], data => if data = [] then [] else chunkL nIDAT data
  | c :: cs, data => if data = [] then [] else chunkL nIDAT (data.take c.toNat) ++ idatsL cs (data.drop c.toNat)
theorem idatsL_nil (cs : List UInt8) : idatsL cs [] = [] := by cases cs <;> simp [idatsL]

/-- The packed bytes that are left: where they lie. -/
structure Left (w : World) (A : Option Addr) (rem cp : Nat) (data : List UInt8) : Prop where
  len : data.length = rem
  le : rem ≤ cp
  cap : cp ≤ maxLen
  at_ : ∃ b o, A = some ⟨b, o, none⟩ ∧ (rem = 0 ∨ Bytes w b o data)

set_option maxRecDepth 100000 in
set_option maxHeartbeats 2000000 in
theorem idat_put (w : World) (base b o rem cp k g m c : Nat) (ol data : List UInt8) (hbase : base ≤ w.heap.size) (hown : Own8 w base g c ol) (hol : ol.length = m) (hdl : data.length = rem) (hle : rem ≤ cp) (hcap : cp ≤ maxLen) (hby : Bytes w b o data) (hbg : b ≠ g) (hk : k ≤ rem) (hrem : rem ≤ 200000000) (hm : m ≤ 100000000000)
    (u0 u1 u2 u3 u4 u5 u6 u7 u8 u9 u10 u11 u12 u13 u14 u15 u16 u18 u19 u20 u21 u22 u23 u24 u26 u28 u29 u30 u31 u32 u33 u34 u35 u36 u37 u38 u39 u40 u41 u42 u43 u44 u45 u46 u47 u48 u49 u50 u51 u52 u53 u54 u55 u56 u57 u58 u59 u60 u61 u62 u63 u64 u65 u66 u67 u68 u69 u70 u71 u72 u73 u74 u75 u76 u77 u78 u79 u80 u81 u82 u83 u84 u85 u86 u87 u88 u89 u90 u91 u92 u93 u94 u95 u96 u97 u98 u99 u100 u101 u102 u103 u104 u105 u106 u107 u108 u109 u110 u111 u112 u113 u114 u115 u116 u117 u118 u119 u120 u121 u122 u123 u124 u125 u126 u127 u128 u129 u130 u131 u132 u133 u134 u135 u136 u137 u138 u139 u140 u141 u142 u143 u144 u145 u146 u147 u148 u149 u150 u151 u152 u153 u154 u155 u156 u157 u158 u159 u160 u161 u162 u163 u164 u165 u166 u167 u168 u169 u170 : Value) (Q : Exit → Act → World → Prop)
    (hQ : ∀ w' g' c' (v157 v158 v159 v160 v161 v162 v163 v164 v165 : Value) A cp', Own8 w' base g' c' (ol ++ chunkL nIDAT (data.take k)) → Mod (fun k => k = g) w w' → (g' = g ∨ w.heap.size ≤ g') → Left w' A (rem - k) cp' (data.drop k) → (∃ o', A = some ⟨b, o', none⟩) →
       Q .normal ⟨#[u0, u1, u2, u3, u4, u5, u6, u7, u8, u9, u10, u11, u12, u13, u14, u15, u16, .slice (some ⟨g', 0, none⟩) (m + (12 + k)) c', u18, u19, u20, u21, u22, u23, u24, .slice A (rem - k) cp', u26, .int .i64 k, u28, u29, u30, u31, u32, u33, u34, u35, u36, u37, u38, u39, u40, u41, u42, u43, u44, u45, u46, u47, u48, u49, u50, u51, u52, u53, u54, u55, u56, u57, u58, u59, u60, u61, u62, u63, u64, u65, u66, u67, u68, u69, u70, u71, u72, u73, u74, u75, u76, u77, u78, u79, u80, u81, u82, u83, u84, u85, u86, u87, u88, u89, u90, u91, u92, u93, u94, u95, u96, u97, u98, u99, u100, u101, u102, u103, u104, u105, u106, u107, u108, u109, u110, u111, u112, u113, u114, u115, u116, u117, u118, u119, u120, u121, u122, u123, u124, u125, u126, u127, u128, u129, u130, u131, u132, u133, u134, u135, u136, u137, u138, u139, u140, u141, u142, u143, u144, u145, u146, u147, u148, u149, u150, u151, u152, u153, u154, u155, u156, v157, v158, v159, v160, v161, v162, v163, v164, v165, u166, u167, u168, u169, u170], []⟩ w') :
    Code.wp Tryz.prog (navc [1, 1, 1, 1, 1, 1, 1, 1, 1, 1, 1, 1, 0, 1, 0, 0, 1, 0, 0, 1, 1] (textOf Tryz.f40)) Q
      ⟨#[u0, u1, u2, u3, u4, u5, u6, u7, u8, u9, u10, u11, u12, u13, u14, u15, u16, .slice (some ⟨g, 0, none⟩) m c, u18, u19, u20, u21, u22, u23, u24, .slice (some ⟨b, o, none⟩) rem cp, u26, .int .i64 k, u28, u29, u30, u31, u32, u33, u34, u35, u36, u37, u38, u39, u40, u41, u42, u43, u44, u45, u46, u47, u48, u49, u50, u51, u52, u53, u54, u55, u56, u57, u58, u59, u60, u61, u62, u63, u64, u65, u66, u67, u68, u69, u70, u71, u72, u73, u74, u75, u76, u77, u78, u79, u80, u81, u82, u83, u84, u85, u86, u87, u88, u89, u90, u91, u92, u93, u94, u95, u96, u97, u98, u99, u100, u101, u102, u103, u104, u105, u106, u107, u108, u109, u110, u111, u112, u113, u114, u115, u116, u117, u118, u119, u120, u121, u122, u123, u124, u125, u126, u127, u128, u129, u130, u131, u132, u133, u134, u135, u136, u137, u138, u139, u140, u141, u142, u143, u144, u145, u146, u147, u148, u149, u150, u151, u152, u153, u154, u155, u156, u157, u158, u159, u160, u161, u162, u163, u164, u165, u166, u167, u168, u169, u170], []⟩ w := by
  conv => arg 2; whnf
  dsimp only
  subst hol
  have htk : (data.take k).length = k := by rw [List.length_take]; omega
  have hdk : (data.drop k).length = rem - k := by rw [List.length_drop]; omega
  have hbt : SlB w (some ⟨b, o, none⟩) (data.take k) := Or.inr ⟨b, o, rfl, fun i hi => by
    have := hby i (by rw [htk] at hi; omega)
    rw [this, List.getElem_take]⟩
  have hch := specChunk w nIDAT (data.take k) (some ⟨b, o, none⟩) k cp rfl htk hbt (fun h => Or.inr ⟨_, _, rfl⟩) (by omega)
  have hlen : (chunkL nIDAT (data.take k)).length = 12 + k := by rw [chunkL_length _ _ rfl, htk]
  have i1 : (k : Int) ≤ (rem : Int) := by omega
  have i2 : (k : Int) ≤ (cp : Int) := by omega
  have i3 : k ≤ rem := hk
  have i4 : k ≤ cp := by omega
  have HQ := Lib.hid hQ; have HOWN := Lib.hid hown; have HCH := Lib.hid hch; have HLEN := Lib.hid hlen; have HBY := Lib.hid hby; have HDK := Lib.hid hdk; have HDL := Lib.hid hdl
  clear hQ hown hch hlen htk hbt hby hdk hdl
  go_wp2_with (fail)
  refine HCH.out.mono ?_
  rintro e w2 ⟨g2, c2, rfl, own2, m2⟩
  have O2 := Lib.hid own2; have M2 := Lib.hid m2
  clear own2 m2 HCH
  by_cases hkc : cp = k
  · go_wp2_with (at_builtin; go_must (refine wpList_app8 rfl (.tmp 157) (.tmp 161) rfl base g ol.length c ol rfl rfl (HOWN.out.mod M2.out id) (some ⟨g2, 0, none⟩) (12 + k) c2 (chunkL nIDAT (data.take k)) HLEN.out O2.out.slb rfl (fun h => by omega) (by omega) (Nat.le_trans hbase M2.out.size) ?_; intro g3 c3 w3 hown3 hm3 hg3))
    refine HQ.out w3 g3 c3 _ _ _ _ _ _ _ _ _ (some ⟨b, o, none⟩) 0 hown3.out ((M2.out.mono (fun _ _ h => h.elim)).trans hm3.out) ?_ ⟨HDK.out, by omega, by omega, b, o, rfl, Or.inl (by omega)⟩ ⟨o, rfl⟩
    rcases hg3.out with h | h
    · exact Or.inl h
    · exact Or.inr (by rw [h]; exact M2.out.size)
  · go_wp2_with (at_builtin; go_must (refine wpList_app8 rfl (.tmp 157) (.tmp 161) rfl base g ol.length c ol rfl rfl (HOWN.out.mod M2.out id) (some ⟨g2, 0, none⟩) (12 + k) c2 (chunkL nIDAT (data.take k)) HLEN.out O2.out.slb rfl (fun h => by omega) (by omega) (Nat.le_trans hbase M2.out.size) ?_; intro g3 c3 w3 hown3 hm3 hg3))
    refine HQ.out w3 g3 c3 _ _ _ _ _ _ _ _ _ (some ⟨b, o + k, none⟩) (cp - k) hown3.out ((M2.out.mono (fun _ _ h => h.elim)).trans hm3.out) ?_ ⟨HDK.out, by omega, by omega, b, o + k, rfl, Or.inr ?_⟩ ⟨_, rfl⟩
    · rcases hg3.out with h | h
      · exact Or.inl h
      · exact Or.inr (by rw [h]; exact M2.out.size)
    · intro i hi
      have hi2 : k + i < data.length := by have := HDK.out; have := HDL.out; omega
      have := HBY.out (k + i) hi2
      have h2 := M2.out.cell (lt_of_cell this) id (o + (k + i))
      have h3 := hm3.out.cell (lt_of_cell (h2.trans this)) hbg (o + (k + i))
      have h4 := h3.trans (h2.trans this)
      rw [List.getElem_drop, Nat.add_assoc]
      exact h4

/-- The cells of how a file is made. -/
structure BldAt (w : World) (B : Nat) (fa : Option Addr) (fn fc sz ways : Nat) (ca : Option Addr) (cn cc : Nat) : Prop where
  f : w.cell? ⟨B, 0, none⟩ = some (.slice fa fn fc)
  s : w.cell? ⟨B, 1, none⟩ = some (.int .i64 sz)
  y : w.cell? ⟨B, 2, none⟩ = some (.int .i64 ways)
  c : w.cell? ⟨B, 3, none⟩ = some (.slice ca cn cc)
theorem BldAt.mod {w w' : World} {B : Nat} {fa : Option Addr} {fn fc sz ways : Nat} {ca : Option Addr} {cn cc : Nat} (h : BldAt w B fa fn fc sz ways ca cn cc) {S : Nat → Prop} (m : Mod S w w') (hS : ¬ S B) : BldAt w' B fa fn fc sz ways ca cn cc := by
  have hb := lt_of_cell h.f
  exact ⟨(m.cell hb hS _).trans h.f, (m.cell hb hS _).trans h.s, (m.cell hb hS _).trans h.y, (m.cell hb hS _).trans h.c⟩
theorem idatsL_step (cuts data : List UInt8) (k : Nat) (h : 0 < data.length) : ∃ n, n ≤ data.length ∧ idatsL (cuts.drop k) data = chunkL nIDAT (data.take n) ++ idatsL (cuts.drop (k + 1)) (data.drop n) ∧
    ((∃ hk : k < cuts.length, n = min (cuts[k].toNat) data.length) ∨ cuts.length ≤ k ∧ n = data.length) := by
  have hd : data ≠ [] := List.length_pos_iff.1 h
  by_cases hk : k < cuts.length
  · refine ⟨min (cuts[k].toNat) data.length, Nat.min_le_right _ _, ?_, Or.inl ⟨hk, rfl⟩⟩
    rw [List.drop_eq_getElem_cons hk, idatsL, if_neg hd]
    rcases Nat.le_total (cuts[k].toNat) data.length with h1 | h1
    · rw [Nat.min_eq_left h1]
    · rw [Nat.min_eq_right h1, List.take_of_length_le h1, List.take_of_length_le (Nat.le_refl _), List.drop_of_length_le h1, List.drop_of_length_le (Nat.le_refl _)]
  · refine ⟨data.length, Nat.le_refl _, ?_, Or.inr ⟨by omega, rfl⟩⟩
    rw [List.drop_of_length_le (by omega), List.drop_of_length_le (by omega), idatsL, if_neg hd, List.take_of_length_le (Nat.le_refl _), List.drop_of_length_le (Nat.le_refl _), idatsL_nil]; simp

theorem idatsL_length (cuts : List UInt8) : ∀ data, (idatsL cuts data).length ≤ data.length + 12 * (cuts.length + 1) := by
  induction cuts with
  | nil => intro data; unfold idatsL; split <;> simp [chunkL_length nIDAT _ rfl]; omega
  | cons c t ih =>
    intro data
    unfold idatsL
    split
    · simp
    · have := ih (data.drop c.toNat)
      rw [List.length_append, chunkL_length nIDAT _ rfl, List.length_take, List.length_cons]
      rw [List.length_drop] at this
      omega

theorem chunkL_len (name data : List UInt8) (hn : name.length = 4) : (chunkL name data).length = data.length + 12 := by rw [chunkL_length _ _ hn]; omega

set_option maxRecDepth 100000 in
set_option maxHeartbeats 4000000 in
theorem idat_loop (w : World) (base BB gd cd g c : Nat) (fa : Option Addr) (fn fc sz ways : Nat) (ca : Option Addr) (cn cc : Nat) (ol data cuts : List UInt8) (hbase : base ≤ w.heap.size) (hown : Own8 w base g c ol) (hod : Own8 w base gd cd data) (hne : gd ≠ g) (hbl : BldAt w BB fa fn fc sz ways ca cn cc) (hB : BB ≠ g) (hcn : cuts.length = cn)
    (hcu : ∀ w', Mod (fun k => k = g) w w' → SlB w' ca cuts) (hdn : data.length ≤ 200000000) (hon : ol.length ≤ 1000000000) (hcn2 : cn ≤ 1000)
    (u0 u1 u2 u3 u4 u5 u6 u7 u8 u9 u10 u12 u13 u14 u15 u16 u18 u19 u20 u21 u22 u23 u24 u27 u28 u29 u30 u31 u32 u33 u34 u35 u36 u37 u38 u39 u40 u41 u42 u43 u44 u45 u46 u47 u48 u49 u50 u51 u52 u53 u54 u55 u56 u57 u58 u59 u60 u61 u62 u63 u64 u65 u66 u67 u68 u69 u70 u71 u72 u73 u74 u75 u76 u77 u78 u79 u80 u81 u82 u83 u84 u85 u86 u87 u88 u89 u90 u91 u92 u93 u94 u95 u96 u97 u98 u99 u100 u101 u102 u103 u104 u105 u106 u107 u108 u109 u110 u111 u112 u113 u114 u115 u116 u117 u118 u119 u120 u121 u122 u123 u124 u125 u126 u127 u128 u129 u130 u131 u132 u133 u134 u135 u136 u137 u138 u139 u140 u141 u142 u143 u144 u145 u146 u147 u148 u149 u150 u151 u152 u153 u154 u155 u156 u157 u158 u159 u160 u161 u162 u163 u164 u165 u166 u167 u168 u169 u170 : Value) (Q : Exit → Act → World → Prop)
    (hQ : ∀ w' g' c' (v25 v26 v27 v137 v138 v139 v140 v141 v142 v143 v144 v145 v146 v147 v148 v149 v150 v151 v152 v153 v154 v155 v156 v157 v158 v159 v160 v161 v162 v163 v164 v165 : Value), Own8 w' base g' c' (ol ++ idatsL cuts data) → Mod (fun k => k = g) w w' → (g' = g ∨ w.heap.size ≤ g') →
       Q .normal ⟨#[u0, u1, u2, u3, u4, u5, u6, u7, u8, u9, u10, .pointer (some ⟨BB, 0, none⟩), u12, u13, u14, u15, u16, .slice (some ⟨g', 0, none⟩) (ol ++ idatsL cuts data).length c', u18, u19, u20, u21, u22, u23, u24, v25, v26, v27, u28, u29, u30, u31, u32, u33, u34, u35, u36, u37, u38, u39, u40, u41, u42, u43, u44, u45, u46, u47, u48, u49, u50, u51, u52, u53, u54, u55, u56, u57, u58, u59, u60, u61, u62, u63, u64, u65, u66, u67, u68, u69, u70, u71, u72, u73, u74, u75, u76, u77, u78, u79, u80, u81, u82, u83, u84, u85, u86, u87, u88, u89, u90, u91, u92, u93, u94, u95, u96, u97, u98, u99, u100, u101, u102, u103, u104, u105, u106, u107, u108, u109, u110, u111, u112, u113, u114, u115, u116, u117, u118, u119, u120, u121, u122, u123, u124, u125, u126, u127, u128, u129, u130, u131, u132, u133, u134, u135, u136, v137, v138, v139, v140, v141, v142, v143, v144, v145, v146, v147, v148, v149, v150, v151, v152, v153, v154, v155, v156, v157, v158, v159, v160, v161, v162, v163, v164, v165, u166, u167, u168, u169, u170], []⟩ w') :
    Code.wp Tryz.prog (navc [1, 1, 1, 1, 1, 1, 1, 1, 1, 1, 1, 1, 0, 1] (textOf Tryz.f40)) Q
      ⟨#[u0, u1, u2, u3, u4, u5, u6, u7, u8, u9, u10, .pointer (some ⟨BB, 0, none⟩), u12, u13, u14, u15, u16, .slice (some ⟨g, 0, none⟩) ol.length c, u18, u19, u20, u21, u22, u23, u24, .slice (some ⟨gd, 0, none⟩) data.length cd, .int .i64 0, u27, u28, u29, u30, u31, u32, u33, u34, u35, u36, u37, u38, u39, u40, u41, u42, u43, u44, u45, u46, u47, u48, u49, u50, u51, u52, u53, u54, u55, u56, u57, u58, u59, u60, u61, u62, u63, u64, u65, u66, u67, u68, u69, u70, u71, u72, u73, u74, u75, u76, u77, u78, u79, u80, u81, u82, u83, u84, u85, u86, u87, u88, u89, u90, u91, u92, u93, u94, u95, u96, u97, u98, u99, u100, u101, u102, u103, u104, u105, u106, u107, u108, u109, u110, u111, u112, u113, u114, u115, u116, u117, u118, u119, u120, u121, u122, u123, u124, u125, u126, u127, u128, u129, u130, u131, u132, u133, u134, u135, u136, u137, u138, u139, u140, u141, u142, u143, u144, u145, u146, u147, u148, u149, u150, u151, u152, u153, u154, u155, u156, u157, u158, u159, u160, u161, u162, u163, u164, u165, u166, u167, u168, u169, u170], []⟩ w := by
  conv => arg 2; whnf
  dsimp only
  have hcd := hod.cap
  have hgd := hod.base
  have HQ := Lib.hid hQ; have HOWN := Lib.hid hown; have HOD := Lib.hid hod; have HBL := Lib.hid hbl; have HCN := Lib.hid hcn; have HCU := Lib.hid hcu
  clear hQ hown hod hbl hcn hcu
  have htl := idatsL_length cuts data
  have HTL : Hid ((ol ++ idatsL cuts data).length ≤ 1400000000) := Lib.hid (by rw [List.length_append]; have := HCN.out; omega)
  clear htl
  go_wp2
  go_loopg [17, 25, 26, 27] ((cn - 0) + data.length) (fun gk v17 v25 v26 _ wr => ∃ k rem cp g1 c1 : Nat, ∃ A : Option Addr, ∃ out data1 : List UInt8, gk = (cn - k) + rem ∧ v26 = .int .i64 k ∧ v25 = .slice A rem cp ∧ Left wr A rem cp data1 ∧ (∃ o, A = some ⟨gd, o, none⟩) ∧
    v17 = .slice (some ⟨g1, 0, none⟩) out.length c1 ∧ Own8 wr base g1 c1 out ∧ out ++ idatsL (cuts.drop k) data1 = ol ++ idatsL cuts data ∧ Mod (fun k => k = g) w wr ∧ (g1 = g ∨ w.heap.size ≤ g1) ∧ (k ≤ cn ∨ rem = 0 ∧ k ≤ cn + 1) ∧ rem ≤ data.length)
  case atStart => exact ⟨0, data.length, cd, g, c, some ⟨gd, 0, none⟩, ol, data, rfl, rfl, rfl, ⟨rfl, hcd.1, hcd.2, gd, 0, rfl, Or.inr HOD.out.bytes⟩, ⟨0, rfl⟩, rfl, HOWN.out, by simp, Mod.refl _ _, Or.inl rfl, Or.inl (by omega), Nat.le_refl _⟩
  case round =>
    obtain ⟨k, rem, cp, g1, c1, A, out, data1, hk, rfl, rfl, left, ⟨o, rfl⟩, rfl, own, tot, mm, hg1, hkb, hrd⟩ := hrel
    obtain ⟨hlen, hle, hcap, b', o', he, hby⟩ := left
    cases he
    have HK := Lib.hid hk; have LEN := Lib.hid hlen; have OWN := Lib.hid own; have TOT := Lib.hid tot; have MM := Lib.hid mm
    clear hk hlen own tot mm
    by_cases hr : 0 < rem
    · replace hby : Bytes wr gd o data1 := by
        rcases hby with h | h
        · omega
        · exact h
      have hkb2 : k ≤ cn := by omega
      obtain ⟨NN, hNN, hstep, hcase⟩ := idatsL_step cuts data1 k (by rw [LEN.out]; exact hr)
      rw [LEN.out] at hNN hcase
      have HSTEP := Lib.hid hstep
      have hbl := (HBL.out.mod MM.out hB).c
      have hgg : gd ≠ g1 := by omega
      have hkb2 : k ≤ cn := by omega
      have hTL := HTL.out
      have hob : out.length ≤ 1400000000 := by rw [← TOT.out, List.length_append] at hTL; omega
      clear hstep hTL hkb
      rcases hcase with ⟨hkl, hmin⟩ | ⟨hkl, hmin⟩
      · have hcu := HCU.out wr MM.out
        obtain ⟨cb, co, rfl, hcb⟩ := hcu.some k hkl
        have hcell := hcb k hkl
        have hklt : k < cn := by have := HCN.out; omega
        have hu := (cuts[k]).toNat_lt
        have HMIN := Lib.hid hmin
        clear hcb hcu hmin
        generalize (cuts[k]) = cv at *
        by_cases hcl : cv.toNat ≤ rem
        · have hn : NN = cv.toNat := by rw [HMIN.out]; exact Nat.min_eq_left hcl
          subst hn
          clear HMIN
          go_upto_if 148 with fail
          rename_i K hK
          have hK2 := fun (a : Act) (w : World) (h : Hid _) => hK a w h.out
          clear hK
          go_wp2
          refine Lib.hid ?_
          refine idat_put wr base gd o rem cp cv.toNat g1 out.length c1 out data1 (Nat.le_trans hbase MM.out.size) OWN.out rfl LEN.out hle hcap hby hgg (by omega) (by omega) (by omega) _ _ _ _ _ _ _ _ _ _ _ _ _ _ _ _ _ _ _ _ _ _ _ _ _ _ _ _ _ _ _ _ _ _ _ _ _ _ _ _ _ _ _ _ _ _ _ _ _ _ _ _ _ _ _ _ _ _ _ _ _ _ _ _ _ _ _ _ _ _ _ _ _ _ _ _ _ _ _ _ _ _ _ _ _ _ _ _ _ _ _ _ _ _ _ _ _ _ _ _ _ _ _ _ _ _ _ _ _ _ _ _ _ _ _ _ _ _ _ _ _ _ _ _ _ _ _ _ _ _ _ _ _ _ _ _ _ _ _ _ _ _ _ _ _ _ _ _ _ _ _ _ _ _ _ _ _ _ _ _ _ _ _ _ _ _ _ _ _ ?_
          intro w2 g2 c2 _ _ _ _ _ _ _ _ _ A2 cp2 own2 m2 hg2 left2 hA2
          have htot : (out ++ chunkL nIDAT (data1.take cv.toNat)) ++ idatsL (cuts.drop (k + 1)) (data1.drop cv.toNat) = ol ++ idatsL cuts data := by
            rw [List.append_assoc, ← HSTEP.out, TOT.out]
          have m3 : Mod (fun k => k = g) w w2 := MM.out.then m2 (fun k hk h => by omega)
          have hl2 : out.length + (12 + cv.toNat) = (out ++ chunkL nIDAT (data1.take cv.toNat)).length := by
            rw [List.length_append, chunkL_length nIDAT _ rfl, List.length_take, LEN.out]; omega
          rw [hl2]
          generalize hout2 : out ++ chunkL nIDAT (data1.take _) = out2 at *
          clear hout2
          have hg3 : g2 = g ∨ w.heap.size ≤ g2 := by have := MM.out.size; omega
          have O2 := Lib.hid own2; have M3 := Lib.hid m3; have L2 := Lib.hid left2; have HA2 := Lib.hid hA2; have TOT2 := Lib.hid htot
          clear own2 m3 left2 hA2 htot hl2 m2 hg2 OWN MM TOT HSTEP LEN hby
          go_wp2
          go_roundg ((cn - (k + 1)) + (rem - cv.toNat))
          case measure => have := HK.out; omega
          case rel => exact ⟨k + 1, rem - cv.toNat, cp2, g2, c2, A2, _, _, rfl, by go_num, rfl, L2.out, HA2.out, rfl, O2.out, TOT2.out, M3.out, hg3, by omega, by omega⟩
        · have hn : NN = rem := by rw [HMIN.out]; exact Nat.min_eq_right (by omega)
          subst hn
          clear HMIN
          go_upto_if 148 with fail
          rename_i K hK
          have hK2 := fun (a : Act) (w : World) (h : Hid _) => hK a w h.out
          clear hK
          go_wp2
          refine Lib.hid ?_
          refine idat_put wr base gd o NN cp NN g1 out.length c1 out data1 (Nat.le_trans hbase MM.out.size) OWN.out rfl LEN.out hle hcap hby hgg (by omega) (by omega) (by omega) _ _ _ _ _ _ _ _ _ _ _ _ _ _ _ _ _ _ _ _ _ _ _ _ _ _ _ _ _ _ _ _ _ _ _ _ _ _ _ _ _ _ _ _ _ _ _ _ _ _ _ _ _ _ _ _ _ _ _ _ _ _ _ _ _ _ _ _ _ _ _ _ _ _ _ _ _ _ _ _ _ _ _ _ _ _ _ _ _ _ _ _ _ _ _ _ _ _ _ _ _ _ _ _ _ _ _ _ _ _ _ _ _ _ _ _ _ _ _ _ _ _ _ _ _ _ _ _ _ _ _ _ _ _ _ _ _ _ _ _ _ _ _ _ _ _ _ _ _ _ _ _ _ _ _ _ _ _ _ _ _ _ _ _ _ _ _ _ _ ?_
          intro w2 g2 c2 _ _ _ _ _ _ _ _ _ A2 cp2 own2 m2 hg2 left2 hA2
          have htot : (out ++ chunkL nIDAT (data1.take NN)) ++ idatsL (cuts.drop (k + 1)) (data1.drop NN) = ol ++ idatsL cuts data := by
            rw [List.append_assoc, ← HSTEP.out, TOT.out]
          have m3 : Mod (fun k => k = g) w w2 := MM.out.then m2 (fun k hk h => by omega)
          have hl2 : out.length + (12 + NN) = (out ++ chunkL nIDAT (data1.take NN)).length := by
            rw [List.length_append, chunkL_length nIDAT _ rfl, List.length_take, LEN.out]; omega
          rw [hl2]
          generalize hout2 : out ++ chunkL nIDAT (data1.take _) = out2 at *
          clear hout2
          have hg3 : g2 = g ∨ w.heap.size ≤ g2 := by have := MM.out.size; omega
          have O2 := Lib.hid own2; have M3 := Lib.hid m3; have L2 := Lib.hid left2; have HA2 := Lib.hid hA2; have TOT2 := Lib.hid htot
          clear own2 m3 left2 hA2 htot hl2 m2 hg2 OWN MM TOT HSTEP LEN hby
          go_wp2
          go_roundg ((cn - (k + 1)) + (NN - NN))
          case measure => have := HK.out; omega
          case rel => exact ⟨k + 1, NN - NN, cp2, g2, c2, A2, _, _, rfl, by go_num, rfl, L2.out, HA2.out, rfl, O2.out, TOT2.out, M3.out, hg3, by omega, by omega⟩
      · have hn : NN = rem := hmin
        clear hmin
        subst hn
        have hklt : ¬ k < cn := by have := HCN.out; omega
        go_upto_if 148 with fail
        rename_i K hK
        have hK2 := fun (a : Act) (w : World) (h : Hid _) => hK a w h.out
        clear hK
        go_wp2
        refine Lib.hid ?_
        refine idat_put wr base gd o NN cp NN g1 out.length c1 out data1 (Nat.le_trans hbase MM.out.size) OWN.out rfl LEN.out hle hcap hby hgg (by omega) (by omega) (by omega) _ _ _ _ _ _ _ _ _ _ _ _ _ _ _ _ _ _ _ _ _ _ _ _ _ _ _ _ _ _ _ _ _ _ _ _ _ _ _ _ _ _ _ _ _ _ _ _ _ _ _ _ _ _ _ _ _ _ _ _ _ _ _ _ _ _ _ _ _ _ _ _ _ _ _ _ _ _ _ _ _ _ _ _ _ _ _ _ _ _ _ _ _ _ _ _ _ _ _ _ _ _ _ _ _ _ _ _ _ _ _ _ _ _ _ _ _ _ _ _ _ _ _ _ _ _ _ _ _ _ _ _ _ _ _ _ _ _ _ _ _ _ _ _ _ _ _ _ _ _ _ _ _ _ _ _ _ _ _ _ _ _ _ _ _ _ _ _ _ ?_
        intro w2 g2 c2 _ _ _ _ _ _ _ _ _ A2 cp2 own2 m2 hg2 left2 hA2
        have htot : (out ++ chunkL nIDAT (data1.take NN)) ++ idatsL (cuts.drop (k + 1)) (data1.drop NN) = ol ++ idatsL cuts data := by
          rw [List.append_assoc, ← HSTEP.out, TOT.out]
        have m3 : Mod (fun k => k = g) w w2 := MM.out.then m2 (fun k hk h => by omega)
        have hl2 : out.length + (12 + NN) = (out ++ chunkL nIDAT (data1.take NN)).length := by
          rw [List.length_append, chunkL_length nIDAT _ rfl, List.length_take, LEN.out]; omega
        rw [hl2]
        generalize hout2 : out ++ chunkL nIDAT (data1.take _) = out2 at *
        clear hout2
        have hg3 : g2 = g ∨ w.heap.size ≤ g2 := by have := MM.out.size; omega
        have O2 := Lib.hid own2; have M3 := Lib.hid m3; have L2 := Lib.hid left2; have HA2 := Lib.hid hA2; have TOT2 := Lib.hid htot
        clear own2 m3 left2 hA2 htot hl2 m2 hg2 OWN MM TOT HSTEP LEN hby
        go_wp2
        go_roundg ((cn - (k + 1)) + (NN - NN))
        case measure => have := HK.out; omega
        case rel => exact ⟨k + 1, NN - NN, cp2, g2, c2, A2, _, _, rfl, by go_num, rfl, L2.out, HA2.out, rfl, O2.out, TOT2.out, M3.out, hg3, by omega, by omega⟩
    · obtain rfl : rem = 0 := by omega
      obtain rfl : data1 = [] := List.eq_nil_of_length_eq_zero LEN.out
      have htot := TOT.out
      rw [idatsL_nil, List.append_nil] at htot
      subst htot
      have hq := HQ.out
      simp only [List.length_append] at hq
      have HQ2 := Lib.hid hq
      clear hq
      go_wp2
      exact HQ2.out wr g1 c1 _ _ _ _ _ _ _ _ _ _ _ _ _ _ _ _ _ _ _ _ _ _ _ _ _ _ _ _ _ _ _ _ OWN.out MM.out hg1
end Go.Proofs.YtnpkgmgedgcjmaaGreatDoor
