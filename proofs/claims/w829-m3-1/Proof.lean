import JvmDerived
import JvmDerived.Pilot.@@N@@Statement
import JvmDerived.Pilot.@@N@@Code
set_option linter.unusedVariables false
set_option linter.unusedSimpArgs false
@@BLOCK:NumsL.lean.txt@@
@@BLOCK:Masks.lean.txt@@
namespace Jvm.Pilot.@@N@@
open Jvm Jvm.ClassFile Sem Op Lib Jvm.Free Jvm.Stand Jvm.LawKit Jvm.RoadKit Bundle Jvm.Pilot.@@N@@.Jvm.D
def own_G (tb : Tables) (e : Env) (below : List Frame) (En : Outcome → State → List Loc → Prop) (Q : Option Value → Heap → List Loc → Prop) (U : State) : Prop :=
  ∃ t o, Steps tb e below U t ∧ t.status = .running ∧ Ended t below o ∧ ∃ v L, o = .returned v ∧ Q v t.heap L ∧ En o t L
/-- the frame at the end, counted from s -/
def own_E (s : State) (nc ns : Nat) (o : Outcome) (t : State) (L : List Loc) : Prop := FrameEnd s o t L nc ns
theorem own_st {tb : Tables} {e : Env} {below : List Frame} {En : Outcome → State → List Loc → Prop} {Q : Option Value → Heap → List Loc → Prop} {U U' : State} (h : own_G tb e below En Q U') (st : ∀ t, Steps tb e below U' t → Steps tb e below U t) : own_G tb e below En Q U := by
  obtain ⟨t, o, h1, h2⟩ := h
  exact ⟨t, o, st t h1, h2⟩
section OwnRet
variable {p : Program} {l : Launch} {e : Env} {R : Room} {s : State} {m : MethodId} {args : Array Value} {below : List Frame} {meth : Method} {c : Code} {T : State} {locs : List Loc} {cells slots : Nat}
theorem own_retN (X : Stand p l e R s m args below meth c T locs cells slots) (hx : p.tables.exec = Jvm.exec) (hlk : meth.locks = false) {pc : Nat} {Ls : Array Slot} {z z' : Int32} {t : FieldType} {rest : List Value} (hret : meth.sig.returnType = some t) (ht : t = .boolean ∨ t = .byte ∨ t = .char ∨ t = .short)
    (hd : decode c.code pc = .ok (.ireturn, 1)) {Q : Option Value → Heap → List Loc → Prop} {nc ns : Nat} (hc : cells ≤ nc) (hs : slots ≤ ns) (hz : nar t z = z') (hQ : Q (some (.int z')) T.heap locs) : own_G p.tables e below (own_E s nc ns) Q (T.setTop (mkF m pc Ls (.int z :: rest))) := by
  subst hz
  obtain ⟨fs, hr, hrun, hended, hW, hsame⟩ := X.leave (v := some (.int (nar t z))) (fun h => by rw [hret] at h; cases h) hlk
  exact ⟨_, _, retN X hx hret ht hd hr, hrun, hended, _, _, rfl, hQ, ⟨_, rfl⟩, hW, hsame.mono hc hs⟩
theorem own_retI (X : Stand p l e R s m args below meth c T locs cells slots) (hx : p.tables.exec = Jvm.exec) (hlk : meth.locks = false) {pc : Nat} {Ls : Array Slot} {z : Int32} {rest : List Value} (hret : meth.sig.returnType = some .int)
    (hd : decode c.code pc = .ok (.ireturn, 1)) {Q : Option Value → Heap → List Loc → Prop} {nc ns : Nat} (hc : cells ≤ nc) (hs : slots ≤ ns) (hQ : Q (some (.int z)) T.heap locs) : own_G p.tables e below (own_E s nc ns) Q (T.setTop (mkF m pc Ls (.int z :: rest))) := by
  obtain ⟨fs, hr, hrun, hended, hW, hsame⟩ := X.leave (v := some (.int z)) (fun h => by rw [hret] at h; cases h) hlk
  exact ⟨_, _, retOut X hx hret rfl (Or.inl ⟨rfl, Or.inl rfl, _, rfl⟩) hd hr, hrun, hended, _, _, rfl, hQ, ⟨_, rfl⟩, hW, hsame.mono hc hs⟩
theorem own_retJ (X : Stand p l e R s m args below meth c T locs cells slots) (hx : p.tables.exec = Jvm.exec) (hlk : meth.locks = false) {pc : Nat} {Ls : Array Slot} {z : Int64} {rest : List Value} (hret : meth.sig.returnType = some .long)
    (hd : decode c.code pc = .ok (.lreturn, 1)) {Q : Option Value → Heap → List Loc → Prop} {nc ns : Nat} (hc : cells ≤ nc) (hs : slots ≤ ns) (hQ : Q (some (.long z)) T.heap locs) : own_G p.tables e below (own_E s nc ns) Q (T.setTop (mkF m pc Ls (.long z :: rest))) := by
  obtain ⟨fs, hr, hrun, hended, hW, hsame⟩ := X.leave (v := some (.long z)) (fun h => by rw [hret] at h; cases h) hlk
  exact ⟨_, _, retOut X hx hret rfl (Or.inr (Or.inl ⟨rfl, rfl, _, rfl⟩)) hd hr, hrun, hended, _, _, rfl, hQ, ⟨_, rfl⟩, hW, hsame.mono hc hs⟩
theorem own_retA (X : Stand p l e R s m args below meth c T locs cells slots) (hx : p.tables.exec = Jvm.exec) (hlk : meth.locks = false) {pc : Nat} {Ls : Array Slot} {z : Value} {t : FieldType} {rest : List Value} (hret : meth.sig.returnType = some t) (ht : t.isReference = true) (hn : narrow t z = z) (hv : z.isRef = true)
    (hd : decode c.code pc = .ok (.areturn, 1)) {Q : Option Value → Heap → List Loc → Prop} {nc ns : Nat} (hc : cells ≤ nc) (hs : slots ≤ ns) (hQ : Q (some z) T.heap locs) : own_G p.tables e below (own_E s nc ns) Q (T.setTop (mkF m pc Ls (z :: rest))) := by
  obtain ⟨fs, hr, hrun, hended, hW, hsame⟩ := X.leave (v := some z) (fun h => by rw [hret] at h; cases h) hlk
  exact ⟨_, _, retOut X hx hret hn (Or.inr (Or.inr (Or.inr (Or.inr ⟨rfl, ht, hv⟩)))) hd hr, hrun, hended, _, _, rfl, hQ, ⟨_, rfl⟩, hW, hsame.mono hc hs⟩
theorem own_retV (X : Stand p l e R s m args below meth c T locs cells slots) (hx : p.tables.exec = Jvm.exec) (hlk : meth.locks = false) {pc : Nat} {Ls : Array Slot} (hret : meth.sig.returnType = none)
    (hd : decode c.code pc = .ok (.return_, 1)) {Q : Option Value → Heap → List Loc → Prop} {nc ns : Nat} (hc : cells ≤ nc) (hs : slots ≤ ns) (hQ : Q none T.heap locs) : own_G p.tables e below (own_E s nc ns) Q (T.setTop (mkF m pc Ls [])) := by
  obtain ⟨fs, hr, hrun, hended, hW, hsame⟩ := X.leave (v := none) (fun _ => rfl) hlk
  exact ⟨_, _, X.returnOut hx hret hd hr, hrun, hended, _, _, rfl, hQ, ⟨_, rfl⟩, hW, hsame.mono hc hs⟩
/-- the wide frame at the end: Strings may have been interned -/
def own_EW (s : State) (nc ns : Nat) (o : Outcome) (t : State) (L : List Loc) : Prop := ReturnedEndW s o t L nc ns
theorem own_retNW {vm1 : Vm} (X : Stand p l e R (s.setVm vm1) m args below meth c T locs cells slots) (hx : p.tables.exec = Jvm.exec) (hlk : meth.locks = false) {k : Nat} (hS : s.Since vm1 k) (hk : k ≤ T.heap.size) {pc : Nat} {Ls : Array Slot} {z z' : Int32} {t : FieldType} {rest : List Value} (hret : meth.sig.returnType = some t) (ht : t = .boolean ∨ t = .byte ∨ t = .char ∨ t = .short)
    (hd : decode c.code pc = .ok (.ireturn, 1)) {Q : Option Value → Heap → List Loc → Prop} {nc ns : Nat} (hc : cells ≤ nc) (hs : slots ≤ ns) (hz : nar t z = z') (hQ : Q (some (.int z')) T.heap locs) : own_G p.tables e below (own_EW s nc ns) Q (T.setTop (mkF m pc Ls (.int z :: rest))) := by
  subst hz
  obtain ⟨fs, hr, hrun, hended, h1, h2, h3, h4⟩ := X.leaveW hS hk (v := some (.int (nar t z))) (fun h => by rw [hret] at h; cases h) hlk
  exact ⟨_, _, retN X hx hret ht hd hr, hrun, hended, _, _, rfl, hQ, h1, h2, h3, h4.mono hc hs⟩
theorem own_retVW {vm1 : Vm} (X : Stand p l e R (s.setVm vm1) m args below meth c T locs cells slots) (hx : p.tables.exec = Jvm.exec) (hlk : meth.locks = false) {k : Nat} (hS : s.Since vm1 k) (hk : k ≤ T.heap.size) {pc : Nat} {Ls : Array Slot} (hret : meth.sig.returnType = none)
    (hd : decode c.code pc = .ok (.return_, 1)) {Q : Option Value → Heap → List Loc → Prop} {nc ns : Nat} (hc : cells ≤ nc) (hs : slots ≤ ns) (hQ : Q none T.heap locs) : own_G p.tables e below (own_EW s nc ns) Q (T.setTop (mkF m pc Ls [])) := by
  obtain ⟨fs, hr, hrun, hended, h1, h2, h3, h4⟩ := X.leaveW hS hk (v := none) (fun _ => rfl) hlk
  exact ⟨_, _, X.returnOut hx hret hd hr, hrun, hended, _, _, rfl, hQ, h1, h2, h3, h4.mono hc hs⟩
end OwnRet
/-- it returns r; nothing old is written (own_QV: the heap is as it was) -/
def own_QL (r : Value) (n0 : Nat) (v : Option Value) (h : Heap) (L : List Loc) : Prop := v = some r ∧ Fr n0 L
def own_QN (h0 : Heap) (n0 : Nat) (v : Option Value) (h : Heap) (L : List Loc) : Prop := v = none ∧ Fr n0 L ∧ h = h0
def own_QV (r : Value) (h0 : Heap) (n0 : Nat) (v : Option Value) (h : Heap) (L : List Loc) : Prop := v = some r ∧ Fr n0 L ∧ h = h0
def own_upd (g : Nat → Int32) (j : Nat) (x : Int32) : Nat → Int32 := fun i => if i = j then x else g i
theorem own_upd_eq {g : Nat → Int32} {j : Nat} {x : Int32} : own_upd g j x j = x := if_pos rfl
theorem own_upd_ne {g : Nat → Int32} {i j : Nat} {x : Int32} (h : ¬ i = j) : own_upd g j x i = g i := if_neg h
/-- the kinds of values: a char -/
def own_isC (c : Int32) : Prop := 0 ≤ c.toInt ∧ c.toInt ≤ 65535
theorem own_nat32 {x : Int32} {n : Nat} (h : x.toInt = n) : x.toBitVec.toNat = n := by
  have q : x.toBitVec.toInt = n := h
  have hb := x.toBitVec.isLt
  rw [BitVec.toInt_eq_toNat_cond] at q
  split at q <;> omega
theorem own_int32 {x : Int32} {n : Nat} (h : x.toBitVec.toNat = n) (hn : n < 2 ^ 31) : x.toInt = n := by
  show x.toBitVec.toInt = n
  rw [BitVec.toInt_eq_toNat_cond, h, if_pos (by omega)]
theorem own_or32 {x y : Int32} {a c k : Nat} (hx : x.toInt = a) (hy : y.toInt = ((2 ^ k * c : Nat) : Int)) (ha : a < 2 ^ k) (hn : 2 ^ k * c + a < 2 ^ 31) : (x ||| y).toInt = ((2 ^ k * c + a : Nat) : Int) := by
  refine own_int32 ?_ hn
  rw [Int32.toBitVec_or, BitVec.toNat_or, own_nat32 hx, own_nat32 hy, Nat.or_comm, ← Nat.two_pow_add_eq_or_of_lt ha]
theorem own_chr_toInt (x : Int32) : (x.toUInt32.toUInt16.toUInt32.toInt32).toInt = x.toInt % 65536 := by
  have hb := x.toBitVec.isLt
  have e1 : (x.toUInt32.toUInt16.toUInt32.toInt32).toBitVec.toNat = x.toBitVec.toNat % 65536 := by
    show (x.toUInt32.toUInt16.toUInt32).toNat = _
    simp
    rfl
  rw [own_int32 e1 (by omega)]
  have q : x.toInt = x.toBitVec.toInt := rfl
  rw [q, BitVec.toInt_eq_toNat_cond]
  split <;> omega
theorem own_chr_id {x : Int32} (h : own_isC x) : x.toUInt32.toUInt16.toUInt32.toInt32 = x := by
  refine Int32.toInt_inj.mp ?_
  rw [own_chr_toInt]; have := h.1; have := h.2; omega
theorem own_byte_and (x : Int32) : ((x.toInt8.toInt32) &&& (255 : Int32)).toInt = x.toInt % 256 := by
  rw [Jvm.Kit.i32_mask _ 255 (k := 8) (by decide) (by decide), Int8.toInt_toInt32, Int32.toInt_toInt8, Int.bmod_def]; omega
theorem own_byte_idem (x : Int32) : x.toInt8.toInt32.toInt8.toInt32 = x.toInt8.toInt32 := by
  refine Int32.toInt_inj.mp ?_
  rw [Int8.toInt_toInt32, Int32.toInt_toInt8, Int8.toInt_toInt32, Int32.toInt_toInt8, Int.bmod_def, Int.bmod_def]; omega
/-- what compress writes, read by StringLatin1.charAt -/
theorem own_lat {c : Int32} (h0 : own_isC c) (h : c.toInt ≤ 255) : nar .char (((nar .byte (c.toInt8.toInt32)) &&& (255 : Int32)).toUInt32.toUInt16.toUInt32.toInt32) = c := by
  have e : ((nar .byte (c.toInt8.toInt32)) &&& (255 : Int32)) = c := by
    refine Int32.toInt_inj.mp ?_
    show ((c.toInt8.toInt32.toInt8.toInt32) &&& (255 : Int32)).toInt = _
    rw [own_byte_idem, own_byte_and]; have := h0.1; omega
  rw [e]
  show (c.toUInt32.toUInt16.toUInt32.toInt32).toUInt32.toUInt16.toUInt32.toInt32 = c
  rw [own_chr_id h0, own_chr_id h0]
def own_lo (c : Int32) : Int32 := nar .byte ((c >>> ((0 : Int32) &&& 31)).toInt8.toInt32)
def own_hi (c : Int32) : Int32 := nar .byte ((c >>> ((8 : Int32) &&& 31)).toInt8.toInt32)
/-- what putChar writes, read by getChar -/
theorem own_utf {c : Int32} (h0 : own_isC c) : nar .char ((((own_lo c &&& (255 : Int32)) <<< ((0 : Int32) &&& 31)) ||| ((own_hi c &&& (255 : Int32)) <<< ((8 : Int32) &&& 31))).toUInt32.toUInt16.toUInt32.toInt32) = c := by
  have h1 := h0.1
  have h2 := h0.2
  have s0 : (c >>> ((0 : Int32) &&& 31)).toInt = c.toInt := by rw [Jvm.Kit.i32_shr c _ (k := 0) (by decide)]; omega
  have s8 : (c >>> ((8 : Int32) &&& 31)).toInt = c.toInt / 256 := by rw [Jvm.Kit.i32_shr c _ (k := 8) (by decide)]; rfl
  have a0 : (own_lo c &&& (255 : Int32)).toInt = c.toInt % 256 := by
    show ((((c >>> ((0 : Int32) &&& 31)).toInt8.toInt32).toInt8.toInt32) &&& (255 : Int32)).toInt = _
    rw [own_byte_idem, own_byte_and, s0]
  have a8 : (own_hi c &&& (255 : Int32)).toInt = c.toInt / 256 := by
    show ((((c >>> ((8 : Int32) &&& 31)).toInt8.toInt32).toInt8.toInt32) &&& (255 : Int32)).toInt = _
    rw [own_byte_idem, own_byte_and, s8]; omega
  have b0 : ((own_lo c &&& (255 : Int32)) <<< ((0 : Int32) &&& 31)).toInt = ((c.toInt.toNat % 256 : Nat) : Int) := by
    rw [Jvm.Kit.i32_shl _ _ (k := 0) (by decide) (by rw [a0]; omega) (by rw [a0]; omega), a0]; omega
  have b8 : ((own_hi c &&& (255 : Int32)) <<< ((8 : Int32) &&& 31)).toInt = ((2 ^ 8 * (c.toInt.toNat / 256) : Nat) : Int) := by
    rw [Jvm.Kit.i32_shl _ _ (k := 8) (by decide) (by rw [a8]; omega) (by rw [a8]; omega), a8]; omega
  have e : (((own_lo c &&& (255 : Int32)) <<< ((0 : Int32) &&& 31)) ||| ((own_hi c &&& (255 : Int32)) <<< ((8 : Int32) &&& 31))) = c := by
    refine Int32.toInt_inj.mp ?_
    rw [own_or32 (k := 8) b0 b8 (by omega) (by omega)]; omega
  rw [e]
  show (c.toUInt32.toUInt16.toUInt32.toInt32).toUInt32.toUInt16.toUInt32.toInt32 = c
  rw [own_chr_id h0, own_chr_id h0]
/-- an array of n places that hold g -/
def own_Y (ty : FieldType) (Z : State) (h : Heap) (t : Addr) (n : Nat) (g : Nat → Int32) : Prop := ∃ c : Cell, Arr Z h t c ty ∧ c.slots.size = n ∧ ∀ i, i < n → c.slots[i]? = some (.int (g i))
theorem own_Y_new {ty : FieldType} {Z : State} {h : Heap} {t : Addr} {k : ClassId} {z : Int32} {n : Nat} (F : Arv Z h t k ty z [] (.int 0)) (hz : z.toNatClampNeg = n) : own_Y ty Z h t n (fun _ => 0) := by
  obtain ⟨c, A, -, S, -, H, -⟩ := F
  exact ⟨c, A, by rw [S, hz], fun i hi => H i (by rw [S, hz]; exact hi)⟩
theorem own_Y_set {ty : FieldType} {Z : State} {h h' : Heap} {t : Addr} {n : Nat} {g : Nat → Int32} {j : Int32} {k : Nat} {x : Int32} (F : own_Y ty Z h t n g) (W : Wr h h' t j.toNatClampNeg (.int x)) (e : j.toNatClampNeg = k) : own_Y ty Z h' t n (own_upd g k x) := by
  subst e
  obtain ⟨c, A, S, G⟩ := F
  refine ⟨c.setSlot j.toNatClampNeg (.int x), A.same W, by rw [sz_set]; exact S, fun i hi => ?_⟩
  by_cases e : i = j.toNatClampNeg
  · subst e; rw [own_upd_eq]; simp [Cell.setSlot, S, hi]
  · rw [own_upd_ne e]; simp only [Cell.setSlot]; rw [Array.getElem?_setIfInBounds_ne (Ne.symm e)]; exact G i hi
theorem own_Y_congr {ty : FieldType} {Z : State} {h : Heap} {t : Addr} {n n' : Nat} {g g' : Nat → Int32} (F : own_Y ty Z h t n g) (q : n = n') (e : ∀ i, i < n → g i = g' i) : own_Y ty Z h t n' g' := by
  subst q
  obtain ⟨c, A, S, G⟩ := F
  exact ⟨c, A, S, fun i hi => by rw [← e i hi]; exact G i hi⟩
theorem own_Y_ext {ty : FieldType} {Z : State} {h h' : Heap} {t : Addr} {n : Nat} {g : Nat → Int32} (F : own_Y ty Z h t n g) (E : Ext h h') : own_Y ty Z h' t n g := by obtain ⟨c, A, r⟩ := F; exact ⟨c, A.ext E, r⟩
theorem own_Y_keep {ty : FieldType} {Z : State} {h h' : Heap} {t : Addr} {n : Nat} {g : Nat → Int32} {ws : List Addr} (F : own_Y ty Z h t n g) (K : Keep h h' ws) (q : t ∉ ws) : own_Y ty Z h' t n g := by obtain ⟨c, A, r⟩ := F; exact ⟨c, ⟨K.2.1 t c A.1 q, A.2⟩, r⟩
theorem own_Y_lt {ty : FieldType} {Z : State} {h : Heap} {t : Addr} {n : Nat} {g : Nat → Int32} (F : own_Y ty Z h t n g) : t < h.size := by obtain ⟨c, A, r⟩ := F; exact A.lt
theorem own_ix {j : Int32} {k n : Nat} (e : j = k.toInt32) (h : k < n) (hn : n < 2 ^ 31) : ¬ (j < 0 ∨ n ≤ j.toNatClampNeg) ∧ j.toNatClampNeg = k := by
  subst e
  have e0 : (0 : Int32).toInt = 0 := by decide
  have e : k.toInt32.toNatClampNeg = k := by rw [Int32.toNatClampNeg, len_toInt (by omega)]; rfl
  refine ⟨?_, e⟩
  rw [e, Int32.lt_iff_toInt_lt, len_toInt (by omega), e0]; omega
theorem own_inc (k : Nat) : k.toInt32 + (1 : Int32) = (k + 1).toInt32 := i32_ofNat_add_one k
theorem own_tlt {a b : Nat} (ha : a < 2 ^ 31) (hb : b < 2 ^ 31) : a.toInt32 < b.toInt32 ↔ a < b := by
  rw [Int32.lt_iff_toInt_lt, len_toInt ha, len_toInt hb]; omega
theorem own_shl1 {k : Nat} (h : 2 * k < 2 ^ 31) : k.toInt32 <<< ((1 : Int32) &&& 31) = (2 * k).toInt32 := by
  refine Int32.toInt_inj.mp ?_
  have e : k.toInt32.toInt = k := len_toInt (by omega)
  rw [Jvm.Kit.i32_shl _ _ (k := 1) (by decide) (by rw [e]; omega) (by rw [e]; omega), e, len_toInt h]; omega
/-- statics that were there at the start: n0 the heap's size then -/
def own_Su (Z : State) (h : Heap) (n0 : Nat) (C n d : String) (v : Value) : Prop := ∃ (cf i : Nat) (k : Class) (f : Field) (st : Addr) (cell : Cell), st < n0 ∧ Z.fieldFound? C n d = some (cf, k, i, f) ∧ f.isStatic = true ∧ k.init = .initialized ∧ k.statics = some st ∧ h[st]? = some cell ∧ cell.vm.isStatics = true ∧ cell.slots[f.slot]? = some v
theorem own_Su_of {Z : State} {h : Heap} {C n d : String} {v : Value} (F : Sta Z h C n d v) : own_Su Z h h.size C n d v := by
  obtain ⟨cf, i, k, f, st, cell, h1, h2, h3, h4, h5, r⟩ := F
  exact ⟨cf, i, k, f, st, cell, (Array.getElem?_eq_some_iff.mp h5).1, h1, h2, h3, h4, h5, r⟩
theorem own_Su_to {Z : State} {h : Heap} {n0 : Nat} {C n d : String} {v : Value} (F : own_Su Z h n0 C n d v) : Sta Z h C n d v := by
  obtain ⟨cf, i, k, f, st, cell, -, r⟩ := F
  exact ⟨cf, i, k, f, st, cell, r⟩
theorem own_Su_keep {Z : State} {h h' : Heap} {n0 : Nat} {C n d : String} {v : Value} {ws : List Addr} (F : own_Su Z h n0 C n d v) (K : Keep h h' ws) (q : ∀ x ∈ ws, n0 ≤ x) : own_Su Z h' n0 C n d v := by
  obtain ⟨cf, i, k, f, st, cell, h0, h1, h2, h3, h4, h5, r⟩ := F
  exact ⟨cf, i, k, f, st, cell, h0, h1, h2, h3, h4, K.2.1 st cell h5 (fun hm => absurd h0 (Nat.not_lt.mpr (q st hm))), r⟩
def own_SS (Z : State) (h : Heap) (n0 : Nat) (z1 : Int32) (fm : Value) : Prop := own_Su Z h n0 "java/lang/String" "COMPACT_STRINGS" "Z" (.int z1) ∧ own_Su Z h n0 "jdk/internal/util/Preconditions" "SIOOBE_FORMATTER" "Ljava/util/function/BiFunction;" fm ∧ own_Su Z h n0 "java/lang/StringUTF16" "$assertionsDisabled" "Z" (.int 1) ∧ own_Su Z h n0 "java/lang/StringUTF16" "HI_BYTE_SHIFT" "I" (.int 0) ∧ own_Su Z h n0 "java/lang/StringUTF16" "LO_BYTE_SHIFT" "I" (.int 8)
theorem own_SS_keep {Z : State} {h h' : Heap} {n0 : Nat} {z1 : Int32} {fm : Value} {ws : List Addr} (F : own_SS Z h n0 z1 fm) (K : Keep h h' ws) (q : ∀ x ∈ ws, n0 ≤ x) : own_SS Z h' n0 z1 fm := ⟨own_Su_keep F.1 K q, own_Su_keep F.2.1 K q, own_Su_keep F.2.2.1 K q, own_Su_keep F.2.2.2.1 K q, own_Su_keep F.2.2.2.2 K q⟩
theorem own_SS_ext {Z : State} {h h' : Heap} {n0 : Nat} {z1 : Int32} {fm : Value} (F : own_SS Z h n0 z1 fm) (E : Ext h h') : own_SS Z h' n0 z1 fm := own_SS_keep F ((Keep.refl h []).ext E) (fun x hx => by cases hx)
theorem own_al0 {n0 : Nat} : ∀ x ∈ ([] : List Addr), n0 ≤ x := fun x hx => by cases hx
theorem own_alS {n0 : Nat} {a : Addr} {ws : List Addr} (h : n0 ≤ a) (q : ∀ x ∈ ws, n0 ≤ x) : ∀ x ∈ a :: ws, n0 ≤ x := fun x hx => by
  rcases List.mem_cons.mp hx with rfl | hx
  · exact h
  · exact q x hx
/-- a String of n chars ch: coder cd, N bytes g -/
def own_D (cd : Int32) (n N : Nat) (g ch : Nat → Int32) : Prop := (∀ i, i < n → own_isC (ch i)) ∧ n < 2 ^ 30 ∧
  ((cd = 0 ∧ N = n ∧ ∀ i, i < n → nar .char ((g i &&& (255 : Int32)).toUInt32.toUInt16.toUInt32.toInt32) = ch i ∧ (ch i).toInt ≤ 255) ∨
   (cd = 1 ∧ N = 2 * n ∧ ∀ i, i < n → nar .char ((((g (2 * i) &&& (255 : Int32)) <<< ((0 : Int32) &&& 31)) ||| ((g (2 * i + 1) &&& (255 : Int32)) <<< ((8 : Int32) &&& 31))).toUInt32.toUInt16.toUInt32.toInt32) = ch i))
theorem own_D_len {cd : Int32} {n N : Nat} {g ch : Nat → Int32} (D : own_D cd n N g ch) : N.toInt32 >>> (cd &&& 31) = n.toInt32 ∧ N < 2 ^ 31 := by
  obtain ⟨-, hn, ⟨rfl, rfl, -⟩ | ⟨rfl, rfl, -⟩⟩ := D
  · refine ⟨Int32.toInt_inj.mp ?_, by omega⟩
    rw [Jvm.Kit.i32_shr _ _ (k := 0) (by decide)]; omega
  · refine ⟨Int32.toInt_inj.mp ?_, by omega⟩
    rw [Jvm.Kit.i32_shr _ _ (k := 1) (by decide), len_toInt (by omega), len_toInt (by omega)]; omega
theorem own_D_lat {cd : Int32} {n N : Nat} {g ch : Nat → Int32} (D : own_D cd n N g ch) (h : cd = 0) : N = n ∧ ∀ i, i < n → nar .char ((g i &&& (255 : Int32)).toUInt32.toUInt16.toUInt32.toInt32) = ch i ∧ (ch i).toInt ≤ 255 := by
  obtain ⟨-, -, q | ⟨rfl, -⟩⟩ := D
  · exact q.2
  · exact absurd h (by decide)
theorem own_D_utf {cd : Int32} {n N : Nat} {g ch : Nat → Int32} (D : own_D cd n N g ch) (h : ¬ cd = 0) : N = 2 * n ∧ ∀ i, i < n → nar .char ((((g (2 * i) &&& (255 : Int32)) <<< ((0 : Int32) &&& 31)) ||| ((g (2 * i + 1) &&& (255 : Int32)) <<< ((8 : Int32) &&& 31))).toUInt32.toUInt16.toUInt32.toInt32) = ch i := by
  obtain ⟨-, -, q | q⟩ := D
  · exact absurd q.1 h
  · exact q.2
theorem own_coder0 (n : Nat) : nar .byte ((((n.toInt32 - n.toInt32).toUInt32 >>> ((31 : Int32) &&& 31).toUInt32).toInt32).toInt8.toInt32) = 0 := by
  rw [Int32.sub_self]; decide
theorem own_coder1 {n : Nat} (h0 : 0 < n) (h : n < 2 ^ 30) : nar .byte ((((n.toInt32 - (2 * n).toInt32).toUInt32 >>> ((31 : Int32) &&& 31).toUInt32).toInt32).toInt8.toInt32) = 1 := by
  have e : ((n.toInt32 - (2 * n).toInt32).toUInt32 >>> ((31 : Int32) &&& 31).toUInt32).toInt32 = 1 := by
    have a : (n.toInt32 - (2 * n).toInt32).toInt = -(n : Int) := by
      rw [Jvm.Kit.i32_sub (by rw [len_toInt (by omega), len_toInt (by omega)]; omega) (by rw [len_toInt (by omega), len_toInt (by omega)]; omega), len_toInt (by omega), len_toInt (by omega)]; omega
    generalize n.toInt32 - (2 * n).toInt32 = x at a
    have hb := x.toBitVec.isLt
    have q : x.toBitVec.toInt = -(n : Int) := a
    rw [BitVec.toInt_eq_toNat_cond] at q
    have hx : 2 ^ 31 ≤ x.toBitVec.toNat := by split at q <;> omega
    refine Int32.toInt_inj.mp ?_
    have z : (x.toUInt32 >>> ((31 : Int32) &&& 31).toUInt32).toInt32.toBitVec.toNat = 1 := by
      show (x.toUInt32 >>> ((31 : Int32) &&& 31).toUInt32).toNat = 1
      rw [UInt32.toNat_shiftRight]
      have z1 : x.toUInt32.toNat = x.toBitVec.toNat := rfl
      have z2 : ((31 : Int32) &&& 31).toUInt32.toNat % 32 = 31 := by decide
      rw [z1, z2, Nat.shiftRight_eq_div_pow]; omega
    rw [own_int32 z (by decide)]; decide
  rw [e]; decide
theorem own_strs : ∀ a ∈ Bundle.stringAtoms, a ∈ tables_1 := by decide +kernel
def own_QK (Z : State) (r : Option Value) (ws : List Addr) (P : Heap → Prop) (h0 : Heap) (n0 : Nat) (v : Option Value) (h : Heap) (L : List Loc) : Prop := v = r ∧ Fr n0 L ∧ Keep h0 h ws ∧ P h
/-- it returns something new, of which P says more -/
def own_QN1 (P : Heap → Addr → Prop) (h0 : Heap) (n0 : Nat) (v : Option Value) (h : Heap) (L : List Loc) : Prop := ∃ t : Addr, v = some (.ref t) ∧ Fr n0 L ∧ Keep h0 h [] ∧ h0.size ≤ t ∧ P h t
theorem own_neg {k : Nat} (h : k < 2 ^ 31) : ¬ k.toInt32 < 0 := by
  have e0 : (0 : Int32).toInt = 0 := by decide
  rw [Int32.lt_iff_toInt_lt, len_toInt h, e0]; omega
theorem own_clamp {k : Nat} (h : k < 2 ^ 31) : k.toInt32.toNatClampNeg = k := by rw [Int32.toNatClampNeg, len_toInt h]; rfl
theorem own_half {n N : Nat} (e : N = 2 * n) (h : n < 2 ^ 30) : N.toInt32 >>> ((1 : Int32) &&& 31) = n.toInt32 := by
  refine Int32.toInt_inj.mp ?_
  rw [Jvm.Kit.i32_shr _ _ (k := 1) (by decide), len_toInt (by omega), len_toInt (by omega)]; omega
theorem own_teq {a b : Nat} (ha : a < 2 ^ 31) (hb : b < 2 ^ 31) : a.toInt32 = b.toInt32 ↔ a = b := by
  rw [← Int32.toInt_inj, len_toInt ha, len_toInt hb]; omega
theorem own_nz0 {n : Nat} (h0 : 0 < n) (h : n < 2 ^ 31) : ¬ n.toInt32 = (0 : Int32) := fun q => by
  have := (own_teq h (b := 0) (by decide)).mp q; omega
theorem own_big {c : Int32} (h : 255 < c.toInt) : (255 : Int32) < c := by
  have e : (255 : Int32).toInt = 255 := by decide
  rw [Int32.lt_iff_toInt_lt, e]; exact h
theorem own_D_cd {cd : Int32} {n N : Nat} {g ch : Nat → Int32} (D : own_D cd n N g ch) : nar .byte cd = cd := by
  obtain ⟨-, -, ⟨rfl, -⟩ | ⟨rfl, -⟩⟩ := D <;> decide
theorem own_D_pos {cd : Int32} {n N : Nat} {g ch : Nat → Int32} (D : own_D cd n N g ch) (h : 0 < n) : 0 < N ∧ N < 2 ^ 31 := by
  obtain ⟨-, hn, ⟨-, rfl, -⟩ | ⟨-, rfl, -⟩⟩ := D <;> omega
theorem own_D_cod {cd : Int32} {n N : Nat} {g ch : Nat → Int32} (D : own_D cd n N g ch) (h : 0 < n) : nar .byte ((((n.toInt32 - N.toInt32).toUInt32 >>> ((31 : Int32) &&& 31).toUInt32).toInt32).toInt8.toInt32) = cd := by
  obtain ⟨-, hn, ⟨rfl, rfl, -⟩ | ⟨rfl, rfl, -⟩⟩ := D
  · exact own_coder0 _
  · exact own_coder1 h hn
theorem own_D_mkL {n : Nat} {g ch : Nat → Int32} (hC : ∀ i, i < n → own_isC (ch i)) (hn : n < 2 ^ 30) (hG : ∀ i, i < n → g i = nar .byte ((ch i).toInt8.toInt32) ∧ (ch i).toInt ≤ 255) : own_D 0 n n g ch :=
  ⟨hC, hn, Or.inl ⟨rfl, rfl, fun i hi => ⟨by rw [(hG i hi).1]; exact own_lat (hC i hi) (hG i hi).2, (hG i hi).2⟩⟩⟩
theorem own_D_mkU {n : Nat} {g ch : Nat → Int32} (hC : ∀ i, i < n → own_isC (ch i)) (hn : n < 2 ^ 30) (hG : ∀ i, i < n → g (2 * i) = own_lo (ch i) ∧ g (2 * i + 1) = own_hi (ch i)) : own_D 1 n (2 * n) g ch :=
  ⟨hC, hn, Or.inr ⟨rfl, rfl, fun i hi => by rw [(hG i hi).1, (hG i hi).2]; exact own_utf (hC i hi)⟩⟩
/-- where compress stopped -/
def own_P5 (Z : State) (n : Nat) (ch : Nat → Int32) (t : Addr) (k : Nat) (h : Heap) : Prop := (k = n ∧ ∃ G : Nat → Int32, own_Y .byte Z h t n G ∧ ∀ i, i < n → G i = nar .byte ((ch i).toInt8.toInt32) ∧ (ch i).toInt ≤ 255) ∨ (k < n ∧ 255 < (ch k).toInt)
def own_Q5 (Z : State) (n : Nat) (ch : Nat → Int32) (t : Addr) (h0 : Heap) (n0 : Nat) (v : Option Value) (h : Heap) (L : List Loc) : Prop := ∃ k : Nat, v = some (.int k.toInt32) ∧ Fr n0 L ∧ Keep h0 h [t] ∧ own_P5 Z n ch t k h
def own_PB (Z : State) (n : Nat) (ch : Nat → Int32) (h : Heap) (t : Addr) : Prop := ∃ (cd : Int32) (N : Nat) (g : Nat → Int32), own_Y .byte Z h t N g ∧ own_D cd n N g ch
def own_PS (Z : State) (n : Nat) (ch : Nat → Int32) (a : Addr) (h0 : Heap) (h : Heap) : Prop := ∃ (t : Addr) (cd : Int32) (N : Nat) (g : Nat → Int32), h0.size ≤ t ∧ a ≠ t ∧ Fld Z h a "java/lang/String" "coder" "B" (.int cd) ∧ Fld Z h a "java/lang/String" "value" "[B" (.ref t) ∧ own_Y .byte Z h t N g ∧ own_D cd n N g ch
theorem d24_0 : decode jdk_52_method_6_code 0 = .ok (.aload_n 0, 1) := by decide +kernel
theorem d24_1 : decode jdk_52_method_6_code 1 = .ok (.arraylength, 1) := by decide +kernel
theorem d24_2 : decode jdk_52_method_6_code 2 = .ok (.iconst 1, 1) := by decide +kernel
theorem d24_3 : decode jdk_52_method_6_code 3 = .ok (.ishr, 1) := by decide +kernel
theorem d24_4 : decode jdk_52_method_6_code 4 = .ok (.ireturn, 1) := by decide +kernel
theorem pn_24 : plainName "java/lang/StringUTF16" = true := by first | (simp [plainName, overriddenIn]; done) | decide +kernel
theorem ef_24 (m : MethodId) (a0 : Addr) : entryFrame m #[(.ref a0)] 1 = mkF m 0 #[.val (.ref a0)] [] := by first | (simp [entryFrame, mkF, argsToLocals, Value.category]; done) | rfl
set_option maxRecDepth 65536 in
set_option maxHeartbeats 40000000 in
theorem rm24 (l : Launch) (Z : State) (a0 : Array Value) (hw : ∀ d ∈ tables_1, d.before a0 Z = true) (ws : List Jvm.Cond) (a0 : Addr) (n : Nat) (N : Nat) (g1 : Nat → Int32) (h0 : Heap) (n0 : Nat) (Z0 : n0 ≤ h0.size) (Y0 : own_Y .byte Z h0 a0 N g1) (hN : N = 2 * n) (hn : n < 2 ^ 30) :
    MetFree l (⟨"java/lang/StringUTF16", "length", "([B)I"⟩ : MethodName) (head1 (Jvm.Cond.code (⟨"java/lang/StringUTF16", "length", "([B)I"⟩ : MethodName) jdk_52_method_6_code 1 (some .int) :: ws) ({ frames := 0, cells := 0, slots := 0, locals := 0 } : Room)) (fun a U => a = #[(.ref a0)] ∧ Z.Warmed39 U.vm ∧ U.heap = h0) (fun _ _ _ _ _ => True) (fun _ U o U' => ∃ v L, o = .returned v ∧ own_QV (.int n.toInt32) h0 n0 v U'.heap L ∧ FrameEnd U o U' L ({ frames := 0, cells := 0, slots := 0, locals := 0 } : Room).cells ({ frames := 0, cells := 0, slots := 0, locals := 0 } : Room).slots) := by
  refine MetFree.of_bodySF (plainFor_of_name pn_24) hisR ?_
  intro p e s m args below meth c s₁ Bd hml0 hP hK
  obtain ⟨rfl, hZ, hh⟩ := hP
  have hx := Bd.exec
  have hby := Bd.bytes
  have hlk : meth.locks = false := BodyLoose.notSynchronized Bd
  have hret := Bd.returns
  have hml : c.maxLocals = 1 := hml0
  have hown : s.vm.findClass "java/lang/StringUTF16" = some m.cls := findClass_of_methodNamed Bd.named
  have hnm := (name_of_methodNamed Bd.named Bd.method).1
  have X0 : Stand p l e ({ frames := 0, cells := 0, slots := 0, locals := 0 } : Room) s m #[(.ref a0)] below meth c s₁ [] 0 0 := Stand.of_body Bd
  have e0 : s₁.heap = h0 := by rw [← hh, Bd.state]; rfl
  have N0 := Fr.nil n0
  show own_G p.tables e below (own_E s ({ frames := 0, cells := 0, slots := 0, locals := 0 } : Room).cells ({ frames := 0, cells := 0, slots := 0, locals := 0 } : Room).slots) (own_QV (.int n.toInt32) h0 n0) (s₁.setTop (entryFrame m #[(.ref a0)] 1))
  refine own_st ?_ (fun t_ k_ => castTop (ef_24 m a0) k_)
  show own_G p.tables e below _ _ (s₁.setTop (mkF m 0 #[.val (.ref a0)] []))
  refine own_st ?_ (fun t_ k_ => XS.aloadN X0.here hx rfl (hb hby d24_0) rfl rfl k_)
  show own_G p.tables e below _ _ (s₁.setTop (mkF m 1 #[.val (.ref a0)] [(.ref a0)]))
  obtain ⟨cl1, Ar1, Sz1, G1⟩ := Y0
  refine own_st ?_ (X0.arraylength hx (by rw [e0]; exact Ar1.1) (State.isArrayOf_alike hZ.alike Ar1.2.1) (g := (mkF m 1 #[.val (.ref a0)] [(.ref a0)])) rfl rfl (hb hby d24_1))
  rw [Sz1]
  have Yx1 : own_Y .byte Z h0 a0 N g1 := ⟨cl1, Ar1, Sz1, G1⟩
  show own_G p.tables e below _ _ (s₁.setTop (mkF m 2 #[.val (.ref a0)] [(.int (N).toInt32)]))
  refine own_st ?_ (fun t_ k_ => XS.iconst X0.here hx rfl (hb hby d24_2) k_)
  show own_G p.tables e below _ _ (s₁.setTop (mkF m 3 #[.val (.ref a0)] [(.int (1 : Int32)), (.int (N).toInt32)]))
  refine own_st ?_ (fun t_ k_ => XS.ishr X0.here hx rfl (hb hby d24_3) rfl k_)
  show own_G p.tables e below _ _ (s₁.setTop (mkF m 4 #[.val (.ref a0)] [(.int ((N).toInt32 >>> ((1 : Int32) &&& 31)))]))
  exact own_retI X0 hx hlk hret (hb hby d24_4) (by decide) (by decide) ⟨congrArg (fun z => some (Value.int z)) (own_half hN hn), N0, e0⟩
theorem d26_0 : decode jdk_41_method_11_code 0 = .ok (.iload_n 0, 1) := by decide +kernel
theorem d26_1 : decode jdk_41_method_11_code 1 = .ok (.ifCond .lt 8, 3) := by decide +kernel
theorem d26_4 : decode jdk_41_method_11_code 4 = .ok (.iload_n 0, 1) := by decide +kernel
theorem d26_5 : decode jdk_41_method_11_code 5 = .ok (.iload_n 1, 1) := by decide +kernel
theorem d26_6 : decode jdk_41_method_11_code 6 = .ok (.if_icmp .lt 10, 3) := by decide +kernel
theorem d26_16 : decode jdk_41_method_11_code 16 = .ok (.iload_n 0, 1) := by decide +kernel
theorem d26_17 : decode jdk_41_method_11_code 17 = .ok (.ireturn, 1) := by decide +kernel
def f26 (p0 : Int32) (p1 : Int32) (fm : Value) : Int32 := p0
theorem pn_26 : plainName "jdk/internal/util/Preconditions" = true := by first | (simp [plainName, overriddenIn]; done) | decide +kernel
theorem ef_26 (m : MethodId) (p0 : Int32) (p1 : Int32) (fm : Value) (rf_fm : fm.isRef = true) : entryFrame m #[(.int p0), (.int p1), fm] 3 = mkF m 0 #[.val (.int p0), .val (.int p1), .val fm] [] := by rcases ref_cases rf_fm with rfl | ⟨_, rfl⟩ <;> first | (simp [entryFrame, mkF, argsToLocals, Value.category]; done) | rfl
set_option maxRecDepth 65536 in
set_option maxHeartbeats 40000000 in
theorem rm26 (l : Launch) (Z : State) (a0 : Array Value) (hw : ∀ d ∈ tables_1, d.before a0 Z = true) (ws : List Jvm.Cond) (p0 : Int32) (p1 : Int32) (fm : Value) (h0 : Heap) (n0 : Nat) (Z0 : n0 ≤ h0.size) (rf_fm : fm.isRef = true) (hj0 : ¬ p0 < 0) (hjn : p0 < p1) :
    MetFree l (⟨"jdk/internal/util/Preconditions", "checkIndex", "(IILjava/util/function/BiFunction;)I"⟩ : MethodName) (head1 (Jvm.Cond.code (⟨"jdk/internal/util/Preconditions", "checkIndex", "(IILjava/util/function/BiFunction;)I"⟩ : MethodName) jdk_41_method_11_code 3 (some .int) :: ws) ({ frames := 0, cells := 0, slots := 0, locals := 0 } : Room)) (fun a U => a = #[(.int p0), (.int p1), fm] ∧ Z.Warmed39 U.vm ∧ U.heap = h0) (fun _ _ _ _ _ => True) (fun _ U o U' => ∃ v L, o = .returned v ∧ own_QV (.int (f26 p0 p1 fm )) h0 n0 v U'.heap L ∧ FrameEnd U o U' L ({ frames := 0, cells := 0, slots := 0, locals := 0 } : Room).cells ({ frames := 0, cells := 0, slots := 0, locals := 0 } : Room).slots) := by
  refine MetFree.of_bodySF (plainFor_of_name pn_26) hisR ?_
  intro p e s m args below meth c s₁ Bd hml0 hP hK
  obtain ⟨rfl, hZ, hh⟩ := hP
  have hx := Bd.exec
  have hby := Bd.bytes
  have hlk : meth.locks = false := BodyLoose.notSynchronized Bd
  have hret := Bd.returns
  have hml : c.maxLocals = 3 := hml0
  have hown : s.vm.findClass "jdk/internal/util/Preconditions" = some m.cls := findClass_of_methodNamed Bd.named
  have hnm := (name_of_methodNamed Bd.named Bd.method).1
  have X0 : Stand p l e ({ frames := 0, cells := 0, slots := 0, locals := 0 } : Room) s m #[(.int p0), (.int p1), fm] below meth c s₁ [] 0 0 := Stand.of_body Bd
  have e0 : s₁.heap = h0 := by rw [← hh, Bd.state]; rfl
  have N0 := Fr.nil n0
  show own_G p.tables e below (own_E s ({ frames := 0, cells := 0, slots := 0, locals := 0 } : Room).cells ({ frames := 0, cells := 0, slots := 0, locals := 0 } : Room).slots) (own_QV (.int (f26 p0 p1 fm )) h0 n0) (s₁.setTop (entryFrame m #[(.int p0), (.int p1), fm] 3))
  refine own_st ?_ (fun t_ k_ => castTop (ef_26 m p0 p1 fm rf_fm) k_)
  show own_G p.tables e below _ _ (s₁.setTop (mkF m 0 #[.val (.int p0), .val (.int p1), .val fm] []))
  refine own_st ?_ (fun t_ k_ => XS.iloadN X0.here hx rfl (hb hby d26_0) rfl k_)
  show own_G p.tables e below _ _ (s₁.setTop (mkF m 1 #[.val (.int p0), .val (.int p1), .val fm] [(.int p0)]))
  refine own_st ?_ (fun t_ k_ => XS.ifNo X0.here hx rfl (hb hby d26_1) rfl ((if0 _ _).trans (flt hj0).1) k_)
  show own_G p.tables e below _ _ (s₁.setTop (mkF m 4 #[.val (.int p0), .val (.int p1), .val fm] []))
  refine own_st ?_ (fun t_ k_ => XS.iloadN X0.here hx rfl (hb hby d26_4) rfl k_)
  show own_G p.tables e below _ _ (s₁.setTop (mkF m 5 #[.val (.int p0), .val (.int p1), .val fm] [(.int p0)]))
  refine own_st ?_ (fun t_ k_ => XS.iloadN X0.here hx rfl (hb hby d26_5) rfl k_)
  show own_G p.tables e below _ _ (s₁.setTop (mkF m 6 #[.val (.int p0), .val (.int p1), .val fm] [(.int p1), (.int p0)]))
  refine own_st ?_ (fun t_ k_ => XS.icmpYes X0.here hx rfl (pc0 := 6) (pc' := 16) rfl (hb hby d26_6) rfl (tlt hjn).1 (by decide) (by decide) k_)
  show own_G p.tables e below _ _ (s₁.setTop (mkF m 16 #[.val (.int p0), .val (.int p1), .val fm] []))
  refine own_st ?_ (fun t_ k_ => XS.iloadN X0.here hx rfl (hb hby d26_16) rfl k_)
  show own_G p.tables e below _ _ (s₁.setTop (mkF m 17 #[.val (.int p0), .val (.int p1), .val fm] [(.int p0)]))
  refine own_retI X0 hx hlk hret (hb hby d26_17) (by decide) (by decide) ⟨?_, N0, e0⟩
  rw [show f26 p0 p1 fm  = p0 from rfl]
theorem pd_0 : parseMethodDescriptor "(IILjava/util/function/BiFunction;)I" = some ⟨[.int, .int, (.object "java/util/function/BiFunction")], some .int⟩ := by decide +kernel
theorem d25_0 : decode jdk_42_method_155_code 0 = .ok (.iload_n 0, 1) := by decide +kernel
theorem d25_1 : decode jdk_42_method_155_code 1 = .ok (.iload_n 1, 1) := by decide +kernel
theorem d25_2 : decode jdk_42_method_155_code 2 = .ok (.getstatic 1053, 3) := by decide +kernel
theorem d25_5 : decode jdk_42_method_155_code 5 = .ok (.invokestatic 1059, 3) := by decide +kernel
theorem d25_8 : decode jdk_42_method_155_code 8 = .ok (.pop, 1) := by decide +kernel
theorem d25_9 : decode jdk_42_method_155_code 9 = .ok (.return_, 1) := by decide +kernel
theorem pn_25 : plainName "java/lang/String" = true := by first | (simp [plainName, overriddenIn]; done) | decide +kernel
theorem ef_25 (m : MethodId) (p0 : Int32) (p1 : Int32) : entryFrame m #[(.int p0), (.int p1)] 2 = mkF m 0 #[.val (.int p0), .val (.int p1)] [] := by first | (simp [entryFrame, mkF, argsToLocals, Value.category]; done) | rfl
set_option maxRecDepth 65536 in
set_option maxHeartbeats 40000000 in
theorem rm25 (l : Launch) (Z : State) (a0 : Array Value) (hw : ∀ d ∈ tables_1, d.before a0 Z = true) (ws : List Jvm.Cond) (p0 : Int32) (p1 : Int32) (z1 : Int32) (fm : Value) (h0 : Heap) (n0 : Nat) (Z0 : n0 ≤ h0.size) (SS : own_SS Z h0 n0 z1 fm) (rf_fm : fm.isRef = true) (hj0 : ¬ p0 < 0) (hjn : p0 < p1) :
    MetFree l (⟨"java/lang/String", "checkIndex", "(II)V"⟩ : MethodName) (head1 (Jvm.Cond.code (⟨"java/lang/String", "checkIndex", "(II)V"⟩ : MethodName) jdk_42_method_155_code 2 none :: ws) ({ frames := 1, cells := 0, slots := 0, locals := 14 } : Room)) (fun a U => a = #[(.int p0), (.int p1)] ∧ Z.Warmed39 U.vm ∧ U.heap = h0) (fun _ _ _ _ _ => True) (fun _ U o U' => ∃ v L, o = .returned v ∧ own_QN h0 n0 v U'.heap L ∧ FrameEnd U o U' L ({ frames := 1, cells := 0, slots := 0, locals := 14 } : Room).cells ({ frames := 1, cells := 0, slots := 0, locals := 14 } : Room).slots) := by
  refine MetFree.of_bodySF (plainFor_of_name pn_25) hisR ?_
  intro p e s m args below meth c s₁ Bd hml0 hP hK
  obtain ⟨rfl, hZ, hh⟩ := hP
  have hx := Bd.exec
  have hby := Bd.bytes
  have hlk : meth.locks = false := BodyLoose.notSynchronized Bd
  have hret := Bd.returns
  have hml : c.maxLocals = 2 := hml0
  have hown : s.vm.findClass "java/lang/String" = some m.cls := findClass_of_methodNamed Bd.named
  have hnm := (name_of_methodNamed Bd.named Bd.method).1
  have X0 : Stand p l e ({ frames := 1, cells := 0, slots := 0, locals := 14 } : Room) s m #[(.int p0), (.int p1)] below meth c s₁ [] 0 0 := Stand.of_body Bd
  have e0 : s₁.heap = h0 := by rw [← hh, Bd.state]; rfl
  have N0 := Fr.nil n0
  show own_G p.tables e below (own_E s ({ frames := 1, cells := 0, slots := 0, locals := 14 } : Room).cells ({ frames := 1, cells := 0, slots := 0, locals := 14 } : Room).slots) (own_QN h0 n0) (s₁.setTop (entryFrame m #[(.int p0), (.int p1)] 2))
  refine own_st ?_ (fun t_ k_ => castTop (ef_25 m p0 p1) k_)
  show own_G p.tables e below _ _ (s₁.setTop (mkF m 0 #[.val (.int p0), .val (.int p1)] []))
  refine own_st ?_ (fun t_ k_ => XS.iloadN X0.here hx rfl (hb hby d25_0) rfl k_)
  show own_G p.tables e below _ _ (s₁.setTop (mkF m 1 #[.val (.int p0), .val (.int p1)] [(.int p0)]))
  refine own_st ?_ (fun t_ k_ => XS.iloadN X0.here hx rfl (hb hby d25_1) rfl k_)
  show own_G p.tables e below _ _ (s₁.setTop (mkF m 2 #[.val (.int p0), .val (.int p1)] [(.int p1), (.int p0)]))
  obtain ⟨T1, X1, e1, st1⟩ := getS2 X0 hx hZ hown (host := "") (Or.inl (hw _ (List.mem_of_getElem? (i := 116) rfl))) Via.refl e0 (own_Su_to SS.2.1) (g := (mkF m 2 #[.val (.int p0), .val (.int p1)] [(.int p1), (.int p0)])) rfl (hb hby d25_2)
  refine own_st ?_ st1
  show own_G p.tables e below _ _ (T1.setTop (mkF m 5 #[.val (.int p0), .val (.int p1)] [fm, (.int p1), (.int p0)]))
  obtain ⟨_, _, ⟨T2, L2, k2, n2⟩, -, X2, ⟨Lc2, hQ2, l2, y2, z2⟩, st2⟩ := Jvm.LawKit.callS X1 hx (y := (⟨"jdk/internal/util/Preconditions", "checkIndex", "(IILjava/util/function/BiFunction;)I"⟩ : MethodName)) hown (mvT hZ (hw _ (List.mem_of_getElem? (i := 118) rfl))) (mvT hZ (hw _ (List.mem_of_getElem? (i := 119) rfl))) (mvT hZ (hw _ (List.mem_of_getElem? (i := 117) rfl))) (mvT hZ (hw _ (List.mem_of_getElem? (i := 120) rfl))) (by decide) (backOf (W := 0) (rm26 l Z _ hw [] p0 p1 fm  h0 n0 Z0 rf_fm hj0 hjn) hZ (hw _ (List.mem_of_getElem? (i := 120) rfl)) (hw _ (List.mem_of_getElem? (i := 117) rfl)) (by decide) (by decide)) (g := (mkF m 5 #[.val (.int p0), .val (.int p1)] [fm, (.int p1), (.int p0)])) rfl (by rw [hml]; rfl) (argsL := [(.int p0), (.int p1), fm]) (rest := []) (lenOf pd_0 rfl) rfl (by show 2 * 0 + _ ≤ _; exact Nat.le_of_eq rfl) (hb hby d25_5) (fun _ _ => ⟨rfl, e1, (by decide : 0 + 0 ≤ _), (by decide : 0 + 0 ≤ _)⟩)
  dsimp only [Pt.U, Pt.locs, Pt.cells, Pt.slots] at X2 l2 y2 z2 st2 hQ2
  subst l2 y2 z2
  obtain ⟨rfl, N2q, e2⟩ := hQ2
  have N2 := Fr.app N0 N2q
  refine own_st ?_ st2
  show own_G p.tables e below _ _ (T2.setTop (mkF m 8 #[.val (.int p0), .val (.int p1)] [(.int (f26 p0 p1 fm))]))
  refine own_st ?_ (fun t_ k_ => XS.pop X2.here hx rfl (hb hby d25_8) rfl rfl k_)
  show own_G p.tables e below _ _ (T2.setTop (mkF m 9 #[.val (.int p0), .val (.int p1)] []))
  exact own_retV X2 hx hlk hret (hb hby d25_9) (by decide) (by decide) ⟨rfl, N2, e2⟩
theorem pd_2 : parseMethodDescriptor "(II)V" = some ⟨[.int, .int], none⟩ := by decide +kernel
theorem pd_1 : parseMethodDescriptor "([B)I" = some ⟨[(.array .byte)], some .int⟩ := by decide +kernel
theorem d23_0 : decode jdk_52_method_91_code 0 = .ok (.iload_n 0, 1) := by decide +kernel
theorem d23_1 : decode jdk_52_method_91_code 1 = .ok (.aload_n 1, 1) := by decide +kernel
theorem d23_2 : decode jdk_52_method_91_code 2 = .ok (.invokestatic 48, 3) := by decide +kernel
theorem d23_5 : decode jdk_52_method_91_code 5 = .ok (.invokestatic 414, 3) := by decide +kernel
theorem d23_8 : decode jdk_52_method_91_code 8 = .ok (.return_, 1) := by decide +kernel
theorem pn_23 : plainName "java/lang/StringUTF16" = true := by first | (simp [plainName, overriddenIn]; done) | decide +kernel
theorem ef_23 (m : MethodId) (p0 : Int32) (a1 : Addr) : entryFrame m #[(.int p0), (.ref a1)] 2 = mkF m 0 #[.val (.int p0), .val (.ref a1)] [] := by first | (simp [entryFrame, mkF, argsToLocals, Value.category]; done) | rfl
set_option maxRecDepth 65536 in
set_option maxHeartbeats 40000000 in
theorem rm23 (l : Launch) (Z : State) (a0 : Array Value) (hw : ∀ d ∈ tables_1, d.before a0 Z = true) (ws : List Jvm.Cond) (p0 : Int32) (a1 : Addr) (z1 : Int32) (fm : Value) (i : Nat) (n : Nat) (N : Nat) (g1 : Nat → Int32) (h0 : Heap) (n0 : Nat) (Z0 : n0 ≤ h0.size) (SS : own_SS Z h0 n0 z1 fm) (Y0 : own_Y .byte Z h0 a1 N g1) (rf_fm : fm.isRef = true) (hi : p0 = i.toInt32) (hin : i < n) (hN : N = 2 * n) (hn : n < 2 ^ 30) :
    MetFree l (⟨"java/lang/StringUTF16", "checkIndex", "(I[B)V"⟩ : MethodName) (head1 (Jvm.Cond.code (⟨"java/lang/StringUTF16", "checkIndex", "(I[B)V"⟩ : MethodName) jdk_52_method_91_code 2 none :: ws) ({ frames := 2, cells := 0, slots := 0, locals := 27 } : Room)) (fun a U => a = #[(.int p0), (.ref a1)] ∧ Z.Warmed39 U.vm ∧ U.heap = h0) (fun _ _ _ _ _ => True) (fun _ U o U' => ∃ v L, o = .returned v ∧ own_QN h0 n0 v U'.heap L ∧ FrameEnd U o U' L ({ frames := 2, cells := 0, slots := 0, locals := 27 } : Room).cells ({ frames := 2, cells := 0, slots := 0, locals := 27 } : Room).slots) := by
  refine MetFree.of_bodySF (plainFor_of_name pn_23) hisR ?_
  intro p e s m args below meth c s₁ Bd hml0 hP hK
  obtain ⟨rfl, hZ, hh⟩ := hP
  have hx := Bd.exec
  have hby := Bd.bytes
  have hlk : meth.locks = false := BodyLoose.notSynchronized Bd
  have hret := Bd.returns
  have hml : c.maxLocals = 2 := hml0
  have hown : s.vm.findClass "java/lang/StringUTF16" = some m.cls := findClass_of_methodNamed Bd.named
  have hnm := (name_of_methodNamed Bd.named Bd.method).1
  have X0 : Stand p l e ({ frames := 2, cells := 0, slots := 0, locals := 27 } : Room) s m #[(.int p0), (.ref a1)] below meth c s₁ [] 0 0 := Stand.of_body Bd
  have e0 : s₁.heap = h0 := by rw [← hh, Bd.state]; rfl
  have N0 := Fr.nil n0
  show own_G p.tables e below (own_E s ({ frames := 2, cells := 0, slots := 0, locals := 27 } : Room).cells ({ frames := 2, cells := 0, slots := 0, locals := 27 } : Room).slots) (own_QN h0 n0) (s₁.setTop (entryFrame m #[(.int p0), (.ref a1)] 2))
  refine own_st ?_ (fun t_ k_ => castTop (ef_23 m p0 a1) k_)
  show own_G p.tables e below _ _ (s₁.setTop (mkF m 0 #[.val (.int p0), .val (.ref a1)] []))
  refine own_st ?_ (fun t_ k_ => XS.iloadN X0.here hx rfl (hb hby d23_0) rfl k_)
  show own_G p.tables e below _ _ (s₁.setTop (mkF m 1 #[.val (.int p0), .val (.ref a1)] [(.int p0)]))
  refine own_st ?_ (fun t_ k_ => XS.aloadN X0.here hx rfl (hb hby d23_1) rfl rfl k_)
  show own_G p.tables e below _ _ (s₁.setTop (mkF m 2 #[.val (.int p0), .val (.ref a1)] [(.ref a1), (.int p0)]))
  obtain ⟨_, _, ⟨T1, L1, k1, n1⟩, -, X1, ⟨Lc1, hQ1, l1, y1, z1⟩, st1⟩ := Jvm.LawKit.callS X0 hx (y := (⟨"java/lang/StringUTF16", "length", "([B)I"⟩ : MethodName)) hown (mvT hZ (hw _ (List.mem_of_getElem? (i := 110) rfl))) (mvT hZ (hw _ (List.mem_of_getElem? (i := 111) rfl))) (mvT hZ (hw _ (List.mem_of_getElem? (i := 31) rfl))) (mvT hZ (hw _ (List.mem_of_getElem? (i := 112) rfl))) (by decide) (backOf (W := 1) (rm24 l Z _ hw [] a1 n N g1 h0 n0 Z0 Y0 hN hn) hZ (hw _ (List.mem_of_getElem? (i := 112) rfl)) (hw _ (List.mem_of_getElem? (i := 31) rfl)) (by decide) (by decide)) (g := (mkF m 2 #[.val (.int p0), .val (.ref a1)] [(.ref a1), (.int p0)])) rfl (by rw [hml]; rfl) (argsL := [(.ref a1)]) (rest := [(.int p0)]) (lenOf pd_1 rfl) rfl (by show 2 * 0 + _ ≤ _; exact Nat.le_of_eq rfl) (hb hby d23_2) (fun _ _ => ⟨rfl, e0, (by decide : 0 + 0 ≤ _), (by decide : 0 + 0 ≤ _)⟩)
  dsimp only [Pt.U, Pt.locs, Pt.cells, Pt.slots] at X1 l1 y1 z1 st1 hQ1
  subst l1 y1 z1
  obtain ⟨rfl, N1q, e1⟩ := hQ1
  have N1 := Fr.app N0 N1q
  refine own_st ?_ st1
  show own_G p.tables e below _ _ (T1.setTop (mkF m 5 #[.val (.int p0), .val (.ref a1)] [(.int n.toInt32), (.int p0)]))
  obtain ⟨_, _, ⟨T2, L2, k2, n2⟩, -, X2, ⟨Lc2, hQ2, l2, y2, z2⟩, st2⟩ := Jvm.LawKit.callS X1 hx (y := (⟨"java/lang/String", "checkIndex", "(II)V"⟩ : MethodName)) hown (mvT hZ (hw _ (List.mem_of_getElem? (i := 113) rfl))) (mvT hZ (hw _ (List.mem_of_getElem? (i := 114) rfl))) (mvT hZ (hw _ (List.mem_of_getElem? (i := 14) rfl))) (mvT hZ (hw _ (List.mem_of_getElem? (i := 115) rfl))) (by decide) (backOf (W := 0) (rm25 l Z _ hw [] p0 n.toInt32 z1 fm h0 n0 Z0 SS rf_fm (by rw [hi]; exact own_neg (by omega)) (by rw [hi]; exact (own_tlt (by omega) (by omega)).mpr hin)) hZ (hw _ (List.mem_of_getElem? (i := 115) rfl)) (hw _ (List.mem_of_getElem? (i := 14) rfl)) (by decide) (by decide)) (g := (mkF m 5 #[.val (.int p0), .val (.ref a1)] [(.int n.toInt32), (.int p0)])) rfl (by rw [hml]; rfl) (argsL := [(.int p0), (.int n.toInt32)]) (rest := []) (lenOf pd_2 rfl) rfl (by show 2 * 0 + _ ≤ _; exact Nat.le_of_eq rfl) (hb hby d23_5) (fun _ _ => ⟨rfl, e1, (by decide : 0 + 0 ≤ _), (by decide : 0 + 0 ≤ _)⟩)
  dsimp only [Pt.U, Pt.locs, Pt.cells, Pt.slots] at X2 l2 y2 z2 st2 hQ2
  subst l2 y2 z2
  obtain ⟨rfl, N2q, e2⟩ := hQ2
  have N2 := Fr.app N1 N2q
  refine own_st ?_ st2
  show own_G p.tables e below _ _ (T2.setTop (mkF m 8 #[.val (.int p0), .val (.ref a1)] []))
  exact own_retV X2 hx hlk hret (hb hby d23_8) (by decide) (by decide) ⟨rfl, N2, e2⟩
theorem d12_0 : decode jdk_52_method_5_code 0 = .ok (.getstatic 44, 3) := by decide +kernel
theorem d12_3 : decode jdk_52_method_5_code 3 = .ok (.ifCond .ne 25, 3) := by decide +kernel
theorem d12_28 : decode jdk_52_method_5_code 28 = .ok (.iload_n 1, 1) := by decide +kernel
theorem d12_29 : decode jdk_52_method_5_code 29 = .ok (.iconst 1, 1) := by decide +kernel
theorem d12_30 : decode jdk_52_method_5_code 30 = .ok (.ishl, 1) := by decide +kernel
theorem d12_31 : decode jdk_52_method_5_code 31 = .ok (.istore_n 1, 1) := by decide +kernel
theorem d12_32 : decode jdk_52_method_5_code 32 = .ok (.aload_n 0, 1) := by decide +kernel
theorem d12_33 : decode jdk_52_method_5_code 33 = .ok (.iload_n 1, 1) := by decide +kernel
theorem d12_34 : decode jdk_52_method_5_code 34 = .ok (.iinc 1 1, 3) := by decide +kernel
theorem d12_37 : decode jdk_52_method_5_code 37 = .ok (.baload, 1) := by decide +kernel
theorem d12_38 : decode jdk_52_method_5_code 38 = .ok (.sipush 255, 3) := by decide +kernel
theorem d12_41 : decode jdk_52_method_5_code 41 = .ok (.iand, 1) := by decide +kernel
theorem d12_42 : decode jdk_52_method_5_code 42 = .ok (.getstatic 59, 3) := by decide +kernel
theorem d12_45 : decode jdk_52_method_5_code 45 = .ok (.ishl, 1) := by decide +kernel
theorem d12_46 : decode jdk_52_method_5_code 46 = .ok (.aload_n 0, 1) := by decide +kernel
theorem d12_47 : decode jdk_52_method_5_code 47 = .ok (.iload_n 1, 1) := by decide +kernel
theorem d12_48 : decode jdk_52_method_5_code 48 = .ok (.baload, 1) := by decide +kernel
theorem d12_49 : decode jdk_52_method_5_code 49 = .ok (.sipush 255, 3) := by decide +kernel
theorem d12_52 : decode jdk_52_method_5_code 52 = .ok (.iand, 1) := by decide +kernel
theorem d12_53 : decode jdk_52_method_5_code 53 = .ok (.getstatic 63, 3) := by decide +kernel
theorem d12_56 : decode jdk_52_method_5_code 56 = .ok (.ishl, 1) := by decide +kernel
theorem d12_57 : decode jdk_52_method_5_code 57 = .ok (.ior, 1) := by decide +kernel
theorem d12_58 : decode jdk_52_method_5_code 58 = .ok (.i2c, 1) := by decide +kernel
theorem d12_59 : decode jdk_52_method_5_code 59 = .ok (.ireturn, 1) := by decide +kernel
theorem pn_12 : plainName "java/lang/StringUTF16" = true := by first | (simp [plainName, overriddenIn]; done) | decide +kernel
theorem ef_12 (m : MethodId) (a0 : Addr) (p1 : Int32) : entryFrame m #[(.ref a0), (.int p1)] 2 = mkF m 0 #[.val (.ref a0), .val (.int p1)] [] := by first | (simp [entryFrame, mkF, argsToLocals, Value.category]; done) | rfl
set_option maxRecDepth 65536 in
set_option maxHeartbeats 40000000 in
theorem rm12 (l : Launch) (Z : State) (a0 : Array Value) (hw : ∀ d ∈ tables_1, d.before a0 Z = true) (ws : List Jvm.Cond) (a0 : Addr) (p1 : Int32) (z1 : Int32) (fm : Value) (i : Nat) (N : Nat) (g1 : Nat → Int32) (x0 : Int32) (h0 : Heap) (n0 : Nat) (Z0 : n0 ≤ h0.size) (SS : own_SS Z h0 n0 z1 fm) (Y0 : own_Y .byte Z h0 a0 N g1) (hi : p1 = i.toInt32) (hbb : 2 * i + 1 < N) (hN : N < 2 ^ 31) (hx0 : nar .char ((((g1 (2 * i) &&& (255 : Int32)) <<< ((0 : Int32) &&& 31)) ||| ((g1 (2 * i + 1) &&& (255 : Int32)) <<< ((8 : Int32) &&& 31))).toUInt32.toUInt16.toUInt32.toInt32) = x0) :
    MetFree l (⟨"java/lang/StringUTF16", "getChar", "([BI)C"⟩ : MethodName) (head1 (Jvm.Cond.code (⟨"java/lang/StringUTF16", "getChar", "([BI)C"⟩ : MethodName) jdk_52_method_5_code 2 (some .char) :: ws) ({ frames := 0, cells := 0, slots := 0, locals := 0 } : Room)) (fun a U => a = #[(.ref a0), (.int p1)] ∧ Z.Warmed39 U.vm ∧ U.heap = h0) (fun _ _ _ _ _ => True) (fun _ U o U' => ∃ v L, o = .returned v ∧ own_QV (.int x0) h0 n0 v U'.heap L ∧ FrameEnd U o U' L ({ frames := 0, cells := 0, slots := 0, locals := 0 } : Room).cells ({ frames := 0, cells := 0, slots := 0, locals := 0 } : Room).slots) := by
  refine MetFree.of_bodySF (plainFor_of_name pn_12) hisR ?_
  intro p e s m args below meth c s₁ Bd hml0 hP hK
  obtain ⟨rfl, hZ, hh⟩ := hP
  have hx := Bd.exec
  have hby := Bd.bytes
  have hlk : meth.locks = false := BodyLoose.notSynchronized Bd
  have hret := Bd.returns
  have hml : c.maxLocals = 2 := hml0
  have hown : s.vm.findClass "java/lang/StringUTF16" = some m.cls := findClass_of_methodNamed Bd.named
  have hnm := (name_of_methodNamed Bd.named Bd.method).1
  have X0 : Stand p l e ({ frames := 0, cells := 0, slots := 0, locals := 0 } : Room) s m #[(.ref a0), (.int p1)] below meth c s₁ [] 0 0 := Stand.of_body Bd
  have e0 : s₁.heap = h0 := by rw [← hh, Bd.state]; rfl
  have N0 := Fr.nil n0
  show own_G p.tables e below (own_E s ({ frames := 0, cells := 0, slots := 0, locals := 0 } : Room).cells ({ frames := 0, cells := 0, slots := 0, locals := 0 } : Room).slots) (own_QV (.int x0) h0 n0) (s₁.setTop (entryFrame m #[(.ref a0), (.int p1)] 2))
  refine own_st ?_ (fun t_ k_ => castTop (ef_12 m a0 p1) k_)
  show own_G p.tables e below _ _ (s₁.setTop (mkF m 0 #[.val (.ref a0), .val (.int p1)] []))
  obtain ⟨T1, X1, e1, st1⟩ := getS2 X0 hx hZ hown (host := "") (Or.inl (hw _ (List.mem_of_getElem? (i := 50) rfl))) Via.refl e0 (own_Su_to SS.2.2.1) (g := (mkF m 0 #[.val (.ref a0), .val (.int p1)] [])) rfl (hb hby d12_0)
  refine own_st ?_ st1
  show own_G p.tables e below _ _ (T1.setTop (mkF m 3 #[.val (.ref a0), .val (.int p1)] [(.int (1 : Int32))]))
  refine own_st ?_ (fun t_ k_ => XS.ifYes X1.here hx rfl (pc0 := 3) (pc' := 28) rfl (hb hby d12_3) rfl ((if0 _ _).trans (feq (by decide : ¬ ((1 : Int32) = (0 : Int32)))).2) (by decide) (by decide) k_)
  show own_G p.tables e below _ _ (T1.setTop (mkF m 28 #[.val (.ref a0), .val (.int p1)] []))
  refine own_st ?_ (fun t_ k_ => XS.iloadN X1.here hx rfl (hb hby d12_28) rfl k_)
  show own_G p.tables e below _ _ (T1.setTop (mkF m 29 #[.val (.ref a0), .val (.int p1)] [(.int p1)]))
  refine own_st ?_ (fun t_ k_ => XS.iconst X1.here hx rfl (hb hby d12_29) k_)
  show own_G p.tables e below _ _ (T1.setTop (mkF m 30 #[.val (.ref a0), .val (.int p1)] [(.int (1 : Int32)), (.int p1)]))
  refine own_st ?_ (fun t_ k_ => XS.ishl X1.here hx rfl (hb hby d12_30) rfl k_)
  show own_G p.tables e below _ _ (T1.setTop (mkF m 31 #[.val (.ref a0), .val (.int p1)] [(.int (p1 <<< ((1 : Int32) &&& 31)))]))
  refine own_st ?_ (fun t_ k_ => XS.istoreN X1.here hx rfl (hb hby d12_31) rfl (l' := #[.val (.ref a0), .val (.int (p1 <<< ((1 : Int32) &&& 31)))]) rfl k_)
  show own_G p.tables e below _ _ (T1.setTop (mkF m 32 #[.val (.ref a0), .val (.int (p1 <<< ((1 : Int32) &&& 31)))] []))
  refine own_st ?_ (fun t_ k_ => XS.aloadN X1.here hx rfl (hb hby d12_32) rfl rfl k_)
  show own_G p.tables e below _ _ (T1.setTop (mkF m 33 #[.val (.ref a0), .val (.int (p1 <<< ((1 : Int32) &&& 31)))] [(.ref a0)]))
  refine own_st ?_ (fun t_ k_ => XS.iloadN X1.here hx rfl (hb hby d12_33) rfl k_)
  show own_G p.tables e below _ _ (T1.setTop (mkF m 34 #[.val (.ref a0), .val (.int (p1 <<< ((1 : Int32) &&& 31)))] [(.int (p1 <<< ((1 : Int32) &&& 31))), (.ref a0)]))
  refine own_st ?_ (fun t_ k_ => XS.iinc X1.here hx rfl (hb hby d12_34) rfl (l' := #[.val (.ref a0), .val (.int ((p1 <<< ((1 : Int32) &&& 31)) + (1 : Int32)))]) rfl k_)
  show own_G p.tables e below _ _ (T1.setTop (mkF m 37 #[.val (.ref a0), .val (.int ((p1 <<< ((1 : Int32) &&& 31)) + (1 : Int32)))] [(.int (p1 <<< ((1 : Int32) &&& 31))), (.ref a0)]))
  have ix2 := own_ix (j := (p1 <<< ((1 : Int32) &&& 31))) (k := 2 * i) (n := N) (by rw [hi]; exact own_shl1 (by omega)) (by omega) hN
  obtain ⟨cl2, Ar2, Sz2, G2⟩ := Y0
  have hin2 : ¬ ((p1 <<< ((1 : Int32) &&& 31)) < 0 ∨ cl2.slots.size ≤ ((p1 <<< ((1 : Int32) &&& 31))).toNatClampNeg) := by rw [Sz2]; exact ix2.1
  have hat2 : cl2.slots[((p1 <<< ((1 : Int32) &&& 31))).toNatClampNeg]? = some (.int (g1 (2 * i))) := by rw [ix2.2]; exact G2 _ (by omega)
  refine own_st ?_ (X1.baloadBytes hx (j := (p1 <<< ((1 : Int32) &&& 31))) (v := (.int (g1 (2 * i)))) (by rw [e1]; exact Ar2.1) (State.isArrayOf_alike hZ.alike Ar2.2.1) Ar2.2.2 hin2 hat2 (g := (mkF m 37 #[.val (.ref a0), .val (.int ((p1 <<< ((1 : Int32) &&& 31)) + (1 : Int32)))] [(.int (p1 <<< ((1 : Int32) &&& 31))), (.ref a0)])) rfl rfl (hb hby d12_37))
  have Yx2 : own_Y .byte Z h0 a0 N g1 := ⟨cl2, Ar2, Sz2, G2⟩
  show own_G p.tables e below _ _ (T1.setTop (mkF m 38 #[.val (.ref a0), .val (.int ((p1 <<< ((1 : Int32) &&& 31)) + (1 : Int32)))] [(.int (g1 (2 * i)))]))
  refine own_st ?_ (fun t_ k_ => XS.sipush X1.here hx rfl (hb hby d12_38) k_)
  show own_G p.tables e below _ _ (T1.setTop (mkF m 41 #[.val (.ref a0), .val (.int ((p1 <<< ((1 : Int32) &&& 31)) + (1 : Int32)))] [(.int (255 : Int32)), (.int (g1 (2 * i)))]))
  refine own_st ?_ (fun t_ k_ => XS.iand X1.here hx rfl (hb hby d12_41) rfl k_)
  show own_G p.tables e below _ _ (T1.setTop (mkF m 42 #[.val (.ref a0), .val (.int ((p1 <<< ((1 : Int32) &&& 31)) + (1 : Int32)))] [(.int ((g1 (2 * i)) &&& (255 : Int32)))]))
  obtain ⟨T3, X3, e3, st3⟩ := getS2 X1 hx hZ hown (host := "") (Or.inl (hw _ (List.mem_of_getElem? (i := 51) rfl))) Via.refl e1 (own_Su_to SS.2.2.2.1) (g := (mkF m 42 #[.val (.ref a0), .val (.int ((p1 <<< ((1 : Int32) &&& 31)) + (1 : Int32)))] [(.int ((g1 (2 * i)) &&& (255 : Int32)))])) rfl (hb hby d12_42)
  refine own_st ?_ st3
  show own_G p.tables e below _ _ (T3.setTop (mkF m 45 #[.val (.ref a0), .val (.int ((p1 <<< ((1 : Int32) &&& 31)) + (1 : Int32)))] [(.int (0 : Int32)), (.int ((g1 (2 * i)) &&& (255 : Int32)))]))
  refine own_st ?_ (fun t_ k_ => XS.ishl X3.here hx rfl (hb hby d12_45) rfl k_)
  show own_G p.tables e below _ _ (T3.setTop (mkF m 46 #[.val (.ref a0), .val (.int ((p1 <<< ((1 : Int32) &&& 31)) + (1 : Int32)))] [(.int (((g1 (2 * i)) &&& (255 : Int32)) <<< ((0 : Int32) &&& 31)))]))
  refine own_st ?_ (fun t_ k_ => XS.aloadN X3.here hx rfl (hb hby d12_46) rfl rfl k_)
  show own_G p.tables e below _ _ (T3.setTop (mkF m 47 #[.val (.ref a0), .val (.int ((p1 <<< ((1 : Int32) &&& 31)) + (1 : Int32)))] [(.ref a0), (.int (((g1 (2 * i)) &&& (255 : Int32)) <<< ((0 : Int32) &&& 31)))]))
  refine own_st ?_ (fun t_ k_ => XS.iloadN X3.here hx rfl (hb hby d12_47) rfl k_)
  show own_G p.tables e below _ _ (T3.setTop (mkF m 48 #[.val (.ref a0), .val (.int ((p1 <<< ((1 : Int32) &&& 31)) + (1 : Int32)))] [(.int ((p1 <<< ((1 : Int32) &&& 31)) + (1 : Int32))), (.ref a0), (.int (((g1 (2 * i)) &&& (255 : Int32)) <<< ((0 : Int32) &&& 31)))]))
  have ix4 := own_ix (j := ((p1 <<< ((1 : Int32) &&& 31)) + (1 : Int32))) (k := 2 * i + 1) (n := N) (by rw [hi, own_shl1 (by omega)]; exact own_inc _) (by omega) hN
  obtain ⟨cl4, Ar4, Sz4, G4⟩ := Yx2
  have hin4 : ¬ (((p1 <<< ((1 : Int32) &&& 31)) + (1 : Int32)) < 0 ∨ cl4.slots.size ≤ (((p1 <<< ((1 : Int32) &&& 31)) + (1 : Int32))).toNatClampNeg) := by rw [Sz4]; exact ix4.1
  have hat4 : cl4.slots[(((p1 <<< ((1 : Int32) &&& 31)) + (1 : Int32))).toNatClampNeg]? = some (.int (g1 (2 * i + 1))) := by rw [ix4.2]; exact G4 _ (by omega)
  refine own_st ?_ (X3.baloadBytes hx (j := ((p1 <<< ((1 : Int32) &&& 31)) + (1 : Int32))) (v := (.int (g1 (2 * i + 1)))) (by rw [e3]; exact Ar4.1) (State.isArrayOf_alike hZ.alike Ar4.2.1) Ar4.2.2 hin4 hat4 (g := (mkF m 48 #[.val (.ref a0), .val (.int ((p1 <<< ((1 : Int32) &&& 31)) + (1 : Int32)))] [(.int ((p1 <<< ((1 : Int32) &&& 31)) + (1 : Int32))), (.ref a0), (.int (((g1 (2 * i)) &&& (255 : Int32)) <<< ((0 : Int32) &&& 31)))])) rfl rfl (hb hby d12_48))
  have Yx4 : own_Y .byte Z h0 a0 N g1 := ⟨cl4, Ar4, Sz4, G4⟩
  show own_G p.tables e below _ _ (T3.setTop (mkF m 49 #[.val (.ref a0), .val (.int ((p1 <<< ((1 : Int32) &&& 31)) + (1 : Int32)))] [(.int (g1 (2 * i + 1))), (.int (((g1 (2 * i)) &&& (255 : Int32)) <<< ((0 : Int32) &&& 31)))]))
  refine own_st ?_ (fun t_ k_ => XS.sipush X3.here hx rfl (hb hby d12_49) k_)
  show own_G p.tables e below _ _ (T3.setTop (mkF m 52 #[.val (.ref a0), .val (.int ((p1 <<< ((1 : Int32) &&& 31)) + (1 : Int32)))] [(.int (255 : Int32)), (.int (g1 (2 * i + 1))), (.int (((g1 (2 * i)) &&& (255 : Int32)) <<< ((0 : Int32) &&& 31)))]))
  refine own_st ?_ (fun t_ k_ => XS.iand X3.here hx rfl (hb hby d12_52) rfl k_)
  show own_G p.tables e below _ _ (T3.setTop (mkF m 53 #[.val (.ref a0), .val (.int ((p1 <<< ((1 : Int32) &&& 31)) + (1 : Int32)))] [(.int ((g1 (2 * i + 1)) &&& (255 : Int32))), (.int (((g1 (2 * i)) &&& (255 : Int32)) <<< ((0 : Int32) &&& 31)))]))
  obtain ⟨T5, X5, e5, st5⟩ := getS2 X3 hx hZ hown (host := "") (Or.inl (hw _ (List.mem_of_getElem? (i := 52) rfl))) Via.refl e3 (own_Su_to SS.2.2.2.2) (g := (mkF m 53 #[.val (.ref a0), .val (.int ((p1 <<< ((1 : Int32) &&& 31)) + (1 : Int32)))] [(.int ((g1 (2 * i + 1)) &&& (255 : Int32))), (.int (((g1 (2 * i)) &&& (255 : Int32)) <<< ((0 : Int32) &&& 31)))])) rfl (hb hby d12_53)
  refine own_st ?_ st5
  show own_G p.tables e below _ _ (T5.setTop (mkF m 56 #[.val (.ref a0), .val (.int ((p1 <<< ((1 : Int32) &&& 31)) + (1 : Int32)))] [(.int (8 : Int32)), (.int ((g1 (2 * i + 1)) &&& (255 : Int32))), (.int (((g1 (2 * i)) &&& (255 : Int32)) <<< ((0 : Int32) &&& 31)))]))
  refine own_st ?_ (fun t_ k_ => XS.ishl X5.here hx rfl (hb hby d12_56) rfl k_)
  show own_G p.tables e below _ _ (T5.setTop (mkF m 57 #[.val (.ref a0), .val (.int ((p1 <<< ((1 : Int32) &&& 31)) + (1 : Int32)))] [(.int (((g1 (2 * i + 1)) &&& (255 : Int32)) <<< ((8 : Int32) &&& 31))), (.int (((g1 (2 * i)) &&& (255 : Int32)) <<< ((0 : Int32) &&& 31)))]))
  refine own_st ?_ (fun t_ k_ => XS.ior X5.here hx rfl (hb hby d12_57) rfl k_)
  show own_G p.tables e below _ _ (T5.setTop (mkF m 58 #[.val (.ref a0), .val (.int ((p1 <<< ((1 : Int32) &&& 31)) + (1 : Int32)))] [(.int ((((g1 (2 * i)) &&& (255 : Int32)) <<< ((0 : Int32) &&& 31)) ||| (((g1 (2 * i + 1)) &&& (255 : Int32)) <<< ((8 : Int32) &&& 31))))]))
  refine own_st ?_ (fun t_ k_ => XS.i2c X5.here hx rfl (hb hby d12_58) rfl k_)
  show own_G p.tables e below _ _ (T5.setTop (mkF m 59 #[.val (.ref a0), .val (.int ((p1 <<< ((1 : Int32) &&& 31)) + (1 : Int32)))] [(.int (((((g1 (2 * i)) &&& (255 : Int32)) <<< ((0 : Int32) &&& 31)) ||| (((g1 (2 * i + 1)) &&& (255 : Int32)) <<< ((8 : Int32) &&& 31))).toUInt32.toUInt16.toUInt32.toInt32))]))
  exact own_retN X5 hx hlk (t := .char) hret (by simp) (hb hby d12_59) (by decide) (by decide) (z' := (nar .char (((((g1 (2 * i)) &&& (255 : Int32)) <<< ((0 : Int32) &&& 31)) ||| (((g1 (2 * i + 1)) &&& (255 : Int32)) <<< ((8 : Int32) &&& 31))).toUInt32.toUInt16.toUInt32.toInt32))) rfl ⟨congrArg (fun z => some (Value.int z)) (hx0), N0, e5⟩
theorem pd_3 : parseMethodDescriptor "(I[B)V" = some ⟨[.int, (.array .byte)], none⟩ := by decide +kernel
theorem pd_4 : parseMethodDescriptor "([BI)C" = some ⟨[(.array .byte), .int], some .char⟩ := by decide +kernel
theorem d22_0 : decode jdk_52_method_83_code 0 = .ok (.iload_n 1, 1) := by decide +kernel
theorem d22_1 : decode jdk_52_method_83_code 1 = .ok (.aload_n 0, 1) := by decide +kernel
theorem d22_2 : decode jdk_52_method_83_code 2 = .ok (.invokestatic 67, 3) := by decide +kernel
theorem d22_5 : decode jdk_52_method_83_code 5 = .ok (.aload_n 0, 1) := by decide +kernel
theorem d22_6 : decode jdk_52_method_83_code 6 = .ok (.iload_n 1, 1) := by decide +kernel
theorem d22_7 : decode jdk_52_method_83_code 7 = .ok (.invokestatic 71, 3) := by decide +kernel
theorem d22_10 : decode jdk_52_method_83_code 10 = .ok (.ireturn, 1) := by decide +kernel
theorem pn_22 : plainName "java/lang/StringUTF16" = true := by first | (simp [plainName, overriddenIn]; done) | decide +kernel
theorem ef_22 (m : MethodId) (a0 : Addr) (p1 : Int32) : entryFrame m #[(.ref a0), (.int p1)] 2 = mkF m 0 #[.val (.ref a0), .val (.int p1)] [] := by first | (simp [entryFrame, mkF, argsToLocals, Value.category]; done) | rfl
set_option maxRecDepth 65536 in
set_option maxHeartbeats 40000000 in
theorem rm22 (l : Launch) (Z : State) (a0 : Array Value) (hw : ∀ d ∈ tables_1, d.before a0 Z = true) (ws : List Jvm.Cond) (a0 : Addr) (p1 : Int32) (z1 : Int32) (fm : Value) (i : Nat) (n : Nat) (N : Nat) (g1 : Nat → Int32) (x0 : Int32) (h0 : Heap) (n0 : Nat) (Z0 : n0 ≤ h0.size) (SS : own_SS Z h0 n0 z1 fm) (Y0 : own_Y .byte Z h0 a0 N g1) (rf_fm : fm.isRef = true) (hi : p1 = i.toInt32) (hin : i < n) (hN : N = 2 * n) (hn : n < 2 ^ 30) (hx0 : nar .char ((((g1 (2 * i) &&& (255 : Int32)) <<< ((0 : Int32) &&& 31)) ||| ((g1 (2 * i + 1) &&& (255 : Int32)) <<< ((8 : Int32) &&& 31))).toUInt32.toUInt16.toUInt32.toInt32) = x0) (hc : own_isC x0) :
    MetFree l (⟨"java/lang/StringUTF16", "charAt", "([BI)C"⟩ : MethodName) (head1 (Jvm.Cond.code (⟨"java/lang/StringUTF16", "charAt", "([BI)C"⟩ : MethodName) jdk_52_method_83_code 2 (some .char) :: ws) ({ frames := 3, cells := 0, slots := 0, locals := 40 } : Room)) (fun a U => a = #[(.ref a0), (.int p1)] ∧ Z.Warmed39 U.vm ∧ U.heap = h0) (fun _ _ _ _ _ => True) (fun _ U o U' => ∃ v L, o = .returned v ∧ own_QV (.int x0) h0 n0 v U'.heap L ∧ FrameEnd U o U' L ({ frames := 3, cells := 0, slots := 0, locals := 40 } : Room).cells ({ frames := 3, cells := 0, slots := 0, locals := 40 } : Room).slots) := by
  refine MetFree.of_bodySF (plainFor_of_name pn_22) hisR ?_
  intro p e s m args below meth c s₁ Bd hml0 hP hK
  obtain ⟨rfl, hZ, hh⟩ := hP
  have hx := Bd.exec
  have hby := Bd.bytes
  have hlk : meth.locks = false := BodyLoose.notSynchronized Bd
  have hret := Bd.returns
  have hml : c.maxLocals = 2 := hml0
  have hown : s.vm.findClass "java/lang/StringUTF16" = some m.cls := findClass_of_methodNamed Bd.named
  have hnm := (name_of_methodNamed Bd.named Bd.method).1
  have X0 : Stand p l e ({ frames := 3, cells := 0, slots := 0, locals := 40 } : Room) s m #[(.ref a0), (.int p1)] below meth c s₁ [] 0 0 := Stand.of_body Bd
  have e0 : s₁.heap = h0 := by rw [← hh, Bd.state]; rfl
  have N0 := Fr.nil n0
  show own_G p.tables e below (own_E s ({ frames := 3, cells := 0, slots := 0, locals := 40 } : Room).cells ({ frames := 3, cells := 0, slots := 0, locals := 40 } : Room).slots) (own_QV (.int x0) h0 n0) (s₁.setTop (entryFrame m #[(.ref a0), (.int p1)] 2))
  refine own_st ?_ (fun t_ k_ => castTop (ef_22 m a0 p1) k_)
  show own_G p.tables e below _ _ (s₁.setTop (mkF m 0 #[.val (.ref a0), .val (.int p1)] []))
  refine own_st ?_ (fun t_ k_ => XS.iloadN X0.here hx rfl (hb hby d22_0) rfl k_)
  show own_G p.tables e below _ _ (s₁.setTop (mkF m 1 #[.val (.ref a0), .val (.int p1)] [(.int p1)]))
  refine own_st ?_ (fun t_ k_ => XS.aloadN X0.here hx rfl (hb hby d22_1) rfl rfl k_)
  show own_G p.tables e below _ _ (s₁.setTop (mkF m 2 #[.val (.ref a0), .val (.int p1)] [(.ref a0), (.int p1)]))
  obtain ⟨_, _, ⟨T1, L1, k1, n1⟩, -, X1, ⟨Lc1, hQ1, l1, y1, z1⟩, st1⟩ := Jvm.LawKit.callS X0 hx (y := (⟨"java/lang/StringUTF16", "checkIndex", "(I[B)V"⟩ : MethodName)) hown (mvT hZ (hw _ (List.mem_of_getElem? (i := 107) rfl))) (mvT hZ (hw _ (List.mem_of_getElem? (i := 108) rfl))) (mvT hZ (hw _ (List.mem_of_getElem? (i := 31) rfl))) (mvT hZ (hw _ (List.mem_of_getElem? (i := 109) rfl))) (by decide) (backOf (W := 0) (rm23 l Z _ hw [] p1 a0 z1 fm i n N g1 h0 n0 Z0 SS Y0 rf_fm hi hin hN hn) hZ (hw _ (List.mem_of_getElem? (i := 109) rfl)) (hw _ (List.mem_of_getElem? (i := 31) rfl)) (by decide) (by decide)) (g := (mkF m 2 #[.val (.ref a0), .val (.int p1)] [(.ref a0), (.int p1)])) rfl (by rw [hml]; rfl) (argsL := [(.int p1), (.ref a0)]) (rest := []) (lenOf pd_3 rfl) rfl (by show 2 * 0 + _ ≤ _; exact Nat.le_of_eq rfl) (hb hby d22_2) (fun _ _ => ⟨rfl, e0, (by decide : 0 + 0 ≤ _), (by decide : 0 + 0 ≤ _)⟩)
  dsimp only [Pt.U, Pt.locs, Pt.cells, Pt.slots] at X1 l1 y1 z1 st1 hQ1
  subst l1 y1 z1
  obtain ⟨rfl, N1q, e1⟩ := hQ1
  have N1 := Fr.app N0 N1q
  refine own_st ?_ st1
  show own_G p.tables e below _ _ (T1.setTop (mkF m 5 #[.val (.ref a0), .val (.int p1)] []))
  refine own_st ?_ (fun t_ k_ => XS.aloadN X1.here hx rfl (hb hby d22_5) rfl rfl k_)
  show own_G p.tables e below _ _ (T1.setTop (mkF m 6 #[.val (.ref a0), .val (.int p1)] [(.ref a0)]))
  refine own_st ?_ (fun t_ k_ => XS.iloadN X1.here hx rfl (hb hby d22_6) rfl k_)
  show own_G p.tables e below _ _ (T1.setTop (mkF m 7 #[.val (.ref a0), .val (.int p1)] [(.int p1), (.ref a0)]))
  obtain ⟨_, _, ⟨T2, L2, k2, n2⟩, -, X2, ⟨Lc2, hQ2, l2, y2, z2⟩, st2⟩ := Jvm.LawKit.callS X1 hx (y := (⟨"java/lang/StringUTF16", "getChar", "([BI)C"⟩ : MethodName)) hown (mvT hZ (hw _ (List.mem_of_getElem? (i := 53) rfl))) (mvT hZ (hw _ (List.mem_of_getElem? (i := 54) rfl))) (mvT hZ (hw _ (List.mem_of_getElem? (i := 31) rfl))) (mvT hZ (hw _ (List.mem_of_getElem? (i := 55) rfl))) (by decide) (backOf (W := 0) (rm12 l Z _ hw [] a0 p1 z1 fm i N g1 x0 h0 n0 Z0 SS Y0 hi (by omega) (by omega) hx0) hZ (hw _ (List.mem_of_getElem? (i := 55) rfl)) (hw _ (List.mem_of_getElem? (i := 31) rfl)) (by decide) (by decide)) (g := (mkF m 7 #[.val (.ref a0), .val (.int p1)] [(.int p1), (.ref a0)])) rfl (by rw [hml]; rfl) (argsL := [(.ref a0), (.int p1)]) (rest := []) (lenOf pd_4 rfl) rfl (by show 2 * 0 + _ ≤ _; exact Nat.le_of_eq rfl) (hb hby d22_7) (fun _ _ => ⟨rfl, e1, (by decide : 0 + 0 ≤ _), (by decide : 0 + 0 ≤ _)⟩)
  dsimp only [Pt.U, Pt.locs, Pt.cells, Pt.slots] at X2 l2 y2 z2 st2 hQ2
  subst l2 y2 z2
  obtain ⟨rfl, N2q, e2⟩ := hQ2
  have N2 := Fr.app N1 N2q
  refine own_st ?_ st2
  show own_G p.tables e below _ _ (T2.setTop (mkF m 10 #[.val (.ref a0), .val (.int p1)] [(.int x0)]))
  exact own_retN X2 hx hlk (t := .char) hret (by simp) (hb hby d22_10) (by decide) (by decide) (z' := (nar .char x0)) rfl ⟨congrArg (fun z => some (Value.int z)) (own_chr_id hc), N2, e2⟩
theorem d36_0 : decode jdk_43_method_2_code 0 = .ok (.iload_n 1, 1) := by decide +kernel
theorem d36_1 : decode jdk_43_method_2_code 1 = .ok (.aload_n 0, 1) := by decide +kernel
theorem d36_2 : decode jdk_43_method_2_code 2 = .ok (.arraylength, 1) := by decide +kernel
theorem d36_3 : decode jdk_43_method_2_code 3 = .ok (.invokestatic 9, 3) := by decide +kernel
theorem d36_6 : decode jdk_43_method_2_code 6 = .ok (.aload_n 0, 1) := by decide +kernel
theorem d36_7 : decode jdk_43_method_2_code 7 = .ok (.iload_n 1, 1) := by decide +kernel
theorem d36_8 : decode jdk_43_method_2_code 8 = .ok (.baload, 1) := by decide +kernel
theorem d36_9 : decode jdk_43_method_2_code 9 = .ok (.sipush 255, 3) := by decide +kernel
theorem d36_12 : decode jdk_43_method_2_code 12 = .ok (.iand, 1) := by decide +kernel
theorem d36_13 : decode jdk_43_method_2_code 13 = .ok (.i2c, 1) := by decide +kernel
theorem d36_14 : decode jdk_43_method_2_code 14 = .ok (.ireturn, 1) := by decide +kernel
theorem pn_36 : plainName "java/lang/StringLatin1" = true := by first | (simp [plainName, overriddenIn]; done) | decide +kernel
theorem ef_36 (m : MethodId) (a0 : Addr) (p1 : Int32) : entryFrame m #[(.ref a0), (.int p1)] 2 = mkF m 0 #[.val (.ref a0), .val (.int p1)] [] := by first | (simp [entryFrame, mkF, argsToLocals, Value.category]; done) | rfl
set_option maxRecDepth 65536 in
set_option maxHeartbeats 40000000 in
theorem rm36 (l : Launch) (Z : State) (a0 : Array Value) (hw : ∀ d ∈ tables_1, d.before a0 Z = true) (ws : List Jvm.Cond) (a0 : Addr) (p1 : Int32) (z1 : Int32) (fm : Value) (i : Nat) (N : Nat) (g1 : Nat → Int32) (x0 : Int32) (h0 : Heap) (n0 : Nat) (Z0 : n0 ≤ h0.size) (SS : own_SS Z h0 n0 z1 fm) (Y0 : own_Y .byte Z h0 a0 N g1) (rf_fm : fm.isRef = true) (hi : p1 = i.toInt32) (hin : i < N) (hN : N < 2 ^ 31) (hx0 : nar .char ((g1 i &&& (255 : Int32)).toUInt32.toUInt16.toUInt32.toInt32) = x0) :
    MetFree l (⟨"java/lang/StringLatin1", "charAt", "([BI)C"⟩ : MethodName) (head1 (Jvm.Cond.code (⟨"java/lang/StringLatin1", "charAt", "([BI)C"⟩ : MethodName) jdk_43_method_2_code 2 (some .char) :: ws) ({ frames := 2, cells := 0, slots := 0, locals := 27 } : Room)) (fun a U => a = #[(.ref a0), (.int p1)] ∧ Z.Warmed39 U.vm ∧ U.heap = h0) (fun _ _ _ _ _ => True) (fun _ U o U' => ∃ v L, o = .returned v ∧ own_QV (.int x0) h0 n0 v U'.heap L ∧ FrameEnd U o U' L ({ frames := 2, cells := 0, slots := 0, locals := 27 } : Room).cells ({ frames := 2, cells := 0, slots := 0, locals := 27 } : Room).slots) := by
  refine MetFree.of_bodySF (plainFor_of_name pn_36) hisR ?_
  intro p e s m args below meth c s₁ Bd hml0 hP hK
  obtain ⟨rfl, hZ, hh⟩ := hP
  have hx := Bd.exec
  have hby := Bd.bytes
  have hlk : meth.locks = false := BodyLoose.notSynchronized Bd
  have hret := Bd.returns
  have hml : c.maxLocals = 2 := hml0
  have hown : s.vm.findClass "java/lang/StringLatin1" = some m.cls := findClass_of_methodNamed Bd.named
  have hnm := (name_of_methodNamed Bd.named Bd.method).1
  have X0 : Stand p l e ({ frames := 2, cells := 0, slots := 0, locals := 27 } : Room) s m #[(.ref a0), (.int p1)] below meth c s₁ [] 0 0 := Stand.of_body Bd
  have e0 : s₁.heap = h0 := by rw [← hh, Bd.state]; rfl
  have N0 := Fr.nil n0
  show own_G p.tables e below (own_E s ({ frames := 2, cells := 0, slots := 0, locals := 27 } : Room).cells ({ frames := 2, cells := 0, slots := 0, locals := 27 } : Room).slots) (own_QV (.int x0) h0 n0) (s₁.setTop (entryFrame m #[(.ref a0), (.int p1)] 2))
  refine own_st ?_ (fun t_ k_ => castTop (ef_36 m a0 p1) k_)
  show own_G p.tables e below _ _ (s₁.setTop (mkF m 0 #[.val (.ref a0), .val (.int p1)] []))
  refine own_st ?_ (fun t_ k_ => XS.iloadN X0.here hx rfl (hb hby d36_0) rfl k_)
  show own_G p.tables e below _ _ (s₁.setTop (mkF m 1 #[.val (.ref a0), .val (.int p1)] [(.int p1)]))
  refine own_st ?_ (fun t_ k_ => XS.aloadN X0.here hx rfl (hb hby d36_1) rfl rfl k_)
  show own_G p.tables e below _ _ (s₁.setTop (mkF m 2 #[.val (.ref a0), .val (.int p1)] [(.ref a0), (.int p1)]))
  obtain ⟨cl1, Ar1, Sz1, G1⟩ := Y0
  refine own_st ?_ (X0.arraylength hx (by rw [e0]; exact Ar1.1) (State.isArrayOf_alike hZ.alike Ar1.2.1) (g := (mkF m 2 #[.val (.ref a0), .val (.int p1)] [(.ref a0), (.int p1)])) rfl rfl (hb hby d36_2))
  rw [Sz1]
  have Yx1 : own_Y .byte Z h0 a0 N g1 := ⟨cl1, Ar1, Sz1, G1⟩
  show own_G p.tables e below _ _ (s₁.setTop (mkF m 3 #[.val (.ref a0), .val (.int p1)] [(.int (N).toInt32), (.int p1)]))
  obtain ⟨_, _, ⟨T2, L2, k2, n2⟩, -, X2, ⟨Lc2, hQ2, l2, y2, z2⟩, st2⟩ := Jvm.LawKit.callS X0 hx (y := (⟨"java/lang/String", "checkIndex", "(II)V"⟩ : MethodName)) hown (mvT hZ (hw _ (List.mem_of_getElem? (i := 166) rfl))) (mvT hZ (hw _ (List.mem_of_getElem? (i := 114) rfl))) (mvT hZ (hw _ (List.mem_of_getElem? (i := 14) rfl))) (mvT hZ (hw _ (List.mem_of_getElem? (i := 115) rfl))) (by decide) (backOf (W := 0) (rm25 l Z _ hw [] p1 (N).toInt32 z1 fm h0 n0 Z0 SS rf_fm (by rw [hi]; exact own_neg (by omega)) (by rw [hi]; exact (own_tlt (by omega) (by omega)).mpr hin)) hZ (hw _ (List.mem_of_getElem? (i := 115) rfl)) (hw _ (List.mem_of_getElem? (i := 14) rfl)) (by decide) (by decide)) (g := (mkF m 3 #[.val (.ref a0), .val (.int p1)] [(.int (N).toInt32), (.int p1)])) rfl (by rw [hml]; rfl) (argsL := [(.int p1), (.int (N).toInt32)]) (rest := []) (lenOf pd_2 rfl) rfl (by show 2 * 0 + _ ≤ _; exact Nat.le_of_eq rfl) (hb hby d36_3) (fun _ _ => ⟨rfl, e0, (by decide : 0 + 0 ≤ _), (by decide : 0 + 0 ≤ _)⟩)
  dsimp only [Pt.U, Pt.locs, Pt.cells, Pt.slots] at X2 l2 y2 z2 st2 hQ2
  subst l2 y2 z2
  obtain ⟨rfl, N2q, e2⟩ := hQ2
  have N2 := Fr.app N0 N2q
  refine own_st ?_ st2
  show own_G p.tables e below _ _ (T2.setTop (mkF m 6 #[.val (.ref a0), .val (.int p1)] []))
  refine own_st ?_ (fun t_ k_ => XS.aloadN X2.here hx rfl (hb hby d36_6) rfl rfl k_)
  show own_G p.tables e below _ _ (T2.setTop (mkF m 7 #[.val (.ref a0), .val (.int p1)] [(.ref a0)]))
  refine own_st ?_ (fun t_ k_ => XS.iloadN X2.here hx rfl (hb hby d36_7) rfl k_)
  show own_G p.tables e below _ _ (T2.setTop (mkF m 8 #[.val (.ref a0), .val (.int p1)] [(.int p1), (.ref a0)]))
  have ix3 := own_ix (j := p1) (k := i) (n := N) hi hin hN
  obtain ⟨cl3, Ar3, Sz3, G3⟩ := Yx1
  have hin3 : ¬ (p1 < 0 ∨ cl3.slots.size ≤ (p1).toNatClampNeg) := by rw [Sz3]; exact ix3.1
  have hat3 : cl3.slots[(p1).toNatClampNeg]? = some (.int (g1 i)) := by rw [ix3.2]; exact G3 _ hin
  refine own_st ?_ (X2.baloadBytes hx (j := p1) (v := (.int (g1 i))) (by rw [e2]; exact Ar3.1) (State.isArrayOf_alike hZ.alike Ar3.2.1) Ar3.2.2 hin3 hat3 (g := (mkF m 8 #[.val (.ref a0), .val (.int p1)] [(.int p1), (.ref a0)])) rfl rfl (hb hby d36_8))
  have Yx3 : own_Y .byte Z h0 a0 N g1 := ⟨cl3, Ar3, Sz3, G3⟩
  show own_G p.tables e below _ _ (T2.setTop (mkF m 9 #[.val (.ref a0), .val (.int p1)] [(.int (g1 i))]))
  refine own_st ?_ (fun t_ k_ => XS.sipush X2.here hx rfl (hb hby d36_9) k_)
  show own_G p.tables e below _ _ (T2.setTop (mkF m 12 #[.val (.ref a0), .val (.int p1)] [(.int (255 : Int32)), (.int (g1 i))]))
  refine own_st ?_ (fun t_ k_ => XS.iand X2.here hx rfl (hb hby d36_12) rfl k_)
  show own_G p.tables e below _ _ (T2.setTop (mkF m 13 #[.val (.ref a0), .val (.int p1)] [(.int ((g1 i) &&& (255 : Int32)))]))
  refine own_st ?_ (fun t_ k_ => XS.i2c X2.here hx rfl (hb hby d36_13) rfl k_)
  show own_G p.tables e below _ _ (T2.setTop (mkF m 14 #[.val (.ref a0), .val (.int p1)] [(.int (((g1 i) &&& (255 : Int32)).toUInt32.toUInt16.toUInt32.toInt32))]))
  exact own_retN X2 hx hlk (t := .char) hret (by simp) (hb hby d36_14) (by decide) (by decide) (z' := (nar .char (((g1 i) &&& (255 : Int32)).toUInt32.toUInt16.toUInt32.toInt32))) rfl ⟨congrArg (fun z => some (Value.int z)) (hx0), N2, e2⟩
theorem d21_0 : decode jdk_42_method_154_code 0 = .ok (.getstatic 38, 3) := by decide +kernel
theorem d21_3 : decode jdk_42_method_154_code 3 = .ok (.ifCond .eq 14, 3) := by decide +kernel
theorem d21_6 : decode jdk_42_method_154_code 6 = .ok (.aload_n 0, 1) := by decide +kernel
theorem d21_7 : decode jdk_42_method_154_code 7 = .ok (.getfield 15, 3) := by decide +kernel
theorem d21_10 : decode jdk_42_method_154_code 10 = .ok (.ifCond .ne 7, 3) := by decide +kernel
theorem d21_13 : decode jdk_42_method_154_code 13 = .ok (.iconst 1, 1) := by decide +kernel
theorem d21_14 : decode jdk_42_method_154_code 14 = .ok (.goto 4, 3) := by decide +kernel
theorem d21_18 : decode jdk_42_method_154_code 18 = .ok (.ireturn, 1) := by decide +kernel
theorem pn_21L : plainName "java/lang/String" = true := by first | (simp [plainName, overriddenIn]; done) | decide +kernel
theorem ef_21L (m : MethodId) (a0 : Addr) : entryFrame m #[(.ref a0)] 1 = mkF m 0 #[.val (.ref a0)] [] := by first | (simp [entryFrame, mkF, argsToLocals, Value.category]; done) | rfl
set_option maxRecDepth 65536 in
set_option maxHeartbeats 40000000 in
theorem rm21L (l : Launch) (Z : State) (a0 : Array Value) (hw : ∀ d ∈ tables_1, d.before a0 Z = true) (ws : List Jvm.Cond) (a0 : Addr) (z1 : Int32) (fm : Value) (cd : Int32) (h0 : Heap) (n0 : Nat) (Z0 : n0 ≤ h0.size) (SS : own_SS Z h0 n0 z1 fm) (Fc : Fld Z h0 a0 "java/lang/String" "coder" "B" (.int cd)) (hz1 : ¬ z1 = 0) (hcd : cd = 0) :
    MetFree l (⟨"java/lang/String", "isLatin1", "()Z"⟩ : MethodName) (head1 (Jvm.Cond.code (⟨"java/lang/String", "isLatin1", "()Z"⟩ : MethodName) jdk_42_method_154_code 1 (some .boolean) :: ws) ({ frames := 0, cells := 0, slots := 0, locals := 0 } : Room)) (fun a U => a = #[(.ref a0)] ∧ Z.Warmed39 U.vm ∧ U.heap = h0) (fun _ _ _ _ _ => True) (fun _ U o U' => ∃ v L, o = .returned v ∧ own_QV (.int (1 : Int32)) h0 n0 v U'.heap L ∧ FrameEnd U o U' L ({ frames := 0, cells := 0, slots := 0, locals := 0 } : Room).cells ({ frames := 0, cells := 0, slots := 0, locals := 0 } : Room).slots) := by
  refine MetFree.of_bodySF (plainFor_of_name pn_21L) hisR ?_
  intro p e s m args below meth c s₁ Bd hml0 hP hK
  obtain ⟨rfl, hZ, hh⟩ := hP
  have hx := Bd.exec
  have hby := Bd.bytes
  have hlk : meth.locks = false := BodyLoose.notSynchronized Bd
  have hret := Bd.returns
  have hml : c.maxLocals = 1 := hml0
  have hown : s.vm.findClass "java/lang/String" = some m.cls := findClass_of_methodNamed Bd.named
  have hnm := (name_of_methodNamed Bd.named Bd.method).1
  have X0 : Stand p l e ({ frames := 0, cells := 0, slots := 0, locals := 0 } : Room) s m #[(.ref a0)] below meth c s₁ [] 0 0 := Stand.of_body Bd
  have e0 : s₁.heap = h0 := by rw [← hh, Bd.state]; rfl
  have N0 := Fr.nil n0
  show own_G p.tables e below (own_E s ({ frames := 0, cells := 0, slots := 0, locals := 0 } : Room).cells ({ frames := 0, cells := 0, slots := 0, locals := 0 } : Room).slots) (own_QV (.int (1 : Int32)) h0 n0) (s₁.setTop (entryFrame m #[(.ref a0)] 1))
  refine own_st ?_ (fun t_ k_ => castTop (ef_21L m a0) k_)
  show own_G p.tables e below _ _ (s₁.setTop (mkF m 0 #[.val (.ref a0)] []))
  obtain ⟨T1, X1, e1, st1⟩ := getS2 X0 hx hZ hown (host := "") (Or.inl (hw _ (List.mem_of_getElem? (i := 28) rfl))) Via.refl e0 (own_Su_to SS.1) (g := (mkF m 0 #[.val (.ref a0)] [])) rfl (hb hby d21_0)
  refine own_st ?_ st1
  show own_G p.tables e below _ _ (T1.setTop (mkF m 3 #[.val (.ref a0)] [(.int z1)]))
  refine own_st ?_ (fun t_ k_ => XS.ifNo X1.here hx rfl (hb hby d21_3) rfl ((if0 _ _).trans (feq hz1).1) k_)
  show own_G p.tables e below _ _ (T1.setTop (mkF m 6 #[.val (.ref a0)] []))
  refine own_st ?_ (fun t_ k_ => XS.aloadN X1.here hx rfl (hb hby d21_6) rfl rfl k_)
  show own_G p.tables e below _ _ (T1.setTop (mkF m 7 #[.val (.ref a0)] [(.ref a0)]))
  obtain ⟨T2, X2, e2, st2⟩ := getF X1 hx hZ hown (host := "") (Or.inl (hw _ (List.mem_of_getElem? (i := 59) rfl))) Via.refl e1 Fc (g := (mkF m 7 #[.val (.ref a0)] [(.ref a0)])) rfl rfl (hb hby d21_7)
  refine own_st ?_ st2
  show own_G p.tables e below _ _ (T2.setTop (mkF m 10 #[.val (.ref a0)] [(.int cd)]))
  refine own_st ?_ (fun t_ k_ => XS.ifNo X2.here hx rfl (hb hby d21_10) rfl ((if0 _ _).trans (teq hcd).2) k_)
  show own_G p.tables e below _ _ (T2.setTop (mkF m 13 #[.val (.ref a0)] []))
  refine own_st ?_ (fun t_ k_ => XS.iconst X2.here hx rfl (hb hby d21_13) k_)
  show own_G p.tables e below _ _ (T2.setTop (mkF m 14 #[.val (.ref a0)] [(.int (1 : Int32))]))
  refine own_st ?_ (fun t_ k_ => XS.goto X2.here hx rfl (pc0 := 14) (pc' := 18) rfl (hb hby d21_14) (by decide) (by decide) k_)
  show own_G p.tables e below _ _ (T2.setTop (mkF m 18 #[.val (.ref a0)] [(.int (1 : Int32))]))
  exact own_retN X2 hx hlk (t := .boolean) hret (by simp) (hb hby d21_18) (by decide) (by decide) (z' := (1 : Int32)) rfl ⟨rfl, N0, e2⟩
theorem d21_17 : decode jdk_42_method_154_code 17 = .ok (.iconst 0, 1) := by decide +kernel
theorem pn_21U : plainName "java/lang/String" = true := by first | (simp [plainName, overriddenIn]; done) | decide +kernel
theorem ef_21U (m : MethodId) (a0 : Addr) : entryFrame m #[(.ref a0)] 1 = mkF m 0 #[.val (.ref a0)] [] := by first | (simp [entryFrame, mkF, argsToLocals, Value.category]; done) | rfl
set_option maxRecDepth 65536 in
set_option maxHeartbeats 40000000 in
theorem rm21U (l : Launch) (Z : State) (a0 : Array Value) (hw : ∀ d ∈ tables_1, d.before a0 Z = true) (ws : List Jvm.Cond) (a0 : Addr) (z1 : Int32) (fm : Value) (cd : Int32) (h0 : Heap) (n0 : Nat) (Z0 : n0 ≤ h0.size) (SS : own_SS Z h0 n0 z1 fm) (Fc : Fld Z h0 a0 "java/lang/String" "coder" "B" (.int cd)) (hz1 : ¬ z1 = 0) (hcd : ¬ cd = 0) :
    MetFree l (⟨"java/lang/String", "isLatin1", "()Z"⟩ : MethodName) (head1 (Jvm.Cond.code (⟨"java/lang/String", "isLatin1", "()Z"⟩ : MethodName) jdk_42_method_154_code 1 (some .boolean) :: ws) ({ frames := 0, cells := 0, slots := 0, locals := 0 } : Room)) (fun a U => a = #[(.ref a0)] ∧ Z.Warmed39 U.vm ∧ U.heap = h0) (fun _ _ _ _ _ => True) (fun _ U o U' => ∃ v L, o = .returned v ∧ own_QV (.int (0 : Int32)) h0 n0 v U'.heap L ∧ FrameEnd U o U' L ({ frames := 0, cells := 0, slots := 0, locals := 0 } : Room).cells ({ frames := 0, cells := 0, slots := 0, locals := 0 } : Room).slots) := by
  refine MetFree.of_bodySF (plainFor_of_name pn_21U) hisR ?_
  intro p e s m args below meth c s₁ Bd hml0 hP hK
  obtain ⟨rfl, hZ, hh⟩ := hP
  have hx := Bd.exec
  have hby := Bd.bytes
  have hlk : meth.locks = false := BodyLoose.notSynchronized Bd
  have hret := Bd.returns
  have hml : c.maxLocals = 1 := hml0
  have hown : s.vm.findClass "java/lang/String" = some m.cls := findClass_of_methodNamed Bd.named
  have hnm := (name_of_methodNamed Bd.named Bd.method).1
  have X0 : Stand p l e ({ frames := 0, cells := 0, slots := 0, locals := 0 } : Room) s m #[(.ref a0)] below meth c s₁ [] 0 0 := Stand.of_body Bd
  have e0 : s₁.heap = h0 := by rw [← hh, Bd.state]; rfl
  have N0 := Fr.nil n0
  show own_G p.tables e below (own_E s ({ frames := 0, cells := 0, slots := 0, locals := 0 } : Room).cells ({ frames := 0, cells := 0, slots := 0, locals := 0 } : Room).slots) (own_QV (.int (0 : Int32)) h0 n0) (s₁.setTop (entryFrame m #[(.ref a0)] 1))
  refine own_st ?_ (fun t_ k_ => castTop (ef_21U m a0) k_)
  show own_G p.tables e below _ _ (s₁.setTop (mkF m 0 #[.val (.ref a0)] []))
  obtain ⟨T1, X1, e1, st1⟩ := getS2 X0 hx hZ hown (host := "") (Or.inl (hw _ (List.mem_of_getElem? (i := 28) rfl))) Via.refl e0 (own_Su_to SS.1) (g := (mkF m 0 #[.val (.ref a0)] [])) rfl (hb hby d21_0)
  refine own_st ?_ st1
  show own_G p.tables e below _ _ (T1.setTop (mkF m 3 #[.val (.ref a0)] [(.int z1)]))
  refine own_st ?_ (fun t_ k_ => XS.ifNo X1.here hx rfl (hb hby d21_3) rfl ((if0 _ _).trans (feq hz1).1) k_)
  show own_G p.tables e below _ _ (T1.setTop (mkF m 6 #[.val (.ref a0)] []))
  refine own_st ?_ (fun t_ k_ => XS.aloadN X1.here hx rfl (hb hby d21_6) rfl rfl k_)
  show own_G p.tables e below _ _ (T1.setTop (mkF m 7 #[.val (.ref a0)] [(.ref a0)]))
  obtain ⟨T2, X2, e2, st2⟩ := getF X1 hx hZ hown (host := "") (Or.inl (hw _ (List.mem_of_getElem? (i := 59) rfl))) Via.refl e1 Fc (g := (mkF m 7 #[.val (.ref a0)] [(.ref a0)])) rfl rfl (hb hby d21_7)
  refine own_st ?_ st2
  show own_G p.tables e below _ _ (T2.setTop (mkF m 10 #[.val (.ref a0)] [(.int cd)]))
  refine own_st ?_ (fun t_ k_ => XS.ifYes X2.here hx rfl (pc0 := 10) (pc' := 17) rfl (hb hby d21_10) rfl ((if0 _ _).trans (feq hcd).2) (by decide) (by decide) k_)
  show own_G p.tables e below _ _ (T2.setTop (mkF m 17 #[.val (.ref a0)] []))
  refine own_st ?_ (fun t_ k_ => XS.iconst X2.here hx rfl (hb hby d21_17) k_)
  show own_G p.tables e below _ _ (T2.setTop (mkF m 18 #[.val (.ref a0)] [(.int (0 : Int32))]))
  exact own_retN X2 hx hlk (t := .boolean) hret (by simp) (hb hby d21_18) (by decide) (by decide) (z' := (0 : Int32)) rfl ⟨rfl, N0, e2⟩
theorem pd_5 : parseMethodDescriptor "()Z" = some ⟨[], some .boolean⟩ := by decide +kernel
theorem d20_0 : decode jdk_42_method_56_code 0 = .ok (.aload_n 0, 1) := by decide +kernel
theorem d20_1 : decode jdk_42_method_56_code 1 = .ok (.invokevirtual 492, 3) := by decide +kernel
theorem d20_4 : decode jdk_42_method_56_code 4 = .ok (.ifCond .eq 12, 3) := by decide +kernel
theorem d20_7 : decode jdk_42_method_56_code 7 = .ok (.aload_n 0, 1) := by decide +kernel
theorem d20_8 : decode jdk_42_method_56_code 8 = .ok (.getfield 9, 3) := by decide +kernel
theorem d20_11 : decode jdk_42_method_56_code 11 = .ok (.iload_n 1, 1) := by decide +kernel
theorem d20_12 : decode jdk_42_method_56_code 12 = .ok (.invokestatic 495, 3) := by decide +kernel
theorem d20_15 : decode jdk_42_method_56_code 15 = .ok (.ireturn, 1) := by decide +kernel
theorem d20_16 : decode jdk_42_method_56_code 16 = .ok (.aload_n 0, 1) := by decide +kernel
theorem d20_17 : decode jdk_42_method_56_code 17 = .ok (.getfield 9, 3) := by decide +kernel
theorem d20_20 : decode jdk_42_method_56_code 20 = .ok (.iload_n 1, 1) := by decide +kernel
theorem d20_21 : decode jdk_42_method_56_code 21 = .ok (.invokestatic 498, 3) := by decide +kernel
theorem d20_24 : decode jdk_42_method_56_code 24 = .ok (.ireturn, 1) := by decide +kernel
theorem pn_20 : plainName "java/lang/String" = true := by first | (simp [plainName, overriddenIn]; done) | decide +kernel
theorem ef_20 (m : MethodId) (a0 : Addr) (p1 : Int32) : entryFrame m #[(.ref a0), (.int p1)] 2 = mkF m 0 #[.val (.ref a0), .val (.int p1)] [] := by first | (simp [entryFrame, mkF, argsToLocals, Value.category]; done) | rfl
set_option maxRecDepth 65536 in
set_option maxHeartbeats 40000000 in
theorem rm20 (l : Launch) (Z : State) (a0 : Array Value) (hw : ∀ d ∈ tables_1, d.before a0 Z = true) (ws : List Jvm.Cond) (a0 : Addr) (p1 : Int32) (z1 : Int32) (fm : Value) (cd : Int32) (t : Addr) (n : Nat) (N : Nat) (g1 : Nat → Int32) (ch : Nat → Int32) (i : Nat) (h0 : Heap) (n0 : Nat) (Z0 : n0 ≤ h0.size) (SS : own_SS Z h0 n0 z1 fm) (E0 : Exa Z h0 a0 "java/lang/String") (Fc : Fld Z h0 a0 "java/lang/String" "coder" "B" (.int cd)) (Fv : Fld Z h0 a0 "java/lang/String" "value" "[B" (.ref t)) (Y0 : own_Y .byte Z h0 t N g1) (hz1 : ¬ z1 = 0) (rf_fm : fm.isRef = true) (hD : own_D cd n N g1 ch) (hi : p1 = i.toInt32) (hin : i < n) :
    MetFree l (⟨"java/lang/String", "charAt", "(I)C"⟩ : MethodName) (head1 (Jvm.Cond.code (⟨"java/lang/String", "charAt", "(I)C"⟩ : MethodName) jdk_42_method_56_code 2 (some .char) :: ws) ({ frames := 4, cells := 0, slots := 0, locals := 53 } : Room)) (fun a U => a = #[(.ref a0), (.int p1)] ∧ Z.Warmed39 U.vm ∧ U.heap = h0) (fun _ _ _ _ _ => True) (fun _ U o U' => ∃ v L, o = .returned v ∧ own_QV (.int (ch i)) h0 n0 v U'.heap L ∧ FrameEnd U o U' L ({ frames := 4, cells := 0, slots := 0, locals := 53 } : Room).cells ({ frames := 4, cells := 0, slots := 0, locals := 53 } : Room).slots) := by
  refine MetFree.of_bodySF (plainFor_of_name pn_20) hisR ?_
  intro p e s m args below meth c s₁ Bd hml0 hP hK
  obtain ⟨rfl, hZ, hh⟩ := hP
  have hx := Bd.exec
  have hby := Bd.bytes
  have hlk : meth.locks = false := BodyLoose.notSynchronized Bd
  have hret := Bd.returns
  have hml : c.maxLocals = 2 := hml0
  have hown : s.vm.findClass "java/lang/String" = some m.cls := findClass_of_methodNamed Bd.named
  have hnm := (name_of_methodNamed Bd.named Bd.method).1
  have X0 : Stand p l e ({ frames := 4, cells := 0, slots := 0, locals := 53 } : Room) s m #[(.ref a0), (.int p1)] below meth c s₁ [] 0 0 := Stand.of_body Bd
  have e0 : s₁.heap = h0 := by rw [← hh, Bd.state]; rfl
  have N0 := Fr.nil n0
  show own_G p.tables e below (own_E s ({ frames := 4, cells := 0, slots := 0, locals := 53 } : Room).cells ({ frames := 4, cells := 0, slots := 0, locals := 53 } : Room).slots) (own_QV (.int (ch i)) h0 n0) (s₁.setTop (entryFrame m #[(.ref a0), (.int p1)] 2))
  refine own_st ?_ (fun t_ k_ => castTop (ef_20 m a0 p1) k_)
  show own_G p.tables e below _ _ (s₁.setTop (mkF m 0 #[.val (.ref a0), .val (.int p1)] []))
  by_cases hcd : cd = 0
  · refine own_st ?_ (fun t_ k_ => XS.aloadN X0.here hx rfl (hb hby d20_0) rfl rfl k_)
    show own_G p.tables e below _ _ (s₁.setTop (mkF m 1 #[.val (.ref a0), .val (.int p1)] [(.ref a0)]))
    obtain ⟨cq1, kq1, q1a, q1b, q1c⟩ := isOf hZ e0 E0
    obtain ⟨_, _, ⟨T1, L1, k1, n1⟩, -, X1, ⟨Lc1, hQ1, l1, y1, z1⟩, st1⟩ := X0.virtualBack hx (y := (⟨"java/lang/String", "isLatin1", "()Z"⟩ : MethodName)) (z := (⟨"java/lang/String", "isLatin1", "()Z"⟩ : MethodName)) hown (mvT hZ (hw _ (List.mem_of_getElem? (i := 99) rfl))) (mvT hZ (hw _ (List.mem_of_getElem? (i := 100) rfl))) (notFace_of_selects (args := #[]) (mvT hZ (hw _ (List.mem_of_getElem? (i := 102) rfl)))) (mvT hZ (hw _ (List.mem_of_getElem? (i := 102) rfl))) (mvT hZ (hw _ (List.mem_of_getElem? (i := 101) rfl))) (by decide) (backOf (W := 0) (rm21L l Z _ hw [] a0 z1 fm cd h0 n0 Z0 SS Fc hz1 hcd) hZ (hw _ (List.mem_of_getElem? (i := 103) rfl)) (hw _ (List.mem_of_getElem? (i := 14) rfl)) (by decide) (by decide)) q1a q1c (g := (mkF m 1 #[.val (.ref a0), .val (.int p1)] [(.ref a0)])) rfl (by rw [hml]; rfl) (Steps.refl _) (argsL := []) (rest := []) (lenOf pd_5 rfl) rfl (by show 2 * 0 + _ ≤ _; exact Nat.le_of_eq rfl) (hb hby d20_1) (fun _ _ => ⟨rfl, e0, (by decide : 0 + 0 ≤ _), (by decide : 0 + 0 ≤ _)⟩)
    dsimp only [Pt.U, Pt.locs, Pt.cells, Pt.slots] at X1 l1 y1 z1 st1 hQ1
    subst l1 y1 z1
    obtain ⟨rfl, N1q, e1⟩ := hQ1
    have N1 := Fr.app N0 N1q
    refine own_st ?_ (fun t_ k_ => st1.trans k_)
    show own_G p.tables e below _ _ (T1.setTop (mkF m 4 #[.val (.ref a0), .val (.int p1)] [(.int (1 : Int32))]))
    refine own_st ?_ (fun t_ k_ => XS.ifNo X1.here hx rfl (hb hby d20_4) rfl ((if0 _ _).trans (feq (by decide : ¬ ((1 : Int32) = (0 : Int32)))).1) k_)
    show own_G p.tables e below _ _ (T1.setTop (mkF m 7 #[.val (.ref a0), .val (.int p1)] []))
    refine own_st ?_ (fun t_ k_ => XS.aloadN X1.here hx rfl (hb hby d20_7) rfl rfl k_)
    show own_G p.tables e below _ _ (T1.setTop (mkF m 8 #[.val (.ref a0), .val (.int p1)] [(.ref a0)]))
    obtain ⟨T2, X2, e2, st2⟩ := getF X1 hx hZ hown (host := "") (Or.inl (hw _ (List.mem_of_getElem? (i := 61) rfl))) Via.refl e1 Fv (g := (mkF m 8 #[.val (.ref a0), .val (.int p1)] [(.ref a0)])) rfl rfl (hb hby d20_8)
    refine own_st ?_ st2
    show own_G p.tables e below _ _ (T2.setTop (mkF m 11 #[.val (.ref a0), .val (.int p1)] [(.ref t)]))
    refine own_st ?_ (fun t_ k_ => XS.iloadN X2.here hx rfl (hb hby d20_11) rfl k_)
    show own_G p.tables e below _ _ (T2.setTop (mkF m 12 #[.val (.ref a0), .val (.int p1)] [(.int p1), (.ref t)]))
    obtain ⟨_, _, ⟨T3, L3, k3, n3⟩, -, X3, ⟨Lc3, hQ3, l3, y3, z3⟩, st3⟩ := Jvm.LawKit.callS X2 hx (y := (⟨"java/lang/StringLatin1", "charAt", "([BI)C"⟩ : MethodName)) hown (mvT hZ (hw _ (List.mem_of_getElem? (i := 162) rfl))) (mvT hZ (hw _ (List.mem_of_getElem? (i := 163) rfl))) (mvT hZ (hw _ (List.mem_of_getElem? (i := 164) rfl))) (mvT hZ (hw _ (List.mem_of_getElem? (i := 165) rfl))) (by decide) (backOf (W := 0) (rm36 l Z _ hw [] t p1 z1 fm i N g1 (ch i) h0 n0 Z0 SS Y0 rf_fm hi (by have := (own_D_lat hD hcd).1; omega) (own_D_len hD).2 ((own_D_lat hD hcd).2 i hin).1) hZ (hw _ (List.mem_of_getElem? (i := 165) rfl)) (hw _ (List.mem_of_getElem? (i := 164) rfl)) (by decide) (by decide)) (g := (mkF m 12 #[.val (.ref a0), .val (.int p1)] [(.int p1), (.ref t)])) rfl (by rw [hml]; rfl) (argsL := [(.ref t), (.int p1)]) (rest := []) (lenOf pd_4 rfl) rfl (by show 2 * 0 + _ ≤ _; exact Nat.le_of_eq rfl) (hb hby d20_12) (fun _ _ => ⟨rfl, e2, (by decide : 0 + 0 ≤ _), (by decide : 0 + 0 ≤ _)⟩)
    dsimp only [Pt.U, Pt.locs, Pt.cells, Pt.slots] at X3 l3 y3 z3 st3 hQ3
    subst l3 y3 z3
    obtain ⟨rfl, N3q, e3⟩ := hQ3
    have N3 := Fr.app N1 N3q
    refine own_st ?_ st3
    show own_G p.tables e below _ _ (T3.setTop (mkF m 15 #[.val (.ref a0), .val (.int p1)] [(.int (ch i))]))
    exact own_retN X3 hx hlk (t := .char) hret (by simp) (hb hby d20_15) (by decide) (by decide) (z' := (nar .char (ch i))) rfl ⟨congrArg (fun z => some (Value.int z)) (own_chr_id (hD.1 i hin)), N3, e3⟩
  · refine own_st ?_ (fun t_ k_ => XS.aloadN X0.here hx rfl (hb hby d20_0) rfl rfl k_)
    show own_G p.tables e below _ _ (s₁.setTop (mkF m 1 #[.val (.ref a0), .val (.int p1)] [(.ref a0)]))
    obtain ⟨cq4, kq4, q4a, q4b, q4c⟩ := isOf hZ e0 E0
    obtain ⟨_, _, ⟨T4, L4, k4, n4⟩, -, X4, ⟨Lc4, hQ4, l4, y4, z4⟩, st4⟩ := X0.virtualBack hx (y := (⟨"java/lang/String", "isLatin1", "()Z"⟩ : MethodName)) (z := (⟨"java/lang/String", "isLatin1", "()Z"⟩ : MethodName)) hown (mvT hZ (hw _ (List.mem_of_getElem? (i := 99) rfl))) (mvT hZ (hw _ (List.mem_of_getElem? (i := 100) rfl))) (notFace_of_selects (args := #[]) (mvT hZ (hw _ (List.mem_of_getElem? (i := 102) rfl)))) (mvT hZ (hw _ (List.mem_of_getElem? (i := 102) rfl))) (mvT hZ (hw _ (List.mem_of_getElem? (i := 101) rfl))) (by decide) (backOf (W := 0) (rm21U l Z _ hw [] a0 z1 fm cd h0 n0 Z0 SS Fc hz1 hcd) hZ (hw _ (List.mem_of_getElem? (i := 103) rfl)) (hw _ (List.mem_of_getElem? (i := 14) rfl)) (by decide) (by decide)) q4a q4c (g := (mkF m 1 #[.val (.ref a0), .val (.int p1)] [(.ref a0)])) rfl (by rw [hml]; rfl) (Steps.refl _) (argsL := []) (rest := []) (lenOf pd_5 rfl) rfl (by show 2 * 0 + _ ≤ _; exact Nat.le_of_eq rfl) (hb hby d20_1) (fun _ _ => ⟨rfl, e0, (by decide : 0 + 0 ≤ _), (by decide : 0 + 0 ≤ _)⟩)
    dsimp only [Pt.U, Pt.locs, Pt.cells, Pt.slots] at X4 l4 y4 z4 st4 hQ4
    subst l4 y4 z4
    obtain ⟨rfl, N4q, e4⟩ := hQ4
    have N4 := Fr.app N0 N4q
    refine own_st ?_ (fun t_ k_ => st4.trans k_)
    show own_G p.tables e below _ _ (T4.setTop (mkF m 4 #[.val (.ref a0), .val (.int p1)] [(.int (0 : Int32))]))
    refine own_st ?_ (fun t_ k_ => XS.ifYes X4.here hx rfl (pc0 := 4) (pc' := 16) rfl (hb hby d20_4) rfl ((if0 _ _).trans (teq (by decide : (0 : Int32) = (0 : Int32))).1) (by decide) (by decide) k_)
    show own_G p.tables e below _ _ (T4.setTop (mkF m 16 #[.val (.ref a0), .val (.int p1)] []))
    refine own_st ?_ (fun t_ k_ => XS.aloadN X4.here hx rfl (hb hby d20_16) rfl rfl k_)
    show own_G p.tables e below _ _ (T4.setTop (mkF m 17 #[.val (.ref a0), .val (.int p1)] [(.ref a0)]))
    obtain ⟨T5, X5, e5, st5⟩ := getF X4 hx hZ hown (host := "") (Or.inl (hw _ (List.mem_of_getElem? (i := 61) rfl))) Via.refl e4 Fv (g := (mkF m 17 #[.val (.ref a0), .val (.int p1)] [(.ref a0)])) rfl rfl (hb hby d20_17)
    refine own_st ?_ st5
    show own_G p.tables e below _ _ (T5.setTop (mkF m 20 #[.val (.ref a0), .val (.int p1)] [(.ref t)]))
    refine own_st ?_ (fun t_ k_ => XS.iloadN X5.here hx rfl (hb hby d20_20) rfl k_)
    show own_G p.tables e below _ _ (T5.setTop (mkF m 21 #[.val (.ref a0), .val (.int p1)] [(.int p1), (.ref t)]))
    obtain ⟨_, _, ⟨T6, L6, k6, n6⟩, -, X6, ⟨Lc6, hQ6, l6, y6, z6⟩, st6⟩ := Jvm.LawKit.callS X5 hx (y := (⟨"java/lang/StringUTF16", "charAt", "([BI)C"⟩ : MethodName)) hown (mvT hZ (hw _ (List.mem_of_getElem? (i := 104) rfl))) (mvT hZ (hw _ (List.mem_of_getElem? (i := 105) rfl))) (mvT hZ (hw _ (List.mem_of_getElem? (i := 31) rfl))) (mvT hZ (hw _ (List.mem_of_getElem? (i := 106) rfl))) (by decide) (backOf (W := 0) (rm22 l Z _ hw [] t p1 z1 fm i n N g1 (ch i) h0 n0 Z0 SS Y0 rf_fm hi hin (own_D_utf hD hcd).1 hD.2.1 ((own_D_utf hD hcd).2 i hin) (hD.1 i hin)) hZ (hw _ (List.mem_of_getElem? (i := 106) rfl)) (hw _ (List.mem_of_getElem? (i := 31) rfl)) (by decide) (by decide)) (g := (mkF m 21 #[.val (.ref a0), .val (.int p1)] [(.int p1), (.ref t)])) rfl (by rw [hml]; rfl) (argsL := [(.ref t), (.int p1)]) (rest := []) (lenOf pd_4 rfl) rfl (by show 2 * 0 + _ ≤ _; exact Nat.le_of_eq rfl) (hb hby d20_21) (fun _ _ => ⟨rfl, e5, (by decide : 0 + 0 ≤ _), (by decide : 0 + 0 ≤ _)⟩)
    dsimp only [Pt.U, Pt.locs, Pt.cells, Pt.slots] at X6 l6 y6 z6 st6 hQ6
    subst l6 y6 z6
    obtain ⟨rfl, N6q, e6⟩ := hQ6
    have N6 := Fr.app N4 N6q
    refine own_st ?_ st6
    show own_G p.tables e below _ _ (T6.setTop (mkF m 24 #[.val (.ref a0), .val (.int p1)] [(.int (ch i))]))
    exact own_retN X6 hx hlk (t := .char) hret (by simp) (hb hby d20_24) (by decide) (by decide) (z' := (nar .char (ch i))) rfl ⟨congrArg (fun z => some (Value.int z)) (own_chr_id (hD.1 i hin)), N6, e6⟩
theorem d19_0 : decode jdk_42_method_152_code 0 = .ok (.getstatic 38, 3) := by decide +kernel
theorem d19_3 : decode jdk_42_method_152_code 3 = .ok (.ifCond .eq 10, 3) := by decide +kernel
theorem d19_6 : decode jdk_42_method_152_code 6 = .ok (.aload_n 0, 1) := by decide +kernel
theorem d19_7 : decode jdk_42_method_152_code 7 = .ok (.getfield 15, 3) := by decide +kernel
theorem d19_10 : decode jdk_42_method_152_code 10 = .ok (.goto 4, 3) := by decide +kernel
theorem d19_14 : decode jdk_42_method_152_code 14 = .ok (.ireturn, 1) := by decide +kernel
theorem pn_19 : plainName "java/lang/String" = true := by first | (simp [plainName, overriddenIn]; done) | decide +kernel
theorem ef_19 (m : MethodId) (a0 : Addr) : entryFrame m #[(.ref a0)] 1 = mkF m 0 #[.val (.ref a0)] [] := by first | (simp [entryFrame, mkF, argsToLocals, Value.category]; done) | rfl
set_option maxRecDepth 65536 in
set_option maxHeartbeats 40000000 in
theorem rm19 (l : Launch) (Z : State) (a0 : Array Value) (hw : ∀ d ∈ tables_1, d.before a0 Z = true) (ws : List Jvm.Cond) (a0 : Addr) (z1 : Int32) (fm : Value) (cd : Int32) (h0 : Heap) (n0 : Nat) (Z0 : n0 ≤ h0.size) (SS : own_SS Z h0 n0 z1 fm) (Fc : Fld Z h0 a0 "java/lang/String" "coder" "B" (.int cd)) (hz1 : ¬ z1 = 0) (hcb : nar .byte cd = cd) :
    MetFree l (⟨"java/lang/String", "coder", "()B"⟩ : MethodName) (head1 (Jvm.Cond.code (⟨"java/lang/String", "coder", "()B"⟩ : MethodName) jdk_42_method_152_code 1 (some .byte) :: ws) ({ frames := 0, cells := 0, slots := 0, locals := 0 } : Room)) (fun a U => a = #[(.ref a0)] ∧ Z.Warmed39 U.vm ∧ U.heap = h0) (fun _ _ _ _ _ => True) (fun _ U o U' => ∃ v L, o = .returned v ∧ own_QV (.int cd) h0 n0 v U'.heap L ∧ FrameEnd U o U' L ({ frames := 0, cells := 0, slots := 0, locals := 0 } : Room).cells ({ frames := 0, cells := 0, slots := 0, locals := 0 } : Room).slots) := by
  refine MetFree.of_bodySF (plainFor_of_name pn_19) hisR ?_
  intro p e s m args below meth c s₁ Bd hml0 hP hK
  obtain ⟨rfl, hZ, hh⟩ := hP
  have hx := Bd.exec
  have hby := Bd.bytes
  have hlk : meth.locks = false := BodyLoose.notSynchronized Bd
  have hret := Bd.returns
  have hml : c.maxLocals = 1 := hml0
  have hown : s.vm.findClass "java/lang/String" = some m.cls := findClass_of_methodNamed Bd.named
  have hnm := (name_of_methodNamed Bd.named Bd.method).1
  have X0 : Stand p l e ({ frames := 0, cells := 0, slots := 0, locals := 0 } : Room) s m #[(.ref a0)] below meth c s₁ [] 0 0 := Stand.of_body Bd
  have e0 : s₁.heap = h0 := by rw [← hh, Bd.state]; rfl
  have N0 := Fr.nil n0
  show own_G p.tables e below (own_E s ({ frames := 0, cells := 0, slots := 0, locals := 0 } : Room).cells ({ frames := 0, cells := 0, slots := 0, locals := 0 } : Room).slots) (own_QV (.int cd) h0 n0) (s₁.setTop (entryFrame m #[(.ref a0)] 1))
  refine own_st ?_ (fun t_ k_ => castTop (ef_19 m a0) k_)
  show own_G p.tables e below _ _ (s₁.setTop (mkF m 0 #[.val (.ref a0)] []))
  obtain ⟨T1, X1, e1, st1⟩ := getS2 X0 hx hZ hown (host := "") (Or.inl (hw _ (List.mem_of_getElem? (i := 28) rfl))) Via.refl e0 (own_Su_to SS.1) (g := (mkF m 0 #[.val (.ref a0)] [])) rfl (hb hby d19_0)
  refine own_st ?_ st1
  show own_G p.tables e below _ _ (T1.setTop (mkF m 3 #[.val (.ref a0)] [(.int z1)]))
  refine own_st ?_ (fun t_ k_ => XS.ifNo X1.here hx rfl (hb hby d19_3) rfl ((if0 _ _).trans (feq hz1).1) k_)
  show own_G p.tables e below _ _ (T1.setTop (mkF m 6 #[.val (.ref a0)] []))
  refine own_st ?_ (fun t_ k_ => XS.aloadN X1.here hx rfl (hb hby d19_6) rfl rfl k_)
  show own_G p.tables e below _ _ (T1.setTop (mkF m 7 #[.val (.ref a0)] [(.ref a0)]))
  obtain ⟨T2, X2, e2, st2⟩ := getF X1 hx hZ hown (host := "") (Or.inl (hw _ (List.mem_of_getElem? (i := 59) rfl))) Via.refl e1 Fc (g := (mkF m 7 #[.val (.ref a0)] [(.ref a0)])) rfl rfl (hb hby d19_7)
  refine own_st ?_ st2
  show own_G p.tables e below _ _ (T2.setTop (mkF m 10 #[.val (.ref a0)] [(.int cd)]))
  refine own_st ?_ (fun t_ k_ => XS.goto X2.here hx rfl (pc0 := 10) (pc' := 14) rfl (hb hby d19_10) (by decide) (by decide) k_)
  show own_G p.tables e below _ _ (T2.setTop (mkF m 14 #[.val (.ref a0)] [(.int cd)]))
  exact own_retN X2 hx hlk (t := .byte) hret (by simp) (hb hby d19_14) (by decide) (by decide) (z' := (nar .byte cd)) rfl ⟨congrArg (fun z => some (Value.int z)) (hcb), N0, e2⟩
theorem pd_6 : parseMethodDescriptor "()B" = some ⟨[], some .byte⟩ := by decide +kernel
theorem d18_0 : decode jdk_42_method_54_code 0 = .ok (.aload_n 0, 1) := by decide +kernel
theorem d18_1 : decode jdk_42_method_54_code 1 = .ok (.getfield 9, 3) := by decide +kernel
theorem d18_4 : decode jdk_42_method_54_code 4 = .ok (.arraylength, 1) := by decide +kernel
theorem d18_5 : decode jdk_42_method_54_code 5 = .ok (.aload_n 0, 1) := by decide +kernel
theorem d18_6 : decode jdk_42_method_54_code 6 = .ok (.invokevirtual 335, 3) := by decide +kernel
theorem d18_9 : decode jdk_42_method_54_code 9 = .ok (.ishr, 1) := by decide +kernel
theorem d18_10 : decode jdk_42_method_54_code 10 = .ok (.ireturn, 1) := by decide +kernel
theorem pn_18 : plainName "java/lang/String" = true := by first | (simp [plainName, overriddenIn]; done) | decide +kernel
theorem ef_18 (m : MethodId) (a0 : Addr) : entryFrame m #[(.ref a0)] 1 = mkF m 0 #[.val (.ref a0)] [] := by first | (simp [entryFrame, mkF, argsToLocals, Value.category]; done) | rfl
set_option maxRecDepth 65536 in
set_option maxHeartbeats 40000000 in
theorem rm18 (l : Launch) (Z : State) (a0 : Array Value) (hw : ∀ d ∈ tables_1, d.before a0 Z = true) (ws : List Jvm.Cond) (a0 : Addr) (z1 : Int32) (fm : Value) (cd : Int32) (t : Addr) (n : Nat) (N : Nat) (g1 : Nat → Int32) (ch : Nat → Int32) (h0 : Heap) (n0 : Nat) (Z0 : n0 ≤ h0.size) (SS : own_SS Z h0 n0 z1 fm) (E0 : Exa Z h0 a0 "java/lang/String") (Fc : Fld Z h0 a0 "java/lang/String" "coder" "B" (.int cd)) (Fv : Fld Z h0 a0 "java/lang/String" "value" "[B" (.ref t)) (Y0 : own_Y .byte Z h0 t N g1) (hz1 : ¬ z1 = 0) (hD : own_D cd n N g1 ch) :
    MetFree l (⟨"java/lang/String", "length", "()I"⟩ : MethodName) (head1 (Jvm.Cond.code (⟨"java/lang/String", "length", "()I"⟩ : MethodName) jdk_42_method_54_code 1 (some .int) :: ws) ({ frames := 1, cells := 0, slots := 0, locals := 13 } : Room)) (fun a U => a = #[(.ref a0)] ∧ Z.Warmed39 U.vm ∧ U.heap = h0) (fun _ _ _ _ _ => True) (fun _ U o U' => ∃ v L, o = .returned v ∧ own_QV (.int n.toInt32) h0 n0 v U'.heap L ∧ FrameEnd U o U' L ({ frames := 1, cells := 0, slots := 0, locals := 13 } : Room).cells ({ frames := 1, cells := 0, slots := 0, locals := 13 } : Room).slots) := by
  refine MetFree.of_bodySF (plainFor_of_name pn_18) hisR ?_
  intro p e s m args below meth c s₁ Bd hml0 hP hK
  obtain ⟨rfl, hZ, hh⟩ := hP
  have hx := Bd.exec
  have hby := Bd.bytes
  have hlk : meth.locks = false := BodyLoose.notSynchronized Bd
  have hret := Bd.returns
  have hml : c.maxLocals = 1 := hml0
  have hown : s.vm.findClass "java/lang/String" = some m.cls := findClass_of_methodNamed Bd.named
  have hnm := (name_of_methodNamed Bd.named Bd.method).1
  have X0 : Stand p l e ({ frames := 1, cells := 0, slots := 0, locals := 13 } : Room) s m #[(.ref a0)] below meth c s₁ [] 0 0 := Stand.of_body Bd
  have e0 : s₁.heap = h0 := by rw [← hh, Bd.state]; rfl
  have N0 := Fr.nil n0
  show own_G p.tables e below (own_E s ({ frames := 1, cells := 0, slots := 0, locals := 13 } : Room).cells ({ frames := 1, cells := 0, slots := 0, locals := 13 } : Room).slots) (own_QV (.int n.toInt32) h0 n0) (s₁.setTop (entryFrame m #[(.ref a0)] 1))
  refine own_st ?_ (fun t_ k_ => castTop (ef_18 m a0) k_)
  show own_G p.tables e below _ _ (s₁.setTop (mkF m 0 #[.val (.ref a0)] []))
  refine own_st ?_ (fun t_ k_ => XS.aloadN X0.here hx rfl (hb hby d18_0) rfl rfl k_)
  show own_G p.tables e below _ _ (s₁.setTop (mkF m 1 #[.val (.ref a0)] [(.ref a0)]))
  obtain ⟨T1, X1, e1, st1⟩ := getF X0 hx hZ hown (host := "") (Or.inl (hw _ (List.mem_of_getElem? (i := 61) rfl))) Via.refl e0 Fv (g := (mkF m 1 #[.val (.ref a0)] [(.ref a0)])) rfl rfl (hb hby d18_1)
  refine own_st ?_ st1
  show own_G p.tables e below _ _ (T1.setTop (mkF m 4 #[.val (.ref a0)] [(.ref t)]))
  obtain ⟨cl2, Ar2, Sz2, G2⟩ := Y0
  refine own_st ?_ (X1.arraylength hx (by rw [e1]; exact Ar2.1) (State.isArrayOf_alike hZ.alike Ar2.2.1) (g := (mkF m 4 #[.val (.ref a0)] [(.ref t)])) rfl rfl (hb hby d18_4))
  rw [Sz2]
  have Yx2 : own_Y .byte Z h0 t N g1 := ⟨cl2, Ar2, Sz2, G2⟩
  show own_G p.tables e below _ _ (T1.setTop (mkF m 5 #[.val (.ref a0)] [(.int (N).toInt32)]))
  refine own_st ?_ (fun t_ k_ => XS.aloadN X1.here hx rfl (hb hby d18_5) rfl rfl k_)
  show own_G p.tables e below _ _ (T1.setTop (mkF m 6 #[.val (.ref a0)] [(.ref a0), (.int (N).toInt32)]))
  obtain ⟨cq3, kq3, q3a, q3b, q3c⟩ := isOf hZ e1 E0
  obtain ⟨_, _, ⟨T3, L3, k3, n3⟩, -, X3, ⟨Lc3, hQ3, l3, y3, z3⟩, st3⟩ := X1.virtualBack hx (y := (⟨"java/lang/String", "coder", "()B"⟩ : MethodName)) (z := (⟨"java/lang/String", "coder", "()B"⟩ : MethodName)) hown (mvT hZ (hw _ (List.mem_of_getElem? (i := 89) rfl))) (mvT hZ (hw _ (List.mem_of_getElem? (i := 90) rfl))) (notFace_of_selects (args := #[]) (mvT hZ (hw _ (List.mem_of_getElem? (i := 92) rfl)))) (mvT hZ (hw _ (List.mem_of_getElem? (i := 92) rfl))) (mvT hZ (hw _ (List.mem_of_getElem? (i := 91) rfl))) (by decide) (backOf (W := 1) (rm19 l Z _ hw [] a0 z1 fm cd h0 n0 Z0 SS Fc hz1 (own_D_cd hD)) hZ (hw _ (List.mem_of_getElem? (i := 93) rfl)) (hw _ (List.mem_of_getElem? (i := 14) rfl)) (by decide) (by decide)) q3a q3c (g := (mkF m 6 #[.val (.ref a0)] [(.ref a0), (.int (N).toInt32)])) rfl (by rw [hml]; rfl) (Steps.refl _) (argsL := []) (rest := [(.int (N).toInt32)]) (lenOf pd_6 rfl) rfl (by show 2 * 0 + _ ≤ _; exact Nat.le_of_eq rfl) (hb hby d18_6) (fun _ _ => ⟨rfl, e1, (by decide : 0 + 0 ≤ _), (by decide : 0 + 0 ≤ _)⟩)
  dsimp only [Pt.U, Pt.locs, Pt.cells, Pt.slots] at X3 l3 y3 z3 st3 hQ3
  subst l3 y3 z3
  obtain ⟨rfl, N3q, e3⟩ := hQ3
  have N3 := Fr.app N0 N3q
  refine own_st ?_ (fun t_ k_ => st3.trans k_)
  show own_G p.tables e below _ _ (T3.setTop (mkF m 9 #[.val (.ref a0)] [(.int cd), (.int (N).toInt32)]))
  refine own_st ?_ (fun t_ k_ => XS.ishr X3.here hx rfl (hb hby d18_9) rfl k_)
  show own_G p.tables e below _ _ (T3.setTop (mkF m 10 #[.val (.ref a0)] [(.int ((N).toInt32 >>> (cd &&& 31)))]))
  exact own_retI X3 hx hlk hret (hb hby d18_10) (by decide) (by decide) ⟨congrArg (fun z => some (Value.int z)) ((own_D_len hD).1), N3, e3⟩
theorem d10_0 : decode jdk_52_method_3_code 0 = .ok (.iload_n 0, 1) := by decide +kernel
theorem d10_1 : decode jdk_52_method_3_code 1 = .ok (.ifCond .ge 11, 3) := by decide +kernel
theorem d10_12 : decode jdk_52_method_3_code 12 = .ok (.iload_n 0, 1) := by decide +kernel
theorem d10_13 : decode jdk_52_method_3_code 13 = .ok (.ldc 20, 2) := by decide +kernel
theorem d10_15 : decode jdk_52_method_3_code 15 = .ok (.if_icmp .lt 40, 3) := by decide +kernel
theorem d10_55 : decode jdk_52_method_3_code 55 = .ok (.iload_n 0, 1) := by decide +kernel
theorem d10_56 : decode jdk_52_method_3_code 56 = .ok (.iconst 1, 1) := by decide +kernel
theorem d10_57 : decode jdk_52_method_3_code 57 = .ok (.ishl, 1) := by decide +kernel
theorem d10_58 : decode jdk_52_method_3_code 58 = .ok (.ireturn, 1) := by decide +kernel
theorem pn_10 : plainName "java/lang/StringUTF16" = true := by first | (simp [plainName, overriddenIn]; done) | decide +kernel
theorem ef_10 (m : MethodId) (p0 : Int32) : entryFrame m #[(.int p0)] 1 = mkF m 0 #[.val (.int p0)] [] := by first | (simp [entryFrame, mkF, argsToLocals, Value.category]; done) | rfl
set_option maxRecDepth 65536 in
set_option maxHeartbeats 40000000 in
theorem rm10 (l : Launch) (Z : State) (a0 : Array Value) (hw : ∀ d ∈ tables_1, d.before a0 Z = true) (ws : List Jvm.Cond) (p0 : Int32) (n : Nat) (h0 : Heap) (n0 : Nat) (Z0 : n0 ≤ h0.size) (hi : p0 = n.toInt32) (hn : n ≤ 6) :
    MetFree l (⟨"java/lang/StringUTF16", "newBytesLength", "(I)I"⟩ : MethodName) (head1 (Jvm.Cond.code (⟨"java/lang/StringUTF16", "newBytesLength", "(I)I"⟩ : MethodName) jdk_52_method_3_code 1 (some .int) :: ws) ({ frames := 0, cells := 0, slots := 0, locals := 0 } : Room)) (fun a U => a = #[(.int p0)] ∧ Z.Warmed39 U.vm ∧ U.heap = h0) (fun _ _ _ _ _ => True) (fun _ U o U' => ∃ v L, o = .returned v ∧ own_QV (.int (2 * n).toInt32) h0 n0 v U'.heap L ∧ FrameEnd U o U' L ({ frames := 0, cells := 0, slots := 0, locals := 0 } : Room).cells ({ frames := 0, cells := 0, slots := 0, locals := 0 } : Room).slots) := by
  refine MetFree.of_bodySF (plainFor_of_name pn_10) hisR ?_
  intro p e s m args below meth c s₁ Bd hml0 hP hK
  obtain ⟨rfl, hZ, hh⟩ := hP
  have hx := Bd.exec
  have hby := Bd.bytes
  have hlk : meth.locks = false := BodyLoose.notSynchronized Bd
  have hret := Bd.returns
  have hml : c.maxLocals = 1 := hml0
  have hown : s.vm.findClass "java/lang/StringUTF16" = some m.cls := findClass_of_methodNamed Bd.named
  have hnm := (name_of_methodNamed Bd.named Bd.method).1
  have X0 : Stand p l e ({ frames := 0, cells := 0, slots := 0, locals := 0 } : Room) s m #[(.int p0)] below meth c s₁ [] 0 0 := Stand.of_body Bd
  have e0 : s₁.heap = h0 := by rw [← hh, Bd.state]; rfl
  have N0 := Fr.nil n0
  show own_G p.tables e below (own_E s ({ frames := 0, cells := 0, slots := 0, locals := 0 } : Room).cells ({ frames := 0, cells := 0, slots := 0, locals := 0 } : Room).slots) (own_QV (.int (2 * n).toInt32) h0 n0) (s₁.setTop (entryFrame m #[(.int p0)] 1))
  refine own_st ?_ (fun t_ k_ => castTop (ef_10 m p0) k_)
  show own_G p.tables e below _ _ (s₁.setTop (mkF m 0 #[.val (.int p0)] []))
  refine own_st ?_ (fun t_ k_ => XS.iloadN X0.here hx rfl (hb hby d10_0) rfl k_)
  show own_G p.tables e below _ _ (s₁.setTop (mkF m 1 #[.val (.int p0)] [(.int p0)]))
  refine own_st ?_ (fun t_ k_ => XS.ifYes X0.here hx rfl (pc0 := 1) (pc' := 12) rfl (hb hby d10_1) rfl ((if0 _ _).trans (flt (show ¬ (p0 < (0 : Int32)) from by rw [hi]; exact own_neg (by omega))).2.1) (by decide) (by decide) k_)
  show own_G p.tables e below _ _ (s₁.setTop (mkF m 12 #[.val (.int p0)] []))
  refine own_st ?_ (fun t_ k_ => XS.iloadN X0.here hx rfl (hb hby d10_12) rfl k_)
  show own_G p.tables e below _ _ (s₁.setTop (mkF m 13 #[.val (.int p0)] [(.int p0)]))
  refine own_st ?_ (X0.ldcInt hx hown (mvT hZ (hw _ (List.mem_of_getElem? (i := 46) rfl))) (g := (mkF m 13 #[.val (.int p0)] [(.int p0)])) rfl (hb hby d10_13))
  show own_G p.tables e below _ _ (s₁.setTop (mkF m 15 #[.val (.int p0)] [(.int (1073741823 : Int32)), (.int p0)]))
  refine own_st ?_ (fun t_ k_ => XS.icmpYes X0.here hx rfl (pc0 := 15) (pc' := 55) rfl (hb hby d10_15) rfl (tlt (show p0 < (1073741823 : Int32) from by rw [hi]; exact (own_tlt (b := 1073741823) (by omega) (by omega)).mpr (by omega))).1 (by decide) (by decide) k_)
  show own_G p.tables e below _ _ (s₁.setTop (mkF m 55 #[.val (.int p0)] []))
  refine own_st ?_ (fun t_ k_ => XS.iloadN X0.here hx rfl (hb hby d10_55) rfl k_)
  show own_G p.tables e below _ _ (s₁.setTop (mkF m 56 #[.val (.int p0)] [(.int p0)]))
  refine own_st ?_ (fun t_ k_ => XS.iconst X0.here hx rfl (hb hby d10_56) k_)
  show own_G p.tables e below _ _ (s₁.setTop (mkF m 57 #[.val (.int p0)] [(.int (1 : Int32)), (.int p0)]))
  refine own_st ?_ (fun t_ k_ => XS.ishl X0.here hx rfl (hb hby d10_57) rfl k_)
  show own_G p.tables e below _ _ (s₁.setTop (mkF m 58 #[.val (.int p0)] [(.int (p0 <<< ((1 : Int32) &&& 31)))]))
  exact own_retI X0 hx hlk hret (hb hby d10_58) (by decide) (by decide) ⟨congrArg (fun z => some (Value.int z)) (by rw [hi]; exact own_shl1 (by omega)), N0, e0⟩
theorem pd_7 : parseMethodDescriptor "(I)I" = some ⟨[.int], some .int⟩ := by decide +kernel
theorem d9_0 : decode jdk_52_method_2_code 0 = .ok (.iload_n 0, 1) := by decide +kernel
theorem d9_1 : decode jdk_52_method_2_code 1 = .ok (.invokestatic 11, 3) := by decide +kernel
theorem d9_4 : decode jdk_52_method_2_code 4 = .ok (.newarray .byte, 2) := by decide +kernel
theorem d9_6 : decode jdk_52_method_2_code 6 = .ok (.areturn, 1) := by decide +kernel
theorem pn_9 : plainName "java/lang/StringUTF16" = true := by first | (simp [plainName, overriddenIn]; done) | decide +kernel
theorem ef_9 (m : MethodId) (p0 : Int32) : entryFrame m #[(.int p0)] 1 = mkF m 0 #[.val (.int p0)] [] := by first | (simp [entryFrame, mkF, argsToLocals, Value.category]; done) | rfl
set_option maxRecDepth 65536 in
set_option maxHeartbeats 40000000 in
theorem rm9 (l : Launch) (Z : State) (a0 : Array Value) (hw : ∀ d ∈ tables_1, d.before a0 Z = true) (ws : List Jvm.Cond) (p0 : Int32) (n : Nat) (h0 : Heap) (n0 : Nat) (Z0 : n0 ≤ h0.size) (hi : p0 = n.toInt32) (hn : n ≤ 6) :
    MetFree l (⟨"java/lang/StringUTF16", "newBytesFor", "(I)[B"⟩ : MethodName) (head1 (Jvm.Cond.code (⟨"java/lang/StringUTF16", "newBytesFor", "(I)[B"⟩ : MethodName) jdk_52_method_2_code 1 (some (.array .byte)) :: ws) ({ frames := 1, cells := 1, slots := 12, locals := 12 } : Room)) (fun a U => a = #[(.int p0)] ∧ Z.Warmed39 U.vm ∧ U.heap = h0) (fun _ _ _ _ _ => True) (fun _ U o U' => ∃ v L, o = .returned v ∧ own_QN1 (fun h t => own_Y .byte Z h t (2 * n) (fun _ => 0)) h0 n0 v U'.heap L ∧ FrameEnd U o U' L ({ frames := 1, cells := 1, slots := 12, locals := 12 } : Room).cells ({ frames := 1, cells := 1, slots := 12, locals := 12 } : Room).slots) := by
  refine MetFree.of_bodySF (plainFor_of_name pn_9) hisR ?_
  intro p e s m args below meth c s₁ Bd hml0 hP hK
  obtain ⟨rfl, hZ, hh⟩ := hP
  have hx := Bd.exec
  have hby := Bd.bytes
  have hlk : meth.locks = false := BodyLoose.notSynchronized Bd
  have hret := Bd.returns
  have hml : c.maxLocals = 1 := hml0
  have hown : s.vm.findClass "java/lang/StringUTF16" = some m.cls := findClass_of_methodNamed Bd.named
  have hnm := (name_of_methodNamed Bd.named Bd.method).1
  have X0 : Stand p l e ({ frames := 1, cells := 1, slots := 12, locals := 12 } : Room) s m #[(.int p0)] below meth c s₁ [] 0 0 := Stand.of_body Bd
  have e0 : s₁.heap = h0 := by rw [← hh, Bd.state]; rfl
  have N0 := Fr.nil n0
  show own_G p.tables e below (own_E s ({ frames := 1, cells := 1, slots := 12, locals := 12 } : Room).cells ({ frames := 1, cells := 1, slots := 12, locals := 12 } : Room).slots) (own_QN1 (fun h t => own_Y .byte Z h t (2 * n) (fun _ => 0)) h0 n0) (s₁.setTop (entryFrame m #[(.int p0)] 1))
  refine own_st ?_ (fun t_ k_ => castTop (ef_9 m p0) k_)
  show own_G p.tables e below _ _ (s₁.setTop (mkF m 0 #[.val (.int p0)] []))
  refine own_st ?_ (fun t_ k_ => XS.iloadN X0.here hx rfl (hb hby d9_0) rfl k_)
  show own_G p.tables e below _ _ (s₁.setTop (mkF m 1 #[.val (.int p0)] [(.int p0)]))
  obtain ⟨_, _, ⟨T1, L1, k1, n1⟩, -, X1, ⟨Lc1, hQ1, l1, y1, z1⟩, st1⟩ := Jvm.LawKit.callS X0 hx (y := (⟨"java/lang/StringUTF16", "newBytesLength", "(I)I"⟩ : MethodName)) hown (mvT hZ (hw _ (List.mem_of_getElem? (i := 43) rfl))) (mvT hZ (hw _ (List.mem_of_getElem? (i := 44) rfl))) (mvT hZ (hw _ (List.mem_of_getElem? (i := 31) rfl))) (mvT hZ (hw _ (List.mem_of_getElem? (i := 45) rfl))) (by decide) (backOf (W := 0) (rm10 l Z _ hw [] p0 n h0 n0 Z0 hi hn) hZ (hw _ (List.mem_of_getElem? (i := 45) rfl)) (hw _ (List.mem_of_getElem? (i := 31) rfl)) (by decide) (by decide)) (g := (mkF m 1 #[.val (.int p0)] [(.int p0)])) rfl (by rw [hml]; rfl) (argsL := [(.int p0)]) (rest := []) (lenOf pd_7 rfl) rfl (by show 2 * 0 + _ ≤ _; exact Nat.le_of_eq rfl) (hb hby d9_1) (fun _ _ => ⟨rfl, e0, (by decide : 0 + 0 ≤ _), (by decide : 0 + 0 ≤ _)⟩)
  dsimp only [Pt.U, Pt.locs, Pt.cells, Pt.slots] at X1 l1 y1 z1 st1 hQ1
  subst l1 y1 z1
  obtain ⟨rfl, N1q, e1⟩ := hQ1
  have N1 := Fr.app N0 N1q
  refine own_st ?_ st1
  show own_G p.tables e below _ _ (T1.setTop (mkF m 4 #[.val (.int p0)] [(.int (2 * n).toInt32)]))
  obtain ⟨T2, h2, k2, X2, e2, E2, A2, st2⟩ := newP X1 hx hZ (hw _ (List.mem_of_getElem? (i := 33) rfl)) e1 (g := (mkF m 4 #[.val (.int p0)] [(.int (2 * n).toInt32)])) rfl (hb hby d9_4) rfl (own_neg (by omega)) (cap := 12) (by rw [own_clamp (by omega)]; omega) (by decide) (by decide) (by decide)
  obtain ⟨b2, gz2⟩ : ∃ z, z = h0.size := ⟨_, rfl⟩
  rw [← gz2] at A2 st2
  have g_b2 : n0 ≤ b2 := Nat.le_trans Z0 (Nat.le_of_eq gz2.symm)
  have sz_b2 : h0.size ≤ b2 := Nat.le_trans (Keep.refl h0 []).1 (Nat.le_of_eq gz2.symm)
  have Zs3 : n0 ≤ h2.size := Nat.le_trans Z0 E2.1
  have Kc4 : Keep h0 h2 [] := (Keep.refl h0 []).ext E2
  have Y_b2 : own_Y .byte Z h2 b2 (2 * n) (fun _ => 0) := own_Y_new (Arv.new A2 (own_neg (by omega))) (own_clamp (by omega))
  refine own_st ?_ st2
  show own_G p.tables e below _ _ (T2.setTop (mkF m 6 #[.val (.int p0)] [(.ref b2)]))
  refine own_retA X2 hx hlk hret rfl rfl rfl (hb hby d9_6) (by decide) (by decide) ⟨b2, rfl, N1, ?_⟩
  rw [e2]
  exact ⟨Kc4, sz_b2, Y_b2⟩
theorem d11_0 : decode jdk_52_method_4_code 0 = .ok (.getstatic 44, 3) := by decide +kernel
theorem d11_3 : decode jdk_52_method_4_code 3 = .ok (.ifCond .ne 25, 3) := by decide +kernel
theorem d11_28 : decode jdk_52_method_4_code 28 = .ok (.iload_n 1, 1) := by decide +kernel
theorem d11_29 : decode jdk_52_method_4_code 29 = .ok (.iconst 1, 1) := by decide +kernel
theorem d11_30 : decode jdk_52_method_4_code 30 = .ok (.ishl, 1) := by decide +kernel
theorem d11_31 : decode jdk_52_method_4_code 31 = .ok (.istore_n 1, 1) := by decide +kernel
theorem d11_32 : decode jdk_52_method_4_code 32 = .ok (.aload_n 0, 1) := by decide +kernel
theorem d11_33 : decode jdk_52_method_4_code 33 = .ok (.iload_n 1, 1) := by decide +kernel
theorem d11_34 : decode jdk_52_method_4_code 34 = .ok (.iinc 1 1, 3) := by decide +kernel
theorem d11_37 : decode jdk_52_method_4_code 37 = .ok (.iload_n 2, 1) := by decide +kernel
theorem d11_38 : decode jdk_52_method_4_code 38 = .ok (.getstatic 59, 3) := by decide +kernel
theorem d11_41 : decode jdk_52_method_4_code 41 = .ok (.ishr, 1) := by decide +kernel
theorem d11_42 : decode jdk_52_method_4_code 42 = .ok (.i2b, 1) := by decide +kernel
theorem d11_43 : decode jdk_52_method_4_code 43 = .ok (.bastore, 1) := by decide +kernel
theorem d11_44 : decode jdk_52_method_4_code 44 = .ok (.aload_n 0, 1) := by decide +kernel
theorem d11_45 : decode jdk_52_method_4_code 45 = .ok (.iload_n 1, 1) := by decide +kernel
theorem d11_46 : decode jdk_52_method_4_code 46 = .ok (.iload_n 2, 1) := by decide +kernel
theorem d11_47 : decode jdk_52_method_4_code 47 = .ok (.getstatic 63, 3) := by decide +kernel
theorem d11_50 : decode jdk_52_method_4_code 50 = .ok (.ishr, 1) := by decide +kernel
theorem d11_51 : decode jdk_52_method_4_code 51 = .ok (.i2b, 1) := by decide +kernel
theorem d11_52 : decode jdk_52_method_4_code 52 = .ok (.bastore, 1) := by decide +kernel
theorem d11_53 : decode jdk_52_method_4_code 53 = .ok (.return_, 1) := by decide +kernel
theorem pn_11 : plainName "java/lang/StringUTF16" = true := by first | (simp [plainName, overriddenIn]; done) | decide +kernel
theorem ef_11 (m : MethodId) (a0 : Addr) (p1 : Int32) (p2 : Int32) : entryFrame m #[(.ref a0), (.int p1), (.int p2)] 3 = mkF m 0 #[.val (.ref a0), .val (.int p1), .val (.int p2)] [] := by first | (simp [entryFrame, mkF, argsToLocals, Value.category]; done) | rfl
set_option maxRecDepth 65536 in
set_option maxHeartbeats 40000000 in
theorem rm11 (l : Launch) (Z : State) (a0 : Array Value) (hw : ∀ d ∈ tables_1, d.before a0 Z = true) (ws : List Jvm.Cond) (a0 : Addr) (p1 : Int32) (p2 : Int32) (z1 : Int32) (fm : Value) (i : Nat) (N : Nat) (g1 : Nat → Int32) (h0 : Heap) (n0 : Nat) (Z0 : n0 ≤ h0.size) (g_a0 : n0 ≤ a0) (SS : own_SS Z h0 n0 z1 fm) (Y0 : own_Y .byte Z h0 a0 N g1) (hi : p1 = i.toInt32) (hbb : 2 * i + 1 < N) (hN : N < 2 ^ 31) :
    MetFree l (⟨"java/lang/StringUTF16", "putChar", "([BII)V"⟩ : MethodName) (head1 (Jvm.Cond.code (⟨"java/lang/StringUTF16", "putChar", "([BII)V"⟩ : MethodName) jdk_52_method_4_code 3 none :: ws) ({ frames := 0, cells := 0, slots := 0, locals := 0 } : Room)) (fun a U => a = #[(.ref a0), (.int p1), (.int p2)] ∧ Z.Warmed39 U.vm ∧ U.heap = h0) (fun _ _ _ _ _ => True) (fun _ U o U' => ∃ v L, o = .returned v ∧ own_QK Z none [a0] (fun h => own_Y .byte Z h a0 N (own_upd (own_upd g1 (2 * i) (own_lo p2)) (2 * i + 1) (own_hi p2))) h0 n0 v U'.heap L ∧ FrameEnd U o U' L ({ frames := 0, cells := 0, slots := 0, locals := 0 } : Room).cells ({ frames := 0, cells := 0, slots := 0, locals := 0 } : Room).slots) := by
  refine MetFree.of_bodySF (plainFor_of_name pn_11) hisR ?_
  intro p e s m args below meth c s₁ Bd hml0 hP hK
  obtain ⟨rfl, hZ, hh⟩ := hP
  have hx := Bd.exec
  have hby := Bd.bytes
  have hlk : meth.locks = false := BodyLoose.notSynchronized Bd
  have hret := Bd.returns
  have hml : c.maxLocals = 3 := hml0
  have hown : s.vm.findClass "java/lang/StringUTF16" = some m.cls := findClass_of_methodNamed Bd.named
  have hnm := (name_of_methodNamed Bd.named Bd.method).1
  have X0 : Stand p l e ({ frames := 0, cells := 0, slots := 0, locals := 0 } : Room) s m #[(.ref a0), (.int p1), (.int p2)] below meth c s₁ [] 0 0 := Stand.of_body Bd
  have e0 : s₁.heap = h0 := by rw [← hh, Bd.state]; rfl
  have N0 := Fr.nil n0
  show own_G p.tables e below (own_E s ({ frames := 0, cells := 0, slots := 0, locals := 0 } : Room).cells ({ frames := 0, cells := 0, slots := 0, locals := 0 } : Room).slots) (own_QK Z none [a0] (fun h => own_Y .byte Z h a0 N (own_upd (own_upd g1 (2 * i) (own_lo p2)) (2 * i + 1) (own_hi p2))) h0 n0) (s₁.setTop (entryFrame m #[(.ref a0), (.int p1), (.int p2)] 3))
  refine own_st ?_ (fun t_ k_ => castTop (ef_11 m a0 p1 p2) k_)
  show own_G p.tables e below _ _ (s₁.setTop (mkF m 0 #[.val (.ref a0), .val (.int p1), .val (.int p2)] []))
  obtain ⟨T1, X1, e1, st1⟩ := getS2 X0 hx hZ hown (host := "") (Or.inl (hw _ (List.mem_of_getElem? (i := 50) rfl))) Via.refl e0 (own_Su_to SS.2.2.1) (g := (mkF m 0 #[.val (.ref a0), .val (.int p1), .val (.int p2)] [])) rfl (hb hby d11_0)
  refine own_st ?_ st1
  show own_G p.tables e below _ _ (T1.setTop (mkF m 3 #[.val (.ref a0), .val (.int p1), .val (.int p2)] [(.int (1 : Int32))]))
  refine own_st ?_ (fun t_ k_ => XS.ifYes X1.here hx rfl (pc0 := 3) (pc' := 28) rfl (hb hby d11_3) rfl ((if0 _ _).trans (feq (by decide : ¬ ((1 : Int32) = (0 : Int32)))).2) (by decide) (by decide) k_)
  show own_G p.tables e below _ _ (T1.setTop (mkF m 28 #[.val (.ref a0), .val (.int p1), .val (.int p2)] []))
  refine own_st ?_ (fun t_ k_ => XS.iloadN X1.here hx rfl (hb hby d11_28) rfl k_)
  show own_G p.tables e below _ _ (T1.setTop (mkF m 29 #[.val (.ref a0), .val (.int p1), .val (.int p2)] [(.int p1)]))
  refine own_st ?_ (fun t_ k_ => XS.iconst X1.here hx rfl (hb hby d11_29) k_)
  show own_G p.tables e below _ _ (T1.setTop (mkF m 30 #[.val (.ref a0), .val (.int p1), .val (.int p2)] [(.int (1 : Int32)), (.int p1)]))
  refine own_st ?_ (fun t_ k_ => XS.ishl X1.here hx rfl (hb hby d11_30) rfl k_)
  show own_G p.tables e below _ _ (T1.setTop (mkF m 31 #[.val (.ref a0), .val (.int p1), .val (.int p2)] [(.int (p1 <<< ((1 : Int32) &&& 31)))]))
  refine own_st ?_ (fun t_ k_ => XS.istoreN X1.here hx rfl (hb hby d11_31) rfl (l' := #[.val (.ref a0), .val (.int (p1 <<< ((1 : Int32) &&& 31))), .val (.int p2)]) rfl k_)
  show own_G p.tables e below _ _ (T1.setTop (mkF m 32 #[.val (.ref a0), .val (.int (p1 <<< ((1 : Int32) &&& 31))), .val (.int p2)] []))
  refine own_st ?_ (fun t_ k_ => XS.aloadN X1.here hx rfl (hb hby d11_32) rfl rfl k_)
  show own_G p.tables e below _ _ (T1.setTop (mkF m 33 #[.val (.ref a0), .val (.int (p1 <<< ((1 : Int32) &&& 31))), .val (.int p2)] [(.ref a0)]))
  refine own_st ?_ (fun t_ k_ => XS.iloadN X1.here hx rfl (hb hby d11_33) rfl k_)
  show own_G p.tables e below _ _ (T1.setTop (mkF m 34 #[.val (.ref a0), .val (.int (p1 <<< ((1 : Int32) &&& 31))), .val (.int p2)] [(.int (p1 <<< ((1 : Int32) &&& 31))), (.ref a0)]))
  refine own_st ?_ (fun t_ k_ => XS.iinc X1.here hx rfl (hb hby d11_34) rfl (l' := #[.val (.ref a0), .val (.int ((p1 <<< ((1 : Int32) &&& 31)) + (1 : Int32))), .val (.int p2)]) rfl k_)
  show own_G p.tables e below _ _ (T1.setTop (mkF m 37 #[.val (.ref a0), .val (.int ((p1 <<< ((1 : Int32) &&& 31)) + (1 : Int32))), .val (.int p2)] [(.int (p1 <<< ((1 : Int32) &&& 31))), (.ref a0)]))
  refine own_st ?_ (fun t_ k_ => XS.iloadN X1.here hx rfl (hb hby d11_37) rfl k_)
  show own_G p.tables e below _ _ (T1.setTop (mkF m 38 #[.val (.ref a0), .val (.int ((p1 <<< ((1 : Int32) &&& 31)) + (1 : Int32))), .val (.int p2)] [(.int p2), (.int (p1 <<< ((1 : Int32) &&& 31))), (.ref a0)]))
  obtain ⟨T2, X2, e2, st2⟩ := getS2 X1 hx hZ hown (host := "") (Or.inl (hw _ (List.mem_of_getElem? (i := 51) rfl))) Via.refl e1 (own_Su_to SS.2.2.2.1) (g := (mkF m 38 #[.val (.ref a0), .val (.int ((p1 <<< ((1 : Int32) &&& 31)) + (1 : Int32))), .val (.int p2)] [(.int p2), (.int (p1 <<< ((1 : Int32) &&& 31))), (.ref a0)])) rfl (hb hby d11_38)
  refine own_st ?_ st2
  show own_G p.tables e below _ _ (T2.setTop (mkF m 41 #[.val (.ref a0), .val (.int ((p1 <<< ((1 : Int32) &&& 31)) + (1 : Int32))), .val (.int p2)] [(.int (0 : Int32)), (.int p2), (.int (p1 <<< ((1 : Int32) &&& 31))), (.ref a0)]))
  refine own_st ?_ (fun t_ k_ => XS.ishr X2.here hx rfl (hb hby d11_41) rfl k_)
  show own_G p.tables e below _ _ (T2.setTop (mkF m 42 #[.val (.ref a0), .val (.int ((p1 <<< ((1 : Int32) &&& 31)) + (1 : Int32))), .val (.int p2)] [(.int (p2 >>> ((0 : Int32) &&& 31))), (.int (p1 <<< ((1 : Int32) &&& 31))), (.ref a0)]))
  refine own_st ?_ (fun t_ k_ => XS.i2b X2.here hx rfl (hb hby d11_42) rfl k_)
  show own_G p.tables e below _ _ (T2.setTop (mkF m 43 #[.val (.ref a0), .val (.int ((p1 <<< ((1 : Int32) &&& 31)) + (1 : Int32))), .val (.int p2)] [(.int ((p2 >>> ((0 : Int32) &&& 31)).toInt8.toInt32)), (.int (p1 <<< ((1 : Int32) &&& 31))), (.ref a0)]))
  have ix3 := own_ix (j := (p1 <<< ((1 : Int32) &&& 31))) (k := 2 * i) (n := N) (by rw [hi]; exact own_shl1 (by omega)) (by omega) hN
  obtain ⟨cl3, Ar3, Sz3, G3⟩ := Y0
  have hin3 : ¬ ((p1 <<< ((1 : Int32) &&& 31)) < 0 ∨ cl3.slots.size ≤ ((p1 <<< ((1 : Int32) &&& 31))).toNatClampNeg) := by rw [Sz3]; exact ix3.1
  obtain ⟨T3, h3, X3, e3, W3, st3⟩ := stB X2 hx hZ e2 Ar3 (j := (p1 <<< ((1 : Int32) &&& 31))) hin3 (g := (mkF m 43 #[.val (.ref a0), .val (.int ((p1 <<< ((1 : Int32) &&& 31)) + (1 : Int32))), .val (.int p2)] [(.int ((p2 >>> ((0 : Int32) &&& 31)).toInt8.toInt32)), (.int (p1 <<< ((1 : Int32) &&& 31))), (.ref a0)])) rfl rfl (hb hby d11_43)
  have N3 := Fr.snoc X3 N0 g_a0
  have Yo3 : own_Y .byte Z h0 a0 N g1 := ⟨cl3, Ar3, Sz3, G3⟩
  have F4_Z : own_SS Z h3 n0 z1 fm := own_SS_keep SS (Keep.of_wr W3) (own_alS g_a0 own_al0)
  have Zs5 : n0 ≤ h3.size := Nat.le_trans Z0 (Keep.of_wr W3).1
  have Kc6 : Keep h0 h3 [a0] := (Keep.refl h0 [a0]).wr W3 (Or.inl (List.mem_of_getElem? (i := 0) rfl))
  have Y3 : own_Y .byte Z h3 a0 N (own_upd g1 (2 * i) (nar .byte ((p2 >>> ((0 : Int32) &&& 31)).toInt8.toInt32))) := own_Y_set Yo3 W3 ix3.2
  refine own_st ?_ st3
  show own_G p.tables e below _ _ (T3.setTop (mkF m 44 #[.val (.ref a0), .val (.int ((p1 <<< ((1 : Int32) &&& 31)) + (1 : Int32))), .val (.int p2)] []))
  refine own_st ?_ (fun t_ k_ => XS.aloadN X3.here hx rfl (hb hby d11_44) rfl rfl k_)
  show own_G p.tables e below _ _ (T3.setTop (mkF m 45 #[.val (.ref a0), .val (.int ((p1 <<< ((1 : Int32) &&& 31)) + (1 : Int32))), .val (.int p2)] [(.ref a0)]))
  refine own_st ?_ (fun t_ k_ => XS.iloadN X3.here hx rfl (hb hby d11_45) rfl k_)
  show own_G p.tables e below _ _ (T3.setTop (mkF m 46 #[.val (.ref a0), .val (.int ((p1 <<< ((1 : Int32) &&& 31)) + (1 : Int32))), .val (.int p2)] [(.int ((p1 <<< ((1 : Int32) &&& 31)) + (1 : Int32))), (.ref a0)]))
  refine own_st ?_ (fun t_ k_ => XS.iloadN X3.here hx rfl (hb hby d11_46) rfl k_)
  show own_G p.tables e below _ _ (T3.setTop (mkF m 47 #[.val (.ref a0), .val (.int ((p1 <<< ((1 : Int32) &&& 31)) + (1 : Int32))), .val (.int p2)] [(.int p2), (.int ((p1 <<< ((1 : Int32) &&& 31)) + (1 : Int32))), (.ref a0)]))
  obtain ⟨T7, X7, e7, st7⟩ := getS2 X3 hx hZ hown (host := "") (Or.inl (hw _ (List.mem_of_getElem? (i := 52) rfl))) Via.refl e3 (own_Su_to F4_Z.2.2.2.2) (g := (mkF m 47 #[.val (.ref a0), .val (.int ((p1 <<< ((1 : Int32) &&& 31)) + (1 : Int32))), .val (.int p2)] [(.int p2), (.int ((p1 <<< ((1 : Int32) &&& 31)) + (1 : Int32))), (.ref a0)])) rfl (hb hby d11_47)
  refine own_st ?_ st7
  show own_G p.tables e below _ _ (T7.setTop (mkF m 50 #[.val (.ref a0), .val (.int ((p1 <<< ((1 : Int32) &&& 31)) + (1 : Int32))), .val (.int p2)] [(.int (8 : Int32)), (.int p2), (.int ((p1 <<< ((1 : Int32) &&& 31)) + (1 : Int32))), (.ref a0)]))
  refine own_st ?_ (fun t_ k_ => XS.ishr X7.here hx rfl (hb hby d11_50) rfl k_)
  show own_G p.tables e below _ _ (T7.setTop (mkF m 51 #[.val (.ref a0), .val (.int ((p1 <<< ((1 : Int32) &&& 31)) + (1 : Int32))), .val (.int p2)] [(.int (p2 >>> ((8 : Int32) &&& 31))), (.int ((p1 <<< ((1 : Int32) &&& 31)) + (1 : Int32))), (.ref a0)]))
  refine own_st ?_ (fun t_ k_ => XS.i2b X7.here hx rfl (hb hby d11_51) rfl k_)
  show own_G p.tables e below _ _ (T7.setTop (mkF m 52 #[.val (.ref a0), .val (.int ((p1 <<< ((1 : Int32) &&& 31)) + (1 : Int32))), .val (.int p2)] [(.int ((p2 >>> ((8 : Int32) &&& 31)).toInt8.toInt32)), (.int ((p1 <<< ((1 : Int32) &&& 31)) + (1 : Int32))), (.ref a0)]))
  have ix8 := own_ix (j := ((p1 <<< ((1 : Int32) &&& 31)) + (1 : Int32))) (k := 2 * i + 1) (n := N) (by rw [hi, own_shl1 (by omega)]; exact own_inc _) (by omega) hN
  obtain ⟨cl8, Ar8, Sz8, G8⟩ := Y3
  have hin8 : ¬ (((p1 <<< ((1 : Int32) &&& 31)) + (1 : Int32)) < 0 ∨ cl8.slots.size ≤ (((p1 <<< ((1 : Int32) &&& 31)) + (1 : Int32))).toNatClampNeg) := by rw [Sz8]; exact ix8.1
  obtain ⟨T8, h8, X8, e8, W8, st8⟩ := stB X7 hx hZ e7 Ar8 (j := ((p1 <<< ((1 : Int32) &&& 31)) + (1 : Int32))) hin8 (g := (mkF m 52 #[.val (.ref a0), .val (.int ((p1 <<< ((1 : Int32) &&& 31)) + (1 : Int32))), .val (.int p2)] [(.int ((p2 >>> ((8 : Int32) &&& 31)).toInt8.toInt32)), (.int ((p1 <<< ((1 : Int32) &&& 31)) + (1 : Int32))), (.ref a0)])) rfl rfl (hb hby d11_52)
  have N8 := Fr.snoc X8 N3 g_a0
  have Yo8 : own_Y .byte Z h3 a0 N (own_upd g1 (2 * i) (nar .byte ((p2 >>> ((0 : Int32) &&& 31)).toInt8.toInt32))) := ⟨cl8, Ar8, Sz8, G8⟩
  have F9_Z : own_SS Z h8 n0 z1 fm := own_SS_keep F4_Z (Keep.of_wr W8) (own_alS g_a0 own_al0)
  have Zs10 : n0 ≤ h8.size := Nat.le_trans Zs5 (Keep.of_wr W8).1
  have Kc11 : Keep h0 h8 [a0] := Kc6.wr W8 (Or.inl (List.mem_of_getElem? (i := 0) rfl))
  have Y8 : own_Y .byte Z h8 a0 N (own_upd (own_upd g1 (2 * i) (nar .byte ((p2 >>> ((0 : Int32) &&& 31)).toInt8.toInt32))) (2 * i + 1) (nar .byte ((p2 >>> ((8 : Int32) &&& 31)).toInt8.toInt32))) := own_Y_set Yo8 W8 ix8.2
  refine own_st ?_ st8
  show own_G p.tables e below _ _ (T8.setTop (mkF m 53 #[.val (.ref a0), .val (.int ((p1 <<< ((1 : Int32) &&& 31)) + (1 : Int32))), .val (.int p2)] []))
  refine own_retV X8 hx hlk hret (hb hby d11_53) (by decide) (by decide) ⟨rfl, N8, ?_⟩
  rw [e8]
  exact ⟨Kc11, Y8⟩
theorem own_step {G ch : Nat → Int32} {kx : Nat} (hG : ∀ i, i < kx → G (2 * i) = own_lo (ch i) ∧ G (2 * i + 1) = own_hi (ch i)) : ∀ i, i < kx + 1 → (own_upd (own_upd G (2 * kx) (own_lo (ch kx))) (2 * kx + 1) (own_hi (ch kx))) (2 * i) = own_lo (ch i) ∧ (own_upd (own_upd G (2 * kx) (own_lo (ch kx))) (2 * kx + 1) (own_hi (ch kx))) (2 * i + 1) = own_hi (ch i) := by
  intro i hi
  by_cases e : i = kx
  · subst e; exact ⟨by rw [own_upd_ne (by omega), own_upd_eq], own_upd_eq⟩
  · obtain ⟨a, b⟩ := hG i (by omega)
    exact ⟨by rw [own_upd_ne (by omega), own_upd_ne (by omega)]; exact a, by rw [own_upd_ne (by omega), own_upd_ne (by omega)]; exact b⟩
theorem pd_9 : parseMethodDescriptor "(I)[B" = some ⟨[.int], some (.array .byte)⟩ := by decide +kernel
theorem pd_8 : parseMethodDescriptor "([BII)V" = some ⟨[(.array .byte), .int, .int], none⟩ := by decide +kernel
theorem d8_0 : decode jdk_52_method_14_code 0 = .ok (.iload_n 2, 1) := by decide +kernel
theorem d8_1 : decode jdk_52_method_14_code 1 = .ok (.invokestatic 107, 3) := by decide +kernel
theorem d8_4 : decode jdk_52_method_14_code 4 = .ok (.astore_n 3, 1) := by decide +kernel
theorem d8_5 : decode jdk_52_method_14_code 5 = .ok (.iconst 0, 1) := by decide +kernel
theorem d8_6 : decode jdk_52_method_14_code 6 = .ok (.istore 4, 2) := by decide +kernel
theorem d8_8 : decode jdk_52_method_14_code 8 = .ok (.iload 4, 2) := by decide +kernel
theorem d8_10 : decode jdk_52_method_14_code 10 = .ok (.iload_n 2, 1) := by decide +kernel
theorem d8_11 : decode jdk_52_method_14_code 11 = .ok (.if_icmp .ge 21, 3) := by decide +kernel
theorem d8_14 : decode jdk_52_method_14_code 14 = .ok (.aload_n 3, 1) := by decide +kernel
theorem d8_15 : decode jdk_52_method_14_code 15 = .ok (.iload 4, 2) := by decide +kernel
theorem d8_17 : decode jdk_52_method_14_code 17 = .ok (.aload_n 0, 1) := by decide +kernel
theorem d8_18 : decode jdk_52_method_14_code 18 = .ok (.iload_n 1, 1) := by decide +kernel
theorem d8_19 : decode jdk_52_method_14_code 19 = .ok (.caload, 1) := by decide +kernel
theorem d8_20 : decode jdk_52_method_14_code 20 = .ok (.invokestatic 111, 3) := by decide +kernel
theorem d8_23 : decode jdk_52_method_14_code 23 = .ok (.iinc 1 1, 3) := by decide +kernel
theorem d8_26 : decode jdk_52_method_14_code 26 = .ok (.iinc 4 1, 3) := by decide +kernel
theorem d8_29 : decode jdk_52_method_14_code 29 = .ok (.goto (-21), 3) := by decide +kernel
theorem d8_32 : decode jdk_52_method_14_code 32 = .ok (.aload_n 3, 1) := by decide +kernel
theorem d8_33 : decode jdk_52_method_14_code 33 = .ok (.areturn, 1) := by decide +kernel
theorem pn_8 : plainName "java/lang/StringUTF16" = true := by first | (simp [plainName, overriddenIn]; done) | decide +kernel
set_option maxRecDepth 65536 in
set_option maxHeartbeats 40000000 in
theorem own_lt {p : Program} {l : Launch} {e : Env} {s : State} {m : MethodId} {args : Array Value} {below : List Frame} {meth : Method} {c : Code} {Z : State} {a0' : Array Value} {h0 : Heap} {n0 : Nat} (hx : p.tables.exec = Jvm.exec) (hlk : meth.locks = false) (hZ : Z.Warmed39 s.vm) (hw : ∀ d ∈ tables_1, d.before a0' Z = true) (hby : c.code = jdk_52_method_14_code) (hml : c.maxLocals = 5) (hown : s.vm.findClass "java/lang/StringUTF16" = some m.cls) (hret : meth.sig.returnType = (some (.array .byte))) {a0 t : Addr} {n : Nat} {ch : Nat → Int32} {z1 : Int32} {fm : Value} (hn : n ≤ 6) (g_t : n0 ≤ t) (sz_t : h0.size ≤ t) (d : Nat) : ∀ {T0 : State} {locs : List Loc} {h1 : Heap} {kx : Nat} {G : Nat → Int32} (hd : kx + d = n) (X0 : Stand p l e ({ frames := 2, cells := 1, slots := 12, locals := 24 } : Room) s m args below meth c T0 locs 1 12) (N0 : Fr n0 locs) (e0 : T0.heap = h1) (K0 : Keep h0 h1 []) (SS : own_SS Z h1 n0 z1 fm) (Y0 : own_Y .char Z h1 a0 n ch) (hne : a0 ≠ t) (Yt : own_Y .byte Z h1 t (2 * n) G) (hG : ∀ i, i < kx → G (2 * i) = own_lo (ch i) ∧ G (2 * i + 1) = own_hi (ch i)) (Z1 : n0 ≤ h1.size),
    own_G p.tables e below (own_E s ({ frames := 2, cells := 1, slots := 12, locals := 24 } : Room).cells ({ frames := 2, cells := 1, slots := 12, locals := 24 } : Room).slots) (own_QN1 (fun h t => ∃ G : Nat → Int32, own_Y .byte Z h t (2 * n) G ∧ ∀ i, i < n → G (2 * i) = own_lo (ch i) ∧ G (2 * i + 1) = own_hi (ch i)) h0 n0) (T0.setTop (mkF m 8 #[.val (.ref a0), .val (.int kx.toInt32), .val (.int n.toInt32), .val (.ref t), .val (.int kx.toInt32)] [])) := by
  induction d with
  | zero =>
    intro T0 locs h1 kx G hd X0 N0 e0 K0 SS Y0 hne Yt hG Z1
    refine own_st ?_ (fun t_ k_ => XS.iload X0.here hx rfl (hb hby d8_8) rfl k_)
    show own_G p.tables e below _ _ (T0.setTop (mkF m 10 #[.val (.ref a0), .val (.int kx.toInt32), .val (.int n.toInt32), .val (.ref t), .val (.int kx.toInt32)] [(.int kx.toInt32)]))
    refine own_st ?_ (fun t_ k_ => XS.iloadN X0.here hx rfl (hb hby d8_10) rfl k_)
    show own_G p.tables e below _ _ (T0.setTop (mkF m 11 #[.val (.ref a0), .val (.int kx.toInt32), .val (.int n.toInt32), .val (.ref t), .val (.int kx.toInt32)] [(.int n.toInt32), (.int kx.toInt32)]))
    refine own_st ?_ (fun t_ k_ => XS.icmpYes X0.here hx rfl (pc0 := 11) (pc' := 32) rfl (hb hby d8_11) rfl (flt (fun q => by have := (own_tlt (by omega) (by omega)).mp q; omega)).2.1 (by decide) (by decide) k_)
    show own_G p.tables e below _ _ (T0.setTop (mkF m 32 #[.val (.ref a0), .val (.int kx.toInt32), .val (.int n.toInt32), .val (.ref t), .val (.int kx.toInt32)] []))
    refine own_st ?_ (fun t_ k_ => XS.aloadN X0.here hx rfl (hb hby d8_32) rfl rfl k_)
    show own_G p.tables e below _ _ (T0.setTop (mkF m 33 #[.val (.ref a0), .val (.int kx.toInt32), .val (.int n.toInt32), .val (.ref t), .val (.int kx.toInt32)] [(.ref t)]))
    refine own_retA X0 hx hlk hret rfl rfl rfl (hb hby d8_33) (by decide) (by decide) ⟨t, rfl, N0, ?_⟩
    rw [e0]
    exact ⟨K0, sz_t, G, Yt, fun i hi => hG i (by omega)⟩
  | succ d ih =>
    intro T0 locs h1 kx G hd X0 N0 e0 K0 SS Y0 hne Yt hG Z1
    refine own_st ?_ (fun t_ k_ => XS.iload X0.here hx rfl (hb hby d8_8) rfl k_)
    show own_G p.tables e below _ _ (T0.setTop (mkF m 10 #[.val (.ref a0), .val (.int kx.toInt32), .val (.int n.toInt32), .val (.ref t), .val (.int kx.toInt32)] [(.int kx.toInt32)]))
    refine own_st ?_ (fun t_ k_ => XS.iloadN X0.here hx rfl (hb hby d8_10) rfl k_)
    show own_G p.tables e below _ _ (T0.setTop (mkF m 11 #[.val (.ref a0), .val (.int kx.toInt32), .val (.int n.toInt32), .val (.ref t), .val (.int kx.toInt32)] [(.int n.toInt32), (.int kx.toInt32)]))
    refine own_st ?_ (fun t_ k_ => XS.icmpNo X0.here hx rfl (hb hby d8_11) rfl (tlt ((own_tlt (by omega) (by omega)).mpr (by omega))).2.1 k_)
    show own_G p.tables e below _ _ (T0.setTop (mkF m 14 #[.val (.ref a0), .val (.int kx.toInt32), .val (.int n.toInt32), .val (.ref t), .val (.int kx.toInt32)] []))
    refine own_st ?_ (fun t_ k_ => XS.aloadN X0.here hx rfl (hb hby d8_14) rfl rfl k_)
    show own_G p.tables e below _ _ (T0.setTop (mkF m 15 #[.val (.ref a0), .val (.int kx.toInt32), .val (.int n.toInt32), .val (.ref t), .val (.int kx.toInt32)] [(.ref t)]))
    refine own_st ?_ (fun t_ k_ => XS.iload X0.here hx rfl (hb hby d8_15) rfl k_)
    show own_G p.tables e below _ _ (T0.setTop (mkF m 17 #[.val (.ref a0), .val (.int kx.toInt32), .val (.int n.toInt32), .val (.ref t), .val (.int kx.toInt32)] [(.int kx.toInt32), (.ref t)]))
    refine own_st ?_ (fun t_ k_ => XS.aloadN X0.here hx rfl (hb hby d8_17) rfl rfl k_)
    show own_G p.tables e below _ _ (T0.setTop (mkF m 18 #[.val (.ref a0), .val (.int kx.toInt32), .val (.int n.toInt32), .val (.ref t), .val (.int kx.toInt32)] [(.ref a0), (.int kx.toInt32), (.ref t)]))
    refine own_st ?_ (fun t_ k_ => XS.iloadN X0.here hx rfl (hb hby d8_18) rfl k_)
    show own_G p.tables e below _ _ (T0.setTop (mkF m 19 #[.val (.ref a0), .val (.int kx.toInt32), .val (.int n.toInt32), .val (.ref t), .val (.int kx.toInt32)] [(.int kx.toInt32), (.ref a0), (.int kx.toInt32), (.ref t)]))
    have ix1 := own_ix (j := kx.toInt32) (k := kx) (n := n) rfl (by omega) (by omega)
    obtain ⟨cl1, Ar1, Sz1, G1⟩ := Y0
    have hin1 : ¬ (kx.toInt32 < 0 ∨ cl1.slots.size ≤ (kx.toInt32).toNatClampNeg) := by rw [Sz1]; exact ix1.1
    have hat1 : cl1.slots[(kx.toInt32).toNatClampNeg]? = some (.int (ch kx)) := by rw [ix1.2]; exact G1 _ (by omega)
    refine own_st ?_ (X0.caload hx (j := kx.toInt32) (v := (.int (ch kx))) (by rw [e0]; exact Ar1.1) (State.isArrayOf_alike hZ.alike Ar1.2.1) Ar1.2.2 hin1 hat1 (g := (mkF m 19 #[.val (.ref a0), .val (.int kx.toInt32), .val (.int n.toInt32), .val (.ref t), .val (.int kx.toInt32)] [(.int kx.toInt32), (.ref a0), (.int kx.toInt32), (.ref t)])) rfl rfl (hb hby d8_19))
    have Yx1 : own_Y .char Z h1 a0 n ch := ⟨cl1, Ar1, Sz1, G1⟩
    show own_G p.tables e below _ _ (T0.setTop (mkF m 20 #[.val (.ref a0), .val (.int kx.toInt32), .val (.int n.toInt32), .val (.ref t), .val (.int kx.toInt32)] [(.int (ch kx)), (.int kx.toInt32), (.ref t)]))
    obtain ⟨_, _, ⟨T2, L2, k2, n2⟩, -, X2, ⟨Lc2, hQ2, l2, y2, z2⟩, st2⟩ := Jvm.LawKit.callS X0 hx (y := (⟨"java/lang/StringUTF16", "putChar", "([BII)V"⟩ : MethodName)) hown (mvT hZ (hw _ (List.mem_of_getElem? (i := 47) rfl))) (mvT hZ (hw _ (List.mem_of_getElem? (i := 48) rfl))) (mvT hZ (hw _ (List.mem_of_getElem? (i := 31) rfl))) (mvT hZ (hw _ (List.mem_of_getElem? (i := 49) rfl))) (by decide) (backOf (W := 0) (rm11 l Z _ hw [] t kx.toInt32 (ch kx) z1 fm kx (2 * n) G h1 n0 Z1 g_t SS Yt rfl (by omega) (by omega)) hZ (hw _ (List.mem_of_getElem? (i := 49) rfl)) (hw _ (List.mem_of_getElem? (i := 31) rfl)) (by decide) (by decide)) (g := (mkF m 20 #[.val (.ref a0), .val (.int kx.toInt32), .val (.int n.toInt32), .val (.ref t), .val (.int kx.toInt32)] [(.int (ch kx)), (.int kx.toInt32), (.ref t)])) rfl (by rw [hml]; rfl) (argsL := [(.ref t), (.int kx.toInt32), (.int (ch kx))]) (rest := []) (lenOf pd_8 rfl) rfl (by show 2 * 0 + _ ≤ _; exact Nat.le_of_eq rfl) (hb hby d8_20) (fun _ _ => ⟨rfl, e0, (by decide : 1 + 0 ≤ _), (by decide : 12 + 0 ≤ _)⟩)
    dsimp only [Pt.U, Pt.locs, Pt.cells, Pt.slots] at X2 l2 y2 z2 st2 hQ2
    subst l2 y2 z2
    obtain ⟨rfl, N2q, hq2⟩ := hQ2
    have N2 := Fr.app N0 N2q
    obtain ⟨K2, Yp2⟩ := hq2
    have F3_Z : own_SS Z T2.heap n0 z1 fm := own_SS_keep SS K2 (own_alS g_t own_al0)
    have F4_P : own_Y .char Z T2.heap a0 n ch := own_Y_keep Yx1 K2 (ninS hne nin0)
    have Zs5 : n0 ≤ T2.heap.size := Nat.le_trans Z1 K2.1
    have Kc6 : Keep h0 T2.heap [] := K0.trans K2 (allS (Or.inr sz_t) all0)
    have own_hG : ∀ i, i < kx + 1 → (own_upd (own_upd G (2 * kx) (own_lo (ch kx))) (2 * kx + 1) (own_hi (ch kx))) (2 * i) = own_lo (ch i) ∧ (own_upd (own_upd G (2 * kx) (own_lo (ch kx))) (2 * kx + 1) (own_hi (ch kx))) (2 * i + 1) = own_hi (ch i) := own_step hG
    refine own_st ?_ st2
    show own_G p.tables e below _ _ (T2.setTop (mkF m 23 #[.val (.ref a0), .val (.int kx.toInt32), .val (.int n.toInt32), .val (.ref t), .val (.int kx.toInt32)] []))
    refine own_st ?_ (fun t_ k_ => XS.iinc X2.here hx rfl (hb hby d8_23) rfl (l' := #[.val (.ref a0), .val (.int (kx.toInt32 + (1 : Int32))), .val (.int n.toInt32), .val (.ref t), .val (.int kx.toInt32)]) rfl k_)
    show own_G p.tables e below _ _ (T2.setTop (mkF m 26 #[.val (.ref a0), .val (.int (kx.toInt32 + (1 : Int32))), .val (.int n.toInt32), .val (.ref t), .val (.int kx.toInt32)] []))
    refine own_st ?_ (fun t_ k_ => XS.iinc X2.here hx rfl (hb hby d8_26) rfl (l' := #[.val (.ref a0), .val (.int (kx.toInt32 + (1 : Int32))), .val (.int n.toInt32), .val (.ref t), .val (.int (kx.toInt32 + (1 : Int32)))]) rfl k_)
    show own_G p.tables e below _ _ (T2.setTop (mkF m 29 #[.val (.ref a0), .val (.int (kx.toInt32 + (1 : Int32))), .val (.int n.toInt32), .val (.ref t), .val (.int (kx.toInt32 + (1 : Int32)))] []))
    refine own_st ?_ (fun t_ k_ => XS.goto X2.here hx rfl (pc0 := 29) (pc' := 8) rfl (hb hby d8_29) (by decide) (by decide) k_)
    show own_G p.tables e below _ _ (T2.setTop (mkF m 8 #[.val (.ref a0), .val (.int (kx.toInt32 + (1 : Int32))), .val (.int n.toInt32), .val (.ref t), .val (.int (kx.toInt32 + (1 : Int32)))] []))
    simp only [own_inc]
    exact ih (kx := kx + 1) (by omega) X2 N2 rfl Kc6 F3_Z F4_P hne Yp2 own_hG Zs5
theorem ef_8 (m : MethodId) (a0 : Addr) (n : Nat) : entryFrame m #[(.ref a0), (.int (0 : Int32)), (.int n.toInt32)] 5 = mkF m 0 #[.val (.ref a0), .val (.int (0 : Int32)), .val (.int n.toInt32), .unset, .unset] [] := by first | (simp [entryFrame, mkF, argsToLocals, Value.category]; done) | rfl
set_option maxRecDepth 65536 in
set_option maxHeartbeats 40000000 in
theorem rm8 (l : Launch) (Z : State) (a0 : Array Value) (hw : ∀ d ∈ tables_1, d.before a0 Z = true) (ws : List Jvm.Cond) (a0 : Addr) (z1 : Int32) (fm : Value) (n : Nat) (ch : Nat → Int32) (h0 : Heap) (n0 : Nat) (Z0 : n0 ≤ h0.size) (SS : own_SS Z h0 n0 z1 fm) (Y0 : own_Y .char Z h0 a0 n ch) (hn : n ≤ 6) :
    MetFree l (⟨"java/lang/StringUTF16", "toBytes", "([CII)[B"⟩ : MethodName) (head1 (Jvm.Cond.code (⟨"java/lang/StringUTF16", "toBytes", "([CII)[B"⟩ : MethodName) jdk_52_method_14_code 5 (some (.array .byte)) :: ws) ({ frames := 2, cells := 1, slots := 12, locals := 24 } : Room)) (fun a U => a = #[(.ref a0), (.int (0 : Int32)), (.int n.toInt32)] ∧ Z.Warmed39 U.vm ∧ U.heap = h0) (fun _ _ _ _ _ => True) (fun _ U o U' => ∃ v L, o = .returned v ∧ own_QN1 (fun h t => ∃ G : Nat → Int32, own_Y .byte Z h t (2 * n) G ∧ ∀ i, i < n → G (2 * i) = own_lo (ch i) ∧ G (2 * i + 1) = own_hi (ch i)) h0 n0 v U'.heap L ∧ FrameEnd U o U' L ({ frames := 2, cells := 1, slots := 12, locals := 24 } : Room).cells ({ frames := 2, cells := 1, slots := 12, locals := 24 } : Room).slots) := by
  refine MetFree.of_bodySF (plainFor_of_name pn_8) hisR ?_
  intro p e s m args below meth c s₁ Bd hml0 hP hK
  obtain ⟨rfl, hZ, hh⟩ := hP
  have hx := Bd.exec
  have hby := Bd.bytes
  have hlk : meth.locks = false := BodyLoose.notSynchronized Bd
  have hret := Bd.returns
  have hml : c.maxLocals = 5 := hml0
  have hown : s.vm.findClass "java/lang/StringUTF16" = some m.cls := findClass_of_methodNamed Bd.named
  have hnm := (name_of_methodNamed Bd.named Bd.method).1
  have X0 : Stand p l e ({ frames := 2, cells := 1, slots := 12, locals := 24 } : Room) s m #[(.ref a0), (.int (0 : Int32)), (.int n.toInt32)] below meth c s₁ [] 0 0 := Stand.of_body Bd
  have e0 : s₁.heap = h0 := by rw [← hh, Bd.state]; rfl
  have N0 := Fr.nil n0
  show own_G p.tables e below (own_E s ({ frames := 2, cells := 1, slots := 12, locals := 24 } : Room).cells ({ frames := 2, cells := 1, slots := 12, locals := 24 } : Room).slots) (own_QN1 (fun h t => ∃ G : Nat → Int32, own_Y .byte Z h t (2 * n) G ∧ ∀ i, i < n → G (2 * i) = own_lo (ch i) ∧ G (2 * i + 1) = own_hi (ch i)) h0 n0) (s₁.setTop (entryFrame m #[(.ref a0), (.int (0 : Int32)), (.int n.toInt32)] 5))
  refine own_st ?_ (fun t_ k_ => castTop (ef_8 m a0 n) k_)
  show own_G p.tables e below _ _ (s₁.setTop (mkF m 0 #[.val (.ref a0), .val (.int (0 : Int32)), .val (.int n.toInt32), .unset, .unset] []))
  refine own_st ?_ (fun t_ k_ => XS.iloadN X0.here hx rfl (hb hby d8_0) rfl k_)
  show own_G p.tables e below _ _ (s₁.setTop (mkF m 1 #[.val (.ref a0), .val (.int (0 : Int32)), .val (.int n.toInt32), .unset, .unset] [(.int n.toInt32)]))
  obtain ⟨_, _, ⟨T1, L1, k1, n1⟩, -, X1, ⟨Lc1, hQ1, l1, y1, z1⟩, st1⟩ := Jvm.LawKit.callS X0 hx (y := (⟨"java/lang/StringUTF16", "newBytesFor", "(I)[B"⟩ : MethodName)) hown (mvT hZ (hw _ (List.mem_of_getElem? (i := 40) rfl))) (mvT hZ (hw _ (List.mem_of_getElem? (i := 41) rfl))) (mvT hZ (hw _ (List.mem_of_getElem? (i := 31) rfl))) (mvT hZ (hw _ (List.mem_of_getElem? (i := 42) rfl))) (by decide) (backOf (W := 0) (rm9 l Z _ hw [] n.toInt32 n h0 n0 Z0 rfl hn) hZ (hw _ (List.mem_of_getElem? (i := 42) rfl)) (hw _ (List.mem_of_getElem? (i := 31) rfl)) (by decide) (by decide)) (g := (mkF m 1 #[.val (.ref a0), .val (.int (0 : Int32)), .val (.int n.toInt32), .unset, .unset] [(.int n.toInt32)])) rfl (by rw [hml]; rfl) (argsL := [(.int n.toInt32)]) (rest := []) (lenOf pd_9 rfl) rfl (by show 2 * 0 + _ ≤ _; exact Nat.le_of_eq rfl) (hb hby d8_1) (fun _ _ => ⟨rfl, e0, (by decide : 0 + 1 ≤ _), (by decide : 0 + 12 ≤ _)⟩)
  dsimp only [Pt.U, Pt.locs, Pt.cells, Pt.slots] at X1 l1 y1 z1 st1 hQ1
  subst l1 y1 z1
  obtain ⟨t1, rfl, N1q, hq1⟩ := hQ1
  have N1 := Fr.app N0 N1q
  obtain ⟨K1, hs1, hp1⟩ := hq1
  have g_t1 : n0 ≤ t1 := Nat.le_trans Z0 hs1
  have sz_t1 : h0.size ≤ t1 := Nat.le_trans (Keep.refl h0 []).1 hs1
  have ne_a0_t1 : a0 ≠ t1 := Nat.ne_of_lt (Nat.lt_of_lt_of_le (own_Y_lt Y0) hs1)
  have F2_Z : own_SS Z T1.heap n0 z1 fm := own_SS_keep SS K1 own_al0
  have F3_P : own_Y .char Z T1.heap a0 n ch := own_Y_keep Y0 K1 nin0
  have Zs4 : n0 ≤ T1.heap.size := Nat.le_trans Z0 K1.1
  have Kc5 : Keep h0 T1.heap [] := (Keep.refl h0 []).trans K1 all0
  refine own_st ?_ st1
  show own_G p.tables e below _ _ (T1.setTop (mkF m 4 #[.val (.ref a0), .val (.int (0 : Int32)), .val (.int n.toInt32), .unset, .unset] [(.ref t1)]))
  refine own_st ?_ (fun t_ k_ => XS.astoreN X1.here hx rfl (hb hby d8_4) rfl rfl (l' := #[.val (.ref a0), .val (.int (0 : Int32)), .val (.int n.toInt32), .val (.ref t1), .unset]) rfl k_)
  show own_G p.tables e below _ _ (T1.setTop (mkF m 5 #[.val (.ref a0), .val (.int (0 : Int32)), .val (.int n.toInt32), .val (.ref t1), .unset] []))
  refine own_st ?_ (fun t_ k_ => XS.iconst X1.here hx rfl (hb hby d8_5) k_)
  show own_G p.tables e below _ _ (T1.setTop (mkF m 6 #[.val (.ref a0), .val (.int (0 : Int32)), .val (.int n.toInt32), .val (.ref t1), .unset] [(.int (0 : Int32))]))
  refine own_st ?_ (fun t_ k_ => XS.istore X1.here hx rfl (hb hby d8_6) rfl (l' := #[.val (.ref a0), .val (.int (0 : Int32)), .val (.int n.toInt32), .val (.ref t1), .val (.int (0 : Int32))]) rfl k_)
  show own_G p.tables e below _ _ (T1.setTop (mkF m 8 #[.val (.ref a0), .val (.int (0 : Int32)), .val (.int n.toInt32), .val (.ref t1), .val (.int (0 : Int32))] []))
  exact own_lt hx hlk hZ hw hby hml hown hret hn g_t1 sz_t1 n (kx := 0) (by omega) X1 N1 rfl Kc5 F2_Z F3_P ne_a0_t1 hp1 (fun i hi => absurd hi (Nat.not_lt_zero i)) Zs4
theorem own_small255 {c : Int32} (h : (255 : Int32) < c) : 255 < c.toInt := by
  have e : (255 : Int32).toInt = 255 := by decide
  rw [Int32.lt_iff_toInt_lt, e] at h; exact h
theorem own_step5 {G ch : Nat → Int32} {kx : Nat} (hG : ∀ i, i < kx → G i = nar .byte ((ch i).toInt8.toInt32) ∧ (ch i).toInt ≤ 255) (h : ¬ (255 : Int32) < ch kx) : ∀ i, i < kx + 1 → (own_upd G kx (nar .byte ((ch kx).toInt8.toInt32))) i = nar .byte ((ch i).toInt8.toInt32) ∧ (ch i).toInt ≤ 255 := by
  intro i hi
  by_cases e : i = kx
  · subst e
    have e5 : (255 : Int32).toInt = 255 := by decide
    rw [Int32.lt_iff_toInt_lt, e5] at h
    exact ⟨own_upd_eq, by omega⟩
  · obtain ⟨a, b⟩ := hG i (by omega)
    exact ⟨by rw [own_upd_ne e]; exact a, b⟩
theorem own_P5_eq {Z : State} {n k : Nat} {ch : Nat → Int32} {t : Addr} {h : Heap} (P : own_P5 Z n ch t k h) (hn : n ≤ 6) (hC : ∀ i, i < n → own_isC (ch i)) (e : k.toInt32 = n.toInt32) : own_PB Z n ch h t := by
  rcases P with ⟨-, G, Y, hG⟩ | ⟨hk, -⟩
  · exact ⟨0, n, G, Y, own_D_mkL hC (by omega) hG⟩
  · have := (own_teq (by omega) (by omega)).mp e; omega
theorem own_P5_ne {Z : State} {n k : Nat} {ch : Nat → Int32} {t : Addr} {h : Heap} (P : own_P5 Z n ch t k h) (e : ¬ k.toInt32 = n.toInt32) : k < n ∧ 255 < (ch k).toInt := by
  rcases P with ⟨q, -⟩ | q
  · exact absurd (by rw [q]) e
  · exact q
theorem own_fcd {Z : State} {h : Heap} {a : Addr} {cd : Int32} (F : Fld Z h a "java/lang/String" "coder" "B" (.int (nar .byte cd))) (e : nar .byte cd = cd) : Fld Z h a "java/lang/String" "coder" "B" (.int cd) := by rw [e] at F; exact F
theorem d7_0 : decode jdk_52_method_21_code 0 = .ok (.iconst 0, 1) := by decide +kernel
theorem d7_1 : decode jdk_52_method_21_code 1 = .ok (.istore 5, 2) := by decide +kernel
theorem d7_3 : decode jdk_52_method_21_code 3 = .ok (.iload 5, 2) := by decide +kernel
theorem d7_5 : decode jdk_52_method_21_code 5 = .ok (.iload 4, 2) := by decide +kernel
theorem d7_7 : decode jdk_52_method_21_code 7 = .ok (.if_icmp .ge 37, 3) := by decide +kernel
theorem d7_10 : decode jdk_52_method_21_code 10 = .ok (.aload_n 0, 1) := by decide +kernel
theorem d7_11 : decode jdk_52_method_21_code 11 = .ok (.iload_n 1, 1) := by decide +kernel
theorem d7_12 : decode jdk_52_method_21_code 12 = .ok (.caload, 1) := by decide +kernel
theorem d7_13 : decode jdk_52_method_21_code 13 = .ok (.istore 6, 2) := by decide +kernel
theorem d7_15 : decode jdk_52_method_21_code 15 = .ok (.iload 6, 2) := by decide +kernel
theorem d7_17 : decode jdk_52_method_21_code 17 = .ok (.sipush 255, 3) := by decide +kernel
theorem d7_20 : decode jdk_52_method_21_code 20 = .ok (.if_icmp .le 6, 3) := by decide +kernel
theorem d7_23 : decode jdk_52_method_21_code 23 = .ok (.iload 5, 2) := by decide +kernel
theorem d7_25 : decode jdk_52_method_21_code 25 = .ok (.ireturn, 1) := by decide +kernel
theorem d7_26 : decode jdk_52_method_21_code 26 = .ok (.aload_n 2, 1) := by decide +kernel
theorem d7_27 : decode jdk_52_method_21_code 27 = .ok (.iload_n 3, 1) := by decide +kernel
theorem d7_28 : decode jdk_52_method_21_code 28 = .ok (.iload 6, 2) := by decide +kernel
theorem d7_30 : decode jdk_52_method_21_code 30 = .ok (.i2b, 1) := by decide +kernel
theorem d7_31 : decode jdk_52_method_21_code 31 = .ok (.bastore, 1) := by decide +kernel
theorem d7_32 : decode jdk_52_method_21_code 32 = .ok (.iinc 1 1, 3) := by decide +kernel
theorem d7_35 : decode jdk_52_method_21_code 35 = .ok (.iinc 3 1, 3) := by decide +kernel
theorem d7_38 : decode jdk_52_method_21_code 38 = .ok (.iinc 5 1, 3) := by decide +kernel
theorem d7_41 : decode jdk_52_method_21_code 41 = .ok (.goto (-38), 3) := by decide +kernel
theorem d7_44 : decode jdk_52_method_21_code 44 = .ok (.iload 4, 2) := by decide +kernel
theorem d7_46 : decode jdk_52_method_21_code 46 = .ok (.ireturn, 1) := by decide +kernel
theorem pn_7 : plainName "java/lang/StringUTF16" = true := by first | (simp [plainName, overriddenIn]; done) | decide +kernel
set_option maxRecDepth 65536 in
set_option maxHeartbeats 40000000 in
theorem own_l5 {p : Program} {l : Launch} {e : Env} {s : State} {m : MethodId} {args : Array Value} {below : List Frame} {meth : Method} {c : Code} {Z : State} {a0' : Array Value} {h0 : Heap} {n0 : Nat} (hx : p.tables.exec = Jvm.exec) (hlk : meth.locks = false) (hZ : Z.Warmed39 s.vm) (hw : ∀ d ∈ tables_1, d.before a0' Z = true) (hby : c.code = jdk_52_method_21_code) (hml : c.maxLocals = 7) (hown : s.vm.findClass "java/lang/StringUTF16" = some m.cls) (hret : meth.sig.returnType = (some .int)) {a0 a2 : Addr} {n : Nat} {ch : Nat → Int32} (hn : n ≤ 6) (hne : a0 ≠ a2) (g_a2 : n0 ≤ a2) (d : Nat) : ∀ {T0 : State} {locs : List Loc} {h1 : Heap} {kx : Nat} {G : Nat → Int32} {s6 : Slot} (hd : kx + d = n) (o_s6 : s6 = .unset ∨ ∃ w, s6 = .val w ∧ w.category = 1) (X0 : Stand p l e ({ frames := 0, cells := 0, slots := 0, locals := 0 } : Room) s m args below meth c T0 locs 0 0) (N0 : Fr n0 locs) (e0 : T0.heap = h1) (K0 : Keep h0 h1 [a2]) (Y0 : own_Y .char Z h1 a0 n ch) (Yt : own_Y .byte Z h1 a2 n G) (hG : ∀ i, i < kx → G i = nar .byte ((ch i).toInt8.toInt32) ∧ (ch i).toInt ≤ 255) (Z1 : n0 ≤ h1.size),
    own_G p.tables e below (own_E s 0 0) (own_Q5 Z n ch a2 h0 n0) (T0.setTop (mkF m 3 #[.val (.ref a0), .val (.int kx.toInt32), .val (.ref a2), .val (.int kx.toInt32), .val (.int n.toInt32), .val (.int kx.toInt32), s6] [])) := by
  induction d with
  | zero =>
    intro T0 locs h1 kx G s6 hd o_s6 X0 N0 e0 K0 Y0 Yt hG Z1
    refine own_st ?_ (fun t_ k_ => XS.iload X0.here hx rfl (hb hby d7_3) rfl k_)
    show own_G p.tables e below _ _ (T0.setTop (mkF m 5 #[.val (.ref a0), .val (.int kx.toInt32), .val (.ref a2), .val (.int kx.toInt32), .val (.int n.toInt32), .val (.int kx.toInt32), s6] [(.int kx.toInt32)]))
    refine own_st ?_ (fun t_ k_ => XS.iload X0.here hx rfl (hb hby d7_5) rfl k_)
    show own_G p.tables e below _ _ (T0.setTop (mkF m 7 #[.val (.ref a0), .val (.int kx.toInt32), .val (.ref a2), .val (.int kx.toInt32), .val (.int n.toInt32), .val (.int kx.toInt32), s6] [(.int n.toInt32), (.int kx.toInt32)]))
    refine own_st ?_ (fun t_ k_ => XS.icmpYes X0.here hx rfl (pc0 := 7) (pc' := 44) rfl (hb hby d7_7) rfl (flt (fun q => by have := (own_tlt (by omega) (by omega)).mp q; omega)).2.1 (by decide) (by decide) k_)
    show own_G p.tables e below _ _ (T0.setTop (mkF m 44 #[.val (.ref a0), .val (.int kx.toInt32), .val (.ref a2), .val (.int kx.toInt32), .val (.int n.toInt32), .val (.int kx.toInt32), s6] []))
    refine own_st ?_ (fun t_ k_ => XS.iload X0.here hx rfl (hb hby d7_44) rfl k_)
    show own_G p.tables e below _ _ (T0.setTop (mkF m 46 #[.val (.ref a0), .val (.int kx.toInt32), .val (.ref a2), .val (.int kx.toInt32), .val (.int n.toInt32), .val (.int kx.toInt32), s6] [(.int n.toInt32)]))
    refine own_retI X0 hx hlk hret (hb hby d7_46) (by decide) (by decide) ⟨n, rfl, N0, ?_⟩
    rw [e0]
    exact ⟨K0, Or.inl ⟨rfl, G, Yt, fun i hi => hG i (by omega)⟩⟩
  | succ d ih =>
    intro T0 locs h1 kx G s6 hd o_s6 X0 N0 e0 K0 Y0 Yt hG Z1
    refine own_st ?_ (fun t_ k_ => XS.iload X0.here hx rfl (hb hby d7_3) rfl k_)
    show own_G p.tables e below _ _ (T0.setTop (mkF m 5 #[.val (.ref a0), .val (.int kx.toInt32), .val (.ref a2), .val (.int kx.toInt32), .val (.int n.toInt32), .val (.int kx.toInt32), s6] [(.int kx.toInt32)]))
    refine own_st ?_ (fun t_ k_ => XS.iload X0.here hx rfl (hb hby d7_5) rfl k_)
    show own_G p.tables e below _ _ (T0.setTop (mkF m 7 #[.val (.ref a0), .val (.int kx.toInt32), .val (.ref a2), .val (.int kx.toInt32), .val (.int n.toInt32), .val (.int kx.toInt32), s6] [(.int n.toInt32), (.int kx.toInt32)]))
    refine own_st ?_ (fun t_ k_ => XS.icmpNo X0.here hx rfl (hb hby d7_7) rfl (tlt ((own_tlt (by omega) (by omega)).mpr (by omega))).2.1 k_)
    show own_G p.tables e below _ _ (T0.setTop (mkF m 10 #[.val (.ref a0), .val (.int kx.toInt32), .val (.ref a2), .val (.int kx.toInt32), .val (.int n.toInt32), .val (.int kx.toInt32), s6] []))
    refine own_st ?_ (fun t_ k_ => XS.aloadN X0.here hx rfl (hb hby d7_10) rfl rfl k_)
    show own_G p.tables e below _ _ (T0.setTop (mkF m 11 #[.val (.ref a0), .val (.int kx.toInt32), .val (.ref a2), .val (.int kx.toInt32), .val (.int n.toInt32), .val (.int kx.toInt32), s6] [(.ref a0)]))
    refine own_st ?_ (fun t_ k_ => XS.iloadN X0.here hx rfl (hb hby d7_11) rfl k_)
    show own_G p.tables e below _ _ (T0.setTop (mkF m 12 #[.val (.ref a0), .val (.int kx.toInt32), .val (.ref a2), .val (.int kx.toInt32), .val (.int n.toInt32), .val (.int kx.toInt32), s6] [(.int kx.toInt32), (.ref a0)]))
    have ix1 := own_ix (j := kx.toInt32) (k := kx) (n := n) rfl (by omega) (by omega)
    obtain ⟨cl1, Ar1, Sz1, G1⟩ := Y0
    have hin1 : ¬ (kx.toInt32 < 0 ∨ cl1.slots.size ≤ (kx.toInt32).toNatClampNeg) := by rw [Sz1]; exact ix1.1
    have hat1 : cl1.slots[(kx.toInt32).toNatClampNeg]? = some (.int (ch kx)) := by rw [ix1.2]; exact G1 _ (by omega)
    refine own_st ?_ (X0.caload hx (j := kx.toInt32) (v := (.int (ch kx))) (by rw [e0]; exact Ar1.1) (State.isArrayOf_alike hZ.alike Ar1.2.1) Ar1.2.2 hin1 hat1 (g := (mkF m 12 #[.val (.ref a0), .val (.int kx.toInt32), .val (.ref a2), .val (.int kx.toInt32), .val (.int n.toInt32), .val (.int kx.toInt32), s6] [(.int kx.toInt32), (.ref a0)])) rfl rfl (hb hby d7_12))
    have Yx1 : own_Y .char Z h1 a0 n ch := ⟨cl1, Ar1, Sz1, G1⟩
    show own_G p.tables e below _ _ (T0.setTop (mkF m 13 #[.val (.ref a0), .val (.int kx.toInt32), .val (.ref a2), .val (.int kx.toInt32), .val (.int n.toInt32), .val (.int kx.toInt32), s6] [(.int (ch kx))]))
    refine own_st ?_ (fun t_ k_ => XS.istoreS X0.here hx rfl (hb hby d7_13) rfl (o := s6) rfl o_s6 k_)
    show own_G p.tables e below _ _ (T0.setTop (mkF m 15 #[.val (.ref a0), .val (.int kx.toInt32), .val (.ref a2), .val (.int kx.toInt32), .val (.int n.toInt32), .val (.int kx.toInt32), .val (.int (ch kx))] []))
    refine own_st ?_ (fun t_ k_ => XS.iload X0.here hx rfl (hb hby d7_15) rfl k_)
    show own_G p.tables e below _ _ (T0.setTop (mkF m 17 #[.val (.ref a0), .val (.int kx.toInt32), .val (.ref a2), .val (.int kx.toInt32), .val (.int n.toInt32), .val (.int kx.toInt32), .val (.int (ch kx))] [(.int (ch kx))]))
    refine own_st ?_ (fun t_ k_ => XS.sipush X0.here hx rfl (hb hby d7_17) k_)
    show own_G p.tables e below _ _ (T0.setTop (mkF m 20 #[.val (.ref a0), .val (.int kx.toInt32), .val (.ref a2), .val (.int kx.toInt32), .val (.int n.toInt32), .val (.int kx.toInt32), .val (.int (ch kx))] [(.int (255 : Int32)), (.int (ch kx))]))
    by_cases hc20 : (255 : Int32) < (ch kx)
    · refine own_st ?_ (fun t_ k_ => XS.icmpNo X0.here hx rfl (hb hby d7_20) rfl (tlt hc20).2.2.2 k_)
      show own_G p.tables e below _ _ (T0.setTop (mkF m 23 #[.val (.ref a0), .val (.int kx.toInt32), .val (.ref a2), .val (.int kx.toInt32), .val (.int n.toInt32), .val (.int kx.toInt32), .val (.int (ch kx))] []))
      refine own_st ?_ (fun t_ k_ => XS.iload X0.here hx rfl (hb hby d7_23) rfl k_)
      show own_G p.tables e below _ _ (T0.setTop (mkF m 25 #[.val (.ref a0), .val (.int kx.toInt32), .val (.ref a2), .val (.int kx.toInt32), .val (.int n.toInt32), .val (.int kx.toInt32), .val (.int (ch kx))] [(.int kx.toInt32)]))
      refine own_retI X0 hx hlk hret (hb hby d7_25) (by decide) (by decide) ⟨kx, rfl, N0, ?_⟩
      rw [e0]
      exact ⟨K0, Or.inr ⟨by omega, own_small255 hc20⟩⟩
    · refine own_st ?_ (fun t_ k_ => XS.icmpYes X0.here hx rfl (pc0 := 20) (pc' := 26) rfl (hb hby d7_20) rfl (flt hc20).2.2.2 (by decide) (by decide) k_)
      show own_G p.tables e below _ _ (T0.setTop (mkF m 26 #[.val (.ref a0), .val (.int kx.toInt32), .val (.ref a2), .val (.int kx.toInt32), .val (.int n.toInt32), .val (.int kx.toInt32), .val (.int (ch kx))] []))
      refine own_st ?_ (fun t_ k_ => XS.aloadN X0.here hx rfl (hb hby d7_26) rfl rfl k_)
      show own_G p.tables e below _ _ (T0.setTop (mkF m 27 #[.val (.ref a0), .val (.int kx.toInt32), .val (.ref a2), .val (.int kx.toInt32), .val (.int n.toInt32), .val (.int kx.toInt32), .val (.int (ch kx))] [(.ref a2)]))
      refine own_st ?_ (fun t_ k_ => XS.iloadN X0.here hx rfl (hb hby d7_27) rfl k_)
      show own_G p.tables e below _ _ (T0.setTop (mkF m 28 #[.val (.ref a0), .val (.int kx.toInt32), .val (.ref a2), .val (.int kx.toInt32), .val (.int n.toInt32), .val (.int kx.toInt32), .val (.int (ch kx))] [(.int kx.toInt32), (.ref a2)]))
      refine own_st ?_ (fun t_ k_ => XS.iload X0.here hx rfl (hb hby d7_28) rfl k_)
      show own_G p.tables e below _ _ (T0.setTop (mkF m 30 #[.val (.ref a0), .val (.int kx.toInt32), .val (.ref a2), .val (.int kx.toInt32), .val (.int n.toInt32), .val (.int kx.toInt32), .val (.int (ch kx))] [(.int (ch kx)), (.int kx.toInt32), (.ref a2)]))
      refine own_st ?_ (fun t_ k_ => XS.i2b X0.here hx rfl (hb hby d7_30) rfl k_)
      show own_G p.tables e below _ _ (T0.setTop (mkF m 31 #[.val (.ref a0), .val (.int kx.toInt32), .val (.ref a2), .val (.int kx.toInt32), .val (.int n.toInt32), .val (.int kx.toInt32), .val (.int (ch kx))] [(.int ((ch kx).toInt8.toInt32)), (.int kx.toInt32), (.ref a2)]))
      have ix2 := own_ix (j := kx.toInt32) (k := kx) (n := n) rfl (by omega) (by omega)
      obtain ⟨cl2, Ar2, Sz2, G2⟩ := Yt
      have hin2 : ¬ (kx.toInt32 < 0 ∨ cl2.slots.size ≤ (kx.toInt32).toNatClampNeg) := by rw [Sz2]; exact ix2.1
      obtain ⟨T2, h2, X2, e2, W2, st2⟩ := stB X0 hx hZ e0 Ar2 (j := kx.toInt32) hin2 (g := (mkF m 31 #[.val (.ref a0), .val (.int kx.toInt32), .val (.ref a2), .val (.int kx.toInt32), .val (.int n.toInt32), .val (.int kx.toInt32), .val (.int (ch kx))] [(.int ((ch kx).toInt8.toInt32)), (.int kx.toInt32), (.ref a2)])) rfl rfl (hb hby d7_31)
      have N2 := Fr.snoc X2 N0 g_a2
      have Yo2 : own_Y .byte Z h1 a2 n G := ⟨cl2, Ar2, Sz2, G2⟩
      have F3_P : own_Y .char Z h2 a0 n ch := own_Y_keep Yx1 (Keep.of_wr W2) (ninS hne nin0)
      have Zs4 : n0 ≤ h2.size := Nat.le_trans Z1 (Keep.of_wr W2).1
      have Kc5 : Keep h0 h2 [a2] := K0.wr W2 (Or.inl (List.mem_of_getElem? (i := 0) rfl))
      have Y2 : own_Y .byte Z h2 a2 n (own_upd G kx (nar .byte ((ch kx).toInt8.toInt32))) := own_Y_set Yo2 W2 ix2.2
      refine own_st ?_ st2
      show own_G p.tables e below _ _ (T2.setTop (mkF m 32 #[.val (.ref a0), .val (.int kx.toInt32), .val (.ref a2), .val (.int kx.toInt32), .val (.int n.toInt32), .val (.int kx.toInt32), .val (.int (ch kx))] []))
      refine own_st ?_ (fun t_ k_ => XS.iinc X2.here hx rfl (hb hby d7_32) rfl (l' := #[.val (.ref a0), .val (.int (kx.toInt32 + (1 : Int32))), .val (.ref a2), .val (.int kx.toInt32), .val (.int n.toInt32), .val (.int kx.toInt32), .val (.int (ch kx))]) rfl k_)
      show own_G p.tables e below _ _ (T2.setTop (mkF m 35 #[.val (.ref a0), .val (.int (kx.toInt32 + (1 : Int32))), .val (.ref a2), .val (.int kx.toInt32), .val (.int n.toInt32), .val (.int kx.toInt32), .val (.int (ch kx))] []))
      refine own_st ?_ (fun t_ k_ => XS.iinc X2.here hx rfl (hb hby d7_35) rfl (l' := #[.val (.ref a0), .val (.int (kx.toInt32 + (1 : Int32))), .val (.ref a2), .val (.int (kx.toInt32 + (1 : Int32))), .val (.int n.toInt32), .val (.int kx.toInt32), .val (.int (ch kx))]) rfl k_)
      show own_G p.tables e below _ _ (T2.setTop (mkF m 38 #[.val (.ref a0), .val (.int (kx.toInt32 + (1 : Int32))), .val (.ref a2), .val (.int (kx.toInt32 + (1 : Int32))), .val (.int n.toInt32), .val (.int kx.toInt32), .val (.int (ch kx))] []))
      refine own_st ?_ (fun t_ k_ => XS.iinc X2.here hx rfl (hb hby d7_38) rfl (l' := #[.val (.ref a0), .val (.int (kx.toInt32 + (1 : Int32))), .val (.ref a2), .val (.int (kx.toInt32 + (1 : Int32))), .val (.int n.toInt32), .val (.int (kx.toInt32 + (1 : Int32))), .val (.int (ch kx))]) rfl k_)
      show own_G p.tables e below _ _ (T2.setTop (mkF m 41 #[.val (.ref a0), .val (.int (kx.toInt32 + (1 : Int32))), .val (.ref a2), .val (.int (kx.toInt32 + (1 : Int32))), .val (.int n.toInt32), .val (.int (kx.toInt32 + (1 : Int32))), .val (.int (ch kx))] []))
      refine own_st ?_ (fun t_ k_ => XS.goto X2.here hx rfl (pc0 := 41) (pc' := 3) rfl (hb hby d7_41) (by decide) (by decide) k_)
      show own_G p.tables e below _ _ (T2.setTop (mkF m 3 #[.val (.ref a0), .val (.int (kx.toInt32 + (1 : Int32))), .val (.ref a2), .val (.int (kx.toInt32 + (1 : Int32))), .val (.int n.toInt32), .val (.int (kx.toInt32 + (1 : Int32))), .val (.int (ch kx))] []))
      simp only [own_inc]
      exact ih (kx := kx + 1) (s6 := .val (.int (ch kx))) (by omega) (Or.inr ⟨_, rfl, rfl⟩) X2 N2 e2 Kc5 F3_P Y2 (own_step5 hG hc20) Zs4
theorem ef_7 (m : MethodId) (a0 : Addr) (a2 : Addr) (n : Nat) : entryFrame m #[(.ref a0), (.int (0 : Int32)), (.ref a2), (.int (0 : Int32)), (.int n.toInt32)] 7 = mkF m 0 #[.val (.ref a0), .val (.int (0 : Int32)), .val (.ref a2), .val (.int (0 : Int32)), .val (.int n.toInt32), .unset, .unset] [] := by first | (simp [entryFrame, mkF, argsToLocals, Value.category]; done) | rfl
set_option maxRecDepth 65536 in
set_option maxHeartbeats 40000000 in
theorem rm7 (l : Launch) (Z : State) (a0 : Array Value) (hw : ∀ d ∈ tables_1, d.before a0 Z = true) (ws : List Jvm.Cond) (a0 : Addr) (a2 : Addr) (n : Nat) (ch : Nat → Int32) (h0 : Heap) (n0 : Nat) (Z0 : n0 ≤ h0.size) (g_a2 : n0 ≤ a2) (Y0 : own_Y .char Z h0 a0 n ch) (Yt : own_Y .byte Z h0 a2 n (fun _ => 0)) (hne : a0 ≠ a2) (hn : n ≤ 6) :
    MetFree l (⟨"java/lang/StringUTF16", "compress", "([CI[BII)I"⟩ : MethodName) (head1 (Jvm.Cond.code (⟨"java/lang/StringUTF16", "compress", "([CI[BII)I"⟩ : MethodName) jdk_52_method_21_code 7 (some .int) :: ws) ({ frames := 0, cells := 0, slots := 0, locals := 0 } : Room)) (fun a U => a = #[(.ref a0), (.int (0 : Int32)), (.ref a2), (.int (0 : Int32)), (.int n.toInt32)] ∧ Z.Warmed39 U.vm ∧ U.heap = h0) (fun _ _ _ _ _ => True) (fun _ U o U' => ∃ v L, o = .returned v ∧ own_Q5 Z n ch a2 h0 n0 v U'.heap L ∧ FrameEnd U o U' L ({ frames := 0, cells := 0, slots := 0, locals := 0 } : Room).cells ({ frames := 0, cells := 0, slots := 0, locals := 0 } : Room).slots) := by
  refine MetFree.of_bodySF (plainFor_of_name pn_7) hisR ?_
  intro p e s m args below meth c s₁ Bd hml0 hP hK
  obtain ⟨rfl, hZ, hh⟩ := hP
  have hx := Bd.exec
  have hby := Bd.bytes
  have hlk : meth.locks = false := BodyLoose.notSynchronized Bd
  have hret := Bd.returns
  have hml : c.maxLocals = 7 := hml0
  have hown : s.vm.findClass "java/lang/StringUTF16" = some m.cls := findClass_of_methodNamed Bd.named
  have hnm := (name_of_methodNamed Bd.named Bd.method).1
  have X0 : Stand p l e ({ frames := 0, cells := 0, slots := 0, locals := 0 } : Room) s m #[(.ref a0), (.int (0 : Int32)), (.ref a2), (.int (0 : Int32)), (.int n.toInt32)] below meth c s₁ [] 0 0 := Stand.of_body Bd
  have e0 : s₁.heap = h0 := by rw [← hh, Bd.state]; rfl
  have N0 := Fr.nil n0
  show own_G p.tables e below (own_E s ({ frames := 0, cells := 0, slots := 0, locals := 0 } : Room).cells ({ frames := 0, cells := 0, slots := 0, locals := 0 } : Room).slots) (own_Q5 Z n ch a2 h0 n0) (s₁.setTop (entryFrame m #[(.ref a0), (.int (0 : Int32)), (.ref a2), (.int (0 : Int32)), (.int n.toInt32)] 7))
  refine own_st ?_ (fun t_ k_ => castTop (ef_7 m a0 a2 n) k_)
  show own_G p.tables e below _ _ (s₁.setTop (mkF m 0 #[.val (.ref a0), .val (.int (0 : Int32)), .val (.ref a2), .val (.int (0 : Int32)), .val (.int n.toInt32), .unset, .unset] []))
  refine own_st ?_ (fun t_ k_ => XS.iconst X0.here hx rfl (hb hby d7_0) k_)
  show own_G p.tables e below _ _ (s₁.setTop (mkF m 1 #[.val (.ref a0), .val (.int (0 : Int32)), .val (.ref a2), .val (.int (0 : Int32)), .val (.int n.toInt32), .unset, .unset] [(.int (0 : Int32))]))
  refine own_st ?_ (fun t_ k_ => XS.istore X0.here hx rfl (hb hby d7_1) rfl (l' := #[.val (.ref a0), .val (.int (0 : Int32)), .val (.ref a2), .val (.int (0 : Int32)), .val (.int n.toInt32), .val (.int (0 : Int32)), .unset]) rfl k_)
  show own_G p.tables e below _ _ (s₁.setTop (mkF m 3 #[.val (.ref a0), .val (.int (0 : Int32)), .val (.ref a2), .val (.int (0 : Int32)), .val (.int n.toInt32), .val (.int (0 : Int32)), .unset] []))
  exact own_l5 hx hlk hZ hw hby hml hown hret hn hne g_a2 n (kx := 0) (s6 := .unset) (by omega) (Or.inl rfl) X0 N0 e0 (Keep.refl h0 [a2]) Y0 Yt (fun i hi => absurd hi (Nat.not_lt_zero i)) Z0
theorem pd_11 : parseMethodDescriptor "([CII)[B" = some ⟨[(.array .char), .int, .int], some (.array .byte)⟩ := by decide +kernel
theorem pd_10 : parseMethodDescriptor "([CI[BII)I" = some ⟨[(.array .char), .int, (.array .byte), .int, .int], some .int⟩ := by decide +kernel
theorem d6_0 : decode jdk_52_method_16_code 0 = .ok (.iload_n 2, 1) := by decide +kernel
theorem d6_1 : decode jdk_52_method_16_code 1 = .ok (.newarray .byte, 2) := by decide +kernel
theorem d6_3 : decode jdk_52_method_16_code 3 = .ok (.astore_n 3, 1) := by decide +kernel
theorem d6_4 : decode jdk_52_method_16_code 4 = .ok (.aload_n 0, 1) := by decide +kernel
theorem d6_5 : decode jdk_52_method_16_code 5 = .ok (.iload_n 1, 1) := by decide +kernel
theorem d6_6 : decode jdk_52_method_16_code 6 = .ok (.aload_n 3, 1) := by decide +kernel
theorem d6_7 : decode jdk_52_method_16_code 7 = .ok (.iconst 0, 1) := by decide +kernel
theorem d6_8 : decode jdk_52_method_16_code 8 = .ok (.iload_n 2, 1) := by decide +kernel
theorem d6_9 : decode jdk_52_method_16_code 9 = .ok (.invokestatic 115, 3) := by decide +kernel
theorem d6_12 : decode jdk_52_method_16_code 12 = .ok (.istore 4, 2) := by decide +kernel
theorem d6_14 : decode jdk_52_method_16_code 14 = .ok (.iload 4, 2) := by decide +kernel
theorem d6_16 : decode jdk_52_method_16_code 16 = .ok (.iload_n 2, 1) := by decide +kernel
theorem d6_17 : decode jdk_52_method_16_code 17 = .ok (.if_icmp .eq 40, 3) := by decide +kernel
theorem d6_20 : decode jdk_52_method_16_code 20 = .ok (.aload_n 0, 1) := by decide +kernel
theorem d6_21 : decode jdk_52_method_16_code 21 = .ok (.iload_n 1, 1) := by decide +kernel
theorem d6_22 : decode jdk_52_method_16_code 22 = .ok (.iload_n 2, 1) := by decide +kernel
theorem d6_23 : decode jdk_52_method_16_code 23 = .ok (.invokestatic 119, 3) := by decide +kernel
theorem d6_26 : decode jdk_52_method_16_code 26 = .ok (.astore 5, 2) := by decide +kernel
theorem d6_28 : decode jdk_52_method_16_code 28 = .ok (.aload 5, 2) := by decide +kernel
theorem d6_30 : decode jdk_52_method_16_code 30 = .ok (.iload 4, 2) := by decide +kernel
theorem d6_32 : decode jdk_52_method_16_code 32 = .ok (.invokestatic 71, 3) := by decide +kernel
theorem d6_35 : decode jdk_52_method_16_code 35 = .ok (.sipush 255, 3) := by decide +kernel
theorem d6_38 : decode jdk_52_method_16_code 38 = .ok (.if_icmp .gt 16, 3) := by decide +kernel
theorem d6_54 : decode jdk_52_method_16_code 54 = .ok (.aload 5, 2) := by decide +kernel
theorem d6_56 : decode jdk_52_method_16_code 56 = .ok (.areturn, 1) := by decide +kernel
theorem d6_57 : decode jdk_52_method_16_code 57 = .ok (.aload_n 3, 1) := by decide +kernel
theorem d6_58 : decode jdk_52_method_16_code 58 = .ok (.areturn, 1) := by decide +kernel
theorem pn_6 : plainName "java/lang/StringUTF16" = true := by first | (simp [plainName, overriddenIn]; done) | decide +kernel
theorem ef_6 (m : MethodId) (a0 : Addr) (n : Nat) : entryFrame m #[(.ref a0), (.int (0 : Int32)), (.int n.toInt32)] 6 = mkF m 0 #[.val (.ref a0), .val (.int (0 : Int32)), .val (.int n.toInt32), .unset, .unset, .unset] [] := by first | (simp [entryFrame, mkF, argsToLocals, Value.category]; done) | rfl
set_option maxRecDepth 65536 in
set_option maxHeartbeats 40000000 in
theorem rm6 (l : Launch) (Z : State) (a0 : Array Value) (hw : ∀ d ∈ tables_1, d.before a0 Z = true) (ws : List Jvm.Cond) (a0 : Addr) (z1 : Int32) (fm : Value) (n : Nat) (ch : Nat → Int32) (h0 : Heap) (n0 : Nat) (Z0 : n0 ≤ h0.size) (SS : own_SS Z h0 n0 z1 fm) (Y0 : own_Y .char Z h0 a0 n ch) (hn : n ≤ 6) (hC : ∀ i, i < n → own_isC (ch i)) :
    MetFree l (⟨"java/lang/StringUTF16", "compress", "([CII)[B"⟩ : MethodName) (head1 (Jvm.Cond.code (⟨"java/lang/StringUTF16", "compress", "([CII)[B"⟩ : MethodName) jdk_52_method_16_code 6 (some (.array .byte)) :: ws) ({ frames := 3, cells := 2, slots := 18, locals := 40 } : Room)) (fun a U => a = #[(.ref a0), (.int (0 : Int32)), (.int n.toInt32)] ∧ Z.Warmed39 U.vm ∧ U.heap = h0) (fun _ _ _ _ _ => True) (fun _ U o U' => ∃ v L, o = .returned v ∧ own_QN1 (own_PB Z n ch) h0 n0 v U'.heap L ∧ FrameEnd U o U' L ({ frames := 3, cells := 2, slots := 18, locals := 40 } : Room).cells ({ frames := 3, cells := 2, slots := 18, locals := 40 } : Room).slots) := by
  refine MetFree.of_bodySF (plainFor_of_name pn_6) hisR ?_
  intro p e s m args below meth c s₁ Bd hml0 hP hK
  obtain ⟨rfl, hZ, hh⟩ := hP
  have hx := Bd.exec
  have hby := Bd.bytes
  have hlk : meth.locks = false := BodyLoose.notSynchronized Bd
  have hret := Bd.returns
  have hml : c.maxLocals = 6 := hml0
  have hown : s.vm.findClass "java/lang/StringUTF16" = some m.cls := findClass_of_methodNamed Bd.named
  have hnm := (name_of_methodNamed Bd.named Bd.method).1
  have X0 : Stand p l e ({ frames := 3, cells := 2, slots := 18, locals := 40 } : Room) s m #[(.ref a0), (.int (0 : Int32)), (.int n.toInt32)] below meth c s₁ [] 0 0 := Stand.of_body Bd
  have e0 : s₁.heap = h0 := by rw [← hh, Bd.state]; rfl
  have N0 := Fr.nil n0
  show own_G p.tables e below (own_E s ({ frames := 3, cells := 2, slots := 18, locals := 40 } : Room).cells ({ frames := 3, cells := 2, slots := 18, locals := 40 } : Room).slots) (own_QN1 (own_PB Z n ch) h0 n0) (s₁.setTop (entryFrame m #[(.ref a0), (.int (0 : Int32)), (.int n.toInt32)] 6))
  refine own_st ?_ (fun t_ k_ => castTop (ef_6 m a0 n) k_)
  show own_G p.tables e below _ _ (s₁.setTop (mkF m 0 #[.val (.ref a0), .val (.int (0 : Int32)), .val (.int n.toInt32), .unset, .unset, .unset] []))
  refine own_st ?_ (fun t_ k_ => XS.iloadN X0.here hx rfl (hb hby d6_0) rfl k_)
  show own_G p.tables e below _ _ (s₁.setTop (mkF m 1 #[.val (.ref a0), .val (.int (0 : Int32)), .val (.int n.toInt32), .unset, .unset, .unset] [(.int n.toInt32)]))
  obtain ⟨T1, h1, k1, X1, e1, E1, A1, st1⟩ := newP X0 hx hZ (hw _ (List.mem_of_getElem? (i := 33) rfl)) e0 (g := (mkF m 1 #[.val (.ref a0), .val (.int (0 : Int32)), .val (.int n.toInt32), .unset, .unset, .unset] [(.int n.toInt32)])) rfl (hb hby d6_1) rfl (own_neg (by omega)) (cap := 6) (by rw [own_clamp (by omega)]; omega) (by decide) (by decide) (by decide)
  obtain ⟨b1, gz1⟩ : ∃ z, z = h0.size := ⟨_, rfl⟩
  rw [← gz1] at A1 st1
  have ne_a0_b1 : a0 ≠ b1 := Nat.ne_of_lt (Nat.lt_of_lt_of_le (own_Y_lt Y0) (Nat.le_of_eq gz1.symm))
  have g_b1 : n0 ≤ b1 := Nat.le_trans Z0 (Nat.le_of_eq gz1.symm)
  have sz_b1 : h0.size ≤ b1 := Nat.le_trans (Keep.refl h0 []).1 (Nat.le_of_eq gz1.symm)
  have F2_Z : own_SS Z h1 n0 z1 fm := own_SS_ext SS E1
  have F3_P : own_Y .char Z h1 a0 n ch := own_Y_ext Y0 E1
  have Zs4 : n0 ≤ h1.size := Nat.le_trans Z0 E1.1
  have Kc5 : Keep h0 h1 [] := (Keep.refl h0 []).ext E1
  have Y_b1 : own_Y .byte Z h1 b1 n (fun _ => 0) := own_Y_new (Arv.new A1 (own_neg (by omega))) (own_clamp (by omega))
  refine own_st ?_ st1
  show own_G p.tables e below _ _ (T1.setTop (mkF m 3 #[.val (.ref a0), .val (.int (0 : Int32)), .val (.int n.toInt32), .unset, .unset, .unset] [(.ref b1)]))
  refine own_st ?_ (fun t_ k_ => XS.astoreN X1.here hx rfl (hb hby d6_3) rfl rfl (l' := #[.val (.ref a0), .val (.int (0 : Int32)), .val (.int n.toInt32), .val (.ref b1), .unset, .unset]) rfl k_)
  show own_G p.tables e below _ _ (T1.setTop (mkF m 4 #[.val (.ref a0), .val (.int (0 : Int32)), .val (.int n.toInt32), .val (.ref b1), .unset, .unset] []))
  refine own_st ?_ (fun t_ k_ => XS.aloadN X1.here hx rfl (hb hby d6_4) rfl rfl k_)
  show own_G p.tables e below _ _ (T1.setTop (mkF m 5 #[.val (.ref a0), .val (.int (0 : Int32)), .val (.int n.toInt32), .val (.ref b1), .unset, .unset] [(.ref a0)]))
  refine own_st ?_ (fun t_ k_ => XS.iloadN X1.here hx rfl (hb hby d6_5) rfl k_)
  show own_G p.tables e below _ _ (T1.setTop (mkF m 6 #[.val (.ref a0), .val (.int (0 : Int32)), .val (.int n.toInt32), .val (.ref b1), .unset, .unset] [(.int (0 : Int32)), (.ref a0)]))
  refine own_st ?_ (fun t_ k_ => XS.aloadN X1.here hx rfl (hb hby d6_6) rfl rfl k_)
  show own_G p.tables e below _ _ (T1.setTop (mkF m 7 #[.val (.ref a0), .val (.int (0 : Int32)), .val (.int n.toInt32), .val (.ref b1), .unset, .unset] [(.ref b1), (.int (0 : Int32)), (.ref a0)]))
  refine own_st ?_ (fun t_ k_ => XS.iconst X1.here hx rfl (hb hby d6_7) k_)
  show own_G p.tables e below _ _ (T1.setTop (mkF m 8 #[.val (.ref a0), .val (.int (0 : Int32)), .val (.int n.toInt32), .val (.ref b1), .unset, .unset] [(.int (0 : Int32)), (.ref b1), (.int (0 : Int32)), (.ref a0)]))
  refine own_st ?_ (fun t_ k_ => XS.iloadN X1.here hx rfl (hb hby d6_8) rfl k_)
  show own_G p.tables e below _ _ (T1.setTop (mkF m 9 #[.val (.ref a0), .val (.int (0 : Int32)), .val (.int n.toInt32), .val (.ref b1), .unset, .unset] [(.int n.toInt32), (.int (0 : Int32)), (.ref b1), (.int (0 : Int32)), (.ref a0)]))
  obtain ⟨_, _, ⟨T6, L6, k6, n6⟩, -, X6, ⟨Lc6, hQ6, l6, y6, z6⟩, st6⟩ := Jvm.LawKit.callS X1 hx (y := (⟨"java/lang/StringUTF16", "compress", "([CI[BII)I"⟩ : MethodName)) hown (mvT hZ (hw _ (List.mem_of_getElem? (i := 34) rfl))) (mvT hZ (hw _ (List.mem_of_getElem? (i := 35) rfl))) (mvT hZ (hw _ (List.mem_of_getElem? (i := 31) rfl))) (mvT hZ (hw _ (List.mem_of_getElem? (i := 36) rfl))) (by decide) (backOf (W := 0) (rm7 l Z _ hw [] a0 b1 n ch h1 n0 Zs4 g_b1 F3_P Y_b1 ne_a0_b1 hn) hZ (hw _ (List.mem_of_getElem? (i := 36) rfl)) (hw _ (List.mem_of_getElem? (i := 31) rfl)) (by decide) (by decide)) (g := (mkF m 9 #[.val (.ref a0), .val (.int (0 : Int32)), .val (.int n.toInt32), .val (.ref b1), .unset, .unset] [(.int n.toInt32), (.int (0 : Int32)), (.ref b1), (.int (0 : Int32)), (.ref a0)])) rfl (by rw [hml]; rfl) (argsL := [(.ref a0), (.int (0 : Int32)), (.ref b1), (.int (0 : Int32)), (.int n.toInt32)]) (rest := []) (lenOf pd_10 rfl) rfl (by show 2 * 0 + _ ≤ _; exact Nat.le_of_eq rfl) (hb hby d6_9) (fun _ _ => ⟨rfl, e1, (by decide : 1 + 0 ≤ _), (by decide : 6 + 0 ≤ _)⟩)
  dsimp only [Pt.U, Pt.locs, Pt.cells, Pt.slots] at X6 l6 y6 z6 st6 hQ6
  subst l6 y6 z6
  obtain ⟨kk6, rfl, N6q, hq6⟩ := hQ6
  have N6 := Fr.app N0 N6q
  obtain ⟨K6, hP6⟩ := hq6
  have F7_Z : own_SS Z T6.heap n0 z1 fm := own_SS_keep F2_Z K6 (own_alS g_b1 own_al0)
  have F8_P : own_Y .char Z T6.heap a0 n ch := own_Y_keep F3_P K6 (ninS ne_a0_b1 nin0)
  have Zs9 : n0 ≤ T6.heap.size := Nat.le_trans Zs4 K6.1
  have Kc10 : Keep h0 T6.heap [] := Kc5.trans K6 (allS (Or.inr sz_b1) all0)
  refine own_st ?_ st6
  show own_G p.tables e below _ _ (T6.setTop (mkF m 12 #[.val (.ref a0), .val (.int (0 : Int32)), .val (.int n.toInt32), .val (.ref b1), .unset, .unset] [(.int kk6.toInt32)]))
  refine own_st ?_ (fun t_ k_ => XS.istore X6.here hx rfl (hb hby d6_12) rfl (l' := #[.val (.ref a0), .val (.int (0 : Int32)), .val (.int n.toInt32), .val (.ref b1), .val (.int kk6.toInt32), .unset]) rfl k_)
  show own_G p.tables e below _ _ (T6.setTop (mkF m 14 #[.val (.ref a0), .val (.int (0 : Int32)), .val (.int n.toInt32), .val (.ref b1), .val (.int kk6.toInt32), .unset] []))
  refine own_st ?_ (fun t_ k_ => XS.iload X6.here hx rfl (hb hby d6_14) rfl k_)
  show own_G p.tables e below _ _ (T6.setTop (mkF m 16 #[.val (.ref a0), .val (.int (0 : Int32)), .val (.int n.toInt32), .val (.ref b1), .val (.int kk6.toInt32), .unset] [(.int kk6.toInt32)]))
  refine own_st ?_ (fun t_ k_ => XS.iloadN X6.here hx rfl (hb hby d6_16) rfl k_)
  show own_G p.tables e below _ _ (T6.setTop (mkF m 17 #[.val (.ref a0), .val (.int (0 : Int32)), .val (.int n.toInt32), .val (.ref b1), .val (.int kk6.toInt32), .unset] [(.int n.toInt32), (.int kk6.toInt32)]))
  by_cases hc17 : kk6.toInt32 = n.toInt32
  · refine own_st ?_ (fun t_ k_ => XS.icmpYes X6.here hx rfl (pc0 := 17) (pc' := 57) rfl (hb hby d6_17) rfl (teq hc17).1 (by decide) (by decide) k_)
    show own_G p.tables e below _ _ (T6.setTop (mkF m 57 #[.val (.ref a0), .val (.int (0 : Int32)), .val (.int n.toInt32), .val (.ref b1), .val (.int kk6.toInt32), .unset] []))
    refine own_st ?_ (fun t_ k_ => XS.aloadN X6.here hx rfl (hb hby d6_57) rfl rfl k_)
    show own_G p.tables e below _ _ (T6.setTop (mkF m 58 #[.val (.ref a0), .val (.int (0 : Int32)), .val (.int n.toInt32), .val (.ref b1), .val (.int kk6.toInt32), .unset] [(.ref b1)]))
    refine own_retA X6 hx hlk hret rfl rfl rfl (hb hby d6_58) (by decide) (by decide) ⟨b1, rfl, N6, ?_⟩
    exact ⟨Kc10, sz_b1, own_P5_eq hP6 hn hC hc17⟩
  · refine own_st ?_ (fun t_ k_ => XS.icmpNo X6.here hx rfl (hb hby d6_17) rfl (feq hc17).1 k_)
    show own_G p.tables e below _ _ (T6.setTop (mkF m 20 #[.val (.ref a0), .val (.int (0 : Int32)), .val (.int n.toInt32), .val (.ref b1), .val (.int kk6.toInt32), .unset] []))
    refine own_st ?_ (fun t_ k_ => XS.aloadN X6.here hx rfl (hb hby d6_20) rfl rfl k_)
    show own_G p.tables e below _ _ (T6.setTop (mkF m 21 #[.val (.ref a0), .val (.int (0 : Int32)), .val (.int n.toInt32), .val (.ref b1), .val (.int kk6.toInt32), .unset] [(.ref a0)]))
    refine own_st ?_ (fun t_ k_ => XS.iloadN X6.here hx rfl (hb hby d6_21) rfl k_)
    show own_G p.tables e below _ _ (T6.setTop (mkF m 22 #[.val (.ref a0), .val (.int (0 : Int32)), .val (.int n.toInt32), .val (.ref b1), .val (.int kk6.toInt32), .unset] [(.int (0 : Int32)), (.ref a0)]))
    refine own_st ?_ (fun t_ k_ => XS.iloadN X6.here hx rfl (hb hby d6_22) rfl k_)
    show own_G p.tables e below _ _ (T6.setTop (mkF m 23 #[.val (.ref a0), .val (.int (0 : Int32)), .val (.int n.toInt32), .val (.ref b1), .val (.int kk6.toInt32), .unset] [(.int n.toInt32), (.int (0 : Int32)), (.ref a0)]))
    obtain ⟨_, _, ⟨T11, L11, k11, n11⟩, -, X11, ⟨Lc11, hQ11, l11, y11, z11⟩, st11⟩ := Jvm.LawKit.callS X6 hx (y := (⟨"java/lang/StringUTF16", "toBytes", "([CII)[B"⟩ : MethodName)) hown (mvT hZ (hw _ (List.mem_of_getElem? (i := 37) rfl))) (mvT hZ (hw _ (List.mem_of_getElem? (i := 38) rfl))) (mvT hZ (hw _ (List.mem_of_getElem? (i := 31) rfl))) (mvT hZ (hw _ (List.mem_of_getElem? (i := 39) rfl))) (by decide) (backOf (W := 0) (rm8 l Z _ hw [] a0 z1 fm n ch T6.heap n0 Zs9 F7_Z F8_P hn) hZ (hw _ (List.mem_of_getElem? (i := 39) rfl)) (hw _ (List.mem_of_getElem? (i := 31) rfl)) (by decide) (by decide)) (g := (mkF m 23 #[.val (.ref a0), .val (.int (0 : Int32)), .val (.int n.toInt32), .val (.ref b1), .val (.int kk6.toInt32), .unset] [(.int n.toInt32), (.int (0 : Int32)), (.ref a0)])) rfl (by rw [hml]; rfl) (argsL := [(.ref a0), (.int (0 : Int32)), (.int n.toInt32)]) (rest := []) (lenOf pd_11 rfl) rfl (by show 2 * 0 + _ ≤ _; exact Nat.le_of_eq rfl) (hb hby d6_23) (fun _ _ => ⟨rfl, rfl, (by decide : 1 + 1 ≤ _), (by decide : 6 + 12 ≤ _)⟩)
    dsimp only [Pt.U, Pt.locs, Pt.cells, Pt.slots] at X11 l11 y11 z11 st11 hQ11
    subst l11 y11 z11
    obtain ⟨t11, rfl, N11q, hq11⟩ := hQ11
    have N11 := Fr.app N6 N11q
    obtain ⟨K11, hs11, hp11⟩ := hq11
    have g_t11 : n0 ≤ t11 := Nat.le_trans Zs9 hs11
    have sz_t11 : h0.size ≤ t11 := Nat.le_trans Kc10.1 hs11
    have ne_a0_t11 : a0 ≠ t11 := Nat.ne_of_lt (Nat.lt_of_lt_of_le (own_Y_lt F8_P) hs11)
    have F12_Z : own_SS Z T11.heap n0 z1 fm := own_SS_keep F7_Z K11 own_al0
    have F13_P : own_Y .char Z T11.heap a0 n ch := own_Y_keep F8_P K11 nin0
    have Zs14 : n0 ≤ T11.heap.size := Nat.le_trans Zs9 K11.1
    have Kc15 : Keep h0 T11.heap [] := Kc10.trans K11 all0
    obtain ⟨GG11, Yg11, hG11⟩ := hp11
    have hk11 := own_P5_ne hP6 hc17
    refine own_st ?_ st11
    show own_G p.tables e below _ _ (T11.setTop (mkF m 26 #[.val (.ref a0), .val (.int (0 : Int32)), .val (.int n.toInt32), .val (.ref b1), .val (.int kk6.toInt32), .unset] [(.ref t11)]))
    refine own_st ?_ (fun t_ k_ => XS.astore X11.here hx rfl (hb hby d6_26) rfl rfl (l' := #[.val (.ref a0), .val (.int (0 : Int32)), .val (.int n.toInt32), .val (.ref b1), .val (.int kk6.toInt32), .val (.ref t11)]) rfl k_)
    show own_G p.tables e below _ _ (T11.setTop (mkF m 28 #[.val (.ref a0), .val (.int (0 : Int32)), .val (.int n.toInt32), .val (.ref b1), .val (.int kk6.toInt32), .val (.ref t11)] []))
    refine own_st ?_ (fun t_ k_ => XS.aload X11.here hx rfl (hb hby d6_28) rfl rfl k_)
    show own_G p.tables e below _ _ (T11.setTop (mkF m 30 #[.val (.ref a0), .val (.int (0 : Int32)), .val (.int n.toInt32), .val (.ref b1), .val (.int kk6.toInt32), .val (.ref t11)] [(.ref t11)]))
    refine own_st ?_ (fun t_ k_ => XS.iload X11.here hx rfl (hb hby d6_30) rfl k_)
    show own_G p.tables e below _ _ (T11.setTop (mkF m 32 #[.val (.ref a0), .val (.int (0 : Int32)), .val (.int n.toInt32), .val (.ref b1), .val (.int kk6.toInt32), .val (.ref t11)] [(.int kk6.toInt32), (.ref t11)]))
    obtain ⟨_, _, ⟨T16, L16, k16, n16⟩, -, X16, ⟨Lc16, hQ16, l16, y16, z16⟩, st16⟩ := Jvm.LawKit.callS X11 hx (y := (⟨"java/lang/StringUTF16", "getChar", "([BI)C"⟩ : MethodName)) hown (mvT hZ (hw _ (List.mem_of_getElem? (i := 53) rfl))) (mvT hZ (hw _ (List.mem_of_getElem? (i := 54) rfl))) (mvT hZ (hw _ (List.mem_of_getElem? (i := 31) rfl))) (mvT hZ (hw _ (List.mem_of_getElem? (i := 55) rfl))) (by decide) (backOf (W := 0) (rm12 l Z _ hw [] t11 kk6.toInt32 z1 fm kk6 (2 * n) GG11 (ch kk6) T11.heap n0 Zs14 F12_Z Yg11 rfl (by have := hk11.1; omega) (by omega) (by rw [(hG11 _ hk11.1).1, (hG11 _ hk11.1).2]; exact own_utf (hC _ hk11.1))) hZ (hw _ (List.mem_of_getElem? (i := 55) rfl)) (hw _ (List.mem_of_getElem? (i := 31) rfl)) (by decide) (by decide)) (g := (mkF m 32 #[.val (.ref a0), .val (.int (0 : Int32)), .val (.int n.toInt32), .val (.ref b1), .val (.int kk6.toInt32), .val (.ref t11)] [(.int kk6.toInt32), (.ref t11)])) rfl (by rw [hml]; rfl) (argsL := [(.ref t11), (.int kk6.toInt32)]) (rest := []) (lenOf pd_4 rfl) rfl (by show 2 * 0 + _ ≤ _; exact Nat.le_of_eq rfl) (hb hby d6_32) (fun _ _ => ⟨rfl, rfl, (by decide : 2 + 0 ≤ _), (by decide : 18 + 0 ≤ _)⟩)
    dsimp only [Pt.U, Pt.locs, Pt.cells, Pt.slots] at X16 l16 y16 z16 st16 hQ16
    subst l16 y16 z16
    obtain ⟨rfl, N16q, e16⟩ := hQ16
    have N16 := Fr.app N11 N16q
    refine own_st ?_ st16
    show own_G p.tables e below _ _ (T16.setTop (mkF m 35 #[.val (.ref a0), .val (.int (0 : Int32)), .val (.int n.toInt32), .val (.ref b1), .val (.int kk6.toInt32), .val (.ref t11)] [(.int (ch kk6))]))
    refine own_st ?_ (fun t_ k_ => XS.sipush X16.here hx rfl (hb hby d6_35) k_)
    show own_G p.tables e below _ _ (T16.setTop (mkF m 38 #[.val (.ref a0), .val (.int (0 : Int32)), .val (.int n.toInt32), .val (.ref b1), .val (.int kk6.toInt32), .val (.ref t11)] [(.int (255 : Int32)), (.int (ch kk6))]))
    refine own_st ?_ (fun t_ k_ => XS.icmpYes X16.here hx rfl (pc0 := 38) (pc' := 54) rfl (hb hby d6_38) rfl (tlt (own_big hk11.2)).2.2.1 (by decide) (by decide) k_)
    show own_G p.tables e below _ _ (T16.setTop (mkF m 54 #[.val (.ref a0), .val (.int (0 : Int32)), .val (.int n.toInt32), .val (.ref b1), .val (.int kk6.toInt32), .val (.ref t11)] []))
    refine own_st ?_ (fun t_ k_ => XS.aload X16.here hx rfl (hb hby d6_54) rfl rfl k_)
    show own_G p.tables e below _ _ (T16.setTop (mkF m 56 #[.val (.ref a0), .val (.int (0 : Int32)), .val (.int n.toInt32), .val (.ref b1), .val (.int kk6.toInt32), .val (.ref t11)] [(.ref t11)]))
    refine own_retA X16 hx hlk hret rfl rfl rfl (hb hby d6_56) (by decide) (by decide) ⟨t11, rfl, N16, ?_⟩
    rw [e16]
    exact ⟨Kc15, sz_t11, 1, 2 * n, GG11, Yg11, own_D_mkU hC (by omega) hG11⟩
theorem d13_0 : decode jdk_52_method_15_code 0 = .ok (.iload_n 1, 1) := by decide +kernel
theorem d13_1 : decode jdk_52_method_15_code 1 = .ok (.aload_n 0, 1) := by decide +kernel
theorem d13_2 : decode jdk_52_method_15_code 2 = .ok (.arraylength, 1) := by decide +kernel
theorem d13_3 : decode jdk_52_method_15_code 3 = .ok (.isub, 1) := by decide +kernel
theorem d13_4 : decode jdk_52_method_15_code 4 = .ok (.bipush 31, 2) := by decide +kernel
theorem d13_6 : decode jdk_52_method_15_code 6 = .ok (.iushr, 1) := by decide +kernel
theorem d13_7 : decode jdk_52_method_15_code 7 = .ok (.i2b, 1) := by decide +kernel
theorem d13_8 : decode jdk_52_method_15_code 8 = .ok (.ireturn, 1) := by decide +kernel
theorem pn_13 : plainName "java/lang/StringUTF16" = true := by first | (simp [plainName, overriddenIn]; done) | decide +kernel
theorem ef_13 (m : MethodId) (a0 : Addr) (n : Nat) : entryFrame m #[(.ref a0), (.int n.toInt32)] 2 = mkF m 0 #[.val (.ref a0), .val (.int n.toInt32)] [] := by first | (simp [entryFrame, mkF, argsToLocals, Value.category]; done) | rfl
set_option maxRecDepth 65536 in
set_option maxHeartbeats 40000000 in
theorem rm13 (l : Launch) (Z : State) (a0 : Array Value) (hw : ∀ d ∈ tables_1, d.before a0 Z = true) (ws : List Jvm.Cond) (a0 : Addr) (cd : Int32) (n : Nat) (N : Nat) (g1 : Nat → Int32) (ch : Nat → Int32) (h0 : Heap) (n0 : Nat) (Z0 : n0 ≤ h0.size) (Y0 : own_Y .byte Z h0 a0 N g1) (hD : own_D cd n N g1 ch) (hn0 : 0 < n) :
    MetFree l (⟨"java/lang/StringUTF16", "coderFromArrayLen", "([BI)B"⟩ : MethodName) (head1 (Jvm.Cond.code (⟨"java/lang/StringUTF16", "coderFromArrayLen", "([BI)B"⟩ : MethodName) jdk_52_method_15_code 2 (some .byte) :: ws) ({ frames := 0, cells := 0, slots := 0, locals := 0 } : Room)) (fun a U => a = #[(.ref a0), (.int n.toInt32)] ∧ Z.Warmed39 U.vm ∧ U.heap = h0) (fun _ _ _ _ _ => True) (fun _ U o U' => ∃ v L, o = .returned v ∧ own_QV (.int cd) h0 n0 v U'.heap L ∧ FrameEnd U o U' L ({ frames := 0, cells := 0, slots := 0, locals := 0 } : Room).cells ({ frames := 0, cells := 0, slots := 0, locals := 0 } : Room).slots) := by
  refine MetFree.of_bodySF (plainFor_of_name pn_13) hisR ?_
  intro p e s m args below meth c s₁ Bd hml0 hP hK
  obtain ⟨rfl, hZ, hh⟩ := hP
  have hx := Bd.exec
  have hby := Bd.bytes
  have hlk : meth.locks = false := BodyLoose.notSynchronized Bd
  have hret := Bd.returns
  have hml : c.maxLocals = 2 := hml0
  have hown : s.vm.findClass "java/lang/StringUTF16" = some m.cls := findClass_of_methodNamed Bd.named
  have hnm := (name_of_methodNamed Bd.named Bd.method).1
  have X0 : Stand p l e ({ frames := 0, cells := 0, slots := 0, locals := 0 } : Room) s m #[(.ref a0), (.int n.toInt32)] below meth c s₁ [] 0 0 := Stand.of_body Bd
  have e0 : s₁.heap = h0 := by rw [← hh, Bd.state]; rfl
  have N0 := Fr.nil n0
  show own_G p.tables e below (own_E s ({ frames := 0, cells := 0, slots := 0, locals := 0 } : Room).cells ({ frames := 0, cells := 0, slots := 0, locals := 0 } : Room).slots) (own_QV (.int cd) h0 n0) (s₁.setTop (entryFrame m #[(.ref a0), (.int n.toInt32)] 2))
  refine own_st ?_ (fun t_ k_ => castTop (ef_13 m a0 n) k_)
  show own_G p.tables e below _ _ (s₁.setTop (mkF m 0 #[.val (.ref a0), .val (.int n.toInt32)] []))
  refine own_st ?_ (fun t_ k_ => XS.iloadN X0.here hx rfl (hb hby d13_0) rfl k_)
  show own_G p.tables e below _ _ (s₁.setTop (mkF m 1 #[.val (.ref a0), .val (.int n.toInt32)] [(.int n.toInt32)]))
  refine own_st ?_ (fun t_ k_ => XS.aloadN X0.here hx rfl (hb hby d13_1) rfl rfl k_)
  show own_G p.tables e below _ _ (s₁.setTop (mkF m 2 #[.val (.ref a0), .val (.int n.toInt32)] [(.ref a0), (.int n.toInt32)]))
  obtain ⟨cl1, Ar1, Sz1, G1⟩ := Y0
  refine own_st ?_ (X0.arraylength hx (by rw [e0]; exact Ar1.1) (State.isArrayOf_alike hZ.alike Ar1.2.1) (g := (mkF m 2 #[.val (.ref a0), .val (.int n.toInt32)] [(.ref a0), (.int n.toInt32)])) rfl rfl (hb hby d13_2))
  rw [Sz1]
  have Yx1 : own_Y .byte Z h0 a0 N g1 := ⟨cl1, Ar1, Sz1, G1⟩
  show own_G p.tables e below _ _ (s₁.setTop (mkF m 3 #[.val (.ref a0), .val (.int n.toInt32)] [(.int (N).toInt32), (.int n.toInt32)]))
  refine own_st ?_ (fun t_ k_ => XS.isub X0.here hx rfl (hb hby d13_3) rfl k_)
  show own_G p.tables e below _ _ (s₁.setTop (mkF m 4 #[.val (.ref a0), .val (.int n.toInt32)] [(.int (n.toInt32 - (N).toInt32))]))
  refine own_st ?_ (fun t_ k_ => XS.bipush X0.here hx rfl (hb hby d13_4) k_)
  show own_G p.tables e below _ _ (s₁.setTop (mkF m 6 #[.val (.ref a0), .val (.int n.toInt32)] [(.int (31 : Int32)), (.int (n.toInt32 - (N).toInt32))]))
  refine own_st ?_ (fun t_ k_ => XS.iushr X0.here hx rfl (hb hby d13_6) rfl k_)
  show own_G p.tables e below _ _ (s₁.setTop (mkF m 7 #[.val (.ref a0), .val (.int n.toInt32)] [(.int (((n.toInt32 - (N).toInt32).toUInt32 >>> ((31 : Int32) &&& 31).toUInt32).toInt32))]))
  refine own_st ?_ (fun t_ k_ => XS.i2b X0.here hx rfl (hb hby d13_7) rfl k_)
  show own_G p.tables e below _ _ (s₁.setTop (mkF m 8 #[.val (.ref a0), .val (.int n.toInt32)] [(.int ((((n.toInt32 - (N).toInt32).toUInt32 >>> ((31 : Int32) &&& 31).toUInt32).toInt32).toInt8.toInt32))]))
  exact own_retN X0 hx hlk (t := .byte) hret (by simp) (hb hby d13_8) (by decide) (by decide) (z' := (nar .byte ((((n.toInt32 - (N).toInt32).toUInt32 >>> ((31 : Int32) &&& 31).toUInt32).toInt32).toInt8.toInt32))) rfl ⟨congrArg (fun z => some (Value.int z)) (own_D_cod hD hn0), N0, e0⟩
theorem pd_12 : parseMethodDescriptor "([BI)B" = some ⟨[(.array .byte), .int], some .byte⟩ := by decide +kernel
theorem d4_0 : decode jdk_42_method_149_code 0 = .ok (.aload_n 0, 1) := by decide +kernel
theorem d4_1 : decode jdk_42_method_149_code 1 = .ok (.invokespecial 1, 3) := by decide +kernel
theorem d4_4 : decode jdk_42_method_149_code 4 = .ok (.iload_n 3, 1) := by decide +kernel
theorem d4_5 : decode jdk_42_method_149_code 5 = .ok (.ifCond .ne 22, 3) := by decide +kernel
theorem d4_27 : decode jdk_42_method_149_code 27 = .ok (.getstatic 38, 3) := by decide +kernel
theorem d4_30 : decode jdk_42_method_149_code 30 = .ok (.ifCond .eq 28, 3) := by decide +kernel
theorem d4_33 : decode jdk_42_method_149_code 33 = .ok (.aload_n 1, 1) := by decide +kernel
theorem d4_34 : decode jdk_42_method_149_code 34 = .ok (.iload_n 2, 1) := by decide +kernel
theorem d4_35 : decode jdk_42_method_149_code 35 = .ok (.iload_n 3, 1) := by decide +kernel
theorem d4_36 : decode jdk_42_method_149_code 36 = .ok (.invokestatic 177, 3) := by decide +kernel
theorem d4_39 : decode jdk_42_method_149_code 39 = .ok (.astore 5, 2) := by decide +kernel
theorem d4_41 : decode jdk_42_method_149_code 41 = .ok (.aload_n 0, 1) := by decide +kernel
theorem d4_42 : decode jdk_42_method_149_code 42 = .ok (.aload 5, 2) := by decide +kernel
theorem d4_44 : decode jdk_42_method_149_code 44 = .ok (.iload_n 3, 1) := by decide +kernel
theorem d4_45 : decode jdk_42_method_149_code 45 = .ok (.invokestatic 47, 3) := by decide +kernel
theorem d4_48 : decode jdk_42_method_149_code 48 = .ok (.putfield 15, 3) := by decide +kernel
theorem d4_51 : decode jdk_42_method_149_code 51 = .ok (.aload_n 0, 1) := by decide +kernel
theorem d4_52 : decode jdk_42_method_149_code 52 = .ok (.aload 5, 2) := by decide +kernel
theorem d4_54 : decode jdk_42_method_149_code 54 = .ok (.putfield 9, 3) := by decide +kernel
theorem d4_57 : decode jdk_42_method_149_code 57 = .ok (.return_, 1) := by decide +kernel
theorem pn_4 : plainName "java/lang/String" = true := by first | (simp [plainName, overriddenIn]; done) | decide +kernel
theorem ef_4 (m : MethodId) (a0 : Addr) (a1 : Addr) (n : Nat) : entryFrame m #[(.ref a0), (.ref a1), (.int (0 : Int32)), (.int n.toInt32), .null] 6 = mkF m 0 #[.val (.ref a0), .val (.ref a1), .val (.int (0 : Int32)), .val (.int n.toInt32), .val .null, .unset] [] := by first | (simp [entryFrame, mkF, argsToLocals, Value.category]; done) | rfl
set_option maxRecDepth 65536 in
set_option maxHeartbeats 40000000 in
theorem rm4 (l : Launch) (Z : State) (a0 : Array Value) (hw : ∀ d ∈ tables_1, d.before a0 Z = true) (ws : List Jvm.Cond) (a0 : Addr) (a1 : Addr) (z1 : Int32) (fm : Value) (n : Nat) (ch : Nat → Int32) (u1 : Value) (u2 : Value) (h0 : Heap) (n0 : Nat) (Z0 : n0 ≤ h0.size) (g_a0 : n0 ≤ a0) (SS : own_SS Z h0 n0 z1 fm) (E0 : Exa Z h0 a0 "java/lang/String") (F1 : Fld Z h0 a0 "java/lang/String" "coder" "B" u1) (F2 : Fld Z h0 a0 "java/lang/String" "value" "[B" u2) (Y0 : own_Y .char Z h0 a1 n ch) (hz1 : ¬ z1 = 0) (hn0 : 0 < n) (hn : n ≤ 6) (hC : ∀ i, i < n → own_isC (ch i)) :
    MetFree l (⟨"java/lang/String", "<init>", "([CIILjava/lang/Void;)V"⟩ : MethodName) (head1 (Jvm.Cond.code (⟨"java/lang/String", "<init>", "([CIILjava/lang/Void;)V"⟩ : MethodName) jdk_42_method_149_code 6 none :: ws) ({ frames := 4, cells := 2, slots := 18, locals := 57 } : Room)) (fun a U => a = #[(.ref a0), (.ref a1), (.int (0 : Int32)), (.int n.toInt32), .null] ∧ Z.Warmed39 U.vm ∧ U.heap = h0) (fun _ _ _ _ _ => True) (fun _ U o U' => ∃ v L, o = .returned v ∧ own_QK Z none [a0] (own_PS Z n ch a0 h0) h0 n0 v U'.heap L ∧ FrameEnd U o U' L ({ frames := 4, cells := 2, slots := 18, locals := 57 } : Room).cells ({ frames := 4, cells := 2, slots := 18, locals := 57 } : Room).slots) := by
  refine MetFree.of_bodySF (plainFor_of_name pn_4) hisR ?_
  intro p e s m args below meth c s₁ Bd hml0 hP hK
  obtain ⟨rfl, hZ, hh⟩ := hP
  have hx := Bd.exec
  have hby := Bd.bytes
  have hlk : meth.locks = false := BodyLoose.notSynchronized Bd
  have hret := Bd.returns
  have hml : c.maxLocals = 6 := hml0
  have hown : s.vm.findClass "java/lang/String" = some m.cls := findClass_of_methodNamed Bd.named
  have hnm := (name_of_methodNamed Bd.named Bd.method).1
  have X0 : Stand p l e ({ frames := 4, cells := 2, slots := 18, locals := 57 } : Room) s m #[(.ref a0), (.ref a1), (.int (0 : Int32)), (.int n.toInt32), .null] below meth c s₁ [] 0 0 := Stand.of_body Bd
  have e0 : s₁.heap = h0 := by rw [← hh, Bd.state]; rfl
  have N0 := Fr.nil n0
  show own_G p.tables e below (own_E s ({ frames := 4, cells := 2, slots := 18, locals := 57 } : Room).cells ({ frames := 4, cells := 2, slots := 18, locals := 57 } : Room).slots) (own_QK Z none [a0] (own_PS Z n ch a0 h0) h0 n0) (s₁.setTop (entryFrame m #[(.ref a0), (.ref a1), (.int (0 : Int32)), (.int n.toInt32), .null] 6))
  refine own_st ?_ (fun t_ k_ => castTop (ef_4 m a0 a1 n) k_)
  show own_G p.tables e below _ _ (s₁.setTop (mkF m 0 #[.val (.ref a0), .val (.ref a1), .val (.int (0 : Int32)), .val (.int n.toInt32), .val .null, .unset] []))
  refine own_st ?_ (fun t_ k_ => XS.aloadN X0.here hx rfl (hb hby d4_0) rfl rfl k_)
  show own_G p.tables e below _ _ (s₁.setTop (mkF m 1 #[.val (.ref a0), .val (.ref a1), .val (.int (0 : Int32)), .val (.int n.toInt32), .val .null, .unset] [(.ref a0)]))
  obtain ⟨T1, X1, e1, st1⟩ := initO X0 hx hZ hown (hw _ (List.mem_of_getElem? (i := 25) rfl)) (hw _ (List.mem_of_getElem? (i := 26) rfl)) (hw _ (List.mem_of_getElem? (i := 27) rfl)) e0 (g := (mkF m 1 #[.val (.ref a0), .val (.ref a1), .val (.int (0 : Int32)), .val (.int n.toInt32), .val .null, .unset] [(.ref a0)])) rfl (by rw [hml]; rfl) rfl (hb hby d4_1) (by decide) (W := 0) (by show 2 * 0 + _ ≤ _; exact Nat.le_of_eq rfl) (by decide)
  refine own_st ?_ st1
  show own_G p.tables e below _ _ (T1.setTop (mkF m 4 #[.val (.ref a0), .val (.ref a1), .val (.int (0 : Int32)), .val (.int n.toInt32), .val .null, .unset] []))
  refine own_st ?_ (fun t_ k_ => XS.iloadN X1.here hx rfl (hb hby d4_4) rfl k_)
  show own_G p.tables e below _ _ (T1.setTop (mkF m 5 #[.val (.ref a0), .val (.ref a1), .val (.int (0 : Int32)), .val (.int n.toInt32), .val .null, .unset] [(.int n.toInt32)]))
  refine own_st ?_ (fun t_ k_ => XS.ifYes X1.here hx rfl (pc0 := 5) (pc' := 27) rfl (hb hby d4_5) rfl ((if0 _ _).trans (feq (own_nz0 hn0 (by omega))).2) (by decide) (by decide) k_)
  show own_G p.tables e below _ _ (T1.setTop (mkF m 27 #[.val (.ref a0), .val (.ref a1), .val (.int (0 : Int32)), .val (.int n.toInt32), .val .null, .unset] []))
  obtain ⟨T2, X2, e2, st2⟩ := getS2 X1 hx hZ hown (host := "") (Or.inl (hw _ (List.mem_of_getElem? (i := 28) rfl))) Via.refl e1 (own_Su_to SS.1) (g := (mkF m 27 #[.val (.ref a0), .val (.ref a1), .val (.int (0 : Int32)), .val (.int n.toInt32), .val .null, .unset] [])) rfl (hb hby d4_27)
  refine own_st ?_ st2
  show own_G p.tables e below _ _ (T2.setTop (mkF m 30 #[.val (.ref a0), .val (.ref a1), .val (.int (0 : Int32)), .val (.int n.toInt32), .val .null, .unset] [(.int z1)]))
  refine own_st ?_ (fun t_ k_ => XS.ifNo X2.here hx rfl (hb hby d4_30) rfl ((if0 _ _).trans (feq hz1).1) k_)
  show own_G p.tables e below _ _ (T2.setTop (mkF m 33 #[.val (.ref a0), .val (.ref a1), .val (.int (0 : Int32)), .val (.int n.toInt32), .val .null, .unset] []))
  refine own_st ?_ (fun t_ k_ => XS.aloadN X2.here hx rfl (hb hby d4_33) rfl rfl k_)
  show own_G p.tables e below _ _ (T2.setTop (mkF m 34 #[.val (.ref a0), .val (.ref a1), .val (.int (0 : Int32)), .val (.int n.toInt32), .val .null, .unset] [(.ref a1)]))
  refine own_st ?_ (fun t_ k_ => XS.iloadN X2.here hx rfl (hb hby d4_34) rfl k_)
  show own_G p.tables e below _ _ (T2.setTop (mkF m 35 #[.val (.ref a0), .val (.ref a1), .val (.int (0 : Int32)), .val (.int n.toInt32), .val .null, .unset] [(.int (0 : Int32)), (.ref a1)]))
  refine own_st ?_ (fun t_ k_ => XS.iloadN X2.here hx rfl (hb hby d4_35) rfl k_)
  show own_G p.tables e below _ _ (T2.setTop (mkF m 36 #[.val (.ref a0), .val (.ref a1), .val (.int (0 : Int32)), .val (.int n.toInt32), .val .null, .unset] [(.int n.toInt32), (.int (0 : Int32)), (.ref a1)]))
  obtain ⟨_, _, ⟨T3, L3, k3, n3⟩, -, X3, ⟨Lc3, hQ3, l3, y3, z3⟩, st3⟩ := Jvm.LawKit.callS X2 hx (y := (⟨"java/lang/StringUTF16", "compress", "([CII)[B"⟩ : MethodName)) hown (mvT hZ (hw _ (List.mem_of_getElem? (i := 29) rfl))) (mvT hZ (hw _ (List.mem_of_getElem? (i := 30) rfl))) (mvT hZ (hw _ (List.mem_of_getElem? (i := 31) rfl))) (mvT hZ (hw _ (List.mem_of_getElem? (i := 32) rfl))) (by decide) (backOf (W := 0) (rm6 l Z _ hw [] a1 z1 fm n ch h0 n0 Z0 SS Y0 hn hC) hZ (hw _ (List.mem_of_getElem? (i := 32) rfl)) (hw _ (List.mem_of_getElem? (i := 31) rfl)) (by decide) (by decide)) (g := (mkF m 36 #[.val (.ref a0), .val (.ref a1), .val (.int (0 : Int32)), .val (.int n.toInt32), .val .null, .unset] [(.int n.toInt32), (.int (0 : Int32)), (.ref a1)])) rfl (by rw [hml]; rfl) (argsL := [(.ref a1), (.int (0 : Int32)), (.int n.toInt32)]) (rest := []) (lenOf pd_11 rfl) rfl (by show 2 * 0 + _ ≤ _; exact Nat.le_of_eq rfl) (hb hby d4_36) (fun _ _ => ⟨rfl, e2, (by decide : 0 + 2 ≤ _), (by decide : 0 + 18 ≤ _)⟩)
  dsimp only [Pt.U, Pt.locs, Pt.cells, Pt.slots] at X3 l3 y3 z3 st3 hQ3
  subst l3 y3 z3
  obtain ⟨t3, rfl, N3q, hq3⟩ := hQ3
  have N3 := Fr.app N0 N3q
  obtain ⟨K3, hs3, hp3⟩ := hq3
  have g_t3 : n0 ≤ t3 := Nat.le_trans Z0 hs3
  have sz_t3 : h0.size ≤ t3 := Nat.le_trans (Keep.refl h0 [a0]).1 hs3
  have ne_a0_t3 : a0 ≠ t3 := Nat.ne_of_lt (Nat.lt_of_lt_of_le E0.lt hs3)
  have ne_a1_t3 : a1 ≠ t3 := Nat.ne_of_lt (Nat.lt_of_lt_of_le (own_Y_lt Y0) hs3)
  have F4_Z : own_SS Z T3.heap n0 z1 fm := own_SS_keep SS K3 own_al0
  have F5_E : Exa Z T3.heap a0 "java/lang/String" := E0.keep K3
  have F6_coder : Fld Z T3.heap a0 "java/lang/String" "coder" "B" u1 := F1.keep K3 nin0
  have F7_value : Fld Z T3.heap a0 "java/lang/String" "value" "[B" u2 := F2.keep K3 nin0
  have F8_P : own_Y .char Z T3.heap a1 n ch := own_Y_keep Y0 K3 nin0
  have Zs9 : n0 ≤ T3.heap.size := Nat.le_trans Z0 K3.1
  have Kc10 : Keep h0 T3.heap [a0] := (Keep.refl h0 [a0]).trans K3 all0
  obtain ⟨cd3, NN3, gg3, Yb3, hD3⟩ := hp3
  refine own_st ?_ st3
  show own_G p.tables e below _ _ (T3.setTop (mkF m 39 #[.val (.ref a0), .val (.ref a1), .val (.int (0 : Int32)), .val (.int n.toInt32), .val .null, .unset] [(.ref t3)]))
  refine own_st ?_ (fun t_ k_ => XS.astore X3.here hx rfl (hb hby d4_39) rfl rfl (l' := #[.val (.ref a0), .val (.ref a1), .val (.int (0 : Int32)), .val (.int n.toInt32), .val .null, .val (.ref t3)]) rfl k_)
  show own_G p.tables e below _ _ (T3.setTop (mkF m 41 #[.val (.ref a0), .val (.ref a1), .val (.int (0 : Int32)), .val (.int n.toInt32), .val .null, .val (.ref t3)] []))
  refine own_st ?_ (fun t_ k_ => XS.aloadN X3.here hx rfl (hb hby d4_41) rfl rfl k_)
  show own_G p.tables e below _ _ (T3.setTop (mkF m 42 #[.val (.ref a0), .val (.ref a1), .val (.int (0 : Int32)), .val (.int n.toInt32), .val .null, .val (.ref t3)] [(.ref a0)]))
  refine own_st ?_ (fun t_ k_ => XS.aload X3.here hx rfl (hb hby d4_42) rfl rfl k_)
  show own_G p.tables e below _ _ (T3.setTop (mkF m 44 #[.val (.ref a0), .val (.ref a1), .val (.int (0 : Int32)), .val (.int n.toInt32), .val .null, .val (.ref t3)] [(.ref t3), (.ref a0)]))
  refine own_st ?_ (fun t_ k_ => XS.iloadN X3.here hx rfl (hb hby d4_44) rfl k_)
  show own_G p.tables e below _ _ (T3.setTop (mkF m 45 #[.val (.ref a0), .val (.ref a1), .val (.int (0 : Int32)), .val (.int n.toInt32), .val .null, .val (.ref t3)] [(.int n.toInt32), (.ref t3), (.ref a0)]))
  obtain ⟨_, _, ⟨T11, L11, k11, n11⟩, -, X11, ⟨Lc11, hQ11, l11, y11, z11⟩, st11⟩ := Jvm.LawKit.callS X3 hx (y := (⟨"java/lang/StringUTF16", "coderFromArrayLen", "([BI)B"⟩ : MethodName)) hown (mvT hZ (hw _ (List.mem_of_getElem? (i := 56) rfl))) (mvT hZ (hw _ (List.mem_of_getElem? (i := 57) rfl))) (mvT hZ (hw _ (List.mem_of_getElem? (i := 31) rfl))) (mvT hZ (hw _ (List.mem_of_getElem? (i := 58) rfl))) (by decide) (backOf (W := 1) (rm13 l Z _ hw [] t3 cd3 n NN3 gg3 ch T3.heap n0 Zs9 Yb3 hD3 hn0) hZ (hw _ (List.mem_of_getElem? (i := 58) rfl)) (hw _ (List.mem_of_getElem? (i := 31) rfl)) (by decide) (by decide)) (g := (mkF m 45 #[.val (.ref a0), .val (.ref a1), .val (.int (0 : Int32)), .val (.int n.toInt32), .val .null, .val (.ref t3)] [(.int n.toInt32), (.ref t3), (.ref a0)])) rfl (by rw [hml]; rfl) (argsL := [(.ref t3), (.int n.toInt32)]) (rest := [(.ref a0)]) (lenOf pd_12 rfl) rfl (by show 2 * 0 + _ ≤ _; exact Nat.le_of_eq rfl) (hb hby d4_45) (fun _ _ => ⟨rfl, rfl, (by decide : 2 + 0 ≤ _), (by decide : 18 + 0 ≤ _)⟩)
  dsimp only [Pt.U, Pt.locs, Pt.cells, Pt.slots] at X11 l11 y11 z11 st11 hQ11
  subst l11 y11 z11
  obtain ⟨rfl, N11q, e11⟩ := hQ11
  have N11 := Fr.app N3 N11q
  refine own_st ?_ st11
  show own_G p.tables e below _ _ (T11.setTop (mkF m 48 #[.val (.ref a0), .val (.ref a1), .val (.int (0 : Int32)), .val (.int n.toInt32), .val .null, .val (.ref t3)] [(.int cd3), (.ref a0)]))
  obtain ⟨T12, h12, X12, e12, W12, st12⟩ := putFN X11 hx hZ hown (hw _ (List.mem_of_getElem? (i := 59) rfl)) Via.refl e11 F6_coder F5_E (Or.inr ⟨(hw _ (List.mem_of_getElem? (i := 60) rfl)), rfl, hnm⟩) (hw _ (List.mem_of_getElem? (i := 13) rfl)) (ty := .byte) (v' := (.int (nar .byte cd3))) (by decide) rfl (fits_nar_byte _) (g := (mkF m 48 #[.val (.ref a0), .val (.ref a1), .val (.int (0 : Int32)), .val (.int n.toInt32), .val .null, .val (.ref t3)] [(.int cd3), (.ref a0)])) rfl rfl (hb hby d4_48)
  have N12 := Fr.snoc X12 N11 g_a0
  have F13_Z : own_SS Z h12 n0 z1 fm := own_SS_keep F4_Z (Keep.of_wr W12) (own_alS g_a0 own_al0)
  have F14_E : Exa Z h12 a0 "java/lang/String" := F5_E.wr W12
  have F15_coder : Fld Z h12 a0 "java/lang/String" "coder" "B" (.int (nar .byte cd3)) := F6_coder.same W12
  have F16_value : Fld Z h12 a0 "java/lang/String" "value" "[B" u2 := F7_value.other W12 (Or.inr (slot_ne (Or.inr (hw _ (List.mem_of_getElem? (i := 62) rfl))) (Or.inr (hw _ (List.mem_of_getElem? (i := 60) rfl))) (by decide) (t := (.array .byte)) (t' := .byte) (by decide) (by decide)))
  have F17_P : own_Y .byte Z h12 t3 NN3 gg3 := own_Y_keep Yb3 (Keep.of_wr W12) (ninS (Ne.symm ne_a0_t3) nin0)
  have Zs18 : n0 ≤ h12.size := Nat.le_trans Zs9 (Keep.of_wr W12).1
  have Kc19 : Keep h0 h12 [a0] := Kc10.wr W12 (Or.inl (List.mem_of_getElem? (i := 0) rfl))
  refine own_st ?_ st12
  show own_G p.tables e below _ _ (T12.setTop (mkF m 51 #[.val (.ref a0), .val (.ref a1), .val (.int (0 : Int32)), .val (.int n.toInt32), .val .null, .val (.ref t3)] []))
  refine own_st ?_ (fun t_ k_ => XS.aloadN X12.here hx rfl (hb hby d4_51) rfl rfl k_)
  show own_G p.tables e below _ _ (T12.setTop (mkF m 52 #[.val (.ref a0), .val (.ref a1), .val (.int (0 : Int32)), .val (.int n.toInt32), .val .null, .val (.ref t3)] [(.ref a0)]))
  refine own_st ?_ (fun t_ k_ => XS.aload X12.here hx rfl (hb hby d4_52) rfl rfl k_)
  show own_G p.tables e below _ _ (T12.setTop (mkF m 54 #[.val (.ref a0), .val (.ref a1), .val (.int (0 : Int32)), .val (.int n.toInt32), .val .null, .val (.ref t3)] [(.ref t3), (.ref a0)]))
  obtain ⟨T20, h20, X20, e20, W20, st20⟩ := putF X12 hx hZ hown (host := "") (Or.inl (hw _ (List.mem_of_getElem? (i := 61) rfl))) Via.refl e12 F16_value F14_E (Or.inr ⟨(hw _ (List.mem_of_getElem? (i := 62) rfl)), rfl, hnm⟩) (hw _ (List.mem_of_getElem? (i := 13) rfl)) (ty := (.array .byte)) (by decide) rfl rfl (g := (mkF m 54 #[.val (.ref a0), .val (.ref a1), .val (.int (0 : Int32)), .val (.int n.toInt32), .val .null, .val (.ref t3)] [(.ref t3), (.ref a0)])) rfl rfl (hb hby d4_54)
  have N20 := Fr.snoc X20 N12 g_a0
  have F21_Z : own_SS Z h20 n0 z1 fm := own_SS_keep F13_Z (Keep.of_wr W20) (own_alS g_a0 own_al0)
  have F22_E : Exa Z h20 a0 "java/lang/String" := F14_E.wr W20
  have F23_coder : Fld Z h20 a0 "java/lang/String" "coder" "B" (.int (nar .byte cd3)) := F15_coder.other W20 (Or.inr (slot_ne (Or.inr (hw _ (List.mem_of_getElem? (i := 60) rfl))) (Or.inr (hw _ (List.mem_of_getElem? (i := 62) rfl))) (by decide) (t := .byte) (t' := (.array .byte)) (by decide) (by decide)))
  have F24_value : Fld Z h20 a0 "java/lang/String" "value" "[B" (.ref t3) := F16_value.same W20
  have F25_P : own_Y .byte Z h20 t3 NN3 gg3 := own_Y_keep F17_P (Keep.of_wr W20) (ninS (Ne.symm ne_a0_t3) nin0)
  have Zs26 : n0 ≤ h20.size := Nat.le_trans Zs18 (Keep.of_wr W20).1
  have Kc27 : Keep h0 h20 [a0] := Kc19.wr W20 (Or.inl (List.mem_of_getElem? (i := 0) rfl))
  refine own_st ?_ st20
  show own_G p.tables e below _ _ (T20.setTop (mkF m 57 #[.val (.ref a0), .val (.ref a1), .val (.int (0 : Int32)), .val (.int n.toInt32), .val .null, .val (.ref t3)] []))
  refine own_retV X20 hx hlk hret (hb hby d4_57) (by decide) (by decide) ⟨rfl, N20, ?_⟩
  rw [e20]
  exact ⟨Kc27, t3, cd3, NN3, gg3, sz_t3, ne_a0_t3, own_fcd F23_coder (own_D_cd hD3), F24_value, F25_P, hD3⟩
theorem pd_13 : parseMethodDescriptor "([CIILjava/lang/Void;)V" = some ⟨[(.array .char), .int, .int, (.object "java/lang/Void")], none⟩ := by decide +kernel
theorem d3_0 : decode jdk_42_method_3_code 0 = .ok (.aload_n 0, 1) := by decide +kernel
theorem d3_1 : decode jdk_42_method_3_code 1 = .ok (.aload_n 1, 1) := by decide +kernel
theorem d3_2 : decode jdk_42_method_3_code 2 = .ok (.iconst 0, 1) := by decide +kernel
theorem d3_3 : decode jdk_42_method_3_code 3 = .ok (.aload_n 1, 1) := by decide +kernel
theorem d3_4 : decode jdk_42_method_3_code 4 = .ok (.arraylength, 1) := by decide +kernel
theorem d3_5 : decode jdk_42_method_3_code 5 = .ok (.aconst_null, 1) := by decide +kernel
theorem d3_6 : decode jdk_42_method_3_code 6 = .ok (.invokespecial 27, 3) := by decide +kernel
theorem d3_9 : decode jdk_42_method_3_code 9 = .ok (.return_, 1) := by decide +kernel
theorem pn_3 : plainName "java/lang/String" = true := by first | (simp [plainName, overriddenIn]; done) | decide +kernel
theorem ef_3 (m : MethodId) (a0 : Addr) (a1 : Addr) : entryFrame m #[(.ref a0), (.ref a1)] 2 = mkF m 0 #[.val (.ref a0), .val (.ref a1)] [] := by first | (simp [entryFrame, mkF, argsToLocals, Value.category]; done) | rfl
set_option maxRecDepth 65536 in
set_option maxHeartbeats 40000000 in
theorem rm3 (l : Launch) (Z : State) (a0 : Array Value) (hw : ∀ d ∈ tables_1, d.before a0 Z = true) (ws : List Jvm.Cond) (a0 : Addr) (a1 : Addr) (z1 : Int32) (fm : Value) (n : Nat) (ch : Nat → Int32) (u1 : Value) (u2 : Value) (h0 : Heap) (n0 : Nat) (Z0 : n0 ≤ h0.size) (g_a0 : n0 ≤ a0) (SS : own_SS Z h0 n0 z1 fm) (E0 : Exa Z h0 a0 "java/lang/String") (F1 : Fld Z h0 a0 "java/lang/String" "coder" "B" u1) (F2 : Fld Z h0 a0 "java/lang/String" "value" "[B" u2) (Y0 : own_Y .char Z h0 a1 n ch) (hz1 : ¬ z1 = 0) (hn0 : 0 < n) (hn : n ≤ 6) (hC : ∀ i, i < n → own_isC (ch i)) (hne : a1 ≠ a0) :
    MetFree l (⟨"java/lang/String", "<init>", "([C)V"⟩ : MethodName) (head1 (Jvm.Cond.code (⟨"java/lang/String", "<init>", "([C)V"⟩ : MethodName) jdk_42_method_3_code 2 none :: ws) ({ frames := 5, cells := 2, slots := 18, locals := 74 } : Room)) (fun a U => a = #[(.ref a0), (.ref a1)] ∧ Z.Warmed39 U.vm ∧ U.heap = h0) (fun _ _ _ _ _ => True) (fun _ U o U' => ∃ v L, o = .returned v ∧ own_QK Z none [a0] (own_PS Z n ch a0 h0) h0 n0 v U'.heap L ∧ FrameEnd U o U' L ({ frames := 5, cells := 2, slots := 18, locals := 74 } : Room).cells ({ frames := 5, cells := 2, slots := 18, locals := 74 } : Room).slots) := by
  refine MetFree.of_bodySF (plainFor_of_name pn_3) hisR ?_
  intro p e s m args below meth c s₁ Bd hml0 hP hK
  obtain ⟨rfl, hZ, hh⟩ := hP
  have hx := Bd.exec
  have hby := Bd.bytes
  have hlk : meth.locks = false := BodyLoose.notSynchronized Bd
  have hret := Bd.returns
  have hml : c.maxLocals = 2 := hml0
  have hown : s.vm.findClass "java/lang/String" = some m.cls := findClass_of_methodNamed Bd.named
  have hnm := (name_of_methodNamed Bd.named Bd.method).1
  have X0 : Stand p l e ({ frames := 5, cells := 2, slots := 18, locals := 74 } : Room) s m #[(.ref a0), (.ref a1)] below meth c s₁ [] 0 0 := Stand.of_body Bd
  have e0 : s₁.heap = h0 := by rw [← hh, Bd.state]; rfl
  have N0 := Fr.nil n0
  show own_G p.tables e below (own_E s ({ frames := 5, cells := 2, slots := 18, locals := 74 } : Room).cells ({ frames := 5, cells := 2, slots := 18, locals := 74 } : Room).slots) (own_QK Z none [a0] (own_PS Z n ch a0 h0) h0 n0) (s₁.setTop (entryFrame m #[(.ref a0), (.ref a1)] 2))
  refine own_st ?_ (fun t_ k_ => castTop (ef_3 m a0 a1) k_)
  show own_G p.tables e below _ _ (s₁.setTop (mkF m 0 #[.val (.ref a0), .val (.ref a1)] []))
  refine own_st ?_ (fun t_ k_ => XS.aloadN X0.here hx rfl (hb hby d3_0) rfl rfl k_)
  show own_G p.tables e below _ _ (s₁.setTop (mkF m 1 #[.val (.ref a0), .val (.ref a1)] [(.ref a0)]))
  refine own_st ?_ (fun t_ k_ => XS.aloadN X0.here hx rfl (hb hby d3_1) rfl rfl k_)
  show own_G p.tables e below _ _ (s₁.setTop (mkF m 2 #[.val (.ref a0), .val (.ref a1)] [(.ref a1), (.ref a0)]))
  refine own_st ?_ (fun t_ k_ => XS.iconst X0.here hx rfl (hb hby d3_2) k_)
  show own_G p.tables e below _ _ (s₁.setTop (mkF m 3 #[.val (.ref a0), .val (.ref a1)] [(.int (0 : Int32)), (.ref a1), (.ref a0)]))
  refine own_st ?_ (fun t_ k_ => XS.aloadN X0.here hx rfl (hb hby d3_3) rfl rfl k_)
  show own_G p.tables e below _ _ (s₁.setTop (mkF m 4 #[.val (.ref a0), .val (.ref a1)] [(.ref a1), (.int (0 : Int32)), (.ref a1), (.ref a0)]))
  obtain ⟨cl1, Ar1, Sz1, G1⟩ := Y0
  refine own_st ?_ (X0.arraylength hx (by rw [e0]; exact Ar1.1) (State.isArrayOf_alike hZ.alike Ar1.2.1) (g := (mkF m 4 #[.val (.ref a0), .val (.ref a1)] [(.ref a1), (.int (0 : Int32)), (.ref a1), (.ref a0)])) rfl rfl (hb hby d3_4))
  rw [Sz1]
  have Yx1 : own_Y .char Z h0 a1 n ch := ⟨cl1, Ar1, Sz1, G1⟩
  show own_G p.tables e below _ _ (s₁.setTop (mkF m 5 #[.val (.ref a0), .val (.ref a1)] [(.int (n).toInt32), (.int (0 : Int32)), (.ref a1), (.ref a0)]))
  refine own_st ?_ (fun t_ k_ => XS.aconstNull X0.here hx rfl (hb hby d3_5) k_)
  show own_G p.tables e below _ _ (s₁.setTop (mkF m 6 #[.val (.ref a0), .val (.ref a1)] [.null, (.int (n).toInt32), (.int (0 : Int32)), (.ref a1), (.ref a0)]))
  obtain ⟨_, _, ⟨T2, L2, k2, n2⟩, -, X2, ⟨Lc2, hQ2, l2, y2, z2⟩, st2⟩ := X0.specialBack hx (y := (⟨"java/lang/String", "<init>", "([CIILjava/lang/Void;)V"⟩ : MethodName)) rfl hown (mvT hZ (hw _ (List.mem_of_getElem? (i := 21) rfl))) (mvT hZ (hw _ (List.mem_of_getElem? (i := 22) rfl))) (mvT hZ (hw _ (List.mem_of_getElem? (i := 24) rfl))) (by decide) (backOf (W := 0) (rm4 l Z _ hw [] a0 a1 z1 fm n ch u1 u2 h0 n0 Z0 g_a0 SS E0 F1 F2 Yx1 hz1 hn0 hn hC) hZ (hw _ (List.mem_of_getElem? (i := 24) rfl)) (hw _ (List.mem_of_getElem? (i := 14) rfl)) (by decide) (by decide)) (g := (mkF m 6 #[.val (.ref a0), .val (.ref a1)] [.null, (.int (n).toInt32), (.int (0 : Int32)), (.ref a1), (.ref a0)])) rfl (by rw [hml]; rfl) (Steps.refl _) (a := a0) (argsL := [(.ref a1), (.int (0 : Int32)), (.int (n).toInt32), .null]) (rest := []) (lenOf pd_13 rfl) rfl (by show 2 * 0 + _ ≤ _; exact Nat.le_of_eq rfl) (hb hby d3_6) (fun _ _ => ⟨rfl, e0, (by decide : 0 + 2 ≤ _), (by decide : 0 + 18 ≤ _)⟩)
  dsimp only [Pt.U, Pt.locs, Pt.cells, Pt.slots] at X2 l2 y2 z2 st2 hQ2
  subst l2 y2 z2
  obtain ⟨rfl, N2q, hq2⟩ := hQ2
  have N2 := Fr.app N0 N2q
  obtain ⟨K2, hP2⟩ := hq2
  have F3_Z : own_SS Z T2.heap n0 z1 fm := own_SS_keep SS K2 (own_alS g_a0 own_al0)
  have F4_E : Exa Z T2.heap a0 "java/lang/String" := E0.keep K2
  have F5_P : own_Y .char Z T2.heap a1 n ch := own_Y_keep Yx1 K2 (ninS hne nin0)
  have Zs6 : n0 ≤ T2.heap.size := Nat.le_trans Z0 K2.1
  have Kc7 : Keep h0 T2.heap [a0] := (Keep.refl h0 [a0]).trans K2 (allS (Or.inl (List.mem_of_getElem? (i := 0) rfl)) all0)
  refine own_st ?_ (fun t_ k_ => st2.trans k_)
  show own_G p.tables e below _ _ (T2.setTop (mkF m 9 #[.val (.ref a0), .val (.ref a1)] []))
  refine own_retV X2 hx hlk hret (hb hby d3_9) (by decide) (by decide) ⟨rfl, N2, ?_⟩
  exact ⟨Kc7, hP2⟩
/-- a symbol: one char, or a pair -/
def own_uns : List (Int32 × Option Int32) → List Int32
  | [] => []
  | (c, none) :: xs => c :: own_uns xs
  | (c, some d) :: xs => c :: d :: own_uns xs
def own_prs : List (Int32 × Option Int32) → Nat
  | [] => 0
  | (_, none) :: xs => own_prs xs
  | (_, some _) :: xs => own_prs xs + 1
def own_good (x : Int32 × Option Int32) : Prop := match x with
  | (c, none) => own_isC c ∧ (c.toInt < 55296 ∨ 57343 < c.toInt)
  | (c, some d) => (55296 ≤ c.toInt ∧ c.toInt < 56320) ∧ (56320 ≤ d.toInt ∧ d.toInt < 57344)
theorem own_uns1 (xs : List (Int32 × Option Int32)) (c : Int32) : own_uns (xs ++ [(c, none)]) = own_uns xs ++ [c] := by
  induction xs with
  | nil => rfl
  | cons x xs ih => obtain ⟨a, o⟩ := x; cases o <;> simp [own_uns, ih]
theorem own_uns2 (xs : List (Int32 × Option Int32)) (c d : Int32) : own_uns (xs ++ [(c, some d)]) = own_uns xs ++ [c, d] := by
  induction xs with
  | nil => rfl
  | cons x xs ih => obtain ⟨a, o⟩ := x; cases o <;> simp [own_uns, ih]
theorem own_uns_len (xs : List (Int32 × Option Int32)) : (own_uns xs).length = xs.length + own_prs xs ∧ (own_uns xs).length ≤ 2 * xs.length := by
  induction xs with
  | nil => exact ⟨rfl, Nat.le_refl _⟩
  | cons x xs ih => obtain ⟨a, o⟩ := x; cases o <;> simp only [own_uns, own_prs, List.length_cons] <;> omega
theorem own_uns_isC (xs : List (Int32 × Option Int32)) (hg : ∀ x ∈ xs, own_good x) : ∀ i, i < (own_uns xs).length → own_isC ((own_uns xs).getD i 0) := by
  induction xs with
  | nil => intro i hi; exact absurd hi (Nat.not_lt_zero i)
  | cons x xs ih =>
    have h1 := hg x (List.mem_cons_self ..)
    have h2 := ih (fun y hy => hg y (List.mem_cons_of_mem _ hy))
    obtain ⟨a, o⟩ := x
    cases o with
    | none =>
      intro i hi
      cases i with
      | zero => exact h1.1
      | succ i => exact h2 i (by simpa [own_uns] using hi)
    | some d =>
      intro i hi
      have h3 : ((55296 ≤ a.toInt ∧ a.toInt < 56320) ∧ (56320 ≤ d.toInt ∧ d.toInt < 57344)) := h1
      match i, hi with
      | 0, _ => exact ⟨show 0 ≤ a.toInt by omega, show a.toInt ≤ 65535 by omega⟩
      | 1, _ => exact ⟨show 0 ≤ d.toInt by omega, show d.toInt ≤ 65535 by omega⟩
      | i + 2, hi => exact h2 i (by simpa [own_uns] using hi)
/-- from place kx on the chars spell xs -/
def own_T (ch : Nat → Int32) (n kx : Nat) (xs : List (Int32 × Option Int32)) : Prop := kx + (own_uns xs).length = n ∧ (∀ i, i < (own_uns xs).length → ch (kx + i) = (own_uns xs).getD i 0) ∧ ∀ x ∈ xs, own_good x
theorem own_T1 {ch : Nat → Int32} {n kx : Nat} {c : Int32} {xs : List (Int32 × Option Int32)} (h : own_T ch n kx ((c, none) :: xs)) : kx < n ∧ ch kx = c ∧ own_good (c, none) ∧ own_T ch n (kx + 1) xs := by
  obtain ⟨h1, h2, h3⟩ := h
  have e : (own_uns ((c, none) :: xs)).length = (own_uns xs).length + 1 := rfl
  refine ⟨by omega, h2 0 (by omega), h3 _ (List.mem_cons_self ..), by omega, fun i hi => ?_, fun y hy => h3 y (List.mem_cons_of_mem _ hy)⟩
  have q := h2 (i + 1) (by omega)
  rw [show kx + 1 + i = kx + (i + 1) by omega, q]; rfl
theorem own_T2 {ch : Nat → Int32} {n kx : Nat} {c d : Int32} {xs : List (Int32 × Option Int32)} (h : own_T ch n kx ((c, some d) :: xs)) : kx + 1 < n ∧ ch kx = c ∧ ch (kx + 1) = d ∧ own_good (c, some d) ∧ own_T ch n (kx + 2) xs := by
  obtain ⟨h1, h2, h3⟩ := h
  have e : (own_uns ((c, some d) :: xs)).length = (own_uns xs).length + 2 := rfl
  refine ⟨by omega, h2 0 (by omega), h2 1 (by omega), h3 _ (List.mem_cons_self ..), by omega, fun i hi => ?_, fun y hy => h3 y (List.mem_cons_of_mem _ hy)⟩
  have q := h2 (i + 2) (by omega)
  rw [show kx + 2 + i = kx + (i + 2) by omega, q]; rfl
theorem own_T_last {ch : Nat → Int32} {n kx : Nat} {c : Int32} {xs : List (Int32 × Option Int32)} (h : own_T ch n kx ((c, none) :: xs)) (q : ¬ kx + 1 < n) : own_prs ((c, none) :: xs) = 0 := by
  have h1 := h.1
  have e : (own_uns ((c, none) :: xs)).length = (own_uns xs).length + 1 := rfl
  have e2 : own_prs ((c, none) :: xs) = own_prs xs := rfl
  have := (own_uns_len xs).1
  omega
/-- Latin-1 chars: no pairs -/
theorem own_T_lat {ch : Nat → Int32} {n : Nat} (xs : List (Int32 × Option Int32)) : ∀ kx, own_T ch n kx xs → (∀ i, i < n → (ch i).toInt ≤ 255) → own_prs xs = 0 := by
  induction xs with
  | nil => intro kx _ _; rfl
  | cons x xs ih =>
    intro kx h hl
    obtain ⟨a, o⟩ := x
    cases o with
    | none => exact ih (kx + 1) (own_T1 h).2.2.2 hl
    | some d =>
      obtain ⟨h1, h2, -, h4, -⟩ := own_T2 h
      have q := hl kx (by omega)
      rw [h2] at q
      have h5 : ((55296 ≤ a.toInt ∧ a.toInt < 56320) ∧ (56320 ≤ d.toInt ∧ d.toInt < 57344)) := h4
      omega
theorem own_latcount {cd : Int32} {n N : Nat} {g ch : Nat → Int32} {xs : List (Int32 × Option Int32)} (D : own_D cd n N g ch) (h : cd = 0) (T : own_T ch n 0 xs) : n.toInt32 - (0 : Int32) = xs.length.toInt32 := by
  have h1 := own_T_lat xs 0 T (fun i hi => ((own_D_lat D h).2 i hi).2)
  have h2 := (own_uns_len xs).1
  have h3 := T.1
  rw [show n = xs.length by omega, Int32.sub_zero]
def own_mc (k : Nat) : Int32 := if 1 < k then 1 else 0
theorem own_mc1 {k : Nat} (hk : k < 2 ^ 31) (h : (1 : Int32) < k.toInt32) : own_mc k = 1 := if_pos ((own_tlt (a := 1) (by decide) hk).mp h)
theorem own_mc0 {k : Nat} (hk : k < 2 ^ 31) (h : ¬ (1 : Int32) < k.toInt32) : own_mc k = 0 := if_neg (fun q => h ((own_tlt (a := 1) (by decide) hk).mpr q))
/-- what put writes for x -/
def own_sym (x : Int32) : Int32 × Option Int32 :=
  if (x &&& (1 : Int32)) = (0 : Int32) then
    (if ((x.toUInt32 >>> ((1 : Int32) &&& 31).toUInt32).toInt32 &&& (65535 : Int32)) < (55296 : Int32) then nar .char (((x.toUInt32 >>> ((1 : Int32) &&& 31).toUInt32).toInt32 &&& (65535 : Int32)).toUInt32.toUInt16.toUInt32.toInt32)
     else if (57343 : Int32) < ((x.toUInt32 >>> ((1 : Int32) &&& 31).toUInt32).toInt32 &&& (65535 : Int32)) then nar .char (((x.toUInt32 >>> ((1 : Int32) &&& 31).toUInt32).toInt32 &&& (65535 : Int32)).toUInt32.toUInt16.toUInt32.toInt32)
     else nar .char ((((x.toUInt32 >>> ((1 : Int32) &&& 31).toUInt32).toInt32 &&& (65535 : Int32)) - (55296 : Int32)).toUInt32.toUInt16.toUInt32.toInt32), none)
  else (nar .char (((55296 : Int32) ||| ((x.toUInt32 >>> ((1 : Int32) &&& 31).toUInt32).toInt32 &&& (1023 : Int32))).toUInt32.toUInt16.toUInt32.toInt32), some (nar .char (((56320 : Int32) ||| ((x.toUInt32 >>> ((11 : Int32) &&& 31).toUInt32).toInt32 &&& (1023 : Int32))).toUInt32.toUInt16.toUInt32.toInt32)))
theorem own_nn {v : Int32} (h : own_isC v) : nar .char (v.toUInt32.toUInt16.toUInt32.toInt32) = v := by
  show (v.toUInt32.toUInt16.toUInt32.toInt32).toUInt32.toUInt16.toUInt32.toInt32 = v
  rw [own_chr_id h, own_chr_id h]
theorem own_sur (b y : Int32) (c : Nat) (hb : b.toInt = ((2 ^ 10 * c : Nat) : Int)) (hc : c < 64) : (b ||| (y &&& (1023 : Int32))).toInt = b.toInt + y.toInt % 1024 := by
  have h := Jvm.Kit.i32_mask y 1023 (k := 10) (by decide) (by decide)
  have e : (b ||| (y &&& (1023 : Int32))) = ((y &&& (1023 : Int32)) ||| b) := by
    apply Int32.toBitVec_inj.mp
    rw [Int32.toBitVec_or, Int32.toBitVec_or, BitVec.or_comm]
  have h' : (y &&& (1023 : Int32)).toInt = (((y.toInt % 1024).toNat : Nat) : Int) := by rw [h]; omega
  rw [e, own_or32 (k := 10) h' hb (by omega) (by omega), hb]; omega
theorem own_sym_good (x : Int32) : own_good (own_sym x) := by
  unfold own_sym
  have e1 : (55296 : Int32).toInt = 55296 := by decide
  have e2 : (57343 : Int32).toInt = 57343 := by decide
  have e3 : (56320 : Int32).toInt = 56320 := by decide
  by_cases h : (x &&& (1 : Int32)) = (0 : Int32)
  · rw [if_pos h]
    have hv := Jvm.Kit.i32_mask ((x.toUInt32 >>> ((1 : Int32) &&& 31).toUInt32).toInt32) 65535 (k := 16) (by decide) (by decide)
    generalize ((x.toUInt32 >>> ((1 : Int32) &&& 31).toUInt32).toInt32 &&& (65535 : Int32)) = v at hv ⊢
    have hc : own_isC v := ⟨by omega, by omega⟩
    by_cases h1 : v < (55296 : Int32)
    · rw [if_pos h1, own_nn hc]
      rw [Int32.lt_iff_toInt_lt, e1] at h1
      exact ⟨hc, Or.inl h1⟩
    · rw [if_neg h1]
      rw [Int32.lt_iff_toInt_lt, e1] at h1
      by_cases h2 : (57343 : Int32) < v
      · rw [if_pos h2, own_nn hc]
        rw [Int32.lt_iff_toInt_lt, e2] at h2
        exact ⟨hc, Or.inr h2⟩
      · rw [if_neg h2]
        rw [Int32.lt_iff_toInt_lt, e2] at h2
        have es : (v - (55296 : Int32)).toInt = v.toInt - 55296 := by rw [Jvm.Kit.i32_sub (by rw [e1]; omega) (by rw [e1]; omega), e1]
        have hs : own_isC (v - (55296 : Int32)) := ⟨by omega, by omega⟩
        rw [own_nn hs]
        exact ⟨hs, Or.inl (by omega)⟩
  · rw [if_neg h]
    have a1 := own_sur 55296 ((x.toUInt32 >>> ((1 : Int32) &&& 31).toUInt32).toInt32) 54 (by decide) (by decide)
    have a2 := own_sur 56320 ((x.toUInt32 >>> ((11 : Int32) &&& 31).toUInt32).toInt32) 55 (by decide) (by decide)
    rw [e1] at a1
    rw [e3] at a2
    generalize ((55296 : Int32) ||| ((x.toUInt32 >>> ((1 : Int32) &&& 31).toUInt32).toInt32 &&& (1023 : Int32))) = c at a1 ⊢
    generalize ((56320 : Int32) ||| ((x.toUInt32 >>> ((11 : Int32) &&& 31).toUInt32).toInt32 &&& (1023 : Int32))) = d at a2 ⊢
    rw [own_nn (v := c) ⟨by omega, by omega⟩, own_nn (v := d) ⟨by omega, by omega⟩]
    exact ⟨⟨by omega, by omega⟩, by omega, by omega⟩
theorem own_get1 {G : Nat → Int32} {us : List Int32} {c : Int32} (hG : ∀ i, i < us.length → G i = us.getD i 0) : ∀ i, i < (us ++ [c]).length → (own_upd G us.length c) i = (us ++ [c]).getD i 0 := by
  intro i hi
  simp only [List.length_append, List.length_cons, List.length_nil] at hi
  by_cases e : i = us.length
  · subst e; rw [own_upd_eq]; simp
  · rw [own_upd_ne e, hG i (by omega)]; simp [List.getD, List.getElem?_append_left (show i < us.length by omega)]
theorem own_get2 {G : Nat → Int32} {us : List Int32} {c d : Int32} (hG : ∀ i, i < us.length → G i = us.getD i 0) : ∀ i, i < (us ++ [c, d]).length → (own_upd (own_upd G us.length c) (us.length + 1) d) i = (us ++ [c, d]).getD i 0 := by
  have h := own_get1 (c := d) (own_get1 (c := c) hG)
  have e : (us ++ [c]).length = us.length + 1 := by simp
  rw [List.append_assoc, e] at h
  exact h
theorem own_m3 (x : Int32) : ((1 : Int32) + ((x &&& (2147483647 : Int32)) - ((x &&& (2147483647 : Int32)) / (3 : Int32)) * (3 : Int32))).toInt = 1 ∨ ((1 : Int32) + ((x &&& (2147483647 : Int32)) - ((x &&& (2147483647 : Int32)) / (3 : Int32)) * (3 : Int32))).toInt = 2 ∨ ((1 : Int32) + ((x &&& (2147483647 : Int32)) - ((x &&& (2147483647 : Int32)) / (3 : Int32)) * (3 : Int32))).toInt = 3 := by
  have h := Jvm.Kit.i32_mask x 2147483647 (k := 31) (by decide) (by decide)
  have e1 : (1 : Int32).toInt = 1 := by decide
  have e3 : (3 : Int32).toInt = 3 := by decide
  have r : ((x &&& (2147483647 : Int32)) - ((x &&& (2147483647 : Int32)) / (3 : Int32)) * (3 : Int32)).toInt = (x.toInt % 2 ^ 31) % 3 := by
    rw [rem_toInt, e3, h, Int.tmod_eq_emod_of_nonneg (by omega)]
  rw [Jvm.Kit.i32_add (by rw [r, e1]; omega) (by rw [r, e1]; omega), r, e1]; omega
theorem d27_0 : decode jdk_89_method_14_code 0 = .ok (.iload_n 0, 1) := by decide +kernel
theorem d27_1 : decode jdk_89_method_14_code 1 = .ok (.ldc 75, 2) := by decide +kernel
theorem d27_3 : decode jdk_89_method_14_code 3 = .ok (.if_icmp .lt 13, 3) := by decide +kernel
theorem d27_6 : decode jdk_89_method_14_code 6 = .ok (.iload_n 0, 1) := by decide +kernel
theorem d27_7 : decode jdk_89_method_14_code 7 = .ok (.ldc 76, 2) := by decide +kernel
theorem d27_9 : decode jdk_89_method_14_code 9 = .ok (.if_icmp .ge 7, 3) := by decide +kernel
theorem d27_12 : decode jdk_89_method_14_code 12 = .ok (.iconst 1, 1) := by decide +kernel
theorem d27_13 : decode jdk_89_method_14_code 13 = .ok (.goto 4, 3) := by decide +kernel
theorem d27_16 : decode jdk_89_method_14_code 16 = .ok (.iconst 0, 1) := by decide +kernel
theorem d27_17 : decode jdk_89_method_14_code 17 = .ok (.ireturn, 1) := by decide +kernel
def f27 (p0 : Int32) : Int32 := (if p0 < (55296 : Int32) then (0 : Int32) else (if p0 < (56320 : Int32) then (1 : Int32) else (0 : Int32)))
theorem pn_27 : plainName "java/lang/Character" = true := by first | (simp [plainName, overriddenIn]; done) | decide +kernel
theorem ef_27 (m : MethodId) (p0 : Int32) : entryFrame m #[(.int p0)] 1 = mkF m 0 #[.val (.int p0)] [] := by first | (simp [entryFrame, mkF, argsToLocals, Value.category]; done) | rfl
set_option maxRecDepth 65536 in
set_option maxHeartbeats 40000000 in
theorem rm27 (l : Launch) (Z : State) (a0 : Array Value) (hw : ∀ d ∈ tables_1, d.before a0 Z = true) (ws : List Jvm.Cond) (p0 : Int32) (h0 : Heap) (n0 : Nat) (Z0 : n0 ≤ h0.size) :
    MetFree l (⟨"java/lang/Character", "isHighSurrogate", "(C)Z"⟩ : MethodName) (head1 (Jvm.Cond.code (⟨"java/lang/Character", "isHighSurrogate", "(C)Z"⟩ : MethodName) jdk_89_method_14_code 1 (some .boolean) :: ws) ({ frames := 0, cells := 0, slots := 0, locals := 0 } : Room)) (fun a U => a = #[(.int p0)] ∧ Z.Warmed39 U.vm ∧ U.heap = h0) (fun _ _ _ _ _ => True) (fun _ U o U' => ∃ v L, o = .returned v ∧ own_QV (.int (f27 p0 )) h0 n0 v U'.heap L ∧ FrameEnd U o U' L ({ frames := 0, cells := 0, slots := 0, locals := 0 } : Room).cells ({ frames := 0, cells := 0, slots := 0, locals := 0 } : Room).slots) := by
  refine MetFree.of_bodySF (plainFor_of_name pn_27) hisR ?_
  intro p e s m args below meth c s₁ Bd hml0 hP hK
  obtain ⟨rfl, hZ, hh⟩ := hP
  have hx := Bd.exec
  have hby := Bd.bytes
  have hlk : meth.locks = false := BodyLoose.notSynchronized Bd
  have hret := Bd.returns
  have hml : c.maxLocals = 1 := hml0
  have hown : s.vm.findClass "java/lang/Character" = some m.cls := findClass_of_methodNamed Bd.named
  have hnm := (name_of_methodNamed Bd.named Bd.method).1
  have X0 : Stand p l e ({ frames := 0, cells := 0, slots := 0, locals := 0 } : Room) s m #[(.int p0)] below meth c s₁ [] 0 0 := Stand.of_body Bd
  have e0 : s₁.heap = h0 := by rw [← hh, Bd.state]; rfl
  have N0 := Fr.nil n0
  show own_G p.tables e below (own_E s ({ frames := 0, cells := 0, slots := 0, locals := 0 } : Room).cells ({ frames := 0, cells := 0, slots := 0, locals := 0 } : Room).slots) (own_QV (.int (f27 p0 )) h0 n0) (s₁.setTop (entryFrame m #[(.int p0)] 1))
  refine own_st ?_ (fun t_ k_ => castTop (ef_27 m p0) k_)
  show own_G p.tables e below _ _ (s₁.setTop (mkF m 0 #[.val (.int p0)] []))
  refine own_st ?_ (fun t_ k_ => XS.iloadN X0.here hx rfl (hb hby d27_0) rfl k_)
  show own_G p.tables e below _ _ (s₁.setTop (mkF m 1 #[.val (.int p0)] [(.int p0)]))
  refine own_st ?_ (X0.ldcInt hx hown (mvT hZ (hw _ (List.mem_of_getElem? (i := 125) rfl))) (g := (mkF m 1 #[.val (.int p0)] [(.int p0)])) rfl (hb hby d27_1))
  show own_G p.tables e below _ _ (s₁.setTop (mkF m 3 #[.val (.int p0)] [(.int (55296 : Int32)), (.int p0)]))
  by_cases hc3 : p0 < (55296 : Int32)
  · refine own_st ?_ (fun t_ k_ => XS.icmpYes X0.here hx rfl (pc0 := 3) (pc' := 16) rfl (hb hby d27_3) rfl (tlt hc3).1 (by decide) (by decide) k_)
    show own_G p.tables e below _ _ (s₁.setTop (mkF m 16 #[.val (.int p0)] []))
    refine own_st ?_ (fun t_ k_ => XS.iconst X0.here hx rfl (hb hby d27_16) k_)
    show own_G p.tables e below _ _ (s₁.setTop (mkF m 17 #[.val (.int p0)] [(.int (0 : Int32))]))
    refine own_retN X0 hx hlk (t := .boolean) hret (by simp) (hb hby d27_17) (by decide) (by decide) (z' := (0 : Int32)) rfl ⟨?_, N0, e0⟩
    rw [show f27 p0  = (0 : Int32) from (if_pos hc3).trans (rfl)]
  · refine own_st ?_ (fun t_ k_ => XS.icmpNo X0.here hx rfl (hb hby d27_3) rfl (flt hc3).1 k_)
    show own_G p.tables e below _ _ (s₁.setTop (mkF m 6 #[.val (.int p0)] []))
    refine own_st ?_ (fun t_ k_ => XS.iloadN X0.here hx rfl (hb hby d27_6) rfl k_)
    show own_G p.tables e below _ _ (s₁.setTop (mkF m 7 #[.val (.int p0)] [(.int p0)]))
    refine own_st ?_ (X0.ldcInt hx hown (mvT hZ (hw _ (List.mem_of_getElem? (i := 129) rfl))) (g := (mkF m 7 #[.val (.int p0)] [(.int p0)])) rfl (hb hby d27_7))
    show own_G p.tables e below _ _ (s₁.setTop (mkF m 9 #[.val (.int p0)] [(.int (56320 : Int32)), (.int p0)]))
    by_cases hc9 : p0 < (56320 : Int32)
    · refine own_st ?_ (fun t_ k_ => XS.icmpNo X0.here hx rfl (hb hby d27_9) rfl (tlt hc9).2.1 k_)
      show own_G p.tables e below _ _ (s₁.setTop (mkF m 12 #[.val (.int p0)] []))
      refine own_st ?_ (fun t_ k_ => XS.iconst X0.here hx rfl (hb hby d27_12) k_)
      show own_G p.tables e below _ _ (s₁.setTop (mkF m 13 #[.val (.int p0)] [(.int (1 : Int32))]))
      refine own_st ?_ (fun t_ k_ => XS.goto X0.here hx rfl (pc0 := 13) (pc' := 17) rfl (hb hby d27_13) (by decide) (by decide) k_)
      show own_G p.tables e below _ _ (s₁.setTop (mkF m 17 #[.val (.int p0)] [(.int (1 : Int32))]))
      refine own_retN X0 hx hlk (t := .boolean) hret (by simp) (hb hby d27_17) (by decide) (by decide) (z' := (1 : Int32)) rfl ⟨?_, N0, e0⟩
      rw [show f27 p0  = (1 : Int32) from (if_neg hc3).trans ((if_pos hc9).trans (rfl))]
    · refine own_st ?_ (fun t_ k_ => XS.icmpYes X0.here hx rfl (pc0 := 9) (pc' := 16) rfl (hb hby d27_9) rfl (flt hc9).2.1 (by decide) (by decide) k_)
      show own_G p.tables e below _ _ (s₁.setTop (mkF m 16 #[.val (.int p0)] []))
      refine own_st ?_ (fun t_ k_ => XS.iconst X0.here hx rfl (hb hby d27_16) k_)
      show own_G p.tables e below _ _ (s₁.setTop (mkF m 17 #[.val (.int p0)] [(.int (0 : Int32))]))
      refine own_retN X0 hx hlk (t := .boolean) hret (by simp) (hb hby d27_17) (by decide) (by decide) (z' := (0 : Int32)) rfl ⟨?_, N0, e0⟩
      rw [show f27 p0  = (0 : Int32) from (if_neg hc3).trans ((if_neg hc9).trans (rfl))]
theorem d29_0 : decode jdk_89_method_15_code 0 = .ok (.iload_n 0, 1) := by decide +kernel
theorem d29_1 : decode jdk_89_method_15_code 1 = .ok (.ldc 76, 2) := by decide +kernel
theorem d29_3 : decode jdk_89_method_15_code 3 = .ok (.if_icmp .lt 13, 3) := by decide +kernel
theorem d29_6 : decode jdk_89_method_15_code 6 = .ok (.iload_n 0, 1) := by decide +kernel
theorem d29_7 : decode jdk_89_method_15_code 7 = .ok (.ldc 77, 2) := by decide +kernel
theorem d29_9 : decode jdk_89_method_15_code 9 = .ok (.if_icmp .ge 7, 3) := by decide +kernel
theorem d29_12 : decode jdk_89_method_15_code 12 = .ok (.iconst 1, 1) := by decide +kernel
theorem d29_13 : decode jdk_89_method_15_code 13 = .ok (.goto 4, 3) := by decide +kernel
theorem d29_16 : decode jdk_89_method_15_code 16 = .ok (.iconst 0, 1) := by decide +kernel
theorem d29_17 : decode jdk_89_method_15_code 17 = .ok (.ireturn, 1) := by decide +kernel
def f29 (p0 : Int32) : Int32 := (if p0 < (56320 : Int32) then (0 : Int32) else (if p0 < (57344 : Int32) then (1 : Int32) else (0 : Int32)))
theorem pn_29 : plainName "java/lang/Character" = true := by first | (simp [plainName, overriddenIn]; done) | decide +kernel
theorem ef_29 (m : MethodId) (p0 : Int32) : entryFrame m #[(.int p0)] 1 = mkF m 0 #[.val (.int p0)] [] := by first | (simp [entryFrame, mkF, argsToLocals, Value.category]; done) | rfl
set_option maxRecDepth 65536 in
set_option maxHeartbeats 40000000 in
theorem rm29 (l : Launch) (Z : State) (a0 : Array Value) (hw : ∀ d ∈ tables_1, d.before a0 Z = true) (ws : List Jvm.Cond) (p0 : Int32) (h0 : Heap) (n0 : Nat) (Z0 : n0 ≤ h0.size) :
    MetFree l (⟨"java/lang/Character", "isLowSurrogate", "(C)Z"⟩ : MethodName) (head1 (Jvm.Cond.code (⟨"java/lang/Character", "isLowSurrogate", "(C)Z"⟩ : MethodName) jdk_89_method_15_code 1 (some .boolean) :: ws) ({ frames := 0, cells := 0, slots := 0, locals := 0 } : Room)) (fun a U => a = #[(.int p0)] ∧ Z.Warmed39 U.vm ∧ U.heap = h0) (fun _ _ _ _ _ => True) (fun _ U o U' => ∃ v L, o = .returned v ∧ own_QV (.int (f29 p0 )) h0 n0 v U'.heap L ∧ FrameEnd U o U' L ({ frames := 0, cells := 0, slots := 0, locals := 0 } : Room).cells ({ frames := 0, cells := 0, slots := 0, locals := 0 } : Room).slots) := by
  refine MetFree.of_bodySF (plainFor_of_name pn_29) hisR ?_
  intro p e s m args below meth c s₁ Bd hml0 hP hK
  obtain ⟨rfl, hZ, hh⟩ := hP
  have hx := Bd.exec
  have hby := Bd.bytes
  have hlk : meth.locks = false := BodyLoose.notSynchronized Bd
  have hret := Bd.returns
  have hml : c.maxLocals = 1 := hml0
  have hown : s.vm.findClass "java/lang/Character" = some m.cls := findClass_of_methodNamed Bd.named
  have hnm := (name_of_methodNamed Bd.named Bd.method).1
  have X0 : Stand p l e ({ frames := 0, cells := 0, slots := 0, locals := 0 } : Room) s m #[(.int p0)] below meth c s₁ [] 0 0 := Stand.of_body Bd
  have e0 : s₁.heap = h0 := by rw [← hh, Bd.state]; rfl
  have N0 := Fr.nil n0
  show own_G p.tables e below (own_E s ({ frames := 0, cells := 0, slots := 0, locals := 0 } : Room).cells ({ frames := 0, cells := 0, slots := 0, locals := 0 } : Room).slots) (own_QV (.int (f29 p0 )) h0 n0) (s₁.setTop (entryFrame m #[(.int p0)] 1))
  refine own_st ?_ (fun t_ k_ => castTop (ef_29 m p0) k_)
  show own_G p.tables e below _ _ (s₁.setTop (mkF m 0 #[.val (.int p0)] []))
  refine own_st ?_ (fun t_ k_ => XS.iloadN X0.here hx rfl (hb hby d29_0) rfl k_)
  show own_G p.tables e below _ _ (s₁.setTop (mkF m 1 #[.val (.int p0)] [(.int p0)]))
  refine own_st ?_ (X0.ldcInt hx hown (mvT hZ (hw _ (List.mem_of_getElem? (i := 129) rfl))) (g := (mkF m 1 #[.val (.int p0)] [(.int p0)])) rfl (hb hby d29_1))
  show own_G p.tables e below _ _ (s₁.setTop (mkF m 3 #[.val (.int p0)] [(.int (56320 : Int32)), (.int p0)]))
  by_cases hc3 : p0 < (56320 : Int32)
  · refine own_st ?_ (fun t_ k_ => XS.icmpYes X0.here hx rfl (pc0 := 3) (pc' := 16) rfl (hb hby d29_3) rfl (tlt hc3).1 (by decide) (by decide) k_)
    show own_G p.tables e below _ _ (s₁.setTop (mkF m 16 #[.val (.int p0)] []))
    refine own_st ?_ (fun t_ k_ => XS.iconst X0.here hx rfl (hb hby d29_16) k_)
    show own_G p.tables e below _ _ (s₁.setTop (mkF m 17 #[.val (.int p0)] [(.int (0 : Int32))]))
    refine own_retN X0 hx hlk (t := .boolean) hret (by simp) (hb hby d29_17) (by decide) (by decide) (z' := (0 : Int32)) rfl ⟨?_, N0, e0⟩
    rw [show f29 p0  = (0 : Int32) from (if_pos hc3).trans (rfl)]
  · refine own_st ?_ (fun t_ k_ => XS.icmpNo X0.here hx rfl (hb hby d29_3) rfl (flt hc3).1 k_)
    show own_G p.tables e below _ _ (s₁.setTop (mkF m 6 #[.val (.int p0)] []))
    refine own_st ?_ (fun t_ k_ => XS.iloadN X0.here hx rfl (hb hby d29_6) rfl k_)
    show own_G p.tables e below _ _ (s₁.setTop (mkF m 7 #[.val (.int p0)] [(.int p0)]))
    refine own_st ?_ (X0.ldcInt hx hown (mvT hZ (hw _ (List.mem_of_getElem? (i := 133) rfl))) (g := (mkF m 7 #[.val (.int p0)] [(.int p0)])) rfl (hb hby d29_7))
    show own_G p.tables e below _ _ (s₁.setTop (mkF m 9 #[.val (.int p0)] [(.int (57344 : Int32)), (.int p0)]))
    by_cases hc9 : p0 < (57344 : Int32)
    · refine own_st ?_ (fun t_ k_ => XS.icmpNo X0.here hx rfl (hb hby d29_9) rfl (tlt hc9).2.1 k_)
      show own_G p.tables e below _ _ (s₁.setTop (mkF m 12 #[.val (.int p0)] []))
      refine own_st ?_ (fun t_ k_ => XS.iconst X0.here hx rfl (hb hby d29_12) k_)
      show own_G p.tables e below _ _ (s₁.setTop (mkF m 13 #[.val (.int p0)] [(.int (1 : Int32))]))
      refine own_st ?_ (fun t_ k_ => XS.goto X0.here hx rfl (pc0 := 13) (pc' := 17) rfl (hb hby d29_13) (by decide) (by decide) k_)
      show own_G p.tables e below _ _ (s₁.setTop (mkF m 17 #[.val (.int p0)] [(.int (1 : Int32))]))
      refine own_retN X0 hx hlk (t := .boolean) hret (by simp) (hb hby d29_17) (by decide) (by decide) (z' := (1 : Int32)) rfl ⟨?_, N0, e0⟩
      rw [show f29 p0  = (1 : Int32) from (if_neg hc3).trans ((if_pos hc9).trans (rfl))]
    · refine own_st ?_ (fun t_ k_ => XS.icmpYes X0.here hx rfl (pc0 := 9) (pc' := 16) rfl (hb hby d29_9) rfl (flt hc9).2.1 (by decide) (by decide) k_)
      show own_G p.tables e below _ _ (s₁.setTop (mkF m 16 #[.val (.int p0)] []))
      refine own_st ?_ (fun t_ k_ => XS.iconst X0.here hx rfl (hb hby d29_16) k_)
      show own_G p.tables e below _ _ (s₁.setTop (mkF m 17 #[.val (.int p0)] [(.int (0 : Int32))]))
      refine own_retN X0 hx hlk (t := .boolean) hret (by simp) (hb hby d29_17) (by decide) (by decide) (z' := (0 : Int32)) rfl ⟨?_, N0, e0⟩
      rw [show f29 p0  = (0 : Int32) from (if_neg hc3).trans ((if_neg hc9).trans (rfl))]
theorem d28_0 : decode jdk_89_method_16_code 0 = .ok (.iload_n 0, 1) := by decide +kernel
theorem d28_1 : decode jdk_89_method_16_code 1 = .ok (.ldc 75, 2) := by decide +kernel
theorem d28_3 : decode jdk_89_method_16_code 3 = .ok (.if_icmp .lt 13, 3) := by decide +kernel
theorem d28_6 : decode jdk_89_method_16_code 6 = .ok (.iload_n 0, 1) := by decide +kernel
theorem d28_7 : decode jdk_89_method_16_code 7 = .ok (.ldc 77, 2) := by decide +kernel
theorem d28_9 : decode jdk_89_method_16_code 9 = .ok (.if_icmp .ge 7, 3) := by decide +kernel
theorem d28_12 : decode jdk_89_method_16_code 12 = .ok (.iconst 1, 1) := by decide +kernel
theorem d28_13 : decode jdk_89_method_16_code 13 = .ok (.goto 4, 3) := by decide +kernel
theorem d28_16 : decode jdk_89_method_16_code 16 = .ok (.iconst 0, 1) := by decide +kernel
theorem d28_17 : decode jdk_89_method_16_code 17 = .ok (.ireturn, 1) := by decide +kernel
def f28 (p0 : Int32) : Int32 := (if p0 < (55296 : Int32) then (0 : Int32) else (if p0 < (57344 : Int32) then (1 : Int32) else (0 : Int32)))
theorem pn_28 : plainName "java/lang/Character" = true := by first | (simp [plainName, overriddenIn]; done) | decide +kernel
theorem ef_28 (m : MethodId) (p0 : Int32) : entryFrame m #[(.int p0)] 1 = mkF m 0 #[.val (.int p0)] [] := by first | (simp [entryFrame, mkF, argsToLocals, Value.category]; done) | rfl
set_option maxRecDepth 65536 in
set_option maxHeartbeats 40000000 in
theorem rm28 (l : Launch) (Z : State) (a0 : Array Value) (hw : ∀ d ∈ tables_1, d.before a0 Z = true) (ws : List Jvm.Cond) (p0 : Int32) (h0 : Heap) (n0 : Nat) (Z0 : n0 ≤ h0.size) :
    MetFree l (⟨"java/lang/Character", "isSurrogate", "(C)Z"⟩ : MethodName) (head1 (Jvm.Cond.code (⟨"java/lang/Character", "isSurrogate", "(C)Z"⟩ : MethodName) jdk_89_method_16_code 1 (some .boolean) :: ws) ({ frames := 0, cells := 0, slots := 0, locals := 0 } : Room)) (fun a U => a = #[(.int p0)] ∧ Z.Warmed39 U.vm ∧ U.heap = h0) (fun _ _ _ _ _ => True) (fun _ U o U' => ∃ v L, o = .returned v ∧ own_QV (.int (f28 p0 )) h0 n0 v U'.heap L ∧ FrameEnd U o U' L ({ frames := 0, cells := 0, slots := 0, locals := 0 } : Room).cells ({ frames := 0, cells := 0, slots := 0, locals := 0 } : Room).slots) := by
  refine MetFree.of_bodySF (plainFor_of_name pn_28) hisR ?_
  intro p e s m args below meth c s₁ Bd hml0 hP hK
  obtain ⟨rfl, hZ, hh⟩ := hP
  have hx := Bd.exec
  have hby := Bd.bytes
  have hlk : meth.locks = false := BodyLoose.notSynchronized Bd
  have hret := Bd.returns
  have hml : c.maxLocals = 1 := hml0
  have hown : s.vm.findClass "java/lang/Character" = some m.cls := findClass_of_methodNamed Bd.named
  have hnm := (name_of_methodNamed Bd.named Bd.method).1
  have X0 : Stand p l e ({ frames := 0, cells := 0, slots := 0, locals := 0 } : Room) s m #[(.int p0)] below meth c s₁ [] 0 0 := Stand.of_body Bd
  have e0 : s₁.heap = h0 := by rw [← hh, Bd.state]; rfl
  have N0 := Fr.nil n0
  show own_G p.tables e below (own_E s ({ frames := 0, cells := 0, slots := 0, locals := 0 } : Room).cells ({ frames := 0, cells := 0, slots := 0, locals := 0 } : Room).slots) (own_QV (.int (f28 p0 )) h0 n0) (s₁.setTop (entryFrame m #[(.int p0)] 1))
  refine own_st ?_ (fun t_ k_ => castTop (ef_28 m p0) k_)
  show own_G p.tables e below _ _ (s₁.setTop (mkF m 0 #[.val (.int p0)] []))
  refine own_st ?_ (fun t_ k_ => XS.iloadN X0.here hx rfl (hb hby d28_0) rfl k_)
  show own_G p.tables e below _ _ (s₁.setTop (mkF m 1 #[.val (.int p0)] [(.int p0)]))
  refine own_st ?_ (X0.ldcInt hx hown (mvT hZ (hw _ (List.mem_of_getElem? (i := 125) rfl))) (g := (mkF m 1 #[.val (.int p0)] [(.int p0)])) rfl (hb hby d28_1))
  show own_G p.tables e below _ _ (s₁.setTop (mkF m 3 #[.val (.int p0)] [(.int (55296 : Int32)), (.int p0)]))
  by_cases hc3 : p0 < (55296 : Int32)
  · refine own_st ?_ (fun t_ k_ => XS.icmpYes X0.here hx rfl (pc0 := 3) (pc' := 16) rfl (hb hby d28_3) rfl (tlt hc3).1 (by decide) (by decide) k_)
    show own_G p.tables e below _ _ (s₁.setTop (mkF m 16 #[.val (.int p0)] []))
    refine own_st ?_ (fun t_ k_ => XS.iconst X0.here hx rfl (hb hby d28_16) k_)
    show own_G p.tables e below _ _ (s₁.setTop (mkF m 17 #[.val (.int p0)] [(.int (0 : Int32))]))
    refine own_retN X0 hx hlk (t := .boolean) hret (by simp) (hb hby d28_17) (by decide) (by decide) (z' := (0 : Int32)) rfl ⟨?_, N0, e0⟩
    rw [show f28 p0  = (0 : Int32) from (if_pos hc3).trans (rfl)]
  · refine own_st ?_ (fun t_ k_ => XS.icmpNo X0.here hx rfl (hb hby d28_3) rfl (flt hc3).1 k_)
    show own_G p.tables e below _ _ (s₁.setTop (mkF m 6 #[.val (.int p0)] []))
    refine own_st ?_ (fun t_ k_ => XS.iloadN X0.here hx rfl (hb hby d28_6) rfl k_)
    show own_G p.tables e below _ _ (s₁.setTop (mkF m 7 #[.val (.int p0)] [(.int p0)]))
    refine own_st ?_ (X0.ldcInt hx hown (mvT hZ (hw _ (List.mem_of_getElem? (i := 133) rfl))) (g := (mkF m 7 #[.val (.int p0)] [(.int p0)])) rfl (hb hby d28_7))
    show own_G p.tables e below _ _ (s₁.setTop (mkF m 9 #[.val (.int p0)] [(.int (57344 : Int32)), (.int p0)]))
    by_cases hc9 : p0 < (57344 : Int32)
    · refine own_st ?_ (fun t_ k_ => XS.icmpNo X0.here hx rfl (hb hby d28_9) rfl (tlt hc9).2.1 k_)
      show own_G p.tables e below _ _ (s₁.setTop (mkF m 12 #[.val (.int p0)] []))
      refine own_st ?_ (fun t_ k_ => XS.iconst X0.here hx rfl (hb hby d28_12) k_)
      show own_G p.tables e below _ _ (s₁.setTop (mkF m 13 #[.val (.int p0)] [(.int (1 : Int32))]))
      refine own_st ?_ (fun t_ k_ => XS.goto X0.here hx rfl (pc0 := 13) (pc' := 17) rfl (hb hby d28_13) (by decide) (by decide) k_)
      show own_G p.tables e below _ _ (s₁.setTop (mkF m 17 #[.val (.int p0)] [(.int (1 : Int32))]))
      refine own_retN X0 hx hlk (t := .boolean) hret (by simp) (hb hby d28_17) (by decide) (by decide) (z' := (1 : Int32)) rfl ⟨?_, N0, e0⟩
      rw [show f28 p0  = (1 : Int32) from (if_neg hc3).trans ((if_pos hc9).trans (rfl))]
    · refine own_st ?_ (fun t_ k_ => XS.icmpYes X0.here hx rfl (pc0 := 9) (pc' := 16) rfl (hb hby d28_9) rfl (flt hc9).2.1 (by decide) (by decide) k_)
      show own_G p.tables e below _ _ (s₁.setTop (mkF m 16 #[.val (.int p0)] []))
      refine own_st ?_ (fun t_ k_ => XS.iconst X0.here hx rfl (hb hby d28_16) k_)
      show own_G p.tables e below _ _ (s₁.setTop (mkF m 17 #[.val (.int p0)] [(.int (0 : Int32))]))
      refine own_retN X0 hx hlk (t := .boolean) hret (by simp) (hb hby d28_17) (by decide) (by decide) (z' := (0 : Int32)) rfl ⟨?_, N0, e0⟩
      rw [show f28 p0  = (0 : Int32) from (if_neg hc3).trans ((if_neg hc9).trans (rfl))]
theorem own_hs0 {c : Int32} (h : c.toInt < 55296 ∨ 57343 < c.toInt) : f27 c = 0 ∧ f28 c = 0 := by
  have e1 : (55296 : Int32).toInt = 55296 := by decide
  have e2 : (56320 : Int32).toInt = 56320 := by decide
  have e3 : (57344 : Int32).toInt = 57344 := by decide
  unfold f27 f28
  by_cases h1 : c < (55296 : Int32)
  · rw [if_pos h1, if_pos h1]; exact ⟨rfl, rfl⟩
  · have h2 : ¬ c < (56320 : Int32) := by rw [Int32.lt_iff_toInt_lt, e2]; rw [Int32.lt_iff_toInt_lt, e1] at h1; omega
    have h3 : ¬ c < (57344 : Int32) := by rw [Int32.lt_iff_toInt_lt, e3]; rw [Int32.lt_iff_toInt_lt, e1] at h1; omega
    rw [if_neg h1, if_neg h1, if_neg h2, if_neg h3]; exact ⟨rfl, rfl⟩
theorem own_hs1 {c : Int32} (h : 55296 ≤ c.toInt ∧ c.toInt < 56320) : ¬ f27 c = 0 := by
  have e1 : (55296 : Int32).toInt = 55296 := by decide
  have e2 : (56320 : Int32).toInt = 56320 := by decide
  unfold f27
  rw [if_neg (by rw [Int32.lt_iff_toInt_lt, e1]; omega), if_pos (by rw [Int32.lt_iff_toInt_lt, e2]; omega)]; decide
theorem own_ls1 {c : Int32} (h : 56320 ≤ c.toInt ∧ c.toInt < 57344) : ¬ f29 c = 0 := by
  have e1 : (57344 : Int32).toInt = 57344 := by decide
  have e2 : (56320 : Int32).toInt = 56320 := by decide
  unfold f29
  rw [if_neg (by rw [Int32.lt_iff_toInt_lt, e2]; omega), if_pos (by rw [Int32.lt_iff_toInt_lt, e1]; omega)]; decide
theorem d17_0 : decode jdk_42_method_55_code 0 = .ok (.aload_n 0, 1) := by decide +kernel
theorem d17_1 : decode jdk_42_method_55_code 1 = .ok (.getfield 9, 3) := by decide +kernel
theorem d17_4 : decode jdk_42_method_55_code 4 = .ok (.arraylength, 1) := by decide +kernel
theorem d17_5 : decode jdk_42_method_55_code 5 = .ok (.ifCond .ne 7, 3) := by decide +kernel
theorem d17_12 : decode jdk_42_method_55_code 12 = .ok (.iconst 0, 1) := by decide +kernel
theorem d17_13 : decode jdk_42_method_55_code 13 = .ok (.ireturn, 1) := by decide +kernel
theorem pn_17 : plainName "java/lang/String" = true := by first | (simp [plainName, overriddenIn]; done) | decide +kernel
theorem ef_17 (m : MethodId) (a0 : Addr) : entryFrame m #[(.ref a0)] 1 = mkF m 0 #[.val (.ref a0)] [] := by first | (simp [entryFrame, mkF, argsToLocals, Value.category]; done) | rfl
set_option maxRecDepth 65536 in
set_option maxHeartbeats 40000000 in
theorem rm17 (l : Launch) (Z : State) (a0 : Array Value) (hw : ∀ d ∈ tables_1, d.before a0 Z = true) (ws : List Jvm.Cond) (a0 : Addr) (t : Addr) (N : Nat) (g1 : Nat → Int32) (h0 : Heap) (n0 : Nat) (Z0 : n0 ≤ h0.size) (Fv : Fld Z h0 a0 "java/lang/String" "value" "[B" (.ref t)) (Y0 : own_Y .byte Z h0 t N g1) (hN0 : 0 < N) (hN : N < 2 ^ 31) :
    MetFree l (⟨"java/lang/String", "isEmpty", "()Z"⟩ : MethodName) (head1 (Jvm.Cond.code (⟨"java/lang/String", "isEmpty", "()Z"⟩ : MethodName) jdk_42_method_55_code 1 (some .boolean) :: ws) ({ frames := 0, cells := 0, slots := 0, locals := 0 } : Room)) (fun a U => a = #[(.ref a0)] ∧ Z.Warmed39 U.vm ∧ U.heap = h0) (fun _ _ _ _ _ => True) (fun _ U o U' => ∃ v L, o = .returned v ∧ own_QV (.int (0 : Int32)) h0 n0 v U'.heap L ∧ FrameEnd U o U' L ({ frames := 0, cells := 0, slots := 0, locals := 0 } : Room).cells ({ frames := 0, cells := 0, slots := 0, locals := 0 } : Room).slots) := by
  refine MetFree.of_bodySF (plainFor_of_name pn_17) hisR ?_
  intro p e s m args below meth c s₁ Bd hml0 hP hK
  obtain ⟨rfl, hZ, hh⟩ := hP
  have hx := Bd.exec
  have hby := Bd.bytes
  have hlk : meth.locks = false := BodyLoose.notSynchronized Bd
  have hret := Bd.returns
  have hml : c.maxLocals = 1 := hml0
  have hown : s.vm.findClass "java/lang/String" = some m.cls := findClass_of_methodNamed Bd.named
  have hnm := (name_of_methodNamed Bd.named Bd.method).1
  have X0 : Stand p l e ({ frames := 0, cells := 0, slots := 0, locals := 0 } : Room) s m #[(.ref a0)] below meth c s₁ [] 0 0 := Stand.of_body Bd
  have e0 : s₁.heap = h0 := by rw [← hh, Bd.state]; rfl
  have N0 := Fr.nil n0
  show own_G p.tables e below (own_E s ({ frames := 0, cells := 0, slots := 0, locals := 0 } : Room).cells ({ frames := 0, cells := 0, slots := 0, locals := 0 } : Room).slots) (own_QV (.int (0 : Int32)) h0 n0) (s₁.setTop (entryFrame m #[(.ref a0)] 1))
  refine own_st ?_ (fun t_ k_ => castTop (ef_17 m a0) k_)
  show own_G p.tables e below _ _ (s₁.setTop (mkF m 0 #[.val (.ref a0)] []))
  refine own_st ?_ (fun t_ k_ => XS.aloadN X0.here hx rfl (hb hby d17_0) rfl rfl k_)
  show own_G p.tables e below _ _ (s₁.setTop (mkF m 1 #[.val (.ref a0)] [(.ref a0)]))
  obtain ⟨T1, X1, e1, st1⟩ := getF X0 hx hZ hown (host := "") (Or.inl (hw _ (List.mem_of_getElem? (i := 61) rfl))) Via.refl e0 Fv (g := (mkF m 1 #[.val (.ref a0)] [(.ref a0)])) rfl rfl (hb hby d17_1)
  refine own_st ?_ st1
  show own_G p.tables e below _ _ (T1.setTop (mkF m 4 #[.val (.ref a0)] [(.ref t)]))
  obtain ⟨cl2, Ar2, Sz2, G2⟩ := Y0
  refine own_st ?_ (X1.arraylength hx (by rw [e1]; exact Ar2.1) (State.isArrayOf_alike hZ.alike Ar2.2.1) (g := (mkF m 4 #[.val (.ref a0)] [(.ref t)])) rfl rfl (hb hby d17_4))
  rw [Sz2]
  have Yx2 : own_Y .byte Z h0 t N g1 := ⟨cl2, Ar2, Sz2, G2⟩
  show own_G p.tables e below _ _ (T1.setTop (mkF m 5 #[.val (.ref a0)] [(.int (N).toInt32)]))
  refine own_st ?_ (fun t_ k_ => XS.ifYes X1.here hx rfl (pc0 := 5) (pc' := 12) rfl (hb hby d17_5) rfl ((if0 _ _).trans (feq (own_nz0 hN0 hN)).2) (by decide) (by decide) k_)
  show own_G p.tables e below _ _ (T1.setTop (mkF m 12 #[.val (.ref a0)] []))
  refine own_st ?_ (fun t_ k_ => XS.iconst X1.here hx rfl (hb hby d17_12) k_)
  show own_G p.tables e below _ _ (T1.setTop (mkF m 13 #[.val (.ref a0)] [(.int (0 : Int32))]))
  exact own_retN X1 hx hlk (t := .boolean) hret (by simp) (hb hby d17_13) (by decide) (by decide) (z' := (0 : Int32)) rfl ⟨rfl, N0, e1⟩
theorem d33_0 : decode jdk_41_method_12_code 0 = .ok (.iload_n 0, 1) := by decide +kernel
theorem d33_1 : decode jdk_41_method_12_code 1 = .ok (.ifCond .lt 13, 3) := by decide +kernel
theorem d33_4 : decode jdk_41_method_12_code 4 = .ok (.iload_n 0, 1) := by decide +kernel
theorem d33_5 : decode jdk_41_method_12_code 5 = .ok (.iload_n 1, 1) := by decide +kernel
theorem d33_6 : decode jdk_41_method_12_code 6 = .ok (.if_icmp .gt 8, 3) := by decide +kernel
theorem d33_9 : decode jdk_41_method_12_code 9 = .ok (.iload_n 1, 1) := by decide +kernel
theorem d33_10 : decode jdk_41_method_12_code 10 = .ok (.iload_n 2, 1) := by decide +kernel
theorem d33_11 : decode jdk_41_method_12_code 11 = .ok (.if_icmp .le 11, 3) := by decide +kernel
theorem d33_22 : decode jdk_41_method_12_code 22 = .ok (.iload_n 0, 1) := by decide +kernel
theorem d33_23 : decode jdk_41_method_12_code 23 = .ok (.ireturn, 1) := by decide +kernel
def f33 (p0 : Int32) (p1 : Int32) (p2 : Int32) : Int32 := p0
theorem pn_33 : plainName "jdk/internal/util/Preconditions" = true := by first | (simp [plainName, overriddenIn]; done) | decide +kernel
theorem ef_33 (m : MethodId) (p0 : Int32) (p1 : Int32) (p2 : Int32) : entryFrame m #[(.int p0), (.int p1), (.int p2), .null] 4 = mkF m 0 #[.val (.int p0), .val (.int p1), .val (.int p2), .val .null] [] := by first | (simp [entryFrame, mkF, argsToLocals, Value.category]; done) | rfl
set_option maxRecDepth 65536 in
set_option maxHeartbeats 40000000 in
theorem rm33 (l : Launch) (Z : State) (a0 : Array Value) (hw : ∀ d ∈ tables_1, d.before a0 Z = true) (ws : List Jvm.Cond) (p0 : Int32) (p1 : Int32) (p2 : Int32) (h0 : Heap) (n0 : Nat) (Z0 : n0 ≤ h0.size) (hf1 : ¬ p0 < 0) (hf2 : ¬ p1 < p0) (hf3 : ¬ p2 < p1) :
    MetFree l (⟨"jdk/internal/util/Preconditions", "checkFromToIndex", "(IIILjava/util/function/BiFunction;)I"⟩ : MethodName) (head1 (Jvm.Cond.code (⟨"jdk/internal/util/Preconditions", "checkFromToIndex", "(IIILjava/util/function/BiFunction;)I"⟩ : MethodName) jdk_41_method_12_code 4 (some .int) :: ws) ({ frames := 0, cells := 0, slots := 0, locals := 0 } : Room)) (fun a U => a = #[(.int p0), (.int p1), (.int p2), .null] ∧ Z.Warmed39 U.vm ∧ U.heap = h0) (fun _ _ _ _ _ => True) (fun _ U o U' => ∃ v L, o = .returned v ∧ own_QV (.int (f33 p0 p1 p2 )) h0 n0 v U'.heap L ∧ FrameEnd U o U' L ({ frames := 0, cells := 0, slots := 0, locals := 0 } : Room).cells ({ frames := 0, cells := 0, slots := 0, locals := 0 } : Room).slots) := by
  refine MetFree.of_bodySF (plainFor_of_name pn_33) hisR ?_
  intro p e s m args below meth c s₁ Bd hml0 hP hK
  obtain ⟨rfl, hZ, hh⟩ := hP
  have hx := Bd.exec
  have hby := Bd.bytes
  have hlk : meth.locks = false := BodyLoose.notSynchronized Bd
  have hret := Bd.returns
  have hml : c.maxLocals = 4 := hml0
  have hown : s.vm.findClass "jdk/internal/util/Preconditions" = some m.cls := findClass_of_methodNamed Bd.named
  have hnm := (name_of_methodNamed Bd.named Bd.method).1
  have X0 : Stand p l e ({ frames := 0, cells := 0, slots := 0, locals := 0 } : Room) s m #[(.int p0), (.int p1), (.int p2), .null] below meth c s₁ [] 0 0 := Stand.of_body Bd
  have e0 : s₁.heap = h0 := by rw [← hh, Bd.state]; rfl
  have N0 := Fr.nil n0
  show own_G p.tables e below (own_E s ({ frames := 0, cells := 0, slots := 0, locals := 0 } : Room).cells ({ frames := 0, cells := 0, slots := 0, locals := 0 } : Room).slots) (own_QV (.int (f33 p0 p1 p2 )) h0 n0) (s₁.setTop (entryFrame m #[(.int p0), (.int p1), (.int p2), .null] 4))
  refine own_st ?_ (fun t_ k_ => castTop (ef_33 m p0 p1 p2) k_)
  show own_G p.tables e below _ _ (s₁.setTop (mkF m 0 #[.val (.int p0), .val (.int p1), .val (.int p2), .val .null] []))
  refine own_st ?_ (fun t_ k_ => XS.iloadN X0.here hx rfl (hb hby d33_0) rfl k_)
  show own_G p.tables e below _ _ (s₁.setTop (mkF m 1 #[.val (.int p0), .val (.int p1), .val (.int p2), .val .null] [(.int p0)]))
  refine own_st ?_ (fun t_ k_ => XS.ifNo X0.here hx rfl (hb hby d33_1) rfl ((if0 _ _).trans (flt hf1).1) k_)
  show own_G p.tables e below _ _ (s₁.setTop (mkF m 4 #[.val (.int p0), .val (.int p1), .val (.int p2), .val .null] []))
  refine own_st ?_ (fun t_ k_ => XS.iloadN X0.here hx rfl (hb hby d33_4) rfl k_)
  show own_G p.tables e below _ _ (s₁.setTop (mkF m 5 #[.val (.int p0), .val (.int p1), .val (.int p2), .val .null] [(.int p0)]))
  refine own_st ?_ (fun t_ k_ => XS.iloadN X0.here hx rfl (hb hby d33_5) rfl k_)
  show own_G p.tables e below _ _ (s₁.setTop (mkF m 6 #[.val (.int p0), .val (.int p1), .val (.int p2), .val .null] [(.int p1), (.int p0)]))
  refine own_st ?_ (fun t_ k_ => XS.icmpNo X0.here hx rfl (hb hby d33_6) rfl (flt hf2).2.2.1 k_)
  show own_G p.tables e below _ _ (s₁.setTop (mkF m 9 #[.val (.int p0), .val (.int p1), .val (.int p2), .val .null] []))
  refine own_st ?_ (fun t_ k_ => XS.iloadN X0.here hx rfl (hb hby d33_9) rfl k_)
  show own_G p.tables e below _ _ (s₁.setTop (mkF m 10 #[.val (.int p0), .val (.int p1), .val (.int p2), .val .null] [(.int p1)]))
  refine own_st ?_ (fun t_ k_ => XS.iloadN X0.here hx rfl (hb hby d33_10) rfl k_)
  show own_G p.tables e below _ _ (s₁.setTop (mkF m 11 #[.val (.int p0), .val (.int p1), .val (.int p2), .val .null] [(.int p2), (.int p1)]))
  refine own_st ?_ (fun t_ k_ => XS.icmpYes X0.here hx rfl (pc0 := 11) (pc' := 22) rfl (hb hby d33_11) rfl (flt hf3).2.2.2 (by decide) (by decide) k_)
  show own_G p.tables e below _ _ (s₁.setTop (mkF m 22 #[.val (.int p0), .val (.int p1), .val (.int p2), .val .null] []))
  refine own_st ?_ (fun t_ k_ => XS.iloadN X0.here hx rfl (hb hby d33_22) rfl k_)
  show own_G p.tables e below _ _ (s₁.setTop (mkF m 23 #[.val (.int p0), .val (.int p1), .val (.int p2), .val .null] [(.int p0)]))
  refine own_retI X0 hx hlk hret (hb hby d33_23) (by decide) (by decide) ⟨?_, N0, e0⟩
  rw [show f33 p0 p1 p2  = p0 from rfl]
theorem pd_14 : parseMethodDescriptor "(IIILjava/util/function/BiFunction;)I" = some ⟨[.int, .int, .int, (.object "java/util/function/BiFunction")], some .int⟩ := by decide +kernel
theorem d32_0 : decode jdk_31_method_18_code 0 = .ok (.iload_n 0, 1) := by decide +kernel
theorem d32_1 : decode jdk_31_method_18_code 1 = .ok (.iload_n 1, 1) := by decide +kernel
theorem d32_2 : decode jdk_31_method_18_code 2 = .ok (.iload_n 2, 1) := by decide +kernel
theorem d32_3 : decode jdk_31_method_18_code 3 = .ok (.aconst_null, 1) := by decide +kernel
theorem d32_4 : decode jdk_31_method_18_code 4 = .ok (.invokestatic 111, 3) := by decide +kernel
theorem d32_7 : decode jdk_31_method_18_code 7 = .ok (.ireturn, 1) := by decide +kernel
def f32 (p0 : Int32) (p1 : Int32) (p2 : Int32) : Int32 := (f33 p0 p1 p2)
theorem pn_32 : plainName "java/util/Objects" = true := by first | (simp [plainName, overriddenIn]; done) | decide +kernel
theorem ef_32 (m : MethodId) (p0 : Int32) (p1 : Int32) (p2 : Int32) : entryFrame m #[(.int p0), (.int p1), (.int p2)] 3 = mkF m 0 #[.val (.int p0), .val (.int p1), .val (.int p2)] [] := by first | (simp [entryFrame, mkF, argsToLocals, Value.category]; done) | rfl
set_option maxRecDepth 65536 in
set_option maxHeartbeats 40000000 in
theorem rm32 (l : Launch) (Z : State) (a0 : Array Value) (hw : ∀ d ∈ tables_1, d.before a0 Z = true) (ws : List Jvm.Cond) (p0 : Int32) (p1 : Int32) (p2 : Int32) (h0 : Heap) (n0 : Nat) (Z0 : n0 ≤ h0.size) (hf1 : ¬ p0 < 0) (hf2 : ¬ p1 < p0) (hf3 : ¬ p2 < p1) :
    MetFree l (⟨"java/util/Objects", "checkFromToIndex", "(III)I"⟩ : MethodName) (head1 (Jvm.Cond.code (⟨"java/util/Objects", "checkFromToIndex", "(III)I"⟩ : MethodName) jdk_31_method_18_code 3 (some .int) :: ws) ({ frames := 1, cells := 0, slots := 0, locals := 15 } : Room)) (fun a U => a = #[(.int p0), (.int p1), (.int p2)] ∧ Z.Warmed39 U.vm ∧ U.heap = h0) (fun _ _ _ _ _ => True) (fun _ U o U' => ∃ v L, o = .returned v ∧ own_QV (.int (f32 p0 p1 p2 )) h0 n0 v U'.heap L ∧ FrameEnd U o U' L ({ frames := 1, cells := 0, slots := 0, locals := 15 } : Room).cells ({ frames := 1, cells := 0, slots := 0, locals := 15 } : Room).slots) := by
  refine MetFree.of_bodySF (plainFor_of_name pn_32) hisR ?_
  intro p e s m args below meth c s₁ Bd hml0 hP hK
  obtain ⟨rfl, hZ, hh⟩ := hP
  have hx := Bd.exec
  have hby := Bd.bytes
  have hlk : meth.locks = false := BodyLoose.notSynchronized Bd
  have hret := Bd.returns
  have hml : c.maxLocals = 3 := hml0
  have hown : s.vm.findClass "java/util/Objects" = some m.cls := findClass_of_methodNamed Bd.named
  have hnm := (name_of_methodNamed Bd.named Bd.method).1
  have X0 : Stand p l e ({ frames := 1, cells := 0, slots := 0, locals := 15 } : Room) s m #[(.int p0), (.int p1), (.int p2)] below meth c s₁ [] 0 0 := Stand.of_body Bd
  have e0 : s₁.heap = h0 := by rw [← hh, Bd.state]; rfl
  have N0 := Fr.nil n0
  show own_G p.tables e below (own_E s ({ frames := 1, cells := 0, slots := 0, locals := 15 } : Room).cells ({ frames := 1, cells := 0, slots := 0, locals := 15 } : Room).slots) (own_QV (.int (f32 p0 p1 p2 )) h0 n0) (s₁.setTop (entryFrame m #[(.int p0), (.int p1), (.int p2)] 3))
  refine own_st ?_ (fun t_ k_ => castTop (ef_32 m p0 p1 p2) k_)
  show own_G p.tables e below _ _ (s₁.setTop (mkF m 0 #[.val (.int p0), .val (.int p1), .val (.int p2)] []))
  refine own_st ?_ (fun t_ k_ => XS.iloadN X0.here hx rfl (hb hby d32_0) rfl k_)
  show own_G p.tables e below _ _ (s₁.setTop (mkF m 1 #[.val (.int p0), .val (.int p1), .val (.int p2)] [(.int p0)]))
  refine own_st ?_ (fun t_ k_ => XS.iloadN X0.here hx rfl (hb hby d32_1) rfl k_)
  show own_G p.tables e below _ _ (s₁.setTop (mkF m 2 #[.val (.int p0), .val (.int p1), .val (.int p2)] [(.int p1), (.int p0)]))
  refine own_st ?_ (fun t_ k_ => XS.iloadN X0.here hx rfl (hb hby d32_2) rfl k_)
  show own_G p.tables e below _ _ (s₁.setTop (mkF m 3 #[.val (.int p0), .val (.int p1), .val (.int p2)] [(.int p2), (.int p1), (.int p0)]))
  refine own_st ?_ (fun t_ k_ => XS.aconstNull X0.here hx rfl (hb hby d32_3) k_)
  show own_G p.tables e below _ _ (s₁.setTop (mkF m 4 #[.val (.int p0), .val (.int p1), .val (.int p2)] [.null, (.int p2), (.int p1), (.int p0)]))
  obtain ⟨_, _, ⟨T1, L1, k1, n1⟩, -, X1, ⟨Lc1, hQ1, l1, y1, z1⟩, st1⟩ := Jvm.LawKit.callS X0 hx (y := (⟨"jdk/internal/util/Preconditions", "checkFromToIndex", "(IIILjava/util/function/BiFunction;)I"⟩ : MethodName)) hown (mvT hZ (hw _ (List.mem_of_getElem? (i := 150) rfl))) (mvT hZ (hw _ (List.mem_of_getElem? (i := 151) rfl))) (mvT hZ (hw _ (List.mem_of_getElem? (i := 117) rfl))) (mvT hZ (hw _ (List.mem_of_getElem? (i := 152) rfl))) (by decide) (backOf (W := 0) (rm33 l Z _ hw [] p0 p1 p2  h0 n0 Z0 hf1 hf2 hf3) hZ (hw _ (List.mem_of_getElem? (i := 152) rfl)) (hw _ (List.mem_of_getElem? (i := 117) rfl)) (by decide) (by decide)) (g := (mkF m 4 #[.val (.int p0), .val (.int p1), .val (.int p2)] [.null, (.int p2), (.int p1), (.int p0)])) rfl (by rw [hml]; rfl) (argsL := [(.int p0), (.int p1), (.int p2), .null]) (rest := []) (lenOf pd_14 rfl) rfl (by show 2 * 0 + _ ≤ _; exact Nat.le_of_eq rfl) (hb hby d32_4) (fun _ _ => ⟨rfl, e0, (by decide : 0 + 0 ≤ _), (by decide : 0 + 0 ≤ _)⟩)
  dsimp only [Pt.U, Pt.locs, Pt.cells, Pt.slots] at X1 l1 y1 z1 st1 hQ1
  subst l1 y1 z1
  obtain ⟨rfl, N1q, e1⟩ := hQ1
  have N1 := Fr.app N0 N1q
  refine own_st ?_ st1
  show own_G p.tables e below _ _ (T1.setTop (mkF m 7 #[.val (.int p0), .val (.int p1), .val (.int p2)] [(.int (f33 p0 p1 p2))]))
  refine own_retI X1 hx hlk hret (hb hby d32_7) (by decide) (by decide) ⟨?_, N1, e1⟩
  rw [show f32 p0 p1 p2  = (f33 p0 p1 p2) from rfl]
theorem own_cc0 {ch : Nat → Int32} {n : Nat} {xs : List (Int32 × Option Int32)} (T : own_T ch n 0 xs) (hn : n < 2 ^ 30) : (n.toInt32 - (0 : Int32)).toInt = xs.length.toInt32.toInt + (own_prs xs : Int) := by
  have h1 := T.1
  have h2 := (own_uns_len xs).1
  rw [Int32.sub_zero, len_toInt (by omega), len_toInt (by omega)]; omega
theorem own_cc1 {cc r : Int32} {c d : Int32} {xs : List (Int32 × Option Int32)} (h : cc.toInt = r.toInt + (own_prs ((c, some d) :: xs) : Int)) (hs : 0 ≤ r.toInt ∧ r.toInt < 2 ^ 30 ∧ own_prs ((c, some d) :: xs) < 2 ^ 30) : (cc + (-1 : Int32)).toInt = r.toInt + (own_prs xs : Int) := by
  have e : (-1 : Int32).toInt = -1 := by decide
  have q : own_prs ((c, some d) :: xs) = own_prs xs + 1 := rfl
  rw [Jvm.Kit.i32_add (by rw [e]; omega) (by rw [e]; omega), e]; omega
theorem own_ccz {cc r : Int32} {k : Nat} (h : cc.toInt = r.toInt + (k : Int)) (z : k = 0) : cc = r := Int32.toInt_inj.mp (by rw [h, z]; simp)
theorem own_sub1 {n : Nat} (hn : n < 2 ^ 30) : (n.toInt32 - (1 : Int32)).toInt = (n : Int) - 1 := by
  have e : (1 : Int32).toInt = 1 := by decide
  rw [Jvm.Kit.i32_sub (by rw [e, len_toInt (by omega)]; omega) (by rw [e, len_toInt (by omega)]; omega), e, len_toInt (by omega)]
theorem own_c49 {kx n : Nat} (h : kx + 1 < n) (hn : n < 2 ^ 30) : kx.toInt32 < n.toInt32 - (1 : Int32) := by
  rw [Int32.lt_iff_toInt_lt, own_sub1 hn, len_toInt (by omega)]; omega
theorem own_c49n {kx n : Nat} (h : kx = n) (hn : n < 2 ^ 30) : ¬ kx.toInt32 < n.toInt32 - (1 : Int32) := by
  rw [Int32.lt_iff_toInt_lt, own_sub1 hn, len_toInt (by omega)]; omega
theorem own_prs_le {ch : Nat → Int32} {n kx : Nat} {xs : List (Int32 × Option Int32)} (T : own_T ch n kx xs) (hn : n < 2 ^ 30) : own_prs xs < 2 ^ 30 := by
  have := T.1
  have := (own_uns_len xs).1
  omega
theorem pd_15 : parseMethodDescriptor "(C)Z" = some ⟨[.char], some .boolean⟩ := by decide +kernel
theorem d35_0 : decode jdk_52_method_11_code 0 = .ok (.getstatic 44, 3) := by decide +kernel
theorem d35_3 : decode jdk_52_method_11_code 3 = .ok (.ifCond .ne 16, 3) := by decide +kernel
theorem d35_19 : decode jdk_52_method_11_code 19 = .ok (.iload_n 2, 1) := by decide +kernel
theorem d35_20 : decode jdk_52_method_11_code 20 = .ok (.iload_n 1, 1) := by decide +kernel
theorem d35_21 : decode jdk_52_method_11_code 21 = .ok (.isub, 1) := by decide +kernel
theorem d35_22 : decode jdk_52_method_11_code 22 = .ok (.istore 4, 2) := by decide +kernel
theorem d35_24 : decode jdk_52_method_11_code 24 = .ok (.iload_n 1, 1) := by decide +kernel
theorem d35_25 : decode jdk_52_method_11_code 25 = .ok (.istore 5, 2) := by decide +kernel
theorem d35_27 : decode jdk_52_method_11_code 27 = .ok (.iload_n 3, 1) := by decide +kernel
theorem d35_28 : decode jdk_52_method_11_code 28 = .ok (.ifCond .eq 16, 3) := by decide +kernel
theorem d35_44 : decode jdk_52_method_11_code 44 = .ok (.iload 5, 2) := by decide +kernel
theorem d35_46 : decode jdk_52_method_11_code 46 = .ok (.iload_n 2, 1) := by decide +kernel
theorem d35_47 : decode jdk_52_method_11_code 47 = .ok (.iconst 1, 1) := by decide +kernel
theorem d35_48 : decode jdk_52_method_11_code 48 = .ok (.isub, 1) := by decide +kernel
theorem d35_49 : decode jdk_52_method_11_code 49 = .ok (.if_icmp .ge 39, 3) := by decide +kernel
theorem d35_52 : decode jdk_52_method_11_code 52 = .ok (.aload_n 0, 1) := by decide +kernel
theorem d35_53 : decode jdk_52_method_11_code 53 = .ok (.iload 5, 2) := by decide +kernel
theorem d35_55 : decode jdk_52_method_11_code 55 = .ok (.iinc 5 1, 3) := by decide +kernel
theorem d35_58 : decode jdk_52_method_11_code 58 = .ok (.invokestatic 71, 3) := by decide +kernel
theorem d35_61 : decode jdk_52_method_11_code 61 = .ok (.invokestatic 75, 3) := by decide +kernel
theorem d35_64 : decode jdk_52_method_11_code 64 = .ok (.ifCond .eq (-20), 3) := by decide +kernel
theorem d35_67 : decode jdk_52_method_11_code 67 = .ok (.aload_n 0, 1) := by decide +kernel
theorem d35_68 : decode jdk_52_method_11_code 68 = .ok (.iload 5, 2) := by decide +kernel
theorem d35_70 : decode jdk_52_method_11_code 70 = .ok (.invokestatic 71, 3) := by decide +kernel
theorem d35_73 : decode jdk_52_method_11_code 73 = .ok (.invokestatic 81, 3) := by decide +kernel
theorem d35_76 : decode jdk_52_method_11_code 76 = .ok (.ifCond .eq (-32), 3) := by decide +kernel
theorem d35_79 : decode jdk_52_method_11_code 79 = .ok (.iinc 4 (-1), 3) := by decide +kernel
theorem d35_82 : decode jdk_52_method_11_code 82 = .ok (.iinc 5 1, 3) := by decide +kernel
theorem d35_85 : decode jdk_52_method_11_code 85 = .ok (.goto (-41), 3) := by decide +kernel
theorem d35_88 : decode jdk_52_method_11_code 88 = .ok (.iload 4, 2) := by decide +kernel
theorem d35_90 : decode jdk_52_method_11_code 90 = .ok (.ireturn, 1) := by decide +kernel
theorem pn_35 : plainName "java/lang/StringUTF16" = true := by first | (simp [plainName, overriddenIn]; done) | decide +kernel
set_option maxRecDepth 65536 in
set_option maxHeartbeats 40000000 in
theorem own_lc {p : Program} {l : Launch} {e : Env} {s : State} {m : MethodId} {args : Array Value} {below : List Frame} {meth : Method} {c : Code} {Z : State} {a0' : Array Value} {h0 : Heap} {n0 : Nat} (hx : p.tables.exec = Jvm.exec) (hlk : meth.locks = false) (hZ : Z.Warmed39 s.vm) (hw : ∀ d ∈ tables_1, d.before a0' Z = true) (hby : c.code = jdk_52_method_11_code) (hml : c.maxLocals = 6) (hown : s.vm.findClass "java/lang/StringUTF16" = some m.cls) (hret : meth.sig.returnType = (some .int)) {a0 : Addr} {n N : Nat} {g1 ch : Nat → Int32} {z1 : Int32} {fm : Value} (hN : N = 2 * n) (hn : n < 2 ^ 30) (hU : ∀ i, i < n → nar .char ((((g1 (2 * i) &&& (255 : Int32)) <<< ((0 : Int32) &&& 31)) ||| ((g1 (2 * i + 1) &&& (255 : Int32)) <<< ((8 : Int32) &&& 31))).toUInt32.toUInt16.toUInt32.toInt32) = ch i) (Z0 : n0 ≤ h0.size) (SS : own_SS Z h0 n0 z1 fm) (Y0 : own_Y .byte Z h0 a0 N g1) (xs : List (Int32 × Option Int32)) : ∀ {T0 : State} {locs : List Loc} {kx : Nat} {cc r : Int32} (hr : 0 ≤ r.toInt ∧ r.toInt < 2 ^ 30) (hT : own_T ch n kx xs) (hcc : cc.toInt = r.toInt + (own_prs xs : Int)) (X0 : Stand p l e ({ frames := 1, cells := 0, slots := 0, locals := 13 } : Room) s m args below meth c T0 locs 0 0) (N0 : Fr n0 locs) (e0 : T0.heap = h0),
    own_G p.tables e below (own_E s 0 0) (own_QV (.int r) h0 n0) (T0.setTop (mkF m 44 #[.val (.ref a0), .val (.int (0 : Int32)), .val (.int n.toInt32), .val (.int (0 : Int32)), .val (.int cc), .val (.int kx.toInt32)] [])) := by
  induction xs with
  | nil =>
    intro T0 locs kx cc r hr hT hcc X0 N0 e0
    refine own_st ?_ (fun t_ k_ => XS.iload X0.here hx rfl (hb hby d35_44) rfl k_)
    show own_G p.tables e below _ _ (T0.setTop (mkF m 46 #[.val (.ref a0), .val (.int (0 : Int32)), .val (.int n.toInt32), .val (.int (0 : Int32)), .val (.int cc), .val (.int kx.toInt32)] [(.int kx.toInt32)]))
    refine own_st ?_ (fun t_ k_ => XS.iloadN X0.here hx rfl (hb hby d35_46) rfl k_)
    show own_G p.tables e below _ _ (T0.setTop (mkF m 47 #[.val (.ref a0), .val (.int (0 : Int32)), .val (.int n.toInt32), .val (.int (0 : Int32)), .val (.int cc), .val (.int kx.toInt32)] [(.int n.toInt32), (.int kx.toInt32)]))
    refine own_st ?_ (fun t_ k_ => XS.iconst X0.here hx rfl (hb hby d35_47) k_)
    show own_G p.tables e below _ _ (T0.setTop (mkF m 48 #[.val (.ref a0), .val (.int (0 : Int32)), .val (.int n.toInt32), .val (.int (0 : Int32)), .val (.int cc), .val (.int kx.toInt32)] [(.int (1 : Int32)), (.int n.toInt32), (.int kx.toInt32)]))
    refine own_st ?_ (fun t_ k_ => XS.isub X0.here hx rfl (hb hby d35_48) rfl k_)
    show own_G p.tables e below _ _ (T0.setTop (mkF m 49 #[.val (.ref a0), .val (.int (0 : Int32)), .val (.int n.toInt32), .val (.int (0 : Int32)), .val (.int cc), .val (.int kx.toInt32)] [(.int (n.toInt32 - (1 : Int32))), (.int kx.toInt32)]))
    refine own_st ?_ (fun t_ k_ => XS.icmpYes X0.here hx rfl (pc0 := 49) (pc' := 88) rfl (hb hby d35_49) rfl (flt (own_c49n (by have := hT.1; simp only [own_uns, List.length_nil] at this; omega) hn)).2.1 (by decide) (by decide) k_)
    show own_G p.tables e below _ _ (T0.setTop (mkF m 88 #[.val (.ref a0), .val (.int (0 : Int32)), .val (.int n.toInt32), .val (.int (0 : Int32)), .val (.int cc), .val (.int kx.toInt32)] []))
    refine own_st ?_ (fun t_ k_ => XS.iload X0.here hx rfl (hb hby d35_88) rfl k_)
    show own_G p.tables e below _ _ (T0.setTop (mkF m 90 #[.val (.ref a0), .val (.int (0 : Int32)), .val (.int n.toInt32), .val (.int (0 : Int32)), .val (.int cc), .val (.int kx.toInt32)] [(.int cc)]))
    exact own_retI X0 hx hlk hret (hb hby d35_90) (by decide) (by decide) ⟨by rw [own_ccz hcc rfl], N0, e0⟩
  | cons x xs ih =>
    intro T0 locs kx cc r hr hT hcc X0 N0 e0
    have hsm := (⟨hr.1, hr.2, own_prs_le hT hn⟩ : 0 ≤ r.toInt ∧ r.toInt < 2 ^ 30 ∧ own_prs (x :: xs) < 2 ^ 30)
    obtain ⟨c1, o1⟩ := x
    cases o1 with
    | none =>
      refine own_st ?_ (fun t_ k_ => XS.iload X0.here hx rfl (hb hby d35_44) rfl k_)
      show own_G p.tables e below _ _ (T0.setTop (mkF m 46 #[.val (.ref a0), .val (.int (0 : Int32)), .val (.int n.toInt32), .val (.int (0 : Int32)), .val (.int cc), .val (.int kx.toInt32)] [(.int kx.toInt32)]))
      refine own_st ?_ (fun t_ k_ => XS.iloadN X0.here hx rfl (hb hby d35_46) rfl k_)
      show own_G p.tables e below _ _ (T0.setTop (mkF m 47 #[.val (.ref a0), .val (.int (0 : Int32)), .val (.int n.toInt32), .val (.int (0 : Int32)), .val (.int cc), .val (.int kx.toInt32)] [(.int n.toInt32), (.int kx.toInt32)]))
      refine own_st ?_ (fun t_ k_ => XS.iconst X0.here hx rfl (hb hby d35_47) k_)
      show own_G p.tables e below _ _ (T0.setTop (mkF m 48 #[.val (.ref a0), .val (.int (0 : Int32)), .val (.int n.toInt32), .val (.int (0 : Int32)), .val (.int cc), .val (.int kx.toInt32)] [(.int (1 : Int32)), (.int n.toInt32), (.int kx.toInt32)]))
      refine own_st ?_ (fun t_ k_ => XS.isub X0.here hx rfl (hb hby d35_48) rfl k_)
      show own_G p.tables e below _ _ (T0.setTop (mkF m 49 #[.val (.ref a0), .val (.int (0 : Int32)), .val (.int n.toInt32), .val (.int (0 : Int32)), .val (.int cc), .val (.int kx.toInt32)] [(.int (n.toInt32 - (1 : Int32))), (.int kx.toInt32)]))
      by_cases hc49 : kx.toInt32 < (n.toInt32 - (1 : Int32))
      · refine own_st ?_ (fun t_ k_ => XS.icmpNo X0.here hx rfl (hb hby d35_49) rfl (tlt hc49).2.1 k_)
        show own_G p.tables e below _ _ (T0.setTop (mkF m 52 #[.val (.ref a0), .val (.int (0 : Int32)), .val (.int n.toInt32), .val (.int (0 : Int32)), .val (.int cc), .val (.int kx.toInt32)] []))
        refine own_st ?_ (fun t_ k_ => XS.aloadN X0.here hx rfl (hb hby d35_52) rfl rfl k_)
        show own_G p.tables e below _ _ (T0.setTop (mkF m 53 #[.val (.ref a0), .val (.int (0 : Int32)), .val (.int n.toInt32), .val (.int (0 : Int32)), .val (.int cc), .val (.int kx.toInt32)] [(.ref a0)]))
        refine own_st ?_ (fun t_ k_ => XS.iload X0.here hx rfl (hb hby d35_53) rfl k_)
        show own_G p.tables e below _ _ (T0.setTop (mkF m 55 #[.val (.ref a0), .val (.int (0 : Int32)), .val (.int n.toInt32), .val (.int (0 : Int32)), .val (.int cc), .val (.int kx.toInt32)] [(.int kx.toInt32), (.ref a0)]))
        refine own_st ?_ (fun t_ k_ => XS.iinc X0.here hx rfl (hb hby d35_55) rfl (l' := #[.val (.ref a0), .val (.int (0 : Int32)), .val (.int n.toInt32), .val (.int (0 : Int32)), .val (.int cc), .val (.int (kx.toInt32 + (1 : Int32)))]) rfl k_)
        show own_G p.tables e below _ _ (T0.setTop (mkF m 58 #[.val (.ref a0), .val (.int (0 : Int32)), .val (.int n.toInt32), .val (.int (0 : Int32)), .val (.int cc), .val (.int (kx.toInt32 + (1 : Int32)))] [(.int kx.toInt32), (.ref a0)]))
        obtain ⟨_, _, ⟨T1, L1, k1, n1⟩, -, X1, ⟨Lc1, hQ1, l1, y1, z1⟩, st1⟩ := Jvm.LawKit.callS X0 hx (y := (⟨"java/lang/StringUTF16", "getChar", "([BI)C"⟩ : MethodName)) hown (mvT hZ (hw _ (List.mem_of_getElem? (i := 53) rfl))) (mvT hZ (hw _ (List.mem_of_getElem? (i := 54) rfl))) (mvT hZ (hw _ (List.mem_of_getElem? (i := 31) rfl))) (mvT hZ (hw _ (List.mem_of_getElem? (i := 55) rfl))) (by decide) (backOf (W := 0) (rm12 l Z _ hw [] a0 kx.toInt32 z1 fm kx N g1 (ch kx) h0 n0 Z0 SS Y0 rfl (by have := (own_T1 hT).1; omega) (by omega) (hU kx (by have := (own_T1 hT).1; omega))) hZ (hw _ (List.mem_of_getElem? (i := 55) rfl)) (hw _ (List.mem_of_getElem? (i := 31) rfl)) (by decide) (by decide)) (g := (mkF m 58 #[.val (.ref a0), .val (.int (0 : Int32)), .val (.int n.toInt32), .val (.int (0 : Int32)), .val (.int cc), .val (.int (kx.toInt32 + (1 : Int32)))] [(.int kx.toInt32), (.ref a0)])) rfl (by rw [hml]; rfl) (argsL := [(.ref a0), (.int kx.toInt32)]) (rest := []) (lenOf pd_4 rfl) rfl (by show 2 * 0 + _ ≤ _; exact Nat.le_of_eq rfl) (hb hby d35_58) (fun _ _ => ⟨rfl, e0, (by decide : 0 + 0 ≤ _), (by decide : 0 + 0 ≤ _)⟩)
        dsimp only [Pt.U, Pt.locs, Pt.cells, Pt.slots] at X1 l1 y1 z1 st1 hQ1
        subst l1 y1 z1
        obtain ⟨rfl, N1q, e1⟩ := hQ1
        have N1 := Fr.app N0 N1q
        refine own_st ?_ st1
        show own_G p.tables e below _ _ (T1.setTop (mkF m 61 #[.val (.ref a0), .val (.int (0 : Int32)), .val (.int n.toInt32), .val (.int (0 : Int32)), .val (.int cc), .val (.int (kx.toInt32 + (1 : Int32)))] [(.int (ch kx))]))
        obtain ⟨_, _, ⟨T2, L2, k2, n2⟩, -, X2, ⟨Lc2, hQ2, l2, y2, z2⟩, st2⟩ := Jvm.LawKit.callS X1 hx (y := (⟨"java/lang/Character", "isHighSurrogate", "(C)Z"⟩ : MethodName)) hown (mvT hZ (hw _ (List.mem_of_getElem? (i := 159) rfl))) (mvT hZ (hw _ (List.mem_of_getElem? (i := 122) rfl))) (mvT hZ (hw _ (List.mem_of_getElem? (i := 123) rfl))) (mvT hZ (hw _ (List.mem_of_getElem? (i := 124) rfl))) (by decide) (backOf (W := 0) (rm27 l Z _ hw [] (ch kx)  h0 n0 Z0 ) hZ (hw _ (List.mem_of_getElem? (i := 124) rfl)) (hw _ (List.mem_of_getElem? (i := 123) rfl)) (by decide) (by decide)) (g := (mkF m 61 #[.val (.ref a0), .val (.int (0 : Int32)), .val (.int n.toInt32), .val (.int (0 : Int32)), .val (.int cc), .val (.int (kx.toInt32 + (1 : Int32)))] [(.int (ch kx))])) rfl (by rw [hml]; rfl) (argsL := [(.int (ch kx))]) (rest := []) (lenOf pd_15 rfl) rfl (by show 2 * 0 + _ ≤ _; exact Nat.le_of_eq rfl) (hb hby d35_61) (fun _ _ => ⟨rfl, e1, (by decide : 0 + 0 ≤ _), (by decide : 0 + 0 ≤ _)⟩)
        dsimp only [Pt.U, Pt.locs, Pt.cells, Pt.slots] at X2 l2 y2 z2 st2 hQ2
        subst l2 y2 z2
        obtain ⟨rfl, N2q, e2⟩ := hQ2
        have N2 := Fr.app N1 N2q
        refine own_st ?_ st2
        show own_G p.tables e below _ _ (T2.setTop (mkF m 64 #[.val (.ref a0), .val (.int (0 : Int32)), .val (.int n.toInt32), .val (.int (0 : Int32)), .val (.int cc), .val (.int (kx.toInt32 + (1 : Int32)))] [(.int (f27 (ch kx)))]))
        refine own_st ?_ (fun t_ k_ => XS.ifYes X2.here hx rfl (pc0 := 64) (pc' := 44) rfl (hb hby d35_64) rfl ((if0 _ _).trans (teq (by rw [(own_T1 hT).2.1]; exact (own_hs0 (own_T1 hT).2.2.1.2).1)).1) (by decide) (by decide) k_)
        show own_G p.tables e below _ _ (T2.setTop (mkF m 44 #[.val (.ref a0), .val (.int (0 : Int32)), .val (.int n.toInt32), .val (.int (0 : Int32)), .val (.int cc), .val (.int (kx.toInt32 + (1 : Int32)))] []))
        simp only [own_inc]
        exact ih hr (kx := kx + 1) (cc := cc) (own_T1 hT).2.2.2 hcc X2 N2 e2
      · refine own_st ?_ (fun t_ k_ => XS.icmpYes X0.here hx rfl (pc0 := 49) (pc' := 88) rfl (hb hby d35_49) rfl (flt hc49).2.1 (by decide) (by decide) k_)
        show own_G p.tables e below _ _ (T0.setTop (mkF m 88 #[.val (.ref a0), .val (.int (0 : Int32)), .val (.int n.toInt32), .val (.int (0 : Int32)), .val (.int cc), .val (.int kx.toInt32)] []))
        refine own_st ?_ (fun t_ k_ => XS.iload X0.here hx rfl (hb hby d35_88) rfl k_)
        show own_G p.tables e below _ _ (T0.setTop (mkF m 90 #[.val (.ref a0), .val (.int (0 : Int32)), .val (.int n.toInt32), .val (.int (0 : Int32)), .val (.int cc), .val (.int kx.toInt32)] [(.int cc)]))
        exact own_retI X0 hx hlk hret (hb hby d35_90) (by decide) (by decide) ⟨by rw [own_ccz hcc (own_T_last hT (fun q => hc49 (own_c49 q hn)))], N0, e0⟩
    | some c2 =>
      refine own_st ?_ (fun t_ k_ => XS.iload X0.here hx rfl (hb hby d35_44) rfl k_)
      show own_G p.tables e below _ _ (T0.setTop (mkF m 46 #[.val (.ref a0), .val (.int (0 : Int32)), .val (.int n.toInt32), .val (.int (0 : Int32)), .val (.int cc), .val (.int kx.toInt32)] [(.int kx.toInt32)]))
      refine own_st ?_ (fun t_ k_ => XS.iloadN X0.here hx rfl (hb hby d35_46) rfl k_)
      show own_G p.tables e below _ _ (T0.setTop (mkF m 47 #[.val (.ref a0), .val (.int (0 : Int32)), .val (.int n.toInt32), .val (.int (0 : Int32)), .val (.int cc), .val (.int kx.toInt32)] [(.int n.toInt32), (.int kx.toInt32)]))
      refine own_st ?_ (fun t_ k_ => XS.iconst X0.here hx rfl (hb hby d35_47) k_)
      show own_G p.tables e below _ _ (T0.setTop (mkF m 48 #[.val (.ref a0), .val (.int (0 : Int32)), .val (.int n.toInt32), .val (.int (0 : Int32)), .val (.int cc), .val (.int kx.toInt32)] [(.int (1 : Int32)), (.int n.toInt32), (.int kx.toInt32)]))
      refine own_st ?_ (fun t_ k_ => XS.isub X0.here hx rfl (hb hby d35_48) rfl k_)
      show own_G p.tables e below _ _ (T0.setTop (mkF m 49 #[.val (.ref a0), .val (.int (0 : Int32)), .val (.int n.toInt32), .val (.int (0 : Int32)), .val (.int cc), .val (.int kx.toInt32)] [(.int (n.toInt32 - (1 : Int32))), (.int kx.toInt32)]))
      refine own_st ?_ (fun t_ k_ => XS.icmpNo X0.here hx rfl (hb hby d35_49) rfl (tlt (own_c49 (own_T2 hT).1 hn)).2.1 k_)
      show own_G p.tables e below _ _ (T0.setTop (mkF m 52 #[.val (.ref a0), .val (.int (0 : Int32)), .val (.int n.toInt32), .val (.int (0 : Int32)), .val (.int cc), .val (.int kx.toInt32)] []))
      refine own_st ?_ (fun t_ k_ => XS.aloadN X0.here hx rfl (hb hby d35_52) rfl rfl k_)
      show own_G p.tables e below _ _ (T0.setTop (mkF m 53 #[.val (.ref a0), .val (.int (0 : Int32)), .val (.int n.toInt32), .val (.int (0 : Int32)), .val (.int cc), .val (.int kx.toInt32)] [(.ref a0)]))
      refine own_st ?_ (fun t_ k_ => XS.iload X0.here hx rfl (hb hby d35_53) rfl k_)
      show own_G p.tables e below _ _ (T0.setTop (mkF m 55 #[.val (.ref a0), .val (.int (0 : Int32)), .val (.int n.toInt32), .val (.int (0 : Int32)), .val (.int cc), .val (.int kx.toInt32)] [(.int kx.toInt32), (.ref a0)]))
      refine own_st ?_ (fun t_ k_ => XS.iinc X0.here hx rfl (hb hby d35_55) rfl (l' := #[.val (.ref a0), .val (.int (0 : Int32)), .val (.int n.toInt32), .val (.int (0 : Int32)), .val (.int cc), .val (.int (kx.toInt32 + (1 : Int32)))]) rfl k_)
      show own_G p.tables e below _ _ (T0.setTop (mkF m 58 #[.val (.ref a0), .val (.int (0 : Int32)), .val (.int n.toInt32), .val (.int (0 : Int32)), .val (.int cc), .val (.int (kx.toInt32 + (1 : Int32)))] [(.int kx.toInt32), (.ref a0)]))
      obtain ⟨_, _, ⟨T3, L3, k3, n3⟩, -, X3, ⟨Lc3, hQ3, l3, y3, z3⟩, st3⟩ := Jvm.LawKit.callS X0 hx (y := (⟨"java/lang/StringUTF16", "getChar", "([BI)C"⟩ : MethodName)) hown (mvT hZ (hw _ (List.mem_of_getElem? (i := 53) rfl))) (mvT hZ (hw _ (List.mem_of_getElem? (i := 54) rfl))) (mvT hZ (hw _ (List.mem_of_getElem? (i := 31) rfl))) (mvT hZ (hw _ (List.mem_of_getElem? (i := 55) rfl))) (by decide) (backOf (W := 0) (rm12 l Z _ hw [] a0 kx.toInt32 z1 fm kx N g1 (ch kx) h0 n0 Z0 SS Y0 rfl (by have := (own_T2 hT).1; omega) (by omega) (hU kx (by have := (own_T2 hT).1; omega))) hZ (hw _ (List.mem_of_getElem? (i := 55) rfl)) (hw _ (List.mem_of_getElem? (i := 31) rfl)) (by decide) (by decide)) (g := (mkF m 58 #[.val (.ref a0), .val (.int (0 : Int32)), .val (.int n.toInt32), .val (.int (0 : Int32)), .val (.int cc), .val (.int (kx.toInt32 + (1 : Int32)))] [(.int kx.toInt32), (.ref a0)])) rfl (by rw [hml]; rfl) (argsL := [(.ref a0), (.int kx.toInt32)]) (rest := []) (lenOf pd_4 rfl) rfl (by show 2 * 0 + _ ≤ _; exact Nat.le_of_eq rfl) (hb hby d35_58) (fun _ _ => ⟨rfl, e0, (by decide : 0 + 0 ≤ _), (by decide : 0 + 0 ≤ _)⟩)
      dsimp only [Pt.U, Pt.locs, Pt.cells, Pt.slots] at X3 l3 y3 z3 st3 hQ3
      subst l3 y3 z3
      obtain ⟨rfl, N3q, e3⟩ := hQ3
      have N3 := Fr.app N0 N3q
      refine own_st ?_ st3
      show own_G p.tables e below _ _ (T3.setTop (mkF m 61 #[.val (.ref a0), .val (.int (0 : Int32)), .val (.int n.toInt32), .val (.int (0 : Int32)), .val (.int cc), .val (.int (kx.toInt32 + (1 : Int32)))] [(.int (ch kx))]))
      obtain ⟨_, _, ⟨T4, L4, k4, n4⟩, -, X4, ⟨Lc4, hQ4, l4, y4, z4⟩, st4⟩ := Jvm.LawKit.callS X3 hx (y := (⟨"java/lang/Character", "isHighSurrogate", "(C)Z"⟩ : MethodName)) hown (mvT hZ (hw _ (List.mem_of_getElem? (i := 159) rfl))) (mvT hZ (hw _ (List.mem_of_getElem? (i := 122) rfl))) (mvT hZ (hw _ (List.mem_of_getElem? (i := 123) rfl))) (mvT hZ (hw _ (List.mem_of_getElem? (i := 124) rfl))) (by decide) (backOf (W := 0) (rm27 l Z _ hw [] (ch kx)  h0 n0 Z0 ) hZ (hw _ (List.mem_of_getElem? (i := 124) rfl)) (hw _ (List.mem_of_getElem? (i := 123) rfl)) (by decide) (by decide)) (g := (mkF m 61 #[.val (.ref a0), .val (.int (0 : Int32)), .val (.int n.toInt32), .val (.int (0 : Int32)), .val (.int cc), .val (.int (kx.toInt32 + (1 : Int32)))] [(.int (ch kx))])) rfl (by rw [hml]; rfl) (argsL := [(.int (ch kx))]) (rest := []) (lenOf pd_15 rfl) rfl (by show 2 * 0 + _ ≤ _; exact Nat.le_of_eq rfl) (hb hby d35_61) (fun _ _ => ⟨rfl, e3, (by decide : 0 + 0 ≤ _), (by decide : 0 + 0 ≤ _)⟩)
      dsimp only [Pt.U, Pt.locs, Pt.cells, Pt.slots] at X4 l4 y4 z4 st4 hQ4
      subst l4 y4 z4
      obtain ⟨rfl, N4q, e4⟩ := hQ4
      have N4 := Fr.app N3 N4q
      refine own_st ?_ st4
      show own_G p.tables e below _ _ (T4.setTop (mkF m 64 #[.val (.ref a0), .val (.int (0 : Int32)), .val (.int n.toInt32), .val (.int (0 : Int32)), .val (.int cc), .val (.int (kx.toInt32 + (1 : Int32)))] [(.int (f27 (ch kx)))]))
      refine own_st ?_ (fun t_ k_ => XS.ifNo X4.here hx rfl (hb hby d35_64) rfl ((if0 _ _).trans (feq (by rw [(own_T2 hT).2.1]; exact own_hs1 (own_T2 hT).2.2.2.1.1)).1) k_)
      show own_G p.tables e below _ _ (T4.setTop (mkF m 67 #[.val (.ref a0), .val (.int (0 : Int32)), .val (.int n.toInt32), .val (.int (0 : Int32)), .val (.int cc), .val (.int (kx.toInt32 + (1 : Int32)))] []))
      refine own_st ?_ (fun t_ k_ => XS.aloadN X4.here hx rfl (hb hby d35_67) rfl rfl k_)
      show own_G p.tables e below _ _ (T4.setTop (mkF m 68 #[.val (.ref a0), .val (.int (0 : Int32)), .val (.int n.toInt32), .val (.int (0 : Int32)), .val (.int cc), .val (.int (kx.toInt32 + (1 : Int32)))] [(.ref a0)]))
      refine own_st ?_ (fun t_ k_ => XS.iload X4.here hx rfl (hb hby d35_68) rfl k_)
      show own_G p.tables e below _ _ (T4.setTop (mkF m 70 #[.val (.ref a0), .val (.int (0 : Int32)), .val (.int n.toInt32), .val (.int (0 : Int32)), .val (.int cc), .val (.int (kx.toInt32 + (1 : Int32)))] [(.int (kx.toInt32 + (1 : Int32))), (.ref a0)]))
      obtain ⟨_, _, ⟨T5, L5, k5, n5⟩, -, X5, ⟨Lc5, hQ5, l5, y5, z5⟩, st5⟩ := Jvm.LawKit.callS X4 hx (y := (⟨"java/lang/StringUTF16", "getChar", "([BI)C"⟩ : MethodName)) hown (mvT hZ (hw _ (List.mem_of_getElem? (i := 53) rfl))) (mvT hZ (hw _ (List.mem_of_getElem? (i := 54) rfl))) (mvT hZ (hw _ (List.mem_of_getElem? (i := 31) rfl))) (mvT hZ (hw _ (List.mem_of_getElem? (i := 55) rfl))) (by decide) (backOf (W := 0) (rm12 l Z _ hw [] a0 (kx.toInt32 + (1 : Int32)) z1 fm (kx + 1) N g1 (ch (kx + 1)) h0 n0 Z0 SS Y0 (own_inc kx) (by have := (own_T2 hT).1; omega) (by omega) (hU (kx + 1) (by have := (own_T2 hT).1; omega))) hZ (hw _ (List.mem_of_getElem? (i := 55) rfl)) (hw _ (List.mem_of_getElem? (i := 31) rfl)) (by decide) (by decide)) (g := (mkF m 70 #[.val (.ref a0), .val (.int (0 : Int32)), .val (.int n.toInt32), .val (.int (0 : Int32)), .val (.int cc), .val (.int (kx.toInt32 + (1 : Int32)))] [(.int (kx.toInt32 + (1 : Int32))), (.ref a0)])) rfl (by rw [hml]; rfl) (argsL := [(.ref a0), (.int (kx.toInt32 + (1 : Int32)))]) (rest := []) (lenOf pd_4 rfl) rfl (by show 2 * 0 + _ ≤ _; exact Nat.le_of_eq rfl) (hb hby d35_70) (fun _ _ => ⟨rfl, e4, (by decide : 0 + 0 ≤ _), (by decide : 0 + 0 ≤ _)⟩)
      dsimp only [Pt.U, Pt.locs, Pt.cells, Pt.slots] at X5 l5 y5 z5 st5 hQ5
      subst l5 y5 z5
      obtain ⟨rfl, N5q, e5⟩ := hQ5
      have N5 := Fr.app N4 N5q
      refine own_st ?_ st5
      show own_G p.tables e below _ _ (T5.setTop (mkF m 73 #[.val (.ref a0), .val (.int (0 : Int32)), .val (.int n.toInt32), .val (.int (0 : Int32)), .val (.int cc), .val (.int (kx.toInt32 + (1 : Int32)))] [(.int (ch (kx + 1)))]))
      obtain ⟨_, _, ⟨T6, L6, k6, n6⟩, -, X6, ⟨Lc6, hQ6, l6, y6, z6⟩, st6⟩ := Jvm.LawKit.callS X5 hx (y := (⟨"java/lang/Character", "isLowSurrogate", "(C)Z"⟩ : MethodName)) hown (mvT hZ (hw _ (List.mem_of_getElem? (i := 160) rfl))) (mvT hZ (hw _ (List.mem_of_getElem? (i := 131) rfl))) (mvT hZ (hw _ (List.mem_of_getElem? (i := 123) rfl))) (mvT hZ (hw _ (List.mem_of_getElem? (i := 132) rfl))) (by decide) (backOf (W := 0) (rm29 l Z _ hw [] (ch (kx + 1))  h0 n0 Z0 ) hZ (hw _ (List.mem_of_getElem? (i := 132) rfl)) (hw _ (List.mem_of_getElem? (i := 123) rfl)) (by decide) (by decide)) (g := (mkF m 73 #[.val (.ref a0), .val (.int (0 : Int32)), .val (.int n.toInt32), .val (.int (0 : Int32)), .val (.int cc), .val (.int (kx.toInt32 + (1 : Int32)))] [(.int (ch (kx + 1)))])) rfl (by rw [hml]; rfl) (argsL := [(.int (ch (kx + 1)))]) (rest := []) (lenOf pd_15 rfl) rfl (by show 2 * 0 + _ ≤ _; exact Nat.le_of_eq rfl) (hb hby d35_73) (fun _ _ => ⟨rfl, e5, (by decide : 0 + 0 ≤ _), (by decide : 0 + 0 ≤ _)⟩)
      dsimp only [Pt.U, Pt.locs, Pt.cells, Pt.slots] at X6 l6 y6 z6 st6 hQ6
      subst l6 y6 z6
      obtain ⟨rfl, N6q, e6⟩ := hQ6
      have N6 := Fr.app N5 N6q
      refine own_st ?_ st6
      show own_G p.tables e below _ _ (T6.setTop (mkF m 76 #[.val (.ref a0), .val (.int (0 : Int32)), .val (.int n.toInt32), .val (.int (0 : Int32)), .val (.int cc), .val (.int (kx.toInt32 + (1 : Int32)))] [(.int (f29 (ch (kx + 1))))]))
      refine own_st ?_ (fun t_ k_ => XS.ifNo X6.here hx rfl (hb hby d35_76) rfl ((if0 _ _).trans (feq (by rw [(own_T2 hT).2.2.1]; exact own_ls1 (own_T2 hT).2.2.2.1.2)).1) k_)
      show own_G p.tables e below _ _ (T6.setTop (mkF m 79 #[.val (.ref a0), .val (.int (0 : Int32)), .val (.int n.toInt32), .val (.int (0 : Int32)), .val (.int cc), .val (.int (kx.toInt32 + (1 : Int32)))] []))
      refine own_st ?_ (fun t_ k_ => XS.iinc X6.here hx rfl (hb hby d35_79) rfl (l' := #[.val (.ref a0), .val (.int (0 : Int32)), .val (.int n.toInt32), .val (.int (0 : Int32)), .val (.int (cc + (-1 : Int32))), .val (.int (kx.toInt32 + (1 : Int32)))]) rfl k_)
      show own_G p.tables e below _ _ (T6.setTop (mkF m 82 #[.val (.ref a0), .val (.int (0 : Int32)), .val (.int n.toInt32), .val (.int (0 : Int32)), .val (.int (cc + (-1 : Int32))), .val (.int (kx.toInt32 + (1 : Int32)))] []))
      refine own_st ?_ (fun t_ k_ => XS.iinc X6.here hx rfl (hb hby d35_82) rfl (l' := #[.val (.ref a0), .val (.int (0 : Int32)), .val (.int n.toInt32), .val (.int (0 : Int32)), .val (.int (cc + (-1 : Int32))), .val (.int ((kx.toInt32 + (1 : Int32)) + (1 : Int32)))]) rfl k_)
      show own_G p.tables e below _ _ (T6.setTop (mkF m 85 #[.val (.ref a0), .val (.int (0 : Int32)), .val (.int n.toInt32), .val (.int (0 : Int32)), .val (.int (cc + (-1 : Int32))), .val (.int ((kx.toInt32 + (1 : Int32)) + (1 : Int32)))] []))
      refine own_st ?_ (fun t_ k_ => XS.goto X6.here hx rfl (pc0 := 85) (pc' := 44) rfl (hb hby d35_85) (by decide) (by decide) k_)
      show own_G p.tables e below _ _ (T6.setTop (mkF m 44 #[.val (.ref a0), .val (.int (0 : Int32)), .val (.int n.toInt32), .val (.int (0 : Int32)), .val (.int (cc + (-1 : Int32))), .val (.int ((kx.toInt32 + (1 : Int32)) + (1 : Int32)))] []))
      simp only [own_inc]
      exact ih hr (kx := kx + 2) (cc := cc + (-1 : Int32)) (own_T2 hT).2.2.2.2 (own_cc1 hcc hsm) X6 N6 e6
theorem ef_35 (m : MethodId) (a0 : Addr) (n : Nat) : entryFrame m #[(.ref a0), (.int (0 : Int32)), (.int n.toInt32), (.int (0 : Int32))] 6 = mkF m 0 #[.val (.ref a0), .val (.int (0 : Int32)), .val (.int n.toInt32), .val (.int (0 : Int32)), .unset, .unset] [] := by first | (simp [entryFrame, mkF, argsToLocals, Value.category]; done) | rfl
set_option maxRecDepth 65536 in
set_option maxHeartbeats 40000000 in
theorem rm35 (l : Launch) (Z : State) (a0 : Array Value) (hw : ∀ d ∈ tables_1, d.before a0 Z = true) (ws : List Jvm.Cond) (a0 : Addr) (z1 : Int32) (fm : Value) (n : Nat) (N : Nat) (g1 : Nat → Int32) (ch : Nat → Int32) (xs : List (Int32 × Option Int32)) (h0 : Heap) (n0 : Nat) (Z0 : n0 ≤ h0.size) (SS : own_SS Z h0 n0 z1 fm) (Y0 : own_Y .byte Z h0 a0 N g1) (hN : N = 2 * n) (hn : n < 2 ^ 30) (hU : ∀ i, i < n → nar .char ((((g1 (2 * i) &&& (255 : Int32)) <<< ((0 : Int32) &&& 31)) ||| ((g1 (2 * i + 1) &&& (255 : Int32)) <<< ((8 : Int32) &&& 31))).toUInt32.toUInt16.toUInt32.toInt32) = ch i) (hT : own_T ch n 0 xs) :
    MetFree l (⟨"java/lang/StringUTF16", "codePointCount", "([BIIZ)I"⟩ : MethodName) (head1 (Jvm.Cond.code (⟨"java/lang/StringUTF16", "codePointCount", "([BIIZ)I"⟩ : MethodName) jdk_52_method_11_code 6 (some .int) :: ws) ({ frames := 1, cells := 0, slots := 0, locals := 13 } : Room)) (fun a U => a = #[(.ref a0), (.int (0 : Int32)), (.int n.toInt32), (.int (0 : Int32))] ∧ Z.Warmed39 U.vm ∧ U.heap = h0) (fun _ _ _ _ _ => True) (fun _ U o U' => ∃ v L, o = .returned v ∧ own_QV (.int xs.length.toInt32) h0 n0 v U'.heap L ∧ FrameEnd U o U' L ({ frames := 1, cells := 0, slots := 0, locals := 13 } : Room).cells ({ frames := 1, cells := 0, slots := 0, locals := 13 } : Room).slots) := by
  refine MetFree.of_bodySF (plainFor_of_name pn_35) hisR ?_
  intro p e s m args below meth c s₁ Bd hml0 hP hK
  obtain ⟨rfl, hZ, hh⟩ := hP
  have hx := Bd.exec
  have hby := Bd.bytes
  have hlk : meth.locks = false := BodyLoose.notSynchronized Bd
  have hret := Bd.returns
  have hml : c.maxLocals = 6 := hml0
  have hown : s.vm.findClass "java/lang/StringUTF16" = some m.cls := findClass_of_methodNamed Bd.named
  have hnm := (name_of_methodNamed Bd.named Bd.method).1
  have X0 : Stand p l e ({ frames := 1, cells := 0, slots := 0, locals := 13 } : Room) s m #[(.ref a0), (.int (0 : Int32)), (.int n.toInt32), (.int (0 : Int32))] below meth c s₁ [] 0 0 := Stand.of_body Bd
  have e0 : s₁.heap = h0 := by rw [← hh, Bd.state]; rfl
  have N0 := Fr.nil n0
  show own_G p.tables e below (own_E s ({ frames := 1, cells := 0, slots := 0, locals := 13 } : Room).cells ({ frames := 1, cells := 0, slots := 0, locals := 13 } : Room).slots) (own_QV (.int xs.length.toInt32) h0 n0) (s₁.setTop (entryFrame m #[(.ref a0), (.int (0 : Int32)), (.int n.toInt32), (.int (0 : Int32))] 6))
  refine own_st ?_ (fun t_ k_ => castTop (ef_35 m a0 n) k_)
  show own_G p.tables e below _ _ (s₁.setTop (mkF m 0 #[.val (.ref a0), .val (.int (0 : Int32)), .val (.int n.toInt32), .val (.int (0 : Int32)), .unset, .unset] []))
  obtain ⟨T1, X1, e1, st1⟩ := getS2 X0 hx hZ hown (host := "") (Or.inl (hw _ (List.mem_of_getElem? (i := 50) rfl))) Via.refl e0 (own_Su_to SS.2.2.1) (g := (mkF m 0 #[.val (.ref a0), .val (.int (0 : Int32)), .val (.int n.toInt32), .val (.int (0 : Int32)), .unset, .unset] [])) rfl (hb hby d35_0)
  refine own_st ?_ st1
  show own_G p.tables e below _ _ (T1.setTop (mkF m 3 #[.val (.ref a0), .val (.int (0 : Int32)), .val (.int n.toInt32), .val (.int (0 : Int32)), .unset, .unset] [(.int (1 : Int32))]))
  refine own_st ?_ (fun t_ k_ => XS.ifYes X1.here hx rfl (pc0 := 3) (pc' := 19) rfl (hb hby d35_3) rfl ((if0 _ _).trans (feq (by decide : ¬ ((1 : Int32) = (0 : Int32)))).2) (by decide) (by decide) k_)
  show own_G p.tables e below _ _ (T1.setTop (mkF m 19 #[.val (.ref a0), .val (.int (0 : Int32)), .val (.int n.toInt32), .val (.int (0 : Int32)), .unset, .unset] []))
  refine own_st ?_ (fun t_ k_ => XS.iloadN X1.here hx rfl (hb hby d35_19) rfl k_)
  show own_G p.tables e below _ _ (T1.setTop (mkF m 20 #[.val (.ref a0), .val (.int (0 : Int32)), .val (.int n.toInt32), .val (.int (0 : Int32)), .unset, .unset] [(.int n.toInt32)]))
  refine own_st ?_ (fun t_ k_ => XS.iloadN X1.here hx rfl (hb hby d35_20) rfl k_)
  show own_G p.tables e below _ _ (T1.setTop (mkF m 21 #[.val (.ref a0), .val (.int (0 : Int32)), .val (.int n.toInt32), .val (.int (0 : Int32)), .unset, .unset] [(.int (0 : Int32)), (.int n.toInt32)]))
  refine own_st ?_ (fun t_ k_ => XS.isub X1.here hx rfl (hb hby d35_21) rfl k_)
  show own_G p.tables e below _ _ (T1.setTop (mkF m 22 #[.val (.ref a0), .val (.int (0 : Int32)), .val (.int n.toInt32), .val (.int (0 : Int32)), .unset, .unset] [(.int (n.toInt32 - (0 : Int32)))]))
  refine own_st ?_ (fun t_ k_ => XS.istore X1.here hx rfl (hb hby d35_22) rfl (l' := #[.val (.ref a0), .val (.int (0 : Int32)), .val (.int n.toInt32), .val (.int (0 : Int32)), .val (.int (n.toInt32 - (0 : Int32))), .unset]) rfl k_)
  show own_G p.tables e below _ _ (T1.setTop (mkF m 24 #[.val (.ref a0), .val (.int (0 : Int32)), .val (.int n.toInt32), .val (.int (0 : Int32)), .val (.int (n.toInt32 - (0 : Int32))), .unset] []))
  refine own_st ?_ (fun t_ k_ => XS.iloadN X1.here hx rfl (hb hby d35_24) rfl k_)
  show own_G p.tables e below _ _ (T1.setTop (mkF m 25 #[.val (.ref a0), .val (.int (0 : Int32)), .val (.int n.toInt32), .val (.int (0 : Int32)), .val (.int (n.toInt32 - (0 : Int32))), .unset] [(.int (0 : Int32))]))
  refine own_st ?_ (fun t_ k_ => XS.istore X1.here hx rfl (hb hby d35_25) rfl (l' := #[.val (.ref a0), .val (.int (0 : Int32)), .val (.int n.toInt32), .val (.int (0 : Int32)), .val (.int (n.toInt32 - (0 : Int32))), .val (.int (0 : Int32))]) rfl k_)
  show own_G p.tables e below _ _ (T1.setTop (mkF m 27 #[.val (.ref a0), .val (.int (0 : Int32)), .val (.int n.toInt32), .val (.int (0 : Int32)), .val (.int (n.toInt32 - (0 : Int32))), .val (.int (0 : Int32))] []))
  refine own_st ?_ (fun t_ k_ => XS.iloadN X1.here hx rfl (hb hby d35_27) rfl k_)
  show own_G p.tables e below _ _ (T1.setTop (mkF m 28 #[.val (.ref a0), .val (.int (0 : Int32)), .val (.int n.toInt32), .val (.int (0 : Int32)), .val (.int (n.toInt32 - (0 : Int32))), .val (.int (0 : Int32))] [(.int (0 : Int32))]))
  refine own_st ?_ (fun t_ k_ => XS.ifYes X1.here hx rfl (pc0 := 28) (pc' := 44) rfl (hb hby d35_28) rfl ((if0 _ _).trans (teq (by decide : (0 : Int32) = (0 : Int32))).1) (by decide) (by decide) k_)
  show own_G p.tables e below _ _ (T1.setTop (mkF m 44 #[.val (.ref a0), .val (.int (0 : Int32)), .val (.int n.toInt32), .val (.int (0 : Int32)), .val (.int (n.toInt32 - (0 : Int32))), .val (.int (0 : Int32))] []))
  have hr0 : 0 ≤ xs.length.toInt32.toInt ∧ xs.length.toInt32.toInt < 2 ^ 30 := by have := hT.1; have := (own_uns_len xs).1; rw [len_toInt (by omega)]; omega
  exact own_lc hx hlk hZ hw hby hml hown hret hN hn hU Z0 SS Y0 xs (kx := 0) (cc := (n.toInt32 - (0 : Int32))) (r := xs.length.toInt32) hr0 hT (own_cc0 hT hn) X1 N0 e1
theorem pd_16 : parseMethodDescriptor "([BIIZ)I" = some ⟨[(.array .byte), .int, .int, .boolean], some .int⟩ := by decide +kernel
theorem d34_0 : decode jdk_52_method_12_code 0 = .ok (.aload_n 0, 1) := by decide +kernel
theorem d34_1 : decode jdk_52_method_12_code 1 = .ok (.iload_n 1, 1) := by decide +kernel
theorem d34_2 : decode jdk_52_method_12_code 2 = .ok (.iload_n 2, 1) := by decide +kernel
theorem d34_3 : decode jdk_52_method_12_code 3 = .ok (.iconst 0, 1) := by decide +kernel
theorem d34_4 : decode jdk_52_method_12_code 4 = .ok (.invokestatic 100, 3) := by decide +kernel
theorem d34_7 : decode jdk_52_method_12_code 7 = .ok (.ireturn, 1) := by decide +kernel
theorem pn_34 : plainName "java/lang/StringUTF16" = true := by first | (simp [plainName, overriddenIn]; done) | decide +kernel
theorem ef_34 (m : MethodId) (a0 : Addr) (n : Nat) : entryFrame m #[(.ref a0), (.int (0 : Int32)), (.int n.toInt32)] 3 = mkF m 0 #[.val (.ref a0), .val (.int (0 : Int32)), .val (.int n.toInt32)] [] := by first | (simp [entryFrame, mkF, argsToLocals, Value.category]; done) | rfl
set_option maxRecDepth 65536 in
set_option maxHeartbeats 40000000 in
theorem rm34 (l : Launch) (Z : State) (a0 : Array Value) (hw : ∀ d ∈ tables_1, d.before a0 Z = true) (ws : List Jvm.Cond) (a0 : Addr) (z1 : Int32) (fm : Value) (n : Nat) (N : Nat) (g1 : Nat → Int32) (ch : Nat → Int32) (xs : List (Int32 × Option Int32)) (h0 : Heap) (n0 : Nat) (Z0 : n0 ≤ h0.size) (SS : own_SS Z h0 n0 z1 fm) (Y0 : own_Y .byte Z h0 a0 N g1) (hN : N = 2 * n) (hn : n < 2 ^ 30) (hU : ∀ i, i < n → nar .char ((((g1 (2 * i) &&& (255 : Int32)) <<< ((0 : Int32) &&& 31)) ||| ((g1 (2 * i + 1) &&& (255 : Int32)) <<< ((8 : Int32) &&& 31))).toUInt32.toUInt16.toUInt32.toInt32) = ch i) (hT : own_T ch n 0 xs) :
    MetFree l (⟨"java/lang/StringUTF16", "codePointCount", "([BII)I"⟩ : MethodName) (head1 (Jvm.Cond.code (⟨"java/lang/StringUTF16", "codePointCount", "([BII)I"⟩ : MethodName) jdk_52_method_12_code 3 (some .int) :: ws) ({ frames := 2, cells := 0, slots := 0, locals := 30 } : Room)) (fun a U => a = #[(.ref a0), (.int (0 : Int32)), (.int n.toInt32)] ∧ Z.Warmed39 U.vm ∧ U.heap = h0) (fun _ _ _ _ _ => True) (fun _ U o U' => ∃ v L, o = .returned v ∧ own_QV (.int xs.length.toInt32) h0 n0 v U'.heap L ∧ FrameEnd U o U' L ({ frames := 2, cells := 0, slots := 0, locals := 30 } : Room).cells ({ frames := 2, cells := 0, slots := 0, locals := 30 } : Room).slots) := by
  refine MetFree.of_bodySF (plainFor_of_name pn_34) hisR ?_
  intro p e s m args below meth c s₁ Bd hml0 hP hK
  obtain ⟨rfl, hZ, hh⟩ := hP
  have hx := Bd.exec
  have hby := Bd.bytes
  have hlk : meth.locks = false := BodyLoose.notSynchronized Bd
  have hret := Bd.returns
  have hml : c.maxLocals = 3 := hml0
  have hown : s.vm.findClass "java/lang/StringUTF16" = some m.cls := findClass_of_methodNamed Bd.named
  have hnm := (name_of_methodNamed Bd.named Bd.method).1
  have X0 : Stand p l e ({ frames := 2, cells := 0, slots := 0, locals := 30 } : Room) s m #[(.ref a0), (.int (0 : Int32)), (.int n.toInt32)] below meth c s₁ [] 0 0 := Stand.of_body Bd
  have e0 : s₁.heap = h0 := by rw [← hh, Bd.state]; rfl
  have N0 := Fr.nil n0
  show own_G p.tables e below (own_E s ({ frames := 2, cells := 0, slots := 0, locals := 30 } : Room).cells ({ frames := 2, cells := 0, slots := 0, locals := 30 } : Room).slots) (own_QV (.int xs.length.toInt32) h0 n0) (s₁.setTop (entryFrame m #[(.ref a0), (.int (0 : Int32)), (.int n.toInt32)] 3))
  refine own_st ?_ (fun t_ k_ => castTop (ef_34 m a0 n) k_)
  show own_G p.tables e below _ _ (s₁.setTop (mkF m 0 #[.val (.ref a0), .val (.int (0 : Int32)), .val (.int n.toInt32)] []))
  refine own_st ?_ (fun t_ k_ => XS.aloadN X0.here hx rfl (hb hby d34_0) rfl rfl k_)
  show own_G p.tables e below _ _ (s₁.setTop (mkF m 1 #[.val (.ref a0), .val (.int (0 : Int32)), .val (.int n.toInt32)] [(.ref a0)]))
  refine own_st ?_ (fun t_ k_ => XS.iloadN X0.here hx rfl (hb hby d34_1) rfl k_)
  show own_G p.tables e below _ _ (s₁.setTop (mkF m 2 #[.val (.ref a0), .val (.int (0 : Int32)), .val (.int n.toInt32)] [(.int (0 : Int32)), (.ref a0)]))
  refine own_st ?_ (fun t_ k_ => XS.iloadN X0.here hx rfl (hb hby d34_2) rfl k_)
  show own_G p.tables e below _ _ (s₁.setTop (mkF m 3 #[.val (.ref a0), .val (.int (0 : Int32)), .val (.int n.toInt32)] [(.int n.toInt32), (.int (0 : Int32)), (.ref a0)]))
  refine own_st ?_ (fun t_ k_ => XS.iconst X0.here hx rfl (hb hby d34_3) k_)
  show own_G p.tables e below _ _ (s₁.setTop (mkF m 4 #[.val (.ref a0), .val (.int (0 : Int32)), .val (.int n.toInt32)] [(.int (0 : Int32)), (.int n.toInt32), (.int (0 : Int32)), (.ref a0)]))
  obtain ⟨_, _, ⟨T1, L1, k1, n1⟩, -, X1, ⟨Lc1, hQ1, l1, y1, z1⟩, st1⟩ := Jvm.LawKit.callS X0 hx (y := (⟨"java/lang/StringUTF16", "codePointCount", "([BIIZ)I"⟩ : MethodName)) hown (mvT hZ (hw _ (List.mem_of_getElem? (i := 156) rfl))) (mvT hZ (hw _ (List.mem_of_getElem? (i := 157) rfl))) (mvT hZ (hw _ (List.mem_of_getElem? (i := 31) rfl))) (mvT hZ (hw _ (List.mem_of_getElem? (i := 158) rfl))) (by decide) (backOf (W := 0) (rm35 l Z _ hw [] a0 z1 fm n N g1 ch xs h0 n0 Z0 SS Y0 hN hn hU hT) hZ (hw _ (List.mem_of_getElem? (i := 158) rfl)) (hw _ (List.mem_of_getElem? (i := 31) rfl)) (by decide) (by decide)) (g := (mkF m 4 #[.val (.ref a0), .val (.int (0 : Int32)), .val (.int n.toInt32)] [(.int (0 : Int32)), (.int n.toInt32), (.int (0 : Int32)), (.ref a0)])) rfl (by rw [hml]; rfl) (argsL := [(.ref a0), (.int (0 : Int32)), (.int n.toInt32), (.int (0 : Int32))]) (rest := []) (lenOf pd_16 rfl) rfl (by show 2 * 0 + _ ≤ _; exact Nat.le_of_eq rfl) (hb hby d34_4) (fun _ _ => ⟨rfl, e0, (by decide : 0 + 0 ≤ _), (by decide : 0 + 0 ≤ _)⟩)
  dsimp only [Pt.U, Pt.locs, Pt.cells, Pt.slots] at X1 l1 y1 z1 st1 hQ1
  subst l1 y1 z1
  obtain ⟨rfl, N1q, e1⟩ := hQ1
  have N1 := Fr.app N0 N1q
  refine own_st ?_ st1
  show own_G p.tables e below _ _ (T1.setTop (mkF m 7 #[.val (.ref a0), .val (.int (0 : Int32)), .val (.int n.toInt32)] [(.int xs.length.toInt32)]))
  exact own_retI X1 hx hlk hret (hb hby d34_7) (by decide) (by decide) ⟨rfl, N1, e1⟩
theorem pd_17 : parseMethodDescriptor "()I" = some ⟨[], some .int⟩ := by decide +kernel
theorem pd_18 : parseMethodDescriptor "(III)I" = some ⟨[.int, .int, .int], some .int⟩ := by decide +kernel
theorem pd_19 : parseMethodDescriptor "([BII)I" = some ⟨[(.array .byte), .int, .int], some .int⟩ := by decide +kernel
theorem d31_0 : decode jdk_42_method_59_code 0 = .ok (.iload_n 1, 1) := by decide +kernel
theorem d31_1 : decode jdk_42_method_59_code 1 = .ok (.iload_n 2, 1) := by decide +kernel
theorem d31_2 : decode jdk_42_method_59_code 2 = .ok (.aload_n 0, 1) := by decide +kernel
theorem d31_3 : decode jdk_42_method_59_code 3 = .ok (.invokevirtual 505, 3) := by decide +kernel
theorem d31_6 : decode jdk_42_method_59_code 6 = .ok (.invokestatic 511, 3) := by decide +kernel
theorem d31_9 : decode jdk_42_method_59_code 9 = .ok (.pop, 1) := by decide +kernel
theorem d31_10 : decode jdk_42_method_59_code 10 = .ok (.aload_n 0, 1) := by decide +kernel
theorem d31_11 : decode jdk_42_method_59_code 11 = .ok (.invokevirtual 492, 3) := by decide +kernel
theorem d31_14 : decode jdk_42_method_59_code 14 = .ok (.ifCond .eq 7, 3) := by decide +kernel
theorem d31_17 : decode jdk_42_method_59_code 17 = .ok (.iload_n 2, 1) := by decide +kernel
theorem d31_18 : decode jdk_42_method_59_code 18 = .ok (.iload_n 1, 1) := by decide +kernel
theorem d31_19 : decode jdk_42_method_59_code 19 = .ok (.isub, 1) := by decide +kernel
theorem d31_20 : decode jdk_42_method_59_code 20 = .ok (.ireturn, 1) := by decide +kernel
theorem d31_21 : decode jdk_42_method_59_code 21 = .ok (.aload_n 0, 1) := by decide +kernel
theorem d31_22 : decode jdk_42_method_59_code 22 = .ok (.getfield 9, 3) := by decide +kernel
theorem d31_25 : decode jdk_42_method_59_code 25 = .ok (.iload_n 1, 1) := by decide +kernel
theorem d31_26 : decode jdk_42_method_59_code 26 = .ok (.iload_n 2, 1) := by decide +kernel
theorem d31_27 : decode jdk_42_method_59_code 27 = .ok (.invokestatic 514, 3) := by decide +kernel
theorem d31_30 : decode jdk_42_method_59_code 30 = .ok (.ireturn, 1) := by decide +kernel
theorem pn_31 : plainName "java/lang/String" = true := by first | (simp [plainName, overriddenIn]; done) | decide +kernel
theorem ef_31 (m : MethodId) (a0 : Addr) (n : Nat) : entryFrame m #[(.ref a0), (.int (0 : Int32)), (.int n.toInt32)] 3 = mkF m 0 #[.val (.ref a0), .val (.int (0 : Int32)), .val (.int n.toInt32)] [] := by first | (simp [entryFrame, mkF, argsToLocals, Value.category]; done) | rfl
set_option maxRecDepth 65536 in
set_option maxHeartbeats 40000000 in
theorem rm31 (l : Launch) (Z : State) (a0 : Array Value) (hw : ∀ d ∈ tables_1, d.before a0 Z = true) (ws : List Jvm.Cond) (a0 : Addr) (z1 : Int32) (fm : Value) (cd : Int32) (t : Addr) (n : Nat) (N : Nat) (g1 : Nat → Int32) (ch : Nat → Int32) (xs : List (Int32 × Option Int32)) (h0 : Heap) (n0 : Nat) (Z0 : n0 ≤ h0.size) (SS : own_SS Z h0 n0 z1 fm) (E0 : Exa Z h0 a0 "java/lang/String") (Fc : Fld Z h0 a0 "java/lang/String" "coder" "B" (.int cd)) (Fv : Fld Z h0 a0 "java/lang/String" "value" "[B" (.ref t)) (Y0 : own_Y .byte Z h0 t N g1) (hz1 : ¬ z1 = 0) (hD : own_D cd n N g1 ch) (hT : own_T ch n 0 xs) :
    MetFree l (⟨"java/lang/String", "codePointCount", "(II)I"⟩ : MethodName) (head1 (Jvm.Cond.code (⟨"java/lang/String", "codePointCount", "(II)I"⟩ : MethodName) jdk_42_method_59_code 3 (some .int) :: ws) ({ frames := 3, cells := 0, slots := 0, locals := 44 } : Room)) (fun a U => a = #[(.ref a0), (.int (0 : Int32)), (.int n.toInt32)] ∧ Z.Warmed39 U.vm ∧ U.heap = h0) (fun _ _ _ _ _ => True) (fun _ U o U' => ∃ v L, o = .returned v ∧ own_QV (.int xs.length.toInt32) h0 n0 v U'.heap L ∧ FrameEnd U o U' L ({ frames := 3, cells := 0, slots := 0, locals := 44 } : Room).cells ({ frames := 3, cells := 0, slots := 0, locals := 44 } : Room).slots) := by
  refine MetFree.of_bodySF (plainFor_of_name pn_31) hisR ?_
  intro p e s m args below meth c s₁ Bd hml0 hP hK
  obtain ⟨rfl, hZ, hh⟩ := hP
  have hx := Bd.exec
  have hby := Bd.bytes
  have hlk : meth.locks = false := BodyLoose.notSynchronized Bd
  have hret := Bd.returns
  have hml : c.maxLocals = 3 := hml0
  have hown : s.vm.findClass "java/lang/String" = some m.cls := findClass_of_methodNamed Bd.named
  have hnm := (name_of_methodNamed Bd.named Bd.method).1
  have X0 : Stand p l e ({ frames := 3, cells := 0, slots := 0, locals := 44 } : Room) s m #[(.ref a0), (.int (0 : Int32)), (.int n.toInt32)] below meth c s₁ [] 0 0 := Stand.of_body Bd
  have e0 : s₁.heap = h0 := by rw [← hh, Bd.state]; rfl
  have N0 := Fr.nil n0
  show own_G p.tables e below (own_E s ({ frames := 3, cells := 0, slots := 0, locals := 44 } : Room).cells ({ frames := 3, cells := 0, slots := 0, locals := 44 } : Room).slots) (own_QV (.int xs.length.toInt32) h0 n0) (s₁.setTop (entryFrame m #[(.ref a0), (.int (0 : Int32)), (.int n.toInt32)] 3))
  refine own_st ?_ (fun t_ k_ => castTop (ef_31 m a0 n) k_)
  show own_G p.tables e below _ _ (s₁.setTop (mkF m 0 #[.val (.ref a0), .val (.int (0 : Int32)), .val (.int n.toInt32)] []))
  refine own_st ?_ (fun t_ k_ => XS.iloadN X0.here hx rfl (hb hby d31_0) rfl k_)
  show own_G p.tables e below _ _ (s₁.setTop (mkF m 1 #[.val (.ref a0), .val (.int (0 : Int32)), .val (.int n.toInt32)] [(.int (0 : Int32))]))
  refine own_st ?_ (fun t_ k_ => XS.iloadN X0.here hx rfl (hb hby d31_1) rfl k_)
  show own_G p.tables e below _ _ (s₁.setTop (mkF m 2 #[.val (.ref a0), .val (.int (0 : Int32)), .val (.int n.toInt32)] [(.int n.toInt32), (.int (0 : Int32))]))
  refine own_st ?_ (fun t_ k_ => XS.aloadN X0.here hx rfl (hb hby d31_2) rfl rfl k_)
  show own_G p.tables e below _ _ (s₁.setTop (mkF m 3 #[.val (.ref a0), .val (.int (0 : Int32)), .val (.int n.toInt32)] [(.ref a0), (.int n.toInt32), (.int (0 : Int32))]))
  obtain ⟨cq1, kq1, q1a, q1b, q1c⟩ := isOf hZ e0 E0
  obtain ⟨_, _, ⟨T1, L1, k1, n1⟩, -, X1, ⟨Lc1, hQ1, l1, y1, z1⟩, st1⟩ := X0.virtualBack hx (y := (⟨"java/lang/String", "length", "()I"⟩ : MethodName)) (z := (⟨"java/lang/String", "length", "()I"⟩ : MethodName)) hown (mvT hZ (hw _ (List.mem_of_getElem? (i := 146) rfl))) (mvT hZ (hw _ (List.mem_of_getElem? (i := 85) rfl))) (notFace_of_selects (args := #[]) (mvT hZ (hw _ (List.mem_of_getElem? (i := 87) rfl)))) (mvT hZ (hw _ (List.mem_of_getElem? (i := 87) rfl))) (mvT hZ (hw _ (List.mem_of_getElem? (i := 86) rfl))) (by decide) (backOf (W := 2) (rm18 l Z _ hw [] a0 z1 fm cd t n N g1 ch h0 n0 Z0 SS E0 Fc Fv Y0 hz1 hD) hZ (hw _ (List.mem_of_getElem? (i := 88) rfl)) (hw _ (List.mem_of_getElem? (i := 14) rfl)) (by decide) (by decide)) q1a q1c (g := (mkF m 3 #[.val (.ref a0), .val (.int (0 : Int32)), .val (.int n.toInt32)] [(.ref a0), (.int n.toInt32), (.int (0 : Int32))])) rfl (by rw [hml]; rfl) (Steps.refl _) (argsL := []) (rest := [(.int n.toInt32), (.int (0 : Int32))]) (lenOf pd_17 rfl) rfl (by show 2 * 0 + _ ≤ _; exact Nat.le_of_eq rfl) (hb hby d31_3) (fun _ _ => ⟨rfl, e0, (by decide : 0 + 0 ≤ _), (by decide : 0 + 0 ≤ _)⟩)
  dsimp only [Pt.U, Pt.locs, Pt.cells, Pt.slots] at X1 l1 y1 z1 st1 hQ1
  subst l1 y1 z1
  obtain ⟨rfl, N1q, e1⟩ := hQ1
  have N1 := Fr.app N0 N1q
  refine own_st ?_ (fun t_ k_ => st1.trans k_)
  show own_G p.tables e below _ _ (T1.setTop (mkF m 6 #[.val (.ref a0), .val (.int (0 : Int32)), .val (.int n.toInt32)] [(.int n.toInt32), (.int n.toInt32), (.int (0 : Int32))]))
  obtain ⟨_, _, ⟨T2, L2, k2, n2⟩, -, X2, ⟨Lc2, hQ2, l2, y2, z2⟩, st2⟩ := Jvm.LawKit.callS X1 hx (y := (⟨"java/util/Objects", "checkFromToIndex", "(III)I"⟩ : MethodName)) hown (mvT hZ (hw _ (List.mem_of_getElem? (i := 147) rfl))) (mvT hZ (hw _ (List.mem_of_getElem? (i := 148) rfl))) (mvT hZ (hw _ (List.mem_of_getElem? (i := 77) rfl))) (mvT hZ (hw _ (List.mem_of_getElem? (i := 149) rfl))) (by decide) (backOf (W := 0) (rm32 l Z _ hw [] (0 : Int32) n.toInt32 n.toInt32  h0 n0 Z0 (by decide) (own_neg (by have := hD.2.1; omega)) Int32.lt_irrefl) hZ (hw _ (List.mem_of_getElem? (i := 149) rfl)) (hw _ (List.mem_of_getElem? (i := 77) rfl)) (by decide) (by decide)) (g := (mkF m 6 #[.val (.ref a0), .val (.int (0 : Int32)), .val (.int n.toInt32)] [(.int n.toInt32), (.int n.toInt32), (.int (0 : Int32))])) rfl (by rw [hml]; rfl) (argsL := [(.int (0 : Int32)), (.int n.toInt32), (.int n.toInt32)]) (rest := []) (lenOf pd_18 rfl) rfl (by show 2 * 0 + _ ≤ _; exact Nat.le_of_eq rfl) (hb hby d31_6) (fun _ _ => ⟨rfl, e1, (by decide : 0 + 0 ≤ _), (by decide : 0 + 0 ≤ _)⟩)
  dsimp only [Pt.U, Pt.locs, Pt.cells, Pt.slots] at X2 l2 y2 z2 st2 hQ2
  subst l2 y2 z2
  obtain ⟨rfl, N2q, e2⟩ := hQ2
  have N2 := Fr.app N1 N2q
  refine own_st ?_ st2
  show own_G p.tables e below _ _ (T2.setTop (mkF m 9 #[.val (.ref a0), .val (.int (0 : Int32)), .val (.int n.toInt32)] [(.int (f32 (0 : Int32) n.toInt32 n.toInt32))]))
  refine own_st ?_ (fun t_ k_ => XS.pop X2.here hx rfl (hb hby d31_9) rfl rfl k_)
  show own_G p.tables e below _ _ (T2.setTop (mkF m 10 #[.val (.ref a0), .val (.int (0 : Int32)), .val (.int n.toInt32)] []))
  by_cases hcd : cd = 0
  · refine own_st ?_ (fun t_ k_ => XS.aloadN X2.here hx rfl (hb hby d31_10) rfl rfl k_)
    show own_G p.tables e below _ _ (T2.setTop (mkF m 11 #[.val (.ref a0), .val (.int (0 : Int32)), .val (.int n.toInt32)] [(.ref a0)]))
    obtain ⟨cq3, kq3, q3a, q3b, q3c⟩ := isOf hZ e2 E0
    obtain ⟨_, _, ⟨T3, L3, k3, n3⟩, -, X3, ⟨Lc3, hQ3, l3, y3, z3⟩, st3⟩ := X2.virtualBack hx (y := (⟨"java/lang/String", "isLatin1", "()Z"⟩ : MethodName)) (z := (⟨"java/lang/String", "isLatin1", "()Z"⟩ : MethodName)) hown (mvT hZ (hw _ (List.mem_of_getElem? (i := 99) rfl))) (mvT hZ (hw _ (List.mem_of_getElem? (i := 100) rfl))) (notFace_of_selects (args := #[]) (mvT hZ (hw _ (List.mem_of_getElem? (i := 102) rfl)))) (mvT hZ (hw _ (List.mem_of_getElem? (i := 102) rfl))) (mvT hZ (hw _ (List.mem_of_getElem? (i := 101) rfl))) (by decide) (backOf (W := 0) (rm21L l Z _ hw [] a0 z1 fm cd h0 n0 Z0 SS Fc hz1 hcd) hZ (hw _ (List.mem_of_getElem? (i := 103) rfl)) (hw _ (List.mem_of_getElem? (i := 14) rfl)) (by decide) (by decide)) q3a q3c (g := (mkF m 11 #[.val (.ref a0), .val (.int (0 : Int32)), .val (.int n.toInt32)] [(.ref a0)])) rfl (by rw [hml]; rfl) (Steps.refl _) (argsL := []) (rest := []) (lenOf pd_5 rfl) rfl (by show 2 * 0 + _ ≤ _; exact Nat.le_of_eq rfl) (hb hby d31_11) (fun _ _ => ⟨rfl, e2, (by decide : 0 + 0 ≤ _), (by decide : 0 + 0 ≤ _)⟩)
    dsimp only [Pt.U, Pt.locs, Pt.cells, Pt.slots] at X3 l3 y3 z3 st3 hQ3
    subst l3 y3 z3
    obtain ⟨rfl, N3q, e3⟩ := hQ3
    have N3 := Fr.app N2 N3q
    refine own_st ?_ (fun t_ k_ => st3.trans k_)
    show own_G p.tables e below _ _ (T3.setTop (mkF m 14 #[.val (.ref a0), .val (.int (0 : Int32)), .val (.int n.toInt32)] [(.int (1 : Int32))]))
    refine own_st ?_ (fun t_ k_ => XS.ifNo X3.here hx rfl (hb hby d31_14) rfl ((if0 _ _).trans (feq (by decide : ¬ ((1 : Int32) = (0 : Int32)))).1) k_)
    show own_G p.tables e below _ _ (T3.setTop (mkF m 17 #[.val (.ref a0), .val (.int (0 : Int32)), .val (.int n.toInt32)] []))
    refine own_st ?_ (fun t_ k_ => XS.iloadN X3.here hx rfl (hb hby d31_17) rfl k_)
    show own_G p.tables e below _ _ (T3.setTop (mkF m 18 #[.val (.ref a0), .val (.int (0 : Int32)), .val (.int n.toInt32)] [(.int n.toInt32)]))
    refine own_st ?_ (fun t_ k_ => XS.iloadN X3.here hx rfl (hb hby d31_18) rfl k_)
    show own_G p.tables e below _ _ (T3.setTop (mkF m 19 #[.val (.ref a0), .val (.int (0 : Int32)), .val (.int n.toInt32)] [(.int (0 : Int32)), (.int n.toInt32)]))
    refine own_st ?_ (fun t_ k_ => XS.isub X3.here hx rfl (hb hby d31_19) rfl k_)
    show own_G p.tables e below _ _ (T3.setTop (mkF m 20 #[.val (.ref a0), .val (.int (0 : Int32)), .val (.int n.toInt32)] [(.int (n.toInt32 - (0 : Int32)))]))
    exact own_retI X3 hx hlk hret (hb hby d31_20) (by decide) (by decide) ⟨congrArg (fun z => some (Value.int z)) (own_latcount hD hcd hT), N3, e3⟩
  · refine own_st ?_ (fun t_ k_ => XS.aloadN X2.here hx rfl (hb hby d31_10) rfl rfl k_)
    show own_G p.tables e below _ _ (T2.setTop (mkF m 11 #[.val (.ref a0), .val (.int (0 : Int32)), .val (.int n.toInt32)] [(.ref a0)]))
    obtain ⟨cq4, kq4, q4a, q4b, q4c⟩ := isOf hZ e2 E0
    obtain ⟨_, _, ⟨T4, L4, k4, n4⟩, -, X4, ⟨Lc4, hQ4, l4, y4, z4⟩, st4⟩ := X2.virtualBack hx (y := (⟨"java/lang/String", "isLatin1", "()Z"⟩ : MethodName)) (z := (⟨"java/lang/String", "isLatin1", "()Z"⟩ : MethodName)) hown (mvT hZ (hw _ (List.mem_of_getElem? (i := 99) rfl))) (mvT hZ (hw _ (List.mem_of_getElem? (i := 100) rfl))) (notFace_of_selects (args := #[]) (mvT hZ (hw _ (List.mem_of_getElem? (i := 102) rfl)))) (mvT hZ (hw _ (List.mem_of_getElem? (i := 102) rfl))) (mvT hZ (hw _ (List.mem_of_getElem? (i := 101) rfl))) (by decide) (backOf (W := 0) (rm21U l Z _ hw [] a0 z1 fm cd h0 n0 Z0 SS Fc hz1 hcd) hZ (hw _ (List.mem_of_getElem? (i := 103) rfl)) (hw _ (List.mem_of_getElem? (i := 14) rfl)) (by decide) (by decide)) q4a q4c (g := (mkF m 11 #[.val (.ref a0), .val (.int (0 : Int32)), .val (.int n.toInt32)] [(.ref a0)])) rfl (by rw [hml]; rfl) (Steps.refl _) (argsL := []) (rest := []) (lenOf pd_5 rfl) rfl (by show 2 * 0 + _ ≤ _; exact Nat.le_of_eq rfl) (hb hby d31_11) (fun _ _ => ⟨rfl, e2, (by decide : 0 + 0 ≤ _), (by decide : 0 + 0 ≤ _)⟩)
    dsimp only [Pt.U, Pt.locs, Pt.cells, Pt.slots] at X4 l4 y4 z4 st4 hQ4
    subst l4 y4 z4
    obtain ⟨rfl, N4q, e4⟩ := hQ4
    have N4 := Fr.app N2 N4q
    refine own_st ?_ (fun t_ k_ => st4.trans k_)
    show own_G p.tables e below _ _ (T4.setTop (mkF m 14 #[.val (.ref a0), .val (.int (0 : Int32)), .val (.int n.toInt32)] [(.int (0 : Int32))]))
    refine own_st ?_ (fun t_ k_ => XS.ifYes X4.here hx rfl (pc0 := 14) (pc' := 21) rfl (hb hby d31_14) rfl ((if0 _ _).trans (teq (by decide : (0 : Int32) = (0 : Int32))).1) (by decide) (by decide) k_)
    show own_G p.tables e below _ _ (T4.setTop (mkF m 21 #[.val (.ref a0), .val (.int (0 : Int32)), .val (.int n.toInt32)] []))
    refine own_st ?_ (fun t_ k_ => XS.aloadN X4.here hx rfl (hb hby d31_21) rfl rfl k_)
    show own_G p.tables e below _ _ (T4.setTop (mkF m 22 #[.val (.ref a0), .val (.int (0 : Int32)), .val (.int n.toInt32)] [(.ref a0)]))
    obtain ⟨T5, X5, e5, st5⟩ := getF X4 hx hZ hown (host := "") (Or.inl (hw _ (List.mem_of_getElem? (i := 61) rfl))) Via.refl e4 Fv (g := (mkF m 22 #[.val (.ref a0), .val (.int (0 : Int32)), .val (.int n.toInt32)] [(.ref a0)])) rfl rfl (hb hby d31_22)
    refine own_st ?_ st5
    show own_G p.tables e below _ _ (T5.setTop (mkF m 25 #[.val (.ref a0), .val (.int (0 : Int32)), .val (.int n.toInt32)] [(.ref t)]))
    refine own_st ?_ (fun t_ k_ => XS.iloadN X5.here hx rfl (hb hby d31_25) rfl k_)
    show own_G p.tables e below _ _ (T5.setTop (mkF m 26 #[.val (.ref a0), .val (.int (0 : Int32)), .val (.int n.toInt32)] [(.int (0 : Int32)), (.ref t)]))
    refine own_st ?_ (fun t_ k_ => XS.iloadN X5.here hx rfl (hb hby d31_26) rfl k_)
    show own_G p.tables e below _ _ (T5.setTop (mkF m 27 #[.val (.ref a0), .val (.int (0 : Int32)), .val (.int n.toInt32)] [(.int n.toInt32), (.int (0 : Int32)), (.ref t)]))
    obtain ⟨_, _, ⟨T6, L6, k6, n6⟩, -, X6, ⟨Lc6, hQ6, l6, y6, z6⟩, st6⟩ := Jvm.LawKit.callS X5 hx (y := (⟨"java/lang/StringUTF16", "codePointCount", "([BII)I"⟩ : MethodName)) hown (mvT hZ (hw _ (List.mem_of_getElem? (i := 153) rfl))) (mvT hZ (hw _ (List.mem_of_getElem? (i := 154) rfl))) (mvT hZ (hw _ (List.mem_of_getElem? (i := 31) rfl))) (mvT hZ (hw _ (List.mem_of_getElem? (i := 155) rfl))) (by decide) (backOf (W := 0) (rm34 l Z _ hw [] t z1 fm n N g1 ch xs h0 n0 Z0 SS Y0 (own_D_utf hD hcd).1 hD.2.1 (own_D_utf hD hcd).2 hT) hZ (hw _ (List.mem_of_getElem? (i := 155) rfl)) (hw _ (List.mem_of_getElem? (i := 31) rfl)) (by decide) (by decide)) (g := (mkF m 27 #[.val (.ref a0), .val (.int (0 : Int32)), .val (.int n.toInt32)] [(.int n.toInt32), (.int (0 : Int32)), (.ref t)])) rfl (by rw [hml]; rfl) (argsL := [(.ref t), (.int (0 : Int32)), (.int n.toInt32)]) (rest := []) (lenOf pd_19 rfl) rfl (by show 2 * 0 + _ ≤ _; exact Nat.le_of_eq rfl) (hb hby d31_27) (fun _ _ => ⟨rfl, e5, (by decide : 0 + 0 ≤ _), (by decide : 0 + 0 ≤ _)⟩)
    dsimp only [Pt.U, Pt.locs, Pt.cells, Pt.slots] at X6 l6 y6 z6 st6 hQ6
    subst l6 y6 z6
    obtain ⟨rfl, N6q, e6⟩ := hQ6
    have N6 := Fr.app N4 N6q
    refine own_st ?_ st6
    show own_G p.tables e below _ _ (T6.setTop (mkF m 30 #[.val (.ref a0), .val (.int (0 : Int32)), .val (.int n.toInt32)] [(.int xs.length.toInt32)]))
    exact own_retI X6 hx hlk hret (hb hby d31_30) (by decide) (by decide) ⟨rfl, N6, e6⟩
theorem d15_0 : decode jdk_30_method_1_code 0 = .ok (.aload_n 0, 1) := by decide +kernel
theorem d15_1 : decode jdk_30_method_1_code 1 = .ok (.invokespecial 1, 3) := by decide +kernel
theorem d15_4 : decode jdk_30_method_1_code 4 = .ok (.return_, 1) := by decide +kernel
theorem pn_15 : plainName "java/lang/Record" = true := by first | (simp [plainName, overriddenIn]; done) | decide +kernel
theorem ef_15 (m : MethodId) (a0 : Addr) : entryFrame m #[(.ref a0)] 1 = mkF m 0 #[.val (.ref a0)] [] := by first | (simp [entryFrame, mkF, argsToLocals, Value.category]; done) | rfl
set_option maxRecDepth 65536 in
set_option maxHeartbeats 40000000 in
theorem rm15 (l : Launch) (Z : State) (a0 : Array Value) (hw : ∀ d ∈ tables_1, d.before a0 Z = true) (ws : List Jvm.Cond) (a0 : Addr) (h0 : Heap) (n0 : Nat) (Z0 : n0 ≤ h0.size) :
    MetFree l (⟨"java/lang/Record", "<init>", "()V"⟩ : MethodName) (head1 (Jvm.Cond.code (⟨"java/lang/Record", "<init>", "()V"⟩ : MethodName) jdk_30_method_1_code 1 none :: ws) ({ frames := 1, cells := 0, slots := 0, locals := 12 } : Room)) (fun a U => a = #[(.ref a0)] ∧ Z.Warmed39 U.vm ∧ U.heap = h0) (fun _ _ _ _ _ => True) (fun _ U o U' => ∃ v L, o = .returned v ∧ own_QN h0 n0 v U'.heap L ∧ FrameEnd U o U' L ({ frames := 1, cells := 0, slots := 0, locals := 12 } : Room).cells ({ frames := 1, cells := 0, slots := 0, locals := 12 } : Room).slots) := by
  refine MetFree.of_bodySF (plainFor_of_name pn_15) hisR ?_
  intro p e s m args below meth c s₁ Bd hml0 hP hK
  obtain ⟨rfl, hZ, hh⟩ := hP
  have hx := Bd.exec
  have hby := Bd.bytes
  have hlk : meth.locks = false := BodyLoose.notSynchronized Bd
  have hret := Bd.returns
  have hml : c.maxLocals = 1 := hml0
  have hown : s.vm.findClass "java/lang/Record" = some m.cls := findClass_of_methodNamed Bd.named
  have hnm := (name_of_methodNamed Bd.named Bd.method).1
  have X0 : Stand p l e ({ frames := 1, cells := 0, slots := 0, locals := 12 } : Room) s m #[(.ref a0)] below meth c s₁ [] 0 0 := Stand.of_body Bd
  have e0 : s₁.heap = h0 := by rw [← hh, Bd.state]; rfl
  have N0 := Fr.nil n0
  show own_G p.tables e below (own_E s ({ frames := 1, cells := 0, slots := 0, locals := 12 } : Room).cells ({ frames := 1, cells := 0, slots := 0, locals := 12 } : Room).slots) (own_QN h0 n0) (s₁.setTop (entryFrame m #[(.ref a0)] 1))
  refine own_st ?_ (fun t_ k_ => castTop (ef_15 m a0) k_)
  show own_G p.tables e below _ _ (s₁.setTop (mkF m 0 #[.val (.ref a0)] []))
  refine own_st ?_ (fun t_ k_ => XS.aloadN X0.here hx rfl (hb hby d15_0) rfl rfl k_)
  show own_G p.tables e below _ _ (s₁.setTop (mkF m 1 #[.val (.ref a0)] [(.ref a0)]))
  obtain ⟨T1, X1, e1, st1⟩ := initO X0 hx hZ hown (hw _ (List.mem_of_getElem? (i := 71) rfl)) (hw _ (List.mem_of_getElem? (i := 26) rfl)) (hw _ (List.mem_of_getElem? (i := 27) rfl)) e0 (g := (mkF m 1 #[.val (.ref a0)] [(.ref a0)])) rfl (by rw [hml]; rfl) rfl (hb hby d15_1) (by decide) (W := 0) (by show 2 * 0 + _ ≤ _; exact Nat.le_of_eq rfl) (by decide)
  refine own_st ?_ st1
  show own_G p.tables e below _ _ (T1.setTop (mkF m 4 #[.val (.ref a0)] []))
  exact own_retV X1 hx hlk hret (hb hby d15_4) (by decide) (by decide) ⟨rfl, N0, e1⟩
theorem d16_0 : decode jdk_31_method_11_code 0 = .ok (.aload_n 0, 1) := by decide +kernel
theorem d16_1 : decode jdk_31_method_11_code 1 = .ok (.ifnonnull 12, 3) := by decide +kernel
theorem d16_13 : decode jdk_31_method_11_code 13 = .ok (.aload_n 0, 1) := by decide +kernel
theorem d16_14 : decode jdk_31_method_11_code 14 = .ok (.areturn, 1) := by decide +kernel
def f16 (a0 : Addr) (a1 : Addr) : Addr := a0
theorem pn_16 : plainName "java/util/Objects" = true := by first | (simp [plainName, overriddenIn]; done) | decide +kernel
theorem ef_16 (m : MethodId) (a0 : Addr) (a1 : Addr) : entryFrame m #[(.ref a0), (.ref a1)] 2 = mkF m 0 #[.val (.ref a0), .val (.ref a1)] [] := by first | (simp [entryFrame, mkF, argsToLocals, Value.category]; done) | rfl
set_option maxRecDepth 65536 in
set_option maxHeartbeats 40000000 in
theorem rm16 (l : Launch) (Z : State) (a0 : Array Value) (hw : ∀ d ∈ tables_1, d.before a0 Z = true) (ws : List Jvm.Cond) (a0 : Addr) (a1 : Addr) (h0 : Heap) (n0 : Nat) (Z0 : n0 ≤ h0.size) :
    MetFree l (⟨"java/util/Objects", "requireNonNull", "(Ljava/lang/Object;Ljava/lang/String;)Ljava/lang/Object;"⟩ : MethodName) (head1 (Jvm.Cond.code (⟨"java/util/Objects", "requireNonNull", "(Ljava/lang/Object;Ljava/lang/String;)Ljava/lang/Object;"⟩ : MethodName) jdk_31_method_11_code 2 (some (.object "java/lang/Object")) :: ws) ({ frames := 0, cells := 0, slots := 0, locals := 0 } : Room)) (fun a U => a = #[(.ref a0), (.ref a1)] ∧ Z.Warmed39 U.vm ∧ U.heap = h0) (fun _ _ _ _ _ => True) (fun _ U o U' => ∃ v L, o = .returned v ∧ own_QV (.ref (f16 a0 a1 )) h0 n0 v U'.heap L ∧ FrameEnd U o U' L ({ frames := 0, cells := 0, slots := 0, locals := 0 } : Room).cells ({ frames := 0, cells := 0, slots := 0, locals := 0 } : Room).slots) := by
  refine MetFree.of_bodySF (plainFor_of_name pn_16) hisR ?_
  intro p e s m args below meth c s₁ Bd hml0 hP hK
  obtain ⟨rfl, hZ, hh⟩ := hP
  have hx := Bd.exec
  have hby := Bd.bytes
  have hlk : meth.locks = false := BodyLoose.notSynchronized Bd
  have hret := Bd.returns
  have hml : c.maxLocals = 2 := hml0
  have hown : s.vm.findClass "java/util/Objects" = some m.cls := findClass_of_methodNamed Bd.named
  have hnm := (name_of_methodNamed Bd.named Bd.method).1
  have X0 : Stand p l e ({ frames := 0, cells := 0, slots := 0, locals := 0 } : Room) s m #[(.ref a0), (.ref a1)] below meth c s₁ [] 0 0 := Stand.of_body Bd
  have e0 : s₁.heap = h0 := by rw [← hh, Bd.state]; rfl
  have N0 := Fr.nil n0
  show own_G p.tables e below (own_E s ({ frames := 0, cells := 0, slots := 0, locals := 0 } : Room).cells ({ frames := 0, cells := 0, slots := 0, locals := 0 } : Room).slots) (own_QV (.ref (f16 a0 a1 )) h0 n0) (s₁.setTop (entryFrame m #[(.ref a0), (.ref a1)] 2))
  refine own_st ?_ (fun t_ k_ => castTop (ef_16 m a0 a1) k_)
  show own_G p.tables e below _ _ (s₁.setTop (mkF m 0 #[.val (.ref a0), .val (.ref a1)] []))
  refine own_st ?_ (fun t_ k_ => XS.aloadN X0.here hx rfl (hb hby d16_0) rfl rfl k_)
  show own_G p.tables e below _ _ (s₁.setTop (mkF m 1 #[.val (.ref a0), .val (.ref a1)] [(.ref a0)]))
  refine own_st ?_ (fun t_ k_ => XS.ifnonnullYes X0.here hx rfl (pc0 := 1) (pc' := 13) rfl (hb hby d16_1) rfl (by decide) (by decide) k_)
  show own_G p.tables e below _ _ (s₁.setTop (mkF m 13 #[.val (.ref a0), .val (.ref a1)] []))
  refine own_st ?_ (fun t_ k_ => XS.aloadN X0.here hx rfl (hb hby d16_13) rfl rfl k_)
  show own_G p.tables e below _ _ (s₁.setTop (mkF m 14 #[.val (.ref a0), .val (.ref a1)] [(.ref a0)]))
  refine own_retA X0 hx hlk hret rfl rfl rfl (hb hby d16_14) (by decide) (by decide) ⟨?_, N0, e0⟩
  rw [show f16 a0 a1  = a0 from rfl]
theorem pd_20 : parseMethodDescriptor "(II)I" = some ⟨[.int, .int], some .int⟩ := by decide +kernel
theorem d30_0 : decode prog_14_method_3_code 0 = .ok (.aload_n 0, 1) := by decide +kernel
theorem d30_1 : decode prog_14_method_3_code 1 = .ok (.getfield 52, 3) := by decide +kernel
theorem d30_4 : decode prog_14_method_3_code 4 = .ok (.iconst 0, 1) := by decide +kernel
theorem d30_5 : decode prog_14_method_3_code 5 = .ok (.aload_n 0, 1) := by decide +kernel
theorem d30_6 : decode prog_14_method_3_code 6 = .ok (.getfield 52, 3) := by decide +kernel
theorem d30_9 : decode prog_14_method_3_code 9 = .ok (.invokevirtual 28, 3) := by decide +kernel
theorem d30_12 : decode prog_14_method_3_code 12 = .ok (.invokevirtual 62, 3) := by decide +kernel
theorem d30_15 : decode prog_14_method_3_code 15 = .ok (.iconst 1, 1) := by decide +kernel
theorem d30_16 : decode prog_14_method_3_code 16 = .ok (.if_icmp .le 7, 3) := by decide +kernel
theorem d30_19 : decode prog_14_method_3_code 19 = .ok (.iconst 1, 1) := by decide +kernel
theorem d30_20 : decode prog_14_method_3_code 20 = .ok (.goto 4, 3) := by decide +kernel
theorem d30_23 : decode prog_14_method_3_code 23 = .ok (.iconst 0, 1) := by decide +kernel
theorem d30_24 : decode prog_14_method_3_code 24 = .ok (.ireturn, 1) := by decide +kernel
theorem pn_30 : plainName "com/example/supplant/supplant/automata/Symbol" = true := by first | (simp [plainName, overriddenIn]; done) | decide +kernel
theorem ef_30 (m : MethodId) (a0 : Addr) : entryFrame m #[(.ref a0)] 1 = mkF m 0 #[.val (.ref a0)] [] := by first | (simp [entryFrame, mkF, argsToLocals, Value.category]; done) | rfl
set_option maxRecDepth 65536 in
set_option maxHeartbeats 40000000 in
theorem rm30 (l : Launch) (Z : State) (a0 : Array Value) (hw : ∀ d ∈ tables_1, d.before a0 Z = true) (ws : List Jvm.Cond) (a0 : Addr) (z1 : Int32) (fm : Value) (cd : Int32) (t : Addr) (n : Nat) (N : Nat) (g1 : Nat → Int32) (ch : Nat → Int32) (a1 : Addr) (xs : List (Int32 × Option Int32)) (r : Int32) (h0 : Heap) (n0 : Nat) (Z0 : n0 ≤ h0.size) (SS : own_SS Z h0 n0 z1 fm) (Ft : Fld Z h0 a0 "com/example/supplant/supplant/automata/Symbol" "text" "Ljava/lang/String;" (.ref a1)) (E0 : Exa Z h0 a1 "java/lang/String") (Fc : Fld Z h0 a1 "java/lang/String" "coder" "B" (.int cd)) (Fv : Fld Z h0 a1 "java/lang/String" "value" "[B" (.ref t)) (Y0 : own_Y .byte Z h0 t N g1) (hz1 : ¬ z1 = 0) (hD : own_D cd n N g1 ch) (hT : own_T ch n 0 xs) (hr : own_mc xs.length = r) :
    MetFree l (⟨"com/example/supplant/supplant/automata/Symbol", "isMultiCharacter", "()Z"⟩ : MethodName) (head1 (Jvm.Cond.code (⟨"com/example/supplant/supplant/automata/Symbol", "isMultiCharacter", "()Z"⟩ : MethodName) prog_14_method_3_code 1 (some .boolean) :: ws) ({ frames := 4, cells := 0, slots := 0, locals := 58 } : Room)) (fun a U => a = #[(.ref a0)] ∧ Z.Warmed39 U.vm ∧ U.heap = h0) (fun _ _ _ _ _ => True) (fun _ U o U' => ∃ v L, o = .returned v ∧ own_QV (.int r) h0 n0 v U'.heap L ∧ FrameEnd U o U' L ({ frames := 4, cells := 0, slots := 0, locals := 58 } : Room).cells ({ frames := 4, cells := 0, slots := 0, locals := 58 } : Room).slots) := by
  refine MetFree.of_bodySF (plainFor_of_name pn_30) hisR ?_
  intro p e s m args below meth c s₁ Bd hml0 hP hK
  obtain ⟨rfl, hZ, hh⟩ := hP
  have hx := Bd.exec
  have hby := Bd.bytes
  have hlk : meth.locks = false := BodyLoose.notSynchronized Bd
  have hret := Bd.returns
  have hml : c.maxLocals = 1 := hml0
  have hown : s.vm.findClass "com/example/supplant/supplant/automata/Symbol" = some m.cls := findClass_of_methodNamed Bd.named
  have hnm := (name_of_methodNamed Bd.named Bd.method).1
  have X0 : Stand p l e ({ frames := 4, cells := 0, slots := 0, locals := 58 } : Room) s m #[(.ref a0)] below meth c s₁ [] 0 0 := Stand.of_body Bd
  have e0 : s₁.heap = h0 := by rw [← hh, Bd.state]; rfl
  have N0 := Fr.nil n0
  show own_G p.tables e below (own_E s ({ frames := 4, cells := 0, slots := 0, locals := 58 } : Room).cells ({ frames := 4, cells := 0, slots := 0, locals := 58 } : Room).slots) (own_QV (.int r) h0 n0) (s₁.setTop (entryFrame m #[(.ref a0)] 1))
  refine own_st ?_ (fun t_ k_ => castTop (ef_30 m a0) k_)
  show own_G p.tables e below _ _ (s₁.setTop (mkF m 0 #[.val (.ref a0)] []))
  refine own_st ?_ (fun t_ k_ => XS.aloadN X0.here hx rfl (hb hby d30_0) rfl rfl k_)
  show own_G p.tables e below _ _ (s₁.setTop (mkF m 1 #[.val (.ref a0)] [(.ref a0)]))
  obtain ⟨T1, X1, e1, st1⟩ := getF X0 hx hZ hown (host := "") (Or.inl (hw _ (List.mem_of_getElem? (i := 134) rfl))) Via.refl e0 Ft (g := (mkF m 1 #[.val (.ref a0)] [(.ref a0)])) rfl rfl (hb hby d30_1)
  refine own_st ?_ st1
  show own_G p.tables e below _ _ (T1.setTop (mkF m 4 #[.val (.ref a0)] [(.ref a1)]))
  refine own_st ?_ (fun t_ k_ => XS.iconst X1.here hx rfl (hb hby d30_4) k_)
  show own_G p.tables e below _ _ (T1.setTop (mkF m 5 #[.val (.ref a0)] [(.int (0 : Int32)), (.ref a1)]))
  refine own_st ?_ (fun t_ k_ => XS.aloadN X1.here hx rfl (hb hby d30_5) rfl rfl k_)
  show own_G p.tables e below _ _ (T1.setTop (mkF m 6 #[.val (.ref a0)] [(.ref a0), (.int (0 : Int32)), (.ref a1)]))
  obtain ⟨T2, X2, e2, st2⟩ := getF X1 hx hZ hown (host := "") (Or.inl (hw _ (List.mem_of_getElem? (i := 134) rfl))) Via.refl e1 Ft (g := (mkF m 6 #[.val (.ref a0)] [(.ref a0), (.int (0 : Int32)), (.ref a1)])) rfl rfl (hb hby d30_6)
  refine own_st ?_ st2
  show own_G p.tables e below _ _ (T2.setTop (mkF m 9 #[.val (.ref a0)] [(.ref a1), (.int (0 : Int32)), (.ref a1)]))
  obtain ⟨cq3, kq3, q3a, q3b, q3c⟩ := isOf hZ e2 E0
  obtain ⟨_, _, ⟨T3, L3, k3, n3⟩, -, X3, ⟨Lc3, hQ3, l3, y3, z3⟩, st3⟩ := X2.virtualBack hx (y := (⟨"java/lang/String", "length", "()I"⟩ : MethodName)) (z := (⟨"java/lang/String", "length", "()I"⟩ : MethodName)) hown (mvT hZ (hw _ (List.mem_of_getElem? (i := 84) rfl))) (mvT hZ (hw _ (List.mem_of_getElem? (i := 85) rfl))) (notFace_of_selects (args := #[]) (mvT hZ (hw _ (List.mem_of_getElem? (i := 87) rfl)))) (mvT hZ (hw _ (List.mem_of_getElem? (i := 87) rfl))) (mvT hZ (hw _ (List.mem_of_getElem? (i := 86) rfl))) (by decide) (backOf (W := 2) (rm18 l Z _ hw [] a1 z1 fm cd t n N g1 ch h0 n0 Z0 SS E0 Fc Fv Y0 hz1 hD) hZ (hw _ (List.mem_of_getElem? (i := 88) rfl)) (hw _ (List.mem_of_getElem? (i := 14) rfl)) (by decide) (by decide)) q3a q3c (g := (mkF m 9 #[.val (.ref a0)] [(.ref a1), (.int (0 : Int32)), (.ref a1)])) rfl (by rw [hml]; rfl) (Steps.refl _) (argsL := []) (rest := [(.int (0 : Int32)), (.ref a1)]) (lenOf pd_17 rfl) rfl (by show 2 * 0 + _ ≤ _; exact Nat.le_of_eq rfl) (hb hby d30_9) (fun _ _ => ⟨rfl, e2, (by decide : 0 + 0 ≤ _), (by decide : 0 + 0 ≤ _)⟩)
  dsimp only [Pt.U, Pt.locs, Pt.cells, Pt.slots] at X3 l3 y3 z3 st3 hQ3
  subst l3 y3 z3
  obtain ⟨rfl, N3q, e3⟩ := hQ3
  have N3 := Fr.app N0 N3q
  refine own_st ?_ (fun t_ k_ => st3.trans k_)
  show own_G p.tables e below _ _ (T3.setTop (mkF m 12 #[.val (.ref a0)] [(.int n.toInt32), (.int (0 : Int32)), (.ref a1)]))
  obtain ⟨cq4, kq4, q4a, q4b, q4c⟩ := isOf hZ e3 E0
  obtain ⟨_, _, ⟨T4, L4, k4, n4⟩, -, X4, ⟨Lc4, hQ4, l4, y4, z4⟩, st4⟩ := X3.virtualBack hx (y := (⟨"java/lang/String", "codePointCount", "(II)I"⟩ : MethodName)) (z := (⟨"java/lang/String", "codePointCount", "(II)I"⟩ : MethodName)) hown (mvT hZ (hw _ (List.mem_of_getElem? (i := 141) rfl))) (mvT hZ (hw _ (List.mem_of_getElem? (i := 142) rfl))) (notFace_of_selects (args := #[]) (mvT hZ (hw _ (List.mem_of_getElem? (i := 144) rfl)))) (mvT hZ (hw _ (List.mem_of_getElem? (i := 144) rfl))) (mvT hZ (hw _ (List.mem_of_getElem? (i := 143) rfl))) (by decide) (backOf (W := 0) (rm31 l Z _ hw [] a1 z1 fm cd t n N g1 ch xs h0 n0 Z0 SS E0 Fc Fv Y0 hz1 hD hT) hZ (hw _ (List.mem_of_getElem? (i := 145) rfl)) (hw _ (List.mem_of_getElem? (i := 14) rfl)) (by decide) (by decide)) q4a q4c (g := (mkF m 12 #[.val (.ref a0)] [(.int n.toInt32), (.int (0 : Int32)), (.ref a1)])) rfl (by rw [hml]; rfl) (Steps.refl _) (argsL := [(.int (0 : Int32)), (.int n.toInt32)]) (rest := []) (lenOf pd_20 rfl) rfl (by show 2 * 0 + _ ≤ _; exact Nat.le_of_eq rfl) (hb hby d30_12) (fun _ _ => ⟨rfl, e3, (by decide : 0 + 0 ≤ _), (by decide : 0 + 0 ≤ _)⟩)
  dsimp only [Pt.U, Pt.locs, Pt.cells, Pt.slots] at X4 l4 y4 z4 st4 hQ4
  subst l4 y4 z4
  obtain ⟨rfl, N4q, e4⟩ := hQ4
  have N4 := Fr.app N3 N4q
  refine own_st ?_ (fun t_ k_ => st4.trans k_)
  show own_G p.tables e below _ _ (T4.setTop (mkF m 15 #[.val (.ref a0)] [(.int xs.length.toInt32)]))
  refine own_st ?_ (fun t_ k_ => XS.iconst X4.here hx rfl (hb hby d30_15) k_)
  show own_G p.tables e below _ _ (T4.setTop (mkF m 16 #[.val (.ref a0)] [(.int (1 : Int32)), (.int xs.length.toInt32)]))
  by_cases hc16 : (1 : Int32) < xs.length.toInt32
  · refine own_st ?_ (fun t_ k_ => XS.icmpNo X4.here hx rfl (hb hby d30_16) rfl (tlt hc16).2.2.2 k_)
    show own_G p.tables e below _ _ (T4.setTop (mkF m 19 #[.val (.ref a0)] []))
    refine own_st ?_ (fun t_ k_ => XS.iconst X4.here hx rfl (hb hby d30_19) k_)
    show own_G p.tables e below _ _ (T4.setTop (mkF m 20 #[.val (.ref a0)] [(.int (1 : Int32))]))
    refine own_st ?_ (fun t_ k_ => XS.goto X4.here hx rfl (pc0 := 20) (pc' := 24) rfl (hb hby d30_20) (by decide) (by decide) k_)
    show own_G p.tables e below _ _ (T4.setTop (mkF m 24 #[.val (.ref a0)] [(.int (1 : Int32))]))
    exact own_retN X4 hx hlk (t := .boolean) hret (by simp) (hb hby d30_24) (by decide) (by decide) (z' := (1 : Int32)) rfl ⟨congrArg (fun z => some (Value.int z)) ((own_mc1 (by have := hT.1; have := (own_uns_len xs).1; have := hD.2.1; omega) hc16).symm.trans hr), N4, e4⟩
  · refine own_st ?_ (fun t_ k_ => XS.icmpYes X4.here hx rfl (pc0 := 16) (pc' := 23) rfl (hb hby d30_16) rfl (flt hc16).2.2.2 (by decide) (by decide) k_)
    show own_G p.tables e below _ _ (T4.setTop (mkF m 23 #[.val (.ref a0)] []))
    refine own_st ?_ (fun t_ k_ => XS.iconst X4.here hx rfl (hb hby d30_23) k_)
    show own_G p.tables e below _ _ (T4.setTop (mkF m 24 #[.val (.ref a0)] [(.int (0 : Int32))]))
    exact own_retN X4 hx hlk (t := .boolean) hret (by simp) (hb hby d30_24) (by decide) (by decide) (z' := (0 : Int32)) rfl ⟨congrArg (fun z => some (Value.int z)) ((own_mc0 (by have := hT.1; have := (own_uns_len xs).1; have := hD.2.1; omega) hc16).symm.trans hr), N4, e4⟩
theorem own_eqn {a b : Nat} (h : a = b) : ¬ a.toInt32 < b.toInt32 := by rw [h]; exact Int32.lt_irrefl
theorem pd_22 : parseMethodDescriptor "()V" = some ⟨[], none⟩ := by decide +kernel
theorem pd_21 : parseMethodDescriptor "(I)C" = some ⟨[.int], some .char⟩ := by decide +kernel
theorem pd_23 : parseMethodDescriptor "(Ljava/lang/Object;Ljava/lang/String;)Ljava/lang/Object;" = some ⟨[(.object "java/lang/Object"), (.object "java/lang/String")], some (.object "java/lang/Object")⟩ := by decide +kernel
theorem d14_0 : decode prog_14_method_1_code 0 = .ok (.aload_n 0, 1) := by decide +kernel
theorem d14_1 : decode prog_14_method_1_code 1 = .ok (.invokespecial 1, 3) := by decide +kernel
theorem d14_4 : decode prog_14_method_1_code 4 = .ok (.aload_n 1, 1) := by decide +kernel
theorem d14_5 : decode prog_14_method_1_code 5 = .ok (.ldc 7, 2) := by decide +kernel
theorem d14_7 : decode prog_14_method_1_code 7 = .ok (.invokestatic 9, 3) := by decide +kernel
theorem d14_10 : decode prog_14_method_1_code 10 = .ok (.pop, 1) := by decide +kernel
theorem d14_11 : decode prog_14_method_1_code 11 = .ok (.aload_n 1, 1) := by decide +kernel
theorem d14_12 : decode prog_14_method_1_code 12 = .ok (.invokevirtual 15, 3) := by decide +kernel
theorem d14_15 : decode prog_14_method_1_code 15 = .ok (.ifCond .eq 13, 3) := by decide +kernel
theorem d14_28 : decode prog_14_method_1_code 28 = .ok (.iconst 0, 1) := by decide +kernel
theorem d14_29 : decode prog_14_method_1_code 29 = .ok (.istore_n 2, 1) := by decide +kernel
theorem d14_30 : decode prog_14_method_1_code 30 = .ok (.iload_n 2, 1) := by decide +kernel
theorem d14_31 : decode prog_14_method_1_code 31 = .ok (.aload_n 1, 1) := by decide +kernel
theorem d14_32 : decode prog_14_method_1_code 32 = .ok (.invokevirtual 28, 3) := by decide +kernel
theorem d14_35 : decode prog_14_method_1_code 35 = .ok (.if_icmp .ge 72, 3) := by decide +kernel
theorem d14_38 : decode prog_14_method_1_code 38 = .ok (.aload_n 1, 1) := by decide +kernel
theorem d14_39 : decode prog_14_method_1_code 39 = .ok (.iload_n 2, 1) := by decide +kernel
theorem d14_40 : decode prog_14_method_1_code 40 = .ok (.invokevirtual 32, 3) := by decide +kernel
theorem d14_43 : decode prog_14_method_1_code 43 = .ok (.istore_n 3, 1) := by decide +kernel
theorem d14_44 : decode prog_14_method_1_code 44 = .ok (.iload_n 3, 1) := by decide +kernel
theorem d14_45 : decode prog_14_method_1_code 45 = .ok (.invokestatic 36, 3) := by decide +kernel
theorem d14_48 : decode prog_14_method_1_code 48 = .ok (.ifCond .eq 32, 3) := by decide +kernel
theorem d14_51 : decode prog_14_method_1_code 51 = .ok (.iload_n 2, 1) := by decide +kernel
theorem d14_52 : decode prog_14_method_1_code 52 = .ok (.iconst 1, 1) := by decide +kernel
theorem d14_53 : decode prog_14_method_1_code 53 = .ok (.iadd, 1) := by decide +kernel
theorem d14_54 : decode prog_14_method_1_code 54 = .ok (.aload_n 1, 1) := by decide +kernel
theorem d14_55 : decode prog_14_method_1_code 55 = .ok (.invokevirtual 28, 3) := by decide +kernel
theorem d14_58 : decode prog_14_method_1_code 58 = .ok (.if_icmp .ge 22, 3) := by decide +kernel
theorem d14_61 : decode prog_14_method_1_code 61 = .ok (.aload_n 1, 1) := by decide +kernel
theorem d14_62 : decode prog_14_method_1_code 62 = .ok (.iload_n 2, 1) := by decide +kernel
theorem d14_63 : decode prog_14_method_1_code 63 = .ok (.iconst 1, 1) := by decide +kernel
theorem d14_64 : decode prog_14_method_1_code 64 = .ok (.iadd, 1) := by decide +kernel
theorem d14_65 : decode prog_14_method_1_code 65 = .ok (.invokevirtual 32, 3) := by decide +kernel
theorem d14_68 : decode prog_14_method_1_code 68 = .ok (.invokestatic 42, 3) := by decide +kernel
theorem d14_71 : decode prog_14_method_1_code 71 = .ok (.ifCond .eq 9, 3) := by decide +kernel
theorem d14_74 : decode prog_14_method_1_code 74 = .ok (.iinc 2 1, 3) := by decide +kernel
theorem d14_77 : decode prog_14_method_1_code 77 = .ok (.goto 24, 3) := by decide +kernel
theorem d14_80 : decode prog_14_method_1_code 80 = .ok (.iload_n 3, 1) := by decide +kernel
theorem d14_81 : decode prog_14_method_1_code 81 = .ok (.invokestatic 45, 3) := by decide +kernel
theorem d14_84 : decode prog_14_method_1_code 84 = .ok (.ifCond .eq 17, 3) := by decide +kernel
theorem d14_101 : decode prog_14_method_1_code 101 = .ok (.iinc 2 1, 3) := by decide +kernel
theorem d14_104 : decode prog_14_method_1_code 104 = .ok (.goto (-74), 3) := by decide +kernel
theorem d14_107 : decode prog_14_method_1_code 107 = .ok (.aload_n 0, 1) := by decide +kernel
theorem d14_108 : decode prog_14_method_1_code 108 = .ok (.aload_n 1, 1) := by decide +kernel
theorem d14_109 : decode prog_14_method_1_code 109 = .ok (.putfield 52, 3) := by decide +kernel
theorem d14_112 : decode prog_14_method_1_code 112 = .ok (.return_, 1) := by decide +kernel
theorem pn_14 : plainName "com/example/supplant/supplant/automata/Symbol" = true := by first | (simp [plainName, overriddenIn]; done) | decide +kernel
set_option maxRecDepth 65536 in
set_option maxHeartbeats 40000000 in
theorem own_lsy {p : Program} {l : Launch} {e : Env} {s : State} {m : MethodId} {args : Array Value} {below : List Frame} {meth : Method} {c : Code} {Z : State} {a0' : Array Value} {h0 : Heap} {n0 : Nat} (hx : p.tables.exec = Jvm.exec) (hlk : meth.locks = false) (hw : ∀ d ∈ tables_1, d.before a0' Z = true) (hby : c.code = prog_14_method_1_code) (hml : c.maxLocals = 4) (hret : meth.sig.returnType = none) (hnm : meth.name = "<init>") {a0 a1 t : Addr} {n N : Nat} {g1 ch : Nat → Int32} {z1 cd : Int32} {fm u1 : Value} {vm0 : Vm} {k0 : Nat} (hz1 : ¬ z1 = 0) (rf_fm : fm.isRef = true) (hD : own_D cd n N g1 ch) (g_a0 : n0 ≤ a0) (hZ : Z.Warmed39 (s.setVm vm0).vm) (hown : (s.setVm vm0).vm.findClass "com/example/supplant/supplant/automata/Symbol" = some m.cls) (hS : s.Since vm0 k0) (xs : List (Int32 × Option Int32)) : ∀ {T0 : State} {locs : List Loc} {h1 : Heap} {kx : Nat} {s3 : Slot} (hT : own_T ch n kx xs) (o_s3 : s3 = .unset ∨ ∃ w, s3 = .val w ∧ w.category = 1) (X0 : Stand p l e ({ frames := 5, cells := 2, slots := 100, locals := 66 } : Room) (s.setVm vm0) m args below meth c T0 locs 2 100) (N0 : Fr n0 locs) (e0 : T0.heap = h1) (K0 : Keep h0 h1 [a0]) (SS : own_SS Z h1 n0 z1 fm) (Ea : Exa Z h1 a0 "com/example/supplant/supplant/automata/Symbol") (Ft : Fld Z h1 a0 "com/example/supplant/supplant/automata/Symbol" "text" "Ljava/lang/String;" u1) (E0 : Exa Z h1 a1 "java/lang/String") (Fc : Fld Z h1 a1 "java/lang/String" "coder" "B" (.int cd)) (Fv : Fld Z h1 a1 "java/lang/String" "value" "[B" (.ref t)) (Y0 : own_Y .byte Z h1 t N g1) (Z1 : n0 ≤ h1.size) (hk : k0 ≤ h1.size),
    own_G p.tables e below (own_EW s ({ frames := 5, cells := 2, slots := 100, locals := 66 } : Room).cells ({ frames := 5, cells := 2, slots := 100, locals := 66 } : Room).slots) (own_QK Z none [a0] (fun h => Fld Z h a0 "com/example/supplant/supplant/automata/Symbol" "text" "Ljava/lang/String;" (.ref a1)) h0 n0) (T0.setTop (mkF m 30 #[.val (.ref a0), .val (.ref a1), .val (.int kx.toInt32), s3] [])) := by
  induction xs with
  | nil =>
    intro T0 locs h1 kx s3 hT o_s3 X0 N0 e0 K0 SS Ea Ft E0 Fc Fv Y0 Z1 hk
    refine own_st ?_ (fun t_ k_ => XS.iloadN X0.here hx rfl (hb hby d14_30) rfl k_)
    show own_G p.tables e below _ _ (T0.setTop (mkF m 31 #[.val (.ref a0), .val (.ref a1), .val (.int kx.toInt32), s3] [(.int kx.toInt32)]))
    refine own_st ?_ (fun t_ k_ => XS.aloadN X0.here hx rfl (hb hby d14_31) rfl rfl k_)
    show own_G p.tables e below _ _ (T0.setTop (mkF m 32 #[.val (.ref a0), .val (.ref a1), .val (.int kx.toInt32), s3] [(.ref a1), (.int kx.toInt32)]))
    obtain ⟨cq1, kq1, q1a, q1b, q1c⟩ := isOf hZ e0 E0
    obtain ⟨_, _, ⟨T1, L1, k1, n1⟩, -, X1, ⟨Lc1, hQ1, l1, y1, z1⟩, st1⟩ := X0.virtualBack hx (y := (⟨"java/lang/String", "length", "()I"⟩ : MethodName)) (z := (⟨"java/lang/String", "length", "()I"⟩ : MethodName)) hown (mvT hZ (hw _ (List.mem_of_getElem? (i := 84) rfl))) (mvT hZ (hw _ (List.mem_of_getElem? (i := 85) rfl))) (notFace_of_selects (args := #[]) (mvT hZ (hw _ (List.mem_of_getElem? (i := 87) rfl)))) (mvT hZ (hw _ (List.mem_of_getElem? (i := 87) rfl))) (mvT hZ (hw _ (List.mem_of_getElem? (i := 86) rfl))) (by decide) (backOf (W := 1) (rm18 l Z _ hw [] a1 z1 fm cd t n N g1 ch h1 n0 Z1 SS E0 Fc Fv Y0 hz1 hD) hZ (hw _ (List.mem_of_getElem? (i := 88) rfl)) (hw _ (List.mem_of_getElem? (i := 14) rfl)) (by decide) (by decide)) q1a q1c (g := (mkF m 32 #[.val (.ref a0), .val (.ref a1), .val (.int kx.toInt32), s3] [(.ref a1), (.int kx.toInt32)])) rfl (by rw [hml]; rfl) (Steps.refl _) (argsL := []) (rest := [(.int kx.toInt32)]) (lenOf pd_17 rfl) rfl (by show 2 * 0 + _ ≤ _; exact Nat.le_of_eq rfl) (hb hby d14_32) (fun _ _ => ⟨rfl, e0, (by decide : 2 + 0 ≤ _), (by decide : 100 + 0 ≤ _)⟩)
    dsimp only [Pt.U, Pt.locs, Pt.cells, Pt.slots] at X1 l1 y1 z1 st1 hQ1
    subst l1 y1 z1
    obtain ⟨rfl, N1q, e1⟩ := hQ1
    have N1 := Fr.app N0 N1q
    refine own_st ?_ (fun t_ k_ => st1.trans k_)
    show own_G p.tables e below _ _ (T1.setTop (mkF m 35 #[.val (.ref a0), .val (.ref a1), .val (.int kx.toInt32), s3] [(.int n.toInt32), (.int kx.toInt32)]))
    refine own_st ?_ (fun t_ k_ => XS.icmpYes X1.here hx rfl (pc0 := 35) (pc' := 107) rfl (hb hby d14_35) rfl (flt (own_eqn (by have := hT.1; simp only [own_uns, List.length_nil] at this; omega))).2.1 (by decide) (by decide) k_)
    show own_G p.tables e below _ _ (T1.setTop (mkF m 107 #[.val (.ref a0), .val (.ref a1), .val (.int kx.toInt32), s3] []))
    refine own_st ?_ (fun t_ k_ => XS.aloadN X1.here hx rfl (hb hby d14_107) rfl rfl k_)
    show own_G p.tables e below _ _ (T1.setTop (mkF m 108 #[.val (.ref a0), .val (.ref a1), .val (.int kx.toInt32), s3] [(.ref a0)]))
    refine own_st ?_ (fun t_ k_ => XS.aloadN X1.here hx rfl (hb hby d14_108) rfl rfl k_)
    show own_G p.tables e below _ _ (T1.setTop (mkF m 109 #[.val (.ref a0), .val (.ref a1), .val (.int kx.toInt32), s3] [(.ref a1), (.ref a0)]))
    obtain ⟨T2, h2, X2, e2, W2, st2⟩ := putF X1 hx hZ hown (host := "") (Or.inl (hw _ (List.mem_of_getElem? (i := 134) rfl))) Via.refl e1 Ft Ea (Or.inr ⟨(hw _ (List.mem_of_getElem? (i := 135) rfl)), rfl, hnm⟩) (hw _ (List.mem_of_getElem? (i := 10) rfl)) (ty := (.object "java/lang/String")) (by decide) rfl rfl (g := (mkF m 109 #[.val (.ref a0), .val (.ref a1), .val (.int kx.toInt32), s3] [(.ref a1), (.ref a0)])) rfl rfl (hb hby d14_109)
    have N2 := Fr.snoc X2 N1 g_a0
    have F3_Z : own_SS Z h2 n0 z1 fm := own_SS_keep SS (Keep.of_wr W2) (own_alS g_a0 own_al0)
    have F4_E : Exa Z h2 a0 "com/example/supplant/supplant/automata/Symbol" := Ea.wr W2
    have F5_text : Fld Z h2 a0 "com/example/supplant/supplant/automata/Symbol" "text" "Ljava/lang/String;" (.ref a1) := Ft.same W2
    have hkc6 := Nat.le_trans hk (Keep.of_wr W2).1
    have Zs7 : n0 ≤ h2.size := Nat.le_trans Z1 (Keep.of_wr W2).1
    have Kc8 : Keep h0 h2 [a0] := K0.wr W2 (Or.inl (List.mem_of_getElem? (i := 0) rfl))
    refine own_st ?_ st2
    show own_G p.tables e below _ _ (T2.setTop (mkF m 112 #[.val (.ref a0), .val (.ref a1), .val (.int kx.toInt32), s3] []))
    refine own_retVW X2 hx hlk hS (by rw [e2]; exact hkc6) hret (hb hby d14_112) (by decide) (by decide) ⟨rfl, N2, ?_⟩
    rw [e2]
    exact ⟨Kc8, F5_text⟩
  | cons x xs ih =>
    intro T0 locs h1 kx s3 hT o_s3 X0 N0 e0 K0 SS Ea Ft E0 Fc Fv Y0 Z1 hk
    obtain ⟨c1, o1⟩ := x
    cases o1 with
    | none =>
      refine own_st ?_ (fun t_ k_ => XS.iloadN X0.here hx rfl (hb hby d14_30) rfl k_)
      show own_G p.tables e below _ _ (T0.setTop (mkF m 31 #[.val (.ref a0), .val (.ref a1), .val (.int kx.toInt32), s3] [(.int kx.toInt32)]))
      refine own_st ?_ (fun t_ k_ => XS.aloadN X0.here hx rfl (hb hby d14_31) rfl rfl k_)
      show own_G p.tables e below _ _ (T0.setTop (mkF m 32 #[.val (.ref a0), .val (.ref a1), .val (.int kx.toInt32), s3] [(.ref a1), (.int kx.toInt32)]))
      obtain ⟨cq9, kq9, q9a, q9b, q9c⟩ := isOf hZ e0 E0
      obtain ⟨_, _, ⟨T9, L9, k9, n9⟩, -, X9, ⟨Lc9, hQ9, l9, y9, z9⟩, st9⟩ := X0.virtualBack hx (y := (⟨"java/lang/String", "length", "()I"⟩ : MethodName)) (z := (⟨"java/lang/String", "length", "()I"⟩ : MethodName)) hown (mvT hZ (hw _ (List.mem_of_getElem? (i := 84) rfl))) (mvT hZ (hw _ (List.mem_of_getElem? (i := 85) rfl))) (notFace_of_selects (args := #[]) (mvT hZ (hw _ (List.mem_of_getElem? (i := 87) rfl)))) (mvT hZ (hw _ (List.mem_of_getElem? (i := 87) rfl))) (mvT hZ (hw _ (List.mem_of_getElem? (i := 86) rfl))) (by decide) (backOf (W := 1) (rm18 l Z _ hw [] a1 z1 fm cd t n N g1 ch h1 n0 Z1 SS E0 Fc Fv Y0 hz1 hD) hZ (hw _ (List.mem_of_getElem? (i := 88) rfl)) (hw _ (List.mem_of_getElem? (i := 14) rfl)) (by decide) (by decide)) q9a q9c (g := (mkF m 32 #[.val (.ref a0), .val (.ref a1), .val (.int kx.toInt32), s3] [(.ref a1), (.int kx.toInt32)])) rfl (by rw [hml]; rfl) (Steps.refl _) (argsL := []) (rest := [(.int kx.toInt32)]) (lenOf pd_17 rfl) rfl (by show 2 * 0 + _ ≤ _; exact Nat.le_of_eq rfl) (hb hby d14_32) (fun _ _ => ⟨rfl, e0, (by decide : 2 + 0 ≤ _), (by decide : 100 + 0 ≤ _)⟩)
      dsimp only [Pt.U, Pt.locs, Pt.cells, Pt.slots] at X9 l9 y9 z9 st9 hQ9
      subst l9 y9 z9
      obtain ⟨rfl, N9q, e9⟩ := hQ9
      have N9 := Fr.app N0 N9q
      refine own_st ?_ (fun t_ k_ => st9.trans k_)
      show own_G p.tables e below _ _ (T9.setTop (mkF m 35 #[.val (.ref a0), .val (.ref a1), .val (.int kx.toInt32), s3] [(.int n.toInt32), (.int kx.toInt32)]))
      refine own_st ?_ (fun t_ k_ => XS.icmpNo X9.here hx rfl (hb hby d14_35) rfl (tlt ((own_tlt (by have := (own_T1 hT).1; have := hD.2.1; omega) (by have := hD.2.1; omega)).mpr (own_T1 hT).1)).2.1 k_)
      show own_G p.tables e below _ _ (T9.setTop (mkF m 38 #[.val (.ref a0), .val (.ref a1), .val (.int kx.toInt32), s3] []))
      refine own_st ?_ (fun t_ k_ => XS.aloadN X9.here hx rfl (hb hby d14_38) rfl rfl k_)
      show own_G p.tables e below _ _ (T9.setTop (mkF m 39 #[.val (.ref a0), .val (.ref a1), .val (.int kx.toInt32), s3] [(.ref a1)]))
      refine own_st ?_ (fun t_ k_ => XS.iloadN X9.here hx rfl (hb hby d14_39) rfl k_)
      show own_G p.tables e below _ _ (T9.setTop (mkF m 40 #[.val (.ref a0), .val (.ref a1), .val (.int kx.toInt32), s3] [(.int kx.toInt32), (.ref a1)]))
      obtain ⟨cq10, kq10, q10a, q10b, q10c⟩ := isOf hZ e9 E0
      obtain ⟨_, _, ⟨T10, L10, k10, n10⟩, -, X10, ⟨Lc10, hQ10, l10, y10, z10⟩, st10⟩ := X9.virtualBack hx (y := (⟨"java/lang/String", "charAt", "(I)C"⟩ : MethodName)) (z := (⟨"java/lang/String", "charAt", "(I)C"⟩ : MethodName)) hown (mvT hZ (hw _ (List.mem_of_getElem? (i := 94) rfl))) (mvT hZ (hw _ (List.mem_of_getElem? (i := 95) rfl))) (notFace_of_selects (args := #[]) (mvT hZ (hw _ (List.mem_of_getElem? (i := 97) rfl)))) (mvT hZ (hw _ (List.mem_of_getElem? (i := 97) rfl))) (mvT hZ (hw _ (List.mem_of_getElem? (i := 96) rfl))) (by decide) (backOf (W := 0) (rm20 l Z _ hw [] a1 kx.toInt32 z1 fm cd t n N g1 ch kx h1 n0 Z1 SS E0 Fc Fv Y0 hz1 rf_fm hD rfl (own_T1 hT).1) hZ (hw _ (List.mem_of_getElem? (i := 98) rfl)) (hw _ (List.mem_of_getElem? (i := 14) rfl)) (by decide) (by decide)) q10a q10c (g := (mkF m 40 #[.val (.ref a0), .val (.ref a1), .val (.int kx.toInt32), s3] [(.int kx.toInt32), (.ref a1)])) rfl (by rw [hml]; rfl) (Steps.refl _) (argsL := [(.int kx.toInt32)]) (rest := []) (lenOf pd_21 rfl) rfl (by show 2 * 0 + _ ≤ _; exact Nat.le_of_eq rfl) (hb hby d14_40) (fun _ _ => ⟨rfl, e9, (by decide : 2 + 0 ≤ _), (by decide : 100 + 0 ≤ _)⟩)
      dsimp only [Pt.U, Pt.locs, Pt.cells, Pt.slots] at X10 l10 y10 z10 st10 hQ10
      subst l10 y10 z10
      obtain ⟨rfl, N10q, e10⟩ := hQ10
      have N10 := Fr.app N9 N10q
      refine own_st ?_ (fun t_ k_ => st10.trans k_)
      show own_G p.tables e below _ _ (T10.setTop (mkF m 43 #[.val (.ref a0), .val (.ref a1), .val (.int kx.toInt32), s3] [(.int (ch kx))]))
      refine own_st ?_ (fun t_ k_ => XS.istoreNS X10.here hx rfl (hb hby d14_43) rfl (o := s3) rfl o_s3 k_)
      show own_G p.tables e below _ _ (T10.setTop (mkF m 44 #[.val (.ref a0), .val (.ref a1), .val (.int kx.toInt32), .val (.int (ch kx))] []))
      refine own_st ?_ (fun t_ k_ => XS.iloadN X10.here hx rfl (hb hby d14_44) rfl k_)
      show own_G p.tables e below _ _ (T10.setTop (mkF m 45 #[.val (.ref a0), .val (.ref a1), .val (.int kx.toInt32), .val (.int (ch kx))] [(.int (ch kx))]))
      obtain ⟨_, _, ⟨T11, L11, k11, n11⟩, -, X11, ⟨Lc11, hQ11, l11, y11, z11⟩, st11⟩ := Jvm.LawKit.callS X10 hx (y := (⟨"java/lang/Character", "isHighSurrogate", "(C)Z"⟩ : MethodName)) hown (mvT hZ (hw _ (List.mem_of_getElem? (i := 121) rfl))) (mvT hZ (hw _ (List.mem_of_getElem? (i := 122) rfl))) (mvT hZ (hw _ (List.mem_of_getElem? (i := 123) rfl))) (mvT hZ (hw _ (List.mem_of_getElem? (i := 124) rfl))) (by decide) (backOf (W := 0) (rm27 l Z _ hw [] (ch kx)  h1 n0 Z1 ) hZ (hw _ (List.mem_of_getElem? (i := 124) rfl)) (hw _ (List.mem_of_getElem? (i := 123) rfl)) (by decide) (by decide)) (g := (mkF m 45 #[.val (.ref a0), .val (.ref a1), .val (.int kx.toInt32), .val (.int (ch kx))] [(.int (ch kx))])) rfl (by rw [hml]; rfl) (argsL := [(.int (ch kx))]) (rest := []) (lenOf pd_15 rfl) rfl (by show 2 * 0 + _ ≤ _; exact Nat.le_of_eq rfl) (hb hby d14_45) (fun _ _ => ⟨rfl, e10, (by decide : 2 + 0 ≤ _), (by decide : 100 + 0 ≤ _)⟩)
      dsimp only [Pt.U, Pt.locs, Pt.cells, Pt.slots] at X11 l11 y11 z11 st11 hQ11
      subst l11 y11 z11
      obtain ⟨rfl, N11q, e11⟩ := hQ11
      have N11 := Fr.app N10 N11q
      refine own_st ?_ st11
      show own_G p.tables e below _ _ (T11.setTop (mkF m 48 #[.val (.ref a0), .val (.ref a1), .val (.int kx.toInt32), .val (.int (ch kx))] [(.int (f27 (ch kx)))]))
      refine own_st ?_ (fun t_ k_ => XS.ifYes X11.here hx rfl (pc0 := 48) (pc' := 80) rfl (hb hby d14_48) rfl ((if0 _ _).trans (teq (by rw [(own_T1 hT).2.1]; exact (own_hs0 (own_T1 hT).2.2.1.2).1)).1) (by decide) (by decide) k_)
      show own_G p.tables e below _ _ (T11.setTop (mkF m 80 #[.val (.ref a0), .val (.ref a1), .val (.int kx.toInt32), .val (.int (ch kx))] []))
      refine own_st ?_ (fun t_ k_ => XS.iloadN X11.here hx rfl (hb hby d14_80) rfl k_)
      show own_G p.tables e below _ _ (T11.setTop (mkF m 81 #[.val (.ref a0), .val (.ref a1), .val (.int kx.toInt32), .val (.int (ch kx))] [(.int (ch kx))]))
      obtain ⟨_, _, ⟨T12, L12, k12, n12⟩, -, X12, ⟨Lc12, hQ12, l12, y12, z12⟩, st12⟩ := Jvm.LawKit.callS X11 hx (y := (⟨"java/lang/Character", "isSurrogate", "(C)Z"⟩ : MethodName)) hown (mvT hZ (hw _ (List.mem_of_getElem? (i := 126) rfl))) (mvT hZ (hw _ (List.mem_of_getElem? (i := 127) rfl))) (mvT hZ (hw _ (List.mem_of_getElem? (i := 123) rfl))) (mvT hZ (hw _ (List.mem_of_getElem? (i := 128) rfl))) (by decide) (backOf (W := 0) (rm28 l Z _ hw [] (ch kx)  h1 n0 Z1 ) hZ (hw _ (List.mem_of_getElem? (i := 128) rfl)) (hw _ (List.mem_of_getElem? (i := 123) rfl)) (by decide) (by decide)) (g := (mkF m 81 #[.val (.ref a0), .val (.ref a1), .val (.int kx.toInt32), .val (.int (ch kx))] [(.int (ch kx))])) rfl (by rw [hml]; rfl) (argsL := [(.int (ch kx))]) (rest := []) (lenOf pd_15 rfl) rfl (by show 2 * 0 + _ ≤ _; exact Nat.le_of_eq rfl) (hb hby d14_81) (fun _ _ => ⟨rfl, e11, (by decide : 2 + 0 ≤ _), (by decide : 100 + 0 ≤ _)⟩)
      dsimp only [Pt.U, Pt.locs, Pt.cells, Pt.slots] at X12 l12 y12 z12 st12 hQ12
      subst l12 y12 z12
      obtain ⟨rfl, N12q, e12⟩ := hQ12
      have N12 := Fr.app N11 N12q
      refine own_st ?_ st12
      show own_G p.tables e below _ _ (T12.setTop (mkF m 84 #[.val (.ref a0), .val (.ref a1), .val (.int kx.toInt32), .val (.int (ch kx))] [(.int (f28 (ch kx)))]))
      refine own_st ?_ (fun t_ k_ => XS.ifYes X12.here hx rfl (pc0 := 84) (pc' := 101) rfl (hb hby d14_84) rfl ((if0 _ _).trans (teq (by rw [(own_T1 hT).2.1]; exact (own_hs0 (own_T1 hT).2.2.1.2).2)).1) (by decide) (by decide) k_)
      show own_G p.tables e below _ _ (T12.setTop (mkF m 101 #[.val (.ref a0), .val (.ref a1), .val (.int kx.toInt32), .val (.int (ch kx))] []))
      refine own_st ?_ (fun t_ k_ => XS.iinc X12.here hx rfl (hb hby d14_101) rfl (l' := #[.val (.ref a0), .val (.ref a1), .val (.int (kx.toInt32 + (1 : Int32))), .val (.int (ch kx))]) rfl k_)
      show own_G p.tables e below _ _ (T12.setTop (mkF m 104 #[.val (.ref a0), .val (.ref a1), .val (.int (kx.toInt32 + (1 : Int32))), .val (.int (ch kx))] []))
      refine own_st ?_ (fun t_ k_ => XS.goto X12.here hx rfl (pc0 := 104) (pc' := 30) rfl (hb hby d14_104) (by decide) (by decide) k_)
      show own_G p.tables e below _ _ (T12.setTop (mkF m 30 #[.val (.ref a0), .val (.ref a1), .val (.int (kx.toInt32 + (1 : Int32))), .val (.int (ch kx))] []))
      simp only [own_inc]
      exact ih (kx := kx + 1) (s3 := .val (.int (ch kx))) (own_T1 hT).2.2.2 (Or.inr ⟨_, rfl, rfl⟩) X12 N12 e12 K0 SS Ea Ft E0 Fc Fv Y0 Z1 hk
    | some c2 =>
      refine own_st ?_ (fun t_ k_ => XS.iloadN X0.here hx rfl (hb hby d14_30) rfl k_)
      show own_G p.tables e below _ _ (T0.setTop (mkF m 31 #[.val (.ref a0), .val (.ref a1), .val (.int kx.toInt32), s3] [(.int kx.toInt32)]))
      refine own_st ?_ (fun t_ k_ => XS.aloadN X0.here hx rfl (hb hby d14_31) rfl rfl k_)
      show own_G p.tables e below _ _ (T0.setTop (mkF m 32 #[.val (.ref a0), .val (.ref a1), .val (.int kx.toInt32), s3] [(.ref a1), (.int kx.toInt32)]))
      obtain ⟨cq13, kq13, q13a, q13b, q13c⟩ := isOf hZ e0 E0
      obtain ⟨_, _, ⟨T13, L13, k13, n13⟩, -, X13, ⟨Lc13, hQ13, l13, y13, z13⟩, st13⟩ := X0.virtualBack hx (y := (⟨"java/lang/String", "length", "()I"⟩ : MethodName)) (z := (⟨"java/lang/String", "length", "()I"⟩ : MethodName)) hown (mvT hZ (hw _ (List.mem_of_getElem? (i := 84) rfl))) (mvT hZ (hw _ (List.mem_of_getElem? (i := 85) rfl))) (notFace_of_selects (args := #[]) (mvT hZ (hw _ (List.mem_of_getElem? (i := 87) rfl)))) (mvT hZ (hw _ (List.mem_of_getElem? (i := 87) rfl))) (mvT hZ (hw _ (List.mem_of_getElem? (i := 86) rfl))) (by decide) (backOf (W := 1) (rm18 l Z _ hw [] a1 z1 fm cd t n N g1 ch h1 n0 Z1 SS E0 Fc Fv Y0 hz1 hD) hZ (hw _ (List.mem_of_getElem? (i := 88) rfl)) (hw _ (List.mem_of_getElem? (i := 14) rfl)) (by decide) (by decide)) q13a q13c (g := (mkF m 32 #[.val (.ref a0), .val (.ref a1), .val (.int kx.toInt32), s3] [(.ref a1), (.int kx.toInt32)])) rfl (by rw [hml]; rfl) (Steps.refl _) (argsL := []) (rest := [(.int kx.toInt32)]) (lenOf pd_17 rfl) rfl (by show 2 * 0 + _ ≤ _; exact Nat.le_of_eq rfl) (hb hby d14_32) (fun _ _ => ⟨rfl, e0, (by decide : 2 + 0 ≤ _), (by decide : 100 + 0 ≤ _)⟩)
      dsimp only [Pt.U, Pt.locs, Pt.cells, Pt.slots] at X13 l13 y13 z13 st13 hQ13
      subst l13 y13 z13
      obtain ⟨rfl, N13q, e13⟩ := hQ13
      have N13 := Fr.app N0 N13q
      refine own_st ?_ (fun t_ k_ => st13.trans k_)
      show own_G p.tables e below _ _ (T13.setTop (mkF m 35 #[.val (.ref a0), .val (.ref a1), .val (.int kx.toInt32), s3] [(.int n.toInt32), (.int kx.toInt32)]))
      refine own_st ?_ (fun t_ k_ => XS.icmpNo X13.here hx rfl (hb hby d14_35) rfl (tlt ((own_tlt (by have := (own_T2 hT).1; have := hD.2.1; omega) (by have := hD.2.1; omega)).mpr (by have := (own_T2 hT).1; omega))).2.1 k_)
      show own_G p.tables e below _ _ (T13.setTop (mkF m 38 #[.val (.ref a0), .val (.ref a1), .val (.int kx.toInt32), s3] []))
      refine own_st ?_ (fun t_ k_ => XS.aloadN X13.here hx rfl (hb hby d14_38) rfl rfl k_)
      show own_G p.tables e below _ _ (T13.setTop (mkF m 39 #[.val (.ref a0), .val (.ref a1), .val (.int kx.toInt32), s3] [(.ref a1)]))
      refine own_st ?_ (fun t_ k_ => XS.iloadN X13.here hx rfl (hb hby d14_39) rfl k_)
      show own_G p.tables e below _ _ (T13.setTop (mkF m 40 #[.val (.ref a0), .val (.ref a1), .val (.int kx.toInt32), s3] [(.int kx.toInt32), (.ref a1)]))
      obtain ⟨cq14, kq14, q14a, q14b, q14c⟩ := isOf hZ e13 E0
      obtain ⟨_, _, ⟨T14, L14, k14, n14⟩, -, X14, ⟨Lc14, hQ14, l14, y14, z14⟩, st14⟩ := X13.virtualBack hx (y := (⟨"java/lang/String", "charAt", "(I)C"⟩ : MethodName)) (z := (⟨"java/lang/String", "charAt", "(I)C"⟩ : MethodName)) hown (mvT hZ (hw _ (List.mem_of_getElem? (i := 94) rfl))) (mvT hZ (hw _ (List.mem_of_getElem? (i := 95) rfl))) (notFace_of_selects (args := #[]) (mvT hZ (hw _ (List.mem_of_getElem? (i := 97) rfl)))) (mvT hZ (hw _ (List.mem_of_getElem? (i := 97) rfl))) (mvT hZ (hw _ (List.mem_of_getElem? (i := 96) rfl))) (by decide) (backOf (W := 0) (rm20 l Z _ hw [] a1 kx.toInt32 z1 fm cd t n N g1 ch kx h1 n0 Z1 SS E0 Fc Fv Y0 hz1 rf_fm hD rfl (by have := (own_T2 hT).1; omega)) hZ (hw _ (List.mem_of_getElem? (i := 98) rfl)) (hw _ (List.mem_of_getElem? (i := 14) rfl)) (by decide) (by decide)) q14a q14c (g := (mkF m 40 #[.val (.ref a0), .val (.ref a1), .val (.int kx.toInt32), s3] [(.int kx.toInt32), (.ref a1)])) rfl (by rw [hml]; rfl) (Steps.refl _) (argsL := [(.int kx.toInt32)]) (rest := []) (lenOf pd_21 rfl) rfl (by show 2 * 0 + _ ≤ _; exact Nat.le_of_eq rfl) (hb hby d14_40) (fun _ _ => ⟨rfl, e13, (by decide : 2 + 0 ≤ _), (by decide : 100 + 0 ≤ _)⟩)
      dsimp only [Pt.U, Pt.locs, Pt.cells, Pt.slots] at X14 l14 y14 z14 st14 hQ14
      subst l14 y14 z14
      obtain ⟨rfl, N14q, e14⟩ := hQ14
      have N14 := Fr.app N13 N14q
      refine own_st ?_ (fun t_ k_ => st14.trans k_)
      show own_G p.tables e below _ _ (T14.setTop (mkF m 43 #[.val (.ref a0), .val (.ref a1), .val (.int kx.toInt32), s3] [(.int (ch kx))]))
      refine own_st ?_ (fun t_ k_ => XS.istoreNS X14.here hx rfl (hb hby d14_43) rfl (o := s3) rfl o_s3 k_)
      show own_G p.tables e below _ _ (T14.setTop (mkF m 44 #[.val (.ref a0), .val (.ref a1), .val (.int kx.toInt32), .val (.int (ch kx))] []))
      refine own_st ?_ (fun t_ k_ => XS.iloadN X14.here hx rfl (hb hby d14_44) rfl k_)
      show own_G p.tables e below _ _ (T14.setTop (mkF m 45 #[.val (.ref a0), .val (.ref a1), .val (.int kx.toInt32), .val (.int (ch kx))] [(.int (ch kx))]))
      obtain ⟨_, _, ⟨T15, L15, k15, n15⟩, -, X15, ⟨Lc15, hQ15, l15, y15, z15⟩, st15⟩ := Jvm.LawKit.callS X14 hx (y := (⟨"java/lang/Character", "isHighSurrogate", "(C)Z"⟩ : MethodName)) hown (mvT hZ (hw _ (List.mem_of_getElem? (i := 121) rfl))) (mvT hZ (hw _ (List.mem_of_getElem? (i := 122) rfl))) (mvT hZ (hw _ (List.mem_of_getElem? (i := 123) rfl))) (mvT hZ (hw _ (List.mem_of_getElem? (i := 124) rfl))) (by decide) (backOf (W := 0) (rm27 l Z _ hw [] (ch kx)  h1 n0 Z1 ) hZ (hw _ (List.mem_of_getElem? (i := 124) rfl)) (hw _ (List.mem_of_getElem? (i := 123) rfl)) (by decide) (by decide)) (g := (mkF m 45 #[.val (.ref a0), .val (.ref a1), .val (.int kx.toInt32), .val (.int (ch kx))] [(.int (ch kx))])) rfl (by rw [hml]; rfl) (argsL := [(.int (ch kx))]) (rest := []) (lenOf pd_15 rfl) rfl (by show 2 * 0 + _ ≤ _; exact Nat.le_of_eq rfl) (hb hby d14_45) (fun _ _ => ⟨rfl, e14, (by decide : 2 + 0 ≤ _), (by decide : 100 + 0 ≤ _)⟩)
      dsimp only [Pt.U, Pt.locs, Pt.cells, Pt.slots] at X15 l15 y15 z15 st15 hQ15
      subst l15 y15 z15
      obtain ⟨rfl, N15q, e15⟩ := hQ15
      have N15 := Fr.app N14 N15q
      refine own_st ?_ st15
      show own_G p.tables e below _ _ (T15.setTop (mkF m 48 #[.val (.ref a0), .val (.ref a1), .val (.int kx.toInt32), .val (.int (ch kx))] [(.int (f27 (ch kx)))]))
      refine own_st ?_ (fun t_ k_ => XS.ifNo X15.here hx rfl (hb hby d14_48) rfl ((if0 _ _).trans (feq (by rw [(own_T2 hT).2.1]; exact own_hs1 (own_T2 hT).2.2.2.1.1)).1) k_)
      show own_G p.tables e below _ _ (T15.setTop (mkF m 51 #[.val (.ref a0), .val (.ref a1), .val (.int kx.toInt32), .val (.int (ch kx))] []))
      refine own_st ?_ (fun t_ k_ => XS.iloadN X15.here hx rfl (hb hby d14_51) rfl k_)
      show own_G p.tables e below _ _ (T15.setTop (mkF m 52 #[.val (.ref a0), .val (.ref a1), .val (.int kx.toInt32), .val (.int (ch kx))] [(.int kx.toInt32)]))
      refine own_st ?_ (fun t_ k_ => XS.iconst X15.here hx rfl (hb hby d14_52) k_)
      show own_G p.tables e below _ _ (T15.setTop (mkF m 53 #[.val (.ref a0), .val (.ref a1), .val (.int kx.toInt32), .val (.int (ch kx))] [(.int (1 : Int32)), (.int kx.toInt32)]))
      refine own_st ?_ (fun t_ k_ => XS.iadd X15.here hx rfl (hb hby d14_53) rfl k_)
      show own_G p.tables e below _ _ (T15.setTop (mkF m 54 #[.val (.ref a0), .val (.ref a1), .val (.int kx.toInt32), .val (.int (ch kx))] [(.int (kx.toInt32 + (1 : Int32)))]))
      refine own_st ?_ (fun t_ k_ => XS.aloadN X15.here hx rfl (hb hby d14_54) rfl rfl k_)
      show own_G p.tables e below _ _ (T15.setTop (mkF m 55 #[.val (.ref a0), .val (.ref a1), .val (.int kx.toInt32), .val (.int (ch kx))] [(.ref a1), (.int (kx.toInt32 + (1 : Int32)))]))
      obtain ⟨cq16, kq16, q16a, q16b, q16c⟩ := isOf hZ e15 E0
      obtain ⟨_, _, ⟨T16, L16, k16, n16⟩, -, X16, ⟨Lc16, hQ16, l16, y16, z16⟩, st16⟩ := X15.virtualBack hx (y := (⟨"java/lang/String", "length", "()I"⟩ : MethodName)) (z := (⟨"java/lang/String", "length", "()I"⟩ : MethodName)) hown (mvT hZ (hw _ (List.mem_of_getElem? (i := 84) rfl))) (mvT hZ (hw _ (List.mem_of_getElem? (i := 85) rfl))) (notFace_of_selects (args := #[]) (mvT hZ (hw _ (List.mem_of_getElem? (i := 87) rfl)))) (mvT hZ (hw _ (List.mem_of_getElem? (i := 87) rfl))) (mvT hZ (hw _ (List.mem_of_getElem? (i := 86) rfl))) (by decide) (backOf (W := 1) (rm18 l Z _ hw [] a1 z1 fm cd t n N g1 ch h1 n0 Z1 SS E0 Fc Fv Y0 hz1 hD) hZ (hw _ (List.mem_of_getElem? (i := 88) rfl)) (hw _ (List.mem_of_getElem? (i := 14) rfl)) (by decide) (by decide)) q16a q16c (g := (mkF m 55 #[.val (.ref a0), .val (.ref a1), .val (.int kx.toInt32), .val (.int (ch kx))] [(.ref a1), (.int (kx.toInt32 + (1 : Int32)))])) rfl (by rw [hml]; rfl) (Steps.refl _) (argsL := []) (rest := [(.int (kx.toInt32 + (1 : Int32)))]) (lenOf pd_17 rfl) rfl (by show 2 * 0 + _ ≤ _; exact Nat.le_of_eq rfl) (hb hby d14_55) (fun _ _ => ⟨rfl, e15, (by decide : 2 + 0 ≤ _), (by decide : 100 + 0 ≤ _)⟩)
      dsimp only [Pt.U, Pt.locs, Pt.cells, Pt.slots] at X16 l16 y16 z16 st16 hQ16
      subst l16 y16 z16
      obtain ⟨rfl, N16q, e16⟩ := hQ16
      have N16 := Fr.app N15 N16q
      refine own_st ?_ (fun t_ k_ => st16.trans k_)
      show own_G p.tables e below _ _ (T16.setTop (mkF m 58 #[.val (.ref a0), .val (.ref a1), .val (.int kx.toInt32), .val (.int (ch kx))] [(.int n.toInt32), (.int (kx.toInt32 + (1 : Int32)))]))
      refine own_st ?_ (fun t_ k_ => XS.icmpNo X16.here hx rfl (hb hby d14_58) rfl (tlt (by rw [own_inc]; exact (own_tlt (by have := (own_T2 hT).1; have := hD.2.1; omega) (by have := hD.2.1; omega)).mpr (own_T2 hT).1)).2.1 k_)
      show own_G p.tables e below _ _ (T16.setTop (mkF m 61 #[.val (.ref a0), .val (.ref a1), .val (.int kx.toInt32), .val (.int (ch kx))] []))
      refine own_st ?_ (fun t_ k_ => XS.aloadN X16.here hx rfl (hb hby d14_61) rfl rfl k_)
      show own_G p.tables e below _ _ (T16.setTop (mkF m 62 #[.val (.ref a0), .val (.ref a1), .val (.int kx.toInt32), .val (.int (ch kx))] [(.ref a1)]))
      refine own_st ?_ (fun t_ k_ => XS.iloadN X16.here hx rfl (hb hby d14_62) rfl k_)
      show own_G p.tables e below _ _ (T16.setTop (mkF m 63 #[.val (.ref a0), .val (.ref a1), .val (.int kx.toInt32), .val (.int (ch kx))] [(.int kx.toInt32), (.ref a1)]))
      refine own_st ?_ (fun t_ k_ => XS.iconst X16.here hx rfl (hb hby d14_63) k_)
      show own_G p.tables e below _ _ (T16.setTop (mkF m 64 #[.val (.ref a0), .val (.ref a1), .val (.int kx.toInt32), .val (.int (ch kx))] [(.int (1 : Int32)), (.int kx.toInt32), (.ref a1)]))
      refine own_st ?_ (fun t_ k_ => XS.iadd X16.here hx rfl (hb hby d14_64) rfl k_)
      show own_G p.tables e below _ _ (T16.setTop (mkF m 65 #[.val (.ref a0), .val (.ref a1), .val (.int kx.toInt32), .val (.int (ch kx))] [(.int (kx.toInt32 + (1 : Int32))), (.ref a1)]))
      obtain ⟨cq17, kq17, q17a, q17b, q17c⟩ := isOf hZ e16 E0
      obtain ⟨_, _, ⟨T17, L17, k17, n17⟩, -, X17, ⟨Lc17, hQ17, l17, y17, z17⟩, st17⟩ := X16.virtualBack hx (y := (⟨"java/lang/String", "charAt", "(I)C"⟩ : MethodName)) (z := (⟨"java/lang/String", "charAt", "(I)C"⟩ : MethodName)) hown (mvT hZ (hw _ (List.mem_of_getElem? (i := 94) rfl))) (mvT hZ (hw _ (List.mem_of_getElem? (i := 95) rfl))) (notFace_of_selects (args := #[]) (mvT hZ (hw _ (List.mem_of_getElem? (i := 97) rfl)))) (mvT hZ (hw _ (List.mem_of_getElem? (i := 97) rfl))) (mvT hZ (hw _ (List.mem_of_getElem? (i := 96) rfl))) (by decide) (backOf (W := 0) (rm20 l Z _ hw [] a1 (kx.toInt32 + (1 : Int32)) z1 fm cd t n N g1 ch (kx + 1) h1 n0 Z1 SS E0 Fc Fv Y0 hz1 rf_fm hD (own_inc kx) (own_T2 hT).1) hZ (hw _ (List.mem_of_getElem? (i := 98) rfl)) (hw _ (List.mem_of_getElem? (i := 14) rfl)) (by decide) (by decide)) q17a q17c (g := (mkF m 65 #[.val (.ref a0), .val (.ref a1), .val (.int kx.toInt32), .val (.int (ch kx))] [(.int (kx.toInt32 + (1 : Int32))), (.ref a1)])) rfl (by rw [hml]; rfl) (Steps.refl _) (argsL := [(.int (kx.toInt32 + (1 : Int32)))]) (rest := []) (lenOf pd_21 rfl) rfl (by show 2 * 0 + _ ≤ _; exact Nat.le_of_eq rfl) (hb hby d14_65) (fun _ _ => ⟨rfl, e16, (by decide : 2 + 0 ≤ _), (by decide : 100 + 0 ≤ _)⟩)
      dsimp only [Pt.U, Pt.locs, Pt.cells, Pt.slots] at X17 l17 y17 z17 st17 hQ17
      subst l17 y17 z17
      obtain ⟨rfl, N17q, e17⟩ := hQ17
      have N17 := Fr.app N16 N17q
      refine own_st ?_ (fun t_ k_ => st17.trans k_)
      show own_G p.tables e below _ _ (T17.setTop (mkF m 68 #[.val (.ref a0), .val (.ref a1), .val (.int kx.toInt32), .val (.int (ch kx))] [(.int (ch (kx + 1)))]))
      obtain ⟨_, _, ⟨T18, L18, k18, n18⟩, -, X18, ⟨Lc18, hQ18, l18, y18, z18⟩, st18⟩ := Jvm.LawKit.callS X17 hx (y := (⟨"java/lang/Character", "isLowSurrogate", "(C)Z"⟩ : MethodName)) hown (mvT hZ (hw _ (List.mem_of_getElem? (i := 130) rfl))) (mvT hZ (hw _ (List.mem_of_getElem? (i := 131) rfl))) (mvT hZ (hw _ (List.mem_of_getElem? (i := 123) rfl))) (mvT hZ (hw _ (List.mem_of_getElem? (i := 132) rfl))) (by decide) (backOf (W := 0) (rm29 l Z _ hw [] (ch (kx + 1))  h1 n0 Z1 ) hZ (hw _ (List.mem_of_getElem? (i := 132) rfl)) (hw _ (List.mem_of_getElem? (i := 123) rfl)) (by decide) (by decide)) (g := (mkF m 68 #[.val (.ref a0), .val (.ref a1), .val (.int kx.toInt32), .val (.int (ch kx))] [(.int (ch (kx + 1)))])) rfl (by rw [hml]; rfl) (argsL := [(.int (ch (kx + 1)))]) (rest := []) (lenOf pd_15 rfl) rfl (by show 2 * 0 + _ ≤ _; exact Nat.le_of_eq rfl) (hb hby d14_68) (fun _ _ => ⟨rfl, e17, (by decide : 2 + 0 ≤ _), (by decide : 100 + 0 ≤ _)⟩)
      dsimp only [Pt.U, Pt.locs, Pt.cells, Pt.slots] at X18 l18 y18 z18 st18 hQ18
      subst l18 y18 z18
      obtain ⟨rfl, N18q, e18⟩ := hQ18
      have N18 := Fr.app N17 N18q
      refine own_st ?_ st18
      show own_G p.tables e below _ _ (T18.setTop (mkF m 71 #[.val (.ref a0), .val (.ref a1), .val (.int kx.toInt32), .val (.int (ch kx))] [(.int (f29 (ch (kx + 1))))]))
      refine own_st ?_ (fun t_ k_ => XS.ifNo X18.here hx rfl (hb hby d14_71) rfl ((if0 _ _).trans (feq (by rw [(own_T2 hT).2.2.1]; exact own_ls1 (own_T2 hT).2.2.2.1.2)).1) k_)
      show own_G p.tables e below _ _ (T18.setTop (mkF m 74 #[.val (.ref a0), .val (.ref a1), .val (.int kx.toInt32), .val (.int (ch kx))] []))
      refine own_st ?_ (fun t_ k_ => XS.iinc X18.here hx rfl (hb hby d14_74) rfl (l' := #[.val (.ref a0), .val (.ref a1), .val (.int (kx.toInt32 + (1 : Int32))), .val (.int (ch kx))]) rfl k_)
      show own_G p.tables e below _ _ (T18.setTop (mkF m 77 #[.val (.ref a0), .val (.ref a1), .val (.int (kx.toInt32 + (1 : Int32))), .val (.int (ch kx))] []))
      refine own_st ?_ (fun t_ k_ => XS.goto X18.here hx rfl (pc0 := 77) (pc' := 101) rfl (hb hby d14_77) (by decide) (by decide) k_)
      show own_G p.tables e below _ _ (T18.setTop (mkF m 101 #[.val (.ref a0), .val (.ref a1), .val (.int (kx.toInt32 + (1 : Int32))), .val (.int (ch kx))] []))
      refine own_st ?_ (fun t_ k_ => XS.iinc X18.here hx rfl (hb hby d14_101) rfl (l' := #[.val (.ref a0), .val (.ref a1), .val (.int ((kx.toInt32 + (1 : Int32)) + (1 : Int32))), .val (.int (ch kx))]) rfl k_)
      show own_G p.tables e below _ _ (T18.setTop (mkF m 104 #[.val (.ref a0), .val (.ref a1), .val (.int ((kx.toInt32 + (1 : Int32)) + (1 : Int32))), .val (.int (ch kx))] []))
      refine own_st ?_ (fun t_ k_ => XS.goto X18.here hx rfl (pc0 := 104) (pc' := 30) rfl (hb hby d14_104) (by decide) (by decide) k_)
      show own_G p.tables e below _ _ (T18.setTop (mkF m 30 #[.val (.ref a0), .val (.ref a1), .val (.int ((kx.toInt32 + (1 : Int32)) + (1 : Int32))), .val (.int (ch kx))] []))
      simp only [own_inc]
      exact ih (kx := kx + 2) (s3 := .val (.int (ch kx))) (own_T2 hT).2.2.2.2 (Or.inr ⟨_, rfl, rfl⟩) X18 N18 e18 K0 SS Ea Ft E0 Fc Fv Y0 Z1 hk
theorem ef_14 (m : MethodId) (a0 : Addr) (a1 : Addr) : entryFrame m #[(.ref a0), (.ref a1)] 4 = mkF m 0 #[.val (.ref a0), .val (.ref a1), .unset, .unset] [] := by first | (simp [entryFrame, mkF, argsToLocals, Value.category]; done) | rfl
set_option maxRecDepth 65536 in
set_option maxHeartbeats 40000000 in
theorem rm14 (l : Launch) (Z : State) (a0 : Array Value) (hw : ∀ d ∈ tables_1, d.before a0 Z = true) (ws : List Jvm.Cond) (a0 : Addr) (a1 : Addr) (z1 : Int32) (fm : Value) (cd : Int32) (t : Addr) (n : Nat) (N : Nat) (g1 : Nat → Int32) (ch : Nat → Int32) (xs : List (Int32 × Option Int32)) (u1 : Value) (h0 : Heap) (n0 : Nat) (Z0 : n0 ≤ h0.size) (g_a0 : n0 ≤ a0) (SS : own_SS Z h0 n0 z1 fm) (Ea : Exa Z h0 a0 "com/example/supplant/supplant/automata/Symbol") (Ft : Fld Z h0 a0 "com/example/supplant/supplant/automata/Symbol" "text" "Ljava/lang/String;" u1) (E0 : Exa Z h0 a1 "java/lang/String") (Fc : Fld Z h0 a1 "java/lang/String" "coder" "B" (.int cd)) (Fv : Fld Z h0 a1 "java/lang/String" "value" "[B" (.ref t)) (Y0 : own_Y .byte Z h0 t N g1) (hz1 : ¬ z1 = 0) (rf_fm : fm.isRef = true) (hD : own_D cd n N g1 ch) (hT : own_T ch n 0 xs) (hn0 : 0 < n) :
    MetFree l (⟨"com/example/supplant/supplant/automata/Symbol", "<init>", "(Ljava/lang/String;)V"⟩ : MethodName) (head1 (Jvm.Cond.code (⟨"com/example/supplant/supplant/automata/Symbol", "<init>", "(Ljava/lang/String;)V"⟩ : MethodName) prog_14_method_1_code 4 none :: ws) ({ frames := 5, cells := 2, slots := 100, locals := 66 } : Room)) (fun a U => a = #[(.ref a0), (.ref a1)] ∧ Z.Warmed39 U.vm ∧ U.heap = h0) (fun _ _ _ _ _ => True) (fun _ U o U' => ∃ v L, o = .returned v ∧ own_QK Z none [a0] (fun h => Fld Z h a0 "com/example/supplant/supplant/automata/Symbol" "text" "Ljava/lang/String;" (.ref a1)) h0 n0 v U'.heap L ∧ ReturnedEndW U o U' L ({ frames := 5, cells := 2, slots := 100, locals := 66 } : Room).cells ({ frames := 5, cells := 2, slots := 100, locals := 66 } : Room).slots) := by
  refine MetFree.of_bodySF (plainFor_of_name pn_14) hisR ?_
  intro p e s m args below meth c s₁ Bd hml0 hP hK
  obtain ⟨rfl, hZ, hh⟩ := hP
  have hx := Bd.exec
  have hby := Bd.bytes
  have hlk : meth.locks = false := BodyLoose.notSynchronized Bd
  have hret := Bd.returns
  have hml : c.maxLocals = 4 := hml0
  have hown : s.vm.findClass "com/example/supplant/supplant/automata/Symbol" = some m.cls := findClass_of_methodNamed Bd.named
  have hnm := (name_of_methodNamed Bd.named Bd.method).1
  have X0 : Stand p l e ({ frames := 5, cells := 2, slots := 100, locals := 66 } : Room) (s.setVm s.vm) m #[(.ref a0), (.ref a1)] below meth c s₁ [] 0 0 := Stand.of_body Bd
  have e0 : s₁.heap = h0 := by rw [← hh, Bd.state]; rfl
  have N0 := Fr.nil n0
  show own_G p.tables e below (own_EW s ({ frames := 5, cells := 2, slots := 100, locals := 66 } : Room).cells ({ frames := 5, cells := 2, slots := 100, locals := 66 } : Room).slots) (own_QK Z none [a0] (fun h => Fld Z h a0 "com/example/supplant/supplant/automata/Symbol" "text" "Ljava/lang/String;" (.ref a1)) h0 n0) (s₁.setTop (entryFrame m #[(.ref a0), (.ref a1)] 4))
  refine own_st ?_ (fun t_ k_ => castTop (ef_14 m a0 a1) k_)
  show own_G p.tables e below _ _ (s₁.setTop (mkF m 0 #[.val (.ref a0), .val (.ref a1), .unset, .unset] []))
  have hS0 : s.Since s.vm h0.size := (State.WarmedH.refl s).since _
  have hk0 : h0.size ≤ h0.size := Nat.le_refl _
  refine own_st ?_ (fun t_ k_ => XS.aloadN X0.here hx rfl (hb hby d14_0) rfl rfl k_)
  show own_G p.tables e below _ _ (s₁.setTop (mkF m 1 #[.val (.ref a0), .val (.ref a1), .unset, .unset] [(.ref a0)]))
  obtain ⟨_, _, ⟨T1, L1, k1, n1⟩, -, X1, ⟨Lc1, hQ1, l1, y1, z1⟩, st1⟩ := X0.specialBack hx (y := (⟨"java/lang/Record", "<init>", "()V"⟩ : MethodName)) rfl hown (mvT hZ (hw _ (List.mem_of_getElem? (i := 66) rfl))) (mvT hZ (hw _ (List.mem_of_getElem? (i := 67) rfl))) (mvT hZ (hw _ (List.mem_of_getElem? (i := 70) rfl))) (by decide) (backOf (W := 0) (rm15 l Z _ hw [] a0  h0 n0 Z0 ) hZ (hw _ (List.mem_of_getElem? (i := 70) rfl)) (hw _ (List.mem_of_getElem? (i := 69) rfl)) (by decide) (by decide)) (g := (mkF m 1 #[.val (.ref a0), .val (.ref a1), .unset, .unset] [(.ref a0)])) rfl (by rw [hml]; rfl) (Steps.refl _) (a := a0) (argsL := []) (rest := []) (lenOf pd_22 rfl) rfl (by show 2 * 0 + _ ≤ _; exact Nat.le_of_eq rfl) (hb hby d14_1) (fun _ _ => ⟨rfl, e0, (by decide : 0 + 0 ≤ _), (by decide : 0 + 0 ≤ _)⟩)
  dsimp only [Pt.U, Pt.locs, Pt.cells, Pt.slots] at X1 l1 y1 z1 st1 hQ1
  subst l1 y1 z1
  obtain ⟨rfl, N1q, e1⟩ := hQ1
  have N1 := Fr.app N0 N1q
  refine own_st ?_ (fun t_ k_ => st1.trans k_)
  show own_G p.tables e below _ _ (T1.setTop (mkF m 4 #[.val (.ref a0), .val (.ref a1), .unset, .unset] []))
  refine own_st ?_ (fun t_ k_ => XS.aloadN X1.here hx rfl (hb hby d14_4) rfl rfl k_)
  show own_G p.tables e below _ _ (T1.setTop (mkF m 5 #[.val (.ref a0), .val (.ref a1), .unset, .unset] [(.ref a1)]))
  obtain ⟨b2, T2, h2, kq2, X2, e2, E2, hS2, hk2, hZ2, hown2, st2⟩ := ldcS X1 hx hZ hown (hw _ (List.mem_of_getElem? (i := 72) rfl)) (fun a ha => hw a (own_strs a ha)) e1 hS0 hk0 (g := (mkF m 5 #[.val (.ref a0), .val (.ref a1), .unset, .unset] [(.ref a1)])) rfl (hb hby d14_5) (n := 96) (by decide +kernel) (by decide) (by decide) (by decide)
  have F3_Z : own_SS Z h2 n0 z1 fm := own_SS_ext SS E2
  have F4_E : Exa Z h2 a0 "com/example/supplant/supplant/automata/Symbol" := Ea.ext E2
  have F5_text : Fld Z h2 a0 "com/example/supplant/supplant/automata/Symbol" "text" "Ljava/lang/String;" u1 := Ft.ext E2
  have F6_E : Exa Z h2 a1 "java/lang/String" := E0.ext E2
  have F7_coder : Fld Z h2 a1 "java/lang/String" "coder" "B" (.int cd) := Fc.ext E2
  have F8_value : Fld Z h2 a1 "java/lang/String" "value" "[B" (.ref t) := Fv.ext E2
  have F9_P : own_Y .byte Z h2 t N g1 := own_Y_ext Y0 E2
  have hkc10 := Nat.le_trans hk0 E2.1
  have Zs11 : n0 ≤ h2.size := Nat.le_trans Z0 E2.1
  have Kc12 : Keep h0 h2 [a0] := (Keep.refl h0 [a0]).ext E2
  have hZ := hZ2
  have hown := hown2
  refine own_st ?_ st2
  show own_G p.tables e below _ _ (T2.setTop (mkF m 7 #[.val (.ref a0), .val (.ref a1), .unset, .unset] [(.ref b2), (.ref a1)]))
  obtain ⟨_, _, ⟨T13, L13, k13, n13⟩, -, X13, ⟨Lc13, hQ13, l13, y13, z13⟩, st13⟩ := Jvm.LawKit.callS X2 hx (y := (⟨"java/util/Objects", "requireNonNull", "(Ljava/lang/Object;Ljava/lang/String;)Ljava/lang/Object;"⟩ : MethodName)) hown (mvT hZ (hw _ (List.mem_of_getElem? (i := 75) rfl))) (mvT hZ (hw _ (List.mem_of_getElem? (i := 76) rfl))) (mvT hZ (hw _ (List.mem_of_getElem? (i := 77) rfl))) (mvT hZ (hw _ (List.mem_of_getElem? (i := 78) rfl))) (by decide) (backOf (W := 0) (rm16 l Z _ hw [] a1 b2  h2 n0 Zs11 ) hZ (hw _ (List.mem_of_getElem? (i := 78) rfl)) (hw _ (List.mem_of_getElem? (i := 77) rfl)) (by decide) (by decide)) (g := (mkF m 7 #[.val (.ref a0), .val (.ref a1), .unset, .unset] [(.ref b2), (.ref a1)])) rfl (by rw [hml]; rfl) (argsL := [(.ref a1), (.ref b2)]) (rest := []) (lenOf pd_23 rfl) rfl (by show 2 * 0 + _ ≤ _; exact Nat.le_of_eq rfl) (hb hby d14_7) (fun _ _ => ⟨rfl, e2, (by decide : 2 + 0 ≤ _), (by decide : 100 + 0 ≤ _)⟩)
  dsimp only [Pt.U, Pt.locs, Pt.cells, Pt.slots] at X13 l13 y13 z13 st13 hQ13
  subst l13 y13 z13
  obtain ⟨rfl, N13q, e13⟩ := hQ13
  have N13 := Fr.app N1 N13q
  refine own_st ?_ st13
  show own_G p.tables e below _ _ (T13.setTop (mkF m 10 #[.val (.ref a0), .val (.ref a1), .unset, .unset] [(.ref (f16 a1 b2))]))
  refine own_st ?_ (fun t_ k_ => XS.pop X13.here hx rfl (hb hby d14_10) rfl rfl k_)
  show own_G p.tables e below _ _ (T13.setTop (mkF m 11 #[.val (.ref a0), .val (.ref a1), .unset, .unset] []))
  refine own_st ?_ (fun t_ k_ => XS.aloadN X13.here hx rfl (hb hby d14_11) rfl rfl k_)
  show own_G p.tables e below _ _ (T13.setTop (mkF m 12 #[.val (.ref a0), .val (.ref a1), .unset, .unset] [(.ref a1)]))
  obtain ⟨cq14, kq14, q14a, q14b, q14c⟩ := isOf hZ e13 F6_E
  obtain ⟨_, _, ⟨T14, L14, k14, n14⟩, -, X14, ⟨Lc14, hQ14, l14, y14, z14⟩, st14⟩ := X13.virtualBack hx (y := (⟨"java/lang/String", "isEmpty", "()Z"⟩ : MethodName)) (z := (⟨"java/lang/String", "isEmpty", "()Z"⟩ : MethodName)) hown (mvT hZ (hw _ (List.mem_of_getElem? (i := 79) rfl))) (mvT hZ (hw _ (List.mem_of_getElem? (i := 80) rfl))) (notFace_of_selects (args := #[]) (mvT hZ (hw _ (List.mem_of_getElem? (i := 82) rfl)))) (mvT hZ (hw _ (List.mem_of_getElem? (i := 82) rfl))) (mvT hZ (hw _ (List.mem_of_getElem? (i := 81) rfl))) (by decide) (backOf (W := 0) (rm17 l Z _ hw [] a1 t N g1 h2 n0 Zs11 F8_value F9_P (own_D_pos hD hn0).1 (own_D_pos hD hn0).2) hZ (hw _ (List.mem_of_getElem? (i := 83) rfl)) (hw _ (List.mem_of_getElem? (i := 14) rfl)) (by decide) (by decide)) q14a q14c (g := (mkF m 12 #[.val (.ref a0), .val (.ref a1), .unset, .unset] [(.ref a1)])) rfl (by rw [hml]; rfl) (Steps.refl _) (argsL := []) (rest := []) (lenOf pd_5 rfl) rfl (by show 2 * 0 + _ ≤ _; exact Nat.le_of_eq rfl) (hb hby d14_12) (fun _ _ => ⟨rfl, e13, (by decide : 2 + 0 ≤ _), (by decide : 100 + 0 ≤ _)⟩)
  dsimp only [Pt.U, Pt.locs, Pt.cells, Pt.slots] at X14 l14 y14 z14 st14 hQ14
  subst l14 y14 z14
  obtain ⟨rfl, N14q, e14⟩ := hQ14
  have N14 := Fr.app N13 N14q
  refine own_st ?_ (fun t_ k_ => st14.trans k_)
  show own_G p.tables e below _ _ (T14.setTop (mkF m 15 #[.val (.ref a0), .val (.ref a1), .unset, .unset] [(.int (0 : Int32))]))
  refine own_st ?_ (fun t_ k_ => XS.ifYes X14.here hx rfl (pc0 := 15) (pc' := 28) rfl (hb hby d14_15) rfl ((if0 _ _).trans (teq (by decide : (0 : Int32) = (0 : Int32))).1) (by decide) (by decide) k_)
  show own_G p.tables e below _ _ (T14.setTop (mkF m 28 #[.val (.ref a0), .val (.ref a1), .unset, .unset] []))
  refine own_st ?_ (fun t_ k_ => XS.iconst X14.here hx rfl (hb hby d14_28) k_)
  show own_G p.tables e below _ _ (T14.setTop (mkF m 29 #[.val (.ref a0), .val (.ref a1), .unset, .unset] [(.int (0 : Int32))]))
  refine own_st ?_ (fun t_ k_ => XS.istoreN X14.here hx rfl (hb hby d14_29) rfl (l' := #[.val (.ref a0), .val (.ref a1), .val (.int (0 : Int32)), .unset]) rfl k_)
  show own_G p.tables e below _ _ (T14.setTop (mkF m 30 #[.val (.ref a0), .val (.ref a1), .val (.int (0 : Int32)), .unset] []))
  exact own_lsy hx hlk hw hby hml hret hnm hz1 rf_fm hD g_a0 hZ hown hS2 xs (kx := 0) (s3 := .unset) hT (Or.inl rfl) X14 N14 e14 Kc12 F3_Z F4_E F5_text F6_E F7_coder F8_value F9_P Zs11 hk2
theorem own_add1 (us : List Int32) (c : Int32) : us.length.toInt32 + (1 : Int32) = (us ++ [c]).length.toInt32 := by rw [List.length_append]; exact own_inc _
theorem own_add2 (us : List Int32) (c d : Int32) : us.length.toInt32 + (2 : Int32) = (us ++ [c, d]).length.toInt32 := by
  rw [List.length_append]
  show _ = (us.length + 1 + 1).toInt32
  rw [← own_inc, ← own_inc, Int32.add_assoc]; rfl
theorem own_uns_pos (xs : List (Int32 × Option Int32)) (x : Int32 × Option Int32) : 1 ≤ (own_uns (xs ++ [x])).length := by
  rw [(own_uns_len _).1, List.length_append]; simp only [List.length_cons]; omega
theorem own_good0 : ∀ x ∈ ([] : List (Int32 × Option Int32)), own_good x := fun x hx => by cases hx
theorem own_goodS {xs : List (Int32 × Option Int32)} (h : ∀ x ∈ xs, own_good x) (y : Int32) : ∀ x ∈ xs ++ [own_sym y], own_good x := fun x hx => by
  rcases List.mem_append.mp hx with q | q
  · exact h x q
  · rw [List.mem_singleton.mp q]; exact own_sym_good y
theorem own_lt23 {m : Int32} (h : m < 2) : m < 3 := by
  have e2 : (2 : Int32).toInt = 2 := by decide
  have e3 : (3 : Int32).toInt = 3 := by decide
  rw [Int32.lt_iff_toInt_lt, e2] at h
  rw [Int32.lt_iff_toInt_lt, e3]; omega
theorem own_n1 {m : Int32} (hm : m.toInt = 1 ∨ m.toInt = 2 ∨ m.toInt = 3) (h : m < 2) : ¬ (1 : Int32) < m := by
  have e2 : (2 : Int32).toInt = 2 := by decide
  have e1 : (1 : Int32).toInt = 1 := by decide
  rw [Int32.lt_iff_toInt_lt, e2] at h
  rw [Int32.lt_iff_toInt_lt, e1]; omega
theorem own_g1 {m : Int32} (h : ¬ m < 2) : (1 : Int32) < m := by
  have e2 : (2 : Int32).toInt = 2 := by decide
  have e1 : (1 : Int32).toInt = 1 := by decide
  rw [Int32.lt_iff_toInt_lt, e2] at h
  rw [Int32.lt_iff_toInt_lt, e1]; omega
theorem own_nz {args : Array Value} {s : State} {z : Int32} (ez : (Term.static "java/lang/String" "COMPACT_STRINGS" "Z").eval args s none [] s = some (.int z)) (h : (Jvm.Cond.not (Jvm.Cond.eq (Term.static "java/lang/String" "COMPACT_STRINGS" "Z") (Term.int 0))).before args s = true) : ¬ z = 0 := by
  intro q; subst q
  have h2 := not_v (Cond.before_iff.mp h)
  simp only [Jvm.Cond.value, ez] at h2
  simp [Term.eval] at h2
theorem own_steq {args : Array Value} {s : State} {t : Term} {v : Int32} (h : (Jvm.Cond.eq t (.int v)).value args s none s [] = some true) : t.eval args s none [] s = some (.int v) := by
  obtain ⟨x, y, e1, e2, -, -⟩ := cmp_v (Or.inl h)
  have q := h
  have e4 : (Term.int v).eval args s none [] s = some (.int v) := rfl
  simp only [Jvm.Cond.value, e1, e4] at q
  rw [e1]
  cases x with
  | int w => simp at q; rw [q]
  | _ => simp at q
theorem d1_0 : decode method_3_code 0 = .ok (.iload_n 2, 1) := by decide +kernel
theorem d1_1 : decode method_3_code 1 = .ok (.iconst 1, 1) := by decide +kernel
theorem d1_2 : decode method_3_code 2 = .ok (.iand, 1) := by decide +kernel
theorem d1_3 : decode method_3_code 3 = .ok (.ifCond .eq 38, 3) := by decide +kernel
theorem d1_6 : decode method_3_code 6 = .ok (.aload_n 0, 1) := by decide +kernel
theorem d1_7 : decode method_3_code 7 = .ok (.iload_n 1, 1) := by decide +kernel
theorem d1_8 : decode method_3_code 8 = .ok (.ldc 32, 2) := by decide +kernel
theorem d1_10 : decode method_3_code 10 = .ok (.iload_n 2, 1) := by decide +kernel
theorem d1_11 : decode method_3_code 11 = .ok (.iconst 1, 1) := by decide +kernel
theorem d1_12 : decode method_3_code 12 = .ok (.iushr, 1) := by decide +kernel
theorem d1_13 : decode method_3_code 13 = .ok (.sipush 1023, 3) := by decide +kernel
theorem d1_16 : decode method_3_code 16 = .ok (.iand, 1) := by decide +kernel
theorem d1_17 : decode method_3_code 17 = .ok (.ior, 1) := by decide +kernel
theorem d1_18 : decode method_3_code 18 = .ok (.i2c, 1) := by decide +kernel
theorem d1_19 : decode method_3_code 19 = .ok (.castore, 1) := by decide +kernel
theorem d1_20 : decode method_3_code 20 = .ok (.aload_n 0, 1) := by decide +kernel
theorem d1_21 : decode method_3_code 21 = .ok (.iload_n 1, 1) := by decide +kernel
theorem d1_22 : decode method_3_code 22 = .ok (.iconst 1, 1) := by decide +kernel
theorem d1_23 : decode method_3_code 23 = .ok (.iadd, 1) := by decide +kernel
theorem d1_24 : decode method_3_code 24 = .ok (.ldc 33, 2) := by decide +kernel
theorem d1_26 : decode method_3_code 26 = .ok (.iload_n 2, 1) := by decide +kernel
theorem d1_27 : decode method_3_code 27 = .ok (.bipush 11, 2) := by decide +kernel
theorem d1_29 : decode method_3_code 29 = .ok (.iushr, 1) := by decide +kernel
theorem d1_30 : decode method_3_code 30 = .ok (.sipush 1023, 3) := by decide +kernel
theorem d1_33 : decode method_3_code 33 = .ok (.iand, 1) := by decide +kernel
theorem d1_34 : decode method_3_code 34 = .ok (.ior, 1) := by decide +kernel
theorem d1_35 : decode method_3_code 35 = .ok (.i2c, 1) := by decide +kernel
theorem d1_36 : decode method_3_code 36 = .ok (.castore, 1) := by decide +kernel
theorem d1_37 : decode method_3_code 37 = .ok (.iload_n 1, 1) := by decide +kernel
theorem d1_38 : decode method_3_code 38 = .ok (.iconst 2, 1) := by decide +kernel
theorem d1_39 : decode method_3_code 39 = .ok (.iadd, 1) := by decide +kernel
theorem d1_40 : decode method_3_code 40 = .ok (.ireturn, 1) := by decide +kernel
theorem d1_41 : decode method_3_code 41 = .ok (.iload_n 2, 1) := by decide +kernel
theorem d1_42 : decode method_3_code 42 = .ok (.iconst 1, 1) := by decide +kernel
theorem d1_43 : decode method_3_code 43 = .ok (.iushr, 1) := by decide +kernel
theorem d1_44 : decode method_3_code 44 = .ok (.ldc 34, 2) := by decide +kernel
theorem d1_46 : decode method_3_code 46 = .ok (.iand, 1) := by decide +kernel
theorem d1_47 : decode method_3_code 47 = .ok (.istore_n 3, 1) := by decide +kernel
theorem d1_48 : decode method_3_code 48 = .ok (.iload_n 3, 1) := by decide +kernel
theorem d1_49 : decode method_3_code 49 = .ok (.ldc 32, 2) := by decide +kernel
theorem d1_51 : decode method_3_code 51 = .ok (.if_icmp .lt 14, 3) := by decide +kernel
theorem d1_54 : decode method_3_code 54 = .ok (.iload_n 3, 1) := by decide +kernel
theorem d1_55 : decode method_3_code 55 = .ok (.ldc 35, 2) := by decide +kernel
theorem d1_57 : decode method_3_code 57 = .ok (.if_icmp .gt 8, 3) := by decide +kernel
theorem d1_60 : decode method_3_code 60 = .ok (.iload_n 3, 1) := by decide +kernel
theorem d1_61 : decode method_3_code 61 = .ok (.ldc 32, 2) := by decide +kernel
theorem d1_63 : decode method_3_code 63 = .ok (.isub, 1) := by decide +kernel
theorem d1_64 : decode method_3_code 64 = .ok (.istore_n 3, 1) := by decide +kernel
theorem d1_65 : decode method_3_code 65 = .ok (.aload_n 0, 1) := by decide +kernel
theorem d1_66 : decode method_3_code 66 = .ok (.iload_n 1, 1) := by decide +kernel
theorem d1_67 : decode method_3_code 67 = .ok (.iload_n 3, 1) := by decide +kernel
theorem d1_68 : decode method_3_code 68 = .ok (.i2c, 1) := by decide +kernel
theorem d1_69 : decode method_3_code 69 = .ok (.castore, 1) := by decide +kernel
theorem d1_70 : decode method_3_code 70 = .ok (.iload_n 1, 1) := by decide +kernel
theorem d1_71 : decode method_3_code 71 = .ok (.iconst 1, 1) := by decide +kernel
theorem d1_72 : decode method_3_code 72 = .ok (.iadd, 1) := by decide +kernel
theorem d1_73 : decode method_3_code 73 = .ok (.ireturn, 1) := by decide +kernel
theorem pn_1 : plainName "com/example/supplant/supplant/automata/SymbolIsMultiCharacterPinLaw" = true := by first | (simp [plainName, overriddenIn]; done) | decide +kernel
theorem ef_1 (m : MethodId) (a0 : Addr) (p1 : Int32) (p2 : Int32) : entryFrame m #[(.ref a0), (.int p1), (.int p2)] 4 = mkF m 0 #[.val (.ref a0), .val (.int p1), .val (.int p2), .unset] [] := by first | (simp [entryFrame, mkF, argsToLocals, Value.category]; done) | rfl
set_option maxRecDepth 65536 in
set_option maxHeartbeats 40000000 in
theorem rm1 (l : Launch) (Z : State) (a0 : Array Value) (hw : ∀ d ∈ tables_1, d.before a0 Z = true) (ws : List Jvm.Cond) (a0 : Addr) (p1 : Int32) (p2 : Int32) (xs : List (Int32 × Option Int32)) (G : Nat → Int32) (h0 : Heap) (n0 : Nat) (Z0 : n0 ≤ h0.size) (g_a0 : n0 ≤ a0) (Y0 : own_Y .char Z h0 a0 6 G) (hat : p1 = (own_uns xs).length.toInt32) (hl : (own_uns xs).length ≤ 4) (hG : ∀ i, i < (own_uns xs).length → G i = (own_uns xs).getD i 0) :
    MetFree l (⟨"com/example/supplant/supplant/automata/SymbolIsMultiCharacterPinLaw", "put", "([CII)I"⟩ : MethodName) (head1 (Jvm.Cond.code (⟨"com/example/supplant/supplant/automata/SymbolIsMultiCharacterPinLaw", "put", "([CII)I"⟩ : MethodName) method_3_code 4 (some .int) :: ws) ({ frames := 0, cells := 0, slots := 0, locals := 0 } : Room)) (fun a U => a = #[(.ref a0), (.int p1), (.int p2)] ∧ Z.Warmed39 U.vm ∧ U.heap = h0) (fun _ _ _ _ _ => True) (fun _ U o U' => ∃ v L, o = .returned v ∧ own_QK Z (some (.int (own_uns (xs ++ [own_sym p2])).length.toInt32)) [a0] (fun h => ∃ G' : Nat → Int32, own_Y .char Z h a0 6 G' ∧ ∀ i, i < (own_uns (xs ++ [own_sym p2])).length → G' i = (own_uns (xs ++ [own_sym p2])).getD i 0) h0 n0 v U'.heap L ∧ FrameEnd U o U' L ({ frames := 0, cells := 0, slots := 0, locals := 0 } : Room).cells ({ frames := 0, cells := 0, slots := 0, locals := 0 } : Room).slots) := by
  refine MetFree.of_bodySF (plainFor_of_name pn_1) hisR ?_
  intro p e s m args below meth c s₁ Bd hml0 hP hK
  obtain ⟨rfl, hZ, hh⟩ := hP
  have hx := Bd.exec
  have hby := Bd.bytes
  have hlk : meth.locks = false := BodyLoose.notSynchronized Bd
  have hret := Bd.returns
  have hml : c.maxLocals = 4 := hml0
  have hown : s.vm.findClass "com/example/supplant/supplant/automata/SymbolIsMultiCharacterPinLaw" = some m.cls := findClass_of_methodNamed Bd.named
  have hnm := (name_of_methodNamed Bd.named Bd.method).1
  have X0 : Stand p l e ({ frames := 0, cells := 0, slots := 0, locals := 0 } : Room) s m #[(.ref a0), (.int p1), (.int p2)] below meth c s₁ [] 0 0 := Stand.of_body Bd
  have e0 : s₁.heap = h0 := by rw [← hh, Bd.state]; rfl
  have N0 := Fr.nil n0
  show own_G p.tables e below (own_E s ({ frames := 0, cells := 0, slots := 0, locals := 0 } : Room).cells ({ frames := 0, cells := 0, slots := 0, locals := 0 } : Room).slots) (own_QK Z (some (.int (own_uns (xs ++ [own_sym p2])).length.toInt32)) [a0] (fun h => ∃ G' : Nat → Int32, own_Y .char Z h a0 6 G' ∧ ∀ i, i < (own_uns (xs ++ [own_sym p2])).length → G' i = (own_uns (xs ++ [own_sym p2])).getD i 0) h0 n0) (s₁.setTop (entryFrame m #[(.ref a0), (.int p1), (.int p2)] 4))
  refine own_st ?_ (fun t_ k_ => castTop (ef_1 m a0 p1 p2) k_)
  show own_G p.tables e below _ _ (s₁.setTop (mkF m 0 #[.val (.ref a0), .val (.int p1), .val (.int p2), .unset] []))
  refine own_st ?_ (fun t_ k_ => XS.iloadN X0.here hx rfl (hb hby d1_0) rfl k_)
  show own_G p.tables e below _ _ (s₁.setTop (mkF m 1 #[.val (.ref a0), .val (.int p1), .val (.int p2), .unset] [(.int p2)]))
  refine own_st ?_ (fun t_ k_ => XS.iconst X0.here hx rfl (hb hby d1_1) k_)
  show own_G p.tables e below _ _ (s₁.setTop (mkF m 2 #[.val (.ref a0), .val (.int p1), .val (.int p2), .unset] [(.int (1 : Int32)), (.int p2)]))
  refine own_st ?_ (fun t_ k_ => XS.iand X0.here hx rfl (hb hby d1_2) rfl k_)
  show own_G p.tables e below _ _ (s₁.setTop (mkF m 3 #[.val (.ref a0), .val (.int p1), .val (.int p2), .unset] [(.int (p2 &&& (1 : Int32)))]))
  by_cases hc3 : (p2 &&& (1 : Int32)) = (0 : Int32)
  · refine own_st ?_ (fun t_ k_ => XS.ifYes X0.here hx rfl (pc0 := 3) (pc' := 41) rfl (hb hby d1_3) rfl ((if0 _ _).trans (teq hc3).1) (by decide) (by decide) k_)
    show own_G p.tables e below _ _ (s₁.setTop (mkF m 41 #[.val (.ref a0), .val (.int p1), .val (.int p2), .unset] []))
    refine own_st ?_ (fun t_ k_ => XS.iloadN X0.here hx rfl (hb hby d1_41) rfl k_)
    show own_G p.tables e below _ _ (s₁.setTop (mkF m 42 #[.val (.ref a0), .val (.int p1), .val (.int p2), .unset] [(.int p2)]))
    refine own_st ?_ (fun t_ k_ => XS.iconst X0.here hx rfl (hb hby d1_42) k_)
    show own_G p.tables e below _ _ (s₁.setTop (mkF m 43 #[.val (.ref a0), .val (.int p1), .val (.int p2), .unset] [(.int (1 : Int32)), (.int p2)]))
    refine own_st ?_ (fun t_ k_ => XS.iushr X0.here hx rfl (hb hby d1_43) rfl k_)
    show own_G p.tables e below _ _ (s₁.setTop (mkF m 44 #[.val (.ref a0), .val (.int p1), .val (.int p2), .unset] [(.int ((p2.toUInt32 >>> ((1 : Int32) &&& 31).toUInt32).toInt32))]))
    refine own_st ?_ (X0.ldcInt hx hown (mvT hZ (hw _ (List.mem_of_getElem? (i := 6) rfl))) (g := (mkF m 44 #[.val (.ref a0), .val (.int p1), .val (.int p2), .unset] [(.int ((p2.toUInt32 >>> ((1 : Int32) &&& 31).toUInt32).toInt32))])) rfl (hb hby d1_44))
    show own_G p.tables e below _ _ (s₁.setTop (mkF m 46 #[.val (.ref a0), .val (.int p1), .val (.int p2), .unset] [(.int (65535 : Int32)), (.int ((p2.toUInt32 >>> ((1 : Int32) &&& 31).toUInt32).toInt32))]))
    refine own_st ?_ (fun t_ k_ => XS.iand X0.here hx rfl (hb hby d1_46) rfl k_)
    show own_G p.tables e below _ _ (s₁.setTop (mkF m 47 #[.val (.ref a0), .val (.int p1), .val (.int p2), .unset] [(.int (((p2.toUInt32 >>> ((1 : Int32) &&& 31).toUInt32).toInt32) &&& (65535 : Int32)))]))
    refine own_st ?_ (fun t_ k_ => XS.istoreN X0.here hx rfl (hb hby d1_47) rfl (l' := #[.val (.ref a0), .val (.int p1), .val (.int p2), .val (.int (((p2.toUInt32 >>> ((1 : Int32) &&& 31).toUInt32).toInt32) &&& (65535 : Int32)))]) rfl k_)
    show own_G p.tables e below _ _ (s₁.setTop (mkF m 48 #[.val (.ref a0), .val (.int p1), .val (.int p2), .val (.int (((p2.toUInt32 >>> ((1 : Int32) &&& 31).toUInt32).toInt32) &&& (65535 : Int32)))] []))
    refine own_st ?_ (fun t_ k_ => XS.iloadN X0.here hx rfl (hb hby d1_48) rfl k_)
    show own_G p.tables e below _ _ (s₁.setTop (mkF m 49 #[.val (.ref a0), .val (.int p1), .val (.int p2), .val (.int (((p2.toUInt32 >>> ((1 : Int32) &&& 31).toUInt32).toInt32) &&& (65535 : Int32)))] [(.int (((p2.toUInt32 >>> ((1 : Int32) &&& 31).toUInt32).toInt32) &&& (65535 : Int32)))]))
    refine own_st ?_ (X0.ldcInt hx hown (mvT hZ (hw _ (List.mem_of_getElem? (i := 7) rfl))) (g := (mkF m 49 #[.val (.ref a0), .val (.int p1), .val (.int p2), .val (.int (((p2.toUInt32 >>> ((1 : Int32) &&& 31).toUInt32).toInt32) &&& (65535 : Int32)))] [(.int (((p2.toUInt32 >>> ((1 : Int32) &&& 31).toUInt32).toInt32) &&& (65535 : Int32)))])) rfl (hb hby d1_49))
    show own_G p.tables e below _ _ (s₁.setTop (mkF m 51 #[.val (.ref a0), .val (.int p1), .val (.int p2), .val (.int (((p2.toUInt32 >>> ((1 : Int32) &&& 31).toUInt32).toInt32) &&& (65535 : Int32)))] [(.int (55296 : Int32)), (.int (((p2.toUInt32 >>> ((1 : Int32) &&& 31).toUInt32).toInt32) &&& (65535 : Int32)))]))
    by_cases hc51 : (((p2.toUInt32 >>> ((1 : Int32) &&& 31).toUInt32).toInt32) &&& (65535 : Int32)) < (55296 : Int32)
    · refine own_st ?_ (fun t_ k_ => XS.icmpYes X0.here hx rfl (pc0 := 51) (pc' := 65) rfl (hb hby d1_51) rfl (tlt hc51).1 (by decide) (by decide) k_)
      show own_G p.tables e below _ _ (s₁.setTop (mkF m 65 #[.val (.ref a0), .val (.int p1), .val (.int p2), .val (.int (((p2.toUInt32 >>> ((1 : Int32) &&& 31).toUInt32).toInt32) &&& (65535 : Int32)))] []))
      refine own_st ?_ (fun t_ k_ => XS.aloadN X0.here hx rfl (hb hby d1_65) rfl rfl k_)
      show own_G p.tables e below _ _ (s₁.setTop (mkF m 66 #[.val (.ref a0), .val (.int p1), .val (.int p2), .val (.int (((p2.toUInt32 >>> ((1 : Int32) &&& 31).toUInt32).toInt32) &&& (65535 : Int32)))] [(.ref a0)]))
      refine own_st ?_ (fun t_ k_ => XS.iloadN X0.here hx rfl (hb hby d1_66) rfl k_)
      show own_G p.tables e below _ _ (s₁.setTop (mkF m 67 #[.val (.ref a0), .val (.int p1), .val (.int p2), .val (.int (((p2.toUInt32 >>> ((1 : Int32) &&& 31).toUInt32).toInt32) &&& (65535 : Int32)))] [(.int p1), (.ref a0)]))
      refine own_st ?_ (fun t_ k_ => XS.iloadN X0.here hx rfl (hb hby d1_67) rfl k_)
      show own_G p.tables e below _ _ (s₁.setTop (mkF m 68 #[.val (.ref a0), .val (.int p1), .val (.int p2), .val (.int (((p2.toUInt32 >>> ((1 : Int32) &&& 31).toUInt32).toInt32) &&& (65535 : Int32)))] [(.int (((p2.toUInt32 >>> ((1 : Int32) &&& 31).toUInt32).toInt32) &&& (65535 : Int32))), (.int p1), (.ref a0)]))
      refine own_st ?_ (fun t_ k_ => XS.i2c X0.here hx rfl (hb hby d1_68) rfl k_)
      show own_G p.tables e below _ _ (s₁.setTop (mkF m 69 #[.val (.ref a0), .val (.int p1), .val (.int p2), .val (.int (((p2.toUInt32 >>> ((1 : Int32) &&& 31).toUInt32).toInt32) &&& (65535 : Int32)))] [(.int ((((p2.toUInt32 >>> ((1 : Int32) &&& 31).toUInt32).toInt32) &&& (65535 : Int32)).toUInt32.toUInt16.toUInt32.toInt32)), (.int p1), (.ref a0)]))
      have ix1 := own_ix (j := p1) (k := (own_uns xs).length) (n := 6) hat (by omega) (by decide)
      obtain ⟨cl1, Ar1, Sz1, G1⟩ := Y0
      have hin1 : ¬ (p1 < 0 ∨ cl1.slots.size ≤ (p1).toNatClampNeg) := by rw [Sz1]; exact ix1.1
      obtain ⟨T1, h1, X1, e1, W1, st1⟩ := stC X0 hx hZ e0 Ar1 (j := p1) hin1 (g := (mkF m 69 #[.val (.ref a0), .val (.int p1), .val (.int p2), .val (.int (((p2.toUInt32 >>> ((1 : Int32) &&& 31).toUInt32).toInt32) &&& (65535 : Int32)))] [(.int ((((p2.toUInt32 >>> ((1 : Int32) &&& 31).toUInt32).toInt32) &&& (65535 : Int32)).toUInt32.toUInt16.toUInt32.toInt32)), (.int p1), (.ref a0)])) rfl rfl (hb hby d1_69)
      have N1 := Fr.snoc X1 N0 g_a0
      have Yo1 : own_Y .char Z h0 a0 6 G := ⟨cl1, Ar1, Sz1, G1⟩
      have Zs2 : n0 ≤ h1.size := Nat.le_trans Z0 (Keep.of_wr W1).1
      have Kc3 : Keep h0 h1 [a0] := (Keep.refl h0 [a0]).wr W1 (Or.inl (List.mem_of_getElem? (i := 0) rfl))
      have Y1 : own_Y .char Z h1 a0 6 (own_upd G ((own_uns xs).length) (nar .char ((((p2.toUInt32 >>> ((1 : Int32) &&& 31).toUInt32).toInt32) &&& (65535 : Int32)).toUInt32.toUInt16.toUInt32.toInt32))) := own_Y_set Yo1 W1 ix1.2
      refine own_st ?_ st1
      show own_G p.tables e below _ _ (T1.setTop (mkF m 70 #[.val (.ref a0), .val (.int p1), .val (.int p2), .val (.int (((p2.toUInt32 >>> ((1 : Int32) &&& 31).toUInt32).toInt32) &&& (65535 : Int32)))] []))
      refine own_st ?_ (fun t_ k_ => XS.iloadN X1.here hx rfl (hb hby d1_70) rfl k_)
      show own_G p.tables e below _ _ (T1.setTop (mkF m 71 #[.val (.ref a0), .val (.int p1), .val (.int p2), .val (.int (((p2.toUInt32 >>> ((1 : Int32) &&& 31).toUInt32).toInt32) &&& (65535 : Int32)))] [(.int p1)]))
      refine own_st ?_ (fun t_ k_ => XS.iconst X1.here hx rfl (hb hby d1_71) k_)
      show own_G p.tables e below _ _ (T1.setTop (mkF m 72 #[.val (.ref a0), .val (.int p1), .val (.int p2), .val (.int (((p2.toUInt32 >>> ((1 : Int32) &&& 31).toUInt32).toInt32) &&& (65535 : Int32)))] [(.int (1 : Int32)), (.int p1)]))
      refine own_st ?_ (fun t_ k_ => XS.iadd X1.here hx rfl (hb hby d1_72) rfl k_)
      show own_G p.tables e below _ _ (T1.setTop (mkF m 73 #[.val (.ref a0), .val (.int p1), .val (.int p2), .val (.int (((p2.toUInt32 >>> ((1 : Int32) &&& 31).toUInt32).toInt32) &&& (65535 : Int32)))] [(.int (p1 + (1 : Int32)))]))
      have eu : own_uns (xs ++ [own_sym p2]) = own_uns xs ++ [(nar .char ((((p2.toUInt32 >>> ((1 : Int32) &&& 31).toUInt32).toInt32) &&& (65535 : Int32)).toUInt32.toUInt16.toUInt32.toInt32))] := by rw [own_sym, if_pos hc3, if_pos hc51]; exact own_uns1 _ _
      refine own_retI X1 hx hlk hret (hb hby d1_73) (by decide) (by decide) ⟨congrArg (fun z => some (Value.int z)) (by rw [eu, hat]; exact own_add1 _ _), N1, ?_⟩
      rw [e1]
      exact ⟨Kc3, _, Y1, by rw [eu]; exact own_get1 hG⟩
    · refine own_st ?_ (fun t_ k_ => XS.icmpNo X0.here hx rfl (hb hby d1_51) rfl (flt hc51).1 k_)
      show own_G p.tables e below _ _ (s₁.setTop (mkF m 54 #[.val (.ref a0), .val (.int p1), .val (.int p2), .val (.int (((p2.toUInt32 >>> ((1 : Int32) &&& 31).toUInt32).toInt32) &&& (65535 : Int32)))] []))
      refine own_st ?_ (fun t_ k_ => XS.iloadN X0.here hx rfl (hb hby d1_54) rfl k_)
      show own_G p.tables e below _ _ (s₁.setTop (mkF m 55 #[.val (.ref a0), .val (.int p1), .val (.int p2), .val (.int (((p2.toUInt32 >>> ((1 : Int32) &&& 31).toUInt32).toInt32) &&& (65535 : Int32)))] [(.int (((p2.toUInt32 >>> ((1 : Int32) &&& 31).toUInt32).toInt32) &&& (65535 : Int32)))]))
      refine own_st ?_ (X0.ldcInt hx hown (mvT hZ (hw _ (List.mem_of_getElem? (i := 161) rfl))) (g := (mkF m 55 #[.val (.ref a0), .val (.int p1), .val (.int p2), .val (.int (((p2.toUInt32 >>> ((1 : Int32) &&& 31).toUInt32).toInt32) &&& (65535 : Int32)))] [(.int (((p2.toUInt32 >>> ((1 : Int32) &&& 31).toUInt32).toInt32) &&& (65535 : Int32)))])) rfl (hb hby d1_55))
      show own_G p.tables e below _ _ (s₁.setTop (mkF m 57 #[.val (.ref a0), .val (.int p1), .val (.int p2), .val (.int (((p2.toUInt32 >>> ((1 : Int32) &&& 31).toUInt32).toInt32) &&& (65535 : Int32)))] [(.int (57343 : Int32)), (.int (((p2.toUInt32 >>> ((1 : Int32) &&& 31).toUInt32).toInt32) &&& (65535 : Int32)))]))
      by_cases hc57 : (57343 : Int32) < (((p2.toUInt32 >>> ((1 : Int32) &&& 31).toUInt32).toInt32) &&& (65535 : Int32))
      · refine own_st ?_ (fun t_ k_ => XS.icmpYes X0.here hx rfl (pc0 := 57) (pc' := 65) rfl (hb hby d1_57) rfl (tlt hc57).2.2.1 (by decide) (by decide) k_)
        show own_G p.tables e below _ _ (s₁.setTop (mkF m 65 #[.val (.ref a0), .val (.int p1), .val (.int p2), .val (.int (((p2.toUInt32 >>> ((1 : Int32) &&& 31).toUInt32).toInt32) &&& (65535 : Int32)))] []))
        refine own_st ?_ (fun t_ k_ => XS.aloadN X0.here hx rfl (hb hby d1_65) rfl rfl k_)
        show own_G p.tables e below _ _ (s₁.setTop (mkF m 66 #[.val (.ref a0), .val (.int p1), .val (.int p2), .val (.int (((p2.toUInt32 >>> ((1 : Int32) &&& 31).toUInt32).toInt32) &&& (65535 : Int32)))] [(.ref a0)]))
        refine own_st ?_ (fun t_ k_ => XS.iloadN X0.here hx rfl (hb hby d1_66) rfl k_)
        show own_G p.tables e below _ _ (s₁.setTop (mkF m 67 #[.val (.ref a0), .val (.int p1), .val (.int p2), .val (.int (((p2.toUInt32 >>> ((1 : Int32) &&& 31).toUInt32).toInt32) &&& (65535 : Int32)))] [(.int p1), (.ref a0)]))
        refine own_st ?_ (fun t_ k_ => XS.iloadN X0.here hx rfl (hb hby d1_67) rfl k_)
        show own_G p.tables e below _ _ (s₁.setTop (mkF m 68 #[.val (.ref a0), .val (.int p1), .val (.int p2), .val (.int (((p2.toUInt32 >>> ((1 : Int32) &&& 31).toUInt32).toInt32) &&& (65535 : Int32)))] [(.int (((p2.toUInt32 >>> ((1 : Int32) &&& 31).toUInt32).toInt32) &&& (65535 : Int32))), (.int p1), (.ref a0)]))
        refine own_st ?_ (fun t_ k_ => XS.i2c X0.here hx rfl (hb hby d1_68) rfl k_)
        show own_G p.tables e below _ _ (s₁.setTop (mkF m 69 #[.val (.ref a0), .val (.int p1), .val (.int p2), .val (.int (((p2.toUInt32 >>> ((1 : Int32) &&& 31).toUInt32).toInt32) &&& (65535 : Int32)))] [(.int ((((p2.toUInt32 >>> ((1 : Int32) &&& 31).toUInt32).toInt32) &&& (65535 : Int32)).toUInt32.toUInt16.toUInt32.toInt32)), (.int p1), (.ref a0)]))
        have ix4 := own_ix (j := p1) (k := (own_uns xs).length) (n := 6) hat (by omega) (by decide)
        obtain ⟨cl4, Ar4, Sz4, G4⟩ := Y0
        have hin4 : ¬ (p1 < 0 ∨ cl4.slots.size ≤ (p1).toNatClampNeg) := by rw [Sz4]; exact ix4.1
        obtain ⟨T4, h4, X4, e4, W4, st4⟩ := stC X0 hx hZ e0 Ar4 (j := p1) hin4 (g := (mkF m 69 #[.val (.ref a0), .val (.int p1), .val (.int p2), .val (.int (((p2.toUInt32 >>> ((1 : Int32) &&& 31).toUInt32).toInt32) &&& (65535 : Int32)))] [(.int ((((p2.toUInt32 >>> ((1 : Int32) &&& 31).toUInt32).toInt32) &&& (65535 : Int32)).toUInt32.toUInt16.toUInt32.toInt32)), (.int p1), (.ref a0)])) rfl rfl (hb hby d1_69)
        have N4 := Fr.snoc X4 N0 g_a0
        have Yo4 : own_Y .char Z h0 a0 6 G := ⟨cl4, Ar4, Sz4, G4⟩
        have Zs5 : n0 ≤ h4.size := Nat.le_trans Z0 (Keep.of_wr W4).1
        have Kc6 : Keep h0 h4 [a0] := (Keep.refl h0 [a0]).wr W4 (Or.inl (List.mem_of_getElem? (i := 0) rfl))
        have Y4 : own_Y .char Z h4 a0 6 (own_upd G ((own_uns xs).length) (nar .char ((((p2.toUInt32 >>> ((1 : Int32) &&& 31).toUInt32).toInt32) &&& (65535 : Int32)).toUInt32.toUInt16.toUInt32.toInt32))) := own_Y_set Yo4 W4 ix4.2
        refine own_st ?_ st4
        show own_G p.tables e below _ _ (T4.setTop (mkF m 70 #[.val (.ref a0), .val (.int p1), .val (.int p2), .val (.int (((p2.toUInt32 >>> ((1 : Int32) &&& 31).toUInt32).toInt32) &&& (65535 : Int32)))] []))
        refine own_st ?_ (fun t_ k_ => XS.iloadN X4.here hx rfl (hb hby d1_70) rfl k_)
        show own_G p.tables e below _ _ (T4.setTop (mkF m 71 #[.val (.ref a0), .val (.int p1), .val (.int p2), .val (.int (((p2.toUInt32 >>> ((1 : Int32) &&& 31).toUInt32).toInt32) &&& (65535 : Int32)))] [(.int p1)]))
        refine own_st ?_ (fun t_ k_ => XS.iconst X4.here hx rfl (hb hby d1_71) k_)
        show own_G p.tables e below _ _ (T4.setTop (mkF m 72 #[.val (.ref a0), .val (.int p1), .val (.int p2), .val (.int (((p2.toUInt32 >>> ((1 : Int32) &&& 31).toUInt32).toInt32) &&& (65535 : Int32)))] [(.int (1 : Int32)), (.int p1)]))
        refine own_st ?_ (fun t_ k_ => XS.iadd X4.here hx rfl (hb hby d1_72) rfl k_)
        show own_G p.tables e below _ _ (T4.setTop (mkF m 73 #[.val (.ref a0), .val (.int p1), .val (.int p2), .val (.int (((p2.toUInt32 >>> ((1 : Int32) &&& 31).toUInt32).toInt32) &&& (65535 : Int32)))] [(.int (p1 + (1 : Int32)))]))
        have eu : own_uns (xs ++ [own_sym p2]) = own_uns xs ++ [(nar .char ((((p2.toUInt32 >>> ((1 : Int32) &&& 31).toUInt32).toInt32) &&& (65535 : Int32)).toUInt32.toUInt16.toUInt32.toInt32))] := by rw [own_sym, if_pos hc3, if_neg hc51, if_pos hc57]; exact own_uns1 _ _
        refine own_retI X4 hx hlk hret (hb hby d1_73) (by decide) (by decide) ⟨congrArg (fun z => some (Value.int z)) (by rw [eu, hat]; exact own_add1 _ _), N4, ?_⟩
        rw [e4]
        exact ⟨Kc6, _, Y4, by rw [eu]; exact own_get1 hG⟩
      · refine own_st ?_ (fun t_ k_ => XS.icmpNo X0.here hx rfl (hb hby d1_57) rfl (flt hc57).2.2.1 k_)
        show own_G p.tables e below _ _ (s₁.setTop (mkF m 60 #[.val (.ref a0), .val (.int p1), .val (.int p2), .val (.int (((p2.toUInt32 >>> ((1 : Int32) &&& 31).toUInt32).toInt32) &&& (65535 : Int32)))] []))
        refine own_st ?_ (fun t_ k_ => XS.iloadN X0.here hx rfl (hb hby d1_60) rfl k_)
        show own_G p.tables e below _ _ (s₁.setTop (mkF m 61 #[.val (.ref a0), .val (.int p1), .val (.int p2), .val (.int (((p2.toUInt32 >>> ((1 : Int32) &&& 31).toUInt32).toInt32) &&& (65535 : Int32)))] [(.int (((p2.toUInt32 >>> ((1 : Int32) &&& 31).toUInt32).toInt32) &&& (65535 : Int32)))]))
        refine own_st ?_ (X0.ldcInt hx hown (mvT hZ (hw _ (List.mem_of_getElem? (i := 7) rfl))) (g := (mkF m 61 #[.val (.ref a0), .val (.int p1), .val (.int p2), .val (.int (((p2.toUInt32 >>> ((1 : Int32) &&& 31).toUInt32).toInt32) &&& (65535 : Int32)))] [(.int (((p2.toUInt32 >>> ((1 : Int32) &&& 31).toUInt32).toInt32) &&& (65535 : Int32)))])) rfl (hb hby d1_61))
        show own_G p.tables e below _ _ (s₁.setTop (mkF m 63 #[.val (.ref a0), .val (.int p1), .val (.int p2), .val (.int (((p2.toUInt32 >>> ((1 : Int32) &&& 31).toUInt32).toInt32) &&& (65535 : Int32)))] [(.int (55296 : Int32)), (.int (((p2.toUInt32 >>> ((1 : Int32) &&& 31).toUInt32).toInt32) &&& (65535 : Int32)))]))
        refine own_st ?_ (fun t_ k_ => XS.isub X0.here hx rfl (hb hby d1_63) rfl k_)
        show own_G p.tables e below _ _ (s₁.setTop (mkF m 64 #[.val (.ref a0), .val (.int p1), .val (.int p2), .val (.int (((p2.toUInt32 >>> ((1 : Int32) &&& 31).toUInt32).toInt32) &&& (65535 : Int32)))] [(.int ((((p2.toUInt32 >>> ((1 : Int32) &&& 31).toUInt32).toInt32) &&& (65535 : Int32)) - (55296 : Int32)))]))
        refine own_st ?_ (fun t_ k_ => XS.istoreN X0.here hx rfl (hb hby d1_64) rfl (l' := #[.val (.ref a0), .val (.int p1), .val (.int p2), .val (.int ((((p2.toUInt32 >>> ((1 : Int32) &&& 31).toUInt32).toInt32) &&& (65535 : Int32)) - (55296 : Int32)))]) rfl k_)
        show own_G p.tables e below _ _ (s₁.setTop (mkF m 65 #[.val (.ref a0), .val (.int p1), .val (.int p2), .val (.int ((((p2.toUInt32 >>> ((1 : Int32) &&& 31).toUInt32).toInt32) &&& (65535 : Int32)) - (55296 : Int32)))] []))
        refine own_st ?_ (fun t_ k_ => XS.aloadN X0.here hx rfl (hb hby d1_65) rfl rfl k_)
        show own_G p.tables e below _ _ (s₁.setTop (mkF m 66 #[.val (.ref a0), .val (.int p1), .val (.int p2), .val (.int ((((p2.toUInt32 >>> ((1 : Int32) &&& 31).toUInt32).toInt32) &&& (65535 : Int32)) - (55296 : Int32)))] [(.ref a0)]))
        refine own_st ?_ (fun t_ k_ => XS.iloadN X0.here hx rfl (hb hby d1_66) rfl k_)
        show own_G p.tables e below _ _ (s₁.setTop (mkF m 67 #[.val (.ref a0), .val (.int p1), .val (.int p2), .val (.int ((((p2.toUInt32 >>> ((1 : Int32) &&& 31).toUInt32).toInt32) &&& (65535 : Int32)) - (55296 : Int32)))] [(.int p1), (.ref a0)]))
        refine own_st ?_ (fun t_ k_ => XS.iloadN X0.here hx rfl (hb hby d1_67) rfl k_)
        show own_G p.tables e below _ _ (s₁.setTop (mkF m 68 #[.val (.ref a0), .val (.int p1), .val (.int p2), .val (.int ((((p2.toUInt32 >>> ((1 : Int32) &&& 31).toUInt32).toInt32) &&& (65535 : Int32)) - (55296 : Int32)))] [(.int ((((p2.toUInt32 >>> ((1 : Int32) &&& 31).toUInt32).toInt32) &&& (65535 : Int32)) - (55296 : Int32))), (.int p1), (.ref a0)]))
        refine own_st ?_ (fun t_ k_ => XS.i2c X0.here hx rfl (hb hby d1_68) rfl k_)
        show own_G p.tables e below _ _ (s₁.setTop (mkF m 69 #[.val (.ref a0), .val (.int p1), .val (.int p2), .val (.int ((((p2.toUInt32 >>> ((1 : Int32) &&& 31).toUInt32).toInt32) &&& (65535 : Int32)) - (55296 : Int32)))] [(.int (((((p2.toUInt32 >>> ((1 : Int32) &&& 31).toUInt32).toInt32) &&& (65535 : Int32)) - (55296 : Int32)).toUInt32.toUInt16.toUInt32.toInt32)), (.int p1), (.ref a0)]))
        have ix7 := own_ix (j := p1) (k := (own_uns xs).length) (n := 6) hat (by omega) (by decide)
        obtain ⟨cl7, Ar7, Sz7, G7⟩ := Y0
        have hin7 : ¬ (p1 < 0 ∨ cl7.slots.size ≤ (p1).toNatClampNeg) := by rw [Sz7]; exact ix7.1
        obtain ⟨T7, h7, X7, e7, W7, st7⟩ := stC X0 hx hZ e0 Ar7 (j := p1) hin7 (g := (mkF m 69 #[.val (.ref a0), .val (.int p1), .val (.int p2), .val (.int ((((p2.toUInt32 >>> ((1 : Int32) &&& 31).toUInt32).toInt32) &&& (65535 : Int32)) - (55296 : Int32)))] [(.int (((((p2.toUInt32 >>> ((1 : Int32) &&& 31).toUInt32).toInt32) &&& (65535 : Int32)) - (55296 : Int32)).toUInt32.toUInt16.toUInt32.toInt32)), (.int p1), (.ref a0)])) rfl rfl (hb hby d1_69)
        have N7 := Fr.snoc X7 N0 g_a0
        have Yo7 : own_Y .char Z h0 a0 6 G := ⟨cl7, Ar7, Sz7, G7⟩
        have Zs8 : n0 ≤ h7.size := Nat.le_trans Z0 (Keep.of_wr W7).1
        have Kc9 : Keep h0 h7 [a0] := (Keep.refl h0 [a0]).wr W7 (Or.inl (List.mem_of_getElem? (i := 0) rfl))
        have Y7 : own_Y .char Z h7 a0 6 (own_upd G ((own_uns xs).length) (nar .char (((((p2.toUInt32 >>> ((1 : Int32) &&& 31).toUInt32).toInt32) &&& (65535 : Int32)) - (55296 : Int32)).toUInt32.toUInt16.toUInt32.toInt32))) := own_Y_set Yo7 W7 ix7.2
        refine own_st ?_ st7
        show own_G p.tables e below _ _ (T7.setTop (mkF m 70 #[.val (.ref a0), .val (.int p1), .val (.int p2), .val (.int ((((p2.toUInt32 >>> ((1 : Int32) &&& 31).toUInt32).toInt32) &&& (65535 : Int32)) - (55296 : Int32)))] []))
        refine own_st ?_ (fun t_ k_ => XS.iloadN X7.here hx rfl (hb hby d1_70) rfl k_)
        show own_G p.tables e below _ _ (T7.setTop (mkF m 71 #[.val (.ref a0), .val (.int p1), .val (.int p2), .val (.int ((((p2.toUInt32 >>> ((1 : Int32) &&& 31).toUInt32).toInt32) &&& (65535 : Int32)) - (55296 : Int32)))] [(.int p1)]))
        refine own_st ?_ (fun t_ k_ => XS.iconst X7.here hx rfl (hb hby d1_71) k_)
        show own_G p.tables e below _ _ (T7.setTop (mkF m 72 #[.val (.ref a0), .val (.int p1), .val (.int p2), .val (.int ((((p2.toUInt32 >>> ((1 : Int32) &&& 31).toUInt32).toInt32) &&& (65535 : Int32)) - (55296 : Int32)))] [(.int (1 : Int32)), (.int p1)]))
        refine own_st ?_ (fun t_ k_ => XS.iadd X7.here hx rfl (hb hby d1_72) rfl k_)
        show own_G p.tables e below _ _ (T7.setTop (mkF m 73 #[.val (.ref a0), .val (.int p1), .val (.int p2), .val (.int ((((p2.toUInt32 >>> ((1 : Int32) &&& 31).toUInt32).toInt32) &&& (65535 : Int32)) - (55296 : Int32)))] [(.int (p1 + (1 : Int32)))]))
        have eu : own_uns (xs ++ [own_sym p2]) = own_uns xs ++ [(nar .char (((((p2.toUInt32 >>> ((1 : Int32) &&& 31).toUInt32).toInt32) &&& (65535 : Int32)) - (55296 : Int32)).toUInt32.toUInt16.toUInt32.toInt32))] := by rw [own_sym, if_pos hc3, if_neg hc51, if_neg hc57]; exact own_uns1 _ _
        refine own_retI X7 hx hlk hret (hb hby d1_73) (by decide) (by decide) ⟨congrArg (fun z => some (Value.int z)) (by rw [eu, hat]; exact own_add1 _ _), N7, ?_⟩
        rw [e7]
        exact ⟨Kc9, _, Y7, by rw [eu]; exact own_get1 hG⟩
  · refine own_st ?_ (fun t_ k_ => XS.ifNo X0.here hx rfl (hb hby d1_3) rfl ((if0 _ _).trans (feq hc3).1) k_)
    show own_G p.tables e below _ _ (s₁.setTop (mkF m 6 #[.val (.ref a0), .val (.int p1), .val (.int p2), .unset] []))
    refine own_st ?_ (fun t_ k_ => XS.aloadN X0.here hx rfl (hb hby d1_6) rfl rfl k_)
    show own_G p.tables e below _ _ (s₁.setTop (mkF m 7 #[.val (.ref a0), .val (.int p1), .val (.int p2), .unset] [(.ref a0)]))
    refine own_st ?_ (fun t_ k_ => XS.iloadN X0.here hx rfl (hb hby d1_7) rfl k_)
    show own_G p.tables e below _ _ (s₁.setTop (mkF m 8 #[.val (.ref a0), .val (.int p1), .val (.int p2), .unset] [(.int p1), (.ref a0)]))
    refine own_st ?_ (X0.ldcInt hx hown (mvT hZ (hw _ (List.mem_of_getElem? (i := 7) rfl))) (g := (mkF m 8 #[.val (.ref a0), .val (.int p1), .val (.int p2), .unset] [(.int p1), (.ref a0)])) rfl (hb hby d1_8))
    show own_G p.tables e below _ _ (s₁.setTop (mkF m 10 #[.val (.ref a0), .val (.int p1), .val (.int p2), .unset] [(.int (55296 : Int32)), (.int p1), (.ref a0)]))
    refine own_st ?_ (fun t_ k_ => XS.iloadN X0.here hx rfl (hb hby d1_10) rfl k_)
    show own_G p.tables e below _ _ (s₁.setTop (mkF m 11 #[.val (.ref a0), .val (.int p1), .val (.int p2), .unset] [(.int p2), (.int (55296 : Int32)), (.int p1), (.ref a0)]))
    refine own_st ?_ (fun t_ k_ => XS.iconst X0.here hx rfl (hb hby d1_11) k_)
    show own_G p.tables e below _ _ (s₁.setTop (mkF m 12 #[.val (.ref a0), .val (.int p1), .val (.int p2), .unset] [(.int (1 : Int32)), (.int p2), (.int (55296 : Int32)), (.int p1), (.ref a0)]))
    refine own_st ?_ (fun t_ k_ => XS.iushr X0.here hx rfl (hb hby d1_12) rfl k_)
    show own_G p.tables e below _ _ (s₁.setTop (mkF m 13 #[.val (.ref a0), .val (.int p1), .val (.int p2), .unset] [(.int ((p2.toUInt32 >>> ((1 : Int32) &&& 31).toUInt32).toInt32)), (.int (55296 : Int32)), (.int p1), (.ref a0)]))
    refine own_st ?_ (fun t_ k_ => XS.sipush X0.here hx rfl (hb hby d1_13) k_)
    show own_G p.tables e below _ _ (s₁.setTop (mkF m 16 #[.val (.ref a0), .val (.int p1), .val (.int p2), .unset] [(.int (1023 : Int32)), (.int ((p2.toUInt32 >>> ((1 : Int32) &&& 31).toUInt32).toInt32)), (.int (55296 : Int32)), (.int p1), (.ref a0)]))
    refine own_st ?_ (fun t_ k_ => XS.iand X0.here hx rfl (hb hby d1_16) rfl k_)
    show own_G p.tables e below _ _ (s₁.setTop (mkF m 17 #[.val (.ref a0), .val (.int p1), .val (.int p2), .unset] [(.int (((p2.toUInt32 >>> ((1 : Int32) &&& 31).toUInt32).toInt32) &&& (1023 : Int32))), (.int (55296 : Int32)), (.int p1), (.ref a0)]))
    refine own_st ?_ (fun t_ k_ => XS.ior X0.here hx rfl (hb hby d1_17) rfl k_)
    show own_G p.tables e below _ _ (s₁.setTop (mkF m 18 #[.val (.ref a0), .val (.int p1), .val (.int p2), .unset] [(.int ((55296 : Int32) ||| (((p2.toUInt32 >>> ((1 : Int32) &&& 31).toUInt32).toInt32) &&& (1023 : Int32)))), (.int p1), (.ref a0)]))
    refine own_st ?_ (fun t_ k_ => XS.i2c X0.here hx rfl (hb hby d1_18) rfl k_)
    show own_G p.tables e below _ _ (s₁.setTop (mkF m 19 #[.val (.ref a0), .val (.int p1), .val (.int p2), .unset] [(.int (((55296 : Int32) ||| (((p2.toUInt32 >>> ((1 : Int32) &&& 31).toUInt32).toInt32) &&& (1023 : Int32))).toUInt32.toUInt16.toUInt32.toInt32)), (.int p1), (.ref a0)]))
    have ix10 := own_ix (j := p1) (k := (own_uns xs).length) (n := 6) hat (by omega) (by decide)
    obtain ⟨cl10, Ar10, Sz10, G10⟩ := Y0
    have hin10 : ¬ (p1 < 0 ∨ cl10.slots.size ≤ (p1).toNatClampNeg) := by rw [Sz10]; exact ix10.1
    obtain ⟨T10, h10, X10, e10, W10, st10⟩ := stC X0 hx hZ e0 Ar10 (j := p1) hin10 (g := (mkF m 19 #[.val (.ref a0), .val (.int p1), .val (.int p2), .unset] [(.int (((55296 : Int32) ||| (((p2.toUInt32 >>> ((1 : Int32) &&& 31).toUInt32).toInt32) &&& (1023 : Int32))).toUInt32.toUInt16.toUInt32.toInt32)), (.int p1), (.ref a0)])) rfl rfl (hb hby d1_19)
    have N10 := Fr.snoc X10 N0 g_a0
    have Yo10 : own_Y .char Z h0 a0 6 G := ⟨cl10, Ar10, Sz10, G10⟩
    have Zs11 : n0 ≤ h10.size := Nat.le_trans Z0 (Keep.of_wr W10).1
    have Kc12 : Keep h0 h10 [a0] := (Keep.refl h0 [a0]).wr W10 (Or.inl (List.mem_of_getElem? (i := 0) rfl))
    have Y10 : own_Y .char Z h10 a0 6 (own_upd G ((own_uns xs).length) (nar .char (((55296 : Int32) ||| (((p2.toUInt32 >>> ((1 : Int32) &&& 31).toUInt32).toInt32) &&& (1023 : Int32))).toUInt32.toUInt16.toUInt32.toInt32))) := own_Y_set Yo10 W10 ix10.2
    refine own_st ?_ st10
    show own_G p.tables e below _ _ (T10.setTop (mkF m 20 #[.val (.ref a0), .val (.int p1), .val (.int p2), .unset] []))
    refine own_st ?_ (fun t_ k_ => XS.aloadN X10.here hx rfl (hb hby d1_20) rfl rfl k_)
    show own_G p.tables e below _ _ (T10.setTop (mkF m 21 #[.val (.ref a0), .val (.int p1), .val (.int p2), .unset] [(.ref a0)]))
    refine own_st ?_ (fun t_ k_ => XS.iloadN X10.here hx rfl (hb hby d1_21) rfl k_)
    show own_G p.tables e below _ _ (T10.setTop (mkF m 22 #[.val (.ref a0), .val (.int p1), .val (.int p2), .unset] [(.int p1), (.ref a0)]))
    refine own_st ?_ (fun t_ k_ => XS.iconst X10.here hx rfl (hb hby d1_22) k_)
    show own_G p.tables e below _ _ (T10.setTop (mkF m 23 #[.val (.ref a0), .val (.int p1), .val (.int p2), .unset] [(.int (1 : Int32)), (.int p1), (.ref a0)]))
    refine own_st ?_ (fun t_ k_ => XS.iadd X10.here hx rfl (hb hby d1_23) rfl k_)
    show own_G p.tables e below _ _ (T10.setTop (mkF m 24 #[.val (.ref a0), .val (.int p1), .val (.int p2), .unset] [(.int (p1 + (1 : Int32))), (.ref a0)]))
    refine own_st ?_ (X10.ldcInt hx hown (mvT hZ (hw _ (List.mem_of_getElem? (i := 8) rfl))) (g := (mkF m 24 #[.val (.ref a0), .val (.int p1), .val (.int p2), .unset] [(.int (p1 + (1 : Int32))), (.ref a0)])) rfl (hb hby d1_24))
    show own_G p.tables e below _ _ (T10.setTop (mkF m 26 #[.val (.ref a0), .val (.int p1), .val (.int p2), .unset] [(.int (56320 : Int32)), (.int (p1 + (1 : Int32))), (.ref a0)]))
    refine own_st ?_ (fun t_ k_ => XS.iloadN X10.here hx rfl (hb hby d1_26) rfl k_)
    show own_G p.tables e below _ _ (T10.setTop (mkF m 27 #[.val (.ref a0), .val (.int p1), .val (.int p2), .unset] [(.int p2), (.int (56320 : Int32)), (.int (p1 + (1 : Int32))), (.ref a0)]))
    refine own_st ?_ (fun t_ k_ => XS.bipush X10.here hx rfl (hb hby d1_27) k_)
    show own_G p.tables e below _ _ (T10.setTop (mkF m 29 #[.val (.ref a0), .val (.int p1), .val (.int p2), .unset] [(.int (11 : Int32)), (.int p2), (.int (56320 : Int32)), (.int (p1 + (1 : Int32))), (.ref a0)]))
    refine own_st ?_ (fun t_ k_ => XS.iushr X10.here hx rfl (hb hby d1_29) rfl k_)
    show own_G p.tables e below _ _ (T10.setTop (mkF m 30 #[.val (.ref a0), .val (.int p1), .val (.int p2), .unset] [(.int ((p2.toUInt32 >>> ((11 : Int32) &&& 31).toUInt32).toInt32)), (.int (56320 : Int32)), (.int (p1 + (1 : Int32))), (.ref a0)]))
    refine own_st ?_ (fun t_ k_ => XS.sipush X10.here hx rfl (hb hby d1_30) k_)
    show own_G p.tables e below _ _ (T10.setTop (mkF m 33 #[.val (.ref a0), .val (.int p1), .val (.int p2), .unset] [(.int (1023 : Int32)), (.int ((p2.toUInt32 >>> ((11 : Int32) &&& 31).toUInt32).toInt32)), (.int (56320 : Int32)), (.int (p1 + (1 : Int32))), (.ref a0)]))
    refine own_st ?_ (fun t_ k_ => XS.iand X10.here hx rfl (hb hby d1_33) rfl k_)
    show own_G p.tables e below _ _ (T10.setTop (mkF m 34 #[.val (.ref a0), .val (.int p1), .val (.int p2), .unset] [(.int (((p2.toUInt32 >>> ((11 : Int32) &&& 31).toUInt32).toInt32) &&& (1023 : Int32))), (.int (56320 : Int32)), (.int (p1 + (1 : Int32))), (.ref a0)]))
    refine own_st ?_ (fun t_ k_ => XS.ior X10.here hx rfl (hb hby d1_34) rfl k_)
    show own_G p.tables e below _ _ (T10.setTop (mkF m 35 #[.val (.ref a0), .val (.int p1), .val (.int p2), .unset] [(.int ((56320 : Int32) ||| (((p2.toUInt32 >>> ((11 : Int32) &&& 31).toUInt32).toInt32) &&& (1023 : Int32)))), (.int (p1 + (1 : Int32))), (.ref a0)]))
    refine own_st ?_ (fun t_ k_ => XS.i2c X10.here hx rfl (hb hby d1_35) rfl k_)
    show own_G p.tables e below _ _ (T10.setTop (mkF m 36 #[.val (.ref a0), .val (.int p1), .val (.int p2), .unset] [(.int (((56320 : Int32) ||| (((p2.toUInt32 >>> ((11 : Int32) &&& 31).toUInt32).toInt32) &&& (1023 : Int32))).toUInt32.toUInt16.toUInt32.toInt32)), (.int (p1 + (1 : Int32))), (.ref a0)]))
    have ix13 := own_ix (j := (p1 + (1 : Int32))) (k := (own_uns xs).length + 1) (n := 6) (by rw [hat]; exact own_inc _) (by omega) (by decide)
    obtain ⟨cl13, Ar13, Sz13, G13⟩ := Y10
    have hin13 : ¬ ((p1 + (1 : Int32)) < 0 ∨ cl13.slots.size ≤ ((p1 + (1 : Int32))).toNatClampNeg) := by rw [Sz13]; exact ix13.1
    obtain ⟨T13, h13, X13, e13, W13, st13⟩ := stC X10 hx hZ e10 Ar13 (j := (p1 + (1 : Int32))) hin13 (g := (mkF m 36 #[.val (.ref a0), .val (.int p1), .val (.int p2), .unset] [(.int (((56320 : Int32) ||| (((p2.toUInt32 >>> ((11 : Int32) &&& 31).toUInt32).toInt32) &&& (1023 : Int32))).toUInt32.toUInt16.toUInt32.toInt32)), (.int (p1 + (1 : Int32))), (.ref a0)])) rfl rfl (hb hby d1_36)
    have N13 := Fr.snoc X13 N10 g_a0
    have Yo13 : own_Y .char Z h10 a0 6 (own_upd G ((own_uns xs).length) (nar .char (((55296 : Int32) ||| (((p2.toUInt32 >>> ((1 : Int32) &&& 31).toUInt32).toInt32) &&& (1023 : Int32))).toUInt32.toUInt16.toUInt32.toInt32))) := ⟨cl13, Ar13, Sz13, G13⟩
    have Zs14 : n0 ≤ h13.size := Nat.le_trans Zs11 (Keep.of_wr W13).1
    have Kc15 : Keep h0 h13 [a0] := Kc12.wr W13 (Or.inl (List.mem_of_getElem? (i := 0) rfl))
    have Y13 : own_Y .char Z h13 a0 6 (own_upd (own_upd G ((own_uns xs).length) (nar .char (((55296 : Int32) ||| (((p2.toUInt32 >>> ((1 : Int32) &&& 31).toUInt32).toInt32) &&& (1023 : Int32))).toUInt32.toUInt16.toUInt32.toInt32))) ((own_uns xs).length + 1) (nar .char (((56320 : Int32) ||| (((p2.toUInt32 >>> ((11 : Int32) &&& 31).toUInt32).toInt32) &&& (1023 : Int32))).toUInt32.toUInt16.toUInt32.toInt32))) := own_Y_set Yo13 W13 ix13.2
    refine own_st ?_ st13
    show own_G p.tables e below _ _ (T13.setTop (mkF m 37 #[.val (.ref a0), .val (.int p1), .val (.int p2), .unset] []))
    refine own_st ?_ (fun t_ k_ => XS.iloadN X13.here hx rfl (hb hby d1_37) rfl k_)
    show own_G p.tables e below _ _ (T13.setTop (mkF m 38 #[.val (.ref a0), .val (.int p1), .val (.int p2), .unset] [(.int p1)]))
    refine own_st ?_ (fun t_ k_ => XS.iconst X13.here hx rfl (hb hby d1_38) k_)
    show own_G p.tables e below _ _ (T13.setTop (mkF m 39 #[.val (.ref a0), .val (.int p1), .val (.int p2), .unset] [(.int (2 : Int32)), (.int p1)]))
    refine own_st ?_ (fun t_ k_ => XS.iadd X13.here hx rfl (hb hby d1_39) rfl k_)
    show own_G p.tables e below _ _ (T13.setTop (mkF m 40 #[.val (.ref a0), .val (.int p1), .val (.int p2), .unset] [(.int (p1 + (2 : Int32)))]))
    have eu : own_uns (xs ++ [own_sym p2]) = own_uns xs ++ [(nar .char (((55296 : Int32) ||| (((p2.toUInt32 >>> ((1 : Int32) &&& 31).toUInt32).toInt32) &&& (1023 : Int32))).toUInt32.toUInt16.toUInt32.toInt32)), (nar .char (((56320 : Int32) ||| (((p2.toUInt32 >>> ((11 : Int32) &&& 31).toUInt32).toInt32) &&& (1023 : Int32))).toUInt32.toUInt16.toUInt32.toInt32))] := by rw [own_sym, if_neg hc3]; exact own_uns2 _ _ _
    refine own_retI X13 hx hlk hret (hb hby d1_40) (by decide) (by decide) ⟨congrArg (fun z => some (Value.int z)) (by rw [eu, hat]; exact own_add2 _ _ _), N13, ?_⟩
    rw [e13]
    exact ⟨Kc15, _, Y13, by rw [eu]; exact own_get2 hG⟩
theorem d2_0 : decode method_4_code 0 = .ok (.iload_n 1, 1) := by decide +kernel
theorem d2_1 : decode method_4_code 1 = .ok (.iconst 1, 1) := by decide +kernel
theorem d2_2 : decode method_4_code 2 = .ok (.if_icmp .gt 13, 3) := by decide +kernel
theorem d2_5 : decode method_4_code 5 = .ok (.iconst 1, 1) := by decide +kernel
theorem d2_6 : decode method_4_code 6 = .ok (.newarray .char, 2) := by decide +kernel
theorem d2_8 : decode method_4_code 8 = .ok (.dup, 1) := by decide +kernel
theorem d2_9 : decode method_4_code 9 = .ok (.iconst 0, 1) := by decide +kernel
theorem d2_10 : decode method_4_code 10 = .ok (.aload_n 0, 1) := by decide +kernel
theorem d2_11 : decode method_4_code 11 = .ok (.iconst 0, 1) := by decide +kernel
theorem d2_12 : decode method_4_code 12 = .ok (.caload, 1) := by decide +kernel
theorem d2_13 : decode method_4_code 13 = .ok (.castore, 1) := by decide +kernel
theorem d2_14 : decode method_4_code 14 = .ok (.areturn, 1) := by decide +kernel
theorem d2_15 : decode method_4_code 15 = .ok (.iload_n 1, 1) := by decide +kernel
theorem d2_16 : decode method_4_code 16 = .ok (.iconst 2, 1) := by decide +kernel
theorem d2_17 : decode method_4_code 17 = .ok (.if_icmp .ne 19, 3) := by decide +kernel
theorem d2_20 : decode method_4_code 20 = .ok (.iconst 2, 1) := by decide +kernel
theorem d2_21 : decode method_4_code 21 = .ok (.newarray .char, 2) := by decide +kernel
theorem d2_23 : decode method_4_code 23 = .ok (.dup, 1) := by decide +kernel
theorem d2_24 : decode method_4_code 24 = .ok (.iconst 0, 1) := by decide +kernel
theorem d2_25 : decode method_4_code 25 = .ok (.aload_n 0, 1) := by decide +kernel
theorem d2_26 : decode method_4_code 26 = .ok (.iconst 0, 1) := by decide +kernel
theorem d2_27 : decode method_4_code 27 = .ok (.caload, 1) := by decide +kernel
theorem d2_28 : decode method_4_code 28 = .ok (.castore, 1) := by decide +kernel
theorem d2_29 : decode method_4_code 29 = .ok (.dup, 1) := by decide +kernel
theorem d2_30 : decode method_4_code 30 = .ok (.iconst 1, 1) := by decide +kernel
theorem d2_31 : decode method_4_code 31 = .ok (.aload_n 0, 1) := by decide +kernel
theorem d2_32 : decode method_4_code 32 = .ok (.iconst 1, 1) := by decide +kernel
theorem d2_33 : decode method_4_code 33 = .ok (.caload, 1) := by decide +kernel
theorem d2_34 : decode method_4_code 34 = .ok (.castore, 1) := by decide +kernel
theorem d2_35 : decode method_4_code 35 = .ok (.areturn, 1) := by decide +kernel
theorem d2_36 : decode method_4_code 36 = .ok (.iload_n 1, 1) := by decide +kernel
theorem d2_37 : decode method_4_code 37 = .ok (.iconst 3, 1) := by decide +kernel
theorem d2_38 : decode method_4_code 38 = .ok (.if_icmp .ne 25, 3) := by decide +kernel
theorem d2_41 : decode method_4_code 41 = .ok (.iconst 3, 1) := by decide +kernel
theorem d2_42 : decode method_4_code 42 = .ok (.newarray .char, 2) := by decide +kernel
theorem d2_44 : decode method_4_code 44 = .ok (.dup, 1) := by decide +kernel
theorem d2_45 : decode method_4_code 45 = .ok (.iconst 0, 1) := by decide +kernel
theorem d2_46 : decode method_4_code 46 = .ok (.aload_n 0, 1) := by decide +kernel
theorem d2_47 : decode method_4_code 47 = .ok (.iconst 0, 1) := by decide +kernel
theorem d2_48 : decode method_4_code 48 = .ok (.caload, 1) := by decide +kernel
theorem d2_49 : decode method_4_code 49 = .ok (.castore, 1) := by decide +kernel
theorem d2_50 : decode method_4_code 50 = .ok (.dup, 1) := by decide +kernel
theorem d2_51 : decode method_4_code 51 = .ok (.iconst 1, 1) := by decide +kernel
theorem d2_52 : decode method_4_code 52 = .ok (.aload_n 0, 1) := by decide +kernel
theorem d2_53 : decode method_4_code 53 = .ok (.iconst 1, 1) := by decide +kernel
theorem d2_54 : decode method_4_code 54 = .ok (.caload, 1) := by decide +kernel
theorem d2_55 : decode method_4_code 55 = .ok (.castore, 1) := by decide +kernel
theorem d2_56 : decode method_4_code 56 = .ok (.dup, 1) := by decide +kernel
theorem d2_57 : decode method_4_code 57 = .ok (.iconst 2, 1) := by decide +kernel
theorem d2_58 : decode method_4_code 58 = .ok (.aload_n 0, 1) := by decide +kernel
theorem d2_59 : decode method_4_code 59 = .ok (.iconst 2, 1) := by decide +kernel
theorem d2_60 : decode method_4_code 60 = .ok (.caload, 1) := by decide +kernel
theorem d2_61 : decode method_4_code 61 = .ok (.castore, 1) := by decide +kernel
theorem d2_62 : decode method_4_code 62 = .ok (.areturn, 1) := by decide +kernel
theorem d2_63 : decode method_4_code 63 = .ok (.iload_n 1, 1) := by decide +kernel
theorem d2_64 : decode method_4_code 64 = .ok (.iconst 4, 1) := by decide +kernel
theorem d2_65 : decode method_4_code 65 = .ok (.if_icmp .ne 31, 3) := by decide +kernel
theorem d2_68 : decode method_4_code 68 = .ok (.iconst 4, 1) := by decide +kernel
theorem d2_69 : decode method_4_code 69 = .ok (.newarray .char, 2) := by decide +kernel
theorem d2_71 : decode method_4_code 71 = .ok (.dup, 1) := by decide +kernel
theorem d2_72 : decode method_4_code 72 = .ok (.iconst 0, 1) := by decide +kernel
theorem d2_73 : decode method_4_code 73 = .ok (.aload_n 0, 1) := by decide +kernel
theorem d2_74 : decode method_4_code 74 = .ok (.iconst 0, 1) := by decide +kernel
theorem d2_75 : decode method_4_code 75 = .ok (.caload, 1) := by decide +kernel
theorem d2_76 : decode method_4_code 76 = .ok (.castore, 1) := by decide +kernel
theorem d2_77 : decode method_4_code 77 = .ok (.dup, 1) := by decide +kernel
theorem d2_78 : decode method_4_code 78 = .ok (.iconst 1, 1) := by decide +kernel
theorem d2_79 : decode method_4_code 79 = .ok (.aload_n 0, 1) := by decide +kernel
theorem d2_80 : decode method_4_code 80 = .ok (.iconst 1, 1) := by decide +kernel
theorem d2_81 : decode method_4_code 81 = .ok (.caload, 1) := by decide +kernel
theorem d2_82 : decode method_4_code 82 = .ok (.castore, 1) := by decide +kernel
theorem d2_83 : decode method_4_code 83 = .ok (.dup, 1) := by decide +kernel
theorem d2_84 : decode method_4_code 84 = .ok (.iconst 2, 1) := by decide +kernel
theorem d2_85 : decode method_4_code 85 = .ok (.aload_n 0, 1) := by decide +kernel
theorem d2_86 : decode method_4_code 86 = .ok (.iconst 2, 1) := by decide +kernel
theorem d2_87 : decode method_4_code 87 = .ok (.caload, 1) := by decide +kernel
theorem d2_88 : decode method_4_code 88 = .ok (.castore, 1) := by decide +kernel
theorem d2_89 : decode method_4_code 89 = .ok (.dup, 1) := by decide +kernel
theorem d2_90 : decode method_4_code 90 = .ok (.iconst 3, 1) := by decide +kernel
theorem d2_91 : decode method_4_code 91 = .ok (.aload_n 0, 1) := by decide +kernel
theorem d2_92 : decode method_4_code 92 = .ok (.iconst 3, 1) := by decide +kernel
theorem d2_93 : decode method_4_code 93 = .ok (.caload, 1) := by decide +kernel
theorem d2_94 : decode method_4_code 94 = .ok (.castore, 1) := by decide +kernel
theorem d2_95 : decode method_4_code 95 = .ok (.areturn, 1) := by decide +kernel
theorem d2_96 : decode method_4_code 96 = .ok (.iload_n 1, 1) := by decide +kernel
theorem d2_97 : decode method_4_code 97 = .ok (.iconst 5, 1) := by decide +kernel
theorem d2_98 : decode method_4_code 98 = .ok (.if_icmp .ne 37, 3) := by decide +kernel
theorem d2_101 : decode method_4_code 101 = .ok (.iconst 5, 1) := by decide +kernel
theorem d2_102 : decode method_4_code 102 = .ok (.newarray .char, 2) := by decide +kernel
theorem d2_104 : decode method_4_code 104 = .ok (.dup, 1) := by decide +kernel
theorem d2_105 : decode method_4_code 105 = .ok (.iconst 0, 1) := by decide +kernel
theorem d2_106 : decode method_4_code 106 = .ok (.aload_n 0, 1) := by decide +kernel
theorem d2_107 : decode method_4_code 107 = .ok (.iconst 0, 1) := by decide +kernel
theorem d2_108 : decode method_4_code 108 = .ok (.caload, 1) := by decide +kernel
theorem d2_109 : decode method_4_code 109 = .ok (.castore, 1) := by decide +kernel
theorem d2_110 : decode method_4_code 110 = .ok (.dup, 1) := by decide +kernel
theorem d2_111 : decode method_4_code 111 = .ok (.iconst 1, 1) := by decide +kernel
theorem d2_112 : decode method_4_code 112 = .ok (.aload_n 0, 1) := by decide +kernel
theorem d2_113 : decode method_4_code 113 = .ok (.iconst 1, 1) := by decide +kernel
theorem d2_114 : decode method_4_code 114 = .ok (.caload, 1) := by decide +kernel
theorem d2_115 : decode method_4_code 115 = .ok (.castore, 1) := by decide +kernel
theorem d2_116 : decode method_4_code 116 = .ok (.dup, 1) := by decide +kernel
theorem d2_117 : decode method_4_code 117 = .ok (.iconst 2, 1) := by decide +kernel
theorem d2_118 : decode method_4_code 118 = .ok (.aload_n 0, 1) := by decide +kernel
theorem d2_119 : decode method_4_code 119 = .ok (.iconst 2, 1) := by decide +kernel
theorem d2_120 : decode method_4_code 120 = .ok (.caload, 1) := by decide +kernel
theorem d2_121 : decode method_4_code 121 = .ok (.castore, 1) := by decide +kernel
theorem d2_122 : decode method_4_code 122 = .ok (.dup, 1) := by decide +kernel
theorem d2_123 : decode method_4_code 123 = .ok (.iconst 3, 1) := by decide +kernel
theorem d2_124 : decode method_4_code 124 = .ok (.aload_n 0, 1) := by decide +kernel
theorem d2_125 : decode method_4_code 125 = .ok (.iconst 3, 1) := by decide +kernel
theorem d2_126 : decode method_4_code 126 = .ok (.caload, 1) := by decide +kernel
theorem d2_127 : decode method_4_code 127 = .ok (.castore, 1) := by decide +kernel
theorem d2_128 : decode method_4_code 128 = .ok (.dup, 1) := by decide +kernel
theorem d2_129 : decode method_4_code 129 = .ok (.iconst 4, 1) := by decide +kernel
theorem d2_130 : decode method_4_code 130 = .ok (.aload_n 0, 1) := by decide +kernel
theorem d2_131 : decode method_4_code 131 = .ok (.iconst 4, 1) := by decide +kernel
theorem d2_132 : decode method_4_code 132 = .ok (.caload, 1) := by decide +kernel
theorem d2_133 : decode method_4_code 133 = .ok (.castore, 1) := by decide +kernel
theorem d2_134 : decode method_4_code 134 = .ok (.areturn, 1) := by decide +kernel
theorem d2_135 : decode method_4_code 135 = .ok (.bipush 6, 2) := by decide +kernel
theorem d2_137 : decode method_4_code 137 = .ok (.newarray .char, 2) := by decide +kernel
theorem d2_139 : decode method_4_code 139 = .ok (.dup, 1) := by decide +kernel
theorem d2_140 : decode method_4_code 140 = .ok (.iconst 0, 1) := by decide +kernel
theorem d2_141 : decode method_4_code 141 = .ok (.aload_n 0, 1) := by decide +kernel
theorem d2_142 : decode method_4_code 142 = .ok (.iconst 0, 1) := by decide +kernel
theorem d2_143 : decode method_4_code 143 = .ok (.caload, 1) := by decide +kernel
theorem d2_144 : decode method_4_code 144 = .ok (.castore, 1) := by decide +kernel
theorem d2_145 : decode method_4_code 145 = .ok (.dup, 1) := by decide +kernel
theorem d2_146 : decode method_4_code 146 = .ok (.iconst 1, 1) := by decide +kernel
theorem d2_147 : decode method_4_code 147 = .ok (.aload_n 0, 1) := by decide +kernel
theorem d2_148 : decode method_4_code 148 = .ok (.iconst 1, 1) := by decide +kernel
theorem d2_149 : decode method_4_code 149 = .ok (.caload, 1) := by decide +kernel
theorem d2_150 : decode method_4_code 150 = .ok (.castore, 1) := by decide +kernel
theorem d2_151 : decode method_4_code 151 = .ok (.dup, 1) := by decide +kernel
theorem d2_152 : decode method_4_code 152 = .ok (.iconst 2, 1) := by decide +kernel
theorem d2_153 : decode method_4_code 153 = .ok (.aload_n 0, 1) := by decide +kernel
theorem d2_154 : decode method_4_code 154 = .ok (.iconst 2, 1) := by decide +kernel
theorem d2_155 : decode method_4_code 155 = .ok (.caload, 1) := by decide +kernel
theorem d2_156 : decode method_4_code 156 = .ok (.castore, 1) := by decide +kernel
theorem d2_157 : decode method_4_code 157 = .ok (.dup, 1) := by decide +kernel
theorem d2_158 : decode method_4_code 158 = .ok (.iconst 3, 1) := by decide +kernel
theorem d2_159 : decode method_4_code 159 = .ok (.aload_n 0, 1) := by decide +kernel
theorem d2_160 : decode method_4_code 160 = .ok (.iconst 3, 1) := by decide +kernel
theorem d2_161 : decode method_4_code 161 = .ok (.caload, 1) := by decide +kernel
theorem d2_162 : decode method_4_code 162 = .ok (.castore, 1) := by decide +kernel
theorem d2_163 : decode method_4_code 163 = .ok (.dup, 1) := by decide +kernel
theorem d2_164 : decode method_4_code 164 = .ok (.iconst 4, 1) := by decide +kernel
theorem d2_165 : decode method_4_code 165 = .ok (.aload_n 0, 1) := by decide +kernel
theorem d2_166 : decode method_4_code 166 = .ok (.iconst 4, 1) := by decide +kernel
theorem d2_167 : decode method_4_code 167 = .ok (.caload, 1) := by decide +kernel
theorem d2_168 : decode method_4_code 168 = .ok (.castore, 1) := by decide +kernel
theorem d2_169 : decode method_4_code 169 = .ok (.dup, 1) := by decide +kernel
theorem d2_170 : decode method_4_code 170 = .ok (.iconst 5, 1) := by decide +kernel
theorem d2_171 : decode method_4_code 171 = .ok (.aload_n 0, 1) := by decide +kernel
theorem d2_172 : decode method_4_code 172 = .ok (.iconst 5, 1) := by decide +kernel
theorem d2_173 : decode method_4_code 173 = .ok (.caload, 1) := by decide +kernel
theorem d2_174 : decode method_4_code 174 = .ok (.castore, 1) := by decide +kernel
theorem d2_175 : decode method_4_code 175 = .ok (.areturn, 1) := by decide +kernel
theorem pn_2 : plainName "com/example/supplant/supplant/automata/SymbolIsMultiCharacterPinLaw" = true := by first | (simp [plainName, overriddenIn]; done) | decide +kernel
theorem ef_2 (m : MethodId) (a0 : Addr) (p1 : Int32) : entryFrame m #[(.ref a0), (.int p1)] 2 = mkF m 0 #[.val (.ref a0), .val (.int p1)] [] := by first | (simp [entryFrame, mkF, argsToLocals, Value.category]; done) | rfl
set_option maxRecDepth 65536 in
set_option maxHeartbeats 40000000 in
theorem rm2 (l : Launch) (Z : State) (a0 : Array Value) (hw : ∀ d ∈ tables_1, d.before a0 Z = true) (ws : List Jvm.Cond) (a0 : Addr) (p1 : Int32) (n : Nat) (G : Nat → Int32) (h0 : Heap) (n0 : Nat) (Z0 : n0 ≤ h0.size) (Y0 : own_Y .char Z h0 a0 6 G) (hp : p1 = n.toInt32) (hn1 : 1 ≤ n) (hn6 : n ≤ 6) (hC : ∀ i, i < n → own_isC (G i)) :
    MetFree l (⟨"com/example/supplant/supplant/automata/SymbolIsMultiCharacterPinLaw", "take", "([CI)[C"⟩ : MethodName) (head1 (Jvm.Cond.code (⟨"com/example/supplant/supplant/automata/SymbolIsMultiCharacterPinLaw", "take", "([CI)[C"⟩ : MethodName) method_4_code 2 (some (.array .char)) :: ws) ({ frames := 0, cells := 1, slots := 6, locals := 0 } : Room)) (fun a U => a = #[(.ref a0), (.int p1)] ∧ Z.Warmed39 U.vm ∧ U.heap = h0) (fun _ _ _ _ _ => True) (fun _ U o U' => ∃ v L, o = .returned v ∧ own_QN1 (fun h t => own_Y .char Z h t n G) h0 n0 v U'.heap L ∧ FrameEnd U o U' L ({ frames := 0, cells := 1, slots := 6, locals := 0 } : Room).cells ({ frames := 0, cells := 1, slots := 6, locals := 0 } : Room).slots) := by
  refine MetFree.of_bodySF (plainFor_of_name pn_2) hisR ?_
  intro p e s m args below meth c s₁ Bd hml0 hP hK
  obtain ⟨rfl, hZ, hh⟩ := hP
  have hx := Bd.exec
  have hby := Bd.bytes
  have hlk : meth.locks = false := BodyLoose.notSynchronized Bd
  have hret := Bd.returns
  have hml : c.maxLocals = 2 := hml0
  have hown : s.vm.findClass "com/example/supplant/supplant/automata/SymbolIsMultiCharacterPinLaw" = some m.cls := findClass_of_methodNamed Bd.named
  have hnm := (name_of_methodNamed Bd.named Bd.method).1
  have X0 : Stand p l e ({ frames := 0, cells := 1, slots := 6, locals := 0 } : Room) s m #[(.ref a0), (.int p1)] below meth c s₁ [] 0 0 := Stand.of_body Bd
  have e0 : s₁.heap = h0 := by rw [← hh, Bd.state]; rfl
  have N0 := Fr.nil n0
  show own_G p.tables e below (own_E s ({ frames := 0, cells := 1, slots := 6, locals := 0 } : Room).cells ({ frames := 0, cells := 1, slots := 6, locals := 0 } : Room).slots) (own_QN1 (fun h t => own_Y .char Z h t n G) h0 n0) (s₁.setTop (entryFrame m #[(.ref a0), (.int p1)] 2))
  refine own_st ?_ (fun t_ k_ => castTop (ef_2 m a0 p1) k_)
  show own_G p.tables e below _ _ (s₁.setTop (mkF m 0 #[.val (.ref a0), .val (.int p1)] []))
  refine own_st ?_ (fun t_ k_ => XS.iloadN X0.here hx rfl (hb hby d2_0) rfl k_)
  show own_G p.tables e below _ _ (s₁.setTop (mkF m 1 #[.val (.ref a0), .val (.int p1)] [(.int p1)]))
  refine own_st ?_ (fun t_ k_ => XS.iconst X0.here hx rfl (hb hby d2_1) k_)
  show own_G p.tables e below _ _ (s₁.setTop (mkF m 2 #[.val (.ref a0), .val (.int p1)] [(.int (1 : Int32)), (.int p1)]))
  by_cases hc2 : (1 : Int32) < p1
  · refine own_st ?_ (fun t_ k_ => XS.icmpYes X0.here hx rfl (pc0 := 2) (pc' := 15) rfl (hb hby d2_2) rfl (tlt hc2).2.2.1 (by decide) (by decide) k_)
    show own_G p.tables e below _ _ (s₁.setTop (mkF m 15 #[.val (.ref a0), .val (.int p1)] []))
    refine own_st ?_ (fun t_ k_ => XS.iloadN X0.here hx rfl (hb hby d2_15) rfl k_)
    show own_G p.tables e below _ _ (s₁.setTop (mkF m 16 #[.val (.ref a0), .val (.int p1)] [(.int p1)]))
    refine own_st ?_ (fun t_ k_ => XS.iconst X0.here hx rfl (hb hby d2_16) k_)
    show own_G p.tables e below _ _ (s₁.setTop (mkF m 17 #[.val (.ref a0), .val (.int p1)] [(.int (2 : Int32)), (.int p1)]))
    by_cases hc17 : p1 = (2 : Int32)
    · refine own_st ?_ (fun t_ k_ => XS.icmpNo X0.here hx rfl (hb hby d2_17) rfl (teq hc17).2 k_)
      show own_G p.tables e below _ _ (s₁.setTop (mkF m 20 #[.val (.ref a0), .val (.int p1)] []))
      refine own_st ?_ (fun t_ k_ => XS.iconst X0.here hx rfl (hb hby d2_20) k_)
      show own_G p.tables e below _ _ (s₁.setTop (mkF m 21 #[.val (.ref a0), .val (.int p1)] [(.int (2 : Int32))]))
      obtain ⟨T1, h1, k1, X1, e1, E1, A1, st1⟩ := newP X0 hx hZ (hw _ (List.mem_of_getElem? (i := 1) rfl)) e0 (g := (mkF m 21 #[.val (.ref a0), .val (.int p1)] [(.int (2 : Int32))])) rfl (hb hby d2_21) rfl (by decide) (cap := 2) (by decide) (by decide) (by decide) (by decide)
      obtain ⟨b1, gz1⟩ : ∃ z, z = h0.size := ⟨_, rfl⟩
      rw [← gz1] at A1 st1
      have ne_a0_b1 : a0 ≠ b1 := Nat.ne_of_lt (Nat.lt_of_lt_of_le (own_Y_lt Y0) (Nat.le_of_eq gz1.symm))
      have g_b1 : n0 ≤ b1 := Nat.le_trans Z0 (Nat.le_of_eq gz1.symm)
      have sz_b1 : h0.size ≤ b1 := Nat.le_trans (Keep.refl h0 []).1 (Nat.le_of_eq gz1.symm)
      have F2_P : own_Y .char Z h1 a0 6 G := own_Y_ext Y0 E1
      have Zs3 : n0 ≤ h1.size := Nat.le_trans Z0 E1.1
      have Kc4 : Keep h0 h1 [] := (Keep.refl h0 []).ext E1
      have Y_b1 : own_Y .char Z h1 b1 2 (fun _ => 0) := own_Y_new (Arv.new A1 (by decide)) (by decide)
      refine own_st ?_ st1
      show own_G p.tables e below _ _ (T1.setTop (mkF m 23 #[.val (.ref a0), .val (.int p1)] [(.ref b1)]))
      refine own_st ?_ (fun t_ k_ => XS.dup X1.here hx rfl (hb hby d2_23) rfl rfl k_)
      show own_G p.tables e below _ _ (T1.setTop (mkF m 24 #[.val (.ref a0), .val (.int p1)] [(.ref b1), (.ref b1)]))
      refine own_st ?_ (fun t_ k_ => XS.iconst X1.here hx rfl (hb hby d2_24) k_)
      show own_G p.tables e below _ _ (T1.setTop (mkF m 25 #[.val (.ref a0), .val (.int p1)] [(.int (0 : Int32)), (.ref b1), (.ref b1)]))
      refine own_st ?_ (fun t_ k_ => XS.aloadN X1.here hx rfl (hb hby d2_25) rfl rfl k_)
      show own_G p.tables e below _ _ (T1.setTop (mkF m 26 #[.val (.ref a0), .val (.int p1)] [(.ref a0), (.int (0 : Int32)), (.ref b1), (.ref b1)]))
      refine own_st ?_ (fun t_ k_ => XS.iconst X1.here hx rfl (hb hby d2_26) k_)
      show own_G p.tables e below _ _ (T1.setTop (mkF m 27 #[.val (.ref a0), .val (.int p1)] [(.int (0 : Int32)), (.ref a0), (.int (0 : Int32)), (.ref b1), (.ref b1)]))
      have ix5 := own_ix (j := (0 : Int32)) (k := 0) (n := 6) (by decide) (by decide) (by decide)
      obtain ⟨cl5, Ar5, Sz5, G5⟩ := F2_P
      have hin5 : ¬ ((0 : Int32) < 0 ∨ cl5.slots.size ≤ ((0 : Int32)).toNatClampNeg) := by rw [Sz5]; exact ix5.1
      have hat5 : cl5.slots[((0 : Int32)).toNatClampNeg]? = some (.int (G 0)) := by rw [ix5.2]; exact G5 _ (by decide)
      refine own_st ?_ (X1.caload hx (j := (0 : Int32)) (v := (.int (G 0))) (by rw [e1]; exact Ar5.1) (State.isArrayOf_alike hZ.alike Ar5.2.1) Ar5.2.2 hin5 hat5 (g := (mkF m 27 #[.val (.ref a0), .val (.int p1)] [(.int (0 : Int32)), (.ref a0), (.int (0 : Int32)), (.ref b1), (.ref b1)])) rfl rfl (hb hby d2_27))
      have Yx5 : own_Y .char Z h1 a0 6 G := ⟨cl5, Ar5, Sz5, G5⟩
      show own_G p.tables e below _ _ (T1.setTop (mkF m 28 #[.val (.ref a0), .val (.int p1)] [(.int (G 0)), (.int (0 : Int32)), (.ref b1), (.ref b1)]))
      have ix6 := own_ix (j := (0 : Int32)) (k := 0) (n := 2) (by decide) (by decide) (by decide)
      obtain ⟨cl6, Ar6, Sz6, G6⟩ := Y_b1
      have hin6 : ¬ ((0 : Int32) < 0 ∨ cl6.slots.size ≤ ((0 : Int32)).toNatClampNeg) := by rw [Sz6]; exact ix6.1
      obtain ⟨T6, h6, X6, e6, W6, st6⟩ := stC X1 hx hZ e1 Ar6 (j := (0 : Int32)) hin6 (g := (mkF m 28 #[.val (.ref a0), .val (.int p1)] [(.int (G 0)), (.int (0 : Int32)), (.ref b1), (.ref b1)])) rfl rfl (hb hby d2_28)
      have N6 := Fr.snoc X6 N0 g_b1
      have Yo6 : own_Y .char Z h1 b1 2 (fun _ => 0) := ⟨cl6, Ar6, Sz6, G6⟩
      have F7_P : own_Y .char Z h6 a0 6 G := own_Y_keep Yx5 (Keep.of_wr W6) (ninS ne_a0_b1 nin0)
      have Zs8 : n0 ≤ h6.size := Nat.le_trans Zs3 (Keep.of_wr W6).1
      have Kc9 : Keep h0 h6 [] := Kc4.wr W6 (Or.inr sz_b1)
      have Y6 : own_Y .char Z h6 b1 2 (own_upd (fun _ => 0) 0 (nar .char (G 0))) := own_Y_set Yo6 W6 ix6.2
      refine own_st ?_ st6
      show own_G p.tables e below _ _ (T6.setTop (mkF m 29 #[.val (.ref a0), .val (.int p1)] [(.ref b1)]))
      refine own_st ?_ (fun t_ k_ => XS.dup X6.here hx rfl (hb hby d2_29) rfl rfl k_)
      show own_G p.tables e below _ _ (T6.setTop (mkF m 30 #[.val (.ref a0), .val (.int p1)] [(.ref b1), (.ref b1)]))
      refine own_st ?_ (fun t_ k_ => XS.iconst X6.here hx rfl (hb hby d2_30) k_)
      show own_G p.tables e below _ _ (T6.setTop (mkF m 31 #[.val (.ref a0), .val (.int p1)] [(.int (1 : Int32)), (.ref b1), (.ref b1)]))
      refine own_st ?_ (fun t_ k_ => XS.aloadN X6.here hx rfl (hb hby d2_31) rfl rfl k_)
      show own_G p.tables e below _ _ (T6.setTop (mkF m 32 #[.val (.ref a0), .val (.int p1)] [(.ref a0), (.int (1 : Int32)), (.ref b1), (.ref b1)]))
      refine own_st ?_ (fun t_ k_ => XS.iconst X6.here hx rfl (hb hby d2_32) k_)
      show own_G p.tables e below _ _ (T6.setTop (mkF m 33 #[.val (.ref a0), .val (.int p1)] [(.int (1 : Int32)), (.ref a0), (.int (1 : Int32)), (.ref b1), (.ref b1)]))
      have ix10 := own_ix (j := (1 : Int32)) (k := 1) (n := 6) (by decide) (by decide) (by decide)
      obtain ⟨cl10, Ar10, Sz10, G10⟩ := F7_P
      have hin10 : ¬ ((1 : Int32) < 0 ∨ cl10.slots.size ≤ ((1 : Int32)).toNatClampNeg) := by rw [Sz10]; exact ix10.1
      have hat10 : cl10.slots[((1 : Int32)).toNatClampNeg]? = some (.int (G 1)) := by rw [ix10.2]; exact G10 _ (by decide)
      refine own_st ?_ (X6.caload hx (j := (1 : Int32)) (v := (.int (G 1))) (by rw [e6]; exact Ar10.1) (State.isArrayOf_alike hZ.alike Ar10.2.1) Ar10.2.2 hin10 hat10 (g := (mkF m 33 #[.val (.ref a0), .val (.int p1)] [(.int (1 : Int32)), (.ref a0), (.int (1 : Int32)), (.ref b1), (.ref b1)])) rfl rfl (hb hby d2_33))
      have Yx10 : own_Y .char Z h6 a0 6 G := ⟨cl10, Ar10, Sz10, G10⟩
      show own_G p.tables e below _ _ (T6.setTop (mkF m 34 #[.val (.ref a0), .val (.int p1)] [(.int (G 1)), (.int (1 : Int32)), (.ref b1), (.ref b1)]))
      have ix11 := own_ix (j := (1 : Int32)) (k := 1) (n := 2) (by decide) (by decide) (by decide)
      obtain ⟨cl11, Ar11, Sz11, G11⟩ := Y6
      have hin11 : ¬ ((1 : Int32) < 0 ∨ cl11.slots.size ≤ ((1 : Int32)).toNatClampNeg) := by rw [Sz11]; exact ix11.1
      obtain ⟨T11, h11, X11, e11, W11, st11⟩ := stC X6 hx hZ e6 Ar11 (j := (1 : Int32)) hin11 (g := (mkF m 34 #[.val (.ref a0), .val (.int p1)] [(.int (G 1)), (.int (1 : Int32)), (.ref b1), (.ref b1)])) rfl rfl (hb hby d2_34)
      have N11 := Fr.snoc X11 N6 g_b1
      have Yo11 : own_Y .char Z h6 b1 2 (own_upd (fun _ => 0) 0 (nar .char (G 0))) := ⟨cl11, Ar11, Sz11, G11⟩
      have F12_P : own_Y .char Z h11 a0 6 G := own_Y_keep Yx10 (Keep.of_wr W11) (ninS ne_a0_b1 nin0)
      have Zs13 : n0 ≤ h11.size := Nat.le_trans Zs8 (Keep.of_wr W11).1
      have Kc14 : Keep h0 h11 [] := Kc9.wr W11 (Or.inr sz_b1)
      have Y11 : own_Y .char Z h11 b1 2 (own_upd (own_upd (fun _ => 0) 0 (nar .char (G 0))) 1 (nar .char (G 1))) := own_Y_set Yo11 W11 ix11.2
      refine own_st ?_ st11
      show own_G p.tables e below _ _ (T11.setTop (mkF m 35 #[.val (.ref a0), .val (.int p1)] [(.ref b1)]))
      have q_hc2 : 1 < n := by rw [hp] at hc2; exact (own_tlt (a := 1) (b := n) (by decide) (by omega)).mp hc2
      have q_hc17 : n = 2 := (own_teq (b := 2) (by omega) (by decide)).mp (hp.symm.trans hc17)
      have hkn : 2 = n := by omega
      have hch : ∀ i, i < 2 → (own_upd (own_upd (fun _ => 0) 0 (nar .char (G 0))) 1 (nar .char (G 1))) i = G i := by
        intro i hi
        have hi' : i = 0 ∨ i = 1 := by omega
        rcases hi' with rfl | rfl
        · exact (show (own_upd (own_upd (fun _ => 0) 0 (nar .char (G 0))) 1 (nar .char (G 1))) 0 = nar .char (G 0) by simp [own_upd]).trans (own_chr_id (hC 0 (by omega)))
        · exact (show (own_upd (own_upd (fun _ => 0) 0 (nar .char (G 0))) 1 (nar .char (G 1))) 1 = nar .char (G 1) by simp [own_upd]).trans (own_chr_id (hC 1 (by omega)))
      refine own_retA X11 hx hlk hret rfl rfl rfl (hb hby d2_35) (by decide) (by decide) ⟨b1, rfl, N11, ?_⟩
      rw [e11]
      exact ⟨Kc14, sz_b1, own_Y_congr Y11 hkn hch⟩
    · refine own_st ?_ (fun t_ k_ => XS.icmpYes X0.here hx rfl (pc0 := 17) (pc' := 36) rfl (hb hby d2_17) rfl (feq hc17).2 (by decide) (by decide) k_)
      show own_G p.tables e below _ _ (s₁.setTop (mkF m 36 #[.val (.ref a0), .val (.int p1)] []))
      refine own_st ?_ (fun t_ k_ => XS.iloadN X0.here hx rfl (hb hby d2_36) rfl k_)
      show own_G p.tables e below _ _ (s₁.setTop (mkF m 37 #[.val (.ref a0), .val (.int p1)] [(.int p1)]))
      refine own_st ?_ (fun t_ k_ => XS.iconst X0.here hx rfl (hb hby d2_37) k_)
      show own_G p.tables e below _ _ (s₁.setTop (mkF m 38 #[.val (.ref a0), .val (.int p1)] [(.int (3 : Int32)), (.int p1)]))
      by_cases hc38 : p1 = (3 : Int32)
      · refine own_st ?_ (fun t_ k_ => XS.icmpNo X0.here hx rfl (hb hby d2_38) rfl (teq hc38).2 k_)
        show own_G p.tables e below _ _ (s₁.setTop (mkF m 41 #[.val (.ref a0), .val (.int p1)] []))
        refine own_st ?_ (fun t_ k_ => XS.iconst X0.here hx rfl (hb hby d2_41) k_)
        show own_G p.tables e below _ _ (s₁.setTop (mkF m 42 #[.val (.ref a0), .val (.int p1)] [(.int (3 : Int32))]))
        obtain ⟨T15, h15, k15, X15, e15, E15, A15, st15⟩ := newP X0 hx hZ (hw _ (List.mem_of_getElem? (i := 1) rfl)) e0 (g := (mkF m 42 #[.val (.ref a0), .val (.int p1)] [(.int (3 : Int32))])) rfl (hb hby d2_42) rfl (by decide) (cap := 3) (by decide) (by decide) (by decide) (by decide)
        obtain ⟨b15, gz15⟩ : ∃ z, z = h0.size := ⟨_, rfl⟩
        rw [← gz15] at A15 st15
        have ne_a0_b15 : a0 ≠ b15 := Nat.ne_of_lt (Nat.lt_of_lt_of_le (own_Y_lt Y0) (Nat.le_of_eq gz15.symm))
        have g_b15 : n0 ≤ b15 := Nat.le_trans Z0 (Nat.le_of_eq gz15.symm)
        have sz_b15 : h0.size ≤ b15 := Nat.le_trans (Keep.refl h0 []).1 (Nat.le_of_eq gz15.symm)
        have F16_P : own_Y .char Z h15 a0 6 G := own_Y_ext Y0 E15
        have Zs17 : n0 ≤ h15.size := Nat.le_trans Z0 E15.1
        have Kc18 : Keep h0 h15 [] := (Keep.refl h0 []).ext E15
        have Y_b15 : own_Y .char Z h15 b15 3 (fun _ => 0) := own_Y_new (Arv.new A15 (by decide)) (by decide)
        refine own_st ?_ st15
        show own_G p.tables e below _ _ (T15.setTop (mkF m 44 #[.val (.ref a0), .val (.int p1)] [(.ref b15)]))
        refine own_st ?_ (fun t_ k_ => XS.dup X15.here hx rfl (hb hby d2_44) rfl rfl k_)
        show own_G p.tables e below _ _ (T15.setTop (mkF m 45 #[.val (.ref a0), .val (.int p1)] [(.ref b15), (.ref b15)]))
        refine own_st ?_ (fun t_ k_ => XS.iconst X15.here hx rfl (hb hby d2_45) k_)
        show own_G p.tables e below _ _ (T15.setTop (mkF m 46 #[.val (.ref a0), .val (.int p1)] [(.int (0 : Int32)), (.ref b15), (.ref b15)]))
        refine own_st ?_ (fun t_ k_ => XS.aloadN X15.here hx rfl (hb hby d2_46) rfl rfl k_)
        show own_G p.tables e below _ _ (T15.setTop (mkF m 47 #[.val (.ref a0), .val (.int p1)] [(.ref a0), (.int (0 : Int32)), (.ref b15), (.ref b15)]))
        refine own_st ?_ (fun t_ k_ => XS.iconst X15.here hx rfl (hb hby d2_47) k_)
        show own_G p.tables e below _ _ (T15.setTop (mkF m 48 #[.val (.ref a0), .val (.int p1)] [(.int (0 : Int32)), (.ref a0), (.int (0 : Int32)), (.ref b15), (.ref b15)]))
        have ix19 := own_ix (j := (0 : Int32)) (k := 0) (n := 6) (by decide) (by decide) (by decide)
        obtain ⟨cl19, Ar19, Sz19, G19⟩ := F16_P
        have hin19 : ¬ ((0 : Int32) < 0 ∨ cl19.slots.size ≤ ((0 : Int32)).toNatClampNeg) := by rw [Sz19]; exact ix19.1
        have hat19 : cl19.slots[((0 : Int32)).toNatClampNeg]? = some (.int (G 0)) := by rw [ix19.2]; exact G19 _ (by decide)
        refine own_st ?_ (X15.caload hx (j := (0 : Int32)) (v := (.int (G 0))) (by rw [e15]; exact Ar19.1) (State.isArrayOf_alike hZ.alike Ar19.2.1) Ar19.2.2 hin19 hat19 (g := (mkF m 48 #[.val (.ref a0), .val (.int p1)] [(.int (0 : Int32)), (.ref a0), (.int (0 : Int32)), (.ref b15), (.ref b15)])) rfl rfl (hb hby d2_48))
        have Yx19 : own_Y .char Z h15 a0 6 G := ⟨cl19, Ar19, Sz19, G19⟩
        show own_G p.tables e below _ _ (T15.setTop (mkF m 49 #[.val (.ref a0), .val (.int p1)] [(.int (G 0)), (.int (0 : Int32)), (.ref b15), (.ref b15)]))
        have ix20 := own_ix (j := (0 : Int32)) (k := 0) (n := 3) (by decide) (by decide) (by decide)
        obtain ⟨cl20, Ar20, Sz20, G20⟩ := Y_b15
        have hin20 : ¬ ((0 : Int32) < 0 ∨ cl20.slots.size ≤ ((0 : Int32)).toNatClampNeg) := by rw [Sz20]; exact ix20.1
        obtain ⟨T20, h20, X20, e20, W20, st20⟩ := stC X15 hx hZ e15 Ar20 (j := (0 : Int32)) hin20 (g := (mkF m 49 #[.val (.ref a0), .val (.int p1)] [(.int (G 0)), (.int (0 : Int32)), (.ref b15), (.ref b15)])) rfl rfl (hb hby d2_49)
        have N20 := Fr.snoc X20 N0 g_b15
        have Yo20 : own_Y .char Z h15 b15 3 (fun _ => 0) := ⟨cl20, Ar20, Sz20, G20⟩
        have F21_P : own_Y .char Z h20 a0 6 G := own_Y_keep Yx19 (Keep.of_wr W20) (ninS ne_a0_b15 nin0)
        have Zs22 : n0 ≤ h20.size := Nat.le_trans Zs17 (Keep.of_wr W20).1
        have Kc23 : Keep h0 h20 [] := Kc18.wr W20 (Or.inr sz_b15)
        have Y20 : own_Y .char Z h20 b15 3 (own_upd (fun _ => 0) 0 (nar .char (G 0))) := own_Y_set Yo20 W20 ix20.2
        refine own_st ?_ st20
        show own_G p.tables e below _ _ (T20.setTop (mkF m 50 #[.val (.ref a0), .val (.int p1)] [(.ref b15)]))
        refine own_st ?_ (fun t_ k_ => XS.dup X20.here hx rfl (hb hby d2_50) rfl rfl k_)
        show own_G p.tables e below _ _ (T20.setTop (mkF m 51 #[.val (.ref a0), .val (.int p1)] [(.ref b15), (.ref b15)]))
        refine own_st ?_ (fun t_ k_ => XS.iconst X20.here hx rfl (hb hby d2_51) k_)
        show own_G p.tables e below _ _ (T20.setTop (mkF m 52 #[.val (.ref a0), .val (.int p1)] [(.int (1 : Int32)), (.ref b15), (.ref b15)]))
        refine own_st ?_ (fun t_ k_ => XS.aloadN X20.here hx rfl (hb hby d2_52) rfl rfl k_)
        show own_G p.tables e below _ _ (T20.setTop (mkF m 53 #[.val (.ref a0), .val (.int p1)] [(.ref a0), (.int (1 : Int32)), (.ref b15), (.ref b15)]))
        refine own_st ?_ (fun t_ k_ => XS.iconst X20.here hx rfl (hb hby d2_53) k_)
        show own_G p.tables e below _ _ (T20.setTop (mkF m 54 #[.val (.ref a0), .val (.int p1)] [(.int (1 : Int32)), (.ref a0), (.int (1 : Int32)), (.ref b15), (.ref b15)]))
        have ix24 := own_ix (j := (1 : Int32)) (k := 1) (n := 6) (by decide) (by decide) (by decide)
        obtain ⟨cl24, Ar24, Sz24, G24⟩ := F21_P
        have hin24 : ¬ ((1 : Int32) < 0 ∨ cl24.slots.size ≤ ((1 : Int32)).toNatClampNeg) := by rw [Sz24]; exact ix24.1
        have hat24 : cl24.slots[((1 : Int32)).toNatClampNeg]? = some (.int (G 1)) := by rw [ix24.2]; exact G24 _ (by decide)
        refine own_st ?_ (X20.caload hx (j := (1 : Int32)) (v := (.int (G 1))) (by rw [e20]; exact Ar24.1) (State.isArrayOf_alike hZ.alike Ar24.2.1) Ar24.2.2 hin24 hat24 (g := (mkF m 54 #[.val (.ref a0), .val (.int p1)] [(.int (1 : Int32)), (.ref a0), (.int (1 : Int32)), (.ref b15), (.ref b15)])) rfl rfl (hb hby d2_54))
        have Yx24 : own_Y .char Z h20 a0 6 G := ⟨cl24, Ar24, Sz24, G24⟩
        show own_G p.tables e below _ _ (T20.setTop (mkF m 55 #[.val (.ref a0), .val (.int p1)] [(.int (G 1)), (.int (1 : Int32)), (.ref b15), (.ref b15)]))
        have ix25 := own_ix (j := (1 : Int32)) (k := 1) (n := 3) (by decide) (by decide) (by decide)
        obtain ⟨cl25, Ar25, Sz25, G25⟩ := Y20
        have hin25 : ¬ ((1 : Int32) < 0 ∨ cl25.slots.size ≤ ((1 : Int32)).toNatClampNeg) := by rw [Sz25]; exact ix25.1
        obtain ⟨T25, h25, X25, e25, W25, st25⟩ := stC X20 hx hZ e20 Ar25 (j := (1 : Int32)) hin25 (g := (mkF m 55 #[.val (.ref a0), .val (.int p1)] [(.int (G 1)), (.int (1 : Int32)), (.ref b15), (.ref b15)])) rfl rfl (hb hby d2_55)
        have N25 := Fr.snoc X25 N20 g_b15
        have Yo25 : own_Y .char Z h20 b15 3 (own_upd (fun _ => 0) 0 (nar .char (G 0))) := ⟨cl25, Ar25, Sz25, G25⟩
        have F26_P : own_Y .char Z h25 a0 6 G := own_Y_keep Yx24 (Keep.of_wr W25) (ninS ne_a0_b15 nin0)
        have Zs27 : n0 ≤ h25.size := Nat.le_trans Zs22 (Keep.of_wr W25).1
        have Kc28 : Keep h0 h25 [] := Kc23.wr W25 (Or.inr sz_b15)
        have Y25 : own_Y .char Z h25 b15 3 (own_upd (own_upd (fun _ => 0) 0 (nar .char (G 0))) 1 (nar .char (G 1))) := own_Y_set Yo25 W25 ix25.2
        refine own_st ?_ st25
        show own_G p.tables e below _ _ (T25.setTop (mkF m 56 #[.val (.ref a0), .val (.int p1)] [(.ref b15)]))
        refine own_st ?_ (fun t_ k_ => XS.dup X25.here hx rfl (hb hby d2_56) rfl rfl k_)
        show own_G p.tables e below _ _ (T25.setTop (mkF m 57 #[.val (.ref a0), .val (.int p1)] [(.ref b15), (.ref b15)]))
        refine own_st ?_ (fun t_ k_ => XS.iconst X25.here hx rfl (hb hby d2_57) k_)
        show own_G p.tables e below _ _ (T25.setTop (mkF m 58 #[.val (.ref a0), .val (.int p1)] [(.int (2 : Int32)), (.ref b15), (.ref b15)]))
        refine own_st ?_ (fun t_ k_ => XS.aloadN X25.here hx rfl (hb hby d2_58) rfl rfl k_)
        show own_G p.tables e below _ _ (T25.setTop (mkF m 59 #[.val (.ref a0), .val (.int p1)] [(.ref a0), (.int (2 : Int32)), (.ref b15), (.ref b15)]))
        refine own_st ?_ (fun t_ k_ => XS.iconst X25.here hx rfl (hb hby d2_59) k_)
        show own_G p.tables e below _ _ (T25.setTop (mkF m 60 #[.val (.ref a0), .val (.int p1)] [(.int (2 : Int32)), (.ref a0), (.int (2 : Int32)), (.ref b15), (.ref b15)]))
        have ix29 := own_ix (j := (2 : Int32)) (k := 2) (n := 6) (by decide) (by decide) (by decide)
        obtain ⟨cl29, Ar29, Sz29, G29⟩ := F26_P
        have hin29 : ¬ ((2 : Int32) < 0 ∨ cl29.slots.size ≤ ((2 : Int32)).toNatClampNeg) := by rw [Sz29]; exact ix29.1
        have hat29 : cl29.slots[((2 : Int32)).toNatClampNeg]? = some (.int (G 2)) := by rw [ix29.2]; exact G29 _ (by decide)
        refine own_st ?_ (X25.caload hx (j := (2 : Int32)) (v := (.int (G 2))) (by rw [e25]; exact Ar29.1) (State.isArrayOf_alike hZ.alike Ar29.2.1) Ar29.2.2 hin29 hat29 (g := (mkF m 60 #[.val (.ref a0), .val (.int p1)] [(.int (2 : Int32)), (.ref a0), (.int (2 : Int32)), (.ref b15), (.ref b15)])) rfl rfl (hb hby d2_60))
        have Yx29 : own_Y .char Z h25 a0 6 G := ⟨cl29, Ar29, Sz29, G29⟩
        show own_G p.tables e below _ _ (T25.setTop (mkF m 61 #[.val (.ref a0), .val (.int p1)] [(.int (G 2)), (.int (2 : Int32)), (.ref b15), (.ref b15)]))
        have ix30 := own_ix (j := (2 : Int32)) (k := 2) (n := 3) (by decide) (by decide) (by decide)
        obtain ⟨cl30, Ar30, Sz30, G30⟩ := Y25
        have hin30 : ¬ ((2 : Int32) < 0 ∨ cl30.slots.size ≤ ((2 : Int32)).toNatClampNeg) := by rw [Sz30]; exact ix30.1
        obtain ⟨T30, h30, X30, e30, W30, st30⟩ := stC X25 hx hZ e25 Ar30 (j := (2 : Int32)) hin30 (g := (mkF m 61 #[.val (.ref a0), .val (.int p1)] [(.int (G 2)), (.int (2 : Int32)), (.ref b15), (.ref b15)])) rfl rfl (hb hby d2_61)
        have N30 := Fr.snoc X30 N25 g_b15
        have Yo30 : own_Y .char Z h25 b15 3 (own_upd (own_upd (fun _ => 0) 0 (nar .char (G 0))) 1 (nar .char (G 1))) := ⟨cl30, Ar30, Sz30, G30⟩
        have F31_P : own_Y .char Z h30 a0 6 G := own_Y_keep Yx29 (Keep.of_wr W30) (ninS ne_a0_b15 nin0)
        have Zs32 : n0 ≤ h30.size := Nat.le_trans Zs27 (Keep.of_wr W30).1
        have Kc33 : Keep h0 h30 [] := Kc28.wr W30 (Or.inr sz_b15)
        have Y30 : own_Y .char Z h30 b15 3 (own_upd (own_upd (own_upd (fun _ => 0) 0 (nar .char (G 0))) 1 (nar .char (G 1))) 2 (nar .char (G 2))) := own_Y_set Yo30 W30 ix30.2
        refine own_st ?_ st30
        show own_G p.tables e below _ _ (T30.setTop (mkF m 62 #[.val (.ref a0), .val (.int p1)] [(.ref b15)]))
        have q_hc2 : 1 < n := by rw [hp] at hc2; exact (own_tlt (a := 1) (b := n) (by decide) (by omega)).mp hc2
        have q_hc17 : ¬ n = 2 := fun z => hc17 (hp.trans ((own_teq (a := n) (b := 2) (by omega) (by decide)).mpr z))
        have q_hc38 : n = 3 := (own_teq (b := 3) (by omega) (by decide)).mp (hp.symm.trans hc38)
        have hkn : 3 = n := by omega
        have hch : ∀ i, i < 3 → (own_upd (own_upd (own_upd (fun _ => 0) 0 (nar .char (G 0))) 1 (nar .char (G 1))) 2 (nar .char (G 2))) i = G i := by
          intro i hi
          have hi' : i = 0 ∨ i = 1 ∨ i = 2 := by omega
          rcases hi' with rfl | rfl | rfl
          · exact (show (own_upd (own_upd (own_upd (fun _ => 0) 0 (nar .char (G 0))) 1 (nar .char (G 1))) 2 (nar .char (G 2))) 0 = nar .char (G 0) by simp [own_upd]).trans (own_chr_id (hC 0 (by omega)))
          · exact (show (own_upd (own_upd (own_upd (fun _ => 0) 0 (nar .char (G 0))) 1 (nar .char (G 1))) 2 (nar .char (G 2))) 1 = nar .char (G 1) by simp [own_upd]).trans (own_chr_id (hC 1 (by omega)))
          · exact (show (own_upd (own_upd (own_upd (fun _ => 0) 0 (nar .char (G 0))) 1 (nar .char (G 1))) 2 (nar .char (G 2))) 2 = nar .char (G 2) by simp [own_upd]).trans (own_chr_id (hC 2 (by omega)))
        refine own_retA X30 hx hlk hret rfl rfl rfl (hb hby d2_62) (by decide) (by decide) ⟨b15, rfl, N30, ?_⟩
        rw [e30]
        exact ⟨Kc33, sz_b15, own_Y_congr Y30 hkn hch⟩
      · refine own_st ?_ (fun t_ k_ => XS.icmpYes X0.here hx rfl (pc0 := 38) (pc' := 63) rfl (hb hby d2_38) rfl (feq hc38).2 (by decide) (by decide) k_)
        show own_G p.tables e below _ _ (s₁.setTop (mkF m 63 #[.val (.ref a0), .val (.int p1)] []))
        refine own_st ?_ (fun t_ k_ => XS.iloadN X0.here hx rfl (hb hby d2_63) rfl k_)
        show own_G p.tables e below _ _ (s₁.setTop (mkF m 64 #[.val (.ref a0), .val (.int p1)] [(.int p1)]))
        refine own_st ?_ (fun t_ k_ => XS.iconst X0.here hx rfl (hb hby d2_64) k_)
        show own_G p.tables e below _ _ (s₁.setTop (mkF m 65 #[.val (.ref a0), .val (.int p1)] [(.int (4 : Int32)), (.int p1)]))
        by_cases hc65 : p1 = (4 : Int32)
        · refine own_st ?_ (fun t_ k_ => XS.icmpNo X0.here hx rfl (hb hby d2_65) rfl (teq hc65).2 k_)
          show own_G p.tables e below _ _ (s₁.setTop (mkF m 68 #[.val (.ref a0), .val (.int p1)] []))
          refine own_st ?_ (fun t_ k_ => XS.iconst X0.here hx rfl (hb hby d2_68) k_)
          show own_G p.tables e below _ _ (s₁.setTop (mkF m 69 #[.val (.ref a0), .val (.int p1)] [(.int (4 : Int32))]))
          obtain ⟨T34, h34, k34, X34, e34, E34, A34, st34⟩ := newP X0 hx hZ (hw _ (List.mem_of_getElem? (i := 1) rfl)) e0 (g := (mkF m 69 #[.val (.ref a0), .val (.int p1)] [(.int (4 : Int32))])) rfl (hb hby d2_69) rfl (by decide) (cap := 4) (by decide) (by decide) (by decide) (by decide)
          obtain ⟨b34, gz34⟩ : ∃ z, z = h0.size := ⟨_, rfl⟩
          rw [← gz34] at A34 st34
          have ne_a0_b34 : a0 ≠ b34 := Nat.ne_of_lt (Nat.lt_of_lt_of_le (own_Y_lt Y0) (Nat.le_of_eq gz34.symm))
          have g_b34 : n0 ≤ b34 := Nat.le_trans Z0 (Nat.le_of_eq gz34.symm)
          have sz_b34 : h0.size ≤ b34 := Nat.le_trans (Keep.refl h0 []).1 (Nat.le_of_eq gz34.symm)
          have F35_P : own_Y .char Z h34 a0 6 G := own_Y_ext Y0 E34
          have Zs36 : n0 ≤ h34.size := Nat.le_trans Z0 E34.1
          have Kc37 : Keep h0 h34 [] := (Keep.refl h0 []).ext E34
          have Y_b34 : own_Y .char Z h34 b34 4 (fun _ => 0) := own_Y_new (Arv.new A34 (by decide)) (by decide)
          refine own_st ?_ st34
          show own_G p.tables e below _ _ (T34.setTop (mkF m 71 #[.val (.ref a0), .val (.int p1)] [(.ref b34)]))
          refine own_st ?_ (fun t_ k_ => XS.dup X34.here hx rfl (hb hby d2_71) rfl rfl k_)
          show own_G p.tables e below _ _ (T34.setTop (mkF m 72 #[.val (.ref a0), .val (.int p1)] [(.ref b34), (.ref b34)]))
          refine own_st ?_ (fun t_ k_ => XS.iconst X34.here hx rfl (hb hby d2_72) k_)
          show own_G p.tables e below _ _ (T34.setTop (mkF m 73 #[.val (.ref a0), .val (.int p1)] [(.int (0 : Int32)), (.ref b34), (.ref b34)]))
          refine own_st ?_ (fun t_ k_ => XS.aloadN X34.here hx rfl (hb hby d2_73) rfl rfl k_)
          show own_G p.tables e below _ _ (T34.setTop (mkF m 74 #[.val (.ref a0), .val (.int p1)] [(.ref a0), (.int (0 : Int32)), (.ref b34), (.ref b34)]))
          refine own_st ?_ (fun t_ k_ => XS.iconst X34.here hx rfl (hb hby d2_74) k_)
          show own_G p.tables e below _ _ (T34.setTop (mkF m 75 #[.val (.ref a0), .val (.int p1)] [(.int (0 : Int32)), (.ref a0), (.int (0 : Int32)), (.ref b34), (.ref b34)]))
          have ix38 := own_ix (j := (0 : Int32)) (k := 0) (n := 6) (by decide) (by decide) (by decide)
          obtain ⟨cl38, Ar38, Sz38, G38⟩ := F35_P
          have hin38 : ¬ ((0 : Int32) < 0 ∨ cl38.slots.size ≤ ((0 : Int32)).toNatClampNeg) := by rw [Sz38]; exact ix38.1
          have hat38 : cl38.slots[((0 : Int32)).toNatClampNeg]? = some (.int (G 0)) := by rw [ix38.2]; exact G38 _ (by decide)
          refine own_st ?_ (X34.caload hx (j := (0 : Int32)) (v := (.int (G 0))) (by rw [e34]; exact Ar38.1) (State.isArrayOf_alike hZ.alike Ar38.2.1) Ar38.2.2 hin38 hat38 (g := (mkF m 75 #[.val (.ref a0), .val (.int p1)] [(.int (0 : Int32)), (.ref a0), (.int (0 : Int32)), (.ref b34), (.ref b34)])) rfl rfl (hb hby d2_75))
          have Yx38 : own_Y .char Z h34 a0 6 G := ⟨cl38, Ar38, Sz38, G38⟩
          show own_G p.tables e below _ _ (T34.setTop (mkF m 76 #[.val (.ref a0), .val (.int p1)] [(.int (G 0)), (.int (0 : Int32)), (.ref b34), (.ref b34)]))
          have ix39 := own_ix (j := (0 : Int32)) (k := 0) (n := 4) (by decide) (by decide) (by decide)
          obtain ⟨cl39, Ar39, Sz39, G39⟩ := Y_b34
          have hin39 : ¬ ((0 : Int32) < 0 ∨ cl39.slots.size ≤ ((0 : Int32)).toNatClampNeg) := by rw [Sz39]; exact ix39.1
          obtain ⟨T39, h39, X39, e39, W39, st39⟩ := stC X34 hx hZ e34 Ar39 (j := (0 : Int32)) hin39 (g := (mkF m 76 #[.val (.ref a0), .val (.int p1)] [(.int (G 0)), (.int (0 : Int32)), (.ref b34), (.ref b34)])) rfl rfl (hb hby d2_76)
          have N39 := Fr.snoc X39 N0 g_b34
          have Yo39 : own_Y .char Z h34 b34 4 (fun _ => 0) := ⟨cl39, Ar39, Sz39, G39⟩
          have F40_P : own_Y .char Z h39 a0 6 G := own_Y_keep Yx38 (Keep.of_wr W39) (ninS ne_a0_b34 nin0)
          have Zs41 : n0 ≤ h39.size := Nat.le_trans Zs36 (Keep.of_wr W39).1
          have Kc42 : Keep h0 h39 [] := Kc37.wr W39 (Or.inr sz_b34)
          have Y39 : own_Y .char Z h39 b34 4 (own_upd (fun _ => 0) 0 (nar .char (G 0))) := own_Y_set Yo39 W39 ix39.2
          refine own_st ?_ st39
          show own_G p.tables e below _ _ (T39.setTop (mkF m 77 #[.val (.ref a0), .val (.int p1)] [(.ref b34)]))
          refine own_st ?_ (fun t_ k_ => XS.dup X39.here hx rfl (hb hby d2_77) rfl rfl k_)
          show own_G p.tables e below _ _ (T39.setTop (mkF m 78 #[.val (.ref a0), .val (.int p1)] [(.ref b34), (.ref b34)]))
          refine own_st ?_ (fun t_ k_ => XS.iconst X39.here hx rfl (hb hby d2_78) k_)
          show own_G p.tables e below _ _ (T39.setTop (mkF m 79 #[.val (.ref a0), .val (.int p1)] [(.int (1 : Int32)), (.ref b34), (.ref b34)]))
          refine own_st ?_ (fun t_ k_ => XS.aloadN X39.here hx rfl (hb hby d2_79) rfl rfl k_)
          show own_G p.tables e below _ _ (T39.setTop (mkF m 80 #[.val (.ref a0), .val (.int p1)] [(.ref a0), (.int (1 : Int32)), (.ref b34), (.ref b34)]))
          refine own_st ?_ (fun t_ k_ => XS.iconst X39.here hx rfl (hb hby d2_80) k_)
          show own_G p.tables e below _ _ (T39.setTop (mkF m 81 #[.val (.ref a0), .val (.int p1)] [(.int (1 : Int32)), (.ref a0), (.int (1 : Int32)), (.ref b34), (.ref b34)]))
          have ix43 := own_ix (j := (1 : Int32)) (k := 1) (n := 6) (by decide) (by decide) (by decide)
          obtain ⟨cl43, Ar43, Sz43, G43⟩ := F40_P
          have hin43 : ¬ ((1 : Int32) < 0 ∨ cl43.slots.size ≤ ((1 : Int32)).toNatClampNeg) := by rw [Sz43]; exact ix43.1
          have hat43 : cl43.slots[((1 : Int32)).toNatClampNeg]? = some (.int (G 1)) := by rw [ix43.2]; exact G43 _ (by decide)
          refine own_st ?_ (X39.caload hx (j := (1 : Int32)) (v := (.int (G 1))) (by rw [e39]; exact Ar43.1) (State.isArrayOf_alike hZ.alike Ar43.2.1) Ar43.2.2 hin43 hat43 (g := (mkF m 81 #[.val (.ref a0), .val (.int p1)] [(.int (1 : Int32)), (.ref a0), (.int (1 : Int32)), (.ref b34), (.ref b34)])) rfl rfl (hb hby d2_81))
          have Yx43 : own_Y .char Z h39 a0 6 G := ⟨cl43, Ar43, Sz43, G43⟩
          show own_G p.tables e below _ _ (T39.setTop (mkF m 82 #[.val (.ref a0), .val (.int p1)] [(.int (G 1)), (.int (1 : Int32)), (.ref b34), (.ref b34)]))
          have ix44 := own_ix (j := (1 : Int32)) (k := 1) (n := 4) (by decide) (by decide) (by decide)
          obtain ⟨cl44, Ar44, Sz44, G44⟩ := Y39
          have hin44 : ¬ ((1 : Int32) < 0 ∨ cl44.slots.size ≤ ((1 : Int32)).toNatClampNeg) := by rw [Sz44]; exact ix44.1
          obtain ⟨T44, h44, X44, e44, W44, st44⟩ := stC X39 hx hZ e39 Ar44 (j := (1 : Int32)) hin44 (g := (mkF m 82 #[.val (.ref a0), .val (.int p1)] [(.int (G 1)), (.int (1 : Int32)), (.ref b34), (.ref b34)])) rfl rfl (hb hby d2_82)
          have N44 := Fr.snoc X44 N39 g_b34
          have Yo44 : own_Y .char Z h39 b34 4 (own_upd (fun _ => 0) 0 (nar .char (G 0))) := ⟨cl44, Ar44, Sz44, G44⟩
          have F45_P : own_Y .char Z h44 a0 6 G := own_Y_keep Yx43 (Keep.of_wr W44) (ninS ne_a0_b34 nin0)
          have Zs46 : n0 ≤ h44.size := Nat.le_trans Zs41 (Keep.of_wr W44).1
          have Kc47 : Keep h0 h44 [] := Kc42.wr W44 (Or.inr sz_b34)
          have Y44 : own_Y .char Z h44 b34 4 (own_upd (own_upd (fun _ => 0) 0 (nar .char (G 0))) 1 (nar .char (G 1))) := own_Y_set Yo44 W44 ix44.2
          refine own_st ?_ st44
          show own_G p.tables e below _ _ (T44.setTop (mkF m 83 #[.val (.ref a0), .val (.int p1)] [(.ref b34)]))
          refine own_st ?_ (fun t_ k_ => XS.dup X44.here hx rfl (hb hby d2_83) rfl rfl k_)
          show own_G p.tables e below _ _ (T44.setTop (mkF m 84 #[.val (.ref a0), .val (.int p1)] [(.ref b34), (.ref b34)]))
          refine own_st ?_ (fun t_ k_ => XS.iconst X44.here hx rfl (hb hby d2_84) k_)
          show own_G p.tables e below _ _ (T44.setTop (mkF m 85 #[.val (.ref a0), .val (.int p1)] [(.int (2 : Int32)), (.ref b34), (.ref b34)]))
          refine own_st ?_ (fun t_ k_ => XS.aloadN X44.here hx rfl (hb hby d2_85) rfl rfl k_)
          show own_G p.tables e below _ _ (T44.setTop (mkF m 86 #[.val (.ref a0), .val (.int p1)] [(.ref a0), (.int (2 : Int32)), (.ref b34), (.ref b34)]))
          refine own_st ?_ (fun t_ k_ => XS.iconst X44.here hx rfl (hb hby d2_86) k_)
          show own_G p.tables e below _ _ (T44.setTop (mkF m 87 #[.val (.ref a0), .val (.int p1)] [(.int (2 : Int32)), (.ref a0), (.int (2 : Int32)), (.ref b34), (.ref b34)]))
          have ix48 := own_ix (j := (2 : Int32)) (k := 2) (n := 6) (by decide) (by decide) (by decide)
          obtain ⟨cl48, Ar48, Sz48, G48⟩ := F45_P
          have hin48 : ¬ ((2 : Int32) < 0 ∨ cl48.slots.size ≤ ((2 : Int32)).toNatClampNeg) := by rw [Sz48]; exact ix48.1
          have hat48 : cl48.slots[((2 : Int32)).toNatClampNeg]? = some (.int (G 2)) := by rw [ix48.2]; exact G48 _ (by decide)
          refine own_st ?_ (X44.caload hx (j := (2 : Int32)) (v := (.int (G 2))) (by rw [e44]; exact Ar48.1) (State.isArrayOf_alike hZ.alike Ar48.2.1) Ar48.2.2 hin48 hat48 (g := (mkF m 87 #[.val (.ref a0), .val (.int p1)] [(.int (2 : Int32)), (.ref a0), (.int (2 : Int32)), (.ref b34), (.ref b34)])) rfl rfl (hb hby d2_87))
          have Yx48 : own_Y .char Z h44 a0 6 G := ⟨cl48, Ar48, Sz48, G48⟩
          show own_G p.tables e below _ _ (T44.setTop (mkF m 88 #[.val (.ref a0), .val (.int p1)] [(.int (G 2)), (.int (2 : Int32)), (.ref b34), (.ref b34)]))
          have ix49 := own_ix (j := (2 : Int32)) (k := 2) (n := 4) (by decide) (by decide) (by decide)
          obtain ⟨cl49, Ar49, Sz49, G49⟩ := Y44
          have hin49 : ¬ ((2 : Int32) < 0 ∨ cl49.slots.size ≤ ((2 : Int32)).toNatClampNeg) := by rw [Sz49]; exact ix49.1
          obtain ⟨T49, h49, X49, e49, W49, st49⟩ := stC X44 hx hZ e44 Ar49 (j := (2 : Int32)) hin49 (g := (mkF m 88 #[.val (.ref a0), .val (.int p1)] [(.int (G 2)), (.int (2 : Int32)), (.ref b34), (.ref b34)])) rfl rfl (hb hby d2_88)
          have N49 := Fr.snoc X49 N44 g_b34
          have Yo49 : own_Y .char Z h44 b34 4 (own_upd (own_upd (fun _ => 0) 0 (nar .char (G 0))) 1 (nar .char (G 1))) := ⟨cl49, Ar49, Sz49, G49⟩
          have F50_P : own_Y .char Z h49 a0 6 G := own_Y_keep Yx48 (Keep.of_wr W49) (ninS ne_a0_b34 nin0)
          have Zs51 : n0 ≤ h49.size := Nat.le_trans Zs46 (Keep.of_wr W49).1
          have Kc52 : Keep h0 h49 [] := Kc47.wr W49 (Or.inr sz_b34)
          have Y49 : own_Y .char Z h49 b34 4 (own_upd (own_upd (own_upd (fun _ => 0) 0 (nar .char (G 0))) 1 (nar .char (G 1))) 2 (nar .char (G 2))) := own_Y_set Yo49 W49 ix49.2
          refine own_st ?_ st49
          show own_G p.tables e below _ _ (T49.setTop (mkF m 89 #[.val (.ref a0), .val (.int p1)] [(.ref b34)]))
          refine own_st ?_ (fun t_ k_ => XS.dup X49.here hx rfl (hb hby d2_89) rfl rfl k_)
          show own_G p.tables e below _ _ (T49.setTop (mkF m 90 #[.val (.ref a0), .val (.int p1)] [(.ref b34), (.ref b34)]))
          refine own_st ?_ (fun t_ k_ => XS.iconst X49.here hx rfl (hb hby d2_90) k_)
          show own_G p.tables e below _ _ (T49.setTop (mkF m 91 #[.val (.ref a0), .val (.int p1)] [(.int (3 : Int32)), (.ref b34), (.ref b34)]))
          refine own_st ?_ (fun t_ k_ => XS.aloadN X49.here hx rfl (hb hby d2_91) rfl rfl k_)
          show own_G p.tables e below _ _ (T49.setTop (mkF m 92 #[.val (.ref a0), .val (.int p1)] [(.ref a0), (.int (3 : Int32)), (.ref b34), (.ref b34)]))
          refine own_st ?_ (fun t_ k_ => XS.iconst X49.here hx rfl (hb hby d2_92) k_)
          show own_G p.tables e below _ _ (T49.setTop (mkF m 93 #[.val (.ref a0), .val (.int p1)] [(.int (3 : Int32)), (.ref a0), (.int (3 : Int32)), (.ref b34), (.ref b34)]))
          have ix53 := own_ix (j := (3 : Int32)) (k := 3) (n := 6) (by decide) (by decide) (by decide)
          obtain ⟨cl53, Ar53, Sz53, G53⟩ := F50_P
          have hin53 : ¬ ((3 : Int32) < 0 ∨ cl53.slots.size ≤ ((3 : Int32)).toNatClampNeg) := by rw [Sz53]; exact ix53.1
          have hat53 : cl53.slots[((3 : Int32)).toNatClampNeg]? = some (.int (G 3)) := by rw [ix53.2]; exact G53 _ (by decide)
          refine own_st ?_ (X49.caload hx (j := (3 : Int32)) (v := (.int (G 3))) (by rw [e49]; exact Ar53.1) (State.isArrayOf_alike hZ.alike Ar53.2.1) Ar53.2.2 hin53 hat53 (g := (mkF m 93 #[.val (.ref a0), .val (.int p1)] [(.int (3 : Int32)), (.ref a0), (.int (3 : Int32)), (.ref b34), (.ref b34)])) rfl rfl (hb hby d2_93))
          have Yx53 : own_Y .char Z h49 a0 6 G := ⟨cl53, Ar53, Sz53, G53⟩
          show own_G p.tables e below _ _ (T49.setTop (mkF m 94 #[.val (.ref a0), .val (.int p1)] [(.int (G 3)), (.int (3 : Int32)), (.ref b34), (.ref b34)]))
          have ix54 := own_ix (j := (3 : Int32)) (k := 3) (n := 4) (by decide) (by decide) (by decide)
          obtain ⟨cl54, Ar54, Sz54, G54⟩ := Y49
          have hin54 : ¬ ((3 : Int32) < 0 ∨ cl54.slots.size ≤ ((3 : Int32)).toNatClampNeg) := by rw [Sz54]; exact ix54.1
          obtain ⟨T54, h54, X54, e54, W54, st54⟩ := stC X49 hx hZ e49 Ar54 (j := (3 : Int32)) hin54 (g := (mkF m 94 #[.val (.ref a0), .val (.int p1)] [(.int (G 3)), (.int (3 : Int32)), (.ref b34), (.ref b34)])) rfl rfl (hb hby d2_94)
          have N54 := Fr.snoc X54 N49 g_b34
          have Yo54 : own_Y .char Z h49 b34 4 (own_upd (own_upd (own_upd (fun _ => 0) 0 (nar .char (G 0))) 1 (nar .char (G 1))) 2 (nar .char (G 2))) := ⟨cl54, Ar54, Sz54, G54⟩
          have F55_P : own_Y .char Z h54 a0 6 G := own_Y_keep Yx53 (Keep.of_wr W54) (ninS ne_a0_b34 nin0)
          have Zs56 : n0 ≤ h54.size := Nat.le_trans Zs51 (Keep.of_wr W54).1
          have Kc57 : Keep h0 h54 [] := Kc52.wr W54 (Or.inr sz_b34)
          have Y54 : own_Y .char Z h54 b34 4 (own_upd (own_upd (own_upd (own_upd (fun _ => 0) 0 (nar .char (G 0))) 1 (nar .char (G 1))) 2 (nar .char (G 2))) 3 (nar .char (G 3))) := own_Y_set Yo54 W54 ix54.2
          refine own_st ?_ st54
          show own_G p.tables e below _ _ (T54.setTop (mkF m 95 #[.val (.ref a0), .val (.int p1)] [(.ref b34)]))
          have q_hc2 : 1 < n := by rw [hp] at hc2; exact (own_tlt (a := 1) (b := n) (by decide) (by omega)).mp hc2
          have q_hc17 : ¬ n = 2 := fun z => hc17 (hp.trans ((own_teq (a := n) (b := 2) (by omega) (by decide)).mpr z))
          have q_hc38 : ¬ n = 3 := fun z => hc38 (hp.trans ((own_teq (a := n) (b := 3) (by omega) (by decide)).mpr z))
          have q_hc65 : n = 4 := (own_teq (b := 4) (by omega) (by decide)).mp (hp.symm.trans hc65)
          have hkn : 4 = n := by omega
          have hch : ∀ i, i < 4 → (own_upd (own_upd (own_upd (own_upd (fun _ => 0) 0 (nar .char (G 0))) 1 (nar .char (G 1))) 2 (nar .char (G 2))) 3 (nar .char (G 3))) i = G i := by
            intro i hi
            have hi' : i = 0 ∨ i = 1 ∨ i = 2 ∨ i = 3 := by omega
            rcases hi' with rfl | rfl | rfl | rfl
            · exact (show (own_upd (own_upd (own_upd (own_upd (fun _ => 0) 0 (nar .char (G 0))) 1 (nar .char (G 1))) 2 (nar .char (G 2))) 3 (nar .char (G 3))) 0 = nar .char (G 0) by simp [own_upd]).trans (own_chr_id (hC 0 (by omega)))
            · exact (show (own_upd (own_upd (own_upd (own_upd (fun _ => 0) 0 (nar .char (G 0))) 1 (nar .char (G 1))) 2 (nar .char (G 2))) 3 (nar .char (G 3))) 1 = nar .char (G 1) by simp [own_upd]).trans (own_chr_id (hC 1 (by omega)))
            · exact (show (own_upd (own_upd (own_upd (own_upd (fun _ => 0) 0 (nar .char (G 0))) 1 (nar .char (G 1))) 2 (nar .char (G 2))) 3 (nar .char (G 3))) 2 = nar .char (G 2) by simp [own_upd]).trans (own_chr_id (hC 2 (by omega)))
            · exact (show (own_upd (own_upd (own_upd (own_upd (fun _ => 0) 0 (nar .char (G 0))) 1 (nar .char (G 1))) 2 (nar .char (G 2))) 3 (nar .char (G 3))) 3 = nar .char (G 3) by simp [own_upd]).trans (own_chr_id (hC 3 (by omega)))
          refine own_retA X54 hx hlk hret rfl rfl rfl (hb hby d2_95) (by decide) (by decide) ⟨b34, rfl, N54, ?_⟩
          rw [e54]
          exact ⟨Kc57, sz_b34, own_Y_congr Y54 hkn hch⟩
        · refine own_st ?_ (fun t_ k_ => XS.icmpYes X0.here hx rfl (pc0 := 65) (pc' := 96) rfl (hb hby d2_65) rfl (feq hc65).2 (by decide) (by decide) k_)
          show own_G p.tables e below _ _ (s₁.setTop (mkF m 96 #[.val (.ref a0), .val (.int p1)] []))
          refine own_st ?_ (fun t_ k_ => XS.iloadN X0.here hx rfl (hb hby d2_96) rfl k_)
          show own_G p.tables e below _ _ (s₁.setTop (mkF m 97 #[.val (.ref a0), .val (.int p1)] [(.int p1)]))
          refine own_st ?_ (fun t_ k_ => XS.iconst X0.here hx rfl (hb hby d2_97) k_)
          show own_G p.tables e below _ _ (s₁.setTop (mkF m 98 #[.val (.ref a0), .val (.int p1)] [(.int (5 : Int32)), (.int p1)]))
          by_cases hc98 : p1 = (5 : Int32)
          · refine own_st ?_ (fun t_ k_ => XS.icmpNo X0.here hx rfl (hb hby d2_98) rfl (teq hc98).2 k_)
            show own_G p.tables e below _ _ (s₁.setTop (mkF m 101 #[.val (.ref a0), .val (.int p1)] []))
            refine own_st ?_ (fun t_ k_ => XS.iconst X0.here hx rfl (hb hby d2_101) k_)
            show own_G p.tables e below _ _ (s₁.setTop (mkF m 102 #[.val (.ref a0), .val (.int p1)] [(.int (5 : Int32))]))
            obtain ⟨T58, h58, k58, X58, e58, E58, A58, st58⟩ := newP X0 hx hZ (hw _ (List.mem_of_getElem? (i := 1) rfl)) e0 (g := (mkF m 102 #[.val (.ref a0), .val (.int p1)] [(.int (5 : Int32))])) rfl (hb hby d2_102) rfl (by decide) (cap := 5) (by decide) (by decide) (by decide) (by decide)
            obtain ⟨b58, gz58⟩ : ∃ z, z = h0.size := ⟨_, rfl⟩
            rw [← gz58] at A58 st58
            have ne_a0_b58 : a0 ≠ b58 := Nat.ne_of_lt (Nat.lt_of_lt_of_le (own_Y_lt Y0) (Nat.le_of_eq gz58.symm))
            have g_b58 : n0 ≤ b58 := Nat.le_trans Z0 (Nat.le_of_eq gz58.symm)
            have sz_b58 : h0.size ≤ b58 := Nat.le_trans (Keep.refl h0 []).1 (Nat.le_of_eq gz58.symm)
            have F59_P : own_Y .char Z h58 a0 6 G := own_Y_ext Y0 E58
            have Zs60 : n0 ≤ h58.size := Nat.le_trans Z0 E58.1
            have Kc61 : Keep h0 h58 [] := (Keep.refl h0 []).ext E58
            have Y_b58 : own_Y .char Z h58 b58 5 (fun _ => 0) := own_Y_new (Arv.new A58 (by decide)) (by decide)
            refine own_st ?_ st58
            show own_G p.tables e below _ _ (T58.setTop (mkF m 104 #[.val (.ref a0), .val (.int p1)] [(.ref b58)]))
            refine own_st ?_ (fun t_ k_ => XS.dup X58.here hx rfl (hb hby d2_104) rfl rfl k_)
            show own_G p.tables e below _ _ (T58.setTop (mkF m 105 #[.val (.ref a0), .val (.int p1)] [(.ref b58), (.ref b58)]))
            refine own_st ?_ (fun t_ k_ => XS.iconst X58.here hx rfl (hb hby d2_105) k_)
            show own_G p.tables e below _ _ (T58.setTop (mkF m 106 #[.val (.ref a0), .val (.int p1)] [(.int (0 : Int32)), (.ref b58), (.ref b58)]))
            refine own_st ?_ (fun t_ k_ => XS.aloadN X58.here hx rfl (hb hby d2_106) rfl rfl k_)
            show own_G p.tables e below _ _ (T58.setTop (mkF m 107 #[.val (.ref a0), .val (.int p1)] [(.ref a0), (.int (0 : Int32)), (.ref b58), (.ref b58)]))
            refine own_st ?_ (fun t_ k_ => XS.iconst X58.here hx rfl (hb hby d2_107) k_)
            show own_G p.tables e below _ _ (T58.setTop (mkF m 108 #[.val (.ref a0), .val (.int p1)] [(.int (0 : Int32)), (.ref a0), (.int (0 : Int32)), (.ref b58), (.ref b58)]))
            have ix62 := own_ix (j := (0 : Int32)) (k := 0) (n := 6) (by decide) (by decide) (by decide)
            obtain ⟨cl62, Ar62, Sz62, G62⟩ := F59_P
            have hin62 : ¬ ((0 : Int32) < 0 ∨ cl62.slots.size ≤ ((0 : Int32)).toNatClampNeg) := by rw [Sz62]; exact ix62.1
            have hat62 : cl62.slots[((0 : Int32)).toNatClampNeg]? = some (.int (G 0)) := by rw [ix62.2]; exact G62 _ (by decide)
            refine own_st ?_ (X58.caload hx (j := (0 : Int32)) (v := (.int (G 0))) (by rw [e58]; exact Ar62.1) (State.isArrayOf_alike hZ.alike Ar62.2.1) Ar62.2.2 hin62 hat62 (g := (mkF m 108 #[.val (.ref a0), .val (.int p1)] [(.int (0 : Int32)), (.ref a0), (.int (0 : Int32)), (.ref b58), (.ref b58)])) rfl rfl (hb hby d2_108))
            have Yx62 : own_Y .char Z h58 a0 6 G := ⟨cl62, Ar62, Sz62, G62⟩
            show own_G p.tables e below _ _ (T58.setTop (mkF m 109 #[.val (.ref a0), .val (.int p1)] [(.int (G 0)), (.int (0 : Int32)), (.ref b58), (.ref b58)]))
            have ix63 := own_ix (j := (0 : Int32)) (k := 0) (n := 5) (by decide) (by decide) (by decide)
            obtain ⟨cl63, Ar63, Sz63, G63⟩ := Y_b58
            have hin63 : ¬ ((0 : Int32) < 0 ∨ cl63.slots.size ≤ ((0 : Int32)).toNatClampNeg) := by rw [Sz63]; exact ix63.1
            obtain ⟨T63, h63, X63, e63, W63, st63⟩ := stC X58 hx hZ e58 Ar63 (j := (0 : Int32)) hin63 (g := (mkF m 109 #[.val (.ref a0), .val (.int p1)] [(.int (G 0)), (.int (0 : Int32)), (.ref b58), (.ref b58)])) rfl rfl (hb hby d2_109)
            have N63 := Fr.snoc X63 N0 g_b58
            have Yo63 : own_Y .char Z h58 b58 5 (fun _ => 0) := ⟨cl63, Ar63, Sz63, G63⟩
            have F64_P : own_Y .char Z h63 a0 6 G := own_Y_keep Yx62 (Keep.of_wr W63) (ninS ne_a0_b58 nin0)
            have Zs65 : n0 ≤ h63.size := Nat.le_trans Zs60 (Keep.of_wr W63).1
            have Kc66 : Keep h0 h63 [] := Kc61.wr W63 (Or.inr sz_b58)
            have Y63 : own_Y .char Z h63 b58 5 (own_upd (fun _ => 0) 0 (nar .char (G 0))) := own_Y_set Yo63 W63 ix63.2
            refine own_st ?_ st63
            show own_G p.tables e below _ _ (T63.setTop (mkF m 110 #[.val (.ref a0), .val (.int p1)] [(.ref b58)]))
            refine own_st ?_ (fun t_ k_ => XS.dup X63.here hx rfl (hb hby d2_110) rfl rfl k_)
            show own_G p.tables e below _ _ (T63.setTop (mkF m 111 #[.val (.ref a0), .val (.int p1)] [(.ref b58), (.ref b58)]))
            refine own_st ?_ (fun t_ k_ => XS.iconst X63.here hx rfl (hb hby d2_111) k_)
            show own_G p.tables e below _ _ (T63.setTop (mkF m 112 #[.val (.ref a0), .val (.int p1)] [(.int (1 : Int32)), (.ref b58), (.ref b58)]))
            refine own_st ?_ (fun t_ k_ => XS.aloadN X63.here hx rfl (hb hby d2_112) rfl rfl k_)
            show own_G p.tables e below _ _ (T63.setTop (mkF m 113 #[.val (.ref a0), .val (.int p1)] [(.ref a0), (.int (1 : Int32)), (.ref b58), (.ref b58)]))
            refine own_st ?_ (fun t_ k_ => XS.iconst X63.here hx rfl (hb hby d2_113) k_)
            show own_G p.tables e below _ _ (T63.setTop (mkF m 114 #[.val (.ref a0), .val (.int p1)] [(.int (1 : Int32)), (.ref a0), (.int (1 : Int32)), (.ref b58), (.ref b58)]))
            have ix67 := own_ix (j := (1 : Int32)) (k := 1) (n := 6) (by decide) (by decide) (by decide)
            obtain ⟨cl67, Ar67, Sz67, G67⟩ := F64_P
            have hin67 : ¬ ((1 : Int32) < 0 ∨ cl67.slots.size ≤ ((1 : Int32)).toNatClampNeg) := by rw [Sz67]; exact ix67.1
            have hat67 : cl67.slots[((1 : Int32)).toNatClampNeg]? = some (.int (G 1)) := by rw [ix67.2]; exact G67 _ (by decide)
            refine own_st ?_ (X63.caload hx (j := (1 : Int32)) (v := (.int (G 1))) (by rw [e63]; exact Ar67.1) (State.isArrayOf_alike hZ.alike Ar67.2.1) Ar67.2.2 hin67 hat67 (g := (mkF m 114 #[.val (.ref a0), .val (.int p1)] [(.int (1 : Int32)), (.ref a0), (.int (1 : Int32)), (.ref b58), (.ref b58)])) rfl rfl (hb hby d2_114))
            have Yx67 : own_Y .char Z h63 a0 6 G := ⟨cl67, Ar67, Sz67, G67⟩
            show own_G p.tables e below _ _ (T63.setTop (mkF m 115 #[.val (.ref a0), .val (.int p1)] [(.int (G 1)), (.int (1 : Int32)), (.ref b58), (.ref b58)]))
            have ix68 := own_ix (j := (1 : Int32)) (k := 1) (n := 5) (by decide) (by decide) (by decide)
            obtain ⟨cl68, Ar68, Sz68, G68⟩ := Y63
            have hin68 : ¬ ((1 : Int32) < 0 ∨ cl68.slots.size ≤ ((1 : Int32)).toNatClampNeg) := by rw [Sz68]; exact ix68.1
            obtain ⟨T68, h68, X68, e68, W68, st68⟩ := stC X63 hx hZ e63 Ar68 (j := (1 : Int32)) hin68 (g := (mkF m 115 #[.val (.ref a0), .val (.int p1)] [(.int (G 1)), (.int (1 : Int32)), (.ref b58), (.ref b58)])) rfl rfl (hb hby d2_115)
            have N68 := Fr.snoc X68 N63 g_b58
            have Yo68 : own_Y .char Z h63 b58 5 (own_upd (fun _ => 0) 0 (nar .char (G 0))) := ⟨cl68, Ar68, Sz68, G68⟩
            have F69_P : own_Y .char Z h68 a0 6 G := own_Y_keep Yx67 (Keep.of_wr W68) (ninS ne_a0_b58 nin0)
            have Zs70 : n0 ≤ h68.size := Nat.le_trans Zs65 (Keep.of_wr W68).1
            have Kc71 : Keep h0 h68 [] := Kc66.wr W68 (Or.inr sz_b58)
            have Y68 : own_Y .char Z h68 b58 5 (own_upd (own_upd (fun _ => 0) 0 (nar .char (G 0))) 1 (nar .char (G 1))) := own_Y_set Yo68 W68 ix68.2
            refine own_st ?_ st68
            show own_G p.tables e below _ _ (T68.setTop (mkF m 116 #[.val (.ref a0), .val (.int p1)] [(.ref b58)]))
            refine own_st ?_ (fun t_ k_ => XS.dup X68.here hx rfl (hb hby d2_116) rfl rfl k_)
            show own_G p.tables e below _ _ (T68.setTop (mkF m 117 #[.val (.ref a0), .val (.int p1)] [(.ref b58), (.ref b58)]))
            refine own_st ?_ (fun t_ k_ => XS.iconst X68.here hx rfl (hb hby d2_117) k_)
            show own_G p.tables e below _ _ (T68.setTop (mkF m 118 #[.val (.ref a0), .val (.int p1)] [(.int (2 : Int32)), (.ref b58), (.ref b58)]))
            refine own_st ?_ (fun t_ k_ => XS.aloadN X68.here hx rfl (hb hby d2_118) rfl rfl k_)
            show own_G p.tables e below _ _ (T68.setTop (mkF m 119 #[.val (.ref a0), .val (.int p1)] [(.ref a0), (.int (2 : Int32)), (.ref b58), (.ref b58)]))
            refine own_st ?_ (fun t_ k_ => XS.iconst X68.here hx rfl (hb hby d2_119) k_)
            show own_G p.tables e below _ _ (T68.setTop (mkF m 120 #[.val (.ref a0), .val (.int p1)] [(.int (2 : Int32)), (.ref a0), (.int (2 : Int32)), (.ref b58), (.ref b58)]))
            have ix72 := own_ix (j := (2 : Int32)) (k := 2) (n := 6) (by decide) (by decide) (by decide)
            obtain ⟨cl72, Ar72, Sz72, G72⟩ := F69_P
            have hin72 : ¬ ((2 : Int32) < 0 ∨ cl72.slots.size ≤ ((2 : Int32)).toNatClampNeg) := by rw [Sz72]; exact ix72.1
            have hat72 : cl72.slots[((2 : Int32)).toNatClampNeg]? = some (.int (G 2)) := by rw [ix72.2]; exact G72 _ (by decide)
            refine own_st ?_ (X68.caload hx (j := (2 : Int32)) (v := (.int (G 2))) (by rw [e68]; exact Ar72.1) (State.isArrayOf_alike hZ.alike Ar72.2.1) Ar72.2.2 hin72 hat72 (g := (mkF m 120 #[.val (.ref a0), .val (.int p1)] [(.int (2 : Int32)), (.ref a0), (.int (2 : Int32)), (.ref b58), (.ref b58)])) rfl rfl (hb hby d2_120))
            have Yx72 : own_Y .char Z h68 a0 6 G := ⟨cl72, Ar72, Sz72, G72⟩
            show own_G p.tables e below _ _ (T68.setTop (mkF m 121 #[.val (.ref a0), .val (.int p1)] [(.int (G 2)), (.int (2 : Int32)), (.ref b58), (.ref b58)]))
            have ix73 := own_ix (j := (2 : Int32)) (k := 2) (n := 5) (by decide) (by decide) (by decide)
            obtain ⟨cl73, Ar73, Sz73, G73⟩ := Y68
            have hin73 : ¬ ((2 : Int32) < 0 ∨ cl73.slots.size ≤ ((2 : Int32)).toNatClampNeg) := by rw [Sz73]; exact ix73.1
            obtain ⟨T73, h73, X73, e73, W73, st73⟩ := stC X68 hx hZ e68 Ar73 (j := (2 : Int32)) hin73 (g := (mkF m 121 #[.val (.ref a0), .val (.int p1)] [(.int (G 2)), (.int (2 : Int32)), (.ref b58), (.ref b58)])) rfl rfl (hb hby d2_121)
            have N73 := Fr.snoc X73 N68 g_b58
            have Yo73 : own_Y .char Z h68 b58 5 (own_upd (own_upd (fun _ => 0) 0 (nar .char (G 0))) 1 (nar .char (G 1))) := ⟨cl73, Ar73, Sz73, G73⟩
            have F74_P : own_Y .char Z h73 a0 6 G := own_Y_keep Yx72 (Keep.of_wr W73) (ninS ne_a0_b58 nin0)
            have Zs75 : n0 ≤ h73.size := Nat.le_trans Zs70 (Keep.of_wr W73).1
            have Kc76 : Keep h0 h73 [] := Kc71.wr W73 (Or.inr sz_b58)
            have Y73 : own_Y .char Z h73 b58 5 (own_upd (own_upd (own_upd (fun _ => 0) 0 (nar .char (G 0))) 1 (nar .char (G 1))) 2 (nar .char (G 2))) := own_Y_set Yo73 W73 ix73.2
            refine own_st ?_ st73
            show own_G p.tables e below _ _ (T73.setTop (mkF m 122 #[.val (.ref a0), .val (.int p1)] [(.ref b58)]))
            refine own_st ?_ (fun t_ k_ => XS.dup X73.here hx rfl (hb hby d2_122) rfl rfl k_)
            show own_G p.tables e below _ _ (T73.setTop (mkF m 123 #[.val (.ref a0), .val (.int p1)] [(.ref b58), (.ref b58)]))
            refine own_st ?_ (fun t_ k_ => XS.iconst X73.here hx rfl (hb hby d2_123) k_)
            show own_G p.tables e below _ _ (T73.setTop (mkF m 124 #[.val (.ref a0), .val (.int p1)] [(.int (3 : Int32)), (.ref b58), (.ref b58)]))
            refine own_st ?_ (fun t_ k_ => XS.aloadN X73.here hx rfl (hb hby d2_124) rfl rfl k_)
            show own_G p.tables e below _ _ (T73.setTop (mkF m 125 #[.val (.ref a0), .val (.int p1)] [(.ref a0), (.int (3 : Int32)), (.ref b58), (.ref b58)]))
            refine own_st ?_ (fun t_ k_ => XS.iconst X73.here hx rfl (hb hby d2_125) k_)
            show own_G p.tables e below _ _ (T73.setTop (mkF m 126 #[.val (.ref a0), .val (.int p1)] [(.int (3 : Int32)), (.ref a0), (.int (3 : Int32)), (.ref b58), (.ref b58)]))
            have ix77 := own_ix (j := (3 : Int32)) (k := 3) (n := 6) (by decide) (by decide) (by decide)
            obtain ⟨cl77, Ar77, Sz77, G77⟩ := F74_P
            have hin77 : ¬ ((3 : Int32) < 0 ∨ cl77.slots.size ≤ ((3 : Int32)).toNatClampNeg) := by rw [Sz77]; exact ix77.1
            have hat77 : cl77.slots[((3 : Int32)).toNatClampNeg]? = some (.int (G 3)) := by rw [ix77.2]; exact G77 _ (by decide)
            refine own_st ?_ (X73.caload hx (j := (3 : Int32)) (v := (.int (G 3))) (by rw [e73]; exact Ar77.1) (State.isArrayOf_alike hZ.alike Ar77.2.1) Ar77.2.2 hin77 hat77 (g := (mkF m 126 #[.val (.ref a0), .val (.int p1)] [(.int (3 : Int32)), (.ref a0), (.int (3 : Int32)), (.ref b58), (.ref b58)])) rfl rfl (hb hby d2_126))
            have Yx77 : own_Y .char Z h73 a0 6 G := ⟨cl77, Ar77, Sz77, G77⟩
            show own_G p.tables e below _ _ (T73.setTop (mkF m 127 #[.val (.ref a0), .val (.int p1)] [(.int (G 3)), (.int (3 : Int32)), (.ref b58), (.ref b58)]))
            have ix78 := own_ix (j := (3 : Int32)) (k := 3) (n := 5) (by decide) (by decide) (by decide)
            obtain ⟨cl78, Ar78, Sz78, G78⟩ := Y73
            have hin78 : ¬ ((3 : Int32) < 0 ∨ cl78.slots.size ≤ ((3 : Int32)).toNatClampNeg) := by rw [Sz78]; exact ix78.1
            obtain ⟨T78, h78, X78, e78, W78, st78⟩ := stC X73 hx hZ e73 Ar78 (j := (3 : Int32)) hin78 (g := (mkF m 127 #[.val (.ref a0), .val (.int p1)] [(.int (G 3)), (.int (3 : Int32)), (.ref b58), (.ref b58)])) rfl rfl (hb hby d2_127)
            have N78 := Fr.snoc X78 N73 g_b58
            have Yo78 : own_Y .char Z h73 b58 5 (own_upd (own_upd (own_upd (fun _ => 0) 0 (nar .char (G 0))) 1 (nar .char (G 1))) 2 (nar .char (G 2))) := ⟨cl78, Ar78, Sz78, G78⟩
            have F79_P : own_Y .char Z h78 a0 6 G := own_Y_keep Yx77 (Keep.of_wr W78) (ninS ne_a0_b58 nin0)
            have Zs80 : n0 ≤ h78.size := Nat.le_trans Zs75 (Keep.of_wr W78).1
            have Kc81 : Keep h0 h78 [] := Kc76.wr W78 (Or.inr sz_b58)
            have Y78 : own_Y .char Z h78 b58 5 (own_upd (own_upd (own_upd (own_upd (fun _ => 0) 0 (nar .char (G 0))) 1 (nar .char (G 1))) 2 (nar .char (G 2))) 3 (nar .char (G 3))) := own_Y_set Yo78 W78 ix78.2
            refine own_st ?_ st78
            show own_G p.tables e below _ _ (T78.setTop (mkF m 128 #[.val (.ref a0), .val (.int p1)] [(.ref b58)]))
            refine own_st ?_ (fun t_ k_ => XS.dup X78.here hx rfl (hb hby d2_128) rfl rfl k_)
            show own_G p.tables e below _ _ (T78.setTop (mkF m 129 #[.val (.ref a0), .val (.int p1)] [(.ref b58), (.ref b58)]))
            refine own_st ?_ (fun t_ k_ => XS.iconst X78.here hx rfl (hb hby d2_129) k_)
            show own_G p.tables e below _ _ (T78.setTop (mkF m 130 #[.val (.ref a0), .val (.int p1)] [(.int (4 : Int32)), (.ref b58), (.ref b58)]))
            refine own_st ?_ (fun t_ k_ => XS.aloadN X78.here hx rfl (hb hby d2_130) rfl rfl k_)
            show own_G p.tables e below _ _ (T78.setTop (mkF m 131 #[.val (.ref a0), .val (.int p1)] [(.ref a0), (.int (4 : Int32)), (.ref b58), (.ref b58)]))
            refine own_st ?_ (fun t_ k_ => XS.iconst X78.here hx rfl (hb hby d2_131) k_)
            show own_G p.tables e below _ _ (T78.setTop (mkF m 132 #[.val (.ref a0), .val (.int p1)] [(.int (4 : Int32)), (.ref a0), (.int (4 : Int32)), (.ref b58), (.ref b58)]))
            have ix82 := own_ix (j := (4 : Int32)) (k := 4) (n := 6) (by decide) (by decide) (by decide)
            obtain ⟨cl82, Ar82, Sz82, G82⟩ := F79_P
            have hin82 : ¬ ((4 : Int32) < 0 ∨ cl82.slots.size ≤ ((4 : Int32)).toNatClampNeg) := by rw [Sz82]; exact ix82.1
            have hat82 : cl82.slots[((4 : Int32)).toNatClampNeg]? = some (.int (G 4)) := by rw [ix82.2]; exact G82 _ (by decide)
            refine own_st ?_ (X78.caload hx (j := (4 : Int32)) (v := (.int (G 4))) (by rw [e78]; exact Ar82.1) (State.isArrayOf_alike hZ.alike Ar82.2.1) Ar82.2.2 hin82 hat82 (g := (mkF m 132 #[.val (.ref a0), .val (.int p1)] [(.int (4 : Int32)), (.ref a0), (.int (4 : Int32)), (.ref b58), (.ref b58)])) rfl rfl (hb hby d2_132))
            have Yx82 : own_Y .char Z h78 a0 6 G := ⟨cl82, Ar82, Sz82, G82⟩
            show own_G p.tables e below _ _ (T78.setTop (mkF m 133 #[.val (.ref a0), .val (.int p1)] [(.int (G 4)), (.int (4 : Int32)), (.ref b58), (.ref b58)]))
            have ix83 := own_ix (j := (4 : Int32)) (k := 4) (n := 5) (by decide) (by decide) (by decide)
            obtain ⟨cl83, Ar83, Sz83, G83⟩ := Y78
            have hin83 : ¬ ((4 : Int32) < 0 ∨ cl83.slots.size ≤ ((4 : Int32)).toNatClampNeg) := by rw [Sz83]; exact ix83.1
            obtain ⟨T83, h83, X83, e83, W83, st83⟩ := stC X78 hx hZ e78 Ar83 (j := (4 : Int32)) hin83 (g := (mkF m 133 #[.val (.ref a0), .val (.int p1)] [(.int (G 4)), (.int (4 : Int32)), (.ref b58), (.ref b58)])) rfl rfl (hb hby d2_133)
            have N83 := Fr.snoc X83 N78 g_b58
            have Yo83 : own_Y .char Z h78 b58 5 (own_upd (own_upd (own_upd (own_upd (fun _ => 0) 0 (nar .char (G 0))) 1 (nar .char (G 1))) 2 (nar .char (G 2))) 3 (nar .char (G 3))) := ⟨cl83, Ar83, Sz83, G83⟩
            have F84_P : own_Y .char Z h83 a0 6 G := own_Y_keep Yx82 (Keep.of_wr W83) (ninS ne_a0_b58 nin0)
            have Zs85 : n0 ≤ h83.size := Nat.le_trans Zs80 (Keep.of_wr W83).1
            have Kc86 : Keep h0 h83 [] := Kc81.wr W83 (Or.inr sz_b58)
            have Y83 : own_Y .char Z h83 b58 5 (own_upd (own_upd (own_upd (own_upd (own_upd (fun _ => 0) 0 (nar .char (G 0))) 1 (nar .char (G 1))) 2 (nar .char (G 2))) 3 (nar .char (G 3))) 4 (nar .char (G 4))) := own_Y_set Yo83 W83 ix83.2
            refine own_st ?_ st83
            show own_G p.tables e below _ _ (T83.setTop (mkF m 134 #[.val (.ref a0), .val (.int p1)] [(.ref b58)]))
            have q_hc2 : 1 < n := by rw [hp] at hc2; exact (own_tlt (a := 1) (b := n) (by decide) (by omega)).mp hc2
            have q_hc17 : ¬ n = 2 := fun z => hc17 (hp.trans ((own_teq (a := n) (b := 2) (by omega) (by decide)).mpr z))
            have q_hc38 : ¬ n = 3 := fun z => hc38 (hp.trans ((own_teq (a := n) (b := 3) (by omega) (by decide)).mpr z))
            have q_hc65 : ¬ n = 4 := fun z => hc65 (hp.trans ((own_teq (a := n) (b := 4) (by omega) (by decide)).mpr z))
            have q_hc98 : n = 5 := (own_teq (b := 5) (by omega) (by decide)).mp (hp.symm.trans hc98)
            have hkn : 5 = n := by omega
            have hch : ∀ i, i < 5 → (own_upd (own_upd (own_upd (own_upd (own_upd (fun _ => 0) 0 (nar .char (G 0))) 1 (nar .char (G 1))) 2 (nar .char (G 2))) 3 (nar .char (G 3))) 4 (nar .char (G 4))) i = G i := by
              intro i hi
              have hi' : i = 0 ∨ i = 1 ∨ i = 2 ∨ i = 3 ∨ i = 4 := by omega
              rcases hi' with rfl | rfl | rfl | rfl | rfl
              · exact (show (own_upd (own_upd (own_upd (own_upd (own_upd (fun _ => 0) 0 (nar .char (G 0))) 1 (nar .char (G 1))) 2 (nar .char (G 2))) 3 (nar .char (G 3))) 4 (nar .char (G 4))) 0 = nar .char (G 0) by simp [own_upd]).trans (own_chr_id (hC 0 (by omega)))
              · exact (show (own_upd (own_upd (own_upd (own_upd (own_upd (fun _ => 0) 0 (nar .char (G 0))) 1 (nar .char (G 1))) 2 (nar .char (G 2))) 3 (nar .char (G 3))) 4 (nar .char (G 4))) 1 = nar .char (G 1) by simp [own_upd]).trans (own_chr_id (hC 1 (by omega)))
              · exact (show (own_upd (own_upd (own_upd (own_upd (own_upd (fun _ => 0) 0 (nar .char (G 0))) 1 (nar .char (G 1))) 2 (nar .char (G 2))) 3 (nar .char (G 3))) 4 (nar .char (G 4))) 2 = nar .char (G 2) by simp [own_upd]).trans (own_chr_id (hC 2 (by omega)))
              · exact (show (own_upd (own_upd (own_upd (own_upd (own_upd (fun _ => 0) 0 (nar .char (G 0))) 1 (nar .char (G 1))) 2 (nar .char (G 2))) 3 (nar .char (G 3))) 4 (nar .char (G 4))) 3 = nar .char (G 3) by simp [own_upd]).trans (own_chr_id (hC 3 (by omega)))
              · exact (show (own_upd (own_upd (own_upd (own_upd (own_upd (fun _ => 0) 0 (nar .char (G 0))) 1 (nar .char (G 1))) 2 (nar .char (G 2))) 3 (nar .char (G 3))) 4 (nar .char (G 4))) 4 = nar .char (G 4) by simp [own_upd]).trans (own_chr_id (hC 4 (by omega)))
            refine own_retA X83 hx hlk hret rfl rfl rfl (hb hby d2_134) (by decide) (by decide) ⟨b58, rfl, N83, ?_⟩
            rw [e83]
            exact ⟨Kc86, sz_b58, own_Y_congr Y83 hkn hch⟩
          · refine own_st ?_ (fun t_ k_ => XS.icmpYes X0.here hx rfl (pc0 := 98) (pc' := 135) rfl (hb hby d2_98) rfl (feq hc98).2 (by decide) (by decide) k_)
            show own_G p.tables e below _ _ (s₁.setTop (mkF m 135 #[.val (.ref a0), .val (.int p1)] []))
            refine own_st ?_ (fun t_ k_ => XS.bipush X0.here hx rfl (hb hby d2_135) k_)
            show own_G p.tables e below _ _ (s₁.setTop (mkF m 137 #[.val (.ref a0), .val (.int p1)] [(.int (6 : Int32))]))
            obtain ⟨T87, h87, k87, X87, e87, E87, A87, st87⟩ := newP X0 hx hZ (hw _ (List.mem_of_getElem? (i := 1) rfl)) e0 (g := (mkF m 137 #[.val (.ref a0), .val (.int p1)] [(.int (6 : Int32))])) rfl (hb hby d2_137) rfl (by decide) (cap := 6) (by decide) (by decide) (by decide) (by decide)
            obtain ⟨b87, gz87⟩ : ∃ z, z = h0.size := ⟨_, rfl⟩
            rw [← gz87] at A87 st87
            have ne_a0_b87 : a0 ≠ b87 := Nat.ne_of_lt (Nat.lt_of_lt_of_le (own_Y_lt Y0) (Nat.le_of_eq gz87.symm))
            have g_b87 : n0 ≤ b87 := Nat.le_trans Z0 (Nat.le_of_eq gz87.symm)
            have sz_b87 : h0.size ≤ b87 := Nat.le_trans (Keep.refl h0 []).1 (Nat.le_of_eq gz87.symm)
            have F88_P : own_Y .char Z h87 a0 6 G := own_Y_ext Y0 E87
            have Zs89 : n0 ≤ h87.size := Nat.le_trans Z0 E87.1
            have Kc90 : Keep h0 h87 [] := (Keep.refl h0 []).ext E87
            have Y_b87 : own_Y .char Z h87 b87 6 (fun _ => 0) := own_Y_new (Arv.new A87 (by decide)) (by decide)
            refine own_st ?_ st87
            show own_G p.tables e below _ _ (T87.setTop (mkF m 139 #[.val (.ref a0), .val (.int p1)] [(.ref b87)]))
            refine own_st ?_ (fun t_ k_ => XS.dup X87.here hx rfl (hb hby d2_139) rfl rfl k_)
            show own_G p.tables e below _ _ (T87.setTop (mkF m 140 #[.val (.ref a0), .val (.int p1)] [(.ref b87), (.ref b87)]))
            refine own_st ?_ (fun t_ k_ => XS.iconst X87.here hx rfl (hb hby d2_140) k_)
            show own_G p.tables e below _ _ (T87.setTop (mkF m 141 #[.val (.ref a0), .val (.int p1)] [(.int (0 : Int32)), (.ref b87), (.ref b87)]))
            refine own_st ?_ (fun t_ k_ => XS.aloadN X87.here hx rfl (hb hby d2_141) rfl rfl k_)
            show own_G p.tables e below _ _ (T87.setTop (mkF m 142 #[.val (.ref a0), .val (.int p1)] [(.ref a0), (.int (0 : Int32)), (.ref b87), (.ref b87)]))
            refine own_st ?_ (fun t_ k_ => XS.iconst X87.here hx rfl (hb hby d2_142) k_)
            show own_G p.tables e below _ _ (T87.setTop (mkF m 143 #[.val (.ref a0), .val (.int p1)] [(.int (0 : Int32)), (.ref a0), (.int (0 : Int32)), (.ref b87), (.ref b87)]))
            have ix91 := own_ix (j := (0 : Int32)) (k := 0) (n := 6) (by decide) (by decide) (by decide)
            obtain ⟨cl91, Ar91, Sz91, G91⟩ := F88_P
            have hin91 : ¬ ((0 : Int32) < 0 ∨ cl91.slots.size ≤ ((0 : Int32)).toNatClampNeg) := by rw [Sz91]; exact ix91.1
            have hat91 : cl91.slots[((0 : Int32)).toNatClampNeg]? = some (.int (G 0)) := by rw [ix91.2]; exact G91 _ (by decide)
            refine own_st ?_ (X87.caload hx (j := (0 : Int32)) (v := (.int (G 0))) (by rw [e87]; exact Ar91.1) (State.isArrayOf_alike hZ.alike Ar91.2.1) Ar91.2.2 hin91 hat91 (g := (mkF m 143 #[.val (.ref a0), .val (.int p1)] [(.int (0 : Int32)), (.ref a0), (.int (0 : Int32)), (.ref b87), (.ref b87)])) rfl rfl (hb hby d2_143))
            have Yx91 : own_Y .char Z h87 a0 6 G := ⟨cl91, Ar91, Sz91, G91⟩
            show own_G p.tables e below _ _ (T87.setTop (mkF m 144 #[.val (.ref a0), .val (.int p1)] [(.int (G 0)), (.int (0 : Int32)), (.ref b87), (.ref b87)]))
            have ix92 := own_ix (j := (0 : Int32)) (k := 0) (n := 6) (by decide) (by decide) (by decide)
            obtain ⟨cl92, Ar92, Sz92, G92⟩ := Y_b87
            have hin92 : ¬ ((0 : Int32) < 0 ∨ cl92.slots.size ≤ ((0 : Int32)).toNatClampNeg) := by rw [Sz92]; exact ix92.1
            obtain ⟨T92, h92, X92, e92, W92, st92⟩ := stC X87 hx hZ e87 Ar92 (j := (0 : Int32)) hin92 (g := (mkF m 144 #[.val (.ref a0), .val (.int p1)] [(.int (G 0)), (.int (0 : Int32)), (.ref b87), (.ref b87)])) rfl rfl (hb hby d2_144)
            have N92 := Fr.snoc X92 N0 g_b87
            have Yo92 : own_Y .char Z h87 b87 6 (fun _ => 0) := ⟨cl92, Ar92, Sz92, G92⟩
            have F93_P : own_Y .char Z h92 a0 6 G := own_Y_keep Yx91 (Keep.of_wr W92) (ninS ne_a0_b87 nin0)
            have Zs94 : n0 ≤ h92.size := Nat.le_trans Zs89 (Keep.of_wr W92).1
            have Kc95 : Keep h0 h92 [] := Kc90.wr W92 (Or.inr sz_b87)
            have Y92 : own_Y .char Z h92 b87 6 (own_upd (fun _ => 0) 0 (nar .char (G 0))) := own_Y_set Yo92 W92 ix92.2
            refine own_st ?_ st92
            show own_G p.tables e below _ _ (T92.setTop (mkF m 145 #[.val (.ref a0), .val (.int p1)] [(.ref b87)]))
            refine own_st ?_ (fun t_ k_ => XS.dup X92.here hx rfl (hb hby d2_145) rfl rfl k_)
            show own_G p.tables e below _ _ (T92.setTop (mkF m 146 #[.val (.ref a0), .val (.int p1)] [(.ref b87), (.ref b87)]))
            refine own_st ?_ (fun t_ k_ => XS.iconst X92.here hx rfl (hb hby d2_146) k_)
            show own_G p.tables e below _ _ (T92.setTop (mkF m 147 #[.val (.ref a0), .val (.int p1)] [(.int (1 : Int32)), (.ref b87), (.ref b87)]))
            refine own_st ?_ (fun t_ k_ => XS.aloadN X92.here hx rfl (hb hby d2_147) rfl rfl k_)
            show own_G p.tables e below _ _ (T92.setTop (mkF m 148 #[.val (.ref a0), .val (.int p1)] [(.ref a0), (.int (1 : Int32)), (.ref b87), (.ref b87)]))
            refine own_st ?_ (fun t_ k_ => XS.iconst X92.here hx rfl (hb hby d2_148) k_)
            show own_G p.tables e below _ _ (T92.setTop (mkF m 149 #[.val (.ref a0), .val (.int p1)] [(.int (1 : Int32)), (.ref a0), (.int (1 : Int32)), (.ref b87), (.ref b87)]))
            have ix96 := own_ix (j := (1 : Int32)) (k := 1) (n := 6) (by decide) (by decide) (by decide)
            obtain ⟨cl96, Ar96, Sz96, G96⟩ := F93_P
            have hin96 : ¬ ((1 : Int32) < 0 ∨ cl96.slots.size ≤ ((1 : Int32)).toNatClampNeg) := by rw [Sz96]; exact ix96.1
            have hat96 : cl96.slots[((1 : Int32)).toNatClampNeg]? = some (.int (G 1)) := by rw [ix96.2]; exact G96 _ (by decide)
            refine own_st ?_ (X92.caload hx (j := (1 : Int32)) (v := (.int (G 1))) (by rw [e92]; exact Ar96.1) (State.isArrayOf_alike hZ.alike Ar96.2.1) Ar96.2.2 hin96 hat96 (g := (mkF m 149 #[.val (.ref a0), .val (.int p1)] [(.int (1 : Int32)), (.ref a0), (.int (1 : Int32)), (.ref b87), (.ref b87)])) rfl rfl (hb hby d2_149))
            have Yx96 : own_Y .char Z h92 a0 6 G := ⟨cl96, Ar96, Sz96, G96⟩
            show own_G p.tables e below _ _ (T92.setTop (mkF m 150 #[.val (.ref a0), .val (.int p1)] [(.int (G 1)), (.int (1 : Int32)), (.ref b87), (.ref b87)]))
            have ix97 := own_ix (j := (1 : Int32)) (k := 1) (n := 6) (by decide) (by decide) (by decide)
            obtain ⟨cl97, Ar97, Sz97, G97⟩ := Y92
            have hin97 : ¬ ((1 : Int32) < 0 ∨ cl97.slots.size ≤ ((1 : Int32)).toNatClampNeg) := by rw [Sz97]; exact ix97.1
            obtain ⟨T97, h97, X97, e97, W97, st97⟩ := stC X92 hx hZ e92 Ar97 (j := (1 : Int32)) hin97 (g := (mkF m 150 #[.val (.ref a0), .val (.int p1)] [(.int (G 1)), (.int (1 : Int32)), (.ref b87), (.ref b87)])) rfl rfl (hb hby d2_150)
            have N97 := Fr.snoc X97 N92 g_b87
            have Yo97 : own_Y .char Z h92 b87 6 (own_upd (fun _ => 0) 0 (nar .char (G 0))) := ⟨cl97, Ar97, Sz97, G97⟩
            have F98_P : own_Y .char Z h97 a0 6 G := own_Y_keep Yx96 (Keep.of_wr W97) (ninS ne_a0_b87 nin0)
            have Zs99 : n0 ≤ h97.size := Nat.le_trans Zs94 (Keep.of_wr W97).1
            have Kc100 : Keep h0 h97 [] := Kc95.wr W97 (Or.inr sz_b87)
            have Y97 : own_Y .char Z h97 b87 6 (own_upd (own_upd (fun _ => 0) 0 (nar .char (G 0))) 1 (nar .char (G 1))) := own_Y_set Yo97 W97 ix97.2
            refine own_st ?_ st97
            show own_G p.tables e below _ _ (T97.setTop (mkF m 151 #[.val (.ref a0), .val (.int p1)] [(.ref b87)]))
            refine own_st ?_ (fun t_ k_ => XS.dup X97.here hx rfl (hb hby d2_151) rfl rfl k_)
            show own_G p.tables e below _ _ (T97.setTop (mkF m 152 #[.val (.ref a0), .val (.int p1)] [(.ref b87), (.ref b87)]))
            refine own_st ?_ (fun t_ k_ => XS.iconst X97.here hx rfl (hb hby d2_152) k_)
            show own_G p.tables e below _ _ (T97.setTop (mkF m 153 #[.val (.ref a0), .val (.int p1)] [(.int (2 : Int32)), (.ref b87), (.ref b87)]))
            refine own_st ?_ (fun t_ k_ => XS.aloadN X97.here hx rfl (hb hby d2_153) rfl rfl k_)
            show own_G p.tables e below _ _ (T97.setTop (mkF m 154 #[.val (.ref a0), .val (.int p1)] [(.ref a0), (.int (2 : Int32)), (.ref b87), (.ref b87)]))
            refine own_st ?_ (fun t_ k_ => XS.iconst X97.here hx rfl (hb hby d2_154) k_)
            show own_G p.tables e below _ _ (T97.setTop (mkF m 155 #[.val (.ref a0), .val (.int p1)] [(.int (2 : Int32)), (.ref a0), (.int (2 : Int32)), (.ref b87), (.ref b87)]))
            have ix101 := own_ix (j := (2 : Int32)) (k := 2) (n := 6) (by decide) (by decide) (by decide)
            obtain ⟨cl101, Ar101, Sz101, G101⟩ := F98_P
            have hin101 : ¬ ((2 : Int32) < 0 ∨ cl101.slots.size ≤ ((2 : Int32)).toNatClampNeg) := by rw [Sz101]; exact ix101.1
            have hat101 : cl101.slots[((2 : Int32)).toNatClampNeg]? = some (.int (G 2)) := by rw [ix101.2]; exact G101 _ (by decide)
            refine own_st ?_ (X97.caload hx (j := (2 : Int32)) (v := (.int (G 2))) (by rw [e97]; exact Ar101.1) (State.isArrayOf_alike hZ.alike Ar101.2.1) Ar101.2.2 hin101 hat101 (g := (mkF m 155 #[.val (.ref a0), .val (.int p1)] [(.int (2 : Int32)), (.ref a0), (.int (2 : Int32)), (.ref b87), (.ref b87)])) rfl rfl (hb hby d2_155))
            have Yx101 : own_Y .char Z h97 a0 6 G := ⟨cl101, Ar101, Sz101, G101⟩
            show own_G p.tables e below _ _ (T97.setTop (mkF m 156 #[.val (.ref a0), .val (.int p1)] [(.int (G 2)), (.int (2 : Int32)), (.ref b87), (.ref b87)]))
            have ix102 := own_ix (j := (2 : Int32)) (k := 2) (n := 6) (by decide) (by decide) (by decide)
            obtain ⟨cl102, Ar102, Sz102, G102⟩ := Y97
            have hin102 : ¬ ((2 : Int32) < 0 ∨ cl102.slots.size ≤ ((2 : Int32)).toNatClampNeg) := by rw [Sz102]; exact ix102.1
            obtain ⟨T102, h102, X102, e102, W102, st102⟩ := stC X97 hx hZ e97 Ar102 (j := (2 : Int32)) hin102 (g := (mkF m 156 #[.val (.ref a0), .val (.int p1)] [(.int (G 2)), (.int (2 : Int32)), (.ref b87), (.ref b87)])) rfl rfl (hb hby d2_156)
            have N102 := Fr.snoc X102 N97 g_b87
            have Yo102 : own_Y .char Z h97 b87 6 (own_upd (own_upd (fun _ => 0) 0 (nar .char (G 0))) 1 (nar .char (G 1))) := ⟨cl102, Ar102, Sz102, G102⟩
            have F103_P : own_Y .char Z h102 a0 6 G := own_Y_keep Yx101 (Keep.of_wr W102) (ninS ne_a0_b87 nin0)
            have Zs104 : n0 ≤ h102.size := Nat.le_trans Zs99 (Keep.of_wr W102).1
            have Kc105 : Keep h0 h102 [] := Kc100.wr W102 (Or.inr sz_b87)
            have Y102 : own_Y .char Z h102 b87 6 (own_upd (own_upd (own_upd (fun _ => 0) 0 (nar .char (G 0))) 1 (nar .char (G 1))) 2 (nar .char (G 2))) := own_Y_set Yo102 W102 ix102.2
            refine own_st ?_ st102
            show own_G p.tables e below _ _ (T102.setTop (mkF m 157 #[.val (.ref a0), .val (.int p1)] [(.ref b87)]))
            refine own_st ?_ (fun t_ k_ => XS.dup X102.here hx rfl (hb hby d2_157) rfl rfl k_)
            show own_G p.tables e below _ _ (T102.setTop (mkF m 158 #[.val (.ref a0), .val (.int p1)] [(.ref b87), (.ref b87)]))
            refine own_st ?_ (fun t_ k_ => XS.iconst X102.here hx rfl (hb hby d2_158) k_)
            show own_G p.tables e below _ _ (T102.setTop (mkF m 159 #[.val (.ref a0), .val (.int p1)] [(.int (3 : Int32)), (.ref b87), (.ref b87)]))
            refine own_st ?_ (fun t_ k_ => XS.aloadN X102.here hx rfl (hb hby d2_159) rfl rfl k_)
            show own_G p.tables e below _ _ (T102.setTop (mkF m 160 #[.val (.ref a0), .val (.int p1)] [(.ref a0), (.int (3 : Int32)), (.ref b87), (.ref b87)]))
            refine own_st ?_ (fun t_ k_ => XS.iconst X102.here hx rfl (hb hby d2_160) k_)
            show own_G p.tables e below _ _ (T102.setTop (mkF m 161 #[.val (.ref a0), .val (.int p1)] [(.int (3 : Int32)), (.ref a0), (.int (3 : Int32)), (.ref b87), (.ref b87)]))
            have ix106 := own_ix (j := (3 : Int32)) (k := 3) (n := 6) (by decide) (by decide) (by decide)
            obtain ⟨cl106, Ar106, Sz106, G106⟩ := F103_P
            have hin106 : ¬ ((3 : Int32) < 0 ∨ cl106.slots.size ≤ ((3 : Int32)).toNatClampNeg) := by rw [Sz106]; exact ix106.1
            have hat106 : cl106.slots[((3 : Int32)).toNatClampNeg]? = some (.int (G 3)) := by rw [ix106.2]; exact G106 _ (by decide)
            refine own_st ?_ (X102.caload hx (j := (3 : Int32)) (v := (.int (G 3))) (by rw [e102]; exact Ar106.1) (State.isArrayOf_alike hZ.alike Ar106.2.1) Ar106.2.2 hin106 hat106 (g := (mkF m 161 #[.val (.ref a0), .val (.int p1)] [(.int (3 : Int32)), (.ref a0), (.int (3 : Int32)), (.ref b87), (.ref b87)])) rfl rfl (hb hby d2_161))
            have Yx106 : own_Y .char Z h102 a0 6 G := ⟨cl106, Ar106, Sz106, G106⟩
            show own_G p.tables e below _ _ (T102.setTop (mkF m 162 #[.val (.ref a0), .val (.int p1)] [(.int (G 3)), (.int (3 : Int32)), (.ref b87), (.ref b87)]))
            have ix107 := own_ix (j := (3 : Int32)) (k := 3) (n := 6) (by decide) (by decide) (by decide)
            obtain ⟨cl107, Ar107, Sz107, G107⟩ := Y102
            have hin107 : ¬ ((3 : Int32) < 0 ∨ cl107.slots.size ≤ ((3 : Int32)).toNatClampNeg) := by rw [Sz107]; exact ix107.1
            obtain ⟨T107, h107, X107, e107, W107, st107⟩ := stC X102 hx hZ e102 Ar107 (j := (3 : Int32)) hin107 (g := (mkF m 162 #[.val (.ref a0), .val (.int p1)] [(.int (G 3)), (.int (3 : Int32)), (.ref b87), (.ref b87)])) rfl rfl (hb hby d2_162)
            have N107 := Fr.snoc X107 N102 g_b87
            have Yo107 : own_Y .char Z h102 b87 6 (own_upd (own_upd (own_upd (fun _ => 0) 0 (nar .char (G 0))) 1 (nar .char (G 1))) 2 (nar .char (G 2))) := ⟨cl107, Ar107, Sz107, G107⟩
            have F108_P : own_Y .char Z h107 a0 6 G := own_Y_keep Yx106 (Keep.of_wr W107) (ninS ne_a0_b87 nin0)
            have Zs109 : n0 ≤ h107.size := Nat.le_trans Zs104 (Keep.of_wr W107).1
            have Kc110 : Keep h0 h107 [] := Kc105.wr W107 (Or.inr sz_b87)
            have Y107 : own_Y .char Z h107 b87 6 (own_upd (own_upd (own_upd (own_upd (fun _ => 0) 0 (nar .char (G 0))) 1 (nar .char (G 1))) 2 (nar .char (G 2))) 3 (nar .char (G 3))) := own_Y_set Yo107 W107 ix107.2
            refine own_st ?_ st107
            show own_G p.tables e below _ _ (T107.setTop (mkF m 163 #[.val (.ref a0), .val (.int p1)] [(.ref b87)]))
            refine own_st ?_ (fun t_ k_ => XS.dup X107.here hx rfl (hb hby d2_163) rfl rfl k_)
            show own_G p.tables e below _ _ (T107.setTop (mkF m 164 #[.val (.ref a0), .val (.int p1)] [(.ref b87), (.ref b87)]))
            refine own_st ?_ (fun t_ k_ => XS.iconst X107.here hx rfl (hb hby d2_164) k_)
            show own_G p.tables e below _ _ (T107.setTop (mkF m 165 #[.val (.ref a0), .val (.int p1)] [(.int (4 : Int32)), (.ref b87), (.ref b87)]))
            refine own_st ?_ (fun t_ k_ => XS.aloadN X107.here hx rfl (hb hby d2_165) rfl rfl k_)
            show own_G p.tables e below _ _ (T107.setTop (mkF m 166 #[.val (.ref a0), .val (.int p1)] [(.ref a0), (.int (4 : Int32)), (.ref b87), (.ref b87)]))
            refine own_st ?_ (fun t_ k_ => XS.iconst X107.here hx rfl (hb hby d2_166) k_)
            show own_G p.tables e below _ _ (T107.setTop (mkF m 167 #[.val (.ref a0), .val (.int p1)] [(.int (4 : Int32)), (.ref a0), (.int (4 : Int32)), (.ref b87), (.ref b87)]))
            have ix111 := own_ix (j := (4 : Int32)) (k := 4) (n := 6) (by decide) (by decide) (by decide)
            obtain ⟨cl111, Ar111, Sz111, G111⟩ := F108_P
            have hin111 : ¬ ((4 : Int32) < 0 ∨ cl111.slots.size ≤ ((4 : Int32)).toNatClampNeg) := by rw [Sz111]; exact ix111.1
            have hat111 : cl111.slots[((4 : Int32)).toNatClampNeg]? = some (.int (G 4)) := by rw [ix111.2]; exact G111 _ (by decide)
            refine own_st ?_ (X107.caload hx (j := (4 : Int32)) (v := (.int (G 4))) (by rw [e107]; exact Ar111.1) (State.isArrayOf_alike hZ.alike Ar111.2.1) Ar111.2.2 hin111 hat111 (g := (mkF m 167 #[.val (.ref a0), .val (.int p1)] [(.int (4 : Int32)), (.ref a0), (.int (4 : Int32)), (.ref b87), (.ref b87)])) rfl rfl (hb hby d2_167))
            have Yx111 : own_Y .char Z h107 a0 6 G := ⟨cl111, Ar111, Sz111, G111⟩
            show own_G p.tables e below _ _ (T107.setTop (mkF m 168 #[.val (.ref a0), .val (.int p1)] [(.int (G 4)), (.int (4 : Int32)), (.ref b87), (.ref b87)]))
            have ix112 := own_ix (j := (4 : Int32)) (k := 4) (n := 6) (by decide) (by decide) (by decide)
            obtain ⟨cl112, Ar112, Sz112, G112⟩ := Y107
            have hin112 : ¬ ((4 : Int32) < 0 ∨ cl112.slots.size ≤ ((4 : Int32)).toNatClampNeg) := by rw [Sz112]; exact ix112.1
            obtain ⟨T112, h112, X112, e112, W112, st112⟩ := stC X107 hx hZ e107 Ar112 (j := (4 : Int32)) hin112 (g := (mkF m 168 #[.val (.ref a0), .val (.int p1)] [(.int (G 4)), (.int (4 : Int32)), (.ref b87), (.ref b87)])) rfl rfl (hb hby d2_168)
            have N112 := Fr.snoc X112 N107 g_b87
            have Yo112 : own_Y .char Z h107 b87 6 (own_upd (own_upd (own_upd (own_upd (fun _ => 0) 0 (nar .char (G 0))) 1 (nar .char (G 1))) 2 (nar .char (G 2))) 3 (nar .char (G 3))) := ⟨cl112, Ar112, Sz112, G112⟩
            have F113_P : own_Y .char Z h112 a0 6 G := own_Y_keep Yx111 (Keep.of_wr W112) (ninS ne_a0_b87 nin0)
            have Zs114 : n0 ≤ h112.size := Nat.le_trans Zs109 (Keep.of_wr W112).1
            have Kc115 : Keep h0 h112 [] := Kc110.wr W112 (Or.inr sz_b87)
            have Y112 : own_Y .char Z h112 b87 6 (own_upd (own_upd (own_upd (own_upd (own_upd (fun _ => 0) 0 (nar .char (G 0))) 1 (nar .char (G 1))) 2 (nar .char (G 2))) 3 (nar .char (G 3))) 4 (nar .char (G 4))) := own_Y_set Yo112 W112 ix112.2
            refine own_st ?_ st112
            show own_G p.tables e below _ _ (T112.setTop (mkF m 169 #[.val (.ref a0), .val (.int p1)] [(.ref b87)]))
            refine own_st ?_ (fun t_ k_ => XS.dup X112.here hx rfl (hb hby d2_169) rfl rfl k_)
            show own_G p.tables e below _ _ (T112.setTop (mkF m 170 #[.val (.ref a0), .val (.int p1)] [(.ref b87), (.ref b87)]))
            refine own_st ?_ (fun t_ k_ => XS.iconst X112.here hx rfl (hb hby d2_170) k_)
            show own_G p.tables e below _ _ (T112.setTop (mkF m 171 #[.val (.ref a0), .val (.int p1)] [(.int (5 : Int32)), (.ref b87), (.ref b87)]))
            refine own_st ?_ (fun t_ k_ => XS.aloadN X112.here hx rfl (hb hby d2_171) rfl rfl k_)
            show own_G p.tables e below _ _ (T112.setTop (mkF m 172 #[.val (.ref a0), .val (.int p1)] [(.ref a0), (.int (5 : Int32)), (.ref b87), (.ref b87)]))
            refine own_st ?_ (fun t_ k_ => XS.iconst X112.here hx rfl (hb hby d2_172) k_)
            show own_G p.tables e below _ _ (T112.setTop (mkF m 173 #[.val (.ref a0), .val (.int p1)] [(.int (5 : Int32)), (.ref a0), (.int (5 : Int32)), (.ref b87), (.ref b87)]))
            have ix116 := own_ix (j := (5 : Int32)) (k := 5) (n := 6) (by decide) (by decide) (by decide)
            obtain ⟨cl116, Ar116, Sz116, G116⟩ := F113_P
            have hin116 : ¬ ((5 : Int32) < 0 ∨ cl116.slots.size ≤ ((5 : Int32)).toNatClampNeg) := by rw [Sz116]; exact ix116.1
            have hat116 : cl116.slots[((5 : Int32)).toNatClampNeg]? = some (.int (G 5)) := by rw [ix116.2]; exact G116 _ (by decide)
            refine own_st ?_ (X112.caload hx (j := (5 : Int32)) (v := (.int (G 5))) (by rw [e112]; exact Ar116.1) (State.isArrayOf_alike hZ.alike Ar116.2.1) Ar116.2.2 hin116 hat116 (g := (mkF m 173 #[.val (.ref a0), .val (.int p1)] [(.int (5 : Int32)), (.ref a0), (.int (5 : Int32)), (.ref b87), (.ref b87)])) rfl rfl (hb hby d2_173))
            have Yx116 : own_Y .char Z h112 a0 6 G := ⟨cl116, Ar116, Sz116, G116⟩
            show own_G p.tables e below _ _ (T112.setTop (mkF m 174 #[.val (.ref a0), .val (.int p1)] [(.int (G 5)), (.int (5 : Int32)), (.ref b87), (.ref b87)]))
            have ix117 := own_ix (j := (5 : Int32)) (k := 5) (n := 6) (by decide) (by decide) (by decide)
            obtain ⟨cl117, Ar117, Sz117, G117⟩ := Y112
            have hin117 : ¬ ((5 : Int32) < 0 ∨ cl117.slots.size ≤ ((5 : Int32)).toNatClampNeg) := by rw [Sz117]; exact ix117.1
            obtain ⟨T117, h117, X117, e117, W117, st117⟩ := stC X112 hx hZ e112 Ar117 (j := (5 : Int32)) hin117 (g := (mkF m 174 #[.val (.ref a0), .val (.int p1)] [(.int (G 5)), (.int (5 : Int32)), (.ref b87), (.ref b87)])) rfl rfl (hb hby d2_174)
            have N117 := Fr.snoc X117 N112 g_b87
            have Yo117 : own_Y .char Z h112 b87 6 (own_upd (own_upd (own_upd (own_upd (own_upd (fun _ => 0) 0 (nar .char (G 0))) 1 (nar .char (G 1))) 2 (nar .char (G 2))) 3 (nar .char (G 3))) 4 (nar .char (G 4))) := ⟨cl117, Ar117, Sz117, G117⟩
            have F118_P : own_Y .char Z h117 a0 6 G := own_Y_keep Yx116 (Keep.of_wr W117) (ninS ne_a0_b87 nin0)
            have Zs119 : n0 ≤ h117.size := Nat.le_trans Zs114 (Keep.of_wr W117).1
            have Kc120 : Keep h0 h117 [] := Kc115.wr W117 (Or.inr sz_b87)
            have Y117 : own_Y .char Z h117 b87 6 (own_upd (own_upd (own_upd (own_upd (own_upd (own_upd (fun _ => 0) 0 (nar .char (G 0))) 1 (nar .char (G 1))) 2 (nar .char (G 2))) 3 (nar .char (G 3))) 4 (nar .char (G 4))) 5 (nar .char (G 5))) := own_Y_set Yo117 W117 ix117.2
            refine own_st ?_ st117
            show own_G p.tables e below _ _ (T117.setTop (mkF m 175 #[.val (.ref a0), .val (.int p1)] [(.ref b87)]))
            have q_hc2 : 1 < n := by rw [hp] at hc2; exact (own_tlt (a := 1) (b := n) (by decide) (by omega)).mp hc2
            have q_hc17 : ¬ n = 2 := fun z => hc17 (hp.trans ((own_teq (a := n) (b := 2) (by omega) (by decide)).mpr z))
            have q_hc38 : ¬ n = 3 := fun z => hc38 (hp.trans ((own_teq (a := n) (b := 3) (by omega) (by decide)).mpr z))
            have q_hc65 : ¬ n = 4 := fun z => hc65 (hp.trans ((own_teq (a := n) (b := 4) (by omega) (by decide)).mpr z))
            have q_hc98 : ¬ n = 5 := fun z => hc98 (hp.trans ((own_teq (a := n) (b := 5) (by omega) (by decide)).mpr z))
            have hkn : 6 = n := by omega
            have hch : ∀ i, i < 6 → (own_upd (own_upd (own_upd (own_upd (own_upd (own_upd (fun _ => 0) 0 (nar .char (G 0))) 1 (nar .char (G 1))) 2 (nar .char (G 2))) 3 (nar .char (G 3))) 4 (nar .char (G 4))) 5 (nar .char (G 5))) i = G i := by
              intro i hi
              have hi' : i = 0 ∨ i = 1 ∨ i = 2 ∨ i = 3 ∨ i = 4 ∨ i = 5 := by omega
              rcases hi' with rfl | rfl | rfl | rfl | rfl | rfl
              · exact (show (own_upd (own_upd (own_upd (own_upd (own_upd (own_upd (fun _ => 0) 0 (nar .char (G 0))) 1 (nar .char (G 1))) 2 (nar .char (G 2))) 3 (nar .char (G 3))) 4 (nar .char (G 4))) 5 (nar .char (G 5))) 0 = nar .char (G 0) by simp [own_upd]).trans (own_chr_id (hC 0 (by omega)))
              · exact (show (own_upd (own_upd (own_upd (own_upd (own_upd (own_upd (fun _ => 0) 0 (nar .char (G 0))) 1 (nar .char (G 1))) 2 (nar .char (G 2))) 3 (nar .char (G 3))) 4 (nar .char (G 4))) 5 (nar .char (G 5))) 1 = nar .char (G 1) by simp [own_upd]).trans (own_chr_id (hC 1 (by omega)))
              · exact (show (own_upd (own_upd (own_upd (own_upd (own_upd (own_upd (fun _ => 0) 0 (nar .char (G 0))) 1 (nar .char (G 1))) 2 (nar .char (G 2))) 3 (nar .char (G 3))) 4 (nar .char (G 4))) 5 (nar .char (G 5))) 2 = nar .char (G 2) by simp [own_upd]).trans (own_chr_id (hC 2 (by omega)))
              · exact (show (own_upd (own_upd (own_upd (own_upd (own_upd (own_upd (fun _ => 0) 0 (nar .char (G 0))) 1 (nar .char (G 1))) 2 (nar .char (G 2))) 3 (nar .char (G 3))) 4 (nar .char (G 4))) 5 (nar .char (G 5))) 3 = nar .char (G 3) by simp [own_upd]).trans (own_chr_id (hC 3 (by omega)))
              · exact (show (own_upd (own_upd (own_upd (own_upd (own_upd (own_upd (fun _ => 0) 0 (nar .char (G 0))) 1 (nar .char (G 1))) 2 (nar .char (G 2))) 3 (nar .char (G 3))) 4 (nar .char (G 4))) 5 (nar .char (G 5))) 4 = nar .char (G 4) by simp [own_upd]).trans (own_chr_id (hC 4 (by omega)))
              · exact (show (own_upd (own_upd (own_upd (own_upd (own_upd (own_upd (fun _ => 0) 0 (nar .char (G 0))) 1 (nar .char (G 1))) 2 (nar .char (G 2))) 3 (nar .char (G 3))) 4 (nar .char (G 4))) 5 (nar .char (G 5))) 5 = nar .char (G 5) by simp [own_upd]).trans (own_chr_id (hC 5 (by omega)))
            refine own_retA X117 hx hlk hret rfl rfl rfl (hb hby d2_175) (by decide) (by decide) ⟨b87, rfl, N117, ?_⟩
            rw [e117]
            exact ⟨Kc120, sz_b87, own_Y_congr Y117 hkn hch⟩
  · refine own_st ?_ (fun t_ k_ => XS.icmpNo X0.here hx rfl (hb hby d2_2) rfl (flt hc2).2.2.1 k_)
    show own_G p.tables e below _ _ (s₁.setTop (mkF m 5 #[.val (.ref a0), .val (.int p1)] []))
    refine own_st ?_ (fun t_ k_ => XS.iconst X0.here hx rfl (hb hby d2_5) k_)
    show own_G p.tables e below _ _ (s₁.setTop (mkF m 6 #[.val (.ref a0), .val (.int p1)] [(.int (1 : Int32))]))
    obtain ⟨T121, h121, k121, X121, e121, E121, A121, st121⟩ := newP X0 hx hZ (hw _ (List.mem_of_getElem? (i := 1) rfl)) e0 (g := (mkF m 6 #[.val (.ref a0), .val (.int p1)] [(.int (1 : Int32))])) rfl (hb hby d2_6) rfl (by decide) (cap := 1) (by decide) (by decide) (by decide) (by decide)
    obtain ⟨b121, gz121⟩ : ∃ z, z = h0.size := ⟨_, rfl⟩
    rw [← gz121] at A121 st121
    have ne_a0_b121 : a0 ≠ b121 := Nat.ne_of_lt (Nat.lt_of_lt_of_le (own_Y_lt Y0) (Nat.le_of_eq gz121.symm))
    have g_b121 : n0 ≤ b121 := Nat.le_trans Z0 (Nat.le_of_eq gz121.symm)
    have sz_b121 : h0.size ≤ b121 := Nat.le_trans (Keep.refl h0 []).1 (Nat.le_of_eq gz121.symm)
    have F122_P : own_Y .char Z h121 a0 6 G := own_Y_ext Y0 E121
    have Zs123 : n0 ≤ h121.size := Nat.le_trans Z0 E121.1
    have Kc124 : Keep h0 h121 [] := (Keep.refl h0 []).ext E121
    have Y_b121 : own_Y .char Z h121 b121 1 (fun _ => 0) := own_Y_new (Arv.new A121 (by decide)) (by decide)
    refine own_st ?_ st121
    show own_G p.tables e below _ _ (T121.setTop (mkF m 8 #[.val (.ref a0), .val (.int p1)] [(.ref b121)]))
    refine own_st ?_ (fun t_ k_ => XS.dup X121.here hx rfl (hb hby d2_8) rfl rfl k_)
    show own_G p.tables e below _ _ (T121.setTop (mkF m 9 #[.val (.ref a0), .val (.int p1)] [(.ref b121), (.ref b121)]))
    refine own_st ?_ (fun t_ k_ => XS.iconst X121.here hx rfl (hb hby d2_9) k_)
    show own_G p.tables e below _ _ (T121.setTop (mkF m 10 #[.val (.ref a0), .val (.int p1)] [(.int (0 : Int32)), (.ref b121), (.ref b121)]))
    refine own_st ?_ (fun t_ k_ => XS.aloadN X121.here hx rfl (hb hby d2_10) rfl rfl k_)
    show own_G p.tables e below _ _ (T121.setTop (mkF m 11 #[.val (.ref a0), .val (.int p1)] [(.ref a0), (.int (0 : Int32)), (.ref b121), (.ref b121)]))
    refine own_st ?_ (fun t_ k_ => XS.iconst X121.here hx rfl (hb hby d2_11) k_)
    show own_G p.tables e below _ _ (T121.setTop (mkF m 12 #[.val (.ref a0), .val (.int p1)] [(.int (0 : Int32)), (.ref a0), (.int (0 : Int32)), (.ref b121), (.ref b121)]))
    have ix125 := own_ix (j := (0 : Int32)) (k := 0) (n := 6) (by decide) (by decide) (by decide)
    obtain ⟨cl125, Ar125, Sz125, G125⟩ := F122_P
    have hin125 : ¬ ((0 : Int32) < 0 ∨ cl125.slots.size ≤ ((0 : Int32)).toNatClampNeg) := by rw [Sz125]; exact ix125.1
    have hat125 : cl125.slots[((0 : Int32)).toNatClampNeg]? = some (.int (G 0)) := by rw [ix125.2]; exact G125 _ (by decide)
    refine own_st ?_ (X121.caload hx (j := (0 : Int32)) (v := (.int (G 0))) (by rw [e121]; exact Ar125.1) (State.isArrayOf_alike hZ.alike Ar125.2.1) Ar125.2.2 hin125 hat125 (g := (mkF m 12 #[.val (.ref a0), .val (.int p1)] [(.int (0 : Int32)), (.ref a0), (.int (0 : Int32)), (.ref b121), (.ref b121)])) rfl rfl (hb hby d2_12))
    have Yx125 : own_Y .char Z h121 a0 6 G := ⟨cl125, Ar125, Sz125, G125⟩
    show own_G p.tables e below _ _ (T121.setTop (mkF m 13 #[.val (.ref a0), .val (.int p1)] [(.int (G 0)), (.int (0 : Int32)), (.ref b121), (.ref b121)]))
    have ix126 := own_ix (j := (0 : Int32)) (k := 0) (n := 1) (by decide) (by decide) (by decide)
    obtain ⟨cl126, Ar126, Sz126, G126⟩ := Y_b121
    have hin126 : ¬ ((0 : Int32) < 0 ∨ cl126.slots.size ≤ ((0 : Int32)).toNatClampNeg) := by rw [Sz126]; exact ix126.1
    obtain ⟨T126, h126, X126, e126, W126, st126⟩ := stC X121 hx hZ e121 Ar126 (j := (0 : Int32)) hin126 (g := (mkF m 13 #[.val (.ref a0), .val (.int p1)] [(.int (G 0)), (.int (0 : Int32)), (.ref b121), (.ref b121)])) rfl rfl (hb hby d2_13)
    have N126 := Fr.snoc X126 N0 g_b121
    have Yo126 : own_Y .char Z h121 b121 1 (fun _ => 0) := ⟨cl126, Ar126, Sz126, G126⟩
    have F127_P : own_Y .char Z h126 a0 6 G := own_Y_keep Yx125 (Keep.of_wr W126) (ninS ne_a0_b121 nin0)
    have Zs128 : n0 ≤ h126.size := Nat.le_trans Zs123 (Keep.of_wr W126).1
    have Kc129 : Keep h0 h126 [] := Kc124.wr W126 (Or.inr sz_b121)
    have Y126 : own_Y .char Z h126 b121 1 (own_upd (fun _ => 0) 0 (nar .char (G 0))) := own_Y_set Yo126 W126 ix126.2
    refine own_st ?_ st126
    show own_G p.tables e below _ _ (T126.setTop (mkF m 14 #[.val (.ref a0), .val (.int p1)] [(.ref b121)]))
    have q_hc2 : ¬ 1 < n := by rw [hp] at hc2; exact fun z => hc2 ((own_tlt (a := 1) (b := n) (by decide) (by omega)).mpr z)
    have hkn : 1 = n := by omega
    have hch : ∀ i, i < 1 → (own_upd (fun _ => 0) 0 (nar .char (G 0))) i = G i := by
      intro i hi
      have hi' : i = 0 := by omega
      subst hi'
      exact (show (own_upd (fun _ => 0) 0 (nar .char (G 0))) 0 = nar .char (G 0) by simp [own_upd]).trans (own_chr_id (hC 0 (by omega)))
    refine own_retA X126 hx hlk hret rfl rfl rfl (hb hby d2_14) (by decide) (by decide) ⟨b121, rfl, N126, ?_⟩
    rw [e126]
    exact ⟨Kc129, sz_b121, own_Y_congr Y126 hkn hch⟩
theorem pd_27 : parseMethodDescriptor "(Ljava/lang/String;)V" = some ⟨[(.object "java/lang/String")], none⟩ := by decide +kernel
theorem pd_26 : parseMethodDescriptor "([C)V" = some ⟨[(.array .char)], none⟩ := by decide +kernel
theorem pd_25 : parseMethodDescriptor "([CI)[C" = some ⟨[(.array .char), .int], some (.array .char)⟩ := by decide +kernel
theorem pd_24 : parseMethodDescriptor "([CII)I" = some ⟨[(.array .char), .int, .int], some .int⟩ := by decide +kernel
theorem pn_0 : plainName "com/example/supplant/supplant/automata/SymbolIsMultiCharacterPinLaw" = true := by first | (simp [plainName, overriddenIn]; done) | decide +kernel
theorem ef_0 (m : MethodId) (p0 : Int32) (p1 : Int32) (p2 : Int32) (p3 : Int32) : entryFrame m #[(.int p0), (.int p1), (.int p2), (.int p3)] maxLocals = mkF m 0 #[.val (.int p0), .val (.int p1), .val (.int p2), .val (.int p3), .unset, .unset, .unset, .unset, .unset] [] := by first | (simp [entryFrame, mkF, argsToLocals, Value.category, maxLocals]; done) | rfl
set_option maxRecDepth 65536 in
set_option maxHeartbeats 40000000 in
theorem rm0 (l : Launch) (Z : State) (a0 : Array Value) (hw : ∀ d ∈ tables_1, d.before a0 Z = true) (ws : List Jvm.Cond) (p0 : Int32) (p1 : Int32) (p2 : Int32) (p3 : Int32) (z1 : Int32) (fm : Value) (h0 : Heap) (n0 : Nat) (Z0 : n0 ≤ h0.size) (SS : own_SS Z h0 n0 z1 fm) (hz1 : ¬ z1 = 0) (rf_fm : fm.isRef = true) :
    MetFree l x (head1 (Jvm.Cond.code x code maxLocals ret :: ws) room_1) (fun a U => a = #[(.int p0), (.int p1), (.int p2), (.int p3)] ∧ Z.Warmed39 U.vm ∧ U.heap = h0) (fun _ _ _ _ _ => True) (fun _ U o U' => ∃ v L, o = .returned v ∧ own_QL (.int 1) n0 v U'.heap L ∧ ReturnedEndW U o U' L room_1.cells room_1.slots) := by
  refine MetFree.of_bodySF (plainFor_of_name pn_0) hisR ?_
  intro p e s m args below meth c s₁ Bd hml0 hP hK
  obtain ⟨rfl, hZ, hh⟩ := hP
  have hx := Bd.exec
  have hby := Bd.bytes
  have hlk : meth.locks = false := BodyLoose.notSynchronized Bd
  have hret := Bd.returns
  have hml : c.maxLocals = 9 := hml0
  have hown : s.vm.findClass "com/example/supplant/supplant/automata/SymbolIsMultiCharacterPinLaw" = some m.cls := findClass_of_methodNamed Bd.named
  have hnm := (name_of_methodNamed Bd.named Bd.method).1
  have X0 : Stand p l e room_1 (s.setVm s.vm) m #[(.int p0), (.int p1), (.int p2), (.int p3)] below meth c s₁ [] 0 0 := Stand.of_body Bd
  have e0 : s₁.heap = h0 := by rw [← hh, Bd.state]; rfl
  have N0 := Fr.nil n0
  show own_G p.tables e below (own_EW s room_1.cells room_1.slots) (own_QL (.int 1) n0) (s₁.setTop (entryFrame m #[(.int p0), (.int p1), (.int p2), (.int p3)] maxLocals))
  refine own_st ?_ (fun t_ k_ => castTop (ef_0 m p0 p1 p2 p3) k_)
  show own_G p.tables e below _ _ (s₁.setTop (mkF m 0 #[.val (.int p0), .val (.int p1), .val (.int p2), .val (.int p3), .unset, .unset, .unset, .unset, .unset] []))
  have hS0 : s.Since s.vm h0.size := (State.WarmedH.refl s).since _
  have hk0 : h0.size ≤ h0.size := Nat.le_refl _
  refine own_st ?_ (fun t_ k_ => XS.iconst X0.here hx rfl (hb hby at_0) k_)
  show own_G p.tables e below _ _ (s₁.setTop (mkF m 1 #[.val (.int p0), .val (.int p1), .val (.int p2), .val (.int p3), .unset, .unset, .unset, .unset, .unset] [(.int (1 : Int32))]))
  refine own_st ?_ (fun t_ k_ => XS.iloadN X0.here hx rfl (hb hby at_1) rfl k_)
  show own_G p.tables e below _ _ (s₁.setTop (mkF m 2 #[.val (.int p0), .val (.int p1), .val (.int p2), .val (.int p3), .unset, .unset, .unset, .unset, .unset] [(.int p3), (.int (1 : Int32))]))
  refine own_st ?_ (X0.ldcInt hx hown (mvT hZ (hw _ (List.mem_of_getElem? (i := 0) rfl))) (g := (mkF m 2 #[.val (.int p0), .val (.int p1), .val (.int p2), .val (.int p3), .unset, .unset, .unset, .unset, .unset] [(.int p3), (.int (1 : Int32))])) rfl (hb hby at_2))
  show own_G p.tables e below _ _ (s₁.setTop (mkF m 4 #[.val (.int p0), .val (.int p1), .val (.int p2), .val (.int p3), .unset, .unset, .unset, .unset, .unset] [(.int (2147483647 : Int32)), (.int p3), (.int (1 : Int32))]))
  refine own_st ?_ (fun t_ k_ => XS.iand X0.here hx rfl (hb hby at_4) rfl k_)
  show own_G p.tables e below _ _ (s₁.setTop (mkF m 5 #[.val (.int p0), .val (.int p1), .val (.int p2), .val (.int p3), .unset, .unset, .unset, .unset, .unset] [(.int (p3 &&& (2147483647 : Int32))), (.int (1 : Int32))]))
  refine own_st ?_ (fun t_ k_ => XS.iconst X0.here hx rfl (hb hby at_5) k_)
  show own_G p.tables e below _ _ (s₁.setTop (mkF m 6 #[.val (.int p0), .val (.int p1), .val (.int p2), .val (.int p3), .unset, .unset, .unset, .unset, .unset] [(.int (3 : Int32)), (.int (p3 &&& (2147483647 : Int32))), (.int (1 : Int32))]))
  refine own_st ?_ (fun t_ k_ => XS.irem X0.here hx rfl (hb hby at_6) rfl (by decide) k_)
  show own_G p.tables e below _ _ (s₁.setTop (mkF m 7 #[.val (.int p0), .val (.int p1), .val (.int p2), .val (.int p3), .unset, .unset, .unset, .unset, .unset] [(.int ((p3 &&& (2147483647 : Int32)) - ((p3 &&& (2147483647 : Int32)) / (3 : Int32)) * (3 : Int32))), (.int (1 : Int32))]))
  refine own_st ?_ (fun t_ k_ => XS.iadd X0.here hx rfl (hb hby at_7) rfl k_)
  show own_G p.tables e below _ _ (s₁.setTop (mkF m 8 #[.val (.int p0), .val (.int p1), .val (.int p2), .val (.int p3), .unset, .unset, .unset, .unset, .unset] [(.int ((1 : Int32) + ((p3 &&& (2147483647 : Int32)) - ((p3 &&& (2147483647 : Int32)) / (3 : Int32)) * (3 : Int32))))]))
  refine own_st ?_ (fun t_ k_ => XS.istore X0.here hx rfl (hb hby at_8) rfl (l' := #[.val (.int p0), .val (.int p1), .val (.int p2), .val (.int p3), .val (.int ((1 : Int32) + ((p3 &&& (2147483647 : Int32)) - ((p3 &&& (2147483647 : Int32)) / (3 : Int32)) * (3 : Int32)))), .unset, .unset, .unset, .unset]) rfl k_)
  show own_G p.tables e below _ _ (s₁.setTop (mkF m 10 #[.val (.int p0), .val (.int p1), .val (.int p2), .val (.int p3), .val (.int ((1 : Int32) + ((p3 &&& (2147483647 : Int32)) - ((p3 &&& (2147483647 : Int32)) / (3 : Int32)) * (3 : Int32)))), .unset, .unset, .unset, .unset] []))
  have hm := own_m3 p3
  refine own_st ?_ (fun t_ k_ => XS.bipush X0.here hx rfl (hb hby at_10) k_)
  show own_G p.tables e below _ _ (s₁.setTop (mkF m 12 #[.val (.int p0), .val (.int p1), .val (.int p2), .val (.int p3), .val (.int ((1 : Int32) + ((p3 &&& (2147483647 : Int32)) - ((p3 &&& (2147483647 : Int32)) / (3 : Int32)) * (3 : Int32)))), .unset, .unset, .unset, .unset] [(.int (6 : Int32))]))
  obtain ⟨T1, h1, k1, X1, e1, E1, A1, st1⟩ := newP X0 hx hZ (hw _ (List.mem_of_getElem? (i := 1) rfl)) e0 (g := (mkF m 12 #[.val (.int p0), .val (.int p1), .val (.int p2), .val (.int p3), .val (.int ((1 : Int32) + ((p3 &&& (2147483647 : Int32)) - ((p3 &&& (2147483647 : Int32)) / (3 : Int32)) * (3 : Int32)))), .unset, .unset, .unset, .unset] [(.int (6 : Int32))])) rfl (hb hby at_12) rfl (by decide) (cap := 6) (by decide) (by decide) (by decide) (by decide)
  obtain ⟨b1, gz1⟩ : ∃ z, z = h0.size := ⟨_, rfl⟩
  rw [← gz1] at A1 st1
  have g_b1 : n0 ≤ b1 := Nat.le_trans Z0 (Nat.le_of_eq gz1.symm)
  have F2_Z : own_SS Z h1 n0 z1 fm := own_SS_ext SS E1
  have hkc3 := Nat.le_trans hk0 E1.1
  have Zs4 : n0 ≤ h1.size := Nat.le_trans Z0 E1.1
  have Y_b1 : own_Y .char Z h1 b1 6 (fun _ => 0) := own_Y_new (Arv.new A1 (by decide)) (by decide)
  refine own_st ?_ st1
  show own_G p.tables e below _ _ (T1.setTop (mkF m 14 #[.val (.int p0), .val (.int p1), .val (.int p2), .val (.int p3), .val (.int ((1 : Int32) + ((p3 &&& (2147483647 : Int32)) - ((p3 &&& (2147483647 : Int32)) / (3 : Int32)) * (3 : Int32)))), .unset, .unset, .unset, .unset] [(.ref b1)]))
  refine own_st ?_ (fun t_ k_ => XS.astore X1.here hx rfl (hb hby at_14) rfl rfl (l' := #[.val (.int p0), .val (.int p1), .val (.int p2), .val (.int p3), .val (.int ((1 : Int32) + ((p3 &&& (2147483647 : Int32)) - ((p3 &&& (2147483647 : Int32)) / (3 : Int32)) * (3 : Int32)))), .val (.ref b1), .unset, .unset, .unset]) rfl k_)
  show own_G p.tables e below _ _ (T1.setTop (mkF m 16 #[.val (.int p0), .val (.int p1), .val (.int p2), .val (.int p3), .val (.int ((1 : Int32) + ((p3 &&& (2147483647 : Int32)) - ((p3 &&& (2147483647 : Int32)) / (3 : Int32)) * (3 : Int32)))), .val (.ref b1), .unset, .unset, .unset] []))
  refine own_st ?_ (fun t_ k_ => XS.aload X1.here hx rfl (hb hby at_16) rfl rfl k_)
  show own_G p.tables e below _ _ (T1.setTop (mkF m 18 #[.val (.int p0), .val (.int p1), .val (.int p2), .val (.int p3), .val (.int ((1 : Int32) + ((p3 &&& (2147483647 : Int32)) - ((p3 &&& (2147483647 : Int32)) / (3 : Int32)) * (3 : Int32)))), .val (.ref b1), .unset, .unset, .unset] [(.ref b1)]))
  refine own_st ?_ (fun t_ k_ => XS.iconst X1.here hx rfl (hb hby at_18) k_)
  show own_G p.tables e below _ _ (T1.setTop (mkF m 19 #[.val (.int p0), .val (.int p1), .val (.int p2), .val (.int p3), .val (.int ((1 : Int32) + ((p3 &&& (2147483647 : Int32)) - ((p3 &&& (2147483647 : Int32)) / (3 : Int32)) * (3 : Int32)))), .val (.ref b1), .unset, .unset, .unset] [(.int (0 : Int32)), (.ref b1)]))
  refine own_st ?_ (fun t_ k_ => XS.iloadN X1.here hx rfl (hb hby at_19) rfl k_)
  show own_G p.tables e below _ _ (T1.setTop (mkF m 20 #[.val (.int p0), .val (.int p1), .val (.int p2), .val (.int p3), .val (.int ((1 : Int32) + ((p3 &&& (2147483647 : Int32)) - ((p3 &&& (2147483647 : Int32)) / (3 : Int32)) * (3 : Int32)))), .val (.ref b1), .unset, .unset, .unset] [(.int p0), (.int (0 : Int32)), (.ref b1)]))
  obtain ⟨_, _, ⟨T5, L5, k5, n5⟩, -, X5, ⟨Lc5, hQ5, l5, y5, z5⟩, st5⟩ := Jvm.LawKit.callS X1 hx (y := (⟨"com/example/supplant/supplant/automata/SymbolIsMultiCharacterPinLaw", "put", "([CII)I"⟩ : MethodName)) hown (mvT hZ (hw _ (List.mem_of_getElem? (i := 2) rfl))) (mvT hZ (hw _ (List.mem_of_getElem? (i := 3) rfl))) (mvT hZ (hw _ (List.mem_of_getElem? (i := 4) rfl))) (mvT hZ (hw _ (List.mem_of_getElem? (i := 5) rfl))) (by decide) (backOf (W := 0) (rm1 l Z _ hw [] b1 (0 : Int32) p0 ([] : List (Int32 × Option Int32)) (fun _ => 0) h1 n0 Zs4 g_b1 Y_b1 rfl (Nat.le_trans (own_uns_len _).2 (show 2 * 0 ≤ 4 by decide)) (fun i hi => absurd hi (Nat.not_lt_zero i))) hZ (hw _ (List.mem_of_getElem? (i := 5) rfl)) (hw _ (List.mem_of_getElem? (i := 4) rfl)) (by decide) (by decide)) (g := (mkF m 20 #[.val (.int p0), .val (.int p1), .val (.int p2), .val (.int p3), .val (.int ((1 : Int32) + ((p3 &&& (2147483647 : Int32)) - ((p3 &&& (2147483647 : Int32)) / (3 : Int32)) * (3 : Int32)))), .val (.ref b1), .unset, .unset, .unset] [(.int p0), (.int (0 : Int32)), (.ref b1)])) rfl (by rw [hml]; rfl) (argsL := [(.ref b1), (.int (0 : Int32)), (.int p0)]) (rest := []) (lenOf pd_24 rfl) rfl (by show 2 * 0 + _ ≤ _; exact Nat.le_of_eq rfl) (hb hby at_20) (fun _ _ => ⟨rfl, e1, (by decide : 1 + 0 ≤ _), (by decide : 6 + 0 ≤ _)⟩)
  dsimp only [Pt.U, Pt.locs, Pt.cells, Pt.slots] at X5 l5 y5 z5 st5 hQ5
  subst l5 y5 z5
  obtain ⟨rfl, N5q, hq5⟩ := hQ5
  have N5 := Fr.app N0 N5q
  obtain ⟨K5, GG5, Yp5, hG5⟩ := hq5
  have F6_Z : own_SS Z T5.heap n0 z1 fm := own_SS_keep F2_Z K5 (own_alS g_b1 own_al0)
  have hkc7 := Nat.le_trans hkc3 K5.1
  have Zs8 : n0 ≤ T5.heap.size := Nat.le_trans Zs4 K5.1
  refine own_st ?_ st5
  show own_G p.tables e below _ _ (T5.setTop (mkF m 23 #[.val (.int p0), .val (.int p1), .val (.int p2), .val (.int p3), .val (.int ((1 : Int32) + ((p3 &&& (2147483647 : Int32)) - ((p3 &&& (2147483647 : Int32)) / (3 : Int32)) * (3 : Int32)))), .val (.ref b1), .unset, .unset, .unset] [(.int (own_uns (([] : List (Int32 × Option Int32)) ++ [own_sym p0])).length.toInt32)]))
  refine own_st ?_ (fun t_ k_ => XS.istore X5.here hx rfl (hb hby at_23) rfl (l' := #[.val (.int p0), .val (.int p1), .val (.int p2), .val (.int p3), .val (.int ((1 : Int32) + ((p3 &&& (2147483647 : Int32)) - ((p3 &&& (2147483647 : Int32)) / (3 : Int32)) * (3 : Int32)))), .val (.ref b1), .val (.int (own_uns (([] : List (Int32 × Option Int32)) ++ [own_sym p0])).length.toInt32), .unset, .unset]) rfl k_)
  show own_G p.tables e below _ _ (T5.setTop (mkF m 25 #[.val (.int p0), .val (.int p1), .val (.int p2), .val (.int p3), .val (.int ((1 : Int32) + ((p3 &&& (2147483647 : Int32)) - ((p3 &&& (2147483647 : Int32)) / (3 : Int32)) * (3 : Int32)))), .val (.ref b1), .val (.int (own_uns (([] : List (Int32 × Option Int32)) ++ [own_sym p0])).length.toInt32), .unset, .unset] []))
  refine own_st ?_ (fun t_ k_ => XS.iload X5.here hx rfl (hb hby at_25) rfl k_)
  show own_G p.tables e below _ _ (T5.setTop (mkF m 27 #[.val (.int p0), .val (.int p1), .val (.int p2), .val (.int p3), .val (.int ((1 : Int32) + ((p3 &&& (2147483647 : Int32)) - ((p3 &&& (2147483647 : Int32)) / (3 : Int32)) * (3 : Int32)))), .val (.ref b1), .val (.int (own_uns (([] : List (Int32 × Option Int32)) ++ [own_sym p0])).length.toInt32), .unset, .unset] [(.int ((1 : Int32) + ((p3 &&& (2147483647 : Int32)) - ((p3 &&& (2147483647 : Int32)) / (3 : Int32)) * (3 : Int32))))]))
  refine own_st ?_ (fun t_ k_ => XS.iconst X5.here hx rfl (hb hby at_27) k_)
  show own_G p.tables e below _ _ (T5.setTop (mkF m 28 #[.val (.int p0), .val (.int p1), .val (.int p2), .val (.int p3), .val (.int ((1 : Int32) + ((p3 &&& (2147483647 : Int32)) - ((p3 &&& (2147483647 : Int32)) / (3 : Int32)) * (3 : Int32)))), .val (.ref b1), .val (.int (own_uns (([] : List (Int32 × Option Int32)) ++ [own_sym p0])).length.toInt32), .unset, .unset] [(.int (2 : Int32)), (.int ((1 : Int32) + ((p3 &&& (2147483647 : Int32)) - ((p3 &&& (2147483647 : Int32)) / (3 : Int32)) * (3 : Int32))))]))
  by_cases hc28 : ((1 : Int32) + ((p3 &&& (2147483647 : Int32)) - ((p3 &&& (2147483647 : Int32)) / (3 : Int32)) * (3 : Int32))) < (2 : Int32)
  · refine own_st ?_ (fun t_ k_ => XS.icmpYes X5.here hx rfl (pc0 := 28) (pc' := 41) rfl (hb hby at_28) rfl (tlt hc28).1 (by decide) (by decide) k_)
    show own_G p.tables e below _ _ (T5.setTop (mkF m 41 #[.val (.int p0), .val (.int p1), .val (.int p2), .val (.int p3), .val (.int ((1 : Int32) + ((p3 &&& (2147483647 : Int32)) - ((p3 &&& (2147483647 : Int32)) / (3 : Int32)) * (3 : Int32)))), .val (.ref b1), .val (.int (own_uns (([] : List (Int32 × Option Int32)) ++ [own_sym p0])).length.toInt32), .unset, .unset] []))
    refine own_st ?_ (fun t_ k_ => XS.iload X5.here hx rfl (hb hby at_41) rfl k_)
    show own_G p.tables e below _ _ (T5.setTop (mkF m 43 #[.val (.int p0), .val (.int p1), .val (.int p2), .val (.int p3), .val (.int ((1 : Int32) + ((p3 &&& (2147483647 : Int32)) - ((p3 &&& (2147483647 : Int32)) / (3 : Int32)) * (3 : Int32)))), .val (.ref b1), .val (.int (own_uns (([] : List (Int32 × Option Int32)) ++ [own_sym p0])).length.toInt32), .unset, .unset] [(.int ((1 : Int32) + ((p3 &&& (2147483647 : Int32)) - ((p3 &&& (2147483647 : Int32)) / (3 : Int32)) * (3 : Int32))))]))
    refine own_st ?_ (fun t_ k_ => XS.iconst X5.here hx rfl (hb hby at_43) k_)
    show own_G p.tables e below _ _ (T5.setTop (mkF m 44 #[.val (.int p0), .val (.int p1), .val (.int p2), .val (.int p3), .val (.int ((1 : Int32) + ((p3 &&& (2147483647 : Int32)) - ((p3 &&& (2147483647 : Int32)) / (3 : Int32)) * (3 : Int32)))), .val (.ref b1), .val (.int (own_uns (([] : List (Int32 × Option Int32)) ++ [own_sym p0])).length.toInt32), .unset, .unset] [(.int (3 : Int32)), (.int ((1 : Int32) + ((p3 &&& (2147483647 : Int32)) - ((p3 &&& (2147483647 : Int32)) / (3 : Int32)) * (3 : Int32))))]))
    refine own_st ?_ (fun t_ k_ => XS.icmpYes X5.here hx rfl (pc0 := 44) (pc' := 57) rfl (hb hby at_44) rfl (tlt (own_lt23 hc28)).1 (by decide) (by decide) k_)
    show own_G p.tables e below _ _ (T5.setTop (mkF m 57 #[.val (.int p0), .val (.int p1), .val (.int p2), .val (.int p3), .val (.int ((1 : Int32) + ((p3 &&& (2147483647 : Int32)) - ((p3 &&& (2147483647 : Int32)) / (3 : Int32)) * (3 : Int32)))), .val (.ref b1), .val (.int (own_uns (([] : List (Int32 × Option Int32)) ++ [own_sym p0])).length.toInt32), .unset, .unset] []))
    obtain ⟨T9, h9, X9, e9, E9, A9, D9, -, st9⟩ := newO X5 hx hZ hown (hw _ (List.mem_of_getElem? (i := 9) rfl)) (hw _ (List.mem_of_getElem? (i := 10) rfl)) (hw _ (List.mem_of_getElem? (i := 11) rfl)) rfl (g := (mkF m 57 #[.val (.int p0), .val (.int p1), .val (.int p2), .val (.int p3), .val (.int ((1 : Int32) + ((p3 &&& (2147483647 : Int32)) - ((p3 &&& (2147483647 : Int32)) / (3 : Int32)) * (3 : Int32)))), .val (.ref b1), .val (.int (own_uns (([] : List (Int32 × Option Int32)) ++ [own_sym p0])).length.toInt32), .unset, .unset] [])) rfl (hb hby at_57) (by decide) (by decide)
    obtain ⟨b9, gz9⟩ : ∃ z, z = T5.heap.size := ⟨_, rfl⟩
    rw [← gz9] at A9 D9 st9
    have ne_b1_b9 : b1 ≠ b9 := Nat.ne_of_lt (Nat.lt_of_lt_of_le (own_Y_lt Yp5) (Nat.le_of_eq gz9.symm))
    have g_b9 : n0 ≤ b9 := Nat.le_trans Zs8 (Nat.le_of_eq gz9.symm)
    have F10_Z : own_SS Z h9 n0 z1 fm := own_SS_ext F6_Z E9
    have F11_P : own_Y .char Z h9 b1 6 GG5 := own_Y_ext Yp5 E9
    have hkc12 := Nat.le_trans hkc7 E9.1
    have Zs13 : n0 ≤ h9.size := Nat.le_trans Zs8 E9.1
    have F_text_b9 : Fld Z h9 b9 "com/example/supplant/supplant/automata/Symbol" "text" "Ljava/lang/String;" .null := D9 (Or.inr (hw _ (List.mem_of_getElem? (i := 135) rfl))) (ty := (.object "java/lang/String")) (by decide)
    refine own_st ?_ st9
    show own_G p.tables e below _ _ (T9.setTop (mkF m 60 #[.val (.int p0), .val (.int p1), .val (.int p2), .val (.int p3), .val (.int ((1 : Int32) + ((p3 &&& (2147483647 : Int32)) - ((p3 &&& (2147483647 : Int32)) / (3 : Int32)) * (3 : Int32)))), .val (.ref b1), .val (.int (own_uns (([] : List (Int32 × Option Int32)) ++ [own_sym p0])).length.toInt32), .unset, .unset] [(.ref b9)]))
    refine own_st ?_ (fun t_ k_ => XS.dup X9.here hx rfl (hb hby at_60) rfl rfl k_)
    show own_G p.tables e below _ _ (T9.setTop (mkF m 61 #[.val (.int p0), .val (.int p1), .val (.int p2), .val (.int p3), .val (.int ((1 : Int32) + ((p3 &&& (2147483647 : Int32)) - ((p3 &&& (2147483647 : Int32)) / (3 : Int32)) * (3 : Int32)))), .val (.ref b1), .val (.int (own_uns (([] : List (Int32 × Option Int32)) ++ [own_sym p0])).length.toInt32), .unset, .unset] [(.ref b9), (.ref b9)]))
    obtain ⟨T14, h14, X14, e14, E14, A14, D14, -, st14⟩ := newO X9 hx hZ hown (hw _ (List.mem_of_getElem? (i := 12) rfl)) (hw _ (List.mem_of_getElem? (i := 13) rfl)) (hw _ (List.mem_of_getElem? (i := 14) rfl)) e9 (g := (mkF m 61 #[.val (.int p0), .val (.int p1), .val (.int p2), .val (.int p3), .val (.int ((1 : Int32) + ((p3 &&& (2147483647 : Int32)) - ((p3 &&& (2147483647 : Int32)) / (3 : Int32)) * (3 : Int32)))), .val (.ref b1), .val (.int (own_uns (([] : List (Int32 × Option Int32)) ++ [own_sym p0])).length.toInt32), .unset, .unset] [(.ref b9), (.ref b9)])) rfl (hb hby at_61) (by decide) (by decide)
    obtain ⟨b14, gz14⟩ : ∃ z, z = h9.size := ⟨_, rfl⟩
    rw [← gz14] at A14 D14 st14
    have ne_b1_b14 : b1 ≠ b14 := Nat.ne_of_lt (Nat.lt_of_lt_of_le (own_Y_lt F11_P) (Nat.le_of_eq gz14.symm))
    have ne_b9_b14 : b9 ≠ b14 := Nat.ne_of_lt (Nat.lt_of_lt_of_le A9.lt (Nat.le_of_eq gz14.symm))
    have g_b14 : n0 ≤ b14 := Nat.le_trans Zs13 (Nat.le_of_eq gz14.symm)
    have F15_Z : own_SS Z h14 n0 z1 fm := own_SS_ext F10_Z E14
    have F16_P : own_Y .char Z h14 b1 6 GG5 := own_Y_ext F11_P E14
    have F17_E : Exa Z h14 b9 "com/example/supplant/supplant/automata/Symbol" := A9.ext E14
    have F18_text : Fld Z h14 b9 "com/example/supplant/supplant/automata/Symbol" "text" "Ljava/lang/String;" .null := F_text_b9.ext E14
    have hkc19 := Nat.le_trans hkc12 E14.1
    have Zs20 : n0 ≤ h14.size := Nat.le_trans Zs13 E14.1
    have F_coder_b14 : Fld Z h14 b14 "java/lang/String" "coder" "B" (.int (0 : Int32)) := D14 (Or.inr (hw _ (List.mem_of_getElem? (i := 60) rfl))) (ty := .byte) (by decide)
    have F_value_b14 : Fld Z h14 b14 "java/lang/String" "value" "[B" .null := D14 (Or.inr (hw _ (List.mem_of_getElem? (i := 62) rfl))) (ty := (.array .byte)) (by decide)
    refine own_st ?_ st14
    show own_G p.tables e below _ _ (T14.setTop (mkF m 64 #[.val (.int p0), .val (.int p1), .val (.int p2), .val (.int p3), .val (.int ((1 : Int32) + ((p3 &&& (2147483647 : Int32)) - ((p3 &&& (2147483647 : Int32)) / (3 : Int32)) * (3 : Int32)))), .val (.ref b1), .val (.int (own_uns (([] : List (Int32 × Option Int32)) ++ [own_sym p0])).length.toInt32), .unset, .unset] [(.ref b14), (.ref b9), (.ref b9)]))
    refine own_st ?_ (fun t_ k_ => XS.dup X14.here hx rfl (hb hby at_64) rfl rfl k_)
    show own_G p.tables e below _ _ (T14.setTop (mkF m 65 #[.val (.int p0), .val (.int p1), .val (.int p2), .val (.int p3), .val (.int ((1 : Int32) + ((p3 &&& (2147483647 : Int32)) - ((p3 &&& (2147483647 : Int32)) / (3 : Int32)) * (3 : Int32)))), .val (.ref b1), .val (.int (own_uns (([] : List (Int32 × Option Int32)) ++ [own_sym p0])).length.toInt32), .unset, .unset] [(.ref b14), (.ref b14), (.ref b9), (.ref b9)]))
    refine own_st ?_ (fun t_ k_ => XS.aload X14.here hx rfl (hb hby at_65) rfl rfl k_)
    show own_G p.tables e below _ _ (T14.setTop (mkF m 67 #[.val (.int p0), .val (.int p1), .val (.int p2), .val (.int p3), .val (.int ((1 : Int32) + ((p3 &&& (2147483647 : Int32)) - ((p3 &&& (2147483647 : Int32)) / (3 : Int32)) * (3 : Int32)))), .val (.ref b1), .val (.int (own_uns (([] : List (Int32 × Option Int32)) ++ [own_sym p0])).length.toInt32), .unset, .unset] [(.ref b1), (.ref b14), (.ref b14), (.ref b9), (.ref b9)]))
    refine own_st ?_ (fun t_ k_ => XS.iload X14.here hx rfl (hb hby at_67) rfl k_)
    show own_G p.tables e below _ _ (T14.setTop (mkF m 69 #[.val (.int p0), .val (.int p1), .val (.int p2), .val (.int p3), .val (.int ((1 : Int32) + ((p3 &&& (2147483647 : Int32)) - ((p3 &&& (2147483647 : Int32)) / (3 : Int32)) * (3 : Int32)))), .val (.ref b1), .val (.int (own_uns (([] : List (Int32 × Option Int32)) ++ [own_sym p0])).length.toInt32), .unset, .unset] [(.int (own_uns (([] : List (Int32 × Option Int32)) ++ [own_sym p0])).length.toInt32), (.ref b1), (.ref b14), (.ref b14), (.ref b9), (.ref b9)]))
    obtain ⟨_, _, ⟨T21, L21, k21, n21⟩, -, X21, ⟨Lc21, hQ21, l21, y21, z21⟩, st21⟩ := Jvm.LawKit.callS X14 hx (y := (⟨"com/example/supplant/supplant/automata/SymbolIsMultiCharacterPinLaw", "take", "([CI)[C"⟩ : MethodName)) hown (mvT hZ (hw _ (List.mem_of_getElem? (i := 15) rfl))) (mvT hZ (hw _ (List.mem_of_getElem? (i := 16) rfl))) (mvT hZ (hw _ (List.mem_of_getElem? (i := 4) rfl))) (mvT hZ (hw _ (List.mem_of_getElem? (i := 17) rfl))) (by decide) (backOf (W := 4) (rm2 l Z _ hw [] b1 (own_uns (([] : List (Int32 × Option Int32)) ++ [own_sym p0])).length.toInt32 (own_uns (([] : List (Int32 × Option Int32)) ++ [own_sym p0])).length GG5 h14 n0 Zs20 F16_P rfl (own_uns_pos _ _) (Nat.le_trans (own_uns_len _).2 (show 2 * 1 ≤ 6 by decide)) (fun i hi => by rw [hG5 i hi]; exact own_uns_isC _ (own_goodS own_good0 p0) i hi)) hZ (hw _ (List.mem_of_getElem? (i := 17) rfl)) (hw _ (List.mem_of_getElem? (i := 4) rfl)) (by decide) (by decide)) (g := (mkF m 69 #[.val (.int p0), .val (.int p1), .val (.int p2), .val (.int p3), .val (.int ((1 : Int32) + ((p3 &&& (2147483647 : Int32)) - ((p3 &&& (2147483647 : Int32)) / (3 : Int32)) * (3 : Int32)))), .val (.ref b1), .val (.int (own_uns (([] : List (Int32 × Option Int32)) ++ [own_sym p0])).length.toInt32), .unset, .unset] [(.int (own_uns (([] : List (Int32 × Option Int32)) ++ [own_sym p0])).length.toInt32), (.ref b1), (.ref b14), (.ref b14), (.ref b9), (.ref b9)])) rfl (by rw [hml]; rfl) (argsL := [(.ref b1), (.int (own_uns (([] : List (Int32 × Option Int32)) ++ [own_sym p0])).length.toInt32)]) (rest := [(.ref b14), (.ref b14), (.ref b9), (.ref b9)]) (lenOf pd_25 rfl) rfl (by show 2 * 0 + _ ≤ _; exact Nat.le_of_eq rfl) (hb hby at_69) (fun _ _ => ⟨rfl, e14, (by decide : 3 + 1 ≤ _), (by decide : 11 + 6 ≤ _)⟩)
    dsimp only [Pt.U, Pt.locs, Pt.cells, Pt.slots] at X21 l21 y21 z21 st21 hQ21
    subst l21 y21 z21
    obtain ⟨t21, rfl, N21q, hq21⟩ := hQ21
    have N21 := Fr.app N5 N21q
    obtain ⟨K21, hs21, hp21⟩ := hq21
    have g_t21 : n0 ≤ t21 := Nat.le_trans Zs20 hs21
    have ne_b1_t21 : b1 ≠ t21 := Nat.ne_of_lt (Nat.lt_of_lt_of_le (own_Y_lt F16_P) hs21)
    have ne_b9_t21 : b9 ≠ t21 := Nat.ne_of_lt (Nat.lt_of_lt_of_le F17_E.lt hs21)
    have ne_b14_t21 : b14 ≠ t21 := Nat.ne_of_lt (Nat.lt_of_lt_of_le A14.lt hs21)
    have F22_Z : own_SS Z T21.heap n0 z1 fm := own_SS_keep F15_Z K21 own_al0
    have F23_P : own_Y .char Z T21.heap b1 6 GG5 := own_Y_keep F16_P K21 nin0
    have F24_E : Exa Z T21.heap b9 "com/example/supplant/supplant/automata/Symbol" := F17_E.keep K21
    have F25_text : Fld Z T21.heap b9 "com/example/supplant/supplant/automata/Symbol" "text" "Ljava/lang/String;" .null := F18_text.keep K21 nin0
    have F26_E : Exa Z T21.heap b14 "java/lang/String" := A14.keep K21
    have F27_coder : Fld Z T21.heap b14 "java/lang/String" "coder" "B" (.int (0 : Int32)) := F_coder_b14.keep K21 nin0
    have F28_value : Fld Z T21.heap b14 "java/lang/String" "value" "[B" .null := F_value_b14.keep K21 nin0
    have hkc29 := Nat.le_trans hkc19 K21.1
    have Zs30 : n0 ≤ T21.heap.size := Nat.le_trans Zs20 K21.1
    refine own_st ?_ st21
    show own_G p.tables e below _ _ (T21.setTop (mkF m 72 #[.val (.int p0), .val (.int p1), .val (.int p2), .val (.int p3), .val (.int ((1 : Int32) + ((p3 &&& (2147483647 : Int32)) - ((p3 &&& (2147483647 : Int32)) / (3 : Int32)) * (3 : Int32)))), .val (.ref b1), .val (.int (own_uns (([] : List (Int32 × Option Int32)) ++ [own_sym p0])).length.toInt32), .unset, .unset] [(.ref t21), (.ref b14), (.ref b14), (.ref b9), (.ref b9)]))
    obtain ⟨_, _, ⟨T31, L31, k31, n31⟩, -, X31, ⟨Lc31, hQ31, l31, y31, z31⟩, st31⟩ := X21.specialBack hx (y := (⟨"java/lang/String", "<init>", "([C)V"⟩ : MethodName)) rfl hown (mvT hZ (hw _ (List.mem_of_getElem? (i := 18) rfl))) (mvT hZ (hw _ (List.mem_of_getElem? (i := 19) rfl))) (mvT hZ (hw _ (List.mem_of_getElem? (i := 20) rfl))) (by decide) (backOf (W := 3) (rm3 l Z _ hw [] b14 t21 z1 fm (own_uns (([] : List (Int32 × Option Int32)) ++ [own_sym p0])).length GG5 (.int (0 : Int32)) .null T21.heap n0 Zs30 g_b14 F22_Z F26_E F27_coder F28_value hp21 hz1 (own_uns_pos _ _) (Nat.le_trans (own_uns_len _).2 (show 2 * 1 ≤ 6 by decide)) (fun i hi => by rw [hG5 i hi]; exact own_uns_isC _ (own_goodS own_good0 p0) i hi) (Ne.symm ne_b14_t21)) hZ (hw _ (List.mem_of_getElem? (i := 20) rfl)) (hw _ (List.mem_of_getElem? (i := 14) rfl)) (by decide) (by decide)) (g := (mkF m 72 #[.val (.int p0), .val (.int p1), .val (.int p2), .val (.int p3), .val (.int ((1 : Int32) + ((p3 &&& (2147483647 : Int32)) - ((p3 &&& (2147483647 : Int32)) / (3 : Int32)) * (3 : Int32)))), .val (.ref b1), .val (.int (own_uns (([] : List (Int32 × Option Int32)) ++ [own_sym p0])).length.toInt32), .unset, .unset] [(.ref t21), (.ref b14), (.ref b14), (.ref b9), (.ref b9)])) rfl (by rw [hml]; rfl) (Steps.refl _) (a := b14) (argsL := [(.ref t21)]) (rest := [(.ref b14), (.ref b9), (.ref b9)]) (lenOf pd_26 rfl) rfl (by show 2 * 0 + _ ≤ _; exact Nat.le_of_eq rfl) (hb hby at_72) (fun _ _ => ⟨rfl, rfl, (by decide : 4 + 2 ≤ _), (by decide : 17 + 18 ≤ _)⟩)
    dsimp only [Pt.U, Pt.locs, Pt.cells, Pt.slots] at X31 l31 y31 z31 st31 hQ31
    subst l31 y31 z31
    obtain ⟨rfl, N31q, hq31⟩ := hQ31
    have N31 := Fr.app N21 N31q
    obtain ⟨K31, t31, cd31, NN31, gg31, hs31, hne31, Fc31, Fv31, Yb31, hD31⟩ := hq31
    have g_t31 : n0 ≤ t31 := Nat.le_trans Zs30 hs31
    have ne_b1_t31 : b1 ≠ t31 := Nat.ne_of_lt (Nat.lt_of_lt_of_le (own_Y_lt F23_P) hs31)
    have ne_b9_t31 : b9 ≠ t31 := Nat.ne_of_lt (Nat.lt_of_lt_of_le F24_E.lt hs31)
    have ne_t21_t31 : t21 ≠ t31 := Nat.ne_of_lt (Nat.lt_of_lt_of_le (own_Y_lt hp21) hs31)
    have F32_Z : own_SS Z T31.heap n0 z1 fm := own_SS_keep F22_Z K31 (own_alS g_b14 own_al0)
    have F33_P : own_Y .char Z T31.heap b1 6 GG5 := own_Y_keep F23_P K31 (ninS ne_b1_b14 nin0)
    have F34_E : Exa Z T31.heap b9 "com/example/supplant/supplant/automata/Symbol" := F24_E.keep K31
    have F35_text : Fld Z T31.heap b9 "com/example/supplant/supplant/automata/Symbol" "text" "Ljava/lang/String;" .null := F25_text.keep K31 (ninS ne_b9_b14 nin0)
    have F36_E : Exa Z T31.heap b14 "java/lang/String" := F26_E.keep K31
    have F37_P : own_Y .char Z T31.heap t21 (own_uns (([] : List (Int32 × Option Int32)) ++ [own_sym p0])).length GG5 := own_Y_keep hp21 K31 (ninS (Ne.symm ne_b14_t21) nin0)
    have hkc38 := Nat.le_trans hkc29 K31.1
    have Zs39 : n0 ≤ T31.heap.size := Nat.le_trans Zs30 K31.1
    have hT31 : own_T GG5 (own_uns (([] : List (Int32 × Option Int32)) ++ [own_sym p0])).length 0 (([] : List (Int32 × Option Int32)) ++ [own_sym p0]) := ⟨Nat.zero_add _, fun i hi => by rw [Nat.zero_add]; exact hG5 i hi, (own_goodS own_good0 p0)⟩
    refine own_st ?_ (fun t_ k_ => st31.trans k_)
    show own_G p.tables e below _ _ (T31.setTop (mkF m 75 #[.val (.int p0), .val (.int p1), .val (.int p2), .val (.int p3), .val (.int ((1 : Int32) + ((p3 &&& (2147483647 : Int32)) - ((p3 &&& (2147483647 : Int32)) / (3 : Int32)) * (3 : Int32)))), .val (.ref b1), .val (.int (own_uns (([] : List (Int32 × Option Int32)) ++ [own_sym p0])).length.toInt32), .unset, .unset] [(.ref b14), (.ref b9), (.ref b9)]))
    obtain ⟨_, _, ⟨T40, L40, k40, n40⟩, -, X40, hSq40, hgq40, ⟨Lc40, hQ40, l40, y40, z40⟩, st40⟩ := X31.specialBackS hx (y := (⟨"com/example/supplant/supplant/automata/Symbol", "<init>", "(Ljava/lang/String;)V"⟩ : MethodName)) rfl hown (mvT hZ (hw _ (List.mem_of_getElem? (i := 63) rfl))) (mvT hZ (hw _ (List.mem_of_getElem? (i := 64) rfl))) (mvT hZ (hw _ (List.mem_of_getElem? (i := 65) rfl))) (by decide) (backOfS (W := 1) (rm14 l Z _ hw [] b9 b14 z1 fm cd31 t31 (own_uns (([] : List (Int32 × Option Int32)) ++ [own_sym p0])).length NN31 gg31 GG5 (([] : List (Int32 × Option Int32)) ++ [own_sym p0]) .null T31.heap n0 Zs39 g_b9 F32_Z F34_E F35_text F36_E Fc31 Fv31 Yb31 hz1 rf_fm hD31 hT31 (own_uns_pos _ _)) hZ (hw _ (List.mem_of_getElem? (i := 65) rfl)) (hw _ (List.mem_of_getElem? (i := 11) rfl)) (by decide) (by decide)) (g := (mkF m 75 #[.val (.int p0), .val (.int p1), .val (.int p2), .val (.int p3), .val (.int ((1 : Int32) + ((p3 &&& (2147483647 : Int32)) - ((p3 &&& (2147483647 : Int32)) / (3 : Int32)) * (3 : Int32)))), .val (.ref b1), .val (.int (own_uns (([] : List (Int32 × Option Int32)) ++ [own_sym p0])).length.toInt32), .unset, .unset] [(.ref b14), (.ref b9), (.ref b9)])) rfl (by rw [hml]; rfl) (Steps.refl _) (a := b9) (argsL := [(.ref b14)]) (rest := [(.ref b9)]) (lenOf pd_27 rfl) rfl (by show 2 * 0 + _ ≤ _; exact Nat.le_of_eq rfl) (hb hby at_75) (fun _ _ => ⟨rfl, rfl, (by decide : 6 + 2 ≤ _), (by decide : 35 + 100 ≤ _)⟩)
    dsimp only [Pt.U, Pt.locs, Pt.cells, Pt.slots] at X40 l40 y40 z40 st40 hQ40
    subst l40 y40 z40
    dsimp only [Pt.U] at hSq40 hgq40
    obtain ⟨X40, hS40, hZ, hown⟩ := rebS hS0 hkc38 X40 hSq40 hgq40 hZ hown
    have hk40 := Nat.le_refl T40.heap.size
    obtain ⟨rfl, N40q, hq40⟩ := hQ40
    have N40 := Fr.app N31 N40q
    obtain ⟨K40, Ft40⟩ := hq40
    have F41_Z : own_SS Z T40.heap n0 z1 fm := own_SS_keep F32_Z K40 (own_alS g_b9 own_al0)
    have F42_E : Exa Z T40.heap b9 "com/example/supplant/supplant/automata/Symbol" := F34_E.keep K40
    have F43_E : Exa Z T40.heap b14 "java/lang/String" := F36_E.keep K40
    have F44_coder : Fld Z T40.heap b14 "java/lang/String" "coder" "B" (.int cd31) := Fc31.keep K40 (ninS (Ne.symm ne_b9_b14) nin0)
    have F45_value : Fld Z T40.heap b14 "java/lang/String" "value" "[B" (.ref t31) := Fv31.keep K40 (ninS (Ne.symm ne_b9_b14) nin0)
    have F46_P : own_Y .byte Z T40.heap t31 NN31 gg31 := own_Y_keep Yb31 K40 (ninS (Ne.symm ne_b9_t31) nin0)
    have hkc47 := Nat.le_trans hkc38 K40.1
    have Zs48 : n0 ≤ T40.heap.size := Nat.le_trans Zs39 K40.1
    refine own_st ?_ (fun t_ k_ => st40.trans k_)
    show own_G p.tables e below _ _ (T40.setTop (mkF m 78 #[.val (.int p0), .val (.int p1), .val (.int p2), .val (.int p3), .val (.int ((1 : Int32) + ((p3 &&& (2147483647 : Int32)) - ((p3 &&& (2147483647 : Int32)) / (3 : Int32)) * (3 : Int32)))), .val (.ref b1), .val (.int (own_uns (([] : List (Int32 × Option Int32)) ++ [own_sym p0])).length.toInt32), .unset, .unset] [(.ref b9)]))
    refine own_st ?_ (fun t_ k_ => XS.astore X40.here hx rfl (hb hby at_78) rfl rfl (l' := #[.val (.int p0), .val (.int p1), .val (.int p2), .val (.int p3), .val (.int ((1 : Int32) + ((p3 &&& (2147483647 : Int32)) - ((p3 &&& (2147483647 : Int32)) / (3 : Int32)) * (3 : Int32)))), .val (.ref b1), .val (.int (own_uns (([] : List (Int32 × Option Int32)) ++ [own_sym p0])).length.toInt32), .val (.ref b9), .unset]) rfl k_)
    show own_G p.tables e below _ _ (T40.setTop (mkF m 80 #[.val (.int p0), .val (.int p1), .val (.int p2), .val (.int p3), .val (.int ((1 : Int32) + ((p3 &&& (2147483647 : Int32)) - ((p3 &&& (2147483647 : Int32)) / (3 : Int32)) * (3 : Int32)))), .val (.ref b1), .val (.int (own_uns (([] : List (Int32 × Option Int32)) ++ [own_sym p0])).length.toInt32), .val (.ref b9), .unset] []))
    refine own_st ?_ (fun t_ k_ => XS.iload X40.here hx rfl (hb hby at_80) rfl k_)
    show own_G p.tables e below _ _ (T40.setTop (mkF m 82 #[.val (.int p0), .val (.int p1), .val (.int p2), .val (.int p3), .val (.int ((1 : Int32) + ((p3 &&& (2147483647 : Int32)) - ((p3 &&& (2147483647 : Int32)) / (3 : Int32)) * (3 : Int32)))), .val (.ref b1), .val (.int (own_uns (([] : List (Int32 × Option Int32)) ++ [own_sym p0])).length.toInt32), .val (.ref b9), .unset] [(.int ((1 : Int32) + ((p3 &&& (2147483647 : Int32)) - ((p3 &&& (2147483647 : Int32)) / (3 : Int32)) * (3 : Int32))))]))
    refine own_st ?_ (fun t_ k_ => XS.iconst X40.here hx rfl (hb hby at_82) k_)
    show own_G p.tables e below _ _ (T40.setTop (mkF m 83 #[.val (.int p0), .val (.int p1), .val (.int p2), .val (.int p3), .val (.int ((1 : Int32) + ((p3 &&& (2147483647 : Int32)) - ((p3 &&& (2147483647 : Int32)) / (3 : Int32)) * (3 : Int32)))), .val (.ref b1), .val (.int (own_uns (([] : List (Int32 × Option Int32)) ++ [own_sym p0])).length.toInt32), .val (.ref b9), .unset] [(.int (1 : Int32)), (.int ((1 : Int32) + ((p3 &&& (2147483647 : Int32)) - ((p3 &&& (2147483647 : Int32)) / (3 : Int32)) * (3 : Int32))))]))
    refine own_st ?_ (fun t_ k_ => XS.icmpYes X40.here hx rfl (pc0 := 83) (pc' := 90) rfl (hb hby at_83) rfl (flt (own_n1 hm hc28)).2.2.2 (by decide) (by decide) k_)
    show own_G p.tables e below _ _ (T40.setTop (mkF m 90 #[.val (.int p0), .val (.int p1), .val (.int p2), .val (.int p3), .val (.int ((1 : Int32) + ((p3 &&& (2147483647 : Int32)) - ((p3 &&& (2147483647 : Int32)) / (3 : Int32)) * (3 : Int32)))), .val (.ref b1), .val (.int (own_uns (([] : List (Int32 × Option Int32)) ++ [own_sym p0])).length.toInt32), .val (.ref b9), .unset] []))
    refine own_st ?_ (fun t_ k_ => XS.iconst X40.here hx rfl (hb hby at_90) k_)
    show own_G p.tables e below _ _ (T40.setTop (mkF m 91 #[.val (.int p0), .val (.int p1), .val (.int p2), .val (.int p3), .val (.int ((1 : Int32) + ((p3 &&& (2147483647 : Int32)) - ((p3 &&& (2147483647 : Int32)) / (3 : Int32)) * (3 : Int32)))), .val (.ref b1), .val (.int (own_uns (([] : List (Int32 × Option Int32)) ++ [own_sym p0])).length.toInt32), .val (.ref b9), .unset] [(.int (0 : Int32))]))
    refine own_st ?_ (fun t_ k_ => XS.istore X40.here hx rfl (hb hby at_91) rfl (l' := #[.val (.int p0), .val (.int p1), .val (.int p2), .val (.int p3), .val (.int ((1 : Int32) + ((p3 &&& (2147483647 : Int32)) - ((p3 &&& (2147483647 : Int32)) / (3 : Int32)) * (3 : Int32)))), .val (.ref b1), .val (.int (own_uns (([] : List (Int32 × Option Int32)) ++ [own_sym p0])).length.toInt32), .val (.ref b9), .val (.int (0 : Int32))]) rfl k_)
    show own_G p.tables e below _ _ (T40.setTop (mkF m 93 #[.val (.int p0), .val (.int p1), .val (.int p2), .val (.int p3), .val (.int ((1 : Int32) + ((p3 &&& (2147483647 : Int32)) - ((p3 &&& (2147483647 : Int32)) / (3 : Int32)) * (3 : Int32)))), .val (.ref b1), .val (.int (own_uns (([] : List (Int32 × Option Int32)) ++ [own_sym p0])).length.toInt32), .val (.ref b9), .val (.int (0 : Int32))] []))
    refine own_st ?_ (fun t_ k_ => XS.aload X40.here hx rfl (hb hby at_93) rfl rfl k_)
    show own_G p.tables e below _ _ (T40.setTop (mkF m 95 #[.val (.int p0), .val (.int p1), .val (.int p2), .val (.int p3), .val (.int ((1 : Int32) + ((p3 &&& (2147483647 : Int32)) - ((p3 &&& (2147483647 : Int32)) / (3 : Int32)) * (3 : Int32)))), .val (.ref b1), .val (.int (own_uns (([] : List (Int32 × Option Int32)) ++ [own_sym p0])).length.toInt32), .val (.ref b9), .val (.int (0 : Int32))] [(.ref b9)]))
    obtain ⟨cq49, kq49, q49a, q49b, q49c⟩ := isOf hZ rfl F42_E
    obtain ⟨_, _, ⟨T49, L49, k49, n49⟩, -, X49, ⟨Lc49, hQ49, l49, y49, z49⟩, st49⟩ := X40.virtualBack hx (y := (⟨"com/example/supplant/supplant/automata/Symbol", "isMultiCharacter", "()Z"⟩ : MethodName)) (z := (⟨"com/example/supplant/supplant/automata/Symbol", "isMultiCharacter", "()Z"⟩ : MethodName)) hown (mvT hZ (hw _ (List.mem_of_getElem? (i := 136) rfl))) (mvT hZ (hw _ (List.mem_of_getElem? (i := 137) rfl))) (notFace_of_selects (args := #[]) (mvT hZ (hw _ (List.mem_of_getElem? (i := 139) rfl)))) (mvT hZ (hw _ (List.mem_of_getElem? (i := 139) rfl))) (mvT hZ (hw _ (List.mem_of_getElem? (i := 138) rfl))) (by decide) (backOf (W := 0) (rm30 l Z _ hw [] b9 z1 fm cd31 t31 (own_uns (([] : List (Int32 × Option Int32)) ++ [own_sym p0])).length NN31 gg31 GG5 b14 (([] : List (Int32 × Option Int32)) ++ [own_sym p0]) (0 : Int32) T40.heap n0 Zs48 F41_Z Ft40 F43_E F44_coder F45_value F46_P hz1 hD31 hT31 (show own_mc 1 = (0 : Int32) by decide)) hZ (hw _ (List.mem_of_getElem? (i := 140) rfl)) (hw _ (List.mem_of_getElem? (i := 11) rfl)) (by decide) (by decide)) q49a q49c (g := (mkF m 95 #[.val (.int p0), .val (.int p1), .val (.int p2), .val (.int p3), .val (.int ((1 : Int32) + ((p3 &&& (2147483647 : Int32)) - ((p3 &&& (2147483647 : Int32)) / (3 : Int32)) * (3 : Int32)))), .val (.ref b1), .val (.int (own_uns (([] : List (Int32 × Option Int32)) ++ [own_sym p0])).length.toInt32), .val (.ref b9), .val (.int (0 : Int32))] [(.ref b9)])) rfl (by rw [hml]; rfl) (Steps.refl _) (argsL := []) (rest := []) (lenOf pd_5 rfl) rfl (by show 2 * 0 + _ ≤ _; exact Nat.le_of_eq rfl) (hb hby at_95) (fun _ _ => ⟨rfl, rfl, (by decide : 8 + 0 ≤ _), (by decide : 135 + 0 ≤ _)⟩)
    dsimp only [Pt.U, Pt.locs, Pt.cells, Pt.slots] at X49 l49 y49 z49 st49 hQ49
    subst l49 y49 z49
    obtain ⟨rfl, N49q, e49⟩ := hQ49
    have N49 := Fr.app N40 N49q
    refine own_st ?_ (fun t_ k_ => st49.trans k_)
    show own_G p.tables e below _ _ (T49.setTop (mkF m 98 #[.val (.int p0), .val (.int p1), .val (.int p2), .val (.int p3), .val (.int ((1 : Int32) + ((p3 &&& (2147483647 : Int32)) - ((p3 &&& (2147483647 : Int32)) / (3 : Int32)) * (3 : Int32)))), .val (.ref b1), .val (.int (own_uns (([] : List (Int32 × Option Int32)) ++ [own_sym p0])).length.toInt32), .val (.ref b9), .val (.int (0 : Int32))] [(.int (0 : Int32))]))
    refine own_st ?_ (fun t_ k_ => XS.iload X49.here hx rfl (hb hby at_98) rfl k_)
    show own_G p.tables e below _ _ (T49.setTop (mkF m 100 #[.val (.int p0), .val (.int p1), .val (.int p2), .val (.int p3), .val (.int ((1 : Int32) + ((p3 &&& (2147483647 : Int32)) - ((p3 &&& (2147483647 : Int32)) / (3 : Int32)) * (3 : Int32)))), .val (.ref b1), .val (.int (own_uns (([] : List (Int32 × Option Int32)) ++ [own_sym p0])).length.toInt32), .val (.ref b9), .val (.int (0 : Int32))] [(.int (0 : Int32)), (.int (0 : Int32))]))
    refine own_st ?_ (fun t_ k_ => XS.icmpNo X49.here hx rfl (hb hby at_100) rfl (teq (by decide : (0 : Int32) = (0 : Int32))).2 k_)
    show own_G p.tables e below _ _ (T49.setTop (mkF m 103 #[.val (.int p0), .val (.int p1), .val (.int p2), .val (.int p3), .val (.int ((1 : Int32) + ((p3 &&& (2147483647 : Int32)) - ((p3 &&& (2147483647 : Int32)) / (3 : Int32)) * (3 : Int32)))), .val (.ref b1), .val (.int (own_uns (([] : List (Int32 × Option Int32)) ++ [own_sym p0])).length.toInt32), .val (.ref b9), .val (.int (0 : Int32))] []))
    refine own_st ?_ (fun t_ k_ => XS.iconst X49.here hx rfl (hb hby at_103) k_)
    show own_G p.tables e below _ _ (T49.setTop (mkF m 104 #[.val (.int p0), .val (.int p1), .val (.int p2), .val (.int p3), .val (.int ((1 : Int32) + ((p3 &&& (2147483647 : Int32)) - ((p3 &&& (2147483647 : Int32)) / (3 : Int32)) * (3 : Int32)))), .val (.ref b1), .val (.int (own_uns (([] : List (Int32 × Option Int32)) ++ [own_sym p0])).length.toInt32), .val (.ref b9), .val (.int (0 : Int32))] [(.int (1 : Int32))]))
    refine own_st ?_ (fun t_ k_ => XS.goto X49.here hx rfl (pc0 := 104) (pc' := 108) rfl (hb hby at_104) (by decide) (by decide) k_)
    show own_G p.tables e below _ _ (T49.setTop (mkF m 108 #[.val (.int p0), .val (.int p1), .val (.int p2), .val (.int p3), .val (.int ((1 : Int32) + ((p3 &&& (2147483647 : Int32)) - ((p3 &&& (2147483647 : Int32)) / (3 : Int32)) * (3 : Int32)))), .val (.ref b1), .val (.int (own_uns (([] : List (Int32 × Option Int32)) ++ [own_sym p0])).length.toInt32), .val (.ref b9), .val (.int (0 : Int32))] [(.int (1 : Int32))]))
    exact own_retNW X49 hx hlk hS40 (by rw [e49]; exact hk40) (t := .boolean) hret (by simp) (hb hby at_108) (by decide) (by decide) (z' := (1 : Int32)) rfl ⟨rfl, N49⟩
  · refine own_st ?_ (fun t_ k_ => XS.icmpNo X5.here hx rfl (hb hby at_28) rfl (flt hc28).1 k_)
    show own_G p.tables e below _ _ (T5.setTop (mkF m 31 #[.val (.int p0), .val (.int p1), .val (.int p2), .val (.int p3), .val (.int ((1 : Int32) + ((p3 &&& (2147483647 : Int32)) - ((p3 &&& (2147483647 : Int32)) / (3 : Int32)) * (3 : Int32)))), .val (.ref b1), .val (.int (own_uns (([] : List (Int32 × Option Int32)) ++ [own_sym p0])).length.toInt32), .unset, .unset] []))
    refine own_st ?_ (fun t_ k_ => XS.aload X5.here hx rfl (hb hby at_31) rfl rfl k_)
    show own_G p.tables e below _ _ (T5.setTop (mkF m 33 #[.val (.int p0), .val (.int p1), .val (.int p2), .val (.int p3), .val (.int ((1 : Int32) + ((p3 &&& (2147483647 : Int32)) - ((p3 &&& (2147483647 : Int32)) / (3 : Int32)) * (3 : Int32)))), .val (.ref b1), .val (.int (own_uns (([] : List (Int32 × Option Int32)) ++ [own_sym p0])).length.toInt32), .unset, .unset] [(.ref b1)]))
    refine own_st ?_ (fun t_ k_ => XS.iload X5.here hx rfl (hb hby at_33) rfl k_)
    show own_G p.tables e below _ _ (T5.setTop (mkF m 35 #[.val (.int p0), .val (.int p1), .val (.int p2), .val (.int p3), .val (.int ((1 : Int32) + ((p3 &&& (2147483647 : Int32)) - ((p3 &&& (2147483647 : Int32)) / (3 : Int32)) * (3 : Int32)))), .val (.ref b1), .val (.int (own_uns (([] : List (Int32 × Option Int32)) ++ [own_sym p0])).length.toInt32), .unset, .unset] [(.int (own_uns (([] : List (Int32 × Option Int32)) ++ [own_sym p0])).length.toInt32), (.ref b1)]))
    refine own_st ?_ (fun t_ k_ => XS.iloadN X5.here hx rfl (hb hby at_35) rfl k_)
    show own_G p.tables e below _ _ (T5.setTop (mkF m 36 #[.val (.int p0), .val (.int p1), .val (.int p2), .val (.int p3), .val (.int ((1 : Int32) + ((p3 &&& (2147483647 : Int32)) - ((p3 &&& (2147483647 : Int32)) / (3 : Int32)) * (3 : Int32)))), .val (.ref b1), .val (.int (own_uns (([] : List (Int32 × Option Int32)) ++ [own_sym p0])).length.toInt32), .unset, .unset] [(.int p1), (.int (own_uns (([] : List (Int32 × Option Int32)) ++ [own_sym p0])).length.toInt32), (.ref b1)]))
    obtain ⟨_, _, ⟨T50, L50, k50, n50⟩, -, X50, ⟨Lc50, hQ50, l50, y50, z50⟩, st50⟩ := Jvm.LawKit.callS X5 hx (y := (⟨"com/example/supplant/supplant/automata/SymbolIsMultiCharacterPinLaw", "put", "([CII)I"⟩ : MethodName)) hown (mvT hZ (hw _ (List.mem_of_getElem? (i := 2) rfl))) (mvT hZ (hw _ (List.mem_of_getElem? (i := 3) rfl))) (mvT hZ (hw _ (List.mem_of_getElem? (i := 4) rfl))) (mvT hZ (hw _ (List.mem_of_getElem? (i := 5) rfl))) (by decide) (backOf (W := 0) (rm1 l Z _ hw [] b1 (own_uns (([] : List (Int32 × Option Int32)) ++ [own_sym p0])).length.toInt32 p1 (([] : List (Int32 × Option Int32)) ++ [own_sym p0]) GG5 T5.heap n0 Zs8 g_b1 Yp5 rfl (Nat.le_trans (own_uns_len _).2 (show 2 * 1 ≤ 4 by decide)) hG5) hZ (hw _ (List.mem_of_getElem? (i := 5) rfl)) (hw _ (List.mem_of_getElem? (i := 4) rfl)) (by decide) (by decide)) (g := (mkF m 36 #[.val (.int p0), .val (.int p1), .val (.int p2), .val (.int p3), .val (.int ((1 : Int32) + ((p3 &&& (2147483647 : Int32)) - ((p3 &&& (2147483647 : Int32)) / (3 : Int32)) * (3 : Int32)))), .val (.ref b1), .val (.int (own_uns (([] : List (Int32 × Option Int32)) ++ [own_sym p0])).length.toInt32), .unset, .unset] [(.int p1), (.int (own_uns (([] : List (Int32 × Option Int32)) ++ [own_sym p0])).length.toInt32), (.ref b1)])) rfl (by rw [hml]; rfl) (argsL := [(.ref b1), (.int (own_uns (([] : List (Int32 × Option Int32)) ++ [own_sym p0])).length.toInt32), (.int p1)]) (rest := []) (lenOf pd_24 rfl) rfl (by show 2 * 0 + _ ≤ _; exact Nat.le_of_eq rfl) (hb hby at_36) (fun _ _ => ⟨rfl, rfl, (by decide : 1 + 0 ≤ _), (by decide : 6 + 0 ≤ _)⟩)
    dsimp only [Pt.U, Pt.locs, Pt.cells, Pt.slots] at X50 l50 y50 z50 st50 hQ50
    subst l50 y50 z50
    obtain ⟨rfl, N50q, hq50⟩ := hQ50
    have N50 := Fr.app N5 N50q
    obtain ⟨K50, GG50, Yp50, hG50⟩ := hq50
    have F51_Z : own_SS Z T50.heap n0 z1 fm := own_SS_keep F6_Z K50 (own_alS g_b1 own_al0)
    have hkc52 := Nat.le_trans hkc7 K50.1
    have Zs53 : n0 ≤ T50.heap.size := Nat.le_trans Zs8 K50.1
    refine own_st ?_ st50
    show own_G p.tables e below _ _ (T50.setTop (mkF m 39 #[.val (.int p0), .val (.int p1), .val (.int p2), .val (.int p3), .val (.int ((1 : Int32) + ((p3 &&& (2147483647 : Int32)) - ((p3 &&& (2147483647 : Int32)) / (3 : Int32)) * (3 : Int32)))), .val (.ref b1), .val (.int (own_uns (([] : List (Int32 × Option Int32)) ++ [own_sym p0])).length.toInt32), .unset, .unset] [(.int (own_uns ((([] : List (Int32 × Option Int32)) ++ [own_sym p0]) ++ [own_sym p1])).length.toInt32)]))
    refine own_st ?_ (fun t_ k_ => XS.istore X50.here hx rfl (hb hby at_39) rfl (l' := #[.val (.int p0), .val (.int p1), .val (.int p2), .val (.int p3), .val (.int ((1 : Int32) + ((p3 &&& (2147483647 : Int32)) - ((p3 &&& (2147483647 : Int32)) / (3 : Int32)) * (3 : Int32)))), .val (.ref b1), .val (.int (own_uns ((([] : List (Int32 × Option Int32)) ++ [own_sym p0]) ++ [own_sym p1])).length.toInt32), .unset, .unset]) rfl k_)
    show own_G p.tables e below _ _ (T50.setTop (mkF m 41 #[.val (.int p0), .val (.int p1), .val (.int p2), .val (.int p3), .val (.int ((1 : Int32) + ((p3 &&& (2147483647 : Int32)) - ((p3 &&& (2147483647 : Int32)) / (3 : Int32)) * (3 : Int32)))), .val (.ref b1), .val (.int (own_uns ((([] : List (Int32 × Option Int32)) ++ [own_sym p0]) ++ [own_sym p1])).length.toInt32), .unset, .unset] []))
    refine own_st ?_ (fun t_ k_ => XS.iload X50.here hx rfl (hb hby at_41) rfl k_)
    show own_G p.tables e below _ _ (T50.setTop (mkF m 43 #[.val (.int p0), .val (.int p1), .val (.int p2), .val (.int p3), .val (.int ((1 : Int32) + ((p3 &&& (2147483647 : Int32)) - ((p3 &&& (2147483647 : Int32)) / (3 : Int32)) * (3 : Int32)))), .val (.ref b1), .val (.int (own_uns ((([] : List (Int32 × Option Int32)) ++ [own_sym p0]) ++ [own_sym p1])).length.toInt32), .unset, .unset] [(.int ((1 : Int32) + ((p3 &&& (2147483647 : Int32)) - ((p3 &&& (2147483647 : Int32)) / (3 : Int32)) * (3 : Int32))))]))
    refine own_st ?_ (fun t_ k_ => XS.iconst X50.here hx rfl (hb hby at_43) k_)
    show own_G p.tables e below _ _ (T50.setTop (mkF m 44 #[.val (.int p0), .val (.int p1), .val (.int p2), .val (.int p3), .val (.int ((1 : Int32) + ((p3 &&& (2147483647 : Int32)) - ((p3 &&& (2147483647 : Int32)) / (3 : Int32)) * (3 : Int32)))), .val (.ref b1), .val (.int (own_uns ((([] : List (Int32 × Option Int32)) ++ [own_sym p0]) ++ [own_sym p1])).length.toInt32), .unset, .unset] [(.int (3 : Int32)), (.int ((1 : Int32) + ((p3 &&& (2147483647 : Int32)) - ((p3 &&& (2147483647 : Int32)) / (3 : Int32)) * (3 : Int32))))]))
    by_cases hc44 : ((1 : Int32) + ((p3 &&& (2147483647 : Int32)) - ((p3 &&& (2147483647 : Int32)) / (3 : Int32)) * (3 : Int32))) < (3 : Int32)
    · refine own_st ?_ (fun t_ k_ => XS.icmpYes X50.here hx rfl (pc0 := 44) (pc' := 57) rfl (hb hby at_44) rfl (tlt hc44).1 (by decide) (by decide) k_)
      show own_G p.tables e below _ _ (T50.setTop (mkF m 57 #[.val (.int p0), .val (.int p1), .val (.int p2), .val (.int p3), .val (.int ((1 : Int32) + ((p3 &&& (2147483647 : Int32)) - ((p3 &&& (2147483647 : Int32)) / (3 : Int32)) * (3 : Int32)))), .val (.ref b1), .val (.int (own_uns ((([] : List (Int32 × Option Int32)) ++ [own_sym p0]) ++ [own_sym p1])).length.toInt32), .unset, .unset] []))
      obtain ⟨T54, h54, X54, e54, E54, A54, D54, -, st54⟩ := newO X50 hx hZ hown (hw _ (List.mem_of_getElem? (i := 9) rfl)) (hw _ (List.mem_of_getElem? (i := 10) rfl)) (hw _ (List.mem_of_getElem? (i := 11) rfl)) rfl (g := (mkF m 57 #[.val (.int p0), .val (.int p1), .val (.int p2), .val (.int p3), .val (.int ((1 : Int32) + ((p3 &&& (2147483647 : Int32)) - ((p3 &&& (2147483647 : Int32)) / (3 : Int32)) * (3 : Int32)))), .val (.ref b1), .val (.int (own_uns ((([] : List (Int32 × Option Int32)) ++ [own_sym p0]) ++ [own_sym p1])).length.toInt32), .unset, .unset] [])) rfl (hb hby at_57) (by decide) (by decide)
      obtain ⟨b54, gz54⟩ : ∃ z, z = T50.heap.size := ⟨_, rfl⟩
      rw [← gz54] at A54 D54 st54
      have ne_b1_b54 : b1 ≠ b54 := Nat.ne_of_lt (Nat.lt_of_lt_of_le (own_Y_lt Yp50) (Nat.le_of_eq gz54.symm))
      have g_b54 : n0 ≤ b54 := Nat.le_trans Zs53 (Nat.le_of_eq gz54.symm)
      have F55_Z : own_SS Z h54 n0 z1 fm := own_SS_ext F51_Z E54
      have F56_P : own_Y .char Z h54 b1 6 GG50 := own_Y_ext Yp50 E54
      have hkc57 := Nat.le_trans hkc52 E54.1
      have Zs58 : n0 ≤ h54.size := Nat.le_trans Zs53 E54.1
      have F_text_b54 : Fld Z h54 b54 "com/example/supplant/supplant/automata/Symbol" "text" "Ljava/lang/String;" .null := D54 (Or.inr (hw _ (List.mem_of_getElem? (i := 135) rfl))) (ty := (.object "java/lang/String")) (by decide)
      refine own_st ?_ st54
      show own_G p.tables e below _ _ (T54.setTop (mkF m 60 #[.val (.int p0), .val (.int p1), .val (.int p2), .val (.int p3), .val (.int ((1 : Int32) + ((p3 &&& (2147483647 : Int32)) - ((p3 &&& (2147483647 : Int32)) / (3 : Int32)) * (3 : Int32)))), .val (.ref b1), .val (.int (own_uns ((([] : List (Int32 × Option Int32)) ++ [own_sym p0]) ++ [own_sym p1])).length.toInt32), .unset, .unset] [(.ref b54)]))
      refine own_st ?_ (fun t_ k_ => XS.dup X54.here hx rfl (hb hby at_60) rfl rfl k_)
      show own_G p.tables e below _ _ (T54.setTop (mkF m 61 #[.val (.int p0), .val (.int p1), .val (.int p2), .val (.int p3), .val (.int ((1 : Int32) + ((p3 &&& (2147483647 : Int32)) - ((p3 &&& (2147483647 : Int32)) / (3 : Int32)) * (3 : Int32)))), .val (.ref b1), .val (.int (own_uns ((([] : List (Int32 × Option Int32)) ++ [own_sym p0]) ++ [own_sym p1])).length.toInt32), .unset, .unset] [(.ref b54), (.ref b54)]))
      obtain ⟨T59, h59, X59, e59, E59, A59, D59, -, st59⟩ := newO X54 hx hZ hown (hw _ (List.mem_of_getElem? (i := 12) rfl)) (hw _ (List.mem_of_getElem? (i := 13) rfl)) (hw _ (List.mem_of_getElem? (i := 14) rfl)) e54 (g := (mkF m 61 #[.val (.int p0), .val (.int p1), .val (.int p2), .val (.int p3), .val (.int ((1 : Int32) + ((p3 &&& (2147483647 : Int32)) - ((p3 &&& (2147483647 : Int32)) / (3 : Int32)) * (3 : Int32)))), .val (.ref b1), .val (.int (own_uns ((([] : List (Int32 × Option Int32)) ++ [own_sym p0]) ++ [own_sym p1])).length.toInt32), .unset, .unset] [(.ref b54), (.ref b54)])) rfl (hb hby at_61) (by decide) (by decide)
      obtain ⟨b59, gz59⟩ : ∃ z, z = h54.size := ⟨_, rfl⟩
      rw [← gz59] at A59 D59 st59
      have ne_b1_b59 : b1 ≠ b59 := Nat.ne_of_lt (Nat.lt_of_lt_of_le (own_Y_lt F56_P) (Nat.le_of_eq gz59.symm))
      have ne_b54_b59 : b54 ≠ b59 := Nat.ne_of_lt (Nat.lt_of_lt_of_le A54.lt (Nat.le_of_eq gz59.symm))
      have g_b59 : n0 ≤ b59 := Nat.le_trans Zs58 (Nat.le_of_eq gz59.symm)
      have F60_Z : own_SS Z h59 n0 z1 fm := own_SS_ext F55_Z E59
      have F61_P : own_Y .char Z h59 b1 6 GG50 := own_Y_ext F56_P E59
      have F62_E : Exa Z h59 b54 "com/example/supplant/supplant/automata/Symbol" := A54.ext E59
      have F63_text : Fld Z h59 b54 "com/example/supplant/supplant/automata/Symbol" "text" "Ljava/lang/String;" .null := F_text_b54.ext E59
      have hkc64 := Nat.le_trans hkc57 E59.1
      have Zs65 : n0 ≤ h59.size := Nat.le_trans Zs58 E59.1
      have F_coder_b59 : Fld Z h59 b59 "java/lang/String" "coder" "B" (.int (0 : Int32)) := D59 (Or.inr (hw _ (List.mem_of_getElem? (i := 60) rfl))) (ty := .byte) (by decide)
      have F_value_b59 : Fld Z h59 b59 "java/lang/String" "value" "[B" .null := D59 (Or.inr (hw _ (List.mem_of_getElem? (i := 62) rfl))) (ty := (.array .byte)) (by decide)
      refine own_st ?_ st59
      show own_G p.tables e below _ _ (T59.setTop (mkF m 64 #[.val (.int p0), .val (.int p1), .val (.int p2), .val (.int p3), .val (.int ((1 : Int32) + ((p3 &&& (2147483647 : Int32)) - ((p3 &&& (2147483647 : Int32)) / (3 : Int32)) * (3 : Int32)))), .val (.ref b1), .val (.int (own_uns ((([] : List (Int32 × Option Int32)) ++ [own_sym p0]) ++ [own_sym p1])).length.toInt32), .unset, .unset] [(.ref b59), (.ref b54), (.ref b54)]))
      refine own_st ?_ (fun t_ k_ => XS.dup X59.here hx rfl (hb hby at_64) rfl rfl k_)
      show own_G p.tables e below _ _ (T59.setTop (mkF m 65 #[.val (.int p0), .val (.int p1), .val (.int p2), .val (.int p3), .val (.int ((1 : Int32) + ((p3 &&& (2147483647 : Int32)) - ((p3 &&& (2147483647 : Int32)) / (3 : Int32)) * (3 : Int32)))), .val (.ref b1), .val (.int (own_uns ((([] : List (Int32 × Option Int32)) ++ [own_sym p0]) ++ [own_sym p1])).length.toInt32), .unset, .unset] [(.ref b59), (.ref b59), (.ref b54), (.ref b54)]))
      refine own_st ?_ (fun t_ k_ => XS.aload X59.here hx rfl (hb hby at_65) rfl rfl k_)
      show own_G p.tables e below _ _ (T59.setTop (mkF m 67 #[.val (.int p0), .val (.int p1), .val (.int p2), .val (.int p3), .val (.int ((1 : Int32) + ((p3 &&& (2147483647 : Int32)) - ((p3 &&& (2147483647 : Int32)) / (3 : Int32)) * (3 : Int32)))), .val (.ref b1), .val (.int (own_uns ((([] : List (Int32 × Option Int32)) ++ [own_sym p0]) ++ [own_sym p1])).length.toInt32), .unset, .unset] [(.ref b1), (.ref b59), (.ref b59), (.ref b54), (.ref b54)]))
      refine own_st ?_ (fun t_ k_ => XS.iload X59.here hx rfl (hb hby at_67) rfl k_)
      show own_G p.tables e below _ _ (T59.setTop (mkF m 69 #[.val (.int p0), .val (.int p1), .val (.int p2), .val (.int p3), .val (.int ((1 : Int32) + ((p3 &&& (2147483647 : Int32)) - ((p3 &&& (2147483647 : Int32)) / (3 : Int32)) * (3 : Int32)))), .val (.ref b1), .val (.int (own_uns ((([] : List (Int32 × Option Int32)) ++ [own_sym p0]) ++ [own_sym p1])).length.toInt32), .unset, .unset] [(.int (own_uns ((([] : List (Int32 × Option Int32)) ++ [own_sym p0]) ++ [own_sym p1])).length.toInt32), (.ref b1), (.ref b59), (.ref b59), (.ref b54), (.ref b54)]))
      obtain ⟨_, _, ⟨T66, L66, k66, n66⟩, -, X66, ⟨Lc66, hQ66, l66, y66, z66⟩, st66⟩ := Jvm.LawKit.callS X59 hx (y := (⟨"com/example/supplant/supplant/automata/SymbolIsMultiCharacterPinLaw", "take", "([CI)[C"⟩ : MethodName)) hown (mvT hZ (hw _ (List.mem_of_getElem? (i := 15) rfl))) (mvT hZ (hw _ (List.mem_of_getElem? (i := 16) rfl))) (mvT hZ (hw _ (List.mem_of_getElem? (i := 4) rfl))) (mvT hZ (hw _ (List.mem_of_getElem? (i := 17) rfl))) (by decide) (backOf (W := 4) (rm2 l Z _ hw [] b1 (own_uns ((([] : List (Int32 × Option Int32)) ++ [own_sym p0]) ++ [own_sym p1])).length.toInt32 (own_uns ((([] : List (Int32 × Option Int32)) ++ [own_sym p0]) ++ [own_sym p1])).length GG50 h59 n0 Zs65 F61_P rfl (own_uns_pos _ _) (Nat.le_trans (own_uns_len _).2 (show 2 * 2 ≤ 6 by decide)) (fun i hi => by rw [hG50 i hi]; exact own_uns_isC _ (own_goodS (own_goodS own_good0 p0) p1) i hi)) hZ (hw _ (List.mem_of_getElem? (i := 17) rfl)) (hw _ (List.mem_of_getElem? (i := 4) rfl)) (by decide) (by decide)) (g := (mkF m 69 #[.val (.int p0), .val (.int p1), .val (.int p2), .val (.int p3), .val (.int ((1 : Int32) + ((p3 &&& (2147483647 : Int32)) - ((p3 &&& (2147483647 : Int32)) / (3 : Int32)) * (3 : Int32)))), .val (.ref b1), .val (.int (own_uns ((([] : List (Int32 × Option Int32)) ++ [own_sym p0]) ++ [own_sym p1])).length.toInt32), .unset, .unset] [(.int (own_uns ((([] : List (Int32 × Option Int32)) ++ [own_sym p0]) ++ [own_sym p1])).length.toInt32), (.ref b1), (.ref b59), (.ref b59), (.ref b54), (.ref b54)])) rfl (by rw [hml]; rfl) (argsL := [(.ref b1), (.int (own_uns ((([] : List (Int32 × Option Int32)) ++ [own_sym p0]) ++ [own_sym p1])).length.toInt32)]) (rest := [(.ref b59), (.ref b59), (.ref b54), (.ref b54)]) (lenOf pd_25 rfl) rfl (by show 2 * 0 + _ ≤ _; exact Nat.le_of_eq rfl) (hb hby at_69) (fun _ _ => ⟨rfl, e59, (by decide : 3 + 1 ≤ _), (by decide : 11 + 6 ≤ _)⟩)
      dsimp only [Pt.U, Pt.locs, Pt.cells, Pt.slots] at X66 l66 y66 z66 st66 hQ66
      subst l66 y66 z66
      obtain ⟨t66, rfl, N66q, hq66⟩ := hQ66
      have N66 := Fr.app N50 N66q
      obtain ⟨K66, hs66, hp66⟩ := hq66
      have g_t66 : n0 ≤ t66 := Nat.le_trans Zs65 hs66
      have ne_b1_t66 : b1 ≠ t66 := Nat.ne_of_lt (Nat.lt_of_lt_of_le (own_Y_lt F61_P) hs66)
      have ne_b54_t66 : b54 ≠ t66 := Nat.ne_of_lt (Nat.lt_of_lt_of_le F62_E.lt hs66)
      have ne_b59_t66 : b59 ≠ t66 := Nat.ne_of_lt (Nat.lt_of_lt_of_le A59.lt hs66)
      have F67_Z : own_SS Z T66.heap n0 z1 fm := own_SS_keep F60_Z K66 own_al0
      have F68_P : own_Y .char Z T66.heap b1 6 GG50 := own_Y_keep F61_P K66 nin0
      have F69_E : Exa Z T66.heap b54 "com/example/supplant/supplant/automata/Symbol" := F62_E.keep K66
      have F70_text : Fld Z T66.heap b54 "com/example/supplant/supplant/automata/Symbol" "text" "Ljava/lang/String;" .null := F63_text.keep K66 nin0
      have F71_E : Exa Z T66.heap b59 "java/lang/String" := A59.keep K66
      have F72_coder : Fld Z T66.heap b59 "java/lang/String" "coder" "B" (.int (0 : Int32)) := F_coder_b59.keep K66 nin0
      have F73_value : Fld Z T66.heap b59 "java/lang/String" "value" "[B" .null := F_value_b59.keep K66 nin0
      have hkc74 := Nat.le_trans hkc64 K66.1
      have Zs75 : n0 ≤ T66.heap.size := Nat.le_trans Zs65 K66.1
      refine own_st ?_ st66
      show own_G p.tables e below _ _ (T66.setTop (mkF m 72 #[.val (.int p0), .val (.int p1), .val (.int p2), .val (.int p3), .val (.int ((1 : Int32) + ((p3 &&& (2147483647 : Int32)) - ((p3 &&& (2147483647 : Int32)) / (3 : Int32)) * (3 : Int32)))), .val (.ref b1), .val (.int (own_uns ((([] : List (Int32 × Option Int32)) ++ [own_sym p0]) ++ [own_sym p1])).length.toInt32), .unset, .unset] [(.ref t66), (.ref b59), (.ref b59), (.ref b54), (.ref b54)]))
      obtain ⟨_, _, ⟨T76, L76, k76, n76⟩, -, X76, ⟨Lc76, hQ76, l76, y76, z76⟩, st76⟩ := X66.specialBack hx (y := (⟨"java/lang/String", "<init>", "([C)V"⟩ : MethodName)) rfl hown (mvT hZ (hw _ (List.mem_of_getElem? (i := 18) rfl))) (mvT hZ (hw _ (List.mem_of_getElem? (i := 19) rfl))) (mvT hZ (hw _ (List.mem_of_getElem? (i := 20) rfl))) (by decide) (backOf (W := 3) (rm3 l Z _ hw [] b59 t66 z1 fm (own_uns ((([] : List (Int32 × Option Int32)) ++ [own_sym p0]) ++ [own_sym p1])).length GG50 (.int (0 : Int32)) .null T66.heap n0 Zs75 g_b59 F67_Z F71_E F72_coder F73_value hp66 hz1 (own_uns_pos _ _) (Nat.le_trans (own_uns_len _).2 (show 2 * 2 ≤ 6 by decide)) (fun i hi => by rw [hG50 i hi]; exact own_uns_isC _ (own_goodS (own_goodS own_good0 p0) p1) i hi) (Ne.symm ne_b59_t66)) hZ (hw _ (List.mem_of_getElem? (i := 20) rfl)) (hw _ (List.mem_of_getElem? (i := 14) rfl)) (by decide) (by decide)) (g := (mkF m 72 #[.val (.int p0), .val (.int p1), .val (.int p2), .val (.int p3), .val (.int ((1 : Int32) + ((p3 &&& (2147483647 : Int32)) - ((p3 &&& (2147483647 : Int32)) / (3 : Int32)) * (3 : Int32)))), .val (.ref b1), .val (.int (own_uns ((([] : List (Int32 × Option Int32)) ++ [own_sym p0]) ++ [own_sym p1])).length.toInt32), .unset, .unset] [(.ref t66), (.ref b59), (.ref b59), (.ref b54), (.ref b54)])) rfl (by rw [hml]; rfl) (Steps.refl _) (a := b59) (argsL := [(.ref t66)]) (rest := [(.ref b59), (.ref b54), (.ref b54)]) (lenOf pd_26 rfl) rfl (by show 2 * 0 + _ ≤ _; exact Nat.le_of_eq rfl) (hb hby at_72) (fun _ _ => ⟨rfl, rfl, (by decide : 4 + 2 ≤ _), (by decide : 17 + 18 ≤ _)⟩)
      dsimp only [Pt.U, Pt.locs, Pt.cells, Pt.slots] at X76 l76 y76 z76 st76 hQ76
      subst l76 y76 z76
      obtain ⟨rfl, N76q, hq76⟩ := hQ76
      have N76 := Fr.app N66 N76q
      obtain ⟨K76, t76, cd76, NN76, gg76, hs76, hne76, Fc76, Fv76, Yb76, hD76⟩ := hq76
      have g_t76 : n0 ≤ t76 := Nat.le_trans Zs75 hs76
      have ne_b1_t76 : b1 ≠ t76 := Nat.ne_of_lt (Nat.lt_of_lt_of_le (own_Y_lt F68_P) hs76)
      have ne_b54_t76 : b54 ≠ t76 := Nat.ne_of_lt (Nat.lt_of_lt_of_le F69_E.lt hs76)
      have ne_t66_t76 : t66 ≠ t76 := Nat.ne_of_lt (Nat.lt_of_lt_of_le (own_Y_lt hp66) hs76)
      have F77_Z : own_SS Z T76.heap n0 z1 fm := own_SS_keep F67_Z K76 (own_alS g_b59 own_al0)
      have F78_P : own_Y .char Z T76.heap b1 6 GG50 := own_Y_keep F68_P K76 (ninS ne_b1_b59 nin0)
      have F79_E : Exa Z T76.heap b54 "com/example/supplant/supplant/automata/Symbol" := F69_E.keep K76
      have F80_text : Fld Z T76.heap b54 "com/example/supplant/supplant/automata/Symbol" "text" "Ljava/lang/String;" .null := F70_text.keep K76 (ninS ne_b54_b59 nin0)
      have F81_E : Exa Z T76.heap b59 "java/lang/String" := F71_E.keep K76
      have F82_P : own_Y .char Z T76.heap t66 (own_uns ((([] : List (Int32 × Option Int32)) ++ [own_sym p0]) ++ [own_sym p1])).length GG50 := own_Y_keep hp66 K76 (ninS (Ne.symm ne_b59_t66) nin0)
      have hkc83 := Nat.le_trans hkc74 K76.1
      have Zs84 : n0 ≤ T76.heap.size := Nat.le_trans Zs75 K76.1
      have hT76 : own_T GG50 (own_uns ((([] : List (Int32 × Option Int32)) ++ [own_sym p0]) ++ [own_sym p1])).length 0 ((([] : List (Int32 × Option Int32)) ++ [own_sym p0]) ++ [own_sym p1]) := ⟨Nat.zero_add _, fun i hi => by rw [Nat.zero_add]; exact hG50 i hi, (own_goodS (own_goodS own_good0 p0) p1)⟩
      refine own_st ?_ (fun t_ k_ => st76.trans k_)
      show own_G p.tables e below _ _ (T76.setTop (mkF m 75 #[.val (.int p0), .val (.int p1), .val (.int p2), .val (.int p3), .val (.int ((1 : Int32) + ((p3 &&& (2147483647 : Int32)) - ((p3 &&& (2147483647 : Int32)) / (3 : Int32)) * (3 : Int32)))), .val (.ref b1), .val (.int (own_uns ((([] : List (Int32 × Option Int32)) ++ [own_sym p0]) ++ [own_sym p1])).length.toInt32), .unset, .unset] [(.ref b59), (.ref b54), (.ref b54)]))
      obtain ⟨_, _, ⟨T85, L85, k85, n85⟩, -, X85, hSq85, hgq85, ⟨Lc85, hQ85, l85, y85, z85⟩, st85⟩ := X76.specialBackS hx (y := (⟨"com/example/supplant/supplant/automata/Symbol", "<init>", "(Ljava/lang/String;)V"⟩ : MethodName)) rfl hown (mvT hZ (hw _ (List.mem_of_getElem? (i := 63) rfl))) (mvT hZ (hw _ (List.mem_of_getElem? (i := 64) rfl))) (mvT hZ (hw _ (List.mem_of_getElem? (i := 65) rfl))) (by decide) (backOfS (W := 1) (rm14 l Z _ hw [] b54 b59 z1 fm cd76 t76 (own_uns ((([] : List (Int32 × Option Int32)) ++ [own_sym p0]) ++ [own_sym p1])).length NN76 gg76 GG50 ((([] : List (Int32 × Option Int32)) ++ [own_sym p0]) ++ [own_sym p1]) .null T76.heap n0 Zs84 g_b54 F77_Z F79_E F80_text F81_E Fc76 Fv76 Yb76 hz1 rf_fm hD76 hT76 (own_uns_pos _ _)) hZ (hw _ (List.mem_of_getElem? (i := 65) rfl)) (hw _ (List.mem_of_getElem? (i := 11) rfl)) (by decide) (by decide)) (g := (mkF m 75 #[.val (.int p0), .val (.int p1), .val (.int p2), .val (.int p3), .val (.int ((1 : Int32) + ((p3 &&& (2147483647 : Int32)) - ((p3 &&& (2147483647 : Int32)) / (3 : Int32)) * (3 : Int32)))), .val (.ref b1), .val (.int (own_uns ((([] : List (Int32 × Option Int32)) ++ [own_sym p0]) ++ [own_sym p1])).length.toInt32), .unset, .unset] [(.ref b59), (.ref b54), (.ref b54)])) rfl (by rw [hml]; rfl) (Steps.refl _) (a := b54) (argsL := [(.ref b59)]) (rest := [(.ref b54)]) (lenOf pd_27 rfl) rfl (by show 2 * 0 + _ ≤ _; exact Nat.le_of_eq rfl) (hb hby at_75) (fun _ _ => ⟨rfl, rfl, (by decide : 6 + 2 ≤ _), (by decide : 35 + 100 ≤ _)⟩)
      dsimp only [Pt.U, Pt.locs, Pt.cells, Pt.slots] at X85 l85 y85 z85 st85 hQ85
      subst l85 y85 z85
      dsimp only [Pt.U] at hSq85 hgq85
      obtain ⟨X85, hS85, hZ, hown⟩ := rebS hS0 hkc83 X85 hSq85 hgq85 hZ hown
      have hk85 := Nat.le_refl T85.heap.size
      obtain ⟨rfl, N85q, hq85⟩ := hQ85
      have N85 := Fr.app N76 N85q
      obtain ⟨K85, Ft85⟩ := hq85
      have F86_Z : own_SS Z T85.heap n0 z1 fm := own_SS_keep F77_Z K85 (own_alS g_b54 own_al0)
      have F87_E : Exa Z T85.heap b54 "com/example/supplant/supplant/automata/Symbol" := F79_E.keep K85
      have F88_E : Exa Z T85.heap b59 "java/lang/String" := F81_E.keep K85
      have F89_coder : Fld Z T85.heap b59 "java/lang/String" "coder" "B" (.int cd76) := Fc76.keep K85 (ninS (Ne.symm ne_b54_b59) nin0)
      have F90_value : Fld Z T85.heap b59 "java/lang/String" "value" "[B" (.ref t76) := Fv76.keep K85 (ninS (Ne.symm ne_b54_b59) nin0)
      have F91_P : own_Y .byte Z T85.heap t76 NN76 gg76 := own_Y_keep Yb76 K85 (ninS (Ne.symm ne_b54_t76) nin0)
      have hkc92 := Nat.le_trans hkc83 K85.1
      have Zs93 : n0 ≤ T85.heap.size := Nat.le_trans Zs84 K85.1
      refine own_st ?_ (fun t_ k_ => st85.trans k_)
      show own_G p.tables e below _ _ (T85.setTop (mkF m 78 #[.val (.int p0), .val (.int p1), .val (.int p2), .val (.int p3), .val (.int ((1 : Int32) + ((p3 &&& (2147483647 : Int32)) - ((p3 &&& (2147483647 : Int32)) / (3 : Int32)) * (3 : Int32)))), .val (.ref b1), .val (.int (own_uns ((([] : List (Int32 × Option Int32)) ++ [own_sym p0]) ++ [own_sym p1])).length.toInt32), .unset, .unset] [(.ref b54)]))
      refine own_st ?_ (fun t_ k_ => XS.astore X85.here hx rfl (hb hby at_78) rfl rfl (l' := #[.val (.int p0), .val (.int p1), .val (.int p2), .val (.int p3), .val (.int ((1 : Int32) + ((p3 &&& (2147483647 : Int32)) - ((p3 &&& (2147483647 : Int32)) / (3 : Int32)) * (3 : Int32)))), .val (.ref b1), .val (.int (own_uns ((([] : List (Int32 × Option Int32)) ++ [own_sym p0]) ++ [own_sym p1])).length.toInt32), .val (.ref b54), .unset]) rfl k_)
      show own_G p.tables e below _ _ (T85.setTop (mkF m 80 #[.val (.int p0), .val (.int p1), .val (.int p2), .val (.int p3), .val (.int ((1 : Int32) + ((p3 &&& (2147483647 : Int32)) - ((p3 &&& (2147483647 : Int32)) / (3 : Int32)) * (3 : Int32)))), .val (.ref b1), .val (.int (own_uns ((([] : List (Int32 × Option Int32)) ++ [own_sym p0]) ++ [own_sym p1])).length.toInt32), .val (.ref b54), .unset] []))
      refine own_st ?_ (fun t_ k_ => XS.iload X85.here hx rfl (hb hby at_80) rfl k_)
      show own_G p.tables e below _ _ (T85.setTop (mkF m 82 #[.val (.int p0), .val (.int p1), .val (.int p2), .val (.int p3), .val (.int ((1 : Int32) + ((p3 &&& (2147483647 : Int32)) - ((p3 &&& (2147483647 : Int32)) / (3 : Int32)) * (3 : Int32)))), .val (.ref b1), .val (.int (own_uns ((([] : List (Int32 × Option Int32)) ++ [own_sym p0]) ++ [own_sym p1])).length.toInt32), .val (.ref b54), .unset] [(.int ((1 : Int32) + ((p3 &&& (2147483647 : Int32)) - ((p3 &&& (2147483647 : Int32)) / (3 : Int32)) * (3 : Int32))))]))
      refine own_st ?_ (fun t_ k_ => XS.iconst X85.here hx rfl (hb hby at_82) k_)
      show own_G p.tables e below _ _ (T85.setTop (mkF m 83 #[.val (.int p0), .val (.int p1), .val (.int p2), .val (.int p3), .val (.int ((1 : Int32) + ((p3 &&& (2147483647 : Int32)) - ((p3 &&& (2147483647 : Int32)) / (3 : Int32)) * (3 : Int32)))), .val (.ref b1), .val (.int (own_uns ((([] : List (Int32 × Option Int32)) ++ [own_sym p0]) ++ [own_sym p1])).length.toInt32), .val (.ref b54), .unset] [(.int (1 : Int32)), (.int ((1 : Int32) + ((p3 &&& (2147483647 : Int32)) - ((p3 &&& (2147483647 : Int32)) / (3 : Int32)) * (3 : Int32))))]))
      refine own_st ?_ (fun t_ k_ => XS.icmpNo X85.here hx rfl (hb hby at_83) rfl (tlt (own_g1 hc28)).2.2.2 k_)
      show own_G p.tables e below _ _ (T85.setTop (mkF m 86 #[.val (.int p0), .val (.int p1), .val (.int p2), .val (.int p3), .val (.int ((1 : Int32) + ((p3 &&& (2147483647 : Int32)) - ((p3 &&& (2147483647 : Int32)) / (3 : Int32)) * (3 : Int32)))), .val (.ref b1), .val (.int (own_uns ((([] : List (Int32 × Option Int32)) ++ [own_sym p0]) ++ [own_sym p1])).length.toInt32), .val (.ref b54), .unset] []))
      refine own_st ?_ (fun t_ k_ => XS.iconst X85.here hx rfl (hb hby at_86) k_)
      show own_G p.tables e below _ _ (T85.setTop (mkF m 87 #[.val (.int p0), .val (.int p1), .val (.int p2), .val (.int p3), .val (.int ((1 : Int32) + ((p3 &&& (2147483647 : Int32)) - ((p3 &&& (2147483647 : Int32)) / (3 : Int32)) * (3 : Int32)))), .val (.ref b1), .val (.int (own_uns ((([] : List (Int32 × Option Int32)) ++ [own_sym p0]) ++ [own_sym p1])).length.toInt32), .val (.ref b54), .unset] [(.int (1 : Int32))]))
      refine own_st ?_ (fun t_ k_ => XS.goto X85.here hx rfl (pc0 := 87) (pc' := 91) rfl (hb hby at_87) (by decide) (by decide) k_)
      show own_G p.tables e below _ _ (T85.setTop (mkF m 91 #[.val (.int p0), .val (.int p1), .val (.int p2), .val (.int p3), .val (.int ((1 : Int32) + ((p3 &&& (2147483647 : Int32)) - ((p3 &&& (2147483647 : Int32)) / (3 : Int32)) * (3 : Int32)))), .val (.ref b1), .val (.int (own_uns ((([] : List (Int32 × Option Int32)) ++ [own_sym p0]) ++ [own_sym p1])).length.toInt32), .val (.ref b54), .unset] [(.int (1 : Int32))]))
      refine own_st ?_ (fun t_ k_ => XS.istore X85.here hx rfl (hb hby at_91) rfl (l' := #[.val (.int p0), .val (.int p1), .val (.int p2), .val (.int p3), .val (.int ((1 : Int32) + ((p3 &&& (2147483647 : Int32)) - ((p3 &&& (2147483647 : Int32)) / (3 : Int32)) * (3 : Int32)))), .val (.ref b1), .val (.int (own_uns ((([] : List (Int32 × Option Int32)) ++ [own_sym p0]) ++ [own_sym p1])).length.toInt32), .val (.ref b54), .val (.int (1 : Int32))]) rfl k_)
      show own_G p.tables e below _ _ (T85.setTop (mkF m 93 #[.val (.int p0), .val (.int p1), .val (.int p2), .val (.int p3), .val (.int ((1 : Int32) + ((p3 &&& (2147483647 : Int32)) - ((p3 &&& (2147483647 : Int32)) / (3 : Int32)) * (3 : Int32)))), .val (.ref b1), .val (.int (own_uns ((([] : List (Int32 × Option Int32)) ++ [own_sym p0]) ++ [own_sym p1])).length.toInt32), .val (.ref b54), .val (.int (1 : Int32))] []))
      refine own_st ?_ (fun t_ k_ => XS.aload X85.here hx rfl (hb hby at_93) rfl rfl k_)
      show own_G p.tables e below _ _ (T85.setTop (mkF m 95 #[.val (.int p0), .val (.int p1), .val (.int p2), .val (.int p3), .val (.int ((1 : Int32) + ((p3 &&& (2147483647 : Int32)) - ((p3 &&& (2147483647 : Int32)) / (3 : Int32)) * (3 : Int32)))), .val (.ref b1), .val (.int (own_uns ((([] : List (Int32 × Option Int32)) ++ [own_sym p0]) ++ [own_sym p1])).length.toInt32), .val (.ref b54), .val (.int (1 : Int32))] [(.ref b54)]))
      obtain ⟨cq94, kq94, q94a, q94b, q94c⟩ := isOf hZ rfl F87_E
      obtain ⟨_, _, ⟨T94, L94, k94, n94⟩, -, X94, ⟨Lc94, hQ94, l94, y94, z94⟩, st94⟩ := X85.virtualBack hx (y := (⟨"com/example/supplant/supplant/automata/Symbol", "isMultiCharacter", "()Z"⟩ : MethodName)) (z := (⟨"com/example/supplant/supplant/automata/Symbol", "isMultiCharacter", "()Z"⟩ : MethodName)) hown (mvT hZ (hw _ (List.mem_of_getElem? (i := 136) rfl))) (mvT hZ (hw _ (List.mem_of_getElem? (i := 137) rfl))) (notFace_of_selects (args := #[]) (mvT hZ (hw _ (List.mem_of_getElem? (i := 139) rfl)))) (mvT hZ (hw _ (List.mem_of_getElem? (i := 139) rfl))) (mvT hZ (hw _ (List.mem_of_getElem? (i := 138) rfl))) (by decide) (backOf (W := 0) (rm30 l Z _ hw [] b54 z1 fm cd76 t76 (own_uns ((([] : List (Int32 × Option Int32)) ++ [own_sym p0]) ++ [own_sym p1])).length NN76 gg76 GG50 b59 ((([] : List (Int32 × Option Int32)) ++ [own_sym p0]) ++ [own_sym p1]) (1 : Int32) T85.heap n0 Zs93 F86_Z Ft85 F88_E F89_coder F90_value F91_P hz1 hD76 hT76 (show own_mc 2 = (1 : Int32) by decide)) hZ (hw _ (List.mem_of_getElem? (i := 140) rfl)) (hw _ (List.mem_of_getElem? (i := 11) rfl)) (by decide) (by decide)) q94a q94c (g := (mkF m 95 #[.val (.int p0), .val (.int p1), .val (.int p2), .val (.int p3), .val (.int ((1 : Int32) + ((p3 &&& (2147483647 : Int32)) - ((p3 &&& (2147483647 : Int32)) / (3 : Int32)) * (3 : Int32)))), .val (.ref b1), .val (.int (own_uns ((([] : List (Int32 × Option Int32)) ++ [own_sym p0]) ++ [own_sym p1])).length.toInt32), .val (.ref b54), .val (.int (1 : Int32))] [(.ref b54)])) rfl (by rw [hml]; rfl) (Steps.refl _) (argsL := []) (rest := []) (lenOf pd_5 rfl) rfl (by show 2 * 0 + _ ≤ _; exact Nat.le_of_eq rfl) (hb hby at_95) (fun _ _ => ⟨rfl, rfl, (by decide : 8 + 0 ≤ _), (by decide : 135 + 0 ≤ _)⟩)
      dsimp only [Pt.U, Pt.locs, Pt.cells, Pt.slots] at X94 l94 y94 z94 st94 hQ94
      subst l94 y94 z94
      obtain ⟨rfl, N94q, e94⟩ := hQ94
      have N94 := Fr.app N85 N94q
      refine own_st ?_ (fun t_ k_ => st94.trans k_)
      show own_G p.tables e below _ _ (T94.setTop (mkF m 98 #[.val (.int p0), .val (.int p1), .val (.int p2), .val (.int p3), .val (.int ((1 : Int32) + ((p3 &&& (2147483647 : Int32)) - ((p3 &&& (2147483647 : Int32)) / (3 : Int32)) * (3 : Int32)))), .val (.ref b1), .val (.int (own_uns ((([] : List (Int32 × Option Int32)) ++ [own_sym p0]) ++ [own_sym p1])).length.toInt32), .val (.ref b54), .val (.int (1 : Int32))] [(.int (1 : Int32))]))
      refine own_st ?_ (fun t_ k_ => XS.iload X94.here hx rfl (hb hby at_98) rfl k_)
      show own_G p.tables e below _ _ (T94.setTop (mkF m 100 #[.val (.int p0), .val (.int p1), .val (.int p2), .val (.int p3), .val (.int ((1 : Int32) + ((p3 &&& (2147483647 : Int32)) - ((p3 &&& (2147483647 : Int32)) / (3 : Int32)) * (3 : Int32)))), .val (.ref b1), .val (.int (own_uns ((([] : List (Int32 × Option Int32)) ++ [own_sym p0]) ++ [own_sym p1])).length.toInt32), .val (.ref b54), .val (.int (1 : Int32))] [(.int (1 : Int32)), (.int (1 : Int32))]))
      refine own_st ?_ (fun t_ k_ => XS.icmpNo X94.here hx rfl (hb hby at_100) rfl (teq (by decide : (1 : Int32) = (1 : Int32))).2 k_)
      show own_G p.tables e below _ _ (T94.setTop (mkF m 103 #[.val (.int p0), .val (.int p1), .val (.int p2), .val (.int p3), .val (.int ((1 : Int32) + ((p3 &&& (2147483647 : Int32)) - ((p3 &&& (2147483647 : Int32)) / (3 : Int32)) * (3 : Int32)))), .val (.ref b1), .val (.int (own_uns ((([] : List (Int32 × Option Int32)) ++ [own_sym p0]) ++ [own_sym p1])).length.toInt32), .val (.ref b54), .val (.int (1 : Int32))] []))
      refine own_st ?_ (fun t_ k_ => XS.iconst X94.here hx rfl (hb hby at_103) k_)
      show own_G p.tables e below _ _ (T94.setTop (mkF m 104 #[.val (.int p0), .val (.int p1), .val (.int p2), .val (.int p3), .val (.int ((1 : Int32) + ((p3 &&& (2147483647 : Int32)) - ((p3 &&& (2147483647 : Int32)) / (3 : Int32)) * (3 : Int32)))), .val (.ref b1), .val (.int (own_uns ((([] : List (Int32 × Option Int32)) ++ [own_sym p0]) ++ [own_sym p1])).length.toInt32), .val (.ref b54), .val (.int (1 : Int32))] [(.int (1 : Int32))]))
      refine own_st ?_ (fun t_ k_ => XS.goto X94.here hx rfl (pc0 := 104) (pc' := 108) rfl (hb hby at_104) (by decide) (by decide) k_)
      show own_G p.tables e below _ _ (T94.setTop (mkF m 108 #[.val (.int p0), .val (.int p1), .val (.int p2), .val (.int p3), .val (.int ((1 : Int32) + ((p3 &&& (2147483647 : Int32)) - ((p3 &&& (2147483647 : Int32)) / (3 : Int32)) * (3 : Int32)))), .val (.ref b1), .val (.int (own_uns ((([] : List (Int32 × Option Int32)) ++ [own_sym p0]) ++ [own_sym p1])).length.toInt32), .val (.ref b54), .val (.int (1 : Int32))] [(.int (1 : Int32))]))
      exact own_retNW X94 hx hlk hS85 (by rw [e94]; exact hk85) (t := .boolean) hret (by simp) (hb hby at_108) (by decide) (by decide) (z' := (1 : Int32)) rfl ⟨rfl, N94⟩
    · refine own_st ?_ (fun t_ k_ => XS.icmpNo X50.here hx rfl (hb hby at_44) rfl (flt hc44).1 k_)
      show own_G p.tables e below _ _ (T50.setTop (mkF m 47 #[.val (.int p0), .val (.int p1), .val (.int p2), .val (.int p3), .val (.int ((1 : Int32) + ((p3 &&& (2147483647 : Int32)) - ((p3 &&& (2147483647 : Int32)) / (3 : Int32)) * (3 : Int32)))), .val (.ref b1), .val (.int (own_uns ((([] : List (Int32 × Option Int32)) ++ [own_sym p0]) ++ [own_sym p1])).length.toInt32), .unset, .unset] []))
      refine own_st ?_ (fun t_ k_ => XS.aload X50.here hx rfl (hb hby at_47) rfl rfl k_)
      show own_G p.tables e below _ _ (T50.setTop (mkF m 49 #[.val (.int p0), .val (.int p1), .val (.int p2), .val (.int p3), .val (.int ((1 : Int32) + ((p3 &&& (2147483647 : Int32)) - ((p3 &&& (2147483647 : Int32)) / (3 : Int32)) * (3 : Int32)))), .val (.ref b1), .val (.int (own_uns ((([] : List (Int32 × Option Int32)) ++ [own_sym p0]) ++ [own_sym p1])).length.toInt32), .unset, .unset] [(.ref b1)]))
      refine own_st ?_ (fun t_ k_ => XS.iload X50.here hx rfl (hb hby at_49) rfl k_)
      show own_G p.tables e below _ _ (T50.setTop (mkF m 51 #[.val (.int p0), .val (.int p1), .val (.int p2), .val (.int p3), .val (.int ((1 : Int32) + ((p3 &&& (2147483647 : Int32)) - ((p3 &&& (2147483647 : Int32)) / (3 : Int32)) * (3 : Int32)))), .val (.ref b1), .val (.int (own_uns ((([] : List (Int32 × Option Int32)) ++ [own_sym p0]) ++ [own_sym p1])).length.toInt32), .unset, .unset] [(.int (own_uns ((([] : List (Int32 × Option Int32)) ++ [own_sym p0]) ++ [own_sym p1])).length.toInt32), (.ref b1)]))
      refine own_st ?_ (fun t_ k_ => XS.iloadN X50.here hx rfl (hb hby at_51) rfl k_)
      show own_G p.tables e below _ _ (T50.setTop (mkF m 52 #[.val (.int p0), .val (.int p1), .val (.int p2), .val (.int p3), .val (.int ((1 : Int32) + ((p3 &&& (2147483647 : Int32)) - ((p3 &&& (2147483647 : Int32)) / (3 : Int32)) * (3 : Int32)))), .val (.ref b1), .val (.int (own_uns ((([] : List (Int32 × Option Int32)) ++ [own_sym p0]) ++ [own_sym p1])).length.toInt32), .unset, .unset] [(.int p2), (.int (own_uns ((([] : List (Int32 × Option Int32)) ++ [own_sym p0]) ++ [own_sym p1])).length.toInt32), (.ref b1)]))
      obtain ⟨_, _, ⟨T95, L95, k95, n95⟩, -, X95, ⟨Lc95, hQ95, l95, y95, z95⟩, st95⟩ := Jvm.LawKit.callS X50 hx (y := (⟨"com/example/supplant/supplant/automata/SymbolIsMultiCharacterPinLaw", "put", "([CII)I"⟩ : MethodName)) hown (mvT hZ (hw _ (List.mem_of_getElem? (i := 2) rfl))) (mvT hZ (hw _ (List.mem_of_getElem? (i := 3) rfl))) (mvT hZ (hw _ (List.mem_of_getElem? (i := 4) rfl))) (mvT hZ (hw _ (List.mem_of_getElem? (i := 5) rfl))) (by decide) (backOf (W := 0) (rm1 l Z _ hw [] b1 (own_uns ((([] : List (Int32 × Option Int32)) ++ [own_sym p0]) ++ [own_sym p1])).length.toInt32 p2 ((([] : List (Int32 × Option Int32)) ++ [own_sym p0]) ++ [own_sym p1]) GG50 T50.heap n0 Zs53 g_b1 Yp50 rfl (Nat.le_trans (own_uns_len _).2 (show 2 * 2 ≤ 4 by decide)) hG50) hZ (hw _ (List.mem_of_getElem? (i := 5) rfl)) (hw _ (List.mem_of_getElem? (i := 4) rfl)) (by decide) (by decide)) (g := (mkF m 52 #[.val (.int p0), .val (.int p1), .val (.int p2), .val (.int p3), .val (.int ((1 : Int32) + ((p3 &&& (2147483647 : Int32)) - ((p3 &&& (2147483647 : Int32)) / (3 : Int32)) * (3 : Int32)))), .val (.ref b1), .val (.int (own_uns ((([] : List (Int32 × Option Int32)) ++ [own_sym p0]) ++ [own_sym p1])).length.toInt32), .unset, .unset] [(.int p2), (.int (own_uns ((([] : List (Int32 × Option Int32)) ++ [own_sym p0]) ++ [own_sym p1])).length.toInt32), (.ref b1)])) rfl (by rw [hml]; rfl) (argsL := [(.ref b1), (.int (own_uns ((([] : List (Int32 × Option Int32)) ++ [own_sym p0]) ++ [own_sym p1])).length.toInt32), (.int p2)]) (rest := []) (lenOf pd_24 rfl) rfl (by show 2 * 0 + _ ≤ _; exact Nat.le_of_eq rfl) (hb hby at_52) (fun _ _ => ⟨rfl, rfl, (by decide : 1 + 0 ≤ _), (by decide : 6 + 0 ≤ _)⟩)
      dsimp only [Pt.U, Pt.locs, Pt.cells, Pt.slots] at X95 l95 y95 z95 st95 hQ95
      subst l95 y95 z95
      obtain ⟨rfl, N95q, hq95⟩ := hQ95
      have N95 := Fr.app N50 N95q
      obtain ⟨K95, GG95, Yp95, hG95⟩ := hq95
      have F96_Z : own_SS Z T95.heap n0 z1 fm := own_SS_keep F51_Z K95 (own_alS g_b1 own_al0)
      have hkc97 := Nat.le_trans hkc52 K95.1
      have Zs98 : n0 ≤ T95.heap.size := Nat.le_trans Zs53 K95.1
      refine own_st ?_ st95
      show own_G p.tables e below _ _ (T95.setTop (mkF m 55 #[.val (.int p0), .val (.int p1), .val (.int p2), .val (.int p3), .val (.int ((1 : Int32) + ((p3 &&& (2147483647 : Int32)) - ((p3 &&& (2147483647 : Int32)) / (3 : Int32)) * (3 : Int32)))), .val (.ref b1), .val (.int (own_uns ((([] : List (Int32 × Option Int32)) ++ [own_sym p0]) ++ [own_sym p1])).length.toInt32), .unset, .unset] [(.int (own_uns (((([] : List (Int32 × Option Int32)) ++ [own_sym p0]) ++ [own_sym p1]) ++ [own_sym p2])).length.toInt32)]))
      refine own_st ?_ (fun t_ k_ => XS.istore X95.here hx rfl (hb hby at_55) rfl (l' := #[.val (.int p0), .val (.int p1), .val (.int p2), .val (.int p3), .val (.int ((1 : Int32) + ((p3 &&& (2147483647 : Int32)) - ((p3 &&& (2147483647 : Int32)) / (3 : Int32)) * (3 : Int32)))), .val (.ref b1), .val (.int (own_uns (((([] : List (Int32 × Option Int32)) ++ [own_sym p0]) ++ [own_sym p1]) ++ [own_sym p2])).length.toInt32), .unset, .unset]) rfl k_)
      show own_G p.tables e below _ _ (T95.setTop (mkF m 57 #[.val (.int p0), .val (.int p1), .val (.int p2), .val (.int p3), .val (.int ((1 : Int32) + ((p3 &&& (2147483647 : Int32)) - ((p3 &&& (2147483647 : Int32)) / (3 : Int32)) * (3 : Int32)))), .val (.ref b1), .val (.int (own_uns (((([] : List (Int32 × Option Int32)) ++ [own_sym p0]) ++ [own_sym p1]) ++ [own_sym p2])).length.toInt32), .unset, .unset] []))
      obtain ⟨T99, h99, X99, e99, E99, A99, D99, -, st99⟩ := newO X95 hx hZ hown (hw _ (List.mem_of_getElem? (i := 9) rfl)) (hw _ (List.mem_of_getElem? (i := 10) rfl)) (hw _ (List.mem_of_getElem? (i := 11) rfl)) rfl (g := (mkF m 57 #[.val (.int p0), .val (.int p1), .val (.int p2), .val (.int p3), .val (.int ((1 : Int32) + ((p3 &&& (2147483647 : Int32)) - ((p3 &&& (2147483647 : Int32)) / (3 : Int32)) * (3 : Int32)))), .val (.ref b1), .val (.int (own_uns (((([] : List (Int32 × Option Int32)) ++ [own_sym p0]) ++ [own_sym p1]) ++ [own_sym p2])).length.toInt32), .unset, .unset] [])) rfl (hb hby at_57) (by decide) (by decide)
      obtain ⟨b99, gz99⟩ : ∃ z, z = T95.heap.size := ⟨_, rfl⟩
      rw [← gz99] at A99 D99 st99
      have ne_b1_b99 : b1 ≠ b99 := Nat.ne_of_lt (Nat.lt_of_lt_of_le (own_Y_lt Yp95) (Nat.le_of_eq gz99.symm))
      have g_b99 : n0 ≤ b99 := Nat.le_trans Zs98 (Nat.le_of_eq gz99.symm)
      have F100_Z : own_SS Z h99 n0 z1 fm := own_SS_ext F96_Z E99
      have F101_P : own_Y .char Z h99 b1 6 GG95 := own_Y_ext Yp95 E99
      have hkc102 := Nat.le_trans hkc97 E99.1
      have Zs103 : n0 ≤ h99.size := Nat.le_trans Zs98 E99.1
      have F_text_b99 : Fld Z h99 b99 "com/example/supplant/supplant/automata/Symbol" "text" "Ljava/lang/String;" .null := D99 (Or.inr (hw _ (List.mem_of_getElem? (i := 135) rfl))) (ty := (.object "java/lang/String")) (by decide)
      refine own_st ?_ st99
      show own_G p.tables e below _ _ (T99.setTop (mkF m 60 #[.val (.int p0), .val (.int p1), .val (.int p2), .val (.int p3), .val (.int ((1 : Int32) + ((p3 &&& (2147483647 : Int32)) - ((p3 &&& (2147483647 : Int32)) / (3 : Int32)) * (3 : Int32)))), .val (.ref b1), .val (.int (own_uns (((([] : List (Int32 × Option Int32)) ++ [own_sym p0]) ++ [own_sym p1]) ++ [own_sym p2])).length.toInt32), .unset, .unset] [(.ref b99)]))
      refine own_st ?_ (fun t_ k_ => XS.dup X99.here hx rfl (hb hby at_60) rfl rfl k_)
      show own_G p.tables e below _ _ (T99.setTop (mkF m 61 #[.val (.int p0), .val (.int p1), .val (.int p2), .val (.int p3), .val (.int ((1 : Int32) + ((p3 &&& (2147483647 : Int32)) - ((p3 &&& (2147483647 : Int32)) / (3 : Int32)) * (3 : Int32)))), .val (.ref b1), .val (.int (own_uns (((([] : List (Int32 × Option Int32)) ++ [own_sym p0]) ++ [own_sym p1]) ++ [own_sym p2])).length.toInt32), .unset, .unset] [(.ref b99), (.ref b99)]))
      obtain ⟨T104, h104, X104, e104, E104, A104, D104, -, st104⟩ := newO X99 hx hZ hown (hw _ (List.mem_of_getElem? (i := 12) rfl)) (hw _ (List.mem_of_getElem? (i := 13) rfl)) (hw _ (List.mem_of_getElem? (i := 14) rfl)) e99 (g := (mkF m 61 #[.val (.int p0), .val (.int p1), .val (.int p2), .val (.int p3), .val (.int ((1 : Int32) + ((p3 &&& (2147483647 : Int32)) - ((p3 &&& (2147483647 : Int32)) / (3 : Int32)) * (3 : Int32)))), .val (.ref b1), .val (.int (own_uns (((([] : List (Int32 × Option Int32)) ++ [own_sym p0]) ++ [own_sym p1]) ++ [own_sym p2])).length.toInt32), .unset, .unset] [(.ref b99), (.ref b99)])) rfl (hb hby at_61) (by decide) (by decide)
      obtain ⟨b104, gz104⟩ : ∃ z, z = h99.size := ⟨_, rfl⟩
      rw [← gz104] at A104 D104 st104
      have ne_b1_b104 : b1 ≠ b104 := Nat.ne_of_lt (Nat.lt_of_lt_of_le (own_Y_lt F101_P) (Nat.le_of_eq gz104.symm))
      have ne_b99_b104 : b99 ≠ b104 := Nat.ne_of_lt (Nat.lt_of_lt_of_le A99.lt (Nat.le_of_eq gz104.symm))
      have g_b104 : n0 ≤ b104 := Nat.le_trans Zs103 (Nat.le_of_eq gz104.symm)
      have F105_Z : own_SS Z h104 n0 z1 fm := own_SS_ext F100_Z E104
      have F106_P : own_Y .char Z h104 b1 6 GG95 := own_Y_ext F101_P E104
      have F107_E : Exa Z h104 b99 "com/example/supplant/supplant/automata/Symbol" := A99.ext E104
      have F108_text : Fld Z h104 b99 "com/example/supplant/supplant/automata/Symbol" "text" "Ljava/lang/String;" .null := F_text_b99.ext E104
      have hkc109 := Nat.le_trans hkc102 E104.1
      have Zs110 : n0 ≤ h104.size := Nat.le_trans Zs103 E104.1
      have F_coder_b104 : Fld Z h104 b104 "java/lang/String" "coder" "B" (.int (0 : Int32)) := D104 (Or.inr (hw _ (List.mem_of_getElem? (i := 60) rfl))) (ty := .byte) (by decide)
      have F_value_b104 : Fld Z h104 b104 "java/lang/String" "value" "[B" .null := D104 (Or.inr (hw _ (List.mem_of_getElem? (i := 62) rfl))) (ty := (.array .byte)) (by decide)
      refine own_st ?_ st104
      show own_G p.tables e below _ _ (T104.setTop (mkF m 64 #[.val (.int p0), .val (.int p1), .val (.int p2), .val (.int p3), .val (.int ((1 : Int32) + ((p3 &&& (2147483647 : Int32)) - ((p3 &&& (2147483647 : Int32)) / (3 : Int32)) * (3 : Int32)))), .val (.ref b1), .val (.int (own_uns (((([] : List (Int32 × Option Int32)) ++ [own_sym p0]) ++ [own_sym p1]) ++ [own_sym p2])).length.toInt32), .unset, .unset] [(.ref b104), (.ref b99), (.ref b99)]))
      refine own_st ?_ (fun t_ k_ => XS.dup X104.here hx rfl (hb hby at_64) rfl rfl k_)
      show own_G p.tables e below _ _ (T104.setTop (mkF m 65 #[.val (.int p0), .val (.int p1), .val (.int p2), .val (.int p3), .val (.int ((1 : Int32) + ((p3 &&& (2147483647 : Int32)) - ((p3 &&& (2147483647 : Int32)) / (3 : Int32)) * (3 : Int32)))), .val (.ref b1), .val (.int (own_uns (((([] : List (Int32 × Option Int32)) ++ [own_sym p0]) ++ [own_sym p1]) ++ [own_sym p2])).length.toInt32), .unset, .unset] [(.ref b104), (.ref b104), (.ref b99), (.ref b99)]))
      refine own_st ?_ (fun t_ k_ => XS.aload X104.here hx rfl (hb hby at_65) rfl rfl k_)
      show own_G p.tables e below _ _ (T104.setTop (mkF m 67 #[.val (.int p0), .val (.int p1), .val (.int p2), .val (.int p3), .val (.int ((1 : Int32) + ((p3 &&& (2147483647 : Int32)) - ((p3 &&& (2147483647 : Int32)) / (3 : Int32)) * (3 : Int32)))), .val (.ref b1), .val (.int (own_uns (((([] : List (Int32 × Option Int32)) ++ [own_sym p0]) ++ [own_sym p1]) ++ [own_sym p2])).length.toInt32), .unset, .unset] [(.ref b1), (.ref b104), (.ref b104), (.ref b99), (.ref b99)]))
      refine own_st ?_ (fun t_ k_ => XS.iload X104.here hx rfl (hb hby at_67) rfl k_)
      show own_G p.tables e below _ _ (T104.setTop (mkF m 69 #[.val (.int p0), .val (.int p1), .val (.int p2), .val (.int p3), .val (.int ((1 : Int32) + ((p3 &&& (2147483647 : Int32)) - ((p3 &&& (2147483647 : Int32)) / (3 : Int32)) * (3 : Int32)))), .val (.ref b1), .val (.int (own_uns (((([] : List (Int32 × Option Int32)) ++ [own_sym p0]) ++ [own_sym p1]) ++ [own_sym p2])).length.toInt32), .unset, .unset] [(.int (own_uns (((([] : List (Int32 × Option Int32)) ++ [own_sym p0]) ++ [own_sym p1]) ++ [own_sym p2])).length.toInt32), (.ref b1), (.ref b104), (.ref b104), (.ref b99), (.ref b99)]))
      obtain ⟨_, _, ⟨T111, L111, k111, n111⟩, -, X111, ⟨Lc111, hQ111, l111, y111, z111⟩, st111⟩ := Jvm.LawKit.callS X104 hx (y := (⟨"com/example/supplant/supplant/automata/SymbolIsMultiCharacterPinLaw", "take", "([CI)[C"⟩ : MethodName)) hown (mvT hZ (hw _ (List.mem_of_getElem? (i := 15) rfl))) (mvT hZ (hw _ (List.mem_of_getElem? (i := 16) rfl))) (mvT hZ (hw _ (List.mem_of_getElem? (i := 4) rfl))) (mvT hZ (hw _ (List.mem_of_getElem? (i := 17) rfl))) (by decide) (backOf (W := 4) (rm2 l Z _ hw [] b1 (own_uns (((([] : List (Int32 × Option Int32)) ++ [own_sym p0]) ++ [own_sym p1]) ++ [own_sym p2])).length.toInt32 (own_uns (((([] : List (Int32 × Option Int32)) ++ [own_sym p0]) ++ [own_sym p1]) ++ [own_sym p2])).length GG95 h104 n0 Zs110 F106_P rfl (own_uns_pos _ _) (Nat.le_trans (own_uns_len _).2 (show 2 * 3 ≤ 6 by decide)) (fun i hi => by rw [hG95 i hi]; exact own_uns_isC _ (own_goodS (own_goodS (own_goodS own_good0 p0) p1) p2) i hi)) hZ (hw _ (List.mem_of_getElem? (i := 17) rfl)) (hw _ (List.mem_of_getElem? (i := 4) rfl)) (by decide) (by decide)) (g := (mkF m 69 #[.val (.int p0), .val (.int p1), .val (.int p2), .val (.int p3), .val (.int ((1 : Int32) + ((p3 &&& (2147483647 : Int32)) - ((p3 &&& (2147483647 : Int32)) / (3 : Int32)) * (3 : Int32)))), .val (.ref b1), .val (.int (own_uns (((([] : List (Int32 × Option Int32)) ++ [own_sym p0]) ++ [own_sym p1]) ++ [own_sym p2])).length.toInt32), .unset, .unset] [(.int (own_uns (((([] : List (Int32 × Option Int32)) ++ [own_sym p0]) ++ [own_sym p1]) ++ [own_sym p2])).length.toInt32), (.ref b1), (.ref b104), (.ref b104), (.ref b99), (.ref b99)])) rfl (by rw [hml]; rfl) (argsL := [(.ref b1), (.int (own_uns (((([] : List (Int32 × Option Int32)) ++ [own_sym p0]) ++ [own_sym p1]) ++ [own_sym p2])).length.toInt32)]) (rest := [(.ref b104), (.ref b104), (.ref b99), (.ref b99)]) (lenOf pd_25 rfl) rfl (by show 2 * 0 + _ ≤ _; exact Nat.le_of_eq rfl) (hb hby at_69) (fun _ _ => ⟨rfl, e104, (by decide : 3 + 1 ≤ _), (by decide : 11 + 6 ≤ _)⟩)
      dsimp only [Pt.U, Pt.locs, Pt.cells, Pt.slots] at X111 l111 y111 z111 st111 hQ111
      subst l111 y111 z111
      obtain ⟨t111, rfl, N111q, hq111⟩ := hQ111
      have N111 := Fr.app N95 N111q
      obtain ⟨K111, hs111, hp111⟩ := hq111
      have g_t111 : n0 ≤ t111 := Nat.le_trans Zs110 hs111
      have ne_b1_t111 : b1 ≠ t111 := Nat.ne_of_lt (Nat.lt_of_lt_of_le (own_Y_lt F106_P) hs111)
      have ne_b99_t111 : b99 ≠ t111 := Nat.ne_of_lt (Nat.lt_of_lt_of_le F107_E.lt hs111)
      have ne_b104_t111 : b104 ≠ t111 := Nat.ne_of_lt (Nat.lt_of_lt_of_le A104.lt hs111)
      have F112_Z : own_SS Z T111.heap n0 z1 fm := own_SS_keep F105_Z K111 own_al0
      have F113_P : own_Y .char Z T111.heap b1 6 GG95 := own_Y_keep F106_P K111 nin0
      have F114_E : Exa Z T111.heap b99 "com/example/supplant/supplant/automata/Symbol" := F107_E.keep K111
      have F115_text : Fld Z T111.heap b99 "com/example/supplant/supplant/automata/Symbol" "text" "Ljava/lang/String;" .null := F108_text.keep K111 nin0
      have F116_E : Exa Z T111.heap b104 "java/lang/String" := A104.keep K111
      have F117_coder : Fld Z T111.heap b104 "java/lang/String" "coder" "B" (.int (0 : Int32)) := F_coder_b104.keep K111 nin0
      have F118_value : Fld Z T111.heap b104 "java/lang/String" "value" "[B" .null := F_value_b104.keep K111 nin0
      have hkc119 := Nat.le_trans hkc109 K111.1
      have Zs120 : n0 ≤ T111.heap.size := Nat.le_trans Zs110 K111.1
      refine own_st ?_ st111
      show own_G p.tables e below _ _ (T111.setTop (mkF m 72 #[.val (.int p0), .val (.int p1), .val (.int p2), .val (.int p3), .val (.int ((1 : Int32) + ((p3 &&& (2147483647 : Int32)) - ((p3 &&& (2147483647 : Int32)) / (3 : Int32)) * (3 : Int32)))), .val (.ref b1), .val (.int (own_uns (((([] : List (Int32 × Option Int32)) ++ [own_sym p0]) ++ [own_sym p1]) ++ [own_sym p2])).length.toInt32), .unset, .unset] [(.ref t111), (.ref b104), (.ref b104), (.ref b99), (.ref b99)]))
      obtain ⟨_, _, ⟨T121, L121, k121, n121⟩, -, X121, ⟨Lc121, hQ121, l121, y121, z121⟩, st121⟩ := X111.specialBack hx (y := (⟨"java/lang/String", "<init>", "([C)V"⟩ : MethodName)) rfl hown (mvT hZ (hw _ (List.mem_of_getElem? (i := 18) rfl))) (mvT hZ (hw _ (List.mem_of_getElem? (i := 19) rfl))) (mvT hZ (hw _ (List.mem_of_getElem? (i := 20) rfl))) (by decide) (backOf (W := 3) (rm3 l Z _ hw [] b104 t111 z1 fm (own_uns (((([] : List (Int32 × Option Int32)) ++ [own_sym p0]) ++ [own_sym p1]) ++ [own_sym p2])).length GG95 (.int (0 : Int32)) .null T111.heap n0 Zs120 g_b104 F112_Z F116_E F117_coder F118_value hp111 hz1 (own_uns_pos _ _) (Nat.le_trans (own_uns_len _).2 (show 2 * 3 ≤ 6 by decide)) (fun i hi => by rw [hG95 i hi]; exact own_uns_isC _ (own_goodS (own_goodS (own_goodS own_good0 p0) p1) p2) i hi) (Ne.symm ne_b104_t111)) hZ (hw _ (List.mem_of_getElem? (i := 20) rfl)) (hw _ (List.mem_of_getElem? (i := 14) rfl)) (by decide) (by decide)) (g := (mkF m 72 #[.val (.int p0), .val (.int p1), .val (.int p2), .val (.int p3), .val (.int ((1 : Int32) + ((p3 &&& (2147483647 : Int32)) - ((p3 &&& (2147483647 : Int32)) / (3 : Int32)) * (3 : Int32)))), .val (.ref b1), .val (.int (own_uns (((([] : List (Int32 × Option Int32)) ++ [own_sym p0]) ++ [own_sym p1]) ++ [own_sym p2])).length.toInt32), .unset, .unset] [(.ref t111), (.ref b104), (.ref b104), (.ref b99), (.ref b99)])) rfl (by rw [hml]; rfl) (Steps.refl _) (a := b104) (argsL := [(.ref t111)]) (rest := [(.ref b104), (.ref b99), (.ref b99)]) (lenOf pd_26 rfl) rfl (by show 2 * 0 + _ ≤ _; exact Nat.le_of_eq rfl) (hb hby at_72) (fun _ _ => ⟨rfl, rfl, (by decide : 4 + 2 ≤ _), (by decide : 17 + 18 ≤ _)⟩)
      dsimp only [Pt.U, Pt.locs, Pt.cells, Pt.slots] at X121 l121 y121 z121 st121 hQ121
      subst l121 y121 z121
      obtain ⟨rfl, N121q, hq121⟩ := hQ121
      have N121 := Fr.app N111 N121q
      obtain ⟨K121, t121, cd121, NN121, gg121, hs121, hne121, Fc121, Fv121, Yb121, hD121⟩ := hq121
      have g_t121 : n0 ≤ t121 := Nat.le_trans Zs120 hs121
      have ne_b1_t121 : b1 ≠ t121 := Nat.ne_of_lt (Nat.lt_of_lt_of_le (own_Y_lt F113_P) hs121)
      have ne_b99_t121 : b99 ≠ t121 := Nat.ne_of_lt (Nat.lt_of_lt_of_le F114_E.lt hs121)
      have ne_t111_t121 : t111 ≠ t121 := Nat.ne_of_lt (Nat.lt_of_lt_of_le (own_Y_lt hp111) hs121)
      have F122_Z : own_SS Z T121.heap n0 z1 fm := own_SS_keep F112_Z K121 (own_alS g_b104 own_al0)
      have F123_P : own_Y .char Z T121.heap b1 6 GG95 := own_Y_keep F113_P K121 (ninS ne_b1_b104 nin0)
      have F124_E : Exa Z T121.heap b99 "com/example/supplant/supplant/automata/Symbol" := F114_E.keep K121
      have F125_text : Fld Z T121.heap b99 "com/example/supplant/supplant/automata/Symbol" "text" "Ljava/lang/String;" .null := F115_text.keep K121 (ninS ne_b99_b104 nin0)
      have F126_E : Exa Z T121.heap b104 "java/lang/String" := F116_E.keep K121
      have F127_P : own_Y .char Z T121.heap t111 (own_uns (((([] : List (Int32 × Option Int32)) ++ [own_sym p0]) ++ [own_sym p1]) ++ [own_sym p2])).length GG95 := own_Y_keep hp111 K121 (ninS (Ne.symm ne_b104_t111) nin0)
      have hkc128 := Nat.le_trans hkc119 K121.1
      have Zs129 : n0 ≤ T121.heap.size := Nat.le_trans Zs120 K121.1
      have hT121 : own_T GG95 (own_uns (((([] : List (Int32 × Option Int32)) ++ [own_sym p0]) ++ [own_sym p1]) ++ [own_sym p2])).length 0 (((([] : List (Int32 × Option Int32)) ++ [own_sym p0]) ++ [own_sym p1]) ++ [own_sym p2]) := ⟨Nat.zero_add _, fun i hi => by rw [Nat.zero_add]; exact hG95 i hi, (own_goodS (own_goodS (own_goodS own_good0 p0) p1) p2)⟩
      refine own_st ?_ (fun t_ k_ => st121.trans k_)
      show own_G p.tables e below _ _ (T121.setTop (mkF m 75 #[.val (.int p0), .val (.int p1), .val (.int p2), .val (.int p3), .val (.int ((1 : Int32) + ((p3 &&& (2147483647 : Int32)) - ((p3 &&& (2147483647 : Int32)) / (3 : Int32)) * (3 : Int32)))), .val (.ref b1), .val (.int (own_uns (((([] : List (Int32 × Option Int32)) ++ [own_sym p0]) ++ [own_sym p1]) ++ [own_sym p2])).length.toInt32), .unset, .unset] [(.ref b104), (.ref b99), (.ref b99)]))
      obtain ⟨_, _, ⟨T130, L130, k130, n130⟩, -, X130, hSq130, hgq130, ⟨Lc130, hQ130, l130, y130, z130⟩, st130⟩ := X121.specialBackS hx (y := (⟨"com/example/supplant/supplant/automata/Symbol", "<init>", "(Ljava/lang/String;)V"⟩ : MethodName)) rfl hown (mvT hZ (hw _ (List.mem_of_getElem? (i := 63) rfl))) (mvT hZ (hw _ (List.mem_of_getElem? (i := 64) rfl))) (mvT hZ (hw _ (List.mem_of_getElem? (i := 65) rfl))) (by decide) (backOfS (W := 1) (rm14 l Z _ hw [] b99 b104 z1 fm cd121 t121 (own_uns (((([] : List (Int32 × Option Int32)) ++ [own_sym p0]) ++ [own_sym p1]) ++ [own_sym p2])).length NN121 gg121 GG95 (((([] : List (Int32 × Option Int32)) ++ [own_sym p0]) ++ [own_sym p1]) ++ [own_sym p2]) .null T121.heap n0 Zs129 g_b99 F122_Z F124_E F125_text F126_E Fc121 Fv121 Yb121 hz1 rf_fm hD121 hT121 (own_uns_pos _ _)) hZ (hw _ (List.mem_of_getElem? (i := 65) rfl)) (hw _ (List.mem_of_getElem? (i := 11) rfl)) (by decide) (by decide)) (g := (mkF m 75 #[.val (.int p0), .val (.int p1), .val (.int p2), .val (.int p3), .val (.int ((1 : Int32) + ((p3 &&& (2147483647 : Int32)) - ((p3 &&& (2147483647 : Int32)) / (3 : Int32)) * (3 : Int32)))), .val (.ref b1), .val (.int (own_uns (((([] : List (Int32 × Option Int32)) ++ [own_sym p0]) ++ [own_sym p1]) ++ [own_sym p2])).length.toInt32), .unset, .unset] [(.ref b104), (.ref b99), (.ref b99)])) rfl (by rw [hml]; rfl) (Steps.refl _) (a := b99) (argsL := [(.ref b104)]) (rest := [(.ref b99)]) (lenOf pd_27 rfl) rfl (by show 2 * 0 + _ ≤ _; exact Nat.le_of_eq rfl) (hb hby at_75) (fun _ _ => ⟨rfl, rfl, (by decide : 6 + 2 ≤ _), (by decide : 35 + 100 ≤ _)⟩)
      dsimp only [Pt.U, Pt.locs, Pt.cells, Pt.slots] at X130 l130 y130 z130 st130 hQ130
      subst l130 y130 z130
      dsimp only [Pt.U] at hSq130 hgq130
      obtain ⟨X130, hS130, hZ, hown⟩ := rebS hS0 hkc128 X130 hSq130 hgq130 hZ hown
      have hk130 := Nat.le_refl T130.heap.size
      obtain ⟨rfl, N130q, hq130⟩ := hQ130
      have N130 := Fr.app N121 N130q
      obtain ⟨K130, Ft130⟩ := hq130
      have F131_Z : own_SS Z T130.heap n0 z1 fm := own_SS_keep F122_Z K130 (own_alS g_b99 own_al0)
      have F132_E : Exa Z T130.heap b99 "com/example/supplant/supplant/automata/Symbol" := F124_E.keep K130
      have F133_E : Exa Z T130.heap b104 "java/lang/String" := F126_E.keep K130
      have F134_coder : Fld Z T130.heap b104 "java/lang/String" "coder" "B" (.int cd121) := Fc121.keep K130 (ninS (Ne.symm ne_b99_b104) nin0)
      have F135_value : Fld Z T130.heap b104 "java/lang/String" "value" "[B" (.ref t121) := Fv121.keep K130 (ninS (Ne.symm ne_b99_b104) nin0)
      have F136_P : own_Y .byte Z T130.heap t121 NN121 gg121 := own_Y_keep Yb121 K130 (ninS (Ne.symm ne_b99_t121) nin0)
      have hkc137 := Nat.le_trans hkc128 K130.1
      have Zs138 : n0 ≤ T130.heap.size := Nat.le_trans Zs129 K130.1
      refine own_st ?_ (fun t_ k_ => st130.trans k_)
      show own_G p.tables e below _ _ (T130.setTop (mkF m 78 #[.val (.int p0), .val (.int p1), .val (.int p2), .val (.int p3), .val (.int ((1 : Int32) + ((p3 &&& (2147483647 : Int32)) - ((p3 &&& (2147483647 : Int32)) / (3 : Int32)) * (3 : Int32)))), .val (.ref b1), .val (.int (own_uns (((([] : List (Int32 × Option Int32)) ++ [own_sym p0]) ++ [own_sym p1]) ++ [own_sym p2])).length.toInt32), .unset, .unset] [(.ref b99)]))
      refine own_st ?_ (fun t_ k_ => XS.astore X130.here hx rfl (hb hby at_78) rfl rfl (l' := #[.val (.int p0), .val (.int p1), .val (.int p2), .val (.int p3), .val (.int ((1 : Int32) + ((p3 &&& (2147483647 : Int32)) - ((p3 &&& (2147483647 : Int32)) / (3 : Int32)) * (3 : Int32)))), .val (.ref b1), .val (.int (own_uns (((([] : List (Int32 × Option Int32)) ++ [own_sym p0]) ++ [own_sym p1]) ++ [own_sym p2])).length.toInt32), .val (.ref b99), .unset]) rfl k_)
      show own_G p.tables e below _ _ (T130.setTop (mkF m 80 #[.val (.int p0), .val (.int p1), .val (.int p2), .val (.int p3), .val (.int ((1 : Int32) + ((p3 &&& (2147483647 : Int32)) - ((p3 &&& (2147483647 : Int32)) / (3 : Int32)) * (3 : Int32)))), .val (.ref b1), .val (.int (own_uns (((([] : List (Int32 × Option Int32)) ++ [own_sym p0]) ++ [own_sym p1]) ++ [own_sym p2])).length.toInt32), .val (.ref b99), .unset] []))
      refine own_st ?_ (fun t_ k_ => XS.iload X130.here hx rfl (hb hby at_80) rfl k_)
      show own_G p.tables e below _ _ (T130.setTop (mkF m 82 #[.val (.int p0), .val (.int p1), .val (.int p2), .val (.int p3), .val (.int ((1 : Int32) + ((p3 &&& (2147483647 : Int32)) - ((p3 &&& (2147483647 : Int32)) / (3 : Int32)) * (3 : Int32)))), .val (.ref b1), .val (.int (own_uns (((([] : List (Int32 × Option Int32)) ++ [own_sym p0]) ++ [own_sym p1]) ++ [own_sym p2])).length.toInt32), .val (.ref b99), .unset] [(.int ((1 : Int32) + ((p3 &&& (2147483647 : Int32)) - ((p3 &&& (2147483647 : Int32)) / (3 : Int32)) * (3 : Int32))))]))
      refine own_st ?_ (fun t_ k_ => XS.iconst X130.here hx rfl (hb hby at_82) k_)
      show own_G p.tables e below _ _ (T130.setTop (mkF m 83 #[.val (.int p0), .val (.int p1), .val (.int p2), .val (.int p3), .val (.int ((1 : Int32) + ((p3 &&& (2147483647 : Int32)) - ((p3 &&& (2147483647 : Int32)) / (3 : Int32)) * (3 : Int32)))), .val (.ref b1), .val (.int (own_uns (((([] : List (Int32 × Option Int32)) ++ [own_sym p0]) ++ [own_sym p1]) ++ [own_sym p2])).length.toInt32), .val (.ref b99), .unset] [(.int (1 : Int32)), (.int ((1 : Int32) + ((p3 &&& (2147483647 : Int32)) - ((p3 &&& (2147483647 : Int32)) / (3 : Int32)) * (3 : Int32))))]))
      refine own_st ?_ (fun t_ k_ => XS.icmpNo X130.here hx rfl (hb hby at_83) rfl (tlt (own_g1 hc28)).2.2.2 k_)
      show own_G p.tables e below _ _ (T130.setTop (mkF m 86 #[.val (.int p0), .val (.int p1), .val (.int p2), .val (.int p3), .val (.int ((1 : Int32) + ((p3 &&& (2147483647 : Int32)) - ((p3 &&& (2147483647 : Int32)) / (3 : Int32)) * (3 : Int32)))), .val (.ref b1), .val (.int (own_uns (((([] : List (Int32 × Option Int32)) ++ [own_sym p0]) ++ [own_sym p1]) ++ [own_sym p2])).length.toInt32), .val (.ref b99), .unset] []))
      refine own_st ?_ (fun t_ k_ => XS.iconst X130.here hx rfl (hb hby at_86) k_)
      show own_G p.tables e below _ _ (T130.setTop (mkF m 87 #[.val (.int p0), .val (.int p1), .val (.int p2), .val (.int p3), .val (.int ((1 : Int32) + ((p3 &&& (2147483647 : Int32)) - ((p3 &&& (2147483647 : Int32)) / (3 : Int32)) * (3 : Int32)))), .val (.ref b1), .val (.int (own_uns (((([] : List (Int32 × Option Int32)) ++ [own_sym p0]) ++ [own_sym p1]) ++ [own_sym p2])).length.toInt32), .val (.ref b99), .unset] [(.int (1 : Int32))]))
      refine own_st ?_ (fun t_ k_ => XS.goto X130.here hx rfl (pc0 := 87) (pc' := 91) rfl (hb hby at_87) (by decide) (by decide) k_)
      show own_G p.tables e below _ _ (T130.setTop (mkF m 91 #[.val (.int p0), .val (.int p1), .val (.int p2), .val (.int p3), .val (.int ((1 : Int32) + ((p3 &&& (2147483647 : Int32)) - ((p3 &&& (2147483647 : Int32)) / (3 : Int32)) * (3 : Int32)))), .val (.ref b1), .val (.int (own_uns (((([] : List (Int32 × Option Int32)) ++ [own_sym p0]) ++ [own_sym p1]) ++ [own_sym p2])).length.toInt32), .val (.ref b99), .unset] [(.int (1 : Int32))]))
      refine own_st ?_ (fun t_ k_ => XS.istore X130.here hx rfl (hb hby at_91) rfl (l' := #[.val (.int p0), .val (.int p1), .val (.int p2), .val (.int p3), .val (.int ((1 : Int32) + ((p3 &&& (2147483647 : Int32)) - ((p3 &&& (2147483647 : Int32)) / (3 : Int32)) * (3 : Int32)))), .val (.ref b1), .val (.int (own_uns (((([] : List (Int32 × Option Int32)) ++ [own_sym p0]) ++ [own_sym p1]) ++ [own_sym p2])).length.toInt32), .val (.ref b99), .val (.int (1 : Int32))]) rfl k_)
      show own_G p.tables e below _ _ (T130.setTop (mkF m 93 #[.val (.int p0), .val (.int p1), .val (.int p2), .val (.int p3), .val (.int ((1 : Int32) + ((p3 &&& (2147483647 : Int32)) - ((p3 &&& (2147483647 : Int32)) / (3 : Int32)) * (3 : Int32)))), .val (.ref b1), .val (.int (own_uns (((([] : List (Int32 × Option Int32)) ++ [own_sym p0]) ++ [own_sym p1]) ++ [own_sym p2])).length.toInt32), .val (.ref b99), .val (.int (1 : Int32))] []))
      refine own_st ?_ (fun t_ k_ => XS.aload X130.here hx rfl (hb hby at_93) rfl rfl k_)
      show own_G p.tables e below _ _ (T130.setTop (mkF m 95 #[.val (.int p0), .val (.int p1), .val (.int p2), .val (.int p3), .val (.int ((1 : Int32) + ((p3 &&& (2147483647 : Int32)) - ((p3 &&& (2147483647 : Int32)) / (3 : Int32)) * (3 : Int32)))), .val (.ref b1), .val (.int (own_uns (((([] : List (Int32 × Option Int32)) ++ [own_sym p0]) ++ [own_sym p1]) ++ [own_sym p2])).length.toInt32), .val (.ref b99), .val (.int (1 : Int32))] [(.ref b99)]))
      obtain ⟨cq139, kq139, q139a, q139b, q139c⟩ := isOf hZ rfl F132_E
      obtain ⟨_, _, ⟨T139, L139, k139, n139⟩, -, X139, ⟨Lc139, hQ139, l139, y139, z139⟩, st139⟩ := X130.virtualBack hx (y := (⟨"com/example/supplant/supplant/automata/Symbol", "isMultiCharacter", "()Z"⟩ : MethodName)) (z := (⟨"com/example/supplant/supplant/automata/Symbol", "isMultiCharacter", "()Z"⟩ : MethodName)) hown (mvT hZ (hw _ (List.mem_of_getElem? (i := 136) rfl))) (mvT hZ (hw _ (List.mem_of_getElem? (i := 137) rfl))) (notFace_of_selects (args := #[]) (mvT hZ (hw _ (List.mem_of_getElem? (i := 139) rfl)))) (mvT hZ (hw _ (List.mem_of_getElem? (i := 139) rfl))) (mvT hZ (hw _ (List.mem_of_getElem? (i := 138) rfl))) (by decide) (backOf (W := 0) (rm30 l Z _ hw [] b99 z1 fm cd121 t121 (own_uns (((([] : List (Int32 × Option Int32)) ++ [own_sym p0]) ++ [own_sym p1]) ++ [own_sym p2])).length NN121 gg121 GG95 b104 (((([] : List (Int32 × Option Int32)) ++ [own_sym p0]) ++ [own_sym p1]) ++ [own_sym p2]) (1 : Int32) T130.heap n0 Zs138 F131_Z Ft130 F133_E F134_coder F135_value F136_P hz1 hD121 hT121 (show own_mc 3 = (1 : Int32) by decide)) hZ (hw _ (List.mem_of_getElem? (i := 140) rfl)) (hw _ (List.mem_of_getElem? (i := 11) rfl)) (by decide) (by decide)) q139a q139c (g := (mkF m 95 #[.val (.int p0), .val (.int p1), .val (.int p2), .val (.int p3), .val (.int ((1 : Int32) + ((p3 &&& (2147483647 : Int32)) - ((p3 &&& (2147483647 : Int32)) / (3 : Int32)) * (3 : Int32)))), .val (.ref b1), .val (.int (own_uns (((([] : List (Int32 × Option Int32)) ++ [own_sym p0]) ++ [own_sym p1]) ++ [own_sym p2])).length.toInt32), .val (.ref b99), .val (.int (1 : Int32))] [(.ref b99)])) rfl (by rw [hml]; rfl) (Steps.refl _) (argsL := []) (rest := []) (lenOf pd_5 rfl) rfl (by show 2 * 0 + _ ≤ _; exact Nat.le_of_eq rfl) (hb hby at_95) (fun _ _ => ⟨rfl, rfl, (by decide : 8 + 0 ≤ _), (by decide : 135 + 0 ≤ _)⟩)
      dsimp only [Pt.U, Pt.locs, Pt.cells, Pt.slots] at X139 l139 y139 z139 st139 hQ139
      subst l139 y139 z139
      obtain ⟨rfl, N139q, e139⟩ := hQ139
      have N139 := Fr.app N130 N139q
      refine own_st ?_ (fun t_ k_ => st139.trans k_)
      show own_G p.tables e below _ _ (T139.setTop (mkF m 98 #[.val (.int p0), .val (.int p1), .val (.int p2), .val (.int p3), .val (.int ((1 : Int32) + ((p3 &&& (2147483647 : Int32)) - ((p3 &&& (2147483647 : Int32)) / (3 : Int32)) * (3 : Int32)))), .val (.ref b1), .val (.int (own_uns (((([] : List (Int32 × Option Int32)) ++ [own_sym p0]) ++ [own_sym p1]) ++ [own_sym p2])).length.toInt32), .val (.ref b99), .val (.int (1 : Int32))] [(.int (1 : Int32))]))
      refine own_st ?_ (fun t_ k_ => XS.iload X139.here hx rfl (hb hby at_98) rfl k_)
      show own_G p.tables e below _ _ (T139.setTop (mkF m 100 #[.val (.int p0), .val (.int p1), .val (.int p2), .val (.int p3), .val (.int ((1 : Int32) + ((p3 &&& (2147483647 : Int32)) - ((p3 &&& (2147483647 : Int32)) / (3 : Int32)) * (3 : Int32)))), .val (.ref b1), .val (.int (own_uns (((([] : List (Int32 × Option Int32)) ++ [own_sym p0]) ++ [own_sym p1]) ++ [own_sym p2])).length.toInt32), .val (.ref b99), .val (.int (1 : Int32))] [(.int (1 : Int32)), (.int (1 : Int32))]))
      refine own_st ?_ (fun t_ k_ => XS.icmpNo X139.here hx rfl (hb hby at_100) rfl (teq (by decide : (1 : Int32) = (1 : Int32))).2 k_)
      show own_G p.tables e below _ _ (T139.setTop (mkF m 103 #[.val (.int p0), .val (.int p1), .val (.int p2), .val (.int p3), .val (.int ((1 : Int32) + ((p3 &&& (2147483647 : Int32)) - ((p3 &&& (2147483647 : Int32)) / (3 : Int32)) * (3 : Int32)))), .val (.ref b1), .val (.int (own_uns (((([] : List (Int32 × Option Int32)) ++ [own_sym p0]) ++ [own_sym p1]) ++ [own_sym p2])).length.toInt32), .val (.ref b99), .val (.int (1 : Int32))] []))
      refine own_st ?_ (fun t_ k_ => XS.iconst X139.here hx rfl (hb hby at_103) k_)
      show own_G p.tables e below _ _ (T139.setTop (mkF m 104 #[.val (.int p0), .val (.int p1), .val (.int p2), .val (.int p3), .val (.int ((1 : Int32) + ((p3 &&& (2147483647 : Int32)) - ((p3 &&& (2147483647 : Int32)) / (3 : Int32)) * (3 : Int32)))), .val (.ref b1), .val (.int (own_uns (((([] : List (Int32 × Option Int32)) ++ [own_sym p0]) ++ [own_sym p1]) ++ [own_sym p2])).length.toInt32), .val (.ref b99), .val (.int (1 : Int32))] [(.int (1 : Int32))]))
      refine own_st ?_ (fun t_ k_ => XS.goto X139.here hx rfl (pc0 := 104) (pc' := 108) rfl (hb hby at_104) (by decide) (by decide) k_)
      show own_G p.tables e below _ _ (T139.setTop (mkF m 108 #[.val (.int p0), .val (.int p1), .val (.int p2), .val (.int p3), .val (.int ((1 : Int32) + ((p3 &&& (2147483647 : Int32)) - ((p3 &&& (2147483647 : Int32)) / (3 : Int32)) * (3 : Int32)))), .val (.ref b1), .val (.int (own_uns (((([] : List (Int32 × Option Int32)) ++ [own_sym p0]) ++ [own_sym p1]) ++ [own_sym p2])).length.toInt32), .val (.ref b99), .val (.int (1 : Int32))] [(.int (1 : Int32))]))
      exact own_retNW X139 hx hlk hS130 (by rw [e139]; exact hk130) (t := .boolean) hret (by simp) (hb hby at_108) (by decide) (by decide) (z' := (1 : Int32)) rfl ⟨rfl, N139⟩
set_option maxRecDepth 65536 in
set_option maxHeartbeats 40000000 in
theorem comes_1 {Post : Tables → Env → Array Value → State → Outcome → State → Prop} (hpost : ∀ tb e args s v u, (limb_1_1.after args s (.returned v) u = true ∧ limb_1_2.after args s (.returned v) u = true ∧ True) → ReturnedEndW s (.returned v) u (Jvm.fieldLocs frame_1_writes args s ++ Jvm.arrayLocs frame_1_arrays args s ++ Jvm.staticLocs frame_1_statics s) 24 1216 → Post tb e args s (.returned v) u) :
    ArmFor flags0 classFile x code maxLocals ret World_1 tables_1 room_1 Calls_1 rest_1 Pre_1 Post := by
  intro l hfl _ _ p e ha hc hk s m args below hf hA hF happ hP
  obtain ⟨hcalls, hrest, hpre⟩ := hP
  obtain ⟨-, -, -, hnamed, -, -, -, hat⟩ := (Spec.applies_iff hf).mp happ
  obtain ⟨hg, hn⟩ := and_e (Cond.before_iff.mp (show (Jvm.Cond.and given_1 narrow_1).before args s = true from hpre))
  obtain ⟨hcount, hgs0⟩ := and_e hg
  obtain ⟨w0, w1, w2, w3, rfl⟩ : ∃ w0 w1 w2 w3 : Value, args = #[w0, w1, w2, w3] := by
    have hs : args.size = 4 := by simpa [Cond.value, given_1] using hcount
    obtain ⟨L⟩ := args
    match L, hs with
    | [w0, w1, w2, w3], _ => exact ⟨w0, w1, w2, w3, rfl⟩
  have hw := fun d (hd : d ∈ tables_1) => atoms_spec (ws := Jvm.Cond.code x code maxLocals ret :: tables_1) hat d (List.mem_cons_of_mem _ hd)
  obtain ⟨hv0, hgs1⟩ := and_e hgs0
  obtain ⟨i0, ei0⟩ := is_v hv0
  obtain rfl : w0 = (.int i0) := Option.some.inj ei0
  obtain ⟨hv1, hgs2⟩ := and_e hgs1
  obtain ⟨i1, ei1⟩ := is_v hv1
  obtain rfl : w1 = (.int i1) := Option.some.inj ei1
  obtain ⟨hv2, hgs3⟩ := and_e hgs2
  obtain ⟨i2, ei2⟩ := is_v hv2
  obtain rfl : w2 = (.int i2) := Option.some.inj ei2
  have hv3 := hgs3
  obtain ⟨i3, ei3⟩ := is_v hv3
  obtain rfl : w3 = (.int i3) := Option.some.inj ei3
  obtain ⟨hsets, hown0⟩ := atoms_of _ (rest_1_c_eq ▸ (show rest_1_c.before _ s = true from hrest))
  obtain ⟨z1, ez1⟩ := is_v (Cond.before_iff.mp (hsets _ (List.mem_of_getElem? (i := 1) rfl)))
  have S1 := Sta.start ez1 (Or.inl (hsets _ (List.mem_of_getElem? (i := 0) rfl)))
  have hz1 : ¬ z1 = 0 := own_nz ez1 (hsets _ (List.mem_of_getElem? (i := 2) rfl))
  obtain ⟨fm, efm, rf1⟩ := isR_v (Cond.before_iff.mp (hsets _ (List.mem_of_getElem? (i := 8) rfl)))
  have S2 := Sta.start efm (Or.inl (hsets _ (List.mem_of_getElem? (i := 7) rfl)))
  have S3 := Sta.start (own_steq (Cond.before_iff.mp (hsets _ (List.mem_of_getElem? (i := 12) rfl)))) (Or.inl (hsets _ (List.mem_of_getElem? (i := 11) rfl)))
  have S4 := Sta.start (own_steq (Cond.before_iff.mp (hsets _ (List.mem_of_getElem? (i := 15) rfl)))) (Or.inl (hsets _ (List.mem_of_getElem? (i := 14) rfl)))
  have S5 := Sta.start (own_steq (Cond.before_iff.mp (hsets _ (List.mem_of_getElem? (i := 18) rfl)))) (Or.inl (hsets _ (List.mem_of_getElem? (i := 17) rfl)))
  have SS : own_SS s s.heap s.heap.size z1 fm := ⟨own_Su_of S1, own_Su_of S2, own_Su_of S3, own_Su_of S4, own_Su_of S5⟩
  obtain ⟨n, o, h1, h2, h3, _, L, rfl, ⟨rfl, N⟩, hq⟩ := rm0 l s _ hw tables_1 i0 i1 i2 i3 z1 fm s.heap s.heap.size (Nat.le_refl _) SS hz1 rf1 p e ha hc hk s m _ below hf ((Spec.applies_iff_loose hf).mp happ).1 ⟨rfl, State.Warmed39.refl s, rfl⟩ trivial
  skip
  refine ⟨n, _, h1, h2, h3, hpost _ _ _ _ _ _ ⟨Cond.after_iff.mpr rfl, Cond.after_iff.mpr (eq_i res_at (Term.int_eval (1)) rfl), trivial⟩ ⟨⟨_, rfl⟩, hq.2.1, hq.2.2.1, (hq.2.2.2.sift fun y hy => Or.inr (N y hy)).mono (by decide) (by decide)⟩⟩
theorem main_1_1 : Claimed_1_1 := comes_1 fun _ _ _ _ _ _ h hF => ⟨h.1, hF⟩
theorem main_1_2 : Claimed_1_2 := comes_1 fun _ _ _ _ _ _ h hF => ⟨h.2.1, hF⟩
end Jvm.Pilot.@@N@@
namespace Jvm.Pilot.@@N@@
open Jvm Jvm.ClassFile Sem Op Lib Jvm.Free Jvm.Stand Jvm.Pilot.@@N@@.Jvm.D
/-! MADE BY PROGRAM (witnessworld.py) out of the Statement's table words and the real class files: 23 classes; the members and pool entries that the words name. The judged class is class 1, her method 1. -/
namespace start1
open Jvm.ClassFile
def u (s : String) : CpInfo := .utf8 (stringToUtf16 s)
/-- a pool by its gaps: so many unusable entries, then the entry; so many at the end -/
def gap : Nat → List CpInfo → List CpInfo
  | 0, r => r
  | n + 1, r => .unusable :: gap n r
def poolList (es : List (Nat × CpInfo)) (last : Nat) : List CpInfo := es.foldr (fun e r => gap e.1 (e.2 :: r)) (gap last [])
def pool (es : List (Nat × CpInfo)) (last : Nat) : Array CpInfo := ⟨poolList es last⟩
def fileOf (pool : Array CpInfo) (this : Nat) (attrs : Array Attribute := #[]) (ms : Array MethodInfo := #[]) (fl : Nat := 33) (sup : Nat := 0) (ifs : Array Nat := #[]) (fds : Array FieldInfo := #[]) : ClassFile where
  minorVersion := 0
  majorVersion := 65
  constantPool := pool
  accessFlags := fl
  thisClass := this
  superClass := sup
  interfaces := ifs
  fields := fds
  methods := ms
  attributes := attrs
def plain (name : String) (sup : Option ClassId) : Class where
  name := name
  kind := .ordinary
  loader := none
  accessFlags := 33
  super := sup
  interfaces := #[]
  cf := none
  fields := #[]
  methods := #[]
  instanceTypes := #[]
  staticTypes := #[]
  resolved := #[]
  callSites := []
  init := .initialized
  statics := none
  mirror := none

def pool0 : Array CpInfo := pool [(5, u "<init>"), (0, u "()V"), (1, .class_ 10), (1, u "java/lang/Object")] 113

def k0c0 : Code := { maxStack := 0, maxLocals := 1, code := object_method_1_code, exceptionTable := #[], attributes := #[] }
def k0m0 : Method := { name := "<init>", desc := "()V", sig := { parameters := [], returnType := none }, accessFlags := 1, code := some k0c0 }
/-- java/lang/Object -/
def k0 : Class := { plain "java/lang/Object" none with
  accessFlags := 33
  interfaces := #[]
  cf := some (fileOf pool0 8 #[] #[{ accessFlags := 1, nameIndex := 5, descriptorIndex := 6, attributes := #[] }] 33 0 #[] #[])
  fields := #[]
  methods := #[k0m0]
  instanceTypes := #[]
  staticTypes := #[]
  resolved := Array.replicate 124 none
  statics := none }

def pool1 : Array CpInfo := pool [(2, .class_ 4), (1, u "java/lang/Object"), (0, u "<init>"), (0, u "()V"), (0, .integer 2147483647), (0, .methodref 9 10), (0, .class_ 11), (0, .nameAndType 12 13), (0, u "com/example/supplant/supplant/automata/SymbolIsMultiCharacterPinLaw"), (0, u "put"), (0, u "([CII)I"), (0, .class_ 15), (0, u "com/example/supplant/supplant/automata/Symbol"), (0, .class_ 17), (0, u "java/lang/String"), (0, .methodref 9 19), (0, .nameAndType 20 21), (0, u "take"), (0, u "([CI)[C"), (0, .methodref 16 23), (0, .nameAndType 5 24), (0, u "([C)V"), (0, .methodref 14 26), (0, .nameAndType 5 27), (0, u "(Ljava/lang/String;)V"), (0, .methodref 14 29), (0, .nameAndType 30 31), (0, u "isMultiCharacter"), (0, u "()Z"), (0, .integer 55296), (0, .integer 56320), (0, .integer 65535), (0, .integer 57343), (2, u "law"), (0, u "(IIII)Z")] 5

def k1m0 : Method := { name := "<init>", desc := "()V", sig := { parameters := [], returnType := none }, accessFlags := 1, code := none }
def k1c1 : Code := { maxStack := 6, maxLocals := 9, code := code, exceptionTable := #[], attributes := #[] }
def k1m1 : Method := { name := "law", desc := "(IIII)Z", sig := { parameters := [.int, .int, .int, .int], returnType := some .boolean }, accessFlags := 9, code := some k1c1 }
def k1c2 : Code := { maxStack := 5, maxLocals := 4, code := method_3_code, exceptionTable := #[], attributes := #[] }
def k1m2 : Method := { name := "put", desc := "([CII)I", sig := { parameters := [(.array .char), .int, .int], returnType := some .int }, accessFlags := 10, code := some k1c2 }
def k1c3 : Code := { maxStack := 5, maxLocals := 2, code := method_4_code, exceptionTable := #[], attributes := #[] }
def k1m3 : Method := { name := "take", desc := "([CI)[C", sig := { parameters := [(.array .char), .int], returnType := some (.array .char) }, accessFlags := 10, code := some k1c3 }
/-- com/example/supplant/supplant/automata/SymbolIsMultiCharacterPinLaw -/
def k1 : Class := { plain "com/example/supplant/supplant/automata/SymbolIsMultiCharacterPinLaw" (some 0) with
  accessFlags := 49
  interfaces := #[]
  cf := some (fileOf pool1 9 #[] #[{ accessFlags := 1, nameIndex := 5, descriptorIndex := 6, attributes := #[] }, { accessFlags := 9, nameIndex := 38, descriptorIndex := 39, attributes := #[] }, { accessFlags := 10, nameIndex := 12, descriptorIndex := 13, attributes := #[] }, { accessFlags := 10, nameIndex := 20, descriptorIndex := 21, attributes := #[] }] 49 2 #[] #[])
  fields := #[]
  methods := #[k1m0, k1m1, k1m2, k1m3]
  instanceTypes := #[]
  staticTypes := #[]
  resolved := Array.replicate 45 none
  statics := none }

def pool2 : Array CpInfo := pool [(1, .methodref 2 3), (0, .class_ 4), (0, .nameAndType 5 6), (0, u "java/lang/Object"), (0, u "<init>"), (0, u "()V"), (0, .class_ 8), (0, u "java/lang/Record")] 13

def k2c0 : Code := { maxStack := 1, maxLocals := 1, code := jdk_30_method_1_code, exceptionTable := #[], attributes := #[] }
def k2m0 : Method := { name := "<init>", desc := "()V", sig := { parameters := [], returnType := none }, accessFlags := 4, code := some k2c0 }
/-- java/lang/Record -/
def k2 : Class := { plain "java/lang/Record" (some 0) with
  accessFlags := 1057
  interfaces := #[]
  cf := some (fileOf pool2 7 #[] #[{ accessFlags := 4, nameIndex := 5, descriptorIndex := 6, attributes := #[] }] 1057 2 #[] #[])
  fields := #[]
  methods := #[k2m0]
  instanceTypes := #[]
  staticTypes := #[]
  resolved := Array.replicate 22 none
  statics := none }

def pool3 : Array CpInfo := pool [(1, .methodref 2 3), (0, .class_ 4), (0, .nameAndType 5 6), (0, u "java/lang/Record"), (0, u "<init>"), (0, u "()V"), (0, .string 8), (0, u "The text may not be null"), (0, .methodref 10 11), (0, .class_ 12), (0, .nameAndType 13 14), (0, u "java/util/Objects"), (0, u "requireNonNull"), (0, u "(Ljava/lang/Object;Ljava/lang/String;)Ljava/lang/Object;"), (0, .methodref 16 17), (0, .class_ 18), (0, .nameAndType 19 20), (0, u "java/lang/String"), (0, u "isEmpty"), (0, u "()Z"), (6, u "(Ljava/lang/String;)V"), (0, .methodref 16 29), (0, .nameAndType 30 31), (0, u "length"), (0, u "()I"), (0, .methodref 16 33), (0, .nameAndType 34 35), (0, u "charAt"), (0, u "(I)C"), (0, .methodref 37 38), (0, .class_ 39), (0, .nameAndType 40 41), (0, u "java/lang/Character"), (0, u "isHighSurrogate"), (0, u "(C)Z"), (0, .methodref 37 43), (0, .nameAndType 44 41), (0, u "isLowSurrogate"), (0, .methodref 37 46), (0, .nameAndType 47 41), (0, u "isSurrogate"), (4, .fieldref 53 54), (0, .class_ 55), (0, .nameAndType 56 57), (0, u "com/example/supplant/supplant/automata/Symbol"), (0, u "text"), (0, u "Ljava/lang/String;"), (4, .methodref 16 63), (0, .nameAndType 64 65), (0, u "codePointCount"), (0, u "(II)I"), (14, u "isMultiCharacter")] 29

def k3c0 : Code := { maxStack := 3, maxLocals := 4, code := prog_14_method_1_code, exceptionTable := #[], attributes := #[] }
def k3m0 : Method := { name := "<init>", desc := "(Ljava/lang/String;)V", sig := { parameters := [(.object "java/lang/String")], returnType := none }, accessFlags := 1, code := some k3c0 }
def k3c1 : Code := { maxStack := 3, maxLocals := 1, code := prog_14_method_3_code, exceptionTable := #[], attributes := #[] }
def k3m1 : Method := { name := "isMultiCharacter", desc := "()Z", sig := { parameters := [], returnType := some .boolean }, accessFlags := 1, code := some k3c1 }
/-- com/example/supplant/supplant/automata/Symbol -/
def k3 : Class := { plain "com/example/supplant/supplant/automata/Symbol" (some 2) with
  accessFlags := 49
  interfaces := #[]
  cf := some (fileOf pool3 53 #[] #[{ accessFlags := 1, nameIndex := 5, descriptorIndex := 27, attributes := #[] }, { accessFlags := 1, nameIndex := 80, descriptorIndex := 20, attributes := #[] }] 49 2 #[] #[{ accessFlags := 18, nameIndex := 56, descriptorIndex := 57, attributes := #[] }])
  fields := #[{ name := "text", type := (.object "java/lang/String"), accessFlags := 18, slot := 0, constantValue := 0 }]
  methods := #[k3m0, k3m1]
  instanceTypes := #[(.object "java/lang/String")]
  staticTypes := #[]
  resolved := Array.replicate 110 none
  statics := none }

def pool4 : Array CpInfo := pool [(1, .class_ 2), (0, u "java/io/Serializable"), (0, .class_ 4), (0, u "java/lang/Object")] 2

/-- java/io/Serializable -/
def k4 : Class := { plain "java/io/Serializable" (some 0) with
  accessFlags := 1537
  interfaces := #[]
  cf := some (fileOf pool4 1 #[] #[] 1537 3 #[] #[])
  fields := #[]
  methods := #[]
  instanceTypes := #[]
  staticTypes := #[]
  resolved := Array.replicate 7 none
  statics := none }

def pool5 : Array CpInfo := pool [(1, .class_ 2), (0, u "java/lang/Comparable"), (0, .class_ 4), (0, u "java/lang/Object")] 7

/-- java/lang/Comparable -/
def k5 : Class := { plain "java/lang/Comparable" (some 0) with
  accessFlags := 1537
  interfaces := #[]
  cf := some (fileOf pool5 1 #[] #[] 1537 3 #[] #[])
  fields := #[]
  methods := #[]
  instanceTypes := #[]
  staticTypes := #[]
  resolved := Array.replicate 12 none
  statics := none }

def pool6 : Array CpInfo := pool [(2, .class_ 4), (1, u "java/lang/CharSequence"), (42, .class_ 48), (0, u "java/lang/CharSequence$1CodePointIterator"), (10, .class_ 60), (0, u "java/lang/CharSequence$1CharIterator"), (5, .class_ 67), (0, u "java/lang/Object")] 63

/-- java/lang/CharSequence -/
def k6 : Class := { plain "java/lang/CharSequence" (some 0) with
  accessFlags := 1537
  interfaces := #[]
  cf := some (fileOf pool6 2 #[.nestMembers #[47, 59]] #[] 1537 66 #[] #[])
  fields := #[]
  methods := #[]
  instanceTypes := #[]
  staticTypes := #[]
  resolved := Array.replicate 131 none
  statics := none }

def pool7 : Array CpInfo := pool [(1, .class_ 2), (0, u "java/lang/constant/Constable"), (0, .class_ 4), (0, u "java/lang/Object")] 6

/-- java/lang/constant/Constable -/
def k7 : Class := { plain "java/lang/constant/Constable" (some 0) with
  accessFlags := 1537
  interfaces := #[]
  cf := some (fileOf pool7 1 #[] #[] 1537 3 #[] #[])
  fields := #[]
  methods := #[]
  instanceTypes := #[]
  staticTypes := #[]
  resolved := Array.replicate 11 none
  statics := none }

def pool8 : Array CpInfo := pool [(1, .class_ 2), (0, u "java/lang/constant/ConstantDesc"), (0, .class_ 4), (0, u "java/lang/Object")] 32

/-- java/lang/constant/ConstantDesc -/
def k8 : Class := { plain "java/lang/constant/ConstantDesc" (some 0) with
  accessFlags := 1537
  interfaces := #[]
  cf := some (fileOf pool8 1 #[] #[] 1537 3 #[] #[])
  fields := #[]
  methods := #[]
  instanceTypes := #[]
  staticTypes := #[]
  resolved := Array.replicate 37 none
  statics := none }

def pool9 : Array CpInfo := pool [(1, .methodref 2 3), (0, .class_ 4), (0, .nameAndType 5 6), (0, u "java/lang/Object"), (0, u "<init>"), (0, u "()V"), (2, .fieldref 10 11), (0, .class_ 12), (0, .nameAndType 13 14), (0, u "java/lang/String"), (0, u "value"), (0, u "[B"), (0, .fieldref 10 16), (0, .nameAndType 17 18), (0, u "coder"), (0, u "B"), (2, u "hash"), (0, u "I"), (2, u "hashIsZero"), (0, u "Z"), (0, .methodref 10 28), (0, .nameAndType 5 29), (0, u "([CIILjava/lang/Void;)V"), (7, u "(III)I"), (0, .fieldref 10 39), (0, .nameAndType 40 26), (0, u "COMPACT_STRINGS"), (1, .class_ 44), (1, u "java/lang/StringUTF16"), (0, u "compress"), (1, .methodref 42 48), (0, .nameAndType 49 50), (0, u "coderFromArrayLen"), (0, u "([BI)B"), (28, .class_ 81), (1, u "java/util/Objects"), (15, u "([BII)I"), (9, .class_ 109), (1, u "java/lang/StringLatin1"), (32, u "()Z"), (34, .methodref 42 178), (0, .nameAndType 45 179), (0, u "([CII)[B"), (154, u "()I"), (0, .methodref 10 336), (0, .nameAndType 17 337), (0, u "()B"), (25, u "([BI)C"), (27, u "(II)V"), (35, u "(I)C"), (64, .methodref 10 493), (0, .nameAndType 494 142), (0, u "isLatin1"), (0, .methodref 107 496), (0, .nameAndType 497 363), (0, u "charAt"), (0, .methodref 42 496), (2, u "checkIndex"), (3, .methodref 10 506), (0, .nameAndType 507 334), (0, u "length"), (3, .methodref 79 512), (0, .nameAndType 513 37), (0, u "checkFromToIndex"), (0, .methodref 42 515), (0, .nameAndType 516 97), (0, u "codePointCount"), (58, .class_ 576), (0, u "java/lang/CharSequence"), (22, u "CASE_INSENSITIVE_ORDER"), (0, u "Ljava/util/Comparator;"), (35, u "(II)I"), (55, u "isEmpty"), (317, u "([C)V"), (42, .fieldref 1054 1055), (0, .class_ 1056), (0, .nameAndType 1057 1058), (0, u "jdk/internal/util/Preconditions"), (0, u "SIOOBE_FORMATTER"), (0, u "Ljava/util/function/BiFunction;"), (0, .methodref 1054 1060), (0, .nameAndType 501 1061), (0, u "(IILjava/util/function/BiFunction;)I"), (39, u "serialPersistentFields"), (0, u "[Ljava/io/ObjectStreamField;"), (0, .class_ 1104), (0, u "java/lang/String$CaseInsensitiveComparator"), (1, .class_ 1107), (0, u "java/io/Serializable"), (0, .class_ 1109), (0, u "java/lang/Comparable"), (0, .class_ 1111), (0, u "java/lang/constant/Constable"), (0, .class_ 1113), (0, u "java/lang/constant/ConstantDesc"), (2, u "serialVersionUID"), (0, u "J"), (3, u "REPL"), (0, u "C"), (2, u "LATIN1"), (1, u "UTF16")] 323

def k9m0 : Method := { name := "<init>", desc := "()V", sig := { parameters := [], returnType := none }, accessFlags := 1, code := none }
def k9c1 : Code := { maxStack := 5, maxLocals := 2, code := jdk_42_method_3_code, exceptionTable := #[], attributes := #[] }
def k9m1 : Method := { name := "<init>", desc := "([C)V", sig := { parameters := [(.array .char)], returnType := none }, accessFlags := 1, code := some k9c1 }
def k9c2 : Code := { maxStack := 2, maxLocals := 1, code := jdk_42_method_54_code, exceptionTable := #[], attributes := #[] }
def k9m2 : Method := { name := "length", desc := "()I", sig := { parameters := [], returnType := some .int }, accessFlags := 1, code := some k9c2 }
def k9c3 : Code := { maxStack := 1, maxLocals := 1, code := jdk_42_method_55_code, exceptionTable := #[], attributes := #[] }
def k9m3 : Method := { name := "isEmpty", desc := "()Z", sig := { parameters := [], returnType := some .boolean }, accessFlags := 1, code := some k9c3 }
def k9c4 : Code := { maxStack := 2, maxLocals := 2, code := jdk_42_method_56_code, exceptionTable := #[], attributes := #[] }
def k9m4 : Method := { name := "charAt", desc := "(I)C", sig := { parameters := [.int], returnType := some .char }, accessFlags := 1, code := some k9c4 }
def k9c5 : Code := { maxStack := 3, maxLocals := 3, code := jdk_42_method_59_code, exceptionTable := #[], attributes := #[] }
def k9m5 : Method := { name := "codePointCount", desc := "(II)I", sig := { parameters := [.int, .int], returnType := some .int }, accessFlags := 1, code := some k9c5 }
def k9c6 : Code := { maxStack := 4, maxLocals := 6, code := jdk_42_method_149_code, exceptionTable := #[], attributes := #[] }
def k9m6 : Method := { name := "<init>", desc := "([CIILjava/lang/Void;)V", sig := { parameters := [(.array .char), .int, .int, (.object "java/lang/Void")], returnType := none }, accessFlags := 2, code := some k9c6 }
def k9c7 : Code := { maxStack := 1, maxLocals := 1, code := jdk_42_method_152_code, exceptionTable := #[], attributes := #[] }
def k9m7 : Method := { name := "coder", desc := "()B", sig := { parameters := [], returnType := some .byte }, accessFlags := 0, code := some k9c7 }
def k9c8 : Code := { maxStack := 1, maxLocals := 1, code := jdk_42_method_154_code, exceptionTable := #[], attributes := #[] }
def k9m8 : Method := { name := "isLatin1", desc := "()Z", sig := { parameters := [], returnType := some .boolean }, accessFlags := 0, code := some k9c8 }
def k9c9 : Code := { maxStack := 3, maxLocals := 2, code := jdk_42_method_155_code, exceptionTable := #[], attributes := #[] }
def k9m9 : Method := { name := "checkIndex", desc := "(II)V", sig := { parameters := [.int, .int], returnType := none }, accessFlags := 8, code := some k9c9 }
/-- java/lang/String -/
def k9 : Class := { plain "java/lang/String" (some 0) with
  accessFlags := 49
  interfaces := #[4, 5, 6, 7, 8]
  cf := some (fileOf pool9 10 #[.nestMembers #[1103]] #[{ accessFlags := 1, nameIndex := 5, descriptorIndex := 6, attributes := #[] }, { accessFlags := 1, nameIndex := 5, descriptorIndex := 1010, attributes := #[] }, { accessFlags := 1, nameIndex := 507, descriptorIndex := 334, attributes := #[] }, { accessFlags := 1, nameIndex := 692, descriptorIndex := 142, attributes := #[] }, { accessFlags := 1, nameIndex := 497, descriptorIndex := 427, attributes := #[] }, { accessFlags := 1, nameIndex := 516, descriptorIndex := 636, attributes := #[] }, { accessFlags := 2, nameIndex := 5, descriptorIndex := 29, attributes := #[] }, { accessFlags := 0, nameIndex := 17, descriptorIndex := 337, attributes := #[] }, { accessFlags := 0, nameIndex := 494, descriptorIndex := 142, attributes := #[] }, { accessFlags := 8, nameIndex := 501, descriptorIndex := 391, attributes := #[] }] 49 2 #[1106, 1108, 575, 1110, 1112] #[{ accessFlags := 18, nameIndex := 13, descriptorIndex := 14, attributes := #[] }, { accessFlags := 18, nameIndex := 17, descriptorIndex := 18, attributes := #[] }, { accessFlags := 2, nameIndex := 21, descriptorIndex := 22, attributes := #[] }, { accessFlags := 2, nameIndex := 25, descriptorIndex := 26, attributes := #[] }, { accessFlags := 26, nameIndex := 1116, descriptorIndex := 1117, attributes := #[] }, { accessFlags := 24, nameIndex := 40, descriptorIndex := 26, attributes := #[] }, { accessFlags := 26, nameIndex := 1101, descriptorIndex := 1102, attributes := #[] }, { accessFlags := 26, nameIndex := 1121, descriptorIndex := 1122, attributes := #[] }, { accessFlags := 25, nameIndex := 599, descriptorIndex := 600, attributes := #[] }, { accessFlags := 24, nameIndex := 1125, descriptorIndex := 18, attributes := #[] }, { accessFlags := 24, nameIndex := 1127, descriptorIndex := 18, attributes := #[] }])
  fields := #[{ name := "value", type := (.array .byte), accessFlags := 18, slot := 0, constantValue := 0 }, { name := "coder", type := .byte, accessFlags := 18, slot := 1, constantValue := 0 }, { name := "hash", type := .int, accessFlags := 2, slot := 2, constantValue := 0 }, { name := "hashIsZero", type := .boolean, accessFlags := 2, slot := 3, constantValue := 0 }, { name := "serialVersionUID", type := .long, accessFlags := 26, slot := 0, constantValue := 0 }, { name := "COMPACT_STRINGS", type := .boolean, accessFlags := 24, slot := 1, constantValue := 0 }, { name := "serialPersistentFields", type := (.array (.object "java/io/ObjectStreamField")), accessFlags := 26, slot := 2, constantValue := 0 }, { name := "REPL", type := .char, accessFlags := 26, slot := 3, constantValue := 0 }, { name := "CASE_INSENSITIVE_ORDER", type := (.object "java/util/Comparator"), accessFlags := 25, slot := 4, constantValue := 0 }, { name := "LATIN1", type := .byte, accessFlags := 24, slot := 5, constantValue := 0 }, { name := "UTF16", type := .byte, accessFlags := 24, slot := 6, constantValue := 0 }]
  methods := #[k9m0, k9m1, k9m2, k9m3, k9m4, k9m5, k9m6, k9m7, k9m8, k9m9]
  instanceTypes := #[(.array .byte), .byte, .int, .boolean]
  staticTypes := #[.long, .boolean, (.array (.object "java/io/ObjectStreamField")), .char, (.object "java/util/Comparator"), .byte, .byte]
  resolved := Array.replicate 1451 none
  statics := some 0 }

def pool10 : Array CpInfo := pool [(3, .class_ 4), (0, u "java/lang/String"), (1, .class_ 8), (1, u "java/lang/Object"), (0, u "<init>"), (0, u "()V"), (0, .methodref 12 13), (0, .class_ 14), (0, .nameAndType 15 16), (0, u "java/lang/StringUTF16"), (0, u "newBytesLength"), (0, u "(I)I"), (3, .integer 1073741823), (23, .fieldref 12 45), (0, .nameAndType 46 47), (0, u "$assertionsDisabled"), (0, u "Z"), (0, .methodref 12 49), (0, .nameAndType 50 51), (0, u "length"), (0, u "([B)I"), (7, .fieldref 12 60), (0, .nameAndType 61 62), (0, u "HI_BYTE_SHIFT"), (0, u "I"), (0, .fieldref 12 64), (0, .nameAndType 65 62), (0, u "LO_BYTE_SHIFT"), (1, .methodref 12 68), (0, .nameAndType 69 70), (0, u "checkIndex"), (0, u "(I[B)V"), (0, .methodref 12 72), (0, .nameAndType 73 74), (0, u "getChar"), (0, u "([BI)C"), (0, .methodref 76 77), (0, .class_ 78), (0, .nameAndType 79 80), (0, u "java/lang/Character"), (0, u "isHighSurrogate"), (0, u "(C)Z"), (0, .methodref 76 82), (0, .nameAndType 83 80), (0, u "isLowSurrogate"), (7, u "([BIIZ)I"), (8, .methodref 12 101), (0, .nameAndType 102 91), (0, u "codePointCount"), (4, .methodref 12 108), (0, .nameAndType 109 110), (0, u "newBytesFor"), (0, u "(I)[B"), (0, .methodref 12 112), (0, .nameAndType 113 114), (0, u "putChar"), (0, u "([BII)V"), (0, .methodref 12 116), (0, .nameAndType 117 118), (0, u "compress"), (0, u "([CI[BII)I"), (0, .methodref 12 120), (0, .nameAndType 121 122), (0, u "toBytes"), (0, u "([CII)[B"), (127, u "([BII)I"), (10, u "coderFromArrayLen"), (0, u "([BI)B"), (106, .class_ 371), (1, u "java/lang/StringUTF16$LinesSpliterator"), (20, u "charAt"), (21, .methodref 3 415), (0, .nameAndType 69 416), (0, u "(II)V"), (13, u "MAX_LENGTH"), (196, .class_ 628), (0, u "java/lang/StringUTF16$CodePointsSpliterator"), (0, .class_ 630), (0, u "java/lang/StringUTF16$CharsSpliterator")] 4

def k10m0 : Method := { name := "<init>", desc := "()V", sig := { parameters := [], returnType := none }, accessFlags := 0, code := none }
def k10c1 : Code := { maxStack := 1, maxLocals := 1, code := jdk_52_method_2_code, exceptionTable := #[], attributes := #[] }
def k10m1 : Method := { name := "newBytesFor", desc := "(I)[B", sig := { parameters := [.int], returnType := some (.array .byte) }, accessFlags := 9, code := some k10c1 }
def k10c2 : Code := { maxStack := 4, maxLocals := 1, code := jdk_52_method_3_code, exceptionTable := #[], attributes := #[] }
def k10m2 : Method := { name := "newBytesLength", desc := "(I)I", sig := { parameters := [.int], returnType := some .int }, accessFlags := 9, code := some k10c2 }
def k10c3 : Code := { maxStack := 4, maxLocals := 3, code := jdk_52_method_4_code, exceptionTable := #[], attributes := #[] }
def k10m3 : Method := { name := "putChar", desc := "([BII)V", sig := { parameters := [(.array .byte), .int, .int], returnType := none }, accessFlags := 8, code := some k10c3 }
def k10c4 : Code := { maxStack := 3, maxLocals := 2, code := jdk_52_method_5_code, exceptionTable := #[], attributes := #[] }
def k10m4 : Method := { name := "getChar", desc := "([BI)C", sig := { parameters := [(.array .byte), .int], returnType := some .char }, accessFlags := 8, code := some k10c4 }
def k10c5 : Code := { maxStack := 2, maxLocals := 1, code := jdk_52_method_6_code, exceptionTable := #[], attributes := #[] }
def k10m5 : Method := { name := "length", desc := "([B)I", sig := { parameters := [(.array .byte)], returnType := some .int }, accessFlags := 9, code := some k10c5 }
def k10c6 : Code := { maxStack := 3, maxLocals := 6, code := jdk_52_method_11_code, exceptionTable := #[], attributes := #[] }
def k10m6 : Method := { name := "codePointCount", desc := "([BIIZ)I", sig := { parameters := [(.array .byte), .int, .int, .boolean], returnType := some .int }, accessFlags := 10, code := some k10c6 }
def k10c7 : Code := { maxStack := 4, maxLocals := 3, code := jdk_52_method_12_code, exceptionTable := #[], attributes := #[] }
def k10m7 : Method := { name := "codePointCount", desc := "([BII)I", sig := { parameters := [(.array .byte), .int, .int], returnType := some .int }, accessFlags := 9, code := some k10c7 }
def k10c8 : Code := { maxStack := 4, maxLocals := 5, code := jdk_52_method_14_code, exceptionTable := #[], attributes := #[] }
def k10m8 : Method := { name := "toBytes", desc := "([CII)[B", sig := { parameters := [(.array .char), .int, .int], returnType := some (.array .byte) }, accessFlags := 9, code := some k10c8 }
def k10c9 : Code := { maxStack := 2, maxLocals := 2, code := jdk_52_method_15_code, exceptionTable := #[], attributes := #[] }
def k10m9 : Method := { name := "coderFromArrayLen", desc := "([BI)B", sig := { parameters := [(.array .byte), .int], returnType := some .byte }, accessFlags := 8, code := some k10c9 }
def k10c10 : Code := { maxStack := 5, maxLocals := 6, code := jdk_52_method_16_code, exceptionTable := #[], attributes := #[] }
def k10m10 : Method := { name := "compress", desc := "([CII)[B", sig := { parameters := [(.array .char), .int, .int], returnType := some (.array .byte) }, accessFlags := 9, code := some k10c10 }
def k10c11 : Code := { maxStack := 3, maxLocals := 7, code := jdk_52_method_21_code, exceptionTable := #[], attributes := #[] }
def k10m11 : Method := { name := "compress", desc := "([CI[BII)I", sig := { parameters := [(.array .char), .int, (.array .byte), .int, .int], returnType := some .int }, accessFlags := 9, code := some k10c11 }
def k10c12 : Code := { maxStack := 2, maxLocals := 2, code := jdk_52_method_83_code, exceptionTable := #[], attributes := #[] }
def k10m12 : Method := { name := "charAt", desc := "([BI)C", sig := { parameters := [(.array .byte), .int], returnType := some .char }, accessFlags := 9, code := some k10c12 }
def k10c13 : Code := { maxStack := 2, maxLocals := 2, code := jdk_52_method_91_code, exceptionTable := #[], attributes := #[] }
def k10m13 : Method := { name := "checkIndex", desc := "(I[B)V", sig := { parameters := [.int, (.array .byte)], returnType := none }, accessFlags := 9, code := some k10c13 }
/-- java/lang/StringUTF16 -/
def k10 : Class := { plain "java/lang/StringUTF16" (some 0) with
  accessFlags := 48
  interfaces := #[]
  cf := some (fileOf pool10 12 #[.nestMembers #[627, 629, 369]] #[{ accessFlags := 0, nameIndex := 9, descriptorIndex := 10, attributes := #[] }, { accessFlags := 9, nameIndex := 109, descriptorIndex := 110, attributes := #[] }, { accessFlags := 9, nameIndex := 15, descriptorIndex := 16, attributes := #[] }, { accessFlags := 8, nameIndex := 113, descriptorIndex := 114, attributes := #[] }, { accessFlags := 8, nameIndex := 73, descriptorIndex := 74, attributes := #[] }, { accessFlags := 9, nameIndex := 50, descriptorIndex := 51, attributes := #[] }, { accessFlags := 10, nameIndex := 102, descriptorIndex := 91, attributes := #[] }, { accessFlags := 9, nameIndex := 102, descriptorIndex := 250, attributes := #[] }, { accessFlags := 9, nameIndex := 121, descriptorIndex := 122, attributes := #[] }, { accessFlags := 8, nameIndex := 261, descriptorIndex := 262, attributes := #[] }, { accessFlags := 9, nameIndex := 117, descriptorIndex := 122, attributes := #[] }, { accessFlags := 9, nameIndex := 117, descriptorIndex := 118, attributes := #[] }, { accessFlags := 9, nameIndex := 392, descriptorIndex := 74, attributes := #[] }, { accessFlags := 9, nameIndex := 69, descriptorIndex := 70, attributes := #[] }] 48 6 #[] #[{ accessFlags := 26, nameIndex := 61, descriptorIndex := 62, attributes := #[] }, { accessFlags := 26, nameIndex := 65, descriptorIndex := 62, attributes := #[] }, { accessFlags := 24, nameIndex := 430, descriptorIndex := 62, attributes := #[] }, { accessFlags := 4120, nameIndex := 46, descriptorIndex := 47, attributes := #[] }])
  fields := #[{ name := "HI_BYTE_SHIFT", type := .int, accessFlags := 26, slot := 0, constantValue := 0 }, { name := "LO_BYTE_SHIFT", type := .int, accessFlags := 26, slot := 1, constantValue := 0 }, { name := "MAX_LENGTH", type := .int, accessFlags := 24, slot := 2, constantValue := 0 }, { name := "$assertionsDisabled", type := .boolean, accessFlags := 4120, slot := 3, constantValue := 0 }]
  methods := #[k10m0, k10m1, k10m2, k10m3, k10m4, k10m5, k10m6, k10m7, k10m8, k10m9, k10m10, k10m11, k10m12, k10m13]
  instanceTypes := #[]
  staticTypes := #[.int, .int, .int, .boolean]
  resolved := Array.replicate 635 none
  statics := some 1 }

def pool11 : Array CpInfo := pool [(2, .class_ 4), (1, u "java/lang/Object"), (0, u "<init>"), (0, u "()V"), (35, .class_ 44), (1, u "java/util/Objects"), (0, u "requireNonNull"), (48, u "(Ljava/lang/Object;Ljava/lang/String;)Ljava/lang/Object;"), (11, .class_ 108), (1, u "jdk/internal/util/Preconditions"), (2, .methodref 106 112), (0, .nameAndType 113 114), (0, u "checkFromToIndex"), (0, u "(IIILjava/util/function/BiFunction;)I"), (60, u "(III)I")] 8

def k11m0 : Method := { name := "<init>", desc := "()V", sig := { parameters := [], returnType := none }, accessFlags := 2, code := none }
def k11c1 : Code := { maxStack := 3, maxLocals := 2, code := jdk_31_method_11_code, exceptionTable := #[], attributes := #[] }
def k11m1 : Method := { name := "requireNonNull", desc := "(Ljava/lang/Object;Ljava/lang/String;)Ljava/lang/Object;", sig := { parameters := [(.object "java/lang/Object"), (.object "java/lang/String")], returnType := some (.object "java/lang/Object") }, accessFlags := 9, code := some k11c1 }
def k11c2 : Code := { maxStack := 4, maxLocals := 3, code := jdk_31_method_18_code, exceptionTable := #[], attributes := #[] }
def k11m2 : Method := { name := "checkFromToIndex", desc := "(III)I", sig := { parameters := [.int, .int, .int], returnType := some .int }, accessFlags := 9, code := some k11c2 }
/-- java/util/Objects -/
def k11 : Class := { plain "java/util/Objects" (some 0) with
  accessFlags := 49
  interfaces := #[]
  cf := some (fileOf pool11 42 #[] #[{ accessFlags := 2, nameIndex := 5, descriptorIndex := 6, attributes := #[] }, { accessFlags := 9, nameIndex := 45, descriptorIndex := 94, attributes := #[] }, { accessFlags := 9, nameIndex := 113, descriptorIndex := 175, attributes := #[] }] 49 2 #[] #[])
  fields := #[]
  methods := #[k11m0, k11m1, k11m2]
  instanceTypes := #[]
  staticTypes := #[]
  resolved := Array.replicate 184 none
  statics := none }

def pool12 : Array CpInfo := pool [(2, .class_ 4), (1, u "java/lang/Object"), (0, u "<init>"), (0, u "()V"), (17, .class_ 26), (1, u "jdk/internal/util/Preconditions"), (6, u "checkIndex"), (13, u "checkFromToIndex"), (7, .class_ 56), (0, u "jdk/internal/util/Preconditions$4"), (57, .class_ 115), (0, u "jdk/internal/util/Preconditions$1"), (7, u "SIOOBE_FORMATTER"), (0, u "Ljava/util/function/BiFunction;"), (0, .class_ 126), (0, u "jdk/internal/util/Preconditions$2"), (3, u "AIOOBE_FORMATTER"), (0, .class_ 132), (0, u "jdk/internal/util/Preconditions$3"), (3, u "IOOBE_FORMATTER"), (41, u "(IILjava/util/function/BiFunction;)I"), (4, u "(IIILjava/util/function/BiFunction;)I")] 10

def k12m0 : Method := { name := "<init>", desc := "()V", sig := { parameters := [], returnType := none }, accessFlags := 1, code := none }
def k12c1 : Code := { maxStack := 3, maxLocals := 3, code := jdk_41_method_11_code, exceptionTable := #[], attributes := #[] }
def k12m1 : Method := { name := "checkIndex", desc := "(IILjava/util/function/BiFunction;)I", sig := { parameters := [.int, .int, (.object "java/util/function/BiFunction")], returnType := some .int }, accessFlags := 9, code := some k12c1 }
def k12c2 : Code := { maxStack := 4, maxLocals := 4, code := jdk_41_method_12_code, exceptionTable := #[], attributes := #[] }
def k12m2 : Method := { name := "checkFromToIndex", desc := "(IIILjava/util/function/BiFunction;)I", sig := { parameters := [.int, .int, .int, (.object "java/util/function/BiFunction")], returnType := some .int }, accessFlags := 9, code := some k12c2 }
/-- jdk/internal/util/Preconditions -/
def k12 : Class := { plain "jdk/internal/util/Preconditions" (some 0) with
  accessFlags := 33
  interfaces := #[]
  cf := some (fileOf pool12 24 #[.nestMembers #[55, 131, 125, 114]] #[{ accessFlags := 1, nameIndex := 5, descriptorIndex := 6, attributes := #[] }, { accessFlags := 9, nameIndex := 33, descriptorIndex := 178, attributes := #[] }, { accessFlags := 9, nameIndex := 47, descriptorIndex := 183, attributes := #[] }] 33 2 #[] #[{ accessFlags := 25, nameIndex := 123, descriptorIndex := 124, attributes := #[] }, { accessFlags := 25, nameIndex := 130, descriptorIndex := 124, attributes := #[] }, { accessFlags := 25, nameIndex := 136, descriptorIndex := 124, attributes := #[] }])
  fields := #[{ name := "SIOOBE_FORMATTER", type := (.object "java/util/function/BiFunction"), accessFlags := 25, slot := 0, constantValue := 0 }, { name := "AIOOBE_FORMATTER", type := (.object "java/util/function/BiFunction"), accessFlags := 25, slot := 1, constantValue := 0 }, { name := "IOOBE_FORMATTER", type := (.object "java/util/function/BiFunction"), accessFlags := 25, slot := 2, constantValue := 0 }]
  methods := #[k12m0, k12m1, k12m2]
  instanceTypes := #[]
  staticTypes := #[(.object "java/util/function/BiFunction"), (.object "java/util/function/BiFunction"), (.object "java/util/function/BiFunction")]
  resolved := Array.replicate 194 none
  statics := some 2 }

def pool13 : Array CpInfo := pool [(1, .class_ 2), (0, u "java/lang/Character"), (18, u "value"), (0, u "C"), (19, .class_ 44), (1, u "java/lang/Object"), (3, .class_ 50), (1, u "java/lang/Character$CharacterCache"), (24, .integer 55296), (0, .integer 56320), (0, .integer 57344), (2, u "isHighSurrogate"), (0, u "(C)Z"), (2, u "isLowSurrogate"), (199, u "$assertionsDisabled"), (0, u "Z"), (21, .class_ 309), (1, u "java/lang/Character$UnicodeBlock"), (73, u "TYPE"), (0, u "Ljava/lang/Class;"), (0, .class_ 386), (0, u "java/io/Serializable"), (0, .class_ 388), (0, u "java/lang/Comparable"), (0, .class_ 390), (0, u "java/lang/constant/Constable"), (0, u "MIN_RADIX"), (0, u "I"), (2, u "MAX_RADIX"), (1, u "MIN_VALUE"), (1, u "MAX_VALUE"), (3, u "UNASSIGNED"), (0, u "B"), (0, u "UPPERCASE_LETTER"), (1, u "LOWERCASE_LETTER"), (0, u "TITLECASE_LETTER"), (1, u "MODIFIER_LETTER"), (1, u "OTHER_LETTER"), (1, u "NON_SPACING_MARK"), (1, u "ENCLOSING_MARK"), (1, u "COMBINING_SPACING_MARK"), (1, u "DECIMAL_DIGIT_NUMBER"), (1, u "LETTER_NUMBER"), (1, u "OTHER_NUMBER"), (1, u "SPACE_SEPARATOR"), (1, u "LINE_SEPARATOR"), (1, u "PARAGRAPH_SEPARATOR"), (1, u "CONTROL"), (1, u "FORMAT"), (1, u "PRIVATE_USE"), (1, u "SURROGATE"), (1, u "DASH_PUNCTUATION"), (1, u "START_PUNCTUATION"), (1, u "END_PUNCTUATION"), (1, u "CONNECTOR_PUNCTUATION"), (1, u "OTHER_PUNCTUATION"), (1, u "MATH_SYMBOL"), (1, u "CURRENCY_SYMBOL"), (1, u "MODIFIER_SYMBOL"), (1, u "OTHER_SYMBOL"), (1, u "INITIAL_QUOTE_PUNCTUATION"), (1, u "FINAL_QUOTE_PUNCTUATION"), (1, u "ERROR"), (1, u "DIRECTIONALITY_UNDEFINED"), (0, u "DIRECTIONALITY_LEFT_TO_RIGHT"), (0, u "DIRECTIONALITY_RIGHT_TO_LEFT"), (0, u "DIRECTIONALITY_RIGHT_TO_LEFT_ARABIC"), (0, u "DIRECTIONALITY_EUROPEAN_NUMBER"), (0, u "DIRECTIONALITY_EUROPEAN_NUMBER_SEPARATOR"), (0, u "DIRECTIONALITY_EUROPEAN_NUMBER_TERMINATOR"), (0, u "DIRECTIONALITY_ARABIC_NUMBER"), (0, u "DIRECTIONALITY_COMMON_NUMBER_SEPARATOR"), (0, u "DIRECTIONALITY_NONSPACING_MARK"), (0, u "DIRECTIONALITY_BOUNDARY_NEUTRAL"), (0, u "DIRECTIONALITY_PARAGRAPH_SEPARATOR"), (0, u "DIRECTIONALITY_SEGMENT_SEPARATOR"), (0, u "DIRECTIONALITY_WHITESPACE"), (0, u "DIRECTIONALITY_OTHER_NEUTRALS"), (0, u "DIRECTIONALITY_LEFT_TO_RIGHT_EMBEDDING"), (0, u "DIRECTIONALITY_LEFT_TO_RIGHT_OVERRIDE"), (0, u "DIRECTIONALITY_RIGHT_TO_LEFT_EMBEDDING"), (0, u "DIRECTIONALITY_RIGHT_TO_LEFT_OVERRIDE"), (1, u "DIRECTIONALITY_POP_DIRECTIONAL_FORMAT"), (0, u "DIRECTIONALITY_LEFT_TO_RIGHT_ISOLATE"), (0, u "DIRECTIONALITY_RIGHT_TO_LEFT_ISOLATE"), (0, u "DIRECTIONALITY_FIRST_STRONG_ISOLATE"), (0, u "DIRECTIONALITY_POP_DIRECTIONAL_ISOLATE"), (0, u "MIN_HIGH_SURROGATE"), (0, u "MAX_HIGH_SURROGATE"), (1, u "MIN_LOW_SURROGATE"), (0, u "MAX_LOW_SURROGATE"), (1, u "MIN_SURROGATE"), (0, u "MAX_SURROGATE"), (0, u "MIN_SUPPLEMENTARY_CODE_POINT"), (0, u "MIN_CODE_POINT"), (0, u "MAX_CODE_POINT"), (1, u "serialVersionUID"), (0, u "J"), (2, u "SIZE"), (0, u "BYTES"), (24, u "isSurrogate"), (63, .class_ 596), (0, u "java/lang/Character$UnicodeScript"), (0, .class_ 598), (0, u "java/lang/Character$Subset")] 5

def k13c0 : Code := { maxStack := 2, maxLocals := 1, code := jdk_89_method_14_code, exceptionTable := #[], attributes := #[] }
def k13m0 : Method := { name := "isHighSurrogate", desc := "(C)Z", sig := { parameters := [.char], returnType := some .boolean }, accessFlags := 9, code := some k13c0 }
def k13c1 : Code := { maxStack := 2, maxLocals := 1, code := jdk_89_method_15_code, exceptionTable := #[], attributes := #[] }
def k13m1 : Method := { name := "isLowSurrogate", desc := "(C)Z", sig := { parameters := [.char], returnType := some .boolean }, accessFlags := 9, code := some k13c1 }
def k13c2 : Code := { maxStack := 2, maxLocals := 1, code := jdk_89_method_16_code, exceptionTable := #[], attributes := #[] }
def k13m2 : Method := { name := "isSurrogate", desc := "(C)Z", sig := { parameters := [.char], returnType := some .boolean }, accessFlags := 9, code := some k13c2 }
/-- java/lang/Character -/
def k13 : Class := { plain "java/lang/Character" (some 0) with
  accessFlags := 49
  interfaces := #[4, 5, 7]
  cf := some (fileOf pool13 1 #[.nestMembers #[48, 595, 307, 597]] #[{ accessFlags := 9, nameIndex := 80, descriptorIndex := 81, attributes := #[] }, { accessFlags := 9, nameIndex := 84, descriptorIndex := 81, attributes := #[] }, { accessFlags := 9, nameIndex := 531, descriptorIndex := 81, attributes := #[] }] 49 42 #[385, 387, 389] #[{ accessFlags := 25, nameIndex := 391, descriptorIndex := 392, attributes := #[] }, { accessFlags := 25, nameIndex := 395, descriptorIndex := 392, attributes := #[] }, { accessFlags := 25, nameIndex := 397, descriptorIndex := 22, attributes := #[] }, { accessFlags := 25, nameIndex := 399, descriptorIndex := 22, attributes := #[] }, { accessFlags := 25, nameIndex := 383, descriptorIndex := 384, attributes := #[] }, { accessFlags := 25, nameIndex := 403, descriptorIndex := 404, attributes := #[] }, { accessFlags := 25, nameIndex := 405, descriptorIndex := 404, attributes := #[] }, { accessFlags := 25, nameIndex := 407, descriptorIndex := 404, attributes := #[] }, { accessFlags := 25, nameIndex := 408, descriptorIndex := 404, attributes := #[] }, { accessFlags := 25, nameIndex := 410, descriptorIndex := 404, attributes := #[] }, { accessFlags := 25, nameIndex := 412, descriptorIndex := 404, attributes := #[] }, { accessFlags := 25, nameIndex := 414, descriptorIndex := 404, attributes := #[] }, { accessFlags := 25, nameIndex := 416, descriptorIndex := 404, attributes := #[] }, { accessFlags := 25, nameIndex := 418, descriptorIndex := 404, attributes := #[] }, { accessFlags := 25, nameIndex := 420, descriptorIndex := 404, attributes := #[] }, { accessFlags := 25, nameIndex := 422, descriptorIndex := 404, attributes := #[] }, { accessFlags := 25, nameIndex := 424, descriptorIndex := 404, attributes := #[] }, { accessFlags := 25, nameIndex := 426, descriptorIndex := 404, attributes := #[] }, { accessFlags := 25, nameIndex := 428, descriptorIndex := 404, attributes := #[] }, { accessFlags := 25, nameIndex := 430, descriptorIndex := 404, attributes := #[] }, { accessFlags := 25, nameIndex := 432, descriptorIndex := 404, attributes := #[] }, { accessFlags := 25, nameIndex := 434, descriptorIndex := 404, attributes := #[] }, { accessFlags := 25, nameIndex := 436, descriptorIndex := 404, attributes := #[] }, { accessFlags := 25, nameIndex := 438, descriptorIndex := 404, attributes := #[] }, { accessFlags := 25, nameIndex := 440, descriptorIndex := 404, attributes := #[] }, { accessFlags := 25, nameIndex := 442, descriptorIndex := 404, attributes := #[] }, { accessFlags := 25, nameIndex := 444, descriptorIndex := 404, attributes := #[] }, { accessFlags := 25, nameIndex := 446, descriptorIndex := 404, attributes := #[] }, { accessFlags := 25, nameIndex := 448, descriptorIndex := 404, attributes := #[] }, { accessFlags := 25, nameIndex := 450, descriptorIndex := 404, attributes := #[] }, { accessFlags := 25, nameIndex := 452, descriptorIndex := 404, attributes := #[] }, { accessFlags := 25, nameIndex := 454, descriptorIndex := 404, attributes := #[] }, { accessFlags := 25, nameIndex := 456, descriptorIndex := 404, attributes := #[] }, { accessFlags := 25, nameIndex := 458, descriptorIndex := 404, attributes := #[] }, { accessFlags := 25, nameIndex := 460, descriptorIndex := 404, attributes := #[] }, { accessFlags := 24, nameIndex := 462, descriptorIndex := 392, attributes := #[] }, { accessFlags := 25, nameIndex := 464, descriptorIndex := 404, attributes := #[] }, { accessFlags := 25, nameIndex := 465, descriptorIndex := 404, attributes := #[] }, { accessFlags := 25, nameIndex := 466, descriptorIndex := 404, attributes := #[] }, { accessFlags := 25, nameIndex := 467, descriptorIndex := 404, attributes := #[] }, { accessFlags := 25, nameIndex := 468, descriptorIndex := 404, attributes := #[] }, { accessFlags := 25, nameIndex := 469, descriptorIndex := 404, attributes := #[] }, { accessFlags := 25, nameIndex := 470, descriptorIndex := 404, attributes := #[] }, { accessFlags := 25, nameIndex := 471, descriptorIndex := 404, attributes := #[] }, { accessFlags := 25, nameIndex := 472, descriptorIndex := 404, attributes := #[] }, { accessFlags := 25, nameIndex := 473, descriptorIndex := 404, attributes := #[] }, { accessFlags := 25, nameIndex := 474, descriptorIndex := 404, attributes := #[] }, { accessFlags := 25, nameIndex := 475, descriptorIndex := 404, attributes := #[] }, { accessFlags := 25, nameIndex := 476, descriptorIndex := 404, attributes := #[] }, { accessFlags := 25, nameIndex := 477, descriptorIndex := 404, attributes := #[] }, { accessFlags := 25, nameIndex := 478, descriptorIndex := 404, attributes := #[] }, { accessFlags := 25, nameIndex := 479, descriptorIndex := 404, attributes := #[] }, { accessFlags := 25, nameIndex := 480, descriptorIndex := 404, attributes := #[] }, { accessFlags := 25, nameIndex := 481, descriptorIndex := 404, attributes := #[] }, { accessFlags := 25, nameIndex := 482, descriptorIndex := 404, attributes := #[] }, { accessFlags := 25, nameIndex := 484, descriptorIndex := 404, attributes := #[] }, { accessFlags := 25, nameIndex := 485, descriptorIndex := 404, attributes := #[] }, { accessFlags := 25, nameIndex := 486, descriptorIndex := 404, attributes := #[] }, { accessFlags := 25, nameIndex := 487, descriptorIndex := 404, attributes := #[] }, { accessFlags := 25, nameIndex := 488, descriptorIndex := 404, attributes := #[] }, { accessFlags := 25, nameIndex := 489, descriptorIndex := 22, attributes := #[] }, { accessFlags := 25, nameIndex := 490, descriptorIndex := 22, attributes := #[] }, { accessFlags := 25, nameIndex := 492, descriptorIndex := 22, attributes := #[] }, { accessFlags := 25, nameIndex := 493, descriptorIndex := 22, attributes := #[] }, { accessFlags := 25, nameIndex := 495, descriptorIndex := 22, attributes := #[] }, { accessFlags := 25, nameIndex := 496, descriptorIndex := 22, attributes := #[] }, { accessFlags := 25, nameIndex := 497, descriptorIndex := 392, attributes := #[] }, { accessFlags := 25, nameIndex := 498, descriptorIndex := 392, attributes := #[] }, { accessFlags := 25, nameIndex := 499, descriptorIndex := 392, attributes := #[] }, { accessFlags := 18, nameIndex := 21, descriptorIndex := 22, attributes := #[] }, { accessFlags := 26, nameIndex := 501, descriptorIndex := 502, attributes := #[] }, { accessFlags := 25, nameIndex := 505, descriptorIndex := 392, attributes := #[] }, { accessFlags := 25, nameIndex := 506, descriptorIndex := 392, attributes := #[] }, { accessFlags := 4120, nameIndex := 284, descriptorIndex := 285, attributes := #[] }])
  fields := #[{ name := "MIN_RADIX", type := .int, accessFlags := 25, slot := 0, constantValue := 0 }, { name := "MAX_RADIX", type := .int, accessFlags := 25, slot := 1, constantValue := 0 }, { name := "MIN_VALUE", type := .char, accessFlags := 25, slot := 2, constantValue := 0 }, { name := "MAX_VALUE", type := .char, accessFlags := 25, slot := 3, constantValue := 0 }, { name := "TYPE", type := (.object "java/lang/Class"), accessFlags := 25, slot := 4, constantValue := 0 }, { name := "UNASSIGNED", type := .byte, accessFlags := 25, slot := 5, constantValue := 0 }, { name := "UPPERCASE_LETTER", type := .byte, accessFlags := 25, slot := 6, constantValue := 0 }, { name := "LOWERCASE_LETTER", type := .byte, accessFlags := 25, slot := 7, constantValue := 0 }, { name := "TITLECASE_LETTER", type := .byte, accessFlags := 25, slot := 8, constantValue := 0 }, { name := "MODIFIER_LETTER", type := .byte, accessFlags := 25, slot := 9, constantValue := 0 }, { name := "OTHER_LETTER", type := .byte, accessFlags := 25, slot := 10, constantValue := 0 }, { name := "NON_SPACING_MARK", type := .byte, accessFlags := 25, slot := 11, constantValue := 0 }, { name := "ENCLOSING_MARK", type := .byte, accessFlags := 25, slot := 12, constantValue := 0 }, { name := "COMBINING_SPACING_MARK", type := .byte, accessFlags := 25, slot := 13, constantValue := 0 }, { name := "DECIMAL_DIGIT_NUMBER", type := .byte, accessFlags := 25, slot := 14, constantValue := 0 }, { name := "LETTER_NUMBER", type := .byte, accessFlags := 25, slot := 15, constantValue := 0 }, { name := "OTHER_NUMBER", type := .byte, accessFlags := 25, slot := 16, constantValue := 0 }, { name := "SPACE_SEPARATOR", type := .byte, accessFlags := 25, slot := 17, constantValue := 0 }, { name := "LINE_SEPARATOR", type := .byte, accessFlags := 25, slot := 18, constantValue := 0 }, { name := "PARAGRAPH_SEPARATOR", type := .byte, accessFlags := 25, slot := 19, constantValue := 0 }, { name := "CONTROL", type := .byte, accessFlags := 25, slot := 20, constantValue := 0 }, { name := "FORMAT", type := .byte, accessFlags := 25, slot := 21, constantValue := 0 }, { name := "PRIVATE_USE", type := .byte, accessFlags := 25, slot := 22, constantValue := 0 }, { name := "SURROGATE", type := .byte, accessFlags := 25, slot := 23, constantValue := 0 }, { name := "DASH_PUNCTUATION", type := .byte, accessFlags := 25, slot := 24, constantValue := 0 }, { name := "START_PUNCTUATION", type := .byte, accessFlags := 25, slot := 25, constantValue := 0 }, { name := "END_PUNCTUATION", type := .byte, accessFlags := 25, slot := 26, constantValue := 0 }, { name := "CONNECTOR_PUNCTUATION", type := .byte, accessFlags := 25, slot := 27, constantValue := 0 }, { name := "OTHER_PUNCTUATION", type := .byte, accessFlags := 25, slot := 28, constantValue := 0 }, { name := "MATH_SYMBOL", type := .byte, accessFlags := 25, slot := 29, constantValue := 0 }, { name := "CURRENCY_SYMBOL", type := .byte, accessFlags := 25, slot := 30, constantValue := 0 }, { name := "MODIFIER_SYMBOL", type := .byte, accessFlags := 25, slot := 31, constantValue := 0 }, { name := "OTHER_SYMBOL", type := .byte, accessFlags := 25, slot := 32, constantValue := 0 }, { name := "INITIAL_QUOTE_PUNCTUATION", type := .byte, accessFlags := 25, slot := 33, constantValue := 0 }, { name := "FINAL_QUOTE_PUNCTUATION", type := .byte, accessFlags := 25, slot := 34, constantValue := 0 }, { name := "ERROR", type := .int, accessFlags := 24, slot := 35, constantValue := 0 }, { name := "DIRECTIONALITY_UNDEFINED", type := .byte, accessFlags := 25, slot := 36, constantValue := 0 }, { name := "DIRECTIONALITY_LEFT_TO_RIGHT", type := .byte, accessFlags := 25, slot := 37, constantValue := 0 }, { name := "DIRECTIONALITY_RIGHT_TO_LEFT", type := .byte, accessFlags := 25, slot := 38, constantValue := 0 }, { name := "DIRECTIONALITY_RIGHT_TO_LEFT_ARABIC", type := .byte, accessFlags := 25, slot := 39, constantValue := 0 }, { name := "DIRECTIONALITY_EUROPEAN_NUMBER", type := .byte, accessFlags := 25, slot := 40, constantValue := 0 }, { name := "DIRECTIONALITY_EUROPEAN_NUMBER_SEPARATOR", type := .byte, accessFlags := 25, slot := 41, constantValue := 0 }, { name := "DIRECTIONALITY_EUROPEAN_NUMBER_TERMINATOR", type := .byte, accessFlags := 25, slot := 42, constantValue := 0 }, { name := "DIRECTIONALITY_ARABIC_NUMBER", type := .byte, accessFlags := 25, slot := 43, constantValue := 0 }, { name := "DIRECTIONALITY_COMMON_NUMBER_SEPARATOR", type := .byte, accessFlags := 25, slot := 44, constantValue := 0 }, { name := "DIRECTIONALITY_NONSPACING_MARK", type := .byte, accessFlags := 25, slot := 45, constantValue := 0 }, { name := "DIRECTIONALITY_BOUNDARY_NEUTRAL", type := .byte, accessFlags := 25, slot := 46, constantValue := 0 }, { name := "DIRECTIONALITY_PARAGRAPH_SEPARATOR", type := .byte, accessFlags := 25, slot := 47, constantValue := 0 }, { name := "DIRECTIONALITY_SEGMENT_SEPARATOR", type := .byte, accessFlags := 25, slot := 48, constantValue := 0 }, { name := "DIRECTIONALITY_WHITESPACE", type := .byte, accessFlags := 25, slot := 49, constantValue := 0 }, { name := "DIRECTIONALITY_OTHER_NEUTRALS", type := .byte, accessFlags := 25, slot := 50, constantValue := 0 }, { name := "DIRECTIONALITY_LEFT_TO_RIGHT_EMBEDDING", type := .byte, accessFlags := 25, slot := 51, constantValue := 0 }, { name := "DIRECTIONALITY_LEFT_TO_RIGHT_OVERRIDE", type := .byte, accessFlags := 25, slot := 52, constantValue := 0 }, { name := "DIRECTIONALITY_RIGHT_TO_LEFT_EMBEDDING", type := .byte, accessFlags := 25, slot := 53, constantValue := 0 }, { name := "DIRECTIONALITY_RIGHT_TO_LEFT_OVERRIDE", type := .byte, accessFlags := 25, slot := 54, constantValue := 0 }, { name := "DIRECTIONALITY_POP_DIRECTIONAL_FORMAT", type := .byte, accessFlags := 25, slot := 55, constantValue := 0 }, { name := "DIRECTIONALITY_LEFT_TO_RIGHT_ISOLATE", type := .byte, accessFlags := 25, slot := 56, constantValue := 0 }, { name := "DIRECTIONALITY_RIGHT_TO_LEFT_ISOLATE", type := .byte, accessFlags := 25, slot := 57, constantValue := 0 }, { name := "DIRECTIONALITY_FIRST_STRONG_ISOLATE", type := .byte, accessFlags := 25, slot := 58, constantValue := 0 }, { name := "DIRECTIONALITY_POP_DIRECTIONAL_ISOLATE", type := .byte, accessFlags := 25, slot := 59, constantValue := 0 }, { name := "MIN_HIGH_SURROGATE", type := .char, accessFlags := 25, slot := 60, constantValue := 0 }, { name := "MAX_HIGH_SURROGATE", type := .char, accessFlags := 25, slot := 61, constantValue := 0 }, { name := "MIN_LOW_SURROGATE", type := .char, accessFlags := 25, slot := 62, constantValue := 0 }, { name := "MAX_LOW_SURROGATE", type := .char, accessFlags := 25, slot := 63, constantValue := 0 }, { name := "MIN_SURROGATE", type := .char, accessFlags := 25, slot := 64, constantValue := 0 }, { name := "MAX_SURROGATE", type := .char, accessFlags := 25, slot := 65, constantValue := 0 }, { name := "MIN_SUPPLEMENTARY_CODE_POINT", type := .int, accessFlags := 25, slot := 66, constantValue := 0 }, { name := "MIN_CODE_POINT", type := .int, accessFlags := 25, slot := 67, constantValue := 0 }, { name := "MAX_CODE_POINT", type := .int, accessFlags := 25, slot := 68, constantValue := 0 }, { name := "value", type := .char, accessFlags := 18, slot := 0, constantValue := 0 }, { name := "serialVersionUID", type := .long, accessFlags := 26, slot := 69, constantValue := 0 }, { name := "SIZE", type := .int, accessFlags := 25, slot := 70, constantValue := 0 }, { name := "BYTES", type := .int, accessFlags := 25, slot := 71, constantValue := 0 }, { name := "$assertionsDisabled", type := .boolean, accessFlags := 4120, slot := 72, constantValue := 0 }]
  methods := #[k13m0, k13m1, k13m2]
  instanceTypes := #[.char]
  staticTypes := #[.int, .int, .char, .char, (.object "java/lang/Class"), .byte, .byte, .byte, .byte, .byte, .byte, .byte, .byte, .byte, .byte, .byte, .byte, .byte, .byte, .byte, .byte, .byte, .byte, .byte, .byte, .byte, .byte, .byte, .byte, .byte, .byte, .byte, .byte, .byte, .byte, .int, .byte, .byte, .byte, .byte, .byte, .byte, .byte, .byte, .byte, .byte, .byte, .byte, .byte, .byte, .byte, .byte, .byte, .byte, .byte, .byte, .byte, .byte, .byte, .byte, .char, .char, .char, .char, .char, .char, .int, .int, .int, .long, .int, .int, .boolean]
  resolved := Array.replicate 604 none
  statics := none }

def pool14 : Array CpInfo := pool [(1, .class_ 2), (0, u "java/lang/String"), (1, .class_ 6), (1, u "java/lang/Object"), (0, u "<init>"), (0, u "()V"), (0, .methodref 1 10), (0, .nameAndType 11 12), (0, u "checkIndex"), (0, u "(II)V"), (1, .class_ 16), (1, u "java/lang/StringLatin1"), (36, u "([BI)C"), (67, u "$assertionsDisabled"), (0, u "Z"), (98, .class_ 223), (1, u "java/lang/StringLatin1$LinesSpliterator"), (28, u "charAt"), (137, .class_ 391), (0, u "java/lang/StringLatin1$CharsSpliterator")] 3

def k14m0 : Method := { name := "<init>", desc := "()V", sig := { parameters := [], returnType := none }, accessFlags := 0, code := none }
def k14c1 : Code := { maxStack := 2, maxLocals := 2, code := jdk_43_method_2_code, exceptionTable := #[], attributes := #[] }
def k14m1 : Method := { name := "charAt", desc := "([BI)C", sig := { parameters := [(.array .byte), .int], returnType := some .char }, accessFlags := 9, code := some k14c1 }
/-- java/lang/StringLatin1 -/
def k14 : Class := { plain "java/lang/StringLatin1" (some 0) with
  accessFlags := 48
  interfaces := #[]
  cf := some (fileOf pool14 14 #[.nestMembers #[390, 221]] #[{ accessFlags := 0, nameIndex := 7, descriptorIndex := 8, attributes := #[] }, { accessFlags := 9, nameIndex := 252, descriptorIndex := 53, attributes := #[] }] 48 4 #[] #[{ accessFlags := 4120, nameIndex := 121, descriptorIndex := 122, attributes := #[] }])
  fields := #[{ name := "$assertionsDisabled", type := .boolean, accessFlags := 4120, slot := 0, constantValue := 0 }]
  methods := #[k14m0, k14m1]
  instanceTypes := #[]
  staticTypes := #[.boolean]
  resolved := Array.replicate 395 none
  statics := none }

def pool15 : Array CpInfo := pool [(9, u "<init>"), (6, .class_ 18), (1, u "java/lang/Object"), (0, u "()V"), (1, .class_ 23), (1, u "jdk/internal/util/ArraysSupport"), (0, u "LOG2_ARRAY_LONG_INDEX_SCALE"), (0, u "I"), (2, u "U"), (0, u "Ljdk/internal/misc/Unsafe;"), (8, u "BIG_ENDIAN"), (0, u "Z"), (8, u "LOG2_BYTE_BIT_SIZE"), (4, u "LOG2_ARRAY_INT_INDEX_SCALE"), (54, u "JLA"), (0, u "Ljdk/internal/access/JavaLangAccess;"), (11, u "LOG2_ARRAY_BOOLEAN_INDEX_SCALE"), (9, u "LOG2_ARRAY_BYTE_INDEX_SCALE"), (5, u "LOG2_ARRAY_CHAR_INDEX_SCALE"), (5, u "LOG2_ARRAY_SHORT_INDEX_SCALE"), (18, u "LOG2_ARRAY_FLOAT_INDEX_SCALE"), (24, u "LOG2_ARRAY_DOUBLE_INDEX_SCALE"), (89, u "T_BOOLEAN"), (2, u "T_CHAR"), (1, u "T_FLOAT"), (1, u "T_DOUBLE"), (1, u "T_BYTE"), (1, u "T_SHORT"), (1, u "T_INT"), (1, u "T_LONG"), (1, u "SOFT_MAX_ARRAY_LENGTH")] 83

def k15m0 : Method := { name := "<init>", desc := "()V", sig := { parameters := [], returnType := none }, accessFlags := 2, code := none }
/-- jdk/internal/util/ArraysSupport -/
def k15 : Class := { plain "jdk/internal/util/ArraysSupport" (some 0) with
  accessFlags := 33
  interfaces := #[]
  cf := some (fileOf pool15 21 #[] #[{ accessFlags := 2, nameIndex := 9, descriptorIndex := 19, attributes := #[] }] 33 16 #[] #[{ accessFlags := 24, nameIndex := 28, descriptorIndex := 29, attributes := #[] }, { accessFlags := 26, nameIndex := 38, descriptorIndex := 39, attributes := #[] }, { accessFlags := 25, nameIndex := 121, descriptorIndex := 25, attributes := #[] }, { accessFlags := 25, nameIndex := 131, descriptorIndex := 25, attributes := #[] }, { accessFlags := 25, nameIndex := 137, descriptorIndex := 25, attributes := #[] }, { accessFlags := 25, nameIndex := 143, descriptorIndex := 25, attributes := #[] }, { accessFlags := 25, nameIndex := 53, descriptorIndex := 25, attributes := #[] }, { accessFlags := 25, nameIndex := 24, descriptorIndex := 25, attributes := #[] }, { accessFlags := 25, nameIndex := 162, descriptorIndex := 25, attributes := #[] }, { accessFlags := 25, nameIndex := 187, descriptorIndex := 25, attributes := #[] }, { accessFlags := 26, nameIndex := 48, descriptorIndex := 25, attributes := #[] }, { accessFlags := 25, nameIndex := 277, descriptorIndex := 25, attributes := #[] }, { accessFlags := 25, nameIndex := 280, descriptorIndex := 25, attributes := #[] }, { accessFlags := 25, nameIndex := 282, descriptorIndex := 25, attributes := #[] }, { accessFlags := 25, nameIndex := 284, descriptorIndex := 25, attributes := #[] }, { accessFlags := 25, nameIndex := 286, descriptorIndex := 25, attributes := #[] }, { accessFlags := 25, nameIndex := 288, descriptorIndex := 25, attributes := #[] }, { accessFlags := 25, nameIndex := 290, descriptorIndex := 25, attributes := #[] }, { accessFlags := 25, nameIndex := 292, descriptorIndex := 25, attributes := #[] }, { accessFlags := 26, nameIndex := 108, descriptorIndex := 109, attributes := #[] }, { accessFlags := 25, nameIndex := 294, descriptorIndex := 25, attributes := #[] }])
  fields := #[{ name := "U", type := (.object "jdk/internal/misc/Unsafe"), accessFlags := 24, slot := 0, constantValue := 0 }, { name := "BIG_ENDIAN", type := .boolean, accessFlags := 26, slot := 1, constantValue := 0 }, { name := "LOG2_ARRAY_BOOLEAN_INDEX_SCALE", type := .int, accessFlags := 25, slot := 2, constantValue := 0 }, { name := "LOG2_ARRAY_BYTE_INDEX_SCALE", type := .int, accessFlags := 25, slot := 3, constantValue := 0 }, { name := "LOG2_ARRAY_CHAR_INDEX_SCALE", type := .int, accessFlags := 25, slot := 4, constantValue := 0 }, { name := "LOG2_ARRAY_SHORT_INDEX_SCALE", type := .int, accessFlags := 25, slot := 5, constantValue := 0 }, { name := "LOG2_ARRAY_INT_INDEX_SCALE", type := .int, accessFlags := 25, slot := 6, constantValue := 0 }, { name := "LOG2_ARRAY_LONG_INDEX_SCALE", type := .int, accessFlags := 25, slot := 7, constantValue := 0 }, { name := "LOG2_ARRAY_FLOAT_INDEX_SCALE", type := .int, accessFlags := 25, slot := 8, constantValue := 0 }, { name := "LOG2_ARRAY_DOUBLE_INDEX_SCALE", type := .int, accessFlags := 25, slot := 9, constantValue := 0 }, { name := "LOG2_BYTE_BIT_SIZE", type := .int, accessFlags := 26, slot := 10, constantValue := 0 }, { name := "T_BOOLEAN", type := .int, accessFlags := 25, slot := 11, constantValue := 0 }, { name := "T_CHAR", type := .int, accessFlags := 25, slot := 12, constantValue := 0 }, { name := "T_FLOAT", type := .int, accessFlags := 25, slot := 13, constantValue := 0 }, { name := "T_DOUBLE", type := .int, accessFlags := 25, slot := 14, constantValue := 0 }, { name := "T_BYTE", type := .int, accessFlags := 25, slot := 15, constantValue := 0 }, { name := "T_SHORT", type := .int, accessFlags := 25, slot := 16, constantValue := 0 }, { name := "T_INT", type := .int, accessFlags := 25, slot := 17, constantValue := 0 }, { name := "T_LONG", type := .int, accessFlags := 25, slot := 18, constantValue := 0 }, { name := "JLA", type := (.object "jdk/internal/access/JavaLangAccess"), accessFlags := 26, slot := 19, constantValue := 0 }, { name := "SOFT_MAX_ARRAY_LENGTH", type := .int, accessFlags := 25, slot := 20, constantValue := 0 }]
  methods := #[k15m0]
  instanceTypes := #[]
  staticTypes := #[(.object "jdk/internal/misc/Unsafe"), .boolean, .int, .int, .int, .int, .int, .int, .int, .int, .int, .int, .int, .int, .int, .int, .int, .int, .int, (.object "jdk/internal/access/JavaLangAccess"), .int]
  resolved := Array.replicate 378 none
  statics := none }

def pool16 : Array CpInfo := pool [(1, u "java/lang/Cloneable"), (0, .class_ 1), (0, u "java/lang/Object"), (0, .class_ 3)] 3

/-- java/lang/Cloneable -/
def k16 : Class := { plain "java/lang/Cloneable" (some 0) with
  accessFlags := 1537
  interfaces := #[]
  cf := some (fileOf pool16 2 #[] #[] 1537 4 #[] #[])
  fields := #[]
  methods := #[]
  instanceTypes := #[]
  staticTypes := #[]
  resolved := Array.replicate 8 none
  statics := none }

/-- the primitive byte -/
def k17 : Class := { plain "byte" none with kind := .primitive 'B', accessFlags := 0x411 }
/-- [B -/
def k18 : Class := { plain "[B" (some 0) with kind := .array 17 .byte, interfaces := #[16, 4], accessFlags := 1041 }

/-- the primitive char -/
def k19 : Class := { plain "char" none with kind := .primitive 'C', accessFlags := 0x411 }
/-- [C -/
def k20 : Class := { plain "[C" (some 0) with kind := .array 19 .char, interfaces := #[16, 4], accessFlags := 1041 }

/-- the primitive int -/
def k21 : Class := { plain "int" none with kind := .primitive 'I', accessFlags := 0x411 }
/-- [I -/
def k22 : Class := { plain "[I" (some 0) with kind := .array 21 .int, interfaces := #[16, 4], accessFlags := 1041 }

def heap : Heap := #[{ cls := 9, slots := #[.long 0, .int 1, .null, .int 0, .null, .int 0, .int 0], vm := .statics 9 },
  { cls := 10, slots := #[.int 0, .int 8, .int 0, .int 1], vm := .statics 10 },
  { cls := 12, slots := #[.null, .null, .null], vm := .statics 12 }]
def classes : Array Class := #[k0, k1, k2, k3, k4, k5, k6, k7, k8, k9, k10, k11, k12, k13, k14, k15, k16, k17, k18, k19, k20, k21, k22]
def interned : List (Array UInt16 × Addr) := []
def slotsUsed : Nat := 14
def theMethod : MethodId := ⟨1, 1⟩
def args0 : Array Value := #[.int 13, .int 22, .int 7, .int 1]
def aboutOver (below : List Frame) : State where
  vm := { classes := classes, interned := interned.toArray }
  heap := heap
  slotsUsed := slotsUsed
  threads := #[{ frames := .invoking theMethod args0 :: below }]
def below0 : List Frame := [.native { method := ⟨0, 0⟩, args := #[] }]
def about1 : State := aboutOver below0
def p0 : Program := .bare "" "" ""
def e0 : Env := launch0.env 0 0 0
theorem w_frames : about1.frames = Frame.invoking theMethod args0 :: below0 := rfl
set_option maxRecDepth 65536 in
theorem w_args : argsFit about1.vm theMethod args0 = true := by decide +kernel
set_option maxRecDepth 65536 in
theorem w_heap : heapFits about1 = true := by decide +kernel
set_option maxRecDepth 65536 in
theorem w_runnable : about1.curStatus? = some .runnable := by decide +kernel
set_option maxRecDepth 65536 in
theorem w_alone : about1.alone = true := by decide +kernel
set_option maxRecDepth 65536 in
theorem w_named : about1.methodNamed? x = some theMethod := by decide +kernel
set_option maxRecDepth 65536 in
theorem w_hears : about1.hears theMethod below0 = true := by decide +kernel
set_option maxRecDepth 65536 in
theorem w_ripe : about1.ripe theMethod args0 below0 = true := by decide +kernel
theorem w_running : about1.status = .running := rfl
set_option maxRecDepth 65536 in
theorem w_room : about1.hasRoom e0.platform room_1 = true :=
  launch0.hasRoom_least _ room_1 (by decide +kernel) (by decide +kernel) (by decide +kernel) (by decide +kernel) (by decide +kernel) (by decide +kernel)
theorem allAtoms_all (ts : List Jvm.Cond) (a : Array Jvm.Value) (st : Jvm.State) : (allAtoms ts).before a st = ts.all (fun c => c.before a st) := by
  induction ts with
  | nil => rfl
  | cons c t ih =>
    show (Jvm.Cond.and c (allAtoms t)).before a st = _
    rw [Jvm.Cond.before_and, ih, List.all_cons]
def words1 : List Jvm.Cond := Jvm.Cond.code x code maxLocals ret :: tables_1
/-- a 'code' word, met by the world's own term for the bytes: nothing is compared byte by byte -/
theorem code_word {y : MethodName} {bytes : ByteArray} {mx : Nat} {rt : Option FieldType} {a : Array Value} {s : State} {m : MethodId} {meth : Method} {c : Code} (h1 : s.methodNamed? y = some m) (h2 : s.vm.method? m = some meth) (h3 : meth.code = some c) (h4 : c.code = bytes)
    (h5 : (c.maxLocals == mx && c.exceptionTable.isEmpty && decide (c.maxStack ≤ mostOperands) && decide (meth.sig.returnType = rt) && !meth.locks && decide (parseMethodDescriptor y.desc = some meth.sig)) = true) : (Jvm.Cond.code y bytes mx rt).before a s = true := by
  simp only [Bool.and_eq_true, beq_iff_eq, Bool.not_eq_true', decide_eq_true_eq] at h5
  obtain ⟨⟨⟨⟨⟨g1, g2⟩, g3⟩, g4⟩, g5⟩, g6⟩ := h5
  simp [Cond.before, Cond.holds, Cond.value, h1, h2, h3, h4, g1, g2, g3, g4, g5, g6]
def isCode : Jvm.Cond → Bool
  | .code _ _ _ _ => true
  | _ => false
theorem all_split {L : List Jvm.Cond} {P : Jvm.Cond → Bool} (h1 : L.all (fun c => isCode c || P c) = true) (h2 : ∀ c ∈ L.filter isCode, P c = true) : L.all P = true := by
  refine List.all_eq_true.mpr fun c hc => ?_
  have h := List.all_eq_true.mp h1 c hc
  rcases Bool.eq_false_or_eq_true (isCode c) with hi | hi
  · exact h2 c (List.mem_filter.mpr ⟨hc, hi⟩)
  · simpa [hi] using h
set_option maxRecDepth 65536 in
theorem w_c0 : (Jvm.Cond.code x code maxLocals ret).before args0 about1 = true := code_word (m := ⟨1, 1⟩) (meth := k1m1) (c := k1c1) (by decide +kernel) rfl rfl rfl (by decide +kernel)
set_option maxRecDepth 65536 in
theorem w_c1 : (Jvm.Cond.code ({ cls := "com/example/supplant/supplant/automata/SymbolIsMultiCharacterPinLaw", name := "put", desc := "([CII)I" } : Jvm.MethodName) method_3_code (4 : Nat) (Option.some Jvm.ClassFile.FieldType.int)).before args0 about1 = true := code_word (m := ⟨1, 2⟩) (meth := k1m2) (c := k1c2) (by decide +kernel) rfl rfl rfl (by decide +kernel)
set_option maxRecDepth 65536 in
theorem w_c2 : (Jvm.Cond.code ({ cls := "com/example/supplant/supplant/automata/SymbolIsMultiCharacterPinLaw", name := "take", desc := "([CI)[C" } : Jvm.MethodName) method_4_code (2 : Nat) (Option.some (Jvm.ClassFile.FieldType.array Jvm.ClassFile.FieldType.char))).before args0 about1 = true := code_word (m := ⟨1, 3⟩) (meth := k1m3) (c := k1c3) (by decide +kernel) rfl rfl rfl (by decide +kernel)
set_option maxRecDepth 65536 in
theorem w_c3 : (Jvm.Cond.code ({ cls := "java/lang/String", name := "<init>", desc := "([C)V" } : Jvm.MethodName) jdk_42_method_3_code (2 : Nat) (Option.none : Option Jvm.ClassFile.FieldType)).before args0 about1 = true := code_word (m := ⟨9, 1⟩) (meth := k9m1) (c := k9c1) (by decide +kernel) rfl rfl rfl (by decide +kernel)
set_option maxRecDepth 65536 in
theorem w_c4 : (Jvm.Cond.code ({ cls := "java/lang/String", name := "<init>", desc := "([CIILjava/lang/Void;)V" } : Jvm.MethodName) jdk_42_method_149_code (6 : Nat) (Option.none : Option Jvm.ClassFile.FieldType)).before args0 about1 = true := code_word (m := ⟨9, 6⟩) (meth := k9m6) (c := k9c6) (by decide +kernel) rfl rfl rfl (by decide +kernel)
set_option maxRecDepth 65536 in
theorem w_c5 : (Jvm.Cond.code ({ cls := "java/lang/Object", name := "<init>", desc := "()V" } : Jvm.MethodName) object_method_1_code (1 : Nat) (Option.none : Option Jvm.ClassFile.FieldType)).before args0 about1 = true := code_word (m := ⟨0, 0⟩) (meth := k0m0) (c := k0c0) (by decide +kernel) rfl rfl rfl (by decide +kernel)
set_option maxRecDepth 65536 in
theorem w_c6 : (Jvm.Cond.code ({ cls := "java/lang/StringUTF16", name := "compress", desc := "([CII)[B" } : Jvm.MethodName) jdk_52_method_16_code (6 : Nat) (Option.some (Jvm.ClassFile.FieldType.array Jvm.ClassFile.FieldType.byte))).before args0 about1 = true := code_word (m := ⟨10, 10⟩) (meth := k10m10) (c := k10c10) (by decide +kernel) rfl rfl rfl (by decide +kernel)
set_option maxRecDepth 65536 in
theorem w_c7 : (Jvm.Cond.code ({ cls := "java/lang/StringUTF16", name := "compress", desc := "([CI[BII)I" } : Jvm.MethodName) jdk_52_method_21_code (7 : Nat) (Option.some Jvm.ClassFile.FieldType.int)).before args0 about1 = true := code_word (m := ⟨10, 11⟩) (meth := k10m11) (c := k10c11) (by decide +kernel) rfl rfl rfl (by decide +kernel)
set_option maxRecDepth 65536 in
theorem w_c8 : (Jvm.Cond.code ({ cls := "java/lang/StringUTF16", name := "toBytes", desc := "([CII)[B" } : Jvm.MethodName) jdk_52_method_14_code (5 : Nat) (Option.some (Jvm.ClassFile.FieldType.array Jvm.ClassFile.FieldType.byte))).before args0 about1 = true := code_word (m := ⟨10, 8⟩) (meth := k10m8) (c := k10c8) (by decide +kernel) rfl rfl rfl (by decide +kernel)
set_option maxRecDepth 65536 in
theorem w_c9 : (Jvm.Cond.code ({ cls := "java/lang/StringUTF16", name := "newBytesFor", desc := "(I)[B" } : Jvm.MethodName) jdk_52_method_2_code (1 : Nat) (Option.some (Jvm.ClassFile.FieldType.array Jvm.ClassFile.FieldType.byte))).before args0 about1 = true := code_word (m := ⟨10, 1⟩) (meth := k10m1) (c := k10c1) (by decide +kernel) rfl rfl rfl (by decide +kernel)
set_option maxRecDepth 65536 in
theorem w_c10 : (Jvm.Cond.code ({ cls := "java/lang/StringUTF16", name := "newBytesLength", desc := "(I)I" } : Jvm.MethodName) jdk_52_method_3_code (1 : Nat) (Option.some Jvm.ClassFile.FieldType.int)).before args0 about1 = true := code_word (m := ⟨10, 2⟩) (meth := k10m2) (c := k10c2) (by decide +kernel) rfl rfl rfl (by decide +kernel)
set_option maxRecDepth 65536 in
theorem w_c11 : (Jvm.Cond.code ({ cls := "java/lang/StringUTF16", name := "putChar", desc := "([BII)V" } : Jvm.MethodName) jdk_52_method_4_code (3 : Nat) (Option.none : Option Jvm.ClassFile.FieldType)).before args0 about1 = true := code_word (m := ⟨10, 3⟩) (meth := k10m3) (c := k10c3) (by decide +kernel) rfl rfl rfl (by decide +kernel)
set_option maxRecDepth 65536 in
theorem w_c12 : (Jvm.Cond.code ({ cls := "java/lang/StringUTF16", name := "getChar", desc := "([BI)C" } : Jvm.MethodName) jdk_52_method_5_code (2 : Nat) (Option.some Jvm.ClassFile.FieldType.char)).before args0 about1 = true := code_word (m := ⟨10, 4⟩) (meth := k10m4) (c := k10c4) (by decide +kernel) rfl rfl rfl (by decide +kernel)
set_option maxRecDepth 65536 in
theorem w_c13 : (Jvm.Cond.code ({ cls := "java/lang/StringUTF16", name := "coderFromArrayLen", desc := "([BI)B" } : Jvm.MethodName) jdk_52_method_15_code (2 : Nat) (Option.some Jvm.ClassFile.FieldType.byte)).before args0 about1 = true := code_word (m := ⟨10, 9⟩) (meth := k10m9) (c := k10c9) (by decide +kernel) rfl rfl rfl (by decide +kernel)
set_option maxRecDepth 65536 in
theorem w_c14 : (Jvm.Cond.code ({ cls := "com/example/supplant/supplant/automata/Symbol", name := "<init>", desc := "(Ljava/lang/String;)V" } : Jvm.MethodName) prog_14_method_1_code (4 : Nat) (Option.none : Option Jvm.ClassFile.FieldType)).before args0 about1 = true := code_word (m := ⟨3, 0⟩) (meth := k3m0) (c := k3c0) (by decide +kernel) rfl rfl rfl (by decide +kernel)
set_option maxRecDepth 65536 in
theorem w_c15 : (Jvm.Cond.code ({ cls := "java/lang/Record", name := "<init>", desc := "()V" } : Jvm.MethodName) jdk_30_method_1_code (1 : Nat) (Option.none : Option Jvm.ClassFile.FieldType)).before args0 about1 = true := code_word (m := ⟨2, 0⟩) (meth := k2m0) (c := k2c0) (by decide +kernel) rfl rfl rfl (by decide +kernel)
set_option maxRecDepth 65536 in
theorem w_c16 : (Jvm.Cond.code ({ cls := "java/util/Objects", name := "requireNonNull", desc := "(Ljava/lang/Object;Ljava/lang/String;)Ljava/lang/Object;" } : Jvm.MethodName) jdk_31_method_11_code (2 : Nat) (Option.some (Jvm.ClassFile.FieldType.object "java/lang/Object"))).before args0 about1 = true := code_word (m := ⟨11, 1⟩) (meth := k11m1) (c := k11c1) (by decide +kernel) rfl rfl rfl (by decide +kernel)
set_option maxRecDepth 65536 in
theorem w_c17 : (Jvm.Cond.code ({ cls := "java/lang/String", name := "isEmpty", desc := "()Z" } : Jvm.MethodName) jdk_42_method_55_code (1 : Nat) (Option.some Jvm.ClassFile.FieldType.boolean)).before args0 about1 = true := code_word (m := ⟨9, 3⟩) (meth := k9m3) (c := k9c3) (by decide +kernel) rfl rfl rfl (by decide +kernel)
set_option maxRecDepth 65536 in
theorem w_c18 : (Jvm.Cond.code ({ cls := "java/lang/String", name := "length", desc := "()I" } : Jvm.MethodName) jdk_42_method_54_code (1 : Nat) (Option.some Jvm.ClassFile.FieldType.int)).before args0 about1 = true := code_word (m := ⟨9, 2⟩) (meth := k9m2) (c := k9c2) (by decide +kernel) rfl rfl rfl (by decide +kernel)
set_option maxRecDepth 65536 in
theorem w_c19 : (Jvm.Cond.code ({ cls := "java/lang/String", name := "coder", desc := "()B" } : Jvm.MethodName) jdk_42_method_152_code (1 : Nat) (Option.some Jvm.ClassFile.FieldType.byte)).before args0 about1 = true := code_word (m := ⟨9, 7⟩) (meth := k9m7) (c := k9c7) (by decide +kernel) rfl rfl rfl (by decide +kernel)
set_option maxRecDepth 65536 in
theorem w_c20 : (Jvm.Cond.code ({ cls := "java/lang/String", name := "charAt", desc := "(I)C" } : Jvm.MethodName) jdk_42_method_56_code (2 : Nat) (Option.some Jvm.ClassFile.FieldType.char)).before args0 about1 = true := code_word (m := ⟨9, 4⟩) (meth := k9m4) (c := k9c4) (by decide +kernel) rfl rfl rfl (by decide +kernel)
set_option maxRecDepth 65536 in
theorem w_c21 : (Jvm.Cond.code ({ cls := "java/lang/String", name := "isLatin1", desc := "()Z" } : Jvm.MethodName) jdk_42_method_154_code (1 : Nat) (Option.some Jvm.ClassFile.FieldType.boolean)).before args0 about1 = true := code_word (m := ⟨9, 8⟩) (meth := k9m8) (c := k9c8) (by decide +kernel) rfl rfl rfl (by decide +kernel)
set_option maxRecDepth 65536 in
theorem w_c22 : (Jvm.Cond.code ({ cls := "java/lang/StringUTF16", name := "charAt", desc := "([BI)C" } : Jvm.MethodName) jdk_52_method_83_code (2 : Nat) (Option.some Jvm.ClassFile.FieldType.char)).before args0 about1 = true := code_word (m := ⟨10, 12⟩) (meth := k10m12) (c := k10c12) (by decide +kernel) rfl rfl rfl (by decide +kernel)
set_option maxRecDepth 65536 in
theorem w_c23 : (Jvm.Cond.code ({ cls := "java/lang/StringUTF16", name := "checkIndex", desc := "(I[B)V" } : Jvm.MethodName) jdk_52_method_91_code (2 : Nat) (Option.none : Option Jvm.ClassFile.FieldType)).before args0 about1 = true := code_word (m := ⟨10, 13⟩) (meth := k10m13) (c := k10c13) (by decide +kernel) rfl rfl rfl (by decide +kernel)
set_option maxRecDepth 65536 in
theorem w_c24 : (Jvm.Cond.code ({ cls := "java/lang/StringUTF16", name := "length", desc := "([B)I" } : Jvm.MethodName) jdk_52_method_6_code (1 : Nat) (Option.some Jvm.ClassFile.FieldType.int)).before args0 about1 = true := code_word (m := ⟨10, 5⟩) (meth := k10m5) (c := k10c5) (by decide +kernel) rfl rfl rfl (by decide +kernel)
set_option maxRecDepth 65536 in
theorem w_c25 : (Jvm.Cond.code ({ cls := "java/lang/String", name := "checkIndex", desc := "(II)V" } : Jvm.MethodName) jdk_42_method_155_code (2 : Nat) (Option.none : Option Jvm.ClassFile.FieldType)).before args0 about1 = true := code_word (m := ⟨9, 9⟩) (meth := k9m9) (c := k9c9) (by decide +kernel) rfl rfl rfl (by decide +kernel)
set_option maxRecDepth 65536 in
theorem w_c26 : (Jvm.Cond.code ({ cls := "jdk/internal/util/Preconditions", name := "checkIndex", desc := "(IILjava/util/function/BiFunction;)I" } : Jvm.MethodName) jdk_41_method_11_code (3 : Nat) (Option.some Jvm.ClassFile.FieldType.int)).before args0 about1 = true := code_word (m := ⟨12, 1⟩) (meth := k12m1) (c := k12c1) (by decide +kernel) rfl rfl rfl (by decide +kernel)
set_option maxRecDepth 65536 in
theorem w_c27 : (Jvm.Cond.code ({ cls := "java/lang/Character", name := "isHighSurrogate", desc := "(C)Z" } : Jvm.MethodName) jdk_89_method_14_code (1 : Nat) (Option.some Jvm.ClassFile.FieldType.boolean)).before args0 about1 = true := code_word (m := ⟨13, 0⟩) (meth := k13m0) (c := k13c0) (by decide +kernel) rfl rfl rfl (by decide +kernel)
set_option maxRecDepth 65536 in
theorem w_c28 : (Jvm.Cond.code ({ cls := "java/lang/Character", name := "isSurrogate", desc := "(C)Z" } : Jvm.MethodName) jdk_89_method_16_code (1 : Nat) (Option.some Jvm.ClassFile.FieldType.boolean)).before args0 about1 = true := code_word (m := ⟨13, 2⟩) (meth := k13m2) (c := k13c2) (by decide +kernel) rfl rfl rfl (by decide +kernel)
set_option maxRecDepth 65536 in
theorem w_c29 : (Jvm.Cond.code ({ cls := "java/lang/Character", name := "isLowSurrogate", desc := "(C)Z" } : Jvm.MethodName) jdk_89_method_15_code (1 : Nat) (Option.some Jvm.ClassFile.FieldType.boolean)).before args0 about1 = true := code_word (m := ⟨13, 1⟩) (meth := k13m1) (c := k13c1) (by decide +kernel) rfl rfl rfl (by decide +kernel)
set_option maxRecDepth 65536 in
theorem w_c30 : (Jvm.Cond.code ({ cls := "com/example/supplant/supplant/automata/Symbol", name := "isMultiCharacter", desc := "()Z" } : Jvm.MethodName) prog_14_method_3_code (1 : Nat) (Option.some Jvm.ClassFile.FieldType.boolean)).before args0 about1 = true := code_word (m := ⟨3, 1⟩) (meth := k3m1) (c := k3c1) (by decide +kernel) rfl rfl rfl (by decide +kernel)
set_option maxRecDepth 65536 in
theorem w_c31 : (Jvm.Cond.code ({ cls := "java/lang/String", name := "codePointCount", desc := "(II)I" } : Jvm.MethodName) jdk_42_method_59_code (3 : Nat) (Option.some Jvm.ClassFile.FieldType.int)).before args0 about1 = true := code_word (m := ⟨9, 5⟩) (meth := k9m5) (c := k9c5) (by decide +kernel) rfl rfl rfl (by decide +kernel)
set_option maxRecDepth 65536 in
theorem w_c32 : (Jvm.Cond.code ({ cls := "java/util/Objects", name := "checkFromToIndex", desc := "(III)I" } : Jvm.MethodName) jdk_31_method_18_code (3 : Nat) (Option.some Jvm.ClassFile.FieldType.int)).before args0 about1 = true := code_word (m := ⟨11, 2⟩) (meth := k11m2) (c := k11c2) (by decide +kernel) rfl rfl rfl (by decide +kernel)
set_option maxRecDepth 65536 in
theorem w_c33 : (Jvm.Cond.code ({ cls := "jdk/internal/util/Preconditions", name := "checkFromToIndex", desc := "(IIILjava/util/function/BiFunction;)I" } : Jvm.MethodName) jdk_41_method_12_code (4 : Nat) (Option.some Jvm.ClassFile.FieldType.int)).before args0 about1 = true := code_word (m := ⟨12, 2⟩) (meth := k12m2) (c := k12c2) (by decide +kernel) rfl rfl rfl (by decide +kernel)
set_option maxRecDepth 65536 in
theorem w_c34 : (Jvm.Cond.code ({ cls := "java/lang/StringUTF16", name := "codePointCount", desc := "([BII)I" } : Jvm.MethodName) jdk_52_method_12_code (3 : Nat) (Option.some Jvm.ClassFile.FieldType.int)).before args0 about1 = true := code_word (m := ⟨10, 7⟩) (meth := k10m7) (c := k10c7) (by decide +kernel) rfl rfl rfl (by decide +kernel)
set_option maxRecDepth 65536 in
theorem w_c35 : (Jvm.Cond.code ({ cls := "java/lang/StringUTF16", name := "codePointCount", desc := "([BIIZ)I" } : Jvm.MethodName) jdk_52_method_11_code (6 : Nat) (Option.some Jvm.ClassFile.FieldType.int)).before args0 about1 = true := code_word (m := ⟨10, 6⟩) (meth := k10m6) (c := k10c6) (by decide +kernel) rfl rfl rfl (by decide +kernel)
set_option maxRecDepth 65536 in
theorem w_c36 : (Jvm.Cond.code ({ cls := "java/lang/StringLatin1", name := "charAt", desc := "([BI)C" } : Jvm.MethodName) jdk_43_method_2_code (2 : Nat) (Option.some Jvm.ClassFile.FieldType.char)).before args0 about1 = true := code_word (m := ⟨14, 1⟩) (meth := k14m1) (c := k14c1) (by decide +kernel) rfl rfl rfl (by decide +kernel)
def codes1 : List Jvm.Cond := [Jvm.Cond.code x code maxLocals ret, Jvm.Cond.code ({ cls := "com/example/supplant/supplant/automata/SymbolIsMultiCharacterPinLaw", name := "put", desc := "([CII)I" } : Jvm.MethodName) method_3_code (4 : Nat) (Option.some Jvm.ClassFile.FieldType.int), Jvm.Cond.code ({ cls := "com/example/supplant/supplant/automata/SymbolIsMultiCharacterPinLaw", name := "take", desc := "([CI)[C" } : Jvm.MethodName) method_4_code (2 : Nat) (Option.some (Jvm.ClassFile.FieldType.array Jvm.ClassFile.FieldType.char)), Jvm.Cond.code ({ cls := "java/lang/String", name := "<init>", desc := "([C)V" } : Jvm.MethodName) jdk_42_method_3_code (2 : Nat) (Option.none : Option Jvm.ClassFile.FieldType), Jvm.Cond.code ({ cls := "java/lang/String", name := "<init>", desc := "([CIILjava/lang/Void;)V" } : Jvm.MethodName) jdk_42_method_149_code (6 : Nat) (Option.none : Option Jvm.ClassFile.FieldType), Jvm.Cond.code ({ cls := "java/lang/Object", name := "<init>", desc := "()V" } : Jvm.MethodName) object_method_1_code (1 : Nat) (Option.none : Option Jvm.ClassFile.FieldType), Jvm.Cond.code ({ cls := "java/lang/StringUTF16", name := "compress", desc := "([CII)[B" } : Jvm.MethodName) jdk_52_method_16_code (6 : Nat) (Option.some (Jvm.ClassFile.FieldType.array Jvm.ClassFile.FieldType.byte)), Jvm.Cond.code ({ cls := "java/lang/StringUTF16", name := "compress", desc := "([CI[BII)I" } : Jvm.MethodName) jdk_52_method_21_code (7 : Nat) (Option.some Jvm.ClassFile.FieldType.int), Jvm.Cond.code ({ cls := "java/lang/StringUTF16", name := "toBytes", desc := "([CII)[B" } : Jvm.MethodName) jdk_52_method_14_code (5 : Nat) (Option.some (Jvm.ClassFile.FieldType.array Jvm.ClassFile.FieldType.byte)), Jvm.Cond.code ({ cls := "java/lang/StringUTF16", name := "newBytesFor", desc := "(I)[B" } : Jvm.MethodName) jdk_52_method_2_code (1 : Nat) (Option.some (Jvm.ClassFile.FieldType.array Jvm.ClassFile.FieldType.byte)), Jvm.Cond.code ({ cls := "java/lang/StringUTF16", name := "newBytesLength", desc := "(I)I" } : Jvm.MethodName) jdk_52_method_3_code (1 : Nat) (Option.some Jvm.ClassFile.FieldType.int), Jvm.Cond.code ({ cls := "java/lang/StringUTF16", name := "putChar", desc := "([BII)V" } : Jvm.MethodName) jdk_52_method_4_code (3 : Nat) (Option.none : Option Jvm.ClassFile.FieldType), Jvm.Cond.code ({ cls := "java/lang/StringUTF16", name := "getChar", desc := "([BI)C" } : Jvm.MethodName) jdk_52_method_5_code (2 : Nat) (Option.some Jvm.ClassFile.FieldType.char), Jvm.Cond.code ({ cls := "java/lang/StringUTF16", name := "coderFromArrayLen", desc := "([BI)B" } : Jvm.MethodName) jdk_52_method_15_code (2 : Nat) (Option.some Jvm.ClassFile.FieldType.byte), Jvm.Cond.code ({ cls := "com/example/supplant/supplant/automata/Symbol", name := "<init>", desc := "(Ljava/lang/String;)V" } : Jvm.MethodName) prog_14_method_1_code (4 : Nat) (Option.none : Option Jvm.ClassFile.FieldType), Jvm.Cond.code ({ cls := "java/lang/Record", name := "<init>", desc := "()V" } : Jvm.MethodName) jdk_30_method_1_code (1 : Nat) (Option.none : Option Jvm.ClassFile.FieldType), Jvm.Cond.code ({ cls := "java/util/Objects", name := "requireNonNull", desc := "(Ljava/lang/Object;Ljava/lang/String;)Ljava/lang/Object;" } : Jvm.MethodName) jdk_31_method_11_code (2 : Nat) (Option.some (Jvm.ClassFile.FieldType.object "java/lang/Object")), Jvm.Cond.code ({ cls := "java/lang/String", name := "isEmpty", desc := "()Z" } : Jvm.MethodName) jdk_42_method_55_code (1 : Nat) (Option.some Jvm.ClassFile.FieldType.boolean), Jvm.Cond.code ({ cls := "java/lang/String", name := "length", desc := "()I" } : Jvm.MethodName) jdk_42_method_54_code (1 : Nat) (Option.some Jvm.ClassFile.FieldType.int), Jvm.Cond.code ({ cls := "java/lang/String", name := "coder", desc := "()B" } : Jvm.MethodName) jdk_42_method_152_code (1 : Nat) (Option.some Jvm.ClassFile.FieldType.byte), Jvm.Cond.code ({ cls := "java/lang/String", name := "charAt", desc := "(I)C" } : Jvm.MethodName) jdk_42_method_56_code (2 : Nat) (Option.some Jvm.ClassFile.FieldType.char), Jvm.Cond.code ({ cls := "java/lang/String", name := "isLatin1", desc := "()Z" } : Jvm.MethodName) jdk_42_method_154_code (1 : Nat) (Option.some Jvm.ClassFile.FieldType.boolean), Jvm.Cond.code ({ cls := "java/lang/StringUTF16", name := "charAt", desc := "([BI)C" } : Jvm.MethodName) jdk_52_method_83_code (2 : Nat) (Option.some Jvm.ClassFile.FieldType.char), Jvm.Cond.code ({ cls := "java/lang/StringUTF16", name := "checkIndex", desc := "(I[B)V" } : Jvm.MethodName) jdk_52_method_91_code (2 : Nat) (Option.none : Option Jvm.ClassFile.FieldType), Jvm.Cond.code ({ cls := "java/lang/StringUTF16", name := "length", desc := "([B)I" } : Jvm.MethodName) jdk_52_method_6_code (1 : Nat) (Option.some Jvm.ClassFile.FieldType.int), Jvm.Cond.code ({ cls := "java/lang/String", name := "checkIndex", desc := "(II)V" } : Jvm.MethodName) jdk_42_method_155_code (2 : Nat) (Option.none : Option Jvm.ClassFile.FieldType), Jvm.Cond.code ({ cls := "jdk/internal/util/Preconditions", name := "checkIndex", desc := "(IILjava/util/function/BiFunction;)I" } : Jvm.MethodName) jdk_41_method_11_code (3 : Nat) (Option.some Jvm.ClassFile.FieldType.int), Jvm.Cond.code ({ cls := "java/lang/Character", name := "isHighSurrogate", desc := "(C)Z" } : Jvm.MethodName) jdk_89_method_14_code (1 : Nat) (Option.some Jvm.ClassFile.FieldType.boolean), Jvm.Cond.code ({ cls := "java/lang/Character", name := "isSurrogate", desc := "(C)Z" } : Jvm.MethodName) jdk_89_method_16_code (1 : Nat) (Option.some Jvm.ClassFile.FieldType.boolean), Jvm.Cond.code ({ cls := "java/lang/Character", name := "isLowSurrogate", desc := "(C)Z" } : Jvm.MethodName) jdk_89_method_15_code (1 : Nat) (Option.some Jvm.ClassFile.FieldType.boolean), Jvm.Cond.code ({ cls := "com/example/supplant/supplant/automata/Symbol", name := "isMultiCharacter", desc := "()Z" } : Jvm.MethodName) prog_14_method_3_code (1 : Nat) (Option.some Jvm.ClassFile.FieldType.boolean), Jvm.Cond.code ({ cls := "java/lang/String", name := "codePointCount", desc := "(II)I" } : Jvm.MethodName) jdk_42_method_59_code (3 : Nat) (Option.some Jvm.ClassFile.FieldType.int), Jvm.Cond.code ({ cls := "java/util/Objects", name := "checkFromToIndex", desc := "(III)I" } : Jvm.MethodName) jdk_31_method_18_code (3 : Nat) (Option.some Jvm.ClassFile.FieldType.int), Jvm.Cond.code ({ cls := "jdk/internal/util/Preconditions", name := "checkFromToIndex", desc := "(IIILjava/util/function/BiFunction;)I" } : Jvm.MethodName) jdk_41_method_12_code (4 : Nat) (Option.some Jvm.ClassFile.FieldType.int), Jvm.Cond.code ({ cls := "java/lang/StringUTF16", name := "codePointCount", desc := "([BII)I" } : Jvm.MethodName) jdk_52_method_12_code (3 : Nat) (Option.some Jvm.ClassFile.FieldType.int), Jvm.Cond.code ({ cls := "java/lang/StringUTF16", name := "codePointCount", desc := "([BIIZ)I" } : Jvm.MethodName) jdk_52_method_11_code (6 : Nat) (Option.some Jvm.ClassFile.FieldType.int), Jvm.Cond.code ({ cls := "java/lang/StringLatin1", name := "charAt", desc := "([BI)C" } : Jvm.MethodName) jdk_43_method_2_code (2 : Nat) (Option.some Jvm.ClassFile.FieldType.char)]
set_option maxRecDepth 65536 in
theorem codes_eq : words1.filter isCode = codes1 := rfl
theorem w_codes : ∀ c ∈ words1.filter isCode, c.before args0 about1 = true := by
  rw [codes_eq]
  intro c hc
  simp only [codes1, List.mem_cons, List.not_mem_nil, or_false] at hc
  rcases hc with rfl | rfl | rfl | rfl | rfl | rfl | rfl | rfl | rfl | rfl | rfl | rfl | rfl | rfl | rfl | rfl | rfl | rfl | rfl | rfl | rfl | rfl | rfl | rfl | rfl | rfl | rfl | rfl | rfl | rfl | rfl | rfl | rfl | rfl | rfl | rfl | rfl
  · exact w_c0
  · exact w_c1
  · exact w_c2
  · exact w_c3
  · exact w_c4
  · exact w_c5
  · exact w_c6
  · exact w_c7
  · exact w_c8
  · exact w_c9
  · exact w_c10
  · exact w_c11
  · exact w_c12
  · exact w_c13
  · exact w_c14
  · exact w_c15
  · exact w_c16
  · exact w_c17
  · exact w_c18
  · exact w_c19
  · exact w_c20
  · exact w_c21
  · exact w_c22
  · exact w_c23
  · exact w_c24
  · exact w_c25
  · exact w_c26
  · exact w_c27
  · exact w_c28
  · exact w_c29
  · exact w_c30
  · exact w_c31
  · exact w_c32
  · exact w_c33
  · exact w_c34
  · exact w_c35
  · exact w_c36
set_option maxRecDepth 65536 in
theorem w_t1 : (words1.take 24).all (fun c => isCode c || c.before args0 about1) = true := by decide +kernel
set_option maxRecDepth 65536 in
theorem w_t2 : ((words1.drop 24).take 24).all (fun c => isCode c || c.before args0 about1) = true := by decide +kernel
set_option maxRecDepth 65536 in
theorem w_t3 : (((words1.drop 24).drop 24).take 24).all (fun c => isCode c || c.before args0 about1) = true := by decide +kernel
set_option maxRecDepth 65536 in
theorem w_t4 : ((((words1.drop 24).drop 24).drop 24).take 24).all (fun c => isCode c || c.before args0 about1) = true := by decide +kernel
set_option maxRecDepth 65536 in
theorem w_t5 : (((((words1.drop 24).drop 24).drop 24).drop 24).take 24).all (fun c => isCode c || c.before args0 about1) = true := by decide +kernel
set_option maxRecDepth 65536 in
theorem w_t6 : ((((((words1.drop 24).drop 24).drop 24).drop 24).drop 24).take 24).all (fun c => isCode c || c.before args0 about1) = true := by decide +kernel
set_option maxRecDepth 65536 in
theorem w_t7 : ((((((words1.drop 24).drop 24).drop 24).drop 24).drop 24).drop 24).all (fun c => isCode c || c.before args0 about1) = true := by decide +kernel
theorem w_tables : (allAtoms (Jvm.Cond.code x code maxLocals ret :: tables_1)).before args0 about1 = true := by
  rw [allAtoms_all]
  show words1.all (fun c => c.before args0 about1) = true
  refine all_split ?_ w_codes
  rw [← List.take_append_drop 24 words1, List.all_append, w_t1, ← List.take_append_drop 24 (words1.drop 24), List.all_append, w_t2, ← List.take_append_drop 24 ((words1.drop 24).drop 24), List.all_append, w_t3, ← List.take_append_drop 24 (((words1.drop 24).drop 24).drop 24), List.all_append, w_t4, ← List.take_append_drop 24 ((((words1.drop 24).drop 24).drop 24).drop 24), List.all_append, w_t5, ← List.take_append_drop 24 (((((words1.drop 24).drop 24).drop 24).drop 24).drop 24), List.all_append, w_t6, w_t7]
  rfl
set_option maxRecDepth 65536 in
theorem w_rest : rest_1_c.before args0 about1 = true := by decide +kernel
set_option maxRecDepth 65536 in
theorem w_case : (Jvm.Cond.and given_1 narrow_1).before args0 about1 = true := by decide +kernel
theorem w_applies : (headSpec (Jvm.Cond.code x code maxLocals ret :: tables_1) room_1).applies x e0.platform about1 = true :=
  (Spec.applies_iff w_frames).mpr ⟨w_running, w_runnable, w_alone, w_named, w_hears, w_ripe, w_room, w_tables⟩
theorem atStart : AtStart classFile x code maxLocals ret World_1 tables_1 room_1 Calls_1 rest_1 Pre_1 launch0 p0 e0 about1 theMethod args0 below0 :=
  ⟨lists_1, trivial, launch0.admits_env _ _ _, launch0.least_env, fairChoices_fair.cas, fairChoices_fair.clock, w_frames, w_args, w_heap, w_applies, trivial, w_rest, w_case⟩
end start1
theorem witness_1 : WitnessClaimed_1 := ⟨start1.p0, start1.e0, start1.about1, start1.theMethod, start1.args0, start1.below0, start1.atStart⟩
end Jvm.Pilot.@@N@@
