import JvmDerived
import JvmDerived.Pilot.@@N@@Statement
import JvmDerived.Pilot.@@N@@Code
set_option linter.unusedVariables false
set_option linter.unusedSimpArgs false
@@BLOCK:HandJ.lean.txt@@
@@BLOCK:SymMore.lean.txt@@
@@BLOCK:NumsL.lean.txt@@
@@BLOCK:Masks.lean.txt@@
namespace Jvm.Pilot.@@N@@
open Jvm Jvm.ClassFile Sem Op Lib Jvm.Free Jvm.Stand Jvm.LawKit Jvm.RoadKit Bundle Jvm.Pilot.@@N@@.Jvm.D
def own_G (tb : Tables) (e : Env) (below : List Frame) (En : Outcome → State → List Loc → Prop) (Q : Option Value → Heap → List Loc → Prop) (U : State) : Prop :=
  ∃ t o, Steps tb e below U t ∧ t.status = .running ∧ Ended t below o ∧ ∃ v L, o = .returned v ∧ Q v t.heap L ∧ En o t L
/-- the frame at the end, counted from s -/
def own_E (s : State) (nc ns : Nat) (o : Outcome) (t : State) (L : List Loc) : Prop := FrameEnd s o t L nc ns
theorem own_st {tb : Tables} {e : Env} {below : List Frame} {En : Outcome → State → List Loc → Prop} {Q : Option Value → Heap → List Loc → Prop} {U U' : State} (h : own_G tb e below En Q U') (st : ∀ t, Steps tb e below U' t → Steps tb e below U t) : own_G tb e below En Q U := by
  obtain ⟨t, o, h1, h2⟩ := h
  exact ⟨t, o, st t h1, h2⟩
section OwnRet
variable {p : Program} {l : Launch} {e : Env} {R : Room} {s : State} {m : MethodId} {args : Array Value} {below : List Frame} {meth : Method} {c : Code} {T : State} {locs : List Loc} {cells slots : Nat}
theorem own_retN (X : Stand p l e R s m args below meth c T locs cells slots) (hx : p.tables.exec = Jvm.exec) (hlk : meth.locks = false) {pc : Nat} {Ls : Array Slot} {z z' : Int32} {t : FieldType} {rest : List Value} (hret : meth.sig.returnType = some t) (ht : t = .boolean ∨ t = .byte ∨ t = .char ∨ t = .short)
    (hd : decode c.code pc = .ok (.ireturn, 1)) {Q : Option Value → Heap → List Loc → Prop} {nc ns : Nat} (hc : cells ≤ nc) (hs : slots ≤ ns) (hz : nar t z = z') (hQ : Q (some (.int z')) T.heap locs) : own_G p.tables e below (own_E s nc ns) Q (T.setTop (mkF m pc Ls (.int z :: rest))) := by
  subst hz
  obtain ⟨fs, hr, hrun, hended, hW, hsame⟩ := X.leave (v := some (.int (nar t z))) (fun h => by rw [hret] at h; cases h) hlk
  exact ⟨_, _, retN X hx hret ht hd hr, hrun, hended, _, _, rfl, hQ, ⟨_, rfl⟩, hW, hsame.mono hc hs⟩
theorem own_retI (X : Stand p l e R s m args below meth c T locs cells slots) (hx : p.tables.exec = Jvm.exec) (hlk : meth.locks = false) {pc : Nat} {Ls : Array Slot} {z : Int32} {rest : List Value} (hret : meth.sig.returnType = some .int)
    (hd : decode c.code pc = .ok (.ireturn, 1)) {Q : Option Value → Heap → List Loc → Prop} {nc ns : Nat} (hc : cells ≤ nc) (hs : slots ≤ ns) (hQ : Q (some (.int z)) T.heap locs) : own_G p.tables e below (own_E s nc ns) Q (T.setTop (mkF m pc Ls (.int z :: rest))) := by
  obtain ⟨fs, hr, hrun, hended, hW, hsame⟩ := X.leave (v := some (.int z)) (fun h => by rw [hret] at h; cases h) hlk
  exact ⟨_, _, retOut X hx hret rfl (Or.inl ⟨rfl, Or.inl rfl, _, rfl⟩) hd hr, hrun, hended, _, _, rfl, hQ, ⟨_, rfl⟩, hW, hsame.mono hc hs⟩
theorem own_retJ (X : Stand p l e R s m args below meth c T locs cells slots) (hx : p.tables.exec = Jvm.exec) (hlk : meth.locks = false) {pc : Nat} {Ls : Array Slot} {z : Int64} {rest : List Value} (hret : meth.sig.returnType = some .long)
    (hd : decode c.code pc = .ok (.lreturn, 1)) {Q : Option Value → Heap → List Loc → Prop} {nc ns : Nat} (hc : cells ≤ nc) (hs : slots ≤ ns) (hQ : Q (some (.long z)) T.heap locs) : own_G p.tables e below (own_E s nc ns) Q (T.setTop (mkF m pc Ls (.long z :: rest))) := by
  obtain ⟨fs, hr, hrun, hended, hW, hsame⟩ := X.leave (v := some (.long z)) (fun h => by rw [hret] at h; cases h) hlk
  exact ⟨_, _, retOut X hx hret rfl (Or.inr (Or.inl ⟨rfl, rfl, _, rfl⟩)) hd hr, hrun, hended, _, _, rfl, hQ, ⟨_, rfl⟩, hW, hsame.mono hc hs⟩
theorem own_retA (X : Stand p l e R s m args below meth c T locs cells slots) (hx : p.tables.exec = Jvm.exec) (hlk : meth.locks = false) {pc : Nat} {Ls : Array Slot} {z : Value} {t : FieldType} {rest : List Value} (hret : meth.sig.returnType = some t) (ht : t.isReference = true) (hn : narrow t z = z) (hv : z.isRef = true)
    (hd : decode c.code pc = .ok (.areturn, 1)) {Q : Option Value → Heap → List Loc → Prop} {nc ns : Nat} (hc : cells ≤ nc) (hs : slots ≤ ns) (hQ : Q (some z) T.heap locs) : own_G p.tables e below (own_E s nc ns) Q (T.setTop (mkF m pc Ls (z :: rest))) := by
  obtain ⟨fs, hr, hrun, hended, hW, hsame⟩ := X.leave (v := some z) (fun h => by rw [hret] at h; cases h) hlk
  exact ⟨_, _, retOut X hx hret hn (Or.inr (Or.inr (Or.inr (Or.inr ⟨rfl, ht, hv⟩)))) hd hr, hrun, hended, _, _, rfl, hQ, ⟨_, rfl⟩, hW, hsame.mono hc hs⟩
theorem own_retV (X : Stand p l e R s m args below meth c T locs cells slots) (hx : p.tables.exec = Jvm.exec) (hlk : meth.locks = false) {pc : Nat} {Ls : Array Slot} (hret : meth.sig.returnType = none)
    (hd : decode c.code pc = .ok (.return_, 1)) {Q : Option Value → Heap → List Loc → Prop} {nc ns : Nat} (hc : cells ≤ nc) (hs : slots ≤ ns) (hQ : Q none T.heap locs) : own_G p.tables e below (own_E s nc ns) Q (T.setTop (mkF m pc Ls [])) := by
  obtain ⟨fs, hr, hrun, hended, hW, hsame⟩ := X.leave (v := none) (fun _ => rfl) hlk
  exact ⟨_, _, X.returnOut hx hret hd hr, hrun, hended, _, _, rfl, hQ, ⟨_, rfl⟩, hW, hsame.mono hc hs⟩
/-- the wide frame at the end: Strings may have been interned -/
def own_EW (s : State) (nc ns : Nat) (o : Outcome) (t : State) (L : List Loc) : Prop := ReturnedEndW s o t L nc ns
theorem own_retNW {vm1 : Vm} (X : Stand p l e R (s.setVm vm1) m args below meth c T locs cells slots) (hx : p.tables.exec = Jvm.exec) (hlk : meth.locks = false) {k : Nat} (hS : s.Since vm1 k) (hk : k ≤ T.heap.size) {pc : Nat} {Ls : Array Slot} {z z' : Int32} {t : FieldType} {rest : List Value} (hret : meth.sig.returnType = some t) (ht : t = .boolean ∨ t = .byte ∨ t = .char ∨ t = .short)
    (hd : decode c.code pc = .ok (.ireturn, 1)) {Q : Option Value → Heap → List Loc → Prop} {nc ns : Nat} (hc : cells ≤ nc) (hs : slots ≤ ns) (hz : nar t z = z') (hQ : Q (some (.int z')) T.heap locs) : own_G p.tables e below (own_EW s nc ns) Q (T.setTop (mkF m pc Ls (.int z :: rest))) := by
  subst hz
  obtain ⟨fs, hr, hrun, hended, h1, h2, h3, h4⟩ := X.leaveW hS hk (v := some (.int (nar t z))) (fun h => by rw [hret] at h; cases h) hlk
  exact ⟨_, _, retN X hx hret ht hd hr, hrun, hended, _, _, rfl, hQ, h1, h2, h3, h4.mono hc hs⟩
theorem own_retVW {vm1 : Vm} (X : Stand p l e R (s.setVm vm1) m args below meth c T locs cells slots) (hx : p.tables.exec = Jvm.exec) (hlk : meth.locks = false) {k : Nat} (hS : s.Since vm1 k) (hk : k ≤ T.heap.size) {pc : Nat} {Ls : Array Slot} (hret : meth.sig.returnType = none)
    (hd : decode c.code pc = .ok (.return_, 1)) {Q : Option Value → Heap → List Loc → Prop} {nc ns : Nat} (hc : cells ≤ nc) (hs : slots ≤ ns) (hQ : Q none T.heap locs) : own_G p.tables e below (own_EW s nc ns) Q (T.setTop (mkF m pc Ls [])) := by
  obtain ⟨fs, hr, hrun, hended, h1, h2, h3, h4⟩ := X.leaveW hS hk (v := none) (fun _ => rfl) hlk
  exact ⟨_, _, X.returnOut hx hret hd hr, hrun, hended, _, _, rfl, hQ, h1, h2, h3, h4.mono hc hs⟩
/-- as own_G, with something said of the vm too -/
def own_GV (tb : Tables) (e : Env) (below : List Frame) (s : State) (nc ns : Nat) (QF : Option Value → Vm → Heap → List Loc → Prop) (U : State) : Prop :=
  ∃ t o, Steps tb e below U t ∧ t.status = .running ∧ Ended t below o ∧ ∃ v L, o = .returned v ∧ QF v t.vm t.heap L ∧ ReturnedEndW s o t L nc ns
def own_EL (s : State) (nc ns : Nat) (QF : Option Value → Vm → Heap → List Loc → Prop) (o : Outcome) (t : State) (L : List Loc) : Prop := ∃ v, o = .returned v ∧ QF v t.vm t.heap L ∧ ReturnedEndW s o t L nc ns
def own_QT (v : Option Value) (h : Heap) (L : List Loc) : Prop := True
theorem own_GV_of {tb : Tables} {e : Env} {below : List Frame} {s : State} {nc ns : Nat} {QF : Option Value → Vm → Heap → List Loc → Prop} {U : State} (h : own_G tb e below (own_EL s nc ns QF) own_QT U) : own_GV tb e below s nc ns QF U := by
  obtain ⟨t, o, h1, h2, h3, v, L, h4, -, v', h5, h6, h7⟩ := h
  exact ⟨t, o, h1, h2, h3, v', L, h5, h6, h7⟩
theorem own_retVL {vm1 : Vm} (X : Stand p l e R (s.setVm vm1) m args below meth c T locs cells slots) (hx : p.tables.exec = Jvm.exec) (hlk : meth.locks = false) {k : Nat} (hS : s.Since vm1 k) (hk : k ≤ T.heap.size) {pc : Nat} {Ls : Array Slot} (hret : meth.sig.returnType = none)
    (hd : decode c.code pc = .ok (.return_, 1)) {QF : Option Value → Vm → Heap → List Loc → Prop} {nc ns : Nat} (hc : cells ≤ nc) (hs : slots ≤ ns) (hQ : QF none T.vm T.heap locs) : own_G p.tables e below (own_EL s nc ns QF) own_QT (T.setTop (mkF m pc Ls [])) := by
  obtain ⟨fs, hr, hrun, hended, h1, h2, h3, h4⟩ := X.leaveW hS hk (v := none) (fun _ => rfl) hlk
  exact ⟨_, _, X.returnOut hx hret hd hr, hrun, hended, _, _, rfl, trivial, _, rfl, hQ, h1, h2, h3, h4.mono hc hs⟩
theorem own_retAL {vm1 : Vm} (X : Stand p l e R (s.setVm vm1) m args below meth c T locs cells slots) (hx : p.tables.exec = Jvm.exec) (hlk : meth.locks = false) {k : Nat} (hS : s.Since vm1 k) (hk : k ≤ T.heap.size) {pc : Nat} {Ls : Array Slot} {z : Value} {t : FieldType} {rest : List Value} (hret : meth.sig.returnType = some t) (ht : t.isReference = true) (hn : narrow t z = z) (hv : z.isRef = true)
    (hd : decode c.code pc = .ok (.areturn, 1)) {QF : Option Value → Vm → Heap → List Loc → Prop} {nc ns : Nat} (hc : cells ≤ nc) (hs : slots ≤ ns) (hQ : QF (some z) T.vm T.heap locs) : own_G p.tables e below (own_EL s nc ns QF) own_QT (T.setTop (mkF m pc Ls (z :: rest))) := by
  obtain ⟨fs, hr, hrun, hended, h1, h2, h3, h4⟩ := X.leaveW hS hk (v := some z) (fun h => by rw [hret] at h; cases h) hlk
  exact ⟨_, _, retOut X hx hret hn (Or.inr (Or.inr (Or.inr (Or.inr ⟨rfl, ht, hv⟩)))) hd hr, hrun, hended, _, _, rfl, trivial, _, rfl, hQ, h1, h2, h3, h4.mono hc hs⟩
end OwnRet
/-- it returns r; nothing old is written (own_QV: the heap is as it was) -/
def own_QL (r : Value) (n0 : Nat) (v : Option Value) (h : Heap) (L : List Loc) : Prop := v = some r ∧ Fr n0 L
def own_QN (h0 : Heap) (n0 : Nat) (v : Option Value) (h : Heap) (L : List Loc) : Prop := v = none ∧ Fr n0 L ∧ h = h0
def own_QV (r : Value) (h0 : Heap) (n0 : Nat) (v : Option Value) (h : Heap) (L : List Loc) : Prop := v = some r ∧ Fr n0 L ∧ h = h0
def own_upd (g : Nat → Int32) (j : Nat) (x : Int32) : Nat → Int32 := fun i => if i = j then x else g i
theorem own_upd_eq {g : Nat → Int32} {j : Nat} {x : Int32} : own_upd g j x j = x := if_pos rfl
theorem own_upd_ne {g : Nat → Int32} {i j : Nat} {x : Int32} (h : ¬ i = j) : own_upd g j x i = g i := if_neg h
/-- the kinds of values: a char -/
def own_isC (c : Int32) : Prop := 0 ≤ c.toInt ∧ c.toInt ≤ 65535
theorem own_nat32 {x : Int32} {n : Nat} (h : x.toInt = n) : x.toBitVec.toNat = n := by
  have q : x.toBitVec.toInt = n := h
  have hb := x.toBitVec.isLt
  rw [BitVec.toInt_eq_toNat_cond] at q
  split at q <;> omega
theorem own_int32 {x : Int32} {n : Nat} (h : x.toBitVec.toNat = n) (hn : n < 2 ^ 31) : x.toInt = n := by
  show x.toBitVec.toInt = n
  rw [BitVec.toInt_eq_toNat_cond, h, if_pos (by omega)]
theorem own_or32 {x y : Int32} {a c k : Nat} (hx : x.toInt = a) (hy : y.toInt = ((2 ^ k * c : Nat) : Int)) (ha : a < 2 ^ k) (hn : 2 ^ k * c + a < 2 ^ 31) : (x ||| y).toInt = ((2 ^ k * c + a : Nat) : Int) := by
  refine own_int32 ?_ hn
  rw [Int32.toBitVec_or, BitVec.toNat_or, own_nat32 hx, own_nat32 hy, Nat.or_comm, ← Nat.two_pow_add_eq_or_of_lt ha]
theorem own_chr_toInt (x : Int32) : (x.toUInt32.toUInt16.toUInt32.toInt32).toInt = x.toInt % 65536 := by
  have hb := x.toBitVec.isLt
  have e1 : (x.toUInt32.toUInt16.toUInt32.toInt32).toBitVec.toNat = x.toBitVec.toNat % 65536 := by
    show (x.toUInt32.toUInt16.toUInt32).toNat = _
    simp
    rfl
  rw [own_int32 e1 (by omega)]
  have q : x.toInt = x.toBitVec.toInt := rfl
  rw [q, BitVec.toInt_eq_toNat_cond]
  split <;> omega
theorem own_chr_id {x : Int32} (h : own_isC x) : x.toUInt32.toUInt16.toUInt32.toInt32 = x := by
  refine Int32.toInt_inj.mp ?_
  rw [own_chr_toInt]; have := h.1; have := h.2; omega
theorem own_byte_and (x : Int32) : ((x.toInt8.toInt32) &&& (255 : Int32)).toInt = x.toInt % 256 := by
  rw [Jvm.Kit.i32_mask _ 255 (k := 8) (by decide) (by decide), Int8.toInt_toInt32, Int32.toInt_toInt8, Int.bmod_def]; omega
theorem own_byte_idem (x : Int32) : x.toInt8.toInt32.toInt8.toInt32 = x.toInt8.toInt32 := by
  refine Int32.toInt_inj.mp ?_
  rw [Int8.toInt_toInt32, Int32.toInt_toInt8, Int8.toInt_toInt32, Int32.toInt_toInt8, Int.bmod_def, Int.bmod_def]; omega
/-- what compress writes, read by StringLatin1.charAt -/
theorem own_lat {c : Int32} (h0 : own_isC c) (h : c.toInt ≤ 255) : nar .char (((nar .byte (c.toInt8.toInt32)) &&& (255 : Int32)).toUInt32.toUInt16.toUInt32.toInt32) = c := by
  have e : ((nar .byte (c.toInt8.toInt32)) &&& (255 : Int32)) = c := by
    refine Int32.toInt_inj.mp ?_
    show ((c.toInt8.toInt32.toInt8.toInt32) &&& (255 : Int32)).toInt = _
    rw [own_byte_idem, own_byte_and]; have := h0.1; omega
  rw [e]
  show (c.toUInt32.toUInt16.toUInt32.toInt32).toUInt32.toUInt16.toUInt32.toInt32 = c
  rw [own_chr_id h0, own_chr_id h0]
def own_lo (c : Int32) : Int32 := nar .byte ((c >>> ((0 : Int32) &&& 31)).toInt8.toInt32)
def own_hi (c : Int32) : Int32 := nar .byte ((c >>> ((8 : Int32) &&& 31)).toInt8.toInt32)
/-- what putChar writes, read by getChar -/
theorem own_utf {c : Int32} (h0 : own_isC c) : nar .char ((((own_lo c &&& (255 : Int32)) <<< ((0 : Int32) &&& 31)) ||| ((own_hi c &&& (255 : Int32)) <<< ((8 : Int32) &&& 31))).toUInt32.toUInt16.toUInt32.toInt32) = c := by
  have h1 := h0.1
  have h2 := h0.2
  have s0 : (c >>> ((0 : Int32) &&& 31)).toInt = c.toInt := by rw [Jvm.Kit.i32_shr c _ (k := 0) (by decide)]; omega
  have s8 : (c >>> ((8 : Int32) &&& 31)).toInt = c.toInt / 256 := by rw [Jvm.Kit.i32_shr c _ (k := 8) (by decide)]; rfl
  have a0 : (own_lo c &&& (255 : Int32)).toInt = c.toInt % 256 := by
    show ((((c >>> ((0 : Int32) &&& 31)).toInt8.toInt32).toInt8.toInt32) &&& (255 : Int32)).toInt = _
    rw [own_byte_idem, own_byte_and, s0]
  have a8 : (own_hi c &&& (255 : Int32)).toInt = c.toInt / 256 := by
    show ((((c >>> ((8 : Int32) &&& 31)).toInt8.toInt32).toInt8.toInt32) &&& (255 : Int32)).toInt = _
    rw [own_byte_idem, own_byte_and, s8]; omega
  have b0 : ((own_lo c &&& (255 : Int32)) <<< ((0 : Int32) &&& 31)).toInt = ((c.toInt.toNat % 256 : Nat) : Int) := by
    rw [Jvm.Kit.i32_shl _ _ (k := 0) (by decide) (by rw [a0]; omega) (by rw [a0]; omega), a0]; omega
  have b8 : ((own_hi c &&& (255 : Int32)) <<< ((8 : Int32) &&& 31)).toInt = ((2 ^ 8 * (c.toInt.toNat / 256) : Nat) : Int) := by
    rw [Jvm.Kit.i32_shl _ _ (k := 8) (by decide) (by rw [a8]; omega) (by rw [a8]; omega), a8]; omega
  have e : (((own_lo c &&& (255 : Int32)) <<< ((0 : Int32) &&& 31)) ||| ((own_hi c &&& (255 : Int32)) <<< ((8 : Int32) &&& 31))) = c := by
    refine Int32.toInt_inj.mp ?_
    rw [own_or32 (k := 8) b0 b8 (by omega) (by omega)]; omega
  rw [e]
  show (c.toUInt32.toUInt16.toUInt32.toInt32).toUInt32.toUInt16.toUInt32.toInt32 = c
  rw [own_chr_id h0, own_chr_id h0]
/-- an array of n places that hold g -/
def own_Y (ty : FieldType) (Z : State) (h : Heap) (t : Addr) (n : Nat) (g : Nat → Int32) : Prop := ∃ c : Cell, Arr Z h t c ty ∧ c.slots.size = n ∧ ∀ i, i < n → c.slots[i]? = some (.int (g i))
theorem own_Y_new {ty : FieldType} {Z : State} {h : Heap} {t : Addr} {k : ClassId} {z : Int32} {n : Nat} (F : Arv Z h t k ty z [] (.int 0)) (hz : z.toNatClampNeg = n) : own_Y ty Z h t n (fun _ => 0) := by
  obtain ⟨c, A, -, S, -, H, -⟩ := F
  exact ⟨c, A, by rw [S, hz], fun i hi => H i (by rw [S, hz]; exact hi)⟩
theorem own_Y_set {ty : FieldType} {Z : State} {h h' : Heap} {t : Addr} {n : Nat} {g : Nat → Int32} {j : Int32} {k : Nat} {x : Int32} (F : own_Y ty Z h t n g) (W : Wr h h' t j.toNatClampNeg (.int x)) (e : j.toNatClampNeg = k) : own_Y ty Z h' t n (own_upd g k x) := by
  subst e
  obtain ⟨c, A, S, G⟩ := F
  refine ⟨c.setSlot j.toNatClampNeg (.int x), A.same W, by rw [sz_set]; exact S, fun i hi => ?_⟩
  by_cases e : i = j.toNatClampNeg
  · subst e; rw [own_upd_eq]; simp [Cell.setSlot, S, hi]
  · rw [own_upd_ne e]; simp only [Cell.setSlot]; rw [Array.getElem?_setIfInBounds_ne (Ne.symm e)]; exact G i hi
theorem own_Y_congr {ty : FieldType} {Z : State} {h : Heap} {t : Addr} {n n' : Nat} {g g' : Nat → Int32} (F : own_Y ty Z h t n g) (q : n = n') (e : ∀ i, i < n → g i = g' i) : own_Y ty Z h t n' g' := by
  subst q
  obtain ⟨c, A, S, G⟩ := F
  exact ⟨c, A, S, fun i hi => by rw [← e i hi]; exact G i hi⟩
theorem own_Y_ext {ty : FieldType} {Z : State} {h h' : Heap} {t : Addr} {n : Nat} {g : Nat → Int32} (F : own_Y ty Z h t n g) (E : Ext h h') : own_Y ty Z h' t n g := by obtain ⟨c, A, r⟩ := F; exact ⟨c, A.ext E, r⟩
theorem own_Y_keep {ty : FieldType} {Z : State} {h h' : Heap} {t : Addr} {n : Nat} {g : Nat → Int32} {ws : List Addr} (F : own_Y ty Z h t n g) (K : Keep h h' ws) (q : t ∉ ws) : own_Y ty Z h' t n g := by obtain ⟨c, A, r⟩ := F; exact ⟨c, ⟨K.2.1 t c A.1 q, A.2⟩, r⟩
theorem own_Y_lt {ty : FieldType} {Z : State} {h : Heap} {t : Addr} {n : Nat} {g : Nat → Int32} (F : own_Y ty Z h t n g) : t < h.size := by obtain ⟨c, A, r⟩ := F; exact A.lt
theorem own_ix {j : Int32} {k n : Nat} (e : j = k.toInt32) (h : k < n) (hn : n < 2 ^ 31) : ¬ (j < 0 ∨ n ≤ j.toNatClampNeg) ∧ j.toNatClampNeg = k := by
  subst e
  have e0 : (0 : Int32).toInt = 0 := by decide
  have e : k.toInt32.toNatClampNeg = k := by rw [Int32.toNatClampNeg, len_toInt (by omega)]; rfl
  refine ⟨?_, e⟩
  rw [e, Int32.lt_iff_toInt_lt, len_toInt (by omega), e0]; omega
theorem own_inc (k : Nat) : k.toInt32 + (1 : Int32) = (k + 1).toInt32 := i32_ofNat_add_one k
theorem own_tlt {a b : Nat} (ha : a < 2 ^ 31) (hb : b < 2 ^ 31) : a.toInt32 < b.toInt32 ↔ a < b := by
  rw [Int32.lt_iff_toInt_lt, len_toInt ha, len_toInt hb]; omega
theorem own_shl1 {k : Nat} (h : 2 * k < 2 ^ 31) : k.toInt32 <<< ((1 : Int32) &&& 31) = (2 * k).toInt32 := by
  refine Int32.toInt_inj.mp ?_
  have e : k.toInt32.toInt = k := len_toInt (by omega)
  rw [Jvm.Kit.i32_shl _ _ (k := 1) (by decide) (by rw [e]; omega) (by rw [e]; omega), e, len_toInt h]; omega
/-- statics that were there at the start: n0 the heap's size then -/
def own_Su (Z : State) (h : Heap) (n0 : Nat) (C n d : String) (v : Value) : Prop := ∃ (cf i : Nat) (k : Class) (f : Field) (st : Addr) (cell : Cell), st < n0 ∧ Z.fieldFound? C n d = some (cf, k, i, f) ∧ f.isStatic = true ∧ k.init = .initialized ∧ k.statics = some st ∧ h[st]? = some cell ∧ cell.vm.isStatics = true ∧ cell.slots[f.slot]? = some v
theorem own_Su_of {Z : State} {h : Heap} {C n d : String} {v : Value} (F : Sta Z h C n d v) : own_Su Z h h.size C n d v := by
  obtain ⟨cf, i, k, f, st, cell, h1, h2, h3, h4, h5, r⟩ := F
  exact ⟨cf, i, k, f, st, cell, (Array.getElem?_eq_some_iff.mp h5).1, h1, h2, h3, h4, h5, r⟩
theorem own_Su_to {Z : State} {h : Heap} {n0 : Nat} {C n d : String} {v : Value} (F : own_Su Z h n0 C n d v) : Sta Z h C n d v := by
  obtain ⟨cf, i, k, f, st, cell, -, r⟩ := F
  exact ⟨cf, i, k, f, st, cell, r⟩
theorem own_Su_keep {Z : State} {h h' : Heap} {n0 : Nat} {C n d : String} {v : Value} {ws : List Addr} (F : own_Su Z h n0 C n d v) (K : Keep h h' ws) (q : ∀ x ∈ ws, n0 ≤ x) : own_Su Z h' n0 C n d v := by
  obtain ⟨cf, i, k, f, st, cell, h0, h1, h2, h3, h4, h5, r⟩ := F
  exact ⟨cf, i, k, f, st, cell, h0, h1, h2, h3, h4, K.2.1 st cell h5 (fun hm => absurd h0 (Nat.not_lt.mpr (q st hm))), r⟩
def own_SS (Z : State) (h : Heap) (n0 : Nat) (z1 : Int32) (fm : Value) : Prop := own_Su Z h n0 "java/lang/String" "COMPACT_STRINGS" "Z" (.int z1) ∧ own_Su Z h n0 "jdk/internal/util/Preconditions" "SIOOBE_FORMATTER" "Ljava/util/function/BiFunction;" fm ∧ own_Su Z h n0 "java/lang/StringUTF16" "$assertionsDisabled" "Z" (.int 1) ∧ own_Su Z h n0 "java/lang/StringUTF16" "HI_BYTE_SHIFT" "I" (.int 0) ∧ own_Su Z h n0 "java/lang/StringUTF16" "LO_BYTE_SHIFT" "I" (.int 8)
theorem own_SS_keep {Z : State} {h h' : Heap} {n0 : Nat} {z1 : Int32} {fm : Value} {ws : List Addr} (F : own_SS Z h n0 z1 fm) (K : Keep h h' ws) (q : ∀ x ∈ ws, n0 ≤ x) : own_SS Z h' n0 z1 fm := ⟨own_Su_keep F.1 K q, own_Su_keep F.2.1 K q, own_Su_keep F.2.2.1 K q, own_Su_keep F.2.2.2.1 K q, own_Su_keep F.2.2.2.2 K q⟩
theorem own_SS_ext {Z : State} {h h' : Heap} {n0 : Nat} {z1 : Int32} {fm : Value} (F : own_SS Z h n0 z1 fm) (E : Ext h h') : own_SS Z h' n0 z1 fm := own_SS_keep F ((Keep.refl h []).ext E) (fun x hx => by cases hx)
theorem own_al0 {n0 : Nat} : ∀ x ∈ ([] : List Addr), n0 ≤ x := fun x hx => by cases hx
theorem own_alS {n0 : Nat} {a : Addr} {ws : List Addr} (h : n0 ≤ a) (q : ∀ x ∈ ws, n0 ≤ x) : ∀ x ∈ a :: ws, n0 ≤ x := fun x hx => by
  rcases List.mem_cons.mp hx with rfl | hx
  · exact h
  · exact q x hx
/-- a String of n chars ch: coder cd, N bytes g -/
def own_D (cd : Int32) (n N : Nat) (g ch : Nat → Int32) : Prop := (∀ i, i < n → own_isC (ch i)) ∧ n < 2 ^ 30 ∧
  ((cd = 0 ∧ N = n ∧ ∀ i, i < n → nar .char ((g i &&& (255 : Int32)).toUInt32.toUInt16.toUInt32.toInt32) = ch i ∧ (ch i).toInt ≤ 255) ∨
   (cd = 1 ∧ N = 2 * n ∧ ∀ i, i < n → nar .char ((((g (2 * i) &&& (255 : Int32)) <<< ((0 : Int32) &&& 31)) ||| ((g (2 * i + 1) &&& (255 : Int32)) <<< ((8 : Int32) &&& 31))).toUInt32.toUInt16.toUInt32.toInt32) = ch i))
theorem own_D_len {cd : Int32} {n N : Nat} {g ch : Nat → Int32} (D : own_D cd n N g ch) : N.toInt32 >>> (cd &&& 31) = n.toInt32 ∧ N < 2 ^ 31 := by
  obtain ⟨-, hn, ⟨rfl, rfl, -⟩ | ⟨rfl, rfl, -⟩⟩ := D
  · refine ⟨Int32.toInt_inj.mp ?_, by omega⟩
    rw [Jvm.Kit.i32_shr _ _ (k := 0) (by decide)]; omega
  · refine ⟨Int32.toInt_inj.mp ?_, by omega⟩
    rw [Jvm.Kit.i32_shr _ _ (k := 1) (by decide), len_toInt (by omega), len_toInt (by omega)]; omega
theorem own_D_lat {cd : Int32} {n N : Nat} {g ch : Nat → Int32} (D : own_D cd n N g ch) (h : cd = 0) : N = n ∧ ∀ i, i < n → nar .char ((g i &&& (255 : Int32)).toUInt32.toUInt16.toUInt32.toInt32) = ch i ∧ (ch i).toInt ≤ 255 := by
  obtain ⟨-, -, q | ⟨rfl, -⟩⟩ := D
  · exact q.2
  · exact absurd h (by decide)
theorem own_D_utf {cd : Int32} {n N : Nat} {g ch : Nat → Int32} (D : own_D cd n N g ch) (h : ¬ cd = 0) : N = 2 * n ∧ ∀ i, i < n → nar .char ((((g (2 * i) &&& (255 : Int32)) <<< ((0 : Int32) &&& 31)) ||| ((g (2 * i + 1) &&& (255 : Int32)) <<< ((8 : Int32) &&& 31))).toUInt32.toUInt16.toUInt32.toInt32) = ch i := by
  obtain ⟨-, -, q | q⟩ := D
  · exact absurd q.1 h
  · exact q.2
theorem own_coder0 (n : Nat) : nar .byte ((((n.toInt32 - n.toInt32).toUInt32 >>> ((31 : Int32) &&& 31).toUInt32).toInt32).toInt8.toInt32) = 0 := by
  rw [Int32.sub_self]; decide
theorem own_coder1 {n : Nat} (h0 : 0 < n) (h : n < 2 ^ 30) : nar .byte ((((n.toInt32 - (2 * n).toInt32).toUInt32 >>> ((31 : Int32) &&& 31).toUInt32).toInt32).toInt8.toInt32) = 1 := by
  have e : ((n.toInt32 - (2 * n).toInt32).toUInt32 >>> ((31 : Int32) &&& 31).toUInt32).toInt32 = 1 := by
    have a : (n.toInt32 - (2 * n).toInt32).toInt = -(n : Int) := by
      rw [Jvm.Kit.i32_sub (by rw [len_toInt (by omega), len_toInt (by omega)]; omega) (by rw [len_toInt (by omega), len_toInt (by omega)]; omega), len_toInt (by omega), len_toInt (by omega)]; omega
    generalize n.toInt32 - (2 * n).toInt32 = x at a
    have hb := x.toBitVec.isLt
    have q : x.toBitVec.toInt = -(n : Int) := a
    rw [BitVec.toInt_eq_toNat_cond] at q
    have hx : 2 ^ 31 ≤ x.toBitVec.toNat := by split at q <;> omega
    refine Int32.toInt_inj.mp ?_
    have z : (x.toUInt32 >>> ((31 : Int32) &&& 31).toUInt32).toInt32.toBitVec.toNat = 1 := by
      show (x.toUInt32 >>> ((31 : Int32) &&& 31).toUInt32).toNat = 1
      rw [UInt32.toNat_shiftRight]
      have z1 : x.toUInt32.toNat = x.toBitVec.toNat := rfl
      have z2 : ((31 : Int32) &&& 31).toUInt32.toNat % 32 = 31 := by decide
      rw [z1, z2, Nat.shiftRight_eq_div_pow]; omega
    rw [own_int32 z (by decide)]; decide
  rw [e]; decide
theorem own_strs : ∀ a ∈ Bundle.stringAtoms, a ∈ tables_1 := by decide +kernel
def own_QK (Z : State) (r : Option Value) (ws : List Addr) (P : Heap → Prop) (h0 : Heap) (n0 : Nat) (v : Option Value) (h : Heap) (L : List Loc) : Prop := v = r ∧ Fr n0 L ∧ Keep h0 h ws ∧ P h
/-- it returns something new, of which P says more -/
def own_QN1 (P : Heap → Addr → Prop) (h0 : Heap) (n0 : Nat) (v : Option Value) (h : Heap) (L : List Loc) : Prop := ∃ t : Addr, v = some (.ref t) ∧ Fr n0 L ∧ Keep h0 h [] ∧ h0.size ≤ t ∧ P h t
theorem own_neg {k : Nat} (h : k < 2 ^ 31) : ¬ k.toInt32 < 0 := by
  have e0 : (0 : Int32).toInt = 0 := by decide
  rw [Int32.lt_iff_toInt_lt, len_toInt h, e0]; omega
theorem own_clamp {k : Nat} (h : k < 2 ^ 31) : k.toInt32.toNatClampNeg = k := by rw [Int32.toNatClampNeg, len_toInt h]; rfl
theorem own_half {n N : Nat} (e : N = 2 * n) (h : n < 2 ^ 30) : N.toInt32 >>> ((1 : Int32) &&& 31) = n.toInt32 := by
  refine Int32.toInt_inj.mp ?_
  rw [Jvm.Kit.i32_shr _ _ (k := 1) (by decide), len_toInt (by omega), len_toInt (by omega)]; omega
theorem own_teq {a b : Nat} (ha : a < 2 ^ 31) (hb : b < 2 ^ 31) : a.toInt32 = b.toInt32 ↔ a = b := by
  rw [← Int32.toInt_inj, len_toInt ha, len_toInt hb]; omega
theorem own_nz0 {n : Nat} (h0 : 0 < n) (h : n < 2 ^ 31) : ¬ n.toInt32 = (0 : Int32) := fun q => by
  have := (own_teq h (b := 0) (by decide)).mp q; omega
theorem own_big {c : Int32} (h : 255 < c.toInt) : (255 : Int32) < c := by
  have e : (255 : Int32).toInt = 255 := by decide
  rw [Int32.lt_iff_toInt_lt, e]; exact h
theorem own_D_cd {cd : Int32} {n N : Nat} {g ch : Nat → Int32} (D : own_D cd n N g ch) : nar .byte cd = cd := by
  obtain ⟨-, -, ⟨rfl, -⟩ | ⟨rfl, -⟩⟩ := D <;> decide
theorem own_D_pos {cd : Int32} {n N : Nat} {g ch : Nat → Int32} (D : own_D cd n N g ch) (h : 0 < n) : 0 < N ∧ N < 2 ^ 31 := by
  obtain ⟨-, hn, ⟨-, rfl, -⟩ | ⟨-, rfl, -⟩⟩ := D <;> omega
theorem own_D_cod {cd : Int32} {n N : Nat} {g ch : Nat → Int32} (D : own_D cd n N g ch) (h : 0 < n) : nar .byte ((((n.toInt32 - N.toInt32).toUInt32 >>> ((31 : Int32) &&& 31).toUInt32).toInt32).toInt8.toInt32) = cd := by
  obtain ⟨-, hn, ⟨rfl, rfl, -⟩ | ⟨rfl, rfl, -⟩⟩ := D
  · exact own_coder0 _
  · exact own_coder1 h hn
theorem own_D_mkL {n : Nat} {g ch : Nat → Int32} (hC : ∀ i, i < n → own_isC (ch i)) (hn : n < 2 ^ 30) (hG : ∀ i, i < n → g i = nar .byte ((ch i).toInt8.toInt32) ∧ (ch i).toInt ≤ 255) : own_D 0 n n g ch :=
  ⟨hC, hn, Or.inl ⟨rfl, rfl, fun i hi => ⟨by rw [(hG i hi).1]; exact own_lat (hC i hi) (hG i hi).2, (hG i hi).2⟩⟩⟩
theorem own_D_mkU {n : Nat} {g ch : Nat → Int32} (hC : ∀ i, i < n → own_isC (ch i)) (hn : n < 2 ^ 30) (hG : ∀ i, i < n → g (2 * i) = own_lo (ch i) ∧ g (2 * i + 1) = own_hi (ch i)) : own_D 1 n (2 * n) g ch :=
  ⟨hC, hn, Or.inr ⟨rfl, rfl, fun i hi => by rw [(hG i hi).1, (hG i hi).2]; exact own_utf (hC i hi)⟩⟩
/-- where compress stopped -/
def own_P5 (Z : State) (n : Nat) (ch : Nat → Int32) (t : Addr) (k : Nat) (h : Heap) : Prop := (k = n ∧ ∃ G : Nat → Int32, own_Y .byte Z h t n G ∧ ∀ i, i < n → G i = nar .byte ((ch i).toInt8.toInt32) ∧ (ch i).toInt ≤ 255) ∨ (k < n ∧ 255 < (ch k).toInt)
def own_Q5 (Z : State) (n : Nat) (ch : Nat → Int32) (t : Addr) (h0 : Heap) (n0 : Nat) (v : Option Value) (h : Heap) (L : List Loc) : Prop := ∃ k : Nat, v = some (.int k.toInt32) ∧ Fr n0 L ∧ Keep h0 h [t] ∧ own_P5 Z n ch t k h
/-- .. and the bytes are just these -/
def own_B (cd : Int32) (n N : Nat) (g ch : Nat → Int32) : Prop := (cd = 0 ∧ N = n ∧ ∀ i, i < n → g i = nar .byte ((ch i).toInt8.toInt32) ∧ (ch i).toInt ≤ 255) ∨ (cd = 1 ∧ N = 2 * n ∧ (∃ k, k < n ∧ 255 < (ch k).toInt) ∧ ∀ i, i < n → g (2 * i) = own_lo (ch i) ∧ g (2 * i + 1) = own_hi (ch i))
theorem own_B_eq {cd cd' : Int32} {n N N' : Nat} {g g' ch : Nat → Int32} (a : own_B cd n N g ch) (b : own_B cd' n N' g' ch) : cd = cd' ∧ N = N' ∧ ∀ i, i < N → g i = g' i := by
  rcases a with ⟨rfl, rfl, ha⟩ | ⟨rfl, rfl, ⟨k, hk, hk'⟩, ha⟩ <;> rcases b with ⟨rfl, rfl, hb⟩ | ⟨rfl, rfl, ⟨j, hj, hj'⟩, hb⟩
  · exact ⟨rfl, rfl, fun i hi => by rw [(ha i hi).1, (hb i hi).1]⟩
  · have := (ha j hj).2; omega
  · have := (hb k hk).2; omega
  · refine ⟨rfl, rfl, fun i hi => ?_⟩
    by_cases e : i % 2 = 0
    · rw [show i = 2 * (i / 2) by omega, (ha (i / 2) (by omega)).1, (hb (i / 2) (by omega)).1]
    · rw [show i = 2 * (i / 2) + 1 by omega, (ha (i / 2) (by omega)).2, (hb (i / 2) (by omega)).2]
def own_PB (Z : State) (n : Nat) (ch : Nat → Int32) (h : Heap) (t : Addr) : Prop := ∃ (cd : Int32) (N : Nat) (g : Nat → Int32), own_Y .byte Z h t N g ∧ own_D cd n N g ch ∧ own_B cd n N g ch
def own_PS (Z : State) (n : Nat) (ch : Nat → Int32) (a : Addr) (h0 : Heap) (h : Heap) : Prop := ∃ (t : Addr) (cd : Int32) (N : Nat) (g : Nat → Int32), h0.size ≤ t ∧ a ≠ t ∧ Fld Z h a "java/lang/String" "coder" "B" (.int cd) ∧ Fld Z h a "java/lang/String" "value" "[B" (.ref t) ∧ own_Y .byte Z h t N g ∧ own_D cd n N g ch ∧ own_B cd n N g ch
theorem d31_0 : decode jdk_52_method_6_code 0 = .ok (.aload_n 0, 1) := by decide +kernel
theorem d31_1 : decode jdk_52_method_6_code 1 = .ok (.arraylength, 1) := by decide +kernel
theorem d31_2 : decode jdk_52_method_6_code 2 = .ok (.iconst 1, 1) := by decide +kernel
theorem d31_3 : decode jdk_52_method_6_code 3 = .ok (.ishr, 1) := by decide +kernel
theorem d31_4 : decode jdk_52_method_6_code 4 = .ok (.ireturn, 1) := by decide +kernel
theorem pn_31 : plainName "java/lang/StringUTF16" = true := by first | (simp [plainName, overriddenIn]; done) | decide +kernel
theorem ef_31 (m : MethodId) (a0 : Addr) : entryFrame m #[(.ref a0)] 1 = mkF m 0 #[.val (.ref a0)] [] := by first | (simp [entryFrame, mkF, argsToLocals, Value.category]; done) | rfl
set_option maxRecDepth 65536 in
set_option maxHeartbeats 40000000 in
theorem rm31 (l : Launch) (Z : State) (a0 : Array Value) (hw : ∀ d ∈ tables_1, d.before a0 Z = true) (ws : List Jvm.Cond) (a0 : Addr) (n : Nat) (N : Nat) (g1 : Nat → Int32) (h0 : Heap) (n0 : Nat) (Z0 : n0 ≤ h0.size) (Y0 : own_Y .byte Z h0 a0 N g1) (hN : N = 2 * n) (hn : n < 2 ^ 30) :
    MetFree l (⟨"java/lang/StringUTF16", "length", "([B)I"⟩ : MethodName) (head1 (Jvm.Cond.code (⟨"java/lang/StringUTF16", "length", "([B)I"⟩ : MethodName) jdk_52_method_6_code 1 (some .int) :: ws) ({ frames := 0, cells := 0, slots := 0, locals := 0 } : Room)) (fun a U => a = #[(.ref a0)] ∧ Z.Warmed39 U.vm ∧ U.heap = h0) (fun _ _ _ _ _ => True) (fun _ U o U' => ∃ v L, o = .returned v ∧ own_QV (.int n.toInt32) h0 n0 v U'.heap L ∧ FrameEnd U o U' L ({ frames := 0, cells := 0, slots := 0, locals := 0 } : Room).cells ({ frames := 0, cells := 0, slots := 0, locals := 0 } : Room).slots) := by
  refine MetFree.of_bodySF (plainFor_of_name pn_31) hisR ?_
  intro p e s m args below meth c s₁ Bd hml0 hP hK
  obtain ⟨rfl, hZ, hh⟩ := hP
  have hx := Bd.exec
  have hby := Bd.bytes
  have hlk : meth.locks = false := BodyLoose.notSynchronized Bd
  have hret := Bd.returns
  have hml : c.maxLocals = 1 := hml0
  have hown : s.vm.findClass "java/lang/StringUTF16" = some m.cls := findClass_of_methodNamed Bd.named
  have hnm := (name_of_methodNamed Bd.named Bd.method).1
  have X0 : Stand p l e ({ frames := 0, cells := 0, slots := 0, locals := 0 } : Room) s m #[(.ref a0)] below meth c s₁ [] 0 0 := Stand.of_body Bd
  have e0 : s₁.heap = h0 := by rw [← hh, Bd.state]; rfl
  have N0 := Fr.nil n0
  show own_G p.tables e below (own_E s ({ frames := 0, cells := 0, slots := 0, locals := 0 } : Room).cells ({ frames := 0, cells := 0, slots := 0, locals := 0 } : Room).slots) (own_QV (.int n.toInt32) h0 n0) (s₁.setTop (entryFrame m #[(.ref a0)] 1))
  refine own_st ?_ (fun t_ k_ => castTop (ef_31 m a0) k_)
  show own_G p.tables e below _ _ (s₁.setTop (mkF m 0 #[.val (.ref a0)] []))
  refine own_st ?_ (fun t_ k_ => XS.aloadN X0.here hx rfl (hb hby d31_0) rfl rfl k_)
  show own_G p.tables e below _ _ (s₁.setTop (mkF m 1 #[.val (.ref a0)] [(.ref a0)]))
  obtain ⟨cl1, Ar1, Sz1, G1⟩ := Y0
  refine own_st ?_ (X0.arraylength hx (by rw [e0]; exact Ar1.1) (State.isArrayOf_alike hZ.alike Ar1.2.1) (g := (mkF m 1 #[.val (.ref a0)] [(.ref a0)])) rfl rfl (hb hby d31_1))
  rw [Sz1]
  have Yx1 : own_Y .byte Z h0 a0 N g1 := ⟨cl1, Ar1, Sz1, G1⟩
  show own_G p.tables e below _ _ (s₁.setTop (mkF m 2 #[.val (.ref a0)] [(.int (N).toInt32)]))
  refine own_st ?_ (fun t_ k_ => XS.iconst X0.here hx rfl (hb hby d31_2) k_)
  show own_G p.tables e below _ _ (s₁.setTop (mkF m 3 #[.val (.ref a0)] [(.int (1 : Int32)), (.int (N).toInt32)]))
  refine own_st ?_ (fun t_ k_ => XS.ishr X0.here hx rfl (hb hby d31_3) rfl k_)
  show own_G p.tables e below _ _ (s₁.setTop (mkF m 4 #[.val (.ref a0)] [(.int ((N).toInt32 >>> ((1 : Int32) &&& 31)))]))
  exact own_retI X0 hx hlk hret (hb hby d31_4) (by decide) (by decide) ⟨congrArg (fun z => some (Value.int z)) (own_half hN hn), N0, e0⟩
theorem d18_0 : decode jdk_41_method_11_code 0 = .ok (.iload_n 0, 1) := by decide +kernel
theorem d18_1 : decode jdk_41_method_11_code 1 = .ok (.ifCond .lt 8, 3) := by decide +kernel
theorem d18_4 : decode jdk_41_method_11_code 4 = .ok (.iload_n 0, 1) := by decide +kernel
theorem d18_5 : decode jdk_41_method_11_code 5 = .ok (.iload_n 1, 1) := by decide +kernel
theorem d18_6 : decode jdk_41_method_11_code 6 = .ok (.if_icmp .lt 10, 3) := by decide +kernel
theorem d18_16 : decode jdk_41_method_11_code 16 = .ok (.iload_n 0, 1) := by decide +kernel
theorem d18_17 : decode jdk_41_method_11_code 17 = .ok (.ireturn, 1) := by decide +kernel
def f18 (p0 : Int32) (p1 : Int32) (fm : Value) : Int32 := p0
theorem pn_18 : plainName "jdk/internal/util/Preconditions" = true := by first | (simp [plainName, overriddenIn]; done) | decide +kernel
theorem ef_18 (m : MethodId) (p0 : Int32) (p1 : Int32) (fm : Value) (rf_fm : fm.isRef = true) : entryFrame m #[(.int p0), (.int p1), fm] 3 = mkF m 0 #[.val (.int p0), .val (.int p1), .val fm] [] := by rcases ref_cases rf_fm with rfl | ⟨_, rfl⟩ <;> first | (simp [entryFrame, mkF, argsToLocals, Value.category]; done) | rfl
set_option maxRecDepth 65536 in
set_option maxHeartbeats 40000000 in
theorem rm18 (l : Launch) (Z : State) (a0 : Array Value) (hw : ∀ d ∈ tables_1, d.before a0 Z = true) (ws : List Jvm.Cond) (p0 : Int32) (p1 : Int32) (fm : Value) (h0 : Heap) (n0 : Nat) (Z0 : n0 ≤ h0.size) (rf_fm : fm.isRef = true) (hj0 : ¬ p0 < 0) (hjn : p0 < p1) :
    MetFree l (⟨"jdk/internal/util/Preconditions", "checkIndex", "(IILjava/util/function/BiFunction;)I"⟩ : MethodName) (head1 (Jvm.Cond.code (⟨"jdk/internal/util/Preconditions", "checkIndex", "(IILjava/util/function/BiFunction;)I"⟩ : MethodName) jdk_41_method_11_code 3 (some .int) :: ws) ({ frames := 0, cells := 0, slots := 0, locals := 0 } : Room)) (fun a U => a = #[(.int p0), (.int p1), fm] ∧ Z.Warmed39 U.vm ∧ U.heap = h0) (fun _ _ _ _ _ => True) (fun _ U o U' => ∃ v L, o = .returned v ∧ own_QV (.int (f18 p0 p1 fm )) h0 n0 v U'.heap L ∧ FrameEnd U o U' L ({ frames := 0, cells := 0, slots := 0, locals := 0 } : Room).cells ({ frames := 0, cells := 0, slots := 0, locals := 0 } : Room).slots) := by
  refine MetFree.of_bodySF (plainFor_of_name pn_18) hisR ?_
  intro p e s m args below meth c s₁ Bd hml0 hP hK
  obtain ⟨rfl, hZ, hh⟩ := hP
  have hx := Bd.exec
  have hby := Bd.bytes
  have hlk : meth.locks = false := BodyLoose.notSynchronized Bd
  have hret := Bd.returns
  have hml : c.maxLocals = 3 := hml0
  have hown : s.vm.findClass "jdk/internal/util/Preconditions" = some m.cls := findClass_of_methodNamed Bd.named
  have hnm := (name_of_methodNamed Bd.named Bd.method).1
  have X0 : Stand p l e ({ frames := 0, cells := 0, slots := 0, locals := 0 } : Room) s m #[(.int p0), (.int p1), fm] below meth c s₁ [] 0 0 := Stand.of_body Bd
  have e0 : s₁.heap = h0 := by rw [← hh, Bd.state]; rfl
  have N0 := Fr.nil n0
  show own_G p.tables e below (own_E s ({ frames := 0, cells := 0, slots := 0, locals := 0 } : Room).cells ({ frames := 0, cells := 0, slots := 0, locals := 0 } : Room).slots) (own_QV (.int (f18 p0 p1 fm )) h0 n0) (s₁.setTop (entryFrame m #[(.int p0), (.int p1), fm] 3))
  refine own_st ?_ (fun t_ k_ => castTop (ef_18 m p0 p1 fm rf_fm) k_)
  show own_G p.tables e below _ _ (s₁.setTop (mkF m 0 #[.val (.int p0), .val (.int p1), .val fm] []))
  refine own_st ?_ (fun t_ k_ => XS.iloadN X0.here hx rfl (hb hby d18_0) rfl k_)
  show own_G p.tables e below _ _ (s₁.setTop (mkF m 1 #[.val (.int p0), .val (.int p1), .val fm] [(.int p0)]))
  refine own_st ?_ (fun t_ k_ => XS.ifNo X0.here hx rfl (hb hby d18_1) rfl ((if0 _ _).trans (flt hj0).1) k_)
  show own_G p.tables e below _ _ (s₁.setTop (mkF m 4 #[.val (.int p0), .val (.int p1), .val fm] []))
  refine own_st ?_ (fun t_ k_ => XS.iloadN X0.here hx rfl (hb hby d18_4) rfl k_)
  show own_G p.tables e below _ _ (s₁.setTop (mkF m 5 #[.val (.int p0), .val (.int p1), .val fm] [(.int p0)]))
  refine own_st ?_ (fun t_ k_ => XS.iloadN X0.here hx rfl (hb hby d18_5) rfl k_)
  show own_G p.tables e below _ _ (s₁.setTop (mkF m 6 #[.val (.int p0), .val (.int p1), .val fm] [(.int p1), (.int p0)]))
  refine own_st ?_ (fun t_ k_ => XS.icmpYes X0.here hx rfl (pc0 := 6) (pc' := 16) rfl (hb hby d18_6) rfl (tlt hjn).1 (by decide) (by decide) k_)
  show own_G p.tables e below _ _ (s₁.setTop (mkF m 16 #[.val (.int p0), .val (.int p1), .val fm] []))
  refine own_st ?_ (fun t_ k_ => XS.iloadN X0.here hx rfl (hb hby d18_16) rfl k_)
  show own_G p.tables e below _ _ (s₁.setTop (mkF m 17 #[.val (.int p0), .val (.int p1), .val fm] [(.int p0)]))
  refine own_retI X0 hx hlk hret (hb hby d18_17) (by decide) (by decide) ⟨?_, N0, e0⟩
  rw [show f18 p0 p1 fm  = p0 from rfl]
theorem pd_0 : parseMethodDescriptor "(IILjava/util/function/BiFunction;)I" = some ⟨[.int, .int, (.object "java/util/function/BiFunction")], some .int⟩ := by decide +kernel
theorem d17_0 : decode jdk_42_method_155_code 0 = .ok (.iload_n 0, 1) := by decide +kernel
theorem d17_1 : decode jdk_42_method_155_code 1 = .ok (.iload_n 1, 1) := by decide +kernel
theorem d17_2 : decode jdk_42_method_155_code 2 = .ok (.getstatic 1053, 3) := by decide +kernel
theorem d17_5 : decode jdk_42_method_155_code 5 = .ok (.invokestatic 1059, 3) := by decide +kernel
theorem d17_8 : decode jdk_42_method_155_code 8 = .ok (.pop, 1) := by decide +kernel
theorem d17_9 : decode jdk_42_method_155_code 9 = .ok (.return_, 1) := by decide +kernel
theorem pn_17 : plainName "java/lang/String" = true := by first | (simp [plainName, overriddenIn]; done) | decide +kernel
theorem ef_17 (m : MethodId) (p0 : Int32) (p1 : Int32) : entryFrame m #[(.int p0), (.int p1)] 2 = mkF m 0 #[.val (.int p0), .val (.int p1)] [] := by first | (simp [entryFrame, mkF, argsToLocals, Value.category]; done) | rfl
set_option maxRecDepth 65536 in
set_option maxHeartbeats 40000000 in
theorem rm17 (l : Launch) (Z : State) (a0 : Array Value) (hw : ∀ d ∈ tables_1, d.before a0 Z = true) (ws : List Jvm.Cond) (p0 : Int32) (p1 : Int32) (z1 : Int32) (fm : Value) (h0 : Heap) (n0 : Nat) (Z0 : n0 ≤ h0.size) (SS : own_SS Z h0 n0 z1 fm) (rf_fm : fm.isRef = true) (hj0 : ¬ p0 < 0) (hjn : p0 < p1) :
    MetFree l (⟨"java/lang/String", "checkIndex", "(II)V"⟩ : MethodName) (head1 (Jvm.Cond.code (⟨"java/lang/String", "checkIndex", "(II)V"⟩ : MethodName) jdk_42_method_155_code 2 none :: ws) ({ frames := 1, cells := 0, slots := 0, locals := 14 } : Room)) (fun a U => a = #[(.int p0), (.int p1)] ∧ Z.Warmed39 U.vm ∧ U.heap = h0) (fun _ _ _ _ _ => True) (fun _ U o U' => ∃ v L, o = .returned v ∧ own_QN h0 n0 v U'.heap L ∧ FrameEnd U o U' L ({ frames := 1, cells := 0, slots := 0, locals := 14 } : Room).cells ({ frames := 1, cells := 0, slots := 0, locals := 14 } : Room).slots) := by
  refine MetFree.of_bodySF (plainFor_of_name pn_17) hisR ?_
  intro p e s m args below meth c s₁ Bd hml0 hP hK
  obtain ⟨rfl, hZ, hh⟩ := hP
  have hx := Bd.exec
  have hby := Bd.bytes
  have hlk : meth.locks = false := BodyLoose.notSynchronized Bd
  have hret := Bd.returns
  have hml : c.maxLocals = 2 := hml0
  have hown : s.vm.findClass "java/lang/String" = some m.cls := findClass_of_methodNamed Bd.named
  have hnm := (name_of_methodNamed Bd.named Bd.method).1
  have X0 : Stand p l e ({ frames := 1, cells := 0, slots := 0, locals := 14 } : Room) s m #[(.int p0), (.int p1)] below meth c s₁ [] 0 0 := Stand.of_body Bd
  have e0 : s₁.heap = h0 := by rw [← hh, Bd.state]; rfl
  have N0 := Fr.nil n0
  show own_G p.tables e below (own_E s ({ frames := 1, cells := 0, slots := 0, locals := 14 } : Room).cells ({ frames := 1, cells := 0, slots := 0, locals := 14 } : Room).slots) (own_QN h0 n0) (s₁.setTop (entryFrame m #[(.int p0), (.int p1)] 2))
  refine own_st ?_ (fun t_ k_ => castTop (ef_17 m p0 p1) k_)
  show own_G p.tables e below _ _ (s₁.setTop (mkF m 0 #[.val (.int p0), .val (.int p1)] []))
  refine own_st ?_ (fun t_ k_ => XS.iloadN X0.here hx rfl (hb hby d17_0) rfl k_)
  show own_G p.tables e below _ _ (s₁.setTop (mkF m 1 #[.val (.int p0), .val (.int p1)] [(.int p0)]))
  refine own_st ?_ (fun t_ k_ => XS.iloadN X0.here hx rfl (hb hby d17_1) rfl k_)
  show own_G p.tables e below _ _ (s₁.setTop (mkF m 2 #[.val (.int p0), .val (.int p1)] [(.int p1), (.int p0)]))
  obtain ⟨T1, X1, e1, st1⟩ := getS2 X0 hx hZ hown (host := "") (Or.inl (hw _ (List.mem_of_getElem? (i := 92) rfl))) Via.refl e0 (own_Su_to SS.2.1) (g := (mkF m 2 #[.val (.int p0), .val (.int p1)] [(.int p1), (.int p0)])) rfl (hb hby d17_2)
  refine own_st ?_ st1
  show own_G p.tables e below _ _ (T1.setTop (mkF m 5 #[.val (.int p0), .val (.int p1)] [fm, (.int p1), (.int p0)]))
  obtain ⟨_, _, ⟨T2, L2, k2, n2⟩, -, X2, ⟨Lc2, hQ2, l2, y2, z2⟩, st2⟩ := Jvm.LawKit.callS X1 hx (y := (⟨"jdk/internal/util/Preconditions", "checkIndex", "(IILjava/util/function/BiFunction;)I"⟩ : MethodName)) hown (mvT hZ (hw _ (List.mem_of_getElem? (i := 94) rfl))) (mvT hZ (hw _ (List.mem_of_getElem? (i := 95) rfl))) (mvT hZ (hw _ (List.mem_of_getElem? (i := 93) rfl))) (mvT hZ (hw _ (List.mem_of_getElem? (i := 96) rfl))) (by decide) (backOf (W := 0) (rm18 l Z _ hw [] p0 p1 fm  h0 n0 Z0 rf_fm hj0 hjn) hZ (hw _ (List.mem_of_getElem? (i := 96) rfl)) (hw _ (List.mem_of_getElem? (i := 93) rfl)) (by decide) (by decide)) (g := (mkF m 5 #[.val (.int p0), .val (.int p1)] [fm, (.int p1), (.int p0)])) rfl (by rw [hml]; rfl) (argsL := [(.int p0), (.int p1), fm]) (rest := []) (lenOf pd_0 rfl) rfl (by show 2 * 0 + _ ≤ _; exact Nat.le_of_eq rfl) (hb hby d17_5) (fun _ _ => ⟨rfl, e1, (by decide : 0 + 0 ≤ _), (by decide : 0 + 0 ≤ _)⟩)
  dsimp only [Pt.U, Pt.locs, Pt.cells, Pt.slots] at X2 l2 y2 z2 st2 hQ2
  subst l2 y2 z2
  obtain ⟨rfl, N2q, e2⟩ := hQ2
  have N2 := Fr.app N0 N2q
  refine own_st ?_ st2
  show own_G p.tables e below _ _ (T2.setTop (mkF m 8 #[.val (.int p0), .val (.int p1)] [(.int (f18 p0 p1 fm))]))
  refine own_st ?_ (fun t_ k_ => XS.pop X2.here hx rfl (hb hby d17_8) rfl rfl k_)
  show own_G p.tables e below _ _ (T2.setTop (mkF m 9 #[.val (.int p0), .val (.int p1)] []))
  exact own_retV X2 hx hlk hret (hb hby d17_9) (by decide) (by decide) ⟨rfl, N2, e2⟩
theorem pd_2 : parseMethodDescriptor "(II)V" = some ⟨[.int, .int], none⟩ := by decide +kernel
theorem pd_1 : parseMethodDescriptor "([B)I" = some ⟨[(.array .byte)], some .int⟩ := by decide +kernel
theorem d30_0 : decode jdk_52_method_91_code 0 = .ok (.iload_n 0, 1) := by decide +kernel
theorem d30_1 : decode jdk_52_method_91_code 1 = .ok (.aload_n 1, 1) := by decide +kernel
theorem d30_2 : decode jdk_52_method_91_code 2 = .ok (.invokestatic 48, 3) := by decide +kernel
theorem d30_5 : decode jdk_52_method_91_code 5 = .ok (.invokestatic 414, 3) := by decide +kernel
theorem d30_8 : decode jdk_52_method_91_code 8 = .ok (.return_, 1) := by decide +kernel
theorem pn_30 : plainName "java/lang/StringUTF16" = true := by first | (simp [plainName, overriddenIn]; done) | decide +kernel
theorem ef_30 (m : MethodId) (p0 : Int32) (a1 : Addr) : entryFrame m #[(.int p0), (.ref a1)] 2 = mkF m 0 #[.val (.int p0), .val (.ref a1)] [] := by first | (simp [entryFrame, mkF, argsToLocals, Value.category]; done) | rfl
set_option maxRecDepth 65536 in
set_option maxHeartbeats 40000000 in
theorem rm30 (l : Launch) (Z : State) (a0 : Array Value) (hw : ∀ d ∈ tables_1, d.before a0 Z = true) (ws : List Jvm.Cond) (p0 : Int32) (a1 : Addr) (z1 : Int32) (fm : Value) (i : Nat) (n : Nat) (N : Nat) (g1 : Nat → Int32) (h0 : Heap) (n0 : Nat) (Z0 : n0 ≤ h0.size) (SS : own_SS Z h0 n0 z1 fm) (Y0 : own_Y .byte Z h0 a1 N g1) (rf_fm : fm.isRef = true) (hi : p0 = i.toInt32) (hin : i < n) (hN : N = 2 * n) (hn : n < 2 ^ 30) :
    MetFree l (⟨"java/lang/StringUTF16", "checkIndex", "(I[B)V"⟩ : MethodName) (head1 (Jvm.Cond.code (⟨"java/lang/StringUTF16", "checkIndex", "(I[B)V"⟩ : MethodName) jdk_52_method_91_code 2 none :: ws) ({ frames := 2, cells := 0, slots := 0, locals := 27 } : Room)) (fun a U => a = #[(.int p0), (.ref a1)] ∧ Z.Warmed39 U.vm ∧ U.heap = h0) (fun _ _ _ _ _ => True) (fun _ U o U' => ∃ v L, o = .returned v ∧ own_QN h0 n0 v U'.heap L ∧ FrameEnd U o U' L ({ frames := 2, cells := 0, slots := 0, locals := 27 } : Room).cells ({ frames := 2, cells := 0, slots := 0, locals := 27 } : Room).slots) := by
  refine MetFree.of_bodySF (plainFor_of_name pn_30) hisR ?_
  intro p e s m args below meth c s₁ Bd hml0 hP hK
  obtain ⟨rfl, hZ, hh⟩ := hP
  have hx := Bd.exec
  have hby := Bd.bytes
  have hlk : meth.locks = false := BodyLoose.notSynchronized Bd
  have hret := Bd.returns
  have hml : c.maxLocals = 2 := hml0
  have hown : s.vm.findClass "java/lang/StringUTF16" = some m.cls := findClass_of_methodNamed Bd.named
  have hnm := (name_of_methodNamed Bd.named Bd.method).1
  have X0 : Stand p l e ({ frames := 2, cells := 0, slots := 0, locals := 27 } : Room) s m #[(.int p0), (.ref a1)] below meth c s₁ [] 0 0 := Stand.of_body Bd
  have e0 : s₁.heap = h0 := by rw [← hh, Bd.state]; rfl
  have N0 := Fr.nil n0
  show own_G p.tables e below (own_E s ({ frames := 2, cells := 0, slots := 0, locals := 27 } : Room).cells ({ frames := 2, cells := 0, slots := 0, locals := 27 } : Room).slots) (own_QN h0 n0) (s₁.setTop (entryFrame m #[(.int p0), (.ref a1)] 2))
  refine own_st ?_ (fun t_ k_ => castTop (ef_30 m p0 a1) k_)
  show own_G p.tables e below _ _ (s₁.setTop (mkF m 0 #[.val (.int p0), .val (.ref a1)] []))
  refine own_st ?_ (fun t_ k_ => XS.iloadN X0.here hx rfl (hb hby d30_0) rfl k_)
  show own_G p.tables e below _ _ (s₁.setTop (mkF m 1 #[.val (.int p0), .val (.ref a1)] [(.int p0)]))
  refine own_st ?_ (fun t_ k_ => XS.aloadN X0.here hx rfl (hb hby d30_1) rfl rfl k_)
  show own_G p.tables e below _ _ (s₁.setTop (mkF m 2 #[.val (.int p0), .val (.ref a1)] [(.ref a1), (.int p0)]))
  obtain ⟨_, _, ⟨T1, L1, k1, n1⟩, -, X1, ⟨Lc1, hQ1, l1, y1, z1⟩, st1⟩ := Jvm.LawKit.callS X0 hx (y := (⟨"java/lang/StringUTF16", "length", "([B)I"⟩ : MethodName)) hown (mvT hZ (hw _ (List.mem_of_getElem? (i := 155) rfl))) (mvT hZ (hw _ (List.mem_of_getElem? (i := 156) rfl))) (mvT hZ (hw _ (List.mem_of_getElem? (i := 23) rfl))) (mvT hZ (hw _ (List.mem_of_getElem? (i := 157) rfl))) (by decide) (backOf (W := 1) (rm31 l Z _ hw [] a1 n N g1 h0 n0 Z0 Y0 hN hn) hZ (hw _ (List.mem_of_getElem? (i := 157) rfl)) (hw _ (List.mem_of_getElem? (i := 23) rfl)) (by decide) (by decide)) (g := (mkF m 2 #[.val (.int p0), .val (.ref a1)] [(.ref a1), (.int p0)])) rfl (by rw [hml]; rfl) (argsL := [(.ref a1)]) (rest := [(.int p0)]) (lenOf pd_1 rfl) rfl (by show 2 * 0 + _ ≤ _; exact Nat.le_of_eq rfl) (hb hby d30_2) (fun _ _ => ⟨rfl, e0, (by decide : 0 + 0 ≤ _), (by decide : 0 + 0 ≤ _)⟩)
  dsimp only [Pt.U, Pt.locs, Pt.cells, Pt.slots] at X1 l1 y1 z1 st1 hQ1
  subst l1 y1 z1
  obtain ⟨rfl, N1q, e1⟩ := hQ1
  have N1 := Fr.app N0 N1q
  refine own_st ?_ st1
  show own_G p.tables e below _ _ (T1.setTop (mkF m 5 #[.val (.int p0), .val (.ref a1)] [(.int n.toInt32), (.int p0)]))
  obtain ⟨_, _, ⟨T2, L2, k2, n2⟩, -, X2, ⟨Lc2, hQ2, l2, y2, z2⟩, st2⟩ := Jvm.LawKit.callS X1 hx (y := (⟨"java/lang/String", "checkIndex", "(II)V"⟩ : MethodName)) hown (mvT hZ (hw _ (List.mem_of_getElem? (i := 158) rfl))) (mvT hZ (hw _ (List.mem_of_getElem? (i := 90) rfl))) (mvT hZ (hw _ (List.mem_of_getElem? (i := 4) rfl))) (mvT hZ (hw _ (List.mem_of_getElem? (i := 91) rfl))) (by decide) (backOf (W := 0) (rm17 l Z _ hw [] p0 n.toInt32 z1 fm h0 n0 Z0 SS rf_fm (by rw [hi]; exact own_neg (by omega)) (by rw [hi]; exact (own_tlt (by omega) (by omega)).mpr hin)) hZ (hw _ (List.mem_of_getElem? (i := 91) rfl)) (hw _ (List.mem_of_getElem? (i := 4) rfl)) (by decide) (by decide)) (g := (mkF m 5 #[.val (.int p0), .val (.ref a1)] [(.int n.toInt32), (.int p0)])) rfl (by rw [hml]; rfl) (argsL := [(.int p0), (.int n.toInt32)]) (rest := []) (lenOf pd_2 rfl) rfl (by show 2 * 0 + _ ≤ _; exact Nat.le_of_eq rfl) (hb hby d30_5) (fun _ _ => ⟨rfl, e1, (by decide : 0 + 0 ≤ _), (by decide : 0 + 0 ≤ _)⟩)
  dsimp only [Pt.U, Pt.locs, Pt.cells, Pt.slots] at X2 l2 y2 z2 st2 hQ2
  subst l2 y2 z2
  obtain ⟨rfl, N2q, e2⟩ := hQ2
  have N2 := Fr.app N1 N2q
  refine own_st ?_ st2
  show own_G p.tables e below _ _ (T2.setTop (mkF m 8 #[.val (.int p0), .val (.ref a1)] []))
  exact own_retV X2 hx hlk hret (hb hby d30_8) (by decide) (by decide) ⟨rfl, N2, e2⟩
theorem d28_0 : decode jdk_52_method_5_code 0 = .ok (.getstatic 44, 3) := by decide +kernel
theorem d28_3 : decode jdk_52_method_5_code 3 = .ok (.ifCond .ne 25, 3) := by decide +kernel
theorem d28_28 : decode jdk_52_method_5_code 28 = .ok (.iload_n 1, 1) := by decide +kernel
theorem d28_29 : decode jdk_52_method_5_code 29 = .ok (.iconst 1, 1) := by decide +kernel
theorem d28_30 : decode jdk_52_method_5_code 30 = .ok (.ishl, 1) := by decide +kernel
theorem d28_31 : decode jdk_52_method_5_code 31 = .ok (.istore_n 1, 1) := by decide +kernel
theorem d28_32 : decode jdk_52_method_5_code 32 = .ok (.aload_n 0, 1) := by decide +kernel
theorem d28_33 : decode jdk_52_method_5_code 33 = .ok (.iload_n 1, 1) := by decide +kernel
theorem d28_34 : decode jdk_52_method_5_code 34 = .ok (.iinc 1 1, 3) := by decide +kernel
theorem d28_37 : decode jdk_52_method_5_code 37 = .ok (.baload, 1) := by decide +kernel
theorem d28_38 : decode jdk_52_method_5_code 38 = .ok (.sipush 255, 3) := by decide +kernel
theorem d28_41 : decode jdk_52_method_5_code 41 = .ok (.iand, 1) := by decide +kernel
theorem d28_42 : decode jdk_52_method_5_code 42 = .ok (.getstatic 59, 3) := by decide +kernel
theorem d28_45 : decode jdk_52_method_5_code 45 = .ok (.ishl, 1) := by decide +kernel
theorem d28_46 : decode jdk_52_method_5_code 46 = .ok (.aload_n 0, 1) := by decide +kernel
theorem d28_47 : decode jdk_52_method_5_code 47 = .ok (.iload_n 1, 1) := by decide +kernel
theorem d28_48 : decode jdk_52_method_5_code 48 = .ok (.baload, 1) := by decide +kernel
theorem d28_49 : decode jdk_52_method_5_code 49 = .ok (.sipush 255, 3) := by decide +kernel
theorem d28_52 : decode jdk_52_method_5_code 52 = .ok (.iand, 1) := by decide +kernel
theorem d28_53 : decode jdk_52_method_5_code 53 = .ok (.getstatic 63, 3) := by decide +kernel
theorem d28_56 : decode jdk_52_method_5_code 56 = .ok (.ishl, 1) := by decide +kernel
theorem d28_57 : decode jdk_52_method_5_code 57 = .ok (.ior, 1) := by decide +kernel
theorem d28_58 : decode jdk_52_method_5_code 58 = .ok (.i2c, 1) := by decide +kernel
theorem d28_59 : decode jdk_52_method_5_code 59 = .ok (.ireturn, 1) := by decide +kernel
theorem pn_28 : plainName "java/lang/StringUTF16" = true := by first | (simp [plainName, overriddenIn]; done) | decide +kernel
theorem ef_28 (m : MethodId) (a0 : Addr) (p1 : Int32) : entryFrame m #[(.ref a0), (.int p1)] 2 = mkF m 0 #[.val (.ref a0), .val (.int p1)] [] := by first | (simp [entryFrame, mkF, argsToLocals, Value.category]; done) | rfl
set_option maxRecDepth 65536 in
set_option maxHeartbeats 40000000 in
theorem rm28 (l : Launch) (Z : State) (a0 : Array Value) (hw : ∀ d ∈ tables_1, d.before a0 Z = true) (ws : List Jvm.Cond) (a0 : Addr) (p1 : Int32) (z1 : Int32) (fm : Value) (i : Nat) (N : Nat) (g1 : Nat → Int32) (x0 : Int32) (h0 : Heap) (n0 : Nat) (Z0 : n0 ≤ h0.size) (SS : own_SS Z h0 n0 z1 fm) (Y0 : own_Y .byte Z h0 a0 N g1) (hi : p1 = i.toInt32) (hbb : 2 * i + 1 < N) (hN : N < 2 ^ 31) (hx0 : nar .char ((((g1 (2 * i) &&& (255 : Int32)) <<< ((0 : Int32) &&& 31)) ||| ((g1 (2 * i + 1) &&& (255 : Int32)) <<< ((8 : Int32) &&& 31))).toUInt32.toUInt16.toUInt32.toInt32) = x0) :
    MetFree l (⟨"java/lang/StringUTF16", "getChar", "([BI)C"⟩ : MethodName) (head1 (Jvm.Cond.code (⟨"java/lang/StringUTF16", "getChar", "([BI)C"⟩ : MethodName) jdk_52_method_5_code 2 (some .char) :: ws) ({ frames := 0, cells := 0, slots := 0, locals := 0 } : Room)) (fun a U => a = #[(.ref a0), (.int p1)] ∧ Z.Warmed39 U.vm ∧ U.heap = h0) (fun _ _ _ _ _ => True) (fun _ U o U' => ∃ v L, o = .returned v ∧ own_QV (.int x0) h0 n0 v U'.heap L ∧ FrameEnd U o U' L ({ frames := 0, cells := 0, slots := 0, locals := 0 } : Room).cells ({ frames := 0, cells := 0, slots := 0, locals := 0 } : Room).slots) := by
  refine MetFree.of_bodySF (plainFor_of_name pn_28) hisR ?_
  intro p e s m args below meth c s₁ Bd hml0 hP hK
  obtain ⟨rfl, hZ, hh⟩ := hP
  have hx := Bd.exec
  have hby := Bd.bytes
  have hlk : meth.locks = false := BodyLoose.notSynchronized Bd
  have hret := Bd.returns
  have hml : c.maxLocals = 2 := hml0
  have hown : s.vm.findClass "java/lang/StringUTF16" = some m.cls := findClass_of_methodNamed Bd.named
  have hnm := (name_of_methodNamed Bd.named Bd.method).1
  have X0 : Stand p l e ({ frames := 0, cells := 0, slots := 0, locals := 0 } : Room) s m #[(.ref a0), (.int p1)] below meth c s₁ [] 0 0 := Stand.of_body Bd
  have e0 : s₁.heap = h0 := by rw [← hh, Bd.state]; rfl
  have N0 := Fr.nil n0
  show own_G p.tables e below (own_E s ({ frames := 0, cells := 0, slots := 0, locals := 0 } : Room).cells ({ frames := 0, cells := 0, slots := 0, locals := 0 } : Room).slots) (own_QV (.int x0) h0 n0) (s₁.setTop (entryFrame m #[(.ref a0), (.int p1)] 2))
  refine own_st ?_ (fun t_ k_ => castTop (ef_28 m a0 p1) k_)
  show own_G p.tables e below _ _ (s₁.setTop (mkF m 0 #[.val (.ref a0), .val (.int p1)] []))
  obtain ⟨T1, X1, e1, st1⟩ := getS2 X0 hx hZ hown (host := "") (Or.inl (hw _ (List.mem_of_getElem? (i := 143) rfl))) Via.refl e0 (own_Su_to SS.2.2.1) (g := (mkF m 0 #[.val (.ref a0), .val (.int p1)] [])) rfl (hb hby d28_0)
  refine own_st ?_ st1
  show own_G p.tables e below _ _ (T1.setTop (mkF m 3 #[.val (.ref a0), .val (.int p1)] [(.int (1 : Int32))]))
  refine own_st ?_ (fun t_ k_ => XS.ifYes X1.here hx rfl (pc0 := 3) (pc' := 28) rfl (hb hby d28_3) rfl ((if0 _ _).trans (feq (by decide : ¬ ((1 : Int32) = (0 : Int32)))).2) (by decide) (by decide) k_)
  show own_G p.tables e below _ _ (T1.setTop (mkF m 28 #[.val (.ref a0), .val (.int p1)] []))
  refine own_st ?_ (fun t_ k_ => XS.iloadN X1.here hx rfl (hb hby d28_28) rfl k_)
  show own_G p.tables e below _ _ (T1.setTop (mkF m 29 #[.val (.ref a0), .val (.int p1)] [(.int p1)]))
  refine own_st ?_ (fun t_ k_ => XS.iconst X1.here hx rfl (hb hby d28_29) k_)
  show own_G p.tables e below _ _ (T1.setTop (mkF m 30 #[.val (.ref a0), .val (.int p1)] [(.int (1 : Int32)), (.int p1)]))
  refine own_st ?_ (fun t_ k_ => XS.ishl X1.here hx rfl (hb hby d28_30) rfl k_)
  show own_G p.tables e below _ _ (T1.setTop (mkF m 31 #[.val (.ref a0), .val (.int p1)] [(.int (p1 <<< ((1 : Int32) &&& 31)))]))
  refine own_st ?_ (fun t_ k_ => XS.istoreN X1.here hx rfl (hb hby d28_31) rfl (l' := #[.val (.ref a0), .val (.int (p1 <<< ((1 : Int32) &&& 31)))]) rfl k_)
  show own_G p.tables e below _ _ (T1.setTop (mkF m 32 #[.val (.ref a0), .val (.int (p1 <<< ((1 : Int32) &&& 31)))] []))
  refine own_st ?_ (fun t_ k_ => XS.aloadN X1.here hx rfl (hb hby d28_32) rfl rfl k_)
  show own_G p.tables e below _ _ (T1.setTop (mkF m 33 #[.val (.ref a0), .val (.int (p1 <<< ((1 : Int32) &&& 31)))] [(.ref a0)]))
  refine own_st ?_ (fun t_ k_ => XS.iloadN X1.here hx rfl (hb hby d28_33) rfl k_)
  show own_G p.tables e below _ _ (T1.setTop (mkF m 34 #[.val (.ref a0), .val (.int (p1 <<< ((1 : Int32) &&& 31)))] [(.int (p1 <<< ((1 : Int32) &&& 31))), (.ref a0)]))
  refine own_st ?_ (fun t_ k_ => XS.iinc X1.here hx rfl (hb hby d28_34) rfl (l' := #[.val (.ref a0), .val (.int ((p1 <<< ((1 : Int32) &&& 31)) + (1 : Int32)))]) rfl k_)
  show own_G p.tables e below _ _ (T1.setTop (mkF m 37 #[.val (.ref a0), .val (.int ((p1 <<< ((1 : Int32) &&& 31)) + (1 : Int32)))] [(.int (p1 <<< ((1 : Int32) &&& 31))), (.ref a0)]))
  have ix2 := own_ix (j := (p1 <<< ((1 : Int32) &&& 31))) (k := 2 * i) (n := N) (by rw [hi]; exact own_shl1 (by omega)) (by omega) hN
  obtain ⟨cl2, Ar2, Sz2, G2⟩ := Y0
  have hin2 : ¬ ((p1 <<< ((1 : Int32) &&& 31)) < 0 ∨ cl2.slots.size ≤ ((p1 <<< ((1 : Int32) &&& 31))).toNatClampNeg) := by rw [Sz2]; exact ix2.1
  have hat2 : cl2.slots[((p1 <<< ((1 : Int32) &&& 31))).toNatClampNeg]? = some (.int (g1 (2 * i))) := by rw [ix2.2]; exact G2 _ (by omega)
  refine own_st ?_ (X1.baloadBytes hx (j := (p1 <<< ((1 : Int32) &&& 31))) (v := (.int (g1 (2 * i)))) (by rw [e1]; exact Ar2.1) (State.isArrayOf_alike hZ.alike Ar2.2.1) Ar2.2.2 hin2 hat2 (g := (mkF m 37 #[.val (.ref a0), .val (.int ((p1 <<< ((1 : Int32) &&& 31)) + (1 : Int32)))] [(.int (p1 <<< ((1 : Int32) &&& 31))), (.ref a0)])) rfl rfl (hb hby d28_37))
  have Yx2 : own_Y .byte Z h0 a0 N g1 := ⟨cl2, Ar2, Sz2, G2⟩
  show own_G p.tables e below _ _ (T1.setTop (mkF m 38 #[.val (.ref a0), .val (.int ((p1 <<< ((1 : Int32) &&& 31)) + (1 : Int32)))] [(.int (g1 (2 * i)))]))
  refine own_st ?_ (fun t_ k_ => XS.sipush X1.here hx rfl (hb hby d28_38) k_)
  show own_G p.tables e below _ _ (T1.setTop (mkF m 41 #[.val (.ref a0), .val (.int ((p1 <<< ((1 : Int32) &&& 31)) + (1 : Int32)))] [(.int (255 : Int32)), (.int (g1 (2 * i)))]))
  refine own_st ?_ (fun t_ k_ => XS.iand X1.here hx rfl (hb hby d28_41) rfl k_)
  show own_G p.tables e below _ _ (T1.setTop (mkF m 42 #[.val (.ref a0), .val (.int ((p1 <<< ((1 : Int32) &&& 31)) + (1 : Int32)))] [(.int ((g1 (2 * i)) &&& (255 : Int32)))]))
  obtain ⟨T3, X3, e3, st3⟩ := getS2 X1 hx hZ hown (host := "") (Or.inl (hw _ (List.mem_of_getElem? (i := 144) rfl))) Via.refl e1 (own_Su_to SS.2.2.2.1) (g := (mkF m 42 #[.val (.ref a0), .val (.int ((p1 <<< ((1 : Int32) &&& 31)) + (1 : Int32)))] [(.int ((g1 (2 * i)) &&& (255 : Int32)))])) rfl (hb hby d28_42)
  refine own_st ?_ st3
  show own_G p.tables e below _ _ (T3.setTop (mkF m 45 #[.val (.ref a0), .val (.int ((p1 <<< ((1 : Int32) &&& 31)) + (1 : Int32)))] [(.int (0 : Int32)), (.int ((g1 (2 * i)) &&& (255 : Int32)))]))
  refine own_st ?_ (fun t_ k_ => XS.ishl X3.here hx rfl (hb hby d28_45) rfl k_)
  show own_G p.tables e below _ _ (T3.setTop (mkF m 46 #[.val (.ref a0), .val (.int ((p1 <<< ((1 : Int32) &&& 31)) + (1 : Int32)))] [(.int (((g1 (2 * i)) &&& (255 : Int32)) <<< ((0 : Int32) &&& 31)))]))
  refine own_st ?_ (fun t_ k_ => XS.aloadN X3.here hx rfl (hb hby d28_46) rfl rfl k_)
  show own_G p.tables e below _ _ (T3.setTop (mkF m 47 #[.val (.ref a0), .val (.int ((p1 <<< ((1 : Int32) &&& 31)) + (1 : Int32)))] [(.ref a0), (.int (((g1 (2 * i)) &&& (255 : Int32)) <<< ((0 : Int32) &&& 31)))]))
  refine own_st ?_ (fun t_ k_ => XS.iloadN X3.here hx rfl (hb hby d28_47) rfl k_)
  show own_G p.tables e below _ _ (T3.setTop (mkF m 48 #[.val (.ref a0), .val (.int ((p1 <<< ((1 : Int32) &&& 31)) + (1 : Int32)))] [(.int ((p1 <<< ((1 : Int32) &&& 31)) + (1 : Int32))), (.ref a0), (.int (((g1 (2 * i)) &&& (255 : Int32)) <<< ((0 : Int32) &&& 31)))]))
  have ix4 := own_ix (j := ((p1 <<< ((1 : Int32) &&& 31)) + (1 : Int32))) (k := 2 * i + 1) (n := N) (by rw [hi, own_shl1 (by omega)]; exact own_inc _) (by omega) hN
  obtain ⟨cl4, Ar4, Sz4, G4⟩ := Yx2
  have hin4 : ¬ (((p1 <<< ((1 : Int32) &&& 31)) + (1 : Int32)) < 0 ∨ cl4.slots.size ≤ (((p1 <<< ((1 : Int32) &&& 31)) + (1 : Int32))).toNatClampNeg) := by rw [Sz4]; exact ix4.1
  have hat4 : cl4.slots[(((p1 <<< ((1 : Int32) &&& 31)) + (1 : Int32))).toNatClampNeg]? = some (.int (g1 (2 * i + 1))) := by rw [ix4.2]; exact G4 _ (by omega)
  refine own_st ?_ (X3.baloadBytes hx (j := ((p1 <<< ((1 : Int32) &&& 31)) + (1 : Int32))) (v := (.int (g1 (2 * i + 1)))) (by rw [e3]; exact Ar4.1) (State.isArrayOf_alike hZ.alike Ar4.2.1) Ar4.2.2 hin4 hat4 (g := (mkF m 48 #[.val (.ref a0), .val (.int ((p1 <<< ((1 : Int32) &&& 31)) + (1 : Int32)))] [(.int ((p1 <<< ((1 : Int32) &&& 31)) + (1 : Int32))), (.ref a0), (.int (((g1 (2 * i)) &&& (255 : Int32)) <<< ((0 : Int32) &&& 31)))])) rfl rfl (hb hby d28_48))
  have Yx4 : own_Y .byte Z h0 a0 N g1 := ⟨cl4, Ar4, Sz4, G4⟩
  show own_G p.tables e below _ _ (T3.setTop (mkF m 49 #[.val (.ref a0), .val (.int ((p1 <<< ((1 : Int32) &&& 31)) + (1 : Int32)))] [(.int (g1 (2 * i + 1))), (.int (((g1 (2 * i)) &&& (255 : Int32)) <<< ((0 : Int32) &&& 31)))]))
  refine own_st ?_ (fun t_ k_ => XS.sipush X3.here hx rfl (hb hby d28_49) k_)
  show own_G p.tables e below _ _ (T3.setTop (mkF m 52 #[.val (.ref a0), .val (.int ((p1 <<< ((1 : Int32) &&& 31)) + (1 : Int32)))] [(.int (255 : Int32)), (.int (g1 (2 * i + 1))), (.int (((g1 (2 * i)) &&& (255 : Int32)) <<< ((0 : Int32) &&& 31)))]))
  refine own_st ?_ (fun t_ k_ => XS.iand X3.here hx rfl (hb hby d28_52) rfl k_)
  show own_G p.tables e below _ _ (T3.setTop (mkF m 53 #[.val (.ref a0), .val (.int ((p1 <<< ((1 : Int32) &&& 31)) + (1 : Int32)))] [(.int ((g1 (2 * i + 1)) &&& (255 : Int32))), (.int (((g1 (2 * i)) &&& (255 : Int32)) <<< ((0 : Int32) &&& 31)))]))
  obtain ⟨T5, X5, e5, st5⟩ := getS2 X3 hx hZ hown (host := "") (Or.inl (hw _ (List.mem_of_getElem? (i := 145) rfl))) Via.refl e3 (own_Su_to SS.2.2.2.2) (g := (mkF m 53 #[.val (.ref a0), .val (.int ((p1 <<< ((1 : Int32) &&& 31)) + (1 : Int32)))] [(.int ((g1 (2 * i + 1)) &&& (255 : Int32))), (.int (((g1 (2 * i)) &&& (255 : Int32)) <<< ((0 : Int32) &&& 31)))])) rfl (hb hby d28_53)
  refine own_st ?_ st5
  show own_G p.tables e below _ _ (T5.setTop (mkF m 56 #[.val (.ref a0), .val (.int ((p1 <<< ((1 : Int32) &&& 31)) + (1 : Int32)))] [(.int (8 : Int32)), (.int ((g1 (2 * i + 1)) &&& (255 : Int32))), (.int (((g1 (2 * i)) &&& (255 : Int32)) <<< ((0 : Int32) &&& 31)))]))
  refine own_st ?_ (fun t_ k_ => XS.ishl X5.here hx rfl (hb hby d28_56) rfl k_)
  show own_G p.tables e below _ _ (T5.setTop (mkF m 57 #[.val (.ref a0), .val (.int ((p1 <<< ((1 : Int32) &&& 31)) + (1 : Int32)))] [(.int (((g1 (2 * i + 1)) &&& (255 : Int32)) <<< ((8 : Int32) &&& 31))), (.int (((g1 (2 * i)) &&& (255 : Int32)) <<< ((0 : Int32) &&& 31)))]))
  refine own_st ?_ (fun t_ k_ => XS.ior X5.here hx rfl (hb hby d28_57) rfl k_)
  show own_G p.tables e below _ _ (T5.setTop (mkF m 58 #[.val (.ref a0), .val (.int ((p1 <<< ((1 : Int32) &&& 31)) + (1 : Int32)))] [(.int ((((g1 (2 * i)) &&& (255 : Int32)) <<< ((0 : Int32) &&& 31)) ||| (((g1 (2 * i + 1)) &&& (255 : Int32)) <<< ((8 : Int32) &&& 31))))]))
  refine own_st ?_ (fun t_ k_ => XS.i2c X5.here hx rfl (hb hby d28_58) rfl k_)
  show own_G p.tables e below _ _ (T5.setTop (mkF m 59 #[.val (.ref a0), .val (.int ((p1 <<< ((1 : Int32) &&& 31)) + (1 : Int32)))] [(.int (((((g1 (2 * i)) &&& (255 : Int32)) <<< ((0 : Int32) &&& 31)) ||| (((g1 (2 * i + 1)) &&& (255 : Int32)) <<< ((8 : Int32) &&& 31))).toUInt32.toUInt16.toUInt32.toInt32))]))
  exact own_retN X5 hx hlk (t := .char) hret (by simp) (hb hby d28_59) (by decide) (by decide) (z' := (nar .char (((((g1 (2 * i)) &&& (255 : Int32)) <<< ((0 : Int32) &&& 31)) ||| (((g1 (2 * i + 1)) &&& (255 : Int32)) <<< ((8 : Int32) &&& 31))).toUInt32.toUInt16.toUInt32.toInt32))) rfl ⟨congrArg (fun z => some (Value.int z)) (hx0), N0, e5⟩
theorem pd_3 : parseMethodDescriptor "(I[B)V" = some ⟨[.int, (.array .byte)], none⟩ := by decide +kernel
theorem pd_4 : parseMethodDescriptor "([BI)C" = some ⟨[(.array .byte), .int], some .char⟩ := by decide +kernel
theorem d29_0 : decode jdk_52_method_83_code 0 = .ok (.iload_n 1, 1) := by decide +kernel
theorem d29_1 : decode jdk_52_method_83_code 1 = .ok (.aload_n 0, 1) := by decide +kernel
theorem d29_2 : decode jdk_52_method_83_code 2 = .ok (.invokestatic 67, 3) := by decide +kernel
theorem d29_5 : decode jdk_52_method_83_code 5 = .ok (.aload_n 0, 1) := by decide +kernel
theorem d29_6 : decode jdk_52_method_83_code 6 = .ok (.iload_n 1, 1) := by decide +kernel
theorem d29_7 : decode jdk_52_method_83_code 7 = .ok (.invokestatic 71, 3) := by decide +kernel
theorem d29_10 : decode jdk_52_method_83_code 10 = .ok (.ireturn, 1) := by decide +kernel
theorem pn_29 : plainName "java/lang/StringUTF16" = true := by first | (simp [plainName, overriddenIn]; done) | decide +kernel
theorem ef_29 (m : MethodId) (a0 : Addr) (p1 : Int32) : entryFrame m #[(.ref a0), (.int p1)] 2 = mkF m 0 #[.val (.ref a0), .val (.int p1)] [] := by first | (simp [entryFrame, mkF, argsToLocals, Value.category]; done) | rfl
set_option maxRecDepth 65536 in
set_option maxHeartbeats 40000000 in
theorem rm29 (l : Launch) (Z : State) (a0 : Array Value) (hw : ∀ d ∈ tables_1, d.before a0 Z = true) (ws : List Jvm.Cond) (a0 : Addr) (p1 : Int32) (z1 : Int32) (fm : Value) (i : Nat) (n : Nat) (N : Nat) (g1 : Nat → Int32) (x0 : Int32) (h0 : Heap) (n0 : Nat) (Z0 : n0 ≤ h0.size) (SS : own_SS Z h0 n0 z1 fm) (Y0 : own_Y .byte Z h0 a0 N g1) (rf_fm : fm.isRef = true) (hi : p1 = i.toInt32) (hin : i < n) (hN : N = 2 * n) (hn : n < 2 ^ 30) (hx0 : nar .char ((((g1 (2 * i) &&& (255 : Int32)) <<< ((0 : Int32) &&& 31)) ||| ((g1 (2 * i + 1) &&& (255 : Int32)) <<< ((8 : Int32) &&& 31))).toUInt32.toUInt16.toUInt32.toInt32) = x0) (hc : own_isC x0) :
    MetFree l (⟨"java/lang/StringUTF16", "charAt", "([BI)C"⟩ : MethodName) (head1 (Jvm.Cond.code (⟨"java/lang/StringUTF16", "charAt", "([BI)C"⟩ : MethodName) jdk_52_method_83_code 2 (some .char) :: ws) ({ frames := 3, cells := 0, slots := 0, locals := 40 } : Room)) (fun a U => a = #[(.ref a0), (.int p1)] ∧ Z.Warmed39 U.vm ∧ U.heap = h0) (fun _ _ _ _ _ => True) (fun _ U o U' => ∃ v L, o = .returned v ∧ own_QV (.int x0) h0 n0 v U'.heap L ∧ FrameEnd U o U' L ({ frames := 3, cells := 0, slots := 0, locals := 40 } : Room).cells ({ frames := 3, cells := 0, slots := 0, locals := 40 } : Room).slots) := by
  refine MetFree.of_bodySF (plainFor_of_name pn_29) hisR ?_
  intro p e s m args below meth c s₁ Bd hml0 hP hK
  obtain ⟨rfl, hZ, hh⟩ := hP
  have hx := Bd.exec
  have hby := Bd.bytes
  have hlk : meth.locks = false := BodyLoose.notSynchronized Bd
  have hret := Bd.returns
  have hml : c.maxLocals = 2 := hml0
  have hown : s.vm.findClass "java/lang/StringUTF16" = some m.cls := findClass_of_methodNamed Bd.named
  have hnm := (name_of_methodNamed Bd.named Bd.method).1
  have X0 : Stand p l e ({ frames := 3, cells := 0, slots := 0, locals := 40 } : Room) s m #[(.ref a0), (.int p1)] below meth c s₁ [] 0 0 := Stand.of_body Bd
  have e0 : s₁.heap = h0 := by rw [← hh, Bd.state]; rfl
  have N0 := Fr.nil n0
  show own_G p.tables e below (own_E s ({ frames := 3, cells := 0, slots := 0, locals := 40 } : Room).cells ({ frames := 3, cells := 0, slots := 0, locals := 40 } : Room).slots) (own_QV (.int x0) h0 n0) (s₁.setTop (entryFrame m #[(.ref a0), (.int p1)] 2))
  refine own_st ?_ (fun t_ k_ => castTop (ef_29 m a0 p1) k_)
  show own_G p.tables e below _ _ (s₁.setTop (mkF m 0 #[.val (.ref a0), .val (.int p1)] []))
  refine own_st ?_ (fun t_ k_ => XS.iloadN X0.here hx rfl (hb hby d29_0) rfl k_)
  show own_G p.tables e below _ _ (s₁.setTop (mkF m 1 #[.val (.ref a0), .val (.int p1)] [(.int p1)]))
  refine own_st ?_ (fun t_ k_ => XS.aloadN X0.here hx rfl (hb hby d29_1) rfl rfl k_)
  show own_G p.tables e below _ _ (s₁.setTop (mkF m 2 #[.val (.ref a0), .val (.int p1)] [(.ref a0), (.int p1)]))
  obtain ⟨_, _, ⟨T1, L1, k1, n1⟩, -, X1, ⟨Lc1, hQ1, l1, y1, z1⟩, st1⟩ := Jvm.LawKit.callS X0 hx (y := (⟨"java/lang/StringUTF16", "checkIndex", "(I[B)V"⟩ : MethodName)) hown (mvT hZ (hw _ (List.mem_of_getElem? (i := 152) rfl))) (mvT hZ (hw _ (List.mem_of_getElem? (i := 153) rfl))) (mvT hZ (hw _ (List.mem_of_getElem? (i := 23) rfl))) (mvT hZ (hw _ (List.mem_of_getElem? (i := 154) rfl))) (by decide) (backOf (W := 0) (rm30 l Z _ hw [] p1 a0 z1 fm i n N g1 h0 n0 Z0 SS Y0 rf_fm hi hin hN hn) hZ (hw _ (List.mem_of_getElem? (i := 154) rfl)) (hw _ (List.mem_of_getElem? (i := 23) rfl)) (by decide) (by decide)) (g := (mkF m 2 #[.val (.ref a0), .val (.int p1)] [(.ref a0), (.int p1)])) rfl (by rw [hml]; rfl) (argsL := [(.int p1), (.ref a0)]) (rest := []) (lenOf pd_3 rfl) rfl (by show 2 * 0 + _ ≤ _; exact Nat.le_of_eq rfl) (hb hby d29_2) (fun _ _ => ⟨rfl, e0, (by decide : 0 + 0 ≤ _), (by decide : 0 + 0 ≤ _)⟩)
  dsimp only [Pt.U, Pt.locs, Pt.cells, Pt.slots] at X1 l1 y1 z1 st1 hQ1
  subst l1 y1 z1
  obtain ⟨rfl, N1q, e1⟩ := hQ1
  have N1 := Fr.app N0 N1q
  refine own_st ?_ st1
  show own_G p.tables e below _ _ (T1.setTop (mkF m 5 #[.val (.ref a0), .val (.int p1)] []))
  refine own_st ?_ (fun t_ k_ => XS.aloadN X1.here hx rfl (hb hby d29_5) rfl rfl k_)
  show own_G p.tables e below _ _ (T1.setTop (mkF m 6 #[.val (.ref a0), .val (.int p1)] [(.ref a0)]))
  refine own_st ?_ (fun t_ k_ => XS.iloadN X1.here hx rfl (hb hby d29_6) rfl k_)
  show own_G p.tables e below _ _ (T1.setTop (mkF m 7 #[.val (.ref a0), .val (.int p1)] [(.int p1), (.ref a0)]))
  obtain ⟨_, _, ⟨T2, L2, k2, n2⟩, -, X2, ⟨Lc2, hQ2, l2, y2, z2⟩, st2⟩ := Jvm.LawKit.callS X1 hx (y := (⟨"java/lang/StringUTF16", "getChar", "([BI)C"⟩ : MethodName)) hown (mvT hZ (hw _ (List.mem_of_getElem? (i := 146) rfl))) (mvT hZ (hw _ (List.mem_of_getElem? (i := 147) rfl))) (mvT hZ (hw _ (List.mem_of_getElem? (i := 23) rfl))) (mvT hZ (hw _ (List.mem_of_getElem? (i := 148) rfl))) (by decide) (backOf (W := 0) (rm28 l Z _ hw [] a0 p1 z1 fm i N g1 x0 h0 n0 Z0 SS Y0 hi (by omega) (by omega) hx0) hZ (hw _ (List.mem_of_getElem? (i := 148) rfl)) (hw _ (List.mem_of_getElem? (i := 23) rfl)) (by decide) (by decide)) (g := (mkF m 7 #[.val (.ref a0), .val (.int p1)] [(.int p1), (.ref a0)])) rfl (by rw [hml]; rfl) (argsL := [(.ref a0), (.int p1)]) (rest := []) (lenOf pd_4 rfl) rfl (by show 2 * 0 + _ ≤ _; exact Nat.le_of_eq rfl) (hb hby d29_7) (fun _ _ => ⟨rfl, e1, (by decide : 0 + 0 ≤ _), (by decide : 0 + 0 ≤ _)⟩)
  dsimp only [Pt.U, Pt.locs, Pt.cells, Pt.slots] at X2 l2 y2 z2 st2 hQ2
  subst l2 y2 z2
  obtain ⟨rfl, N2q, e2⟩ := hQ2
  have N2 := Fr.app N1 N2q
  refine own_st ?_ st2
  show own_G p.tables e below _ _ (T2.setTop (mkF m 10 #[.val (.ref a0), .val (.int p1)] [(.int x0)]))
  exact own_retN X2 hx hlk (t := .char) hret (by simp) (hb hby d29_10) (by decide) (by decide) (z' := (nar .char x0)) rfl ⟨congrArg (fun z => some (Value.int z)) (own_chr_id hc), N2, e2⟩
theorem d16_0 : decode jdk_43_method_2_code 0 = .ok (.iload_n 1, 1) := by decide +kernel
theorem d16_1 : decode jdk_43_method_2_code 1 = .ok (.aload_n 0, 1) := by decide +kernel
theorem d16_2 : decode jdk_43_method_2_code 2 = .ok (.arraylength, 1) := by decide +kernel
theorem d16_3 : decode jdk_43_method_2_code 3 = .ok (.invokestatic 9, 3) := by decide +kernel
theorem d16_6 : decode jdk_43_method_2_code 6 = .ok (.aload_n 0, 1) := by decide +kernel
theorem d16_7 : decode jdk_43_method_2_code 7 = .ok (.iload_n 1, 1) := by decide +kernel
theorem d16_8 : decode jdk_43_method_2_code 8 = .ok (.baload, 1) := by decide +kernel
theorem d16_9 : decode jdk_43_method_2_code 9 = .ok (.sipush 255, 3) := by decide +kernel
theorem d16_12 : decode jdk_43_method_2_code 12 = .ok (.iand, 1) := by decide +kernel
theorem d16_13 : decode jdk_43_method_2_code 13 = .ok (.i2c, 1) := by decide +kernel
theorem d16_14 : decode jdk_43_method_2_code 14 = .ok (.ireturn, 1) := by decide +kernel
theorem pn_16 : plainName "java/lang/StringLatin1" = true := by first | (simp [plainName, overriddenIn]; done) | decide +kernel
theorem ef_16 (m : MethodId) (a0 : Addr) (p1 : Int32) : entryFrame m #[(.ref a0), (.int p1)] 2 = mkF m 0 #[.val (.ref a0), .val (.int p1)] [] := by first | (simp [entryFrame, mkF, argsToLocals, Value.category]; done) | rfl
set_option maxRecDepth 65536 in
set_option maxHeartbeats 40000000 in
theorem rm16 (l : Launch) (Z : State) (a0 : Array Value) (hw : ∀ d ∈ tables_1, d.before a0 Z = true) (ws : List Jvm.Cond) (a0 : Addr) (p1 : Int32) (z1 : Int32) (fm : Value) (i : Nat) (N : Nat) (g1 : Nat → Int32) (x0 : Int32) (h0 : Heap) (n0 : Nat) (Z0 : n0 ≤ h0.size) (SS : own_SS Z h0 n0 z1 fm) (Y0 : own_Y .byte Z h0 a0 N g1) (rf_fm : fm.isRef = true) (hi : p1 = i.toInt32) (hin : i < N) (hN : N < 2 ^ 31) (hx0 : nar .char ((g1 i &&& (255 : Int32)).toUInt32.toUInt16.toUInt32.toInt32) = x0) :
    MetFree l (⟨"java/lang/StringLatin1", "charAt", "([BI)C"⟩ : MethodName) (head1 (Jvm.Cond.code (⟨"java/lang/StringLatin1", "charAt", "([BI)C"⟩ : MethodName) jdk_43_method_2_code 2 (some .char) :: ws) ({ frames := 2, cells := 0, slots := 0, locals := 27 } : Room)) (fun a U => a = #[(.ref a0), (.int p1)] ∧ Z.Warmed39 U.vm ∧ U.heap = h0) (fun _ _ _ _ _ => True) (fun _ U o U' => ∃ v L, o = .returned v ∧ own_QV (.int x0) h0 n0 v U'.heap L ∧ FrameEnd U o U' L ({ frames := 2, cells := 0, slots := 0, locals := 27 } : Room).cells ({ frames := 2, cells := 0, slots := 0, locals := 27 } : Room).slots) := by
  refine MetFree.of_bodySF (plainFor_of_name pn_16) hisR ?_
  intro p e s m args below meth c s₁ Bd hml0 hP hK
  obtain ⟨rfl, hZ, hh⟩ := hP
  have hx := Bd.exec
  have hby := Bd.bytes
  have hlk : meth.locks = false := BodyLoose.notSynchronized Bd
  have hret := Bd.returns
  have hml : c.maxLocals = 2 := hml0
  have hown : s.vm.findClass "java/lang/StringLatin1" = some m.cls := findClass_of_methodNamed Bd.named
  have hnm := (name_of_methodNamed Bd.named Bd.method).1
  have X0 : Stand p l e ({ frames := 2, cells := 0, slots := 0, locals := 27 } : Room) s m #[(.ref a0), (.int p1)] below meth c s₁ [] 0 0 := Stand.of_body Bd
  have e0 : s₁.heap = h0 := by rw [← hh, Bd.state]; rfl
  have N0 := Fr.nil n0
  show own_G p.tables e below (own_E s ({ frames := 2, cells := 0, slots := 0, locals := 27 } : Room).cells ({ frames := 2, cells := 0, slots := 0, locals := 27 } : Room).slots) (own_QV (.int x0) h0 n0) (s₁.setTop (entryFrame m #[(.ref a0), (.int p1)] 2))
  refine own_st ?_ (fun t_ k_ => castTop (ef_16 m a0 p1) k_)
  show own_G p.tables e below _ _ (s₁.setTop (mkF m 0 #[.val (.ref a0), .val (.int p1)] []))
  refine own_st ?_ (fun t_ k_ => XS.iloadN X0.here hx rfl (hb hby d16_0) rfl k_)
  show own_G p.tables e below _ _ (s₁.setTop (mkF m 1 #[.val (.ref a0), .val (.int p1)] [(.int p1)]))
  refine own_st ?_ (fun t_ k_ => XS.aloadN X0.here hx rfl (hb hby d16_1) rfl rfl k_)
  show own_G p.tables e below _ _ (s₁.setTop (mkF m 2 #[.val (.ref a0), .val (.int p1)] [(.ref a0), (.int p1)]))
  obtain ⟨cl1, Ar1, Sz1, G1⟩ := Y0
  refine own_st ?_ (X0.arraylength hx (by rw [e0]; exact Ar1.1) (State.isArrayOf_alike hZ.alike Ar1.2.1) (g := (mkF m 2 #[.val (.ref a0), .val (.int p1)] [(.ref a0), (.int p1)])) rfl rfl (hb hby d16_2))
  rw [Sz1]
  have Yx1 : own_Y .byte Z h0 a0 N g1 := ⟨cl1, Ar1, Sz1, G1⟩
  show own_G p.tables e below _ _ (s₁.setTop (mkF m 3 #[.val (.ref a0), .val (.int p1)] [(.int (N).toInt32), (.int p1)]))
  obtain ⟨_, _, ⟨T2, L2, k2, n2⟩, -, X2, ⟨Lc2, hQ2, l2, y2, z2⟩, st2⟩ := Jvm.LawKit.callS X0 hx (y := (⟨"java/lang/String", "checkIndex", "(II)V"⟩ : MethodName)) hown (mvT hZ (hw _ (List.mem_of_getElem? (i := 89) rfl))) (mvT hZ (hw _ (List.mem_of_getElem? (i := 90) rfl))) (mvT hZ (hw _ (List.mem_of_getElem? (i := 4) rfl))) (mvT hZ (hw _ (List.mem_of_getElem? (i := 91) rfl))) (by decide) (backOf (W := 0) (rm17 l Z _ hw [] p1 (N).toInt32 z1 fm h0 n0 Z0 SS rf_fm (by rw [hi]; exact own_neg (by omega)) (by rw [hi]; exact (own_tlt (by omega) (by omega)).mpr hin)) hZ (hw _ (List.mem_of_getElem? (i := 91) rfl)) (hw _ (List.mem_of_getElem? (i := 4) rfl)) (by decide) (by decide)) (g := (mkF m 3 #[.val (.ref a0), .val (.int p1)] [(.int (N).toInt32), (.int p1)])) rfl (by rw [hml]; rfl) (argsL := [(.int p1), (.int (N).toInt32)]) (rest := []) (lenOf pd_2 rfl) rfl (by show 2 * 0 + _ ≤ _; exact Nat.le_of_eq rfl) (hb hby d16_3) (fun _ _ => ⟨rfl, e0, (by decide : 0 + 0 ≤ _), (by decide : 0 + 0 ≤ _)⟩)
  dsimp only [Pt.U, Pt.locs, Pt.cells, Pt.slots] at X2 l2 y2 z2 st2 hQ2
  subst l2 y2 z2
  obtain ⟨rfl, N2q, e2⟩ := hQ2
  have N2 := Fr.app N0 N2q
  refine own_st ?_ st2
  show own_G p.tables e below _ _ (T2.setTop (mkF m 6 #[.val (.ref a0), .val (.int p1)] []))
  refine own_st ?_ (fun t_ k_ => XS.aloadN X2.here hx rfl (hb hby d16_6) rfl rfl k_)
  show own_G p.tables e below _ _ (T2.setTop (mkF m 7 #[.val (.ref a0), .val (.int p1)] [(.ref a0)]))
  refine own_st ?_ (fun t_ k_ => XS.iloadN X2.here hx rfl (hb hby d16_7) rfl k_)
  show own_G p.tables e below _ _ (T2.setTop (mkF m 8 #[.val (.ref a0), .val (.int p1)] [(.int p1), (.ref a0)]))
  have ix3 := own_ix (j := p1) (k := i) (n := N) hi hin hN
  obtain ⟨cl3, Ar3, Sz3, G3⟩ := Yx1
  have hin3 : ¬ (p1 < 0 ∨ cl3.slots.size ≤ (p1).toNatClampNeg) := by rw [Sz3]; exact ix3.1
  have hat3 : cl3.slots[(p1).toNatClampNeg]? = some (.int (g1 i)) := by rw [ix3.2]; exact G3 _ hin
  refine own_st ?_ (X2.baloadBytes hx (j := p1) (v := (.int (g1 i))) (by rw [e2]; exact Ar3.1) (State.isArrayOf_alike hZ.alike Ar3.2.1) Ar3.2.2 hin3 hat3 (g := (mkF m 8 #[.val (.ref a0), .val (.int p1)] [(.int p1), (.ref a0)])) rfl rfl (hb hby d16_8))
  have Yx3 : own_Y .byte Z h0 a0 N g1 := ⟨cl3, Ar3, Sz3, G3⟩
  show own_G p.tables e below _ _ (T2.setTop (mkF m 9 #[.val (.ref a0), .val (.int p1)] [(.int (g1 i))]))
  refine own_st ?_ (fun t_ k_ => XS.sipush X2.here hx rfl (hb hby d16_9) k_)
  show own_G p.tables e below _ _ (T2.setTop (mkF m 12 #[.val (.ref a0), .val (.int p1)] [(.int (255 : Int32)), (.int (g1 i))]))
  refine own_st ?_ (fun t_ k_ => XS.iand X2.here hx rfl (hb hby d16_12) rfl k_)
  show own_G p.tables e below _ _ (T2.setTop (mkF m 13 #[.val (.ref a0), .val (.int p1)] [(.int ((g1 i) &&& (255 : Int32)))]))
  refine own_st ?_ (fun t_ k_ => XS.i2c X2.here hx rfl (hb hby d16_13) rfl k_)
  show own_G p.tables e below _ _ (T2.setTop (mkF m 14 #[.val (.ref a0), .val (.int p1)] [(.int (((g1 i) &&& (255 : Int32)).toUInt32.toUInt16.toUInt32.toInt32))]))
  exact own_retN X2 hx hlk (t := .char) hret (by simp) (hb hby d16_14) (by decide) (by decide) (z' := (nar .char (((g1 i) &&& (255 : Int32)).toUInt32.toUInt16.toUInt32.toInt32))) rfl ⟨congrArg (fun z => some (Value.int z)) (hx0), N2, e2⟩
theorem d15_0 : decode jdk_42_method_154_code 0 = .ok (.getstatic 38, 3) := by decide +kernel
theorem d15_3 : decode jdk_42_method_154_code 3 = .ok (.ifCond .eq 14, 3) := by decide +kernel
theorem d15_6 : decode jdk_42_method_154_code 6 = .ok (.aload_n 0, 1) := by decide +kernel
theorem d15_7 : decode jdk_42_method_154_code 7 = .ok (.getfield 15, 3) := by decide +kernel
theorem d15_10 : decode jdk_42_method_154_code 10 = .ok (.ifCond .ne 7, 3) := by decide +kernel
theorem d15_13 : decode jdk_42_method_154_code 13 = .ok (.iconst 1, 1) := by decide +kernel
theorem d15_14 : decode jdk_42_method_154_code 14 = .ok (.goto 4, 3) := by decide +kernel
theorem d15_18 : decode jdk_42_method_154_code 18 = .ok (.ireturn, 1) := by decide +kernel
theorem pn_15L : plainName "java/lang/String" = true := by first | (simp [plainName, overriddenIn]; done) | decide +kernel
theorem ef_15L (m : MethodId) (a0 : Addr) : entryFrame m #[(.ref a0)] 1 = mkF m 0 #[.val (.ref a0)] [] := by first | (simp [entryFrame, mkF, argsToLocals, Value.category]; done) | rfl
set_option maxRecDepth 65536 in
set_option maxHeartbeats 40000000 in
theorem rm15L (l : Launch) (Z : State) (a0 : Array Value) (hw : ∀ d ∈ tables_1, d.before a0 Z = true) (ws : List Jvm.Cond) (a0 : Addr) (z1 : Int32) (fm : Value) (cd : Int32) (h0 : Heap) (n0 : Nat) (Z0 : n0 ≤ h0.size) (SS : own_SS Z h0 n0 z1 fm) (Fc : Fld Z h0 a0 "java/lang/String" "coder" "B" (.int cd)) (hz1 : ¬ z1 = 0) (hcd : cd = 0) :
    MetFree l (⟨"java/lang/String", "isLatin1", "()Z"⟩ : MethodName) (head1 (Jvm.Cond.code (⟨"java/lang/String", "isLatin1", "()Z"⟩ : MethodName) jdk_42_method_154_code 1 (some .boolean) :: ws) ({ frames := 0, cells := 0, slots := 0, locals := 0 } : Room)) (fun a U => a = #[(.ref a0)] ∧ Z.Warmed39 U.vm ∧ U.heap = h0) (fun _ _ _ _ _ => True) (fun _ U o U' => ∃ v L, o = .returned v ∧ own_QV (.int (1 : Int32)) h0 n0 v U'.heap L ∧ FrameEnd U o U' L ({ frames := 0, cells := 0, slots := 0, locals := 0 } : Room).cells ({ frames := 0, cells := 0, slots := 0, locals := 0 } : Room).slots) := by
  refine MetFree.of_bodySF (plainFor_of_name pn_15L) hisR ?_
  intro p e s m args below meth c s₁ Bd hml0 hP hK
  obtain ⟨rfl, hZ, hh⟩ := hP
  have hx := Bd.exec
  have hby := Bd.bytes
  have hlk : meth.locks = false := BodyLoose.notSynchronized Bd
  have hret := Bd.returns
  have hml : c.maxLocals = 1 := hml0
  have hown : s.vm.findClass "java/lang/String" = some m.cls := findClass_of_methodNamed Bd.named
  have hnm := (name_of_methodNamed Bd.named Bd.method).1
  have X0 : Stand p l e ({ frames := 0, cells := 0, slots := 0, locals := 0 } : Room) s m #[(.ref a0)] below meth c s₁ [] 0 0 := Stand.of_body Bd
  have e0 : s₁.heap = h0 := by rw [← hh, Bd.state]; rfl
  have N0 := Fr.nil n0
  show own_G p.tables e below (own_E s ({ frames := 0, cells := 0, slots := 0, locals := 0 } : Room).cells ({ frames := 0, cells := 0, slots := 0, locals := 0 } : Room).slots) (own_QV (.int (1 : Int32)) h0 n0) (s₁.setTop (entryFrame m #[(.ref a0)] 1))
  refine own_st ?_ (fun t_ k_ => castTop (ef_15L m a0) k_)
  show own_G p.tables e below _ _ (s₁.setTop (mkF m 0 #[.val (.ref a0)] []))
  obtain ⟨T1, X1, e1, st1⟩ := getS2 X0 hx hZ hown (host := "") (Or.inl (hw _ (List.mem_of_getElem? (i := 20) rfl))) Via.refl e0 (own_Su_to SS.1) (g := (mkF m 0 #[.val (.ref a0)] [])) rfl (hb hby d15_0)
  refine own_st ?_ st1
  show own_G p.tables e below _ _ (T1.setTop (mkF m 3 #[.val (.ref a0)] [(.int z1)]))
  refine own_st ?_ (fun t_ k_ => XS.ifNo X1.here hx rfl (hb hby d15_3) rfl ((if0 _ _).trans (feq hz1).1) k_)
  show own_G p.tables e below _ _ (T1.setTop (mkF m 6 #[.val (.ref a0)] []))
  refine own_st ?_ (fun t_ k_ => XS.aloadN X1.here hx rfl (hb hby d15_6) rfl rfl k_)
  show own_G p.tables e below _ _ (T1.setTop (mkF m 7 #[.val (.ref a0)] [(.ref a0)]))
  obtain ⟨T2, X2, e2, st2⟩ := getF X1 hx hZ hown (host := "") (Or.inl (hw _ (List.mem_of_getElem? (i := 32) rfl))) Via.refl e1 Fc (g := (mkF m 7 #[.val (.ref a0)] [(.ref a0)])) rfl rfl (hb hby d15_7)
  refine own_st ?_ st2
  show own_G p.tables e below _ _ (T2.setTop (mkF m 10 #[.val (.ref a0)] [(.int cd)]))
  refine own_st ?_ (fun t_ k_ => XS.ifNo X2.here hx rfl (hb hby d15_10) rfl ((if0 _ _).trans (teq hcd).2) k_)
  show own_G p.tables e below _ _ (T2.setTop (mkF m 13 #[.val (.ref a0)] []))
  refine own_st ?_ (fun t_ k_ => XS.iconst X2.here hx rfl (hb hby d15_13) k_)
  show own_G p.tables e below _ _ (T2.setTop (mkF m 14 #[.val (.ref a0)] [(.int (1 : Int32))]))
  refine own_st ?_ (fun t_ k_ => XS.goto X2.here hx rfl (pc0 := 14) (pc' := 18) rfl (hb hby d15_14) (by decide) (by decide) k_)
  show own_G p.tables e below _ _ (T2.setTop (mkF m 18 #[.val (.ref a0)] [(.int (1 : Int32))]))
  exact own_retN X2 hx hlk (t := .boolean) hret (by simp) (hb hby d15_18) (by decide) (by decide) (z' := (1 : Int32)) rfl ⟨rfl, N0, e2⟩
theorem d15_17 : decode jdk_42_method_154_code 17 = .ok (.iconst 0, 1) := by decide +kernel
theorem pn_15U : plainName "java/lang/String" = true := by first | (simp [plainName, overriddenIn]; done) | decide +kernel
theorem ef_15U (m : MethodId) (a0 : Addr) : entryFrame m #[(.ref a0)] 1 = mkF m 0 #[.val (.ref a0)] [] := by first | (simp [entryFrame, mkF, argsToLocals, Value.category]; done) | rfl
set_option maxRecDepth 65536 in
set_option maxHeartbeats 40000000 in
theorem rm15U (l : Launch) (Z : State) (a0 : Array Value) (hw : ∀ d ∈ tables_1, d.before a0 Z = true) (ws : List Jvm.Cond) (a0 : Addr) (z1 : Int32) (fm : Value) (cd : Int32) (h0 : Heap) (n0 : Nat) (Z0 : n0 ≤ h0.size) (SS : own_SS Z h0 n0 z1 fm) (Fc : Fld Z h0 a0 "java/lang/String" "coder" "B" (.int cd)) (hz1 : ¬ z1 = 0) (hcd : ¬ cd = 0) :
    MetFree l (⟨"java/lang/String", "isLatin1", "()Z"⟩ : MethodName) (head1 (Jvm.Cond.code (⟨"java/lang/String", "isLatin1", "()Z"⟩ : MethodName) jdk_42_method_154_code 1 (some .boolean) :: ws) ({ frames := 0, cells := 0, slots := 0, locals := 0 } : Room)) (fun a U => a = #[(.ref a0)] ∧ Z.Warmed39 U.vm ∧ U.heap = h0) (fun _ _ _ _ _ => True) (fun _ U o U' => ∃ v L, o = .returned v ∧ own_QV (.int (0 : Int32)) h0 n0 v U'.heap L ∧ FrameEnd U o U' L ({ frames := 0, cells := 0, slots := 0, locals := 0 } : Room).cells ({ frames := 0, cells := 0, slots := 0, locals := 0 } : Room).slots) := by
  refine MetFree.of_bodySF (plainFor_of_name pn_15U) hisR ?_
  intro p e s m args below meth c s₁ Bd hml0 hP hK
  obtain ⟨rfl, hZ, hh⟩ := hP
  have hx := Bd.exec
  have hby := Bd.bytes
  have hlk : meth.locks = false := BodyLoose.notSynchronized Bd
  have hret := Bd.returns
  have hml : c.maxLocals = 1 := hml0
  have hown : s.vm.findClass "java/lang/String" = some m.cls := findClass_of_methodNamed Bd.named
  have hnm := (name_of_methodNamed Bd.named Bd.method).1
  have X0 : Stand p l e ({ frames := 0, cells := 0, slots := 0, locals := 0 } : Room) s m #[(.ref a0)] below meth c s₁ [] 0 0 := Stand.of_body Bd
  have e0 : s₁.heap = h0 := by rw [← hh, Bd.state]; rfl
  have N0 := Fr.nil n0
  show own_G p.tables e below (own_E s ({ frames := 0, cells := 0, slots := 0, locals := 0 } : Room).cells ({ frames := 0, cells := 0, slots := 0, locals := 0 } : Room).slots) (own_QV (.int (0 : Int32)) h0 n0) (s₁.setTop (entryFrame m #[(.ref a0)] 1))
  refine own_st ?_ (fun t_ k_ => castTop (ef_15U m a0) k_)
  show own_G p.tables e below _ _ (s₁.setTop (mkF m 0 #[.val (.ref a0)] []))
  obtain ⟨T1, X1, e1, st1⟩ := getS2 X0 hx hZ hown (host := "") (Or.inl (hw _ (List.mem_of_getElem? (i := 20) rfl))) Via.refl e0 (own_Su_to SS.1) (g := (mkF m 0 #[.val (.ref a0)] [])) rfl (hb hby d15_0)
  refine own_st ?_ st1
  show own_G p.tables e below _ _ (T1.setTop (mkF m 3 #[.val (.ref a0)] [(.int z1)]))
  refine own_st ?_ (fun t_ k_ => XS.ifNo X1.here hx rfl (hb hby d15_3) rfl ((if0 _ _).trans (feq hz1).1) k_)
  show own_G p.tables e below _ _ (T1.setTop (mkF m 6 #[.val (.ref a0)] []))
  refine own_st ?_ (fun t_ k_ => XS.aloadN X1.here hx rfl (hb hby d15_6) rfl rfl k_)
  show own_G p.tables e below _ _ (T1.setTop (mkF m 7 #[.val (.ref a0)] [(.ref a0)]))
  obtain ⟨T2, X2, e2, st2⟩ := getF X1 hx hZ hown (host := "") (Or.inl (hw _ (List.mem_of_getElem? (i := 32) rfl))) Via.refl e1 Fc (g := (mkF m 7 #[.val (.ref a0)] [(.ref a0)])) rfl rfl (hb hby d15_7)
  refine own_st ?_ st2
  show own_G p.tables e below _ _ (T2.setTop (mkF m 10 #[.val (.ref a0)] [(.int cd)]))
  refine own_st ?_ (fun t_ k_ => XS.ifYes X2.here hx rfl (pc0 := 10) (pc' := 17) rfl (hb hby d15_10) rfl ((if0 _ _).trans (feq hcd).2) (by decide) (by decide) k_)
  show own_G p.tables e below _ _ (T2.setTop (mkF m 17 #[.val (.ref a0)] []))
  refine own_st ?_ (fun t_ k_ => XS.iconst X2.here hx rfl (hb hby d15_17) k_)
  show own_G p.tables e below _ _ (T2.setTop (mkF m 18 #[.val (.ref a0)] [(.int (0 : Int32))]))
  exact own_retN X2 hx hlk (t := .boolean) hret (by simp) (hb hby d15_18) (by decide) (by decide) (z' := (0 : Int32)) rfl ⟨rfl, N0, e2⟩
theorem pd_5 : parseMethodDescriptor "()Z" = some ⟨[], some .boolean⟩ := by decide +kernel
theorem d14_0 : decode jdk_42_method_56_code 0 = .ok (.aload_n 0, 1) := by decide +kernel
theorem d14_1 : decode jdk_42_method_56_code 1 = .ok (.invokevirtual 492, 3) := by decide +kernel
theorem d14_4 : decode jdk_42_method_56_code 4 = .ok (.ifCond .eq 12, 3) := by decide +kernel
theorem d14_7 : decode jdk_42_method_56_code 7 = .ok (.aload_n 0, 1) := by decide +kernel
theorem d14_8 : decode jdk_42_method_56_code 8 = .ok (.getfield 9, 3) := by decide +kernel
theorem d14_11 : decode jdk_42_method_56_code 11 = .ok (.iload_n 1, 1) := by decide +kernel
theorem d14_12 : decode jdk_42_method_56_code 12 = .ok (.invokestatic 495, 3) := by decide +kernel
theorem d14_15 : decode jdk_42_method_56_code 15 = .ok (.ireturn, 1) := by decide +kernel
theorem d14_16 : decode jdk_42_method_56_code 16 = .ok (.aload_n 0, 1) := by decide +kernel
theorem d14_17 : decode jdk_42_method_56_code 17 = .ok (.getfield 9, 3) := by decide +kernel
theorem d14_20 : decode jdk_42_method_56_code 20 = .ok (.iload_n 1, 1) := by decide +kernel
theorem d14_21 : decode jdk_42_method_56_code 21 = .ok (.invokestatic 498, 3) := by decide +kernel
theorem d14_24 : decode jdk_42_method_56_code 24 = .ok (.ireturn, 1) := by decide +kernel
theorem pn_14 : plainName "java/lang/String" = true := by first | (simp [plainName, overriddenIn]; done) | decide +kernel
theorem ef_14 (m : MethodId) (a0 : Addr) (p1 : Int32) : entryFrame m #[(.ref a0), (.int p1)] 2 = mkF m 0 #[.val (.ref a0), .val (.int p1)] [] := by first | (simp [entryFrame, mkF, argsToLocals, Value.category]; done) | rfl
set_option maxRecDepth 65536 in
set_option maxHeartbeats 40000000 in
theorem rm14 (l : Launch) (Z : State) (a0 : Array Value) (hw : ∀ d ∈ tables_1, d.before a0 Z = true) (ws : List Jvm.Cond) (a0 : Addr) (p1 : Int32) (z1 : Int32) (fm : Value) (cd : Int32) (t : Addr) (n : Nat) (N : Nat) (g1 : Nat → Int32) (ch : Nat → Int32) (i : Nat) (h0 : Heap) (n0 : Nat) (Z0 : n0 ≤ h0.size) (SS : own_SS Z h0 n0 z1 fm) (E0 : Exa Z h0 a0 "java/lang/String") (Fc : Fld Z h0 a0 "java/lang/String" "coder" "B" (.int cd)) (Fv : Fld Z h0 a0 "java/lang/String" "value" "[B" (.ref t)) (Y0 : own_Y .byte Z h0 t N g1) (hz1 : ¬ z1 = 0) (rf_fm : fm.isRef = true) (hD : own_D cd n N g1 ch) (hi : p1 = i.toInt32) (hin : i < n) :
    MetFree l (⟨"java/lang/String", "charAt", "(I)C"⟩ : MethodName) (head1 (Jvm.Cond.code (⟨"java/lang/String", "charAt", "(I)C"⟩ : MethodName) jdk_42_method_56_code 2 (some .char) :: ws) ({ frames := 4, cells := 0, slots := 0, locals := 53 } : Room)) (fun a U => a = #[(.ref a0), (.int p1)] ∧ Z.Warmed39 U.vm ∧ U.heap = h0) (fun _ _ _ _ _ => True) (fun _ U o U' => ∃ v L, o = .returned v ∧ own_QV (.int (ch i)) h0 n0 v U'.heap L ∧ FrameEnd U o U' L ({ frames := 4, cells := 0, slots := 0, locals := 53 } : Room).cells ({ frames := 4, cells := 0, slots := 0, locals := 53 } : Room).slots) := by
  refine MetFree.of_bodySF (plainFor_of_name pn_14) hisR ?_
  intro p e s m args below meth c s₁ Bd hml0 hP hK
  obtain ⟨rfl, hZ, hh⟩ := hP
  have hx := Bd.exec
  have hby := Bd.bytes
  have hlk : meth.locks = false := BodyLoose.notSynchronized Bd
  have hret := Bd.returns
  have hml : c.maxLocals = 2 := hml0
  have hown : s.vm.findClass "java/lang/String" = some m.cls := findClass_of_methodNamed Bd.named
  have hnm := (name_of_methodNamed Bd.named Bd.method).1
  have X0 : Stand p l e ({ frames := 4, cells := 0, slots := 0, locals := 53 } : Room) s m #[(.ref a0), (.int p1)] below meth c s₁ [] 0 0 := Stand.of_body Bd
  have e0 : s₁.heap = h0 := by rw [← hh, Bd.state]; rfl
  have N0 := Fr.nil n0
  show own_G p.tables e below (own_E s ({ frames := 4, cells := 0, slots := 0, locals := 53 } : Room).cells ({ frames := 4, cells := 0, slots := 0, locals := 53 } : Room).slots) (own_QV (.int (ch i)) h0 n0) (s₁.setTop (entryFrame m #[(.ref a0), (.int p1)] 2))
  refine own_st ?_ (fun t_ k_ => castTop (ef_14 m a0 p1) k_)
  show own_G p.tables e below _ _ (s₁.setTop (mkF m 0 #[.val (.ref a0), .val (.int p1)] []))
  by_cases hcd : cd = 0
  · refine own_st ?_ (fun t_ k_ => XS.aloadN X0.here hx rfl (hb hby d14_0) rfl rfl k_)
    show own_G p.tables e below _ _ (s₁.setTop (mkF m 1 #[.val (.ref a0), .val (.int p1)] [(.ref a0)]))
    obtain ⟨cq1, kq1, q1a, q1b, q1c⟩ := isOf hZ e0 E0
    obtain ⟨_, _, ⟨T1, L1, k1, n1⟩, -, X1, ⟨Lc1, hQ1, l1, y1, z1⟩, st1⟩ := X0.virtualBack hx (y := (⟨"java/lang/String", "isLatin1", "()Z"⟩ : MethodName)) (z := (⟨"java/lang/String", "isLatin1", "()Z"⟩ : MethodName)) hown (mvT hZ (hw _ (List.mem_of_getElem? (i := 80) rfl))) (mvT hZ (hw _ (List.mem_of_getElem? (i := 81) rfl))) (notFace_of_selects (args := #[]) (mvT hZ (hw _ (List.mem_of_getElem? (i := 83) rfl)))) (mvT hZ (hw _ (List.mem_of_getElem? (i := 83) rfl))) (mvT hZ (hw _ (List.mem_of_getElem? (i := 82) rfl))) (by decide) (backOf (W := 0) (rm15L l Z _ hw [] a0 z1 fm cd h0 n0 Z0 SS Fc hz1 hcd) hZ (hw _ (List.mem_of_getElem? (i := 84) rfl)) (hw _ (List.mem_of_getElem? (i := 4) rfl)) (by decide) (by decide)) q1a q1c (g := (mkF m 1 #[.val (.ref a0), .val (.int p1)] [(.ref a0)])) rfl (by rw [hml]; rfl) (Steps.refl _) (argsL := []) (rest := []) (lenOf pd_5 rfl) rfl (by show 2 * 0 + _ ≤ _; exact Nat.le_of_eq rfl) (hb hby d14_1) (fun _ _ => ⟨rfl, e0, (by decide : 0 + 0 ≤ _), (by decide : 0 + 0 ≤ _)⟩)
    dsimp only [Pt.U, Pt.locs, Pt.cells, Pt.slots] at X1 l1 y1 z1 st1 hQ1
    subst l1 y1 z1
    obtain ⟨rfl, N1q, e1⟩ := hQ1
    have N1 := Fr.app N0 N1q
    refine own_st ?_ (fun t_ k_ => st1.trans k_)
    show own_G p.tables e below _ _ (T1.setTop (mkF m 4 #[.val (.ref a0), .val (.int p1)] [(.int (1 : Int32))]))
    refine own_st ?_ (fun t_ k_ => XS.ifNo X1.here hx rfl (hb hby d14_4) rfl ((if0 _ _).trans (feq (by decide : ¬ ((1 : Int32) = (0 : Int32)))).1) k_)
    show own_G p.tables e below _ _ (T1.setTop (mkF m 7 #[.val (.ref a0), .val (.int p1)] []))
    refine own_st ?_ (fun t_ k_ => XS.aloadN X1.here hx rfl (hb hby d14_7) rfl rfl k_)
    show own_G p.tables e below _ _ (T1.setTop (mkF m 8 #[.val (.ref a0), .val (.int p1)] [(.ref a0)]))
    obtain ⟨T2, X2, e2, st2⟩ := getF X1 hx hZ hown (host := "") (Or.inl (hw _ (List.mem_of_getElem? (i := 34) rfl))) Via.refl e1 Fv (g := (mkF m 8 #[.val (.ref a0), .val (.int p1)] [(.ref a0)])) rfl rfl (hb hby d14_8)
    refine own_st ?_ st2
    show own_G p.tables e below _ _ (T2.setTop (mkF m 11 #[.val (.ref a0), .val (.int p1)] [(.ref t)]))
    refine own_st ?_ (fun t_ k_ => XS.iloadN X2.here hx rfl (hb hby d14_11) rfl k_)
    show own_G p.tables e below _ _ (T2.setTop (mkF m 12 #[.val (.ref a0), .val (.int p1)] [(.int p1), (.ref t)]))
    obtain ⟨_, _, ⟨T3, L3, k3, n3⟩, -, X3, ⟨Lc3, hQ3, l3, y3, z3⟩, st3⟩ := Jvm.LawKit.callS X2 hx (y := (⟨"java/lang/StringLatin1", "charAt", "([BI)C"⟩ : MethodName)) hown (mvT hZ (hw _ (List.mem_of_getElem? (i := 85) rfl))) (mvT hZ (hw _ (List.mem_of_getElem? (i := 86) rfl))) (mvT hZ (hw _ (List.mem_of_getElem? (i := 87) rfl))) (mvT hZ (hw _ (List.mem_of_getElem? (i := 88) rfl))) (by decide) (backOf (W := 0) (rm16 l Z _ hw [] t p1 z1 fm i N g1 (ch i) h0 n0 Z0 SS Y0 rf_fm hi (by have := (own_D_lat hD hcd).1; omega) (own_D_len hD).2 ((own_D_lat hD hcd).2 i hin).1) hZ (hw _ (List.mem_of_getElem? (i := 88) rfl)) (hw _ (List.mem_of_getElem? (i := 87) rfl)) (by decide) (by decide)) (g := (mkF m 12 #[.val (.ref a0), .val (.int p1)] [(.int p1), (.ref t)])) rfl (by rw [hml]; rfl) (argsL := [(.ref t), (.int p1)]) (rest := []) (lenOf pd_4 rfl) rfl (by show 2 * 0 + _ ≤ _; exact Nat.le_of_eq rfl) (hb hby d14_12) (fun _ _ => ⟨rfl, e2, (by decide : 0 + 0 ≤ _), (by decide : 0 + 0 ≤ _)⟩)
    dsimp only [Pt.U, Pt.locs, Pt.cells, Pt.slots] at X3 l3 y3 z3 st3 hQ3
    subst l3 y3 z3
    obtain ⟨rfl, N3q, e3⟩ := hQ3
    have N3 := Fr.app N1 N3q
    refine own_st ?_ st3
    show own_G p.tables e below _ _ (T3.setTop (mkF m 15 #[.val (.ref a0), .val (.int p1)] [(.int (ch i))]))
    exact own_retN X3 hx hlk (t := .char) hret (by simp) (hb hby d14_15) (by decide) (by decide) (z' := (nar .char (ch i))) rfl ⟨congrArg (fun z => some (Value.int z)) (own_chr_id (hD.1 i hin)), N3, e3⟩
  · refine own_st ?_ (fun t_ k_ => XS.aloadN X0.here hx rfl (hb hby d14_0) rfl rfl k_)
    show own_G p.tables e below _ _ (s₁.setTop (mkF m 1 #[.val (.ref a0), .val (.int p1)] [(.ref a0)]))
    obtain ⟨cq4, kq4, q4a, q4b, q4c⟩ := isOf hZ e0 E0
    obtain ⟨_, _, ⟨T4, L4, k4, n4⟩, -, X4, ⟨Lc4, hQ4, l4, y4, z4⟩, st4⟩ := X0.virtualBack hx (y := (⟨"java/lang/String", "isLatin1", "()Z"⟩ : MethodName)) (z := (⟨"java/lang/String", "isLatin1", "()Z"⟩ : MethodName)) hown (mvT hZ (hw _ (List.mem_of_getElem? (i := 80) rfl))) (mvT hZ (hw _ (List.mem_of_getElem? (i := 81) rfl))) (notFace_of_selects (args := #[]) (mvT hZ (hw _ (List.mem_of_getElem? (i := 83) rfl)))) (mvT hZ (hw _ (List.mem_of_getElem? (i := 83) rfl))) (mvT hZ (hw _ (List.mem_of_getElem? (i := 82) rfl))) (by decide) (backOf (W := 0) (rm15U l Z _ hw [] a0 z1 fm cd h0 n0 Z0 SS Fc hz1 hcd) hZ (hw _ (List.mem_of_getElem? (i := 84) rfl)) (hw _ (List.mem_of_getElem? (i := 4) rfl)) (by decide) (by decide)) q4a q4c (g := (mkF m 1 #[.val (.ref a0), .val (.int p1)] [(.ref a0)])) rfl (by rw [hml]; rfl) (Steps.refl _) (argsL := []) (rest := []) (lenOf pd_5 rfl) rfl (by show 2 * 0 + _ ≤ _; exact Nat.le_of_eq rfl) (hb hby d14_1) (fun _ _ => ⟨rfl, e0, (by decide : 0 + 0 ≤ _), (by decide : 0 + 0 ≤ _)⟩)
    dsimp only [Pt.U, Pt.locs, Pt.cells, Pt.slots] at X4 l4 y4 z4 st4 hQ4
    subst l4 y4 z4
    obtain ⟨rfl, N4q, e4⟩ := hQ4
    have N4 := Fr.app N0 N4q
    refine own_st ?_ (fun t_ k_ => st4.trans k_)
    show own_G p.tables e below _ _ (T4.setTop (mkF m 4 #[.val (.ref a0), .val (.int p1)] [(.int (0 : Int32))]))
    refine own_st ?_ (fun t_ k_ => XS.ifYes X4.here hx rfl (pc0 := 4) (pc' := 16) rfl (hb hby d14_4) rfl ((if0 _ _).trans (teq (by decide : (0 : Int32) = (0 : Int32))).1) (by decide) (by decide) k_)
    show own_G p.tables e below _ _ (T4.setTop (mkF m 16 #[.val (.ref a0), .val (.int p1)] []))
    refine own_st ?_ (fun t_ k_ => XS.aloadN X4.here hx rfl (hb hby d14_16) rfl rfl k_)
    show own_G p.tables e below _ _ (T4.setTop (mkF m 17 #[.val (.ref a0), .val (.int p1)] [(.ref a0)]))
    obtain ⟨T5, X5, e5, st5⟩ := getF X4 hx hZ hown (host := "") (Or.inl (hw _ (List.mem_of_getElem? (i := 34) rfl))) Via.refl e4 Fv (g := (mkF m 17 #[.val (.ref a0), .val (.int p1)] [(.ref a0)])) rfl rfl (hb hby d14_17)
    refine own_st ?_ st5
    show own_G p.tables e below _ _ (T5.setTop (mkF m 20 #[.val (.ref a0), .val (.int p1)] [(.ref t)]))
    refine own_st ?_ (fun t_ k_ => XS.iloadN X5.here hx rfl (hb hby d14_20) rfl k_)
    show own_G p.tables e below _ _ (T5.setTop (mkF m 21 #[.val (.ref a0), .val (.int p1)] [(.int p1), (.ref t)]))
    obtain ⟨_, _, ⟨T6, L6, k6, n6⟩, -, X6, ⟨Lc6, hQ6, l6, y6, z6⟩, st6⟩ := Jvm.LawKit.callS X5 hx (y := (⟨"java/lang/StringUTF16", "charAt", "([BI)C"⟩ : MethodName)) hown (mvT hZ (hw _ (List.mem_of_getElem? (i := 149) rfl))) (mvT hZ (hw _ (List.mem_of_getElem? (i := 150) rfl))) (mvT hZ (hw _ (List.mem_of_getElem? (i := 23) rfl))) (mvT hZ (hw _ (List.mem_of_getElem? (i := 151) rfl))) (by decide) (backOf (W := 0) (rm29 l Z _ hw [] t p1 z1 fm i n N g1 (ch i) h0 n0 Z0 SS Y0 rf_fm hi hin (own_D_utf hD hcd).1 hD.2.1 ((own_D_utf hD hcd).2 i hin) (hD.1 i hin)) hZ (hw _ (List.mem_of_getElem? (i := 151) rfl)) (hw _ (List.mem_of_getElem? (i := 23) rfl)) (by decide) (by decide)) (g := (mkF m 21 #[.val (.ref a0), .val (.int p1)] [(.int p1), (.ref t)])) rfl (by rw [hml]; rfl) (argsL := [(.ref t), (.int p1)]) (rest := []) (lenOf pd_4 rfl) rfl (by show 2 * 0 + _ ≤ _; exact Nat.le_of_eq rfl) (hb hby d14_21) (fun _ _ => ⟨rfl, e5, (by decide : 0 + 0 ≤ _), (by decide : 0 + 0 ≤ _)⟩)
    dsimp only [Pt.U, Pt.locs, Pt.cells, Pt.slots] at X6 l6 y6 z6 st6 hQ6
    subst l6 y6 z6
    obtain ⟨rfl, N6q, e6⟩ := hQ6
    have N6 := Fr.app N4 N6q
    refine own_st ?_ st6
    show own_G p.tables e below _ _ (T6.setTop (mkF m 24 #[.val (.ref a0), .val (.int p1)] [(.int (ch i))]))
    exact own_retN X6 hx hlk (t := .char) hret (by simp) (hb hby d14_24) (by decide) (by decide) (z' := (nar .char (ch i))) rfl ⟨congrArg (fun z => some (Value.int z)) (own_chr_id (hD.1 i hin)), N6, e6⟩
theorem d11_0 : decode jdk_42_method_152_code 0 = .ok (.getstatic 38, 3) := by decide +kernel
theorem d11_3 : decode jdk_42_method_152_code 3 = .ok (.ifCond .eq 10, 3) := by decide +kernel
theorem d11_6 : decode jdk_42_method_152_code 6 = .ok (.aload_n 0, 1) := by decide +kernel
theorem d11_7 : decode jdk_42_method_152_code 7 = .ok (.getfield 15, 3) := by decide +kernel
theorem d11_10 : decode jdk_42_method_152_code 10 = .ok (.goto 4, 3) := by decide +kernel
theorem d11_14 : decode jdk_42_method_152_code 14 = .ok (.ireturn, 1) := by decide +kernel
theorem pn_11 : plainName "java/lang/String" = true := by first | (simp [plainName, overriddenIn]; done) | decide +kernel
theorem ef_11 (m : MethodId) (a0 : Addr) : entryFrame m #[(.ref a0)] 1 = mkF m 0 #[.val (.ref a0)] [] := by first | (simp [entryFrame, mkF, argsToLocals, Value.category]; done) | rfl
set_option maxRecDepth 65536 in
set_option maxHeartbeats 40000000 in
theorem rm11 (l : Launch) (Z : State) (a0 : Array Value) (hw : ∀ d ∈ tables_1, d.before a0 Z = true) (ws : List Jvm.Cond) (a0 : Addr) (z1 : Int32) (fm : Value) (cd : Int32) (h0 : Heap) (n0 : Nat) (Z0 : n0 ≤ h0.size) (SS : own_SS Z h0 n0 z1 fm) (Fc : Fld Z h0 a0 "java/lang/String" "coder" "B" (.int cd)) (hz1 : ¬ z1 = 0) (hcb : nar .byte cd = cd) :
    MetFree l (⟨"java/lang/String", "coder", "()B"⟩ : MethodName) (head1 (Jvm.Cond.code (⟨"java/lang/String", "coder", "()B"⟩ : MethodName) jdk_42_method_152_code 1 (some .byte) :: ws) ({ frames := 0, cells := 0, slots := 0, locals := 0 } : Room)) (fun a U => a = #[(.ref a0)] ∧ Z.Warmed39 U.vm ∧ U.heap = h0) (fun _ _ _ _ _ => True) (fun _ U o U' => ∃ v L, o = .returned v ∧ own_QV (.int cd) h0 n0 v U'.heap L ∧ FrameEnd U o U' L ({ frames := 0, cells := 0, slots := 0, locals := 0 } : Room).cells ({ frames := 0, cells := 0, slots := 0, locals := 0 } : Room).slots) := by
  refine MetFree.of_bodySF (plainFor_of_name pn_11) hisR ?_
  intro p e s m args below meth c s₁ Bd hml0 hP hK
  obtain ⟨rfl, hZ, hh⟩ := hP
  have hx := Bd.exec
  have hby := Bd.bytes
  have hlk : meth.locks = false := BodyLoose.notSynchronized Bd
  have hret := Bd.returns
  have hml : c.maxLocals = 1 := hml0
  have hown : s.vm.findClass "java/lang/String" = some m.cls := findClass_of_methodNamed Bd.named
  have hnm := (name_of_methodNamed Bd.named Bd.method).1
  have X0 : Stand p l e ({ frames := 0, cells := 0, slots := 0, locals := 0 } : Room) s m #[(.ref a0)] below meth c s₁ [] 0 0 := Stand.of_body Bd
  have e0 : s₁.heap = h0 := by rw [← hh, Bd.state]; rfl
  have N0 := Fr.nil n0
  show own_G p.tables e below (own_E s ({ frames := 0, cells := 0, slots := 0, locals := 0 } : Room).cells ({ frames := 0, cells := 0, slots := 0, locals := 0 } : Room).slots) (own_QV (.int cd) h0 n0) (s₁.setTop (entryFrame m #[(.ref a0)] 1))
  refine own_st ?_ (fun t_ k_ => castTop (ef_11 m a0) k_)
  show own_G p.tables e below _ _ (s₁.setTop (mkF m 0 #[.val (.ref a0)] []))
  obtain ⟨T1, X1, e1, st1⟩ := getS2 X0 hx hZ hown (host := "") (Or.inl (hw _ (List.mem_of_getElem? (i := 20) rfl))) Via.refl e0 (own_Su_to SS.1) (g := (mkF m 0 #[.val (.ref a0)] [])) rfl (hb hby d11_0)
  refine own_st ?_ st1
  show own_G p.tables e below _ _ (T1.setTop (mkF m 3 #[.val (.ref a0)] [(.int z1)]))
  refine own_st ?_ (fun t_ k_ => XS.ifNo X1.here hx rfl (hb hby d11_3) rfl ((if0 _ _).trans (feq hz1).1) k_)
  show own_G p.tables e below _ _ (T1.setTop (mkF m 6 #[.val (.ref a0)] []))
  refine own_st ?_ (fun t_ k_ => XS.aloadN X1.here hx rfl (hb hby d11_6) rfl rfl k_)
  show own_G p.tables e below _ _ (T1.setTop (mkF m 7 #[.val (.ref a0)] [(.ref a0)]))
  obtain ⟨T2, X2, e2, st2⟩ := getF X1 hx hZ hown (host := "") (Or.inl (hw _ (List.mem_of_getElem? (i := 32) rfl))) Via.refl e1 Fc (g := (mkF m 7 #[.val (.ref a0)] [(.ref a0)])) rfl rfl (hb hby d11_7)
  refine own_st ?_ st2
  show own_G p.tables e below _ _ (T2.setTop (mkF m 10 #[.val (.ref a0)] [(.int cd)]))
  refine own_st ?_ (fun t_ k_ => XS.goto X2.here hx rfl (pc0 := 10) (pc' := 14) rfl (hb hby d11_10) (by decide) (by decide) k_)
  show own_G p.tables e below _ _ (T2.setTop (mkF m 14 #[.val (.ref a0)] [(.int cd)]))
  exact own_retN X2 hx hlk (t := .byte) hret (by simp) (hb hby d11_14) (by decide) (by decide) (z' := (nar .byte cd)) rfl ⟨congrArg (fun z => some (Value.int z)) (hcb), N0, e2⟩
theorem pd_6 : parseMethodDescriptor "()B" = some ⟨[], some .byte⟩ := by decide +kernel
theorem d10_0 : decode jdk_42_method_54_code 0 = .ok (.aload_n 0, 1) := by decide +kernel
theorem d10_1 : decode jdk_42_method_54_code 1 = .ok (.getfield 9, 3) := by decide +kernel
theorem d10_4 : decode jdk_42_method_54_code 4 = .ok (.arraylength, 1) := by decide +kernel
theorem d10_5 : decode jdk_42_method_54_code 5 = .ok (.aload_n 0, 1) := by decide +kernel
theorem d10_6 : decode jdk_42_method_54_code 6 = .ok (.invokevirtual 335, 3) := by decide +kernel
theorem d10_9 : decode jdk_42_method_54_code 9 = .ok (.ishr, 1) := by decide +kernel
theorem d10_10 : decode jdk_42_method_54_code 10 = .ok (.ireturn, 1) := by decide +kernel
theorem pn_10 : plainName "java/lang/String" = true := by first | (simp [plainName, overriddenIn]; done) | decide +kernel
theorem ef_10 (m : MethodId) (a0 : Addr) : entryFrame m #[(.ref a0)] 1 = mkF m 0 #[.val (.ref a0)] [] := by first | (simp [entryFrame, mkF, argsToLocals, Value.category]; done) | rfl
set_option maxRecDepth 65536 in
set_option maxHeartbeats 40000000 in
theorem rm10 (l : Launch) (Z : State) (a0 : Array Value) (hw : ∀ d ∈ tables_1, d.before a0 Z = true) (ws : List Jvm.Cond) (a0 : Addr) (z1 : Int32) (fm : Value) (cd : Int32) (t : Addr) (n : Nat) (N : Nat) (g1 : Nat → Int32) (ch : Nat → Int32) (h0 : Heap) (n0 : Nat) (Z0 : n0 ≤ h0.size) (SS : own_SS Z h0 n0 z1 fm) (E0 : Exa Z h0 a0 "java/lang/String") (Fc : Fld Z h0 a0 "java/lang/String" "coder" "B" (.int cd)) (Fv : Fld Z h0 a0 "java/lang/String" "value" "[B" (.ref t)) (Y0 : own_Y .byte Z h0 t N g1) (hz1 : ¬ z1 = 0) (hD : own_D cd n N g1 ch) :
    MetFree l (⟨"java/lang/String", "length", "()I"⟩ : MethodName) (head1 (Jvm.Cond.code (⟨"java/lang/String", "length", "()I"⟩ : MethodName) jdk_42_method_54_code 1 (some .int) :: ws) ({ frames := 1, cells := 0, slots := 0, locals := 13 } : Room)) (fun a U => a = #[(.ref a0)] ∧ Z.Warmed39 U.vm ∧ U.heap = h0) (fun _ _ _ _ _ => True) (fun _ U o U' => ∃ v L, o = .returned v ∧ own_QV (.int n.toInt32) h0 n0 v U'.heap L ∧ FrameEnd U o U' L ({ frames := 1, cells := 0, slots := 0, locals := 13 } : Room).cells ({ frames := 1, cells := 0, slots := 0, locals := 13 } : Room).slots) := by
  refine MetFree.of_bodySF (plainFor_of_name pn_10) hisR ?_
  intro p e s m args below meth c s₁ Bd hml0 hP hK
  obtain ⟨rfl, hZ, hh⟩ := hP
  have hx := Bd.exec
  have hby := Bd.bytes
  have hlk : meth.locks = false := BodyLoose.notSynchronized Bd
  have hret := Bd.returns
  have hml : c.maxLocals = 1 := hml0
  have hown : s.vm.findClass "java/lang/String" = some m.cls := findClass_of_methodNamed Bd.named
  have hnm := (name_of_methodNamed Bd.named Bd.method).1
  have X0 : Stand p l e ({ frames := 1, cells := 0, slots := 0, locals := 13 } : Room) s m #[(.ref a0)] below meth c s₁ [] 0 0 := Stand.of_body Bd
  have e0 : s₁.heap = h0 := by rw [← hh, Bd.state]; rfl
  have N0 := Fr.nil n0
  show own_G p.tables e below (own_E s ({ frames := 1, cells := 0, slots := 0, locals := 13 } : Room).cells ({ frames := 1, cells := 0, slots := 0, locals := 13 } : Room).slots) (own_QV (.int n.toInt32) h0 n0) (s₁.setTop (entryFrame m #[(.ref a0)] 1))
  refine own_st ?_ (fun t_ k_ => castTop (ef_10 m a0) k_)
  show own_G p.tables e below _ _ (s₁.setTop (mkF m 0 #[.val (.ref a0)] []))
  refine own_st ?_ (fun t_ k_ => XS.aloadN X0.here hx rfl (hb hby d10_0) rfl rfl k_)
  show own_G p.tables e below _ _ (s₁.setTop (mkF m 1 #[.val (.ref a0)] [(.ref a0)]))
  obtain ⟨T1, X1, e1, st1⟩ := getF X0 hx hZ hown (host := "") (Or.inl (hw _ (List.mem_of_getElem? (i := 34) rfl))) Via.refl e0 Fv (g := (mkF m 1 #[.val (.ref a0)] [(.ref a0)])) rfl rfl (hb hby d10_1)
  refine own_st ?_ st1
  show own_G p.tables e below _ _ (T1.setTop (mkF m 4 #[.val (.ref a0)] [(.ref t)]))
  obtain ⟨cl2, Ar2, Sz2, G2⟩ := Y0
  refine own_st ?_ (X1.arraylength hx (by rw [e1]; exact Ar2.1) (State.isArrayOf_alike hZ.alike Ar2.2.1) (g := (mkF m 4 #[.val (.ref a0)] [(.ref t)])) rfl rfl (hb hby d10_4))
  rw [Sz2]
  have Yx2 : own_Y .byte Z h0 t N g1 := ⟨cl2, Ar2, Sz2, G2⟩
  show own_G p.tables e below _ _ (T1.setTop (mkF m 5 #[.val (.ref a0)] [(.int (N).toInt32)]))
  refine own_st ?_ (fun t_ k_ => XS.aloadN X1.here hx rfl (hb hby d10_5) rfl rfl k_)
  show own_G p.tables e below _ _ (T1.setTop (mkF m 6 #[.val (.ref a0)] [(.ref a0), (.int (N).toInt32)]))
  obtain ⟨cq3, kq3, q3a, q3b, q3c⟩ := isOf hZ e1 E0
  obtain ⟨_, _, ⟨T3, L3, k3, n3⟩, -, X3, ⟨Lc3, hQ3, l3, y3, z3⟩, st3⟩ := X1.virtualBack hx (y := (⟨"java/lang/String", "coder", "()B"⟩ : MethodName)) (z := (⟨"java/lang/String", "coder", "()B"⟩ : MethodName)) hown (mvT hZ (hw _ (List.mem_of_getElem? (i := 56) rfl))) (mvT hZ (hw _ (List.mem_of_getElem? (i := 57) rfl))) (notFace_of_selects (args := #[]) (mvT hZ (hw _ (List.mem_of_getElem? (i := 59) rfl)))) (mvT hZ (hw _ (List.mem_of_getElem? (i := 59) rfl))) (mvT hZ (hw _ (List.mem_of_getElem? (i := 58) rfl))) (by decide) (backOf (W := 1) (rm11 l Z _ hw [] a0 z1 fm cd h0 n0 Z0 SS Fc hz1 (own_D_cd hD)) hZ (hw _ (List.mem_of_getElem? (i := 60) rfl)) (hw _ (List.mem_of_getElem? (i := 4) rfl)) (by decide) (by decide)) q3a q3c (g := (mkF m 6 #[.val (.ref a0)] [(.ref a0), (.int (N).toInt32)])) rfl (by rw [hml]; rfl) (Steps.refl _) (argsL := []) (rest := [(.int (N).toInt32)]) (lenOf pd_6 rfl) rfl (by show 2 * 0 + _ ≤ _; exact Nat.le_of_eq rfl) (hb hby d10_6) (fun _ _ => ⟨rfl, e1, (by decide : 0 + 0 ≤ _), (by decide : 0 + 0 ≤ _)⟩)
  dsimp only [Pt.U, Pt.locs, Pt.cells, Pt.slots] at X3 l3 y3 z3 st3 hQ3
  subst l3 y3 z3
  obtain ⟨rfl, N3q, e3⟩ := hQ3
  have N3 := Fr.app N0 N3q
  refine own_st ?_ (fun t_ k_ => st3.trans k_)
  show own_G p.tables e below _ _ (T3.setTop (mkF m 9 #[.val (.ref a0)] [(.int cd), (.int (N).toInt32)]))
  refine own_st ?_ (fun t_ k_ => XS.ishr X3.here hx rfl (hb hby d10_9) rfl k_)
  show own_G p.tables e below _ _ (T3.setTop (mkF m 10 #[.val (.ref a0)] [(.int ((N).toInt32 >>> (cd &&& 31)))]))
  exact own_retI X3 hx hlk hret (hb hby d10_10) (by decide) (by decide) ⟨congrArg (fun z => some (Value.int z)) ((own_D_len hD).1), N3, e3⟩
theorem d26_0 : decode jdk_52_method_3_code 0 = .ok (.iload_n 0, 1) := by decide +kernel
theorem d26_1 : decode jdk_52_method_3_code 1 = .ok (.ifCond .ge 11, 3) := by decide +kernel
theorem d26_12 : decode jdk_52_method_3_code 12 = .ok (.iload_n 0, 1) := by decide +kernel
theorem d26_13 : decode jdk_52_method_3_code 13 = .ok (.ldc 20, 2) := by decide +kernel
theorem d26_15 : decode jdk_52_method_3_code 15 = .ok (.if_icmp .lt 40, 3) := by decide +kernel
theorem d26_55 : decode jdk_52_method_3_code 55 = .ok (.iload_n 0, 1) := by decide +kernel
theorem d26_56 : decode jdk_52_method_3_code 56 = .ok (.iconst 1, 1) := by decide +kernel
theorem d26_57 : decode jdk_52_method_3_code 57 = .ok (.ishl, 1) := by decide +kernel
theorem d26_58 : decode jdk_52_method_3_code 58 = .ok (.ireturn, 1) := by decide +kernel
theorem pn_26 : plainName "java/lang/StringUTF16" = true := by first | (simp [plainName, overriddenIn]; done) | decide +kernel
theorem ef_26 (m : MethodId) (p0 : Int32) : entryFrame m #[(.int p0)] 1 = mkF m 0 #[.val (.int p0)] [] := by first | (simp [entryFrame, mkF, argsToLocals, Value.category]; done) | rfl
set_option maxRecDepth 65536 in
set_option maxHeartbeats 40000000 in
theorem rm26 (l : Launch) (Z : State) (a0 : Array Value) (hw : ∀ d ∈ tables_1, d.before a0 Z = true) (ws : List Jvm.Cond) (p0 : Int32) (n : Nat) (h0 : Heap) (n0 : Nat) (Z0 : n0 ≤ h0.size) (hi : p0 = n.toInt32) (hn : n ≤ 4) :
    MetFree l (⟨"java/lang/StringUTF16", "newBytesLength", "(I)I"⟩ : MethodName) (head1 (Jvm.Cond.code (⟨"java/lang/StringUTF16", "newBytesLength", "(I)I"⟩ : MethodName) jdk_52_method_3_code 1 (some .int) :: ws) ({ frames := 0, cells := 0, slots := 0, locals := 0 } : Room)) (fun a U => a = #[(.int p0)] ∧ Z.Warmed39 U.vm ∧ U.heap = h0) (fun _ _ _ _ _ => True) (fun _ U o U' => ∃ v L, o = .returned v ∧ own_QV (.int (2 * n).toInt32) h0 n0 v U'.heap L ∧ FrameEnd U o U' L ({ frames := 0, cells := 0, slots := 0, locals := 0 } : Room).cells ({ frames := 0, cells := 0, slots := 0, locals := 0 } : Room).slots) := by
  refine MetFree.of_bodySF (plainFor_of_name pn_26) hisR ?_
  intro p e s m args below meth c s₁ Bd hml0 hP hK
  obtain ⟨rfl, hZ, hh⟩ := hP
  have hx := Bd.exec
  have hby := Bd.bytes
  have hlk : meth.locks = false := BodyLoose.notSynchronized Bd
  have hret := Bd.returns
  have hml : c.maxLocals = 1 := hml0
  have hown : s.vm.findClass "java/lang/StringUTF16" = some m.cls := findClass_of_methodNamed Bd.named
  have hnm := (name_of_methodNamed Bd.named Bd.method).1
  have X0 : Stand p l e ({ frames := 0, cells := 0, slots := 0, locals := 0 } : Room) s m #[(.int p0)] below meth c s₁ [] 0 0 := Stand.of_body Bd
  have e0 : s₁.heap = h0 := by rw [← hh, Bd.state]; rfl
  have N0 := Fr.nil n0
  show own_G p.tables e below (own_E s ({ frames := 0, cells := 0, slots := 0, locals := 0 } : Room).cells ({ frames := 0, cells := 0, slots := 0, locals := 0 } : Room).slots) (own_QV (.int (2 * n).toInt32) h0 n0) (s₁.setTop (entryFrame m #[(.int p0)] 1))
  refine own_st ?_ (fun t_ k_ => castTop (ef_26 m p0) k_)
  show own_G p.tables e below _ _ (s₁.setTop (mkF m 0 #[.val (.int p0)] []))
  refine own_st ?_ (fun t_ k_ => XS.iloadN X0.here hx rfl (hb hby d26_0) rfl k_)
  show own_G p.tables e below _ _ (s₁.setTop (mkF m 1 #[.val (.int p0)] [(.int p0)]))
  refine own_st ?_ (fun t_ k_ => XS.ifYes X0.here hx rfl (pc0 := 1) (pc' := 12) rfl (hb hby d26_1) rfl ((if0 _ _).trans (flt (show ¬ (p0 < (0 : Int32)) from by rw [hi]; exact own_neg (by omega))).2.1) (by decide) (by decide) k_)
  show own_G p.tables e below _ _ (s₁.setTop (mkF m 12 #[.val (.int p0)] []))
  refine own_st ?_ (fun t_ k_ => XS.iloadN X0.here hx rfl (hb hby d26_12) rfl k_)
  show own_G p.tables e below _ _ (s₁.setTop (mkF m 13 #[.val (.int p0)] [(.int p0)]))
  refine own_st ?_ (X0.ldcInt hx hown (mvT hZ (hw _ (List.mem_of_getElem? (i := 139) rfl))) (g := (mkF m 13 #[.val (.int p0)] [(.int p0)])) rfl (hb hby d26_13))
  show own_G p.tables e below _ _ (s₁.setTop (mkF m 15 #[.val (.int p0)] [(.int (1073741823 : Int32)), (.int p0)]))
  refine own_st ?_ (fun t_ k_ => XS.icmpYes X0.here hx rfl (pc0 := 15) (pc' := 55) rfl (hb hby d26_15) rfl (tlt (show p0 < (1073741823 : Int32) from by rw [hi]; exact (own_tlt (b := 1073741823) (by omega) (by omega)).mpr (by omega))).1 (by decide) (by decide) k_)
  show own_G p.tables e below _ _ (s₁.setTop (mkF m 55 #[.val (.int p0)] []))
  refine own_st ?_ (fun t_ k_ => XS.iloadN X0.here hx rfl (hb hby d26_55) rfl k_)
  show own_G p.tables e below _ _ (s₁.setTop (mkF m 56 #[.val (.int p0)] [(.int p0)]))
  refine own_st ?_ (fun t_ k_ => XS.iconst X0.here hx rfl (hb hby d26_56) k_)
  show own_G p.tables e below _ _ (s₁.setTop (mkF m 57 #[.val (.int p0)] [(.int (1 : Int32)), (.int p0)]))
  refine own_st ?_ (fun t_ k_ => XS.ishl X0.here hx rfl (hb hby d26_57) rfl k_)
  show own_G p.tables e below _ _ (s₁.setTop (mkF m 58 #[.val (.int p0)] [(.int (p0 <<< ((1 : Int32) &&& 31)))]))
  exact own_retI X0 hx hlk hret (hb hby d26_58) (by decide) (by decide) ⟨congrArg (fun z => some (Value.int z)) (by rw [hi]; exact own_shl1 (by omega)), N0, e0⟩
theorem pd_7 : parseMethodDescriptor "(I)I" = some ⟨[.int], some .int⟩ := by decide +kernel
theorem d25_0 : decode jdk_52_method_2_code 0 = .ok (.iload_n 0, 1) := by decide +kernel
theorem d25_1 : decode jdk_52_method_2_code 1 = .ok (.invokestatic 11, 3) := by decide +kernel
theorem d25_4 : decode jdk_52_method_2_code 4 = .ok (.newarray .byte, 2) := by decide +kernel
theorem d25_6 : decode jdk_52_method_2_code 6 = .ok (.areturn, 1) := by decide +kernel
theorem pn_25 : plainName "java/lang/StringUTF16" = true := by first | (simp [plainName, overriddenIn]; done) | decide +kernel
theorem ef_25 (m : MethodId) (p0 : Int32) : entryFrame m #[(.int p0)] 1 = mkF m 0 #[.val (.int p0)] [] := by first | (simp [entryFrame, mkF, argsToLocals, Value.category]; done) | rfl
set_option maxRecDepth 65536 in
set_option maxHeartbeats 40000000 in
theorem rm25 (l : Launch) (Z : State) (a0 : Array Value) (hw : ∀ d ∈ tables_1, d.before a0 Z = true) (ws : List Jvm.Cond) (p0 : Int32) (n : Nat) (h0 : Heap) (n0 : Nat) (Z0 : n0 ≤ h0.size) (hi : p0 = n.toInt32) (hn : n ≤ 4) :
    MetFree l (⟨"java/lang/StringUTF16", "newBytesFor", "(I)[B"⟩ : MethodName) (head1 (Jvm.Cond.code (⟨"java/lang/StringUTF16", "newBytesFor", "(I)[B"⟩ : MethodName) jdk_52_method_2_code 1 (some (.array .byte)) :: ws) ({ frames := 1, cells := 1, slots := 8, locals := 12 } : Room)) (fun a U => a = #[(.int p0)] ∧ Z.Warmed39 U.vm ∧ U.heap = h0) (fun _ _ _ _ _ => True) (fun _ U o U' => ∃ v L, o = .returned v ∧ own_QN1 (fun h t => own_Y .byte Z h t (2 * n) (fun _ => 0)) h0 n0 v U'.heap L ∧ FrameEnd U o U' L ({ frames := 1, cells := 1, slots := 8, locals := 12 } : Room).cells ({ frames := 1, cells := 1, slots := 8, locals := 12 } : Room).slots) := by
  refine MetFree.of_bodySF (plainFor_of_name pn_25) hisR ?_
  intro p e s m args below meth c s₁ Bd hml0 hP hK
  obtain ⟨rfl, hZ, hh⟩ := hP
  have hx := Bd.exec
  have hby := Bd.bytes
  have hlk : meth.locks = false := BodyLoose.notSynchronized Bd
  have hret := Bd.returns
  have hml : c.maxLocals = 1 := hml0
  have hown : s.vm.findClass "java/lang/StringUTF16" = some m.cls := findClass_of_methodNamed Bd.named
  have hnm := (name_of_methodNamed Bd.named Bd.method).1
  have X0 : Stand p l e ({ frames := 1, cells := 1, slots := 8, locals := 12 } : Room) s m #[(.int p0)] below meth c s₁ [] 0 0 := Stand.of_body Bd
  have e0 : s₁.heap = h0 := by rw [← hh, Bd.state]; rfl
  have N0 := Fr.nil n0
  show own_G p.tables e below (own_E s ({ frames := 1, cells := 1, slots := 8, locals := 12 } : Room).cells ({ frames := 1, cells := 1, slots := 8, locals := 12 } : Room).slots) (own_QN1 (fun h t => own_Y .byte Z h t (2 * n) (fun _ => 0)) h0 n0) (s₁.setTop (entryFrame m #[(.int p0)] 1))
  refine own_st ?_ (fun t_ k_ => castTop (ef_25 m p0) k_)
  show own_G p.tables e below _ _ (s₁.setTop (mkF m 0 #[.val (.int p0)] []))
  refine own_st ?_ (fun t_ k_ => XS.iloadN X0.here hx rfl (hb hby d25_0) rfl k_)
  show own_G p.tables e below _ _ (s₁.setTop (mkF m 1 #[.val (.int p0)] [(.int p0)]))
  obtain ⟨_, _, ⟨T1, L1, k1, n1⟩, -, X1, ⟨Lc1, hQ1, l1, y1, z1⟩, st1⟩ := Jvm.LawKit.callS X0 hx (y := (⟨"java/lang/StringUTF16", "newBytesLength", "(I)I"⟩ : MethodName)) hown (mvT hZ (hw _ (List.mem_of_getElem? (i := 136) rfl))) (mvT hZ (hw _ (List.mem_of_getElem? (i := 137) rfl))) (mvT hZ (hw _ (List.mem_of_getElem? (i := 23) rfl))) (mvT hZ (hw _ (List.mem_of_getElem? (i := 138) rfl))) (by decide) (backOf (W := 0) (rm26 l Z _ hw [] p0 n h0 n0 Z0 hi hn) hZ (hw _ (List.mem_of_getElem? (i := 138) rfl)) (hw _ (List.mem_of_getElem? (i := 23) rfl)) (by decide) (by decide)) (g := (mkF m 1 #[.val (.int p0)] [(.int p0)])) rfl (by rw [hml]; rfl) (argsL := [(.int p0)]) (rest := []) (lenOf pd_7 rfl) rfl (by show 2 * 0 + _ ≤ _; exact Nat.le_of_eq rfl) (hb hby d25_1) (fun _ _ => ⟨rfl, e0, (by decide : 0 + 0 ≤ _), (by decide : 0 + 0 ≤ _)⟩)
  dsimp only [Pt.U, Pt.locs, Pt.cells, Pt.slots] at X1 l1 y1 z1 st1 hQ1
  subst l1 y1 z1
  obtain ⟨rfl, N1q, e1⟩ := hQ1
  have N1 := Fr.app N0 N1q
  refine own_st ?_ st1
  show own_G p.tables e below _ _ (T1.setTop (mkF m 4 #[.val (.int p0)] [(.int (2 * n).toInt32)]))
  obtain ⟨T2, h2, k2, X2, e2, E2, A2, st2⟩ := newP X1 hx hZ (hw _ (List.mem_of_getElem? (i := 25) rfl)) e1 (g := (mkF m 4 #[.val (.int p0)] [(.int (2 * n).toInt32)])) rfl (hb hby d25_4) rfl (own_neg (by omega)) (cap := 8) (by rw [own_clamp (by omega)]; omega) (by decide) (by decide) (by decide)
  obtain ⟨b2, gz2⟩ : ∃ z, z = h0.size := ⟨_, rfl⟩
  rw [← gz2] at A2 st2
  have g_b2 : n0 ≤ b2 := Nat.le_trans Z0 (Nat.le_of_eq gz2.symm)
  have sz_b2 : h0.size ≤ b2 := Nat.le_trans (Keep.refl h0 []).1 (Nat.le_of_eq gz2.symm)
  have Zs3 : n0 ≤ h2.size := Nat.le_trans Z0 E2.1
  have Kc4 : Keep h0 h2 [] := (Keep.refl h0 []).ext E2
  have Y_b2 : own_Y .byte Z h2 b2 (2 * n) (fun _ => 0) := own_Y_new (Arv.new A2 (own_neg (by omega))) (own_clamp (by omega))
  refine own_st ?_ st2
  show own_G p.tables e below _ _ (T2.setTop (mkF m 6 #[.val (.int p0)] [(.ref b2)]))
  refine own_retA X2 hx hlk hret rfl rfl rfl (hb hby d25_6) (by decide) (by decide) ⟨b2, rfl, N1, ?_⟩
  rw [e2]
  exact ⟨Kc4, sz_b2, Y_b2⟩
theorem d27_0 : decode jdk_52_method_4_code 0 = .ok (.getstatic 44, 3) := by decide +kernel
theorem d27_3 : decode jdk_52_method_4_code 3 = .ok (.ifCond .ne 25, 3) := by decide +kernel
theorem d27_28 : decode jdk_52_method_4_code 28 = .ok (.iload_n 1, 1) := by decide +kernel
theorem d27_29 : decode jdk_52_method_4_code 29 = .ok (.iconst 1, 1) := by decide +kernel
theorem d27_30 : decode jdk_52_method_4_code 30 = .ok (.ishl, 1) := by decide +kernel
theorem d27_31 : decode jdk_52_method_4_code 31 = .ok (.istore_n 1, 1) := by decide +kernel
theorem d27_32 : decode jdk_52_method_4_code 32 = .ok (.aload_n 0, 1) := by decide +kernel
theorem d27_33 : decode jdk_52_method_4_code 33 = .ok (.iload_n 1, 1) := by decide +kernel
theorem d27_34 : decode jdk_52_method_4_code 34 = .ok (.iinc 1 1, 3) := by decide +kernel
theorem d27_37 : decode jdk_52_method_4_code 37 = .ok (.iload_n 2, 1) := by decide +kernel
theorem d27_38 : decode jdk_52_method_4_code 38 = .ok (.getstatic 59, 3) := by decide +kernel
theorem d27_41 : decode jdk_52_method_4_code 41 = .ok (.ishr, 1) := by decide +kernel
theorem d27_42 : decode jdk_52_method_4_code 42 = .ok (.i2b, 1) := by decide +kernel
theorem d27_43 : decode jdk_52_method_4_code 43 = .ok (.bastore, 1) := by decide +kernel
theorem d27_44 : decode jdk_52_method_4_code 44 = .ok (.aload_n 0, 1) := by decide +kernel
theorem d27_45 : decode jdk_52_method_4_code 45 = .ok (.iload_n 1, 1) := by decide +kernel
theorem d27_46 : decode jdk_52_method_4_code 46 = .ok (.iload_n 2, 1) := by decide +kernel
theorem d27_47 : decode jdk_52_method_4_code 47 = .ok (.getstatic 63, 3) := by decide +kernel
theorem d27_50 : decode jdk_52_method_4_code 50 = .ok (.ishr, 1) := by decide +kernel
theorem d27_51 : decode jdk_52_method_4_code 51 = .ok (.i2b, 1) := by decide +kernel
theorem d27_52 : decode jdk_52_method_4_code 52 = .ok (.bastore, 1) := by decide +kernel
theorem d27_53 : decode jdk_52_method_4_code 53 = .ok (.return_, 1) := by decide +kernel
theorem pn_27 : plainName "java/lang/StringUTF16" = true := by first | (simp [plainName, overriddenIn]; done) | decide +kernel
theorem ef_27 (m : MethodId) (a0 : Addr) (p1 : Int32) (p2 : Int32) : entryFrame m #[(.ref a0), (.int p1), (.int p2)] 3 = mkF m 0 #[.val (.ref a0), .val (.int p1), .val (.int p2)] [] := by first | (simp [entryFrame, mkF, argsToLocals, Value.category]; done) | rfl
set_option maxRecDepth 65536 in
set_option maxHeartbeats 40000000 in
theorem rm27 (l : Launch) (Z : State) (a0 : Array Value) (hw : ∀ d ∈ tables_1, d.before a0 Z = true) (ws : List Jvm.Cond) (a0 : Addr) (p1 : Int32) (p2 : Int32) (z1 : Int32) (fm : Value) (i : Nat) (N : Nat) (g1 : Nat → Int32) (h0 : Heap) (n0 : Nat) (Z0 : n0 ≤ h0.size) (g_a0 : n0 ≤ a0) (SS : own_SS Z h0 n0 z1 fm) (Y0 : own_Y .byte Z h0 a0 N g1) (hi : p1 = i.toInt32) (hbb : 2 * i + 1 < N) (hN : N < 2 ^ 31) :
    MetFree l (⟨"java/lang/StringUTF16", "putChar", "([BII)V"⟩ : MethodName) (head1 (Jvm.Cond.code (⟨"java/lang/StringUTF16", "putChar", "([BII)V"⟩ : MethodName) jdk_52_method_4_code 3 none :: ws) ({ frames := 0, cells := 0, slots := 0, locals := 0 } : Room)) (fun a U => a = #[(.ref a0), (.int p1), (.int p2)] ∧ Z.Warmed39 U.vm ∧ U.heap = h0) (fun _ _ _ _ _ => True) (fun _ U o U' => ∃ v L, o = .returned v ∧ own_QK Z none [a0] (fun h => own_Y .byte Z h a0 N (own_upd (own_upd g1 (2 * i) (own_lo p2)) (2 * i + 1) (own_hi p2))) h0 n0 v U'.heap L ∧ FrameEnd U o U' L ({ frames := 0, cells := 0, slots := 0, locals := 0 } : Room).cells ({ frames := 0, cells := 0, slots := 0, locals := 0 } : Room).slots) := by
  refine MetFree.of_bodySF (plainFor_of_name pn_27) hisR ?_
  intro p e s m args below meth c s₁ Bd hml0 hP hK
  obtain ⟨rfl, hZ, hh⟩ := hP
  have hx := Bd.exec
  have hby := Bd.bytes
  have hlk : meth.locks = false := BodyLoose.notSynchronized Bd
  have hret := Bd.returns
  have hml : c.maxLocals = 3 := hml0
  have hown : s.vm.findClass "java/lang/StringUTF16" = some m.cls := findClass_of_methodNamed Bd.named
  have hnm := (name_of_methodNamed Bd.named Bd.method).1
  have X0 : Stand p l e ({ frames := 0, cells := 0, slots := 0, locals := 0 } : Room) s m #[(.ref a0), (.int p1), (.int p2)] below meth c s₁ [] 0 0 := Stand.of_body Bd
  have e0 : s₁.heap = h0 := by rw [← hh, Bd.state]; rfl
  have N0 := Fr.nil n0
  show own_G p.tables e below (own_E s ({ frames := 0, cells := 0, slots := 0, locals := 0 } : Room).cells ({ frames := 0, cells := 0, slots := 0, locals := 0 } : Room).slots) (own_QK Z none [a0] (fun h => own_Y .byte Z h a0 N (own_upd (own_upd g1 (2 * i) (own_lo p2)) (2 * i + 1) (own_hi p2))) h0 n0) (s₁.setTop (entryFrame m #[(.ref a0), (.int p1), (.int p2)] 3))
  refine own_st ?_ (fun t_ k_ => castTop (ef_27 m a0 p1 p2) k_)
  show own_G p.tables e below _ _ (s₁.setTop (mkF m 0 #[.val (.ref a0), .val (.int p1), .val (.int p2)] []))
  obtain ⟨T1, X1, e1, st1⟩ := getS2 X0 hx hZ hown (host := "") (Or.inl (hw _ (List.mem_of_getElem? (i := 143) rfl))) Via.refl e0 (own_Su_to SS.2.2.1) (g := (mkF m 0 #[.val (.ref a0), .val (.int p1), .val (.int p2)] [])) rfl (hb hby d27_0)
  refine own_st ?_ st1
  show own_G p.tables e below _ _ (T1.setTop (mkF m 3 #[.val (.ref a0), .val (.int p1), .val (.int p2)] [(.int (1 : Int32))]))
  refine own_st ?_ (fun t_ k_ => XS.ifYes X1.here hx rfl (pc0 := 3) (pc' := 28) rfl (hb hby d27_3) rfl ((if0 _ _).trans (feq (by decide : ¬ ((1 : Int32) = (0 : Int32)))).2) (by decide) (by decide) k_)
  show own_G p.tables e below _ _ (T1.setTop (mkF m 28 #[.val (.ref a0), .val (.int p1), .val (.int p2)] []))
  refine own_st ?_ (fun t_ k_ => XS.iloadN X1.here hx rfl (hb hby d27_28) rfl k_)
  show own_G p.tables e below _ _ (T1.setTop (mkF m 29 #[.val (.ref a0), .val (.int p1), .val (.int p2)] [(.int p1)]))
  refine own_st ?_ (fun t_ k_ => XS.iconst X1.here hx rfl (hb hby d27_29) k_)
  show own_G p.tables e below _ _ (T1.setTop (mkF m 30 #[.val (.ref a0), .val (.int p1), .val (.int p2)] [(.int (1 : Int32)), (.int p1)]))
  refine own_st ?_ (fun t_ k_ => XS.ishl X1.here hx rfl (hb hby d27_30) rfl k_)
  show own_G p.tables e below _ _ (T1.setTop (mkF m 31 #[.val (.ref a0), .val (.int p1), .val (.int p2)] [(.int (p1 <<< ((1 : Int32) &&& 31)))]))
  refine own_st ?_ (fun t_ k_ => XS.istoreN X1.here hx rfl (hb hby d27_31) rfl (l' := #[.val (.ref a0), .val (.int (p1 <<< ((1 : Int32) &&& 31))), .val (.int p2)]) rfl k_)
  show own_G p.tables e below _ _ (T1.setTop (mkF m 32 #[.val (.ref a0), .val (.int (p1 <<< ((1 : Int32) &&& 31))), .val (.int p2)] []))
  refine own_st ?_ (fun t_ k_ => XS.aloadN X1.here hx rfl (hb hby d27_32) rfl rfl k_)
  show own_G p.tables e below _ _ (T1.setTop (mkF m 33 #[.val (.ref a0), .val (.int (p1 <<< ((1 : Int32) &&& 31))), .val (.int p2)] [(.ref a0)]))
  refine own_st ?_ (fun t_ k_ => XS.iloadN X1.here hx rfl (hb hby d27_33) rfl k_)
  show own_G p.tables e below _ _ (T1.setTop (mkF m 34 #[.val (.ref a0), .val (.int (p1 <<< ((1 : Int32) &&& 31))), .val (.int p2)] [(.int (p1 <<< ((1 : Int32) &&& 31))), (.ref a0)]))
  refine own_st ?_ (fun t_ k_ => XS.iinc X1.here hx rfl (hb hby d27_34) rfl (l' := #[.val (.ref a0), .val (.int ((p1 <<< ((1 : Int32) &&& 31)) + (1 : Int32))), .val (.int p2)]) rfl k_)
  show own_G p.tables e below _ _ (T1.setTop (mkF m 37 #[.val (.ref a0), .val (.int ((p1 <<< ((1 : Int32) &&& 31)) + (1 : Int32))), .val (.int p2)] [(.int (p1 <<< ((1 : Int32) &&& 31))), (.ref a0)]))
  refine own_st ?_ (fun t_ k_ => XS.iloadN X1.here hx rfl (hb hby d27_37) rfl k_)
  show own_G p.tables e below _ _ (T1.setTop (mkF m 38 #[.val (.ref a0), .val (.int ((p1 <<< ((1 : Int32) &&& 31)) + (1 : Int32))), .val (.int p2)] [(.int p2), (.int (p1 <<< ((1 : Int32) &&& 31))), (.ref a0)]))
  obtain ⟨T2, X2, e2, st2⟩ := getS2 X1 hx hZ hown (host := "") (Or.inl (hw _ (List.mem_of_getElem? (i := 144) rfl))) Via.refl e1 (own_Su_to SS.2.2.2.1) (g := (mkF m 38 #[.val (.ref a0), .val (.int ((p1 <<< ((1 : Int32) &&& 31)) + (1 : Int32))), .val (.int p2)] [(.int p2), (.int (p1 <<< ((1 : Int32) &&& 31))), (.ref a0)])) rfl (hb hby d27_38)
  refine own_st ?_ st2
  show own_G p.tables e below _ _ (T2.setTop (mkF m 41 #[.val (.ref a0), .val (.int ((p1 <<< ((1 : Int32) &&& 31)) + (1 : Int32))), .val (.int p2)] [(.int (0 : Int32)), (.int p2), (.int (p1 <<< ((1 : Int32) &&& 31))), (.ref a0)]))
  refine own_st ?_ (fun t_ k_ => XS.ishr X2.here hx rfl (hb hby d27_41) rfl k_)
  show own_G p.tables e below _ _ (T2.setTop (mkF m 42 #[.val (.ref a0), .val (.int ((p1 <<< ((1 : Int32) &&& 31)) + (1 : Int32))), .val (.int p2)] [(.int (p2 >>> ((0 : Int32) &&& 31))), (.int (p1 <<< ((1 : Int32) &&& 31))), (.ref a0)]))
  refine own_st ?_ (fun t_ k_ => XS.i2b X2.here hx rfl (hb hby d27_42) rfl k_)
  show own_G p.tables e below _ _ (T2.setTop (mkF m 43 #[.val (.ref a0), .val (.int ((p1 <<< ((1 : Int32) &&& 31)) + (1 : Int32))), .val (.int p2)] [(.int ((p2 >>> ((0 : Int32) &&& 31)).toInt8.toInt32)), (.int (p1 <<< ((1 : Int32) &&& 31))), (.ref a0)]))
  have ix3 := own_ix (j := (p1 <<< ((1 : Int32) &&& 31))) (k := 2 * i) (n := N) (by rw [hi]; exact own_shl1 (by omega)) (by omega) hN
  obtain ⟨cl3, Ar3, Sz3, G3⟩ := Y0
  have hin3 : ¬ ((p1 <<< ((1 : Int32) &&& 31)) < 0 ∨ cl3.slots.size ≤ ((p1 <<< ((1 : Int32) &&& 31))).toNatClampNeg) := by rw [Sz3]; exact ix3.1
  obtain ⟨T3, h3, X3, e3, W3, st3⟩ := stB X2 hx hZ e2 Ar3 (j := (p1 <<< ((1 : Int32) &&& 31))) hin3 (g := (mkF m 43 #[.val (.ref a0), .val (.int ((p1 <<< ((1 : Int32) &&& 31)) + (1 : Int32))), .val (.int p2)] [(.int ((p2 >>> ((0 : Int32) &&& 31)).toInt8.toInt32)), (.int (p1 <<< ((1 : Int32) &&& 31))), (.ref a0)])) rfl rfl (hb hby d27_43)
  have N3 := Fr.snoc X3 N0 g_a0
  have Yo3 : own_Y .byte Z h0 a0 N g1 := ⟨cl3, Ar3, Sz3, G3⟩
  have F4_Z : own_SS Z h3 n0 z1 fm := own_SS_keep SS (Keep.of_wr W3) (own_alS g_a0 own_al0)
  have Zs5 : n0 ≤ h3.size := Nat.le_trans Z0 (Keep.of_wr W3).1
  have Kc6 : Keep h0 h3 [a0] := (Keep.refl h0 [a0]).wr W3 (Or.inl (List.mem_of_getElem? (i := 0) rfl))
  have Y3 : own_Y .byte Z h3 a0 N (own_upd g1 (2 * i) (nar .byte ((p2 >>> ((0 : Int32) &&& 31)).toInt8.toInt32))) := own_Y_set Yo3 W3 ix3.2
  refine own_st ?_ st3
  show own_G p.tables e below _ _ (T3.setTop (mkF m 44 #[.val (.ref a0), .val (.int ((p1 <<< ((1 : Int32) &&& 31)) + (1 : Int32))), .val (.int p2)] []))
  refine own_st ?_ (fun t_ k_ => XS.aloadN X3.here hx rfl (hb hby d27_44) rfl rfl k_)
  show own_G p.tables e below _ _ (T3.setTop (mkF m 45 #[.val (.ref a0), .val (.int ((p1 <<< ((1 : Int32) &&& 31)) + (1 : Int32))), .val (.int p2)] [(.ref a0)]))
  refine own_st ?_ (fun t_ k_ => XS.iloadN X3.here hx rfl (hb hby d27_45) rfl k_)
  show own_G p.tables e below _ _ (T3.setTop (mkF m 46 #[.val (.ref a0), .val (.int ((p1 <<< ((1 : Int32) &&& 31)) + (1 : Int32))), .val (.int p2)] [(.int ((p1 <<< ((1 : Int32) &&& 31)) + (1 : Int32))), (.ref a0)]))
  refine own_st ?_ (fun t_ k_ => XS.iloadN X3.here hx rfl (hb hby d27_46) rfl k_)
  show own_G p.tables e below _ _ (T3.setTop (mkF m 47 #[.val (.ref a0), .val (.int ((p1 <<< ((1 : Int32) &&& 31)) + (1 : Int32))), .val (.int p2)] [(.int p2), (.int ((p1 <<< ((1 : Int32) &&& 31)) + (1 : Int32))), (.ref a0)]))
  obtain ⟨T7, X7, e7, st7⟩ := getS2 X3 hx hZ hown (host := "") (Or.inl (hw _ (List.mem_of_getElem? (i := 145) rfl))) Via.refl e3 (own_Su_to F4_Z.2.2.2.2) (g := (mkF m 47 #[.val (.ref a0), .val (.int ((p1 <<< ((1 : Int32) &&& 31)) + (1 : Int32))), .val (.int p2)] [(.int p2), (.int ((p1 <<< ((1 : Int32) &&& 31)) + (1 : Int32))), (.ref a0)])) rfl (hb hby d27_47)
  refine own_st ?_ st7
  show own_G p.tables e below _ _ (T7.setTop (mkF m 50 #[.val (.ref a0), .val (.int ((p1 <<< ((1 : Int32) &&& 31)) + (1 : Int32))), .val (.int p2)] [(.int (8 : Int32)), (.int p2), (.int ((p1 <<< ((1 : Int32) &&& 31)) + (1 : Int32))), (.ref a0)]))
  refine own_st ?_ (fun t_ k_ => XS.ishr X7.here hx rfl (hb hby d27_50) rfl k_)
  show own_G p.tables e below _ _ (T7.setTop (mkF m 51 #[.val (.ref a0), .val (.int ((p1 <<< ((1 : Int32) &&& 31)) + (1 : Int32))), .val (.int p2)] [(.int (p2 >>> ((8 : Int32) &&& 31))), (.int ((p1 <<< ((1 : Int32) &&& 31)) + (1 : Int32))), (.ref a0)]))
  refine own_st ?_ (fun t_ k_ => XS.i2b X7.here hx rfl (hb hby d27_51) rfl k_)
  show own_G p.tables e below _ _ (T7.setTop (mkF m 52 #[.val (.ref a0), .val (.int ((p1 <<< ((1 : Int32) &&& 31)) + (1 : Int32))), .val (.int p2)] [(.int ((p2 >>> ((8 : Int32) &&& 31)).toInt8.toInt32)), (.int ((p1 <<< ((1 : Int32) &&& 31)) + (1 : Int32))), (.ref a0)]))
  have ix8 := own_ix (j := ((p1 <<< ((1 : Int32) &&& 31)) + (1 : Int32))) (k := 2 * i + 1) (n := N) (by rw [hi, own_shl1 (by omega)]; exact own_inc _) (by omega) hN
  obtain ⟨cl8, Ar8, Sz8, G8⟩ := Y3
  have hin8 : ¬ (((p1 <<< ((1 : Int32) &&& 31)) + (1 : Int32)) < 0 ∨ cl8.slots.size ≤ (((p1 <<< ((1 : Int32) &&& 31)) + (1 : Int32))).toNatClampNeg) := by rw [Sz8]; exact ix8.1
  obtain ⟨T8, h8, X8, e8, W8, st8⟩ := stB X7 hx hZ e7 Ar8 (j := ((p1 <<< ((1 : Int32) &&& 31)) + (1 : Int32))) hin8 (g := (mkF m 52 #[.val (.ref a0), .val (.int ((p1 <<< ((1 : Int32) &&& 31)) + (1 : Int32))), .val (.int p2)] [(.int ((p2 >>> ((8 : Int32) &&& 31)).toInt8.toInt32)), (.int ((p1 <<< ((1 : Int32) &&& 31)) + (1 : Int32))), (.ref a0)])) rfl rfl (hb hby d27_52)
  have N8 := Fr.snoc X8 N3 g_a0
  have Yo8 : own_Y .byte Z h3 a0 N (own_upd g1 (2 * i) (nar .byte ((p2 >>> ((0 : Int32) &&& 31)).toInt8.toInt32))) := ⟨cl8, Ar8, Sz8, G8⟩
  have F9_Z : own_SS Z h8 n0 z1 fm := own_SS_keep F4_Z (Keep.of_wr W8) (own_alS g_a0 own_al0)
  have Zs10 : n0 ≤ h8.size := Nat.le_trans Zs5 (Keep.of_wr W8).1
  have Kc11 : Keep h0 h8 [a0] := Kc6.wr W8 (Or.inl (List.mem_of_getElem? (i := 0) rfl))
  have Y8 : own_Y .byte Z h8 a0 N (own_upd (own_upd g1 (2 * i) (nar .byte ((p2 >>> ((0 : Int32) &&& 31)).toInt8.toInt32))) (2 * i + 1) (nar .byte ((p2 >>> ((8 : Int32) &&& 31)).toInt8.toInt32))) := own_Y_set Yo8 W8 ix8.2
  refine own_st ?_ st8
  show own_G p.tables e below _ _ (T8.setTop (mkF m 53 #[.val (.ref a0), .val (.int ((p1 <<< ((1 : Int32) &&& 31)) + (1 : Int32))), .val (.int p2)] []))
  refine own_retV X8 hx hlk hret (hb hby d27_53) (by decide) (by decide) ⟨rfl, N8, ?_⟩
  rw [e8]
  exact ⟨Kc11, Y8⟩
theorem own_step {G ch : Nat → Int32} {kx : Nat} (hG : ∀ i, i < kx → G (2 * i) = own_lo (ch i) ∧ G (2 * i + 1) = own_hi (ch i)) : ∀ i, i < kx + 1 → (own_upd (own_upd G (2 * kx) (own_lo (ch kx))) (2 * kx + 1) (own_hi (ch kx))) (2 * i) = own_lo (ch i) ∧ (own_upd (own_upd G (2 * kx) (own_lo (ch kx))) (2 * kx + 1) (own_hi (ch kx))) (2 * i + 1) = own_hi (ch i) := by
  intro i hi
  by_cases e : i = kx
  · subst e; exact ⟨by rw [own_upd_ne (by omega), own_upd_eq], own_upd_eq⟩
  · obtain ⟨a, b⟩ := hG i (by omega)
    exact ⟨by rw [own_upd_ne (by omega), own_upd_ne (by omega)]; exact a, by rw [own_upd_ne (by omega), own_upd_ne (by omega)]; exact b⟩
theorem pd_9 : parseMethodDescriptor "(I)[B" = some ⟨[.int], some (.array .byte)⟩ := by decide +kernel
theorem pd_8 : parseMethodDescriptor "([BII)V" = some ⟨[(.array .byte), .int, .int], none⟩ := by decide +kernel
theorem d24_0 : decode jdk_52_method_14_code 0 = .ok (.iload_n 2, 1) := by decide +kernel
theorem d24_1 : decode jdk_52_method_14_code 1 = .ok (.invokestatic 107, 3) := by decide +kernel
theorem d24_4 : decode jdk_52_method_14_code 4 = .ok (.astore_n 3, 1) := by decide +kernel
theorem d24_5 : decode jdk_52_method_14_code 5 = .ok (.iconst 0, 1) := by decide +kernel
theorem d24_6 : decode jdk_52_method_14_code 6 = .ok (.istore 4, 2) := by decide +kernel
theorem d24_8 : decode jdk_52_method_14_code 8 = .ok (.iload 4, 2) := by decide +kernel
theorem d24_10 : decode jdk_52_method_14_code 10 = .ok (.iload_n 2, 1) := by decide +kernel
theorem d24_11 : decode jdk_52_method_14_code 11 = .ok (.if_icmp .ge 21, 3) := by decide +kernel
theorem d24_14 : decode jdk_52_method_14_code 14 = .ok (.aload_n 3, 1) := by decide +kernel
theorem d24_15 : decode jdk_52_method_14_code 15 = .ok (.iload 4, 2) := by decide +kernel
theorem d24_17 : decode jdk_52_method_14_code 17 = .ok (.aload_n 0, 1) := by decide +kernel
theorem d24_18 : decode jdk_52_method_14_code 18 = .ok (.iload_n 1, 1) := by decide +kernel
theorem d24_19 : decode jdk_52_method_14_code 19 = .ok (.caload, 1) := by decide +kernel
theorem d24_20 : decode jdk_52_method_14_code 20 = .ok (.invokestatic 111, 3) := by decide +kernel
theorem d24_23 : decode jdk_52_method_14_code 23 = .ok (.iinc 1 1, 3) := by decide +kernel
theorem d24_26 : decode jdk_52_method_14_code 26 = .ok (.iinc 4 1, 3) := by decide +kernel
theorem d24_29 : decode jdk_52_method_14_code 29 = .ok (.goto (-21), 3) := by decide +kernel
theorem d24_32 : decode jdk_52_method_14_code 32 = .ok (.aload_n 3, 1) := by decide +kernel
theorem d24_33 : decode jdk_52_method_14_code 33 = .ok (.areturn, 1) := by decide +kernel
theorem pn_24 : plainName "java/lang/StringUTF16" = true := by first | (simp [plainName, overriddenIn]; done) | decide +kernel
set_option maxRecDepth 65536 in
set_option maxHeartbeats 40000000 in
theorem own_lt {p : Program} {l : Launch} {e : Env} {s : State} {m : MethodId} {args : Array Value} {below : List Frame} {meth : Method} {c : Code} {Z : State} {a0' : Array Value} {h0 : Heap} {n0 : Nat} (hx : p.tables.exec = Jvm.exec) (hlk : meth.locks = false) (hZ : Z.Warmed39 s.vm) (hw : ∀ d ∈ tables_1, d.before a0' Z = true) (hby : c.code = jdk_52_method_14_code) (hml : c.maxLocals = 5) (hown : s.vm.findClass "java/lang/StringUTF16" = some m.cls) (hret : meth.sig.returnType = (some (.array .byte))) {a0 t : Addr} {n : Nat} {ch : Nat → Int32} {z1 : Int32} {fm : Value} (hn : n ≤ 4) (g_t : n0 ≤ t) (sz_t : h0.size ≤ t) (d : Nat) : ∀ {T0 : State} {locs : List Loc} {h1 : Heap} {kx : Nat} {G : Nat → Int32} (hd : kx + d = n) (X0 : Stand p l e ({ frames := 2, cells := 1, slots := 8, locals := 24 } : Room) s m args below meth c T0 locs 1 8) (N0 : Fr n0 locs) (e0 : T0.heap = h1) (K0 : Keep h0 h1 []) (SS : own_SS Z h1 n0 z1 fm) (Y0 : own_Y .char Z h1 a0 n ch) (hne : a0 ≠ t) (Yt : own_Y .byte Z h1 t (2 * n) G) (hG : ∀ i, i < kx → G (2 * i) = own_lo (ch i) ∧ G (2 * i + 1) = own_hi (ch i)) (Z1 : n0 ≤ h1.size),
    own_G p.tables e below (own_E s ({ frames := 2, cells := 1, slots := 8, locals := 24 } : Room).cells ({ frames := 2, cells := 1, slots := 8, locals := 24 } : Room).slots) (own_QN1 (fun h t => ∃ G : Nat → Int32, own_Y .byte Z h t (2 * n) G ∧ ∀ i, i < n → G (2 * i) = own_lo (ch i) ∧ G (2 * i + 1) = own_hi (ch i)) h0 n0) (T0.setTop (mkF m 8 #[.val (.ref a0), .val (.int kx.toInt32), .val (.int n.toInt32), .val (.ref t), .val (.int kx.toInt32)] [])) := by
  induction d with
  | zero =>
    intro T0 locs h1 kx G hd X0 N0 e0 K0 SS Y0 hne Yt hG Z1
    refine own_st ?_ (fun t_ k_ => XS.iload X0.here hx rfl (hb hby d24_8) rfl k_)
    show own_G p.tables e below _ _ (T0.setTop (mkF m 10 #[.val (.ref a0), .val (.int kx.toInt32), .val (.int n.toInt32), .val (.ref t), .val (.int kx.toInt32)] [(.int kx.toInt32)]))
    refine own_st ?_ (fun t_ k_ => XS.iloadN X0.here hx rfl (hb hby d24_10) rfl k_)
    show own_G p.tables e below _ _ (T0.setTop (mkF m 11 #[.val (.ref a0), .val (.int kx.toInt32), .val (.int n.toInt32), .val (.ref t), .val (.int kx.toInt32)] [(.int n.toInt32), (.int kx.toInt32)]))
    refine own_st ?_ (fun t_ k_ => XS.icmpYes X0.here hx rfl (pc0 := 11) (pc' := 32) rfl (hb hby d24_11) rfl (flt (fun q => by have := (own_tlt (by omega) (by omega)).mp q; omega)).2.1 (by decide) (by decide) k_)
    show own_G p.tables e below _ _ (T0.setTop (mkF m 32 #[.val (.ref a0), .val (.int kx.toInt32), .val (.int n.toInt32), .val (.ref t), .val (.int kx.toInt32)] []))
    refine own_st ?_ (fun t_ k_ => XS.aloadN X0.here hx rfl (hb hby d24_32) rfl rfl k_)
    show own_G p.tables e below _ _ (T0.setTop (mkF m 33 #[.val (.ref a0), .val (.int kx.toInt32), .val (.int n.toInt32), .val (.ref t), .val (.int kx.toInt32)] [(.ref t)]))
    refine own_retA X0 hx hlk hret rfl rfl rfl (hb hby d24_33) (by decide) (by decide) ⟨t, rfl, N0, ?_⟩
    rw [e0]
    exact ⟨K0, sz_t, G, Yt, fun i hi => hG i (by omega)⟩
  | succ d ih =>
    intro T0 locs h1 kx G hd X0 N0 e0 K0 SS Y0 hne Yt hG Z1
    refine own_st ?_ (fun t_ k_ => XS.iload X0.here hx rfl (hb hby d24_8) rfl k_)
    show own_G p.tables e below _ _ (T0.setTop (mkF m 10 #[.val (.ref a0), .val (.int kx.toInt32), .val (.int n.toInt32), .val (.ref t), .val (.int kx.toInt32)] [(.int kx.toInt32)]))
    refine own_st ?_ (fun t_ k_ => XS.iloadN X0.here hx rfl (hb hby d24_10) rfl k_)
    show own_G p.tables e below _ _ (T0.setTop (mkF m 11 #[.val (.ref a0), .val (.int kx.toInt32), .val (.int n.toInt32), .val (.ref t), .val (.int kx.toInt32)] [(.int n.toInt32), (.int kx.toInt32)]))
    refine own_st ?_ (fun t_ k_ => XS.icmpNo X0.here hx rfl (hb hby d24_11) rfl (tlt ((own_tlt (by omega) (by omega)).mpr (by omega))).2.1 k_)
    show own_G p.tables e below _ _ (T0.setTop (mkF m 14 #[.val (.ref a0), .val (.int kx.toInt32), .val (.int n.toInt32), .val (.ref t), .val (.int kx.toInt32)] []))
    refine own_st ?_ (fun t_ k_ => XS.aloadN X0.here hx rfl (hb hby d24_14) rfl rfl k_)
    show own_G p.tables e below _ _ (T0.setTop (mkF m 15 #[.val (.ref a0), .val (.int kx.toInt32), .val (.int n.toInt32), .val (.ref t), .val (.int kx.toInt32)] [(.ref t)]))
    refine own_st ?_ (fun t_ k_ => XS.iload X0.here hx rfl (hb hby d24_15) rfl k_)
    show own_G p.tables e below _ _ (T0.setTop (mkF m 17 #[.val (.ref a0), .val (.int kx.toInt32), .val (.int n.toInt32), .val (.ref t), .val (.int kx.toInt32)] [(.int kx.toInt32), (.ref t)]))
    refine own_st ?_ (fun t_ k_ => XS.aloadN X0.here hx rfl (hb hby d24_17) rfl rfl k_)
    show own_G p.tables e below _ _ (T0.setTop (mkF m 18 #[.val (.ref a0), .val (.int kx.toInt32), .val (.int n.toInt32), .val (.ref t), .val (.int kx.toInt32)] [(.ref a0), (.int kx.toInt32), (.ref t)]))
    refine own_st ?_ (fun t_ k_ => XS.iloadN X0.here hx rfl (hb hby d24_18) rfl k_)
    show own_G p.tables e below _ _ (T0.setTop (mkF m 19 #[.val (.ref a0), .val (.int kx.toInt32), .val (.int n.toInt32), .val (.ref t), .val (.int kx.toInt32)] [(.int kx.toInt32), (.ref a0), (.int kx.toInt32), (.ref t)]))
    have ix1 := own_ix (j := kx.toInt32) (k := kx) (n := n) rfl (by omega) (by omega)
    obtain ⟨cl1, Ar1, Sz1, G1⟩ := Y0
    have hin1 : ¬ (kx.toInt32 < 0 ∨ cl1.slots.size ≤ (kx.toInt32).toNatClampNeg) := by rw [Sz1]; exact ix1.1
    have hat1 : cl1.slots[(kx.toInt32).toNatClampNeg]? = some (.int (ch kx)) := by rw [ix1.2]; exact G1 _ (by omega)
    refine own_st ?_ (X0.caload hx (j := kx.toInt32) (v := (.int (ch kx))) (by rw [e0]; exact Ar1.1) (State.isArrayOf_alike hZ.alike Ar1.2.1) Ar1.2.2 hin1 hat1 (g := (mkF m 19 #[.val (.ref a0), .val (.int kx.toInt32), .val (.int n.toInt32), .val (.ref t), .val (.int kx.toInt32)] [(.int kx.toInt32), (.ref a0), (.int kx.toInt32), (.ref t)])) rfl rfl (hb hby d24_19))
    have Yx1 : own_Y .char Z h1 a0 n ch := ⟨cl1, Ar1, Sz1, G1⟩
    show own_G p.tables e below _ _ (T0.setTop (mkF m 20 #[.val (.ref a0), .val (.int kx.toInt32), .val (.int n.toInt32), .val (.ref t), .val (.int kx.toInt32)] [(.int (ch kx)), (.int kx.toInt32), (.ref t)]))
    obtain ⟨_, _, ⟨T2, L2, k2, n2⟩, -, X2, ⟨Lc2, hQ2, l2, y2, z2⟩, st2⟩ := Jvm.LawKit.callS X0 hx (y := (⟨"java/lang/StringUTF16", "putChar", "([BII)V"⟩ : MethodName)) hown (mvT hZ (hw _ (List.mem_of_getElem? (i := 140) rfl))) (mvT hZ (hw _ (List.mem_of_getElem? (i := 141) rfl))) (mvT hZ (hw _ (List.mem_of_getElem? (i := 23) rfl))) (mvT hZ (hw _ (List.mem_of_getElem? (i := 142) rfl))) (by decide) (backOf (W := 0) (rm27 l Z _ hw [] t kx.toInt32 (ch kx) z1 fm kx (2 * n) G h1 n0 Z1 g_t SS Yt rfl (by omega) (by omega)) hZ (hw _ (List.mem_of_getElem? (i := 142) rfl)) (hw _ (List.mem_of_getElem? (i := 23) rfl)) (by decide) (by decide)) (g := (mkF m 20 #[.val (.ref a0), .val (.int kx.toInt32), .val (.int n.toInt32), .val (.ref t), .val (.int kx.toInt32)] [(.int (ch kx)), (.int kx.toInt32), (.ref t)])) rfl (by rw [hml]; rfl) (argsL := [(.ref t), (.int kx.toInt32), (.int (ch kx))]) (rest := []) (lenOf pd_8 rfl) rfl (by show 2 * 0 + _ ≤ _; exact Nat.le_of_eq rfl) (hb hby d24_20) (fun _ _ => ⟨rfl, e0, (by decide : 1 + 0 ≤ _), (by decide : 8 + 0 ≤ _)⟩)
    dsimp only [Pt.U, Pt.locs, Pt.cells, Pt.slots] at X2 l2 y2 z2 st2 hQ2
    subst l2 y2 z2
    obtain ⟨rfl, N2q, hq2⟩ := hQ2
    have N2 := Fr.app N0 N2q
    obtain ⟨K2, Yp2⟩ := hq2
    have F3_Z : own_SS Z T2.heap n0 z1 fm := own_SS_keep SS K2 (own_alS g_t own_al0)
    have F4_P : own_Y .char Z T2.heap a0 n ch := own_Y_keep Yx1 K2 (ninS hne nin0)
    have Zs5 : n0 ≤ T2.heap.size := Nat.le_trans Z1 K2.1
    have Kc6 : Keep h0 T2.heap [] := K0.trans K2 (allS (Or.inr sz_t) all0)
    have own_hG : ∀ i, i < kx + 1 → (own_upd (own_upd G (2 * kx) (own_lo (ch kx))) (2 * kx + 1) (own_hi (ch kx))) (2 * i) = own_lo (ch i) ∧ (own_upd (own_upd G (2 * kx) (own_lo (ch kx))) (2 * kx + 1) (own_hi (ch kx))) (2 * i + 1) = own_hi (ch i) := own_step hG
    refine own_st ?_ st2
    show own_G p.tables e below _ _ (T2.setTop (mkF m 23 #[.val (.ref a0), .val (.int kx.toInt32), .val (.int n.toInt32), .val (.ref t), .val (.int kx.toInt32)] []))
    refine own_st ?_ (fun t_ k_ => XS.iinc X2.here hx rfl (hb hby d24_23) rfl (l' := #[.val (.ref a0), .val (.int (kx.toInt32 + (1 : Int32))), .val (.int n.toInt32), .val (.ref t), .val (.int kx.toInt32)]) rfl k_)
    show own_G p.tables e below _ _ (T2.setTop (mkF m 26 #[.val (.ref a0), .val (.int (kx.toInt32 + (1 : Int32))), .val (.int n.toInt32), .val (.ref t), .val (.int kx.toInt32)] []))
    refine own_st ?_ (fun t_ k_ => XS.iinc X2.here hx rfl (hb hby d24_26) rfl (l' := #[.val (.ref a0), .val (.int (kx.toInt32 + (1 : Int32))), .val (.int n.toInt32), .val (.ref t), .val (.int (kx.toInt32 + (1 : Int32)))]) rfl k_)
    show own_G p.tables e below _ _ (T2.setTop (mkF m 29 #[.val (.ref a0), .val (.int (kx.toInt32 + (1 : Int32))), .val (.int n.toInt32), .val (.ref t), .val (.int (kx.toInt32 + (1 : Int32)))] []))
    refine own_st ?_ (fun t_ k_ => XS.goto X2.here hx rfl (pc0 := 29) (pc' := 8) rfl (hb hby d24_29) (by decide) (by decide) k_)
    show own_G p.tables e below _ _ (T2.setTop (mkF m 8 #[.val (.ref a0), .val (.int (kx.toInt32 + (1 : Int32))), .val (.int n.toInt32), .val (.ref t), .val (.int (kx.toInt32 + (1 : Int32)))] []))
    simp only [own_inc]
    exact ih (kx := kx + 1) (by omega) X2 N2 rfl Kc6 F3_Z F4_P hne Yp2 own_hG Zs5
theorem ef_24 (m : MethodId) (a0 : Addr) (n : Nat) : entryFrame m #[(.ref a0), (.int (0 : Int32)), (.int n.toInt32)] 5 = mkF m 0 #[.val (.ref a0), .val (.int (0 : Int32)), .val (.int n.toInt32), .unset, .unset] [] := by first | (simp [entryFrame, mkF, argsToLocals, Value.category]; done) | rfl
set_option maxRecDepth 65536 in
set_option maxHeartbeats 40000000 in
theorem rm24 (l : Launch) (Z : State) (a0 : Array Value) (hw : ∀ d ∈ tables_1, d.before a0 Z = true) (ws : List Jvm.Cond) (a0 : Addr) (z1 : Int32) (fm : Value) (n : Nat) (ch : Nat → Int32) (h0 : Heap) (n0 : Nat) (Z0 : n0 ≤ h0.size) (SS : own_SS Z h0 n0 z1 fm) (Y0 : own_Y .char Z h0 a0 n ch) (hn : n ≤ 4) :
    MetFree l (⟨"java/lang/StringUTF16", "toBytes", "([CII)[B"⟩ : MethodName) (head1 (Jvm.Cond.code (⟨"java/lang/StringUTF16", "toBytes", "([CII)[B"⟩ : MethodName) jdk_52_method_14_code 5 (some (.array .byte)) :: ws) ({ frames := 2, cells := 1, slots := 8, locals := 24 } : Room)) (fun a U => a = #[(.ref a0), (.int (0 : Int32)), (.int n.toInt32)] ∧ Z.Warmed39 U.vm ∧ U.heap = h0) (fun _ _ _ _ _ => True) (fun _ U o U' => ∃ v L, o = .returned v ∧ own_QN1 (fun h t => ∃ G : Nat → Int32, own_Y .byte Z h t (2 * n) G ∧ ∀ i, i < n → G (2 * i) = own_lo (ch i) ∧ G (2 * i + 1) = own_hi (ch i)) h0 n0 v U'.heap L ∧ FrameEnd U o U' L ({ frames := 2, cells := 1, slots := 8, locals := 24 } : Room).cells ({ frames := 2, cells := 1, slots := 8, locals := 24 } : Room).slots) := by
  refine MetFree.of_bodySF (plainFor_of_name pn_24) hisR ?_
  intro p e s m args below meth c s₁ Bd hml0 hP hK
  obtain ⟨rfl, hZ, hh⟩ := hP
  have hx := Bd.exec
  have hby := Bd.bytes
  have hlk : meth.locks = false := BodyLoose.notSynchronized Bd
  have hret := Bd.returns
  have hml : c.maxLocals = 5 := hml0
  have hown : s.vm.findClass "java/lang/StringUTF16" = some m.cls := findClass_of_methodNamed Bd.named
  have hnm := (name_of_methodNamed Bd.named Bd.method).1
  have X0 : Stand p l e ({ frames := 2, cells := 1, slots := 8, locals := 24 } : Room) s m #[(.ref a0), (.int (0 : Int32)), (.int n.toInt32)] below meth c s₁ [] 0 0 := Stand.of_body Bd
  have e0 : s₁.heap = h0 := by rw [← hh, Bd.state]; rfl
  have N0 := Fr.nil n0
  show own_G p.tables e below (own_E s ({ frames := 2, cells := 1, slots := 8, locals := 24 } : Room).cells ({ frames := 2, cells := 1, slots := 8, locals := 24 } : Room).slots) (own_QN1 (fun h t => ∃ G : Nat → Int32, own_Y .byte Z h t (2 * n) G ∧ ∀ i, i < n → G (2 * i) = own_lo (ch i) ∧ G (2 * i + 1) = own_hi (ch i)) h0 n0) (s₁.setTop (entryFrame m #[(.ref a0), (.int (0 : Int32)), (.int n.toInt32)] 5))
  refine own_st ?_ (fun t_ k_ => castTop (ef_24 m a0 n) k_)
  show own_G p.tables e below _ _ (s₁.setTop (mkF m 0 #[.val (.ref a0), .val (.int (0 : Int32)), .val (.int n.toInt32), .unset, .unset] []))
  refine own_st ?_ (fun t_ k_ => XS.iloadN X0.here hx rfl (hb hby d24_0) rfl k_)
  show own_G p.tables e below _ _ (s₁.setTop (mkF m 1 #[.val (.ref a0), .val (.int (0 : Int32)), .val (.int n.toInt32), .unset, .unset] [(.int n.toInt32)]))
  obtain ⟨_, _, ⟨T1, L1, k1, n1⟩, -, X1, ⟨Lc1, hQ1, l1, y1, z1⟩, st1⟩ := Jvm.LawKit.callS X0 hx (y := (⟨"java/lang/StringUTF16", "newBytesFor", "(I)[B"⟩ : MethodName)) hown (mvT hZ (hw _ (List.mem_of_getElem? (i := 133) rfl))) (mvT hZ (hw _ (List.mem_of_getElem? (i := 134) rfl))) (mvT hZ (hw _ (List.mem_of_getElem? (i := 23) rfl))) (mvT hZ (hw _ (List.mem_of_getElem? (i := 135) rfl))) (by decide) (backOf (W := 0) (rm25 l Z _ hw [] n.toInt32 n h0 n0 Z0 rfl hn) hZ (hw _ (List.mem_of_getElem? (i := 135) rfl)) (hw _ (List.mem_of_getElem? (i := 23) rfl)) (by decide) (by decide)) (g := (mkF m 1 #[.val (.ref a0), .val (.int (0 : Int32)), .val (.int n.toInt32), .unset, .unset] [(.int n.toInt32)])) rfl (by rw [hml]; rfl) (argsL := [(.int n.toInt32)]) (rest := []) (lenOf pd_9 rfl) rfl (by show 2 * 0 + _ ≤ _; exact Nat.le_of_eq rfl) (hb hby d24_1) (fun _ _ => ⟨rfl, e0, (by decide : 0 + 1 ≤ _), (by decide : 0 + 8 ≤ _)⟩)
  dsimp only [Pt.U, Pt.locs, Pt.cells, Pt.slots] at X1 l1 y1 z1 st1 hQ1
  subst l1 y1 z1
  obtain ⟨t1, rfl, N1q, hq1⟩ := hQ1
  have N1 := Fr.app N0 N1q
  obtain ⟨K1, hs1, hp1⟩ := hq1
  have g_t1 : n0 ≤ t1 := Nat.le_trans Z0 hs1
  have sz_t1 : h0.size ≤ t1 := Nat.le_trans (Keep.refl h0 []).1 hs1
  have ne_a0_t1 : a0 ≠ t1 := Nat.ne_of_lt (Nat.lt_of_lt_of_le (own_Y_lt Y0) hs1)
  have F2_Z : own_SS Z T1.heap n0 z1 fm := own_SS_keep SS K1 own_al0
  have F3_P : own_Y .char Z T1.heap a0 n ch := own_Y_keep Y0 K1 nin0
  have Zs4 : n0 ≤ T1.heap.size := Nat.le_trans Z0 K1.1
  have Kc5 : Keep h0 T1.heap [] := (Keep.refl h0 []).trans K1 all0
  refine own_st ?_ st1
  show own_G p.tables e below _ _ (T1.setTop (mkF m 4 #[.val (.ref a0), .val (.int (0 : Int32)), .val (.int n.toInt32), .unset, .unset] [(.ref t1)]))
  refine own_st ?_ (fun t_ k_ => XS.astoreN X1.here hx rfl (hb hby d24_4) rfl rfl (l' := #[.val (.ref a0), .val (.int (0 : Int32)), .val (.int n.toInt32), .val (.ref t1), .unset]) rfl k_)
  show own_G p.tables e below _ _ (T1.setTop (mkF m 5 #[.val (.ref a0), .val (.int (0 : Int32)), .val (.int n.toInt32), .val (.ref t1), .unset] []))
  refine own_st ?_ (fun t_ k_ => XS.iconst X1.here hx rfl (hb hby d24_5) k_)
  show own_G p.tables e below _ _ (T1.setTop (mkF m 6 #[.val (.ref a0), .val (.int (0 : Int32)), .val (.int n.toInt32), .val (.ref t1), .unset] [(.int (0 : Int32))]))
  refine own_st ?_ (fun t_ k_ => XS.istore X1.here hx rfl (hb hby d24_6) rfl (l' := #[.val (.ref a0), .val (.int (0 : Int32)), .val (.int n.toInt32), .val (.ref t1), .val (.int (0 : Int32))]) rfl k_)
  show own_G p.tables e below _ _ (T1.setTop (mkF m 8 #[.val (.ref a0), .val (.int (0 : Int32)), .val (.int n.toInt32), .val (.ref t1), .val (.int (0 : Int32))] []))
  exact own_lt hx hlk hZ hw hby hml hown hret hn g_t1 sz_t1 n (kx := 0) (by omega) X1 N1 rfl Kc5 F2_Z F3_P ne_a0_t1 hp1 (fun i hi => absurd hi (Nat.not_lt_zero i)) Zs4
theorem own_small255 {c : Int32} (h : (255 : Int32) < c) : 255 < c.toInt := by
  have e : (255 : Int32).toInt = 255 := by decide
  rw [Int32.lt_iff_toInt_lt, e] at h; exact h
theorem own_step5 {G ch : Nat → Int32} {kx : Nat} (hG : ∀ i, i < kx → G i = nar .byte ((ch i).toInt8.toInt32) ∧ (ch i).toInt ≤ 255) (h : ¬ (255 : Int32) < ch kx) : ∀ i, i < kx + 1 → (own_upd G kx (nar .byte ((ch kx).toInt8.toInt32))) i = nar .byte ((ch i).toInt8.toInt32) ∧ (ch i).toInt ≤ 255 := by
  intro i hi
  by_cases e : i = kx
  · subst e
    have e5 : (255 : Int32).toInt = 255 := by decide
    rw [Int32.lt_iff_toInt_lt, e5] at h
    exact ⟨own_upd_eq, by omega⟩
  · obtain ⟨a, b⟩ := hG i (by omega)
    exact ⟨by rw [own_upd_ne e]; exact a, b⟩
theorem own_P5_eq {Z : State} {n k : Nat} {ch : Nat → Int32} {t : Addr} {h : Heap} (P : own_P5 Z n ch t k h) (hn : n ≤ 4) (hC : ∀ i, i < n → own_isC (ch i)) (e : k.toInt32 = n.toInt32) : own_PB Z n ch h t := by
  rcases P with ⟨-, G, Y, hG⟩ | ⟨hk, -⟩
  · exact ⟨0, n, G, Y, own_D_mkL hC (by omega) hG, Or.inl ⟨rfl, rfl, hG⟩⟩
  · have := (own_teq (by omega) (by omega)).mp e; omega
theorem own_P5_ne {Z : State} {n k : Nat} {ch : Nat → Int32} {t : Addr} {h : Heap} (P : own_P5 Z n ch t k h) (e : ¬ k.toInt32 = n.toInt32) : k < n ∧ 255 < (ch k).toInt := by
  rcases P with ⟨q, -⟩ | q
  · exact absurd (by rw [q]) e
  · exact q
theorem own_fcd {Z : State} {h : Heap} {a : Addr} {cd : Int32} (F : Fld Z h a "java/lang/String" "coder" "B" (.int (nar .byte cd))) (e : nar .byte cd = cd) : Fld Z h a "java/lang/String" "coder" "B" (.int cd) := by rw [e] at F; exact F
theorem d6_0 : decode jdk_52_method_21_code 0 = .ok (.iconst 0, 1) := by decide +kernel
theorem d6_1 : decode jdk_52_method_21_code 1 = .ok (.istore 5, 2) := by decide +kernel
theorem d6_3 : decode jdk_52_method_21_code 3 = .ok (.iload 5, 2) := by decide +kernel
theorem d6_5 : decode jdk_52_method_21_code 5 = .ok (.iload 4, 2) := by decide +kernel
theorem d6_7 : decode jdk_52_method_21_code 7 = .ok (.if_icmp .ge 37, 3) := by decide +kernel
theorem d6_10 : decode jdk_52_method_21_code 10 = .ok (.aload_n 0, 1) := by decide +kernel
theorem d6_11 : decode jdk_52_method_21_code 11 = .ok (.iload_n 1, 1) := by decide +kernel
theorem d6_12 : decode jdk_52_method_21_code 12 = .ok (.caload, 1) := by decide +kernel
theorem d6_13 : decode jdk_52_method_21_code 13 = .ok (.istore 6, 2) := by decide +kernel
theorem d6_15 : decode jdk_52_method_21_code 15 = .ok (.iload 6, 2) := by decide +kernel
theorem d6_17 : decode jdk_52_method_21_code 17 = .ok (.sipush 255, 3) := by decide +kernel
theorem d6_20 : decode jdk_52_method_21_code 20 = .ok (.if_icmp .le 6, 3) := by decide +kernel
theorem d6_23 : decode jdk_52_method_21_code 23 = .ok (.iload 5, 2) := by decide +kernel
theorem d6_25 : decode jdk_52_method_21_code 25 = .ok (.ireturn, 1) := by decide +kernel
theorem d6_26 : decode jdk_52_method_21_code 26 = .ok (.aload_n 2, 1) := by decide +kernel
theorem d6_27 : decode jdk_52_method_21_code 27 = .ok (.iload_n 3, 1) := by decide +kernel
theorem d6_28 : decode jdk_52_method_21_code 28 = .ok (.iload 6, 2) := by decide +kernel
theorem d6_30 : decode jdk_52_method_21_code 30 = .ok (.i2b, 1) := by decide +kernel
theorem d6_31 : decode jdk_52_method_21_code 31 = .ok (.bastore, 1) := by decide +kernel
theorem d6_32 : decode jdk_52_method_21_code 32 = .ok (.iinc 1 1, 3) := by decide +kernel
theorem d6_35 : decode jdk_52_method_21_code 35 = .ok (.iinc 3 1, 3) := by decide +kernel
theorem d6_38 : decode jdk_52_method_21_code 38 = .ok (.iinc 5 1, 3) := by decide +kernel
theorem d6_41 : decode jdk_52_method_21_code 41 = .ok (.goto (-38), 3) := by decide +kernel
theorem d6_44 : decode jdk_52_method_21_code 44 = .ok (.iload 4, 2) := by decide +kernel
theorem d6_46 : decode jdk_52_method_21_code 46 = .ok (.ireturn, 1) := by decide +kernel
theorem pn_6 : plainName "java/lang/StringUTF16" = true := by first | (simp [plainName, overriddenIn]; done) | decide +kernel
set_option maxRecDepth 65536 in
set_option maxHeartbeats 40000000 in
theorem own_l5 {p : Program} {l : Launch} {e : Env} {s : State} {m : MethodId} {args : Array Value} {below : List Frame} {meth : Method} {c : Code} {Z : State} {a0' : Array Value} {h0 : Heap} {n0 : Nat} (hx : p.tables.exec = Jvm.exec) (hlk : meth.locks = false) (hZ : Z.Warmed39 s.vm) (hw : ∀ d ∈ tables_1, d.before a0' Z = true) (hby : c.code = jdk_52_method_21_code) (hml : c.maxLocals = 7) (hown : s.vm.findClass "java/lang/StringUTF16" = some m.cls) (hret : meth.sig.returnType = (some .int)) {a0 a2 : Addr} {n : Nat} {ch : Nat → Int32} (hn : n ≤ 4) (hne : a0 ≠ a2) (g_a2 : n0 ≤ a2) (d : Nat) : ∀ {T0 : State} {locs : List Loc} {h1 : Heap} {kx : Nat} {G : Nat → Int32} {s6 : Slot} (hd : kx + d = n) (o_s6 : s6 = .unset ∨ ∃ w, s6 = .val w ∧ w.category = 1) (X0 : Stand p l e ({ frames := 0, cells := 0, slots := 0, locals := 0 } : Room) s m args below meth c T0 locs 0 0) (N0 : Fr n0 locs) (e0 : T0.heap = h1) (K0 : Keep h0 h1 [a2]) (Y0 : own_Y .char Z h1 a0 n ch) (Yt : own_Y .byte Z h1 a2 n G) (hG : ∀ i, i < kx → G i = nar .byte ((ch i).toInt8.toInt32) ∧ (ch i).toInt ≤ 255) (Z1 : n0 ≤ h1.size),
    own_G p.tables e below (own_E s 0 0) (own_Q5 Z n ch a2 h0 n0) (T0.setTop (mkF m 3 #[.val (.ref a0), .val (.int kx.toInt32), .val (.ref a2), .val (.int kx.toInt32), .val (.int n.toInt32), .val (.int kx.toInt32), s6] [])) := by
  induction d with
  | zero =>
    intro T0 locs h1 kx G s6 hd o_s6 X0 N0 e0 K0 Y0 Yt hG Z1
    refine own_st ?_ (fun t_ k_ => XS.iload X0.here hx rfl (hb hby d6_3) rfl k_)
    show own_G p.tables e below _ _ (T0.setTop (mkF m 5 #[.val (.ref a0), .val (.int kx.toInt32), .val (.ref a2), .val (.int kx.toInt32), .val (.int n.toInt32), .val (.int kx.toInt32), s6] [(.int kx.toInt32)]))
    refine own_st ?_ (fun t_ k_ => XS.iload X0.here hx rfl (hb hby d6_5) rfl k_)
    show own_G p.tables e below _ _ (T0.setTop (mkF m 7 #[.val (.ref a0), .val (.int kx.toInt32), .val (.ref a2), .val (.int kx.toInt32), .val (.int n.toInt32), .val (.int kx.toInt32), s6] [(.int n.toInt32), (.int kx.toInt32)]))
    refine own_st ?_ (fun t_ k_ => XS.icmpYes X0.here hx rfl (pc0 := 7) (pc' := 44) rfl (hb hby d6_7) rfl (flt (fun q => by have := (own_tlt (by omega) (by omega)).mp q; omega)).2.1 (by decide) (by decide) k_)
    show own_G p.tables e below _ _ (T0.setTop (mkF m 44 #[.val (.ref a0), .val (.int kx.toInt32), .val (.ref a2), .val (.int kx.toInt32), .val (.int n.toInt32), .val (.int kx.toInt32), s6] []))
    refine own_st ?_ (fun t_ k_ => XS.iload X0.here hx rfl (hb hby d6_44) rfl k_)
    show own_G p.tables e below _ _ (T0.setTop (mkF m 46 #[.val (.ref a0), .val (.int kx.toInt32), .val (.ref a2), .val (.int kx.toInt32), .val (.int n.toInt32), .val (.int kx.toInt32), s6] [(.int n.toInt32)]))
    refine own_retI X0 hx hlk hret (hb hby d6_46) (by decide) (by decide) ⟨n, rfl, N0, ?_⟩
    rw [e0]
    exact ⟨K0, Or.inl ⟨rfl, G, Yt, fun i hi => hG i (by omega)⟩⟩
  | succ d ih =>
    intro T0 locs h1 kx G s6 hd o_s6 X0 N0 e0 K0 Y0 Yt hG Z1
    refine own_st ?_ (fun t_ k_ => XS.iload X0.here hx rfl (hb hby d6_3) rfl k_)
    show own_G p.tables e below _ _ (T0.setTop (mkF m 5 #[.val (.ref a0), .val (.int kx.toInt32), .val (.ref a2), .val (.int kx.toInt32), .val (.int n.toInt32), .val (.int kx.toInt32), s6] [(.int kx.toInt32)]))
    refine own_st ?_ (fun t_ k_ => XS.iload X0.here hx rfl (hb hby d6_5) rfl k_)
    show own_G p.tables e below _ _ (T0.setTop (mkF m 7 #[.val (.ref a0), .val (.int kx.toInt32), .val (.ref a2), .val (.int kx.toInt32), .val (.int n.toInt32), .val (.int kx.toInt32), s6] [(.int n.toInt32), (.int kx.toInt32)]))
    refine own_st ?_ (fun t_ k_ => XS.icmpNo X0.here hx rfl (hb hby d6_7) rfl (tlt ((own_tlt (by omega) (by omega)).mpr (by omega))).2.1 k_)
    show own_G p.tables e below _ _ (T0.setTop (mkF m 10 #[.val (.ref a0), .val (.int kx.toInt32), .val (.ref a2), .val (.int kx.toInt32), .val (.int n.toInt32), .val (.int kx.toInt32), s6] []))
    refine own_st ?_ (fun t_ k_ => XS.aloadN X0.here hx rfl (hb hby d6_10) rfl rfl k_)
    show own_G p.tables e below _ _ (T0.setTop (mkF m 11 #[.val (.ref a0), .val (.int kx.toInt32), .val (.ref a2), .val (.int kx.toInt32), .val (.int n.toInt32), .val (.int kx.toInt32), s6] [(.ref a0)]))
    refine own_st ?_ (fun t_ k_ => XS.iloadN X0.here hx rfl (hb hby d6_11) rfl k_)
    show own_G p.tables e below _ _ (T0.setTop (mkF m 12 #[.val (.ref a0), .val (.int kx.toInt32), .val (.ref a2), .val (.int kx.toInt32), .val (.int n.toInt32), .val (.int kx.toInt32), s6] [(.int kx.toInt32), (.ref a0)]))
    have ix1 := own_ix (j := kx.toInt32) (k := kx) (n := n) rfl (by omega) (by omega)
    obtain ⟨cl1, Ar1, Sz1, G1⟩ := Y0
    have hin1 : ¬ (kx.toInt32 < 0 ∨ cl1.slots.size ≤ (kx.toInt32).toNatClampNeg) := by rw [Sz1]; exact ix1.1
    have hat1 : cl1.slots[(kx.toInt32).toNatClampNeg]? = some (.int (ch kx)) := by rw [ix1.2]; exact G1 _ (by omega)
    refine own_st ?_ (X0.caload hx (j := kx.toInt32) (v := (.int (ch kx))) (by rw [e0]; exact Ar1.1) (State.isArrayOf_alike hZ.alike Ar1.2.1) Ar1.2.2 hin1 hat1 (g := (mkF m 12 #[.val (.ref a0), .val (.int kx.toInt32), .val (.ref a2), .val (.int kx.toInt32), .val (.int n.toInt32), .val (.int kx.toInt32), s6] [(.int kx.toInt32), (.ref a0)])) rfl rfl (hb hby d6_12))
    have Yx1 : own_Y .char Z h1 a0 n ch := ⟨cl1, Ar1, Sz1, G1⟩
    show own_G p.tables e below _ _ (T0.setTop (mkF m 13 #[.val (.ref a0), .val (.int kx.toInt32), .val (.ref a2), .val (.int kx.toInt32), .val (.int n.toInt32), .val (.int kx.toInt32), s6] [(.int (ch kx))]))
    refine own_st ?_ (fun t_ k_ => XS.istoreS X0.here hx rfl (hb hby d6_13) rfl (o := s6) rfl o_s6 k_)
    show own_G p.tables e below _ _ (T0.setTop (mkF m 15 #[.val (.ref a0), .val (.int kx.toInt32), .val (.ref a2), .val (.int kx.toInt32), .val (.int n.toInt32), .val (.int kx.toInt32), .val (.int (ch kx))] []))
    refine own_st ?_ (fun t_ k_ => XS.iload X0.here hx rfl (hb hby d6_15) rfl k_)
    show own_G p.tables e below _ _ (T0.setTop (mkF m 17 #[.val (.ref a0), .val (.int kx.toInt32), .val (.ref a2), .val (.int kx.toInt32), .val (.int n.toInt32), .val (.int kx.toInt32), .val (.int (ch kx))] [(.int (ch kx))]))
    refine own_st ?_ (fun t_ k_ => XS.sipush X0.here hx rfl (hb hby d6_17) k_)
    show own_G p.tables e below _ _ (T0.setTop (mkF m 20 #[.val (.ref a0), .val (.int kx.toInt32), .val (.ref a2), .val (.int kx.toInt32), .val (.int n.toInt32), .val (.int kx.toInt32), .val (.int (ch kx))] [(.int (255 : Int32)), (.int (ch kx))]))
    by_cases hc20 : (255 : Int32) < (ch kx)
    · refine own_st ?_ (fun t_ k_ => XS.icmpNo X0.here hx rfl (hb hby d6_20) rfl (tlt hc20).2.2.2 k_)
      show own_G p.tables e below _ _ (T0.setTop (mkF m 23 #[.val (.ref a0), .val (.int kx.toInt32), .val (.ref a2), .val (.int kx.toInt32), .val (.int n.toInt32), .val (.int kx.toInt32), .val (.int (ch kx))] []))
      refine own_st ?_ (fun t_ k_ => XS.iload X0.here hx rfl (hb hby d6_23) rfl k_)
      show own_G p.tables e below _ _ (T0.setTop (mkF m 25 #[.val (.ref a0), .val (.int kx.toInt32), .val (.ref a2), .val (.int kx.toInt32), .val (.int n.toInt32), .val (.int kx.toInt32), .val (.int (ch kx))] [(.int kx.toInt32)]))
      refine own_retI X0 hx hlk hret (hb hby d6_25) (by decide) (by decide) ⟨kx, rfl, N0, ?_⟩
      rw [e0]
      exact ⟨K0, Or.inr ⟨by omega, own_small255 hc20⟩⟩
    · refine own_st ?_ (fun t_ k_ => XS.icmpYes X0.here hx rfl (pc0 := 20) (pc' := 26) rfl (hb hby d6_20) rfl (flt hc20).2.2.2 (by decide) (by decide) k_)
      show own_G p.tables e below _ _ (T0.setTop (mkF m 26 #[.val (.ref a0), .val (.int kx.toInt32), .val (.ref a2), .val (.int kx.toInt32), .val (.int n.toInt32), .val (.int kx.toInt32), .val (.int (ch kx))] []))
      refine own_st ?_ (fun t_ k_ => XS.aloadN X0.here hx rfl (hb hby d6_26) rfl rfl k_)
      show own_G p.tables e below _ _ (T0.setTop (mkF m 27 #[.val (.ref a0), .val (.int kx.toInt32), .val (.ref a2), .val (.int kx.toInt32), .val (.int n.toInt32), .val (.int kx.toInt32), .val (.int (ch kx))] [(.ref a2)]))
      refine own_st ?_ (fun t_ k_ => XS.iloadN X0.here hx rfl (hb hby d6_27) rfl k_)
      show own_G p.tables e below _ _ (T0.setTop (mkF m 28 #[.val (.ref a0), .val (.int kx.toInt32), .val (.ref a2), .val (.int kx.toInt32), .val (.int n.toInt32), .val (.int kx.toInt32), .val (.int (ch kx))] [(.int kx.toInt32), (.ref a2)]))
      refine own_st ?_ (fun t_ k_ => XS.iload X0.here hx rfl (hb hby d6_28) rfl k_)
      show own_G p.tables e below _ _ (T0.setTop (mkF m 30 #[.val (.ref a0), .val (.int kx.toInt32), .val (.ref a2), .val (.int kx.toInt32), .val (.int n.toInt32), .val (.int kx.toInt32), .val (.int (ch kx))] [(.int (ch kx)), (.int kx.toInt32), (.ref a2)]))
      refine own_st ?_ (fun t_ k_ => XS.i2b X0.here hx rfl (hb hby d6_30) rfl k_)
      show own_G p.tables e below _ _ (T0.setTop (mkF m 31 #[.val (.ref a0), .val (.int kx.toInt32), .val (.ref a2), .val (.int kx.toInt32), .val (.int n.toInt32), .val (.int kx.toInt32), .val (.int (ch kx))] [(.int ((ch kx).toInt8.toInt32)), (.int kx.toInt32), (.ref a2)]))
      have ix2 := own_ix (j := kx.toInt32) (k := kx) (n := n) rfl (by omega) (by omega)
      obtain ⟨cl2, Ar2, Sz2, G2⟩ := Yt
      have hin2 : ¬ (kx.toInt32 < 0 ∨ cl2.slots.size ≤ (kx.toInt32).toNatClampNeg) := by rw [Sz2]; exact ix2.1
      obtain ⟨T2, h2, X2, e2, W2, st2⟩ := stB X0 hx hZ e0 Ar2 (j := kx.toInt32) hin2 (g := (mkF m 31 #[.val (.ref a0), .val (.int kx.toInt32), .val (.ref a2), .val (.int kx.toInt32), .val (.int n.toInt32), .val (.int kx.toInt32), .val (.int (ch kx))] [(.int ((ch kx).toInt8.toInt32)), (.int kx.toInt32), (.ref a2)])) rfl rfl (hb hby d6_31)
      have N2 := Fr.snoc X2 N0 g_a2
      have Yo2 : own_Y .byte Z h1 a2 n G := ⟨cl2, Ar2, Sz2, G2⟩
      have F3_P : own_Y .char Z h2 a0 n ch := own_Y_keep Yx1 (Keep.of_wr W2) (ninS hne nin0)
      have Zs4 : n0 ≤ h2.size := Nat.le_trans Z1 (Keep.of_wr W2).1
      have Kc5 : Keep h0 h2 [a2] := K0.wr W2 (Or.inl (List.mem_of_getElem? (i := 0) rfl))
      have Y2 : own_Y .byte Z h2 a2 n (own_upd G kx (nar .byte ((ch kx).toInt8.toInt32))) := own_Y_set Yo2 W2 ix2.2
      refine own_st ?_ st2
      show own_G p.tables e below _ _ (T2.setTop (mkF m 32 #[.val (.ref a0), .val (.int kx.toInt32), .val (.ref a2), .val (.int kx.toInt32), .val (.int n.toInt32), .val (.int kx.toInt32), .val (.int (ch kx))] []))
      refine own_st ?_ (fun t_ k_ => XS.iinc X2.here hx rfl (hb hby d6_32) rfl (l' := #[.val (.ref a0), .val (.int (kx.toInt32 + (1 : Int32))), .val (.ref a2), .val (.int kx.toInt32), .val (.int n.toInt32), .val (.int kx.toInt32), .val (.int (ch kx))]) rfl k_)
      show own_G p.tables e below _ _ (T2.setTop (mkF m 35 #[.val (.ref a0), .val (.int (kx.toInt32 + (1 : Int32))), .val (.ref a2), .val (.int kx.toInt32), .val (.int n.toInt32), .val (.int kx.toInt32), .val (.int (ch kx))] []))
      refine own_st ?_ (fun t_ k_ => XS.iinc X2.here hx rfl (hb hby d6_35) rfl (l' := #[.val (.ref a0), .val (.int (kx.toInt32 + (1 : Int32))), .val (.ref a2), .val (.int (kx.toInt32 + (1 : Int32))), .val (.int n.toInt32), .val (.int kx.toInt32), .val (.int (ch kx))]) rfl k_)
      show own_G p.tables e below _ _ (T2.setTop (mkF m 38 #[.val (.ref a0), .val (.int (kx.toInt32 + (1 : Int32))), .val (.ref a2), .val (.int (kx.toInt32 + (1 : Int32))), .val (.int n.toInt32), .val (.int kx.toInt32), .val (.int (ch kx))] []))
      refine own_st ?_ (fun t_ k_ => XS.iinc X2.here hx rfl (hb hby d6_38) rfl (l' := #[.val (.ref a0), .val (.int (kx.toInt32 + (1 : Int32))), .val (.ref a2), .val (.int (kx.toInt32 + (1 : Int32))), .val (.int n.toInt32), .val (.int (kx.toInt32 + (1 : Int32))), .val (.int (ch kx))]) rfl k_)
      show own_G p.tables e below _ _ (T2.setTop (mkF m 41 #[.val (.ref a0), .val (.int (kx.toInt32 + (1 : Int32))), .val (.ref a2), .val (.int (kx.toInt32 + (1 : Int32))), .val (.int n.toInt32), .val (.int (kx.toInt32 + (1 : Int32))), .val (.int (ch kx))] []))
      refine own_st ?_ (fun t_ k_ => XS.goto X2.here hx rfl (pc0 := 41) (pc' := 3) rfl (hb hby d6_41) (by decide) (by decide) k_)
      show own_G p.tables e below _ _ (T2.setTop (mkF m 3 #[.val (.ref a0), .val (.int (kx.toInt32 + (1 : Int32))), .val (.ref a2), .val (.int (kx.toInt32 + (1 : Int32))), .val (.int n.toInt32), .val (.int (kx.toInt32 + (1 : Int32))), .val (.int (ch kx))] []))
      simp only [own_inc]
      exact ih (kx := kx + 1) (s6 := .val (.int (ch kx))) (by omega) (Or.inr ⟨_, rfl, rfl⟩) X2 N2 e2 Kc5 F3_P Y2 (own_step5 hG hc20) Zs4
theorem ef_6 (m : MethodId) (a0 : Addr) (a2 : Addr) (n : Nat) : entryFrame m #[(.ref a0), (.int (0 : Int32)), (.ref a2), (.int (0 : Int32)), (.int n.toInt32)] 7 = mkF m 0 #[.val (.ref a0), .val (.int (0 : Int32)), .val (.ref a2), .val (.int (0 : Int32)), .val (.int n.toInt32), .unset, .unset] [] := by first | (simp [entryFrame, mkF, argsToLocals, Value.category]; done) | rfl
set_option maxRecDepth 65536 in
set_option maxHeartbeats 40000000 in
theorem rm6 (l : Launch) (Z : State) (a0 : Array Value) (hw : ∀ d ∈ tables_1, d.before a0 Z = true) (ws : List Jvm.Cond) (a0 : Addr) (a2 : Addr) (n : Nat) (ch : Nat → Int32) (h0 : Heap) (n0 : Nat) (Z0 : n0 ≤ h0.size) (g_a2 : n0 ≤ a2) (Y0 : own_Y .char Z h0 a0 n ch) (Yt : own_Y .byte Z h0 a2 n (fun _ => 0)) (hne : a0 ≠ a2) (hn : n ≤ 4) :
    MetFree l (⟨"java/lang/StringUTF16", "compress", "([CI[BII)I"⟩ : MethodName) (head1 (Jvm.Cond.code (⟨"java/lang/StringUTF16", "compress", "([CI[BII)I"⟩ : MethodName) jdk_52_method_21_code 7 (some .int) :: ws) ({ frames := 0, cells := 0, slots := 0, locals := 0 } : Room)) (fun a U => a = #[(.ref a0), (.int (0 : Int32)), (.ref a2), (.int (0 : Int32)), (.int n.toInt32)] ∧ Z.Warmed39 U.vm ∧ U.heap = h0) (fun _ _ _ _ _ => True) (fun _ U o U' => ∃ v L, o = .returned v ∧ own_Q5 Z n ch a2 h0 n0 v U'.heap L ∧ FrameEnd U o U' L ({ frames := 0, cells := 0, slots := 0, locals := 0 } : Room).cells ({ frames := 0, cells := 0, slots := 0, locals := 0 } : Room).slots) := by
  refine MetFree.of_bodySF (plainFor_of_name pn_6) hisR ?_
  intro p e s m args below meth c s₁ Bd hml0 hP hK
  obtain ⟨rfl, hZ, hh⟩ := hP
  have hx := Bd.exec
  have hby := Bd.bytes
  have hlk : meth.locks = false := BodyLoose.notSynchronized Bd
  have hret := Bd.returns
  have hml : c.maxLocals = 7 := hml0
  have hown : s.vm.findClass "java/lang/StringUTF16" = some m.cls := findClass_of_methodNamed Bd.named
  have hnm := (name_of_methodNamed Bd.named Bd.method).1
  have X0 : Stand p l e ({ frames := 0, cells := 0, slots := 0, locals := 0 } : Room) s m #[(.ref a0), (.int (0 : Int32)), (.ref a2), (.int (0 : Int32)), (.int n.toInt32)] below meth c s₁ [] 0 0 := Stand.of_body Bd
  have e0 : s₁.heap = h0 := by rw [← hh, Bd.state]; rfl
  have N0 := Fr.nil n0
  show own_G p.tables e below (own_E s ({ frames := 0, cells := 0, slots := 0, locals := 0 } : Room).cells ({ frames := 0, cells := 0, slots := 0, locals := 0 } : Room).slots) (own_Q5 Z n ch a2 h0 n0) (s₁.setTop (entryFrame m #[(.ref a0), (.int (0 : Int32)), (.ref a2), (.int (0 : Int32)), (.int n.toInt32)] 7))
  refine own_st ?_ (fun t_ k_ => castTop (ef_6 m a0 a2 n) k_)
  show own_G p.tables e below _ _ (s₁.setTop (mkF m 0 #[.val (.ref a0), .val (.int (0 : Int32)), .val (.ref a2), .val (.int (0 : Int32)), .val (.int n.toInt32), .unset, .unset] []))
  refine own_st ?_ (fun t_ k_ => XS.iconst X0.here hx rfl (hb hby d6_0) k_)
  show own_G p.tables e below _ _ (s₁.setTop (mkF m 1 #[.val (.ref a0), .val (.int (0 : Int32)), .val (.ref a2), .val (.int (0 : Int32)), .val (.int n.toInt32), .unset, .unset] [(.int (0 : Int32))]))
  refine own_st ?_ (fun t_ k_ => XS.istore X0.here hx rfl (hb hby d6_1) rfl (l' := #[.val (.ref a0), .val (.int (0 : Int32)), .val (.ref a2), .val (.int (0 : Int32)), .val (.int n.toInt32), .val (.int (0 : Int32)), .unset]) rfl k_)
  show own_G p.tables e below _ _ (s₁.setTop (mkF m 3 #[.val (.ref a0), .val (.int (0 : Int32)), .val (.ref a2), .val (.int (0 : Int32)), .val (.int n.toInt32), .val (.int (0 : Int32)), .unset] []))
  exact own_l5 hx hlk hZ hw hby hml hown hret hn hne g_a2 n (kx := 0) (s6 := .unset) (by omega) (Or.inl rfl) X0 N0 e0 (Keep.refl h0 [a2]) Y0 Yt (fun i hi => absurd hi (Nat.not_lt_zero i)) Z0
theorem pd_11 : parseMethodDescriptor "([CII)[B" = some ⟨[(.array .char), .int, .int], some (.array .byte)⟩ := by decide +kernel
theorem pd_10 : parseMethodDescriptor "([CI[BII)I" = some ⟨[(.array .char), .int, (.array .byte), .int, .int], some .int⟩ := by decide +kernel
theorem d5_0 : decode jdk_52_method_16_code 0 = .ok (.iload_n 2, 1) := by decide +kernel
theorem d5_1 : decode jdk_52_method_16_code 1 = .ok (.newarray .byte, 2) := by decide +kernel
theorem d5_3 : decode jdk_52_method_16_code 3 = .ok (.astore_n 3, 1) := by decide +kernel
theorem d5_4 : decode jdk_52_method_16_code 4 = .ok (.aload_n 0, 1) := by decide +kernel
theorem d5_5 : decode jdk_52_method_16_code 5 = .ok (.iload_n 1, 1) := by decide +kernel
theorem d5_6 : decode jdk_52_method_16_code 6 = .ok (.aload_n 3, 1) := by decide +kernel
theorem d5_7 : decode jdk_52_method_16_code 7 = .ok (.iconst 0, 1) := by decide +kernel
theorem d5_8 : decode jdk_52_method_16_code 8 = .ok (.iload_n 2, 1) := by decide +kernel
theorem d5_9 : decode jdk_52_method_16_code 9 = .ok (.invokestatic 115, 3) := by decide +kernel
theorem d5_12 : decode jdk_52_method_16_code 12 = .ok (.istore 4, 2) := by decide +kernel
theorem d5_14 : decode jdk_52_method_16_code 14 = .ok (.iload 4, 2) := by decide +kernel
theorem d5_16 : decode jdk_52_method_16_code 16 = .ok (.iload_n 2, 1) := by decide +kernel
theorem d5_17 : decode jdk_52_method_16_code 17 = .ok (.if_icmp .eq 40, 3) := by decide +kernel
theorem d5_20 : decode jdk_52_method_16_code 20 = .ok (.aload_n 0, 1) := by decide +kernel
theorem d5_21 : decode jdk_52_method_16_code 21 = .ok (.iload_n 1, 1) := by decide +kernel
theorem d5_22 : decode jdk_52_method_16_code 22 = .ok (.iload_n 2, 1) := by decide +kernel
theorem d5_23 : decode jdk_52_method_16_code 23 = .ok (.invokestatic 119, 3) := by decide +kernel
theorem d5_26 : decode jdk_52_method_16_code 26 = .ok (.astore 5, 2) := by decide +kernel
theorem d5_28 : decode jdk_52_method_16_code 28 = .ok (.aload 5, 2) := by decide +kernel
theorem d5_30 : decode jdk_52_method_16_code 30 = .ok (.iload 4, 2) := by decide +kernel
theorem d5_32 : decode jdk_52_method_16_code 32 = .ok (.invokestatic 71, 3) := by decide +kernel
theorem d5_35 : decode jdk_52_method_16_code 35 = .ok (.sipush 255, 3) := by decide +kernel
theorem d5_38 : decode jdk_52_method_16_code 38 = .ok (.if_icmp .gt 16, 3) := by decide +kernel
theorem d5_54 : decode jdk_52_method_16_code 54 = .ok (.aload 5, 2) := by decide +kernel
theorem d5_56 : decode jdk_52_method_16_code 56 = .ok (.areturn, 1) := by decide +kernel
theorem d5_57 : decode jdk_52_method_16_code 57 = .ok (.aload_n 3, 1) := by decide +kernel
theorem d5_58 : decode jdk_52_method_16_code 58 = .ok (.areturn, 1) := by decide +kernel
theorem pn_5 : plainName "java/lang/StringUTF16" = true := by first | (simp [plainName, overriddenIn]; done) | decide +kernel
theorem ef_5 (m : MethodId) (a0 : Addr) (n : Nat) : entryFrame m #[(.ref a0), (.int (0 : Int32)), (.int n.toInt32)] 6 = mkF m 0 #[.val (.ref a0), .val (.int (0 : Int32)), .val (.int n.toInt32), .unset, .unset, .unset] [] := by first | (simp [entryFrame, mkF, argsToLocals, Value.category]; done) | rfl
set_option maxRecDepth 65536 in
set_option maxHeartbeats 40000000 in
theorem rm5 (l : Launch) (Z : State) (a0 : Array Value) (hw : ∀ d ∈ tables_1, d.before a0 Z = true) (ws : List Jvm.Cond) (a0 : Addr) (z1 : Int32) (fm : Value) (n : Nat) (ch : Nat → Int32) (h0 : Heap) (n0 : Nat) (Z0 : n0 ≤ h0.size) (SS : own_SS Z h0 n0 z1 fm) (Y0 : own_Y .char Z h0 a0 n ch) (hn : n ≤ 4) (hC : ∀ i, i < n → own_isC (ch i)) :
    MetFree l (⟨"java/lang/StringUTF16", "compress", "([CII)[B"⟩ : MethodName) (head1 (Jvm.Cond.code (⟨"java/lang/StringUTF16", "compress", "([CII)[B"⟩ : MethodName) jdk_52_method_16_code 6 (some (.array .byte)) :: ws) ({ frames := 3, cells := 2, slots := 12, locals := 40 } : Room)) (fun a U => a = #[(.ref a0), (.int (0 : Int32)), (.int n.toInt32)] ∧ Z.Warmed39 U.vm ∧ U.heap = h0) (fun _ _ _ _ _ => True) (fun _ U o U' => ∃ v L, o = .returned v ∧ own_QN1 (own_PB Z n ch) h0 n0 v U'.heap L ∧ FrameEnd U o U' L ({ frames := 3, cells := 2, slots := 12, locals := 40 } : Room).cells ({ frames := 3, cells := 2, slots := 12, locals := 40 } : Room).slots) := by
  refine MetFree.of_bodySF (plainFor_of_name pn_5) hisR ?_
  intro p e s m args below meth c s₁ Bd hml0 hP hK
  obtain ⟨rfl, hZ, hh⟩ := hP
  have hx := Bd.exec
  have hby := Bd.bytes
  have hlk : meth.locks = false := BodyLoose.notSynchronized Bd
  have hret := Bd.returns
  have hml : c.maxLocals = 6 := hml0
  have hown : s.vm.findClass "java/lang/StringUTF16" = some m.cls := findClass_of_methodNamed Bd.named
  have hnm := (name_of_methodNamed Bd.named Bd.method).1
  have X0 : Stand p l e ({ frames := 3, cells := 2, slots := 12, locals := 40 } : Room) s m #[(.ref a0), (.int (0 : Int32)), (.int n.toInt32)] below meth c s₁ [] 0 0 := Stand.of_body Bd
  have e0 : s₁.heap = h0 := by rw [← hh, Bd.state]; rfl
  have N0 := Fr.nil n0
  show own_G p.tables e below (own_E s ({ frames := 3, cells := 2, slots := 12, locals := 40 } : Room).cells ({ frames := 3, cells := 2, slots := 12, locals := 40 } : Room).slots) (own_QN1 (own_PB Z n ch) h0 n0) (s₁.setTop (entryFrame m #[(.ref a0), (.int (0 : Int32)), (.int n.toInt32)] 6))
  refine own_st ?_ (fun t_ k_ => castTop (ef_5 m a0 n) k_)
  show own_G p.tables e below _ _ (s₁.setTop (mkF m 0 #[.val (.ref a0), .val (.int (0 : Int32)), .val (.int n.toInt32), .unset, .unset, .unset] []))
  refine own_st ?_ (fun t_ k_ => XS.iloadN X0.here hx rfl (hb hby d5_0) rfl k_)
  show own_G p.tables e below _ _ (s₁.setTop (mkF m 1 #[.val (.ref a0), .val (.int (0 : Int32)), .val (.int n.toInt32), .unset, .unset, .unset] [(.int n.toInt32)]))
  obtain ⟨T1, h1, k1, X1, e1, E1, A1, st1⟩ := newP X0 hx hZ (hw _ (List.mem_of_getElem? (i := 25) rfl)) e0 (g := (mkF m 1 #[.val (.ref a0), .val (.int (0 : Int32)), .val (.int n.toInt32), .unset, .unset, .unset] [(.int n.toInt32)])) rfl (hb hby d5_1) rfl (own_neg (by omega)) (cap := 4) (by rw [own_clamp (by omega)]; omega) (by decide) (by decide) (by decide)
  obtain ⟨b1, gz1⟩ : ∃ z, z = h0.size := ⟨_, rfl⟩
  rw [← gz1] at A1 st1
  have ne_a0_b1 : a0 ≠ b1 := Nat.ne_of_lt (Nat.lt_of_lt_of_le (own_Y_lt Y0) (Nat.le_of_eq gz1.symm))
  have g_b1 : n0 ≤ b1 := Nat.le_trans Z0 (Nat.le_of_eq gz1.symm)
  have sz_b1 : h0.size ≤ b1 := Nat.le_trans (Keep.refl h0 []).1 (Nat.le_of_eq gz1.symm)
  have F2_Z : own_SS Z h1 n0 z1 fm := own_SS_ext SS E1
  have F3_P : own_Y .char Z h1 a0 n ch := own_Y_ext Y0 E1
  have Zs4 : n0 ≤ h1.size := Nat.le_trans Z0 E1.1
  have Kc5 : Keep h0 h1 [] := (Keep.refl h0 []).ext E1
  have Y_b1 : own_Y .byte Z h1 b1 n (fun _ => 0) := own_Y_new (Arv.new A1 (own_neg (by omega))) (own_clamp (by omega))
  refine own_st ?_ st1
  show own_G p.tables e below _ _ (T1.setTop (mkF m 3 #[.val (.ref a0), .val (.int (0 : Int32)), .val (.int n.toInt32), .unset, .unset, .unset] [(.ref b1)]))
  refine own_st ?_ (fun t_ k_ => XS.astoreN X1.here hx rfl (hb hby d5_3) rfl rfl (l' := #[.val (.ref a0), .val (.int (0 : Int32)), .val (.int n.toInt32), .val (.ref b1), .unset, .unset]) rfl k_)
  show own_G p.tables e below _ _ (T1.setTop (mkF m 4 #[.val (.ref a0), .val (.int (0 : Int32)), .val (.int n.toInt32), .val (.ref b1), .unset, .unset] []))
  refine own_st ?_ (fun t_ k_ => XS.aloadN X1.here hx rfl (hb hby d5_4) rfl rfl k_)
  show own_G p.tables e below _ _ (T1.setTop (mkF m 5 #[.val (.ref a0), .val (.int (0 : Int32)), .val (.int n.toInt32), .val (.ref b1), .unset, .unset] [(.ref a0)]))
  refine own_st ?_ (fun t_ k_ => XS.iloadN X1.here hx rfl (hb hby d5_5) rfl k_)
  show own_G p.tables e below _ _ (T1.setTop (mkF m 6 #[.val (.ref a0), .val (.int (0 : Int32)), .val (.int n.toInt32), .val (.ref b1), .unset, .unset] [(.int (0 : Int32)), (.ref a0)]))
  refine own_st ?_ (fun t_ k_ => XS.aloadN X1.here hx rfl (hb hby d5_6) rfl rfl k_)
  show own_G p.tables e below _ _ (T1.setTop (mkF m 7 #[.val (.ref a0), .val (.int (0 : Int32)), .val (.int n.toInt32), .val (.ref b1), .unset, .unset] [(.ref b1), (.int (0 : Int32)), (.ref a0)]))
  refine own_st ?_ (fun t_ k_ => XS.iconst X1.here hx rfl (hb hby d5_7) k_)
  show own_G p.tables e below _ _ (T1.setTop (mkF m 8 #[.val (.ref a0), .val (.int (0 : Int32)), .val (.int n.toInt32), .val (.ref b1), .unset, .unset] [(.int (0 : Int32)), (.ref b1), (.int (0 : Int32)), (.ref a0)]))
  refine own_st ?_ (fun t_ k_ => XS.iloadN X1.here hx rfl (hb hby d5_8) rfl k_)
  show own_G p.tables e below _ _ (T1.setTop (mkF m 9 #[.val (.ref a0), .val (.int (0 : Int32)), .val (.int n.toInt32), .val (.ref b1), .unset, .unset] [(.int n.toInt32), (.int (0 : Int32)), (.ref b1), (.int (0 : Int32)), (.ref a0)]))
  obtain ⟨_, _, ⟨T6, L6, k6, n6⟩, -, X6, ⟨Lc6, hQ6, l6, y6, z6⟩, st6⟩ := Jvm.LawKit.callS X1 hx (y := (⟨"java/lang/StringUTF16", "compress", "([CI[BII)I"⟩ : MethodName)) hown (mvT hZ (hw _ (List.mem_of_getElem? (i := 26) rfl))) (mvT hZ (hw _ (List.mem_of_getElem? (i := 27) rfl))) (mvT hZ (hw _ (List.mem_of_getElem? (i := 23) rfl))) (mvT hZ (hw _ (List.mem_of_getElem? (i := 28) rfl))) (by decide) (backOf (W := 0) (rm6 l Z _ hw [] a0 b1 n ch h1 n0 Zs4 g_b1 F3_P Y_b1 ne_a0_b1 hn) hZ (hw _ (List.mem_of_getElem? (i := 28) rfl)) (hw _ (List.mem_of_getElem? (i := 23) rfl)) (by decide) (by decide)) (g := (mkF m 9 #[.val (.ref a0), .val (.int (0 : Int32)), .val (.int n.toInt32), .val (.ref b1), .unset, .unset] [(.int n.toInt32), (.int (0 : Int32)), (.ref b1), (.int (0 : Int32)), (.ref a0)])) rfl (by rw [hml]; rfl) (argsL := [(.ref a0), (.int (0 : Int32)), (.ref b1), (.int (0 : Int32)), (.int n.toInt32)]) (rest := []) (lenOf pd_10 rfl) rfl (by show 2 * 0 + _ ≤ _; exact Nat.le_of_eq rfl) (hb hby d5_9) (fun _ _ => ⟨rfl, e1, (by decide : 1 + 0 ≤ _), (by decide : 4 + 0 ≤ _)⟩)
  dsimp only [Pt.U, Pt.locs, Pt.cells, Pt.slots] at X6 l6 y6 z6 st6 hQ6
  subst l6 y6 z6
  obtain ⟨kk6, rfl, N6q, hq6⟩ := hQ6
  have N6 := Fr.app N0 N6q
  obtain ⟨K6, hP6⟩ := hq6
  have F7_Z : own_SS Z T6.heap n0 z1 fm := own_SS_keep F2_Z K6 (own_alS g_b1 own_al0)
  have F8_P : own_Y .char Z T6.heap a0 n ch := own_Y_keep F3_P K6 (ninS ne_a0_b1 nin0)
  have Zs9 : n0 ≤ T6.heap.size := Nat.le_trans Zs4 K6.1
  have Kc10 : Keep h0 T6.heap [] := Kc5.trans K6 (allS (Or.inr sz_b1) all0)
  refine own_st ?_ st6
  show own_G p.tables e below _ _ (T6.setTop (mkF m 12 #[.val (.ref a0), .val (.int (0 : Int32)), .val (.int n.toInt32), .val (.ref b1), .unset, .unset] [(.int kk6.toInt32)]))
  refine own_st ?_ (fun t_ k_ => XS.istore X6.here hx rfl (hb hby d5_12) rfl (l' := #[.val (.ref a0), .val (.int (0 : Int32)), .val (.int n.toInt32), .val (.ref b1), .val (.int kk6.toInt32), .unset]) rfl k_)
  show own_G p.tables e below _ _ (T6.setTop (mkF m 14 #[.val (.ref a0), .val (.int (0 : Int32)), .val (.int n.toInt32), .val (.ref b1), .val (.int kk6.toInt32), .unset] []))
  refine own_st ?_ (fun t_ k_ => XS.iload X6.here hx rfl (hb hby d5_14) rfl k_)
  show own_G p.tables e below _ _ (T6.setTop (mkF m 16 #[.val (.ref a0), .val (.int (0 : Int32)), .val (.int n.toInt32), .val (.ref b1), .val (.int kk6.toInt32), .unset] [(.int kk6.toInt32)]))
  refine own_st ?_ (fun t_ k_ => XS.iloadN X6.here hx rfl (hb hby d5_16) rfl k_)
  show own_G p.tables e below _ _ (T6.setTop (mkF m 17 #[.val (.ref a0), .val (.int (0 : Int32)), .val (.int n.toInt32), .val (.ref b1), .val (.int kk6.toInt32), .unset] [(.int n.toInt32), (.int kk6.toInt32)]))
  by_cases hc17 : kk6.toInt32 = n.toInt32
  · refine own_st ?_ (fun t_ k_ => XS.icmpYes X6.here hx rfl (pc0 := 17) (pc' := 57) rfl (hb hby d5_17) rfl (teq hc17).1 (by decide) (by decide) k_)
    show own_G p.tables e below _ _ (T6.setTop (mkF m 57 #[.val (.ref a0), .val (.int (0 : Int32)), .val (.int n.toInt32), .val (.ref b1), .val (.int kk6.toInt32), .unset] []))
    refine own_st ?_ (fun t_ k_ => XS.aloadN X6.here hx rfl (hb hby d5_57) rfl rfl k_)
    show own_G p.tables e below _ _ (T6.setTop (mkF m 58 #[.val (.ref a0), .val (.int (0 : Int32)), .val (.int n.toInt32), .val (.ref b1), .val (.int kk6.toInt32), .unset] [(.ref b1)]))
    refine own_retA X6 hx hlk hret rfl rfl rfl (hb hby d5_58) (by decide) (by decide) ⟨b1, rfl, N6, ?_⟩
    exact ⟨Kc10, sz_b1, own_P5_eq hP6 hn hC hc17⟩
  · refine own_st ?_ (fun t_ k_ => XS.icmpNo X6.here hx rfl (hb hby d5_17) rfl (feq hc17).1 k_)
    show own_G p.tables e below _ _ (T6.setTop (mkF m 20 #[.val (.ref a0), .val (.int (0 : Int32)), .val (.int n.toInt32), .val (.ref b1), .val (.int kk6.toInt32), .unset] []))
    refine own_st ?_ (fun t_ k_ => XS.aloadN X6.here hx rfl (hb hby d5_20) rfl rfl k_)
    show own_G p.tables e below _ _ (T6.setTop (mkF m 21 #[.val (.ref a0), .val (.int (0 : Int32)), .val (.int n.toInt32), .val (.ref b1), .val (.int kk6.toInt32), .unset] [(.ref a0)]))
    refine own_st ?_ (fun t_ k_ => XS.iloadN X6.here hx rfl (hb hby d5_21) rfl k_)
    show own_G p.tables e below _ _ (T6.setTop (mkF m 22 #[.val (.ref a0), .val (.int (0 : Int32)), .val (.int n.toInt32), .val (.ref b1), .val (.int kk6.toInt32), .unset] [(.int (0 : Int32)), (.ref a0)]))
    refine own_st ?_ (fun t_ k_ => XS.iloadN X6.here hx rfl (hb hby d5_22) rfl k_)
    show own_G p.tables e below _ _ (T6.setTop (mkF m 23 #[.val (.ref a0), .val (.int (0 : Int32)), .val (.int n.toInt32), .val (.ref b1), .val (.int kk6.toInt32), .unset] [(.int n.toInt32), (.int (0 : Int32)), (.ref a0)]))
    obtain ⟨_, _, ⟨T11, L11, k11, n11⟩, -, X11, ⟨Lc11, hQ11, l11, y11, z11⟩, st11⟩ := Jvm.LawKit.callS X6 hx (y := (⟨"java/lang/StringUTF16", "toBytes", "([CII)[B"⟩ : MethodName)) hown (mvT hZ (hw _ (List.mem_of_getElem? (i := 130) rfl))) (mvT hZ (hw _ (List.mem_of_getElem? (i := 131) rfl))) (mvT hZ (hw _ (List.mem_of_getElem? (i := 23) rfl))) (mvT hZ (hw _ (List.mem_of_getElem? (i := 132) rfl))) (by decide) (backOf (W := 0) (rm24 l Z _ hw [] a0 z1 fm n ch T6.heap n0 Zs9 F7_Z F8_P hn) hZ (hw _ (List.mem_of_getElem? (i := 132) rfl)) (hw _ (List.mem_of_getElem? (i := 23) rfl)) (by decide) (by decide)) (g := (mkF m 23 #[.val (.ref a0), .val (.int (0 : Int32)), .val (.int n.toInt32), .val (.ref b1), .val (.int kk6.toInt32), .unset] [(.int n.toInt32), (.int (0 : Int32)), (.ref a0)])) rfl (by rw [hml]; rfl) (argsL := [(.ref a0), (.int (0 : Int32)), (.int n.toInt32)]) (rest := []) (lenOf pd_11 rfl) rfl (by show 2 * 0 + _ ≤ _; exact Nat.le_of_eq rfl) (hb hby d5_23) (fun _ _ => ⟨rfl, rfl, (by decide : 1 + 1 ≤ _), (by decide : 4 + 8 ≤ _)⟩)
    dsimp only [Pt.U, Pt.locs, Pt.cells, Pt.slots] at X11 l11 y11 z11 st11 hQ11
    subst l11 y11 z11
    obtain ⟨t11, rfl, N11q, hq11⟩ := hQ11
    have N11 := Fr.app N6 N11q
    obtain ⟨K11, hs11, hp11⟩ := hq11
    have g_t11 : n0 ≤ t11 := Nat.le_trans Zs9 hs11
    have sz_t11 : h0.size ≤ t11 := Nat.le_trans Kc10.1 hs11
    have ne_a0_t11 : a0 ≠ t11 := Nat.ne_of_lt (Nat.lt_of_lt_of_le (own_Y_lt F8_P) hs11)
    have F12_Z : own_SS Z T11.heap n0 z1 fm := own_SS_keep F7_Z K11 own_al0
    have F13_P : own_Y .char Z T11.heap a0 n ch := own_Y_keep F8_P K11 nin0
    have Zs14 : n0 ≤ T11.heap.size := Nat.le_trans Zs9 K11.1
    have Kc15 : Keep h0 T11.heap [] := Kc10.trans K11 all0
    obtain ⟨GG11, Yg11, hG11⟩ := hp11
    have hk11 := own_P5_ne hP6 hc17
    refine own_st ?_ st11
    show own_G p.tables e below _ _ (T11.setTop (mkF m 26 #[.val (.ref a0), .val (.int (0 : Int32)), .val (.int n.toInt32), .val (.ref b1), .val (.int kk6.toInt32), .unset] [(.ref t11)]))
    refine own_st ?_ (fun t_ k_ => XS.astore X11.here hx rfl (hb hby d5_26) rfl rfl (l' := #[.val (.ref a0), .val (.int (0 : Int32)), .val (.int n.toInt32), .val (.ref b1), .val (.int kk6.toInt32), .val (.ref t11)]) rfl k_)
    show own_G p.tables e below _ _ (T11.setTop (mkF m 28 #[.val (.ref a0), .val (.int (0 : Int32)), .val (.int n.toInt32), .val (.ref b1), .val (.int kk6.toInt32), .val (.ref t11)] []))
    refine own_st ?_ (fun t_ k_ => XS.aload X11.here hx rfl (hb hby d5_28) rfl rfl k_)
    show own_G p.tables e below _ _ (T11.setTop (mkF m 30 #[.val (.ref a0), .val (.int (0 : Int32)), .val (.int n.toInt32), .val (.ref b1), .val (.int kk6.toInt32), .val (.ref t11)] [(.ref t11)]))
    refine own_st ?_ (fun t_ k_ => XS.iload X11.here hx rfl (hb hby d5_30) rfl k_)
    show own_G p.tables e below _ _ (T11.setTop (mkF m 32 #[.val (.ref a0), .val (.int (0 : Int32)), .val (.int n.toInt32), .val (.ref b1), .val (.int kk6.toInt32), .val (.ref t11)] [(.int kk6.toInt32), (.ref t11)]))
    obtain ⟨_, _, ⟨T16, L16, k16, n16⟩, -, X16, ⟨Lc16, hQ16, l16, y16, z16⟩, st16⟩ := Jvm.LawKit.callS X11 hx (y := (⟨"java/lang/StringUTF16", "getChar", "([BI)C"⟩ : MethodName)) hown (mvT hZ (hw _ (List.mem_of_getElem? (i := 146) rfl))) (mvT hZ (hw _ (List.mem_of_getElem? (i := 147) rfl))) (mvT hZ (hw _ (List.mem_of_getElem? (i := 23) rfl))) (mvT hZ (hw _ (List.mem_of_getElem? (i := 148) rfl))) (by decide) (backOf (W := 0) (rm28 l Z _ hw [] t11 kk6.toInt32 z1 fm kk6 (2 * n) GG11 (ch kk6) T11.heap n0 Zs14 F12_Z Yg11 rfl (by have := hk11.1; omega) (by omega) (by rw [(hG11 _ hk11.1).1, (hG11 _ hk11.1).2]; exact own_utf (hC _ hk11.1))) hZ (hw _ (List.mem_of_getElem? (i := 148) rfl)) (hw _ (List.mem_of_getElem? (i := 23) rfl)) (by decide) (by decide)) (g := (mkF m 32 #[.val (.ref a0), .val (.int (0 : Int32)), .val (.int n.toInt32), .val (.ref b1), .val (.int kk6.toInt32), .val (.ref t11)] [(.int kk6.toInt32), (.ref t11)])) rfl (by rw [hml]; rfl) (argsL := [(.ref t11), (.int kk6.toInt32)]) (rest := []) (lenOf pd_4 rfl) rfl (by show 2 * 0 + _ ≤ _; exact Nat.le_of_eq rfl) (hb hby d5_32) (fun _ _ => ⟨rfl, rfl, (by decide : 2 + 0 ≤ _), (by decide : 12 + 0 ≤ _)⟩)
    dsimp only [Pt.U, Pt.locs, Pt.cells, Pt.slots] at X16 l16 y16 z16 st16 hQ16
    subst l16 y16 z16
    obtain ⟨rfl, N16q, e16⟩ := hQ16
    have N16 := Fr.app N11 N16q
    refine own_st ?_ st16
    show own_G p.tables e below _ _ (T16.setTop (mkF m 35 #[.val (.ref a0), .val (.int (0 : Int32)), .val (.int n.toInt32), .val (.ref b1), .val (.int kk6.toInt32), .val (.ref t11)] [(.int (ch kk6))]))
    refine own_st ?_ (fun t_ k_ => XS.sipush X16.here hx rfl (hb hby d5_35) k_)
    show own_G p.tables e below _ _ (T16.setTop (mkF m 38 #[.val (.ref a0), .val (.int (0 : Int32)), .val (.int n.toInt32), .val (.ref b1), .val (.int kk6.toInt32), .val (.ref t11)] [(.int (255 : Int32)), (.int (ch kk6))]))
    refine own_st ?_ (fun t_ k_ => XS.icmpYes X16.here hx rfl (pc0 := 38) (pc' := 54) rfl (hb hby d5_38) rfl (tlt (own_big hk11.2)).2.2.1 (by decide) (by decide) k_)
    show own_G p.tables e below _ _ (T16.setTop (mkF m 54 #[.val (.ref a0), .val (.int (0 : Int32)), .val (.int n.toInt32), .val (.ref b1), .val (.int kk6.toInt32), .val (.ref t11)] []))
    refine own_st ?_ (fun t_ k_ => XS.aload X16.here hx rfl (hb hby d5_54) rfl rfl k_)
    show own_G p.tables e below _ _ (T16.setTop (mkF m 56 #[.val (.ref a0), .val (.int (0 : Int32)), .val (.int n.toInt32), .val (.ref b1), .val (.int kk6.toInt32), .val (.ref t11)] [(.ref t11)]))
    refine own_retA X16 hx hlk hret rfl rfl rfl (hb hby d5_56) (by decide) (by decide) ⟨t11, rfl, N16, ?_⟩
    rw [e16]
    exact ⟨Kc15, sz_t11, 1, 2 * n, GG11, Yg11, own_D_mkU hC (by omega) hG11, Or.inr ⟨rfl, rfl, ⟨_, hk11⟩, hG11⟩⟩
theorem d7_0 : decode jdk_52_method_15_code 0 = .ok (.iload_n 1, 1) := by decide +kernel
theorem d7_1 : decode jdk_52_method_15_code 1 = .ok (.aload_n 0, 1) := by decide +kernel
theorem d7_2 : decode jdk_52_method_15_code 2 = .ok (.arraylength, 1) := by decide +kernel
theorem d7_3 : decode jdk_52_method_15_code 3 = .ok (.isub, 1) := by decide +kernel
theorem d7_4 : decode jdk_52_method_15_code 4 = .ok (.bipush 31, 2) := by decide +kernel
theorem d7_6 : decode jdk_52_method_15_code 6 = .ok (.iushr, 1) := by decide +kernel
theorem d7_7 : decode jdk_52_method_15_code 7 = .ok (.i2b, 1) := by decide +kernel
theorem d7_8 : decode jdk_52_method_15_code 8 = .ok (.ireturn, 1) := by decide +kernel
theorem pn_7 : plainName "java/lang/StringUTF16" = true := by first | (simp [plainName, overriddenIn]; done) | decide +kernel
theorem ef_7 (m : MethodId) (a0 : Addr) (n : Nat) : entryFrame m #[(.ref a0), (.int n.toInt32)] 2 = mkF m 0 #[.val (.ref a0), .val (.int n.toInt32)] [] := by first | (simp [entryFrame, mkF, argsToLocals, Value.category]; done) | rfl
set_option maxRecDepth 65536 in
set_option maxHeartbeats 40000000 in
theorem rm7 (l : Launch) (Z : State) (a0 : Array Value) (hw : ∀ d ∈ tables_1, d.before a0 Z = true) (ws : List Jvm.Cond) (a0 : Addr) (cd : Int32) (n : Nat) (N : Nat) (g1 : Nat → Int32) (ch : Nat → Int32) (h0 : Heap) (n0 : Nat) (Z0 : n0 ≤ h0.size) (Y0 : own_Y .byte Z h0 a0 N g1) (hD : own_D cd n N g1 ch) (hn0 : 0 < n) :
    MetFree l (⟨"java/lang/StringUTF16", "coderFromArrayLen", "([BI)B"⟩ : MethodName) (head1 (Jvm.Cond.code (⟨"java/lang/StringUTF16", "coderFromArrayLen", "([BI)B"⟩ : MethodName) jdk_52_method_15_code 2 (some .byte) :: ws) ({ frames := 0, cells := 0, slots := 0, locals := 0 } : Room)) (fun a U => a = #[(.ref a0), (.int n.toInt32)] ∧ Z.Warmed39 U.vm ∧ U.heap = h0) (fun _ _ _ _ _ => True) (fun _ U o U' => ∃ v L, o = .returned v ∧ own_QV (.int cd) h0 n0 v U'.heap L ∧ FrameEnd U o U' L ({ frames := 0, cells := 0, slots := 0, locals := 0 } : Room).cells ({ frames := 0, cells := 0, slots := 0, locals := 0 } : Room).slots) := by
  refine MetFree.of_bodySF (plainFor_of_name pn_7) hisR ?_
  intro p e s m args below meth c s₁ Bd hml0 hP hK
  obtain ⟨rfl, hZ, hh⟩ := hP
  have hx := Bd.exec
  have hby := Bd.bytes
  have hlk : meth.locks = false := BodyLoose.notSynchronized Bd
  have hret := Bd.returns
  have hml : c.maxLocals = 2 := hml0
  have hown : s.vm.findClass "java/lang/StringUTF16" = some m.cls := findClass_of_methodNamed Bd.named
  have hnm := (name_of_methodNamed Bd.named Bd.method).1
  have X0 : Stand p l e ({ frames := 0, cells := 0, slots := 0, locals := 0 } : Room) s m #[(.ref a0), (.int n.toInt32)] below meth c s₁ [] 0 0 := Stand.of_body Bd
  have e0 : s₁.heap = h0 := by rw [← hh, Bd.state]; rfl
  have N0 := Fr.nil n0
  show own_G p.tables e below (own_E s ({ frames := 0, cells := 0, slots := 0, locals := 0 } : Room).cells ({ frames := 0, cells := 0, slots := 0, locals := 0 } : Room).slots) (own_QV (.int cd) h0 n0) (s₁.setTop (entryFrame m #[(.ref a0), (.int n.toInt32)] 2))
  refine own_st ?_ (fun t_ k_ => castTop (ef_7 m a0 n) k_)
  show own_G p.tables e below _ _ (s₁.setTop (mkF m 0 #[.val (.ref a0), .val (.int n.toInt32)] []))
  refine own_st ?_ (fun t_ k_ => XS.iloadN X0.here hx rfl (hb hby d7_0) rfl k_)
  show own_G p.tables e below _ _ (s₁.setTop (mkF m 1 #[.val (.ref a0), .val (.int n.toInt32)] [(.int n.toInt32)]))
  refine own_st ?_ (fun t_ k_ => XS.aloadN X0.here hx rfl (hb hby d7_1) rfl rfl k_)
  show own_G p.tables e below _ _ (s₁.setTop (mkF m 2 #[.val (.ref a0), .val (.int n.toInt32)] [(.ref a0), (.int n.toInt32)]))
  obtain ⟨cl1, Ar1, Sz1, G1⟩ := Y0
  refine own_st ?_ (X0.arraylength hx (by rw [e0]; exact Ar1.1) (State.isArrayOf_alike hZ.alike Ar1.2.1) (g := (mkF m 2 #[.val (.ref a0), .val (.int n.toInt32)] [(.ref a0), (.int n.toInt32)])) rfl rfl (hb hby d7_2))
  rw [Sz1]
  have Yx1 : own_Y .byte Z h0 a0 N g1 := ⟨cl1, Ar1, Sz1, G1⟩
  show own_G p.tables e below _ _ (s₁.setTop (mkF m 3 #[.val (.ref a0), .val (.int n.toInt32)] [(.int (N).toInt32), (.int n.toInt32)]))
  refine own_st ?_ (fun t_ k_ => XS.isub X0.here hx rfl (hb hby d7_3) rfl k_)
  show own_G p.tables e below _ _ (s₁.setTop (mkF m 4 #[.val (.ref a0), .val (.int n.toInt32)] [(.int (n.toInt32 - (N).toInt32))]))
  refine own_st ?_ (fun t_ k_ => XS.bipush X0.here hx rfl (hb hby d7_4) k_)
  show own_G p.tables e below _ _ (s₁.setTop (mkF m 6 #[.val (.ref a0), .val (.int n.toInt32)] [(.int (31 : Int32)), (.int (n.toInt32 - (N).toInt32))]))
  refine own_st ?_ (fun t_ k_ => XS.iushr X0.here hx rfl (hb hby d7_6) rfl k_)
  show own_G p.tables e below _ _ (s₁.setTop (mkF m 7 #[.val (.ref a0), .val (.int n.toInt32)] [(.int (((n.toInt32 - (N).toInt32).toUInt32 >>> ((31 : Int32) &&& 31).toUInt32).toInt32))]))
  refine own_st ?_ (fun t_ k_ => XS.i2b X0.here hx rfl (hb hby d7_7) rfl k_)
  show own_G p.tables e below _ _ (s₁.setTop (mkF m 8 #[.val (.ref a0), .val (.int n.toInt32)] [(.int ((((n.toInt32 - (N).toInt32).toUInt32 >>> ((31 : Int32) &&& 31).toUInt32).toInt32).toInt8.toInt32))]))
  exact own_retN X0 hx hlk (t := .byte) hret (by simp) (hb hby d7_8) (by decide) (by decide) (z' := (nar .byte ((((n.toInt32 - (N).toInt32).toUInt32 >>> ((31 : Int32) &&& 31).toUInt32).toInt32).toInt8.toInt32))) rfl ⟨congrArg (fun z => some (Value.int z)) (own_D_cod hD hn0), N0, e0⟩
theorem pd_12 : parseMethodDescriptor "([BI)B" = some ⟨[(.array .byte), .int], some .byte⟩ := by decide +kernel
theorem d3_0 : decode jdk_42_method_149_code 0 = .ok (.aload_n 0, 1) := by decide +kernel
theorem d3_1 : decode jdk_42_method_149_code 1 = .ok (.invokespecial 1, 3) := by decide +kernel
theorem d3_4 : decode jdk_42_method_149_code 4 = .ok (.iload_n 3, 1) := by decide +kernel
theorem d3_5 : decode jdk_42_method_149_code 5 = .ok (.ifCond .ne 22, 3) := by decide +kernel
theorem d3_27 : decode jdk_42_method_149_code 27 = .ok (.getstatic 38, 3) := by decide +kernel
theorem d3_30 : decode jdk_42_method_149_code 30 = .ok (.ifCond .eq 28, 3) := by decide +kernel
theorem d3_33 : decode jdk_42_method_149_code 33 = .ok (.aload_n 1, 1) := by decide +kernel
theorem d3_34 : decode jdk_42_method_149_code 34 = .ok (.iload_n 2, 1) := by decide +kernel
theorem d3_35 : decode jdk_42_method_149_code 35 = .ok (.iload_n 3, 1) := by decide +kernel
theorem d3_36 : decode jdk_42_method_149_code 36 = .ok (.invokestatic 177, 3) := by decide +kernel
theorem d3_39 : decode jdk_42_method_149_code 39 = .ok (.astore 5, 2) := by decide +kernel
theorem d3_41 : decode jdk_42_method_149_code 41 = .ok (.aload_n 0, 1) := by decide +kernel
theorem d3_42 : decode jdk_42_method_149_code 42 = .ok (.aload 5, 2) := by decide +kernel
theorem d3_44 : decode jdk_42_method_149_code 44 = .ok (.iload_n 3, 1) := by decide +kernel
theorem d3_45 : decode jdk_42_method_149_code 45 = .ok (.invokestatic 47, 3) := by decide +kernel
theorem d3_48 : decode jdk_42_method_149_code 48 = .ok (.putfield 15, 3) := by decide +kernel
theorem d3_51 : decode jdk_42_method_149_code 51 = .ok (.aload_n 0, 1) := by decide +kernel
theorem d3_52 : decode jdk_42_method_149_code 52 = .ok (.aload 5, 2) := by decide +kernel
theorem d3_54 : decode jdk_42_method_149_code 54 = .ok (.putfield 9, 3) := by decide +kernel
theorem d3_57 : decode jdk_42_method_149_code 57 = .ok (.return_, 1) := by decide +kernel
theorem pn_3 : plainName "java/lang/String" = true := by first | (simp [plainName, overriddenIn]; done) | decide +kernel
theorem ef_3 (m : MethodId) (a0 : Addr) (a1 : Addr) (n : Nat) : entryFrame m #[(.ref a0), (.ref a1), (.int (0 : Int32)), (.int n.toInt32), .null] 6 = mkF m 0 #[.val (.ref a0), .val (.ref a1), .val (.int (0 : Int32)), .val (.int n.toInt32), .val .null, .unset] [] := by first | (simp [entryFrame, mkF, argsToLocals, Value.category]; done) | rfl
set_option maxRecDepth 65536 in
set_option maxHeartbeats 40000000 in
theorem rm3 (l : Launch) (Z : State) (a0 : Array Value) (hw : ∀ d ∈ tables_1, d.before a0 Z = true) (ws : List Jvm.Cond) (a0 : Addr) (a1 : Addr) (z1 : Int32) (fm : Value) (n : Nat) (ch : Nat → Int32) (u1 : Value) (u2 : Value) (h0 : Heap) (n0 : Nat) (Z0 : n0 ≤ h0.size) (g_a0 : n0 ≤ a0) (SS : own_SS Z h0 n0 z1 fm) (E0 : Exa Z h0 a0 "java/lang/String") (F1 : Fld Z h0 a0 "java/lang/String" "coder" "B" u1) (F2 : Fld Z h0 a0 "java/lang/String" "value" "[B" u2) (Y0 : own_Y .char Z h0 a1 n ch) (hz1 : ¬ z1 = 0) (hn0 : 0 < n) (hn : n ≤ 4) (hC : ∀ i, i < n → own_isC (ch i)) :
    MetFree l (⟨"java/lang/String", "<init>", "([CIILjava/lang/Void;)V"⟩ : MethodName) (head1 (Jvm.Cond.code (⟨"java/lang/String", "<init>", "([CIILjava/lang/Void;)V"⟩ : MethodName) jdk_42_method_149_code 6 none :: ws) ({ frames := 4, cells := 2, slots := 12, locals := 57 } : Room)) (fun a U => a = #[(.ref a0), (.ref a1), (.int (0 : Int32)), (.int n.toInt32), .null] ∧ Z.Warmed39 U.vm ∧ U.heap = h0) (fun _ _ _ _ _ => True) (fun _ U o U' => ∃ v L, o = .returned v ∧ own_QK Z none [a0] (own_PS Z n ch a0 h0) h0 n0 v U'.heap L ∧ FrameEnd U o U' L ({ frames := 4, cells := 2, slots := 12, locals := 57 } : Room).cells ({ frames := 4, cells := 2, slots := 12, locals := 57 } : Room).slots) := by
  refine MetFree.of_bodySF (plainFor_of_name pn_3) hisR ?_
  intro p e s m args below meth c s₁ Bd hml0 hP hK
  obtain ⟨rfl, hZ, hh⟩ := hP
  have hx := Bd.exec
  have hby := Bd.bytes
  have hlk : meth.locks = false := BodyLoose.notSynchronized Bd
  have hret := Bd.returns
  have hml : c.maxLocals = 6 := hml0
  have hown : s.vm.findClass "java/lang/String" = some m.cls := findClass_of_methodNamed Bd.named
  have hnm := (name_of_methodNamed Bd.named Bd.method).1
  have X0 : Stand p l e ({ frames := 4, cells := 2, slots := 12, locals := 57 } : Room) s m #[(.ref a0), (.ref a1), (.int (0 : Int32)), (.int n.toInt32), .null] below meth c s₁ [] 0 0 := Stand.of_body Bd
  have e0 : s₁.heap = h0 := by rw [← hh, Bd.state]; rfl
  have N0 := Fr.nil n0
  show own_G p.tables e below (own_E s ({ frames := 4, cells := 2, slots := 12, locals := 57 } : Room).cells ({ frames := 4, cells := 2, slots := 12, locals := 57 } : Room).slots) (own_QK Z none [a0] (own_PS Z n ch a0 h0) h0 n0) (s₁.setTop (entryFrame m #[(.ref a0), (.ref a1), (.int (0 : Int32)), (.int n.toInt32), .null] 6))
  refine own_st ?_ (fun t_ k_ => castTop (ef_3 m a0 a1 n) k_)
  show own_G p.tables e below _ _ (s₁.setTop (mkF m 0 #[.val (.ref a0), .val (.ref a1), .val (.int (0 : Int32)), .val (.int n.toInt32), .val .null, .unset] []))
  refine own_st ?_ (fun t_ k_ => XS.aloadN X0.here hx rfl (hb hby d3_0) rfl rfl k_)
  show own_G p.tables e below _ _ (s₁.setTop (mkF m 1 #[.val (.ref a0), .val (.ref a1), .val (.int (0 : Int32)), .val (.int n.toInt32), .val .null, .unset] [(.ref a0)]))
  obtain ⟨T1, X1, e1, st1⟩ := initO X0 hx hZ hown (hw _ (List.mem_of_getElem? (i := 17) rfl)) (hw _ (List.mem_of_getElem? (i := 18) rfl)) (hw _ (List.mem_of_getElem? (i := 19) rfl)) e0 (g := (mkF m 1 #[.val (.ref a0), .val (.ref a1), .val (.int (0 : Int32)), .val (.int n.toInt32), .val .null, .unset] [(.ref a0)])) rfl (by rw [hml]; rfl) rfl (hb hby d3_1) (by decide) (W := 0) (by show 2 * 0 + _ ≤ _; exact Nat.le_of_eq rfl) (by decide)
  refine own_st ?_ st1
  show own_G p.tables e below _ _ (T1.setTop (mkF m 4 #[.val (.ref a0), .val (.ref a1), .val (.int (0 : Int32)), .val (.int n.toInt32), .val .null, .unset] []))
  refine own_st ?_ (fun t_ k_ => XS.iloadN X1.here hx rfl (hb hby d3_4) rfl k_)
  show own_G p.tables e below _ _ (T1.setTop (mkF m 5 #[.val (.ref a0), .val (.ref a1), .val (.int (0 : Int32)), .val (.int n.toInt32), .val .null, .unset] [(.int n.toInt32)]))
  refine own_st ?_ (fun t_ k_ => XS.ifYes X1.here hx rfl (pc0 := 5) (pc' := 27) rfl (hb hby d3_5) rfl ((if0 _ _).trans (feq (own_nz0 hn0 (by omega))).2) (by decide) (by decide) k_)
  show own_G p.tables e below _ _ (T1.setTop (mkF m 27 #[.val (.ref a0), .val (.ref a1), .val (.int (0 : Int32)), .val (.int n.toInt32), .val .null, .unset] []))
  obtain ⟨T2, X2, e2, st2⟩ := getS2 X1 hx hZ hown (host := "") (Or.inl (hw _ (List.mem_of_getElem? (i := 20) rfl))) Via.refl e1 (own_Su_to SS.1) (g := (mkF m 27 #[.val (.ref a0), .val (.ref a1), .val (.int (0 : Int32)), .val (.int n.toInt32), .val .null, .unset] [])) rfl (hb hby d3_27)
  refine own_st ?_ st2
  show own_G p.tables e below _ _ (T2.setTop (mkF m 30 #[.val (.ref a0), .val (.ref a1), .val (.int (0 : Int32)), .val (.int n.toInt32), .val .null, .unset] [(.int z1)]))
  refine own_st ?_ (fun t_ k_ => XS.ifNo X2.here hx rfl (hb hby d3_30) rfl ((if0 _ _).trans (feq hz1).1) k_)
  show own_G p.tables e below _ _ (T2.setTop (mkF m 33 #[.val (.ref a0), .val (.ref a1), .val (.int (0 : Int32)), .val (.int n.toInt32), .val .null, .unset] []))
  refine own_st ?_ (fun t_ k_ => XS.aloadN X2.here hx rfl (hb hby d3_33) rfl rfl k_)
  show own_G p.tables e below _ _ (T2.setTop (mkF m 34 #[.val (.ref a0), .val (.ref a1), .val (.int (0 : Int32)), .val (.int n.toInt32), .val .null, .unset] [(.ref a1)]))
  refine own_st ?_ (fun t_ k_ => XS.iloadN X2.here hx rfl (hb hby d3_34) rfl k_)
  show own_G p.tables e below _ _ (T2.setTop (mkF m 35 #[.val (.ref a0), .val (.ref a1), .val (.int (0 : Int32)), .val (.int n.toInt32), .val .null, .unset] [(.int (0 : Int32)), (.ref a1)]))
  refine own_st ?_ (fun t_ k_ => XS.iloadN X2.here hx rfl (hb hby d3_35) rfl k_)
  show own_G p.tables e below _ _ (T2.setTop (mkF m 36 #[.val (.ref a0), .val (.ref a1), .val (.int (0 : Int32)), .val (.int n.toInt32), .val .null, .unset] [(.int n.toInt32), (.int (0 : Int32)), (.ref a1)]))
  obtain ⟨_, _, ⟨T3, L3, k3, n3⟩, -, X3, ⟨Lc3, hQ3, l3, y3, z3⟩, st3⟩ := Jvm.LawKit.callS X2 hx (y := (⟨"java/lang/StringUTF16", "compress", "([CII)[B"⟩ : MethodName)) hown (mvT hZ (hw _ (List.mem_of_getElem? (i := 21) rfl))) (mvT hZ (hw _ (List.mem_of_getElem? (i := 22) rfl))) (mvT hZ (hw _ (List.mem_of_getElem? (i := 23) rfl))) (mvT hZ (hw _ (List.mem_of_getElem? (i := 24) rfl))) (by decide) (backOf (W := 0) (rm5 l Z _ hw [] a1 z1 fm n ch h0 n0 Z0 SS Y0 hn hC) hZ (hw _ (List.mem_of_getElem? (i := 24) rfl)) (hw _ (List.mem_of_getElem? (i := 23) rfl)) (by decide) (by decide)) (g := (mkF m 36 #[.val (.ref a0), .val (.ref a1), .val (.int (0 : Int32)), .val (.int n.toInt32), .val .null, .unset] [(.int n.toInt32), (.int (0 : Int32)), (.ref a1)])) rfl (by rw [hml]; rfl) (argsL := [(.ref a1), (.int (0 : Int32)), (.int n.toInt32)]) (rest := []) (lenOf pd_11 rfl) rfl (by show 2 * 0 + _ ≤ _; exact Nat.le_of_eq rfl) (hb hby d3_36) (fun _ _ => ⟨rfl, e2, (by decide : 0 + 2 ≤ _), (by decide : 0 + 12 ≤ _)⟩)
  dsimp only [Pt.U, Pt.locs, Pt.cells, Pt.slots] at X3 l3 y3 z3 st3 hQ3
  subst l3 y3 z3
  obtain ⟨t3, rfl, N3q, hq3⟩ := hQ3
  have N3 := Fr.app N0 N3q
  obtain ⟨K3, hs3, hp3⟩ := hq3
  have g_t3 : n0 ≤ t3 := Nat.le_trans Z0 hs3
  have sz_t3 : h0.size ≤ t3 := Nat.le_trans (Keep.refl h0 [a0]).1 hs3
  have ne_a0_t3 : a0 ≠ t3 := Nat.ne_of_lt (Nat.lt_of_lt_of_le E0.lt hs3)
  have ne_a1_t3 : a1 ≠ t3 := Nat.ne_of_lt (Nat.lt_of_lt_of_le (own_Y_lt Y0) hs3)
  have F4_Z : own_SS Z T3.heap n0 z1 fm := own_SS_keep SS K3 own_al0
  have F5_E : Exa Z T3.heap a0 "java/lang/String" := E0.keep K3
  have F6_coder : Fld Z T3.heap a0 "java/lang/String" "coder" "B" u1 := F1.keep K3 nin0
  have F7_value : Fld Z T3.heap a0 "java/lang/String" "value" "[B" u2 := F2.keep K3 nin0
  have F8_P : own_Y .char Z T3.heap a1 n ch := own_Y_keep Y0 K3 nin0
  have Zs9 : n0 ≤ T3.heap.size := Nat.le_trans Z0 K3.1
  have Kc10 : Keep h0 T3.heap [a0] := (Keep.refl h0 [a0]).trans K3 all0
  obtain ⟨cd3, NN3, gg3, Yb3, hD3, hB3⟩ := hp3
  refine own_st ?_ st3
  show own_G p.tables e below _ _ (T3.setTop (mkF m 39 #[.val (.ref a0), .val (.ref a1), .val (.int (0 : Int32)), .val (.int n.toInt32), .val .null, .unset] [(.ref t3)]))
  refine own_st ?_ (fun t_ k_ => XS.astore X3.here hx rfl (hb hby d3_39) rfl rfl (l' := #[.val (.ref a0), .val (.ref a1), .val (.int (0 : Int32)), .val (.int n.toInt32), .val .null, .val (.ref t3)]) rfl k_)
  show own_G p.tables e below _ _ (T3.setTop (mkF m 41 #[.val (.ref a0), .val (.ref a1), .val (.int (0 : Int32)), .val (.int n.toInt32), .val .null, .val (.ref t3)] []))
  refine own_st ?_ (fun t_ k_ => XS.aloadN X3.here hx rfl (hb hby d3_41) rfl rfl k_)
  show own_G p.tables e below _ _ (T3.setTop (mkF m 42 #[.val (.ref a0), .val (.ref a1), .val (.int (0 : Int32)), .val (.int n.toInt32), .val .null, .val (.ref t3)] [(.ref a0)]))
  refine own_st ?_ (fun t_ k_ => XS.aload X3.here hx rfl (hb hby d3_42) rfl rfl k_)
  show own_G p.tables e below _ _ (T3.setTop (mkF m 44 #[.val (.ref a0), .val (.ref a1), .val (.int (0 : Int32)), .val (.int n.toInt32), .val .null, .val (.ref t3)] [(.ref t3), (.ref a0)]))
  refine own_st ?_ (fun t_ k_ => XS.iloadN X3.here hx rfl (hb hby d3_44) rfl k_)
  show own_G p.tables e below _ _ (T3.setTop (mkF m 45 #[.val (.ref a0), .val (.ref a1), .val (.int (0 : Int32)), .val (.int n.toInt32), .val .null, .val (.ref t3)] [(.int n.toInt32), (.ref t3), (.ref a0)]))
  obtain ⟨_, _, ⟨T11, L11, k11, n11⟩, -, X11, ⟨Lc11, hQ11, l11, y11, z11⟩, st11⟩ := Jvm.LawKit.callS X3 hx (y := (⟨"java/lang/StringUTF16", "coderFromArrayLen", "([BI)B"⟩ : MethodName)) hown (mvT hZ (hw _ (List.mem_of_getElem? (i := 29) rfl))) (mvT hZ (hw _ (List.mem_of_getElem? (i := 30) rfl))) (mvT hZ (hw _ (List.mem_of_getElem? (i := 23) rfl))) (mvT hZ (hw _ (List.mem_of_getElem? (i := 31) rfl))) (by decide) (backOf (W := 1) (rm7 l Z _ hw [] t3 cd3 n NN3 gg3 ch T3.heap n0 Zs9 Yb3 hD3 hn0) hZ (hw _ (List.mem_of_getElem? (i := 31) rfl)) (hw _ (List.mem_of_getElem? (i := 23) rfl)) (by decide) (by decide)) (g := (mkF m 45 #[.val (.ref a0), .val (.ref a1), .val (.int (0 : Int32)), .val (.int n.toInt32), .val .null, .val (.ref t3)] [(.int n.toInt32), (.ref t3), (.ref a0)])) rfl (by rw [hml]; rfl) (argsL := [(.ref t3), (.int n.toInt32)]) (rest := [(.ref a0)]) (lenOf pd_12 rfl) rfl (by show 2 * 0 + _ ≤ _; exact Nat.le_of_eq rfl) (hb hby d3_45) (fun _ _ => ⟨rfl, rfl, (by decide : 2 + 0 ≤ _), (by decide : 12 + 0 ≤ _)⟩)
  dsimp only [Pt.U, Pt.locs, Pt.cells, Pt.slots] at X11 l11 y11 z11 st11 hQ11
  subst l11 y11 z11
  obtain ⟨rfl, N11q, e11⟩ := hQ11
  have N11 := Fr.app N3 N11q
  refine own_st ?_ st11
  show own_G p.tables e below _ _ (T11.setTop (mkF m 48 #[.val (.ref a0), .val (.ref a1), .val (.int (0 : Int32)), .val (.int n.toInt32), .val .null, .val (.ref t3)] [(.int cd3), (.ref a0)]))
  obtain ⟨T12, h12, X12, e12, W12, st12⟩ := putFN X11 hx hZ hown (hw _ (List.mem_of_getElem? (i := 32) rfl)) Via.refl e11 F6_coder F5_E (Or.inr ⟨(hw _ (List.mem_of_getElem? (i := 33) rfl)), rfl, hnm⟩) (hw _ (List.mem_of_getElem? (i := 3) rfl)) (ty := .byte) (v' := (.int (nar .byte cd3))) (by decide) rfl (fits_nar_byte _) (g := (mkF m 48 #[.val (.ref a0), .val (.ref a1), .val (.int (0 : Int32)), .val (.int n.toInt32), .val .null, .val (.ref t3)] [(.int cd3), (.ref a0)])) rfl rfl (hb hby d3_48)
  have N12 := Fr.snoc X12 N11 g_a0
  have F13_Z : own_SS Z h12 n0 z1 fm := own_SS_keep F4_Z (Keep.of_wr W12) (own_alS g_a0 own_al0)
  have F14_E : Exa Z h12 a0 "java/lang/String" := F5_E.wr W12
  have F15_coder : Fld Z h12 a0 "java/lang/String" "coder" "B" (.int (nar .byte cd3)) := F6_coder.same W12
  have F16_value : Fld Z h12 a0 "java/lang/String" "value" "[B" u2 := F7_value.other W12 (Or.inr (slot_ne (Or.inr (hw _ (List.mem_of_getElem? (i := 35) rfl))) (Or.inr (hw _ (List.mem_of_getElem? (i := 33) rfl))) (by decide) (t := (.array .byte)) (t' := .byte) (by decide) (by decide)))
  have F17_P : own_Y .byte Z h12 t3 NN3 gg3 := own_Y_keep Yb3 (Keep.of_wr W12) (ninS (Ne.symm ne_a0_t3) nin0)
  have Zs18 : n0 ≤ h12.size := Nat.le_trans Zs9 (Keep.of_wr W12).1
  have Kc19 : Keep h0 h12 [a0] := Kc10.wr W12 (Or.inl (List.mem_of_getElem? (i := 0) rfl))
  refine own_st ?_ st12
  show own_G p.tables e below _ _ (T12.setTop (mkF m 51 #[.val (.ref a0), .val (.ref a1), .val (.int (0 : Int32)), .val (.int n.toInt32), .val .null, .val (.ref t3)] []))
  refine own_st ?_ (fun t_ k_ => XS.aloadN X12.here hx rfl (hb hby d3_51) rfl rfl k_)
  show own_G p.tables e below _ _ (T12.setTop (mkF m 52 #[.val (.ref a0), .val (.ref a1), .val (.int (0 : Int32)), .val (.int n.toInt32), .val .null, .val (.ref t3)] [(.ref a0)]))
  refine own_st ?_ (fun t_ k_ => XS.aload X12.here hx rfl (hb hby d3_52) rfl rfl k_)
  show own_G p.tables e below _ _ (T12.setTop (mkF m 54 #[.val (.ref a0), .val (.ref a1), .val (.int (0 : Int32)), .val (.int n.toInt32), .val .null, .val (.ref t3)] [(.ref t3), (.ref a0)]))
  obtain ⟨T20, h20, X20, e20, W20, st20⟩ := putF X12 hx hZ hown (host := "") (Or.inl (hw _ (List.mem_of_getElem? (i := 34) rfl))) Via.refl e12 F16_value F14_E (Or.inr ⟨(hw _ (List.mem_of_getElem? (i := 35) rfl)), rfl, hnm⟩) (hw _ (List.mem_of_getElem? (i := 3) rfl)) (ty := (.array .byte)) (by decide) rfl rfl (g := (mkF m 54 #[.val (.ref a0), .val (.ref a1), .val (.int (0 : Int32)), .val (.int n.toInt32), .val .null, .val (.ref t3)] [(.ref t3), (.ref a0)])) rfl rfl (hb hby d3_54)
  have N20 := Fr.snoc X20 N12 g_a0
  have F21_Z : own_SS Z h20 n0 z1 fm := own_SS_keep F13_Z (Keep.of_wr W20) (own_alS g_a0 own_al0)
  have F22_E : Exa Z h20 a0 "java/lang/String" := F14_E.wr W20
  have F23_coder : Fld Z h20 a0 "java/lang/String" "coder" "B" (.int (nar .byte cd3)) := F15_coder.other W20 (Or.inr (slot_ne (Or.inr (hw _ (List.mem_of_getElem? (i := 33) rfl))) (Or.inr (hw _ (List.mem_of_getElem? (i := 35) rfl))) (by decide) (t := .byte) (t' := (.array .byte)) (by decide) (by decide)))
  have F24_value : Fld Z h20 a0 "java/lang/String" "value" "[B" (.ref t3) := F16_value.same W20
  have F25_P : own_Y .byte Z h20 t3 NN3 gg3 := own_Y_keep F17_P (Keep.of_wr W20) (ninS (Ne.symm ne_a0_t3) nin0)
  have Zs26 : n0 ≤ h20.size := Nat.le_trans Zs18 (Keep.of_wr W20).1
  have Kc27 : Keep h0 h20 [a0] := Kc19.wr W20 (Or.inl (List.mem_of_getElem? (i := 0) rfl))
  refine own_st ?_ st20
  show own_G p.tables e below _ _ (T20.setTop (mkF m 57 #[.val (.ref a0), .val (.ref a1), .val (.int (0 : Int32)), .val (.int n.toInt32), .val .null, .val (.ref t3)] []))
  refine own_retV X20 hx hlk hret (hb hby d3_57) (by decide) (by decide) ⟨rfl, N20, ?_⟩
  rw [e20]
  exact ⟨Kc27, t3, cd3, NN3, gg3, sz_t3, ne_a0_t3, own_fcd F23_coder (own_D_cd hD3), F24_value, F25_P, hD3, hB3⟩
theorem pd_13 : parseMethodDescriptor "([CIILjava/lang/Void;)V" = some ⟨[(.array .char), .int, .int, (.object "java/lang/Void")], none⟩ := by decide +kernel
theorem d2_0 : decode jdk_42_method_3_code 0 = .ok (.aload_n 0, 1) := by decide +kernel
theorem d2_1 : decode jdk_42_method_3_code 1 = .ok (.aload_n 1, 1) := by decide +kernel
theorem d2_2 : decode jdk_42_method_3_code 2 = .ok (.iconst 0, 1) := by decide +kernel
theorem d2_3 : decode jdk_42_method_3_code 3 = .ok (.aload_n 1, 1) := by decide +kernel
theorem d2_4 : decode jdk_42_method_3_code 4 = .ok (.arraylength, 1) := by decide +kernel
theorem d2_5 : decode jdk_42_method_3_code 5 = .ok (.aconst_null, 1) := by decide +kernel
theorem d2_6 : decode jdk_42_method_3_code 6 = .ok (.invokespecial 27, 3) := by decide +kernel
theorem d2_9 : decode jdk_42_method_3_code 9 = .ok (.return_, 1) := by decide +kernel
theorem pn_2 : plainName "java/lang/String" = true := by first | (simp [plainName, overriddenIn]; done) | decide +kernel
theorem ef_2 (m : MethodId) (a0 : Addr) (a1 : Addr) : entryFrame m #[(.ref a0), (.ref a1)] 2 = mkF m 0 #[.val (.ref a0), .val (.ref a1)] [] := by first | (simp [entryFrame, mkF, argsToLocals, Value.category]; done) | rfl
set_option maxRecDepth 65536 in
set_option maxHeartbeats 40000000 in
theorem rm2 (l : Launch) (Z : State) (a0 : Array Value) (hw : ∀ d ∈ tables_1, d.before a0 Z = true) (ws : List Jvm.Cond) (a0 : Addr) (a1 : Addr) (z1 : Int32) (fm : Value) (n : Nat) (ch : Nat → Int32) (u1 : Value) (u2 : Value) (h0 : Heap) (n0 : Nat) (Z0 : n0 ≤ h0.size) (g_a0 : n0 ≤ a0) (SS : own_SS Z h0 n0 z1 fm) (E0 : Exa Z h0 a0 "java/lang/String") (F1 : Fld Z h0 a0 "java/lang/String" "coder" "B" u1) (F2 : Fld Z h0 a0 "java/lang/String" "value" "[B" u2) (Y0 : own_Y .char Z h0 a1 n ch) (hz1 : ¬ z1 = 0) (hn0 : 0 < n) (hn : n ≤ 4) (hC : ∀ i, i < n → own_isC (ch i)) (hne : a1 ≠ a0) :
    MetFree l (⟨"java/lang/String", "<init>", "([C)V"⟩ : MethodName) (head1 (Jvm.Cond.code (⟨"java/lang/String", "<init>", "([C)V"⟩ : MethodName) jdk_42_method_3_code 2 none :: ws) ({ frames := 5, cells := 2, slots := 12, locals := 74 } : Room)) (fun a U => a = #[(.ref a0), (.ref a1)] ∧ Z.Warmed39 U.vm ∧ U.heap = h0) (fun _ _ _ _ _ => True) (fun _ U o U' => ∃ v L, o = .returned v ∧ own_QK Z none [a0] (own_PS Z n ch a0 h0) h0 n0 v U'.heap L ∧ FrameEnd U o U' L ({ frames := 5, cells := 2, slots := 12, locals := 74 } : Room).cells ({ frames := 5, cells := 2, slots := 12, locals := 74 } : Room).slots) := by
  refine MetFree.of_bodySF (plainFor_of_name pn_2) hisR ?_
  intro p e s m args below meth c s₁ Bd hml0 hP hK
  obtain ⟨rfl, hZ, hh⟩ := hP
  have hx := Bd.exec
  have hby := Bd.bytes
  have hlk : meth.locks = false := BodyLoose.notSynchronized Bd
  have hret := Bd.returns
  have hml : c.maxLocals = 2 := hml0
  have hown : s.vm.findClass "java/lang/String" = some m.cls := findClass_of_methodNamed Bd.named
  have hnm := (name_of_methodNamed Bd.named Bd.method).1
  have X0 : Stand p l e ({ frames := 5, cells := 2, slots := 12, locals := 74 } : Room) s m #[(.ref a0), (.ref a1)] below meth c s₁ [] 0 0 := Stand.of_body Bd
  have e0 : s₁.heap = h0 := by rw [← hh, Bd.state]; rfl
  have N0 := Fr.nil n0
  show own_G p.tables e below (own_E s ({ frames := 5, cells := 2, slots := 12, locals := 74 } : Room).cells ({ frames := 5, cells := 2, slots := 12, locals := 74 } : Room).slots) (own_QK Z none [a0] (own_PS Z n ch a0 h0) h0 n0) (s₁.setTop (entryFrame m #[(.ref a0), (.ref a1)] 2))
  refine own_st ?_ (fun t_ k_ => castTop (ef_2 m a0 a1) k_)
  show own_G p.tables e below _ _ (s₁.setTop (mkF m 0 #[.val (.ref a0), .val (.ref a1)] []))
  refine own_st ?_ (fun t_ k_ => XS.aloadN X0.here hx rfl (hb hby d2_0) rfl rfl k_)
  show own_G p.tables e below _ _ (s₁.setTop (mkF m 1 #[.val (.ref a0), .val (.ref a1)] [(.ref a0)]))
  refine own_st ?_ (fun t_ k_ => XS.aloadN X0.here hx rfl (hb hby d2_1) rfl rfl k_)
  show own_G p.tables e below _ _ (s₁.setTop (mkF m 2 #[.val (.ref a0), .val (.ref a1)] [(.ref a1), (.ref a0)]))
  refine own_st ?_ (fun t_ k_ => XS.iconst X0.here hx rfl (hb hby d2_2) k_)
  show own_G p.tables e below _ _ (s₁.setTop (mkF m 3 #[.val (.ref a0), .val (.ref a1)] [(.int (0 : Int32)), (.ref a1), (.ref a0)]))
  refine own_st ?_ (fun t_ k_ => XS.aloadN X0.here hx rfl (hb hby d2_3) rfl rfl k_)
  show own_G p.tables e below _ _ (s₁.setTop (mkF m 4 #[.val (.ref a0), .val (.ref a1)] [(.ref a1), (.int (0 : Int32)), (.ref a1), (.ref a0)]))
  obtain ⟨cl1, Ar1, Sz1, G1⟩ := Y0
  refine own_st ?_ (X0.arraylength hx (by rw [e0]; exact Ar1.1) (State.isArrayOf_alike hZ.alike Ar1.2.1) (g := (mkF m 4 #[.val (.ref a0), .val (.ref a1)] [(.ref a1), (.int (0 : Int32)), (.ref a1), (.ref a0)])) rfl rfl (hb hby d2_4))
  rw [Sz1]
  have Yx1 : own_Y .char Z h0 a1 n ch := ⟨cl1, Ar1, Sz1, G1⟩
  show own_G p.tables e below _ _ (s₁.setTop (mkF m 5 #[.val (.ref a0), .val (.ref a1)] [(.int (n).toInt32), (.int (0 : Int32)), (.ref a1), (.ref a0)]))
  refine own_st ?_ (fun t_ k_ => XS.aconstNull X0.here hx rfl (hb hby d2_5) k_)
  show own_G p.tables e below _ _ (s₁.setTop (mkF m 6 #[.val (.ref a0), .val (.ref a1)] [.null, (.int (n).toInt32), (.int (0 : Int32)), (.ref a1), (.ref a0)]))
  obtain ⟨_, _, ⟨T2, L2, k2, n2⟩, -, X2, ⟨Lc2, hQ2, l2, y2, z2⟩, st2⟩ := X0.specialBack hx (y := (⟨"java/lang/String", "<init>", "([CIILjava/lang/Void;)V"⟩ : MethodName)) rfl hown (mvT hZ (hw _ (List.mem_of_getElem? (i := 13) rfl))) (mvT hZ (hw _ (List.mem_of_getElem? (i := 14) rfl))) (mvT hZ (hw _ (List.mem_of_getElem? (i := 16) rfl))) (by decide) (backOf (W := 0) (rm3 l Z _ hw [] a0 a1 z1 fm n ch u1 u2 h0 n0 Z0 g_a0 SS E0 F1 F2 Yx1 hz1 hn0 hn hC) hZ (hw _ (List.mem_of_getElem? (i := 16) rfl)) (hw _ (List.mem_of_getElem? (i := 4) rfl)) (by decide) (by decide)) (g := (mkF m 6 #[.val (.ref a0), .val (.ref a1)] [.null, (.int (n).toInt32), (.int (0 : Int32)), (.ref a1), (.ref a0)])) rfl (by rw [hml]; rfl) (Steps.refl _) (a := a0) (argsL := [(.ref a1), (.int (0 : Int32)), (.int (n).toInt32), .null]) (rest := []) (lenOf pd_13 rfl) rfl (by show 2 * 0 + _ ≤ _; exact Nat.le_of_eq rfl) (hb hby d2_6) (fun _ _ => ⟨rfl, e0, (by decide : 0 + 2 ≤ _), (by decide : 0 + 12 ≤ _)⟩)
  dsimp only [Pt.U, Pt.locs, Pt.cells, Pt.slots] at X2 l2 y2 z2 st2 hQ2
  subst l2 y2 z2
  obtain ⟨rfl, N2q, hq2⟩ := hQ2
  have N2 := Fr.app N0 N2q
  obtain ⟨K2, hP2⟩ := hq2
  have F3_Z : own_SS Z T2.heap n0 z1 fm := own_SS_keep SS K2 (own_alS g_a0 own_al0)
  have F4_E : Exa Z T2.heap a0 "java/lang/String" := E0.keep K2
  have F5_P : own_Y .char Z T2.heap a1 n ch := own_Y_keep Yx1 K2 (ninS hne nin0)
  have Zs6 : n0 ≤ T2.heap.size := Nat.le_trans Z0 K2.1
  have Kc7 : Keep h0 T2.heap [a0] := (Keep.refl h0 [a0]).trans K2 (allS (Or.inl (List.mem_of_getElem? (i := 0) rfl)) all0)
  refine own_st ?_ (fun t_ k_ => st2.trans k_)
  show own_G p.tables e below _ _ (T2.setTop (mkF m 9 #[.val (.ref a0), .val (.ref a1)] []))
  refine own_retV X2 hx hlk hret (hb hby d2_9) (by decide) (by decide) ⟨rfl, N2, ?_⟩
  exact ⟨Kc7, hP2⟩
def own_rlo (n : Nat) : Int32 := Int32.ofInt (n : Int)
def own_rhi (n : Nat) : Int32 := Int32.ofInt (((n % 128 : Nat) : Int) - 128)
def own_len (n : Nat) : Nat := if h : n < 128 then 1 else own_len (n / 128) + 1
termination_by n
decreasing_by omega
def own_put (g : Nat → Int32) (l n : Nat) : Nat → Int32 := if h : n < 128 then own_upd g l (own_rlo n) else own_put (own_upd g l (own_rhi n)) (l + 1) (n / 128)
termination_by n
decreasing_by omega
def own_at (g : Nat → Int32) (l n : Nat) : Prop := if h : n < 128 then g l = own_rlo n else g l = own_rhi n ∧ own_at g (l + 1) (n / 128)
termination_by n
decreasing_by omega
theorem own_len_lo {n : Nat} (h : n < 128) : own_len n = 1 := by rw [own_len, dif_pos h]
theorem own_len_hi {n : Nat} (h : ¬ n < 128) : own_len n = own_len (n / 128) + 1 := by rw [own_len, dif_neg h]
theorem own_put_lo {g : Nat → Int32} {l n : Nat} (h : n < 128) : own_put g l n = own_upd g l (own_rlo n) := by rw [own_put, dif_pos h]
theorem own_put_hi {g : Nat → Int32} {l n : Nat} (h : ¬ n < 128) : own_put g l n = own_put (own_upd g l (own_rhi n)) (l + 1) (n / 128) := by rw [own_put, dif_neg h]
theorem own_at_lo {g : Nat → Int32} {l n : Nat} (h : n < 128) : own_at g l n ↔ g l = own_rlo n := by rw [own_at, dif_pos h]
theorem own_at_hi {g : Nat → Int32} {l n : Nat} (h : ¬ n < 128) : own_at g l n ↔ g l = own_rhi n ∧ own_at g (l + 1) (n / 128) := by rw [own_at, dif_neg h]
theorem own_len_le (k : Nat) : ∀ n, n < 128 ^ (k + 1) → own_len n ≤ k + 1 := by
  induction k with
  | zero => intro n h; rw [own_len_lo (by omega)]; exact Nat.le_refl _
  | succ k ih =>
    intro n h
    by_cases hn : n < 128
    · rw [own_len_lo hn]; omega
    · rw [own_len_hi hn]
      have := ih (n / 128) (by rw [Nat.pow_succ] at h; exact Nat.div_lt_of_lt_mul (by rw [Nat.mul_comm]; exact h))
      omega
theorem own_len9 {n : Nat} (h : n < 2 ^ 63) : own_len n ≤ 9 := own_len_le 8 n (Nat.lt_of_lt_of_le h (by decide))
theorem own_len_pos (n : Nat) : 1 ≤ own_len n := by
  by_cases h : n < 128
  · rw [own_len_lo h]; exact Nat.le_refl _
  · rw [own_len_hi h]; omega
theorem own_put_below (n : Nat) : ∀ (g : Nat → Int32) (l i : Nat), i < l → own_put g l n i = g i := by
  induction n using Nat.strongRecOn with
  | ind n ih =>
    intro g l i hi
    by_cases h : n < 128
    · rw [own_put_lo h, own_upd, if_neg (by omega)]
    · rw [own_put_hi h, ih (n / 128) (by omega) _ _ _ (by omega), own_upd, if_neg (by omega)]
theorem own_at_congr (n : Nat) : ∀ (g g' : Nat → Int32) (l : Nat), (∀ i, l ≤ i → i < l + own_len n → g' i = g i) → own_at g l n → own_at g' l n := by
  induction n using Nat.strongRecOn with
  | ind n ih =>
    intro g g' l hi h1
    by_cases h : n < 128
    · rw [own_at_lo h] at h1 ⊢
      rw [hi l (Nat.le_refl _) (by have := own_len_pos n; omega)]; exact h1
    · rw [own_at_hi h] at h1 ⊢
      have e := own_len_hi h
      exact ⟨by rw [hi l (Nat.le_refl _) (by omega)]; exact h1.1, ih (n / 128) (by omega) g g' (l + 1) (fun i a b => hi i (by omega) (by omega)) h1.2⟩
theorem own_at_put (n : Nat) : ∀ (g : Nat → Int32) (l : Nat), own_at (own_put g l n) l n := by
  induction n using Nat.strongRecOn with
  | ind n ih =>
    intro g l
    by_cases h : n < 128
    · rw [own_at_lo h, own_put_lo h, own_upd, if_pos rfl]
    · rw [own_at_hi h, own_put_hi h]
      exact ⟨by rw [own_put_below _ _ _ _ (by omega), own_upd, if_pos rfl], ih (n / 128) (by omega) _ _⟩
theorem own_two (g : Nat → Int32) (l n k : Nat) : own_at (own_put (own_put g l n) (l + own_len n) k) l n :=
  own_at_congr n _ _ l (fun i _ b => own_put_below k _ _ i b) (own_at_put n g l)
theorem own_toInt {n : Nat} (h : n < 2 ^ 31) : (Int32.ofInt (n : Int)).toInt = n := by rw [Int32.toInt_ofInt, Jvm.Kit.bmod32 (by omega) (by omega)]
theorem own_rclamp {n : Nat} (h : n < 2 ^ 31) : (Int32.ofInt (n : Int)).toNatClampNeg = n := by rw [Int32.toNatClampNeg, own_toInt h]; rfl
theorem own_rinc (n : Nat) : Int32.ofInt (n : Int) + (1 : Int32) = Int32.ofInt ((n + 1 : Nat) : Int) := by
  rw [show ((n + 1 : Nat) : Int) = (n : Int) + 1 from rfl, Int32.ofInt_add]; rfl
theorem own_inx {n k : Nat} (h : n < k) (hk : k < 2 ^ 31) : ¬ (Int32.ofInt (n : Int) < 0 ∨ k ≤ (Int32.ofInt (n : Int)).toNatClampNeg) := by
  have e0 : (0 : Int32).toInt = 0 := by decide
  rw [own_rclamp (by omega), Int32.lt_iff_toInt_lt, own_toInt (by omega), e0]; omega
theorem own_nat64 {x : Int64} {n : Nat} (h : x.toInt = n) : x.toBitVec.toNat = n := by
  have q : x.toBitVec.toInt = n := h
  have hb := x.toBitVec.isLt
  rw [BitVec.toInt_eq_toNat_cond] at q
  split at q <;> omega
theorem own_int64 {x : Int64} {n : Nat} (h : x.toBitVec.toNat = n) (hn : n < 2 ^ 63) : x.toInt = n := by
  show x.toBitVec.toInt = n
  rw [BitVec.toInt_eq_toNat_cond, h, if_pos (by omega)]
theorem own_or64 {x y : Int64} {a c k : Nat} (hx : x.toInt = a) (hy : y.toInt = ((2 ^ k * c : Nat) : Int)) (ha : a < 2 ^ k) (hn : 2 ^ k * c + a < 2 ^ 63) : (x ||| y).toInt = ((2 ^ k * c + a : Nat) : Int) := by
  refine own_int64 ?_ hn
  rw [Int64.toBitVec_or, BitVec.toNat_or, own_nat64 hx, own_nat64 hy, Nat.or_comm, ← Nat.two_pow_add_eq_or_of_lt ha]
theorem own_rlo_toInt {n : Nat} (h : n < 128) : (own_rlo n).toInt = n := own_toInt (by omega)
theorem own_rhi_toInt (n : Nat) : (own_rhi n).toInt = ((n % 128 : Nat) : Int) - 128 := by
  unfold own_rhi; rw [Int32.toInt_ofInt, Jvm.Kit.bmod32 (by omega) (by omega)]
theorem own_rlo_byte {v : Int64} {n : Nat} (hv : v.toInt = n) (h : n < 128) : nar .byte (v.toInt32.toInt8.toInt32) = own_rlo n := by
  refine Int32.toInt_inj.mp ?_
  show (v.toInt32.toInt8.toInt32.toInt8.toInt32).toInt = _
  rw [own_rlo_toInt h, Int8.toInt_toInt32, Int32.toInt_toInt8, Int8.toInt_toInt32, Int32.toInt_toInt8, Int64.toInt_toInt32, hv, Jvm.Kit.bmod32 (by omega) (by omega)]
  have e : ((n : Int).bmod (2 ^ 8)) = n := by rw [Int.bmod_def]; omega
  rw [e, e]
theorem own_rhi_byte {v : Int64} {n : Nat} (hv : v.toInt = n) : nar .byte (((v &&& (127 : Int64)) ||| (128 : Int64)).toInt32.toInt8.toInt32) = own_rhi n := by
  have e1 : (v &&& (127 : Int64)).toInt = ((n % 128 : Nat) : Int) := by rw [Jvm.Kit.i64_mask v 127 (k := 7) (by decide) (by decide), hv]; omega
  have e2 : ((v &&& (127 : Int64)) ||| (128 : Int64)).toInt = ((2 ^ 7 * 1 + n % 128 : Nat) : Int) := own_or64 (k := 7) (c := 1) e1 (by decide) (by omega) (by omega)
  refine Int32.toInt_inj.mp ?_
  show (((v &&& (127 : Int64)) ||| (128 : Int64)).toInt32.toInt8.toInt32.toInt8.toInt32).toInt = _
  rw [own_rhi_toInt, Int8.toInt_toInt32, Int32.toInt_toInt8, Int8.toInt_toInt32, Int32.toInt_toInt8, Int64.toInt_toInt32, e2, Jvm.Kit.bmod32 (by omega) (by omega)]
  have q : (((2 ^ 7 * 1 + n % 128 : Nat) : Int).bmod (2 ^ 8)) = ((n % 128 : Nat) : Int) - 128 := by rw [Int.bmod_def]; omega
  have q2 : (((n % 128 : Nat) : Int) - 128).bmod (2 ^ 8) = ((n % 128 : Nat) : Int) - 128 := by rw [Int.bmod_def]; omega
  rw [q, q2]
theorem own_shr7 {v : Int64} {n : Nat} (hv : v.toInt = n) : ((v.toUInt64 >>> ((7 : Int32) &&& 0x3f).toInt64.toUInt64).toInt64).toInt = ((n / 128 : Nat) : Int) := by
  rw [Jvm.Kit.i64_lushr (k := 7) (Jvm.Kit.i64_nonneg.mpr (by omega)) (by decide) (by decide), hv]; omega
theorem own_128 {v : Int64} {n : Nat} (hv : v.toInt = n) : lcmpW v (128 : Int64) < 0 ↔ n < 128 := by
  have e : (128 : Int64).toInt = 128 := by decide
  rw [lw_lt, Int64.lt_iff_toInt_lt, hv, e]; omega
theorem own_rlo_and {n : Nat} (h : n < 128) : (own_rlo n &&& (127 : Int32)).toInt = (n : Int) := by
  rw [Jvm.Kit.i32_mask _ 127 (k := 7) (by decide) (by decide), own_rlo_toInt h]; omega
theorem own_rhi_and (n : Nat) : (own_rhi n &&& (127 : Int32)).toInt = ((n % 128 : Nat) : Int) := by
  rw [Jvm.Kit.i32_mask _ 127 (k := 7) (by decide) (by decide), own_rhi_toInt]; omega
theorem own_rlo_nn {n : Nat} (h : n < 128) : ¬ own_rlo n < 0 := by
  have e0 : (0 : Int32).toInt = 0 := by decide
  rw [Int32.lt_iff_toInt_lt, own_rlo_toInt h, e0]; omega
theorem own_rhi_neg (n : Nat) : own_rhi n < 0 := by
  have e0 : (0 : Int32).toInt = 0 := by decide
  rw [Int32.lt_iff_toInt_lt, own_rhi_toInt, e0]; omega
theorem own_sh : ∀ i : Fin 9, ((((Int32.ofInt ((7 * i.1 : Nat) : Int)) &&& 0x3f).toInt64).toBitVec.smod 64).toNat = 7 * i.1 := by decide +kernel
theorem own_acc {A : Int64} {b : Int32} {a c i : Nat} (hA : A.toInt = a) (hb : (b &&& (127 : Int32)).toInt = (c : Int)) (ha : a < 2 ^ (7 * i)) (hi : i < 9) (hn : 2 ^ (7 * i) * c + a < 2 ^ 63) :
    (A ||| (((b &&& (127 : Int32)).toInt64) <<< ((Int32.ofInt ((7 * i : Nat) : Int)) &&& 0x3f).toInt64)).toInt = ((2 ^ (7 * i) * c + a : Nat) : Int) := by
  refine own_or64 hA ?_ ha hn
  have e : ((b &&& (127 : Int32)).toInt64).toInt = (c : Int) := by rw [Jvm.Kit.i64_of_i32]; exact hb
  have hm : (c : Int) * 2 ^ (7 * i) = ((2 ^ (7 * i) * c : Nat) : Int) := by rw [Int.natCast_mul, Int.natCast_pow, Int.mul_comm]; rfl
  have hs := own_sh ⟨i, hi⟩
  have hs' : ((((Int32.ofInt ((7 * i : Nat) : Int)) &&& 0x3f).toInt64).toBitVec.smod 64).toNat = 7 * i := hs
  rw [Jvm.Kit.i64_shl _ _ hs' (by rw [e, hm]; omega) (by rw [e, hm]; omega), e, hm]
theorem own_iinc (i : Nat) : Int32.ofInt ((7 * i : Nat) : Int) + (7 : Int32) = Int32.ofInt ((7 * (i + 1) : Nat) : Int) := by
  rw [show ((7 * (i + 1) : Nat) : Int) = ((7 * i : Nat) : Int) + 7 by omega, Int32.ofInt_add]; rfl
/-- a byte[] of 256 places that hold g -/
def own_M (Z : State) (h : Heap) (t : Addr) (g : Nat → Int32) : Prop := ∃ c : Cell, Arr Z h t c .byte ∧ c.slots.size = 256 ∧ ∀ i, i < 256 → c.slots[i]? = some (.int (g i))
theorem own_M_new {Z : State} {h : Heap} {t : Addr} {k : ClassId} (F : Arv Z h t k .byte 256 [] (defaultValue .byte)) : own_M Z h t (fun _ => 0) := by
  obtain ⟨c, A, -, S, -, H, -⟩ := F
  have S' : c.slots.size = 256 := S
  exact ⟨c, A, S', fun i hi => H i (by omega)⟩
theorem own_M_set {Z : State} {h h' : Heap} {t : Addr} {g : Nat → Int32} {j : Nat} {x y : Int32} (F : own_M Z h t g) (hj : j < 2 ^ 31) (W : Wr h h' t (Int32.ofInt (j : Int)).toNatClampNeg (.int x)) (e : x = y) : own_M Z h' t (own_upd g j y) := by
  subst e
  obtain ⟨c, A, S, G⟩ := F
  rw [own_rclamp hj] at W
  refine ⟨c.setSlot j (.int x), A.same W, by rw [sz_set]; exact S, fun i hi => ?_⟩
  by_cases e : i = j
  · subst e; simp [Cell.setSlot, S, hi, own_upd]
  · rw [own_upd, if_neg e]; simp only [Cell.setSlot]; rw [Array.getElem?_setIfInBounds_ne (Ne.symm e)]; exact G i hi
theorem own_M_ext {Z : State} {h h' : Heap} {t : Addr} {g : Nat → Int32} (F : own_M Z h t g) (E : Ext h h') : own_M Z h' t g := by obtain ⟨c, A, r⟩ := F; exact ⟨c, A.ext E, r⟩
theorem own_M_keep {Z : State} {h h' : Heap} {t : Addr} {g : Nat → Int32} {ws : List Addr} (F : own_M Z h t g) (K : Keep h h' ws) (q : t ∉ ws) : own_M Z h' t g := by obtain ⟨c, A, r⟩ := F; exact ⟨c, ⟨K.2.1 t c A.1 q, A.2⟩, r⟩
theorem own_M_lt {Z : State} {h : Heap} {t : Addr} {g : Nat → Int32} (F : own_M Z h t g) : t < h.size := by obtain ⟨c, A, r⟩ := F; exact A.lt
theorem own_room {n m : Nat} {q : Int64} (hq : q.toInt = (m : Int)) (h : n + m ≤ 256) : ¬ (0 : Int32) < lcmpW ((Int32.ofInt (n : Int)).toInt64 + q) ((256 : Int32).toInt64) := by
  have a256 : ((256 : Int32).toInt64).toInt = 256 := by decide
  have e : ((Int32.ofInt (n : Int)).toInt64).toInt = n := by rw [Jvm.Kit.i64_of_i32, own_toInt (by omega)]
  rw [lw_gt, Int64.lt_iff_toInt_lt, a256, Jvm.Kit.i64_add (by rw [e, hq]; omega) (by rw [e, hq]; omega), e, hq]; omega
theorem own_nneg {q : Int64} {n : Nat} (h : q.toInt = n) : ¬ lcmpW q (0 : Int64) < 0 := by
  have e0 : (0 : Int64).toInt = 0 := by decide
  rw [lw_lt, Int64.lt_iff_toInt_lt, h, e0]; omega
def own_Qi (Z : State) (r : Addr) (h0 : Heap) (n0 : Nat) (v : Option Value) (h : Heap) (L : List Loc) : Prop := v = none ∧ Fr n0 L ∧ Keep h0 h [r] ∧ ∃ t : Addr, h0.size ≤ t ∧ r ≠ t ∧ Fld Z h r "com/example/termwright/termwright/Spool$Record" "bytes" "[B" (.ref t) ∧ Fld Z h r "com/example/termwright/termwright/Spool$Record" "length" "I" (.int (Int32.ofInt ((0 : Nat) : Int))) ∧ Fld Z h r "com/example/termwright/termwright/Spool$Record" "position" "I" (.int (Int32.ofInt ((0 : Nat) : Int))) ∧ own_M Z h t (fun _ => 0)
/-- the record r: bytes t, length l, position p, what t holds -/
def own_Rec (Z : State) (h : Heap) (r t : Addr) (l p : Nat) (g : Nat → Int32) : Prop := Fld Z h r "com/example/termwright/termwright/Spool$Record" "bytes" "[B" (.ref t) ∧ Fld Z h r "com/example/termwright/termwright/Spool$Record" "length" "I" (.int (Int32.ofInt (l : Int))) ∧ Fld Z h r "com/example/termwright/termwright/Spool$Record" "position" "I" (.int (Int32.ofInt (p : Int))) ∧ own_M Z h t g
def own_Qr (Z : State) (res : Option Value) (ws : List Addr) (r t : Addr) (l p : Nat) (g : Nat → Int32) (h0 : Heap) (n0 : Nat) (v : Option Value) (h : Heap) (L : List Loc) : Prop := v = res ∧ Fr n0 L ∧ Keep h0 h ws ∧ own_Rec Z h r t l p g

theorem d8_0 : decode prog_34_method_1_code 0 = .ok (.aload_n 0, 1) := by decide +kernel
theorem d8_1 : decode prog_34_method_1_code 1 = .ok (.invokespecial 1, 3) := by decide +kernel
theorem d8_4 : decode prog_34_method_1_code 4 = .ok (.aload_n 0, 1) := by decide +kernel
theorem d8_5 : decode prog_34_method_1_code 5 = .ok (.sipush 256, 3) := by decide +kernel
theorem d8_8 : decode prog_34_method_1_code 8 = .ok (.newarray .byte, 2) := by decide +kernel
theorem d8_10 : decode prog_34_method_1_code 10 = .ok (.putfield 7, 3) := by decide +kernel
theorem d8_13 : decode prog_34_method_1_code 13 = .ok (.return_, 1) := by decide +kernel
theorem pn_8 : plainName "com/example/termwright/termwright/Spool$Record" = true := by first | (simp [plainName, overriddenIn]; done) | decide +kernel
theorem ef_8 (m : MethodId) (a0 : Addr) : entryFrame m #[(.ref a0)] 1 = mkF m 0 #[.val (.ref a0)] [] := by first | (simp [entryFrame, mkF, argsToLocals, Value.category]; done) | rfl
set_option maxRecDepth 65536 in
set_option maxHeartbeats 40000000 in
theorem rm8 (l : Launch) (Z : State) (a0 : Array Value) (hw : ∀ d ∈ tables_1, d.before a0 Z = true) (ws : List Jvm.Cond) (a0 : Addr) (u1 : Value) (h0 : Heap) (n0 : Nat) (Z0 : n0 ≤ h0.size) (g_a0 : n0 ≤ a0) (E0 : Exa Z h0 a0 "com/example/termwright/termwright/Spool$Record") (Fb : Fld Z h0 a0 "com/example/termwright/termwright/Spool$Record" "bytes" "[B" u1) (Fl : Fld Z h0 a0 "com/example/termwright/termwright/Spool$Record" "length" "I" (.int (Int32.ofInt ((0 : Nat) : Int)))) (Fp : Fld Z h0 a0 "com/example/termwright/termwright/Spool$Record" "position" "I" (.int (Int32.ofInt ((0 : Nat) : Int)))) :
    MetFree l (⟨"com/example/termwright/termwright/Spool$Record", "<init>", "()V"⟩ : MethodName) (head1 (Jvm.Cond.code (⟨"com/example/termwright/termwright/Spool$Record", "<init>", "()V"⟩ : MethodName) prog_34_method_1_code 1 none :: ws) ({ frames := 1, cells := 1, slots := 256, locals := 12 } : Room)) (fun a U => a = #[(.ref a0)] ∧ Z.Warmed39 U.vm ∧ U.heap = h0) (fun _ _ _ _ _ => True) (fun _ U o U' => ∃ v L, o = .returned v ∧ own_Qi Z a0 h0 n0 v U'.heap L ∧ FrameEnd U o U' L ({ frames := 1, cells := 1, slots := 256, locals := 12 } : Room).cells ({ frames := 1, cells := 1, slots := 256, locals := 12 } : Room).slots) := by
  refine MetFree.of_bodySF (plainFor_of_name pn_8) hisR ?_
  intro p e s m args below meth c s₁ Bd hml0 hP hK
  obtain ⟨rfl, hZ, hh⟩ := hP
  have hx := Bd.exec
  have hby := Bd.bytes
  have hlk : meth.locks = false := BodyLoose.notSynchronized Bd
  have hret := Bd.returns
  have hml : c.maxLocals = 1 := hml0
  have hown : s.vm.findClass "com/example/termwright/termwright/Spool$Record" = some m.cls := findClass_of_methodNamed Bd.named
  have hnm := (name_of_methodNamed Bd.named Bd.method).1
  have X0 : Stand p l e ({ frames := 1, cells := 1, slots := 256, locals := 12 } : Room) s m #[(.ref a0)] below meth c s₁ [] 0 0 := Stand.of_body Bd
  have e0 : s₁.heap = h0 := by rw [← hh, Bd.state]; rfl
  have N0 := Fr.nil n0
  show own_G p.tables e below (own_E s ({ frames := 1, cells := 1, slots := 256, locals := 12 } : Room).cells ({ frames := 1, cells := 1, slots := 256, locals := 12 } : Room).slots) (own_Qi Z a0 h0 n0) (s₁.setTop (entryFrame m #[(.ref a0)] 1))
  refine own_st ?_ (fun t_ k_ => castTop (ef_8 m a0) k_)
  show own_G p.tables e below _ _ (s₁.setTop (mkF m 0 #[.val (.ref a0)] []))
  refine own_st ?_ (fun t_ k_ => XS.aloadN X0.here hx rfl (hb hby d8_0) rfl rfl k_)
  show own_G p.tables e below _ _ (s₁.setTop (mkF m 1 #[.val (.ref a0)] [(.ref a0)]))
  obtain ⟨T1, X1, e1, st1⟩ := initO X0 hx hZ hown (hw _ (List.mem_of_getElem? (i := 43) rfl)) (hw _ (List.mem_of_getElem? (i := 18) rfl)) (hw _ (List.mem_of_getElem? (i := 19) rfl)) e0 (g := (mkF m 1 #[.val (.ref a0)] [(.ref a0)])) rfl (by rw [hml]; rfl) rfl (hb hby d8_1) (by decide) (W := 0) (by show 2 * 0 + _ ≤ _; exact Nat.le_of_eq rfl) (by decide)
  refine own_st ?_ st1
  show own_G p.tables e below _ _ (T1.setTop (mkF m 4 #[.val (.ref a0)] []))
  refine own_st ?_ (fun t_ k_ => XS.aloadN X1.here hx rfl (hb hby d8_4) rfl rfl k_)
  show own_G p.tables e below _ _ (T1.setTop (mkF m 5 #[.val (.ref a0)] [(.ref a0)]))
  refine own_st ?_ (fun t_ k_ => XS.sipush X1.here hx rfl (hb hby d8_5) k_)
  show own_G p.tables e below _ _ (T1.setTop (mkF m 8 #[.val (.ref a0)] [(.int (256 : Int32)), (.ref a0)]))
  obtain ⟨T2, h2, k2, X2, e2, E2, A2, st2⟩ := newP X1 hx hZ (hw _ (List.mem_of_getElem? (i := 25) rfl)) e1 (g := (mkF m 8 #[.val (.ref a0)] [(.int (256 : Int32)), (.ref a0)])) rfl (hb hby d8_8) rfl (by decide) (cap := 256) (by decide) (by decide) (by decide) (by decide)
  obtain ⟨b2, gz2⟩ : ∃ z, z = h0.size := ⟨_, rfl⟩
  rw [← gz2] at A2 st2
  have ne_a0_b2 : a0 ≠ b2 := Nat.ne_of_lt (Nat.lt_of_lt_of_le E0.lt (Nat.le_of_eq gz2.symm))
  have g_b2 : n0 ≤ b2 := Nat.le_trans Z0 (Nat.le_of_eq gz2.symm)
  have sz_b2 : h0.size ≤ b2 := Nat.le_trans (Keep.refl h0 [a0]).1 (Nat.le_of_eq gz2.symm)
  have F3_E : Exa Z h2 a0 "com/example/termwright/termwright/Spool$Record" := E0.ext E2
  have F4_bytes : Fld Z h2 a0 "com/example/termwright/termwright/Spool$Record" "bytes" "[B" u1 := Fb.ext E2
  have F5_length : Fld Z h2 a0 "com/example/termwright/termwright/Spool$Record" "length" "I" (.int (Int32.ofInt ((0 : Nat) : Int))) := Fl.ext E2
  have F6_position : Fld Z h2 a0 "com/example/termwright/termwright/Spool$Record" "position" "I" (.int (Int32.ofInt ((0 : Nat) : Int))) := Fp.ext E2
  have Zs7 : n0 ≤ h2.size := Nat.le_trans Z0 E2.1
  have Kc8 : Keep h0 h2 [a0] := (Keep.refl h0 [a0]).ext E2
  have M_b2 : own_M Z h2 b2 (fun _ => 0) := own_M_new (Arv.new A2 (by decide))
  refine own_st ?_ st2
  show own_G p.tables e below _ _ (T2.setTop (mkF m 10 #[.val (.ref a0)] [(.ref b2), (.ref a0)]))
  obtain ⟨T9, h9, X9, e9, W9, st9⟩ := putF X2 hx hZ hown (host := "") (Or.inl (hw _ (List.mem_of_getElem? (i := 44) rfl))) Via.refl e2 F4_bytes F3_E (Or.inl (hw _ (List.mem_of_getElem? (i := 45) rfl))) (hw _ (List.mem_of_getElem? (i := 38) rfl)) (ty := (.array .byte)) (by decide) rfl rfl (g := (mkF m 10 #[.val (.ref a0)] [(.ref b2), (.ref a0)])) rfl rfl (hb hby d8_10)
  have N9 := Fr.snoc X9 N0 g_a0
  have F10_E : Exa Z h9 a0 "com/example/termwright/termwright/Spool$Record" := F3_E.wr W9
  have F11_bytes : Fld Z h9 a0 "com/example/termwright/termwright/Spool$Record" "bytes" "[B" (.ref b2) := F4_bytes.same W9
  have F12_length : Fld Z h9 a0 "com/example/termwright/termwright/Spool$Record" "length" "I" (.int (Int32.ofInt ((0 : Nat) : Int))) := F5_length.other W9 (Or.inr (slot_ne (Or.inl (hw _ (List.mem_of_getElem? (i := 72) rfl))) (Or.inl (hw _ (List.mem_of_getElem? (i := 45) rfl))) (by decide) (t := .int) (t' := (.array .byte)) (by decide) (by decide)))
  have F13_position : Fld Z h9 a0 "com/example/termwright/termwright/Spool$Record" "position" "I" (.int (Int32.ofInt ((0 : Nat) : Int))) := F6_position.other W9 (Or.inr (slot_ne (Or.inl (hw _ (List.mem_of_getElem? (i := 110) rfl))) (Or.inl (hw _ (List.mem_of_getElem? (i := 45) rfl))) (by decide) (t := .int) (t' := (.array .byte)) (by decide) (by decide)))
  have F14_P : own_M Z h9 b2 (fun _ => 0) := own_M_keep M_b2 (Keep.of_wr W9) (ninS (Ne.symm ne_a0_b2) nin0)
  have Zs15 : n0 ≤ h9.size := Nat.le_trans Zs7 (Keep.of_wr W9).1
  have Kc16 : Keep h0 h9 [a0] := Kc8.wr W9 (Or.inl (List.mem_of_getElem? (i := 0) rfl))
  refine own_st ?_ st9
  show own_G p.tables e below _ _ (T9.setTop (mkF m 13 #[.val (.ref a0)] []))
  refine own_retV X9 hx hlk hret (hb hby d8_13) (by decide) (by decide) ⟨rfl, N9, ?_⟩
  rw [e9]
  exact ⟨Kc16, b2, sz_b2, ne_a0_b2, F11_bytes, F12_length, F13_position, F14_P⟩
theorem d13_0 : decode prog_34_method_7_code 0 = .ok (.aload_n 0, 1) := by decide +kernel
theorem d13_1 : decode prog_34_method_7_code 1 = .ok (.getfield 13, 3) := by decide +kernel
theorem d13_4 : decode prog_34_method_7_code 4 = .ok (.i2l, 1) := by decide +kernel
theorem d13_5 : decode prog_34_method_7_code 5 = .ok (.lload_n 1, 1) := by decide +kernel
theorem d13_6 : decode prog_34_method_7_code 6 = .ok (.ladd, 1) := by decide +kernel
theorem d13_7 : decode prog_34_method_7_code 7 = .ok (.lstore_n 3, 1) := by decide +kernel
theorem d13_8 : decode prog_34_method_7_code 8 = .ok (.lload_n 3, 1) := by decide +kernel
theorem d13_9 : decode prog_34_method_7_code 9 = .ok (.aload_n 0, 1) := by decide +kernel
theorem d13_10 : decode prog_34_method_7_code 10 = .ok (.getfield 7, 3) := by decide +kernel
theorem d13_13 : decode prog_34_method_7_code 13 = .ok (.arraylength, 1) := by decide +kernel
theorem d13_14 : decode prog_34_method_7_code 14 = .ok (.i2l, 1) := by decide +kernel
theorem d13_15 : decode prog_34_method_7_code 15 = .ok (.lcmp, 1) := by decide +kernel
theorem d13_16 : decode prog_34_method_7_code 16 = .ok (.ifCond .le 31, 3) := by decide +kernel
theorem d13_47 : decode prog_34_method_7_code 47 = .ok (.return_, 1) := by decide +kernel
theorem pn_13 : plainName "com/example/termwright/termwright/Spool$Record" = true := by first | (simp [plainName, overriddenIn]; done) | decide +kernel
theorem ef_13 (m : MethodId) (a0 : Addr) (q1 : Int64) : entryFrame m #[(.ref a0), (.long q1)] 5 = mkF m 0 #[.val (.ref a0), .val (.long q1), .second, .unset, .unset] [] := by first | (simp [entryFrame, mkF, argsToLocals, Value.category]; done) | rfl
set_option maxRecDepth 65536 in
set_option maxHeartbeats 40000000 in
theorem rm13 (l : Launch) (Z : State) (a0 : Array Value) (hw : ∀ d ∈ tables_1, d.before a0 Z = true) (ws : List Jvm.Cond) (a0 : Addr) (q1 : Int64) (t : Addr) (l1 : Nat) (p1 : Nat) (g1 : Nat → Int32) (m1 : Nat) (h0 : Heap) (n0 : Nat) (Z0 : n0 ≤ h0.size) (E0 : Exa Z h0 a0 "com/example/termwright/termwright/Spool$Record") (Fb : Fld Z h0 a0 "com/example/termwright/termwright/Spool$Record" "bytes" "[B" (.ref t)) (Fl : Fld Z h0 a0 "com/example/termwright/termwright/Spool$Record" "length" "I" (.int (Int32.ofInt ((l1 : Nat) : Int)))) (Fp : Fld Z h0 a0 "com/example/termwright/termwright/Spool$Record" "position" "I" (.int (Int32.ofInt ((p1 : Nat) : Int)))) (M0 : own_M Z h0 t g1) (hl : l1 + m1 ≤ 256) (hq : q1.toInt = (m1 : Int)) :
    MetFree l (⟨"com/example/termwright/termwright/Spool$Record", "room", "(J)V"⟩ : MethodName) (head1 (Jvm.Cond.code (⟨"com/example/termwright/termwright/Spool$Record", "room", "(J)V"⟩ : MethodName) prog_34_method_7_code 5 none :: ws) ({ frames := 0, cells := 0, slots := 0, locals := 0 } : Room)) (fun a U => a = #[(.ref a0), (.long q1)] ∧ Z.Warmed39 U.vm ∧ U.heap = h0) (fun _ _ _ _ _ => True) (fun _ U o U' => ∃ v L, o = .returned v ∧ own_QN h0 n0 v U'.heap L ∧ FrameEnd U o U' L ({ frames := 0, cells := 0, slots := 0, locals := 0 } : Room).cells ({ frames := 0, cells := 0, slots := 0, locals := 0 } : Room).slots) := by
  refine MetFree.of_bodySF (plainFor_of_name pn_13) hisR ?_
  intro p e s m args below meth c s₁ Bd hml0 hP hK
  obtain ⟨rfl, hZ, hh⟩ := hP
  have hx := Bd.exec
  have hby := Bd.bytes
  have hlk : meth.locks = false := BodyLoose.notSynchronized Bd
  have hret := Bd.returns
  have hml : c.maxLocals = 5 := hml0
  have hown : s.vm.findClass "com/example/termwright/termwright/Spool$Record" = some m.cls := findClass_of_methodNamed Bd.named
  have hnm := (name_of_methodNamed Bd.named Bd.method).1
  have X0 : Stand p l e ({ frames := 0, cells := 0, slots := 0, locals := 0 } : Room) s m #[(.ref a0), (.long q1)] below meth c s₁ [] 0 0 := Stand.of_body Bd
  have e0 : s₁.heap = h0 := by rw [← hh, Bd.state]; rfl
  have N0 := Fr.nil n0
  show own_G p.tables e below (own_E s ({ frames := 0, cells := 0, slots := 0, locals := 0 } : Room).cells ({ frames := 0, cells := 0, slots := 0, locals := 0 } : Room).slots) (own_QN h0 n0) (s₁.setTop (entryFrame m #[(.ref a0), (.long q1)] 5))
  refine own_st ?_ (fun t_ k_ => castTop (ef_13 m a0 q1) k_)
  show own_G p.tables e below _ _ (s₁.setTop (mkF m 0 #[.val (.ref a0), .val (.long q1), .second, .unset, .unset] []))
  refine own_st ?_ (fun t_ k_ => XS.aloadN X0.here hx rfl (hb hby d13_0) rfl rfl k_)
  show own_G p.tables e below _ _ (s₁.setTop (mkF m 1 #[.val (.ref a0), .val (.long q1), .second, .unset, .unset] [(.ref a0)]))
  obtain ⟨T1, X1, e1, st1⟩ := getF X0 hx hZ hown (host := "") (Or.inl (hw _ (List.mem_of_getElem? (i := 71) rfl))) Via.refl e0 Fl (g := (mkF m 1 #[.val (.ref a0), .val (.long q1), .second, .unset, .unset] [(.ref a0)])) rfl rfl (hb hby d13_1)
  refine own_st ?_ st1
  show own_G p.tables e below _ _ (T1.setTop (mkF m 4 #[.val (.ref a0), .val (.long q1), .second, .unset, .unset] [(.int (Int32.ofInt ((l1 : Nat) : Int)))]))
  refine own_st ?_ (fun t_ k_ => XS.i2l X1.here hx rfl (hb hby d13_4) rfl k_)
  show own_G p.tables e below _ _ (T1.setTop (mkF m 5 #[.val (.ref a0), .val (.long q1), .second, .unset, .unset] [(.long ((Int32.ofInt ((l1 : Nat) : Int)).toInt64))]))
  refine own_st ?_ (fun t_ k_ => XS.lloadN X1.here hx rfl (hb hby d13_5) rfl k_)
  show own_G p.tables e below _ _ (T1.setTop (mkF m 6 #[.val (.ref a0), .val (.long q1), .second, .unset, .unset] [(.long q1), (.long ((Int32.ofInt ((l1 : Nat) : Int)).toInt64))]))
  refine own_st ?_ (fun t_ k_ => XS.ladd X1.here hx rfl (hb hby d13_6) rfl k_)
  show own_G p.tables e below _ _ (T1.setTop (mkF m 7 #[.val (.ref a0), .val (.long q1), .second, .unset, .unset] [(.long (((Int32.ofInt ((l1 : Nat) : Int)).toInt64) + q1))]))
  refine own_st ?_ (fun t_ k_ => XS.lstoreN X1.here hx rfl (hb hby d13_7) rfl (l' := #[.val (.ref a0), .val (.long q1), .second, .val (.long (((Int32.ofInt ((l1 : Nat) : Int)).toInt64) + q1)), .second]) rfl k_)
  show own_G p.tables e below _ _ (T1.setTop (mkF m 8 #[.val (.ref a0), .val (.long q1), .second, .val (.long (((Int32.ofInt ((l1 : Nat) : Int)).toInt64) + q1)), .second] []))
  refine own_st ?_ (fun t_ k_ => XS.lloadN X1.here hx rfl (hb hby d13_8) rfl k_)
  show own_G p.tables e below _ _ (T1.setTop (mkF m 9 #[.val (.ref a0), .val (.long q1), .second, .val (.long (((Int32.ofInt ((l1 : Nat) : Int)).toInt64) + q1)), .second] [(.long (((Int32.ofInt ((l1 : Nat) : Int)).toInt64) + q1))]))
  refine own_st ?_ (fun t_ k_ => XS.aloadN X1.here hx rfl (hb hby d13_9) rfl rfl k_)
  show own_G p.tables e below _ _ (T1.setTop (mkF m 10 #[.val (.ref a0), .val (.long q1), .second, .val (.long (((Int32.ofInt ((l1 : Nat) : Int)).toInt64) + q1)), .second] [(.ref a0), (.long (((Int32.ofInt ((l1 : Nat) : Int)).toInt64) + q1))]))
  obtain ⟨T2, X2, e2, st2⟩ := getF X1 hx hZ hown (host := "") (Or.inl (hw _ (List.mem_of_getElem? (i := 44) rfl))) Via.refl e1 Fb (g := (mkF m 10 #[.val (.ref a0), .val (.long q1), .second, .val (.long (((Int32.ofInt ((l1 : Nat) : Int)).toInt64) + q1)), .second] [(.ref a0), (.long (((Int32.ofInt ((l1 : Nat) : Int)).toInt64) + q1))])) rfl rfl (hb hby d13_10)
  refine own_st ?_ st2
  show own_G p.tables e below _ _ (T2.setTop (mkF m 13 #[.val (.ref a0), .val (.long q1), .second, .val (.long (((Int32.ofInt ((l1 : Nat) : Int)).toInt64) + q1)), .second] [(.ref t), (.long (((Int32.ofInt ((l1 : Nat) : Int)).toInt64) + q1))]))
  obtain ⟨cl3, Ar3, S3, G3⟩ := M0
  refine own_st ?_ (X2.arraylength hx (by rw [e2]; exact Ar3.1) (State.isArrayOf_alike hZ.alike Ar3.2.1) (g := (mkF m 13 #[.val (.ref a0), .val (.long q1), .second, .val (.long (((Int32.ofInt ((l1 : Nat) : Int)).toInt64) + q1)), .second] [(.ref t), (.long (((Int32.ofInt ((l1 : Nat) : Int)).toInt64) + q1))])) rfl rfl (hb hby d13_13))
  rw [show cl3.slots.size.toInt32 = (256 : Int32) by rw [S3]; rfl]
  have M3 : own_M Z h0 t g1 := ⟨cl3, Ar3, S3, G3⟩
  show own_G p.tables e below _ _ (T2.setTop (mkF m 14 #[.val (.ref a0), .val (.long q1), .second, .val (.long (((Int32.ofInt ((l1 : Nat) : Int)).toInt64) + q1)), .second] [(.int (256 : Int32)), (.long (((Int32.ofInt ((l1 : Nat) : Int)).toInt64) + q1))]))
  refine own_st ?_ (fun t_ k_ => XS.i2l X2.here hx rfl (hb hby d13_14) rfl k_)
  show own_G p.tables e below _ _ (T2.setTop (mkF m 15 #[.val (.ref a0), .val (.long q1), .second, .val (.long (((Int32.ofInt ((l1 : Nat) : Int)).toInt64) + q1)), .second] [(.long ((256 : Int32).toInt64)), (.long (((Int32.ofInt ((l1 : Nat) : Int)).toInt64) + q1))]))
  refine own_st ?_ (fun t_ k_ => XS.lcmp X2.here hx rfl (hb hby d13_15) rfl k_)
  show own_G p.tables e below _ _ (T2.setTop (mkF m 16 #[.val (.ref a0), .val (.long q1), .second, .val (.long (((Int32.ofInt ((l1 : Nat) : Int)).toInt64) + q1)), .second] [(.int (lcmpW (((Int32.ofInt ((l1 : Nat) : Int)).toInt64) + q1) ((256 : Int32).toInt64)))]))
  refine own_st ?_ (fun t_ k_ => XS.ifYes X2.here hx rfl (pc0 := 16) (pc' := 47) rfl (hb hby d13_16) rfl ((if0 _ _).trans (flt (own_room hq hl)).2.2.2) (by decide) (by decide) k_)
  show own_G p.tables e below _ _ (T2.setTop (mkF m 47 #[.val (.ref a0), .val (.long q1), .second, .val (.long (((Int32.ofInt ((l1 : Nat) : Int)).toInt64) + q1)), .second] []))
  exact own_retV X2 hx hlk hret (hb hby d13_47) (by decide) (by decide) ⟨rfl, N0, e2⟩
theorem own_sel {Z : State} {a0 : Array Value} (hw : ∀ d ∈ tables_1, d.before a0 Z = true) : (Jvm.Cond.selects "com/example/termwright/termwright/Spool$Record" ({ cls := "com/example/termwright/termwright/Spool$Record", name := "room", desc := "(J)V" } : Jvm.MethodName) ({ cls := "com/example/termwright/termwright/Spool$Record", name := "room", desc := "(J)V" } : Jvm.MethodName)).before a0 Z = true := Jvm.Kit.selects_private (y := (⟨"com/example/termwright/termwright/Spool$Record", "room", "(J)V"⟩ : MethodName)) (by decide) (hw _ (List.mem_of_getElem? (i := 38) rfl)) (hw _ (List.mem_of_getElem? (i := 69) rfl)) (hw _ (List.mem_of_getElem? (i := 68) rfl))
theorem pd_14 : parseMethodDescriptor "(J)V" = some ⟨[.long], none⟩ := by decide +kernel
theorem d12_0 : decode prog_34_method_3_code 0 = .ok (.lload_n 1, 1) := by decide +kernel
theorem d12_1 : decode prog_34_method_3_code 1 = .ok (.lconst 0, 1) := by decide +kernel
theorem d12_2 : decode prog_34_method_3_code 2 = .ok (.lcmp, 1) := by decide +kernel
theorem d12_3 : decode prog_34_method_3_code 3 = .ok (.ifCond .ge 17, 3) := by decide +kernel
theorem d12_20 : decode prog_34_method_3_code 20 = .ok (.aload_n 0, 1) := by decide +kernel
theorem d12_21 : decode prog_34_method_3_code 21 = .ok (.ldc2_w 29, 3) := by decide +kernel
theorem d12_24 : decode prog_34_method_3_code 24 = .ok (.invokevirtual 31, 3) := by decide +kernel
theorem d12_27 : decode prog_34_method_3_code 27 = .ok (.lload_n 1, 1) := by decide +kernel
theorem d12_28 : decode prog_34_method_3_code 28 = .ok (.lstore_n 3, 1) := by decide +kernel
theorem d12_29 : decode prog_34_method_3_code 29 = .ok (.lload_n 3, 1) := by decide +kernel
theorem d12_30 : decode prog_34_method_3_code 30 = .ok (.ldc2_w 35, 3) := by decide +kernel
theorem d12_33 : decode prog_34_method_3_code 33 = .ok (.lcmp, 1) := by decide +kernel
theorem d12_34 : decode prog_34_method_3_code 34 = .ok (.ifCond .lt 38, 3) := by decide +kernel
theorem d12_37 : decode prog_34_method_3_code 37 = .ok (.aload_n 0, 1) := by decide +kernel
theorem d12_38 : decode prog_34_method_3_code 38 = .ok (.getfield 7, 3) := by decide +kernel
theorem d12_41 : decode prog_34_method_3_code 41 = .ok (.aload_n 0, 1) := by decide +kernel
theorem d12_42 : decode prog_34_method_3_code 42 = .ok (.dup, 1) := by decide +kernel
theorem d12_43 : decode prog_34_method_3_code 43 = .ok (.getfield 13, 3) := by decide +kernel
theorem d12_46 : decode prog_34_method_3_code 46 = .ok (.dup_x1, 1) := by decide +kernel
theorem d12_47 : decode prog_34_method_3_code 47 = .ok (.iconst 1, 1) := by decide +kernel
theorem d12_48 : decode prog_34_method_3_code 48 = .ok (.iadd, 1) := by decide +kernel
theorem d12_49 : decode prog_34_method_3_code 49 = .ok (.putfield 13, 3) := by decide +kernel
theorem d12_52 : decode prog_34_method_3_code 52 = .ok (.lload_n 3, 1) := by decide +kernel
theorem d12_53 : decode prog_34_method_3_code 53 = .ok (.ldc2_w 37, 3) := by decide +kernel
theorem d12_56 : decode prog_34_method_3_code 56 = .ok (.land, 1) := by decide +kernel
theorem d12_57 : decode prog_34_method_3_code 57 = .ok (.ldc2_w 35, 3) := by decide +kernel
theorem d12_60 : decode prog_34_method_3_code 60 = .ok (.lor, 1) := by decide +kernel
theorem d12_61 : decode prog_34_method_3_code 61 = .ok (.l2i, 1) := by decide +kernel
theorem d12_62 : decode prog_34_method_3_code 62 = .ok (.i2b, 1) := by decide +kernel
theorem d12_63 : decode prog_34_method_3_code 63 = .ok (.bastore, 1) := by decide +kernel
theorem d12_64 : decode prog_34_method_3_code 64 = .ok (.lload_n 3, 1) := by decide +kernel
theorem d12_65 : decode prog_34_method_3_code 65 = .ok (.bipush 7, 2) := by decide +kernel
theorem d12_67 : decode prog_34_method_3_code 67 = .ok (.lushr, 1) := by decide +kernel
theorem d12_68 : decode prog_34_method_3_code 68 = .ok (.lstore_n 3, 1) := by decide +kernel
theorem d12_69 : decode prog_34_method_3_code 69 = .ok (.goto (-40), 3) := by decide +kernel
theorem d12_72 : decode prog_34_method_3_code 72 = .ok (.aload_n 0, 1) := by decide +kernel
theorem d12_73 : decode prog_34_method_3_code 73 = .ok (.getfield 7, 3) := by decide +kernel
theorem d12_76 : decode prog_34_method_3_code 76 = .ok (.aload_n 0, 1) := by decide +kernel
theorem d12_77 : decode prog_34_method_3_code 77 = .ok (.dup, 1) := by decide +kernel
theorem d12_78 : decode prog_34_method_3_code 78 = .ok (.getfield 13, 3) := by decide +kernel
theorem d12_81 : decode prog_34_method_3_code 81 = .ok (.dup_x1, 1) := by decide +kernel
theorem d12_82 : decode prog_34_method_3_code 82 = .ok (.iconst 1, 1) := by decide +kernel
theorem d12_83 : decode prog_34_method_3_code 83 = .ok (.iadd, 1) := by decide +kernel
theorem d12_84 : decode prog_34_method_3_code 84 = .ok (.putfield 13, 3) := by decide +kernel
theorem d12_87 : decode prog_34_method_3_code 87 = .ok (.lload_n 3, 1) := by decide +kernel
theorem d12_88 : decode prog_34_method_3_code 88 = .ok (.l2i, 1) := by decide +kernel
theorem d12_89 : decode prog_34_method_3_code 89 = .ok (.i2b, 1) := by decide +kernel
theorem d12_90 : decode prog_34_method_3_code 90 = .ok (.bastore, 1) := by decide +kernel
theorem d12_91 : decode prog_34_method_3_code 91 = .ok (.aload_n 0, 1) := by decide +kernel
theorem d12_92 : decode prog_34_method_3_code 92 = .ok (.areturn, 1) := by decide +kernel
theorem pn_12 : plainName "com/example/termwright/termwright/Spool$Record" = true := by first | (simp [plainName, overriddenIn]; done) | decide +kernel
set_option maxRecDepth 65536 in
set_option maxHeartbeats 40000000 in
theorem own_lp {p : Program} {l : Launch} {e : Env} {s : State} {m : MethodId} {args : Array Value} {below : List Frame} {meth : Method} {c : Code} {Z : State} {a0' : Array Value} {h0 : Heap} {n0 : Nat} {a0 t : Addr} (hx : p.tables.exec = Jvm.exec) (hlk : meth.locks = false) (hZ : Z.Warmed39 s.vm) (hw : ∀ d ∈ tables_1, d.before a0' Z = true) (hby : c.code = prog_34_method_3_code) (hml : c.maxLocals = 5) (hown : s.vm.findClass "com/example/termwright/termwright/Spool$Record" = some m.cls) (hret : meth.sig.returnType = (some (.object "com/example/termwright/termwright/Spool$Record"))) (g_a0 : n0 ≤ a0) (g_t : n0 ≤ t) (hne : a0 ≠ t) (n1 : Nat) : ∀ {T0 : State} {locs : List Loc} {h1 : Heap} {q1 v : Int64} {l1 p1 : Nat} {g1 : Nat → Int32} (X0 : Stand p l e ({ frames := 1, cells := 0, slots := 0, locals := 16 } : Room) s m args below meth c T0 locs 0 0) (N0 : Fr n0 locs) (e0 : T0.heap = h1) (hl : l1 + own_len n1 ≤ 256) (hv : v.toInt = (n1 : Int)) (hn : n1 < 2 ^ 63) (K0 : Keep h0 h1 [a0, t]) (E0 : Exa Z h1 a0 "com/example/termwright/termwright/Spool$Record") (Fb : Fld Z h1 a0 "com/example/termwright/termwright/Spool$Record" "bytes" "[B" (.ref t)) (Fl : Fld Z h1 a0 "com/example/termwright/termwright/Spool$Record" "length" "I" (.int (Int32.ofInt ((l1 : Nat) : Int)))) (Fp : Fld Z h1 a0 "com/example/termwright/termwright/Spool$Record" "position" "I" (.int (Int32.ofInt ((p1 : Nat) : Int)))) (M0 : own_M Z h1 t g1) (Z1 : n0 ≤ h1.size),
    own_G p.tables e below (own_E s 0 0) (own_Qr Z (some (.ref a0)) [a0, t] a0 t (l1 + own_len n1) p1 (own_put g1 l1 n1) h0 n0) (T0.setTop (mkF m 29 #[.val (.ref a0), .val (.long q1), .second, .val (.long v), .second] [])) := by
  induction n1 using Nat.strongRecOn with
  | ind n1 ih =>
    intro T0 locs h1 q1 v l1 p1 g1 X0 N0 e0 hl hv hn K0 E0 Fb Fl Fp M0 Z1
    have hpos := own_len_pos n1
    by_cases hlt : n1 < 128
    · refine own_st ?_ (fun t_ k_ => XS.lloadN X0.here hx rfl (hb hby d12_29) rfl k_)
      show own_G p.tables e below _ _ (T0.setTop (mkF m 30 #[.val (.ref a0), .val (.long q1), .second, .val (.long v), .second] [(.long v)]))
      refine own_st ?_ (X0.ldc2Long hx hown (mvT hZ (hw _ (List.mem_of_getElem? (i := 73) rfl))) (g := (mkF m 30 #[.val (.ref a0), .val (.long q1), .second, .val (.long v), .second] [(.long v)])) rfl (hb hby d12_30))
      show own_G p.tables e below _ _ (T0.setTop (mkF m 33 #[.val (.ref a0), .val (.long q1), .second, .val (.long v), .second] [(.long (128 : Int64)), (.long v)]))
      refine own_st ?_ (fun t_ k_ => XS.lcmp X0.here hx rfl (hb hby d12_33) rfl k_)
      show own_G p.tables e below _ _ (T0.setTop (mkF m 34 #[.val (.ref a0), .val (.long q1), .second, .val (.long v), .second] [(.int (lcmpW v (128 : Int64)))]))
      refine own_st ?_ (fun t_ k_ => XS.ifYes X0.here hx rfl (pc0 := 34) (pc' := 72) rfl (hb hby d12_34) rfl ((if0 _ _).trans (tlt ((own_128 hv).mpr hlt)).1) (by decide) (by decide) k_)
      show own_G p.tables e below _ _ (T0.setTop (mkF m 72 #[.val (.ref a0), .val (.long q1), .second, .val (.long v), .second] []))
      refine own_st ?_ (fun t_ k_ => XS.aloadN X0.here hx rfl (hb hby d12_72) rfl rfl k_)
      show own_G p.tables e below _ _ (T0.setTop (mkF m 73 #[.val (.ref a0), .val (.long q1), .second, .val (.long v), .second] [(.ref a0)]))
      obtain ⟨T1, X1, e1, st1⟩ := getF X0 hx hZ hown (host := "") (Or.inl (hw _ (List.mem_of_getElem? (i := 44) rfl))) Via.refl e0 Fb (g := (mkF m 73 #[.val (.ref a0), .val (.long q1), .second, .val (.long v), .second] [(.ref a0)])) rfl rfl (hb hby d12_73)
      refine own_st ?_ st1
      show own_G p.tables e below _ _ (T1.setTop (mkF m 76 #[.val (.ref a0), .val (.long q1), .second, .val (.long v), .second] [(.ref t)]))
      refine own_st ?_ (fun t_ k_ => XS.aloadN X1.here hx rfl (hb hby d12_76) rfl rfl k_)
      show own_G p.tables e below _ _ (T1.setTop (mkF m 77 #[.val (.ref a0), .val (.long q1), .second, .val (.long v), .second] [(.ref a0), (.ref t)]))
      refine own_st ?_ (fun t_ k_ => XS.dup X1.here hx rfl (hb hby d12_77) rfl rfl k_)
      show own_G p.tables e below _ _ (T1.setTop (mkF m 78 #[.val (.ref a0), .val (.long q1), .second, .val (.long v), .second] [(.ref a0), (.ref a0), (.ref t)]))
      obtain ⟨T2, X2, e2, st2⟩ := getF X1 hx hZ hown (host := "") (Or.inl (hw _ (List.mem_of_getElem? (i := 71) rfl))) Via.refl e1 Fl (g := (mkF m 78 #[.val (.ref a0), .val (.long q1), .second, .val (.long v), .second] [(.ref a0), (.ref a0), (.ref t)])) rfl rfl (hb hby d12_78)
      refine own_st ?_ st2
      show own_G p.tables e below _ _ (T2.setTop (mkF m 81 #[.val (.ref a0), .val (.long q1), .second, .val (.long v), .second] [(.int (Int32.ofInt ((l1 : Nat) : Int))), (.ref a0), (.ref t)]))
      refine own_st ?_ (fun t_ k_ => XS.dupX1 X2.here hx rfl (hb hby d12_81) rfl rfl rfl k_)
      show own_G p.tables e below _ _ (T2.setTop (mkF m 82 #[.val (.ref a0), .val (.long q1), .second, .val (.long v), .second] [(.int (Int32.ofInt ((l1 : Nat) : Int))), (.ref a0), (.int (Int32.ofInt ((l1 : Nat) : Int))), (.ref t)]))
      refine own_st ?_ (fun t_ k_ => XS.iconst X2.here hx rfl (hb hby d12_82) k_)
      show own_G p.tables e below _ _ (T2.setTop (mkF m 83 #[.val (.ref a0), .val (.long q1), .second, .val (.long v), .second] [(.int (1 : Int32)), (.int (Int32.ofInt ((l1 : Nat) : Int))), (.ref a0), (.int (Int32.ofInt ((l1 : Nat) : Int))), (.ref t)]))
      refine own_st ?_ (fun t_ k_ => XS.iadd X2.here hx rfl (hb hby d12_83) rfl k_)
      show own_G p.tables e below _ _ (T2.setTop (mkF m 84 #[.val (.ref a0), .val (.long q1), .second, .val (.long v), .second] [(.int ((Int32.ofInt ((l1 : Nat) : Int)) + (1 : Int32))), (.ref a0), (.int (Int32.ofInt ((l1 : Nat) : Int))), (.ref t)]))
      obtain ⟨T3, h3, X3, e3, W3, st3⟩ := putF X2 hx hZ hown (host := "") (Or.inl (hw _ (List.mem_of_getElem? (i := 71) rfl))) Via.refl e2 Fl E0 (Or.inl (hw _ (List.mem_of_getElem? (i := 72) rfl))) (hw _ (List.mem_of_getElem? (i := 38) rfl)) (ty := .int) (by decide) rfl rfl (g := (mkF m 84 #[.val (.ref a0), .val (.long q1), .second, .val (.long v), .second] [(.int ((Int32.ofInt ((l1 : Nat) : Int)) + (1 : Int32))), (.ref a0), (.int (Int32.ofInt ((l1 : Nat) : Int))), (.ref t)])) rfl rfl (hb hby d12_84)
      have N3 := Fr.snoc X3 N0 g_a0
      have F4_E : Exa Z h3 a0 "com/example/termwright/termwright/Spool$Record" := E0.wr W3
      have F5_bytes : Fld Z h3 a0 "com/example/termwright/termwright/Spool$Record" "bytes" "[B" (.ref t) := Fb.other W3 (Or.inr (slot_ne (Or.inl (hw _ (List.mem_of_getElem? (i := 45) rfl))) (Or.inl (hw _ (List.mem_of_getElem? (i := 72) rfl))) (by decide) (t := (.array .byte)) (t' := .int) (by decide) (by decide)))
      have F6_length : Fld Z h3 a0 "com/example/termwright/termwright/Spool$Record" "length" "I" (.int ((Int32.ofInt ((l1 : Nat) : Int)) + (1 : Int32))) := Fl.same W3
      have F7_position : Fld Z h3 a0 "com/example/termwright/termwright/Spool$Record" "position" "I" (.int (Int32.ofInt ((p1 : Nat) : Int))) := Fp.other W3 (Or.inr (slot_ne (Or.inl (hw _ (List.mem_of_getElem? (i := 110) rfl))) (Or.inl (hw _ (List.mem_of_getElem? (i := 72) rfl))) (by decide) (t := .int) (t' := .int) (by decide) (by decide)))
      have F8_P : own_M Z h3 t g1 := own_M_keep M0 (Keep.of_wr W3) (ninS (Ne.symm hne) nin0)
      have Zs9 : n0 ≤ h3.size := Nat.le_trans Z1 (Keep.of_wr W3).1
      have Kc10 : Keep h0 h3 [a0, t] := K0.wr W3 (Or.inl (List.mem_of_getElem? (i := 0) rfl))
      refine own_st ?_ st3
      show own_G p.tables e below _ _ (T3.setTop (mkF m 87 #[.val (.ref a0), .val (.long q1), .second, .val (.long v), .second] [(.int (Int32.ofInt ((l1 : Nat) : Int))), (.ref t)]))
      refine own_st ?_ (fun t_ k_ => XS.lloadN X3.here hx rfl (hb hby d12_87) rfl k_)
      show own_G p.tables e below _ _ (T3.setTop (mkF m 88 #[.val (.ref a0), .val (.long q1), .second, .val (.long v), .second] [(.long v), (.int (Int32.ofInt ((l1 : Nat) : Int))), (.ref t)]))
      refine own_st ?_ (fun t_ k_ => XS.l2i X3.here hx rfl (hb hby d12_88) rfl k_)
      show own_G p.tables e below _ _ (T3.setTop (mkF m 89 #[.val (.ref a0), .val (.long q1), .second, .val (.long v), .second] [(.int (v.toInt32)), (.int (Int32.ofInt ((l1 : Nat) : Int))), (.ref t)]))
      refine own_st ?_ (fun t_ k_ => XS.i2b X3.here hx rfl (hb hby d12_89) rfl k_)
      show own_G p.tables e below _ _ (T3.setTop (mkF m 90 #[.val (.ref a0), .val (.long q1), .second, .val (.long v), .second] [(.int ((v.toInt32).toInt8.toInt32)), (.int (Int32.ofInt ((l1 : Nat) : Int))), (.ref t)]))
      obtain ⟨cl11, Ar11, S11, G11⟩ := F8_P
      have hin11 : ¬ ((Int32.ofInt ((l1 : Nat) : Int)) < 0 ∨ cl11.slots.size ≤ ((Int32.ofInt ((l1 : Nat) : Int))).toNatClampNeg) := by rw [S11]; exact own_inx (by omega) (by decide)
      obtain ⟨T11, h11, X11, e11, W11, st11⟩ := stB X3 hx hZ e3 Ar11 (j := (Int32.ofInt ((l1 : Nat) : Int))) hin11 (g := (mkF m 90 #[.val (.ref a0), .val (.long q1), .second, .val (.long v), .second] [(.int ((v.toInt32).toInt8.toInt32)), (.int (Int32.ofInt ((l1 : Nat) : Int))), (.ref t)])) rfl rfl (hb hby d12_90)
      have N11 := Fr.snoc X11 N3 g_t
      have F12_E : Exa Z h11 a0 "com/example/termwright/termwright/Spool$Record" := F4_E.wr W11
      have F13_bytes : Fld Z h11 a0 "com/example/termwright/termwright/Spool$Record" "bytes" "[B" (.ref t) := F5_bytes.other W11 (Or.inl hne)
      have F14_length : Fld Z h11 a0 "com/example/termwright/termwright/Spool$Record" "length" "I" (.int ((Int32.ofInt ((l1 : Nat) : Int)) + (1 : Int32))) := F6_length.other W11 (Or.inl hne)
      have F15_position : Fld Z h11 a0 "com/example/termwright/termwright/Spool$Record" "position" "I" (.int (Int32.ofInt ((p1 : Nat) : Int))) := F7_position.other W11 (Or.inl hne)
      have Zs16 : n0 ≤ h11.size := Nat.le_trans Zs9 (Keep.of_wr W11).1
      have Kc17 : Keep h0 h11 [a0, t] := Kc10.wr W11 (Or.inl (List.mem_of_getElem? (i := 1) rfl))
      have M11 : own_M Z h11 t (own_upd g1 l1 (own_rlo n1)) := own_M_set ⟨cl11, Ar11, S11, G11⟩ (by omega) W11 (own_rlo_byte hv hlt)
      refine own_st ?_ st11
      show own_G p.tables e below _ _ (T11.setTop (mkF m 91 #[.val (.ref a0), .val (.long q1), .second, .val (.long v), .second] []))
      refine own_st ?_ (fun t_ k_ => XS.aloadN X11.here hx rfl (hb hby d12_91) rfl rfl k_)
      show own_G p.tables e below _ _ (T11.setTop (mkF m 92 #[.val (.ref a0), .val (.long q1), .second, .val (.long v), .second] [(.ref a0)]))
      refine own_retA X11 hx hlk hret rfl rfl rfl (hb hby d12_92) (by decide) (by decide) ⟨rfl, N11, ?_⟩
      rw [e11, own_len_lo hlt, own_put_lo hlt]
      exact ⟨Kc17, F13_bytes, by rw [← own_rinc]; exact F14_length, F15_position, M11⟩
    · refine own_st ?_ (fun t_ k_ => XS.lloadN X0.here hx rfl (hb hby d12_29) rfl k_)
      show own_G p.tables e below _ _ (T0.setTop (mkF m 30 #[.val (.ref a0), .val (.long q1), .second, .val (.long v), .second] [(.long v)]))
      refine own_st ?_ (X0.ldc2Long hx hown (mvT hZ (hw _ (List.mem_of_getElem? (i := 73) rfl))) (g := (mkF m 30 #[.val (.ref a0), .val (.long q1), .second, .val (.long v), .second] [(.long v)])) rfl (hb hby d12_30))
      show own_G p.tables e below _ _ (T0.setTop (mkF m 33 #[.val (.ref a0), .val (.long q1), .second, .val (.long v), .second] [(.long (128 : Int64)), (.long v)]))
      refine own_st ?_ (fun t_ k_ => XS.lcmp X0.here hx rfl (hb hby d12_33) rfl k_)
      show own_G p.tables e below _ _ (T0.setTop (mkF m 34 #[.val (.ref a0), .val (.long q1), .second, .val (.long v), .second] [(.int (lcmpW v (128 : Int64)))]))
      refine own_st ?_ (fun t_ k_ => XS.ifNo X0.here hx rfl (hb hby d12_34) rfl ((if0 _ _).trans (flt (fun q => hlt ((own_128 hv).mp q))).1) k_)
      show own_G p.tables e below _ _ (T0.setTop (mkF m 37 #[.val (.ref a0), .val (.long q1), .second, .val (.long v), .second] []))
      refine own_st ?_ (fun t_ k_ => XS.aloadN X0.here hx rfl (hb hby d12_37) rfl rfl k_)
      show own_G p.tables e below _ _ (T0.setTop (mkF m 38 #[.val (.ref a0), .val (.long q1), .second, .val (.long v), .second] [(.ref a0)]))
      obtain ⟨T18, X18, e18, st18⟩ := getF X0 hx hZ hown (host := "") (Or.inl (hw _ (List.mem_of_getElem? (i := 44) rfl))) Via.refl e0 Fb (g := (mkF m 38 #[.val (.ref a0), .val (.long q1), .second, .val (.long v), .second] [(.ref a0)])) rfl rfl (hb hby d12_38)
      refine own_st ?_ st18
      show own_G p.tables e below _ _ (T18.setTop (mkF m 41 #[.val (.ref a0), .val (.long q1), .second, .val (.long v), .second] [(.ref t)]))
      refine own_st ?_ (fun t_ k_ => XS.aloadN X18.here hx rfl (hb hby d12_41) rfl rfl k_)
      show own_G p.tables e below _ _ (T18.setTop (mkF m 42 #[.val (.ref a0), .val (.long q1), .second, .val (.long v), .second] [(.ref a0), (.ref t)]))
      refine own_st ?_ (fun t_ k_ => XS.dup X18.here hx rfl (hb hby d12_42) rfl rfl k_)
      show own_G p.tables e below _ _ (T18.setTop (mkF m 43 #[.val (.ref a0), .val (.long q1), .second, .val (.long v), .second] [(.ref a0), (.ref a0), (.ref t)]))
      obtain ⟨T19, X19, e19, st19⟩ := getF X18 hx hZ hown (host := "") (Or.inl (hw _ (List.mem_of_getElem? (i := 71) rfl))) Via.refl e18 Fl (g := (mkF m 43 #[.val (.ref a0), .val (.long q1), .second, .val (.long v), .second] [(.ref a0), (.ref a0), (.ref t)])) rfl rfl (hb hby d12_43)
      refine own_st ?_ st19
      show own_G p.tables e below _ _ (T19.setTop (mkF m 46 #[.val (.ref a0), .val (.long q1), .second, .val (.long v), .second] [(.int (Int32.ofInt ((l1 : Nat) : Int))), (.ref a0), (.ref t)]))
      refine own_st ?_ (fun t_ k_ => XS.dupX1 X19.here hx rfl (hb hby d12_46) rfl rfl rfl k_)
      show own_G p.tables e below _ _ (T19.setTop (mkF m 47 #[.val (.ref a0), .val (.long q1), .second, .val (.long v), .second] [(.int (Int32.ofInt ((l1 : Nat) : Int))), (.ref a0), (.int (Int32.ofInt ((l1 : Nat) : Int))), (.ref t)]))
      refine own_st ?_ (fun t_ k_ => XS.iconst X19.here hx rfl (hb hby d12_47) k_)
      show own_G p.tables e below _ _ (T19.setTop (mkF m 48 #[.val (.ref a0), .val (.long q1), .second, .val (.long v), .second] [(.int (1 : Int32)), (.int (Int32.ofInt ((l1 : Nat) : Int))), (.ref a0), (.int (Int32.ofInt ((l1 : Nat) : Int))), (.ref t)]))
      refine own_st ?_ (fun t_ k_ => XS.iadd X19.here hx rfl (hb hby d12_48) rfl k_)
      show own_G p.tables e below _ _ (T19.setTop (mkF m 49 #[.val (.ref a0), .val (.long q1), .second, .val (.long v), .second] [(.int ((Int32.ofInt ((l1 : Nat) : Int)) + (1 : Int32))), (.ref a0), (.int (Int32.ofInt ((l1 : Nat) : Int))), (.ref t)]))
      obtain ⟨T20, h20, X20, e20, W20, st20⟩ := putF X19 hx hZ hown (host := "") (Or.inl (hw _ (List.mem_of_getElem? (i := 71) rfl))) Via.refl e19 Fl E0 (Or.inl (hw _ (List.mem_of_getElem? (i := 72) rfl))) (hw _ (List.mem_of_getElem? (i := 38) rfl)) (ty := .int) (by decide) rfl rfl (g := (mkF m 49 #[.val (.ref a0), .val (.long q1), .second, .val (.long v), .second] [(.int ((Int32.ofInt ((l1 : Nat) : Int)) + (1 : Int32))), (.ref a0), (.int (Int32.ofInt ((l1 : Nat) : Int))), (.ref t)])) rfl rfl (hb hby d12_49)
      have N20 := Fr.snoc X20 N0 g_a0
      have F21_E : Exa Z h20 a0 "com/example/termwright/termwright/Spool$Record" := E0.wr W20
      have F22_bytes : Fld Z h20 a0 "com/example/termwright/termwright/Spool$Record" "bytes" "[B" (.ref t) := Fb.other W20 (Or.inr (slot_ne (Or.inl (hw _ (List.mem_of_getElem? (i := 45) rfl))) (Or.inl (hw _ (List.mem_of_getElem? (i := 72) rfl))) (by decide) (t := (.array .byte)) (t' := .int) (by decide) (by decide)))
      have F23_length : Fld Z h20 a0 "com/example/termwright/termwright/Spool$Record" "length" "I" (.int ((Int32.ofInt ((l1 : Nat) : Int)) + (1 : Int32))) := Fl.same W20
      have F24_position : Fld Z h20 a0 "com/example/termwright/termwright/Spool$Record" "position" "I" (.int (Int32.ofInt ((p1 : Nat) : Int))) := Fp.other W20 (Or.inr (slot_ne (Or.inl (hw _ (List.mem_of_getElem? (i := 110) rfl))) (Or.inl (hw _ (List.mem_of_getElem? (i := 72) rfl))) (by decide) (t := .int) (t' := .int) (by decide) (by decide)))
      have F25_P : own_M Z h20 t g1 := own_M_keep M0 (Keep.of_wr W20) (ninS (Ne.symm hne) nin0)
      have Zs26 : n0 ≤ h20.size := Nat.le_trans Z1 (Keep.of_wr W20).1
      have Kc27 : Keep h0 h20 [a0, t] := K0.wr W20 (Or.inl (List.mem_of_getElem? (i := 0) rfl))
      refine own_st ?_ st20
      show own_G p.tables e below _ _ (T20.setTop (mkF m 52 #[.val (.ref a0), .val (.long q1), .second, .val (.long v), .second] [(.int (Int32.ofInt ((l1 : Nat) : Int))), (.ref t)]))
      refine own_st ?_ (fun t_ k_ => XS.lloadN X20.here hx rfl (hb hby d12_52) rfl k_)
      show own_G p.tables e below _ _ (T20.setTop (mkF m 53 #[.val (.ref a0), .val (.long q1), .second, .val (.long v), .second] [(.long v), (.int (Int32.ofInt ((l1 : Nat) : Int))), (.ref t)]))
      refine own_st ?_ (X20.ldc2Long hx hown (mvT hZ (hw _ (List.mem_of_getElem? (i := 98) rfl))) (g := (mkF m 53 #[.val (.ref a0), .val (.long q1), .second, .val (.long v), .second] [(.long v), (.int (Int32.ofInt ((l1 : Nat) : Int))), (.ref t)])) rfl (hb hby d12_53))
      show own_G p.tables e below _ _ (T20.setTop (mkF m 56 #[.val (.ref a0), .val (.long q1), .second, .val (.long v), .second] [(.long (127 : Int64)), (.long v), (.int (Int32.ofInt ((l1 : Nat) : Int))), (.ref t)]))
      refine own_st ?_ (fun t_ k_ => XS.land X20.here hx rfl (hb hby d12_56) rfl k_)
      show own_G p.tables e below _ _ (T20.setTop (mkF m 57 #[.val (.ref a0), .val (.long q1), .second, .val (.long v), .second] [(.long (v &&& (127 : Int64))), (.int (Int32.ofInt ((l1 : Nat) : Int))), (.ref t)]))
      refine own_st ?_ (X20.ldc2Long hx hown (mvT hZ (hw _ (List.mem_of_getElem? (i := 73) rfl))) (g := (mkF m 57 #[.val (.ref a0), .val (.long q1), .second, .val (.long v), .second] [(.long (v &&& (127 : Int64))), (.int (Int32.ofInt ((l1 : Nat) : Int))), (.ref t)])) rfl (hb hby d12_57))
      show own_G p.tables e below _ _ (T20.setTop (mkF m 60 #[.val (.ref a0), .val (.long q1), .second, .val (.long v), .second] [(.long (128 : Int64)), (.long (v &&& (127 : Int64))), (.int (Int32.ofInt ((l1 : Nat) : Int))), (.ref t)]))
      refine own_st ?_ (fun t_ k_ => XS.lor X20.here hx rfl (hb hby d12_60) rfl k_)
      show own_G p.tables e below _ _ (T20.setTop (mkF m 61 #[.val (.ref a0), .val (.long q1), .second, .val (.long v), .second] [(.long ((v &&& (127 : Int64)) ||| (128 : Int64))), (.int (Int32.ofInt ((l1 : Nat) : Int))), (.ref t)]))
      refine own_st ?_ (fun t_ k_ => XS.l2i X20.here hx rfl (hb hby d12_61) rfl k_)
      show own_G p.tables e below _ _ (T20.setTop (mkF m 62 #[.val (.ref a0), .val (.long q1), .second, .val (.long v), .second] [(.int (((v &&& (127 : Int64)) ||| (128 : Int64)).toInt32)), (.int (Int32.ofInt ((l1 : Nat) : Int))), (.ref t)]))
      refine own_st ?_ (fun t_ k_ => XS.i2b X20.here hx rfl (hb hby d12_62) rfl k_)
      show own_G p.tables e below _ _ (T20.setTop (mkF m 63 #[.val (.ref a0), .val (.long q1), .second, .val (.long v), .second] [(.int ((((v &&& (127 : Int64)) ||| (128 : Int64)).toInt32).toInt8.toInt32)), (.int (Int32.ofInt ((l1 : Nat) : Int))), (.ref t)]))
      obtain ⟨cl28, Ar28, S28, G28⟩ := F25_P
      have hin28 : ¬ ((Int32.ofInt ((l1 : Nat) : Int)) < 0 ∨ cl28.slots.size ≤ ((Int32.ofInt ((l1 : Nat) : Int))).toNatClampNeg) := by rw [S28]; exact own_inx (by omega) (by decide)
      obtain ⟨T28, h28, X28, e28, W28, st28⟩ := stB X20 hx hZ e20 Ar28 (j := (Int32.ofInt ((l1 : Nat) : Int))) hin28 (g := (mkF m 63 #[.val (.ref a0), .val (.long q1), .second, .val (.long v), .second] [(.int ((((v &&& (127 : Int64)) ||| (128 : Int64)).toInt32).toInt8.toInt32)), (.int (Int32.ofInt ((l1 : Nat) : Int))), (.ref t)])) rfl rfl (hb hby d12_63)
      have N28 := Fr.snoc X28 N20 g_t
      have F29_E : Exa Z h28 a0 "com/example/termwright/termwright/Spool$Record" := F21_E.wr W28
      have F30_bytes : Fld Z h28 a0 "com/example/termwright/termwright/Spool$Record" "bytes" "[B" (.ref t) := F22_bytes.other W28 (Or.inl hne)
      have F31_length : Fld Z h28 a0 "com/example/termwright/termwright/Spool$Record" "length" "I" (.int ((Int32.ofInt ((l1 : Nat) : Int)) + (1 : Int32))) := F23_length.other W28 (Or.inl hne)
      have F32_position : Fld Z h28 a0 "com/example/termwright/termwright/Spool$Record" "position" "I" (.int (Int32.ofInt ((p1 : Nat) : Int))) := F24_position.other W28 (Or.inl hne)
      have Zs33 : n0 ≤ h28.size := Nat.le_trans Zs26 (Keep.of_wr W28).1
      have Kc34 : Keep h0 h28 [a0, t] := Kc27.wr W28 (Or.inl (List.mem_of_getElem? (i := 1) rfl))
      have M28 : own_M Z h28 t (own_upd g1 l1 (own_rhi n1)) := own_M_set ⟨cl28, Ar28, S28, G28⟩ (by omega) W28 (own_rhi_byte hv)
      refine own_st ?_ st28
      show own_G p.tables e below _ _ (T28.setTop (mkF m 64 #[.val (.ref a0), .val (.long q1), .second, .val (.long v), .second] []))
      refine own_st ?_ (fun t_ k_ => XS.lloadN X28.here hx rfl (hb hby d12_64) rfl k_)
      show own_G p.tables e below _ _ (T28.setTop (mkF m 65 #[.val (.ref a0), .val (.long q1), .second, .val (.long v), .second] [(.long v)]))
      refine own_st ?_ (fun t_ k_ => XS.bipush X28.here hx rfl (hb hby d12_65) k_)
      show own_G p.tables e below _ _ (T28.setTop (mkF m 67 #[.val (.ref a0), .val (.long q1), .second, .val (.long v), .second] [(.int (7 : Int32)), (.long v)]))
      refine own_st ?_ (fun t_ k_ => XS.lushr X28.here hx rfl (hb hby d12_67) rfl k_)
      show own_G p.tables e below _ _ (T28.setTop (mkF m 68 #[.val (.ref a0), .val (.long q1), .second, .val (.long v), .second] [(.long ((v.toUInt64 >>> ((7 : Int32) &&& 0x3f).toInt64.toUInt64).toInt64))]))
      refine own_st ?_ (fun t_ k_ => XS.lstoreN X28.here hx rfl (hb hby d12_68) rfl (l' := #[.val (.ref a0), .val (.long q1), .second, .val (.long ((v.toUInt64 >>> ((7 : Int32) &&& 0x3f).toInt64.toUInt64).toInt64)), .second]) rfl k_)
      show own_G p.tables e below _ _ (T28.setTop (mkF m 69 #[.val (.ref a0), .val (.long q1), .second, .val (.long ((v.toUInt64 >>> ((7 : Int32) &&& 0x3f).toInt64.toUInt64).toInt64)), .second] []))
      refine own_st ?_ (fun t_ k_ => XS.goto X28.here hx rfl (pc0 := 69) (pc' := 29) rfl (hb hby d12_69) (by decide) (by decide) k_)
      show own_G p.tables e below _ _ (T28.setTop (mkF m 29 #[.val (.ref a0), .val (.long q1), .second, .val (.long ((v.toUInt64 >>> ((7 : Int32) &&& 0x3f).toInt64.toUInt64).toInt64)), .second] []))
      have Fl35 : Fld Z h28 a0 "com/example/termwright/termwright/Spool$Record" "length" "I" (.int (Int32.ofInt ((l1 + 1 : Nat) : Int))) := by rw [← own_rinc]; exact F31_length
      have ih35 := ih (n1 / 128) (by omega) (q1 := q1) (v := ((v.toUInt64 >>> ((7 : Int32) &&& 0x3f).toInt64.toUInt64).toInt64)) X28 N28 e28 (by have := own_len_hi hlt; omega) (own_shr7 hv) (by omega) Kc34 F29_E F30_bytes Fl35 F32_position M28 Zs33
      rw [own_len_hi hlt, own_put_hi hlt, show l1 + (own_len (n1 / 128) + 1) = l1 + 1 + own_len (n1 / 128) by omega]
      exact ih35
theorem ef_12 (m : MethodId) (a0 : Addr) (q1 : Int64) : entryFrame m #[(.ref a0), (.long q1)] 5 = mkF m 0 #[.val (.ref a0), .val (.long q1), .second, .unset, .unset] [] := by first | (simp [entryFrame, mkF, argsToLocals, Value.category]; done) | rfl
set_option maxRecDepth 65536 in
set_option maxHeartbeats 40000000 in
theorem rm12 (l : Launch) (Z : State) (a0 : Array Value) (hw : ∀ d ∈ tables_1, d.before a0 Z = true) (ws : List Jvm.Cond) (a0 : Addr) (q1 : Int64) (t : Addr) (l1 : Nat) (p1 : Nat) (g1 : Nat → Int32) (n1 : Nat) (h0 : Heap) (n0 : Nat) (Z0 : n0 ≤ h0.size) (g_a0 : n0 ≤ a0) (g_t : n0 ≤ t) (E0 : Exa Z h0 a0 "com/example/termwright/termwright/Spool$Record") (Fb : Fld Z h0 a0 "com/example/termwright/termwright/Spool$Record" "bytes" "[B" (.ref t)) (Fl : Fld Z h0 a0 "com/example/termwright/termwright/Spool$Record" "length" "I" (.int (Int32.ofInt ((l1 : Nat) : Int)))) (Fp : Fld Z h0 a0 "com/example/termwright/termwright/Spool$Record" "position" "I" (.int (Int32.ofInt ((p1 : Nat) : Int)))) (M0 : own_M Z h0 t g1) (hne : a0 ≠ t) (hq : q1.toInt = (n1 : Int)) (hn : n1 < 2 ^ 63) (hl : l1 ≤ 246) :
    MetFree l (⟨"com/example/termwright/termwright/Spool$Record", "putNumber", "(J)Lcom/example/termwright/termwright/Spool$Record;"⟩ : MethodName) (head1 (Jvm.Cond.code (⟨"com/example/termwright/termwright/Spool$Record", "putNumber", "(J)Lcom/example/termwright/termwright/Spool$Record;"⟩ : MethodName) prog_34_method_3_code 5 (some (.object "com/example/termwright/termwright/Spool$Record")) :: ws) ({ frames := 1, cells := 0, slots := 0, locals := 16 } : Room)) (fun a U => a = #[(.ref a0), (.long q1)] ∧ Z.Warmed39 U.vm ∧ U.heap = h0) (fun _ _ _ _ _ => True) (fun _ U o U' => ∃ v L, o = .returned v ∧ own_Qr Z (some (.ref a0)) [a0, t] a0 t (l1 + own_len n1) p1 (own_put g1 l1 n1) h0 n0 v U'.heap L ∧ FrameEnd U o U' L ({ frames := 1, cells := 0, slots := 0, locals := 16 } : Room).cells ({ frames := 1, cells := 0, slots := 0, locals := 16 } : Room).slots) := by
  refine MetFree.of_bodySF (plainFor_of_name pn_12) hisR ?_
  intro p e s m args below meth c s₁ Bd hml0 hP hK
  obtain ⟨rfl, hZ, hh⟩ := hP
  have hx := Bd.exec
  have hby := Bd.bytes
  have hlk : meth.locks = false := BodyLoose.notSynchronized Bd
  have hret := Bd.returns
  have hml : c.maxLocals = 5 := hml0
  have hown : s.vm.findClass "com/example/termwright/termwright/Spool$Record" = some m.cls := findClass_of_methodNamed Bd.named
  have hnm := (name_of_methodNamed Bd.named Bd.method).1
  have X0 : Stand p l e ({ frames := 1, cells := 0, slots := 0, locals := 16 } : Room) s m #[(.ref a0), (.long q1)] below meth c s₁ [] 0 0 := Stand.of_body Bd
  have e0 : s₁.heap = h0 := by rw [← hh, Bd.state]; rfl
  have N0 := Fr.nil n0
  show own_G p.tables e below (own_E s ({ frames := 1, cells := 0, slots := 0, locals := 16 } : Room).cells ({ frames := 1, cells := 0, slots := 0, locals := 16 } : Room).slots) (own_Qr Z (some (.ref a0)) [a0, t] a0 t (l1 + own_len n1) p1 (own_put g1 l1 n1) h0 n0) (s₁.setTop (entryFrame m #[(.ref a0), (.long q1)] 5))
  refine own_st ?_ (fun t_ k_ => castTop (ef_12 m a0 q1) k_)
  show own_G p.tables e below _ _ (s₁.setTop (mkF m 0 #[.val (.ref a0), .val (.long q1), .second, .unset, .unset] []))
  refine own_st ?_ (fun t_ k_ => XS.lloadN X0.here hx rfl (hb hby d12_0) rfl k_)
  show own_G p.tables e below _ _ (s₁.setTop (mkF m 1 #[.val (.ref a0), .val (.long q1), .second, .unset, .unset] [(.long q1)]))
  refine own_st ?_ (fun t_ k_ => XS.lconst X0.here hx rfl (hb hby d12_1) k_)
  show own_G p.tables e below _ _ (s₁.setTop (mkF m 2 #[.val (.ref a0), .val (.long q1), .second, .unset, .unset] [(.long (0 : Int64)), (.long q1)]))
  refine own_st ?_ (fun t_ k_ => XS.lcmp X0.here hx rfl (hb hby d12_2) rfl k_)
  show own_G p.tables e below _ _ (s₁.setTop (mkF m 3 #[.val (.ref a0), .val (.long q1), .second, .unset, .unset] [(.int (lcmpW q1 (0 : Int64)))]))
  refine own_st ?_ (fun t_ k_ => XS.ifYes X0.here hx rfl (pc0 := 3) (pc' := 20) rfl (hb hby d12_3) rfl ((if0 _ _).trans (flt (own_nneg hq)).2.1) (by decide) (by decide) k_)
  show own_G p.tables e below _ _ (s₁.setTop (mkF m 20 #[.val (.ref a0), .val (.long q1), .second, .unset, .unset] []))
  refine own_st ?_ (fun t_ k_ => XS.aloadN X0.here hx rfl (hb hby d12_20) rfl rfl k_)
  show own_G p.tables e below _ _ (s₁.setTop (mkF m 21 #[.val (.ref a0), .val (.long q1), .second, .unset, .unset] [(.ref a0)]))
  refine own_st ?_ (X0.ldc2Long hx hown (mvT hZ (hw _ (List.mem_of_getElem? (i := 66) rfl))) (g := (mkF m 21 #[.val (.ref a0), .val (.long q1), .second, .unset, .unset] [(.ref a0)])) rfl (hb hby d12_21))
  show own_G p.tables e below _ _ (s₁.setTop (mkF m 24 #[.val (.ref a0), .val (.long q1), .second, .unset, .unset] [(.long (10 : Int64)), (.ref a0)]))
  obtain ⟨cq1, qp1, qp1'⟩ := E0.cell
  obtain ⟨_, _, ⟨T1, L1, k1, n1⟩, -, X1, ⟨Lc1, hQ1, l1, y1, z1⟩, st1⟩ := X0.privateBack hx (y := (⟨"com/example/termwright/termwright/Spool$Record", "room", "(J)V"⟩ : MethodName)) hown (mvT hZ (hw _ (List.mem_of_getElem? (i := 67) rfl))) (mvT hZ (hw _ (List.mem_of_getElem? (i := 68) rfl))) (mvT hZ (own_sel hw)) (Cond.privateMethod_at (mvP hZ (hw _ (List.mem_of_getElem? (i := 69) rfl)) (args := #[]))) (mvT hZ (hw _ (List.mem_of_getElem? (i := 70) rfl))) (by decide) (backOf (W := 0) (rm13 l Z _ hw [] a0 (10 : Int64) t l1 p1 g1 10 h0 n0 Z0 E0 Fb Fl Fp M0 (by omega) (by decide)) hZ (hw _ (List.mem_of_getElem? (i := 70) rfl)) (hw _ (List.mem_of_getElem? (i := 39) rfl)) (by decide) (by decide)) (g := (mkF m 24 #[.val (.ref a0), .val (.long q1), .second, .unset, .unset] [(.long (10 : Int64)), (.ref a0)])) rfl (by rw [hml]; rfl) (Steps.refl _) (a := a0) (by rw [e0]; exact qp1) qp1' (argsL := [(.long (10 : Int64))]) (rest := []) (lenOf pd_14 rfl) rfl (by show 2 * 0 + _ ≤ _; exact Nat.le_of_eq rfl) (hb hby d12_24) (fun _ _ => ⟨rfl, e0, (by decide : 0 + 0 ≤ _), (by decide : 0 + 0 ≤ _)⟩)
  dsimp only [Pt.U, Pt.locs, Pt.cells, Pt.slots] at X1 l1 y1 z1 st1 hQ1
  subst l1 y1 z1
  obtain ⟨rfl, N1q, e1⟩ := hQ1
  have N1 := Fr.app N0 N1q
  refine own_st ?_ (fun t_ k_ => st1.trans k_)
  show own_G p.tables e below _ _ (T1.setTop (mkF m 27 #[.val (.ref a0), .val (.long q1), .second, .unset, .unset] []))
  refine own_st ?_ (fun t_ k_ => XS.lloadN X1.here hx rfl (hb hby d12_27) rfl k_)
  show own_G p.tables e below _ _ (T1.setTop (mkF m 28 #[.val (.ref a0), .val (.long q1), .second, .unset, .unset] [(.long q1)]))
  refine own_st ?_ (fun t_ k_ => XS.lstoreN X1.here hx rfl (hb hby d12_28) rfl (l' := #[.val (.ref a0), .val (.long q1), .second, .val (.long q1), .second]) rfl k_)
  show own_G p.tables e below _ _ (T1.setTop (mkF m 29 #[.val (.ref a0), .val (.long q1), .second, .val (.long q1), .second] []))
  exact own_lp hx hlk hZ hw hby hml hown hret g_a0 g_t hne n1 X1 N1 e1 (by have := own_len9 hn; omega) hq hn (Keep.refl _ _) E0 Fb Fl Fp M0 Z0
theorem own_k9 {n k a : Nat} (h : ¬ n < 128) (hq : 2 ^ (7 * k) * n + a < 2 ^ 63) : k + 1 < 9 := by
  refine Nat.lt_of_not_le fun hk => ?_
  have h1 : 2 ^ (7 * 8) ≤ 2 ^ (7 * k) := Nat.pow_le_pow_right (by decide) (by omega)
  have h2 : 2 ^ (7 * 8) * 128 ≤ 2 ^ (7 * k) * n := Nat.mul_le_mul h1 (by omega)
  have h3 : 2 ^ (7 * 8) * 128 = 2 ^ 63 := by decide
  omega
theorem d20_0 : decode prog_34_method_5_code 0 = .ok (.lconst 0, 1) := by decide +kernel
theorem d20_1 : decode prog_34_method_5_code 1 = .ok (.lstore_n 1, 1) := by decide +kernel
theorem d20_2 : decode prog_34_method_5_code 2 = .ok (.iconst 0, 1) := by decide +kernel
theorem d20_3 : decode prog_34_method_5_code 3 = .ok (.istore_n 3, 1) := by decide +kernel
theorem d20_4 : decode prog_34_method_5_code 4 = .ok (.aload_n 0, 1) := by decide +kernel
theorem d20_5 : decode prog_34_method_5_code 5 = .ok (.getfield 7, 3) := by decide +kernel
theorem d20_8 : decode prog_34_method_5_code 8 = .ok (.aload_n 0, 1) := by decide +kernel
theorem d20_9 : decode prog_34_method_5_code 9 = .ok (.dup, 1) := by decide +kernel
theorem d20_10 : decode prog_34_method_5_code 10 = .ok (.getfield 17, 3) := by decide +kernel
theorem d20_13 : decode prog_34_method_5_code 13 = .ok (.dup_x1, 1) := by decide +kernel
theorem d20_14 : decode prog_34_method_5_code 14 = .ok (.iconst 1, 1) := by decide +kernel
theorem d20_15 : decode prog_34_method_5_code 15 = .ok (.iadd, 1) := by decide +kernel
theorem d20_16 : decode prog_34_method_5_code 16 = .ok (.putfield 17, 3) := by decide +kernel
theorem d20_19 : decode prog_34_method_5_code 19 = .ok (.baload, 1) := by decide +kernel
theorem d20_20 : decode prog_34_method_5_code 20 = .ok (.istore 4, 2) := by decide +kernel
theorem d20_22 : decode prog_34_method_5_code 22 = .ok (.lload_n 1, 1) := by decide +kernel
theorem d20_23 : decode prog_34_method_5_code 23 = .ok (.iload 4, 2) := by decide +kernel
theorem d20_25 : decode prog_34_method_5_code 25 = .ok (.bipush 127, 2) := by decide +kernel
theorem d20_27 : decode prog_34_method_5_code 27 = .ok (.iand, 1) := by decide +kernel
theorem d20_28 : decode prog_34_method_5_code 28 = .ok (.i2l, 1) := by decide +kernel
theorem d20_29 : decode prog_34_method_5_code 29 = .ok (.iload_n 3, 1) := by decide +kernel
theorem d20_30 : decode prog_34_method_5_code 30 = .ok (.lshl, 1) := by decide +kernel
theorem d20_31 : decode prog_34_method_5_code 31 = .ok (.lor, 1) := by decide +kernel
theorem d20_32 : decode prog_34_method_5_code 32 = .ok (.lstore_n 1, 1) := by decide +kernel
theorem d20_33 : decode prog_34_method_5_code 33 = .ok (.iload 4, 2) := by decide +kernel
theorem d20_35 : decode prog_34_method_5_code 35 = .ok (.ifCond .lt 5, 3) := by decide +kernel
theorem d20_38 : decode prog_34_method_5_code 38 = .ok (.lload_n 1, 1) := by decide +kernel
theorem d20_39 : decode prog_34_method_5_code 39 = .ok (.lreturn, 1) := by decide +kernel
theorem d20_40 : decode prog_34_method_5_code 40 = .ok (.iinc 3 7, 3) := by decide +kernel
theorem d20_43 : decode prog_34_method_5_code 43 = .ok (.goto (-39), 3) := by decide +kernel
theorem pn_20 : plainName "com/example/termwright/termwright/Spool$Record" = true := by first | (simp [plainName, overriddenIn]; done) | decide +kernel
set_option maxRecDepth 65536 in
set_option maxHeartbeats 40000000 in
theorem own_ln {p : Program} {l : Launch} {e : Env} {s : State} {m : MethodId} {args : Array Value} {below : List Frame} {meth : Method} {c : Code} {Z : State} {a0' : Array Value} {h0 : Heap} {n0 : Nat} {a0 t : Addr} (hx : p.tables.exec = Jvm.exec) (hlk : meth.locks = false) (hZ : Z.Warmed39 s.vm) (hw : ∀ d ∈ tables_1, d.before a0' Z = true) (hby : c.code = prog_34_method_5_code) (hml : c.maxLocals = 5) (hown : s.vm.findClass "com/example/termwright/termwright/Spool$Record" = some m.cls) (hret : meth.sig.returnType = (some .long)) (g_a0 : n0 ≤ a0) (g_t : n0 ≤ t) (hne : a0 ≠ t) {q : Int64} (n1 : Nat) : ∀ {T0 : State} {locs : List Loc} {h1 : Heap} {A : Int64} {k a : Nat} {s4 : Slot} {l1 p1 : Nat} {g1 : Nat → Int32} (X0 : Stand p l e ({ frames := 0, cells := 0, slots := 0, locals := 0 } : Room) s m args below meth c T0 locs 0 0) (N0 : Fr n0 locs) (e0 : T0.heap = h1) (hp : p1 + own_len n1 ≤ 256) (hA : A.toInt = (a : Int)) (hk : k < 9) (ha : a < 2 ^ (7 * k)) (hq : q.toInt = ((2 ^ (7 * k) * n1 + a : Nat) : Int)) (hn : 2 ^ (7 * k) * n1 + a < 2 ^ 63) (o_s4 : s4 = .unset ∨ ∃ w, s4 = .val w ∧ w.category = 1) (hat : own_at g1 p1 n1) (K0 : Keep h0 h1 [a0]) (E0 : Exa Z h1 a0 "com/example/termwright/termwright/Spool$Record") (Fb : Fld Z h1 a0 "com/example/termwright/termwright/Spool$Record" "bytes" "[B" (.ref t)) (Fl : Fld Z h1 a0 "com/example/termwright/termwright/Spool$Record" "length" "I" (.int (Int32.ofInt ((l1 : Nat) : Int)))) (Fp : Fld Z h1 a0 "com/example/termwright/termwright/Spool$Record" "position" "I" (.int (Int32.ofInt ((p1 : Nat) : Int)))) (M0 : own_M Z h1 t g1) (Z1 : n0 ≤ h1.size),
    own_G p.tables e below (own_E s 0 0) (own_Qr Z (some (.long q)) [a0] a0 t l1 (p1 + own_len n1) g1 h0 n0) (T0.setTop (mkF m 4 #[.val (.ref a0), .val (.long A), .second, .val (.int (Int32.ofInt ((7 * k : Nat) : Int))), s4] [])) := by
  induction n1 using Nat.strongRecOn with
  | ind n1 ih =>
    intro T0 locs h1 A k a s4 l1 p1 g1 X0 N0 e0 hp hA hk ha hq hn o_s4 hat K0 E0 Fb Fl Fp M0 Z1
    have hpos := own_len_pos n1
    by_cases hlt : n1 < 128
    · obtain ⟨b0, hb0⟩ : ∃ z, g1 p1 = z := ⟨_, rfl⟩
      have hb1 : b0 = own_rlo n1 := hb0.symm.trans ((own_at_lo hlt).mp hat)
      have hbi : (b0 &&& (127 : Int32)).toInt = ((n1 : Nat) : Int) := by rw [hb1]; exact own_rlo_and hlt
      refine own_st ?_ (fun t_ k_ => XS.aloadN X0.here hx rfl (hb hby d20_4) rfl rfl k_)
      show own_G p.tables e below _ _ (T0.setTop (mkF m 5 #[.val (.ref a0), .val (.long A), .second, .val (.int (Int32.ofInt ((7 * k : Nat) : Int))), s4] [(.ref a0)]))
      obtain ⟨T1, X1, e1, st1⟩ := getF X0 hx hZ hown (host := "") (Or.inl (hw _ (List.mem_of_getElem? (i := 44) rfl))) Via.refl e0 Fb (g := (mkF m 5 #[.val (.ref a0), .val (.long A), .second, .val (.int (Int32.ofInt ((7 * k : Nat) : Int))), s4] [(.ref a0)])) rfl rfl (hb hby d20_5)
      refine own_st ?_ st1
      show own_G p.tables e below _ _ (T1.setTop (mkF m 8 #[.val (.ref a0), .val (.long A), .second, .val (.int (Int32.ofInt ((7 * k : Nat) : Int))), s4] [(.ref t)]))
      refine own_st ?_ (fun t_ k_ => XS.aloadN X1.here hx rfl (hb hby d20_8) rfl rfl k_)
      show own_G p.tables e below _ _ (T1.setTop (mkF m 9 #[.val (.ref a0), .val (.long A), .second, .val (.int (Int32.ofInt ((7 * k : Nat) : Int))), s4] [(.ref a0), (.ref t)]))
      refine own_st ?_ (fun t_ k_ => XS.dup X1.here hx rfl (hb hby d20_9) rfl rfl k_)
      show own_G p.tables e below _ _ (T1.setTop (mkF m 10 #[.val (.ref a0), .val (.long A), .second, .val (.int (Int32.ofInt ((7 * k : Nat) : Int))), s4] [(.ref a0), (.ref a0), (.ref t)]))
      obtain ⟨T2, X2, e2, st2⟩ := getF X1 hx hZ hown (host := "") (Or.inl (hw _ (List.mem_of_getElem? (i := 109) rfl))) Via.refl e1 Fp (g := (mkF m 10 #[.val (.ref a0), .val (.long A), .second, .val (.int (Int32.ofInt ((7 * k : Nat) : Int))), s4] [(.ref a0), (.ref a0), (.ref t)])) rfl rfl (hb hby d20_10)
      refine own_st ?_ st2
      show own_G p.tables e below _ _ (T2.setTop (mkF m 13 #[.val (.ref a0), .val (.long A), .second, .val (.int (Int32.ofInt ((7 * k : Nat) : Int))), s4] [(.int (Int32.ofInt ((p1 : Nat) : Int))), (.ref a0), (.ref t)]))
      refine own_st ?_ (fun t_ k_ => XS.dupX1 X2.here hx rfl (hb hby d20_13) rfl rfl rfl k_)
      show own_G p.tables e below _ _ (T2.setTop (mkF m 14 #[.val (.ref a0), .val (.long A), .second, .val (.int (Int32.ofInt ((7 * k : Nat) : Int))), s4] [(.int (Int32.ofInt ((p1 : Nat) : Int))), (.ref a0), (.int (Int32.ofInt ((p1 : Nat) : Int))), (.ref t)]))
      refine own_st ?_ (fun t_ k_ => XS.iconst X2.here hx rfl (hb hby d20_14) k_)
      show own_G p.tables e below _ _ (T2.setTop (mkF m 15 #[.val (.ref a0), .val (.long A), .second, .val (.int (Int32.ofInt ((7 * k : Nat) : Int))), s4] [(.int (1 : Int32)), (.int (Int32.ofInt ((p1 : Nat) : Int))), (.ref a0), (.int (Int32.ofInt ((p1 : Nat) : Int))), (.ref t)]))
      refine own_st ?_ (fun t_ k_ => XS.iadd X2.here hx rfl (hb hby d20_15) rfl k_)
      show own_G p.tables e below _ _ (T2.setTop (mkF m 16 #[.val (.ref a0), .val (.long A), .second, .val (.int (Int32.ofInt ((7 * k : Nat) : Int))), s4] [(.int ((Int32.ofInt ((p1 : Nat) : Int)) + (1 : Int32))), (.ref a0), (.int (Int32.ofInt ((p1 : Nat) : Int))), (.ref t)]))
      obtain ⟨T3, h3, X3, e3, W3, st3⟩ := putF X2 hx hZ hown (host := "") (Or.inl (hw _ (List.mem_of_getElem? (i := 109) rfl))) Via.refl e2 Fp E0 (Or.inl (hw _ (List.mem_of_getElem? (i := 110) rfl))) (hw _ (List.mem_of_getElem? (i := 38) rfl)) (ty := .int) (by decide) rfl rfl (g := (mkF m 16 #[.val (.ref a0), .val (.long A), .second, .val (.int (Int32.ofInt ((7 * k : Nat) : Int))), s4] [(.int ((Int32.ofInt ((p1 : Nat) : Int)) + (1 : Int32))), (.ref a0), (.int (Int32.ofInt ((p1 : Nat) : Int))), (.ref t)])) rfl rfl (hb hby d20_16)
      have N3 := Fr.snoc X3 N0 g_a0
      have F4_E : Exa Z h3 a0 "com/example/termwright/termwright/Spool$Record" := E0.wr W3
      have F5_bytes : Fld Z h3 a0 "com/example/termwright/termwright/Spool$Record" "bytes" "[B" (.ref t) := Fb.other W3 (Or.inr (slot_ne (Or.inl (hw _ (List.mem_of_getElem? (i := 45) rfl))) (Or.inl (hw _ (List.mem_of_getElem? (i := 110) rfl))) (by decide) (t := (.array .byte)) (t' := .int) (by decide) (by decide)))
      have F6_length : Fld Z h3 a0 "com/example/termwright/termwright/Spool$Record" "length" "I" (.int (Int32.ofInt ((l1 : Nat) : Int))) := Fl.other W3 (Or.inr (slot_ne (Or.inl (hw _ (List.mem_of_getElem? (i := 72) rfl))) (Or.inl (hw _ (List.mem_of_getElem? (i := 110) rfl))) (by decide) (t := .int) (t' := .int) (by decide) (by decide)))
      have F7_position : Fld Z h3 a0 "com/example/termwright/termwright/Spool$Record" "position" "I" (.int ((Int32.ofInt ((p1 : Nat) : Int)) + (1 : Int32))) := Fp.same W3
      have F8_P : own_M Z h3 t g1 := own_M_keep M0 (Keep.of_wr W3) (ninS (Ne.symm hne) nin0)
      have Zs9 : n0 ≤ h3.size := Nat.le_trans Z1 (Keep.of_wr W3).1
      have Kc10 : Keep h0 h3 [a0] := K0.wr W3 (Or.inl (List.mem_of_getElem? (i := 0) rfl))
      refine own_st ?_ st3
      show own_G p.tables e below _ _ (T3.setTop (mkF m 19 #[.val (.ref a0), .val (.long A), .second, .val (.int (Int32.ofInt ((7 * k : Nat) : Int))), s4] [(.int (Int32.ofInt ((p1 : Nat) : Int))), (.ref t)]))
      obtain ⟨cl11, Ar11, S11, G11⟩ := F8_P
      have hin11 : ¬ ((Int32.ofInt ((p1 : Nat) : Int)) < 0 ∨ cl11.slots.size ≤ ((Int32.ofInt ((p1 : Nat) : Int))).toNatClampNeg) := by rw [S11]; exact own_inx (by omega) (by decide)
      have hat11 : cl11.slots[((Int32.ofInt ((p1 : Nat) : Int))).toNatClampNeg]? = some (.int b0) := by rw [own_rclamp (by omega), ← hb0]; exact G11 _ (by omega)
      refine own_st ?_ (X3.baloadBytes hx (j := (Int32.ofInt ((p1 : Nat) : Int))) (v := (.int b0)) (by rw [e3]; exact Ar11.1) (State.isArrayOf_alike hZ.alike Ar11.2.1) Ar11.2.2 hin11 hat11 (g := (mkF m 19 #[.val (.ref a0), .val (.long A), .second, .val (.int (Int32.ofInt ((7 * k : Nat) : Int))), s4] [(.int (Int32.ofInt ((p1 : Nat) : Int))), (.ref t)])) rfl rfl (hb hby d20_19))
      have M11 : own_M Z h3 t g1 := ⟨cl11, Ar11, S11, G11⟩
      show own_G p.tables e below _ _ (T3.setTop (mkF m 20 #[.val (.ref a0), .val (.long A), .second, .val (.int (Int32.ofInt ((7 * k : Nat) : Int))), s4] [(.int b0)]))
      refine own_st ?_ (fun t_ k_ => XS.istoreS X3.here hx rfl (hb hby d20_20) rfl (o := s4) rfl o_s4 k_)
      show own_G p.tables e below _ _ (T3.setTop (mkF m 22 #[.val (.ref a0), .val (.long A), .second, .val (.int (Int32.ofInt ((7 * k : Nat) : Int))), .val (.int b0)] []))
      refine own_st ?_ (fun t_ k_ => XS.lloadN X3.here hx rfl (hb hby d20_22) rfl k_)
      show own_G p.tables e below _ _ (T3.setTop (mkF m 23 #[.val (.ref a0), .val (.long A), .second, .val (.int (Int32.ofInt ((7 * k : Nat) : Int))), .val (.int b0)] [(.long A)]))
      refine own_st ?_ (fun t_ k_ => XS.iload X3.here hx rfl (hb hby d20_23) rfl k_)
      show own_G p.tables e below _ _ (T3.setTop (mkF m 25 #[.val (.ref a0), .val (.long A), .second, .val (.int (Int32.ofInt ((7 * k : Nat) : Int))), .val (.int b0)] [(.int b0), (.long A)]))
      refine own_st ?_ (fun t_ k_ => XS.bipush X3.here hx rfl (hb hby d20_25) k_)
      show own_G p.tables e below _ _ (T3.setTop (mkF m 27 #[.val (.ref a0), .val (.long A), .second, .val (.int (Int32.ofInt ((7 * k : Nat) : Int))), .val (.int b0)] [(.int (127 : Int32)), (.int b0), (.long A)]))
      refine own_st ?_ (fun t_ k_ => XS.iand X3.here hx rfl (hb hby d20_27) rfl k_)
      show own_G p.tables e below _ _ (T3.setTop (mkF m 28 #[.val (.ref a0), .val (.long A), .second, .val (.int (Int32.ofInt ((7 * k : Nat) : Int))), .val (.int b0)] [(.int (b0 &&& (127 : Int32))), (.long A)]))
      refine own_st ?_ (fun t_ k_ => XS.i2l X3.here hx rfl (hb hby d20_28) rfl k_)
      show own_G p.tables e below _ _ (T3.setTop (mkF m 29 #[.val (.ref a0), .val (.long A), .second, .val (.int (Int32.ofInt ((7 * k : Nat) : Int))), .val (.int b0)] [(.long ((b0 &&& (127 : Int32)).toInt64)), (.long A)]))
      refine own_st ?_ (fun t_ k_ => XS.iloadN X3.here hx rfl (hb hby d20_29) rfl k_)
      show own_G p.tables e below _ _ (T3.setTop (mkF m 30 #[.val (.ref a0), .val (.long A), .second, .val (.int (Int32.ofInt ((7 * k : Nat) : Int))), .val (.int b0)] [(.int (Int32.ofInt ((7 * k : Nat) : Int))), (.long ((b0 &&& (127 : Int32)).toInt64)), (.long A)]))
      refine own_st ?_ (fun t_ k_ => XS.lshl X3.here hx rfl (hb hby d20_30) rfl k_)
      show own_G p.tables e below _ _ (T3.setTop (mkF m 31 #[.val (.ref a0), .val (.long A), .second, .val (.int (Int32.ofInt ((7 * k : Nat) : Int))), .val (.int b0)] [(.long (((b0 &&& (127 : Int32)).toInt64) <<< ((Int32.ofInt ((7 * k : Nat) : Int)) &&& 0x3f).toInt64)), (.long A)]))
      refine own_st ?_ (fun t_ k_ => XS.lor X3.here hx rfl (hb hby d20_31) rfl k_)
      show own_G p.tables e below _ _ (T3.setTop (mkF m 32 #[.val (.ref a0), .val (.long A), .second, .val (.int (Int32.ofInt ((7 * k : Nat) : Int))), .val (.int b0)] [(.long (A ||| (((b0 &&& (127 : Int32)).toInt64) <<< ((Int32.ofInt ((7 * k : Nat) : Int)) &&& 0x3f).toInt64)))]))
      refine own_st ?_ (fun t_ k_ => XS.lstoreN X3.here hx rfl (hb hby d20_32) rfl (l' := #[.val (.ref a0), .val (.long (A ||| (((b0 &&& (127 : Int32)).toInt64) <<< ((Int32.ofInt ((7 * k : Nat) : Int)) &&& 0x3f).toInt64))), .second, .val (.int (Int32.ofInt ((7 * k : Nat) : Int))), .val (.int b0)]) rfl k_)
      show own_G p.tables e below _ _ (T3.setTop (mkF m 33 #[.val (.ref a0), .val (.long (A ||| (((b0 &&& (127 : Int32)).toInt64) <<< ((Int32.ofInt ((7 * k : Nat) : Int)) &&& 0x3f).toInt64))), .second, .val (.int (Int32.ofInt ((7 * k : Nat) : Int))), .val (.int b0)] []))
      refine own_st ?_ (fun t_ k_ => XS.iload X3.here hx rfl (hb hby d20_33) rfl k_)
      show own_G p.tables e below _ _ (T3.setTop (mkF m 35 #[.val (.ref a0), .val (.long (A ||| (((b0 &&& (127 : Int32)).toInt64) <<< ((Int32.ofInt ((7 * k : Nat) : Int)) &&& 0x3f).toInt64))), .second, .val (.int (Int32.ofInt ((7 * k : Nat) : Int))), .val (.int b0)] [(.int b0)]))
      refine own_st ?_ (fun t_ k_ => XS.ifNo X3.here hx rfl (hb hby d20_35) rfl ((if0 _ _).trans (flt (show ¬ (b0 < (0 : Int32)) from by rw [hb1]; exact own_rlo_nn hlt)).1) k_)
      show own_G p.tables e below _ _ (T3.setTop (mkF m 38 #[.val (.ref a0), .val (.long (A ||| (((b0 &&& (127 : Int32)).toInt64) <<< ((Int32.ofInt ((7 * k : Nat) : Int)) &&& 0x3f).toInt64))), .second, .val (.int (Int32.ofInt ((7 * k : Nat) : Int))), .val (.int b0)] []))
      refine own_st ?_ (fun t_ k_ => XS.lloadN X3.here hx rfl (hb hby d20_38) rfl k_)
      show own_G p.tables e below _ _ (T3.setTop (mkF m 39 #[.val (.ref a0), .val (.long (A ||| (((b0 &&& (127 : Int32)).toInt64) <<< ((Int32.ofInt ((7 * k : Nat) : Int)) &&& 0x3f).toInt64))), .second, .val (.int (Int32.ofInt ((7 * k : Nat) : Int))), .val (.int b0)] [(.long (A ||| (((b0 &&& (127 : Int32)).toInt64) <<< ((Int32.ofInt ((7 * k : Nat) : Int)) &&& 0x3f).toInt64)))]))
      have hres : (A ||| (((b0 &&& (127 : Int32)).toInt64) <<< ((Int32.ofInt ((7 * k : Nat) : Int)) &&& 0x3f).toInt64)) = q := Int64.toInt_inj.mp (by rw [own_acc (i := k) hA hbi ha hk (by omega), hq])
      refine own_retJ X3 hx hlk hret (hb hby d20_39) (by decide) (by decide) ⟨by rw [hres], N3, ?_⟩
      rw [e3, own_len_lo hlt]
      exact ⟨Kc10, F5_bytes, F6_length, by rw [← own_rinc]; exact F7_position, M11⟩
    · obtain ⟨b0, hb0⟩ : ∃ z, g1 p1 = z := ⟨_, rfl⟩
      have hb1 : b0 = own_rhi n1 := hb0.symm.trans ((own_at_hi hlt).mp hat).1
      have hbi : (b0 &&& (127 : Int32)).toInt = ((n1 % 128 : Nat) : Int) := by rw [hb1]; exact own_rhi_and n1
      refine own_st ?_ (fun t_ k_ => XS.aloadN X0.here hx rfl (hb hby d20_4) rfl rfl k_)
      show own_G p.tables e below _ _ (T0.setTop (mkF m 5 #[.val (.ref a0), .val (.long A), .second, .val (.int (Int32.ofInt ((7 * k : Nat) : Int))), s4] [(.ref a0)]))
      obtain ⟨T12, X12, e12, st12⟩ := getF X0 hx hZ hown (host := "") (Or.inl (hw _ (List.mem_of_getElem? (i := 44) rfl))) Via.refl e0 Fb (g := (mkF m 5 #[.val (.ref a0), .val (.long A), .second, .val (.int (Int32.ofInt ((7 * k : Nat) : Int))), s4] [(.ref a0)])) rfl rfl (hb hby d20_5)
      refine own_st ?_ st12
      show own_G p.tables e below _ _ (T12.setTop (mkF m 8 #[.val (.ref a0), .val (.long A), .second, .val (.int (Int32.ofInt ((7 * k : Nat) : Int))), s4] [(.ref t)]))
      refine own_st ?_ (fun t_ k_ => XS.aloadN X12.here hx rfl (hb hby d20_8) rfl rfl k_)
      show own_G p.tables e below _ _ (T12.setTop (mkF m 9 #[.val (.ref a0), .val (.long A), .second, .val (.int (Int32.ofInt ((7 * k : Nat) : Int))), s4] [(.ref a0), (.ref t)]))
      refine own_st ?_ (fun t_ k_ => XS.dup X12.here hx rfl (hb hby d20_9) rfl rfl k_)
      show own_G p.tables e below _ _ (T12.setTop (mkF m 10 #[.val (.ref a0), .val (.long A), .second, .val (.int (Int32.ofInt ((7 * k : Nat) : Int))), s4] [(.ref a0), (.ref a0), (.ref t)]))
      obtain ⟨T13, X13, e13, st13⟩ := getF X12 hx hZ hown (host := "") (Or.inl (hw _ (List.mem_of_getElem? (i := 109) rfl))) Via.refl e12 Fp (g := (mkF m 10 #[.val (.ref a0), .val (.long A), .second, .val (.int (Int32.ofInt ((7 * k : Nat) : Int))), s4] [(.ref a0), (.ref a0), (.ref t)])) rfl rfl (hb hby d20_10)
      refine own_st ?_ st13
      show own_G p.tables e below _ _ (T13.setTop (mkF m 13 #[.val (.ref a0), .val (.long A), .second, .val (.int (Int32.ofInt ((7 * k : Nat) : Int))), s4] [(.int (Int32.ofInt ((p1 : Nat) : Int))), (.ref a0), (.ref t)]))
      refine own_st ?_ (fun t_ k_ => XS.dupX1 X13.here hx rfl (hb hby d20_13) rfl rfl rfl k_)
      show own_G p.tables e below _ _ (T13.setTop (mkF m 14 #[.val (.ref a0), .val (.long A), .second, .val (.int (Int32.ofInt ((7 * k : Nat) : Int))), s4] [(.int (Int32.ofInt ((p1 : Nat) : Int))), (.ref a0), (.int (Int32.ofInt ((p1 : Nat) : Int))), (.ref t)]))
      refine own_st ?_ (fun t_ k_ => XS.iconst X13.here hx rfl (hb hby d20_14) k_)
      show own_G p.tables e below _ _ (T13.setTop (mkF m 15 #[.val (.ref a0), .val (.long A), .second, .val (.int (Int32.ofInt ((7 * k : Nat) : Int))), s4] [(.int (1 : Int32)), (.int (Int32.ofInt ((p1 : Nat) : Int))), (.ref a0), (.int (Int32.ofInt ((p1 : Nat) : Int))), (.ref t)]))
      refine own_st ?_ (fun t_ k_ => XS.iadd X13.here hx rfl (hb hby d20_15) rfl k_)
      show own_G p.tables e below _ _ (T13.setTop (mkF m 16 #[.val (.ref a0), .val (.long A), .second, .val (.int (Int32.ofInt ((7 * k : Nat) : Int))), s4] [(.int ((Int32.ofInt ((p1 : Nat) : Int)) + (1 : Int32))), (.ref a0), (.int (Int32.ofInt ((p1 : Nat) : Int))), (.ref t)]))
      obtain ⟨T14, h14, X14, e14, W14, st14⟩ := putF X13 hx hZ hown (host := "") (Or.inl (hw _ (List.mem_of_getElem? (i := 109) rfl))) Via.refl e13 Fp E0 (Or.inl (hw _ (List.mem_of_getElem? (i := 110) rfl))) (hw _ (List.mem_of_getElem? (i := 38) rfl)) (ty := .int) (by decide) rfl rfl (g := (mkF m 16 #[.val (.ref a0), .val (.long A), .second, .val (.int (Int32.ofInt ((7 * k : Nat) : Int))), s4] [(.int ((Int32.ofInt ((p1 : Nat) : Int)) + (1 : Int32))), (.ref a0), (.int (Int32.ofInt ((p1 : Nat) : Int))), (.ref t)])) rfl rfl (hb hby d20_16)
      have N14 := Fr.snoc X14 N0 g_a0
      have F15_E : Exa Z h14 a0 "com/example/termwright/termwright/Spool$Record" := E0.wr W14
      have F16_bytes : Fld Z h14 a0 "com/example/termwright/termwright/Spool$Record" "bytes" "[B" (.ref t) := Fb.other W14 (Or.inr (slot_ne (Or.inl (hw _ (List.mem_of_getElem? (i := 45) rfl))) (Or.inl (hw _ (List.mem_of_getElem? (i := 110) rfl))) (by decide) (t := (.array .byte)) (t' := .int) (by decide) (by decide)))
      have F17_length : Fld Z h14 a0 "com/example/termwright/termwright/Spool$Record" "length" "I" (.int (Int32.ofInt ((l1 : Nat) : Int))) := Fl.other W14 (Or.inr (slot_ne (Or.inl (hw _ (List.mem_of_getElem? (i := 72) rfl))) (Or.inl (hw _ (List.mem_of_getElem? (i := 110) rfl))) (by decide) (t := .int) (t' := .int) (by decide) (by decide)))
      have F18_position : Fld Z h14 a0 "com/example/termwright/termwright/Spool$Record" "position" "I" (.int ((Int32.ofInt ((p1 : Nat) : Int)) + (1 : Int32))) := Fp.same W14
      have F19_P : own_M Z h14 t g1 := own_M_keep M0 (Keep.of_wr W14) (ninS (Ne.symm hne) nin0)
      have Zs20 : n0 ≤ h14.size := Nat.le_trans Z1 (Keep.of_wr W14).1
      have Kc21 : Keep h0 h14 [a0] := K0.wr W14 (Or.inl (List.mem_of_getElem? (i := 0) rfl))
      refine own_st ?_ st14
      show own_G p.tables e below _ _ (T14.setTop (mkF m 19 #[.val (.ref a0), .val (.long A), .second, .val (.int (Int32.ofInt ((7 * k : Nat) : Int))), s4] [(.int (Int32.ofInt ((p1 : Nat) : Int))), (.ref t)]))
      obtain ⟨cl22, Ar22, S22, G22⟩ := F19_P
      have hin22 : ¬ ((Int32.ofInt ((p1 : Nat) : Int)) < 0 ∨ cl22.slots.size ≤ ((Int32.ofInt ((p1 : Nat) : Int))).toNatClampNeg) := by rw [S22]; exact own_inx (by omega) (by decide)
      have hat22 : cl22.slots[((Int32.ofInt ((p1 : Nat) : Int))).toNatClampNeg]? = some (.int b0) := by rw [own_rclamp (by omega), ← hb0]; exact G22 _ (by omega)
      refine own_st ?_ (X14.baloadBytes hx (j := (Int32.ofInt ((p1 : Nat) : Int))) (v := (.int b0)) (by rw [e14]; exact Ar22.1) (State.isArrayOf_alike hZ.alike Ar22.2.1) Ar22.2.2 hin22 hat22 (g := (mkF m 19 #[.val (.ref a0), .val (.long A), .second, .val (.int (Int32.ofInt ((7 * k : Nat) : Int))), s4] [(.int (Int32.ofInt ((p1 : Nat) : Int))), (.ref t)])) rfl rfl (hb hby d20_19))
      have M22 : own_M Z h14 t g1 := ⟨cl22, Ar22, S22, G22⟩
      show own_G p.tables e below _ _ (T14.setTop (mkF m 20 #[.val (.ref a0), .val (.long A), .second, .val (.int (Int32.ofInt ((7 * k : Nat) : Int))), s4] [(.int b0)]))
      refine own_st ?_ (fun t_ k_ => XS.istoreS X14.here hx rfl (hb hby d20_20) rfl (o := s4) rfl o_s4 k_)
      show own_G p.tables e below _ _ (T14.setTop (mkF m 22 #[.val (.ref a0), .val (.long A), .second, .val (.int (Int32.ofInt ((7 * k : Nat) : Int))), .val (.int b0)] []))
      refine own_st ?_ (fun t_ k_ => XS.lloadN X14.here hx rfl (hb hby d20_22) rfl k_)
      show own_G p.tables e below _ _ (T14.setTop (mkF m 23 #[.val (.ref a0), .val (.long A), .second, .val (.int (Int32.ofInt ((7 * k : Nat) : Int))), .val (.int b0)] [(.long A)]))
      refine own_st ?_ (fun t_ k_ => XS.iload X14.here hx rfl (hb hby d20_23) rfl k_)
      show own_G p.tables e below _ _ (T14.setTop (mkF m 25 #[.val (.ref a0), .val (.long A), .second, .val (.int (Int32.ofInt ((7 * k : Nat) : Int))), .val (.int b0)] [(.int b0), (.long A)]))
      refine own_st ?_ (fun t_ k_ => XS.bipush X14.here hx rfl (hb hby d20_25) k_)
      show own_G p.tables e below _ _ (T14.setTop (mkF m 27 #[.val (.ref a0), .val (.long A), .second, .val (.int (Int32.ofInt ((7 * k : Nat) : Int))), .val (.int b0)] [(.int (127 : Int32)), (.int b0), (.long A)]))
      refine own_st ?_ (fun t_ k_ => XS.iand X14.here hx rfl (hb hby d20_27) rfl k_)
      show own_G p.tables e below _ _ (T14.setTop (mkF m 28 #[.val (.ref a0), .val (.long A), .second, .val (.int (Int32.ofInt ((7 * k : Nat) : Int))), .val (.int b0)] [(.int (b0 &&& (127 : Int32))), (.long A)]))
      refine own_st ?_ (fun t_ k_ => XS.i2l X14.here hx rfl (hb hby d20_28) rfl k_)
      show own_G p.tables e below _ _ (T14.setTop (mkF m 29 #[.val (.ref a0), .val (.long A), .second, .val (.int (Int32.ofInt ((7 * k : Nat) : Int))), .val (.int b0)] [(.long ((b0 &&& (127 : Int32)).toInt64)), (.long A)]))
      refine own_st ?_ (fun t_ k_ => XS.iloadN X14.here hx rfl (hb hby d20_29) rfl k_)
      show own_G p.tables e below _ _ (T14.setTop (mkF m 30 #[.val (.ref a0), .val (.long A), .second, .val (.int (Int32.ofInt ((7 * k : Nat) : Int))), .val (.int b0)] [(.int (Int32.ofInt ((7 * k : Nat) : Int))), (.long ((b0 &&& (127 : Int32)).toInt64)), (.long A)]))
      refine own_st ?_ (fun t_ k_ => XS.lshl X14.here hx rfl (hb hby d20_30) rfl k_)
      show own_G p.tables e below _ _ (T14.setTop (mkF m 31 #[.val (.ref a0), .val (.long A), .second, .val (.int (Int32.ofInt ((7 * k : Nat) : Int))), .val (.int b0)] [(.long (((b0 &&& (127 : Int32)).toInt64) <<< ((Int32.ofInt ((7 * k : Nat) : Int)) &&& 0x3f).toInt64)), (.long A)]))
      refine own_st ?_ (fun t_ k_ => XS.lor X14.here hx rfl (hb hby d20_31) rfl k_)
      show own_G p.tables e below _ _ (T14.setTop (mkF m 32 #[.val (.ref a0), .val (.long A), .second, .val (.int (Int32.ofInt ((7 * k : Nat) : Int))), .val (.int b0)] [(.long (A ||| (((b0 &&& (127 : Int32)).toInt64) <<< ((Int32.ofInt ((7 * k : Nat) : Int)) &&& 0x3f).toInt64)))]))
      refine own_st ?_ (fun t_ k_ => XS.lstoreN X14.here hx rfl (hb hby d20_32) rfl (l' := #[.val (.ref a0), .val (.long (A ||| (((b0 &&& (127 : Int32)).toInt64) <<< ((Int32.ofInt ((7 * k : Nat) : Int)) &&& 0x3f).toInt64))), .second, .val (.int (Int32.ofInt ((7 * k : Nat) : Int))), .val (.int b0)]) rfl k_)
      show own_G p.tables e below _ _ (T14.setTop (mkF m 33 #[.val (.ref a0), .val (.long (A ||| (((b0 &&& (127 : Int32)).toInt64) <<< ((Int32.ofInt ((7 * k : Nat) : Int)) &&& 0x3f).toInt64))), .second, .val (.int (Int32.ofInt ((7 * k : Nat) : Int))), .val (.int b0)] []))
      refine own_st ?_ (fun t_ k_ => XS.iload X14.here hx rfl (hb hby d20_33) rfl k_)
      show own_G p.tables e below _ _ (T14.setTop (mkF m 35 #[.val (.ref a0), .val (.long (A ||| (((b0 &&& (127 : Int32)).toInt64) <<< ((Int32.ofInt ((7 * k : Nat) : Int)) &&& 0x3f).toInt64))), .second, .val (.int (Int32.ofInt ((7 * k : Nat) : Int))), .val (.int b0)] [(.int b0)]))
      refine own_st ?_ (fun t_ k_ => XS.ifYes X14.here hx rfl (pc0 := 35) (pc' := 40) rfl (hb hby d20_35) rfl ((if0 _ _).trans (tlt (show b0 < (0 : Int32) from by rw [hb1]; exact own_rhi_neg n1)).1) (by decide) (by decide) k_)
      show own_G p.tables e below _ _ (T14.setTop (mkF m 40 #[.val (.ref a0), .val (.long (A ||| (((b0 &&& (127 : Int32)).toInt64) <<< ((Int32.ofInt ((7 * k : Nat) : Int)) &&& 0x3f).toInt64))), .second, .val (.int (Int32.ofInt ((7 * k : Nat) : Int))), .val (.int b0)] []))
      refine own_st ?_ (fun t_ k_ => XS.iinc X14.here hx rfl (hb hby d20_40) rfl (l' := #[.val (.ref a0), .val (.long (A ||| (((b0 &&& (127 : Int32)).toInt64) <<< ((Int32.ofInt ((7 * k : Nat) : Int)) &&& 0x3f).toInt64))), .second, .val (.int ((Int32.ofInt ((7 * k : Nat) : Int)) + (7 : Int32))), .val (.int b0)]) rfl k_)
      show own_G p.tables e below _ _ (T14.setTop (mkF m 43 #[.val (.ref a0), .val (.long (A ||| (((b0 &&& (127 : Int32)).toInt64) <<< ((Int32.ofInt ((7 * k : Nat) : Int)) &&& 0x3f).toInt64))), .second, .val (.int ((Int32.ofInt ((7 * k : Nat) : Int)) + (7 : Int32))), .val (.int b0)] []))
      refine own_st ?_ (fun t_ k_ => XS.goto X14.here hx rfl (pc0 := 43) (pc' := 4) rfl (hb hby d20_43) (by decide) (by decide) k_)
      show own_G p.tables e below _ _ (T14.setTop (mkF m 4 #[.val (.ref a0), .val (.long (A ||| (((b0 &&& (127 : Int32)).toInt64) <<< ((Int32.ofInt ((7 * k : Nat) : Int)) &&& 0x3f).toInt64))), .second, .val (.int ((Int32.ofInt ((7 * k : Nat) : Int)) + (7 : Int32))), .val (.int b0)] []))
      have Fp23 : Fld Z h14 a0 "com/example/termwright/termwright/Spool$Record" "position" "I" (.int (Int32.ofInt ((p1 + 1 : Nat) : Int))) := by rw [← own_rinc]; exact F18_position
      have hk23 : 2 ^ (7 * (k + 1)) = 2 ^ (7 * k) * 128 := by rw [show 7 * (k + 1) = 7 * k + 7 by omega, Nat.pow_add]
      have hd23 : 2 ^ (7 * k) * n1 = 2 ^ (7 * k) * 128 * (n1 / 128) + 2 ^ (7 * k) * (n1 % 128) := by rw [Nat.mul_assoc, ← Nat.mul_add, Nat.div_add_mod]
      have hle23 : 2 ^ (7 * k) * (n1 % 128) + 2 ^ (7 * k) ≤ 2 ^ (7 * k) * 128 := by rw [← Nat.mul_succ]; exact Nat.mul_le_mul_left _ (by omega)
      have hsm23 : 2 ^ (7 * k) * (n1 % 128) ≤ 2 ^ (7 * k) * n1 := Nat.mul_le_mul_left _ (Nat.mod_le _ _)
      have hacc23 := own_acc (i := k) hA hbi ha hk (by omega)
      have hk923 : k + 1 < 9 := own_k9 hlt hn
      have ih23 := ih (n1 / 128) (by omega) (A := (A ||| (((b0 &&& (127 : Int32)).toInt64) <<< ((Int32.ofInt ((7 * k : Nat) : Int)) &&& 0x3f).toInt64))) (k := k + 1) (a := 2 ^ (7 * k) * (n1 % 128) + a) (s4 := .val (.int b0)) X14 N14 e14 (by have := own_len_hi hlt; omega) hacc23 hk923 (by rw [hk23]; omega) (by rw [hk23]; rw [hq]; omega) (by rw [hk23]; omega) (Or.inr ⟨_, rfl, rfl⟩) ((own_at_hi hlt).mp hat).2 Kc21 F15_E F16_bytes F17_length Fp23 M22 Zs20
      rw [own_len_hi hlt, show p1 + (own_len (n1 / 128) + 1) = p1 + 1 + own_len (n1 / 128) by omega]
      rw [← own_iinc] at ih23
      exact ih23
theorem ef_20 (m : MethodId) (a0 : Addr) : entryFrame m #[(.ref a0)] 5 = mkF m 0 #[.val (.ref a0), .unset, .unset, .unset, .unset] [] := by first | (simp [entryFrame, mkF, argsToLocals, Value.category]; done) | rfl
set_option maxRecDepth 65536 in
set_option maxHeartbeats 40000000 in
theorem rm20 (l : Launch) (Z : State) (a0 : Array Value) (hw : ∀ d ∈ tables_1, d.before a0 Z = true) (ws : List Jvm.Cond) (a0 : Addr) (t : Addr) (l1 : Nat) (p1 : Nat) (g1 : Nat → Int32) (n1 : Nat) (q : Int64) (h0 : Heap) (n0 : Nat) (Z0 : n0 ≤ h0.size) (g_a0 : n0 ≤ a0) (g_t : n0 ≤ t) (E0 : Exa Z h0 a0 "com/example/termwright/termwright/Spool$Record") (Fb : Fld Z h0 a0 "com/example/termwright/termwright/Spool$Record" "bytes" "[B" (.ref t)) (Fl : Fld Z h0 a0 "com/example/termwright/termwright/Spool$Record" "length" "I" (.int (Int32.ofInt ((l1 : Nat) : Int)))) (Fp : Fld Z h0 a0 "com/example/termwright/termwright/Spool$Record" "position" "I" (.int (Int32.ofInt ((p1 : Nat) : Int)))) (M0 : own_M Z h0 t g1) (hne : a0 ≠ t) (hq : q.toInt = (n1 : Int)) (hn : n1 < 2 ^ 63) (hp : p1 + own_len n1 ≤ 256) (hat : own_at g1 p1 n1) :
    MetFree l (⟨"com/example/termwright/termwright/Spool$Record", "number", "()J"⟩ : MethodName) (head1 (Jvm.Cond.code (⟨"com/example/termwright/termwright/Spool$Record", "number", "()J"⟩ : MethodName) prog_34_method_5_code 5 (some .long) :: ws) ({ frames := 0, cells := 0, slots := 0, locals := 0 } : Room)) (fun a U => a = #[(.ref a0)] ∧ Z.Warmed39 U.vm ∧ U.heap = h0) (fun _ _ _ _ _ => True) (fun _ U o U' => ∃ v L, o = .returned v ∧ own_Qr Z (some (.long q)) [a0] a0 t l1 (p1 + own_len n1) g1 h0 n0 v U'.heap L ∧ FrameEnd U o U' L ({ frames := 0, cells := 0, slots := 0, locals := 0 } : Room).cells ({ frames := 0, cells := 0, slots := 0, locals := 0 } : Room).slots) := by
  refine MetFree.of_bodySF (plainFor_of_name pn_20) hisR ?_
  intro p e s m args below meth c s₁ Bd hml0 hP hK
  obtain ⟨rfl, hZ, hh⟩ := hP
  have hx := Bd.exec
  have hby := Bd.bytes
  have hlk : meth.locks = false := BodyLoose.notSynchronized Bd
  have hret := Bd.returns
  have hml : c.maxLocals = 5 := hml0
  have hown : s.vm.findClass "com/example/termwright/termwright/Spool$Record" = some m.cls := findClass_of_methodNamed Bd.named
  have hnm := (name_of_methodNamed Bd.named Bd.method).1
  have X0 : Stand p l e ({ frames := 0, cells := 0, slots := 0, locals := 0 } : Room) s m #[(.ref a0)] below meth c s₁ [] 0 0 := Stand.of_body Bd
  have e0 : s₁.heap = h0 := by rw [← hh, Bd.state]; rfl
  have N0 := Fr.nil n0
  show own_G p.tables e below (own_E s ({ frames := 0, cells := 0, slots := 0, locals := 0 } : Room).cells ({ frames := 0, cells := 0, slots := 0, locals := 0 } : Room).slots) (own_Qr Z (some (.long q)) [a0] a0 t l1 (p1 + own_len n1) g1 h0 n0) (s₁.setTop (entryFrame m #[(.ref a0)] 5))
  refine own_st ?_ (fun t_ k_ => castTop (ef_20 m a0) k_)
  show own_G p.tables e below _ _ (s₁.setTop (mkF m 0 #[.val (.ref a0), .unset, .unset, .unset, .unset] []))
  refine own_st ?_ (fun t_ k_ => XS.lconst X0.here hx rfl (hb hby d20_0) k_)
  show own_G p.tables e below _ _ (s₁.setTop (mkF m 1 #[.val (.ref a0), .unset, .unset, .unset, .unset] [(.long (0 : Int64))]))
  refine own_st ?_ (fun t_ k_ => XS.lstoreN X0.here hx rfl (hb hby d20_1) rfl (l' := #[.val (.ref a0), .val (.long (0 : Int64)), .second, .unset, .unset]) rfl k_)
  show own_G p.tables e below _ _ (s₁.setTop (mkF m 2 #[.val (.ref a0), .val (.long (0 : Int64)), .second, .unset, .unset] []))
  refine own_st ?_ (fun t_ k_ => XS.iconst X0.here hx rfl (hb hby d20_2) k_)
  show own_G p.tables e below _ _ (s₁.setTop (mkF m 3 #[.val (.ref a0), .val (.long (0 : Int64)), .second, .unset, .unset] [(.int (0 : Int32))]))
  refine own_st ?_ (fun t_ k_ => XS.istoreN X0.here hx rfl (hb hby d20_3) rfl (l' := #[.val (.ref a0), .val (.long (0 : Int64)), .second, .val (.int (0 : Int32)), .unset]) rfl k_)
  show own_G p.tables e below _ _ (s₁.setTop (mkF m 4 #[.val (.ref a0), .val (.long (0 : Int64)), .second, .val (.int (0 : Int32)), .unset] []))
  exact own_ln hx hlk hZ hw hby hml hown hret g_a0 g_t hne (q := q) n1 (A := (0 : Int64)) (k := 0) (a := 0) (s4 := .unset) X0 N0 e0 hp (by decide) (by decide) (by decide) (by rw [hq]; simp) (by simpa using hn) (Or.inl rfl) hat (Keep.refl _ _) E0 Fb Fl Fp M0 Z0
theorem own_exact {q : Int64} {n : Nat} (hq : q.toInt = (n : Int)) (hn : n < 2 ^ 31) : q.toInt32 = n.toInt32 := Int32.toInt_inj.mp (by rw [Jvm.Kit.i32_of_i64 (by omega) (by omega), hq, len_toInt hn])
theorem own_exact0 {q : Int64} {n : Nat} (hq : q.toInt = (n : Int)) (hn : n < 2 ^ 31) : lcmpW (q.toInt32.toInt64) q = (0 : Int32) := (lw_eq _ _).mpr (Int64.toInt_inj.mp (by rw [Jvm.Kit.i64_of_i32, Jvm.Kit.i32_of_i64 (by omega) (by omega)]))
theorem d21_0 : decode jdk_29_method_43_code 0 = .ok (.lload_n 0, 1) := by decide +kernel
theorem d21_1 : decode jdk_29_method_43_code 1 = .ok (.l2i, 1) := by decide +kernel
theorem d21_2 : decode jdk_29_method_43_code 2 = .ok (.i2l, 1) := by decide +kernel
theorem d21_3 : decode jdk_29_method_43_code 3 = .ok (.lload_n 0, 1) := by decide +kernel
theorem d21_4 : decode jdk_29_method_43_code 4 = .ok (.lcmp, 1) := by decide +kernel
theorem d21_5 : decode jdk_29_method_43_code 5 = .ok (.ifCond .eq 13, 3) := by decide +kernel
theorem d21_18 : decode jdk_29_method_43_code 18 = .ok (.lload_n 0, 1) := by decide +kernel
theorem d21_19 : decode jdk_29_method_43_code 19 = .ok (.l2i, 1) := by decide +kernel
theorem d21_20 : decode jdk_29_method_43_code 20 = .ok (.ireturn, 1) := by decide +kernel

theorem ef_21 (m : MethodId) (q0 : Int64) : entryFrame m #[(.long q0)] 2 = mkF m 0 #[.val (.long q0), .second] [] := by first | (simp [entryFrame, mkF, argsToLocals, Value.category]; done) | rfl
set_option maxRecDepth 65536 in
set_option maxHeartbeats 40000000 in
theorem rm21 (l : Launch) (Z : State) (a0 : Array Value) (hw : ∀ d ∈ tables_1, d.before a0 Z = true) (ws : List Jvm.Cond) (q0 : Int64) (n : Nat) (h0 : Heap) (n0 : Nat) (Z0 : n0 ≤ h0.size) (hq : q0.toInt = (n : Int)) (hn : n < 2 ^ 31) :
    MetFree l (⟨"java/lang/Math", "toIntExact", "(J)I"⟩ : MethodName) (head1 (Jvm.Cond.code (⟨"java/lang/Math", "toIntExact", "(J)I"⟩ : MethodName) jdk_29_method_43_code 2 (some .int) :: ws) ({ frames := 0, cells := 0, slots := 0, locals := 0 } : Room)) (fun a U => a = #[(.long q0)] ∧ Z.Warmed39 U.vm ∧ U.heap = h0) (fun _ _ _ _ _ => True) (fun _ U o U' => ∃ v L, o = .returned v ∧ own_QV (.int n.toInt32) h0 n0 v U'.heap L ∧ FrameEnd U o U' L ({ frames := 0, cells := 0, slots := 0, locals := 0 } : Room).cells ({ frames := 0, cells := 0, slots := 0, locals := 0 } : Room).slots) := by
  refine MetFree.of_bodySF (Jvm.Free.JP.mathPlain rfl (by decide +kernel)) hisR ?_
  intro p e s m args below meth c s₁ Bd hml0 hP hK
  obtain ⟨rfl, hZ, hh⟩ := hP
  have hx := Bd.exec
  have hby := Bd.bytes
  have hlk : meth.locks = false := BodyLoose.notSynchronized Bd
  have hret := Bd.returns
  have hml : c.maxLocals = 2 := hml0
  have hown : s.vm.findClass "java/lang/Math" = some m.cls := findClass_of_methodNamed Bd.named
  have hnm := (name_of_methodNamed Bd.named Bd.method).1
  have X0 : Stand p l e ({ frames := 0, cells := 0, slots := 0, locals := 0 } : Room) s m #[(.long q0)] below meth c s₁ [] 0 0 := Stand.of_body Bd
  have e0 : s₁.heap = h0 := by rw [← hh, Bd.state]; rfl
  have N0 := Fr.nil n0
  show own_G p.tables e below (own_E s ({ frames := 0, cells := 0, slots := 0, locals := 0 } : Room).cells ({ frames := 0, cells := 0, slots := 0, locals := 0 } : Room).slots) (own_QV (.int n.toInt32) h0 n0) (s₁.setTop (entryFrame m #[(.long q0)] 2))
  refine own_st ?_ (fun t_ k_ => castTop (ef_21 m q0) k_)
  show own_G p.tables e below _ _ (s₁.setTop (mkF m 0 #[.val (.long q0), .second] []))
  refine own_st ?_ (fun t_ k_ => XS.lloadN X0.here hx rfl (hb hby d21_0) rfl k_)
  show own_G p.tables e below _ _ (s₁.setTop (mkF m 1 #[.val (.long q0), .second] [(.long q0)]))
  refine own_st ?_ (fun t_ k_ => XS.l2i X0.here hx rfl (hb hby d21_1) rfl k_)
  show own_G p.tables e below _ _ (s₁.setTop (mkF m 2 #[.val (.long q0), .second] [(.int (q0.toInt32))]))
  refine own_st ?_ (fun t_ k_ => XS.i2l X0.here hx rfl (hb hby d21_2) rfl k_)
  show own_G p.tables e below _ _ (s₁.setTop (mkF m 3 #[.val (.long q0), .second] [(.long ((q0.toInt32).toInt64))]))
  refine own_st ?_ (fun t_ k_ => XS.lloadN X0.here hx rfl (hb hby d21_3) rfl k_)
  show own_G p.tables e below _ _ (s₁.setTop (mkF m 4 #[.val (.long q0), .second] [(.long q0), (.long ((q0.toInt32).toInt64))]))
  refine own_st ?_ (fun t_ k_ => XS.lcmp X0.here hx rfl (hb hby d21_4) rfl k_)
  show own_G p.tables e below _ _ (s₁.setTop (mkF m 5 #[.val (.long q0), .second] [(.int (lcmpW ((q0.toInt32).toInt64) q0))]))
  refine own_st ?_ (fun t_ k_ => XS.ifYes X0.here hx rfl (pc0 := 5) (pc' := 18) rfl (hb hby d21_5) rfl ((if0 _ _).trans (teq (own_exact0 hq hn)).1) (by decide) (by decide) k_)
  show own_G p.tables e below _ _ (s₁.setTop (mkF m 18 #[.val (.long q0), .second] []))
  refine own_st ?_ (fun t_ k_ => XS.lloadN X0.here hx rfl (hb hby d21_18) rfl k_)
  show own_G p.tables e below _ _ (s₁.setTop (mkF m 19 #[.val (.long q0), .second] [(.long q0)]))
  refine own_st ?_ (fun t_ k_ => XS.l2i X0.here hx rfl (hb hby d21_19) rfl k_)
  show own_G p.tables e below _ _ (s₁.setTop (mkF m 20 #[.val (.long q0), .second] [(.int (q0.toInt32))]))
  exact own_retI X0 hx hlk hret (hb hby d21_20) (by decide) (by decide) ⟨congrArg (fun z => some (Value.int z)) (own_exact hq hn), N0, e0⟩
theorem own_orc {b y : Int32} {k c a : Nat} (hb : b.toInt = ((2 ^ k * c : Nat) : Int)) (hy : y.toInt = (a : Int)) (ha : a < 2 ^ k) (hn : 2 ^ k * c + a < 2 ^ 31) : (b ||| y).toInt = ((2 ^ k * c + a : Nat) : Int) := by
  have e : (b ||| y) = (y ||| b) := by
    apply Int32.toBitVec_inj.mp
    rw [Int32.toBitVec_or, Int32.toBitVec_or, BitVec.or_comm]
  rw [e]; exact own_or32 hy hb ha hn
theorem own_byte_and63 (x : Int32) : ((x.toInt8.toInt32) &&& (63 : Int32)).toInt = x.toInt % 64 := by
  rw [Jvm.Kit.i32_mask _ 63 (k := 6) (by decide) (by decide), Int8.toInt_toInt32, Int32.toInt_toInt8, Int.bmod_def]; omega
def own_b1 (c : Int32) : Int32 := nar .byte (c.toInt8.toInt32)
def own_b21 (c : Int32) : Int32 := nar .byte (((192 : Int32) ||| (c >>> ((6 : Int32) &&& 31))).toInt8.toInt32)
def own_b22 (c : Int32) : Int32 := nar .byte (((128 : Int32) ||| (c &&& (63 : Int32))).toInt8.toInt32)
def own_b31 (c : Int32) : Int32 := nar .byte (((224 : Int32) ||| (c >>> ((12 : Int32) &&& 31))).toInt8.toInt32)
def own_b32 (c : Int32) : Int32 := nar .byte (((128 : Int32) ||| ((c >>> ((6 : Int32) &&& 31)) &&& (63 : Int32))).toInt8.toInt32)
theorem own_nnc {v : Int32} (h : own_isC v) : nar .char (v.toUInt32.toUInt16.toUInt32.toInt32) = v := by
  show (v.toUInt32.toUInt16.toUInt32.toInt32).toUInt32.toUInt16.toUInt32.toInt32 = v
  rw [own_chr_id h, own_chr_id h]
theorem own_ltk {c : Int32} (k : Int32) : c < k ↔ c.toInt < k.toInt := Int32.lt_iff_toInt_lt
theorem own_c1 {c : Int32} (hc : own_isC c) (h : c < 128) : ((own_b1 c &&& (255 : Int32)) < 128) ∧ nar .char ((own_b1 c &&& (255 : Int32)).toUInt32.toUInt16.toUInt32.toInt32) = c := by
  have e128 : (128 : Int32).toInt = 128 := by decide
  have h' := h
  rw [own_ltk, e128] at h
  have e : (own_b1 c &&& (255 : Int32)) = c := by
    refine Int32.toInt_inj.mp ?_
    show ((c.toInt8.toInt32.toInt8.toInt32) &&& (255 : Int32)).toInt = _
    rw [own_byte_idem, own_byte_and]; have := hc.1; omega
  rw [e]; exact ⟨h', own_nnc hc⟩
theorem own_and255 (x : Int32) : ((nar .byte (x.toInt8.toInt32)) &&& (255 : Int32)).toInt = x.toInt % 256 := by
  show ((x.toInt8.toInt32.toInt8.toInt32) &&& (255 : Int32)).toInt = _
  rw [own_byte_idem, own_byte_and]
theorem own_and63 (x : Int32) : ((nar .byte (x.toInt8.toInt32)) &&& (63 : Int32)).toInt = x.toInt % 64 := by
  show ((x.toInt8.toInt32.toInt8.toInt32) &&& (63 : Int32)).toInt = _
  rw [own_byte_idem, own_byte_and63]
theorem own_v22 {c : Int32} (hc : own_isC c) : (own_b22 c &&& (63 : Int32)).toInt = c.toInt % 64 := by
  have h1 := hc.1
  have m : (c &&& (63 : Int32)).toInt = (((c.toInt % 64).toNat : Nat) : Int) := by rw [Jvm.Kit.i32_mask _ 63 (k := 6) (by decide) (by decide)]; omega
  have o := own_orc (b := 128) (k := 6) (c := 2) (by decide) m (by omega) (by omega)
  rw [own_b22, own_and63, o]; omega
theorem own_c2 {c : Int32} (hc : own_isC c) (h : ¬ c < 128) (h2 : c < 2048) : ¬ ((own_b21 c &&& (255 : Int32)) < 128) ∧ ((own_b21 c &&& (255 : Int32)) < 224) ∧ nar .char (((((own_b21 c &&& (255 : Int32)) &&& (31 : Int32)) <<< ((6 : Int32) &&& 31)) ||| (own_b22 c &&& (63 : Int32))).toUInt32.toUInt16.toUInt32.toInt32) = c := by
  have e128 : (128 : Int32).toInt = 128 := by decide
  have e224 : (224 : Int32).toInt = 224 := by decide
  have e2048 : (2048 : Int32).toInt = 2048 := by decide
  rw [own_ltk, e128] at h
  rw [own_ltk, e2048] at h2
  have s6 : (c >>> ((6 : Int32) &&& 31)).toInt = (((c.toInt / 64).toNat : Nat) : Int) := by rw [Jvm.Kit.i32_shr c _ (k := 6) (by decide)]; omega
  have o := own_orc (b := 192) (k := 6) (c := 3) (by decide) s6 (by omega) (by omega)
  have b1 : (own_b21 c &&& (255 : Int32)).toInt = 192 + c.toInt / 64 := by rw [own_b21, own_and255, o]; omega
  have m : ((own_b21 c &&& (255 : Int32)) &&& (31 : Int32)).toInt = c.toInt / 64 := by rw [Jvm.Kit.i32_mask _ 31 (k := 5) (by decide) (by decide), b1]; omega
  have sl : (((own_b21 c &&& (255 : Int32)) &&& (31 : Int32)) <<< ((6 : Int32) &&& 31)).toInt = ((2 ^ 6 * (c.toInt / 64).toNat : Nat) : Int) := by
    rw [Jvm.Kit.i32_shl _ _ (k := 6) (by decide) (by rw [m]; omega) (by rw [m]; omega), m]; omega
  have v := own_v22 hc
  have v' : (own_b22 c &&& (63 : Int32)).toInt = (((c.toInt % 64).toNat : Nat) : Int) := by rw [v]; omega
  have e : ((((own_b21 c &&& (255 : Int32)) &&& (31 : Int32)) <<< ((6 : Int32) &&& 31)) ||| (own_b22 c &&& (63 : Int32))) = c := by
    refine Int32.toInt_inj.mp ?_
    rw [own_orc (k := 6) sl v' (by omega) (by omega)]; omega
  refine ⟨by rw [own_ltk, e128, b1]; omega, by rw [own_ltk, e224, b1]; omega, ?_⟩
  rw [e]; exact own_nnc hc
theorem own_c3 {c : Int32} (hc : own_isC c) (h2 : ¬ c < 2048) : ¬ ((own_b31 c &&& (255 : Int32)) < 128) ∧ ¬ ((own_b31 c &&& (255 : Int32)) < 224) ∧ nar .char ((((((own_b31 c &&& (255 : Int32)) &&& (15 : Int32)) <<< ((12 : Int32) &&& 31)) ||| ((own_b32 c &&& (63 : Int32)) <<< ((6 : Int32) &&& 31))) ||| (own_b22 c &&& (63 : Int32))).toUInt32.toUInt16.toUInt32.toInt32) = c := by
  have e128 : (128 : Int32).toInt = 128 := by decide
  have e224 : (224 : Int32).toInt = 224 := by decide
  have e2048 : (2048 : Int32).toInt = 2048 := by decide
  rw [own_ltk, e2048] at h2
  have hc2 := hc.2
  have s12 : (c >>> ((12 : Int32) &&& 31)).toInt = (((c.toInt / 4096).toNat : Nat) : Int) := by rw [Jvm.Kit.i32_shr c _ (k := 12) (by decide)]; omega
  have s6 : (c >>> ((6 : Int32) &&& 31)).toInt = c.toInt / 64 := by rw [Jvm.Kit.i32_shr c _ (k := 6) (by decide)]; omega
  have m6 : ((c >>> ((6 : Int32) &&& 31)) &&& (63 : Int32)).toInt = (((c.toInt / 64 % 64).toNat : Nat) : Int) := by rw [Jvm.Kit.i32_mask _ 63 (k := 6) (by decide) (by decide), s6]; omega
  have o1 := own_orc (b := 224) (k := 5) (c := 7) (by decide) s12 (by omega) (by omega)
  have o2 := own_orc (b := 128) (k := 6) (c := 2) (by decide) m6 (by omega) (by omega)
  have b1 : (own_b31 c &&& (255 : Int32)).toInt = 224 + c.toInt / 4096 := by rw [own_b31, own_and255, o1]; omega
  have m1 : ((own_b31 c &&& (255 : Int32)) &&& (15 : Int32)).toInt = c.toInt / 4096 := by rw [Jvm.Kit.i32_mask _ 15 (k := 4) (by decide) (by decide), b1]; omega
  have b2 : (own_b32 c &&& (63 : Int32)).toInt = c.toInt / 64 % 64 := by rw [own_b32, own_and63, o2]; omega
  have l1 : (((own_b31 c &&& (255 : Int32)) &&& (15 : Int32)) <<< ((12 : Int32) &&& 31)).toInt = ((2 ^ 12 * (c.toInt / 4096).toNat : Nat) : Int) := by
    rw [Jvm.Kit.i32_shl _ _ (k := 12) (by decide) (by rw [m1]; omega) (by rw [m1]; omega), m1]; omega
  have l2 : ((own_b32 c &&& (63 : Int32)) <<< ((6 : Int32) &&& 31)).toInt = (((64 * (c.toInt / 64 % 64)).toNat : Nat) : Int) := by
    rw [Jvm.Kit.i32_shl _ _ (k := 6) (by decide) (by rw [b2]; omega) (by rw [b2]; omega), b2]; omega
  have q1 := own_orc (k := 12) l1 l2 (by omega) (by omega)
  have q1' : ((((own_b31 c &&& (255 : Int32)) &&& (15 : Int32)) <<< ((12 : Int32) &&& 31)) ||| ((own_b32 c &&& (63 : Int32)) <<< ((6 : Int32) &&& 31))).toInt = ((2 ^ 6 * (c.toInt / 64).toNat : Nat) : Int) := by rw [q1]; omega
  have v' : (own_b22 c &&& (63 : Int32)).toInt = (((c.toInt % 64).toNat : Nat) : Int) := by rw [own_v22 hc]; omega
  have e : (((((own_b31 c &&& (255 : Int32)) &&& (15 : Int32)) <<< ((12 : Int32) &&& 31)) ||| ((own_b32 c &&& (63 : Int32)) <<< ((6 : Int32) &&& 31))) ||| (own_b22 c &&& (63 : Int32))) = c := by
    refine Int32.toInt_inj.mp ?_
    rw [own_orc (k := 6) q1' v' (by omega) (by omega)]; omega
  refine ⟨by rw [own_ltk, e128, b1]; omega, by rw [own_ltk, e224, b1]; omega, ?_⟩
  rw [e]; exact own_nnc hc
def own_w (c : Int32) : Nat := if c < 128 then 1 else if c < 2048 then 2 else 3
def own_e (g : Nat → Int32) (p : Nat) (c : Int32) : Prop := if c < 128 then g p = own_b1 c else if c < 2048 then g p = own_b21 c ∧ g (p + 1) = own_b22 c else g p = own_b31 c ∧ g (p + 1) = own_b32 c ∧ g (p + 2) = own_b22 c
theorem own_e1 {g : Nat → Int32} {p : Nat} {c : Int32} (h : c < 128) : (own_e g p c ↔ g p = own_b1 c) ∧ own_w c = 1 := by unfold own_e own_w; rw [if_pos h, if_pos h]; exact ⟨Iff.rfl, rfl⟩
theorem own_e2 {g : Nat → Int32} {p : Nat} {c : Int32} (h : ¬ c < 128) (h2 : c < 2048) : (own_e g p c ↔ g p = own_b21 c ∧ g (p + 1) = own_b22 c) ∧ own_w c = 2 := by unfold own_e own_w; rw [if_neg h, if_pos h2, if_neg h, if_pos h2]; exact ⟨Iff.rfl, rfl⟩
theorem own_e3 {g : Nat → Int32} {p : Nat} {c : Int32} (h : ¬ c < 128) (h2 : ¬ c < 2048) : (own_e g p c ↔ g p = own_b31 c ∧ g (p + 1) = own_b32 c ∧ g (p + 2) = own_b22 c) ∧ own_w c = 3 := by unfold own_e own_w; rw [if_neg h, if_neg h2, if_neg h, if_neg h2]; exact ⟨Iff.rfl, rfl⟩
theorem own_w3 (c : Int32) : 1 ≤ own_w c ∧ own_w c ≤ 3 := by
  unfold own_w
  by_cases h : c < 128
  · rw [if_pos h]; omega
  · rw [if_neg h]
    by_cases h2 : c < 2048
    · rw [if_pos h2]; omega
    · rw [if_neg h2]; omega
theorem own_e_congr {g g' : Nat → Int32} {p : Nat} {c : Int32} (q : ∀ i, p ≤ i → i < p + own_w c → g' i = g i) (h : own_e g p c) : own_e g' p c := by
  by_cases h1 : c < 128
  · have e := (own_e1 (g := g) (p := p) h1)
    rw [(own_e1 h1).1] at h ⊢
    rw [q p (Nat.le_refl _) (by omega)]; exact h
  · by_cases h2 : c < 2048
    · have e := (own_e2 (g := g) (p := p) h1 h2)
      rw [(own_e2 h1 h2).1] at h ⊢
      rw [q p (Nat.le_refl _) (by omega), q (p + 1) (by omega) (by omega)]; exact h
    · have e := (own_e3 (g := g) (p := p) h1 h2)
      rw [(own_e3 h1 h2).1] at h ⊢
      rw [q p (Nat.le_refl _) (by omega), q (p + 1) (by omega) (by omega), q (p + 2) (by omega) (by omega)]; exact h
def own_W : List Int32 → Nat
  | [] => 0
  | c :: cs => own_w c + own_W cs
def own_E8 (g : Nat → Int32) : Nat → List Int32 → Prop
  | _, [] => True
  | p, c :: cs => own_e g p c ∧ own_E8 g (p + own_w c) cs
theorem own_W_le (cs : List Int32) : own_W cs ≤ 3 * cs.length := by
  induction cs with
  | nil => exact Nat.le_refl _
  | cons c cs ih => have := (own_w3 c).2; simp only [own_W, List.length_cons]; omega
theorem own_E8_congr {g g' : Nat → Int32} (cs : List Int32) : ∀ p, (∀ i, p ≤ i → i < p + own_W cs → g' i = g i) → own_E8 g p cs → own_E8 g' p cs := by
  induction cs with
  | nil => intro p _ _; trivial
  | cons c cs ih =>
    intro p q h
    have e : own_W (c :: cs) = own_w c + own_W cs := rfl
    exact ⟨own_e_congr (fun i a b => q i a (by omega)) h.1, ih (p + own_w c) (fun i a b => q i (by omega) (by omega)) h.2⟩
/-- from place kx on the chars are cs -/
def own_TT (ch : Nat → Int32) (n kx : Nat) (cs : List Int32) : Prop := kx + cs.length = n ∧ ∀ i, i < cs.length → ch (kx + i) = cs.getD i 0
theorem own_TT1 {ch : Nat → Int32} {n kx : Nat} {c : Int32} {cs : List Int32} (h : own_TT ch n kx (c :: cs)) : kx < n ∧ ch kx = c ∧ own_TT ch n (kx + 1) cs := by
  obtain ⟨h1, h2⟩ := h
  have e : (c :: cs).length = cs.length + 1 := rfl
  refine ⟨by omega, h2 0 (by omega), by omega, fun i hi => ?_⟩
  have q := h2 (i + 1) (by omega)
  rw [show kx + 1 + i = kx + (i + 1) by omega, q]; rfl
theorem own_TT0 (n : Nat) (ch : Nat → Int32) : own_TT ch n 0 ((List.range n).map ch) := by
  refine ⟨by simp, fun i hi => ?_⟩
  have hi' : i < n := by simpa using hi
  simp [List.getD, hi']
theorem own_ofI {l : Nat} (h : l < 2 ^ 31) : Int32.ofInt ((l : Nat) : Int) = l.toInt32 := Int32.toInt_inj.mp (by rw [len_toInt h, Int32.toInt_ofInt, Jvm.Kit.bmod32 (by omega) (by omega)])
theorem own_G_mono {tb : Tables} {e : Env} {below : List Frame} {En : Outcome → State → List Loc → Prop} {Q Q' : Option Value → Heap → List Loc → Prop} {U : State} (m : ∀ v h L, Q v h L → Q' v h L) (h : own_G tb e below En Q U) : own_G tb e below En Q' U := by
  obtain ⟨t, o, h1, h2, h3, v, L, h4, h5, h6⟩ := h
  exact ⟨t, o, h1, h2, h3, v, L, h4, m _ _ _ h5, h6⟩
theorem own_i2l {n : Nat} (h : n < 2 ^ 31) : (n.toInt32.toInt64).toInt = (n : Int) := by rw [Jvm.Kit.i64_of_i32, len_toInt h]
theorem own_mul3 {n : Nat} (h : n ≤ 4) : ((3 : Int64) * n.toInt32.toInt64).toInt = ((3 * n : Nat) : Int) := by
  have e : (3 : Int64).toInt = 3 := by decide
  have q := own_i2l (n := n) (by omega)
  rw [Jvm.Kit.i64_mul (by rw [e, q]; omega) (by rw [e, q]; omega), e, q]; omega
/-- behind putText: cs encoded at l -/
def own_Qp (Z : State) (a t : Addr) (p l : Nat) (g : Nat → Int32) (cs : List Int32) (h0 : Heap) (n0 : Nat) (v : Option Value) (h : Heap) (L : List Loc) : Prop := v = some (.ref a) ∧ Fr n0 L ∧ Keep h0 h [a, t] ∧ ∃ g' : Nat → Int32, own_Rec Z h a t (l + own_W cs) p g' ∧ own_E8 g' l cs ∧ ∀ i, i < l → g' i = g i
theorem own_p1 {Z : State} {a t : Addr} {p l : Nat} {g : Nat → Int32} {c : Int32} {cs : List Int32} {h0 : Heap} {n0 : Nat} {v : Option Value} {h : Heap} {L : List Loc} (hc : c < 128) (q : own_Qp Z a t p (l + 1) (own_upd g l (own_b1 c)) cs h0 n0 v h L) : own_Qp Z a t p l g (c :: cs) h0 n0 v h L := by
  obtain ⟨e, N, K, g', R, E, A⟩ := q
  have ew := own_e1 (g := g') (p := l) hc
  have eW : l + own_W (c :: cs) = l + 1 + own_W cs := by rw [own_W, ew.2]; omega
  refine ⟨e, N, K, g', by rw [eW]; exact R, ⟨ew.1.mpr ?_, by rw [ew.2]; exact E⟩, fun i hi => ?_⟩
  · rw [A l (by omega), own_upd_eq]
  · rw [A i (by omega), own_upd_ne (by omega)]
theorem own_p2 {Z : State} {a t : Addr} {p l : Nat} {g : Nat → Int32} {c : Int32} {cs : List Int32} {h0 : Heap} {n0 : Nat} {v : Option Value} {h : Heap} {L : List Loc} (hc : ¬ c < 128) (hc2 : c < 2048) (q : own_Qp Z a t p (l + 1 + 1) (own_upd (own_upd g l (own_b21 c)) (l + 1) (own_b22 c)) cs h0 n0 v h L) : own_Qp Z a t p l g (c :: cs) h0 n0 v h L := by
  obtain ⟨e, N, K, g', R, E, A⟩ := q
  have ew := own_e2 (g := g') (p := l) hc hc2
  have eW : l + own_W (c :: cs) = l + 1 + 1 + own_W cs := by rw [own_W, ew.2]; omega
  refine ⟨e, N, K, g', by rw [eW]; exact R, ⟨ew.1.mpr ⟨?_, ?_⟩, by rw [ew.2]; exact E⟩, fun i hi => ?_⟩
  · rw [A l (by omega), own_upd_ne (by omega), own_upd_eq]
  · rw [A (l + 1) (by omega), own_upd_eq]
  · rw [A i (by omega), own_upd_ne (by omega), own_upd_ne (by omega)]
theorem own_p3 {Z : State} {a t : Addr} {p l : Nat} {g : Nat → Int32} {c : Int32} {cs : List Int32} {h0 : Heap} {n0 : Nat} {v : Option Value} {h : Heap} {L : List Loc} (hc : ¬ c < 128) (hc2 : ¬ c < 2048) (q : own_Qp Z a t p (l + 1 + 1 + 1) (own_upd (own_upd (own_upd g l (own_b31 c)) (l + 1) (own_b32 c)) (l + 2) (own_b22 c)) cs h0 n0 v h L) : own_Qp Z a t p l g (c :: cs) h0 n0 v h L := by
  obtain ⟨e, N, K, g', R, E, A⟩ := q
  have ew := own_e3 (g := g') (p := l) hc hc2
  have eW : l + own_W (c :: cs) = l + 1 + 1 + 1 + own_W cs := by rw [own_W, ew.2]; omega
  refine ⟨e, N, K, g', by rw [eW]; exact R, ⟨ew.1.mpr ⟨?_, ?_, ?_⟩, by rw [ew.2]; exact E⟩, fun i hi => ?_⟩
  · rw [A l (by omega), own_upd_ne (by omega), own_upd_ne (by omega), own_upd_eq]
  · rw [A (l + 1) (by omega), own_upd_ne (by omega), own_upd_eq]
  · rw [A (l + 2) (by omega), own_upd_eq]
  · rw [A i (by omega), own_upd_ne (by omega), own_upd_ne (by omega), own_upd_ne (by omega)]
theorem own_eqn {a b : Nat} (h : a = b) : ¬ a.toInt32 < b.toInt32 := by rw [h]; exact Int32.lt_irrefl
theorem pd_16 : parseMethodDescriptor "()I" = some ⟨[], some .int⟩ := by decide +kernel
theorem pd_15 : parseMethodDescriptor "(I)C" = some ⟨[.int], some .char⟩ := by decide +kernel
theorem pd_17 : parseMethodDescriptor "(J)Lcom/example/termwright/termwright/Spool$Record;" = some ⟨[.long], some (.object "com/example/termwright/termwright/Spool$Record")⟩ := by decide +kernel
theorem d9_0 : decode prog_34_method_4_code 0 = .ok (.aload_n 1, 1) := by decide +kernel
theorem d9_1 : decode prog_34_method_4_code 1 = .ok (.invokevirtual 39, 3) := by decide +kernel
theorem d9_4 : decode prog_34_method_4_code 4 = .ok (.istore_n 2, 1) := by decide +kernel
theorem d9_5 : decode prog_34_method_4_code 5 = .ok (.aload_n 0, 1) := by decide +kernel
theorem d9_6 : decode prog_34_method_4_code 6 = .ok (.iload_n 2, 1) := by decide +kernel
theorem d9_7 : decode prog_34_method_4_code 7 = .ok (.i2l, 1) := by decide +kernel
theorem d9_8 : decode prog_34_method_4_code 8 = .ok (.invokevirtual 44, 3) := by decide +kernel
theorem d9_11 : decode prog_34_method_4_code 11 = .ok (.pop, 1) := by decide +kernel
theorem d9_12 : decode prog_34_method_4_code 12 = .ok (.aload_n 0, 1) := by decide +kernel
theorem d9_13 : decode prog_34_method_4_code 13 = .ok (.ldc2_w 48, 3) := by decide +kernel
theorem d9_16 : decode prog_34_method_4_code 16 = .ok (.iload_n 2, 1) := by decide +kernel
theorem d9_17 : decode prog_34_method_4_code 17 = .ok (.i2l, 1) := by decide +kernel
theorem d9_18 : decode prog_34_method_4_code 18 = .ok (.lmul, 1) := by decide +kernel
theorem d9_19 : decode prog_34_method_4_code 19 = .ok (.invokevirtual 31, 3) := by decide +kernel
theorem d9_22 : decode prog_34_method_4_code 22 = .ok (.iconst 0, 1) := by decide +kernel
theorem d9_23 : decode prog_34_method_4_code 23 = .ok (.istore_n 3, 1) := by decide +kernel
theorem d9_24 : decode prog_34_method_4_code 24 = .ok (.iload_n 3, 1) := by decide +kernel
theorem d9_25 : decode prog_34_method_4_code 25 = .ok (.iload_n 2, 1) := by decide +kernel
theorem d9_26 : decode prog_34_method_4_code 26 = .ok (.if_icmp .ge 190, 3) := by decide +kernel
theorem d9_29 : decode prog_34_method_4_code 29 = .ok (.aload_n 1, 1) := by decide +kernel
theorem d9_30 : decode prog_34_method_4_code 30 = .ok (.iload_n 3, 1) := by decide +kernel
theorem d9_31 : decode prog_34_method_4_code 31 = .ok (.invokevirtual 50, 3) := by decide +kernel
theorem d9_34 : decode prog_34_method_4_code 34 = .ok (.istore 4, 2) := by decide +kernel
theorem d9_36 : decode prog_34_method_4_code 36 = .ok (.iload 4, 2) := by decide +kernel
theorem d9_38 : decode prog_34_method_4_code 38 = .ok (.sipush 128, 3) := by decide +kernel
theorem d9_41 : decode prog_34_method_4_code 41 = .ok (.if_icmp .ge 25, 3) := by decide +kernel
theorem d9_44 : decode prog_34_method_4_code 44 = .ok (.aload_n 0, 1) := by decide +kernel
theorem d9_45 : decode prog_34_method_4_code 45 = .ok (.getfield 7, 3) := by decide +kernel
theorem d9_48 : decode prog_34_method_4_code 48 = .ok (.aload_n 0, 1) := by decide +kernel
theorem d9_49 : decode prog_34_method_4_code 49 = .ok (.dup, 1) := by decide +kernel
theorem d9_50 : decode prog_34_method_4_code 50 = .ok (.getfield 13, 3) := by decide +kernel
theorem d9_53 : decode prog_34_method_4_code 53 = .ok (.dup_x1, 1) := by decide +kernel
theorem d9_54 : decode prog_34_method_4_code 54 = .ok (.iconst 1, 1) := by decide +kernel
theorem d9_55 : decode prog_34_method_4_code 55 = .ok (.iadd, 1) := by decide +kernel
theorem d9_56 : decode prog_34_method_4_code 56 = .ok (.putfield 13, 3) := by decide +kernel
theorem d9_59 : decode prog_34_method_4_code 59 = .ok (.iload 4, 2) := by decide +kernel
theorem d9_61 : decode prog_34_method_4_code 61 = .ok (.i2b, 1) := by decide +kernel
theorem d9_62 : decode prog_34_method_4_code 62 = .ok (.bastore, 1) := by decide +kernel
theorem d9_63 : decode prog_34_method_4_code 63 = .ok (.goto 147, 3) := by decide +kernel
theorem d9_66 : decode prog_34_method_4_code 66 = .ok (.iload 4, 2) := by decide +kernel
theorem d9_68 : decode prog_34_method_4_code 68 = .ok (.sipush 2048, 3) := by decide +kernel
theorem d9_71 : decode prog_34_method_4_code 71 = .ok (.if_icmp .ge 58, 3) := by decide +kernel
theorem d9_74 : decode prog_34_method_4_code 74 = .ok (.aload_n 0, 1) := by decide +kernel
theorem d9_75 : decode prog_34_method_4_code 75 = .ok (.getfield 7, 3) := by decide +kernel
theorem d9_78 : decode prog_34_method_4_code 78 = .ok (.aload_n 0, 1) := by decide +kernel
theorem d9_79 : decode prog_34_method_4_code 79 = .ok (.dup, 1) := by decide +kernel
theorem d9_80 : decode prog_34_method_4_code 80 = .ok (.getfield 13, 3) := by decide +kernel
theorem d9_83 : decode prog_34_method_4_code 83 = .ok (.dup_x1, 1) := by decide +kernel
theorem d9_84 : decode prog_34_method_4_code 84 = .ok (.iconst 1, 1) := by decide +kernel
theorem d9_85 : decode prog_34_method_4_code 85 = .ok (.iadd, 1) := by decide +kernel
theorem d9_86 : decode prog_34_method_4_code 86 = .ok (.putfield 13, 3) := by decide +kernel
theorem d9_89 : decode prog_34_method_4_code 89 = .ok (.sipush 192, 3) := by decide +kernel
theorem d9_92 : decode prog_34_method_4_code 92 = .ok (.iload 4, 2) := by decide +kernel
theorem d9_94 : decode prog_34_method_4_code 94 = .ok (.bipush 6, 2) := by decide +kernel
theorem d9_96 : decode prog_34_method_4_code 96 = .ok (.ishr, 1) := by decide +kernel
theorem d9_97 : decode prog_34_method_4_code 97 = .ok (.ior, 1) := by decide +kernel
theorem d9_98 : decode prog_34_method_4_code 98 = .ok (.i2b, 1) := by decide +kernel
theorem d9_99 : decode prog_34_method_4_code 99 = .ok (.bastore, 1) := by decide +kernel
theorem d9_100 : decode prog_34_method_4_code 100 = .ok (.aload_n 0, 1) := by decide +kernel
theorem d9_101 : decode prog_34_method_4_code 101 = .ok (.getfield 7, 3) := by decide +kernel
theorem d9_104 : decode prog_34_method_4_code 104 = .ok (.aload_n 0, 1) := by decide +kernel
theorem d9_105 : decode prog_34_method_4_code 105 = .ok (.dup, 1) := by decide +kernel
theorem d9_106 : decode prog_34_method_4_code 106 = .ok (.getfield 13, 3) := by decide +kernel
theorem d9_109 : decode prog_34_method_4_code 109 = .ok (.dup_x1, 1) := by decide +kernel
theorem d9_110 : decode prog_34_method_4_code 110 = .ok (.iconst 1, 1) := by decide +kernel
theorem d9_111 : decode prog_34_method_4_code 111 = .ok (.iadd, 1) := by decide +kernel
theorem d9_112 : decode prog_34_method_4_code 112 = .ok (.putfield 13, 3) := by decide +kernel
theorem d9_115 : decode prog_34_method_4_code 115 = .ok (.sipush 128, 3) := by decide +kernel
theorem d9_118 : decode prog_34_method_4_code 118 = .ok (.iload 4, 2) := by decide +kernel
theorem d9_120 : decode prog_34_method_4_code 120 = .ok (.bipush 63, 2) := by decide +kernel
theorem d9_122 : decode prog_34_method_4_code 122 = .ok (.iand, 1) := by decide +kernel
theorem d9_123 : decode prog_34_method_4_code 123 = .ok (.ior, 1) := by decide +kernel
theorem d9_124 : decode prog_34_method_4_code 124 = .ok (.i2b, 1) := by decide +kernel
theorem d9_125 : decode prog_34_method_4_code 125 = .ok (.bastore, 1) := by decide +kernel
theorem d9_126 : decode prog_34_method_4_code 126 = .ok (.goto 84, 3) := by decide +kernel
theorem d9_129 : decode prog_34_method_4_code 129 = .ok (.aload_n 0, 1) := by decide +kernel
theorem d9_130 : decode prog_34_method_4_code 130 = .ok (.getfield 7, 3) := by decide +kernel
theorem d9_133 : decode prog_34_method_4_code 133 = .ok (.aload_n 0, 1) := by decide +kernel
theorem d9_134 : decode prog_34_method_4_code 134 = .ok (.dup, 1) := by decide +kernel
theorem d9_135 : decode prog_34_method_4_code 135 = .ok (.getfield 13, 3) := by decide +kernel
theorem d9_138 : decode prog_34_method_4_code 138 = .ok (.dup_x1, 1) := by decide +kernel
theorem d9_139 : decode prog_34_method_4_code 139 = .ok (.iconst 1, 1) := by decide +kernel
theorem d9_140 : decode prog_34_method_4_code 140 = .ok (.iadd, 1) := by decide +kernel
theorem d9_141 : decode prog_34_method_4_code 141 = .ok (.putfield 13, 3) := by decide +kernel
theorem d9_144 : decode prog_34_method_4_code 144 = .ok (.sipush 224, 3) := by decide +kernel
theorem d9_147 : decode prog_34_method_4_code 147 = .ok (.iload 4, 2) := by decide +kernel
theorem d9_149 : decode prog_34_method_4_code 149 = .ok (.bipush 12, 2) := by decide +kernel
theorem d9_151 : decode prog_34_method_4_code 151 = .ok (.ishr, 1) := by decide +kernel
theorem d9_152 : decode prog_34_method_4_code 152 = .ok (.ior, 1) := by decide +kernel
theorem d9_153 : decode prog_34_method_4_code 153 = .ok (.i2b, 1) := by decide +kernel
theorem d9_154 : decode prog_34_method_4_code 154 = .ok (.bastore, 1) := by decide +kernel
theorem d9_155 : decode prog_34_method_4_code 155 = .ok (.aload_n 0, 1) := by decide +kernel
theorem d9_156 : decode prog_34_method_4_code 156 = .ok (.getfield 7, 3) := by decide +kernel
theorem d9_159 : decode prog_34_method_4_code 159 = .ok (.aload_n 0, 1) := by decide +kernel
theorem d9_160 : decode prog_34_method_4_code 160 = .ok (.dup, 1) := by decide +kernel
theorem d9_161 : decode prog_34_method_4_code 161 = .ok (.getfield 13, 3) := by decide +kernel
theorem d9_164 : decode prog_34_method_4_code 164 = .ok (.dup_x1, 1) := by decide +kernel
theorem d9_165 : decode prog_34_method_4_code 165 = .ok (.iconst 1, 1) := by decide +kernel
theorem d9_166 : decode prog_34_method_4_code 166 = .ok (.iadd, 1) := by decide +kernel
theorem d9_167 : decode prog_34_method_4_code 167 = .ok (.putfield 13, 3) := by decide +kernel
theorem d9_170 : decode prog_34_method_4_code 170 = .ok (.sipush 128, 3) := by decide +kernel
theorem d9_173 : decode prog_34_method_4_code 173 = .ok (.iload 4, 2) := by decide +kernel
theorem d9_175 : decode prog_34_method_4_code 175 = .ok (.bipush 6, 2) := by decide +kernel
theorem d9_177 : decode prog_34_method_4_code 177 = .ok (.ishr, 1) := by decide +kernel
theorem d9_178 : decode prog_34_method_4_code 178 = .ok (.bipush 63, 2) := by decide +kernel
theorem d9_180 : decode prog_34_method_4_code 180 = .ok (.iand, 1) := by decide +kernel
theorem d9_181 : decode prog_34_method_4_code 181 = .ok (.ior, 1) := by decide +kernel
theorem d9_182 : decode prog_34_method_4_code 182 = .ok (.i2b, 1) := by decide +kernel
theorem d9_183 : decode prog_34_method_4_code 183 = .ok (.bastore, 1) := by decide +kernel
theorem d9_184 : decode prog_34_method_4_code 184 = .ok (.aload_n 0, 1) := by decide +kernel
theorem d9_185 : decode prog_34_method_4_code 185 = .ok (.getfield 7, 3) := by decide +kernel
theorem d9_188 : decode prog_34_method_4_code 188 = .ok (.aload_n 0, 1) := by decide +kernel
theorem d9_189 : decode prog_34_method_4_code 189 = .ok (.dup, 1) := by decide +kernel
theorem d9_190 : decode prog_34_method_4_code 190 = .ok (.getfield 13, 3) := by decide +kernel
theorem d9_193 : decode prog_34_method_4_code 193 = .ok (.dup_x1, 1) := by decide +kernel
theorem d9_194 : decode prog_34_method_4_code 194 = .ok (.iconst 1, 1) := by decide +kernel
theorem d9_195 : decode prog_34_method_4_code 195 = .ok (.iadd, 1) := by decide +kernel
theorem d9_196 : decode prog_34_method_4_code 196 = .ok (.putfield 13, 3) := by decide +kernel
theorem d9_199 : decode prog_34_method_4_code 199 = .ok (.sipush 128, 3) := by decide +kernel
theorem d9_202 : decode prog_34_method_4_code 202 = .ok (.iload 4, 2) := by decide +kernel
theorem d9_204 : decode prog_34_method_4_code 204 = .ok (.bipush 63, 2) := by decide +kernel
theorem d9_206 : decode prog_34_method_4_code 206 = .ok (.iand, 1) := by decide +kernel
theorem d9_207 : decode prog_34_method_4_code 207 = .ok (.ior, 1) := by decide +kernel
theorem d9_208 : decode prog_34_method_4_code 208 = .ok (.i2b, 1) := by decide +kernel
theorem d9_209 : decode prog_34_method_4_code 209 = .ok (.bastore, 1) := by decide +kernel
theorem d9_210 : decode prog_34_method_4_code 210 = .ok (.iinc 3 1, 3) := by decide +kernel
theorem d9_213 : decode prog_34_method_4_code 213 = .ok (.goto (-189), 3) := by decide +kernel
theorem d9_216 : decode prog_34_method_4_code 216 = .ok (.aload_n 0, 1) := by decide +kernel
theorem d9_217 : decode prog_34_method_4_code 217 = .ok (.areturn, 1) := by decide +kernel
theorem pn_9 : plainName "com/example/termwright/termwright/Spool$Record" = true := by first | (simp [plainName, overriddenIn]; done) | decide +kernel
set_option maxRecDepth 65536 in
set_option maxHeartbeats 40000000 in
theorem own_lpt {p : Program} {l : Launch} {e : Env} {s : State} {m : MethodId} {args : Array Value} {below : List Frame} {meth : Method} {c : Code} {Z : State} {a0' : Array Value} {h0 : Heap} {n0 : Nat} (hx : p.tables.exec = Jvm.exec) (hlk : meth.locks = false) (hZ : Z.Warmed39 s.vm) (hw : ∀ d ∈ tables_1, d.before a0' Z = true) (hby : c.code = prog_34_method_4_code) (hml : c.maxLocals = 5) (hown : s.vm.findClass "com/example/termwright/termwright/Spool$Record" = some m.cls) (hret : meth.sig.returnType = (some (.object "com/example/termwright/termwright/Spool$Record"))) {a0 a1 t ts : Addr} {n N p1 : Nat} {gs ch : Nat → Int32} {z1 cd : Int32} {fm : Value} (hne : a0 ≠ t) (hn1 : a1 ≠ a0) (hn2 : a1 ≠ t) (hn3 : ts ≠ a0) (hn4 : ts ≠ t) (hz1 : ¬ z1 = 0) (rf_fm : fm.isRef = true) (hD : own_D cd n N gs ch) (hn : n ≤ 4) (g_a0 : n0 ≤ a0) (g_t : n0 ≤ t) (cs : List Int32) : ∀ {T0 : State} {locs : List Loc} {h1 : Heap} {kx lx : Nat} {g : Nat → Int32} {s4 : Slot} (hTT : own_TT ch n kx cs) (hll : lx + 3 * cs.length ≤ 256) (o_s4 : s4 = .unset ∨ ∃ w, s4 = .val w ∧ w.category = 1) (X0 : Stand p l e ({ frames := 5, cells := 0, slots := 0, locals := 66 } : Room) s m args below meth c T0 locs 0 0) (N0 : Fr n0 locs) (e0 : T0.heap = h1) (K0 : Keep h0 h1 [a0, t]) (SS : own_SS Z h1 n0 z1 fm) (E0 : Exa Z h1 a0 "com/example/termwright/termwright/Spool$Record") (Fb : Fld Z h1 a0 "com/example/termwright/termwright/Spool$Record" "bytes" "[B" (.ref t)) (Fl : Fld Z h1 a0 "com/example/termwright/termwright/Spool$Record" "length" "I" (.int (Int32.ofInt ((lx : Nat) : Int)))) (Fp : Fld Z h1 a0 "com/example/termwright/termwright/Spool$Record" "position" "I" (.int (Int32.ofInt ((p1 : Nat) : Int)))) (M0 : own_Y .byte Z h1 t 256 g) (E0s : Exa Z h1 a1 "java/lang/String") (Fcs : Fld Z h1 a1 "java/lang/String" "coder" "B" (.int cd)) (Fvs : Fld Z h1 a1 "java/lang/String" "value" "[B" (.ref ts)) (Y0s : own_Y .byte Z h1 ts N gs) (Z1 : n0 ≤ h1.size),
    own_G p.tables e below (own_E s 0 0) (own_Qp Z a0 t p1 lx g cs h0 n0) (T0.setTop (mkF m 24 #[.val (.ref a0), .val (.ref a1), .val (.int n.toInt32), .val (.int kx.toInt32), s4] [])) := by
  induction cs with
  | nil =>
    intro T0 locs h1 kx lx g s4 hTT hll o_s4 X0 N0 e0 K0 SS E0 Fb Fl Fp M0 E0s Fcs Fvs Y0s Z1
    refine own_st ?_ (fun t_ k_ => XS.iloadN X0.here hx rfl (hb hby d9_24) rfl k_)
    show own_G p.tables e below _ _ (T0.setTop (mkF m 25 #[.val (.ref a0), .val (.ref a1), .val (.int n.toInt32), .val (.int kx.toInt32), s4] [(.int kx.toInt32)]))
    refine own_st ?_ (fun t_ k_ => XS.iloadN X0.here hx rfl (hb hby d9_25) rfl k_)
    show own_G p.tables e below _ _ (T0.setTop (mkF m 26 #[.val (.ref a0), .val (.ref a1), .val (.int n.toInt32), .val (.int kx.toInt32), s4] [(.int n.toInt32), (.int kx.toInt32)]))
    refine own_st ?_ (fun t_ k_ => XS.icmpYes X0.here hx rfl (pc0 := 26) (pc' := 216) rfl (hb hby d9_26) rfl (flt (own_eqn (by have := hTT.1; simp only [List.length_nil] at this; omega))).2.1 (by decide) (by decide) k_)
    show own_G p.tables e below _ _ (T0.setTop (mkF m 216 #[.val (.ref a0), .val (.ref a1), .val (.int n.toInt32), .val (.int kx.toInt32), s4] []))
    refine own_st ?_ (fun t_ k_ => XS.aloadN X0.here hx rfl (hb hby d9_216) rfl rfl k_)
    show own_G p.tables e below _ _ (T0.setTop (mkF m 217 #[.val (.ref a0), .val (.ref a1), .val (.int n.toInt32), .val (.int kx.toInt32), s4] [(.ref a0)]))
    refine own_retA X0 hx hlk hret rfl rfl rfl (hb hby d9_217) (by decide) (by decide) ⟨rfl, N0, ?_⟩
    rw [e0]
    exact ⟨K0, g, ⟨Fb, Fl, Fp, M0⟩, trivial, fun _ _ => rfl⟩
  | cons c1 cs ih =>
    intro T0 locs h1 kx lx g s4 hTT hll o_s4 X0 N0 e0 K0 SS E0 Fb Fl Fp M0 E0s Fcs Fvs Y0s Z1
    obtain rfl : ch kx = c1 := (own_TT1 hTT).2.1
    have hlc : (ch kx :: cs).length = cs.length + 1 := rfl
    refine own_st ?_ (fun t_ k_ => XS.iloadN X0.here hx rfl (hb hby d9_24) rfl k_)
    show own_G p.tables e below _ _ (T0.setTop (mkF m 25 #[.val (.ref a0), .val (.ref a1), .val (.int n.toInt32), .val (.int kx.toInt32), s4] [(.int kx.toInt32)]))
    refine own_st ?_ (fun t_ k_ => XS.iloadN X0.here hx rfl (hb hby d9_25) rfl k_)
    show own_G p.tables e below _ _ (T0.setTop (mkF m 26 #[.val (.ref a0), .val (.ref a1), .val (.int n.toInt32), .val (.int kx.toInt32), s4] [(.int n.toInt32), (.int kx.toInt32)]))
    refine own_st ?_ (fun t_ k_ => XS.icmpNo X0.here hx rfl (hb hby d9_26) rfl (tlt ((own_tlt (by have := (own_TT1 hTT).1; omega) (by omega)).mpr (own_TT1 hTT).1)).2.1 k_)
    show own_G p.tables e below _ _ (T0.setTop (mkF m 29 #[.val (.ref a0), .val (.ref a1), .val (.int n.toInt32), .val (.int kx.toInt32), s4] []))
    refine own_st ?_ (fun t_ k_ => XS.aloadN X0.here hx rfl (hb hby d9_29) rfl rfl k_)
    show own_G p.tables e below _ _ (T0.setTop (mkF m 30 #[.val (.ref a0), .val (.ref a1), .val (.int n.toInt32), .val (.int kx.toInt32), s4] [(.ref a1)]))
    refine own_st ?_ (fun t_ k_ => XS.iloadN X0.here hx rfl (hb hby d9_30) rfl k_)
    show own_G p.tables e below _ _ (T0.setTop (mkF m 31 #[.val (.ref a0), .val (.ref a1), .val (.int n.toInt32), .val (.int kx.toInt32), s4] [(.int kx.toInt32), (.ref a1)]))
    obtain ⟨cq1, kq1, q1a, q1b, q1c⟩ := isOf hZ e0 E0s
    obtain ⟨_, _, ⟨T1, L1, k1, n1⟩, -, X1, ⟨Lc1, hQ1, l1, y1, z1⟩, st1⟩ := X0.virtualBack hx (y := (⟨"java/lang/String", "charAt", "(I)C"⟩ : MethodName)) (z := (⟨"java/lang/String", "charAt", "(I)C"⟩ : MethodName)) hown (mvT hZ (hw _ (List.mem_of_getElem? (i := 75) rfl))) (mvT hZ (hw _ (List.mem_of_getElem? (i := 76) rfl))) (notFace_of_selects (args := #[]) (mvT hZ (hw _ (List.mem_of_getElem? (i := 78) rfl)))) (mvT hZ (hw _ (List.mem_of_getElem? (i := 78) rfl))) (mvT hZ (hw _ (List.mem_of_getElem? (i := 77) rfl))) (by decide) (backOf (W := 0) (rm14 l Z _ hw [] a1 kx.toInt32 z1 fm cd ts n N gs ch kx h1 n0 Z1 SS E0s Fcs Fvs Y0s hz1 rf_fm hD rfl (own_TT1 hTT).1) hZ (hw _ (List.mem_of_getElem? (i := 79) rfl)) (hw _ (List.mem_of_getElem? (i := 4) rfl)) (by decide) (by decide)) q1a q1c (g := (mkF m 31 #[.val (.ref a0), .val (.ref a1), .val (.int n.toInt32), .val (.int kx.toInt32), s4] [(.int kx.toInt32), (.ref a1)])) rfl (by rw [hml]; rfl) (Steps.refl _) (argsL := [(.int kx.toInt32)]) (rest := []) (lenOf pd_15 rfl) rfl (by show 2 * 0 + _ ≤ _; exact Nat.le_of_eq rfl) (hb hby d9_31) (fun _ _ => ⟨rfl, e0, (by decide : 0 + 0 ≤ _), (by decide : 0 + 0 ≤ _)⟩)
    dsimp only [Pt.U, Pt.locs, Pt.cells, Pt.slots] at X1 l1 y1 z1 st1 hQ1
    subst l1 y1 z1
    obtain ⟨rfl, N1q, e1⟩ := hQ1
    have N1 := Fr.app N0 N1q
    refine own_st ?_ (fun t_ k_ => st1.trans k_)
    show own_G p.tables e below _ _ (T1.setTop (mkF m 34 #[.val (.ref a0), .val (.ref a1), .val (.int n.toInt32), .val (.int kx.toInt32), s4] [(.int (ch kx))]))
    refine own_st ?_ (fun t_ k_ => XS.istoreS X1.here hx rfl (hb hby d9_34) rfl (o := s4) rfl o_s4 k_)
    show own_G p.tables e below _ _ (T1.setTop (mkF m 36 #[.val (.ref a0), .val (.ref a1), .val (.int n.toInt32), .val (.int kx.toInt32), .val (.int (ch kx))] []))
    refine own_st ?_ (fun t_ k_ => XS.iload X1.here hx rfl (hb hby d9_36) rfl k_)
    show own_G p.tables e below _ _ (T1.setTop (mkF m 38 #[.val (.ref a0), .val (.ref a1), .val (.int n.toInt32), .val (.int kx.toInt32), .val (.int (ch kx))] [(.int (ch kx))]))
    refine own_st ?_ (fun t_ k_ => XS.sipush X1.here hx rfl (hb hby d9_38) k_)
    show own_G p.tables e below _ _ (T1.setTop (mkF m 41 #[.val (.ref a0), .val (.ref a1), .val (.int n.toInt32), .val (.int kx.toInt32), .val (.int (ch kx))] [(.int (128 : Int32)), (.int (ch kx))]))
    by_cases hc41 : (ch kx) < (128 : Int32)
    · refine own_st ?_ (fun t_ k_ => XS.icmpNo X1.here hx rfl (hb hby d9_41) rfl (tlt hc41).2.1 k_)
      show own_G p.tables e below _ _ (T1.setTop (mkF m 44 #[.val (.ref a0), .val (.ref a1), .val (.int n.toInt32), .val (.int kx.toInt32), .val (.int (ch kx))] []))
      refine own_st ?_ (fun t_ k_ => XS.aloadN X1.here hx rfl (hb hby d9_44) rfl rfl k_)
      show own_G p.tables e below _ _ (T1.setTop (mkF m 45 #[.val (.ref a0), .val (.ref a1), .val (.int n.toInt32), .val (.int kx.toInt32), .val (.int (ch kx))] [(.ref a0)]))
      obtain ⟨T2, X2, e2, st2⟩ := getF X1 hx hZ hown (host := "") (Or.inl (hw _ (List.mem_of_getElem? (i := 44) rfl))) Via.refl e1 Fb (g := (mkF m 45 #[.val (.ref a0), .val (.ref a1), .val (.int n.toInt32), .val (.int kx.toInt32), .val (.int (ch kx))] [(.ref a0)])) rfl rfl (hb hby d9_45)
      refine own_st ?_ st2
      show own_G p.tables e below _ _ (T2.setTop (mkF m 48 #[.val (.ref a0), .val (.ref a1), .val (.int n.toInt32), .val (.int kx.toInt32), .val (.int (ch kx))] [(.ref t)]))
      refine own_st ?_ (fun t_ k_ => XS.aloadN X2.here hx rfl (hb hby d9_48) rfl rfl k_)
      show own_G p.tables e below _ _ (T2.setTop (mkF m 49 #[.val (.ref a0), .val (.ref a1), .val (.int n.toInt32), .val (.int kx.toInt32), .val (.int (ch kx))] [(.ref a0), (.ref t)]))
      refine own_st ?_ (fun t_ k_ => XS.dup X2.here hx rfl (hb hby d9_49) rfl rfl k_)
      show own_G p.tables e below _ _ (T2.setTop (mkF m 50 #[.val (.ref a0), .val (.ref a1), .val (.int n.toInt32), .val (.int kx.toInt32), .val (.int (ch kx))] [(.ref a0), (.ref a0), (.ref t)]))
      obtain ⟨T3, X3, e3, st3⟩ := getF X2 hx hZ hown (host := "") (Or.inl (hw _ (List.mem_of_getElem? (i := 71) rfl))) Via.refl e2 Fl (g := (mkF m 50 #[.val (.ref a0), .val (.ref a1), .val (.int n.toInt32), .val (.int kx.toInt32), .val (.int (ch kx))] [(.ref a0), (.ref a0), (.ref t)])) rfl rfl (hb hby d9_50)
      refine own_st ?_ st3
      show own_G p.tables e below _ _ (T3.setTop (mkF m 53 #[.val (.ref a0), .val (.ref a1), .val (.int n.toInt32), .val (.int kx.toInt32), .val (.int (ch kx))] [(.int (Int32.ofInt ((lx : Nat) : Int))), (.ref a0), (.ref t)]))
      refine own_st ?_ (fun t_ k_ => XS.dupX1 X3.here hx rfl (hb hby d9_53) rfl rfl rfl k_)
      show own_G p.tables e below _ _ (T3.setTop (mkF m 54 #[.val (.ref a0), .val (.ref a1), .val (.int n.toInt32), .val (.int kx.toInt32), .val (.int (ch kx))] [(.int (Int32.ofInt ((lx : Nat) : Int))), (.ref a0), (.int (Int32.ofInt ((lx : Nat) : Int))), (.ref t)]))
      refine own_st ?_ (fun t_ k_ => XS.iconst X3.here hx rfl (hb hby d9_54) k_)
      show own_G p.tables e below _ _ (T3.setTop (mkF m 55 #[.val (.ref a0), .val (.ref a1), .val (.int n.toInt32), .val (.int kx.toInt32), .val (.int (ch kx))] [(.int (1 : Int32)), (.int (Int32.ofInt ((lx : Nat) : Int))), (.ref a0), (.int (Int32.ofInt ((lx : Nat) : Int))), (.ref t)]))
      refine own_st ?_ (fun t_ k_ => XS.iadd X3.here hx rfl (hb hby d9_55) rfl k_)
      show own_G p.tables e below _ _ (T3.setTop (mkF m 56 #[.val (.ref a0), .val (.ref a1), .val (.int n.toInt32), .val (.int kx.toInt32), .val (.int (ch kx))] [(.int ((Int32.ofInt ((lx : Nat) : Int)) + (1 : Int32))), (.ref a0), (.int (Int32.ofInt ((lx : Nat) : Int))), (.ref t)]))
      obtain ⟨T4, h4, X4, e4, W4, st4⟩ := putF X3 hx hZ hown (host := "") (Or.inl (hw _ (List.mem_of_getElem? (i := 71) rfl))) Via.refl e3 Fl E0 (Or.inl (hw _ (List.mem_of_getElem? (i := 72) rfl))) (hw _ (List.mem_of_getElem? (i := 38) rfl)) (ty := .int) (by decide) rfl rfl (g := (mkF m 56 #[.val (.ref a0), .val (.ref a1), .val (.int n.toInt32), .val (.int kx.toInt32), .val (.int (ch kx))] [(.int ((Int32.ofInt ((lx : Nat) : Int)) + (1 : Int32))), (.ref a0), (.int (Int32.ofInt ((lx : Nat) : Int))), (.ref t)])) rfl rfl (hb hby d9_56)
      have N4 := Fr.snoc X4 N1 g_a0
      have F5_Z : own_SS Z h4 n0 z1 fm := own_SS_keep SS (Keep.of_wr W4) (own_alS g_a0 own_al0)
      have F6_E : Exa Z h4 a0 "com/example/termwright/termwright/Spool$Record" := E0.wr W4
      have F7_bytes : Fld Z h4 a0 "com/example/termwright/termwright/Spool$Record" "bytes" "[B" (.ref t) := Fb.other W4 (Or.inr (slot_ne (Or.inl (hw _ (List.mem_of_getElem? (i := 45) rfl))) (Or.inl (hw _ (List.mem_of_getElem? (i := 72) rfl))) (by decide) (t := (.array .byte)) (t' := .int) (by decide) (by decide)))
      have F8_length : Fld Z h4 a0 "com/example/termwright/termwright/Spool$Record" "length" "I" (.int ((Int32.ofInt ((lx : Nat) : Int)) + (1 : Int32))) := Fl.same W4
      have F9_position : Fld Z h4 a0 "com/example/termwright/termwright/Spool$Record" "position" "I" (.int (Int32.ofInt ((p1 : Nat) : Int))) := Fp.other W4 (Or.inr (slot_ne (Or.inl (hw _ (List.mem_of_getElem? (i := 110) rfl))) (Or.inl (hw _ (List.mem_of_getElem? (i := 72) rfl))) (by decide) (t := .int) (t' := .int) (by decide) (by decide)))
      have F10_P : own_Y .byte Z h4 t 256 g := own_Y_keep M0 (Keep.of_wr W4) (ninS (Ne.symm hne) nin0)
      have F11_E : Exa Z h4 a1 "java/lang/String" := E0s.wr W4
      have F12_coder : Fld Z h4 a1 "java/lang/String" "coder" "B" (.int cd) := Fcs.other W4 (Or.inl hn1)
      have F13_value : Fld Z h4 a1 "java/lang/String" "value" "[B" (.ref ts) := Fvs.other W4 (Or.inl hn1)
      have F14_P : own_Y .byte Z h4 ts N gs := own_Y_keep Y0s (Keep.of_wr W4) (ninS hn3 nin0)
      have Zs15 : n0 ≤ h4.size := Nat.le_trans Z1 (Keep.of_wr W4).1
      have Kc16 : Keep h0 h4 [a0, t] := K0.wr W4 (Or.inl (List.mem_of_getElem? (i := 0) rfl))
      refine own_st ?_ st4
      show own_G p.tables e below _ _ (T4.setTop (mkF m 59 #[.val (.ref a0), .val (.ref a1), .val (.int n.toInt32), .val (.int kx.toInt32), .val (.int (ch kx))] [(.int (Int32.ofInt ((lx : Nat) : Int))), (.ref t)]))
      refine own_st ?_ (fun t_ k_ => XS.iload X4.here hx rfl (hb hby d9_59) rfl k_)
      show own_G p.tables e below _ _ (T4.setTop (mkF m 61 #[.val (.ref a0), .val (.ref a1), .val (.int n.toInt32), .val (.int kx.toInt32), .val (.int (ch kx))] [(.int (ch kx)), (.int (Int32.ofInt ((lx : Nat) : Int))), (.ref t)]))
      refine own_st ?_ (fun t_ k_ => XS.i2b X4.here hx rfl (hb hby d9_61) rfl k_)
      show own_G p.tables e below _ _ (T4.setTop (mkF m 62 #[.val (.ref a0), .val (.ref a1), .val (.int n.toInt32), .val (.int kx.toInt32), .val (.int (ch kx))] [(.int ((ch kx).toInt8.toInt32)), (.int (Int32.ofInt ((lx : Nat) : Int))), (.ref t)]))
      have ix17 := own_ix (j := (Int32.ofInt ((lx : Nat) : Int))) (k := lx) (n := 256) (own_ofI (by omega)) (by omega) (by decide)
      obtain ⟨cl17, Ar17, Sz17, G17⟩ := F10_P
      have hin17 : ¬ ((Int32.ofInt ((lx : Nat) : Int)) < 0 ∨ cl17.slots.size ≤ ((Int32.ofInt ((lx : Nat) : Int))).toNatClampNeg) := by rw [Sz17]; exact ix17.1
      obtain ⟨T17, h17, X17, e17, W17, st17⟩ := stB X4 hx hZ e4 Ar17 (j := (Int32.ofInt ((lx : Nat) : Int))) hin17 (g := (mkF m 62 #[.val (.ref a0), .val (.ref a1), .val (.int n.toInt32), .val (.int kx.toInt32), .val (.int (ch kx))] [(.int ((ch kx).toInt8.toInt32)), (.int (Int32.ofInt ((lx : Nat) : Int))), (.ref t)])) rfl rfl (hb hby d9_62)
      have N17 := Fr.snoc X17 N4 g_t
      have Yo17 : own_Y .byte Z h4 t 256 g := ⟨cl17, Ar17, Sz17, G17⟩
      have F18_Z : own_SS Z h17 n0 z1 fm := own_SS_keep F5_Z (Keep.of_wr W17) (own_alS g_t own_al0)
      have F19_E : Exa Z h17 a0 "com/example/termwright/termwright/Spool$Record" := F6_E.wr W17
      have F20_bytes : Fld Z h17 a0 "com/example/termwright/termwright/Spool$Record" "bytes" "[B" (.ref t) := F7_bytes.other W17 (Or.inl hne)
      have F21_length : Fld Z h17 a0 "com/example/termwright/termwright/Spool$Record" "length" "I" (.int ((Int32.ofInt ((lx : Nat) : Int)) + (1 : Int32))) := F8_length.other W17 (Or.inl hne)
      have F22_position : Fld Z h17 a0 "com/example/termwright/termwright/Spool$Record" "position" "I" (.int (Int32.ofInt ((p1 : Nat) : Int))) := F9_position.other W17 (Or.inl hne)
      have F23_E : Exa Z h17 a1 "java/lang/String" := F11_E.wr W17
      have F24_coder : Fld Z h17 a1 "java/lang/String" "coder" "B" (.int cd) := F12_coder.other W17 (Or.inl hn2)
      have F25_value : Fld Z h17 a1 "java/lang/String" "value" "[B" (.ref ts) := F13_value.other W17 (Or.inl hn2)
      have F26_P : own_Y .byte Z h17 ts N gs := own_Y_keep F14_P (Keep.of_wr W17) (ninS hn4 nin0)
      have Zs27 : n0 ≤ h17.size := Nat.le_trans Zs15 (Keep.of_wr W17).1
      have Kc28 : Keep h0 h17 [a0, t] := Kc16.wr W17 (Or.inl (List.mem_of_getElem? (i := 1) rfl))
      have Y17 : own_Y .byte Z h17 t 256 (own_upd g lx (nar .byte ((ch kx).toInt8.toInt32))) := own_Y_set Yo17 W17 ix17.2
      refine own_st ?_ st17
      show own_G p.tables e below _ _ (T17.setTop (mkF m 63 #[.val (.ref a0), .val (.ref a1), .val (.int n.toInt32), .val (.int kx.toInt32), .val (.int (ch kx))] []))
      refine own_st ?_ (fun t_ k_ => XS.goto X17.here hx rfl (pc0 := 63) (pc' := 210) rfl (hb hby d9_63) (by decide) (by decide) k_)
      show own_G p.tables e below _ _ (T17.setTop (mkF m 210 #[.val (.ref a0), .val (.ref a1), .val (.int n.toInt32), .val (.int kx.toInt32), .val (.int (ch kx))] []))
      refine own_st ?_ (fun t_ k_ => XS.iinc X17.here hx rfl (hb hby d9_210) rfl (l' := #[.val (.ref a0), .val (.ref a1), .val (.int n.toInt32), .val (.int (kx.toInt32 + (1 : Int32))), .val (.int (ch kx))]) rfl k_)
      show own_G p.tables e below _ _ (T17.setTop (mkF m 213 #[.val (.ref a0), .val (.ref a1), .val (.int n.toInt32), .val (.int (kx.toInt32 + (1 : Int32))), .val (.int (ch kx))] []))
      refine own_st ?_ (fun t_ k_ => XS.goto X17.here hx rfl (pc0 := 213) (pc' := 24) rfl (hb hby d9_213) (by decide) (by decide) k_)
      show own_G p.tables e below _ _ (T17.setTop (mkF m 24 #[.val (.ref a0), .val (.ref a1), .val (.int n.toInt32), .val (.int (kx.toInt32 + (1 : Int32))), .val (.int (ch kx))] []))
      have Fl29 : Fld Z h17 a0 "com/example/termwright/termwright/Spool$Record" "length" "I" (.int (Int32.ofInt ((lx + 1 : Nat) : Int))) := by rw [← own_rinc]; exact F21_length
      simp only [own_inc]
      exact own_G_mono (fun v h L q => own_p1 hc41 q) (ih (kx := kx + 1) (s4 := .val (.int (ch kx))) (lx := lx + 1) (g := (own_upd g lx (nar .byte ((ch kx).toInt8.toInt32)))) (own_TT1 hTT).2.2 (by omega) (Or.inr ⟨_, rfl, rfl⟩) X17 N17 e17 Kc28 F18_Z F19_E F20_bytes Fl29 F22_position Y17 F23_E F24_coder F25_value F26_P Zs27)
    · refine own_st ?_ (fun t_ k_ => XS.icmpYes X1.here hx rfl (pc0 := 41) (pc' := 66) rfl (hb hby d9_41) rfl (flt hc41).2.1 (by decide) (by decide) k_)
      show own_G p.tables e below _ _ (T1.setTop (mkF m 66 #[.val (.ref a0), .val (.ref a1), .val (.int n.toInt32), .val (.int kx.toInt32), .val (.int (ch kx))] []))
      refine own_st ?_ (fun t_ k_ => XS.iload X1.here hx rfl (hb hby d9_66) rfl k_)
      show own_G p.tables e below _ _ (T1.setTop (mkF m 68 #[.val (.ref a0), .val (.ref a1), .val (.int n.toInt32), .val (.int kx.toInt32), .val (.int (ch kx))] [(.int (ch kx))]))
      refine own_st ?_ (fun t_ k_ => XS.sipush X1.here hx rfl (hb hby d9_68) k_)
      show own_G p.tables e below _ _ (T1.setTop (mkF m 71 #[.val (.ref a0), .val (.ref a1), .val (.int n.toInt32), .val (.int kx.toInt32), .val (.int (ch kx))] [(.int (2048 : Int32)), (.int (ch kx))]))
      by_cases hc71 : (ch kx) < (2048 : Int32)
      · refine own_st ?_ (fun t_ k_ => XS.icmpNo X1.here hx rfl (hb hby d9_71) rfl (tlt hc71).2.1 k_)
        show own_G p.tables e below _ _ (T1.setTop (mkF m 74 #[.val (.ref a0), .val (.ref a1), .val (.int n.toInt32), .val (.int kx.toInt32), .val (.int (ch kx))] []))
        refine own_st ?_ (fun t_ k_ => XS.aloadN X1.here hx rfl (hb hby d9_74) rfl rfl k_)
        show own_G p.tables e below _ _ (T1.setTop (mkF m 75 #[.val (.ref a0), .val (.ref a1), .val (.int n.toInt32), .val (.int kx.toInt32), .val (.int (ch kx))] [(.ref a0)]))
        obtain ⟨T30, X30, e30, st30⟩ := getF X1 hx hZ hown (host := "") (Or.inl (hw _ (List.mem_of_getElem? (i := 44) rfl))) Via.refl e1 Fb (g := (mkF m 75 #[.val (.ref a0), .val (.ref a1), .val (.int n.toInt32), .val (.int kx.toInt32), .val (.int (ch kx))] [(.ref a0)])) rfl rfl (hb hby d9_75)
        refine own_st ?_ st30
        show own_G p.tables e below _ _ (T30.setTop (mkF m 78 #[.val (.ref a0), .val (.ref a1), .val (.int n.toInt32), .val (.int kx.toInt32), .val (.int (ch kx))] [(.ref t)]))
        refine own_st ?_ (fun t_ k_ => XS.aloadN X30.here hx rfl (hb hby d9_78) rfl rfl k_)
        show own_G p.tables e below _ _ (T30.setTop (mkF m 79 #[.val (.ref a0), .val (.ref a1), .val (.int n.toInt32), .val (.int kx.toInt32), .val (.int (ch kx))] [(.ref a0), (.ref t)]))
        refine own_st ?_ (fun t_ k_ => XS.dup X30.here hx rfl (hb hby d9_79) rfl rfl k_)
        show own_G p.tables e below _ _ (T30.setTop (mkF m 80 #[.val (.ref a0), .val (.ref a1), .val (.int n.toInt32), .val (.int kx.toInt32), .val (.int (ch kx))] [(.ref a0), (.ref a0), (.ref t)]))
        obtain ⟨T31, X31, e31, st31⟩ := getF X30 hx hZ hown (host := "") (Or.inl (hw _ (List.mem_of_getElem? (i := 71) rfl))) Via.refl e30 Fl (g := (mkF m 80 #[.val (.ref a0), .val (.ref a1), .val (.int n.toInt32), .val (.int kx.toInt32), .val (.int (ch kx))] [(.ref a0), (.ref a0), (.ref t)])) rfl rfl (hb hby d9_80)
        refine own_st ?_ st31
        show own_G p.tables e below _ _ (T31.setTop (mkF m 83 #[.val (.ref a0), .val (.ref a1), .val (.int n.toInt32), .val (.int kx.toInt32), .val (.int (ch kx))] [(.int (Int32.ofInt ((lx : Nat) : Int))), (.ref a0), (.ref t)]))
        refine own_st ?_ (fun t_ k_ => XS.dupX1 X31.here hx rfl (hb hby d9_83) rfl rfl rfl k_)
        show own_G p.tables e below _ _ (T31.setTop (mkF m 84 #[.val (.ref a0), .val (.ref a1), .val (.int n.toInt32), .val (.int kx.toInt32), .val (.int (ch kx))] [(.int (Int32.ofInt ((lx : Nat) : Int))), (.ref a0), (.int (Int32.ofInt ((lx : Nat) : Int))), (.ref t)]))
        refine own_st ?_ (fun t_ k_ => XS.iconst X31.here hx rfl (hb hby d9_84) k_)
        show own_G p.tables e below _ _ (T31.setTop (mkF m 85 #[.val (.ref a0), .val (.ref a1), .val (.int n.toInt32), .val (.int kx.toInt32), .val (.int (ch kx))] [(.int (1 : Int32)), (.int (Int32.ofInt ((lx : Nat) : Int))), (.ref a0), (.int (Int32.ofInt ((lx : Nat) : Int))), (.ref t)]))
        refine own_st ?_ (fun t_ k_ => XS.iadd X31.here hx rfl (hb hby d9_85) rfl k_)
        show own_G p.tables e below _ _ (T31.setTop (mkF m 86 #[.val (.ref a0), .val (.ref a1), .val (.int n.toInt32), .val (.int kx.toInt32), .val (.int (ch kx))] [(.int ((Int32.ofInt ((lx : Nat) : Int)) + (1 : Int32))), (.ref a0), (.int (Int32.ofInt ((lx : Nat) : Int))), (.ref t)]))
        obtain ⟨T32, h32, X32, e32, W32, st32⟩ := putF X31 hx hZ hown (host := "") (Or.inl (hw _ (List.mem_of_getElem? (i := 71) rfl))) Via.refl e31 Fl E0 (Or.inl (hw _ (List.mem_of_getElem? (i := 72) rfl))) (hw _ (List.mem_of_getElem? (i := 38) rfl)) (ty := .int) (by decide) rfl rfl (g := (mkF m 86 #[.val (.ref a0), .val (.ref a1), .val (.int n.toInt32), .val (.int kx.toInt32), .val (.int (ch kx))] [(.int ((Int32.ofInt ((lx : Nat) : Int)) + (1 : Int32))), (.ref a0), (.int (Int32.ofInt ((lx : Nat) : Int))), (.ref t)])) rfl rfl (hb hby d9_86)
        have N32 := Fr.snoc X32 N1 g_a0
        have F33_Z : own_SS Z h32 n0 z1 fm := own_SS_keep SS (Keep.of_wr W32) (own_alS g_a0 own_al0)
        have F34_E : Exa Z h32 a0 "com/example/termwright/termwright/Spool$Record" := E0.wr W32
        have F35_bytes : Fld Z h32 a0 "com/example/termwright/termwright/Spool$Record" "bytes" "[B" (.ref t) := Fb.other W32 (Or.inr (slot_ne (Or.inl (hw _ (List.mem_of_getElem? (i := 45) rfl))) (Or.inl (hw _ (List.mem_of_getElem? (i := 72) rfl))) (by decide) (t := (.array .byte)) (t' := .int) (by decide) (by decide)))
        have F36_length : Fld Z h32 a0 "com/example/termwright/termwright/Spool$Record" "length" "I" (.int ((Int32.ofInt ((lx : Nat) : Int)) + (1 : Int32))) := Fl.same W32
        have F37_position : Fld Z h32 a0 "com/example/termwright/termwright/Spool$Record" "position" "I" (.int (Int32.ofInt ((p1 : Nat) : Int))) := Fp.other W32 (Or.inr (slot_ne (Or.inl (hw _ (List.mem_of_getElem? (i := 110) rfl))) (Or.inl (hw _ (List.mem_of_getElem? (i := 72) rfl))) (by decide) (t := .int) (t' := .int) (by decide) (by decide)))
        have F38_P : own_Y .byte Z h32 t 256 g := own_Y_keep M0 (Keep.of_wr W32) (ninS (Ne.symm hne) nin0)
        have F39_E : Exa Z h32 a1 "java/lang/String" := E0s.wr W32
        have F40_coder : Fld Z h32 a1 "java/lang/String" "coder" "B" (.int cd) := Fcs.other W32 (Or.inl hn1)
        have F41_value : Fld Z h32 a1 "java/lang/String" "value" "[B" (.ref ts) := Fvs.other W32 (Or.inl hn1)
        have F42_P : own_Y .byte Z h32 ts N gs := own_Y_keep Y0s (Keep.of_wr W32) (ninS hn3 nin0)
        have Zs43 : n0 ≤ h32.size := Nat.le_trans Z1 (Keep.of_wr W32).1
        have Kc44 : Keep h0 h32 [a0, t] := K0.wr W32 (Or.inl (List.mem_of_getElem? (i := 0) rfl))
        refine own_st ?_ st32
        show own_G p.tables e below _ _ (T32.setTop (mkF m 89 #[.val (.ref a0), .val (.ref a1), .val (.int n.toInt32), .val (.int kx.toInt32), .val (.int (ch kx))] [(.int (Int32.ofInt ((lx : Nat) : Int))), (.ref t)]))
        refine own_st ?_ (fun t_ k_ => XS.sipush X32.here hx rfl (hb hby d9_89) k_)
        show own_G p.tables e below _ _ (T32.setTop (mkF m 92 #[.val (.ref a0), .val (.ref a1), .val (.int n.toInt32), .val (.int kx.toInt32), .val (.int (ch kx))] [(.int (192 : Int32)), (.int (Int32.ofInt ((lx : Nat) : Int))), (.ref t)]))
        refine own_st ?_ (fun t_ k_ => XS.iload X32.here hx rfl (hb hby d9_92) rfl k_)
        show own_G p.tables e below _ _ (T32.setTop (mkF m 94 #[.val (.ref a0), .val (.ref a1), .val (.int n.toInt32), .val (.int kx.toInt32), .val (.int (ch kx))] [(.int (ch kx)), (.int (192 : Int32)), (.int (Int32.ofInt ((lx : Nat) : Int))), (.ref t)]))
        refine own_st ?_ (fun t_ k_ => XS.bipush X32.here hx rfl (hb hby d9_94) k_)
        show own_G p.tables e below _ _ (T32.setTop (mkF m 96 #[.val (.ref a0), .val (.ref a1), .val (.int n.toInt32), .val (.int kx.toInt32), .val (.int (ch kx))] [(.int (6 : Int32)), (.int (ch kx)), (.int (192 : Int32)), (.int (Int32.ofInt ((lx : Nat) : Int))), (.ref t)]))
        refine own_st ?_ (fun t_ k_ => XS.ishr X32.here hx rfl (hb hby d9_96) rfl k_)
        show own_G p.tables e below _ _ (T32.setTop (mkF m 97 #[.val (.ref a0), .val (.ref a1), .val (.int n.toInt32), .val (.int kx.toInt32), .val (.int (ch kx))] [(.int ((ch kx) >>> ((6 : Int32) &&& 31))), (.int (192 : Int32)), (.int (Int32.ofInt ((lx : Nat) : Int))), (.ref t)]))
        refine own_st ?_ (fun t_ k_ => XS.ior X32.here hx rfl (hb hby d9_97) rfl k_)
        show own_G p.tables e below _ _ (T32.setTop (mkF m 98 #[.val (.ref a0), .val (.ref a1), .val (.int n.toInt32), .val (.int kx.toInt32), .val (.int (ch kx))] [(.int ((192 : Int32) ||| ((ch kx) >>> ((6 : Int32) &&& 31)))), (.int (Int32.ofInt ((lx : Nat) : Int))), (.ref t)]))
        refine own_st ?_ (fun t_ k_ => XS.i2b X32.here hx rfl (hb hby d9_98) rfl k_)
        show own_G p.tables e below _ _ (T32.setTop (mkF m 99 #[.val (.ref a0), .val (.ref a1), .val (.int n.toInt32), .val (.int kx.toInt32), .val (.int (ch kx))] [(.int (((192 : Int32) ||| ((ch kx) >>> ((6 : Int32) &&& 31))).toInt8.toInt32)), (.int (Int32.ofInt ((lx : Nat) : Int))), (.ref t)]))
        have ix45 := own_ix (j := (Int32.ofInt ((lx : Nat) : Int))) (k := lx) (n := 256) (own_ofI (by omega)) (by omega) (by decide)
        obtain ⟨cl45, Ar45, Sz45, G45⟩ := F38_P
        have hin45 : ¬ ((Int32.ofInt ((lx : Nat) : Int)) < 0 ∨ cl45.slots.size ≤ ((Int32.ofInt ((lx : Nat) : Int))).toNatClampNeg) := by rw [Sz45]; exact ix45.1
        obtain ⟨T45, h45, X45, e45, W45, st45⟩ := stB X32 hx hZ e32 Ar45 (j := (Int32.ofInt ((lx : Nat) : Int))) hin45 (g := (mkF m 99 #[.val (.ref a0), .val (.ref a1), .val (.int n.toInt32), .val (.int kx.toInt32), .val (.int (ch kx))] [(.int (((192 : Int32) ||| ((ch kx) >>> ((6 : Int32) &&& 31))).toInt8.toInt32)), (.int (Int32.ofInt ((lx : Nat) : Int))), (.ref t)])) rfl rfl (hb hby d9_99)
        have N45 := Fr.snoc X45 N32 g_t
        have Yo45 : own_Y .byte Z h32 t 256 g := ⟨cl45, Ar45, Sz45, G45⟩
        have F46_Z : own_SS Z h45 n0 z1 fm := own_SS_keep F33_Z (Keep.of_wr W45) (own_alS g_t own_al0)
        have F47_E : Exa Z h45 a0 "com/example/termwright/termwright/Spool$Record" := F34_E.wr W45
        have F48_bytes : Fld Z h45 a0 "com/example/termwright/termwright/Spool$Record" "bytes" "[B" (.ref t) := F35_bytes.other W45 (Or.inl hne)
        have F49_length : Fld Z h45 a0 "com/example/termwright/termwright/Spool$Record" "length" "I" (.int ((Int32.ofInt ((lx : Nat) : Int)) + (1 : Int32))) := F36_length.other W45 (Or.inl hne)
        have F50_position : Fld Z h45 a0 "com/example/termwright/termwright/Spool$Record" "position" "I" (.int (Int32.ofInt ((p1 : Nat) : Int))) := F37_position.other W45 (Or.inl hne)
        have F51_E : Exa Z h45 a1 "java/lang/String" := F39_E.wr W45
        have F52_coder : Fld Z h45 a1 "java/lang/String" "coder" "B" (.int cd) := F40_coder.other W45 (Or.inl hn2)
        have F53_value : Fld Z h45 a1 "java/lang/String" "value" "[B" (.ref ts) := F41_value.other W45 (Or.inl hn2)
        have F54_P : own_Y .byte Z h45 ts N gs := own_Y_keep F42_P (Keep.of_wr W45) (ninS hn4 nin0)
        have Zs55 : n0 ≤ h45.size := Nat.le_trans Zs43 (Keep.of_wr W45).1
        have Kc56 : Keep h0 h45 [a0, t] := Kc44.wr W45 (Or.inl (List.mem_of_getElem? (i := 1) rfl))
        have Y45 : own_Y .byte Z h45 t 256 (own_upd g lx (nar .byte (((192 : Int32) ||| ((ch kx) >>> ((6 : Int32) &&& 31))).toInt8.toInt32))) := own_Y_set Yo45 W45 ix45.2
        refine own_st ?_ st45
        show own_G p.tables e below _ _ (T45.setTop (mkF m 100 #[.val (.ref a0), .val (.ref a1), .val (.int n.toInt32), .val (.int kx.toInt32), .val (.int (ch kx))] []))
        refine own_st ?_ (fun t_ k_ => XS.aloadN X45.here hx rfl (hb hby d9_100) rfl rfl k_)
        show own_G p.tables e below _ _ (T45.setTop (mkF m 101 #[.val (.ref a0), .val (.ref a1), .val (.int n.toInt32), .val (.int kx.toInt32), .val (.int (ch kx))] [(.ref a0)]))
        obtain ⟨T57, X57, e57, st57⟩ := getF X45 hx hZ hown (host := "") (Or.inl (hw _ (List.mem_of_getElem? (i := 44) rfl))) Via.refl e45 F48_bytes (g := (mkF m 101 #[.val (.ref a0), .val (.ref a1), .val (.int n.toInt32), .val (.int kx.toInt32), .val (.int (ch kx))] [(.ref a0)])) rfl rfl (hb hby d9_101)
        refine own_st ?_ st57
        show own_G p.tables e below _ _ (T57.setTop (mkF m 104 #[.val (.ref a0), .val (.ref a1), .val (.int n.toInt32), .val (.int kx.toInt32), .val (.int (ch kx))] [(.ref t)]))
        refine own_st ?_ (fun t_ k_ => XS.aloadN X57.here hx rfl (hb hby d9_104) rfl rfl k_)
        show own_G p.tables e below _ _ (T57.setTop (mkF m 105 #[.val (.ref a0), .val (.ref a1), .val (.int n.toInt32), .val (.int kx.toInt32), .val (.int (ch kx))] [(.ref a0), (.ref t)]))
        refine own_st ?_ (fun t_ k_ => XS.dup X57.here hx rfl (hb hby d9_105) rfl rfl k_)
        show own_G p.tables e below _ _ (T57.setTop (mkF m 106 #[.val (.ref a0), .val (.ref a1), .val (.int n.toInt32), .val (.int kx.toInt32), .val (.int (ch kx))] [(.ref a0), (.ref a0), (.ref t)]))
        obtain ⟨T58, X58, e58, st58⟩ := getF X57 hx hZ hown (host := "") (Or.inl (hw _ (List.mem_of_getElem? (i := 71) rfl))) Via.refl e57 F49_length (g := (mkF m 106 #[.val (.ref a0), .val (.ref a1), .val (.int n.toInt32), .val (.int kx.toInt32), .val (.int (ch kx))] [(.ref a0), (.ref a0), (.ref t)])) rfl rfl (hb hby d9_106)
        refine own_st ?_ st58
        show own_G p.tables e below _ _ (T58.setTop (mkF m 109 #[.val (.ref a0), .val (.ref a1), .val (.int n.toInt32), .val (.int kx.toInt32), .val (.int (ch kx))] [(.int ((Int32.ofInt ((lx : Nat) : Int)) + (1 : Int32))), (.ref a0), (.ref t)]))
        refine own_st ?_ (fun t_ k_ => XS.dupX1 X58.here hx rfl (hb hby d9_109) rfl rfl rfl k_)
        show own_G p.tables e below _ _ (T58.setTop (mkF m 110 #[.val (.ref a0), .val (.ref a1), .val (.int n.toInt32), .val (.int kx.toInt32), .val (.int (ch kx))] [(.int ((Int32.ofInt ((lx : Nat) : Int)) + (1 : Int32))), (.ref a0), (.int ((Int32.ofInt ((lx : Nat) : Int)) + (1 : Int32))), (.ref t)]))
        refine own_st ?_ (fun t_ k_ => XS.iconst X58.here hx rfl (hb hby d9_110) k_)
        show own_G p.tables e below _ _ (T58.setTop (mkF m 111 #[.val (.ref a0), .val (.ref a1), .val (.int n.toInt32), .val (.int kx.toInt32), .val (.int (ch kx))] [(.int (1 : Int32)), (.int ((Int32.ofInt ((lx : Nat) : Int)) + (1 : Int32))), (.ref a0), (.int ((Int32.ofInt ((lx : Nat) : Int)) + (1 : Int32))), (.ref t)]))
        refine own_st ?_ (fun t_ k_ => XS.iadd X58.here hx rfl (hb hby d9_111) rfl k_)
        show own_G p.tables e below _ _ (T58.setTop (mkF m 112 #[.val (.ref a0), .val (.ref a1), .val (.int n.toInt32), .val (.int kx.toInt32), .val (.int (ch kx))] [(.int (((Int32.ofInt ((lx : Nat) : Int)) + (1 : Int32)) + (1 : Int32))), (.ref a0), (.int ((Int32.ofInt ((lx : Nat) : Int)) + (1 : Int32))), (.ref t)]))
        obtain ⟨T59, h59, X59, e59, W59, st59⟩ := putF X58 hx hZ hown (host := "") (Or.inl (hw _ (List.mem_of_getElem? (i := 71) rfl))) Via.refl e58 F49_length F47_E (Or.inl (hw _ (List.mem_of_getElem? (i := 72) rfl))) (hw _ (List.mem_of_getElem? (i := 38) rfl)) (ty := .int) (by decide) rfl rfl (g := (mkF m 112 #[.val (.ref a0), .val (.ref a1), .val (.int n.toInt32), .val (.int kx.toInt32), .val (.int (ch kx))] [(.int (((Int32.ofInt ((lx : Nat) : Int)) + (1 : Int32)) + (1 : Int32))), (.ref a0), (.int ((Int32.ofInt ((lx : Nat) : Int)) + (1 : Int32))), (.ref t)])) rfl rfl (hb hby d9_112)
        have N59 := Fr.snoc X59 N45 g_a0
        have F60_Z : own_SS Z h59 n0 z1 fm := own_SS_keep F46_Z (Keep.of_wr W59) (own_alS g_a0 own_al0)
        have F61_E : Exa Z h59 a0 "com/example/termwright/termwright/Spool$Record" := F47_E.wr W59
        have F62_bytes : Fld Z h59 a0 "com/example/termwright/termwright/Spool$Record" "bytes" "[B" (.ref t) := F48_bytes.other W59 (Or.inr (slot_ne (Or.inl (hw _ (List.mem_of_getElem? (i := 45) rfl))) (Or.inl (hw _ (List.mem_of_getElem? (i := 72) rfl))) (by decide) (t := (.array .byte)) (t' := .int) (by decide) (by decide)))
        have F63_length : Fld Z h59 a0 "com/example/termwright/termwright/Spool$Record" "length" "I" (.int (((Int32.ofInt ((lx : Nat) : Int)) + (1 : Int32)) + (1 : Int32))) := F49_length.same W59
        have F64_position : Fld Z h59 a0 "com/example/termwright/termwright/Spool$Record" "position" "I" (.int (Int32.ofInt ((p1 : Nat) : Int))) := F50_position.other W59 (Or.inr (slot_ne (Or.inl (hw _ (List.mem_of_getElem? (i := 110) rfl))) (Or.inl (hw _ (List.mem_of_getElem? (i := 72) rfl))) (by decide) (t := .int) (t' := .int) (by decide) (by decide)))
        have F65_P : own_Y .byte Z h59 t 256 (own_upd g lx (nar .byte (((192 : Int32) ||| ((ch kx) >>> ((6 : Int32) &&& 31))).toInt8.toInt32))) := own_Y_keep Y45 (Keep.of_wr W59) (ninS (Ne.symm hne) nin0)
        have F66_E : Exa Z h59 a1 "java/lang/String" := F51_E.wr W59
        have F67_coder : Fld Z h59 a1 "java/lang/String" "coder" "B" (.int cd) := F52_coder.other W59 (Or.inl hn1)
        have F68_value : Fld Z h59 a1 "java/lang/String" "value" "[B" (.ref ts) := F53_value.other W59 (Or.inl hn1)
        have F69_P : own_Y .byte Z h59 ts N gs := own_Y_keep F54_P (Keep.of_wr W59) (ninS hn3 nin0)
        have Zs70 : n0 ≤ h59.size := Nat.le_trans Zs55 (Keep.of_wr W59).1
        have Kc71 : Keep h0 h59 [a0, t] := Kc56.wr W59 (Or.inl (List.mem_of_getElem? (i := 0) rfl))
        refine own_st ?_ st59
        show own_G p.tables e below _ _ (T59.setTop (mkF m 115 #[.val (.ref a0), .val (.ref a1), .val (.int n.toInt32), .val (.int kx.toInt32), .val (.int (ch kx))] [(.int ((Int32.ofInt ((lx : Nat) : Int)) + (1 : Int32))), (.ref t)]))
        refine own_st ?_ (fun t_ k_ => XS.sipush X59.here hx rfl (hb hby d9_115) k_)
        show own_G p.tables e below _ _ (T59.setTop (mkF m 118 #[.val (.ref a0), .val (.ref a1), .val (.int n.toInt32), .val (.int kx.toInt32), .val (.int (ch kx))] [(.int (128 : Int32)), (.int ((Int32.ofInt ((lx : Nat) : Int)) + (1 : Int32))), (.ref t)]))
        refine own_st ?_ (fun t_ k_ => XS.iload X59.here hx rfl (hb hby d9_118) rfl k_)
        show own_G p.tables e below _ _ (T59.setTop (mkF m 120 #[.val (.ref a0), .val (.ref a1), .val (.int n.toInt32), .val (.int kx.toInt32), .val (.int (ch kx))] [(.int (ch kx)), (.int (128 : Int32)), (.int ((Int32.ofInt ((lx : Nat) : Int)) + (1 : Int32))), (.ref t)]))
        refine own_st ?_ (fun t_ k_ => XS.bipush X59.here hx rfl (hb hby d9_120) k_)
        show own_G p.tables e below _ _ (T59.setTop (mkF m 122 #[.val (.ref a0), .val (.ref a1), .val (.int n.toInt32), .val (.int kx.toInt32), .val (.int (ch kx))] [(.int (63 : Int32)), (.int (ch kx)), (.int (128 : Int32)), (.int ((Int32.ofInt ((lx : Nat) : Int)) + (1 : Int32))), (.ref t)]))
        refine own_st ?_ (fun t_ k_ => XS.iand X59.here hx rfl (hb hby d9_122) rfl k_)
        show own_G p.tables e below _ _ (T59.setTop (mkF m 123 #[.val (.ref a0), .val (.ref a1), .val (.int n.toInt32), .val (.int kx.toInt32), .val (.int (ch kx))] [(.int ((ch kx) &&& (63 : Int32))), (.int (128 : Int32)), (.int ((Int32.ofInt ((lx : Nat) : Int)) + (1 : Int32))), (.ref t)]))
        refine own_st ?_ (fun t_ k_ => XS.ior X59.here hx rfl (hb hby d9_123) rfl k_)
        show own_G p.tables e below _ _ (T59.setTop (mkF m 124 #[.val (.ref a0), .val (.ref a1), .val (.int n.toInt32), .val (.int kx.toInt32), .val (.int (ch kx))] [(.int ((128 : Int32) ||| ((ch kx) &&& (63 : Int32)))), (.int ((Int32.ofInt ((lx : Nat) : Int)) + (1 : Int32))), (.ref t)]))
        refine own_st ?_ (fun t_ k_ => XS.i2b X59.here hx rfl (hb hby d9_124) rfl k_)
        show own_G p.tables e below _ _ (T59.setTop (mkF m 125 #[.val (.ref a0), .val (.ref a1), .val (.int n.toInt32), .val (.int kx.toInt32), .val (.int (ch kx))] [(.int (((128 : Int32) ||| ((ch kx) &&& (63 : Int32))).toInt8.toInt32)), (.int ((Int32.ofInt ((lx : Nat) : Int)) + (1 : Int32))), (.ref t)]))
        have ix72 := own_ix (j := ((Int32.ofInt ((lx : Nat) : Int)) + (1 : Int32))) (k := lx + 1) (n := 256) (by rw [own_ofI (by omega)]; exact own_inc _) (by omega) (by decide)
        obtain ⟨cl72, Ar72, Sz72, G72⟩ := F65_P
        have hin72 : ¬ (((Int32.ofInt ((lx : Nat) : Int)) + (1 : Int32)) < 0 ∨ cl72.slots.size ≤ (((Int32.ofInt ((lx : Nat) : Int)) + (1 : Int32))).toNatClampNeg) := by rw [Sz72]; exact ix72.1
        obtain ⟨T72, h72, X72, e72, W72, st72⟩ := stB X59 hx hZ e59 Ar72 (j := ((Int32.ofInt ((lx : Nat) : Int)) + (1 : Int32))) hin72 (g := (mkF m 125 #[.val (.ref a0), .val (.ref a1), .val (.int n.toInt32), .val (.int kx.toInt32), .val (.int (ch kx))] [(.int (((128 : Int32) ||| ((ch kx) &&& (63 : Int32))).toInt8.toInt32)), (.int ((Int32.ofInt ((lx : Nat) : Int)) + (1 : Int32))), (.ref t)])) rfl rfl (hb hby d9_125)
        have N72 := Fr.snoc X72 N59 g_t
        have Yo72 : own_Y .byte Z h59 t 256 (own_upd g lx (nar .byte (((192 : Int32) ||| ((ch kx) >>> ((6 : Int32) &&& 31))).toInt8.toInt32))) := ⟨cl72, Ar72, Sz72, G72⟩
        have F73_Z : own_SS Z h72 n0 z1 fm := own_SS_keep F60_Z (Keep.of_wr W72) (own_alS g_t own_al0)
        have F74_E : Exa Z h72 a0 "com/example/termwright/termwright/Spool$Record" := F61_E.wr W72
        have F75_bytes : Fld Z h72 a0 "com/example/termwright/termwright/Spool$Record" "bytes" "[B" (.ref t) := F62_bytes.other W72 (Or.inl hne)
        have F76_length : Fld Z h72 a0 "com/example/termwright/termwright/Spool$Record" "length" "I" (.int (((Int32.ofInt ((lx : Nat) : Int)) + (1 : Int32)) + (1 : Int32))) := F63_length.other W72 (Or.inl hne)
        have F77_position : Fld Z h72 a0 "com/example/termwright/termwright/Spool$Record" "position" "I" (.int (Int32.ofInt ((p1 : Nat) : Int))) := F64_position.other W72 (Or.inl hne)
        have F78_E : Exa Z h72 a1 "java/lang/String" := F66_E.wr W72
        have F79_coder : Fld Z h72 a1 "java/lang/String" "coder" "B" (.int cd) := F67_coder.other W72 (Or.inl hn2)
        have F80_value : Fld Z h72 a1 "java/lang/String" "value" "[B" (.ref ts) := F68_value.other W72 (Or.inl hn2)
        have F81_P : own_Y .byte Z h72 ts N gs := own_Y_keep F69_P (Keep.of_wr W72) (ninS hn4 nin0)
        have Zs82 : n0 ≤ h72.size := Nat.le_trans Zs70 (Keep.of_wr W72).1
        have Kc83 : Keep h0 h72 [a0, t] := Kc71.wr W72 (Or.inl (List.mem_of_getElem? (i := 1) rfl))
        have Y72 : own_Y .byte Z h72 t 256 (own_upd (own_upd g lx (nar .byte (((192 : Int32) ||| ((ch kx) >>> ((6 : Int32) &&& 31))).toInt8.toInt32))) (lx + 1) (nar .byte (((128 : Int32) ||| ((ch kx) &&& (63 : Int32))).toInt8.toInt32))) := own_Y_set Yo72 W72 ix72.2
        refine own_st ?_ st72
        show own_G p.tables e below _ _ (T72.setTop (mkF m 126 #[.val (.ref a0), .val (.ref a1), .val (.int n.toInt32), .val (.int kx.toInt32), .val (.int (ch kx))] []))
        refine own_st ?_ (fun t_ k_ => XS.goto X72.here hx rfl (pc0 := 126) (pc' := 210) rfl (hb hby d9_126) (by decide) (by decide) k_)
        show own_G p.tables e below _ _ (T72.setTop (mkF m 210 #[.val (.ref a0), .val (.ref a1), .val (.int n.toInt32), .val (.int kx.toInt32), .val (.int (ch kx))] []))
        refine own_st ?_ (fun t_ k_ => XS.iinc X72.here hx rfl (hb hby d9_210) rfl (l' := #[.val (.ref a0), .val (.ref a1), .val (.int n.toInt32), .val (.int (kx.toInt32 + (1 : Int32))), .val (.int (ch kx))]) rfl k_)
        show own_G p.tables e below _ _ (T72.setTop (mkF m 213 #[.val (.ref a0), .val (.ref a1), .val (.int n.toInt32), .val (.int (kx.toInt32 + (1 : Int32))), .val (.int (ch kx))] []))
        refine own_st ?_ (fun t_ k_ => XS.goto X72.here hx rfl (pc0 := 213) (pc' := 24) rfl (hb hby d9_213) (by decide) (by decide) k_)
        show own_G p.tables e below _ _ (T72.setTop (mkF m 24 #[.val (.ref a0), .val (.ref a1), .val (.int n.toInt32), .val (.int (kx.toInt32 + (1 : Int32))), .val (.int (ch kx))] []))
        have Fl84 : Fld Z h72 a0 "com/example/termwright/termwright/Spool$Record" "length" "I" (.int (Int32.ofInt ((lx + 1 + 1 : Nat) : Int))) := by rw [← own_rinc, ← own_rinc]; exact F76_length
        simp only [own_inc]
        exact own_G_mono (fun v h L q => own_p2 hc41 hc71 q) (ih (kx := kx + 1) (s4 := .val (.int (ch kx))) (lx := lx + 1 + 1) (g := (own_upd (own_upd g lx (nar .byte (((192 : Int32) ||| ((ch kx) >>> ((6 : Int32) &&& 31))).toInt8.toInt32))) (lx + 1) (nar .byte (((128 : Int32) ||| ((ch kx) &&& (63 : Int32))).toInt8.toInt32)))) (own_TT1 hTT).2.2 (by omega) (Or.inr ⟨_, rfl, rfl⟩) X72 N72 e72 Kc83 F73_Z F74_E F75_bytes Fl84 F77_position Y72 F78_E F79_coder F80_value F81_P Zs82)
      · refine own_st ?_ (fun t_ k_ => XS.icmpYes X1.here hx rfl (pc0 := 71) (pc' := 129) rfl (hb hby d9_71) rfl (flt hc71).2.1 (by decide) (by decide) k_)
        show own_G p.tables e below _ _ (T1.setTop (mkF m 129 #[.val (.ref a0), .val (.ref a1), .val (.int n.toInt32), .val (.int kx.toInt32), .val (.int (ch kx))] []))
        refine own_st ?_ (fun t_ k_ => XS.aloadN X1.here hx rfl (hb hby d9_129) rfl rfl k_)
        show own_G p.tables e below _ _ (T1.setTop (mkF m 130 #[.val (.ref a0), .val (.ref a1), .val (.int n.toInt32), .val (.int kx.toInt32), .val (.int (ch kx))] [(.ref a0)]))
        obtain ⟨T85, X85, e85, st85⟩ := getF X1 hx hZ hown (host := "") (Or.inl (hw _ (List.mem_of_getElem? (i := 44) rfl))) Via.refl e1 Fb (g := (mkF m 130 #[.val (.ref a0), .val (.ref a1), .val (.int n.toInt32), .val (.int kx.toInt32), .val (.int (ch kx))] [(.ref a0)])) rfl rfl (hb hby d9_130)
        refine own_st ?_ st85
        show own_G p.tables e below _ _ (T85.setTop (mkF m 133 #[.val (.ref a0), .val (.ref a1), .val (.int n.toInt32), .val (.int kx.toInt32), .val (.int (ch kx))] [(.ref t)]))
        refine own_st ?_ (fun t_ k_ => XS.aloadN X85.here hx rfl (hb hby d9_133) rfl rfl k_)
        show own_G p.tables e below _ _ (T85.setTop (mkF m 134 #[.val (.ref a0), .val (.ref a1), .val (.int n.toInt32), .val (.int kx.toInt32), .val (.int (ch kx))] [(.ref a0), (.ref t)]))
        refine own_st ?_ (fun t_ k_ => XS.dup X85.here hx rfl (hb hby d9_134) rfl rfl k_)
        show own_G p.tables e below _ _ (T85.setTop (mkF m 135 #[.val (.ref a0), .val (.ref a1), .val (.int n.toInt32), .val (.int kx.toInt32), .val (.int (ch kx))] [(.ref a0), (.ref a0), (.ref t)]))
        obtain ⟨T86, X86, e86, st86⟩ := getF X85 hx hZ hown (host := "") (Or.inl (hw _ (List.mem_of_getElem? (i := 71) rfl))) Via.refl e85 Fl (g := (mkF m 135 #[.val (.ref a0), .val (.ref a1), .val (.int n.toInt32), .val (.int kx.toInt32), .val (.int (ch kx))] [(.ref a0), (.ref a0), (.ref t)])) rfl rfl (hb hby d9_135)
        refine own_st ?_ st86
        show own_G p.tables e below _ _ (T86.setTop (mkF m 138 #[.val (.ref a0), .val (.ref a1), .val (.int n.toInt32), .val (.int kx.toInt32), .val (.int (ch kx))] [(.int (Int32.ofInt ((lx : Nat) : Int))), (.ref a0), (.ref t)]))
        refine own_st ?_ (fun t_ k_ => XS.dupX1 X86.here hx rfl (hb hby d9_138) rfl rfl rfl k_)
        show own_G p.tables e below _ _ (T86.setTop (mkF m 139 #[.val (.ref a0), .val (.ref a1), .val (.int n.toInt32), .val (.int kx.toInt32), .val (.int (ch kx))] [(.int (Int32.ofInt ((lx : Nat) : Int))), (.ref a0), (.int (Int32.ofInt ((lx : Nat) : Int))), (.ref t)]))
        refine own_st ?_ (fun t_ k_ => XS.iconst X86.here hx rfl (hb hby d9_139) k_)
        show own_G p.tables e below _ _ (T86.setTop (mkF m 140 #[.val (.ref a0), .val (.ref a1), .val (.int n.toInt32), .val (.int kx.toInt32), .val (.int (ch kx))] [(.int (1 : Int32)), (.int (Int32.ofInt ((lx : Nat) : Int))), (.ref a0), (.int (Int32.ofInt ((lx : Nat) : Int))), (.ref t)]))
        refine own_st ?_ (fun t_ k_ => XS.iadd X86.here hx rfl (hb hby d9_140) rfl k_)
        show own_G p.tables e below _ _ (T86.setTop (mkF m 141 #[.val (.ref a0), .val (.ref a1), .val (.int n.toInt32), .val (.int kx.toInt32), .val (.int (ch kx))] [(.int ((Int32.ofInt ((lx : Nat) : Int)) + (1 : Int32))), (.ref a0), (.int (Int32.ofInt ((lx : Nat) : Int))), (.ref t)]))
        obtain ⟨T87, h87, X87, e87, W87, st87⟩ := putF X86 hx hZ hown (host := "") (Or.inl (hw _ (List.mem_of_getElem? (i := 71) rfl))) Via.refl e86 Fl E0 (Or.inl (hw _ (List.mem_of_getElem? (i := 72) rfl))) (hw _ (List.mem_of_getElem? (i := 38) rfl)) (ty := .int) (by decide) rfl rfl (g := (mkF m 141 #[.val (.ref a0), .val (.ref a1), .val (.int n.toInt32), .val (.int kx.toInt32), .val (.int (ch kx))] [(.int ((Int32.ofInt ((lx : Nat) : Int)) + (1 : Int32))), (.ref a0), (.int (Int32.ofInt ((lx : Nat) : Int))), (.ref t)])) rfl rfl (hb hby d9_141)
        have N87 := Fr.snoc X87 N1 g_a0
        have F88_Z : own_SS Z h87 n0 z1 fm := own_SS_keep SS (Keep.of_wr W87) (own_alS g_a0 own_al0)
        have F89_E : Exa Z h87 a0 "com/example/termwright/termwright/Spool$Record" := E0.wr W87
        have F90_bytes : Fld Z h87 a0 "com/example/termwright/termwright/Spool$Record" "bytes" "[B" (.ref t) := Fb.other W87 (Or.inr (slot_ne (Or.inl (hw _ (List.mem_of_getElem? (i := 45) rfl))) (Or.inl (hw _ (List.mem_of_getElem? (i := 72) rfl))) (by decide) (t := (.array .byte)) (t' := .int) (by decide) (by decide)))
        have F91_length : Fld Z h87 a0 "com/example/termwright/termwright/Spool$Record" "length" "I" (.int ((Int32.ofInt ((lx : Nat) : Int)) + (1 : Int32))) := Fl.same W87
        have F92_position : Fld Z h87 a0 "com/example/termwright/termwright/Spool$Record" "position" "I" (.int (Int32.ofInt ((p1 : Nat) : Int))) := Fp.other W87 (Or.inr (slot_ne (Or.inl (hw _ (List.mem_of_getElem? (i := 110) rfl))) (Or.inl (hw _ (List.mem_of_getElem? (i := 72) rfl))) (by decide) (t := .int) (t' := .int) (by decide) (by decide)))
        have F93_P : own_Y .byte Z h87 t 256 g := own_Y_keep M0 (Keep.of_wr W87) (ninS (Ne.symm hne) nin0)
        have F94_E : Exa Z h87 a1 "java/lang/String" := E0s.wr W87
        have F95_coder : Fld Z h87 a1 "java/lang/String" "coder" "B" (.int cd) := Fcs.other W87 (Or.inl hn1)
        have F96_value : Fld Z h87 a1 "java/lang/String" "value" "[B" (.ref ts) := Fvs.other W87 (Or.inl hn1)
        have F97_P : own_Y .byte Z h87 ts N gs := own_Y_keep Y0s (Keep.of_wr W87) (ninS hn3 nin0)
        have Zs98 : n0 ≤ h87.size := Nat.le_trans Z1 (Keep.of_wr W87).1
        have Kc99 : Keep h0 h87 [a0, t] := K0.wr W87 (Or.inl (List.mem_of_getElem? (i := 0) rfl))
        refine own_st ?_ st87
        show own_G p.tables e below _ _ (T87.setTop (mkF m 144 #[.val (.ref a0), .val (.ref a1), .val (.int n.toInt32), .val (.int kx.toInt32), .val (.int (ch kx))] [(.int (Int32.ofInt ((lx : Nat) : Int))), (.ref t)]))
        refine own_st ?_ (fun t_ k_ => XS.sipush X87.here hx rfl (hb hby d9_144) k_)
        show own_G p.tables e below _ _ (T87.setTop (mkF m 147 #[.val (.ref a0), .val (.ref a1), .val (.int n.toInt32), .val (.int kx.toInt32), .val (.int (ch kx))] [(.int (224 : Int32)), (.int (Int32.ofInt ((lx : Nat) : Int))), (.ref t)]))
        refine own_st ?_ (fun t_ k_ => XS.iload X87.here hx rfl (hb hby d9_147) rfl k_)
        show own_G p.tables e below _ _ (T87.setTop (mkF m 149 #[.val (.ref a0), .val (.ref a1), .val (.int n.toInt32), .val (.int kx.toInt32), .val (.int (ch kx))] [(.int (ch kx)), (.int (224 : Int32)), (.int (Int32.ofInt ((lx : Nat) : Int))), (.ref t)]))
        refine own_st ?_ (fun t_ k_ => XS.bipush X87.here hx rfl (hb hby d9_149) k_)
        show own_G p.tables e below _ _ (T87.setTop (mkF m 151 #[.val (.ref a0), .val (.ref a1), .val (.int n.toInt32), .val (.int kx.toInt32), .val (.int (ch kx))] [(.int (12 : Int32)), (.int (ch kx)), (.int (224 : Int32)), (.int (Int32.ofInt ((lx : Nat) : Int))), (.ref t)]))
        refine own_st ?_ (fun t_ k_ => XS.ishr X87.here hx rfl (hb hby d9_151) rfl k_)
        show own_G p.tables e below _ _ (T87.setTop (mkF m 152 #[.val (.ref a0), .val (.ref a1), .val (.int n.toInt32), .val (.int kx.toInt32), .val (.int (ch kx))] [(.int ((ch kx) >>> ((12 : Int32) &&& 31))), (.int (224 : Int32)), (.int (Int32.ofInt ((lx : Nat) : Int))), (.ref t)]))
        refine own_st ?_ (fun t_ k_ => XS.ior X87.here hx rfl (hb hby d9_152) rfl k_)
        show own_G p.tables e below _ _ (T87.setTop (mkF m 153 #[.val (.ref a0), .val (.ref a1), .val (.int n.toInt32), .val (.int kx.toInt32), .val (.int (ch kx))] [(.int ((224 : Int32) ||| ((ch kx) >>> ((12 : Int32) &&& 31)))), (.int (Int32.ofInt ((lx : Nat) : Int))), (.ref t)]))
        refine own_st ?_ (fun t_ k_ => XS.i2b X87.here hx rfl (hb hby d9_153) rfl k_)
        show own_G p.tables e below _ _ (T87.setTop (mkF m 154 #[.val (.ref a0), .val (.ref a1), .val (.int n.toInt32), .val (.int kx.toInt32), .val (.int (ch kx))] [(.int (((224 : Int32) ||| ((ch kx) >>> ((12 : Int32) &&& 31))).toInt8.toInt32)), (.int (Int32.ofInt ((lx : Nat) : Int))), (.ref t)]))
        have ix100 := own_ix (j := (Int32.ofInt ((lx : Nat) : Int))) (k := lx) (n := 256) (own_ofI (by omega)) (by omega) (by decide)
        obtain ⟨cl100, Ar100, Sz100, G100⟩ := F93_P
        have hin100 : ¬ ((Int32.ofInt ((lx : Nat) : Int)) < 0 ∨ cl100.slots.size ≤ ((Int32.ofInt ((lx : Nat) : Int))).toNatClampNeg) := by rw [Sz100]; exact ix100.1
        obtain ⟨T100, h100, X100, e100, W100, st100⟩ := stB X87 hx hZ e87 Ar100 (j := (Int32.ofInt ((lx : Nat) : Int))) hin100 (g := (mkF m 154 #[.val (.ref a0), .val (.ref a1), .val (.int n.toInt32), .val (.int kx.toInt32), .val (.int (ch kx))] [(.int (((224 : Int32) ||| ((ch kx) >>> ((12 : Int32) &&& 31))).toInt8.toInt32)), (.int (Int32.ofInt ((lx : Nat) : Int))), (.ref t)])) rfl rfl (hb hby d9_154)
        have N100 := Fr.snoc X100 N87 g_t
        have Yo100 : own_Y .byte Z h87 t 256 g := ⟨cl100, Ar100, Sz100, G100⟩
        have F101_Z : own_SS Z h100 n0 z1 fm := own_SS_keep F88_Z (Keep.of_wr W100) (own_alS g_t own_al0)
        have F102_E : Exa Z h100 a0 "com/example/termwright/termwright/Spool$Record" := F89_E.wr W100
        have F103_bytes : Fld Z h100 a0 "com/example/termwright/termwright/Spool$Record" "bytes" "[B" (.ref t) := F90_bytes.other W100 (Or.inl hne)
        have F104_length : Fld Z h100 a0 "com/example/termwright/termwright/Spool$Record" "length" "I" (.int ((Int32.ofInt ((lx : Nat) : Int)) + (1 : Int32))) := F91_length.other W100 (Or.inl hne)
        have F105_position : Fld Z h100 a0 "com/example/termwright/termwright/Spool$Record" "position" "I" (.int (Int32.ofInt ((p1 : Nat) : Int))) := F92_position.other W100 (Or.inl hne)
        have F106_E : Exa Z h100 a1 "java/lang/String" := F94_E.wr W100
        have F107_coder : Fld Z h100 a1 "java/lang/String" "coder" "B" (.int cd) := F95_coder.other W100 (Or.inl hn2)
        have F108_value : Fld Z h100 a1 "java/lang/String" "value" "[B" (.ref ts) := F96_value.other W100 (Or.inl hn2)
        have F109_P : own_Y .byte Z h100 ts N gs := own_Y_keep F97_P (Keep.of_wr W100) (ninS hn4 nin0)
        have Zs110 : n0 ≤ h100.size := Nat.le_trans Zs98 (Keep.of_wr W100).1
        have Kc111 : Keep h0 h100 [a0, t] := Kc99.wr W100 (Or.inl (List.mem_of_getElem? (i := 1) rfl))
        have Y100 : own_Y .byte Z h100 t 256 (own_upd g lx (nar .byte (((224 : Int32) ||| ((ch kx) >>> ((12 : Int32) &&& 31))).toInt8.toInt32))) := own_Y_set Yo100 W100 ix100.2
        refine own_st ?_ st100
        show own_G p.tables e below _ _ (T100.setTop (mkF m 155 #[.val (.ref a0), .val (.ref a1), .val (.int n.toInt32), .val (.int kx.toInt32), .val (.int (ch kx))] []))
        refine own_st ?_ (fun t_ k_ => XS.aloadN X100.here hx rfl (hb hby d9_155) rfl rfl k_)
        show own_G p.tables e below _ _ (T100.setTop (mkF m 156 #[.val (.ref a0), .val (.ref a1), .val (.int n.toInt32), .val (.int kx.toInt32), .val (.int (ch kx))] [(.ref a0)]))
        obtain ⟨T112, X112, e112, st112⟩ := getF X100 hx hZ hown (host := "") (Or.inl (hw _ (List.mem_of_getElem? (i := 44) rfl))) Via.refl e100 F103_bytes (g := (mkF m 156 #[.val (.ref a0), .val (.ref a1), .val (.int n.toInt32), .val (.int kx.toInt32), .val (.int (ch kx))] [(.ref a0)])) rfl rfl (hb hby d9_156)
        refine own_st ?_ st112
        show own_G p.tables e below _ _ (T112.setTop (mkF m 159 #[.val (.ref a0), .val (.ref a1), .val (.int n.toInt32), .val (.int kx.toInt32), .val (.int (ch kx))] [(.ref t)]))
        refine own_st ?_ (fun t_ k_ => XS.aloadN X112.here hx rfl (hb hby d9_159) rfl rfl k_)
        show own_G p.tables e below _ _ (T112.setTop (mkF m 160 #[.val (.ref a0), .val (.ref a1), .val (.int n.toInt32), .val (.int kx.toInt32), .val (.int (ch kx))] [(.ref a0), (.ref t)]))
        refine own_st ?_ (fun t_ k_ => XS.dup X112.here hx rfl (hb hby d9_160) rfl rfl k_)
        show own_G p.tables e below _ _ (T112.setTop (mkF m 161 #[.val (.ref a0), .val (.ref a1), .val (.int n.toInt32), .val (.int kx.toInt32), .val (.int (ch kx))] [(.ref a0), (.ref a0), (.ref t)]))
        obtain ⟨T113, X113, e113, st113⟩ := getF X112 hx hZ hown (host := "") (Or.inl (hw _ (List.mem_of_getElem? (i := 71) rfl))) Via.refl e112 F104_length (g := (mkF m 161 #[.val (.ref a0), .val (.ref a1), .val (.int n.toInt32), .val (.int kx.toInt32), .val (.int (ch kx))] [(.ref a0), (.ref a0), (.ref t)])) rfl rfl (hb hby d9_161)
        refine own_st ?_ st113
        show own_G p.tables e below _ _ (T113.setTop (mkF m 164 #[.val (.ref a0), .val (.ref a1), .val (.int n.toInt32), .val (.int kx.toInt32), .val (.int (ch kx))] [(.int ((Int32.ofInt ((lx : Nat) : Int)) + (1 : Int32))), (.ref a0), (.ref t)]))
        refine own_st ?_ (fun t_ k_ => XS.dupX1 X113.here hx rfl (hb hby d9_164) rfl rfl rfl k_)
        show own_G p.tables e below _ _ (T113.setTop (mkF m 165 #[.val (.ref a0), .val (.ref a1), .val (.int n.toInt32), .val (.int kx.toInt32), .val (.int (ch kx))] [(.int ((Int32.ofInt ((lx : Nat) : Int)) + (1 : Int32))), (.ref a0), (.int ((Int32.ofInt ((lx : Nat) : Int)) + (1 : Int32))), (.ref t)]))
        refine own_st ?_ (fun t_ k_ => XS.iconst X113.here hx rfl (hb hby d9_165) k_)
        show own_G p.tables e below _ _ (T113.setTop (mkF m 166 #[.val (.ref a0), .val (.ref a1), .val (.int n.toInt32), .val (.int kx.toInt32), .val (.int (ch kx))] [(.int (1 : Int32)), (.int ((Int32.ofInt ((lx : Nat) : Int)) + (1 : Int32))), (.ref a0), (.int ((Int32.ofInt ((lx : Nat) : Int)) + (1 : Int32))), (.ref t)]))
        refine own_st ?_ (fun t_ k_ => XS.iadd X113.here hx rfl (hb hby d9_166) rfl k_)
        show own_G p.tables e below _ _ (T113.setTop (mkF m 167 #[.val (.ref a0), .val (.ref a1), .val (.int n.toInt32), .val (.int kx.toInt32), .val (.int (ch kx))] [(.int (((Int32.ofInt ((lx : Nat) : Int)) + (1 : Int32)) + (1 : Int32))), (.ref a0), (.int ((Int32.ofInt ((lx : Nat) : Int)) + (1 : Int32))), (.ref t)]))
        obtain ⟨T114, h114, X114, e114, W114, st114⟩ := putF X113 hx hZ hown (host := "") (Or.inl (hw _ (List.mem_of_getElem? (i := 71) rfl))) Via.refl e113 F104_length F102_E (Or.inl (hw _ (List.mem_of_getElem? (i := 72) rfl))) (hw _ (List.mem_of_getElem? (i := 38) rfl)) (ty := .int) (by decide) rfl rfl (g := (mkF m 167 #[.val (.ref a0), .val (.ref a1), .val (.int n.toInt32), .val (.int kx.toInt32), .val (.int (ch kx))] [(.int (((Int32.ofInt ((lx : Nat) : Int)) + (1 : Int32)) + (1 : Int32))), (.ref a0), (.int ((Int32.ofInt ((lx : Nat) : Int)) + (1 : Int32))), (.ref t)])) rfl rfl (hb hby d9_167)
        have N114 := Fr.snoc X114 N100 g_a0
        have F115_Z : own_SS Z h114 n0 z1 fm := own_SS_keep F101_Z (Keep.of_wr W114) (own_alS g_a0 own_al0)
        have F116_E : Exa Z h114 a0 "com/example/termwright/termwright/Spool$Record" := F102_E.wr W114
        have F117_bytes : Fld Z h114 a0 "com/example/termwright/termwright/Spool$Record" "bytes" "[B" (.ref t) := F103_bytes.other W114 (Or.inr (slot_ne (Or.inl (hw _ (List.mem_of_getElem? (i := 45) rfl))) (Or.inl (hw _ (List.mem_of_getElem? (i := 72) rfl))) (by decide) (t := (.array .byte)) (t' := .int) (by decide) (by decide)))
        have F118_length : Fld Z h114 a0 "com/example/termwright/termwright/Spool$Record" "length" "I" (.int (((Int32.ofInt ((lx : Nat) : Int)) + (1 : Int32)) + (1 : Int32))) := F104_length.same W114
        have F119_position : Fld Z h114 a0 "com/example/termwright/termwright/Spool$Record" "position" "I" (.int (Int32.ofInt ((p1 : Nat) : Int))) := F105_position.other W114 (Or.inr (slot_ne (Or.inl (hw _ (List.mem_of_getElem? (i := 110) rfl))) (Or.inl (hw _ (List.mem_of_getElem? (i := 72) rfl))) (by decide) (t := .int) (t' := .int) (by decide) (by decide)))
        have F120_P : own_Y .byte Z h114 t 256 (own_upd g lx (nar .byte (((224 : Int32) ||| ((ch kx) >>> ((12 : Int32) &&& 31))).toInt8.toInt32))) := own_Y_keep Y100 (Keep.of_wr W114) (ninS (Ne.symm hne) nin0)
        have F121_E : Exa Z h114 a1 "java/lang/String" := F106_E.wr W114
        have F122_coder : Fld Z h114 a1 "java/lang/String" "coder" "B" (.int cd) := F107_coder.other W114 (Or.inl hn1)
        have F123_value : Fld Z h114 a1 "java/lang/String" "value" "[B" (.ref ts) := F108_value.other W114 (Or.inl hn1)
        have F124_P : own_Y .byte Z h114 ts N gs := own_Y_keep F109_P (Keep.of_wr W114) (ninS hn3 nin0)
        have Zs125 : n0 ≤ h114.size := Nat.le_trans Zs110 (Keep.of_wr W114).1
        have Kc126 : Keep h0 h114 [a0, t] := Kc111.wr W114 (Or.inl (List.mem_of_getElem? (i := 0) rfl))
        refine own_st ?_ st114
        show own_G p.tables e below _ _ (T114.setTop (mkF m 170 #[.val (.ref a0), .val (.ref a1), .val (.int n.toInt32), .val (.int kx.toInt32), .val (.int (ch kx))] [(.int ((Int32.ofInt ((lx : Nat) : Int)) + (1 : Int32))), (.ref t)]))
        refine own_st ?_ (fun t_ k_ => XS.sipush X114.here hx rfl (hb hby d9_170) k_)
        show own_G p.tables e below _ _ (T114.setTop (mkF m 173 #[.val (.ref a0), .val (.ref a1), .val (.int n.toInt32), .val (.int kx.toInt32), .val (.int (ch kx))] [(.int (128 : Int32)), (.int ((Int32.ofInt ((lx : Nat) : Int)) + (1 : Int32))), (.ref t)]))
        refine own_st ?_ (fun t_ k_ => XS.iload X114.here hx rfl (hb hby d9_173) rfl k_)
        show own_G p.tables e below _ _ (T114.setTop (mkF m 175 #[.val (.ref a0), .val (.ref a1), .val (.int n.toInt32), .val (.int kx.toInt32), .val (.int (ch kx))] [(.int (ch kx)), (.int (128 : Int32)), (.int ((Int32.ofInt ((lx : Nat) : Int)) + (1 : Int32))), (.ref t)]))
        refine own_st ?_ (fun t_ k_ => XS.bipush X114.here hx rfl (hb hby d9_175) k_)
        show own_G p.tables e below _ _ (T114.setTop (mkF m 177 #[.val (.ref a0), .val (.ref a1), .val (.int n.toInt32), .val (.int kx.toInt32), .val (.int (ch kx))] [(.int (6 : Int32)), (.int (ch kx)), (.int (128 : Int32)), (.int ((Int32.ofInt ((lx : Nat) : Int)) + (1 : Int32))), (.ref t)]))
        refine own_st ?_ (fun t_ k_ => XS.ishr X114.here hx rfl (hb hby d9_177) rfl k_)
        show own_G p.tables e below _ _ (T114.setTop (mkF m 178 #[.val (.ref a0), .val (.ref a1), .val (.int n.toInt32), .val (.int kx.toInt32), .val (.int (ch kx))] [(.int ((ch kx) >>> ((6 : Int32) &&& 31))), (.int (128 : Int32)), (.int ((Int32.ofInt ((lx : Nat) : Int)) + (1 : Int32))), (.ref t)]))
        refine own_st ?_ (fun t_ k_ => XS.bipush X114.here hx rfl (hb hby d9_178) k_)
        show own_G p.tables e below _ _ (T114.setTop (mkF m 180 #[.val (.ref a0), .val (.ref a1), .val (.int n.toInt32), .val (.int kx.toInt32), .val (.int (ch kx))] [(.int (63 : Int32)), (.int ((ch kx) >>> ((6 : Int32) &&& 31))), (.int (128 : Int32)), (.int ((Int32.ofInt ((lx : Nat) : Int)) + (1 : Int32))), (.ref t)]))
        refine own_st ?_ (fun t_ k_ => XS.iand X114.here hx rfl (hb hby d9_180) rfl k_)
        show own_G p.tables e below _ _ (T114.setTop (mkF m 181 #[.val (.ref a0), .val (.ref a1), .val (.int n.toInt32), .val (.int kx.toInt32), .val (.int (ch kx))] [(.int (((ch kx) >>> ((6 : Int32) &&& 31)) &&& (63 : Int32))), (.int (128 : Int32)), (.int ((Int32.ofInt ((lx : Nat) : Int)) + (1 : Int32))), (.ref t)]))
        refine own_st ?_ (fun t_ k_ => XS.ior X114.here hx rfl (hb hby d9_181) rfl k_)
        show own_G p.tables e below _ _ (T114.setTop (mkF m 182 #[.val (.ref a0), .val (.ref a1), .val (.int n.toInt32), .val (.int kx.toInt32), .val (.int (ch kx))] [(.int ((128 : Int32) ||| (((ch kx) >>> ((6 : Int32) &&& 31)) &&& (63 : Int32)))), (.int ((Int32.ofInt ((lx : Nat) : Int)) + (1 : Int32))), (.ref t)]))
        refine own_st ?_ (fun t_ k_ => XS.i2b X114.here hx rfl (hb hby d9_182) rfl k_)
        show own_G p.tables e below _ _ (T114.setTop (mkF m 183 #[.val (.ref a0), .val (.ref a1), .val (.int n.toInt32), .val (.int kx.toInt32), .val (.int (ch kx))] [(.int (((128 : Int32) ||| (((ch kx) >>> ((6 : Int32) &&& 31)) &&& (63 : Int32))).toInt8.toInt32)), (.int ((Int32.ofInt ((lx : Nat) : Int)) + (1 : Int32))), (.ref t)]))
        have ix127 := own_ix (j := ((Int32.ofInt ((lx : Nat) : Int)) + (1 : Int32))) (k := lx + 1) (n := 256) (by rw [own_ofI (by omega)]; exact own_inc _) (by omega) (by decide)
        obtain ⟨cl127, Ar127, Sz127, G127⟩ := F120_P
        have hin127 : ¬ (((Int32.ofInt ((lx : Nat) : Int)) + (1 : Int32)) < 0 ∨ cl127.slots.size ≤ (((Int32.ofInt ((lx : Nat) : Int)) + (1 : Int32))).toNatClampNeg) := by rw [Sz127]; exact ix127.1
        obtain ⟨T127, h127, X127, e127, W127, st127⟩ := stB X114 hx hZ e114 Ar127 (j := ((Int32.ofInt ((lx : Nat) : Int)) + (1 : Int32))) hin127 (g := (mkF m 183 #[.val (.ref a0), .val (.ref a1), .val (.int n.toInt32), .val (.int kx.toInt32), .val (.int (ch kx))] [(.int (((128 : Int32) ||| (((ch kx) >>> ((6 : Int32) &&& 31)) &&& (63 : Int32))).toInt8.toInt32)), (.int ((Int32.ofInt ((lx : Nat) : Int)) + (1 : Int32))), (.ref t)])) rfl rfl (hb hby d9_183)
        have N127 := Fr.snoc X127 N114 g_t
        have Yo127 : own_Y .byte Z h114 t 256 (own_upd g lx (nar .byte (((224 : Int32) ||| ((ch kx) >>> ((12 : Int32) &&& 31))).toInt8.toInt32))) := ⟨cl127, Ar127, Sz127, G127⟩
        have F128_Z : own_SS Z h127 n0 z1 fm := own_SS_keep F115_Z (Keep.of_wr W127) (own_alS g_t own_al0)
        have F129_E : Exa Z h127 a0 "com/example/termwright/termwright/Spool$Record" := F116_E.wr W127
        have F130_bytes : Fld Z h127 a0 "com/example/termwright/termwright/Spool$Record" "bytes" "[B" (.ref t) := F117_bytes.other W127 (Or.inl hne)
        have F131_length : Fld Z h127 a0 "com/example/termwright/termwright/Spool$Record" "length" "I" (.int (((Int32.ofInt ((lx : Nat) : Int)) + (1 : Int32)) + (1 : Int32))) := F118_length.other W127 (Or.inl hne)
        have F132_position : Fld Z h127 a0 "com/example/termwright/termwright/Spool$Record" "position" "I" (.int (Int32.ofInt ((p1 : Nat) : Int))) := F119_position.other W127 (Or.inl hne)
        have F133_E : Exa Z h127 a1 "java/lang/String" := F121_E.wr W127
        have F134_coder : Fld Z h127 a1 "java/lang/String" "coder" "B" (.int cd) := F122_coder.other W127 (Or.inl hn2)
        have F135_value : Fld Z h127 a1 "java/lang/String" "value" "[B" (.ref ts) := F123_value.other W127 (Or.inl hn2)
        have F136_P : own_Y .byte Z h127 ts N gs := own_Y_keep F124_P (Keep.of_wr W127) (ninS hn4 nin0)
        have Zs137 : n0 ≤ h127.size := Nat.le_trans Zs125 (Keep.of_wr W127).1
        have Kc138 : Keep h0 h127 [a0, t] := Kc126.wr W127 (Or.inl (List.mem_of_getElem? (i := 1) rfl))
        have Y127 : own_Y .byte Z h127 t 256 (own_upd (own_upd g lx (nar .byte (((224 : Int32) ||| ((ch kx) >>> ((12 : Int32) &&& 31))).toInt8.toInt32))) (lx + 1) (nar .byte (((128 : Int32) ||| (((ch kx) >>> ((6 : Int32) &&& 31)) &&& (63 : Int32))).toInt8.toInt32))) := own_Y_set Yo127 W127 ix127.2
        refine own_st ?_ st127
        show own_G p.tables e below _ _ (T127.setTop (mkF m 184 #[.val (.ref a0), .val (.ref a1), .val (.int n.toInt32), .val (.int kx.toInt32), .val (.int (ch kx))] []))
        refine own_st ?_ (fun t_ k_ => XS.aloadN X127.here hx rfl (hb hby d9_184) rfl rfl k_)
        show own_G p.tables e below _ _ (T127.setTop (mkF m 185 #[.val (.ref a0), .val (.ref a1), .val (.int n.toInt32), .val (.int kx.toInt32), .val (.int (ch kx))] [(.ref a0)]))
        obtain ⟨T139, X139, e139, st139⟩ := getF X127 hx hZ hown (host := "") (Or.inl (hw _ (List.mem_of_getElem? (i := 44) rfl))) Via.refl e127 F130_bytes (g := (mkF m 185 #[.val (.ref a0), .val (.ref a1), .val (.int n.toInt32), .val (.int kx.toInt32), .val (.int (ch kx))] [(.ref a0)])) rfl rfl (hb hby d9_185)
        refine own_st ?_ st139
        show own_G p.tables e below _ _ (T139.setTop (mkF m 188 #[.val (.ref a0), .val (.ref a1), .val (.int n.toInt32), .val (.int kx.toInt32), .val (.int (ch kx))] [(.ref t)]))
        refine own_st ?_ (fun t_ k_ => XS.aloadN X139.here hx rfl (hb hby d9_188) rfl rfl k_)
        show own_G p.tables e below _ _ (T139.setTop (mkF m 189 #[.val (.ref a0), .val (.ref a1), .val (.int n.toInt32), .val (.int kx.toInt32), .val (.int (ch kx))] [(.ref a0), (.ref t)]))
        refine own_st ?_ (fun t_ k_ => XS.dup X139.here hx rfl (hb hby d9_189) rfl rfl k_)
        show own_G p.tables e below _ _ (T139.setTop (mkF m 190 #[.val (.ref a0), .val (.ref a1), .val (.int n.toInt32), .val (.int kx.toInt32), .val (.int (ch kx))] [(.ref a0), (.ref a0), (.ref t)]))
        obtain ⟨T140, X140, e140, st140⟩ := getF X139 hx hZ hown (host := "") (Or.inl (hw _ (List.mem_of_getElem? (i := 71) rfl))) Via.refl e139 F131_length (g := (mkF m 190 #[.val (.ref a0), .val (.ref a1), .val (.int n.toInt32), .val (.int kx.toInt32), .val (.int (ch kx))] [(.ref a0), (.ref a0), (.ref t)])) rfl rfl (hb hby d9_190)
        refine own_st ?_ st140
        show own_G p.tables e below _ _ (T140.setTop (mkF m 193 #[.val (.ref a0), .val (.ref a1), .val (.int n.toInt32), .val (.int kx.toInt32), .val (.int (ch kx))] [(.int (((Int32.ofInt ((lx : Nat) : Int)) + (1 : Int32)) + (1 : Int32))), (.ref a0), (.ref t)]))
        refine own_st ?_ (fun t_ k_ => XS.dupX1 X140.here hx rfl (hb hby d9_193) rfl rfl rfl k_)
        show own_G p.tables e below _ _ (T140.setTop (mkF m 194 #[.val (.ref a0), .val (.ref a1), .val (.int n.toInt32), .val (.int kx.toInt32), .val (.int (ch kx))] [(.int (((Int32.ofInt ((lx : Nat) : Int)) + (1 : Int32)) + (1 : Int32))), (.ref a0), (.int (((Int32.ofInt ((lx : Nat) : Int)) + (1 : Int32)) + (1 : Int32))), (.ref t)]))
        refine own_st ?_ (fun t_ k_ => XS.iconst X140.here hx rfl (hb hby d9_194) k_)
        show own_G p.tables e below _ _ (T140.setTop (mkF m 195 #[.val (.ref a0), .val (.ref a1), .val (.int n.toInt32), .val (.int kx.toInt32), .val (.int (ch kx))] [(.int (1 : Int32)), (.int (((Int32.ofInt ((lx : Nat) : Int)) + (1 : Int32)) + (1 : Int32))), (.ref a0), (.int (((Int32.ofInt ((lx : Nat) : Int)) + (1 : Int32)) + (1 : Int32))), (.ref t)]))
        refine own_st ?_ (fun t_ k_ => XS.iadd X140.here hx rfl (hb hby d9_195) rfl k_)
        show own_G p.tables e below _ _ (T140.setTop (mkF m 196 #[.val (.ref a0), .val (.ref a1), .val (.int n.toInt32), .val (.int kx.toInt32), .val (.int (ch kx))] [(.int ((((Int32.ofInt ((lx : Nat) : Int)) + (1 : Int32)) + (1 : Int32)) + (1 : Int32))), (.ref a0), (.int (((Int32.ofInt ((lx : Nat) : Int)) + (1 : Int32)) + (1 : Int32))), (.ref t)]))
        obtain ⟨T141, h141, X141, e141, W141, st141⟩ := putF X140 hx hZ hown (host := "") (Or.inl (hw _ (List.mem_of_getElem? (i := 71) rfl))) Via.refl e140 F131_length F129_E (Or.inl (hw _ (List.mem_of_getElem? (i := 72) rfl))) (hw _ (List.mem_of_getElem? (i := 38) rfl)) (ty := .int) (by decide) rfl rfl (g := (mkF m 196 #[.val (.ref a0), .val (.ref a1), .val (.int n.toInt32), .val (.int kx.toInt32), .val (.int (ch kx))] [(.int ((((Int32.ofInt ((lx : Nat) : Int)) + (1 : Int32)) + (1 : Int32)) + (1 : Int32))), (.ref a0), (.int (((Int32.ofInt ((lx : Nat) : Int)) + (1 : Int32)) + (1 : Int32))), (.ref t)])) rfl rfl (hb hby d9_196)
        have N141 := Fr.snoc X141 N127 g_a0
        have F142_Z : own_SS Z h141 n0 z1 fm := own_SS_keep F128_Z (Keep.of_wr W141) (own_alS g_a0 own_al0)
        have F143_E : Exa Z h141 a0 "com/example/termwright/termwright/Spool$Record" := F129_E.wr W141
        have F144_bytes : Fld Z h141 a0 "com/example/termwright/termwright/Spool$Record" "bytes" "[B" (.ref t) := F130_bytes.other W141 (Or.inr (slot_ne (Or.inl (hw _ (List.mem_of_getElem? (i := 45) rfl))) (Or.inl (hw _ (List.mem_of_getElem? (i := 72) rfl))) (by decide) (t := (.array .byte)) (t' := .int) (by decide) (by decide)))
        have F145_length : Fld Z h141 a0 "com/example/termwright/termwright/Spool$Record" "length" "I" (.int ((((Int32.ofInt ((lx : Nat) : Int)) + (1 : Int32)) + (1 : Int32)) + (1 : Int32))) := F131_length.same W141
        have F146_position : Fld Z h141 a0 "com/example/termwright/termwright/Spool$Record" "position" "I" (.int (Int32.ofInt ((p1 : Nat) : Int))) := F132_position.other W141 (Or.inr (slot_ne (Or.inl (hw _ (List.mem_of_getElem? (i := 110) rfl))) (Or.inl (hw _ (List.mem_of_getElem? (i := 72) rfl))) (by decide) (t := .int) (t' := .int) (by decide) (by decide)))
        have F147_P : own_Y .byte Z h141 t 256 (own_upd (own_upd g lx (nar .byte (((224 : Int32) ||| ((ch kx) >>> ((12 : Int32) &&& 31))).toInt8.toInt32))) (lx + 1) (nar .byte (((128 : Int32) ||| (((ch kx) >>> ((6 : Int32) &&& 31)) &&& (63 : Int32))).toInt8.toInt32))) := own_Y_keep Y127 (Keep.of_wr W141) (ninS (Ne.symm hne) nin0)
        have F148_E : Exa Z h141 a1 "java/lang/String" := F133_E.wr W141
        have F149_coder : Fld Z h141 a1 "java/lang/String" "coder" "B" (.int cd) := F134_coder.other W141 (Or.inl hn1)
        have F150_value : Fld Z h141 a1 "java/lang/String" "value" "[B" (.ref ts) := F135_value.other W141 (Or.inl hn1)
        have F151_P : own_Y .byte Z h141 ts N gs := own_Y_keep F136_P (Keep.of_wr W141) (ninS hn3 nin0)
        have Zs152 : n0 ≤ h141.size := Nat.le_trans Zs137 (Keep.of_wr W141).1
        have Kc153 : Keep h0 h141 [a0, t] := Kc138.wr W141 (Or.inl (List.mem_of_getElem? (i := 0) rfl))
        refine own_st ?_ st141
        show own_G p.tables e below _ _ (T141.setTop (mkF m 199 #[.val (.ref a0), .val (.ref a1), .val (.int n.toInt32), .val (.int kx.toInt32), .val (.int (ch kx))] [(.int (((Int32.ofInt ((lx : Nat) : Int)) + (1 : Int32)) + (1 : Int32))), (.ref t)]))
        refine own_st ?_ (fun t_ k_ => XS.sipush X141.here hx rfl (hb hby d9_199) k_)
        show own_G p.tables e below _ _ (T141.setTop (mkF m 202 #[.val (.ref a0), .val (.ref a1), .val (.int n.toInt32), .val (.int kx.toInt32), .val (.int (ch kx))] [(.int (128 : Int32)), (.int (((Int32.ofInt ((lx : Nat) : Int)) + (1 : Int32)) + (1 : Int32))), (.ref t)]))
        refine own_st ?_ (fun t_ k_ => XS.iload X141.here hx rfl (hb hby d9_202) rfl k_)
        show own_G p.tables e below _ _ (T141.setTop (mkF m 204 #[.val (.ref a0), .val (.ref a1), .val (.int n.toInt32), .val (.int kx.toInt32), .val (.int (ch kx))] [(.int (ch kx)), (.int (128 : Int32)), (.int (((Int32.ofInt ((lx : Nat) : Int)) + (1 : Int32)) + (1 : Int32))), (.ref t)]))
        refine own_st ?_ (fun t_ k_ => XS.bipush X141.here hx rfl (hb hby d9_204) k_)
        show own_G p.tables e below _ _ (T141.setTop (mkF m 206 #[.val (.ref a0), .val (.ref a1), .val (.int n.toInt32), .val (.int kx.toInt32), .val (.int (ch kx))] [(.int (63 : Int32)), (.int (ch kx)), (.int (128 : Int32)), (.int (((Int32.ofInt ((lx : Nat) : Int)) + (1 : Int32)) + (1 : Int32))), (.ref t)]))
        refine own_st ?_ (fun t_ k_ => XS.iand X141.here hx rfl (hb hby d9_206) rfl k_)
        show own_G p.tables e below _ _ (T141.setTop (mkF m 207 #[.val (.ref a0), .val (.ref a1), .val (.int n.toInt32), .val (.int kx.toInt32), .val (.int (ch kx))] [(.int ((ch kx) &&& (63 : Int32))), (.int (128 : Int32)), (.int (((Int32.ofInt ((lx : Nat) : Int)) + (1 : Int32)) + (1 : Int32))), (.ref t)]))
        refine own_st ?_ (fun t_ k_ => XS.ior X141.here hx rfl (hb hby d9_207) rfl k_)
        show own_G p.tables e below _ _ (T141.setTop (mkF m 208 #[.val (.ref a0), .val (.ref a1), .val (.int n.toInt32), .val (.int kx.toInt32), .val (.int (ch kx))] [(.int ((128 : Int32) ||| ((ch kx) &&& (63 : Int32)))), (.int (((Int32.ofInt ((lx : Nat) : Int)) + (1 : Int32)) + (1 : Int32))), (.ref t)]))
        refine own_st ?_ (fun t_ k_ => XS.i2b X141.here hx rfl (hb hby d9_208) rfl k_)
        show own_G p.tables e below _ _ (T141.setTop (mkF m 209 #[.val (.ref a0), .val (.ref a1), .val (.int n.toInt32), .val (.int kx.toInt32), .val (.int (ch kx))] [(.int (((128 : Int32) ||| ((ch kx) &&& (63 : Int32))).toInt8.toInt32)), (.int (((Int32.ofInt ((lx : Nat) : Int)) + (1 : Int32)) + (1 : Int32))), (.ref t)]))
        have ix154 := own_ix (j := (((Int32.ofInt ((lx : Nat) : Int)) + (1 : Int32)) + (1 : Int32))) (k := lx + 2) (n := 256) (by rw [own_ofI (by omega), own_inc]; exact own_inc _) (by omega) (by decide)
        obtain ⟨cl154, Ar154, Sz154, G154⟩ := F147_P
        have hin154 : ¬ ((((Int32.ofInt ((lx : Nat) : Int)) + (1 : Int32)) + (1 : Int32)) < 0 ∨ cl154.slots.size ≤ ((((Int32.ofInt ((lx : Nat) : Int)) + (1 : Int32)) + (1 : Int32))).toNatClampNeg) := by rw [Sz154]; exact ix154.1
        obtain ⟨T154, h154, X154, e154, W154, st154⟩ := stB X141 hx hZ e141 Ar154 (j := (((Int32.ofInt ((lx : Nat) : Int)) + (1 : Int32)) + (1 : Int32))) hin154 (g := (mkF m 209 #[.val (.ref a0), .val (.ref a1), .val (.int n.toInt32), .val (.int kx.toInt32), .val (.int (ch kx))] [(.int (((128 : Int32) ||| ((ch kx) &&& (63 : Int32))).toInt8.toInt32)), (.int (((Int32.ofInt ((lx : Nat) : Int)) + (1 : Int32)) + (1 : Int32))), (.ref t)])) rfl rfl (hb hby d9_209)
        have N154 := Fr.snoc X154 N141 g_t
        have Yo154 : own_Y .byte Z h141 t 256 (own_upd (own_upd g lx (nar .byte (((224 : Int32) ||| ((ch kx) >>> ((12 : Int32) &&& 31))).toInt8.toInt32))) (lx + 1) (nar .byte (((128 : Int32) ||| (((ch kx) >>> ((6 : Int32) &&& 31)) &&& (63 : Int32))).toInt8.toInt32))) := ⟨cl154, Ar154, Sz154, G154⟩
        have F155_Z : own_SS Z h154 n0 z1 fm := own_SS_keep F142_Z (Keep.of_wr W154) (own_alS g_t own_al0)
        have F156_E : Exa Z h154 a0 "com/example/termwright/termwright/Spool$Record" := F143_E.wr W154
        have F157_bytes : Fld Z h154 a0 "com/example/termwright/termwright/Spool$Record" "bytes" "[B" (.ref t) := F144_bytes.other W154 (Or.inl hne)
        have F158_length : Fld Z h154 a0 "com/example/termwright/termwright/Spool$Record" "length" "I" (.int ((((Int32.ofInt ((lx : Nat) : Int)) + (1 : Int32)) + (1 : Int32)) + (1 : Int32))) := F145_length.other W154 (Or.inl hne)
        have F159_position : Fld Z h154 a0 "com/example/termwright/termwright/Spool$Record" "position" "I" (.int (Int32.ofInt ((p1 : Nat) : Int))) := F146_position.other W154 (Or.inl hne)
        have F160_E : Exa Z h154 a1 "java/lang/String" := F148_E.wr W154
        have F161_coder : Fld Z h154 a1 "java/lang/String" "coder" "B" (.int cd) := F149_coder.other W154 (Or.inl hn2)
        have F162_value : Fld Z h154 a1 "java/lang/String" "value" "[B" (.ref ts) := F150_value.other W154 (Or.inl hn2)
        have F163_P : own_Y .byte Z h154 ts N gs := own_Y_keep F151_P (Keep.of_wr W154) (ninS hn4 nin0)
        have Zs164 : n0 ≤ h154.size := Nat.le_trans Zs152 (Keep.of_wr W154).1
        have Kc165 : Keep h0 h154 [a0, t] := Kc153.wr W154 (Or.inl (List.mem_of_getElem? (i := 1) rfl))
        have Y154 : own_Y .byte Z h154 t 256 (own_upd (own_upd (own_upd g lx (nar .byte (((224 : Int32) ||| ((ch kx) >>> ((12 : Int32) &&& 31))).toInt8.toInt32))) (lx + 1) (nar .byte (((128 : Int32) ||| (((ch kx) >>> ((6 : Int32) &&& 31)) &&& (63 : Int32))).toInt8.toInt32))) (lx + 2) (nar .byte (((128 : Int32) ||| ((ch kx) &&& (63 : Int32))).toInt8.toInt32))) := own_Y_set Yo154 W154 ix154.2
        refine own_st ?_ st154
        show own_G p.tables e below _ _ (T154.setTop (mkF m 210 #[.val (.ref a0), .val (.ref a1), .val (.int n.toInt32), .val (.int kx.toInt32), .val (.int (ch kx))] []))
        refine own_st ?_ (fun t_ k_ => XS.iinc X154.here hx rfl (hb hby d9_210) rfl (l' := #[.val (.ref a0), .val (.ref a1), .val (.int n.toInt32), .val (.int (kx.toInt32 + (1 : Int32))), .val (.int (ch kx))]) rfl k_)
        show own_G p.tables e below _ _ (T154.setTop (mkF m 213 #[.val (.ref a0), .val (.ref a1), .val (.int n.toInt32), .val (.int (kx.toInt32 + (1 : Int32))), .val (.int (ch kx))] []))
        refine own_st ?_ (fun t_ k_ => XS.goto X154.here hx rfl (pc0 := 213) (pc' := 24) rfl (hb hby d9_213) (by decide) (by decide) k_)
        show own_G p.tables e below _ _ (T154.setTop (mkF m 24 #[.val (.ref a0), .val (.ref a1), .val (.int n.toInt32), .val (.int (kx.toInt32 + (1 : Int32))), .val (.int (ch kx))] []))
        have Fl166 : Fld Z h154 a0 "com/example/termwright/termwright/Spool$Record" "length" "I" (.int (Int32.ofInt ((lx + 1 + 1 + 1 : Nat) : Int))) := by rw [← own_rinc, ← own_rinc, ← own_rinc]; exact F158_length
        simp only [own_inc]
        exact own_G_mono (fun v h L q => own_p3 hc41 hc71 q) (ih (kx := kx + 1) (s4 := .val (.int (ch kx))) (lx := lx + 1 + 1 + 1) (g := (own_upd (own_upd (own_upd g lx (nar .byte (((224 : Int32) ||| ((ch kx) >>> ((12 : Int32) &&& 31))).toInt8.toInt32))) (lx + 1) (nar .byte (((128 : Int32) ||| (((ch kx) >>> ((6 : Int32) &&& 31)) &&& (63 : Int32))).toInt8.toInt32))) (lx + 2) (nar .byte (((128 : Int32) ||| ((ch kx) &&& (63 : Int32))).toInt8.toInt32)))) (own_TT1 hTT).2.2 (by omega) (Or.inr ⟨_, rfl, rfl⟩) X154 N154 e154 Kc165 F155_Z F156_E F157_bytes Fl166 F159_position Y154 F160_E F161_coder F162_value F163_P Zs164)
theorem ef_9 (m : MethodId) (a0 : Addr) (a1 : Addr) : entryFrame m #[(.ref a0), (.ref a1)] 5 = mkF m 0 #[.val (.ref a0), .val (.ref a1), .unset, .unset, .unset] [] := by first | (simp [entryFrame, mkF, argsToLocals, Value.category]; done) | rfl
set_option maxRecDepth 65536 in
set_option maxHeartbeats 40000000 in
theorem rm9 (l : Launch) (Z : State) (a0 : Array Value) (hw : ∀ d ∈ tables_1, d.before a0 Z = true) (ws : List Jvm.Cond) (a0 : Addr) (a1 : Addr) (z1 : Int32) (fm : Value) (cd : Int32) (ts : Addr) (n : Nat) (N : Nat) (gs : Nat → Int32) (ch : Nat → Int32) (t : Addr) (l1 : Nat) (p1 : Nat) (g1 : Nat → Int32) (cs : List Int32) (h0 : Heap) (n0 : Nat) (Z0 : n0 ≤ h0.size) (g_a0 : n0 ≤ a0) (g_t : n0 ≤ t) (SS : own_SS Z h0 n0 z1 fm) (E0 : Exa Z h0 a0 "com/example/termwright/termwright/Spool$Record") (Fb : Fld Z h0 a0 "com/example/termwright/termwright/Spool$Record" "bytes" "[B" (.ref t)) (Fl : Fld Z h0 a0 "com/example/termwright/termwright/Spool$Record" "length" "I" (.int (Int32.ofInt ((l1 : Nat) : Int)))) (Fp : Fld Z h0 a0 "com/example/termwright/termwright/Spool$Record" "position" "I" (.int (Int32.ofInt ((p1 : Nat) : Int)))) (M0 : own_M Z h0 t g1) (E0s : Exa Z h0 a1 "java/lang/String") (Fcs : Fld Z h0 a1 "java/lang/String" "coder" "B" (.int cd)) (Fvs : Fld Z h0 a1 "java/lang/String" "value" "[B" (.ref ts)) (Y0s : own_Y .byte Z h0 ts N gs) (hne : a0 ≠ t) (hn1 : a1 ≠ a0) (hn2 : a1 ≠ t) (hn3 : ts ≠ a0) (hn4 : ts ≠ t) (hz1 : ¬ z1 = 0) (rf_fm : fm.isRef = true) (hD : own_D cd n N gs ch) (hn : n ≤ 4) (hl : l1 ≤ 200) (hTT : own_TT ch n 0 cs) :
    MetFree l (⟨"com/example/termwright/termwright/Spool$Record", "putText", "(Ljava/lang/String;)Lcom/example/termwright/termwright/Spool$Record;"⟩ : MethodName) (head1 (Jvm.Cond.code (⟨"com/example/termwright/termwright/Spool$Record", "putText", "(Ljava/lang/String;)Lcom/example/termwright/termwright/Spool$Record;"⟩ : MethodName) prog_34_method_4_code 5 (some (.object "com/example/termwright/termwright/Spool$Record")) :: ws) ({ frames := 5, cells := 0, slots := 0, locals := 66 } : Room)) (fun a U => a = #[(.ref a0), (.ref a1)] ∧ Z.Warmed39 U.vm ∧ U.heap = h0) (fun _ _ _ _ _ => True) (fun _ U o U' => ∃ v L, o = .returned v ∧ own_Qp Z a0 t p1 (l1 + own_len n) (own_put g1 l1 n) cs h0 n0 v U'.heap L ∧ FrameEnd U o U' L ({ frames := 5, cells := 0, slots := 0, locals := 66 } : Room).cells ({ frames := 5, cells := 0, slots := 0, locals := 66 } : Room).slots) := by
  refine MetFree.of_bodySF (plainFor_of_name pn_9) hisR ?_
  intro p e s m args below meth c s₁ Bd hml0 hP hK
  obtain ⟨rfl, hZ, hh⟩ := hP
  have hx := Bd.exec
  have hby := Bd.bytes
  have hlk : meth.locks = false := BodyLoose.notSynchronized Bd
  have hret := Bd.returns
  have hml : c.maxLocals = 5 := hml0
  have hown : s.vm.findClass "com/example/termwright/termwright/Spool$Record" = some m.cls := findClass_of_methodNamed Bd.named
  have hnm := (name_of_methodNamed Bd.named Bd.method).1
  have X0 : Stand p l e ({ frames := 5, cells := 0, slots := 0, locals := 66 } : Room) s m #[(.ref a0), (.ref a1)] below meth c s₁ [] 0 0 := Stand.of_body Bd
  have e0 : s₁.heap = h0 := by rw [← hh, Bd.state]; rfl
  have N0 := Fr.nil n0
  show own_G p.tables e below (own_E s ({ frames := 5, cells := 0, slots := 0, locals := 66 } : Room).cells ({ frames := 5, cells := 0, slots := 0, locals := 66 } : Room).slots) (own_Qp Z a0 t p1 (l1 + own_len n) (own_put g1 l1 n) cs h0 n0) (s₁.setTop (entryFrame m #[(.ref a0), (.ref a1)] 5))
  refine own_st ?_ (fun t_ k_ => castTop (ef_9 m a0 a1) k_)
  show own_G p.tables e below _ _ (s₁.setTop (mkF m 0 #[.val (.ref a0), .val (.ref a1), .unset, .unset, .unset] []))
  refine own_st ?_ (fun t_ k_ => XS.aloadN X0.here hx rfl (hb hby d9_0) rfl rfl k_)
  show own_G p.tables e below _ _ (s₁.setTop (mkF m 1 #[.val (.ref a0), .val (.ref a1), .unset, .unset, .unset] [(.ref a1)]))
  obtain ⟨cq1, kq1, q1a, q1b, q1c⟩ := isOf hZ e0 E0s
  obtain ⟨_, _, ⟨T1, L1, k1, n1⟩, -, X1, ⟨Lc1, hQ1, l1, y1, z1⟩, st1⟩ := X0.virtualBack hx (y := (⟨"java/lang/String", "length", "()I"⟩ : MethodName)) (z := (⟨"java/lang/String", "length", "()I"⟩ : MethodName)) hown (mvT hZ (hw _ (List.mem_of_getElem? (i := 51) rfl))) (mvT hZ (hw _ (List.mem_of_getElem? (i := 52) rfl))) (notFace_of_selects (args := #[]) (mvT hZ (hw _ (List.mem_of_getElem? (i := 54) rfl)))) (mvT hZ (hw _ (List.mem_of_getElem? (i := 54) rfl))) (mvT hZ (hw _ (List.mem_of_getElem? (i := 53) rfl))) (by decide) (backOf (W := 0) (rm10 l Z _ hw [] a1 z1 fm cd ts n N gs ch h0 n0 Z0 SS E0s Fcs Fvs Y0s hz1 hD) hZ (hw _ (List.mem_of_getElem? (i := 55) rfl)) (hw _ (List.mem_of_getElem? (i := 4) rfl)) (by decide) (by decide)) q1a q1c (g := (mkF m 1 #[.val (.ref a0), .val (.ref a1), .unset, .unset, .unset] [(.ref a1)])) rfl (by rw [hml]; rfl) (Steps.refl _) (argsL := []) (rest := []) (lenOf pd_16 rfl) rfl (by show 2 * 0 + _ ≤ _; exact Nat.le_of_eq rfl) (hb hby d9_1) (fun _ _ => ⟨rfl, e0, (by decide : 0 + 0 ≤ _), (by decide : 0 + 0 ≤ _)⟩)
  dsimp only [Pt.U, Pt.locs, Pt.cells, Pt.slots] at X1 l1 y1 z1 st1 hQ1
  subst l1 y1 z1
  obtain ⟨rfl, N1q, e1⟩ := hQ1
  have N1 := Fr.app N0 N1q
  refine own_st ?_ (fun t_ k_ => st1.trans k_)
  show own_G p.tables e below _ _ (T1.setTop (mkF m 4 #[.val (.ref a0), .val (.ref a1), .unset, .unset, .unset] [(.int n.toInt32)]))
  refine own_st ?_ (fun t_ k_ => XS.istoreN X1.here hx rfl (hb hby d9_4) rfl (l' := #[.val (.ref a0), .val (.ref a1), .val (.int n.toInt32), .unset, .unset]) rfl k_)
  show own_G p.tables e below _ _ (T1.setTop (mkF m 5 #[.val (.ref a0), .val (.ref a1), .val (.int n.toInt32), .unset, .unset] []))
  refine own_st ?_ (fun t_ k_ => XS.aloadN X1.here hx rfl (hb hby d9_5) rfl rfl k_)
  show own_G p.tables e below _ _ (T1.setTop (mkF m 6 #[.val (.ref a0), .val (.ref a1), .val (.int n.toInt32), .unset, .unset] [(.ref a0)]))
  refine own_st ?_ (fun t_ k_ => XS.iloadN X1.here hx rfl (hb hby d9_6) rfl k_)
  show own_G p.tables e below _ _ (T1.setTop (mkF m 7 #[.val (.ref a0), .val (.ref a1), .val (.int n.toInt32), .unset, .unset] [(.int n.toInt32), (.ref a0)]))
  refine own_st ?_ (fun t_ k_ => XS.i2l X1.here hx rfl (hb hby d9_7) rfl k_)
  show own_G p.tables e below _ _ (T1.setTop (mkF m 8 #[.val (.ref a0), .val (.ref a1), .val (.int n.toInt32), .unset, .unset] [(.long (n.toInt32.toInt64)), (.ref a0)]))
  obtain ⟨cq2, kq2, q2a, q2b, q2c⟩ := isOf hZ e1 E0
  obtain ⟨_, _, ⟨T2, L2, k2, n2⟩, -, X2, ⟨Lc2, hQ2, l2, y2, z2⟩, st2⟩ := X1.virtualBack hx (y := (⟨"com/example/termwright/termwright/Spool$Record", "putNumber", "(J)Lcom/example/termwright/termwright/Spool$Record;"⟩ : MethodName)) (z := (⟨"com/example/termwright/termwright/Spool$Record", "putNumber", "(J)Lcom/example/termwright/termwright/Spool$Record;"⟩ : MethodName)) hown (mvT hZ (hw _ (List.mem_of_getElem? (i := 61) rfl))) (mvT hZ (hw _ (List.mem_of_getElem? (i := 62) rfl))) (notFace_of_selects (args := #[]) (mvT hZ (hw _ (List.mem_of_getElem? (i := 64) rfl)))) (mvT hZ (hw _ (List.mem_of_getElem? (i := 64) rfl))) (mvT hZ (hw _ (List.mem_of_getElem? (i := 63) rfl))) (by decide) (backOf (W := 0) (rm12 l Z _ hw [] a0 (n.toInt32.toInt64) t l1 p1 g1 n h0 n0 Z0 g_a0 g_t E0 Fb Fl Fp M0 hne (own_i2l (by omega)) (by omega) (by omega)) hZ (hw _ (List.mem_of_getElem? (i := 65) rfl)) (hw _ (List.mem_of_getElem? (i := 39) rfl)) (by decide) (by decide)) q2a q2c (g := (mkF m 8 #[.val (.ref a0), .val (.ref a1), .val (.int n.toInt32), .unset, .unset] [(.long (n.toInt32.toInt64)), (.ref a0)])) rfl (by rw [hml]; rfl) (Steps.refl _) (argsL := [(.long (n.toInt32.toInt64))]) (rest := []) (lenOf pd_17 rfl) rfl (by show 2 * 0 + _ ≤ _; exact Nat.le_of_eq rfl) (hb hby d9_8) (fun _ _ => ⟨rfl, e1, (by decide : 0 + 0 ≤ _), (by decide : 0 + 0 ≤ _)⟩)
  dsimp only [Pt.U, Pt.locs, Pt.cells, Pt.slots] at X2 l2 y2 z2 st2 hQ2
  subst l2 y2 z2
  obtain ⟨rfl, N2q, hq2⟩ := hQ2
  have N2 := Fr.app N1 N2q
  obtain ⟨K2, Fb2, Fl2, Fp2, M2⟩ := hq2
  have F3_Z : own_SS Z T2.heap n0 z1 fm := own_SS_keep SS K2 (own_alS g_a0 (own_alS g_t own_al0))
  have F4_E : Exa Z T2.heap a0 "com/example/termwright/termwright/Spool$Record" := E0.keep K2
  have F5_E : Exa Z T2.heap a1 "java/lang/String" := E0s.keep K2
  have F6_coder : Fld Z T2.heap a1 "java/lang/String" "coder" "B" (.int cd) := Fcs.keep K2 (ninS hn1 (ninS hn2 nin0))
  have F7_value : Fld Z T2.heap a1 "java/lang/String" "value" "[B" (.ref ts) := Fvs.keep K2 (ninS hn1 (ninS hn2 nin0))
  have F8_P : own_Y .byte Z T2.heap ts N gs := own_Y_keep Y0s K2 (ninS hn3 (ninS hn4 nin0))
  have Zs9 : n0 ≤ T2.heap.size := Nat.le_trans Z0 K2.1
  have Kc10 : Keep h0 T2.heap [a0, t] := (Keep.refl h0 [a0, t]).trans K2 (allS (Or.inl (List.mem_of_getElem? (i := 0) rfl)) (allS (Or.inl (List.mem_of_getElem? (i := 1) rfl)) all0))
  refine own_st ?_ (fun t_ k_ => st2.trans k_)
  show own_G p.tables e below _ _ (T2.setTop (mkF m 11 #[.val (.ref a0), .val (.ref a1), .val (.int n.toInt32), .unset, .unset] [(.ref a0)]))
  refine own_st ?_ (fun t_ k_ => XS.pop X2.here hx rfl (hb hby d9_11) rfl rfl k_)
  show own_G p.tables e below _ _ (T2.setTop (mkF m 12 #[.val (.ref a0), .val (.ref a1), .val (.int n.toInt32), .unset, .unset] []))
  refine own_st ?_ (fun t_ k_ => XS.aloadN X2.here hx rfl (hb hby d9_12) rfl rfl k_)
  show own_G p.tables e below _ _ (T2.setTop (mkF m 13 #[.val (.ref a0), .val (.ref a1), .val (.int n.toInt32), .unset, .unset] [(.ref a0)]))
  refine own_st ?_ (X2.ldc2Long hx hown (mvT hZ (hw _ (List.mem_of_getElem? (i := 74) rfl))) (g := (mkF m 13 #[.val (.ref a0), .val (.ref a1), .val (.int n.toInt32), .unset, .unset] [(.ref a0)])) rfl (hb hby d9_13))
  show own_G p.tables e below _ _ (T2.setTop (mkF m 16 #[.val (.ref a0), .val (.ref a1), .val (.int n.toInt32), .unset, .unset] [(.long (3 : Int64)), (.ref a0)]))
  refine own_st ?_ (fun t_ k_ => XS.iloadN X2.here hx rfl (hb hby d9_16) rfl k_)
  show own_G p.tables e below _ _ (T2.setTop (mkF m 17 #[.val (.ref a0), .val (.ref a1), .val (.int n.toInt32), .unset, .unset] [(.int n.toInt32), (.long (3 : Int64)), (.ref a0)]))
  refine own_st ?_ (fun t_ k_ => XS.i2l X2.here hx rfl (hb hby d9_17) rfl k_)
  show own_G p.tables e below _ _ (T2.setTop (mkF m 18 #[.val (.ref a0), .val (.ref a1), .val (.int n.toInt32), .unset, .unset] [(.long (n.toInt32.toInt64)), (.long (3 : Int64)), (.ref a0)]))
  refine own_st ?_ (fun t_ k_ => XS.lmul X2.here hx rfl (hb hby d9_18) rfl k_)
  show own_G p.tables e below _ _ (T2.setTop (mkF m 19 #[.val (.ref a0), .val (.ref a1), .val (.int n.toInt32), .unset, .unset] [(.long ((3 : Int64) * (n.toInt32.toInt64))), (.ref a0)]))
  obtain ⟨cq11, qp11, qp11'⟩ := F4_E.cell
  obtain ⟨_, _, ⟨T11, L11, k11, n11⟩, -, X11, ⟨Lc11, hQ11, l11, y11, z11⟩, st11⟩ := X2.privateBack hx (y := (⟨"com/example/termwright/termwright/Spool$Record", "room", "(J)V"⟩ : MethodName)) hown (mvT hZ (hw _ (List.mem_of_getElem? (i := 67) rfl))) (mvT hZ (hw _ (List.mem_of_getElem? (i := 68) rfl))) (mvT hZ (own_sel hw)) (Cond.privateMethod_at (mvP hZ (hw _ (List.mem_of_getElem? (i := 69) rfl)) (args := #[]))) (mvT hZ (hw _ (List.mem_of_getElem? (i := 70) rfl))) (by decide) (backOf (W := 0) (rm13 l Z _ hw [] a0 ((3 : Int64) * (n.toInt32.toInt64)) t (l1 + own_len n) p1 (own_put g1 l1 n) (3 * n) T2.heap n0 Zs9 F4_E Fb2 Fl2 Fp2 M2 (by have := own_len9 (n := n) (by omega); omega) (own_mul3 hn)) hZ (hw _ (List.mem_of_getElem? (i := 70) rfl)) (hw _ (List.mem_of_getElem? (i := 39) rfl)) (by decide) (by decide)) (g := (mkF m 19 #[.val (.ref a0), .val (.ref a1), .val (.int n.toInt32), .unset, .unset] [(.long ((3 : Int64) * (n.toInt32.toInt64))), (.ref a0)])) rfl (by rw [hml]; rfl) (Steps.refl _) (a := a0) qp11 qp11' (argsL := [(.long ((3 : Int64) * (n.toInt32.toInt64)))]) (rest := []) (lenOf pd_14 rfl) rfl (by show 2 * 0 + _ ≤ _; exact Nat.le_of_eq rfl) (hb hby d9_19) (fun _ _ => ⟨rfl, rfl, (by decide : 0 + 0 ≤ _), (by decide : 0 + 0 ≤ _)⟩)
  dsimp only [Pt.U, Pt.locs, Pt.cells, Pt.slots] at X11 l11 y11 z11 st11 hQ11
  subst l11 y11 z11
  obtain ⟨rfl, N11q, e11⟩ := hQ11
  have N11 := Fr.app N2 N11q
  refine own_st ?_ (fun t_ k_ => st11.trans k_)
  show own_G p.tables e below _ _ (T11.setTop (mkF m 22 #[.val (.ref a0), .val (.ref a1), .val (.int n.toInt32), .unset, .unset] []))
  refine own_st ?_ (fun t_ k_ => XS.iconst X11.here hx rfl (hb hby d9_22) k_)
  show own_G p.tables e below _ _ (T11.setTop (mkF m 23 #[.val (.ref a0), .val (.ref a1), .val (.int n.toInt32), .unset, .unset] [(.int (0 : Int32))]))
  refine own_st ?_ (fun t_ k_ => XS.istoreN X11.here hx rfl (hb hby d9_23) rfl (l' := #[.val (.ref a0), .val (.ref a1), .val (.int n.toInt32), .val (.int (0 : Int32)), .unset]) rfl k_)
  show own_G p.tables e below _ _ (T11.setTop (mkF m 24 #[.val (.ref a0), .val (.ref a1), .val (.int n.toInt32), .val (.int (0 : Int32)), .unset] []))
  exact own_lpt hx hlk hZ hw hby hml hown hret hne hn1 hn2 hn3 hn4 hz1 rf_fm hD hn g_a0 g_t cs (kx := 0) (s4 := .unset) (lx := l1 + own_len n) (g := own_put g1 l1 n) hTT (by have := own_len9 (n := n) (by omega); have := hTT.1; omega) (Or.inl rfl) X11 N11 e11 Kc10 F3_Z F4_E Fb2 Fl2 Fp2 M2 F5_E F6_coder F7_value F8_P Zs9
/-- behind text: a new String that spells ch -/
def own_Qtx (Z : State) (a0 t : Addr) (l1 q : Nat) (g1 : Nat → Int32) (n : Nat) (ch : Nat → Int32) (h0 : Heap) (n0 : Nat) (v : Option Value) (h : Heap) (L : List Loc) : Prop := ∃ a : Addr, v = some (.ref a) ∧ Fr n0 L ∧ Keep h0 h [a0] ∧ h0.size ≤ a ∧ Exa Z h a "java/lang/String" ∧ own_PS Z n ch a h0 h ∧ own_Rec Z h a0 t l1 q g1
theorem own_stepC {CH ch : Nat → Int32} {kx : Nat} {v : Int32} (hC : ∀ i, i < kx → CH i = ch i) (e : v = ch kx) : ∀ i, i < kx + 1 → (own_upd CH kx v) i = ch i := by
  intro i hi
  by_cases q : i = kx
  · subst q; rw [own_upd_eq]; exact e
  · rw [own_upd_ne q]; exact hC i (by omega)
theorem pd_19 : parseMethodDescriptor "()J" = some ⟨[], some .long⟩ := by decide +kernel
theorem pd_20 : parseMethodDescriptor "(J)I" = some ⟨[.long], some .int⟩ := by decide +kernel
theorem pd_18 : parseMethodDescriptor "([C)V" = some ⟨[(.array .char)], none⟩ := by decide +kernel
theorem d19_0 : decode prog_34_method_6_code 0 = .ok (.aload_n 0, 1) := by decide +kernel
theorem d19_1 : decode prog_34_method_6_code 1 = .ok (.invokevirtual 54, 3) := by decide +kernel
theorem d19_4 : decode prog_34_method_6_code 4 = .ok (.invokestatic 58, 3) := by decide +kernel
theorem d19_7 : decode prog_34_method_6_code 7 = .ok (.newarray .char, 2) := by decide +kernel
theorem d19_9 : decode prog_34_method_6_code 9 = .ok (.astore_n 1, 1) := by decide +kernel
theorem d19_10 : decode prog_34_method_6_code 10 = .ok (.iconst 0, 1) := by decide +kernel
theorem d19_11 : decode prog_34_method_6_code 11 = .ok (.istore_n 2, 1) := by decide +kernel
theorem d19_12 : decode prog_34_method_6_code 12 = .ok (.iload_n 2, 1) := by decide +kernel
theorem d19_13 : decode prog_34_method_6_code 13 = .ok (.aload_n 1, 1) := by decide +kernel
theorem d19_14 : decode prog_34_method_6_code 14 = .ok (.arraylength, 1) := by decide +kernel
theorem d19_15 : decode prog_34_method_6_code 15 = .ok (.if_icmp .ge 140, 3) := by decide +kernel
theorem d19_18 : decode prog_34_method_6_code 18 = .ok (.aload_n 0, 1) := by decide +kernel
theorem d19_19 : decode prog_34_method_6_code 19 = .ok (.getfield 7, 3) := by decide +kernel
theorem d19_22 : decode prog_34_method_6_code 22 = .ok (.aload_n 0, 1) := by decide +kernel
theorem d19_23 : decode prog_34_method_6_code 23 = .ok (.dup, 1) := by decide +kernel
theorem d19_24 : decode prog_34_method_6_code 24 = .ok (.getfield 17, 3) := by decide +kernel
theorem d19_27 : decode prog_34_method_6_code 27 = .ok (.dup_x1, 1) := by decide +kernel
theorem d19_28 : decode prog_34_method_6_code 28 = .ok (.iconst 1, 1) := by decide +kernel
theorem d19_29 : decode prog_34_method_6_code 29 = .ok (.iadd, 1) := by decide +kernel
theorem d19_30 : decode prog_34_method_6_code 30 = .ok (.putfield 17, 3) := by decide +kernel
theorem d19_33 : decode prog_34_method_6_code 33 = .ok (.baload, 1) := by decide +kernel
theorem d19_34 : decode prog_34_method_6_code 34 = .ok (.sipush 255, 3) := by decide +kernel
theorem d19_37 : decode prog_34_method_6_code 37 = .ok (.iand, 1) := by decide +kernel
theorem d19_38 : decode prog_34_method_6_code 38 = .ok (.istore_n 3, 1) := by decide +kernel
theorem d19_39 : decode prog_34_method_6_code 39 = .ok (.iload_n 3, 1) := by decide +kernel
theorem d19_40 : decode prog_34_method_6_code 40 = .ok (.sipush 128, 3) := by decide +kernel
theorem d19_43 : decode prog_34_method_6_code 43 = .ok (.if_icmp .ge 11, 3) := by decide +kernel
theorem d19_46 : decode prog_34_method_6_code 46 = .ok (.aload_n 1, 1) := by decide +kernel
theorem d19_47 : decode prog_34_method_6_code 47 = .ok (.iload_n 2, 1) := by decide +kernel
theorem d19_48 : decode prog_34_method_6_code 48 = .ok (.iload_n 3, 1) := by decide +kernel
theorem d19_49 : decode prog_34_method_6_code 49 = .ok (.i2c, 1) := by decide +kernel
theorem d19_50 : decode prog_34_method_6_code 50 = .ok (.castore, 1) := by decide +kernel
theorem d19_51 : decode prog_34_method_6_code 51 = .ok (.goto 98, 3) := by decide +kernel
theorem d19_54 : decode prog_34_method_6_code 54 = .ok (.iload_n 3, 1) := by decide +kernel
theorem d19_55 : decode prog_34_method_6_code 55 = .ok (.sipush 224, 3) := by decide +kernel
theorem d19_58 : decode prog_34_method_6_code 58 = .ok (.if_icmp .ge 37, 3) := by decide +kernel
theorem d19_61 : decode prog_34_method_6_code 61 = .ok (.aload_n 1, 1) := by decide +kernel
theorem d19_62 : decode prog_34_method_6_code 62 = .ok (.iload_n 2, 1) := by decide +kernel
theorem d19_63 : decode prog_34_method_6_code 63 = .ok (.iload_n 3, 1) := by decide +kernel
theorem d19_64 : decode prog_34_method_6_code 64 = .ok (.bipush 31, 2) := by decide +kernel
theorem d19_66 : decode prog_34_method_6_code 66 = .ok (.iand, 1) := by decide +kernel
theorem d19_67 : decode prog_34_method_6_code 67 = .ok (.bipush 6, 2) := by decide +kernel
theorem d19_69 : decode prog_34_method_6_code 69 = .ok (.ishl, 1) := by decide +kernel
theorem d19_70 : decode prog_34_method_6_code 70 = .ok (.aload_n 0, 1) := by decide +kernel
theorem d19_71 : decode prog_34_method_6_code 71 = .ok (.getfield 7, 3) := by decide +kernel
theorem d19_74 : decode prog_34_method_6_code 74 = .ok (.aload_n 0, 1) := by decide +kernel
theorem d19_75 : decode prog_34_method_6_code 75 = .ok (.dup, 1) := by decide +kernel
theorem d19_76 : decode prog_34_method_6_code 76 = .ok (.getfield 17, 3) := by decide +kernel
theorem d19_79 : decode prog_34_method_6_code 79 = .ok (.dup_x1, 1) := by decide +kernel
theorem d19_80 : decode prog_34_method_6_code 80 = .ok (.iconst 1, 1) := by decide +kernel
theorem d19_81 : decode prog_34_method_6_code 81 = .ok (.iadd, 1) := by decide +kernel
theorem d19_82 : decode prog_34_method_6_code 82 = .ok (.putfield 17, 3) := by decide +kernel
theorem d19_85 : decode prog_34_method_6_code 85 = .ok (.baload, 1) := by decide +kernel
theorem d19_86 : decode prog_34_method_6_code 86 = .ok (.bipush 63, 2) := by decide +kernel
theorem d19_88 : decode prog_34_method_6_code 88 = .ok (.iand, 1) := by decide +kernel
theorem d19_89 : decode prog_34_method_6_code 89 = .ok (.ior, 1) := by decide +kernel
theorem d19_90 : decode prog_34_method_6_code 90 = .ok (.i2c, 1) := by decide +kernel
theorem d19_91 : decode prog_34_method_6_code 91 = .ok (.castore, 1) := by decide +kernel
theorem d19_92 : decode prog_34_method_6_code 92 = .ok (.goto 57, 3) := by decide +kernel
theorem d19_95 : decode prog_34_method_6_code 95 = .ok (.aload_n 1, 1) := by decide +kernel
theorem d19_96 : decode prog_34_method_6_code 96 = .ok (.iload_n 2, 1) := by decide +kernel
theorem d19_97 : decode prog_34_method_6_code 97 = .ok (.iload_n 3, 1) := by decide +kernel
theorem d19_98 : decode prog_34_method_6_code 98 = .ok (.bipush 15, 2) := by decide +kernel
theorem d19_100 : decode prog_34_method_6_code 100 = .ok (.iand, 1) := by decide +kernel
theorem d19_101 : decode prog_34_method_6_code 101 = .ok (.bipush 12, 2) := by decide +kernel
theorem d19_103 : decode prog_34_method_6_code 103 = .ok (.ishl, 1) := by decide +kernel
theorem d19_104 : decode prog_34_method_6_code 104 = .ok (.aload_n 0, 1) := by decide +kernel
theorem d19_105 : decode prog_34_method_6_code 105 = .ok (.getfield 7, 3) := by decide +kernel
theorem d19_108 : decode prog_34_method_6_code 108 = .ok (.aload_n 0, 1) := by decide +kernel
theorem d19_109 : decode prog_34_method_6_code 109 = .ok (.dup, 1) := by decide +kernel
theorem d19_110 : decode prog_34_method_6_code 110 = .ok (.getfield 17, 3) := by decide +kernel
theorem d19_113 : decode prog_34_method_6_code 113 = .ok (.dup_x1, 1) := by decide +kernel
theorem d19_114 : decode prog_34_method_6_code 114 = .ok (.iconst 1, 1) := by decide +kernel
theorem d19_115 : decode prog_34_method_6_code 115 = .ok (.iadd, 1) := by decide +kernel
theorem d19_116 : decode prog_34_method_6_code 116 = .ok (.putfield 17, 3) := by decide +kernel
theorem d19_119 : decode prog_34_method_6_code 119 = .ok (.baload, 1) := by decide +kernel
theorem d19_120 : decode prog_34_method_6_code 120 = .ok (.bipush 63, 2) := by decide +kernel
theorem d19_122 : decode prog_34_method_6_code 122 = .ok (.iand, 1) := by decide +kernel
theorem d19_123 : decode prog_34_method_6_code 123 = .ok (.bipush 6, 2) := by decide +kernel
theorem d19_125 : decode prog_34_method_6_code 125 = .ok (.ishl, 1) := by decide +kernel
theorem d19_126 : decode prog_34_method_6_code 126 = .ok (.ior, 1) := by decide +kernel
theorem d19_127 : decode prog_34_method_6_code 127 = .ok (.aload_n 0, 1) := by decide +kernel
theorem d19_128 : decode prog_34_method_6_code 128 = .ok (.getfield 7, 3) := by decide +kernel
theorem d19_131 : decode prog_34_method_6_code 131 = .ok (.aload_n 0, 1) := by decide +kernel
theorem d19_132 : decode prog_34_method_6_code 132 = .ok (.dup, 1) := by decide +kernel
theorem d19_133 : decode prog_34_method_6_code 133 = .ok (.getfield 17, 3) := by decide +kernel
theorem d19_136 : decode prog_34_method_6_code 136 = .ok (.dup_x1, 1) := by decide +kernel
theorem d19_137 : decode prog_34_method_6_code 137 = .ok (.iconst 1, 1) := by decide +kernel
theorem d19_138 : decode prog_34_method_6_code 138 = .ok (.iadd, 1) := by decide +kernel
theorem d19_139 : decode prog_34_method_6_code 139 = .ok (.putfield 17, 3) := by decide +kernel
theorem d19_142 : decode prog_34_method_6_code 142 = .ok (.baload, 1) := by decide +kernel
theorem d19_143 : decode prog_34_method_6_code 143 = .ok (.bipush 63, 2) := by decide +kernel
theorem d19_145 : decode prog_34_method_6_code 145 = .ok (.iand, 1) := by decide +kernel
theorem d19_146 : decode prog_34_method_6_code 146 = .ok (.ior, 1) := by decide +kernel
theorem d19_147 : decode prog_34_method_6_code 147 = .ok (.i2c, 1) := by decide +kernel
theorem d19_148 : decode prog_34_method_6_code 148 = .ok (.castore, 1) := by decide +kernel
theorem d19_149 : decode prog_34_method_6_code 149 = .ok (.iinc 2 1, 3) := by decide +kernel
theorem d19_152 : decode prog_34_method_6_code 152 = .ok (.goto (-140), 3) := by decide +kernel
theorem d19_155 : decode prog_34_method_6_code 155 = .ok (.new 40, 3) := by decide +kernel
theorem d19_158 : decode prog_34_method_6_code 158 = .ok (.dup, 1) := by decide +kernel
theorem d19_159 : decode prog_34_method_6_code 159 = .ok (.aload_n 1, 1) := by decide +kernel
theorem d19_160 : decode prog_34_method_6_code 160 = .ok (.invokespecial 64, 3) := by decide +kernel
theorem d19_163 : decode prog_34_method_6_code 163 = .ok (.areturn, 1) := by decide +kernel
theorem pn_19 : plainName "com/example/termwright/termwright/Spool$Record" = true := by first | (simp [plainName, overriddenIn]; done) | decide +kernel
set_option maxRecDepth 65536 in
set_option maxHeartbeats 40000000 in
theorem own_ltx {p : Program} {l : Launch} {e : Env} {s : State} {m : MethodId} {args : Array Value} {below : List Frame} {meth : Method} {c : Code} {Z : State} {a0' : Array Value} {h0 : Heap} {n0 : Nat} (hx : p.tables.exec = Jvm.exec) (hlk : meth.locks = false) (hZ : Z.Warmed39 s.vm) (hw : ∀ d ∈ tables_1, d.before a0' Z = true) (hby : c.code = prog_34_method_6_code) (hml : c.maxLocals = 4) (hown : s.vm.findClass "com/example/termwright/termwright/Spool$Record" = some m.cls) (hret : meth.sig.returnType = (some (.object "java/lang/String"))) {a0 t x : Addr} {n l1 : Nat} {g1 ch : Nat → Int32} {z1 : Int32} {fm : Value} (hne : a0 ≠ t) (hz1 : ¬ z1 = 0) (hn0 : 0 < n) (hn : n ≤ 4) (hC : ∀ i, i < n → own_isC (ch i)) (g_a0 : n0 ≤ a0) (g_t : n0 ≤ t) (g_x : n0 ≤ x) (sz_x : h0.size ≤ x) (cs : List Int32) : ∀ {T0 : State} {locs : List Loc} {h1 : Heap} {kx px : Nat} {CH : Nat → Int32} {s3 : Slot} (hTT : own_TT ch n kx cs) (hpp : px + 3 * cs.length ≤ 256) (hE : own_E8 g1 px cs) (hCH : ∀ i, i < kx → CH i = ch i) (o_s3 : s3 = .unset ∨ ∃ w, s3 = .val w ∧ w.category = 1) (nx0 : a0 ≠ x) (nxt : t ≠ x) (X0 : Stand p l e ({ frames := 6, cells := 4, slots := 20, locals := 88 } : Room) s m args below meth c T0 locs 1 4) (N0 : Fr n0 locs) (e0 : T0.heap = h1) (K0 : Keep h0 h1 [a0]) (SS : own_SS Z h1 n0 z1 fm) (E0 : Exa Z h1 a0 "com/example/termwright/termwright/Spool$Record") (Fb : Fld Z h1 a0 "com/example/termwright/termwright/Spool$Record" "bytes" "[B" (.ref t)) (Fl : Fld Z h1 a0 "com/example/termwright/termwright/Spool$Record" "length" "I" (.int (Int32.ofInt ((l1 : Nat) : Int)))) (Fp : Fld Z h1 a0 "com/example/termwright/termwright/Spool$Record" "position" "I" (.int (Int32.ofInt ((px : Nat) : Int)))) (M0 : own_Y .byte Z h1 t 256 g1) (Yc : own_Y .char Z h1 x n CH) (Z1 : n0 ≤ h1.size),
    own_G p.tables e below (own_E s ({ frames := 6, cells := 4, slots := 20, locals := 88 } : Room).cells ({ frames := 6, cells := 4, slots := 20, locals := 88 } : Room).slots) (own_Qtx Z a0 t l1 (px + own_W cs) g1 n ch h0 n0) (T0.setTop (mkF m 12 #[.val (.ref a0), .val (.ref x), .val (.int kx.toInt32), s3] [])) := by
  induction cs with
  | nil =>
    intro T0 locs h1 kx px CH s3 hTT hpp hE hCH o_s3 nx0 nxt X0 N0 e0 K0 SS E0 Fb Fl Fp M0 Yc Z1
    refine own_st ?_ (fun t_ k_ => XS.iloadN X0.here hx rfl (hb hby d19_12) rfl k_)
    show own_G p.tables e below _ _ (T0.setTop (mkF m 13 #[.val (.ref a0), .val (.ref x), .val (.int kx.toInt32), s3] [(.int kx.toInt32)]))
    refine own_st ?_ (fun t_ k_ => XS.aloadN X0.here hx rfl (hb hby d19_13) rfl rfl k_)
    show own_G p.tables e below _ _ (T0.setTop (mkF m 14 #[.val (.ref a0), .val (.ref x), .val (.int kx.toInt32), s3] [(.ref x), (.int kx.toInt32)]))
    obtain ⟨cl1, Ar1, Sz1, G1⟩ := Yc
    refine own_st ?_ (X0.arraylength hx (by rw [e0]; exact Ar1.1) (State.isArrayOf_alike hZ.alike Ar1.2.1) (g := (mkF m 14 #[.val (.ref a0), .val (.ref x), .val (.int kx.toInt32), s3] [(.ref x), (.int kx.toInt32)])) rfl rfl (hb hby d19_14))
    rw [Sz1]
    have Yx1 : own_Y .char Z h1 x n CH := ⟨cl1, Ar1, Sz1, G1⟩
    show own_G p.tables e below _ _ (T0.setTop (mkF m 15 #[.val (.ref a0), .val (.ref x), .val (.int kx.toInt32), s3] [(.int (n).toInt32), (.int kx.toInt32)]))
    refine own_st ?_ (fun t_ k_ => XS.icmpYes X0.here hx rfl (pc0 := 15) (pc' := 155) rfl (hb hby d19_15) rfl (flt (own_eqn (by have := hTT.1; simp only [List.length_nil] at this; omega))).2.1 (by decide) (by decide) k_)
    show own_G p.tables e below _ _ (T0.setTop (mkF m 155 #[.val (.ref a0), .val (.ref x), .val (.int kx.toInt32), s3] []))
    obtain ⟨T2, h2, X2, e2, E2, A2, D2, -, st2⟩ := newO X0 hx hZ hown (hw _ (List.mem_of_getElem? (i := 115) rfl)) (hw _ (List.mem_of_getElem? (i := 3) rfl)) (hw _ (List.mem_of_getElem? (i := 4) rfl)) e0 (g := (mkF m 155 #[.val (.ref a0), .val (.ref x), .val (.int kx.toInt32), s3] [])) rfl (hb hby d19_155) (by decide) (by decide)
    obtain ⟨b2, gz2⟩ : ∃ z, z = h1.size := ⟨_, rfl⟩
    rw [← gz2] at A2 D2 st2
    have ne_a0_b2 : a0 ≠ b2 := Nat.ne_of_lt (Nat.lt_of_lt_of_le E0.lt (Nat.le_of_eq gz2.symm))
    have ne_t_b2 : t ≠ b2 := Nat.ne_of_lt (Nat.lt_of_lt_of_le (own_Y_lt M0) (Nat.le_of_eq gz2.symm))
    have ne_x_b2 : x ≠ b2 := Nat.ne_of_lt (Nat.lt_of_lt_of_le (own_Y_lt Yx1) (Nat.le_of_eq gz2.symm))
    have g_b2 : n0 ≤ b2 := Nat.le_trans Z1 (Nat.le_of_eq gz2.symm)
    have sz_b2 : h0.size ≤ b2 := Nat.le_trans K0.1 (Nat.le_of_eq gz2.symm)
    have F3_Z : own_SS Z h2 n0 z1 fm := own_SS_ext SS E2
    have F4_E : Exa Z h2 a0 "com/example/termwright/termwright/Spool$Record" := E0.ext E2
    have F5_bytes : Fld Z h2 a0 "com/example/termwright/termwright/Spool$Record" "bytes" "[B" (.ref t) := Fb.ext E2
    have F6_length : Fld Z h2 a0 "com/example/termwright/termwright/Spool$Record" "length" "I" (.int (Int32.ofInt ((l1 : Nat) : Int))) := Fl.ext E2
    have F7_position : Fld Z h2 a0 "com/example/termwright/termwright/Spool$Record" "position" "I" (.int (Int32.ofInt ((px : Nat) : Int))) := Fp.ext E2
    have F8_P : own_Y .byte Z h2 t 256 g1 := own_Y_ext M0 E2
    have F9_P : own_Y .char Z h2 x n CH := own_Y_ext Yx1 E2
    have Zs10 : n0 ≤ h2.size := Nat.le_trans Z1 E2.1
    have Kc11 : Keep h0 h2 [a0] := K0.ext E2
    have F_coder_b2 : Fld Z h2 b2 "java/lang/String" "coder" "B" (.int (0 : Int32)) := D2 (Or.inr (hw _ (List.mem_of_getElem? (i := 33) rfl))) (ty := .byte) (by decide)
    have F_value_b2 : Fld Z h2 b2 "java/lang/String" "value" "[B" .null := D2 (Or.inr (hw _ (List.mem_of_getElem? (i := 35) rfl))) (ty := (.array .byte)) (by decide)
    refine own_st ?_ st2
    show own_G p.tables e below _ _ (T2.setTop (mkF m 158 #[.val (.ref a0), .val (.ref x), .val (.int kx.toInt32), s3] [(.ref b2)]))
    refine own_st ?_ (fun t_ k_ => XS.dup X2.here hx rfl (hb hby d19_158) rfl rfl k_)
    show own_G p.tables e below _ _ (T2.setTop (mkF m 159 #[.val (.ref a0), .val (.ref x), .val (.int kx.toInt32), s3] [(.ref b2), (.ref b2)]))
    refine own_st ?_ (fun t_ k_ => XS.aloadN X2.here hx rfl (hb hby d19_159) rfl rfl k_)
    show own_G p.tables e below _ _ (T2.setTop (mkF m 160 #[.val (.ref a0), .val (.ref x), .val (.int kx.toInt32), s3] [(.ref x), (.ref b2), (.ref b2)]))
    obtain ⟨_, _, ⟨T12, L12, k12, n12⟩, -, X12, ⟨Lc12, hQ12, l12, y12, z12⟩, st12⟩ := X2.specialBack hx (y := (⟨"java/lang/String", "<init>", "([C)V"⟩ : MethodName)) rfl hown (mvT hZ (hw _ (List.mem_of_getElem? (i := 116) rfl))) (mvT hZ (hw _ (List.mem_of_getElem? (i := 11) rfl))) (mvT hZ (hw _ (List.mem_of_getElem? (i := 12) rfl))) (by decide) (backOf (W := 1) (rm2 l Z _ hw [] b2 x z1 fm n ch (.int (0 : Int32)) .null h2 n0 Zs10 g_b2 F3_Z A2 F_coder_b2 F_value_b2 (own_Y_congr F9_P rfl (fun i hi => hCH i (by have := hTT.1; simp only [List.length_nil] at this; omega))) hz1 hn0 hn hC ne_x_b2) hZ (hw _ (List.mem_of_getElem? (i := 12) rfl)) (hw _ (List.mem_of_getElem? (i := 4) rfl)) (by decide) (by decide)) (g := (mkF m 160 #[.val (.ref a0), .val (.ref x), .val (.int kx.toInt32), s3] [(.ref x), (.ref b2), (.ref b2)])) rfl (by rw [hml]; rfl) (Steps.refl _) (a := b2) (argsL := [(.ref x)]) (rest := [(.ref b2)]) (lenOf pd_18 rfl) rfl (by show 2 * 0 + _ ≤ _; exact Nat.le_of_eq rfl) (hb hby d19_160) (fun _ _ => ⟨rfl, e2, (by decide : 2 + 2 ≤ _), (by decide : 8 + 12 ≤ _)⟩)
    dsimp only [Pt.U, Pt.locs, Pt.cells, Pt.slots] at X12 l12 y12 z12 st12 hQ12
    subst l12 y12 z12
    obtain ⟨rfl, N12q, hq12⟩ := hQ12
    have N12 := Fr.app N0 N12q
    obtain ⟨K12, tz12, hP12⟩ := hq12
    have hPs12 : own_PS Z n ch b2 h0 T12.heap := by obtain ⟨cd, N, g, hs, r⟩ := hP12; exact ⟨tz12, cd, N, g, Nat.le_trans Kc11.1 hs, r⟩
    have F13_Z : own_SS Z T12.heap n0 z1 fm := own_SS_keep F3_Z K12 (own_alS g_b2 own_al0)
    have F14_E : Exa Z T12.heap a0 "com/example/termwright/termwright/Spool$Record" := F4_E.keep K12
    have F15_bytes : Fld Z T12.heap a0 "com/example/termwright/termwright/Spool$Record" "bytes" "[B" (.ref t) := F5_bytes.keep K12 (ninS ne_a0_b2 nin0)
    have F16_length : Fld Z T12.heap a0 "com/example/termwright/termwright/Spool$Record" "length" "I" (.int (Int32.ofInt ((l1 : Nat) : Int))) := F6_length.keep K12 (ninS ne_a0_b2 nin0)
    have F17_position : Fld Z T12.heap a0 "com/example/termwright/termwright/Spool$Record" "position" "I" (.int (Int32.ofInt ((px : Nat) : Int))) := F7_position.keep K12 (ninS ne_a0_b2 nin0)
    have F18_P : own_Y .byte Z T12.heap t 256 g1 := own_Y_keep F8_P K12 (ninS ne_t_b2 nin0)
    have F19_P : own_Y .char Z T12.heap x n CH := own_Y_keep F9_P K12 (ninS ne_x_b2 nin0)
    have F20_E : Exa Z T12.heap b2 "java/lang/String" := A2.keep K12
    have Zs21 : n0 ≤ T12.heap.size := Nat.le_trans Zs10 K12.1
    have Kc22 : Keep h0 T12.heap [a0] := Kc11.trans K12 (allS (Or.inr sz_b2) all0)
    refine own_st ?_ (fun t_ k_ => st12.trans k_)
    show own_G p.tables e below _ _ (T12.setTop (mkF m 163 #[.val (.ref a0), .val (.ref x), .val (.int kx.toInt32), s3] [(.ref b2)]))
    refine own_retA X12 hx hlk hret rfl rfl rfl (hb hby d19_163) (by decide) (by decide) ⟨b2, rfl, N12, Kc22, sz_b2, F20_E, hPs12, ?_⟩
    exact ⟨F15_bytes, F16_length, F17_position, F18_P⟩
  | cons c1 cs ih =>
    intro T0 locs h1 kx px CH s3 hTT hpp hE hCH o_s3 nx0 nxt X0 N0 e0 K0 SS E0 Fb Fl Fp M0 Yc Z1
    obtain rfl : ch kx = c1 := (own_TT1 hTT).2.1
    have hlc : (ch kx :: cs).length = cs.length + 1 := rfl
    by_cases h128 : ch kx < 128
    · have ew := (own_e1 (g := g1) (p := px) h128).2
      have he := (own_e1 (g := g1) (p := px) h128).1.mp hE.1
      have hcc := hC kx (own_TT1 hTT).1
      have hval : nar .char (((g1 px) &&& (255 : Int32)).toUInt32.toUInt16.toUInt32.toInt32) = ch kx := by rw [he]; exact (own_c1 hcc h128).2
      refine own_st ?_ (fun t_ k_ => XS.iloadN X0.here hx rfl (hb hby d19_12) rfl k_)
      show own_G p.tables e below _ _ (T0.setTop (mkF m 13 #[.val (.ref a0), .val (.ref x), .val (.int kx.toInt32), s3] [(.int kx.toInt32)]))
      refine own_st ?_ (fun t_ k_ => XS.aloadN X0.here hx rfl (hb hby d19_13) rfl rfl k_)
      show own_G p.tables e below _ _ (T0.setTop (mkF m 14 #[.val (.ref a0), .val (.ref x), .val (.int kx.toInt32), s3] [(.ref x), (.int kx.toInt32)]))
      obtain ⟨cl23, Ar23, Sz23, G23⟩ := Yc
      refine own_st ?_ (X0.arraylength hx (by rw [e0]; exact Ar23.1) (State.isArrayOf_alike hZ.alike Ar23.2.1) (g := (mkF m 14 #[.val (.ref a0), .val (.ref x), .val (.int kx.toInt32), s3] [(.ref x), (.int kx.toInt32)])) rfl rfl (hb hby d19_14))
      rw [Sz23]
      have Yx23 : own_Y .char Z h1 x n CH := ⟨cl23, Ar23, Sz23, G23⟩
      show own_G p.tables e below _ _ (T0.setTop (mkF m 15 #[.val (.ref a0), .val (.ref x), .val (.int kx.toInt32), s3] [(.int (n).toInt32), (.int kx.toInt32)]))
      refine own_st ?_ (fun t_ k_ => XS.icmpNo X0.here hx rfl (hb hby d19_15) rfl (tlt ((own_tlt (by have := (own_TT1 hTT).1; omega) (by omega)).mpr (own_TT1 hTT).1)).2.1 k_)
      show own_G p.tables e below _ _ (T0.setTop (mkF m 18 #[.val (.ref a0), .val (.ref x), .val (.int kx.toInt32), s3] []))
      refine own_st ?_ (fun t_ k_ => XS.aloadN X0.here hx rfl (hb hby d19_18) rfl rfl k_)
      show own_G p.tables e below _ _ (T0.setTop (mkF m 19 #[.val (.ref a0), .val (.ref x), .val (.int kx.toInt32), s3] [(.ref a0)]))
      obtain ⟨T24, X24, e24, st24⟩ := getF X0 hx hZ hown (host := "") (Or.inl (hw _ (List.mem_of_getElem? (i := 44) rfl))) Via.refl e0 Fb (g := (mkF m 19 #[.val (.ref a0), .val (.ref x), .val (.int kx.toInt32), s3] [(.ref a0)])) rfl rfl (hb hby d19_19)
      refine own_st ?_ st24
      show own_G p.tables e below _ _ (T24.setTop (mkF m 22 #[.val (.ref a0), .val (.ref x), .val (.int kx.toInt32), s3] [(.ref t)]))
      refine own_st ?_ (fun t_ k_ => XS.aloadN X24.here hx rfl (hb hby d19_22) rfl rfl k_)
      show own_G p.tables e below _ _ (T24.setTop (mkF m 23 #[.val (.ref a0), .val (.ref x), .val (.int kx.toInt32), s3] [(.ref a0), (.ref t)]))
      refine own_st ?_ (fun t_ k_ => XS.dup X24.here hx rfl (hb hby d19_23) rfl rfl k_)
      show own_G p.tables e below _ _ (T24.setTop (mkF m 24 #[.val (.ref a0), .val (.ref x), .val (.int kx.toInt32), s3] [(.ref a0), (.ref a0), (.ref t)]))
      obtain ⟨T25, X25, e25, st25⟩ := getF X24 hx hZ hown (host := "") (Or.inl (hw _ (List.mem_of_getElem? (i := 109) rfl))) Via.refl e24 Fp (g := (mkF m 24 #[.val (.ref a0), .val (.ref x), .val (.int kx.toInt32), s3] [(.ref a0), (.ref a0), (.ref t)])) rfl rfl (hb hby d19_24)
      refine own_st ?_ st25
      show own_G p.tables e below _ _ (T25.setTop (mkF m 27 #[.val (.ref a0), .val (.ref x), .val (.int kx.toInt32), s3] [(.int (Int32.ofInt ((px : Nat) : Int))), (.ref a0), (.ref t)]))
      refine own_st ?_ (fun t_ k_ => XS.dupX1 X25.here hx rfl (hb hby d19_27) rfl rfl rfl k_)
      show own_G p.tables e below _ _ (T25.setTop (mkF m 28 #[.val (.ref a0), .val (.ref x), .val (.int kx.toInt32), s3] [(.int (Int32.ofInt ((px : Nat) : Int))), (.ref a0), (.int (Int32.ofInt ((px : Nat) : Int))), (.ref t)]))
      refine own_st ?_ (fun t_ k_ => XS.iconst X25.here hx rfl (hb hby d19_28) k_)
      show own_G p.tables e below _ _ (T25.setTop (mkF m 29 #[.val (.ref a0), .val (.ref x), .val (.int kx.toInt32), s3] [(.int (1 : Int32)), (.int (Int32.ofInt ((px : Nat) : Int))), (.ref a0), (.int (Int32.ofInt ((px : Nat) : Int))), (.ref t)]))
      refine own_st ?_ (fun t_ k_ => XS.iadd X25.here hx rfl (hb hby d19_29) rfl k_)
      show own_G p.tables e below _ _ (T25.setTop (mkF m 30 #[.val (.ref a0), .val (.ref x), .val (.int kx.toInt32), s3] [(.int ((Int32.ofInt ((px : Nat) : Int)) + (1 : Int32))), (.ref a0), (.int (Int32.ofInt ((px : Nat) : Int))), (.ref t)]))
      obtain ⟨T26, h26, X26, e26, W26, st26⟩ := putF X25 hx hZ hown (host := "") (Or.inl (hw _ (List.mem_of_getElem? (i := 109) rfl))) Via.refl e25 Fp E0 (Or.inl (hw _ (List.mem_of_getElem? (i := 110) rfl))) (hw _ (List.mem_of_getElem? (i := 38) rfl)) (ty := .int) (by decide) rfl rfl (g := (mkF m 30 #[.val (.ref a0), .val (.ref x), .val (.int kx.toInt32), s3] [(.int ((Int32.ofInt ((px : Nat) : Int)) + (1 : Int32))), (.ref a0), (.int (Int32.ofInt ((px : Nat) : Int))), (.ref t)])) rfl rfl (hb hby d19_30)
      have N26 := Fr.snoc X26 N0 g_a0
      have F27_Z : own_SS Z h26 n0 z1 fm := own_SS_keep SS (Keep.of_wr W26) (own_alS g_a0 own_al0)
      have F28_E : Exa Z h26 a0 "com/example/termwright/termwright/Spool$Record" := E0.wr W26
      have F29_bytes : Fld Z h26 a0 "com/example/termwright/termwright/Spool$Record" "bytes" "[B" (.ref t) := Fb.other W26 (Or.inr (slot_ne (Or.inl (hw _ (List.mem_of_getElem? (i := 45) rfl))) (Or.inl (hw _ (List.mem_of_getElem? (i := 110) rfl))) (by decide) (t := (.array .byte)) (t' := .int) (by decide) (by decide)))
      have F30_length : Fld Z h26 a0 "com/example/termwright/termwright/Spool$Record" "length" "I" (.int (Int32.ofInt ((l1 : Nat) : Int))) := Fl.other W26 (Or.inr (slot_ne (Or.inl (hw _ (List.mem_of_getElem? (i := 72) rfl))) (Or.inl (hw _ (List.mem_of_getElem? (i := 110) rfl))) (by decide) (t := .int) (t' := .int) (by decide) (by decide)))
      have F31_position : Fld Z h26 a0 "com/example/termwright/termwright/Spool$Record" "position" "I" (.int ((Int32.ofInt ((px : Nat) : Int)) + (1 : Int32))) := Fp.same W26
      have F32_P : own_Y .byte Z h26 t 256 g1 := own_Y_keep M0 (Keep.of_wr W26) (ninS (Ne.symm hne) nin0)
      have F33_P : own_Y .char Z h26 x n CH := own_Y_keep Yx23 (Keep.of_wr W26) (ninS (Ne.symm nx0) nin0)
      have Zs34 : n0 ≤ h26.size := Nat.le_trans Z1 (Keep.of_wr W26).1
      have Kc35 : Keep h0 h26 [a0] := K0.wr W26 (Or.inl (List.mem_of_getElem? (i := 0) rfl))
      refine own_st ?_ st26
      show own_G p.tables e below _ _ (T26.setTop (mkF m 33 #[.val (.ref a0), .val (.ref x), .val (.int kx.toInt32), s3] [(.int (Int32.ofInt ((px : Nat) : Int))), (.ref t)]))
      have ix36 := own_ix (j := (Int32.ofInt ((px : Nat) : Int))) (k := px) (n := 256) (own_ofI (by omega)) (by omega) (by decide)
      obtain ⟨cl36, Ar36, Sz36, G36⟩ := F32_P
      have hin36 : ¬ ((Int32.ofInt ((px : Nat) : Int)) < 0 ∨ cl36.slots.size ≤ ((Int32.ofInt ((px : Nat) : Int))).toNatClampNeg) := by rw [Sz36]; exact ix36.1
      have hat36 : cl36.slots[((Int32.ofInt ((px : Nat) : Int))).toNatClampNeg]? = some (.int (g1 px)) := by rw [ix36.2]; exact G36 _ (by omega)
      refine own_st ?_ (X26.baloadBytes hx (j := (Int32.ofInt ((px : Nat) : Int))) (v := (.int (g1 px))) (by rw [e26]; exact Ar36.1) (State.isArrayOf_alike hZ.alike Ar36.2.1) Ar36.2.2 hin36 hat36 (g := (mkF m 33 #[.val (.ref a0), .val (.ref x), .val (.int kx.toInt32), s3] [(.int (Int32.ofInt ((px : Nat) : Int))), (.ref t)])) rfl rfl (hb hby d19_33))
      have Yx36 : own_Y .byte Z h26 t 256 g1 := ⟨cl36, Ar36, Sz36, G36⟩
      show own_G p.tables e below _ _ (T26.setTop (mkF m 34 #[.val (.ref a0), .val (.ref x), .val (.int kx.toInt32), s3] [(.int (g1 px))]))
      refine own_st ?_ (fun t_ k_ => XS.sipush X26.here hx rfl (hb hby d19_34) k_)
      show own_G p.tables e below _ _ (T26.setTop (mkF m 37 #[.val (.ref a0), .val (.ref x), .val (.int kx.toInt32), s3] [(.int (255 : Int32)), (.int (g1 px))]))
      refine own_st ?_ (fun t_ k_ => XS.iand X26.here hx rfl (hb hby d19_37) rfl k_)
      show own_G p.tables e below _ _ (T26.setTop (mkF m 38 #[.val (.ref a0), .val (.ref x), .val (.int kx.toInt32), s3] [(.int ((g1 px) &&& (255 : Int32)))]))
      refine own_st ?_ (fun t_ k_ => XS.istoreNS X26.here hx rfl (hb hby d19_38) rfl (o := s3) rfl o_s3 k_)
      show own_G p.tables e below _ _ (T26.setTop (mkF m 39 #[.val (.ref a0), .val (.ref x), .val (.int kx.toInt32), .val (.int ((g1 px) &&& (255 : Int32)))] []))
      refine own_st ?_ (fun t_ k_ => XS.iloadN X26.here hx rfl (hb hby d19_39) rfl k_)
      show own_G p.tables e below _ _ (T26.setTop (mkF m 40 #[.val (.ref a0), .val (.ref x), .val (.int kx.toInt32), .val (.int ((g1 px) &&& (255 : Int32)))] [(.int ((g1 px) &&& (255 : Int32)))]))
      refine own_st ?_ (fun t_ k_ => XS.sipush X26.here hx rfl (hb hby d19_40) k_)
      show own_G p.tables e below _ _ (T26.setTop (mkF m 43 #[.val (.ref a0), .val (.ref x), .val (.int kx.toInt32), .val (.int ((g1 px) &&& (255 : Int32)))] [(.int (128 : Int32)), (.int ((g1 px) &&& (255 : Int32)))]))
      refine own_st ?_ (fun t_ k_ => XS.icmpNo X26.here hx rfl (hb hby d19_43) rfl (tlt (by rw [he]; exact (own_c1 hcc h128).1)).2.1 k_)
      show own_G p.tables e below _ _ (T26.setTop (mkF m 46 #[.val (.ref a0), .val (.ref x), .val (.int kx.toInt32), .val (.int ((g1 px) &&& (255 : Int32)))] []))
      refine own_st ?_ (fun t_ k_ => XS.aloadN X26.here hx rfl (hb hby d19_46) rfl rfl k_)
      show own_G p.tables e below _ _ (T26.setTop (mkF m 47 #[.val (.ref a0), .val (.ref x), .val (.int kx.toInt32), .val (.int ((g1 px) &&& (255 : Int32)))] [(.ref x)]))
      refine own_st ?_ (fun t_ k_ => XS.iloadN X26.here hx rfl (hb hby d19_47) rfl k_)
      show own_G p.tables e below _ _ (T26.setTop (mkF m 48 #[.val (.ref a0), .val (.ref x), .val (.int kx.toInt32), .val (.int ((g1 px) &&& (255 : Int32)))] [(.int kx.toInt32), (.ref x)]))
      refine own_st ?_ (fun t_ k_ => XS.iloadN X26.here hx rfl (hb hby d19_48) rfl k_)
      show own_G p.tables e below _ _ (T26.setTop (mkF m 49 #[.val (.ref a0), .val (.ref x), .val (.int kx.toInt32), .val (.int ((g1 px) &&& (255 : Int32)))] [(.int ((g1 px) &&& (255 : Int32))), (.int kx.toInt32), (.ref x)]))
      refine own_st ?_ (fun t_ k_ => XS.i2c X26.here hx rfl (hb hby d19_49) rfl k_)
      show own_G p.tables e below _ _ (T26.setTop (mkF m 50 #[.val (.ref a0), .val (.ref x), .val (.int kx.toInt32), .val (.int ((g1 px) &&& (255 : Int32)))] [(.int (((g1 px) &&& (255 : Int32)).toUInt32.toUInt16.toUInt32.toInt32)), (.int kx.toInt32), (.ref x)]))
      have ix37 := own_ix (j := kx.toInt32) (k := kx) (n := n) rfl (by have := (own_TT1 hTT).1; omega) (by omega)
      obtain ⟨cl37, Ar37, Sz37, G37⟩ := F33_P
      have hin37 : ¬ (kx.toInt32 < 0 ∨ cl37.slots.size ≤ (kx.toInt32).toNatClampNeg) := by rw [Sz37]; exact ix37.1
      obtain ⟨T37, h37, X37, e37, W37, st37⟩ := stC X26 hx hZ e26 Ar37 (j := kx.toInt32) hin37 (g := (mkF m 50 #[.val (.ref a0), .val (.ref x), .val (.int kx.toInt32), .val (.int ((g1 px) &&& (255 : Int32)))] [(.int (((g1 px) &&& (255 : Int32)).toUInt32.toUInt16.toUInt32.toInt32)), (.int kx.toInt32), (.ref x)])) rfl rfl (hb hby d19_50)
      have N37 := Fr.snoc X37 N26 g_x
      have Yo37 : own_Y .char Z h26 x n CH := ⟨cl37, Ar37, Sz37, G37⟩
      have F38_Z : own_SS Z h37 n0 z1 fm := own_SS_keep F27_Z (Keep.of_wr W37) (own_alS g_x own_al0)
      have F39_E : Exa Z h37 a0 "com/example/termwright/termwright/Spool$Record" := F28_E.wr W37
      have F40_bytes : Fld Z h37 a0 "com/example/termwright/termwright/Spool$Record" "bytes" "[B" (.ref t) := F29_bytes.other W37 (Or.inl nx0)
      have F41_length : Fld Z h37 a0 "com/example/termwright/termwright/Spool$Record" "length" "I" (.int (Int32.ofInt ((l1 : Nat) : Int))) := F30_length.other W37 (Or.inl nx0)
      have F42_position : Fld Z h37 a0 "com/example/termwright/termwright/Spool$Record" "position" "I" (.int ((Int32.ofInt ((px : Nat) : Int)) + (1 : Int32))) := F31_position.other W37 (Or.inl nx0)
      have F43_P : own_Y .byte Z h37 t 256 g1 := own_Y_keep Yx36 (Keep.of_wr W37) (ninS nxt nin0)
      have Zs44 : n0 ≤ h37.size := Nat.le_trans Zs34 (Keep.of_wr W37).1
      have Kc45 : Keep h0 h37 [a0] := Kc35.wr W37 (Or.inr sz_x)
      have Y37 : own_Y .char Z h37 x n (own_upd CH kx (nar .char (((g1 px) &&& (255 : Int32)).toUInt32.toUInt16.toUInt32.toInt32))) := own_Y_set Yo37 W37 ix37.2
      refine own_st ?_ st37
      show own_G p.tables e below _ _ (T37.setTop (mkF m 51 #[.val (.ref a0), .val (.ref x), .val (.int kx.toInt32), .val (.int ((g1 px) &&& (255 : Int32)))] []))
      refine own_st ?_ (fun t_ k_ => XS.goto X37.here hx rfl (pc0 := 51) (pc' := 149) rfl (hb hby d19_51) (by decide) (by decide) k_)
      show own_G p.tables e below _ _ (T37.setTop (mkF m 149 #[.val (.ref a0), .val (.ref x), .val (.int kx.toInt32), .val (.int ((g1 px) &&& (255 : Int32)))] []))
      refine own_st ?_ (fun t_ k_ => XS.iinc X37.here hx rfl (hb hby d19_149) rfl (l' := #[.val (.ref a0), .val (.ref x), .val (.int (kx.toInt32 + (1 : Int32))), .val (.int ((g1 px) &&& (255 : Int32)))]) rfl k_)
      show own_G p.tables e below _ _ (T37.setTop (mkF m 152 #[.val (.ref a0), .val (.ref x), .val (.int (kx.toInt32 + (1 : Int32))), .val (.int ((g1 px) &&& (255 : Int32)))] []))
      refine own_st ?_ (fun t_ k_ => XS.goto X37.here hx rfl (pc0 := 152) (pc' := 12) rfl (hb hby d19_152) (by decide) (by decide) k_)
      show own_G p.tables e below _ _ (T37.setTop (mkF m 12 #[.val (.ref a0), .val (.ref x), .val (.int (kx.toInt32 + (1 : Int32))), .val (.int ((g1 px) &&& (255 : Int32)))] []))
      have Fp46 : Fld Z h37 a0 "com/example/termwright/termwright/Spool$Record" "position" "I" (.int (Int32.ofInt ((px + 1 : Nat) : Int))) := by rw [← own_rinc]; exact F42_position
      simp only [own_inc]
      have eW : px + own_W (ch kx :: cs) = px + 1 + own_W cs := by rw [own_W, ew]; omega
      rw [eW]
      exact ih (kx := kx + 1) (s3 := .val (.int ((g1 px) &&& (255 : Int32)))) (px := px + 1) (CH := (own_upd CH kx (nar .char (((g1 px) &&& (255 : Int32)).toUInt32.toUInt16.toUInt32.toInt32)))) (own_TT1 hTT).2.2 (by omega) (by have := hE.2; rw [ew] at this; exact this) (own_stepC hCH hval) (Or.inr ⟨_, rfl, rfl⟩) nx0 nxt X37 N37 e37 Kc45 F38_Z F39_E F40_bytes F41_length Fp46 F43_P Y37 Zs44
    · by_cases h2048 : ch kx < 2048
      · have ew := (own_e2 (g := g1) (p := px) h128 h2048).2
        have he := (own_e2 (g := g1) (p := px) h128 h2048).1.mp hE.1
        have hcc := hC kx (own_TT1 hTT).1
        have hval : nar .char ((((((g1 px) &&& (255 : Int32)) &&& (31 : Int32)) <<< ((6 : Int32) &&& 31)) ||| ((g1 (px + 1)) &&& (63 : Int32))).toUInt32.toUInt16.toUInt32.toInt32) = ch kx := by rw [he.1, he.2]; exact (own_c2 hcc h128 h2048).2.2
        refine own_st ?_ (fun t_ k_ => XS.iloadN X0.here hx rfl (hb hby d19_12) rfl k_)
        show own_G p.tables e below _ _ (T0.setTop (mkF m 13 #[.val (.ref a0), .val (.ref x), .val (.int kx.toInt32), s3] [(.int kx.toInt32)]))
        refine own_st ?_ (fun t_ k_ => XS.aloadN X0.here hx rfl (hb hby d19_13) rfl rfl k_)
        show own_G p.tables e below _ _ (T0.setTop (mkF m 14 #[.val (.ref a0), .val (.ref x), .val (.int kx.toInt32), s3] [(.ref x), (.int kx.toInt32)]))
        obtain ⟨cl47, Ar47, Sz47, G47⟩ := Yc
        refine own_st ?_ (X0.arraylength hx (by rw [e0]; exact Ar47.1) (State.isArrayOf_alike hZ.alike Ar47.2.1) (g := (mkF m 14 #[.val (.ref a0), .val (.ref x), .val (.int kx.toInt32), s3] [(.ref x), (.int kx.toInt32)])) rfl rfl (hb hby d19_14))
        rw [Sz47]
        have Yx47 : own_Y .char Z h1 x n CH := ⟨cl47, Ar47, Sz47, G47⟩
        show own_G p.tables e below _ _ (T0.setTop (mkF m 15 #[.val (.ref a0), .val (.ref x), .val (.int kx.toInt32), s3] [(.int (n).toInt32), (.int kx.toInt32)]))
        refine own_st ?_ (fun t_ k_ => XS.icmpNo X0.here hx rfl (hb hby d19_15) rfl (tlt ((own_tlt (by have := (own_TT1 hTT).1; omega) (by omega)).mpr (own_TT1 hTT).1)).2.1 k_)
        show own_G p.tables e below _ _ (T0.setTop (mkF m 18 #[.val (.ref a0), .val (.ref x), .val (.int kx.toInt32), s3] []))
        refine own_st ?_ (fun t_ k_ => XS.aloadN X0.here hx rfl (hb hby d19_18) rfl rfl k_)
        show own_G p.tables e below _ _ (T0.setTop (mkF m 19 #[.val (.ref a0), .val (.ref x), .val (.int kx.toInt32), s3] [(.ref a0)]))
        obtain ⟨T48, X48, e48, st48⟩ := getF X0 hx hZ hown (host := "") (Or.inl (hw _ (List.mem_of_getElem? (i := 44) rfl))) Via.refl e0 Fb (g := (mkF m 19 #[.val (.ref a0), .val (.ref x), .val (.int kx.toInt32), s3] [(.ref a0)])) rfl rfl (hb hby d19_19)
        refine own_st ?_ st48
        show own_G p.tables e below _ _ (T48.setTop (mkF m 22 #[.val (.ref a0), .val (.ref x), .val (.int kx.toInt32), s3] [(.ref t)]))
        refine own_st ?_ (fun t_ k_ => XS.aloadN X48.here hx rfl (hb hby d19_22) rfl rfl k_)
        show own_G p.tables e below _ _ (T48.setTop (mkF m 23 #[.val (.ref a0), .val (.ref x), .val (.int kx.toInt32), s3] [(.ref a0), (.ref t)]))
        refine own_st ?_ (fun t_ k_ => XS.dup X48.here hx rfl (hb hby d19_23) rfl rfl k_)
        show own_G p.tables e below _ _ (T48.setTop (mkF m 24 #[.val (.ref a0), .val (.ref x), .val (.int kx.toInt32), s3] [(.ref a0), (.ref a0), (.ref t)]))
        obtain ⟨T49, X49, e49, st49⟩ := getF X48 hx hZ hown (host := "") (Or.inl (hw _ (List.mem_of_getElem? (i := 109) rfl))) Via.refl e48 Fp (g := (mkF m 24 #[.val (.ref a0), .val (.ref x), .val (.int kx.toInt32), s3] [(.ref a0), (.ref a0), (.ref t)])) rfl rfl (hb hby d19_24)
        refine own_st ?_ st49
        show own_G p.tables e below _ _ (T49.setTop (mkF m 27 #[.val (.ref a0), .val (.ref x), .val (.int kx.toInt32), s3] [(.int (Int32.ofInt ((px : Nat) : Int))), (.ref a0), (.ref t)]))
        refine own_st ?_ (fun t_ k_ => XS.dupX1 X49.here hx rfl (hb hby d19_27) rfl rfl rfl k_)
        show own_G p.tables e below _ _ (T49.setTop (mkF m 28 #[.val (.ref a0), .val (.ref x), .val (.int kx.toInt32), s3] [(.int (Int32.ofInt ((px : Nat) : Int))), (.ref a0), (.int (Int32.ofInt ((px : Nat) : Int))), (.ref t)]))
        refine own_st ?_ (fun t_ k_ => XS.iconst X49.here hx rfl (hb hby d19_28) k_)
        show own_G p.tables e below _ _ (T49.setTop (mkF m 29 #[.val (.ref a0), .val (.ref x), .val (.int kx.toInt32), s3] [(.int (1 : Int32)), (.int (Int32.ofInt ((px : Nat) : Int))), (.ref a0), (.int (Int32.ofInt ((px : Nat) : Int))), (.ref t)]))
        refine own_st ?_ (fun t_ k_ => XS.iadd X49.here hx rfl (hb hby d19_29) rfl k_)
        show own_G p.tables e below _ _ (T49.setTop (mkF m 30 #[.val (.ref a0), .val (.ref x), .val (.int kx.toInt32), s3] [(.int ((Int32.ofInt ((px : Nat) : Int)) + (1 : Int32))), (.ref a0), (.int (Int32.ofInt ((px : Nat) : Int))), (.ref t)]))
        obtain ⟨T50, h50, X50, e50, W50, st50⟩ := putF X49 hx hZ hown (host := "") (Or.inl (hw _ (List.mem_of_getElem? (i := 109) rfl))) Via.refl e49 Fp E0 (Or.inl (hw _ (List.mem_of_getElem? (i := 110) rfl))) (hw _ (List.mem_of_getElem? (i := 38) rfl)) (ty := .int) (by decide) rfl rfl (g := (mkF m 30 #[.val (.ref a0), .val (.ref x), .val (.int kx.toInt32), s3] [(.int ((Int32.ofInt ((px : Nat) : Int)) + (1 : Int32))), (.ref a0), (.int (Int32.ofInt ((px : Nat) : Int))), (.ref t)])) rfl rfl (hb hby d19_30)
        have N50 := Fr.snoc X50 N0 g_a0
        have F51_Z : own_SS Z h50 n0 z1 fm := own_SS_keep SS (Keep.of_wr W50) (own_alS g_a0 own_al0)
        have F52_E : Exa Z h50 a0 "com/example/termwright/termwright/Spool$Record" := E0.wr W50
        have F53_bytes : Fld Z h50 a0 "com/example/termwright/termwright/Spool$Record" "bytes" "[B" (.ref t) := Fb.other W50 (Or.inr (slot_ne (Or.inl (hw _ (List.mem_of_getElem? (i := 45) rfl))) (Or.inl (hw _ (List.mem_of_getElem? (i := 110) rfl))) (by decide) (t := (.array .byte)) (t' := .int) (by decide) (by decide)))
        have F54_length : Fld Z h50 a0 "com/example/termwright/termwright/Spool$Record" "length" "I" (.int (Int32.ofInt ((l1 : Nat) : Int))) := Fl.other W50 (Or.inr (slot_ne (Or.inl (hw _ (List.mem_of_getElem? (i := 72) rfl))) (Or.inl (hw _ (List.mem_of_getElem? (i := 110) rfl))) (by decide) (t := .int) (t' := .int) (by decide) (by decide)))
        have F55_position : Fld Z h50 a0 "com/example/termwright/termwright/Spool$Record" "position" "I" (.int ((Int32.ofInt ((px : Nat) : Int)) + (1 : Int32))) := Fp.same W50
        have F56_P : own_Y .byte Z h50 t 256 g1 := own_Y_keep M0 (Keep.of_wr W50) (ninS (Ne.symm hne) nin0)
        have F57_P : own_Y .char Z h50 x n CH := own_Y_keep Yx47 (Keep.of_wr W50) (ninS (Ne.symm nx0) nin0)
        have Zs58 : n0 ≤ h50.size := Nat.le_trans Z1 (Keep.of_wr W50).1
        have Kc59 : Keep h0 h50 [a0] := K0.wr W50 (Or.inl (List.mem_of_getElem? (i := 0) rfl))
        refine own_st ?_ st50
        show own_G p.tables e below _ _ (T50.setTop (mkF m 33 #[.val (.ref a0), .val (.ref x), .val (.int kx.toInt32), s3] [(.int (Int32.ofInt ((px : Nat) : Int))), (.ref t)]))
        have ix60 := own_ix (j := (Int32.ofInt ((px : Nat) : Int))) (k := px) (n := 256) (own_ofI (by omega)) (by omega) (by decide)
        obtain ⟨cl60, Ar60, Sz60, G60⟩ := F56_P
        have hin60 : ¬ ((Int32.ofInt ((px : Nat) : Int)) < 0 ∨ cl60.slots.size ≤ ((Int32.ofInt ((px : Nat) : Int))).toNatClampNeg) := by rw [Sz60]; exact ix60.1
        have hat60 : cl60.slots[((Int32.ofInt ((px : Nat) : Int))).toNatClampNeg]? = some (.int (g1 px)) := by rw [ix60.2]; exact G60 _ (by omega)
        refine own_st ?_ (X50.baloadBytes hx (j := (Int32.ofInt ((px : Nat) : Int))) (v := (.int (g1 px))) (by rw [e50]; exact Ar60.1) (State.isArrayOf_alike hZ.alike Ar60.2.1) Ar60.2.2 hin60 hat60 (g := (mkF m 33 #[.val (.ref a0), .val (.ref x), .val (.int kx.toInt32), s3] [(.int (Int32.ofInt ((px : Nat) : Int))), (.ref t)])) rfl rfl (hb hby d19_33))
        have Yx60 : own_Y .byte Z h50 t 256 g1 := ⟨cl60, Ar60, Sz60, G60⟩
        show own_G p.tables e below _ _ (T50.setTop (mkF m 34 #[.val (.ref a0), .val (.ref x), .val (.int kx.toInt32), s3] [(.int (g1 px))]))
        refine own_st ?_ (fun t_ k_ => XS.sipush X50.here hx rfl (hb hby d19_34) k_)
        show own_G p.tables e below _ _ (T50.setTop (mkF m 37 #[.val (.ref a0), .val (.ref x), .val (.int kx.toInt32), s3] [(.int (255 : Int32)), (.int (g1 px))]))
        refine own_st ?_ (fun t_ k_ => XS.iand X50.here hx rfl (hb hby d19_37) rfl k_)
        show own_G p.tables e below _ _ (T50.setTop (mkF m 38 #[.val (.ref a0), .val (.ref x), .val (.int kx.toInt32), s3] [(.int ((g1 px) &&& (255 : Int32)))]))
        refine own_st ?_ (fun t_ k_ => XS.istoreNS X50.here hx rfl (hb hby d19_38) rfl (o := s3) rfl o_s3 k_)
        show own_G p.tables e below _ _ (T50.setTop (mkF m 39 #[.val (.ref a0), .val (.ref x), .val (.int kx.toInt32), .val (.int ((g1 px) &&& (255 : Int32)))] []))
        refine own_st ?_ (fun t_ k_ => XS.iloadN X50.here hx rfl (hb hby d19_39) rfl k_)
        show own_G p.tables e below _ _ (T50.setTop (mkF m 40 #[.val (.ref a0), .val (.ref x), .val (.int kx.toInt32), .val (.int ((g1 px) &&& (255 : Int32)))] [(.int ((g1 px) &&& (255 : Int32)))]))
        refine own_st ?_ (fun t_ k_ => XS.sipush X50.here hx rfl (hb hby d19_40) k_)
        show own_G p.tables e below _ _ (T50.setTop (mkF m 43 #[.val (.ref a0), .val (.ref x), .val (.int kx.toInt32), .val (.int ((g1 px) &&& (255 : Int32)))] [(.int (128 : Int32)), (.int ((g1 px) &&& (255 : Int32)))]))
        refine own_st ?_ (fun t_ k_ => XS.icmpYes X50.here hx rfl (pc0 := 43) (pc' := 54) rfl (hb hby d19_43) rfl (flt (by rw [he.1]; exact (own_c2 hcc h128 h2048).1)).2.1 (by decide) (by decide) k_)
        show own_G p.tables e below _ _ (T50.setTop (mkF m 54 #[.val (.ref a0), .val (.ref x), .val (.int kx.toInt32), .val (.int ((g1 px) &&& (255 : Int32)))] []))
        refine own_st ?_ (fun t_ k_ => XS.iloadN X50.here hx rfl (hb hby d19_54) rfl k_)
        show own_G p.tables e below _ _ (T50.setTop (mkF m 55 #[.val (.ref a0), .val (.ref x), .val (.int kx.toInt32), .val (.int ((g1 px) &&& (255 : Int32)))] [(.int ((g1 px) &&& (255 : Int32)))]))
        refine own_st ?_ (fun t_ k_ => XS.sipush X50.here hx rfl (hb hby d19_55) k_)
        show own_G p.tables e below _ _ (T50.setTop (mkF m 58 #[.val (.ref a0), .val (.ref x), .val (.int kx.toInt32), .val (.int ((g1 px) &&& (255 : Int32)))] [(.int (224 : Int32)), (.int ((g1 px) &&& (255 : Int32)))]))
        refine own_st ?_ (fun t_ k_ => XS.icmpNo X50.here hx rfl (hb hby d19_58) rfl (tlt (by rw [he.1]; exact (own_c2 hcc h128 h2048).2.1)).2.1 k_)
        show own_G p.tables e below _ _ (T50.setTop (mkF m 61 #[.val (.ref a0), .val (.ref x), .val (.int kx.toInt32), .val (.int ((g1 px) &&& (255 : Int32)))] []))
        refine own_st ?_ (fun t_ k_ => XS.aloadN X50.here hx rfl (hb hby d19_61) rfl rfl k_)
        show own_G p.tables e below _ _ (T50.setTop (mkF m 62 #[.val (.ref a0), .val (.ref x), .val (.int kx.toInt32), .val (.int ((g1 px) &&& (255 : Int32)))] [(.ref x)]))
        refine own_st ?_ (fun t_ k_ => XS.iloadN X50.here hx rfl (hb hby d19_62) rfl k_)
        show own_G p.tables e below _ _ (T50.setTop (mkF m 63 #[.val (.ref a0), .val (.ref x), .val (.int kx.toInt32), .val (.int ((g1 px) &&& (255 : Int32)))] [(.int kx.toInt32), (.ref x)]))
        refine own_st ?_ (fun t_ k_ => XS.iloadN X50.here hx rfl (hb hby d19_63) rfl k_)
        show own_G p.tables e below _ _ (T50.setTop (mkF m 64 #[.val (.ref a0), .val (.ref x), .val (.int kx.toInt32), .val (.int ((g1 px) &&& (255 : Int32)))] [(.int ((g1 px) &&& (255 : Int32))), (.int kx.toInt32), (.ref x)]))
        refine own_st ?_ (fun t_ k_ => XS.bipush X50.here hx rfl (hb hby d19_64) k_)
        show own_G p.tables e below _ _ (T50.setTop (mkF m 66 #[.val (.ref a0), .val (.ref x), .val (.int kx.toInt32), .val (.int ((g1 px) &&& (255 : Int32)))] [(.int (31 : Int32)), (.int ((g1 px) &&& (255 : Int32))), (.int kx.toInt32), (.ref x)]))
        refine own_st ?_ (fun t_ k_ => XS.iand X50.here hx rfl (hb hby d19_66) rfl k_)
        show own_G p.tables e below _ _ (T50.setTop (mkF m 67 #[.val (.ref a0), .val (.ref x), .val (.int kx.toInt32), .val (.int ((g1 px) &&& (255 : Int32)))] [(.int (((g1 px) &&& (255 : Int32)) &&& (31 : Int32))), (.int kx.toInt32), (.ref x)]))
        refine own_st ?_ (fun t_ k_ => XS.bipush X50.here hx rfl (hb hby d19_67) k_)
        show own_G p.tables e below _ _ (T50.setTop (mkF m 69 #[.val (.ref a0), .val (.ref x), .val (.int kx.toInt32), .val (.int ((g1 px) &&& (255 : Int32)))] [(.int (6 : Int32)), (.int (((g1 px) &&& (255 : Int32)) &&& (31 : Int32))), (.int kx.toInt32), (.ref x)]))
        refine own_st ?_ (fun t_ k_ => XS.ishl X50.here hx rfl (hb hby d19_69) rfl k_)
        show own_G p.tables e below _ _ (T50.setTop (mkF m 70 #[.val (.ref a0), .val (.ref x), .val (.int kx.toInt32), .val (.int ((g1 px) &&& (255 : Int32)))] [(.int ((((g1 px) &&& (255 : Int32)) &&& (31 : Int32)) <<< ((6 : Int32) &&& 31))), (.int kx.toInt32), (.ref x)]))
        refine own_st ?_ (fun t_ k_ => XS.aloadN X50.here hx rfl (hb hby d19_70) rfl rfl k_)
        show own_G p.tables e below _ _ (T50.setTop (mkF m 71 #[.val (.ref a0), .val (.ref x), .val (.int kx.toInt32), .val (.int ((g1 px) &&& (255 : Int32)))] [(.ref a0), (.int ((((g1 px) &&& (255 : Int32)) &&& (31 : Int32)) <<< ((6 : Int32) &&& 31))), (.int kx.toInt32), (.ref x)]))
        obtain ⟨T61, X61, e61, st61⟩ := getF X50 hx hZ hown (host := "") (Or.inl (hw _ (List.mem_of_getElem? (i := 44) rfl))) Via.refl e50 F53_bytes (g := (mkF m 71 #[.val (.ref a0), .val (.ref x), .val (.int kx.toInt32), .val (.int ((g1 px) &&& (255 : Int32)))] [(.ref a0), (.int ((((g1 px) &&& (255 : Int32)) &&& (31 : Int32)) <<< ((6 : Int32) &&& 31))), (.int kx.toInt32), (.ref x)])) rfl rfl (hb hby d19_71)
        refine own_st ?_ st61
        show own_G p.tables e below _ _ (T61.setTop (mkF m 74 #[.val (.ref a0), .val (.ref x), .val (.int kx.toInt32), .val (.int ((g1 px) &&& (255 : Int32)))] [(.ref t), (.int ((((g1 px) &&& (255 : Int32)) &&& (31 : Int32)) <<< ((6 : Int32) &&& 31))), (.int kx.toInt32), (.ref x)]))
        refine own_st ?_ (fun t_ k_ => XS.aloadN X61.here hx rfl (hb hby d19_74) rfl rfl k_)
        show own_G p.tables e below _ _ (T61.setTop (mkF m 75 #[.val (.ref a0), .val (.ref x), .val (.int kx.toInt32), .val (.int ((g1 px) &&& (255 : Int32)))] [(.ref a0), (.ref t), (.int ((((g1 px) &&& (255 : Int32)) &&& (31 : Int32)) <<< ((6 : Int32) &&& 31))), (.int kx.toInt32), (.ref x)]))
        refine own_st ?_ (fun t_ k_ => XS.dup X61.here hx rfl (hb hby d19_75) rfl rfl k_)
        show own_G p.tables e below _ _ (T61.setTop (mkF m 76 #[.val (.ref a0), .val (.ref x), .val (.int kx.toInt32), .val (.int ((g1 px) &&& (255 : Int32)))] [(.ref a0), (.ref a0), (.ref t), (.int ((((g1 px) &&& (255 : Int32)) &&& (31 : Int32)) <<< ((6 : Int32) &&& 31))), (.int kx.toInt32), (.ref x)]))
        obtain ⟨T62, X62, e62, st62⟩ := getF X61 hx hZ hown (host := "") (Or.inl (hw _ (List.mem_of_getElem? (i := 109) rfl))) Via.refl e61 F55_position (g := (mkF m 76 #[.val (.ref a0), .val (.ref x), .val (.int kx.toInt32), .val (.int ((g1 px) &&& (255 : Int32)))] [(.ref a0), (.ref a0), (.ref t), (.int ((((g1 px) &&& (255 : Int32)) &&& (31 : Int32)) <<< ((6 : Int32) &&& 31))), (.int kx.toInt32), (.ref x)])) rfl rfl (hb hby d19_76)
        refine own_st ?_ st62
        show own_G p.tables e below _ _ (T62.setTop (mkF m 79 #[.val (.ref a0), .val (.ref x), .val (.int kx.toInt32), .val (.int ((g1 px) &&& (255 : Int32)))] [(.int ((Int32.ofInt ((px : Nat) : Int)) + (1 : Int32))), (.ref a0), (.ref t), (.int ((((g1 px) &&& (255 : Int32)) &&& (31 : Int32)) <<< ((6 : Int32) &&& 31))), (.int kx.toInt32), (.ref x)]))
        refine own_st ?_ (fun t_ k_ => XS.dupX1 X62.here hx rfl (hb hby d19_79) rfl rfl rfl k_)
        show own_G p.tables e below _ _ (T62.setTop (mkF m 80 #[.val (.ref a0), .val (.ref x), .val (.int kx.toInt32), .val (.int ((g1 px) &&& (255 : Int32)))] [(.int ((Int32.ofInt ((px : Nat) : Int)) + (1 : Int32))), (.ref a0), (.int ((Int32.ofInt ((px : Nat) : Int)) + (1 : Int32))), (.ref t), (.int ((((g1 px) &&& (255 : Int32)) &&& (31 : Int32)) <<< ((6 : Int32) &&& 31))), (.int kx.toInt32), (.ref x)]))
        refine own_st ?_ (fun t_ k_ => XS.iconst X62.here hx rfl (hb hby d19_80) k_)
        show own_G p.tables e below _ _ (T62.setTop (mkF m 81 #[.val (.ref a0), .val (.ref x), .val (.int kx.toInt32), .val (.int ((g1 px) &&& (255 : Int32)))] [(.int (1 : Int32)), (.int ((Int32.ofInt ((px : Nat) : Int)) + (1 : Int32))), (.ref a0), (.int ((Int32.ofInt ((px : Nat) : Int)) + (1 : Int32))), (.ref t), (.int ((((g1 px) &&& (255 : Int32)) &&& (31 : Int32)) <<< ((6 : Int32) &&& 31))), (.int kx.toInt32), (.ref x)]))
        refine own_st ?_ (fun t_ k_ => XS.iadd X62.here hx rfl (hb hby d19_81) rfl k_)
        show own_G p.tables e below _ _ (T62.setTop (mkF m 82 #[.val (.ref a0), .val (.ref x), .val (.int kx.toInt32), .val (.int ((g1 px) &&& (255 : Int32)))] [(.int (((Int32.ofInt ((px : Nat) : Int)) + (1 : Int32)) + (1 : Int32))), (.ref a0), (.int ((Int32.ofInt ((px : Nat) : Int)) + (1 : Int32))), (.ref t), (.int ((((g1 px) &&& (255 : Int32)) &&& (31 : Int32)) <<< ((6 : Int32) &&& 31))), (.int kx.toInt32), (.ref x)]))
        obtain ⟨T63, h63, X63, e63, W63, st63⟩ := putF X62 hx hZ hown (host := "") (Or.inl (hw _ (List.mem_of_getElem? (i := 109) rfl))) Via.refl e62 F55_position F52_E (Or.inl (hw _ (List.mem_of_getElem? (i := 110) rfl))) (hw _ (List.mem_of_getElem? (i := 38) rfl)) (ty := .int) (by decide) rfl rfl (g := (mkF m 82 #[.val (.ref a0), .val (.ref x), .val (.int kx.toInt32), .val (.int ((g1 px) &&& (255 : Int32)))] [(.int (((Int32.ofInt ((px : Nat) : Int)) + (1 : Int32)) + (1 : Int32))), (.ref a0), (.int ((Int32.ofInt ((px : Nat) : Int)) + (1 : Int32))), (.ref t), (.int ((((g1 px) &&& (255 : Int32)) &&& (31 : Int32)) <<< ((6 : Int32) &&& 31))), (.int kx.toInt32), (.ref x)])) rfl rfl (hb hby d19_82)
        have N63 := Fr.snoc X63 N50 g_a0
        have F64_Z : own_SS Z h63 n0 z1 fm := own_SS_keep F51_Z (Keep.of_wr W63) (own_alS g_a0 own_al0)
        have F65_E : Exa Z h63 a0 "com/example/termwright/termwright/Spool$Record" := F52_E.wr W63
        have F66_bytes : Fld Z h63 a0 "com/example/termwright/termwright/Spool$Record" "bytes" "[B" (.ref t) := F53_bytes.other W63 (Or.inr (slot_ne (Or.inl (hw _ (List.mem_of_getElem? (i := 45) rfl))) (Or.inl (hw _ (List.mem_of_getElem? (i := 110) rfl))) (by decide) (t := (.array .byte)) (t' := .int) (by decide) (by decide)))
        have F67_length : Fld Z h63 a0 "com/example/termwright/termwright/Spool$Record" "length" "I" (.int (Int32.ofInt ((l1 : Nat) : Int))) := F54_length.other W63 (Or.inr (slot_ne (Or.inl (hw _ (List.mem_of_getElem? (i := 72) rfl))) (Or.inl (hw _ (List.mem_of_getElem? (i := 110) rfl))) (by decide) (t := .int) (t' := .int) (by decide) (by decide)))
        have F68_position : Fld Z h63 a0 "com/example/termwright/termwright/Spool$Record" "position" "I" (.int (((Int32.ofInt ((px : Nat) : Int)) + (1 : Int32)) + (1 : Int32))) := F55_position.same W63
        have F69_P : own_Y .byte Z h63 t 256 g1 := own_Y_keep Yx60 (Keep.of_wr W63) (ninS (Ne.symm hne) nin0)
        have F70_P : own_Y .char Z h63 x n CH := own_Y_keep F57_P (Keep.of_wr W63) (ninS (Ne.symm nx0) nin0)
        have Zs71 : n0 ≤ h63.size := Nat.le_trans Zs58 (Keep.of_wr W63).1
        have Kc72 : Keep h0 h63 [a0] := Kc59.wr W63 (Or.inl (List.mem_of_getElem? (i := 0) rfl))
        refine own_st ?_ st63
        show own_G p.tables e below _ _ (T63.setTop (mkF m 85 #[.val (.ref a0), .val (.ref x), .val (.int kx.toInt32), .val (.int ((g1 px) &&& (255 : Int32)))] [(.int ((Int32.ofInt ((px : Nat) : Int)) + (1 : Int32))), (.ref t), (.int ((((g1 px) &&& (255 : Int32)) &&& (31 : Int32)) <<< ((6 : Int32) &&& 31))), (.int kx.toInt32), (.ref x)]))
        have ix73 := own_ix (j := ((Int32.ofInt ((px : Nat) : Int)) + (1 : Int32))) (k := px + 1) (n := 256) (by rw [own_ofI (by omega)]; exact own_inc _) (by omega) (by decide)
        obtain ⟨cl73, Ar73, Sz73, G73⟩ := F69_P
        have hin73 : ¬ (((Int32.ofInt ((px : Nat) : Int)) + (1 : Int32)) < 0 ∨ cl73.slots.size ≤ (((Int32.ofInt ((px : Nat) : Int)) + (1 : Int32))).toNatClampNeg) := by rw [Sz73]; exact ix73.1
        have hat73 : cl73.slots[(((Int32.ofInt ((px : Nat) : Int)) + (1 : Int32))).toNatClampNeg]? = some (.int (g1 (px + 1))) := by rw [ix73.2]; exact G73 _ (by omega)
        refine own_st ?_ (X63.baloadBytes hx (j := ((Int32.ofInt ((px : Nat) : Int)) + (1 : Int32))) (v := (.int (g1 (px + 1)))) (by rw [e63]; exact Ar73.1) (State.isArrayOf_alike hZ.alike Ar73.2.1) Ar73.2.2 hin73 hat73 (g := (mkF m 85 #[.val (.ref a0), .val (.ref x), .val (.int kx.toInt32), .val (.int ((g1 px) &&& (255 : Int32)))] [(.int ((Int32.ofInt ((px : Nat) : Int)) + (1 : Int32))), (.ref t), (.int ((((g1 px) &&& (255 : Int32)) &&& (31 : Int32)) <<< ((6 : Int32) &&& 31))), (.int kx.toInt32), (.ref x)])) rfl rfl (hb hby d19_85))
        have Yx73 : own_Y .byte Z h63 t 256 g1 := ⟨cl73, Ar73, Sz73, G73⟩
        show own_G p.tables e below _ _ (T63.setTop (mkF m 86 #[.val (.ref a0), .val (.ref x), .val (.int kx.toInt32), .val (.int ((g1 px) &&& (255 : Int32)))] [(.int (g1 (px + 1))), (.int ((((g1 px) &&& (255 : Int32)) &&& (31 : Int32)) <<< ((6 : Int32) &&& 31))), (.int kx.toInt32), (.ref x)]))
        refine own_st ?_ (fun t_ k_ => XS.bipush X63.here hx rfl (hb hby d19_86) k_)
        show own_G p.tables e below _ _ (T63.setTop (mkF m 88 #[.val (.ref a0), .val (.ref x), .val (.int kx.toInt32), .val (.int ((g1 px) &&& (255 : Int32)))] [(.int (63 : Int32)), (.int (g1 (px + 1))), (.int ((((g1 px) &&& (255 : Int32)) &&& (31 : Int32)) <<< ((6 : Int32) &&& 31))), (.int kx.toInt32), (.ref x)]))
        refine own_st ?_ (fun t_ k_ => XS.iand X63.here hx rfl (hb hby d19_88) rfl k_)
        show own_G p.tables e below _ _ (T63.setTop (mkF m 89 #[.val (.ref a0), .val (.ref x), .val (.int kx.toInt32), .val (.int ((g1 px) &&& (255 : Int32)))] [(.int ((g1 (px + 1)) &&& (63 : Int32))), (.int ((((g1 px) &&& (255 : Int32)) &&& (31 : Int32)) <<< ((6 : Int32) &&& 31))), (.int kx.toInt32), (.ref x)]))
        refine own_st ?_ (fun t_ k_ => XS.ior X63.here hx rfl (hb hby d19_89) rfl k_)
        show own_G p.tables e below _ _ (T63.setTop (mkF m 90 #[.val (.ref a0), .val (.ref x), .val (.int kx.toInt32), .val (.int ((g1 px) &&& (255 : Int32)))] [(.int (((((g1 px) &&& (255 : Int32)) &&& (31 : Int32)) <<< ((6 : Int32) &&& 31)) ||| ((g1 (px + 1)) &&& (63 : Int32)))), (.int kx.toInt32), (.ref x)]))
        refine own_st ?_ (fun t_ k_ => XS.i2c X63.here hx rfl (hb hby d19_90) rfl k_)
        show own_G p.tables e below _ _ (T63.setTop (mkF m 91 #[.val (.ref a0), .val (.ref x), .val (.int kx.toInt32), .val (.int ((g1 px) &&& (255 : Int32)))] [(.int ((((((g1 px) &&& (255 : Int32)) &&& (31 : Int32)) <<< ((6 : Int32) &&& 31)) ||| ((g1 (px + 1)) &&& (63 : Int32))).toUInt32.toUInt16.toUInt32.toInt32)), (.int kx.toInt32), (.ref x)]))
        have ix74 := own_ix (j := kx.toInt32) (k := kx) (n := n) rfl (by have := (own_TT1 hTT).1; omega) (by omega)
        obtain ⟨cl74, Ar74, Sz74, G74⟩ := F70_P
        have hin74 : ¬ (kx.toInt32 < 0 ∨ cl74.slots.size ≤ (kx.toInt32).toNatClampNeg) := by rw [Sz74]; exact ix74.1
        obtain ⟨T74, h74, X74, e74, W74, st74⟩ := stC X63 hx hZ e63 Ar74 (j := kx.toInt32) hin74 (g := (mkF m 91 #[.val (.ref a0), .val (.ref x), .val (.int kx.toInt32), .val (.int ((g1 px) &&& (255 : Int32)))] [(.int ((((((g1 px) &&& (255 : Int32)) &&& (31 : Int32)) <<< ((6 : Int32) &&& 31)) ||| ((g1 (px + 1)) &&& (63 : Int32))).toUInt32.toUInt16.toUInt32.toInt32)), (.int kx.toInt32), (.ref x)])) rfl rfl (hb hby d19_91)
        have N74 := Fr.snoc X74 N63 g_x
        have Yo74 : own_Y .char Z h63 x n CH := ⟨cl74, Ar74, Sz74, G74⟩
        have F75_Z : own_SS Z h74 n0 z1 fm := own_SS_keep F64_Z (Keep.of_wr W74) (own_alS g_x own_al0)
        have F76_E : Exa Z h74 a0 "com/example/termwright/termwright/Spool$Record" := F65_E.wr W74
        have F77_bytes : Fld Z h74 a0 "com/example/termwright/termwright/Spool$Record" "bytes" "[B" (.ref t) := F66_bytes.other W74 (Or.inl nx0)
        have F78_length : Fld Z h74 a0 "com/example/termwright/termwright/Spool$Record" "length" "I" (.int (Int32.ofInt ((l1 : Nat) : Int))) := F67_length.other W74 (Or.inl nx0)
        have F79_position : Fld Z h74 a0 "com/example/termwright/termwright/Spool$Record" "position" "I" (.int (((Int32.ofInt ((px : Nat) : Int)) + (1 : Int32)) + (1 : Int32))) := F68_position.other W74 (Or.inl nx0)
        have F80_P : own_Y .byte Z h74 t 256 g1 := own_Y_keep Yx73 (Keep.of_wr W74) (ninS nxt nin0)
        have Zs81 : n0 ≤ h74.size := Nat.le_trans Zs71 (Keep.of_wr W74).1
        have Kc82 : Keep h0 h74 [a0] := Kc72.wr W74 (Or.inr sz_x)
        have Y74 : own_Y .char Z h74 x n (own_upd CH kx (nar .char ((((((g1 px) &&& (255 : Int32)) &&& (31 : Int32)) <<< ((6 : Int32) &&& 31)) ||| ((g1 (px + 1)) &&& (63 : Int32))).toUInt32.toUInt16.toUInt32.toInt32))) := own_Y_set Yo74 W74 ix74.2
        refine own_st ?_ st74
        show own_G p.tables e below _ _ (T74.setTop (mkF m 92 #[.val (.ref a0), .val (.ref x), .val (.int kx.toInt32), .val (.int ((g1 px) &&& (255 : Int32)))] []))
        refine own_st ?_ (fun t_ k_ => XS.goto X74.here hx rfl (pc0 := 92) (pc' := 149) rfl (hb hby d19_92) (by decide) (by decide) k_)
        show own_G p.tables e below _ _ (T74.setTop (mkF m 149 #[.val (.ref a0), .val (.ref x), .val (.int kx.toInt32), .val (.int ((g1 px) &&& (255 : Int32)))] []))
        refine own_st ?_ (fun t_ k_ => XS.iinc X74.here hx rfl (hb hby d19_149) rfl (l' := #[.val (.ref a0), .val (.ref x), .val (.int (kx.toInt32 + (1 : Int32))), .val (.int ((g1 px) &&& (255 : Int32)))]) rfl k_)
        show own_G p.tables e below _ _ (T74.setTop (mkF m 152 #[.val (.ref a0), .val (.ref x), .val (.int (kx.toInt32 + (1 : Int32))), .val (.int ((g1 px) &&& (255 : Int32)))] []))
        refine own_st ?_ (fun t_ k_ => XS.goto X74.here hx rfl (pc0 := 152) (pc' := 12) rfl (hb hby d19_152) (by decide) (by decide) k_)
        show own_G p.tables e below _ _ (T74.setTop (mkF m 12 #[.val (.ref a0), .val (.ref x), .val (.int (kx.toInt32 + (1 : Int32))), .val (.int ((g1 px) &&& (255 : Int32)))] []))
        have Fp83 : Fld Z h74 a0 "com/example/termwright/termwright/Spool$Record" "position" "I" (.int (Int32.ofInt ((px + 1 + 1 : Nat) : Int))) := by rw [← own_rinc, ← own_rinc]; exact F79_position
        simp only [own_inc]
        have eW : px + own_W (ch kx :: cs) = px + 1 + 1 + own_W cs := by rw [own_W, ew]; omega
        rw [eW]
        exact ih (kx := kx + 1) (s3 := .val (.int ((g1 px) &&& (255 : Int32)))) (px := px + 1 + 1) (CH := (own_upd CH kx (nar .char ((((((g1 px) &&& (255 : Int32)) &&& (31 : Int32)) <<< ((6 : Int32) &&& 31)) ||| ((g1 (px + 1)) &&& (63 : Int32))).toUInt32.toUInt16.toUInt32.toInt32)))) (own_TT1 hTT).2.2 (by omega) (by have := hE.2; rw [ew] at this; exact this) (own_stepC hCH hval) (Or.inr ⟨_, rfl, rfl⟩) nx0 nxt X74 N74 e74 Kc82 F75_Z F76_E F77_bytes F78_length Fp83 F80_P Y74 Zs81
      · have ew := (own_e3 (g := g1) (p := px) h128 h2048).2
        have he := (own_e3 (g := g1) (p := px) h128 h2048).1.mp hE.1
        have hcc := hC kx (own_TT1 hTT).1
        have hval : nar .char (((((((g1 px) &&& (255 : Int32)) &&& (15 : Int32)) <<< ((12 : Int32) &&& 31)) ||| (((g1 (px + 1)) &&& (63 : Int32)) <<< ((6 : Int32) &&& 31))) ||| ((g1 (px + 2)) &&& (63 : Int32))).toUInt32.toUInt16.toUInt32.toInt32) = ch kx := by rw [he.1, he.2.1, he.2.2]; exact (own_c3 hcc h2048).2.2
        refine own_st ?_ (fun t_ k_ => XS.iloadN X0.here hx rfl (hb hby d19_12) rfl k_)
        show own_G p.tables e below _ _ (T0.setTop (mkF m 13 #[.val (.ref a0), .val (.ref x), .val (.int kx.toInt32), s3] [(.int kx.toInt32)]))
        refine own_st ?_ (fun t_ k_ => XS.aloadN X0.here hx rfl (hb hby d19_13) rfl rfl k_)
        show own_G p.tables e below _ _ (T0.setTop (mkF m 14 #[.val (.ref a0), .val (.ref x), .val (.int kx.toInt32), s3] [(.ref x), (.int kx.toInt32)]))
        obtain ⟨cl84, Ar84, Sz84, G84⟩ := Yc
        refine own_st ?_ (X0.arraylength hx (by rw [e0]; exact Ar84.1) (State.isArrayOf_alike hZ.alike Ar84.2.1) (g := (mkF m 14 #[.val (.ref a0), .val (.ref x), .val (.int kx.toInt32), s3] [(.ref x), (.int kx.toInt32)])) rfl rfl (hb hby d19_14))
        rw [Sz84]
        have Yx84 : own_Y .char Z h1 x n CH := ⟨cl84, Ar84, Sz84, G84⟩
        show own_G p.tables e below _ _ (T0.setTop (mkF m 15 #[.val (.ref a0), .val (.ref x), .val (.int kx.toInt32), s3] [(.int (n).toInt32), (.int kx.toInt32)]))
        refine own_st ?_ (fun t_ k_ => XS.icmpNo X0.here hx rfl (hb hby d19_15) rfl (tlt ((own_tlt (by have := (own_TT1 hTT).1; omega) (by omega)).mpr (own_TT1 hTT).1)).2.1 k_)
        show own_G p.tables e below _ _ (T0.setTop (mkF m 18 #[.val (.ref a0), .val (.ref x), .val (.int kx.toInt32), s3] []))
        refine own_st ?_ (fun t_ k_ => XS.aloadN X0.here hx rfl (hb hby d19_18) rfl rfl k_)
        show own_G p.tables e below _ _ (T0.setTop (mkF m 19 #[.val (.ref a0), .val (.ref x), .val (.int kx.toInt32), s3] [(.ref a0)]))
        obtain ⟨T85, X85, e85, st85⟩ := getF X0 hx hZ hown (host := "") (Or.inl (hw _ (List.mem_of_getElem? (i := 44) rfl))) Via.refl e0 Fb (g := (mkF m 19 #[.val (.ref a0), .val (.ref x), .val (.int kx.toInt32), s3] [(.ref a0)])) rfl rfl (hb hby d19_19)
        refine own_st ?_ st85
        show own_G p.tables e below _ _ (T85.setTop (mkF m 22 #[.val (.ref a0), .val (.ref x), .val (.int kx.toInt32), s3] [(.ref t)]))
        refine own_st ?_ (fun t_ k_ => XS.aloadN X85.here hx rfl (hb hby d19_22) rfl rfl k_)
        show own_G p.tables e below _ _ (T85.setTop (mkF m 23 #[.val (.ref a0), .val (.ref x), .val (.int kx.toInt32), s3] [(.ref a0), (.ref t)]))
        refine own_st ?_ (fun t_ k_ => XS.dup X85.here hx rfl (hb hby d19_23) rfl rfl k_)
        show own_G p.tables e below _ _ (T85.setTop (mkF m 24 #[.val (.ref a0), .val (.ref x), .val (.int kx.toInt32), s3] [(.ref a0), (.ref a0), (.ref t)]))
        obtain ⟨T86, X86, e86, st86⟩ := getF X85 hx hZ hown (host := "") (Or.inl (hw _ (List.mem_of_getElem? (i := 109) rfl))) Via.refl e85 Fp (g := (mkF m 24 #[.val (.ref a0), .val (.ref x), .val (.int kx.toInt32), s3] [(.ref a0), (.ref a0), (.ref t)])) rfl rfl (hb hby d19_24)
        refine own_st ?_ st86
        show own_G p.tables e below _ _ (T86.setTop (mkF m 27 #[.val (.ref a0), .val (.ref x), .val (.int kx.toInt32), s3] [(.int (Int32.ofInt ((px : Nat) : Int))), (.ref a0), (.ref t)]))
        refine own_st ?_ (fun t_ k_ => XS.dupX1 X86.here hx rfl (hb hby d19_27) rfl rfl rfl k_)
        show own_G p.tables e below _ _ (T86.setTop (mkF m 28 #[.val (.ref a0), .val (.ref x), .val (.int kx.toInt32), s3] [(.int (Int32.ofInt ((px : Nat) : Int))), (.ref a0), (.int (Int32.ofInt ((px : Nat) : Int))), (.ref t)]))
        refine own_st ?_ (fun t_ k_ => XS.iconst X86.here hx rfl (hb hby d19_28) k_)
        show own_G p.tables e below _ _ (T86.setTop (mkF m 29 #[.val (.ref a0), .val (.ref x), .val (.int kx.toInt32), s3] [(.int (1 : Int32)), (.int (Int32.ofInt ((px : Nat) : Int))), (.ref a0), (.int (Int32.ofInt ((px : Nat) : Int))), (.ref t)]))
        refine own_st ?_ (fun t_ k_ => XS.iadd X86.here hx rfl (hb hby d19_29) rfl k_)
        show own_G p.tables e below _ _ (T86.setTop (mkF m 30 #[.val (.ref a0), .val (.ref x), .val (.int kx.toInt32), s3] [(.int ((Int32.ofInt ((px : Nat) : Int)) + (1 : Int32))), (.ref a0), (.int (Int32.ofInt ((px : Nat) : Int))), (.ref t)]))
        obtain ⟨T87, h87, X87, e87, W87, st87⟩ := putF X86 hx hZ hown (host := "") (Or.inl (hw _ (List.mem_of_getElem? (i := 109) rfl))) Via.refl e86 Fp E0 (Or.inl (hw _ (List.mem_of_getElem? (i := 110) rfl))) (hw _ (List.mem_of_getElem? (i := 38) rfl)) (ty := .int) (by decide) rfl rfl (g := (mkF m 30 #[.val (.ref a0), .val (.ref x), .val (.int kx.toInt32), s3] [(.int ((Int32.ofInt ((px : Nat) : Int)) + (1 : Int32))), (.ref a0), (.int (Int32.ofInt ((px : Nat) : Int))), (.ref t)])) rfl rfl (hb hby d19_30)
        have N87 := Fr.snoc X87 N0 g_a0
        have F88_Z : own_SS Z h87 n0 z1 fm := own_SS_keep SS (Keep.of_wr W87) (own_alS g_a0 own_al0)
        have F89_E : Exa Z h87 a0 "com/example/termwright/termwright/Spool$Record" := E0.wr W87
        have F90_bytes : Fld Z h87 a0 "com/example/termwright/termwright/Spool$Record" "bytes" "[B" (.ref t) := Fb.other W87 (Or.inr (slot_ne (Or.inl (hw _ (List.mem_of_getElem? (i := 45) rfl))) (Or.inl (hw _ (List.mem_of_getElem? (i := 110) rfl))) (by decide) (t := (.array .byte)) (t' := .int) (by decide) (by decide)))
        have F91_length : Fld Z h87 a0 "com/example/termwright/termwright/Spool$Record" "length" "I" (.int (Int32.ofInt ((l1 : Nat) : Int))) := Fl.other W87 (Or.inr (slot_ne (Or.inl (hw _ (List.mem_of_getElem? (i := 72) rfl))) (Or.inl (hw _ (List.mem_of_getElem? (i := 110) rfl))) (by decide) (t := .int) (t' := .int) (by decide) (by decide)))
        have F92_position : Fld Z h87 a0 "com/example/termwright/termwright/Spool$Record" "position" "I" (.int ((Int32.ofInt ((px : Nat) : Int)) + (1 : Int32))) := Fp.same W87
        have F93_P : own_Y .byte Z h87 t 256 g1 := own_Y_keep M0 (Keep.of_wr W87) (ninS (Ne.symm hne) nin0)
        have F94_P : own_Y .char Z h87 x n CH := own_Y_keep Yx84 (Keep.of_wr W87) (ninS (Ne.symm nx0) nin0)
        have Zs95 : n0 ≤ h87.size := Nat.le_trans Z1 (Keep.of_wr W87).1
        have Kc96 : Keep h0 h87 [a0] := K0.wr W87 (Or.inl (List.mem_of_getElem? (i := 0) rfl))
        refine own_st ?_ st87
        show own_G p.tables e below _ _ (T87.setTop (mkF m 33 #[.val (.ref a0), .val (.ref x), .val (.int kx.toInt32), s3] [(.int (Int32.ofInt ((px : Nat) : Int))), (.ref t)]))
        have ix97 := own_ix (j := (Int32.ofInt ((px : Nat) : Int))) (k := px) (n := 256) (own_ofI (by omega)) (by omega) (by decide)
        obtain ⟨cl97, Ar97, Sz97, G97⟩ := F93_P
        have hin97 : ¬ ((Int32.ofInt ((px : Nat) : Int)) < 0 ∨ cl97.slots.size ≤ ((Int32.ofInt ((px : Nat) : Int))).toNatClampNeg) := by rw [Sz97]; exact ix97.1
        have hat97 : cl97.slots[((Int32.ofInt ((px : Nat) : Int))).toNatClampNeg]? = some (.int (g1 px)) := by rw [ix97.2]; exact G97 _ (by omega)
        refine own_st ?_ (X87.baloadBytes hx (j := (Int32.ofInt ((px : Nat) : Int))) (v := (.int (g1 px))) (by rw [e87]; exact Ar97.1) (State.isArrayOf_alike hZ.alike Ar97.2.1) Ar97.2.2 hin97 hat97 (g := (mkF m 33 #[.val (.ref a0), .val (.ref x), .val (.int kx.toInt32), s3] [(.int (Int32.ofInt ((px : Nat) : Int))), (.ref t)])) rfl rfl (hb hby d19_33))
        have Yx97 : own_Y .byte Z h87 t 256 g1 := ⟨cl97, Ar97, Sz97, G97⟩
        show own_G p.tables e below _ _ (T87.setTop (mkF m 34 #[.val (.ref a0), .val (.ref x), .val (.int kx.toInt32), s3] [(.int (g1 px))]))
        refine own_st ?_ (fun t_ k_ => XS.sipush X87.here hx rfl (hb hby d19_34) k_)
        show own_G p.tables e below _ _ (T87.setTop (mkF m 37 #[.val (.ref a0), .val (.ref x), .val (.int kx.toInt32), s3] [(.int (255 : Int32)), (.int (g1 px))]))
        refine own_st ?_ (fun t_ k_ => XS.iand X87.here hx rfl (hb hby d19_37) rfl k_)
        show own_G p.tables e below _ _ (T87.setTop (mkF m 38 #[.val (.ref a0), .val (.ref x), .val (.int kx.toInt32), s3] [(.int ((g1 px) &&& (255 : Int32)))]))
        refine own_st ?_ (fun t_ k_ => XS.istoreNS X87.here hx rfl (hb hby d19_38) rfl (o := s3) rfl o_s3 k_)
        show own_G p.tables e below _ _ (T87.setTop (mkF m 39 #[.val (.ref a0), .val (.ref x), .val (.int kx.toInt32), .val (.int ((g1 px) &&& (255 : Int32)))] []))
        refine own_st ?_ (fun t_ k_ => XS.iloadN X87.here hx rfl (hb hby d19_39) rfl k_)
        show own_G p.tables e below _ _ (T87.setTop (mkF m 40 #[.val (.ref a0), .val (.ref x), .val (.int kx.toInt32), .val (.int ((g1 px) &&& (255 : Int32)))] [(.int ((g1 px) &&& (255 : Int32)))]))
        refine own_st ?_ (fun t_ k_ => XS.sipush X87.here hx rfl (hb hby d19_40) k_)
        show own_G p.tables e below _ _ (T87.setTop (mkF m 43 #[.val (.ref a0), .val (.ref x), .val (.int kx.toInt32), .val (.int ((g1 px) &&& (255 : Int32)))] [(.int (128 : Int32)), (.int ((g1 px) &&& (255 : Int32)))]))
        refine own_st ?_ (fun t_ k_ => XS.icmpYes X87.here hx rfl (pc0 := 43) (pc' := 54) rfl (hb hby d19_43) rfl (flt (by rw [he.1]; exact (own_c3 hcc h2048).1)).2.1 (by decide) (by decide) k_)
        show own_G p.tables e below _ _ (T87.setTop (mkF m 54 #[.val (.ref a0), .val (.ref x), .val (.int kx.toInt32), .val (.int ((g1 px) &&& (255 : Int32)))] []))
        refine own_st ?_ (fun t_ k_ => XS.iloadN X87.here hx rfl (hb hby d19_54) rfl k_)
        show own_G p.tables e below _ _ (T87.setTop (mkF m 55 #[.val (.ref a0), .val (.ref x), .val (.int kx.toInt32), .val (.int ((g1 px) &&& (255 : Int32)))] [(.int ((g1 px) &&& (255 : Int32)))]))
        refine own_st ?_ (fun t_ k_ => XS.sipush X87.here hx rfl (hb hby d19_55) k_)
        show own_G p.tables e below _ _ (T87.setTop (mkF m 58 #[.val (.ref a0), .val (.ref x), .val (.int kx.toInt32), .val (.int ((g1 px) &&& (255 : Int32)))] [(.int (224 : Int32)), (.int ((g1 px) &&& (255 : Int32)))]))
        refine own_st ?_ (fun t_ k_ => XS.icmpYes X87.here hx rfl (pc0 := 58) (pc' := 95) rfl (hb hby d19_58) rfl (flt (by rw [he.1]; exact (own_c3 hcc h2048).2.1)).2.1 (by decide) (by decide) k_)
        show own_G p.tables e below _ _ (T87.setTop (mkF m 95 #[.val (.ref a0), .val (.ref x), .val (.int kx.toInt32), .val (.int ((g1 px) &&& (255 : Int32)))] []))
        refine own_st ?_ (fun t_ k_ => XS.aloadN X87.here hx rfl (hb hby d19_95) rfl rfl k_)
        show own_G p.tables e below _ _ (T87.setTop (mkF m 96 #[.val (.ref a0), .val (.ref x), .val (.int kx.toInt32), .val (.int ((g1 px) &&& (255 : Int32)))] [(.ref x)]))
        refine own_st ?_ (fun t_ k_ => XS.iloadN X87.here hx rfl (hb hby d19_96) rfl k_)
        show own_G p.tables e below _ _ (T87.setTop (mkF m 97 #[.val (.ref a0), .val (.ref x), .val (.int kx.toInt32), .val (.int ((g1 px) &&& (255 : Int32)))] [(.int kx.toInt32), (.ref x)]))
        refine own_st ?_ (fun t_ k_ => XS.iloadN X87.here hx rfl (hb hby d19_97) rfl k_)
        show own_G p.tables e below _ _ (T87.setTop (mkF m 98 #[.val (.ref a0), .val (.ref x), .val (.int kx.toInt32), .val (.int ((g1 px) &&& (255 : Int32)))] [(.int ((g1 px) &&& (255 : Int32))), (.int kx.toInt32), (.ref x)]))
        refine own_st ?_ (fun t_ k_ => XS.bipush X87.here hx rfl (hb hby d19_98) k_)
        show own_G p.tables e below _ _ (T87.setTop (mkF m 100 #[.val (.ref a0), .val (.ref x), .val (.int kx.toInt32), .val (.int ((g1 px) &&& (255 : Int32)))] [(.int (15 : Int32)), (.int ((g1 px) &&& (255 : Int32))), (.int kx.toInt32), (.ref x)]))
        refine own_st ?_ (fun t_ k_ => XS.iand X87.here hx rfl (hb hby d19_100) rfl k_)
        show own_G p.tables e below _ _ (T87.setTop (mkF m 101 #[.val (.ref a0), .val (.ref x), .val (.int kx.toInt32), .val (.int ((g1 px) &&& (255 : Int32)))] [(.int (((g1 px) &&& (255 : Int32)) &&& (15 : Int32))), (.int kx.toInt32), (.ref x)]))
        refine own_st ?_ (fun t_ k_ => XS.bipush X87.here hx rfl (hb hby d19_101) k_)
        show own_G p.tables e below _ _ (T87.setTop (mkF m 103 #[.val (.ref a0), .val (.ref x), .val (.int kx.toInt32), .val (.int ((g1 px) &&& (255 : Int32)))] [(.int (12 : Int32)), (.int (((g1 px) &&& (255 : Int32)) &&& (15 : Int32))), (.int kx.toInt32), (.ref x)]))
        refine own_st ?_ (fun t_ k_ => XS.ishl X87.here hx rfl (hb hby d19_103) rfl k_)
        show own_G p.tables e below _ _ (T87.setTop (mkF m 104 #[.val (.ref a0), .val (.ref x), .val (.int kx.toInt32), .val (.int ((g1 px) &&& (255 : Int32)))] [(.int ((((g1 px) &&& (255 : Int32)) &&& (15 : Int32)) <<< ((12 : Int32) &&& 31))), (.int kx.toInt32), (.ref x)]))
        refine own_st ?_ (fun t_ k_ => XS.aloadN X87.here hx rfl (hb hby d19_104) rfl rfl k_)
        show own_G p.tables e below _ _ (T87.setTop (mkF m 105 #[.val (.ref a0), .val (.ref x), .val (.int kx.toInt32), .val (.int ((g1 px) &&& (255 : Int32)))] [(.ref a0), (.int ((((g1 px) &&& (255 : Int32)) &&& (15 : Int32)) <<< ((12 : Int32) &&& 31))), (.int kx.toInt32), (.ref x)]))
        obtain ⟨T98, X98, e98, st98⟩ := getF X87 hx hZ hown (host := "") (Or.inl (hw _ (List.mem_of_getElem? (i := 44) rfl))) Via.refl e87 F90_bytes (g := (mkF m 105 #[.val (.ref a0), .val (.ref x), .val (.int kx.toInt32), .val (.int ((g1 px) &&& (255 : Int32)))] [(.ref a0), (.int ((((g1 px) &&& (255 : Int32)) &&& (15 : Int32)) <<< ((12 : Int32) &&& 31))), (.int kx.toInt32), (.ref x)])) rfl rfl (hb hby d19_105)
        refine own_st ?_ st98
        show own_G p.tables e below _ _ (T98.setTop (mkF m 108 #[.val (.ref a0), .val (.ref x), .val (.int kx.toInt32), .val (.int ((g1 px) &&& (255 : Int32)))] [(.ref t), (.int ((((g1 px) &&& (255 : Int32)) &&& (15 : Int32)) <<< ((12 : Int32) &&& 31))), (.int kx.toInt32), (.ref x)]))
        refine own_st ?_ (fun t_ k_ => XS.aloadN X98.here hx rfl (hb hby d19_108) rfl rfl k_)
        show own_G p.tables e below _ _ (T98.setTop (mkF m 109 #[.val (.ref a0), .val (.ref x), .val (.int kx.toInt32), .val (.int ((g1 px) &&& (255 : Int32)))] [(.ref a0), (.ref t), (.int ((((g1 px) &&& (255 : Int32)) &&& (15 : Int32)) <<< ((12 : Int32) &&& 31))), (.int kx.toInt32), (.ref x)]))
        refine own_st ?_ (fun t_ k_ => XS.dup X98.here hx rfl (hb hby d19_109) rfl rfl k_)
        show own_G p.tables e below _ _ (T98.setTop (mkF m 110 #[.val (.ref a0), .val (.ref x), .val (.int kx.toInt32), .val (.int ((g1 px) &&& (255 : Int32)))] [(.ref a0), (.ref a0), (.ref t), (.int ((((g1 px) &&& (255 : Int32)) &&& (15 : Int32)) <<< ((12 : Int32) &&& 31))), (.int kx.toInt32), (.ref x)]))
        obtain ⟨T99, X99, e99, st99⟩ := getF X98 hx hZ hown (host := "") (Or.inl (hw _ (List.mem_of_getElem? (i := 109) rfl))) Via.refl e98 F92_position (g := (mkF m 110 #[.val (.ref a0), .val (.ref x), .val (.int kx.toInt32), .val (.int ((g1 px) &&& (255 : Int32)))] [(.ref a0), (.ref a0), (.ref t), (.int ((((g1 px) &&& (255 : Int32)) &&& (15 : Int32)) <<< ((12 : Int32) &&& 31))), (.int kx.toInt32), (.ref x)])) rfl rfl (hb hby d19_110)
        refine own_st ?_ st99
        show own_G p.tables e below _ _ (T99.setTop (mkF m 113 #[.val (.ref a0), .val (.ref x), .val (.int kx.toInt32), .val (.int ((g1 px) &&& (255 : Int32)))] [(.int ((Int32.ofInt ((px : Nat) : Int)) + (1 : Int32))), (.ref a0), (.ref t), (.int ((((g1 px) &&& (255 : Int32)) &&& (15 : Int32)) <<< ((12 : Int32) &&& 31))), (.int kx.toInt32), (.ref x)]))
        refine own_st ?_ (fun t_ k_ => XS.dupX1 X99.here hx rfl (hb hby d19_113) rfl rfl rfl k_)
        show own_G p.tables e below _ _ (T99.setTop (mkF m 114 #[.val (.ref a0), .val (.ref x), .val (.int kx.toInt32), .val (.int ((g1 px) &&& (255 : Int32)))] [(.int ((Int32.ofInt ((px : Nat) : Int)) + (1 : Int32))), (.ref a0), (.int ((Int32.ofInt ((px : Nat) : Int)) + (1 : Int32))), (.ref t), (.int ((((g1 px) &&& (255 : Int32)) &&& (15 : Int32)) <<< ((12 : Int32) &&& 31))), (.int kx.toInt32), (.ref x)]))
        refine own_st ?_ (fun t_ k_ => XS.iconst X99.here hx rfl (hb hby d19_114) k_)
        show own_G p.tables e below _ _ (T99.setTop (mkF m 115 #[.val (.ref a0), .val (.ref x), .val (.int kx.toInt32), .val (.int ((g1 px) &&& (255 : Int32)))] [(.int (1 : Int32)), (.int ((Int32.ofInt ((px : Nat) : Int)) + (1 : Int32))), (.ref a0), (.int ((Int32.ofInt ((px : Nat) : Int)) + (1 : Int32))), (.ref t), (.int ((((g1 px) &&& (255 : Int32)) &&& (15 : Int32)) <<< ((12 : Int32) &&& 31))), (.int kx.toInt32), (.ref x)]))
        refine own_st ?_ (fun t_ k_ => XS.iadd X99.here hx rfl (hb hby d19_115) rfl k_)
        show own_G p.tables e below _ _ (T99.setTop (mkF m 116 #[.val (.ref a0), .val (.ref x), .val (.int kx.toInt32), .val (.int ((g1 px) &&& (255 : Int32)))] [(.int (((Int32.ofInt ((px : Nat) : Int)) + (1 : Int32)) + (1 : Int32))), (.ref a0), (.int ((Int32.ofInt ((px : Nat) : Int)) + (1 : Int32))), (.ref t), (.int ((((g1 px) &&& (255 : Int32)) &&& (15 : Int32)) <<< ((12 : Int32) &&& 31))), (.int kx.toInt32), (.ref x)]))
        obtain ⟨T100, h100, X100, e100, W100, st100⟩ := putF X99 hx hZ hown (host := "") (Or.inl (hw _ (List.mem_of_getElem? (i := 109) rfl))) Via.refl e99 F92_position F89_E (Or.inl (hw _ (List.mem_of_getElem? (i := 110) rfl))) (hw _ (List.mem_of_getElem? (i := 38) rfl)) (ty := .int) (by decide) rfl rfl (g := (mkF m 116 #[.val (.ref a0), .val (.ref x), .val (.int kx.toInt32), .val (.int ((g1 px) &&& (255 : Int32)))] [(.int (((Int32.ofInt ((px : Nat) : Int)) + (1 : Int32)) + (1 : Int32))), (.ref a0), (.int ((Int32.ofInt ((px : Nat) : Int)) + (1 : Int32))), (.ref t), (.int ((((g1 px) &&& (255 : Int32)) &&& (15 : Int32)) <<< ((12 : Int32) &&& 31))), (.int kx.toInt32), (.ref x)])) rfl rfl (hb hby d19_116)
        have N100 := Fr.snoc X100 N87 g_a0
        have F101_Z : own_SS Z h100 n0 z1 fm := own_SS_keep F88_Z (Keep.of_wr W100) (own_alS g_a0 own_al0)
        have F102_E : Exa Z h100 a0 "com/example/termwright/termwright/Spool$Record" := F89_E.wr W100
        have F103_bytes : Fld Z h100 a0 "com/example/termwright/termwright/Spool$Record" "bytes" "[B" (.ref t) := F90_bytes.other W100 (Or.inr (slot_ne (Or.inl (hw _ (List.mem_of_getElem? (i := 45) rfl))) (Or.inl (hw _ (List.mem_of_getElem? (i := 110) rfl))) (by decide) (t := (.array .byte)) (t' := .int) (by decide) (by decide)))
        have F104_length : Fld Z h100 a0 "com/example/termwright/termwright/Spool$Record" "length" "I" (.int (Int32.ofInt ((l1 : Nat) : Int))) := F91_length.other W100 (Or.inr (slot_ne (Or.inl (hw _ (List.mem_of_getElem? (i := 72) rfl))) (Or.inl (hw _ (List.mem_of_getElem? (i := 110) rfl))) (by decide) (t := .int) (t' := .int) (by decide) (by decide)))
        have F105_position : Fld Z h100 a0 "com/example/termwright/termwright/Spool$Record" "position" "I" (.int (((Int32.ofInt ((px : Nat) : Int)) + (1 : Int32)) + (1 : Int32))) := F92_position.same W100
        have F106_P : own_Y .byte Z h100 t 256 g1 := own_Y_keep Yx97 (Keep.of_wr W100) (ninS (Ne.symm hne) nin0)
        have F107_P : own_Y .char Z h100 x n CH := own_Y_keep F94_P (Keep.of_wr W100) (ninS (Ne.symm nx0) nin0)
        have Zs108 : n0 ≤ h100.size := Nat.le_trans Zs95 (Keep.of_wr W100).1
        have Kc109 : Keep h0 h100 [a0] := Kc96.wr W100 (Or.inl (List.mem_of_getElem? (i := 0) rfl))
        refine own_st ?_ st100
        show own_G p.tables e below _ _ (T100.setTop (mkF m 119 #[.val (.ref a0), .val (.ref x), .val (.int kx.toInt32), .val (.int ((g1 px) &&& (255 : Int32)))] [(.int ((Int32.ofInt ((px : Nat) : Int)) + (1 : Int32))), (.ref t), (.int ((((g1 px) &&& (255 : Int32)) &&& (15 : Int32)) <<< ((12 : Int32) &&& 31))), (.int kx.toInt32), (.ref x)]))
        have ix110 := own_ix (j := ((Int32.ofInt ((px : Nat) : Int)) + (1 : Int32))) (k := px + 1) (n := 256) (by rw [own_ofI (by omega)]; exact own_inc _) (by omega) (by decide)
        obtain ⟨cl110, Ar110, Sz110, G110⟩ := F106_P
        have hin110 : ¬ (((Int32.ofInt ((px : Nat) : Int)) + (1 : Int32)) < 0 ∨ cl110.slots.size ≤ (((Int32.ofInt ((px : Nat) : Int)) + (1 : Int32))).toNatClampNeg) := by rw [Sz110]; exact ix110.1
        have hat110 : cl110.slots[(((Int32.ofInt ((px : Nat) : Int)) + (1 : Int32))).toNatClampNeg]? = some (.int (g1 (px + 1))) := by rw [ix110.2]; exact G110 _ (by omega)
        refine own_st ?_ (X100.baloadBytes hx (j := ((Int32.ofInt ((px : Nat) : Int)) + (1 : Int32))) (v := (.int (g1 (px + 1)))) (by rw [e100]; exact Ar110.1) (State.isArrayOf_alike hZ.alike Ar110.2.1) Ar110.2.2 hin110 hat110 (g := (mkF m 119 #[.val (.ref a0), .val (.ref x), .val (.int kx.toInt32), .val (.int ((g1 px) &&& (255 : Int32)))] [(.int ((Int32.ofInt ((px : Nat) : Int)) + (1 : Int32))), (.ref t), (.int ((((g1 px) &&& (255 : Int32)) &&& (15 : Int32)) <<< ((12 : Int32) &&& 31))), (.int kx.toInt32), (.ref x)])) rfl rfl (hb hby d19_119))
        have Yx110 : own_Y .byte Z h100 t 256 g1 := ⟨cl110, Ar110, Sz110, G110⟩
        show own_G p.tables e below _ _ (T100.setTop (mkF m 120 #[.val (.ref a0), .val (.ref x), .val (.int kx.toInt32), .val (.int ((g1 px) &&& (255 : Int32)))] [(.int (g1 (px + 1))), (.int ((((g1 px) &&& (255 : Int32)) &&& (15 : Int32)) <<< ((12 : Int32) &&& 31))), (.int kx.toInt32), (.ref x)]))
        refine own_st ?_ (fun t_ k_ => XS.bipush X100.here hx rfl (hb hby d19_120) k_)
        show own_G p.tables e below _ _ (T100.setTop (mkF m 122 #[.val (.ref a0), .val (.ref x), .val (.int kx.toInt32), .val (.int ((g1 px) &&& (255 : Int32)))] [(.int (63 : Int32)), (.int (g1 (px + 1))), (.int ((((g1 px) &&& (255 : Int32)) &&& (15 : Int32)) <<< ((12 : Int32) &&& 31))), (.int kx.toInt32), (.ref x)]))
        refine own_st ?_ (fun t_ k_ => XS.iand X100.here hx rfl (hb hby d19_122) rfl k_)
        show own_G p.tables e below _ _ (T100.setTop (mkF m 123 #[.val (.ref a0), .val (.ref x), .val (.int kx.toInt32), .val (.int ((g1 px) &&& (255 : Int32)))] [(.int ((g1 (px + 1)) &&& (63 : Int32))), (.int ((((g1 px) &&& (255 : Int32)) &&& (15 : Int32)) <<< ((12 : Int32) &&& 31))), (.int kx.toInt32), (.ref x)]))
        refine own_st ?_ (fun t_ k_ => XS.bipush X100.here hx rfl (hb hby d19_123) k_)
        show own_G p.tables e below _ _ (T100.setTop (mkF m 125 #[.val (.ref a0), .val (.ref x), .val (.int kx.toInt32), .val (.int ((g1 px) &&& (255 : Int32)))] [(.int (6 : Int32)), (.int ((g1 (px + 1)) &&& (63 : Int32))), (.int ((((g1 px) &&& (255 : Int32)) &&& (15 : Int32)) <<< ((12 : Int32) &&& 31))), (.int kx.toInt32), (.ref x)]))
        refine own_st ?_ (fun t_ k_ => XS.ishl X100.here hx rfl (hb hby d19_125) rfl k_)
        show own_G p.tables e below _ _ (T100.setTop (mkF m 126 #[.val (.ref a0), .val (.ref x), .val (.int kx.toInt32), .val (.int ((g1 px) &&& (255 : Int32)))] [(.int (((g1 (px + 1)) &&& (63 : Int32)) <<< ((6 : Int32) &&& 31))), (.int ((((g1 px) &&& (255 : Int32)) &&& (15 : Int32)) <<< ((12 : Int32) &&& 31))), (.int kx.toInt32), (.ref x)]))
        refine own_st ?_ (fun t_ k_ => XS.ior X100.here hx rfl (hb hby d19_126) rfl k_)
        show own_G p.tables e below _ _ (T100.setTop (mkF m 127 #[.val (.ref a0), .val (.ref x), .val (.int kx.toInt32), .val (.int ((g1 px) &&& (255 : Int32)))] [(.int (((((g1 px) &&& (255 : Int32)) &&& (15 : Int32)) <<< ((12 : Int32) &&& 31)) ||| (((g1 (px + 1)) &&& (63 : Int32)) <<< ((6 : Int32) &&& 31)))), (.int kx.toInt32), (.ref x)]))
        refine own_st ?_ (fun t_ k_ => XS.aloadN X100.here hx rfl (hb hby d19_127) rfl rfl k_)
        show own_G p.tables e below _ _ (T100.setTop (mkF m 128 #[.val (.ref a0), .val (.ref x), .val (.int kx.toInt32), .val (.int ((g1 px) &&& (255 : Int32)))] [(.ref a0), (.int (((((g1 px) &&& (255 : Int32)) &&& (15 : Int32)) <<< ((12 : Int32) &&& 31)) ||| (((g1 (px + 1)) &&& (63 : Int32)) <<< ((6 : Int32) &&& 31)))), (.int kx.toInt32), (.ref x)]))
        obtain ⟨T111, X111, e111, st111⟩ := getF X100 hx hZ hown (host := "") (Or.inl (hw _ (List.mem_of_getElem? (i := 44) rfl))) Via.refl e100 F103_bytes (g := (mkF m 128 #[.val (.ref a0), .val (.ref x), .val (.int kx.toInt32), .val (.int ((g1 px) &&& (255 : Int32)))] [(.ref a0), (.int (((((g1 px) &&& (255 : Int32)) &&& (15 : Int32)) <<< ((12 : Int32) &&& 31)) ||| (((g1 (px + 1)) &&& (63 : Int32)) <<< ((6 : Int32) &&& 31)))), (.int kx.toInt32), (.ref x)])) rfl rfl (hb hby d19_128)
        refine own_st ?_ st111
        show own_G p.tables e below _ _ (T111.setTop (mkF m 131 #[.val (.ref a0), .val (.ref x), .val (.int kx.toInt32), .val (.int ((g1 px) &&& (255 : Int32)))] [(.ref t), (.int (((((g1 px) &&& (255 : Int32)) &&& (15 : Int32)) <<< ((12 : Int32) &&& 31)) ||| (((g1 (px + 1)) &&& (63 : Int32)) <<< ((6 : Int32) &&& 31)))), (.int kx.toInt32), (.ref x)]))
        refine own_st ?_ (fun t_ k_ => XS.aloadN X111.here hx rfl (hb hby d19_131) rfl rfl k_)
        show own_G p.tables e below _ _ (T111.setTop (mkF m 132 #[.val (.ref a0), .val (.ref x), .val (.int kx.toInt32), .val (.int ((g1 px) &&& (255 : Int32)))] [(.ref a0), (.ref t), (.int (((((g1 px) &&& (255 : Int32)) &&& (15 : Int32)) <<< ((12 : Int32) &&& 31)) ||| (((g1 (px + 1)) &&& (63 : Int32)) <<< ((6 : Int32) &&& 31)))), (.int kx.toInt32), (.ref x)]))
        refine own_st ?_ (fun t_ k_ => XS.dup X111.here hx rfl (hb hby d19_132) rfl rfl k_)
        show own_G p.tables e below _ _ (T111.setTop (mkF m 133 #[.val (.ref a0), .val (.ref x), .val (.int kx.toInt32), .val (.int ((g1 px) &&& (255 : Int32)))] [(.ref a0), (.ref a0), (.ref t), (.int (((((g1 px) &&& (255 : Int32)) &&& (15 : Int32)) <<< ((12 : Int32) &&& 31)) ||| (((g1 (px + 1)) &&& (63 : Int32)) <<< ((6 : Int32) &&& 31)))), (.int kx.toInt32), (.ref x)]))
        obtain ⟨T112, X112, e112, st112⟩ := getF X111 hx hZ hown (host := "") (Or.inl (hw _ (List.mem_of_getElem? (i := 109) rfl))) Via.refl e111 F105_position (g := (mkF m 133 #[.val (.ref a0), .val (.ref x), .val (.int kx.toInt32), .val (.int ((g1 px) &&& (255 : Int32)))] [(.ref a0), (.ref a0), (.ref t), (.int (((((g1 px) &&& (255 : Int32)) &&& (15 : Int32)) <<< ((12 : Int32) &&& 31)) ||| (((g1 (px + 1)) &&& (63 : Int32)) <<< ((6 : Int32) &&& 31)))), (.int kx.toInt32), (.ref x)])) rfl rfl (hb hby d19_133)
        refine own_st ?_ st112
        show own_G p.tables e below _ _ (T112.setTop (mkF m 136 #[.val (.ref a0), .val (.ref x), .val (.int kx.toInt32), .val (.int ((g1 px) &&& (255 : Int32)))] [(.int (((Int32.ofInt ((px : Nat) : Int)) + (1 : Int32)) + (1 : Int32))), (.ref a0), (.ref t), (.int (((((g1 px) &&& (255 : Int32)) &&& (15 : Int32)) <<< ((12 : Int32) &&& 31)) ||| (((g1 (px + 1)) &&& (63 : Int32)) <<< ((6 : Int32) &&& 31)))), (.int kx.toInt32), (.ref x)]))
        refine own_st ?_ (fun t_ k_ => XS.dupX1 X112.here hx rfl (hb hby d19_136) rfl rfl rfl k_)
        show own_G p.tables e below _ _ (T112.setTop (mkF m 137 #[.val (.ref a0), .val (.ref x), .val (.int kx.toInt32), .val (.int ((g1 px) &&& (255 : Int32)))] [(.int (((Int32.ofInt ((px : Nat) : Int)) + (1 : Int32)) + (1 : Int32))), (.ref a0), (.int (((Int32.ofInt ((px : Nat) : Int)) + (1 : Int32)) + (1 : Int32))), (.ref t), (.int (((((g1 px) &&& (255 : Int32)) &&& (15 : Int32)) <<< ((12 : Int32) &&& 31)) ||| (((g1 (px + 1)) &&& (63 : Int32)) <<< ((6 : Int32) &&& 31)))), (.int kx.toInt32), (.ref x)]))
        refine own_st ?_ (fun t_ k_ => XS.iconst X112.here hx rfl (hb hby d19_137) k_)
        show own_G p.tables e below _ _ (T112.setTop (mkF m 138 #[.val (.ref a0), .val (.ref x), .val (.int kx.toInt32), .val (.int ((g1 px) &&& (255 : Int32)))] [(.int (1 : Int32)), (.int (((Int32.ofInt ((px : Nat) : Int)) + (1 : Int32)) + (1 : Int32))), (.ref a0), (.int (((Int32.ofInt ((px : Nat) : Int)) + (1 : Int32)) + (1 : Int32))), (.ref t), (.int (((((g1 px) &&& (255 : Int32)) &&& (15 : Int32)) <<< ((12 : Int32) &&& 31)) ||| (((g1 (px + 1)) &&& (63 : Int32)) <<< ((6 : Int32) &&& 31)))), (.int kx.toInt32), (.ref x)]))
        refine own_st ?_ (fun t_ k_ => XS.iadd X112.here hx rfl (hb hby d19_138) rfl k_)
        show own_G p.tables e below _ _ (T112.setTop (mkF m 139 #[.val (.ref a0), .val (.ref x), .val (.int kx.toInt32), .val (.int ((g1 px) &&& (255 : Int32)))] [(.int ((((Int32.ofInt ((px : Nat) : Int)) + (1 : Int32)) + (1 : Int32)) + (1 : Int32))), (.ref a0), (.int (((Int32.ofInt ((px : Nat) : Int)) + (1 : Int32)) + (1 : Int32))), (.ref t), (.int (((((g1 px) &&& (255 : Int32)) &&& (15 : Int32)) <<< ((12 : Int32) &&& 31)) ||| (((g1 (px + 1)) &&& (63 : Int32)) <<< ((6 : Int32) &&& 31)))), (.int kx.toInt32), (.ref x)]))
        obtain ⟨T113, h113, X113, e113, W113, st113⟩ := putF X112 hx hZ hown (host := "") (Or.inl (hw _ (List.mem_of_getElem? (i := 109) rfl))) Via.refl e112 F105_position F102_E (Or.inl (hw _ (List.mem_of_getElem? (i := 110) rfl))) (hw _ (List.mem_of_getElem? (i := 38) rfl)) (ty := .int) (by decide) rfl rfl (g := (mkF m 139 #[.val (.ref a0), .val (.ref x), .val (.int kx.toInt32), .val (.int ((g1 px) &&& (255 : Int32)))] [(.int ((((Int32.ofInt ((px : Nat) : Int)) + (1 : Int32)) + (1 : Int32)) + (1 : Int32))), (.ref a0), (.int (((Int32.ofInt ((px : Nat) : Int)) + (1 : Int32)) + (1 : Int32))), (.ref t), (.int (((((g1 px) &&& (255 : Int32)) &&& (15 : Int32)) <<< ((12 : Int32) &&& 31)) ||| (((g1 (px + 1)) &&& (63 : Int32)) <<< ((6 : Int32) &&& 31)))), (.int kx.toInt32), (.ref x)])) rfl rfl (hb hby d19_139)
        have N113 := Fr.snoc X113 N100 g_a0
        have F114_Z : own_SS Z h113 n0 z1 fm := own_SS_keep F101_Z (Keep.of_wr W113) (own_alS g_a0 own_al0)
        have F115_E : Exa Z h113 a0 "com/example/termwright/termwright/Spool$Record" := F102_E.wr W113
        have F116_bytes : Fld Z h113 a0 "com/example/termwright/termwright/Spool$Record" "bytes" "[B" (.ref t) := F103_bytes.other W113 (Or.inr (slot_ne (Or.inl (hw _ (List.mem_of_getElem? (i := 45) rfl))) (Or.inl (hw _ (List.mem_of_getElem? (i := 110) rfl))) (by decide) (t := (.array .byte)) (t' := .int) (by decide) (by decide)))
        have F117_length : Fld Z h113 a0 "com/example/termwright/termwright/Spool$Record" "length" "I" (.int (Int32.ofInt ((l1 : Nat) : Int))) := F104_length.other W113 (Or.inr (slot_ne (Or.inl (hw _ (List.mem_of_getElem? (i := 72) rfl))) (Or.inl (hw _ (List.mem_of_getElem? (i := 110) rfl))) (by decide) (t := .int) (t' := .int) (by decide) (by decide)))
        have F118_position : Fld Z h113 a0 "com/example/termwright/termwright/Spool$Record" "position" "I" (.int ((((Int32.ofInt ((px : Nat) : Int)) + (1 : Int32)) + (1 : Int32)) + (1 : Int32))) := F105_position.same W113
        have F119_P : own_Y .byte Z h113 t 256 g1 := own_Y_keep Yx110 (Keep.of_wr W113) (ninS (Ne.symm hne) nin0)
        have F120_P : own_Y .char Z h113 x n CH := own_Y_keep F107_P (Keep.of_wr W113) (ninS (Ne.symm nx0) nin0)
        have Zs121 : n0 ≤ h113.size := Nat.le_trans Zs108 (Keep.of_wr W113).1
        have Kc122 : Keep h0 h113 [a0] := Kc109.wr W113 (Or.inl (List.mem_of_getElem? (i := 0) rfl))
        refine own_st ?_ st113
        show own_G p.tables e below _ _ (T113.setTop (mkF m 142 #[.val (.ref a0), .val (.ref x), .val (.int kx.toInt32), .val (.int ((g1 px) &&& (255 : Int32)))] [(.int (((Int32.ofInt ((px : Nat) : Int)) + (1 : Int32)) + (1 : Int32))), (.ref t), (.int (((((g1 px) &&& (255 : Int32)) &&& (15 : Int32)) <<< ((12 : Int32) &&& 31)) ||| (((g1 (px + 1)) &&& (63 : Int32)) <<< ((6 : Int32) &&& 31)))), (.int kx.toInt32), (.ref x)]))
        have ix123 := own_ix (j := (((Int32.ofInt ((px : Nat) : Int)) + (1 : Int32)) + (1 : Int32))) (k := px + 2) (n := 256) (by rw [own_ofI (by omega), own_inc]; exact own_inc _) (by omega) (by decide)
        obtain ⟨cl123, Ar123, Sz123, G123⟩ := F119_P
        have hin123 : ¬ ((((Int32.ofInt ((px : Nat) : Int)) + (1 : Int32)) + (1 : Int32)) < 0 ∨ cl123.slots.size ≤ ((((Int32.ofInt ((px : Nat) : Int)) + (1 : Int32)) + (1 : Int32))).toNatClampNeg) := by rw [Sz123]; exact ix123.1
        have hat123 : cl123.slots[((((Int32.ofInt ((px : Nat) : Int)) + (1 : Int32)) + (1 : Int32))).toNatClampNeg]? = some (.int (g1 (px + 2))) := by rw [ix123.2]; exact G123 _ (by omega)
        refine own_st ?_ (X113.baloadBytes hx (j := (((Int32.ofInt ((px : Nat) : Int)) + (1 : Int32)) + (1 : Int32))) (v := (.int (g1 (px + 2)))) (by rw [e113]; exact Ar123.1) (State.isArrayOf_alike hZ.alike Ar123.2.1) Ar123.2.2 hin123 hat123 (g := (mkF m 142 #[.val (.ref a0), .val (.ref x), .val (.int kx.toInt32), .val (.int ((g1 px) &&& (255 : Int32)))] [(.int (((Int32.ofInt ((px : Nat) : Int)) + (1 : Int32)) + (1 : Int32))), (.ref t), (.int (((((g1 px) &&& (255 : Int32)) &&& (15 : Int32)) <<< ((12 : Int32) &&& 31)) ||| (((g1 (px + 1)) &&& (63 : Int32)) <<< ((6 : Int32) &&& 31)))), (.int kx.toInt32), (.ref x)])) rfl rfl (hb hby d19_142))
        have Yx123 : own_Y .byte Z h113 t 256 g1 := ⟨cl123, Ar123, Sz123, G123⟩
        show own_G p.tables e below _ _ (T113.setTop (mkF m 143 #[.val (.ref a0), .val (.ref x), .val (.int kx.toInt32), .val (.int ((g1 px) &&& (255 : Int32)))] [(.int (g1 (px + 2))), (.int (((((g1 px) &&& (255 : Int32)) &&& (15 : Int32)) <<< ((12 : Int32) &&& 31)) ||| (((g1 (px + 1)) &&& (63 : Int32)) <<< ((6 : Int32) &&& 31)))), (.int kx.toInt32), (.ref x)]))
        refine own_st ?_ (fun t_ k_ => XS.bipush X113.here hx rfl (hb hby d19_143) k_)
        show own_G p.tables e below _ _ (T113.setTop (mkF m 145 #[.val (.ref a0), .val (.ref x), .val (.int kx.toInt32), .val (.int ((g1 px) &&& (255 : Int32)))] [(.int (63 : Int32)), (.int (g1 (px + 2))), (.int (((((g1 px) &&& (255 : Int32)) &&& (15 : Int32)) <<< ((12 : Int32) &&& 31)) ||| (((g1 (px + 1)) &&& (63 : Int32)) <<< ((6 : Int32) &&& 31)))), (.int kx.toInt32), (.ref x)]))
        refine own_st ?_ (fun t_ k_ => XS.iand X113.here hx rfl (hb hby d19_145) rfl k_)
        show own_G p.tables e below _ _ (T113.setTop (mkF m 146 #[.val (.ref a0), .val (.ref x), .val (.int kx.toInt32), .val (.int ((g1 px) &&& (255 : Int32)))] [(.int ((g1 (px + 2)) &&& (63 : Int32))), (.int (((((g1 px) &&& (255 : Int32)) &&& (15 : Int32)) <<< ((12 : Int32) &&& 31)) ||| (((g1 (px + 1)) &&& (63 : Int32)) <<< ((6 : Int32) &&& 31)))), (.int kx.toInt32), (.ref x)]))
        refine own_st ?_ (fun t_ k_ => XS.ior X113.here hx rfl (hb hby d19_146) rfl k_)
        show own_G p.tables e below _ _ (T113.setTop (mkF m 147 #[.val (.ref a0), .val (.ref x), .val (.int kx.toInt32), .val (.int ((g1 px) &&& (255 : Int32)))] [(.int ((((((g1 px) &&& (255 : Int32)) &&& (15 : Int32)) <<< ((12 : Int32) &&& 31)) ||| (((g1 (px + 1)) &&& (63 : Int32)) <<< ((6 : Int32) &&& 31))) ||| ((g1 (px + 2)) &&& (63 : Int32)))), (.int kx.toInt32), (.ref x)]))
        refine own_st ?_ (fun t_ k_ => XS.i2c X113.here hx rfl (hb hby d19_147) rfl k_)
        show own_G p.tables e below _ _ (T113.setTop (mkF m 148 #[.val (.ref a0), .val (.ref x), .val (.int kx.toInt32), .val (.int ((g1 px) &&& (255 : Int32)))] [(.int (((((((g1 px) &&& (255 : Int32)) &&& (15 : Int32)) <<< ((12 : Int32) &&& 31)) ||| (((g1 (px + 1)) &&& (63 : Int32)) <<< ((6 : Int32) &&& 31))) ||| ((g1 (px + 2)) &&& (63 : Int32))).toUInt32.toUInt16.toUInt32.toInt32)), (.int kx.toInt32), (.ref x)]))
        have ix124 := own_ix (j := kx.toInt32) (k := kx) (n := n) rfl (by have := (own_TT1 hTT).1; omega) (by omega)
        obtain ⟨cl124, Ar124, Sz124, G124⟩ := F120_P
        have hin124 : ¬ (kx.toInt32 < 0 ∨ cl124.slots.size ≤ (kx.toInt32).toNatClampNeg) := by rw [Sz124]; exact ix124.1
        obtain ⟨T124, h124, X124, e124, W124, st124⟩ := stC X113 hx hZ e113 Ar124 (j := kx.toInt32) hin124 (g := (mkF m 148 #[.val (.ref a0), .val (.ref x), .val (.int kx.toInt32), .val (.int ((g1 px) &&& (255 : Int32)))] [(.int (((((((g1 px) &&& (255 : Int32)) &&& (15 : Int32)) <<< ((12 : Int32) &&& 31)) ||| (((g1 (px + 1)) &&& (63 : Int32)) <<< ((6 : Int32) &&& 31))) ||| ((g1 (px + 2)) &&& (63 : Int32))).toUInt32.toUInt16.toUInt32.toInt32)), (.int kx.toInt32), (.ref x)])) rfl rfl (hb hby d19_148)
        have N124 := Fr.snoc X124 N113 g_x
        have Yo124 : own_Y .char Z h113 x n CH := ⟨cl124, Ar124, Sz124, G124⟩
        have F125_Z : own_SS Z h124 n0 z1 fm := own_SS_keep F114_Z (Keep.of_wr W124) (own_alS g_x own_al0)
        have F126_E : Exa Z h124 a0 "com/example/termwright/termwright/Spool$Record" := F115_E.wr W124
        have F127_bytes : Fld Z h124 a0 "com/example/termwright/termwright/Spool$Record" "bytes" "[B" (.ref t) := F116_bytes.other W124 (Or.inl nx0)
        have F128_length : Fld Z h124 a0 "com/example/termwright/termwright/Spool$Record" "length" "I" (.int (Int32.ofInt ((l1 : Nat) : Int))) := F117_length.other W124 (Or.inl nx0)
        have F129_position : Fld Z h124 a0 "com/example/termwright/termwright/Spool$Record" "position" "I" (.int ((((Int32.ofInt ((px : Nat) : Int)) + (1 : Int32)) + (1 : Int32)) + (1 : Int32))) := F118_position.other W124 (Or.inl nx0)
        have F130_P : own_Y .byte Z h124 t 256 g1 := own_Y_keep Yx123 (Keep.of_wr W124) (ninS nxt nin0)
        have Zs131 : n0 ≤ h124.size := Nat.le_trans Zs121 (Keep.of_wr W124).1
        have Kc132 : Keep h0 h124 [a0] := Kc122.wr W124 (Or.inr sz_x)
        have Y124 : own_Y .char Z h124 x n (own_upd CH kx (nar .char (((((((g1 px) &&& (255 : Int32)) &&& (15 : Int32)) <<< ((12 : Int32) &&& 31)) ||| (((g1 (px + 1)) &&& (63 : Int32)) <<< ((6 : Int32) &&& 31))) ||| ((g1 (px + 2)) &&& (63 : Int32))).toUInt32.toUInt16.toUInt32.toInt32))) := own_Y_set Yo124 W124 ix124.2
        refine own_st ?_ st124
        show own_G p.tables e below _ _ (T124.setTop (mkF m 149 #[.val (.ref a0), .val (.ref x), .val (.int kx.toInt32), .val (.int ((g1 px) &&& (255 : Int32)))] []))
        refine own_st ?_ (fun t_ k_ => XS.iinc X124.here hx rfl (hb hby d19_149) rfl (l' := #[.val (.ref a0), .val (.ref x), .val (.int (kx.toInt32 + (1 : Int32))), .val (.int ((g1 px) &&& (255 : Int32)))]) rfl k_)
        show own_G p.tables e below _ _ (T124.setTop (mkF m 152 #[.val (.ref a0), .val (.ref x), .val (.int (kx.toInt32 + (1 : Int32))), .val (.int ((g1 px) &&& (255 : Int32)))] []))
        refine own_st ?_ (fun t_ k_ => XS.goto X124.here hx rfl (pc0 := 152) (pc' := 12) rfl (hb hby d19_152) (by decide) (by decide) k_)
        show own_G p.tables e below _ _ (T124.setTop (mkF m 12 #[.val (.ref a0), .val (.ref x), .val (.int (kx.toInt32 + (1 : Int32))), .val (.int ((g1 px) &&& (255 : Int32)))] []))
        have Fp133 : Fld Z h124 a0 "com/example/termwright/termwright/Spool$Record" "position" "I" (.int (Int32.ofInt ((px + 1 + 1 + 1 : Nat) : Int))) := by rw [← own_rinc, ← own_rinc, ← own_rinc]; exact F129_position
        simp only [own_inc]
        have eW : px + own_W (ch kx :: cs) = px + 1 + 1 + 1 + own_W cs := by rw [own_W, ew]; omega
        rw [eW]
        exact ih (kx := kx + 1) (s3 := .val (.int ((g1 px) &&& (255 : Int32)))) (px := px + 1 + 1 + 1) (CH := (own_upd CH kx (nar .char (((((((g1 px) &&& (255 : Int32)) &&& (15 : Int32)) <<< ((12 : Int32) &&& 31)) ||| (((g1 (px + 1)) &&& (63 : Int32)) <<< ((6 : Int32) &&& 31))) ||| ((g1 (px + 2)) &&& (63 : Int32))).toUInt32.toUInt16.toUInt32.toInt32)))) (own_TT1 hTT).2.2 (by omega) (by have := hE.2; rw [ew] at this; exact this) (own_stepC hCH hval) (Or.inr ⟨_, rfl, rfl⟩) nx0 nxt X124 N124 e124 Kc132 F125_Z F126_E F127_bytes F128_length Fp133 F130_P Y124 Zs131
theorem ef_19 (m : MethodId) (a0 : Addr) : entryFrame m #[(.ref a0)] 4 = mkF m 0 #[.val (.ref a0), .unset, .unset, .unset] [] := by first | (simp [entryFrame, mkF, argsToLocals, Value.category]; done) | rfl
set_option maxRecDepth 65536 in
set_option maxHeartbeats 40000000 in
theorem rm19 (l : Launch) (Z : State) (a0 : Array Value) (hw : ∀ d ∈ tables_1, d.before a0 Z = true) (ws : List Jvm.Cond) (a0 : Addr) (z1 : Int32) (fm : Value) (t : Addr) (l1 : Nat) (p1 : Nat) (g1 : Nat → Int32) (n : Nat) (ch : Nat → Int32) (cs : List Int32) (h0 : Heap) (n0 : Nat) (Z0 : n0 ≤ h0.size) (g_a0 : n0 ≤ a0) (g_t : n0 ≤ t) (SS : own_SS Z h0 n0 z1 fm) (E0 : Exa Z h0 a0 "com/example/termwright/termwright/Spool$Record") (Fb : Fld Z h0 a0 "com/example/termwright/termwright/Spool$Record" "bytes" "[B" (.ref t)) (Fl : Fld Z h0 a0 "com/example/termwright/termwright/Spool$Record" "length" "I" (.int (Int32.ofInt ((l1 : Nat) : Int)))) (Fp : Fld Z h0 a0 "com/example/termwright/termwright/Spool$Record" "position" "I" (.int (Int32.ofInt ((p1 : Nat) : Int)))) (M0 : own_M Z h0 t g1) (hne : a0 ≠ t) (hz1 : ¬ z1 = 0) (hn0 : 0 < n) (hn : n ≤ 4) (hC : ∀ i, i < n → own_isC (ch i)) (hat : own_at g1 p1 n) (hE : own_E8 g1 (p1 + own_len n) cs) (hTT : own_TT ch n 0 cs) (hp : p1 ≤ 200) :
    MetFree l (⟨"com/example/termwright/termwright/Spool$Record", "text", "()Ljava/lang/String;"⟩ : MethodName) (head1 (Jvm.Cond.code (⟨"com/example/termwright/termwright/Spool$Record", "text", "()Ljava/lang/String;"⟩ : MethodName) prog_34_method_6_code 4 (some (.object "java/lang/String")) :: ws) ({ frames := 6, cells := 4, slots := 20, locals := 88 } : Room)) (fun a U => a = #[(.ref a0)] ∧ Z.Warmed39 U.vm ∧ U.heap = h0) (fun _ _ _ _ _ => True) (fun _ U o U' => ∃ v L, o = .returned v ∧ own_Qtx Z a0 t l1 (p1 + own_len n + own_W cs) g1 n ch h0 n0 v U'.heap L ∧ FrameEnd U o U' L ({ frames := 6, cells := 4, slots := 20, locals := 88 } : Room).cells ({ frames := 6, cells := 4, slots := 20, locals := 88 } : Room).slots) := by
  refine MetFree.of_bodySF (plainFor_of_name pn_19) hisR ?_
  intro p e s m args below meth c s₁ Bd hml0 hP hK
  obtain ⟨rfl, hZ, hh⟩ := hP
  have hx := Bd.exec
  have hby := Bd.bytes
  have hlk : meth.locks = false := BodyLoose.notSynchronized Bd
  have hret := Bd.returns
  have hml : c.maxLocals = 4 := hml0
  have hown : s.vm.findClass "com/example/termwright/termwright/Spool$Record" = some m.cls := findClass_of_methodNamed Bd.named
  have hnm := (name_of_methodNamed Bd.named Bd.method).1
  have X0 : Stand p l e ({ frames := 6, cells := 4, slots := 20, locals := 88 } : Room) s m #[(.ref a0)] below meth c s₁ [] 0 0 := Stand.of_body Bd
  have e0 : s₁.heap = h0 := by rw [← hh, Bd.state]; rfl
  have N0 := Fr.nil n0
  show own_G p.tables e below (own_E s ({ frames := 6, cells := 4, slots := 20, locals := 88 } : Room).cells ({ frames := 6, cells := 4, slots := 20, locals := 88 } : Room).slots) (own_Qtx Z a0 t l1 (p1 + own_len n + own_W cs) g1 n ch h0 n0) (s₁.setTop (entryFrame m #[(.ref a0)] 4))
  refine own_st ?_ (fun t_ k_ => castTop (ef_19 m a0) k_)
  show own_G p.tables e below _ _ (s₁.setTop (mkF m 0 #[.val (.ref a0), .unset, .unset, .unset] []))
  refine own_st ?_ (fun t_ k_ => XS.aloadN X0.here hx rfl (hb hby d19_0) rfl rfl k_)
  show own_G p.tables e below _ _ (s₁.setTop (mkF m 1 #[.val (.ref a0), .unset, .unset, .unset] [(.ref a0)]))
  obtain ⟨cq1, kq1, q1a, q1b, q1c⟩ := isOf hZ e0 E0
  obtain ⟨_, _, ⟨T1, L1, k1, n1⟩, -, X1, ⟨Lc1, hQ1, l1, y1, z1⟩, st1⟩ := X0.virtualBack hx (y := (⟨"com/example/termwright/termwright/Spool$Record", "number", "()J"⟩ : MethodName)) (z := (⟨"com/example/termwright/termwright/Spool$Record", "number", "()J"⟩ : MethodName)) hown (mvT hZ (hw _ (List.mem_of_getElem? (i := 104) rfl))) (mvT hZ (hw _ (List.mem_of_getElem? (i := 105) rfl))) (notFace_of_selects (args := #[]) (mvT hZ (hw _ (List.mem_of_getElem? (i := 107) rfl)))) (mvT hZ (hw _ (List.mem_of_getElem? (i := 107) rfl))) (mvT hZ (hw _ (List.mem_of_getElem? (i := 106) rfl))) (by decide) (backOf (W := 0) (rm20 l Z _ hw [] a0 t l1 p1 g1 n n.toInt32.toInt64 h0 n0 Z0 g_a0 g_t E0 Fb Fl Fp M0 hne (own_i2l (by omega)) (by omega) (by have := own_len9 (n := n) (by omega); omega) hat) hZ (hw _ (List.mem_of_getElem? (i := 108) rfl)) (hw _ (List.mem_of_getElem? (i := 39) rfl)) (by decide) (by decide)) q1a q1c (g := (mkF m 1 #[.val (.ref a0), .unset, .unset, .unset] [(.ref a0)])) rfl (by rw [hml]; rfl) (Steps.refl _) (argsL := []) (rest := []) (lenOf pd_19 rfl) rfl (by show 2 * 0 + _ ≤ _; exact Nat.le_of_eq rfl) (hb hby d19_1) (fun _ _ => ⟨rfl, e0, (by decide : 0 + 0 ≤ _), (by decide : 0 + 0 ≤ _)⟩)
  dsimp only [Pt.U, Pt.locs, Pt.cells, Pt.slots] at X1 l1 y1 z1 st1 hQ1
  subst l1 y1 z1
  obtain ⟨rfl, N1q, hq1⟩ := hQ1
  have N1 := Fr.app N0 N1q
  obtain ⟨K1, Fb1, Fl1, Fp1, M1⟩ := hq1
  have F2_Z : own_SS Z T1.heap n0 z1 fm := own_SS_keep SS K1 (own_alS g_a0 own_al0)
  have F3_E : Exa Z T1.heap a0 "com/example/termwright/termwright/Spool$Record" := E0.keep K1
  have F4_P : own_M Z T1.heap t g1 := own_M_keep M0 K1 (ninS (Ne.symm hne) nin0)
  have Zs5 : n0 ≤ T1.heap.size := Nat.le_trans Z0 K1.1
  have Kc6 : Keep h0 T1.heap [a0] := (Keep.refl h0 [a0]).trans K1 (allS (Or.inl (List.mem_of_getElem? (i := 0) rfl)) all0)
  refine own_st ?_ (fun t_ k_ => st1.trans k_)
  show own_G p.tables e below _ _ (T1.setTop (mkF m 4 #[.val (.ref a0), .unset, .unset, .unset] [(.long n.toInt32.toInt64)]))
  obtain ⟨_, _, ⟨T7, L7, k7, n7⟩, -, X7, ⟨Lc7, hQ7, l7, y7, z7⟩, st7⟩ := Jvm.LawKit.callS X1 hx (y := (⟨"java/lang/Math", "toIntExact", "(J)I"⟩ : MethodName)) hown (mvT hZ (hw _ (List.mem_of_getElem? (i := 111) rfl))) (mvT hZ (hw _ (List.mem_of_getElem? (i := 112) rfl))) (mvT hZ (hw _ (List.mem_of_getElem? (i := 113) rfl))) (mvT hZ (hw _ (List.mem_of_getElem? (i := 114) rfl))) (by decide) (backOf (W := 0) (rm21 l Z _ hw [] n.toInt32.toInt64 n T1.heap n0 Zs5 (own_i2l (by omega)) (by omega)) hZ (hw _ (List.mem_of_getElem? (i := 114) rfl)) (hw _ (List.mem_of_getElem? (i := 113) rfl)) (by decide) (by decide)) (g := (mkF m 4 #[.val (.ref a0), .unset, .unset, .unset] [(.long n.toInt32.toInt64)])) rfl (by rw [hml]; rfl) (argsL := [(.long n.toInt32.toInt64)]) (rest := []) (lenOf pd_20 rfl) rfl (by show 2 * 0 + _ ≤ _; exact Nat.le_of_eq rfl) (hb hby d19_4) (fun _ _ => ⟨rfl, rfl, (by decide : 0 + 0 ≤ _), (by decide : 0 + 0 ≤ _)⟩)
  dsimp only [Pt.U, Pt.locs, Pt.cells, Pt.slots] at X7 l7 y7 z7 st7 hQ7
  subst l7 y7 z7
  obtain ⟨rfl, N7q, e7⟩ := hQ7
  have N7 := Fr.app N1 N7q
  refine own_st ?_ st7
  show own_G p.tables e below _ _ (T7.setTop (mkF m 7 #[.val (.ref a0), .unset, .unset, .unset] [(.int n.toInt32)]))
  obtain ⟨T8, h8, k8, X8, e8, E8, A8, st8⟩ := newP X7 hx hZ (hw _ (List.mem_of_getElem? (i := 9) rfl)) e7 (g := (mkF m 7 #[.val (.ref a0), .unset, .unset, .unset] [(.int n.toInt32)])) rfl (hb hby d19_7) rfl (own_neg (by omega)) (cap := 4) (by rw [own_clamp (by omega)]; omega) (by decide) (by decide) (by decide)
  obtain ⟨b8, gz8⟩ : ∃ z, z = T1.heap.size := ⟨_, rfl⟩
  rw [← gz8] at A8 st8
  have ne_a0_b8 : a0 ≠ b8 := Nat.ne_of_lt (Nat.lt_of_lt_of_le F3_E.lt (Nat.le_of_eq gz8.symm))
  have ne_t_b8 : t ≠ b8 := Nat.ne_of_lt (Nat.lt_of_lt_of_le (own_M_lt M1) (Nat.le_of_eq gz8.symm))
  have g_b8 : n0 ≤ b8 := Nat.le_trans Zs5 (Nat.le_of_eq gz8.symm)
  have sz_b8 : h0.size ≤ b8 := Nat.le_trans Kc6.1 (Nat.le_of_eq gz8.symm)
  have F9_Z : own_SS Z h8 n0 z1 fm := own_SS_ext F2_Z E8
  have F10_E : Exa Z h8 a0 "com/example/termwright/termwright/Spool$Record" := F3_E.ext E8
  have F11_bytes : Fld Z h8 a0 "com/example/termwright/termwright/Spool$Record" "bytes" "[B" (.ref t) := Fb1.ext E8
  have F12_length : Fld Z h8 a0 "com/example/termwright/termwright/Spool$Record" "length" "I" (.int (Int32.ofInt ((l1 : Nat) : Int))) := Fl1.ext E8
  have F13_position : Fld Z h8 a0 "com/example/termwright/termwright/Spool$Record" "position" "I" (.int (Int32.ofInt ((p1 + own_len n : Nat) : Int))) := Fp1.ext E8
  have F14_P : own_M Z h8 t g1 := own_M_ext M1 E8
  have Zs15 : n0 ≤ h8.size := Nat.le_trans Zs5 E8.1
  have Kc16 : Keep h0 h8 [a0] := Kc6.ext E8
  have Y_b8 : own_Y .char Z h8 b8 n (fun _ => 0) := own_Y_new (Arv.new A8 (own_neg (by omega))) (own_clamp (by omega))
  refine own_st ?_ st8
  show own_G p.tables e below _ _ (T8.setTop (mkF m 9 #[.val (.ref a0), .unset, .unset, .unset] [(.ref b8)]))
  refine own_st ?_ (fun t_ k_ => XS.astoreN X8.here hx rfl (hb hby d19_9) rfl rfl (l' := #[.val (.ref a0), .val (.ref b8), .unset, .unset]) rfl k_)
  show own_G p.tables e below _ _ (T8.setTop (mkF m 10 #[.val (.ref a0), .val (.ref b8), .unset, .unset] []))
  refine own_st ?_ (fun t_ k_ => XS.iconst X8.here hx rfl (hb hby d19_10) k_)
  show own_G p.tables e below _ _ (T8.setTop (mkF m 11 #[.val (.ref a0), .val (.ref b8), .unset, .unset] [(.int (0 : Int32))]))
  refine own_st ?_ (fun t_ k_ => XS.istoreN X8.here hx rfl (hb hby d19_11) rfl (l' := #[.val (.ref a0), .val (.ref b8), .val (.int (0 : Int32)), .unset]) rfl k_)
  show own_G p.tables e below _ _ (T8.setTop (mkF m 12 #[.val (.ref a0), .val (.ref b8), .val (.int (0 : Int32)), .unset] []))
  exact own_ltx hx hlk hZ hw hby hml hown hret hne hz1 hn0 hn hC g_a0 g_t g_b8 sz_b8 cs (kx := 0) (s3 := .unset) (px := p1 + own_len n) (CH := fun _ => 0) hTT (by have := own_len9 (n := n) (by omega); have := hTT.1; omega) hE (fun i hi => absurd hi (Nat.not_lt_zero i)) (Or.inl rfl) ne_a0_b8 ne_t_b8 X8 N7 e8 Kc16 F9_Z F10_E F11_bytes F12_length F13_position F14_P Y_b8 Zs15
def own_pk (a b c d : Int32) (i : Nat) : Int32 := if i = 0 then a else if i = 1 then b else if i = 2 then c else d
theorem own_pk_isC {a b c d : Int32} (ha : own_isC a) (hb : own_isC b) (hc : own_isC c) (hd : own_isC d) (i : Nat) : own_isC (own_pk a b c d i) := by
  unfold own_pk
  by_cases h0 : i = 0
  · rw [if_pos h0]; exact ha
  · rw [if_neg h0]
    by_cases h1 : i = 1
    · rw [if_pos h1]; exact hb
    · rw [if_neg h1]
      by_cases h2 : i = 2
      · rw [if_pos h2]; exact hc
      · rw [if_neg h2]; exact hd
theorem d1_0 : decode method_2_code 0 = .ok (.iload_n 0, 1) := by decide +kernel
theorem d1_1 : decode method_2_code 1 = .ok (.ifCond .ne 7, 3) := by decide +kernel
theorem d1_4 : decode method_2_code 4 = .ok (.iconst 0, 1) := by decide +kernel
theorem d1_5 : decode method_2_code 5 = .ok (.newarray .char, 2) := by decide +kernel
theorem d1_7 : decode method_2_code 7 = .ok (.areturn, 1) := by decide +kernel
theorem d1_8 : decode method_2_code 8 = .ok (.iload_n 0, 1) := by decide +kernel
theorem d1_9 : decode method_2_code 9 = .ok (.iconst 1, 1) := by decide +kernel
theorem d1_10 : decode method_2_code 10 = .ok (.if_icmp .ne 11, 3) := by decide +kernel
theorem d1_13 : decode method_2_code 13 = .ok (.iconst 1, 1) := by decide +kernel
theorem d1_14 : decode method_2_code 14 = .ok (.newarray .char, 2) := by decide +kernel
theorem d1_16 : decode method_2_code 16 = .ok (.dup, 1) := by decide +kernel
theorem d1_17 : decode method_2_code 17 = .ok (.iconst 0, 1) := by decide +kernel
theorem d1_18 : decode method_2_code 18 = .ok (.iload_n 1, 1) := by decide +kernel
theorem d1_19 : decode method_2_code 19 = .ok (.castore, 1) := by decide +kernel
theorem d1_20 : decode method_2_code 20 = .ok (.areturn, 1) := by decide +kernel
theorem d1_21 : decode method_2_code 21 = .ok (.iload_n 0, 1) := by decide +kernel
theorem d1_22 : decode method_2_code 22 = .ok (.iconst 2, 1) := by decide +kernel
theorem d1_23 : decode method_2_code 23 = .ok (.if_icmp .ne 15, 3) := by decide +kernel
theorem d1_26 : decode method_2_code 26 = .ok (.iconst 2, 1) := by decide +kernel
theorem d1_27 : decode method_2_code 27 = .ok (.newarray .char, 2) := by decide +kernel
theorem d1_29 : decode method_2_code 29 = .ok (.dup, 1) := by decide +kernel
theorem d1_30 : decode method_2_code 30 = .ok (.iconst 0, 1) := by decide +kernel
theorem d1_31 : decode method_2_code 31 = .ok (.iload_n 1, 1) := by decide +kernel
theorem d1_32 : decode method_2_code 32 = .ok (.castore, 1) := by decide +kernel
theorem d1_33 : decode method_2_code 33 = .ok (.dup, 1) := by decide +kernel
theorem d1_34 : decode method_2_code 34 = .ok (.iconst 1, 1) := by decide +kernel
theorem d1_35 : decode method_2_code 35 = .ok (.iload_n 2, 1) := by decide +kernel
theorem d1_36 : decode method_2_code 36 = .ok (.castore, 1) := by decide +kernel
theorem d1_37 : decode method_2_code 37 = .ok (.areturn, 1) := by decide +kernel
theorem d1_38 : decode method_2_code 38 = .ok (.iload_n 0, 1) := by decide +kernel
theorem d1_39 : decode method_2_code 39 = .ok (.iconst 3, 1) := by decide +kernel
theorem d1_40 : decode method_2_code 40 = .ok (.if_icmp .ne 19, 3) := by decide +kernel
theorem d1_43 : decode method_2_code 43 = .ok (.iconst 3, 1) := by decide +kernel
theorem d1_44 : decode method_2_code 44 = .ok (.newarray .char, 2) := by decide +kernel
theorem d1_46 : decode method_2_code 46 = .ok (.dup, 1) := by decide +kernel
theorem d1_47 : decode method_2_code 47 = .ok (.iconst 0, 1) := by decide +kernel
theorem d1_48 : decode method_2_code 48 = .ok (.iload_n 1, 1) := by decide +kernel
theorem d1_49 : decode method_2_code 49 = .ok (.castore, 1) := by decide +kernel
theorem d1_50 : decode method_2_code 50 = .ok (.dup, 1) := by decide +kernel
theorem d1_51 : decode method_2_code 51 = .ok (.iconst 1, 1) := by decide +kernel
theorem d1_52 : decode method_2_code 52 = .ok (.iload_n 2, 1) := by decide +kernel
theorem d1_53 : decode method_2_code 53 = .ok (.castore, 1) := by decide +kernel
theorem d1_54 : decode method_2_code 54 = .ok (.dup, 1) := by decide +kernel
theorem d1_55 : decode method_2_code 55 = .ok (.iconst 2, 1) := by decide +kernel
theorem d1_56 : decode method_2_code 56 = .ok (.iload_n 3, 1) := by decide +kernel
theorem d1_57 : decode method_2_code 57 = .ok (.castore, 1) := by decide +kernel
theorem d1_58 : decode method_2_code 58 = .ok (.areturn, 1) := by decide +kernel
theorem d1_59 : decode method_2_code 59 = .ok (.iconst 4, 1) := by decide +kernel
theorem d1_60 : decode method_2_code 60 = .ok (.newarray .char, 2) := by decide +kernel
theorem d1_62 : decode method_2_code 62 = .ok (.dup, 1) := by decide +kernel
theorem d1_63 : decode method_2_code 63 = .ok (.iconst 0, 1) := by decide +kernel
theorem d1_64 : decode method_2_code 64 = .ok (.iload_n 1, 1) := by decide +kernel
theorem d1_65 : decode method_2_code 65 = .ok (.castore, 1) := by decide +kernel
theorem d1_66 : decode method_2_code 66 = .ok (.dup, 1) := by decide +kernel
theorem d1_67 : decode method_2_code 67 = .ok (.iconst 1, 1) := by decide +kernel
theorem d1_68 : decode method_2_code 68 = .ok (.iload_n 2, 1) := by decide +kernel
theorem d1_69 : decode method_2_code 69 = .ok (.castore, 1) := by decide +kernel
theorem d1_70 : decode method_2_code 70 = .ok (.dup, 1) := by decide +kernel
theorem d1_71 : decode method_2_code 71 = .ok (.iconst 2, 1) := by decide +kernel
theorem d1_72 : decode method_2_code 72 = .ok (.iload_n 3, 1) := by decide +kernel
theorem d1_73 : decode method_2_code 73 = .ok (.castore, 1) := by decide +kernel
theorem d1_74 : decode method_2_code 74 = .ok (.dup, 1) := by decide +kernel
theorem d1_75 : decode method_2_code 75 = .ok (.iconst 3, 1) := by decide +kernel
theorem d1_76 : decode method_2_code 76 = .ok (.iload 4, 2) := by decide +kernel
theorem d1_78 : decode method_2_code 78 = .ok (.castore, 1) := by decide +kernel
theorem d1_79 : decode method_2_code 79 = .ok (.areturn, 1) := by decide +kernel
theorem pn_1 : plainName "com/example/termwright/termwright/RecordTextPinLaw" = true := by first | (simp [plainName, overriddenIn]; done) | decide +kernel
theorem ef_1 (m : MethodId) (p0 : Int32) (p1 : Int32) (p2 : Int32) (p3 : Int32) (p4 : Int32) : entryFrame m #[(.int p0), (.int p1), (.int p2), (.int p3), (.int p4)] 5 = mkF m 0 #[.val (.int p0), .val (.int p1), .val (.int p2), .val (.int p3), .val (.int p4)] [] := by first | (simp [entryFrame, mkF, argsToLocals, Value.category]; done) | rfl
set_option maxRecDepth 65536 in
set_option maxHeartbeats 40000000 in
theorem rm1 (l : Launch) (Z : State) (a0 : Array Value) (hw : ∀ d ∈ tables_1, d.before a0 Z = true) (ws : List Jvm.Cond) (p0 : Int32) (p1 : Int32) (p2 : Int32) (p3 : Int32) (p4 : Int32) (n : Nat) (h0 : Heap) (n0 : Nat) (Z0 : n0 ≤ h0.size) (hp : p0 = n.toInt32) (hn4 : n ≤ 4) (hk1 : own_isC p1) (hk2 : own_isC p2) (hk3 : own_isC p3) (hk4 : own_isC p4) :
    MetFree l (⟨"com/example/termwright/termwright/RecordTextPinLaw", "pick", "(ICCCC)[C"⟩ : MethodName) (head1 (Jvm.Cond.code (⟨"com/example/termwright/termwright/RecordTextPinLaw", "pick", "(ICCCC)[C"⟩ : MethodName) method_2_code 5 (some (.array .char)) :: ws) ({ frames := 0, cells := 1, slots := 4, locals := 0 } : Room)) (fun a U => a = #[(.int p0), (.int p1), (.int p2), (.int p3), (.int p4)] ∧ Z.Warmed39 U.vm ∧ U.heap = h0) (fun _ _ _ _ _ => True) (fun _ U o U' => ∃ v L, o = .returned v ∧ own_QN1 (fun h t => own_Y .char Z h t n (own_pk p1 p2 p3 p4)) h0 n0 v U'.heap L ∧ FrameEnd U o U' L ({ frames := 0, cells := 1, slots := 4, locals := 0 } : Room).cells ({ frames := 0, cells := 1, slots := 4, locals := 0 } : Room).slots) := by
  refine MetFree.of_bodySF (plainFor_of_name pn_1) hisR ?_
  intro p e s m args below meth c s₁ Bd hml0 hP hK
  obtain ⟨rfl, hZ, hh⟩ := hP
  have hx := Bd.exec
  have hby := Bd.bytes
  have hlk : meth.locks = false := BodyLoose.notSynchronized Bd
  have hret := Bd.returns
  have hml : c.maxLocals = 5 := hml0
  have hown : s.vm.findClass "com/example/termwright/termwright/RecordTextPinLaw" = some m.cls := findClass_of_methodNamed Bd.named
  have hnm := (name_of_methodNamed Bd.named Bd.method).1
  have X0 : Stand p l e ({ frames := 0, cells := 1, slots := 4, locals := 0 } : Room) s m #[(.int p0), (.int p1), (.int p2), (.int p3), (.int p4)] below meth c s₁ [] 0 0 := Stand.of_body Bd
  have e0 : s₁.heap = h0 := by rw [← hh, Bd.state]; rfl
  have N0 := Fr.nil n0
  show own_G p.tables e below (own_E s ({ frames := 0, cells := 1, slots := 4, locals := 0 } : Room).cells ({ frames := 0, cells := 1, slots := 4, locals := 0 } : Room).slots) (own_QN1 (fun h t => own_Y .char Z h t n (own_pk p1 p2 p3 p4)) h0 n0) (s₁.setTop (entryFrame m #[(.int p0), (.int p1), (.int p2), (.int p3), (.int p4)] 5))
  refine own_st ?_ (fun t_ k_ => castTop (ef_1 m p0 p1 p2 p3 p4) k_)
  show own_G p.tables e below _ _ (s₁.setTop (mkF m 0 #[.val (.int p0), .val (.int p1), .val (.int p2), .val (.int p3), .val (.int p4)] []))
  refine own_st ?_ (fun t_ k_ => XS.iloadN X0.here hx rfl (hb hby d1_0) rfl k_)
  show own_G p.tables e below _ _ (s₁.setTop (mkF m 1 #[.val (.int p0), .val (.int p1), .val (.int p2), .val (.int p3), .val (.int p4)] [(.int p0)]))
  by_cases hc1 : p0 = (0 : Int32)
  · refine own_st ?_ (fun t_ k_ => XS.ifNo X0.here hx rfl (hb hby d1_1) rfl ((if0 _ _).trans (teq hc1).2) k_)
    show own_G p.tables e below _ _ (s₁.setTop (mkF m 4 #[.val (.int p0), .val (.int p1), .val (.int p2), .val (.int p3), .val (.int p4)] []))
    refine own_st ?_ (fun t_ k_ => XS.iconst X0.here hx rfl (hb hby d1_4) k_)
    show own_G p.tables e below _ _ (s₁.setTop (mkF m 5 #[.val (.int p0), .val (.int p1), .val (.int p2), .val (.int p3), .val (.int p4)] [(.int (0 : Int32))]))
    obtain ⟨T1, h1, k1, X1, e1, E1, A1, st1⟩ := newP X0 hx hZ (hw _ (List.mem_of_getElem? (i := 9) rfl)) e0 (g := (mkF m 5 #[.val (.int p0), .val (.int p1), .val (.int p2), .val (.int p3), .val (.int p4)] [(.int (0 : Int32))])) rfl (hb hby d1_5) rfl (by decide) (cap := 0) (by decide) (by decide) (by decide) (by decide)
    obtain ⟨b1, gz1⟩ : ∃ z, z = h0.size := ⟨_, rfl⟩
    rw [← gz1] at A1 st1
    have g_b1 : n0 ≤ b1 := Nat.le_trans Z0 (Nat.le_of_eq gz1.symm)
    have sz_b1 : h0.size ≤ b1 := Nat.le_trans (Keep.refl h0 []).1 (Nat.le_of_eq gz1.symm)
    have Zs2 : n0 ≤ h1.size := Nat.le_trans Z0 E1.1
    have Kc3 : Keep h0 h1 [] := (Keep.refl h0 []).ext E1
    have Y_b1 : own_Y .char Z h1 b1 0 (fun _ => 0) := own_Y_new (Arv.new A1 (by decide)) (by decide)
    refine own_st ?_ st1
    show own_G p.tables e below _ _ (T1.setTop (mkF m 7 #[.val (.int p0), .val (.int p1), .val (.int p2), .val (.int p3), .val (.int p4)] [(.ref b1)]))
    have q_hc1 : n = 0 := (own_teq (b := 0) (by omega) (by decide)).mp (hp.symm.trans hc1)
    have hkn : 0 = n := by omega
    refine own_retA X1 hx hlk hret rfl rfl rfl (hb hby d1_7) (by decide) (by decide) ⟨b1, rfl, N0, ?_⟩
    rw [e1]
    exact ⟨Kc3, sz_b1, own_Y_congr Y_b1 hkn (fun i hi => absurd hi (Nat.not_lt_zero i))⟩
  · refine own_st ?_ (fun t_ k_ => XS.ifYes X0.here hx rfl (pc0 := 1) (pc' := 8) rfl (hb hby d1_1) rfl ((if0 _ _).trans (feq hc1).2) (by decide) (by decide) k_)
    show own_G p.tables e below _ _ (s₁.setTop (mkF m 8 #[.val (.int p0), .val (.int p1), .val (.int p2), .val (.int p3), .val (.int p4)] []))
    refine own_st ?_ (fun t_ k_ => XS.iloadN X0.here hx rfl (hb hby d1_8) rfl k_)
    show own_G p.tables e below _ _ (s₁.setTop (mkF m 9 #[.val (.int p0), .val (.int p1), .val (.int p2), .val (.int p3), .val (.int p4)] [(.int p0)]))
    refine own_st ?_ (fun t_ k_ => XS.iconst X0.here hx rfl (hb hby d1_9) k_)
    show own_G p.tables e below _ _ (s₁.setTop (mkF m 10 #[.val (.int p0), .val (.int p1), .val (.int p2), .val (.int p3), .val (.int p4)] [(.int (1 : Int32)), (.int p0)]))
    by_cases hc10 : p0 = (1 : Int32)
    · refine own_st ?_ (fun t_ k_ => XS.icmpNo X0.here hx rfl (hb hby d1_10) rfl (teq hc10).2 k_)
      show own_G p.tables e below _ _ (s₁.setTop (mkF m 13 #[.val (.int p0), .val (.int p1), .val (.int p2), .val (.int p3), .val (.int p4)] []))
      refine own_st ?_ (fun t_ k_ => XS.iconst X0.here hx rfl (hb hby d1_13) k_)
      show own_G p.tables e below _ _ (s₁.setTop (mkF m 14 #[.val (.int p0), .val (.int p1), .val (.int p2), .val (.int p3), .val (.int p4)] [(.int (1 : Int32))]))
      obtain ⟨T4, h4, k4, X4, e4, E4, A4, st4⟩ := newP X0 hx hZ (hw _ (List.mem_of_getElem? (i := 9) rfl)) e0 (g := (mkF m 14 #[.val (.int p0), .val (.int p1), .val (.int p2), .val (.int p3), .val (.int p4)] [(.int (1 : Int32))])) rfl (hb hby d1_14) rfl (by decide) (cap := 1) (by decide) (by decide) (by decide) (by decide)
      obtain ⟨b4, gz4⟩ : ∃ z, z = h0.size := ⟨_, rfl⟩
      rw [← gz4] at A4 st4
      have g_b4 : n0 ≤ b4 := Nat.le_trans Z0 (Nat.le_of_eq gz4.symm)
      have sz_b4 : h0.size ≤ b4 := Nat.le_trans (Keep.refl h0 []).1 (Nat.le_of_eq gz4.symm)
      have Zs5 : n0 ≤ h4.size := Nat.le_trans Z0 E4.1
      have Kc6 : Keep h0 h4 [] := (Keep.refl h0 []).ext E4
      have Y_b4 : own_Y .char Z h4 b4 1 (fun _ => 0) := own_Y_new (Arv.new A4 (by decide)) (by decide)
      refine own_st ?_ st4
      show own_G p.tables e below _ _ (T4.setTop (mkF m 16 #[.val (.int p0), .val (.int p1), .val (.int p2), .val (.int p3), .val (.int p4)] [(.ref b4)]))
      refine own_st ?_ (fun t_ k_ => XS.dup X4.here hx rfl (hb hby d1_16) rfl rfl k_)
      show own_G p.tables e below _ _ (T4.setTop (mkF m 17 #[.val (.int p0), .val (.int p1), .val (.int p2), .val (.int p3), .val (.int p4)] [(.ref b4), (.ref b4)]))
      refine own_st ?_ (fun t_ k_ => XS.iconst X4.here hx rfl (hb hby d1_17) k_)
      show own_G p.tables e below _ _ (T4.setTop (mkF m 18 #[.val (.int p0), .val (.int p1), .val (.int p2), .val (.int p3), .val (.int p4)] [(.int (0 : Int32)), (.ref b4), (.ref b4)]))
      refine own_st ?_ (fun t_ k_ => XS.iloadN X4.here hx rfl (hb hby d1_18) rfl k_)
      show own_G p.tables e below _ _ (T4.setTop (mkF m 19 #[.val (.int p0), .val (.int p1), .val (.int p2), .val (.int p3), .val (.int p4)] [(.int p1), (.int (0 : Int32)), (.ref b4), (.ref b4)]))
      have ix7 := own_ix (j := (0 : Int32)) (k := 0) (n := 1) (by decide) (by decide) (by decide)
      obtain ⟨cl7, Ar7, Sz7, G7⟩ := Y_b4
      have hin7 : ¬ ((0 : Int32) < 0 ∨ cl7.slots.size ≤ ((0 : Int32)).toNatClampNeg) := by rw [Sz7]; exact ix7.1
      obtain ⟨T7, h7, X7, e7, W7, st7⟩ := stC X4 hx hZ e4 Ar7 (j := (0 : Int32)) hin7 (g := (mkF m 19 #[.val (.int p0), .val (.int p1), .val (.int p2), .val (.int p3), .val (.int p4)] [(.int p1), (.int (0 : Int32)), (.ref b4), (.ref b4)])) rfl rfl (hb hby d1_19)
      have N7 := Fr.snoc X7 N0 g_b4
      have Yo7 : own_Y .char Z h4 b4 1 (fun _ => 0) := ⟨cl7, Ar7, Sz7, G7⟩
      have Zs8 : n0 ≤ h7.size := Nat.le_trans Zs5 (Keep.of_wr W7).1
      have Kc9 : Keep h0 h7 [] := Kc6.wr W7 (Or.inr sz_b4)
      have Y7 : own_Y .char Z h7 b4 1 (own_upd (fun _ => 0) 0 (nar .char p1)) := own_Y_set Yo7 W7 ix7.2
      refine own_st ?_ st7
      show own_G p.tables e below _ _ (T7.setTop (mkF m 20 #[.val (.int p0), .val (.int p1), .val (.int p2), .val (.int p3), .val (.int p4)] [(.ref b4)]))
      have q_hc1 : ¬ n = 0 := fun z => hc1 (hp.trans ((own_teq (a := n) (b := 0) (by omega) (by decide)).mpr z))
      have q_hc10 : n = 1 := (own_teq (b := 1) (by omega) (by decide)).mp (hp.symm.trans hc10)
      have hkn : 1 = n := by omega
      have hch : ∀ i, i < 1 → (own_upd (fun _ => 0) 0 (nar .char p1)) i = (own_pk p1 p2 p3 p4) i := by
        intro i hi
        have hi' : i = 0 := by omega
        subst hi'
        exact (show (own_upd (fun _ => 0) 0 (nar .char p1)) 0 = nar .char p1 by simp [own_upd]).trans ((own_chr_id hk1).trans (show p1 = (own_pk p1 p2 p3 p4) 0 by simp [own_pk]))
      refine own_retA X7 hx hlk hret rfl rfl rfl (hb hby d1_20) (by decide) (by decide) ⟨b4, rfl, N7, ?_⟩
      rw [e7]
      exact ⟨Kc9, sz_b4, own_Y_congr Y7 hkn hch⟩
    · refine own_st ?_ (fun t_ k_ => XS.icmpYes X0.here hx rfl (pc0 := 10) (pc' := 21) rfl (hb hby d1_10) rfl (feq hc10).2 (by decide) (by decide) k_)
      show own_G p.tables e below _ _ (s₁.setTop (mkF m 21 #[.val (.int p0), .val (.int p1), .val (.int p2), .val (.int p3), .val (.int p4)] []))
      refine own_st ?_ (fun t_ k_ => XS.iloadN X0.here hx rfl (hb hby d1_21) rfl k_)
      show own_G p.tables e below _ _ (s₁.setTop (mkF m 22 #[.val (.int p0), .val (.int p1), .val (.int p2), .val (.int p3), .val (.int p4)] [(.int p0)]))
      refine own_st ?_ (fun t_ k_ => XS.iconst X0.here hx rfl (hb hby d1_22) k_)
      show own_G p.tables e below _ _ (s₁.setTop (mkF m 23 #[.val (.int p0), .val (.int p1), .val (.int p2), .val (.int p3), .val (.int p4)] [(.int (2 : Int32)), (.int p0)]))
      by_cases hc23 : p0 = (2 : Int32)
      · refine own_st ?_ (fun t_ k_ => XS.icmpNo X0.here hx rfl (hb hby d1_23) rfl (teq hc23).2 k_)
        show own_G p.tables e below _ _ (s₁.setTop (mkF m 26 #[.val (.int p0), .val (.int p1), .val (.int p2), .val (.int p3), .val (.int p4)] []))
        refine own_st ?_ (fun t_ k_ => XS.iconst X0.here hx rfl (hb hby d1_26) k_)
        show own_G p.tables e below _ _ (s₁.setTop (mkF m 27 #[.val (.int p0), .val (.int p1), .val (.int p2), .val (.int p3), .val (.int p4)] [(.int (2 : Int32))]))
        obtain ⟨T10, h10, k10, X10, e10, E10, A10, st10⟩ := newP X0 hx hZ (hw _ (List.mem_of_getElem? (i := 9) rfl)) e0 (g := (mkF m 27 #[.val (.int p0), .val (.int p1), .val (.int p2), .val (.int p3), .val (.int p4)] [(.int (2 : Int32))])) rfl (hb hby d1_27) rfl (by decide) (cap := 2) (by decide) (by decide) (by decide) (by decide)
        obtain ⟨b10, gz10⟩ : ∃ z, z = h0.size := ⟨_, rfl⟩
        rw [← gz10] at A10 st10
        have g_b10 : n0 ≤ b10 := Nat.le_trans Z0 (Nat.le_of_eq gz10.symm)
        have sz_b10 : h0.size ≤ b10 := Nat.le_trans (Keep.refl h0 []).1 (Nat.le_of_eq gz10.symm)
        have Zs11 : n0 ≤ h10.size := Nat.le_trans Z0 E10.1
        have Kc12 : Keep h0 h10 [] := (Keep.refl h0 []).ext E10
        have Y_b10 : own_Y .char Z h10 b10 2 (fun _ => 0) := own_Y_new (Arv.new A10 (by decide)) (by decide)
        refine own_st ?_ st10
        show own_G p.tables e below _ _ (T10.setTop (mkF m 29 #[.val (.int p0), .val (.int p1), .val (.int p2), .val (.int p3), .val (.int p4)] [(.ref b10)]))
        refine own_st ?_ (fun t_ k_ => XS.dup X10.here hx rfl (hb hby d1_29) rfl rfl k_)
        show own_G p.tables e below _ _ (T10.setTop (mkF m 30 #[.val (.int p0), .val (.int p1), .val (.int p2), .val (.int p3), .val (.int p4)] [(.ref b10), (.ref b10)]))
        refine own_st ?_ (fun t_ k_ => XS.iconst X10.here hx rfl (hb hby d1_30) k_)
        show own_G p.tables e below _ _ (T10.setTop (mkF m 31 #[.val (.int p0), .val (.int p1), .val (.int p2), .val (.int p3), .val (.int p4)] [(.int (0 : Int32)), (.ref b10), (.ref b10)]))
        refine own_st ?_ (fun t_ k_ => XS.iloadN X10.here hx rfl (hb hby d1_31) rfl k_)
        show own_G p.tables e below _ _ (T10.setTop (mkF m 32 #[.val (.int p0), .val (.int p1), .val (.int p2), .val (.int p3), .val (.int p4)] [(.int p1), (.int (0 : Int32)), (.ref b10), (.ref b10)]))
        have ix13 := own_ix (j := (0 : Int32)) (k := 0) (n := 2) (by decide) (by decide) (by decide)
        obtain ⟨cl13, Ar13, Sz13, G13⟩ := Y_b10
        have hin13 : ¬ ((0 : Int32) < 0 ∨ cl13.slots.size ≤ ((0 : Int32)).toNatClampNeg) := by rw [Sz13]; exact ix13.1
        obtain ⟨T13, h13, X13, e13, W13, st13⟩ := stC X10 hx hZ e10 Ar13 (j := (0 : Int32)) hin13 (g := (mkF m 32 #[.val (.int p0), .val (.int p1), .val (.int p2), .val (.int p3), .val (.int p4)] [(.int p1), (.int (0 : Int32)), (.ref b10), (.ref b10)])) rfl rfl (hb hby d1_32)
        have N13 := Fr.snoc X13 N0 g_b10
        have Yo13 : own_Y .char Z h10 b10 2 (fun _ => 0) := ⟨cl13, Ar13, Sz13, G13⟩
        have Zs14 : n0 ≤ h13.size := Nat.le_trans Zs11 (Keep.of_wr W13).1
        have Kc15 : Keep h0 h13 [] := Kc12.wr W13 (Or.inr sz_b10)
        have Y13 : own_Y .char Z h13 b10 2 (own_upd (fun _ => 0) 0 (nar .char p1)) := own_Y_set Yo13 W13 ix13.2
        refine own_st ?_ st13
        show own_G p.tables e below _ _ (T13.setTop (mkF m 33 #[.val (.int p0), .val (.int p1), .val (.int p2), .val (.int p3), .val (.int p4)] [(.ref b10)]))
        refine own_st ?_ (fun t_ k_ => XS.dup X13.here hx rfl (hb hby d1_33) rfl rfl k_)
        show own_G p.tables e below _ _ (T13.setTop (mkF m 34 #[.val (.int p0), .val (.int p1), .val (.int p2), .val (.int p3), .val (.int p4)] [(.ref b10), (.ref b10)]))
        refine own_st ?_ (fun t_ k_ => XS.iconst X13.here hx rfl (hb hby d1_34) k_)
        show own_G p.tables e below _ _ (T13.setTop (mkF m 35 #[.val (.int p0), .val (.int p1), .val (.int p2), .val (.int p3), .val (.int p4)] [(.int (1 : Int32)), (.ref b10), (.ref b10)]))
        refine own_st ?_ (fun t_ k_ => XS.iloadN X13.here hx rfl (hb hby d1_35) rfl k_)
        show own_G p.tables e below _ _ (T13.setTop (mkF m 36 #[.val (.int p0), .val (.int p1), .val (.int p2), .val (.int p3), .val (.int p4)] [(.int p2), (.int (1 : Int32)), (.ref b10), (.ref b10)]))
        have ix16 := own_ix (j := (1 : Int32)) (k := 1) (n := 2) (by decide) (by decide) (by decide)
        obtain ⟨cl16, Ar16, Sz16, G16⟩ := Y13
        have hin16 : ¬ ((1 : Int32) < 0 ∨ cl16.slots.size ≤ ((1 : Int32)).toNatClampNeg) := by rw [Sz16]; exact ix16.1
        obtain ⟨T16, h16, X16, e16, W16, st16⟩ := stC X13 hx hZ e13 Ar16 (j := (1 : Int32)) hin16 (g := (mkF m 36 #[.val (.int p0), .val (.int p1), .val (.int p2), .val (.int p3), .val (.int p4)] [(.int p2), (.int (1 : Int32)), (.ref b10), (.ref b10)])) rfl rfl (hb hby d1_36)
        have N16 := Fr.snoc X16 N13 g_b10
        have Yo16 : own_Y .char Z h13 b10 2 (own_upd (fun _ => 0) 0 (nar .char p1)) := ⟨cl16, Ar16, Sz16, G16⟩
        have Zs17 : n0 ≤ h16.size := Nat.le_trans Zs14 (Keep.of_wr W16).1
        have Kc18 : Keep h0 h16 [] := Kc15.wr W16 (Or.inr sz_b10)
        have Y16 : own_Y .char Z h16 b10 2 (own_upd (own_upd (fun _ => 0) 0 (nar .char p1)) 1 (nar .char p2)) := own_Y_set Yo16 W16 ix16.2
        refine own_st ?_ st16
        show own_G p.tables e below _ _ (T16.setTop (mkF m 37 #[.val (.int p0), .val (.int p1), .val (.int p2), .val (.int p3), .val (.int p4)] [(.ref b10)]))
        have q_hc1 : ¬ n = 0 := fun z => hc1 (hp.trans ((own_teq (a := n) (b := 0) (by omega) (by decide)).mpr z))
        have q_hc10 : ¬ n = 1 := fun z => hc10 (hp.trans ((own_teq (a := n) (b := 1) (by omega) (by decide)).mpr z))
        have q_hc23 : n = 2 := (own_teq (b := 2) (by omega) (by decide)).mp (hp.symm.trans hc23)
        have hkn : 2 = n := by omega
        have hch : ∀ i, i < 2 → (own_upd (own_upd (fun _ => 0) 0 (nar .char p1)) 1 (nar .char p2)) i = (own_pk p1 p2 p3 p4) i := by
          intro i hi
          have hi' : i = 0 ∨ i = 1 := by omega
          rcases hi' with rfl | rfl
          · exact (show (own_upd (own_upd (fun _ => 0) 0 (nar .char p1)) 1 (nar .char p2)) 0 = nar .char p1 by simp [own_upd]).trans ((own_chr_id hk1).trans (show p1 = (own_pk p1 p2 p3 p4) 0 by simp [own_pk]))
          · exact (show (own_upd (own_upd (fun _ => 0) 0 (nar .char p1)) 1 (nar .char p2)) 1 = nar .char p2 by simp [own_upd]).trans ((own_chr_id hk2).trans (show p2 = (own_pk p1 p2 p3 p4) 1 by simp [own_pk]))
        refine own_retA X16 hx hlk hret rfl rfl rfl (hb hby d1_37) (by decide) (by decide) ⟨b10, rfl, N16, ?_⟩
        rw [e16]
        exact ⟨Kc18, sz_b10, own_Y_congr Y16 hkn hch⟩
      · refine own_st ?_ (fun t_ k_ => XS.icmpYes X0.here hx rfl (pc0 := 23) (pc' := 38) rfl (hb hby d1_23) rfl (feq hc23).2 (by decide) (by decide) k_)
        show own_G p.tables e below _ _ (s₁.setTop (mkF m 38 #[.val (.int p0), .val (.int p1), .val (.int p2), .val (.int p3), .val (.int p4)] []))
        refine own_st ?_ (fun t_ k_ => XS.iloadN X0.here hx rfl (hb hby d1_38) rfl k_)
        show own_G p.tables e below _ _ (s₁.setTop (mkF m 39 #[.val (.int p0), .val (.int p1), .val (.int p2), .val (.int p3), .val (.int p4)] [(.int p0)]))
        refine own_st ?_ (fun t_ k_ => XS.iconst X0.here hx rfl (hb hby d1_39) k_)
        show own_G p.tables e below _ _ (s₁.setTop (mkF m 40 #[.val (.int p0), .val (.int p1), .val (.int p2), .val (.int p3), .val (.int p4)] [(.int (3 : Int32)), (.int p0)]))
        by_cases hc40 : p0 = (3 : Int32)
        · refine own_st ?_ (fun t_ k_ => XS.icmpNo X0.here hx rfl (hb hby d1_40) rfl (teq hc40).2 k_)
          show own_G p.tables e below _ _ (s₁.setTop (mkF m 43 #[.val (.int p0), .val (.int p1), .val (.int p2), .val (.int p3), .val (.int p4)] []))
          refine own_st ?_ (fun t_ k_ => XS.iconst X0.here hx rfl (hb hby d1_43) k_)
          show own_G p.tables e below _ _ (s₁.setTop (mkF m 44 #[.val (.int p0), .val (.int p1), .val (.int p2), .val (.int p3), .val (.int p4)] [(.int (3 : Int32))]))
          obtain ⟨T19, h19, k19, X19, e19, E19, A19, st19⟩ := newP X0 hx hZ (hw _ (List.mem_of_getElem? (i := 9) rfl)) e0 (g := (mkF m 44 #[.val (.int p0), .val (.int p1), .val (.int p2), .val (.int p3), .val (.int p4)] [(.int (3 : Int32))])) rfl (hb hby d1_44) rfl (by decide) (cap := 3) (by decide) (by decide) (by decide) (by decide)
          obtain ⟨b19, gz19⟩ : ∃ z, z = h0.size := ⟨_, rfl⟩
          rw [← gz19] at A19 st19
          have g_b19 : n0 ≤ b19 := Nat.le_trans Z0 (Nat.le_of_eq gz19.symm)
          have sz_b19 : h0.size ≤ b19 := Nat.le_trans (Keep.refl h0 []).1 (Nat.le_of_eq gz19.symm)
          have Zs20 : n0 ≤ h19.size := Nat.le_trans Z0 E19.1
          have Kc21 : Keep h0 h19 [] := (Keep.refl h0 []).ext E19
          have Y_b19 : own_Y .char Z h19 b19 3 (fun _ => 0) := own_Y_new (Arv.new A19 (by decide)) (by decide)
          refine own_st ?_ st19
          show own_G p.tables e below _ _ (T19.setTop (mkF m 46 #[.val (.int p0), .val (.int p1), .val (.int p2), .val (.int p3), .val (.int p4)] [(.ref b19)]))
          refine own_st ?_ (fun t_ k_ => XS.dup X19.here hx rfl (hb hby d1_46) rfl rfl k_)
          show own_G p.tables e below _ _ (T19.setTop (mkF m 47 #[.val (.int p0), .val (.int p1), .val (.int p2), .val (.int p3), .val (.int p4)] [(.ref b19), (.ref b19)]))
          refine own_st ?_ (fun t_ k_ => XS.iconst X19.here hx rfl (hb hby d1_47) k_)
          show own_G p.tables e below _ _ (T19.setTop (mkF m 48 #[.val (.int p0), .val (.int p1), .val (.int p2), .val (.int p3), .val (.int p4)] [(.int (0 : Int32)), (.ref b19), (.ref b19)]))
          refine own_st ?_ (fun t_ k_ => XS.iloadN X19.here hx rfl (hb hby d1_48) rfl k_)
          show own_G p.tables e below _ _ (T19.setTop (mkF m 49 #[.val (.int p0), .val (.int p1), .val (.int p2), .val (.int p3), .val (.int p4)] [(.int p1), (.int (0 : Int32)), (.ref b19), (.ref b19)]))
          have ix22 := own_ix (j := (0 : Int32)) (k := 0) (n := 3) (by decide) (by decide) (by decide)
          obtain ⟨cl22, Ar22, Sz22, G22⟩ := Y_b19
          have hin22 : ¬ ((0 : Int32) < 0 ∨ cl22.slots.size ≤ ((0 : Int32)).toNatClampNeg) := by rw [Sz22]; exact ix22.1
          obtain ⟨T22, h22, X22, e22, W22, st22⟩ := stC X19 hx hZ e19 Ar22 (j := (0 : Int32)) hin22 (g := (mkF m 49 #[.val (.int p0), .val (.int p1), .val (.int p2), .val (.int p3), .val (.int p4)] [(.int p1), (.int (0 : Int32)), (.ref b19), (.ref b19)])) rfl rfl (hb hby d1_49)
          have N22 := Fr.snoc X22 N0 g_b19
          have Yo22 : own_Y .char Z h19 b19 3 (fun _ => 0) := ⟨cl22, Ar22, Sz22, G22⟩
          have Zs23 : n0 ≤ h22.size := Nat.le_trans Zs20 (Keep.of_wr W22).1
          have Kc24 : Keep h0 h22 [] := Kc21.wr W22 (Or.inr sz_b19)
          have Y22 : own_Y .char Z h22 b19 3 (own_upd (fun _ => 0) 0 (nar .char p1)) := own_Y_set Yo22 W22 ix22.2
          refine own_st ?_ st22
          show own_G p.tables e below _ _ (T22.setTop (mkF m 50 #[.val (.int p0), .val (.int p1), .val (.int p2), .val (.int p3), .val (.int p4)] [(.ref b19)]))
          refine own_st ?_ (fun t_ k_ => XS.dup X22.here hx rfl (hb hby d1_50) rfl rfl k_)
          show own_G p.tables e below _ _ (T22.setTop (mkF m 51 #[.val (.int p0), .val (.int p1), .val (.int p2), .val (.int p3), .val (.int p4)] [(.ref b19), (.ref b19)]))
          refine own_st ?_ (fun t_ k_ => XS.iconst X22.here hx rfl (hb hby d1_51) k_)
          show own_G p.tables e below _ _ (T22.setTop (mkF m 52 #[.val (.int p0), .val (.int p1), .val (.int p2), .val (.int p3), .val (.int p4)] [(.int (1 : Int32)), (.ref b19), (.ref b19)]))
          refine own_st ?_ (fun t_ k_ => XS.iloadN X22.here hx rfl (hb hby d1_52) rfl k_)
          show own_G p.tables e below _ _ (T22.setTop (mkF m 53 #[.val (.int p0), .val (.int p1), .val (.int p2), .val (.int p3), .val (.int p4)] [(.int p2), (.int (1 : Int32)), (.ref b19), (.ref b19)]))
          have ix25 := own_ix (j := (1 : Int32)) (k := 1) (n := 3) (by decide) (by decide) (by decide)
          obtain ⟨cl25, Ar25, Sz25, G25⟩ := Y22
          have hin25 : ¬ ((1 : Int32) < 0 ∨ cl25.slots.size ≤ ((1 : Int32)).toNatClampNeg) := by rw [Sz25]; exact ix25.1
          obtain ⟨T25, h25, X25, e25, W25, st25⟩ := stC X22 hx hZ e22 Ar25 (j := (1 : Int32)) hin25 (g := (mkF m 53 #[.val (.int p0), .val (.int p1), .val (.int p2), .val (.int p3), .val (.int p4)] [(.int p2), (.int (1 : Int32)), (.ref b19), (.ref b19)])) rfl rfl (hb hby d1_53)
          have N25 := Fr.snoc X25 N22 g_b19
          have Yo25 : own_Y .char Z h22 b19 3 (own_upd (fun _ => 0) 0 (nar .char p1)) := ⟨cl25, Ar25, Sz25, G25⟩
          have Zs26 : n0 ≤ h25.size := Nat.le_trans Zs23 (Keep.of_wr W25).1
          have Kc27 : Keep h0 h25 [] := Kc24.wr W25 (Or.inr sz_b19)
          have Y25 : own_Y .char Z h25 b19 3 (own_upd (own_upd (fun _ => 0) 0 (nar .char p1)) 1 (nar .char p2)) := own_Y_set Yo25 W25 ix25.2
          refine own_st ?_ st25
          show own_G p.tables e below _ _ (T25.setTop (mkF m 54 #[.val (.int p0), .val (.int p1), .val (.int p2), .val (.int p3), .val (.int p4)] [(.ref b19)]))
          refine own_st ?_ (fun t_ k_ => XS.dup X25.here hx rfl (hb hby d1_54) rfl rfl k_)
          show own_G p.tables e below _ _ (T25.setTop (mkF m 55 #[.val (.int p0), .val (.int p1), .val (.int p2), .val (.int p3), .val (.int p4)] [(.ref b19), (.ref b19)]))
          refine own_st ?_ (fun t_ k_ => XS.iconst X25.here hx rfl (hb hby d1_55) k_)
          show own_G p.tables e below _ _ (T25.setTop (mkF m 56 #[.val (.int p0), .val (.int p1), .val (.int p2), .val (.int p3), .val (.int p4)] [(.int (2 : Int32)), (.ref b19), (.ref b19)]))
          refine own_st ?_ (fun t_ k_ => XS.iloadN X25.here hx rfl (hb hby d1_56) rfl k_)
          show own_G p.tables e below _ _ (T25.setTop (mkF m 57 #[.val (.int p0), .val (.int p1), .val (.int p2), .val (.int p3), .val (.int p4)] [(.int p3), (.int (2 : Int32)), (.ref b19), (.ref b19)]))
          have ix28 := own_ix (j := (2 : Int32)) (k := 2) (n := 3) (by decide) (by decide) (by decide)
          obtain ⟨cl28, Ar28, Sz28, G28⟩ := Y25
          have hin28 : ¬ ((2 : Int32) < 0 ∨ cl28.slots.size ≤ ((2 : Int32)).toNatClampNeg) := by rw [Sz28]; exact ix28.1
          obtain ⟨T28, h28, X28, e28, W28, st28⟩ := stC X25 hx hZ e25 Ar28 (j := (2 : Int32)) hin28 (g := (mkF m 57 #[.val (.int p0), .val (.int p1), .val (.int p2), .val (.int p3), .val (.int p4)] [(.int p3), (.int (2 : Int32)), (.ref b19), (.ref b19)])) rfl rfl (hb hby d1_57)
          have N28 := Fr.snoc X28 N25 g_b19
          have Yo28 : own_Y .char Z h25 b19 3 (own_upd (own_upd (fun _ => 0) 0 (nar .char p1)) 1 (nar .char p2)) := ⟨cl28, Ar28, Sz28, G28⟩
          have Zs29 : n0 ≤ h28.size := Nat.le_trans Zs26 (Keep.of_wr W28).1
          have Kc30 : Keep h0 h28 [] := Kc27.wr W28 (Or.inr sz_b19)
          have Y28 : own_Y .char Z h28 b19 3 (own_upd (own_upd (own_upd (fun _ => 0) 0 (nar .char p1)) 1 (nar .char p2)) 2 (nar .char p3)) := own_Y_set Yo28 W28 ix28.2
          refine own_st ?_ st28
          show own_G p.tables e below _ _ (T28.setTop (mkF m 58 #[.val (.int p0), .val (.int p1), .val (.int p2), .val (.int p3), .val (.int p4)] [(.ref b19)]))
          have q_hc1 : ¬ n = 0 := fun z => hc1 (hp.trans ((own_teq (a := n) (b := 0) (by omega) (by decide)).mpr z))
          have q_hc10 : ¬ n = 1 := fun z => hc10 (hp.trans ((own_teq (a := n) (b := 1) (by omega) (by decide)).mpr z))
          have q_hc23 : ¬ n = 2 := fun z => hc23 (hp.trans ((own_teq (a := n) (b := 2) (by omega) (by decide)).mpr z))
          have q_hc40 : n = 3 := (own_teq (b := 3) (by omega) (by decide)).mp (hp.symm.trans hc40)
          have hkn : 3 = n := by omega
          have hch : ∀ i, i < 3 → (own_upd (own_upd (own_upd (fun _ => 0) 0 (nar .char p1)) 1 (nar .char p2)) 2 (nar .char p3)) i = (own_pk p1 p2 p3 p4) i := by
            intro i hi
            have hi' : i = 0 ∨ i = 1 ∨ i = 2 := by omega
            rcases hi' with rfl | rfl | rfl
            · exact (show (own_upd (own_upd (own_upd (fun _ => 0) 0 (nar .char p1)) 1 (nar .char p2)) 2 (nar .char p3)) 0 = nar .char p1 by simp [own_upd]).trans ((own_chr_id hk1).trans (show p1 = (own_pk p1 p2 p3 p4) 0 by simp [own_pk]))
            · exact (show (own_upd (own_upd (own_upd (fun _ => 0) 0 (nar .char p1)) 1 (nar .char p2)) 2 (nar .char p3)) 1 = nar .char p2 by simp [own_upd]).trans ((own_chr_id hk2).trans (show p2 = (own_pk p1 p2 p3 p4) 1 by simp [own_pk]))
            · exact (show (own_upd (own_upd (own_upd (fun _ => 0) 0 (nar .char p1)) 1 (nar .char p2)) 2 (nar .char p3)) 2 = nar .char p3 by simp [own_upd]).trans ((own_chr_id hk3).trans (show p3 = (own_pk p1 p2 p3 p4) 2 by simp [own_pk]))
          refine own_retA X28 hx hlk hret rfl rfl rfl (hb hby d1_58) (by decide) (by decide) ⟨b19, rfl, N28, ?_⟩
          rw [e28]
          exact ⟨Kc30, sz_b19, own_Y_congr Y28 hkn hch⟩
        · refine own_st ?_ (fun t_ k_ => XS.icmpYes X0.here hx rfl (pc0 := 40) (pc' := 59) rfl (hb hby d1_40) rfl (feq hc40).2 (by decide) (by decide) k_)
          show own_G p.tables e below _ _ (s₁.setTop (mkF m 59 #[.val (.int p0), .val (.int p1), .val (.int p2), .val (.int p3), .val (.int p4)] []))
          refine own_st ?_ (fun t_ k_ => XS.iconst X0.here hx rfl (hb hby d1_59) k_)
          show own_G p.tables e below _ _ (s₁.setTop (mkF m 60 #[.val (.int p0), .val (.int p1), .val (.int p2), .val (.int p3), .val (.int p4)] [(.int (4 : Int32))]))
          obtain ⟨T31, h31, k31, X31, e31, E31, A31, st31⟩ := newP X0 hx hZ (hw _ (List.mem_of_getElem? (i := 9) rfl)) e0 (g := (mkF m 60 #[.val (.int p0), .val (.int p1), .val (.int p2), .val (.int p3), .val (.int p4)] [(.int (4 : Int32))])) rfl (hb hby d1_60) rfl (by decide) (cap := 4) (by decide) (by decide) (by decide) (by decide)
          obtain ⟨b31, gz31⟩ : ∃ z, z = h0.size := ⟨_, rfl⟩
          rw [← gz31] at A31 st31
          have g_b31 : n0 ≤ b31 := Nat.le_trans Z0 (Nat.le_of_eq gz31.symm)
          have sz_b31 : h0.size ≤ b31 := Nat.le_trans (Keep.refl h0 []).1 (Nat.le_of_eq gz31.symm)
          have Zs32 : n0 ≤ h31.size := Nat.le_trans Z0 E31.1
          have Kc33 : Keep h0 h31 [] := (Keep.refl h0 []).ext E31
          have Y_b31 : own_Y .char Z h31 b31 4 (fun _ => 0) := own_Y_new (Arv.new A31 (by decide)) (by decide)
          refine own_st ?_ st31
          show own_G p.tables e below _ _ (T31.setTop (mkF m 62 #[.val (.int p0), .val (.int p1), .val (.int p2), .val (.int p3), .val (.int p4)] [(.ref b31)]))
          refine own_st ?_ (fun t_ k_ => XS.dup X31.here hx rfl (hb hby d1_62) rfl rfl k_)
          show own_G p.tables e below _ _ (T31.setTop (mkF m 63 #[.val (.int p0), .val (.int p1), .val (.int p2), .val (.int p3), .val (.int p4)] [(.ref b31), (.ref b31)]))
          refine own_st ?_ (fun t_ k_ => XS.iconst X31.here hx rfl (hb hby d1_63) k_)
          show own_G p.tables e below _ _ (T31.setTop (mkF m 64 #[.val (.int p0), .val (.int p1), .val (.int p2), .val (.int p3), .val (.int p4)] [(.int (0 : Int32)), (.ref b31), (.ref b31)]))
          refine own_st ?_ (fun t_ k_ => XS.iloadN X31.here hx rfl (hb hby d1_64) rfl k_)
          show own_G p.tables e below _ _ (T31.setTop (mkF m 65 #[.val (.int p0), .val (.int p1), .val (.int p2), .val (.int p3), .val (.int p4)] [(.int p1), (.int (0 : Int32)), (.ref b31), (.ref b31)]))
          have ix34 := own_ix (j := (0 : Int32)) (k := 0) (n := 4) (by decide) (by decide) (by decide)
          obtain ⟨cl34, Ar34, Sz34, G34⟩ := Y_b31
          have hin34 : ¬ ((0 : Int32) < 0 ∨ cl34.slots.size ≤ ((0 : Int32)).toNatClampNeg) := by rw [Sz34]; exact ix34.1
          obtain ⟨T34, h34, X34, e34, W34, st34⟩ := stC X31 hx hZ e31 Ar34 (j := (0 : Int32)) hin34 (g := (mkF m 65 #[.val (.int p0), .val (.int p1), .val (.int p2), .val (.int p3), .val (.int p4)] [(.int p1), (.int (0 : Int32)), (.ref b31), (.ref b31)])) rfl rfl (hb hby d1_65)
          have N34 := Fr.snoc X34 N0 g_b31
          have Yo34 : own_Y .char Z h31 b31 4 (fun _ => 0) := ⟨cl34, Ar34, Sz34, G34⟩
          have Zs35 : n0 ≤ h34.size := Nat.le_trans Zs32 (Keep.of_wr W34).1
          have Kc36 : Keep h0 h34 [] := Kc33.wr W34 (Or.inr sz_b31)
          have Y34 : own_Y .char Z h34 b31 4 (own_upd (fun _ => 0) 0 (nar .char p1)) := own_Y_set Yo34 W34 ix34.2
          refine own_st ?_ st34
          show own_G p.tables e below _ _ (T34.setTop (mkF m 66 #[.val (.int p0), .val (.int p1), .val (.int p2), .val (.int p3), .val (.int p4)] [(.ref b31)]))
          refine own_st ?_ (fun t_ k_ => XS.dup X34.here hx rfl (hb hby d1_66) rfl rfl k_)
          show own_G p.tables e below _ _ (T34.setTop (mkF m 67 #[.val (.int p0), .val (.int p1), .val (.int p2), .val (.int p3), .val (.int p4)] [(.ref b31), (.ref b31)]))
          refine own_st ?_ (fun t_ k_ => XS.iconst X34.here hx rfl (hb hby d1_67) k_)
          show own_G p.tables e below _ _ (T34.setTop (mkF m 68 #[.val (.int p0), .val (.int p1), .val (.int p2), .val (.int p3), .val (.int p4)] [(.int (1 : Int32)), (.ref b31), (.ref b31)]))
          refine own_st ?_ (fun t_ k_ => XS.iloadN X34.here hx rfl (hb hby d1_68) rfl k_)
          show own_G p.tables e below _ _ (T34.setTop (mkF m 69 #[.val (.int p0), .val (.int p1), .val (.int p2), .val (.int p3), .val (.int p4)] [(.int p2), (.int (1 : Int32)), (.ref b31), (.ref b31)]))
          have ix37 := own_ix (j := (1 : Int32)) (k := 1) (n := 4) (by decide) (by decide) (by decide)
          obtain ⟨cl37, Ar37, Sz37, G37⟩ := Y34
          have hin37 : ¬ ((1 : Int32) < 0 ∨ cl37.slots.size ≤ ((1 : Int32)).toNatClampNeg) := by rw [Sz37]; exact ix37.1
          obtain ⟨T37, h37, X37, e37, W37, st37⟩ := stC X34 hx hZ e34 Ar37 (j := (1 : Int32)) hin37 (g := (mkF m 69 #[.val (.int p0), .val (.int p1), .val (.int p2), .val (.int p3), .val (.int p4)] [(.int p2), (.int (1 : Int32)), (.ref b31), (.ref b31)])) rfl rfl (hb hby d1_69)
          have N37 := Fr.snoc X37 N34 g_b31
          have Yo37 : own_Y .char Z h34 b31 4 (own_upd (fun _ => 0) 0 (nar .char p1)) := ⟨cl37, Ar37, Sz37, G37⟩
          have Zs38 : n0 ≤ h37.size := Nat.le_trans Zs35 (Keep.of_wr W37).1
          have Kc39 : Keep h0 h37 [] := Kc36.wr W37 (Or.inr sz_b31)
          have Y37 : own_Y .char Z h37 b31 4 (own_upd (own_upd (fun _ => 0) 0 (nar .char p1)) 1 (nar .char p2)) := own_Y_set Yo37 W37 ix37.2
          refine own_st ?_ st37
          show own_G p.tables e below _ _ (T37.setTop (mkF m 70 #[.val (.int p0), .val (.int p1), .val (.int p2), .val (.int p3), .val (.int p4)] [(.ref b31)]))
          refine own_st ?_ (fun t_ k_ => XS.dup X37.here hx rfl (hb hby d1_70) rfl rfl k_)
          show own_G p.tables e below _ _ (T37.setTop (mkF m 71 #[.val (.int p0), .val (.int p1), .val (.int p2), .val (.int p3), .val (.int p4)] [(.ref b31), (.ref b31)]))
          refine own_st ?_ (fun t_ k_ => XS.iconst X37.here hx rfl (hb hby d1_71) k_)
          show own_G p.tables e below _ _ (T37.setTop (mkF m 72 #[.val (.int p0), .val (.int p1), .val (.int p2), .val (.int p3), .val (.int p4)] [(.int (2 : Int32)), (.ref b31), (.ref b31)]))
          refine own_st ?_ (fun t_ k_ => XS.iloadN X37.here hx rfl (hb hby d1_72) rfl k_)
          show own_G p.tables e below _ _ (T37.setTop (mkF m 73 #[.val (.int p0), .val (.int p1), .val (.int p2), .val (.int p3), .val (.int p4)] [(.int p3), (.int (2 : Int32)), (.ref b31), (.ref b31)]))
          have ix40 := own_ix (j := (2 : Int32)) (k := 2) (n := 4) (by decide) (by decide) (by decide)
          obtain ⟨cl40, Ar40, Sz40, G40⟩ := Y37
          have hin40 : ¬ ((2 : Int32) < 0 ∨ cl40.slots.size ≤ ((2 : Int32)).toNatClampNeg) := by rw [Sz40]; exact ix40.1
          obtain ⟨T40, h40, X40, e40, W40, st40⟩ := stC X37 hx hZ e37 Ar40 (j := (2 : Int32)) hin40 (g := (mkF m 73 #[.val (.int p0), .val (.int p1), .val (.int p2), .val (.int p3), .val (.int p4)] [(.int p3), (.int (2 : Int32)), (.ref b31), (.ref b31)])) rfl rfl (hb hby d1_73)
          have N40 := Fr.snoc X40 N37 g_b31
          have Yo40 : own_Y .char Z h37 b31 4 (own_upd (own_upd (fun _ => 0) 0 (nar .char p1)) 1 (nar .char p2)) := ⟨cl40, Ar40, Sz40, G40⟩
          have Zs41 : n0 ≤ h40.size := Nat.le_trans Zs38 (Keep.of_wr W40).1
          have Kc42 : Keep h0 h40 [] := Kc39.wr W40 (Or.inr sz_b31)
          have Y40 : own_Y .char Z h40 b31 4 (own_upd (own_upd (own_upd (fun _ => 0) 0 (nar .char p1)) 1 (nar .char p2)) 2 (nar .char p3)) := own_Y_set Yo40 W40 ix40.2
          refine own_st ?_ st40
          show own_G p.tables e below _ _ (T40.setTop (mkF m 74 #[.val (.int p0), .val (.int p1), .val (.int p2), .val (.int p3), .val (.int p4)] [(.ref b31)]))
          refine own_st ?_ (fun t_ k_ => XS.dup X40.here hx rfl (hb hby d1_74) rfl rfl k_)
          show own_G p.tables e below _ _ (T40.setTop (mkF m 75 #[.val (.int p0), .val (.int p1), .val (.int p2), .val (.int p3), .val (.int p4)] [(.ref b31), (.ref b31)]))
          refine own_st ?_ (fun t_ k_ => XS.iconst X40.here hx rfl (hb hby d1_75) k_)
          show own_G p.tables e below _ _ (T40.setTop (mkF m 76 #[.val (.int p0), .val (.int p1), .val (.int p2), .val (.int p3), .val (.int p4)] [(.int (3 : Int32)), (.ref b31), (.ref b31)]))
          refine own_st ?_ (fun t_ k_ => XS.iload X40.here hx rfl (hb hby d1_76) rfl k_)
          show own_G p.tables e below _ _ (T40.setTop (mkF m 78 #[.val (.int p0), .val (.int p1), .val (.int p2), .val (.int p3), .val (.int p4)] [(.int p4), (.int (3 : Int32)), (.ref b31), (.ref b31)]))
          have ix43 := own_ix (j := (3 : Int32)) (k := 3) (n := 4) (by decide) (by decide) (by decide)
          obtain ⟨cl43, Ar43, Sz43, G43⟩ := Y40
          have hin43 : ¬ ((3 : Int32) < 0 ∨ cl43.slots.size ≤ ((3 : Int32)).toNatClampNeg) := by rw [Sz43]; exact ix43.1
          obtain ⟨T43, h43, X43, e43, W43, st43⟩ := stC X40 hx hZ e40 Ar43 (j := (3 : Int32)) hin43 (g := (mkF m 78 #[.val (.int p0), .val (.int p1), .val (.int p2), .val (.int p3), .val (.int p4)] [(.int p4), (.int (3 : Int32)), (.ref b31), (.ref b31)])) rfl rfl (hb hby d1_78)
          have N43 := Fr.snoc X43 N40 g_b31
          have Yo43 : own_Y .char Z h40 b31 4 (own_upd (own_upd (own_upd (fun _ => 0) 0 (nar .char p1)) 1 (nar .char p2)) 2 (nar .char p3)) := ⟨cl43, Ar43, Sz43, G43⟩
          have Zs44 : n0 ≤ h43.size := Nat.le_trans Zs41 (Keep.of_wr W43).1
          have Kc45 : Keep h0 h43 [] := Kc42.wr W43 (Or.inr sz_b31)
          have Y43 : own_Y .char Z h43 b31 4 (own_upd (own_upd (own_upd (own_upd (fun _ => 0) 0 (nar .char p1)) 1 (nar .char p2)) 2 (nar .char p3)) 3 (nar .char p4)) := own_Y_set Yo43 W43 ix43.2
          refine own_st ?_ st43
          show own_G p.tables e below _ _ (T43.setTop (mkF m 79 #[.val (.int p0), .val (.int p1), .val (.int p2), .val (.int p3), .val (.int p4)] [(.ref b31)]))
          have q_hc1 : ¬ n = 0 := fun z => hc1 (hp.trans ((own_teq (a := n) (b := 0) (by omega) (by decide)).mpr z))
          have q_hc10 : ¬ n = 1 := fun z => hc10 (hp.trans ((own_teq (a := n) (b := 1) (by omega) (by decide)).mpr z))
          have q_hc23 : ¬ n = 2 := fun z => hc23 (hp.trans ((own_teq (a := n) (b := 2) (by omega) (by decide)).mpr z))
          have q_hc40 : ¬ n = 3 := fun z => hc40 (hp.trans ((own_teq (a := n) (b := 3) (by omega) (by decide)).mpr z))
          have hkn : 4 = n := by omega
          have hch : ∀ i, i < 4 → (own_upd (own_upd (own_upd (own_upd (fun _ => 0) 0 (nar .char p1)) 1 (nar .char p2)) 2 (nar .char p3)) 3 (nar .char p4)) i = (own_pk p1 p2 p3 p4) i := by
            intro i hi
            have hi' : i = 0 ∨ i = 1 ∨ i = 2 ∨ i = 3 := by omega
            rcases hi' with rfl | rfl | rfl | rfl
            · exact (show (own_upd (own_upd (own_upd (own_upd (fun _ => 0) 0 (nar .char p1)) 1 (nar .char p2)) 2 (nar .char p3)) 3 (nar .char p4)) 0 = nar .char p1 by simp [own_upd]).trans ((own_chr_id hk1).trans (show p1 = (own_pk p1 p2 p3 p4) 0 by simp [own_pk]))
            · exact (show (own_upd (own_upd (own_upd (own_upd (fun _ => 0) 0 (nar .char p1)) 1 (nar .char p2)) 2 (nar .char p3)) 3 (nar .char p4)) 1 = nar .char p2 by simp [own_upd]).trans ((own_chr_id hk2).trans (show p2 = (own_pk p1 p2 p3 p4) 1 by simp [own_pk]))
            · exact (show (own_upd (own_upd (own_upd (own_upd (fun _ => 0) 0 (nar .char p1)) 1 (nar .char p2)) 2 (nar .char p3)) 3 (nar .char p4)) 2 = nar .char p3 by simp [own_upd]).trans ((own_chr_id hk3).trans (show p3 = (own_pk p1 p2 p3 p4) 2 by simp [own_pk]))
            · exact (show (own_upd (own_upd (own_upd (own_upd (fun _ => 0) 0 (nar .char p1)) 1 (nar .char p2)) 2 (nar .char p3)) 3 (nar .char p4)) 3 = nar .char p4 by simp [own_upd]).trans ((own_chr_id hk4).trans (show p4 = (own_pk p1 p2 p3 p4) 3 by simp [own_pk]))
          refine own_retA X43 hx hlk hret rfl rfl rfl (hb hby d1_79) (by decide) (by decide) ⟨b31, rfl, N43, ?_⟩
          rw [e43]
          exact ⟨Kc45, sz_b31, own_Y_congr Y43 hkn hch⟩
theorem d23_0 : decode jdk_43_method_13_code 0 = .ok (.aload_n 0, 1) := by decide +kernel
theorem d23_1 : decode jdk_43_method_13_code 1 = .ok (.arraylength, 1) := by decide +kernel
theorem d23_2 : decode jdk_43_method_13_code 2 = .ok (.aload_n 1, 1) := by decide +kernel
theorem d23_3 : decode jdk_43_method_13_code 3 = .ok (.arraylength, 1) := by decide +kernel
theorem d23_4 : decode jdk_43_method_13_code 4 = .ok (.if_icmp .ne 30, 3) := by decide +kernel
theorem d23_7 : decode jdk_43_method_13_code 7 = .ok (.iconst 0, 1) := by decide +kernel
theorem d23_8 : decode jdk_43_method_13_code 8 = .ok (.istore_n 2, 1) := by decide +kernel
theorem d23_9 : decode jdk_43_method_13_code 9 = .ok (.iload_n 2, 1) := by decide +kernel
theorem d23_10 : decode jdk_43_method_13_code 10 = .ok (.aload_n 0, 1) := by decide +kernel
theorem d23_11 : decode jdk_43_method_13_code 11 = .ok (.arraylength, 1) := by decide +kernel
theorem d23_12 : decode jdk_43_method_13_code 12 = .ok (.if_icmp .ge 20, 3) := by decide +kernel
theorem d23_15 : decode jdk_43_method_13_code 15 = .ok (.aload_n 0, 1) := by decide +kernel
theorem d23_16 : decode jdk_43_method_13_code 16 = .ok (.iload_n 2, 1) := by decide +kernel
theorem d23_17 : decode jdk_43_method_13_code 17 = .ok (.baload, 1) := by decide +kernel
theorem d23_18 : decode jdk_43_method_13_code 18 = .ok (.aload_n 1, 1) := by decide +kernel
theorem d23_19 : decode jdk_43_method_13_code 19 = .ok (.iload_n 2, 1) := by decide +kernel
theorem d23_20 : decode jdk_43_method_13_code 20 = .ok (.baload, 1) := by decide +kernel
theorem d23_21 : decode jdk_43_method_13_code 21 = .ok (.if_icmp .eq 5, 3) := by decide +kernel
theorem d23_26 : decode jdk_43_method_13_code 26 = .ok (.iinc 2 1, 3) := by decide +kernel
theorem d23_29 : decode jdk_43_method_13_code 29 = .ok (.goto (-20), 3) := by decide +kernel
theorem d23_32 : decode jdk_43_method_13_code 32 = .ok (.iconst 1, 1) := by decide +kernel
theorem d23_33 : decode jdk_43_method_13_code 33 = .ok (.ireturn, 1) := by decide +kernel
theorem pn_23 : plainName "java/lang/StringLatin1" = true := by first | (simp [plainName, overriddenIn]; done) | decide +kernel
set_option maxRecDepth 65536 in
set_option maxHeartbeats 40000000 in
theorem own_lq {p : Program} {l : Launch} {e : Env} {s : State} {m : MethodId} {args : Array Value} {below : List Frame} {meth : Method} {c : Code} {Z : State} {a0' : Array Value} {h0 : Heap} {n0 : Nat} (hx : p.tables.exec = Jvm.exec) (hlk : meth.locks = false) (hZ : Z.Warmed39 s.vm) (hw : ∀ d ∈ tables_1, d.before a0' Z = true) (hby : c.code = jdk_43_method_13_code) (hml : c.maxLocals = 3) (hown : s.vm.findClass "java/lang/StringLatin1" = some m.cls) (hret : meth.sig.returnType = (some .boolean)) {a0 a1 : Addr} {N : Nat} {g1 : Nat → Int32} (hN : N < 2 ^ 31) (Y0 : own_Y .byte Z h0 a0 N g1) (Y1 : own_Y .byte Z h0 a1 N g1) (d : Nat) : ∀ {T0 : State} {locs : List Loc} {kx : Nat} (hd : kx + d = N) (X0 : Stand p l e ({ frames := 0, cells := 0, slots := 0, locals := 0 } : Room) s m args below meth c T0 locs 0 0) (N0 : Fr n0 locs) (e0 : T0.heap = h0),
    own_G p.tables e below (own_E s 0 0) (own_QV (.int (1 : Int32)) h0 n0) (T0.setTop (mkF m 9 #[.val (.ref a0), .val (.ref a1), .val (.int kx.toInt32)] [])) := by
  induction d with
  | zero =>
    intro T0 locs kx hd X0 N0 e0
    refine own_st ?_ (fun t_ k_ => XS.iloadN X0.here hx rfl (hb hby d23_9) rfl k_)
    show own_G p.tables e below _ _ (T0.setTop (mkF m 10 #[.val (.ref a0), .val (.ref a1), .val (.int kx.toInt32)] [(.int kx.toInt32)]))
    refine own_st ?_ (fun t_ k_ => XS.aloadN X0.here hx rfl (hb hby d23_10) rfl rfl k_)
    show own_G p.tables e below _ _ (T0.setTop (mkF m 11 #[.val (.ref a0), .val (.ref a1), .val (.int kx.toInt32)] [(.ref a0), (.int kx.toInt32)]))
    obtain ⟨cl1, Ar1, Sz1, G1⟩ := Y0
    refine own_st ?_ (X0.arraylength hx (by rw [e0]; exact Ar1.1) (State.isArrayOf_alike hZ.alike Ar1.2.1) (g := (mkF m 11 #[.val (.ref a0), .val (.ref a1), .val (.int kx.toInt32)] [(.ref a0), (.int kx.toInt32)])) rfl rfl (hb hby d23_11))
    rw [Sz1]
    have Yx1 : own_Y .byte Z h0 a0 N g1 := ⟨cl1, Ar1, Sz1, G1⟩
    show own_G p.tables e below _ _ (T0.setTop (mkF m 12 #[.val (.ref a0), .val (.ref a1), .val (.int kx.toInt32)] [(.int (N).toInt32), (.int kx.toInt32)]))
    refine own_st ?_ (fun t_ k_ => XS.icmpYes X0.here hx rfl (pc0 := 12) (pc' := 32) rfl (hb hby d23_12) rfl (flt (own_eqn (by omega))).2.1 (by decide) (by decide) k_)
    show own_G p.tables e below _ _ (T0.setTop (mkF m 32 #[.val (.ref a0), .val (.ref a1), .val (.int kx.toInt32)] []))
    refine own_st ?_ (fun t_ k_ => XS.iconst X0.here hx rfl (hb hby d23_32) k_)
    show own_G p.tables e below _ _ (T0.setTop (mkF m 33 #[.val (.ref a0), .val (.ref a1), .val (.int kx.toInt32)] [(.int (1 : Int32))]))
    exact own_retN X0 hx hlk (t := .boolean) hret (by simp) (hb hby d23_33) (by decide) (by decide) (z' := (1 : Int32)) rfl ⟨rfl, N0, e0⟩
  | succ d ih =>
    intro T0 locs kx hd X0 N0 e0
    refine own_st ?_ (fun t_ k_ => XS.iloadN X0.here hx rfl (hb hby d23_9) rfl k_)
    show own_G p.tables e below _ _ (T0.setTop (mkF m 10 #[.val (.ref a0), .val (.ref a1), .val (.int kx.toInt32)] [(.int kx.toInt32)]))
    refine own_st ?_ (fun t_ k_ => XS.aloadN X0.here hx rfl (hb hby d23_10) rfl rfl k_)
    show own_G p.tables e below _ _ (T0.setTop (mkF m 11 #[.val (.ref a0), .val (.ref a1), .val (.int kx.toInt32)] [(.ref a0), (.int kx.toInt32)]))
    obtain ⟨cl2, Ar2, Sz2, G2⟩ := Y0
    refine own_st ?_ (X0.arraylength hx (by rw [e0]; exact Ar2.1) (State.isArrayOf_alike hZ.alike Ar2.2.1) (g := (mkF m 11 #[.val (.ref a0), .val (.ref a1), .val (.int kx.toInt32)] [(.ref a0), (.int kx.toInt32)])) rfl rfl (hb hby d23_11))
    rw [Sz2]
    have Yx2 : own_Y .byte Z h0 a0 N g1 := ⟨cl2, Ar2, Sz2, G2⟩
    show own_G p.tables e below _ _ (T0.setTop (mkF m 12 #[.val (.ref a0), .val (.ref a1), .val (.int kx.toInt32)] [(.int (N).toInt32), (.int kx.toInt32)]))
    refine own_st ?_ (fun t_ k_ => XS.icmpNo X0.here hx rfl (hb hby d23_12) rfl (tlt ((own_tlt (by omega) hN).mpr (by omega))).2.1 k_)
    show own_G p.tables e below _ _ (T0.setTop (mkF m 15 #[.val (.ref a0), .val (.ref a1), .val (.int kx.toInt32)] []))
    refine own_st ?_ (fun t_ k_ => XS.aloadN X0.here hx rfl (hb hby d23_15) rfl rfl k_)
    show own_G p.tables e below _ _ (T0.setTop (mkF m 16 #[.val (.ref a0), .val (.ref a1), .val (.int kx.toInt32)] [(.ref a0)]))
    refine own_st ?_ (fun t_ k_ => XS.iloadN X0.here hx rfl (hb hby d23_16) rfl k_)
    show own_G p.tables e below _ _ (T0.setTop (mkF m 17 #[.val (.ref a0), .val (.ref a1), .val (.int kx.toInt32)] [(.int kx.toInt32), (.ref a0)]))
    have ix3 := own_ix (j := kx.toInt32) (k := kx) (n := N) rfl (by omega) hN
    obtain ⟨cl3, Ar3, Sz3, G3⟩ := Yx2
    have hin3 : ¬ (kx.toInt32 < 0 ∨ cl3.slots.size ≤ (kx.toInt32).toNatClampNeg) := by rw [Sz3]; exact ix3.1
    have hat3 : cl3.slots[(kx.toInt32).toNatClampNeg]? = some (.int (g1 kx)) := by rw [ix3.2]; exact G3 _ (by omega)
    refine own_st ?_ (X0.baloadBytes hx (j := kx.toInt32) (v := (.int (g1 kx))) (by rw [e0]; exact Ar3.1) (State.isArrayOf_alike hZ.alike Ar3.2.1) Ar3.2.2 hin3 hat3 (g := (mkF m 17 #[.val (.ref a0), .val (.ref a1), .val (.int kx.toInt32)] [(.int kx.toInt32), (.ref a0)])) rfl rfl (hb hby d23_17))
    have Yx3 : own_Y .byte Z h0 a0 N g1 := ⟨cl3, Ar3, Sz3, G3⟩
    show own_G p.tables e below _ _ (T0.setTop (mkF m 18 #[.val (.ref a0), .val (.ref a1), .val (.int kx.toInt32)] [(.int (g1 kx))]))
    refine own_st ?_ (fun t_ k_ => XS.aloadN X0.here hx rfl (hb hby d23_18) rfl rfl k_)
    show own_G p.tables e below _ _ (T0.setTop (mkF m 19 #[.val (.ref a0), .val (.ref a1), .val (.int kx.toInt32)] [(.ref a1), (.int (g1 kx))]))
    refine own_st ?_ (fun t_ k_ => XS.iloadN X0.here hx rfl (hb hby d23_19) rfl k_)
    show own_G p.tables e below _ _ (T0.setTop (mkF m 20 #[.val (.ref a0), .val (.ref a1), .val (.int kx.toInt32)] [(.int kx.toInt32), (.ref a1), (.int (g1 kx))]))
    have ix4 := own_ix (j := kx.toInt32) (k := kx) (n := N) rfl (by omega) hN
    obtain ⟨cl4, Ar4, Sz4, G4⟩ := Y1
    have hin4 : ¬ (kx.toInt32 < 0 ∨ cl4.slots.size ≤ (kx.toInt32).toNatClampNeg) := by rw [Sz4]; exact ix4.1
    have hat4 : cl4.slots[(kx.toInt32).toNatClampNeg]? = some (.int (g1 kx)) := by rw [ix4.2]; exact G4 _ (by omega)
    refine own_st ?_ (X0.baloadBytes hx (j := kx.toInt32) (v := (.int (g1 kx))) (by rw [e0]; exact Ar4.1) (State.isArrayOf_alike hZ.alike Ar4.2.1) Ar4.2.2 hin4 hat4 (g := (mkF m 20 #[.val (.ref a0), .val (.ref a1), .val (.int kx.toInt32)] [(.int kx.toInt32), (.ref a1), (.int (g1 kx))])) rfl rfl (hb hby d23_20))
    have Yx4 : own_Y .byte Z h0 a1 N g1 := ⟨cl4, Ar4, Sz4, G4⟩
    show own_G p.tables e below _ _ (T0.setTop (mkF m 21 #[.val (.ref a0), .val (.ref a1), .val (.int kx.toInt32)] [(.int (g1 kx)), (.int (g1 kx))]))
    refine own_st ?_ (fun t_ k_ => XS.icmpYes X0.here hx rfl (pc0 := 21) (pc' := 26) rfl (hb hby d23_21) rfl (teq rfl).1 (by decide) (by decide) k_)
    show own_G p.tables e below _ _ (T0.setTop (mkF m 26 #[.val (.ref a0), .val (.ref a1), .val (.int kx.toInt32)] []))
    refine own_st ?_ (fun t_ k_ => XS.iinc X0.here hx rfl (hb hby d23_26) rfl (l' := #[.val (.ref a0), .val (.ref a1), .val (.int (kx.toInt32 + (1 : Int32)))]) rfl k_)
    show own_G p.tables e below _ _ (T0.setTop (mkF m 29 #[.val (.ref a0), .val (.ref a1), .val (.int (kx.toInt32 + (1 : Int32)))] []))
    refine own_st ?_ (fun t_ k_ => XS.goto X0.here hx rfl (pc0 := 29) (pc' := 9) rfl (hb hby d23_29) (by decide) (by decide) k_)
    show own_G p.tables e below _ _ (T0.setTop (mkF m 9 #[.val (.ref a0), .val (.ref a1), .val (.int (kx.toInt32 + (1 : Int32)))] []))
    rw [own_inc]
    exact ih (kx := kx + 1) (by omega) X0 N0 e0
theorem ef_23 (m : MethodId) (a0 : Addr) (a1 : Addr) : entryFrame m #[(.ref a0), (.ref a1)] 3 = mkF m 0 #[.val (.ref a0), .val (.ref a1), .unset] [] := by first | (simp [entryFrame, mkF, argsToLocals, Value.category]; done) | rfl
set_option maxRecDepth 65536 in
set_option maxHeartbeats 40000000 in
theorem rm23 (l : Launch) (Z : State) (a0 : Array Value) (hw : ∀ d ∈ tables_1, d.before a0 Z = true) (ws : List Jvm.Cond) (a0 : Addr) (a1 : Addr) (N : Nat) (g1 : Nat → Int32) (h0 : Heap) (n0 : Nat) (Z0 : n0 ≤ h0.size) (Y0 : own_Y .byte Z h0 a0 N g1) (Y1 : own_Y .byte Z h0 a1 N g1) (hN : N < 2 ^ 31) :
    MetFree l (⟨"java/lang/StringLatin1", "equals", "([B[B)Z"⟩ : MethodName) (head1 (Jvm.Cond.code (⟨"java/lang/StringLatin1", "equals", "([B[B)Z"⟩ : MethodName) jdk_43_method_13_code 3 (some .boolean) :: ws) ({ frames := 0, cells := 0, slots := 0, locals := 0 } : Room)) (fun a U => a = #[(.ref a0), (.ref a1)] ∧ Z.Warmed39 U.vm ∧ U.heap = h0) (fun _ _ _ _ _ => True) (fun _ U o U' => ∃ v L, o = .returned v ∧ own_QV (.int (1 : Int32)) h0 n0 v U'.heap L ∧ FrameEnd U o U' L ({ frames := 0, cells := 0, slots := 0, locals := 0 } : Room).cells ({ frames := 0, cells := 0, slots := 0, locals := 0 } : Room).slots) := by
  refine MetFree.of_bodySF (plainFor_of_name pn_23) hisR ?_
  intro p e s m args below meth c s₁ Bd hml0 hP hK
  obtain ⟨rfl, hZ, hh⟩ := hP
  have hx := Bd.exec
  have hby := Bd.bytes
  have hlk : meth.locks = false := BodyLoose.notSynchronized Bd
  have hret := Bd.returns
  have hml : c.maxLocals = 3 := hml0
  have hown : s.vm.findClass "java/lang/StringLatin1" = some m.cls := findClass_of_methodNamed Bd.named
  have hnm := (name_of_methodNamed Bd.named Bd.method).1
  have X0 : Stand p l e ({ frames := 0, cells := 0, slots := 0, locals := 0 } : Room) s m #[(.ref a0), (.ref a1)] below meth c s₁ [] 0 0 := Stand.of_body Bd
  have e0 : s₁.heap = h0 := by rw [← hh, Bd.state]; rfl
  have N0 := Fr.nil n0
  show own_G p.tables e below (own_E s ({ frames := 0, cells := 0, slots := 0, locals := 0 } : Room).cells ({ frames := 0, cells := 0, slots := 0, locals := 0 } : Room).slots) (own_QV (.int (1 : Int32)) h0 n0) (s₁.setTop (entryFrame m #[(.ref a0), (.ref a1)] 3))
  refine own_st ?_ (fun t_ k_ => castTop (ef_23 m a0 a1) k_)
  show own_G p.tables e below _ _ (s₁.setTop (mkF m 0 #[.val (.ref a0), .val (.ref a1), .unset] []))
  refine own_st ?_ (fun t_ k_ => XS.aloadN X0.here hx rfl (hb hby d23_0) rfl rfl k_)
  show own_G p.tables e below _ _ (s₁.setTop (mkF m 1 #[.val (.ref a0), .val (.ref a1), .unset] [(.ref a0)]))
  obtain ⟨cl1, Ar1, Sz1, G1⟩ := Y0
  refine own_st ?_ (X0.arraylength hx (by rw [e0]; exact Ar1.1) (State.isArrayOf_alike hZ.alike Ar1.2.1) (g := (mkF m 1 #[.val (.ref a0), .val (.ref a1), .unset] [(.ref a0)])) rfl rfl (hb hby d23_1))
  rw [Sz1]
  have Yx1 : own_Y .byte Z h0 a0 N g1 := ⟨cl1, Ar1, Sz1, G1⟩
  show own_G p.tables e below _ _ (s₁.setTop (mkF m 2 #[.val (.ref a0), .val (.ref a1), .unset] [(.int (N).toInt32)]))
  refine own_st ?_ (fun t_ k_ => XS.aloadN X0.here hx rfl (hb hby d23_2) rfl rfl k_)
  show own_G p.tables e below _ _ (s₁.setTop (mkF m 3 #[.val (.ref a0), .val (.ref a1), .unset] [(.ref a1), (.int (N).toInt32)]))
  obtain ⟨cl2, Ar2, Sz2, G2⟩ := Y1
  refine own_st ?_ (X0.arraylength hx (by rw [e0]; exact Ar2.1) (State.isArrayOf_alike hZ.alike Ar2.2.1) (g := (mkF m 3 #[.val (.ref a0), .val (.ref a1), .unset] [(.ref a1), (.int (N).toInt32)])) rfl rfl (hb hby d23_3))
  rw [Sz2]
  have Yx2 : own_Y .byte Z h0 a1 N g1 := ⟨cl2, Ar2, Sz2, G2⟩
  show own_G p.tables e below _ _ (s₁.setTop (mkF m 4 #[.val (.ref a0), .val (.ref a1), .unset] [(.int (N).toInt32), (.int (N).toInt32)]))
  refine own_st ?_ (fun t_ k_ => XS.icmpNo X0.here hx rfl (hb hby d23_4) rfl (teq rfl).2 k_)
  show own_G p.tables e below _ _ (s₁.setTop (mkF m 7 #[.val (.ref a0), .val (.ref a1), .unset] []))
  refine own_st ?_ (fun t_ k_ => XS.iconst X0.here hx rfl (hb hby d23_7) k_)
  show own_G p.tables e below _ _ (s₁.setTop (mkF m 8 #[.val (.ref a0), .val (.ref a1), .unset] [(.int (0 : Int32))]))
  refine own_st ?_ (fun t_ k_ => XS.istoreN X0.here hx rfl (hb hby d23_8) rfl (l' := #[.val (.ref a0), .val (.ref a1), .val (.int (0 : Int32))]) rfl k_)
  show own_G p.tables e below _ _ (s₁.setTop (mkF m 9 #[.val (.ref a0), .val (.ref a1), .val (.int (0 : Int32))] []))
  exact own_lq hx hlk hZ hw hby hml hown hret hN Yx1 Yx2 N (kx := 0) (by omega) X0 N0 e0
theorem pd_21 : parseMethodDescriptor "([B[B)Z" = some ⟨[(.array .byte), (.array .byte)], some .boolean⟩ := by decide +kernel
theorem d22_0 : decode jdk_42_method_66_code 0 = .ok (.aload_n 0, 1) := by decide +kernel
theorem d22_1 : decode jdk_42_method_66_code 1 = .ok (.aload_n 1, 1) := by decide +kernel
theorem d22_2 : decode jdk_42_method_66_code 2 = .ok (.if_acmp .ne 5, 3) := by decide +kernel
theorem d22_5 : decode jdk_42_method_66_code 5 = .ok (.iconst 1, 1) := by decide +kernel
theorem d22_6 : decode jdk_42_method_66_code 6 = .ok (.ireturn, 1) := by decide +kernel
theorem d22_7 : decode jdk_42_method_66_code 7 = .ok (.aload_n 1, 1) := by decide +kernel
theorem d22_8 : decode jdk_42_method_66_code 8 = .ok (.instanceof 10, 3) := by decide +kernel
theorem d22_11 : decode jdk_42_method_66_code 11 = .ok (.ifCond .eq 43, 3) := by decide +kernel
theorem d22_14 : decode jdk_42_method_66_code 14 = .ok (.aload_n 1, 1) := by decide +kernel
theorem d22_15 : decode jdk_42_method_66_code 15 = .ok (.checkcast 10, 3) := by decide +kernel
theorem d22_18 : decode jdk_42_method_66_code 18 = .ok (.astore_n 2, 1) := by decide +kernel
theorem d22_19 : decode jdk_42_method_66_code 19 = .ok (.getstatic 38, 3) := by decide +kernel
theorem d22_22 : decode jdk_42_method_66_code 22 = .ok (.ifCond .eq 14, 3) := by decide +kernel
theorem d22_25 : decode jdk_42_method_66_code 25 = .ok (.aload_n 0, 1) := by decide +kernel
theorem d22_26 : decode jdk_42_method_66_code 26 = .ok (.getfield 15, 3) := by decide +kernel
theorem d22_29 : decode jdk_42_method_66_code 29 = .ok (.aload_n 2, 1) := by decide +kernel
theorem d22_30 : decode jdk_42_method_66_code 30 = .ok (.getfield 15, 3) := by decide +kernel
theorem d22_33 : decode jdk_42_method_66_code 33 = .ok (.if_icmp .ne 21, 3) := by decide +kernel
theorem d22_36 : decode jdk_42_method_66_code 36 = .ok (.aload_n 0, 1) := by decide +kernel
theorem d22_37 : decode jdk_42_method_66_code 37 = .ok (.getfield 9, 3) := by decide +kernel
theorem d22_40 : decode jdk_42_method_66_code 40 = .ok (.aload_n 2, 1) := by decide +kernel
theorem d22_41 : decode jdk_42_method_66_code 41 = .ok (.getfield 9, 3) := by decide +kernel
theorem d22_44 : decode jdk_42_method_66_code 44 = .ok (.invokestatic 541, 3) := by decide +kernel
theorem d22_47 : decode jdk_42_method_66_code 47 = .ok (.ifCond .eq 7, 3) := by decide +kernel
theorem d22_50 : decode jdk_42_method_66_code 50 = .ok (.iconst 1, 1) := by decide +kernel
theorem d22_51 : decode jdk_42_method_66_code 51 = .ok (.goto 4, 3) := by decide +kernel
theorem d22_55 : decode jdk_42_method_66_code 55 = .ok (.ireturn, 1) := by decide +kernel
theorem pn_22 : plainName "java/lang/String" = true := by first | (simp [plainName, overriddenIn]; done) | decide +kernel
theorem ef_22 (m : MethodId) (a0 : Addr) (a1 : Addr) : entryFrame m #[(.ref a0), (.ref a1)] 3 = mkF m 0 #[.val (.ref a0), .val (.ref a1), .unset] [] := by first | (simp [entryFrame, mkF, argsToLocals, Value.category]; done) | rfl
set_option maxRecDepth 65536 in
set_option maxHeartbeats 40000000 in
theorem rm22 (l : Launch) (Z : State) (a0 : Array Value) (hw : ∀ d ∈ tables_1, d.before a0 Z = true) (ws : List Jvm.Cond) (a0 : Addr) (a1 : Addr) (z1 : Int32) (fm : Value) (cd : Int32) (t0 : Addr) (t1 : Addr) (N : Nat) (g1 : Nat → Int32) (h0 : Heap) (n0 : Nat) (Z0 : n0 ≤ h0.size) (SS : own_SS Z h0 n0 z1 fm) (E0p : Exa Z h0 a0 "java/lang/String") (Fcp : Fld Z h0 a0 "java/lang/String" "coder" "B" (.int cd)) (Fvp : Fld Z h0 a0 "java/lang/String" "value" "[B" (.ref t0)) (Y0p : own_Y .byte Z h0 t0 N g1) (E0q : Exa Z h0 a1 "java/lang/String") (Fcq : Fld Z h0 a1 "java/lang/String" "coder" "B" (.int cd)) (Fvq : Fld Z h0 a1 "java/lang/String" "value" "[B" (.ref t1)) (Y0q : own_Y .byte Z h0 t1 N g1) (hz1 : ¬ z1 = 0) (hN : N < 2 ^ 31) :
    MetFree l (⟨"java/lang/String", "equals", "(Ljava/lang/Object;)Z"⟩ : MethodName) (head1 (Jvm.Cond.code (⟨"java/lang/String", "equals", "(Ljava/lang/Object;)Z"⟩ : MethodName) jdk_42_method_66_code 3 (some .boolean) :: ws) ({ frames := 1, cells := 0, slots := 0, locals := 14 } : Room)) (fun a U => a = #[(.ref a0), (.ref a1)] ∧ Z.Warmed39 U.vm ∧ U.heap = h0) (fun _ _ _ _ _ => True) (fun _ U o U' => ∃ v L, o = .returned v ∧ own_QV (.int (1 : Int32)) h0 n0 v U'.heap L ∧ FrameEnd U o U' L ({ frames := 1, cells := 0, slots := 0, locals := 14 } : Room).cells ({ frames := 1, cells := 0, slots := 0, locals := 14 } : Room).slots) := by
  refine MetFree.of_bodySF (plainFor_of_name pn_22) hisR ?_
  intro p e s m args below meth c s₁ Bd hml0 hP hK
  obtain ⟨rfl, hZ, hh⟩ := hP
  have hx := Bd.exec
  have hby := Bd.bytes
  have hlk : meth.locks = false := BodyLoose.notSynchronized Bd
  have hret := Bd.returns
  have hml : c.maxLocals = 3 := hml0
  have hown : s.vm.findClass "java/lang/String" = some m.cls := findClass_of_methodNamed Bd.named
  have hnm := (name_of_methodNamed Bd.named Bd.method).1
  have X0 : Stand p l e ({ frames := 1, cells := 0, slots := 0, locals := 14 } : Room) s m #[(.ref a0), (.ref a1)] below meth c s₁ [] 0 0 := Stand.of_body Bd
  have e0 : s₁.heap = h0 := by rw [← hh, Bd.state]; rfl
  have N0 := Fr.nil n0
  show own_G p.tables e below (own_E s ({ frames := 1, cells := 0, slots := 0, locals := 14 } : Room).cells ({ frames := 1, cells := 0, slots := 0, locals := 14 } : Room).slots) (own_QV (.int (1 : Int32)) h0 n0) (s₁.setTop (entryFrame m #[(.ref a0), (.ref a1)] 3))
  refine own_st ?_ (fun t_ k_ => castTop (ef_22 m a0 a1) k_)
  show own_G p.tables e below _ _ (s₁.setTop (mkF m 0 #[.val (.ref a0), .val (.ref a1), .unset] []))
  refine own_st ?_ (fun t_ k_ => XS.aloadN X0.here hx rfl (hb hby d22_0) rfl rfl k_)
  show own_G p.tables e below _ _ (s₁.setTop (mkF m 1 #[.val (.ref a0), .val (.ref a1), .unset] [(.ref a0)]))
  refine own_st ?_ (fun t_ k_ => XS.aloadN X0.here hx rfl (hb hby d22_1) rfl rfl k_)
  show own_G p.tables e below _ _ (s₁.setTop (mkF m 2 #[.val (.ref a0), .val (.ref a1), .unset] [(.ref a1), (.ref a0)]))
  by_cases ha2 : a0 = a1
  · refine own_st ?_ (fun t_ k_ => Jvm.RoadKit.acmp (g := (mkF m 2 #[.val (.ref a0), .val (.ref a1), .unset] [(.ref a1), (.ref a0)])) X0 hx rfl rfl rfl (pc0 := 2) (pc' := 5) (same := true) rfl (hb hby d22_2) rfl (decide_eq_true (congrArg Value.ref ha2)) (by decide) (by decide) k_)
    show own_G p.tables e below _ _ (s₁.setTop (mkF m 5 #[.val (.ref a0), .val (.ref a1), .unset] []))
    refine own_st ?_ (fun t_ k_ => XS.iconst X0.here hx rfl (hb hby d22_5) k_)
    show own_G p.tables e below _ _ (s₁.setTop (mkF m 6 #[.val (.ref a0), .val (.ref a1), .unset] [(.int (1 : Int32))]))
    exact own_retN X0 hx hlk (t := .boolean) hret (by simp) (hb hby d22_6) (by decide) (by decide) (z' := (1 : Int32)) rfl ⟨rfl, N0, e0⟩
  · refine own_st ?_ (fun t_ k_ => Jvm.RoadKit.acmp (g := (mkF m 2 #[.val (.ref a0), .val (.ref a1), .unset] [(.ref a1), (.ref a0)])) X0 hx rfl rfl rfl (pc0 := 2) (pc' := 7) (same := false) rfl (hb hby d22_2) rfl (decide_eq_false fun q => ha2 (Value.ref.inj q)) (by decide) (by decide) k_)
    show own_G p.tables e below _ _ (s₁.setTop (mkF m 7 #[.val (.ref a0), .val (.ref a1), .unset] []))
    refine own_st ?_ (fun t_ k_ => XS.aloadN X0.here hx rfl (hb hby d22_7) rfl rfl k_)
    show own_G p.tables e below _ _ (s₁.setTop (mkF m 8 #[.val (.ref a0), .val (.ref a1), .unset] [(.ref a1)]))
    obtain ⟨T1, X1, e1, st1⟩ := instY X0 hx hZ hown (hw _ (List.mem_of_getElem? (i := 123) rfl)) e0 (Ins.self E0q) (g := (mkF m 8 #[.val (.ref a0), .val (.ref a1), .unset] [(.ref a1)])) rfl rfl (hb hby d22_8)
    refine own_st ?_ st1
    show own_G p.tables e below _ _ (T1.setTop (mkF m 11 #[.val (.ref a0), .val (.ref a1), .unset] [(.int (1 : Int32))]))
    refine own_st ?_ (fun t_ k_ => XS.ifNo X1.here hx rfl (hb hby d22_11) rfl ((if0 _ _).trans (feq (by decide : ¬ ((1 : Int32) = (0 : Int32)))).1) k_)
    show own_G p.tables e below _ _ (T1.setTop (mkF m 14 #[.val (.ref a0), .val (.ref a1), .unset] []))
    refine own_st ?_ (fun t_ k_ => XS.aloadN X1.here hx rfl (hb hby d22_14) rfl rfl k_)
    show own_G p.tables e below _ _ (T1.setTop (mkF m 15 #[.val (.ref a0), .val (.ref a1), .unset] [(.ref a1)]))
    obtain ⟨T2, X2, e2, st2⟩ := castY X1 hx hZ hown (hw _ (List.mem_of_getElem? (i := 123) rfl)) e1 (Ins.self E0q) (g := (mkF m 15 #[.val (.ref a0), .val (.ref a1), .unset] [(.ref a1)])) rfl rfl (hb hby d22_15)
    refine own_st ?_ st2
    show own_G p.tables e below _ _ (T2.setTop (mkF m 18 #[.val (.ref a0), .val (.ref a1), .unset] [(.ref a1)]))
    refine own_st ?_ (fun t_ k_ => XS.astoreN X2.here hx rfl (hb hby d22_18) rfl rfl (l' := #[.val (.ref a0), .val (.ref a1), .val (.ref a1)]) rfl k_)
    show own_G p.tables e below _ _ (T2.setTop (mkF m 19 #[.val (.ref a0), .val (.ref a1), .val (.ref a1)] []))
    obtain ⟨T3, X3, e3, st3⟩ := getS2 X2 hx hZ hown (host := "") (Or.inl (hw _ (List.mem_of_getElem? (i := 20) rfl))) Via.refl e2 (own_Su_to SS.1) (g := (mkF m 19 #[.val (.ref a0), .val (.ref a1), .val (.ref a1)] [])) rfl (hb hby d22_19)
    refine own_st ?_ st3
    show own_G p.tables e below _ _ (T3.setTop (mkF m 22 #[.val (.ref a0), .val (.ref a1), .val (.ref a1)] [(.int z1)]))
    refine own_st ?_ (fun t_ k_ => XS.ifNo X3.here hx rfl (hb hby d22_22) rfl ((if0 _ _).trans (feq hz1).1) k_)
    show own_G p.tables e below _ _ (T3.setTop (mkF m 25 #[.val (.ref a0), .val (.ref a1), .val (.ref a1)] []))
    refine own_st ?_ (fun t_ k_ => XS.aloadN X3.here hx rfl (hb hby d22_25) rfl rfl k_)
    show own_G p.tables e below _ _ (T3.setTop (mkF m 26 #[.val (.ref a0), .val (.ref a1), .val (.ref a1)] [(.ref a0)]))
    obtain ⟨T4, X4, e4, st4⟩ := getF X3 hx hZ hown (host := "") (Or.inl (hw _ (List.mem_of_getElem? (i := 32) rfl))) Via.refl e3 Fcp (g := (mkF m 26 #[.val (.ref a0), .val (.ref a1), .val (.ref a1)] [(.ref a0)])) rfl rfl (hb hby d22_26)
    refine own_st ?_ st4
    show own_G p.tables e below _ _ (T4.setTop (mkF m 29 #[.val (.ref a0), .val (.ref a1), .val (.ref a1)] [(.int cd)]))
    refine own_st ?_ (fun t_ k_ => XS.aloadN X4.here hx rfl (hb hby d22_29) rfl rfl k_)
    show own_G p.tables e below _ _ (T4.setTop (mkF m 30 #[.val (.ref a0), .val (.ref a1), .val (.ref a1)] [(.ref a1), (.int cd)]))
    obtain ⟨T5, X5, e5, st5⟩ := getF X4 hx hZ hown (host := "") (Or.inl (hw _ (List.mem_of_getElem? (i := 32) rfl))) Via.refl e4 Fcq (g := (mkF m 30 #[.val (.ref a0), .val (.ref a1), .val (.ref a1)] [(.ref a1), (.int cd)])) rfl rfl (hb hby d22_30)
    refine own_st ?_ st5
    show own_G p.tables e below _ _ (T5.setTop (mkF m 33 #[.val (.ref a0), .val (.ref a1), .val (.ref a1)] [(.int cd), (.int cd)]))
    refine own_st ?_ (fun t_ k_ => XS.icmpNo X5.here hx rfl (hb hby d22_33) rfl (teq rfl).2 k_)
    show own_G p.tables e below _ _ (T5.setTop (mkF m 36 #[.val (.ref a0), .val (.ref a1), .val (.ref a1)] []))
    refine own_st ?_ (fun t_ k_ => XS.aloadN X5.here hx rfl (hb hby d22_36) rfl rfl k_)
    show own_G p.tables e below _ _ (T5.setTop (mkF m 37 #[.val (.ref a0), .val (.ref a1), .val (.ref a1)] [(.ref a0)]))
    obtain ⟨T6, X6, e6, st6⟩ := getF X5 hx hZ hown (host := "") (Or.inl (hw _ (List.mem_of_getElem? (i := 34) rfl))) Via.refl e5 Fvp (g := (mkF m 37 #[.val (.ref a0), .val (.ref a1), .val (.ref a1)] [(.ref a0)])) rfl rfl (hb hby d22_37)
    refine own_st ?_ st6
    show own_G p.tables e below _ _ (T6.setTop (mkF m 40 #[.val (.ref a0), .val (.ref a1), .val (.ref a1)] [(.ref t0)]))
    refine own_st ?_ (fun t_ k_ => XS.aloadN X6.here hx rfl (hb hby d22_40) rfl rfl k_)
    show own_G p.tables e below _ _ (T6.setTop (mkF m 41 #[.val (.ref a0), .val (.ref a1), .val (.ref a1)] [(.ref a1), (.ref t0)]))
    obtain ⟨T7, X7, e7, st7⟩ := getF X6 hx hZ hown (host := "") (Or.inl (hw _ (List.mem_of_getElem? (i := 34) rfl))) Via.refl e6 Fvq (g := (mkF m 41 #[.val (.ref a0), .val (.ref a1), .val (.ref a1)] [(.ref a1), (.ref t0)])) rfl rfl (hb hby d22_41)
    refine own_st ?_ st7
    show own_G p.tables e below _ _ (T7.setTop (mkF m 44 #[.val (.ref a0), .val (.ref a1), .val (.ref a1)] [(.ref t1), (.ref t0)]))
    obtain ⟨_, _, ⟨T8, L8, k8, n8⟩, -, X8, ⟨Lc8, hQ8, l8, y8, z8⟩, st8⟩ := Jvm.LawKit.callS X7 hx (y := (⟨"java/lang/StringLatin1", "equals", "([B[B)Z"⟩ : MethodName)) hown (mvT hZ (hw _ (List.mem_of_getElem? (i := 124) rfl))) (mvT hZ (hw _ (List.mem_of_getElem? (i := 125) rfl))) (mvT hZ (hw _ (List.mem_of_getElem? (i := 87) rfl))) (mvT hZ (hw _ (List.mem_of_getElem? (i := 126) rfl))) (by decide) (backOf (W := 0) (rm23 l Z _ hw [] t0 t1 N g1 h0 n0 Z0 Y0p Y0q hN) hZ (hw _ (List.mem_of_getElem? (i := 126) rfl)) (hw _ (List.mem_of_getElem? (i := 87) rfl)) (by decide) (by decide)) (g := (mkF m 44 #[.val (.ref a0), .val (.ref a1), .val (.ref a1)] [(.ref t1), (.ref t0)])) rfl (by rw [hml]; rfl) (argsL := [(.ref t0), (.ref t1)]) (rest := []) (lenOf pd_21 rfl) rfl (by show 2 * 0 + _ ≤ _; exact Nat.le_of_eq rfl) (hb hby d22_44) (fun _ _ => ⟨rfl, e7, (by decide : 0 + 0 ≤ _), (by decide : 0 + 0 ≤ _)⟩)
    dsimp only [Pt.U, Pt.locs, Pt.cells, Pt.slots] at X8 l8 y8 z8 st8 hQ8
    subst l8 y8 z8
    obtain ⟨rfl, N8q, e8⟩ := hQ8
    have N8 := Fr.app N0 N8q
    refine own_st ?_ st8
    show own_G p.tables e below _ _ (T8.setTop (mkF m 47 #[.val (.ref a0), .val (.ref a1), .val (.ref a1)] [(.int (1 : Int32))]))
    refine own_st ?_ (fun t_ k_ => XS.ifNo X8.here hx rfl (hb hby d22_47) rfl ((if0 _ _).trans (feq (by decide : ¬ ((1 : Int32) = (0 : Int32)))).1) k_)
    show own_G p.tables e below _ _ (T8.setTop (mkF m 50 #[.val (.ref a0), .val (.ref a1), .val (.ref a1)] []))
    refine own_st ?_ (fun t_ k_ => XS.iconst X8.here hx rfl (hb hby d22_50) k_)
    show own_G p.tables e below _ _ (T8.setTop (mkF m 51 #[.val (.ref a0), .val (.ref a1), .val (.ref a1)] [(.int (1 : Int32))]))
    refine own_st ?_ (fun t_ k_ => XS.goto X8.here hx rfl (pc0 := 51) (pc' := 55) rfl (hb hby d22_51) (by decide) (by decide) k_)
    show own_G p.tables e below _ _ (T8.setTop (mkF m 55 #[.val (.ref a0), .val (.ref a1), .val (.ref a1)] [(.int (1 : Int32))]))
    exact own_retN X8 hx hlk (t := .boolean) hret (by simp) (hb hby d22_55) (by decide) (by decide) (z' := (1 : Int32)) rfl ⟨rfl, N8, e8⟩
section OwnBackV
variable {p : Program} {l : Launch} {e : Env} {R : Room} {s : State} {args : Array Value} {below : List Frame} {Z : State} {a0 : Array Value} {h : Heap}
/-- a callee whose law asks something of the vm at its start and says something of the vm at its end -/
theorem own_backV {y : MethodName} {bytes : ByteArray} {maxL : Nat} {ret : Option FieldType} {rm : Room} {len W : Nat} {as' : Array Value} {PV : Vm → Prop} {Q : Option Value → Vm → Heap → List Loc → Prop}
    (hM : MetFree l y (head1 [Cond.code y bytes maxL ret] rm) (fun a U => a = as' ∧ Z.Warmed39 U.vm ∧ U.heap = h ∧ PV U.vm) (fun _ _ _ _ _ => True) (fun _ U o U' => ∃ v L, o = .returned v ∧ Q v U'.vm U'.heap L ∧ ReturnedEndW U o U' L rm.cells rm.slots))
    (hZ : Z.Warmed39 s.vm) (wc : (Cond.code y bytes maxL ret).before a0 Z = true) (wz : (Cond.initialized y.cls).before a0 Z = true) (hf : rm.frames + 1 ≤ R.frames) (hl : W + (maxL + 11) + rm.locals ≤ R.locals) :
    BackS l R p e below s args y len W (fun A a => a = as' ∧ A.U.heap = h ∧ PV A.U.vm ∧ A.cells + rm.cells ≤ R.cells ∧ A.slots + rm.slots ≤ R.slots)
      (fun A _ v B => ∃ L, Q v B.U.vm B.U.heap L ∧ B.locs = A.locs ++ L ∧ B.cells = A.cells + rm.cells ∧ B.slots = A.slots + rm.slots) :=
  BackS.of_freeW (bytes := bytes) (maxL := maxL) (ret := ret) (E := fun _ _ o t L k n => k = rm.cells ∧ n = rm.slots ∧ ∃ v, o = .returned v ∧ Q v t.vm t.heap L) hM hf hl
    (fun m meth c A a Y hp => have hU : Z.Warmed39 A.U.vm := wtrans hZ Y.warmed
      ⟨by show (Cond.and _ .tt).before a A.U = true; rw [Cond.before_and, mv hU wc]; rfl, mv hU wc, mv hU wz, hp.2.2.2.1, hp.2.2.2.2⟩)
    (fun m meth c A a g mk Y hp => ⟨hp.1, wtrans hZ Y.warmed, hp.2.1, hp.2.2.1⟩) (fun _ _ _ _ _ _ _ _ _ => trivial)
    (fun _ _ _ _ ⟨v, L, h1, h2, h3⟩ => ⟨L, _, _, h3, rfl, rfl, v, h1, h2⟩)
    (fun m meth c A a g mk v t L k n Y hp _ _ ⟨e1, e2, v', e3, e4⟩ => by cases e3; subst e1 e2; exact ⟨L, e4, rfl, rfl, rfl⟩)
theorem own_ib {vm1 : Vm} {Ts : List String} (I : IB Z s.vm Ts) (h : s.WarmedH vm1) : IB Z vm1 Ts := by
  obtain ⟨more, h1, h2⟩ := I
  exact ⟨more, by rw [h.interned_eq]; exact h1, h2⟩
theorem own_lit {vm1 : Vm} {own : String} {i : Nat} {a : Addr} (L : Lit s own i a) (h : s.WarmedH vm1) : Lit (Z.setVm vm1) own i a :=
  State.resolvedAt?_warmed39 (s := s) h.wide L
end OwnBackV
/-- the literal "": b, its bytes t -/
def own_Lt (Z : State) (b t : Addr) (vm : Vm) (h : Heap) : Prop := Lit (Z.setVm vm) "java/lang/String" 7 b ∧ Exa Z h b "java/lang/String" ∧ Fld Z h b "java/lang/String" "coder" "B" (.int (0 : Int32)) ∧ Fld Z h b "java/lang/String" "value" "[B" (.ref t) ∧ own_Y .byte Z h t 0 (fun _ => 0)
def own_PE (Z : State) (a b t : Addr) (vm : Vm) (h : Heap) : Prop := a ≠ b ∧ a ≠ t ∧ Fld Z h a "java/lang/String" "coder" "B" (.int (0 : Int32)) ∧ Fld Z h a "java/lang/String" "value" "[B" (.ref t) ∧ own_Lt Z b t vm h
theorem own_neY {Z : State} {a0 : Array Value} {h : Heap} {x b : Addr} {n N : Nat} {g : Nat → Int32} (E : Exa Z h x "java/lang/String") (F : own_Y .byte Z h b N g) (w : (Jvm.Cond.instantiable "java/lang/String" n).before a0 Z = true) : x ≠ b := fun q => by
  subst q
  obtain ⟨c1, k1, e1, f1, g1, -⟩ := E
  obtain ⟨c2, ⟨e2, hA, -⟩, -⟩ := F
  cases e1.symm.trans e2
  simp only [Cond.before, Cond.holds, Cond.value, f1, Option.bind_some, g1, Option.map_some] at w
  have ho : k1.kind = .ordinary := by
    simp only [beq_iff_eq, Option.some.injEq, Bool.and_eq_true, decide_eq_true_eq] at w; exact w.1.1.1
  obtain ⟨-, kk, hk, comp, hkind⟩ := hA
  rw [g1] at hk; cases hk; rw [ho] at hkind; cases hkind
theorem d3_8 : decode jdk_42_method_149_code 8 = .ok (.aload_n 0, 1) := by decide +kernel
theorem d3_9 : decode jdk_42_method_149_code 9 = .ok (.ldc 7, 2) := by decide +kernel
theorem d3_11 : decode jdk_42_method_149_code 11 = .ok (.getfield 9, 3) := by decide +kernel
theorem d3_14 : decode jdk_42_method_149_code 14 = .ok (.putfield 9, 3) := by decide +kernel
theorem d3_17 : decode jdk_42_method_149_code 17 = .ok (.aload_n 0, 1) := by decide +kernel
theorem d3_18 : decode jdk_42_method_149_code 18 = .ok (.ldc 7, 2) := by decide +kernel
theorem d3_20 : decode jdk_42_method_149_code 20 = .ok (.getfield 15, 3) := by decide +kernel
theorem d3_23 : decode jdk_42_method_149_code 23 = .ok (.putfield 15, 3) := by decide +kernel
theorem d3_26 : decode jdk_42_method_149_code 26 = .ok (.return_, 1) := by decide +kernel
theorem pn_3e : plainName "java/lang/String" = true := by first | (simp [plainName, overriddenIn]; done) | decide +kernel
theorem ef_3e (m : MethodId) (a0 : Addr) (a1 : Addr) : entryFrame m #[(.ref a0), (.ref a1), (.int (0 : Int32)), (.int (0 : Int32)), .null] 6 = mkF m 0 #[.val (.ref a0), .val (.ref a1), .val (.int (0 : Int32)), .val (.int (0 : Int32)), .val .null, .unset] [] := by first | (simp [entryFrame, mkF, argsToLocals, Value.category]; done) | rfl
set_option maxRecDepth 65536 in
set_option maxHeartbeats 40000000 in
theorem rm3e (l : Launch) (Z : State) (a0 : Array Value) (hw : ∀ d ∈ tables_1, d.before a0 Z = true) (ws : List Jvm.Cond) (a0 : Addr) (a1 : Addr) (u1 : Value) (h0 : Heap) (n0 : Nat) (Z0 : n0 ≤ h0.size) (g_a0 : n0 ≤ a0) (E0 : Exa Z h0 a0 "java/lang/String") (F1 : Fld Z h0 a0 "java/lang/String" "coder" "B" u1) (F2 : Fld Z h0 a0 "java/lang/String" "value" "[B" .null) (hkp : ∀ (b : Addr) (cl : Cell), Z.heap[b]? = some cl → h0[b]? = some cl) (hheld : Jvm.Lit.constHeld Z "java/lang/String" 7) (hcw : ∀ a : Array Value, Jvm.Lit.compactW.before a Z = true) :
    MetFree l (⟨"java/lang/String", "<init>", "([CIILjava/lang/Void;)V"⟩ : MethodName) (head1 (Jvm.Cond.code (⟨"java/lang/String", "<init>", "([CIILjava/lang/Void;)V"⟩ : MethodName) jdk_42_method_149_code 6 none :: ws) ({ frames := 1, cells := 2, slots := 4, locals := 12 } : Room)) (fun a U => a = #[(.ref a0), (.ref a1), (.int (0 : Int32)), (.int (0 : Int32)), .null] ∧ Z.Warmed39 U.vm ∧ U.heap = h0 ∧ IB Z U.vm []) (fun _ _ _ _ _ => True) (fun _ U o U' => ∃ v L, o = .returned v ∧ (fun v vm h L => v = none ∧ Fr n0 L ∧ Keep h0 h [a0] ∧ ∃ b t : Addr, own_PE Z a0 b t vm h) v U'.vm U'.heap L ∧ ReturnedEndW U o U' L ({ frames := 1, cells := 2, slots := 4, locals := 12 } : Room).cells ({ frames := 1, cells := 2, slots := 4, locals := 12 } : Room).slots) := by
  refine MetFree.of_bodySF (plainFor_of_name pn_3e) hisR ?_
  intro p e s m args below meth c s₁ Bd hml0 hP hK
  obtain ⟨rfl, hZ, hh, hpv⟩ := hP
  have hx := Bd.exec
  have hby := Bd.bytes
  have hlk : meth.locks = false := BodyLoose.notSynchronized Bd
  have hret := Bd.returns
  have hml : c.maxLocals = 6 := hml0
  have hown : s.vm.findClass "java/lang/String" = some m.cls := findClass_of_methodNamed Bd.named
  have hnm := (name_of_methodNamed Bd.named Bd.method).1
  have X0 : Stand p l e ({ frames := 1, cells := 2, slots := 4, locals := 12 } : Room) (s.setVm s.vm) m #[(.ref a0), (.ref a1), (.int (0 : Int32)), (.int (0 : Int32)), .null] below meth c s₁ [] 0 0 := Stand.of_body Bd
  have e0 : s₁.heap = h0 := by rw [← hh, Bd.state]; rfl
  have N0 := Fr.nil n0
  show own_GV p.tables e below s ({ frames := 1, cells := 2, slots := 4, locals := 12 } : Room).cells ({ frames := 1, cells := 2, slots := 4, locals := 12 } : Room).slots (fun v vm h L => v = none ∧ Fr n0 L ∧ Keep h0 h [a0] ∧ ∃ b t : Addr, own_PE Z a0 b t vm h) (s₁.setTop (entryFrame m #[(.ref a0), (.ref a1), (.int (0 : Int32)), (.int (0 : Int32)), .null] 6))
  refine own_GV_of ?_
  refine own_st ?_ (fun t_ k_ => castTop (ef_3e m a0 a1) k_)
  show own_G p.tables e below _ _ (s₁.setTop (mkF m 0 #[.val (.ref a0), .val (.ref a1), .val (.int (0 : Int32)), .val (.int (0 : Int32)), .val .null, .unset] []))
  have hkeep : ∀ (b : Addr) (cl : Cell), Z.heap[b]? = some cl → s.heap[b]? = some cl := fun b cl q => by rw [hh]; exact hkp b cl q
  have hS0 : s.Since s.vm h0.size := (State.WarmedH.refl s).since _
  have hk0 : h0.size ≤ h0.size := Nat.le_refl _
  refine own_st ?_ (fun t_ k_ => XS.aloadN X0.here hx rfl (hb hby d3_0) rfl rfl k_)
  show own_G p.tables e below _ _ (s₁.setTop (mkF m 1 #[.val (.ref a0), .val (.ref a1), .val (.int (0 : Int32)), .val (.int (0 : Int32)), .val .null, .unset] [(.ref a0)]))
  obtain ⟨T1, X1, e1, st1⟩ := initO X0 hx hZ hown (hw _ (List.mem_of_getElem? (i := 17) rfl)) (hw _ (List.mem_of_getElem? (i := 18) rfl)) (hw _ (List.mem_of_getElem? (i := 19) rfl)) e0 (g := (mkF m 1 #[.val (.ref a0), .val (.ref a1), .val (.int (0 : Int32)), .val (.int (0 : Int32)), .val .null, .unset] [(.ref a0)])) rfl (by rw [hml]; rfl) rfl (hb hby d3_1) (by decide) (W := 0) (by show 2 * 0 + _ ≤ _; exact Nat.le_of_eq rfl) (by decide)
  refine own_st ?_ st1
  show own_G p.tables e below _ _ (T1.setTop (mkF m 4 #[.val (.ref a0), .val (.ref a1), .val (.int (0 : Int32)), .val (.int (0 : Int32)), .val .null, .unset] []))
  refine own_st ?_ (fun t_ k_ => XS.iloadN X1.here hx rfl (hb hby d3_4) rfl k_)
  show own_G p.tables e below _ _ (T1.setTop (mkF m 5 #[.val (.ref a0), .val (.ref a1), .val (.int (0 : Int32)), .val (.int (0 : Int32)), .val .null, .unset] [(.int (0 : Int32))]))
  refine own_st ?_ (fun t_ k_ => XS.ifNo X1.here hx rfl (hb hby d3_5) rfl ((if0 _ _).trans (teq (by decide : (0 : Int32) = (0 : Int32))).2) k_)
  show own_G p.tables e below _ _ (T1.setTop (mkF m 8 #[.val (.ref a0), .val (.ref a1), .val (.int (0 : Int32)), .val (.int (0 : Int32)), .val .null, .unset] []))
  refine own_st ?_ (fun t_ k_ => XS.aloadN X1.here hx rfl (hb hby d3_8) rfl rfl k_)
  show own_G p.tables e below _ _ (T1.setTop (mkF m 9 #[.val (.ref a0), .val (.ref a1), .val (.int (0 : Int32)), .val (.int (0 : Int32)), .val .null, .unset] [(.ref a0)]))
  obtain ⟨b2, T2, h2, kq2, c2, kk2, X2, e2, E2, hS2, hk2, hZ2, hown2, Es2, Fc2, Fv2, Va2, -, -, I2, Li2, st2⟩ := ldcSVL X1 hx hZ hown (hw _ (List.mem_of_getElem? (i := 127) rfl)) (fun a ha => hw a (own_strs a ha)) e1 hS0 hk0 (Fr.nil _) hkeep hpv (by simp) hheld (hcw _) (vs := []) (z := 0) ⟨by decide, by decide⟩ (by decide) (by decide) (g := (mkF m 9 #[.val (.ref a0), .val (.ref a1), .val (.int (0 : Int32)), .val (.int (0 : Int32)), .val .null, .unset] [(.ref a0)])) rfl (hb hby d3_9) (n := 0) (by decide) (by decide) (by decide) (by decide)
  have F3_E : Exa Z h2 a0 "java/lang/String" := E0.ext E2
  have F4_coder : Fld Z h2 a0 "java/lang/String" "coder" "B" u1 := F1.ext E2
  have F5_value : Fld Z h2 a0 "java/lang/String" "value" "[B" .null := F2.ext E2
  have hkc6 := Nat.le_trans hk0 E2.1
  have Zs7 : n0 ≤ h2.size := Nat.le_trans Z0 E2.1
  have Kc8 : Keep h0 h2 [a0] := (Keep.refl h0 [a0]).ext E2
  have hZ := hZ2
  have hown := hown2
  have Vc2 : own_Y .byte Z h2 c2 0 (fun _ => 0) := own_Y_new Va2 (by decide)
  refine own_st ?_ st2
  show own_G p.tables e below _ _ (T2.setTop (mkF m 11 #[.val (.ref a0), .val (.ref a1), .val (.int (0 : Int32)), .val (.int (0 : Int32)), .val .null, .unset] [(.ref b2), (.ref a0)]))
  have nb0 : a0 ≠ b2 := Fld.ne F5_value Fv2 (by simp)
  have nt0 : a0 ≠ c2 := own_neY F3_E Vc2 (hw _ (List.mem_of_getElem? (i := 3) rfl))
  obtain ⟨T9, X9, e9, st9⟩ := getF X2 hx hZ hown (host := "") (Or.inl (hw _ (List.mem_of_getElem? (i := 34) rfl))) Via.refl e2 Fv2 (g := (mkF m 11 #[.val (.ref a0), .val (.ref a1), .val (.int (0 : Int32)), .val (.int (0 : Int32)), .val .null, .unset] [(.ref b2), (.ref a0)])) rfl rfl (hb hby d3_11)
  refine own_st ?_ st9
  show own_G p.tables e below _ _ (T9.setTop (mkF m 14 #[.val (.ref a0), .val (.ref a1), .val (.int (0 : Int32)), .val (.int (0 : Int32)), .val .null, .unset] [(.ref c2), (.ref a0)]))
  obtain ⟨T10, h10, X10, e10, W10, st10⟩ := putF X9 hx hZ hown (host := "") (Or.inl (hw _ (List.mem_of_getElem? (i := 34) rfl))) Via.refl e9 F5_value F3_E (Or.inr ⟨(hw _ (List.mem_of_getElem? (i := 35) rfl)), rfl, hnm⟩) (hw _ (List.mem_of_getElem? (i := 3) rfl)) (ty := (.array .byte)) (by decide) rfl rfl (g := (mkF m 14 #[.val (.ref a0), .val (.ref a1), .val (.int (0 : Int32)), .val (.int (0 : Int32)), .val .null, .unset] [(.ref c2), (.ref a0)])) rfl rfl (hb hby d3_14)
  have N10 := Fr.snoc X10 N0 g_a0
  have F11_E : Exa Z h10 a0 "java/lang/String" := F3_E.wr W10
  have F12_coder : Fld Z h10 a0 "java/lang/String" "coder" "B" u1 := F4_coder.other W10 (Or.inr (slot_ne (Or.inr (hw _ (List.mem_of_getElem? (i := 33) rfl))) (Or.inr (hw _ (List.mem_of_getElem? (i := 35) rfl))) (by decide) (t := .byte) (t' := (.array .byte)) (by decide) (by decide)))
  have F13_value : Fld Z h10 a0 "java/lang/String" "value" "[B" (.ref c2) := F5_value.same W10
  have F14_E : Exa Z h10 b2 "java/lang/String" := Es2.wr W10
  have F15_coder : Fld Z h10 b2 "java/lang/String" "coder" "B" (.int (0 : Int32)) := Fc2.other W10 (Or.inl (Ne.symm nb0))
  have F16_value : Fld Z h10 b2 "java/lang/String" "value" "[B" (.ref c2) := Fv2.other W10 (Or.inl (Ne.symm nb0))
  have F17_P : own_Y .byte Z h10 c2 0 (fun _ => 0) := own_Y_keep Vc2 (Keep.of_wr W10) (ninS (Ne.symm nt0) nin0)
  have hkc18 := Nat.le_trans hk2 (Keep.of_wr W10).1
  have Zs19 : n0 ≤ h10.size := Nat.le_trans Zs7 (Keep.of_wr W10).1
  have Kc20 : Keep h0 h10 [a0] := Kc8.wr W10 (Or.inl (List.mem_of_getElem? (i := 0) rfl))
  refine own_st ?_ st10
  show own_G p.tables e below _ _ (T10.setTop (mkF m 17 #[.val (.ref a0), .val (.ref a1), .val (.int (0 : Int32)), .val (.int (0 : Int32)), .val .null, .unset] []))
  refine own_st ?_ (fun t_ k_ => XS.aloadN X10.here hx rfl (hb hby d3_17) rfl rfl k_)
  show own_G p.tables e below _ _ (T10.setTop (mkF m 18 #[.val (.ref a0), .val (.ref a1), .val (.int (0 : Int32)), .val (.int (0 : Int32)), .val .null, .unset] [(.ref a0)]))
  refine own_st ?_ (ldcAgain X10 hx hZ hown (hw _ (List.mem_of_getElem? (i := 127) rfl)) Li2 (g := (mkF m 18 #[.val (.ref a0), .val (.ref a1), .val (.int (0 : Int32)), .val (.int (0 : Int32)), .val .null, .unset] [(.ref a0)])) rfl (hb hby d3_18))
  show own_G p.tables e below _ _ (T10.setTop (mkF m 20 #[.val (.ref a0), .val (.ref a1), .val (.int (0 : Int32)), .val (.int (0 : Int32)), .val .null, .unset] [(.ref b2), (.ref a0)]))
  obtain ⟨T22, X22, e22, st22⟩ := getF X10 hx hZ hown (host := "") (Or.inl (hw _ (List.mem_of_getElem? (i := 32) rfl))) Via.refl e10 F15_coder (g := (mkF m 20 #[.val (.ref a0), .val (.ref a1), .val (.int (0 : Int32)), .val (.int (0 : Int32)), .val .null, .unset] [(.ref b2), (.ref a0)])) rfl rfl (hb hby d3_20)
  refine own_st ?_ st22
  show own_G p.tables e below _ _ (T22.setTop (mkF m 23 #[.val (.ref a0), .val (.ref a1), .val (.int (0 : Int32)), .val (.int (0 : Int32)), .val .null, .unset] [(.int (0 : Int32)), (.ref a0)]))
  obtain ⟨T23, h23, X23, e23, W23, st23⟩ := putFN X22 hx hZ hown (hw _ (List.mem_of_getElem? (i := 32) rfl)) Via.refl e22 F12_coder F11_E (Or.inr ⟨(hw _ (List.mem_of_getElem? (i := 33) rfl)), rfl, hnm⟩) (hw _ (List.mem_of_getElem? (i := 3) rfl)) (ty := .byte) (v' := (.int (0 : Int32))) (by decide) rfl (by decide) (g := (mkF m 23 #[.val (.ref a0), .val (.ref a1), .val (.int (0 : Int32)), .val (.int (0 : Int32)), .val .null, .unset] [(.int (0 : Int32)), (.ref a0)])) rfl rfl (hb hby d3_23)
  have N23 := Fr.snoc X23 N10 g_a0
  have F24_E : Exa Z h23 a0 "java/lang/String" := F11_E.wr W23
  have F25_coder : Fld Z h23 a0 "java/lang/String" "coder" "B" (.int (0 : Int32)) := F12_coder.same W23
  have F26_value : Fld Z h23 a0 "java/lang/String" "value" "[B" (.ref c2) := F13_value.other W23 (Or.inr (slot_ne (Or.inr (hw _ (List.mem_of_getElem? (i := 35) rfl))) (Or.inr (hw _ (List.mem_of_getElem? (i := 33) rfl))) (by decide) (t := (.array .byte)) (t' := .byte) (by decide) (by decide)))
  have F27_E : Exa Z h23 b2 "java/lang/String" := F14_E.wr W23
  have F28_coder : Fld Z h23 b2 "java/lang/String" "coder" "B" (.int (0 : Int32)) := F15_coder.other W23 (Or.inl (Ne.symm nb0))
  have F29_value : Fld Z h23 b2 "java/lang/String" "value" "[B" (.ref c2) := F16_value.other W23 (Or.inl (Ne.symm nb0))
  have F30_P : own_Y .byte Z h23 c2 0 (fun _ => 0) := own_Y_keep F17_P (Keep.of_wr W23) (ninS (Ne.symm nt0) nin0)
  have hkc31 := Nat.le_trans hkc18 (Keep.of_wr W23).1
  have Zs32 : n0 ≤ h23.size := Nat.le_trans Zs19 (Keep.of_wr W23).1
  have Kc33 : Keep h0 h23 [a0] := Kc20.wr W23 (Or.inl (List.mem_of_getElem? (i := 0) rfl))
  refine own_st ?_ st23
  show own_G p.tables e below _ _ (T23.setTop (mkF m 26 #[.val (.ref a0), .val (.ref a1), .val (.int (0 : Int32)), .val (.int (0 : Int32)), .val .null, .unset] []))
  refine own_retVL X23 hx hlk hS2 (by rw [e23]; exact hkc31) hret (hb hby d3_26) (by decide) (by decide) ⟨rfl, N23, ?_⟩
  rw [e23]
  exact ⟨Kc33, b2, c2, nb0, nt0, F25_coder, F26_value, own_lit Li2 X23.warmed, F27_E, F28_coder, F29_value, F30_P⟩
theorem pn_2e : plainName "java/lang/String" = true := by first | (simp [plainName, overriddenIn]; done) | decide +kernel
theorem ef_2e (m : MethodId) (a0 : Addr) (a1 : Addr) : entryFrame m #[(.ref a0), (.ref a1)] 2 = mkF m 0 #[.val (.ref a0), .val (.ref a1)] [] := by first | (simp [entryFrame, mkF, argsToLocals, Value.category]; done) | rfl
set_option maxRecDepth 65536 in
set_option maxHeartbeats 40000000 in
theorem rm2e (l : Launch) (Z : State) (a0 : Array Value) (hw : ∀ d ∈ tables_1, d.before a0 Z = true) (ws : List Jvm.Cond) (a0 : Addr) (a1 : Addr) (u1 : Value) (ch : Nat → Int32) (h0 : Heap) (n0 : Nat) (Z0 : n0 ≤ h0.size) (g_a0 : n0 ≤ a0) (E0 : Exa Z h0 a0 "java/lang/String") (F1 : Fld Z h0 a0 "java/lang/String" "coder" "B" u1) (F2 : Fld Z h0 a0 "java/lang/String" "value" "[B" .null) (Y0 : own_Y .char Z h0 a1 (0 : Nat) ch) (hkp : ∀ (b : Addr) (cl : Cell), Z.heap[b]? = some cl → h0[b]? = some cl) (hheld : Jvm.Lit.constHeld Z "java/lang/String" 7) (hcw : ∀ a : Array Value, Jvm.Lit.compactW.before a Z = true) (hne : a1 ≠ a0) :
    MetFree l (⟨"java/lang/String", "<init>", "([C)V"⟩ : MethodName) (head1 (Jvm.Cond.code (⟨"java/lang/String", "<init>", "([C)V"⟩ : MethodName) jdk_42_method_3_code 2 none :: ws) ({ frames := 2, cells := 2, slots := 4, locals := 29 } : Room)) (fun a U => a = #[(.ref a0), (.ref a1)] ∧ Z.Warmed39 U.vm ∧ U.heap = h0 ∧ IB Z U.vm []) (fun _ _ _ _ _ => True) (fun _ U o U' => ∃ v L, o = .returned v ∧ (fun v vm h L => v = none ∧ Fr n0 L ∧ Keep h0 h [a0] ∧ ∃ b t : Addr, own_PE Z a0 b t vm h) v U'.vm U'.heap L ∧ ReturnedEndW U o U' L ({ frames := 2, cells := 2, slots := 4, locals := 29 } : Room).cells ({ frames := 2, cells := 2, slots := 4, locals := 29 } : Room).slots) := by
  refine MetFree.of_bodySF (plainFor_of_name pn_2e) hisR ?_
  intro p e s m args below meth c s₁ Bd hml0 hP hK
  obtain ⟨rfl, hZ, hh, hpv⟩ := hP
  have hx := Bd.exec
  have hby := Bd.bytes
  have hlk : meth.locks = false := BodyLoose.notSynchronized Bd
  have hret := Bd.returns
  have hml : c.maxLocals = 2 := hml0
  have hown : s.vm.findClass "java/lang/String" = some m.cls := findClass_of_methodNamed Bd.named
  have hnm := (name_of_methodNamed Bd.named Bd.method).1
  have X0 : Stand p l e ({ frames := 2, cells := 2, slots := 4, locals := 29 } : Room) (s.setVm s.vm) m #[(.ref a0), (.ref a1)] below meth c s₁ [] 0 0 := Stand.of_body Bd
  have e0 : s₁.heap = h0 := by rw [← hh, Bd.state]; rfl
  have N0 := Fr.nil n0
  show own_GV p.tables e below s ({ frames := 2, cells := 2, slots := 4, locals := 29 } : Room).cells ({ frames := 2, cells := 2, slots := 4, locals := 29 } : Room).slots (fun v vm h L => v = none ∧ Fr n0 L ∧ Keep h0 h [a0] ∧ ∃ b t : Addr, own_PE Z a0 b t vm h) (s₁.setTop (entryFrame m #[(.ref a0), (.ref a1)] 2))
  refine own_GV_of ?_
  refine own_st ?_ (fun t_ k_ => castTop (ef_2e m a0 a1) k_)
  show own_G p.tables e below _ _ (s₁.setTop (mkF m 0 #[.val (.ref a0), .val (.ref a1)] []))
  have hkeep : ∀ (b : Addr) (cl : Cell), Z.heap[b]? = some cl → s.heap[b]? = some cl := fun b cl q => by rw [hh]; exact hkp b cl q
  have hS0 : s.Since s.vm h0.size := (State.WarmedH.refl s).since _
  have hk0 : h0.size ≤ h0.size := Nat.le_refl _
  refine own_st ?_ (fun t_ k_ => XS.aloadN X0.here hx rfl (hb hby d2_0) rfl rfl k_)
  show own_G p.tables e below _ _ (s₁.setTop (mkF m 1 #[.val (.ref a0), .val (.ref a1)] [(.ref a0)]))
  refine own_st ?_ (fun t_ k_ => XS.aloadN X0.here hx rfl (hb hby d2_1) rfl rfl k_)
  show own_G p.tables e below _ _ (s₁.setTop (mkF m 2 #[.val (.ref a0), .val (.ref a1)] [(.ref a1), (.ref a0)]))
  refine own_st ?_ (fun t_ k_ => XS.iconst X0.here hx rfl (hb hby d2_2) k_)
  show own_G p.tables e below _ _ (s₁.setTop (mkF m 3 #[.val (.ref a0), .val (.ref a1)] [(.int (0 : Int32)), (.ref a1), (.ref a0)]))
  refine own_st ?_ (fun t_ k_ => XS.aloadN X0.here hx rfl (hb hby d2_3) rfl rfl k_)
  show own_G p.tables e below _ _ (s₁.setTop (mkF m 4 #[.val (.ref a0), .val (.ref a1)] [(.ref a1), (.int (0 : Int32)), (.ref a1), (.ref a0)]))
  obtain ⟨cl1, Ar1, Sz1, G1⟩ := Y0
  refine own_st ?_ (X0.arraylength hx (by rw [e0]; exact Ar1.1) (State.isArrayOf_alike hZ.alike Ar1.2.1) (g := (mkF m 4 #[.val (.ref a0), .val (.ref a1)] [(.ref a1), (.int (0 : Int32)), (.ref a1), (.ref a0)])) rfl rfl (hb hby d2_4))
  rw [Sz1]
  have Yx1 : own_Y .char Z h0 a1 (0 : Nat) ch := ⟨cl1, Ar1, Sz1, G1⟩
  show own_G p.tables e below _ _ (s₁.setTop (mkF m 5 #[.val (.ref a0), .val (.ref a1)] [(.int ((0 : Nat)).toInt32), (.int (0 : Int32)), (.ref a1), (.ref a0)]))
  refine own_st ?_ (fun t_ k_ => XS.aconstNull X0.here hx rfl (hb hby d2_5) k_)
  show own_G p.tables e below _ _ (s₁.setTop (mkF m 6 #[.val (.ref a0), .val (.ref a1)] [.null, (.int ((0 : Nat)).toInt32), (.int (0 : Int32)), (.ref a1), (.ref a0)]))
  obtain ⟨_, _, ⟨T2, L2, k2, n2⟩, -, X2, hSq2, hgq2, ⟨Lc2, hQ2, l2, y2, z2⟩, st2⟩ := X0.specialBackS hx (y := (⟨"java/lang/String", "<init>", "([CIILjava/lang/Void;)V"⟩ : MethodName)) rfl hown (mvT hZ (hw _ (List.mem_of_getElem? (i := 13) rfl))) (mvT hZ (hw _ (List.mem_of_getElem? (i := 14) rfl))) (mvT hZ (hw _ (List.mem_of_getElem? (i := 16) rfl))) (by decide) (own_backV (PV := fun vm_ => IB Z vm_ []) (Q := fun v vm h L => v = none ∧ Fr n0 L ∧ Keep h0 h [a0] ∧ ∃ b t : Addr, own_PE Z a0 b t vm h) (W := 0) (rm3e l Z _ hw [] a0 a1 u1 h0 n0 Z0 g_a0 E0 F1 F2 hkp hheld hcw) hZ (hw _ (List.mem_of_getElem? (i := 16) rfl)) (hw _ (List.mem_of_getElem? (i := 4) rfl)) (by decide) (by decide)) (g := (mkF m 6 #[.val (.ref a0), .val (.ref a1)] [.null, (.int ((0 : Nat)).toInt32), (.int (0 : Int32)), (.ref a1), (.ref a0)])) rfl (by rw [hml]; rfl) (Steps.refl _) (a := a0) (argsL := [(.ref a1), (.int (0 : Int32)), (.int ((0 : Nat)).toInt32), .null]) (rest := []) (lenOf pd_13 rfl) rfl (by show 2 * 0 + _ ≤ _; exact Nat.le_of_eq rfl) (hb hby d2_6) (fun vq hq_ => ⟨rfl, e0, own_ib hpv hq_, (by decide : 0 + 2 ≤ _), (by decide : 0 + 4 ≤ _)⟩)
  dsimp only [Pt.U, Pt.locs, Pt.cells, Pt.slots] at X2 l2 y2 z2 st2 hQ2
  subst l2 y2 z2
  dsimp only [Pt.U] at hSq2 hgq2
  obtain ⟨X2, hS2, hZ, hown⟩ := rebS hS0 (by rw [e0]; exact hk0) X2 hSq2 hgq2 hZ hown
  have hk2 := Nat.le_refl T2.heap.size
  obtain ⟨rfl, N2q, hq2⟩ := hQ2
  have N2 := Fr.app N0 N2q
  obtain ⟨K2, hP2⟩ := hq2
  have F3_E : Exa Z T2.heap a0 "java/lang/String" := E0.keep K2
  have F4_P : own_Y .char Z T2.heap a1 (0 : Nat) ch := own_Y_keep Yx1 K2 (ninS hne nin0)
  have hkc5 := Nat.le_trans hk0 K2.1
  have Zs6 : n0 ≤ T2.heap.size := Nat.le_trans Z0 K2.1
  have Kc7 : Keep h0 T2.heap [a0] := (Keep.refl h0 [a0]).trans K2 (allS (Or.inl (List.mem_of_getElem? (i := 0) rfl)) all0)
  refine own_st ?_ (fun t_ k_ => st2.trans k_)
  show own_G p.tables e below _ _ (T2.setTop (mkF m 9 #[.val (.ref a0), .val (.ref a1)] []))
  refine own_retVL X2 hx hlk hS2 hk2 hret (hb hby d2_9) (by decide) (by decide) ⟨rfl, N2, ?_⟩
  exact ⟨Kc7, hP2⟩
theorem pn_3f : plainName "java/lang/String" = true := by first | (simp [plainName, overriddenIn]; done) | decide +kernel
theorem ef_3f (m : MethodId) (a0 : Addr) (a1 : Addr) : entryFrame m #[(.ref a0), (.ref a1), (.int (0 : Int32)), (.int (0 : Int32)), .null] 6 = mkF m 0 #[.val (.ref a0), .val (.ref a1), .val (.int (0 : Int32)), .val (.int (0 : Int32)), .val .null, .unset] [] := by first | (simp [entryFrame, mkF, argsToLocals, Value.category]; done) | rfl
set_option maxRecDepth 65536 in
set_option maxHeartbeats 40000000 in
theorem rm3f (l : Launch) (Z : State) (a0 : Array Value) (hw : ∀ d ∈ tables_1, d.before a0 Z = true) (ws : List Jvm.Cond) (a0 : Addr) (a1 : Addr) (u1 : Value) (b : Addr) (t : Addr) (h0 : Heap) (n0 : Nat) (Z0 : n0 ≤ h0.size) (g_a0 : n0 ≤ a0) (E0 : Exa Z h0 a0 "java/lang/String") (F1 : Fld Z h0 a0 "java/lang/String" "coder" "B" u1) (F2 : Fld Z h0 a0 "java/lang/String" "value" "[B" .null) (Eb : Exa Z h0 b "java/lang/String") (Fcb : Fld Z h0 b "java/lang/String" "coder" "B" (.int (0 : Int32))) (Fvb : Fld Z h0 b "java/lang/String" "value" "[B" (.ref t)) (Ytb : own_Y .byte Z h0 t 0 (fun _ => 0)) :
    MetFree l (⟨"java/lang/String", "<init>", "([CIILjava/lang/Void;)V"⟩ : MethodName) (head1 (Jvm.Cond.code (⟨"java/lang/String", "<init>", "([CIILjava/lang/Void;)V"⟩ : MethodName) jdk_42_method_149_code 6 none :: ws) ({ frames := 1, cells := 0, slots := 0, locals := 12 } : Room)) (fun a U => a = #[(.ref a0), (.ref a1), (.int (0 : Int32)), (.int (0 : Int32)), .null] ∧ Z.Warmed39 U.vm ∧ U.heap = h0 ∧ Lit (Z.setVm U.vm) "java/lang/String" 7 b) (fun _ _ _ _ _ => True) (fun _ U o U' => ∃ v L, o = .returned v ∧ (fun v vm h L => v = none ∧ Fr n0 L ∧ Keep h0 h [a0] ∧ own_PE Z a0 b t vm h) v U'.vm U'.heap L ∧ ReturnedEndW U o U' L ({ frames := 1, cells := 0, slots := 0, locals := 12 } : Room).cells ({ frames := 1, cells := 0, slots := 0, locals := 12 } : Room).slots) := by
  refine MetFree.of_bodySF (plainFor_of_name pn_3f) hisR ?_
  intro p e s m args below meth c s₁ Bd hml0 hP hK
  obtain ⟨rfl, hZ, hh, hpv⟩ := hP
  have hx := Bd.exec
  have hby := Bd.bytes
  have hlk : meth.locks = false := BodyLoose.notSynchronized Bd
  have hret := Bd.returns
  have hml : c.maxLocals = 6 := hml0
  have hown : s.vm.findClass "java/lang/String" = some m.cls := findClass_of_methodNamed Bd.named
  have hnm := (name_of_methodNamed Bd.named Bd.method).1
  have X0 : Stand p l e ({ frames := 1, cells := 0, slots := 0, locals := 12 } : Room) (s.setVm s.vm) m #[(.ref a0), (.ref a1), (.int (0 : Int32)), (.int (0 : Int32)), .null] below meth c s₁ [] 0 0 := Stand.of_body Bd
  have e0 : s₁.heap = h0 := by rw [← hh, Bd.state]; rfl
  have N0 := Fr.nil n0
  show own_GV p.tables e below s ({ frames := 1, cells := 0, slots := 0, locals := 12 } : Room).cells ({ frames := 1, cells := 0, slots := 0, locals := 12 } : Room).slots (fun v vm h L => v = none ∧ Fr n0 L ∧ Keep h0 h [a0] ∧ own_PE Z a0 b t vm h) (s₁.setTop (entryFrame m #[(.ref a0), (.ref a1), (.int (0 : Int32)), (.int (0 : Int32)), .null] 6))
  refine own_GV_of ?_
  refine own_st ?_ (fun t_ k_ => castTop (ef_3f m a0 a1) k_)
  show own_G p.tables e below _ _ (s₁.setTop (mkF m 0 #[.val (.ref a0), .val (.ref a1), .val (.int (0 : Int32)), .val (.int (0 : Int32)), .val .null, .unset] []))
  have hS0 : s.Since s.vm h0.size := (State.WarmedH.refl s).since _
  have hk0 : h0.size ≤ h0.size := Nat.le_refl _
  refine own_st ?_ (fun t_ k_ => XS.aloadN X0.here hx rfl (hb hby d3_0) rfl rfl k_)
  show own_G p.tables e below _ _ (s₁.setTop (mkF m 1 #[.val (.ref a0), .val (.ref a1), .val (.int (0 : Int32)), .val (.int (0 : Int32)), .val .null, .unset] [(.ref a0)]))
  obtain ⟨T1, X1, e1, st1⟩ := initO X0 hx hZ hown (hw _ (List.mem_of_getElem? (i := 17) rfl)) (hw _ (List.mem_of_getElem? (i := 18) rfl)) (hw _ (List.mem_of_getElem? (i := 19) rfl)) e0 (g := (mkF m 1 #[.val (.ref a0), .val (.ref a1), .val (.int (0 : Int32)), .val (.int (0 : Int32)), .val .null, .unset] [(.ref a0)])) rfl (by rw [hml]; rfl) rfl (hb hby d3_1) (by decide) (W := 0) (by show 2 * 0 + _ ≤ _; exact Nat.le_of_eq rfl) (by decide)
  refine own_st ?_ st1
  show own_G p.tables e below _ _ (T1.setTop (mkF m 4 #[.val (.ref a0), .val (.ref a1), .val (.int (0 : Int32)), .val (.int (0 : Int32)), .val .null, .unset] []))
  refine own_st ?_ (fun t_ k_ => XS.iloadN X1.here hx rfl (hb hby d3_4) rfl k_)
  show own_G p.tables e below _ _ (T1.setTop (mkF m 5 #[.val (.ref a0), .val (.ref a1), .val (.int (0 : Int32)), .val (.int (0 : Int32)), .val .null, .unset] [(.int (0 : Int32))]))
  refine own_st ?_ (fun t_ k_ => XS.ifNo X1.here hx rfl (hb hby d3_5) rfl ((if0 _ _).trans (teq (by decide : (0 : Int32) = (0 : Int32))).2) k_)
  show own_G p.tables e below _ _ (T1.setTop (mkF m 8 #[.val (.ref a0), .val (.ref a1), .val (.int (0 : Int32)), .val (.int (0 : Int32)), .val .null, .unset] []))
  refine own_st ?_ (fun t_ k_ => XS.aloadN X1.here hx rfl (hb hby d3_8) rfl rfl k_)
  show own_G p.tables e below _ _ (T1.setTop (mkF m 9 #[.val (.ref a0), .val (.ref a1), .val (.int (0 : Int32)), .val (.int (0 : Int32)), .val .null, .unset] [(.ref a0)]))
  refine own_st ?_ (ldcAgain X1 hx hZ hown (hw _ (List.mem_of_getElem? (i := 127) rfl)) (show Lit (s.setVm s.vm) "java/lang/String" 7 b from hpv) (g := (mkF m 9 #[.val (.ref a0), .val (.ref a1), .val (.int (0 : Int32)), .val (.int (0 : Int32)), .val .null, .unset] [(.ref a0)])) rfl (hb hby d3_9))
  show own_G p.tables e below _ _ (T1.setTop (mkF m 11 #[.val (.ref a0), .val (.ref a1), .val (.int (0 : Int32)), .val (.int (0 : Int32)), .val .null, .unset] [(.ref b), (.ref a0)]))
  have nb0 : a0 ≠ b := Fld.ne F2 Fvb (by simp)
  have nt0 : a0 ≠ t := own_neY E0 Ytb (hw _ (List.mem_of_getElem? (i := 3) rfl))
  obtain ⟨T3, X3, e3, st3⟩ := getF X1 hx hZ hown (host := "") (Or.inl (hw _ (List.mem_of_getElem? (i := 34) rfl))) Via.refl e1 Fvb (g := (mkF m 11 #[.val (.ref a0), .val (.ref a1), .val (.int (0 : Int32)), .val (.int (0 : Int32)), .val .null, .unset] [(.ref b), (.ref a0)])) rfl rfl (hb hby d3_11)
  refine own_st ?_ st3
  show own_G p.tables e below _ _ (T3.setTop (mkF m 14 #[.val (.ref a0), .val (.ref a1), .val (.int (0 : Int32)), .val (.int (0 : Int32)), .val .null, .unset] [(.ref t), (.ref a0)]))
  obtain ⟨T4, h4, X4, e4, W4, st4⟩ := putF X3 hx hZ hown (host := "") (Or.inl (hw _ (List.mem_of_getElem? (i := 34) rfl))) Via.refl e3 F2 E0 (Or.inr ⟨(hw _ (List.mem_of_getElem? (i := 35) rfl)), rfl, hnm⟩) (hw _ (List.mem_of_getElem? (i := 3) rfl)) (ty := (.array .byte)) (by decide) rfl rfl (g := (mkF m 14 #[.val (.ref a0), .val (.ref a1), .val (.int (0 : Int32)), .val (.int (0 : Int32)), .val .null, .unset] [(.ref t), (.ref a0)])) rfl rfl (hb hby d3_14)
  have N4 := Fr.snoc X4 N0 g_a0
  have F5_E : Exa Z h4 a0 "java/lang/String" := E0.wr W4
  have F6_coder : Fld Z h4 a0 "java/lang/String" "coder" "B" u1 := F1.other W4 (Or.inr (slot_ne (Or.inr (hw _ (List.mem_of_getElem? (i := 33) rfl))) (Or.inr (hw _ (List.mem_of_getElem? (i := 35) rfl))) (by decide) (t := .byte) (t' := (.array .byte)) (by decide) (by decide)))
  have F7_value : Fld Z h4 a0 "java/lang/String" "value" "[B" (.ref t) := F2.same W4
  have F8_E : Exa Z h4 b "java/lang/String" := Eb.wr W4
  have F9_coder : Fld Z h4 b "java/lang/String" "coder" "B" (.int (0 : Int32)) := Fcb.other W4 (Or.inl (Ne.symm nb0))
  have F10_value : Fld Z h4 b "java/lang/String" "value" "[B" (.ref t) := Fvb.other W4 (Or.inl (Ne.symm nb0))
  have F11_P : own_Y .byte Z h4 t 0 (fun _ => 0) := own_Y_keep Ytb (Keep.of_wr W4) (ninS (Ne.symm nt0) nin0)
  have hkc12 := Nat.le_trans hk0 (Keep.of_wr W4).1
  have Zs13 : n0 ≤ h4.size := Nat.le_trans Z0 (Keep.of_wr W4).1
  have Kc14 : Keep h0 h4 [a0] := (Keep.refl h0 [a0]).wr W4 (Or.inl (List.mem_of_getElem? (i := 0) rfl))
  refine own_st ?_ st4
  show own_G p.tables e below _ _ (T4.setTop (mkF m 17 #[.val (.ref a0), .val (.ref a1), .val (.int (0 : Int32)), .val (.int (0 : Int32)), .val .null, .unset] []))
  refine own_st ?_ (fun t_ k_ => XS.aloadN X4.here hx rfl (hb hby d3_17) rfl rfl k_)
  show own_G p.tables e below _ _ (T4.setTop (mkF m 18 #[.val (.ref a0), .val (.ref a1), .val (.int (0 : Int32)), .val (.int (0 : Int32)), .val .null, .unset] [(.ref a0)]))
  refine own_st ?_ (ldcAgain X4 hx hZ hown (hw _ (List.mem_of_getElem? (i := 127) rfl)) (show Lit (s.setVm s.vm) "java/lang/String" 7 b from hpv) (g := (mkF m 18 #[.val (.ref a0), .val (.ref a1), .val (.int (0 : Int32)), .val (.int (0 : Int32)), .val .null, .unset] [(.ref a0)])) rfl (hb hby d3_18))
  show own_G p.tables e below _ _ (T4.setTop (mkF m 20 #[.val (.ref a0), .val (.ref a1), .val (.int (0 : Int32)), .val (.int (0 : Int32)), .val .null, .unset] [(.ref b), (.ref a0)]))
  obtain ⟨T16, X16, e16, st16⟩ := getF X4 hx hZ hown (host := "") (Or.inl (hw _ (List.mem_of_getElem? (i := 32) rfl))) Via.refl e4 F9_coder (g := (mkF m 20 #[.val (.ref a0), .val (.ref a1), .val (.int (0 : Int32)), .val (.int (0 : Int32)), .val .null, .unset] [(.ref b), (.ref a0)])) rfl rfl (hb hby d3_20)
  refine own_st ?_ st16
  show own_G p.tables e below _ _ (T16.setTop (mkF m 23 #[.val (.ref a0), .val (.ref a1), .val (.int (0 : Int32)), .val (.int (0 : Int32)), .val .null, .unset] [(.int (0 : Int32)), (.ref a0)]))
  obtain ⟨T17, h17, X17, e17, W17, st17⟩ := putFN X16 hx hZ hown (hw _ (List.mem_of_getElem? (i := 32) rfl)) Via.refl e16 F6_coder F5_E (Or.inr ⟨(hw _ (List.mem_of_getElem? (i := 33) rfl)), rfl, hnm⟩) (hw _ (List.mem_of_getElem? (i := 3) rfl)) (ty := .byte) (v' := (.int (0 : Int32))) (by decide) rfl (by decide) (g := (mkF m 23 #[.val (.ref a0), .val (.ref a1), .val (.int (0 : Int32)), .val (.int (0 : Int32)), .val .null, .unset] [(.int (0 : Int32)), (.ref a0)])) rfl rfl (hb hby d3_23)
  have N17 := Fr.snoc X17 N4 g_a0
  have F18_E : Exa Z h17 a0 "java/lang/String" := F5_E.wr W17
  have F19_coder : Fld Z h17 a0 "java/lang/String" "coder" "B" (.int (0 : Int32)) := F6_coder.same W17
  have F20_value : Fld Z h17 a0 "java/lang/String" "value" "[B" (.ref t) := F7_value.other W17 (Or.inr (slot_ne (Or.inr (hw _ (List.mem_of_getElem? (i := 35) rfl))) (Or.inr (hw _ (List.mem_of_getElem? (i := 33) rfl))) (by decide) (t := (.array .byte)) (t' := .byte) (by decide) (by decide)))
  have F21_E : Exa Z h17 b "java/lang/String" := F8_E.wr W17
  have F22_coder : Fld Z h17 b "java/lang/String" "coder" "B" (.int (0 : Int32)) := F9_coder.other W17 (Or.inl (Ne.symm nb0))
  have F23_value : Fld Z h17 b "java/lang/String" "value" "[B" (.ref t) := F10_value.other W17 (Or.inl (Ne.symm nb0))
  have F24_P : own_Y .byte Z h17 t 0 (fun _ => 0) := own_Y_keep F11_P (Keep.of_wr W17) (ninS (Ne.symm nt0) nin0)
  have hkc25 := Nat.le_trans hkc12 (Keep.of_wr W17).1
  have Zs26 : n0 ≤ h17.size := Nat.le_trans Zs13 (Keep.of_wr W17).1
  have Kc27 : Keep h0 h17 [a0] := Kc14.wr W17 (Or.inl (List.mem_of_getElem? (i := 0) rfl))
  refine own_st ?_ st17
  show own_G p.tables e below _ _ (T17.setTop (mkF m 26 #[.val (.ref a0), .val (.ref a1), .val (.int (0 : Int32)), .val (.int (0 : Int32)), .val .null, .unset] []))
  refine own_retVL X17 hx hlk hS0 (by rw [e17]; exact hkc25) hret (hb hby d3_26) (by decide) (by decide) ⟨rfl, N17, ?_⟩
  rw [e17]
  exact ⟨Kc27, nb0, nt0, F19_coder, F20_value, own_lit (show Lit (s.setVm s.vm) "java/lang/String" 7 b from hpv) X17.warmed, F21_E, F22_coder, F23_value, F24_P⟩
theorem pn_2f : plainName "java/lang/String" = true := by first | (simp [plainName, overriddenIn]; done) | decide +kernel
theorem ef_2f (m : MethodId) (a0 : Addr) (a1 : Addr) : entryFrame m #[(.ref a0), (.ref a1)] 2 = mkF m 0 #[.val (.ref a0), .val (.ref a1)] [] := by first | (simp [entryFrame, mkF, argsToLocals, Value.category]; done) | rfl
set_option maxRecDepth 65536 in
set_option maxHeartbeats 40000000 in
theorem rm2f (l : Launch) (Z : State) (a0 : Array Value) (hw : ∀ d ∈ tables_1, d.before a0 Z = true) (ws : List Jvm.Cond) (a0 : Addr) (a1 : Addr) (u1 : Value) (b : Addr) (t : Addr) (ch : Nat → Int32) (h0 : Heap) (n0 : Nat) (Z0 : n0 ≤ h0.size) (g_a0 : n0 ≤ a0) (E0 : Exa Z h0 a0 "java/lang/String") (F1 : Fld Z h0 a0 "java/lang/String" "coder" "B" u1) (F2 : Fld Z h0 a0 "java/lang/String" "value" "[B" .null) (Eb : Exa Z h0 b "java/lang/String") (Fcb : Fld Z h0 b "java/lang/String" "coder" "B" (.int (0 : Int32))) (Fvb : Fld Z h0 b "java/lang/String" "value" "[B" (.ref t)) (Ytb : own_Y .byte Z h0 t 0 (fun _ => 0)) (Y0 : own_Y .char Z h0 a1 (0 : Nat) ch) (hne : a1 ≠ a0) (hnb : b ≠ a0) (hnt : t ≠ a0) :
    MetFree l (⟨"java/lang/String", "<init>", "([C)V"⟩ : MethodName) (head1 (Jvm.Cond.code (⟨"java/lang/String", "<init>", "([C)V"⟩ : MethodName) jdk_42_method_3_code 2 none :: ws) ({ frames := 2, cells := 0, slots := 0, locals := 29 } : Room)) (fun a U => a = #[(.ref a0), (.ref a1)] ∧ Z.Warmed39 U.vm ∧ U.heap = h0 ∧ Lit (Z.setVm U.vm) "java/lang/String" 7 b) (fun _ _ _ _ _ => True) (fun _ U o U' => ∃ v L, o = .returned v ∧ (fun v vm h L => v = none ∧ Fr n0 L ∧ Keep h0 h [a0] ∧ own_PE Z a0 b t vm h) v U'.vm U'.heap L ∧ ReturnedEndW U o U' L ({ frames := 2, cells := 0, slots := 0, locals := 29 } : Room).cells ({ frames := 2, cells := 0, slots := 0, locals := 29 } : Room).slots) := by
  refine MetFree.of_bodySF (plainFor_of_name pn_2f) hisR ?_
  intro p e s m args below meth c s₁ Bd hml0 hP hK
  obtain ⟨rfl, hZ, hh, hpv⟩ := hP
  have hx := Bd.exec
  have hby := Bd.bytes
  have hlk : meth.locks = false := BodyLoose.notSynchronized Bd
  have hret := Bd.returns
  have hml : c.maxLocals = 2 := hml0
  have hown : s.vm.findClass "java/lang/String" = some m.cls := findClass_of_methodNamed Bd.named
  have hnm := (name_of_methodNamed Bd.named Bd.method).1
  have X0 : Stand p l e ({ frames := 2, cells := 0, slots := 0, locals := 29 } : Room) (s.setVm s.vm) m #[(.ref a0), (.ref a1)] below meth c s₁ [] 0 0 := Stand.of_body Bd
  have e0 : s₁.heap = h0 := by rw [← hh, Bd.state]; rfl
  have N0 := Fr.nil n0
  show own_GV p.tables e below s ({ frames := 2, cells := 0, slots := 0, locals := 29 } : Room).cells ({ frames := 2, cells := 0, slots := 0, locals := 29 } : Room).slots (fun v vm h L => v = none ∧ Fr n0 L ∧ Keep h0 h [a0] ∧ own_PE Z a0 b t vm h) (s₁.setTop (entryFrame m #[(.ref a0), (.ref a1)] 2))
  refine own_GV_of ?_
  refine own_st ?_ (fun t_ k_ => castTop (ef_2f m a0 a1) k_)
  show own_G p.tables e below _ _ (s₁.setTop (mkF m 0 #[.val (.ref a0), .val (.ref a1)] []))
  have hS0 : s.Since s.vm h0.size := (State.WarmedH.refl s).since _
  have hk0 : h0.size ≤ h0.size := Nat.le_refl _
  refine own_st ?_ (fun t_ k_ => XS.aloadN X0.here hx rfl (hb hby d2_0) rfl rfl k_)
  show own_G p.tables e below _ _ (s₁.setTop (mkF m 1 #[.val (.ref a0), .val (.ref a1)] [(.ref a0)]))
  refine own_st ?_ (fun t_ k_ => XS.aloadN X0.here hx rfl (hb hby d2_1) rfl rfl k_)
  show own_G p.tables e below _ _ (s₁.setTop (mkF m 2 #[.val (.ref a0), .val (.ref a1)] [(.ref a1), (.ref a0)]))
  refine own_st ?_ (fun t_ k_ => XS.iconst X0.here hx rfl (hb hby d2_2) k_)
  show own_G p.tables e below _ _ (s₁.setTop (mkF m 3 #[.val (.ref a0), .val (.ref a1)] [(.int (0 : Int32)), (.ref a1), (.ref a0)]))
  refine own_st ?_ (fun t_ k_ => XS.aloadN X0.here hx rfl (hb hby d2_3) rfl rfl k_)
  show own_G p.tables e below _ _ (s₁.setTop (mkF m 4 #[.val (.ref a0), .val (.ref a1)] [(.ref a1), (.int (0 : Int32)), (.ref a1), (.ref a0)]))
  obtain ⟨cl1, Ar1, Sz1, G1⟩ := Y0
  refine own_st ?_ (X0.arraylength hx (by rw [e0]; exact Ar1.1) (State.isArrayOf_alike hZ.alike Ar1.2.1) (g := (mkF m 4 #[.val (.ref a0), .val (.ref a1)] [(.ref a1), (.int (0 : Int32)), (.ref a1), (.ref a0)])) rfl rfl (hb hby d2_4))
  rw [Sz1]
  have Yx1 : own_Y .char Z h0 a1 (0 : Nat) ch := ⟨cl1, Ar1, Sz1, G1⟩
  show own_G p.tables e below _ _ (s₁.setTop (mkF m 5 #[.val (.ref a0), .val (.ref a1)] [(.int ((0 : Nat)).toInt32), (.int (0 : Int32)), (.ref a1), (.ref a0)]))
  refine own_st ?_ (fun t_ k_ => XS.aconstNull X0.here hx rfl (hb hby d2_5) k_)
  show own_G p.tables e below _ _ (s₁.setTop (mkF m 6 #[.val (.ref a0), .val (.ref a1)] [.null, (.int ((0 : Nat)).toInt32), (.int (0 : Int32)), (.ref a1), (.ref a0)]))
  obtain ⟨_, _, ⟨T2, L2, k2, n2⟩, -, X2, hSq2, hgq2, ⟨Lc2, hQ2, l2, y2, z2⟩, st2⟩ := X0.specialBackS hx (y := (⟨"java/lang/String", "<init>", "([CIILjava/lang/Void;)V"⟩ : MethodName)) rfl hown (mvT hZ (hw _ (List.mem_of_getElem? (i := 13) rfl))) (mvT hZ (hw _ (List.mem_of_getElem? (i := 14) rfl))) (mvT hZ (hw _ (List.mem_of_getElem? (i := 16) rfl))) (by decide) (own_backV (PV := fun vm_ => Lit (Z.setVm vm_) "java/lang/String" 7 b) (Q := fun v vm h L => v = none ∧ Fr n0 L ∧ Keep h0 h [a0] ∧ own_PE Z a0 b t vm h) (W := 0) (rm3f l Z _ hw [] a0 a1 u1 b t h0 n0 Z0 g_a0 E0 F1 F2 Eb Fcb Fvb Ytb) hZ (hw _ (List.mem_of_getElem? (i := 16) rfl)) (hw _ (List.mem_of_getElem? (i := 4) rfl)) (by decide) (by decide)) (g := (mkF m 6 #[.val (.ref a0), .val (.ref a1)] [.null, (.int ((0 : Nat)).toInt32), (.int (0 : Int32)), (.ref a1), (.ref a0)])) rfl (by rw [hml]; rfl) (Steps.refl _) (a := a0) (argsL := [(.ref a1), (.int (0 : Int32)), (.int ((0 : Nat)).toInt32), .null]) (rest := []) (lenOf pd_13 rfl) rfl (by show 2 * 0 + _ ≤ _; exact Nat.le_of_eq rfl) (hb hby d2_6) (fun vq hq_ => ⟨rfl, e0, own_lit (show Lit (s.setVm s.vm) "java/lang/String" 7 b from hpv) hq_, (by decide : 0 + 0 ≤ _), (by decide : 0 + 0 ≤ _)⟩)
  dsimp only [Pt.U, Pt.locs, Pt.cells, Pt.slots] at X2 l2 y2 z2 st2 hQ2
  subst l2 y2 z2
  dsimp only [Pt.U] at hSq2 hgq2
  obtain ⟨X2, hS2, hZ, hown⟩ := rebS hS0 (by rw [e0]; exact hk0) X2 hSq2 hgq2 hZ hown
  have hk2 := Nat.le_refl T2.heap.size
  obtain ⟨rfl, N2q, hq2⟩ := hQ2
  have N2 := Fr.app N0 N2q
  obtain ⟨K2, hP2⟩ := hq2
  have F3_E : Exa Z T2.heap a0 "java/lang/String" := E0.keep K2
  have F4_E : Exa Z T2.heap b "java/lang/String" := Eb.keep K2
  have F5_coder : Fld Z T2.heap b "java/lang/String" "coder" "B" (.int (0 : Int32)) := Fcb.keep K2 (ninS hnb nin0)
  have F6_value : Fld Z T2.heap b "java/lang/String" "value" "[B" (.ref t) := Fvb.keep K2 (ninS hnb nin0)
  have F7_P : own_Y .byte Z T2.heap t 0 (fun _ => 0) := own_Y_keep Ytb K2 (ninS hnt nin0)
  have F8_P : own_Y .char Z T2.heap a1 (0 : Nat) ch := own_Y_keep Yx1 K2 (ninS hne nin0)
  have hkc9 := Nat.le_trans hk0 K2.1
  have Zs10 : n0 ≤ T2.heap.size := Nat.le_trans Z0 K2.1
  have Kc11 : Keep h0 T2.heap [a0] := (Keep.refl h0 [a0]).trans K2 (allS (Or.inl (List.mem_of_getElem? (i := 0) rfl)) all0)
  refine own_st ?_ (fun t_ k_ => st2.trans k_)
  show own_G p.tables e below _ _ (T2.setTop (mkF m 9 #[.val (.ref a0), .val (.ref a1)] []))
  refine own_retVL X2 hx hlk hS2 hk2 hret (hb hby d2_9) (by decide) (by decide) ⟨rfl, N2, ?_⟩
  exact ⟨Kc11, hP2⟩
/-- behind text, n = 0: a new String with the literal's bytes -/
def own_Qte (Z : State) (a0 t : Addr) (l1 q : Nat) (g1 : Nat → Int32) (lb lc : Addr) (h0 : Heap) (n0 : Nat) (v : Option Value) (vm : Vm) (h : Heap) (L : List Loc) : Prop := ∃ a : Addr, v = some (.ref a) ∧ Fr n0 L ∧ Keep h0 h [a0] ∧ h0.size ≤ a ∧ Exa Z h a "java/lang/String" ∧ own_PE Z a lb lc vm h ∧ own_Rec Z h a0 t l1 q g1
theorem own_D00 {nn : Nat} {ch : Nat → Int32} (h : nn = 0) : own_D 0 nn 0 (fun _ => 0) ch := by
  subst h
  exact ⟨fun i hi => absurd hi (Nat.not_lt_zero i), by decide, Or.inl ⟨rfl, rfl, fun i hi => absurd hi (Nat.not_lt_zero i)⟩⟩
theorem pn_19e : plainName "com/example/termwright/termwright/Spool$Record" = true := by first | (simp [plainName, overriddenIn]; done) | decide +kernel
theorem ef_19e (m : MethodId) (a0 : Addr) : entryFrame m #[(.ref a0)] 4 = mkF m 0 #[.val (.ref a0), .unset, .unset, .unset] [] := by first | (simp [entryFrame, mkF, argsToLocals, Value.category]; done) | rfl
set_option maxRecDepth 65536 in
set_option maxHeartbeats 40000000 in
theorem rm19e (l : Launch) (Z : State) (a0 : Array Value) (hw : ∀ d ∈ tables_1, d.before a0 Z = true) (ws : List Jvm.Cond) (a0 : Addr) (t : Addr) (l1 : Nat) (p1 : Nat) (g1 : Nat → Int32) (n : Nat) (cs : List Int32) (lb : Addr) (lc : Addr) (h0 : Heap) (n0 : Nat) (Z0 : n0 ≤ h0.size) (g_a0 : n0 ≤ a0) (g_t : n0 ≤ t) (E0 : Exa Z h0 a0 "com/example/termwright/termwright/Spool$Record") (Fb : Fld Z h0 a0 "com/example/termwright/termwright/Spool$Record" "bytes" "[B" (.ref t)) (Fl : Fld Z h0 a0 "com/example/termwright/termwright/Spool$Record" "length" "I" (.int (Int32.ofInt ((l1 : Nat) : Int)))) (Fp : Fld Z h0 a0 "com/example/termwright/termwright/Spool$Record" "position" "I" (.int (Int32.ofInt ((p1 : Nat) : Int)))) (M0 : own_M Z h0 t g1) (Eb : Exa Z h0 lb "java/lang/String") (Fcb : Fld Z h0 lb "java/lang/String" "coder" "B" (.int (0 : Int32))) (Fvb : Fld Z h0 lb "java/lang/String" "value" "[B" (.ref lc)) (Ytb : own_Y .byte Z h0 lc 0 (fun _ => 0)) (hne : a0 ≠ t) (hz : n = 0) (hcs : own_W cs = 0) (hat : own_at g1 p1 n) (hp : p1 ≤ 200) (hlb : lb ≠ a0) (hlc : lc ≠ a0) :
    MetFree l (⟨"com/example/termwright/termwright/Spool$Record", "text", "()Ljava/lang/String;"⟩ : MethodName) (head1 (Jvm.Cond.code (⟨"com/example/termwright/termwright/Spool$Record", "text", "()Ljava/lang/String;"⟩ : MethodName) prog_34_method_6_code 4 (some (.object "java/lang/String")) :: ws) ({ frames := 3, cells := 2, slots := 4, locals := 43 } : Room)) (fun a U => a = #[(.ref a0)] ∧ Z.Warmed39 U.vm ∧ U.heap = h0 ∧ Lit (Z.setVm U.vm) "java/lang/String" 7 lb) (fun _ _ _ _ _ => True) (fun _ U o U' => ∃ v L, o = .returned v ∧ (own_Qte Z a0 t l1 (p1 + own_len n + own_W cs) g1 lb lc h0 n0) v U'.vm U'.heap L ∧ ReturnedEndW U o U' L ({ frames := 3, cells := 2, slots := 4, locals := 43 } : Room).cells ({ frames := 3, cells := 2, slots := 4, locals := 43 } : Room).slots) := by
  refine MetFree.of_bodySF (plainFor_of_name pn_19e) hisR ?_
  intro p e s m args below meth c s₁ Bd hml0 hP hK
  obtain ⟨rfl, hZ, hh, hpv⟩ := hP
  have hx := Bd.exec
  have hby := Bd.bytes
  have hlk : meth.locks = false := BodyLoose.notSynchronized Bd
  have hret := Bd.returns
  have hml : c.maxLocals = 4 := hml0
  have hown : s.vm.findClass "com/example/termwright/termwright/Spool$Record" = some m.cls := findClass_of_methodNamed Bd.named
  have hnm := (name_of_methodNamed Bd.named Bd.method).1
  have X0 : Stand p l e ({ frames := 3, cells := 2, slots := 4, locals := 43 } : Room) (s.setVm s.vm) m #[(.ref a0)] below meth c s₁ [] 0 0 := Stand.of_body Bd
  have e0 : s₁.heap = h0 := by rw [← hh, Bd.state]; rfl
  have N0 := Fr.nil n0
  show own_GV p.tables e below s ({ frames := 3, cells := 2, slots := 4, locals := 43 } : Room).cells ({ frames := 3, cells := 2, slots := 4, locals := 43 } : Room).slots (own_Qte Z a0 t l1 (p1 + own_len n + own_W cs) g1 lb lc h0 n0) (s₁.setTop (entryFrame m #[(.ref a0)] 4))
  refine own_GV_of ?_
  refine own_st ?_ (fun t_ k_ => castTop (ef_19e m a0) k_)
  show own_G p.tables e below _ _ (s₁.setTop (mkF m 0 #[.val (.ref a0), .unset, .unset, .unset] []))
  have hS0 : s.Since s.vm h0.size := (State.WarmedH.refl s).since _
  have hk0 : h0.size ≤ h0.size := Nat.le_refl _
  refine own_st ?_ (fun t_ k_ => XS.aloadN X0.here hx rfl (hb hby d19_0) rfl rfl k_)
  show own_G p.tables e below _ _ (s₁.setTop (mkF m 1 #[.val (.ref a0), .unset, .unset, .unset] [(.ref a0)]))
  obtain ⟨cq1, kq1, q1a, q1b, q1c⟩ := isOf hZ e0 E0
  obtain ⟨_, _, ⟨T1, L1, k1, n1⟩, -, X1, ⟨Lc1, hQ1, l1, y1, z1⟩, st1⟩ := X0.virtualBack hx (y := (⟨"com/example/termwright/termwright/Spool$Record", "number", "()J"⟩ : MethodName)) (z := (⟨"com/example/termwright/termwright/Spool$Record", "number", "()J"⟩ : MethodName)) hown (mvT hZ (hw _ (List.mem_of_getElem? (i := 104) rfl))) (mvT hZ (hw _ (List.mem_of_getElem? (i := 105) rfl))) (notFace_of_selects (args := #[]) (mvT hZ (hw _ (List.mem_of_getElem? (i := 107) rfl)))) (mvT hZ (hw _ (List.mem_of_getElem? (i := 107) rfl))) (mvT hZ (hw _ (List.mem_of_getElem? (i := 106) rfl))) (by decide) (backOf (W := 0) (rm20 l Z _ hw [] a0 t l1 p1 g1 n n.toInt32.toInt64 h0 n0 Z0 g_a0 g_t E0 Fb Fl Fp M0 hne (own_i2l (by omega)) (by omega) (by have := own_len9 (n := n) (by omega); omega) hat) hZ (hw _ (List.mem_of_getElem? (i := 108) rfl)) (hw _ (List.mem_of_getElem? (i := 39) rfl)) (by decide) (by decide)) q1a q1c (g := (mkF m 1 #[.val (.ref a0), .unset, .unset, .unset] [(.ref a0)])) rfl (by rw [hml]; rfl) (Steps.refl _) (argsL := []) (rest := []) (lenOf pd_19 rfl) rfl (by show 2 * 0 + _ ≤ _; exact Nat.le_of_eq rfl) (hb hby d19_1) (fun _ _ => ⟨rfl, e0, (by decide : 0 + 0 ≤ _), (by decide : 0 + 0 ≤ _)⟩)
  dsimp only [Pt.U, Pt.locs, Pt.cells, Pt.slots] at X1 l1 y1 z1 st1 hQ1
  subst l1 y1 z1
  obtain ⟨rfl, N1q, hq1⟩ := hQ1
  have N1 := Fr.app N0 N1q
  obtain ⟨K1, Fb1, Fl1, Fp1, M1⟩ := hq1
  have F2_E : Exa Z T1.heap a0 "com/example/termwright/termwright/Spool$Record" := E0.keep K1
  have F3_P : own_M Z T1.heap t g1 := own_M_keep M0 K1 (ninS (Ne.symm hne) nin0)
  have F4_E : Exa Z T1.heap lb "java/lang/String" := Eb.keep K1
  have F5_coder : Fld Z T1.heap lb "java/lang/String" "coder" "B" (.int (0 : Int32)) := Fcb.keep K1 (ninS hlb nin0)
  have F6_value : Fld Z T1.heap lb "java/lang/String" "value" "[B" (.ref lc) := Fvb.keep K1 (ninS hlb nin0)
  have F7_P : own_Y .byte Z T1.heap lc 0 (fun _ => 0) := own_Y_keep Ytb K1 (ninS hlc nin0)
  have hkc8 := Nat.le_trans hk0 K1.1
  have Zs9 : n0 ≤ T1.heap.size := Nat.le_trans Z0 K1.1
  have Kc10 : Keep h0 T1.heap [a0] := (Keep.refl h0 [a0]).trans K1 (allS (Or.inl (List.mem_of_getElem? (i := 0) rfl)) all0)
  refine own_st ?_ (fun t_ k_ => st1.trans k_)
  show own_G p.tables e below _ _ (T1.setTop (mkF m 4 #[.val (.ref a0), .unset, .unset, .unset] [(.long n.toInt32.toInt64)]))
  obtain ⟨_, _, ⟨T11, L11, k11, n11⟩, -, X11, ⟨Lc11, hQ11, l11, y11, z11⟩, st11⟩ := Jvm.LawKit.callS X1 hx (y := (⟨"java/lang/Math", "toIntExact", "(J)I"⟩ : MethodName)) hown (mvT hZ (hw _ (List.mem_of_getElem? (i := 111) rfl))) (mvT hZ (hw _ (List.mem_of_getElem? (i := 112) rfl))) (mvT hZ (hw _ (List.mem_of_getElem? (i := 113) rfl))) (mvT hZ (hw _ (List.mem_of_getElem? (i := 114) rfl))) (by decide) (backOf (W := 0) (rm21 l Z _ hw [] n.toInt32.toInt64 n T1.heap n0 Zs9 (own_i2l (by omega)) (by omega)) hZ (hw _ (List.mem_of_getElem? (i := 114) rfl)) (hw _ (List.mem_of_getElem? (i := 113) rfl)) (by decide) (by decide)) (g := (mkF m 4 #[.val (.ref a0), .unset, .unset, .unset] [(.long n.toInt32.toInt64)])) rfl (by rw [hml]; rfl) (argsL := [(.long n.toInt32.toInt64)]) (rest := []) (lenOf pd_20 rfl) rfl (by show 2 * 0 + _ ≤ _; exact Nat.le_of_eq rfl) (hb hby d19_4) (fun _ _ => ⟨rfl, rfl, (by decide : 0 + 0 ≤ _), (by decide : 0 + 0 ≤ _)⟩)
  dsimp only [Pt.U, Pt.locs, Pt.cells, Pt.slots] at X11 l11 y11 z11 st11 hQ11
  subst l11 y11 z11
  obtain ⟨rfl, N11q, e11⟩ := hQ11
  have N11 := Fr.app N1 N11q
  refine own_st ?_ st11
  show own_G p.tables e below _ _ (T11.setTop (mkF m 7 #[.val (.ref a0), .unset, .unset, .unset] [(.int n.toInt32)]))
  obtain ⟨T12, h12, k12, X12, e12, E12, A12, st12⟩ := newP X11 hx hZ (hw _ (List.mem_of_getElem? (i := 9) rfl)) e11 (g := (mkF m 7 #[.val (.ref a0), .unset, .unset, .unset] [(.int n.toInt32)])) rfl (hb hby d19_7) rfl (own_neg (by omega)) (cap := 0) (by rw [own_clamp (by omega)]; omega) (by decide) (by decide) (by decide)
  obtain ⟨b12, gz12⟩ : ∃ z, z = T1.heap.size := ⟨_, rfl⟩
  rw [← gz12] at A12 st12
  have ne_a0_b12 : a0 ≠ b12 := Nat.ne_of_lt (Nat.lt_of_lt_of_le F2_E.lt (Nat.le_of_eq gz12.symm))
  have ne_lb_b12 : lb ≠ b12 := Nat.ne_of_lt (Nat.lt_of_lt_of_le F4_E.lt (Nat.le_of_eq gz12.symm))
  have ne_lc_b12 : lc ≠ b12 := Nat.ne_of_lt (Nat.lt_of_lt_of_le (own_Y_lt F7_P) (Nat.le_of_eq gz12.symm))
  have ne_t_b12 : t ≠ b12 := Nat.ne_of_lt (Nat.lt_of_lt_of_le (own_M_lt M1) (Nat.le_of_eq gz12.symm))
  have g_b12 : n0 ≤ b12 := Nat.le_trans Zs9 (Nat.le_of_eq gz12.symm)
  have sz_b12 : h0.size ≤ b12 := Nat.le_trans Kc10.1 (Nat.le_of_eq gz12.symm)
  have F13_E : Exa Z h12 a0 "com/example/termwright/termwright/Spool$Record" := F2_E.ext E12
  have F14_E : Exa Z h12 lb "java/lang/String" := F4_E.ext E12
  have F15_coder : Fld Z h12 lb "java/lang/String" "coder" "B" (.int (0 : Int32)) := F5_coder.ext E12
  have F16_value : Fld Z h12 lb "java/lang/String" "value" "[B" (.ref lc) := F6_value.ext E12
  have F17_P : own_Y .byte Z h12 lc 0 (fun _ => 0) := own_Y_ext F7_P E12
  have F18_bytes : Fld Z h12 a0 "com/example/termwright/termwright/Spool$Record" "bytes" "[B" (.ref t) := Fb1.ext E12
  have F19_length : Fld Z h12 a0 "com/example/termwright/termwright/Spool$Record" "length" "I" (.int (Int32.ofInt ((l1 : Nat) : Int))) := Fl1.ext E12
  have F20_position : Fld Z h12 a0 "com/example/termwright/termwright/Spool$Record" "position" "I" (.int (Int32.ofInt ((p1 + own_len n : Nat) : Int))) := Fp1.ext E12
  have F21_P : own_M Z h12 t g1 := own_M_ext M1 E12
  have hkc22 := Nat.le_trans hkc8 E12.1
  have Zs23 : n0 ≤ h12.size := Nat.le_trans Zs9 E12.1
  have Kc24 : Keep h0 h12 [a0] := Kc10.ext E12
  have Y_b12 : own_Y .char Z h12 b12 n (fun _ => 0) := own_Y_new (Arv.new A12 (own_neg (by omega))) (own_clamp (by omega))
  refine own_st ?_ st12
  show own_G p.tables e below _ _ (T12.setTop (mkF m 9 #[.val (.ref a0), .unset, .unset, .unset] [(.ref b12)]))
  refine own_st ?_ (fun t_ k_ => XS.astoreN X12.here hx rfl (hb hby d19_9) rfl rfl (l' := #[.val (.ref a0), .val (.ref b12), .unset, .unset]) rfl k_)
  show own_G p.tables e below _ _ (T12.setTop (mkF m 10 #[.val (.ref a0), .val (.ref b12), .unset, .unset] []))
  refine own_st ?_ (fun t_ k_ => XS.iconst X12.here hx rfl (hb hby d19_10) k_)
  show own_G p.tables e below _ _ (T12.setTop (mkF m 11 #[.val (.ref a0), .val (.ref b12), .unset, .unset] [(.int (0 : Int32))]))
  refine own_st ?_ (fun t_ k_ => XS.istoreN X12.here hx rfl (hb hby d19_11) rfl (l' := #[.val (.ref a0), .val (.ref b12), .val (.int (0 : Int32)), .unset]) rfl k_)
  show own_G p.tables e below _ _ (T12.setTop (mkF m 12 #[.val (.ref a0), .val (.ref b12), .val (.int (0 : Int32)), .unset] []))
  refine own_st ?_ (fun t_ k_ => XS.iloadN X12.here hx rfl (hb hby d19_12) rfl k_)
  show own_G p.tables e below _ _ (T12.setTop (mkF m 13 #[.val (.ref a0), .val (.ref b12), .val (.int (0 : Int32)), .unset] [(.int (0 : Int32))]))
  refine own_st ?_ (fun t_ k_ => XS.aloadN X12.here hx rfl (hb hby d19_13) rfl rfl k_)
  show own_G p.tables e below _ _ (T12.setTop (mkF m 14 #[.val (.ref a0), .val (.ref b12), .val (.int (0 : Int32)), .unset] [(.ref b12), (.int (0 : Int32))]))
  obtain ⟨cl25, Ar25, Sz25, G25⟩ := Y_b12
  refine own_st ?_ (X12.arraylength hx (by rw [e12]; exact Ar25.1) (State.isArrayOf_alike hZ.alike Ar25.2.1) (g := (mkF m 14 #[.val (.ref a0), .val (.ref b12), .val (.int (0 : Int32)), .unset] [(.ref b12), (.int (0 : Int32))])) rfl rfl (hb hby d19_14))
  rw [Sz25]
  have Yx25 : own_Y .char Z h12 b12 n (fun _ => 0) := ⟨cl25, Ar25, Sz25, G25⟩
  show own_G p.tables e below _ _ (T12.setTop (mkF m 15 #[.val (.ref a0), .val (.ref b12), .val (.int (0 : Int32)), .unset] [(.int (n).toInt32), (.int (0 : Int32))]))
  refine own_st ?_ (fun t_ k_ => XS.icmpYes X12.here hx rfl (pc0 := 15) (pc' := 155) rfl (hb hby d19_15) rfl (flt (own_eqn (a := 0) (b := n) hz.symm)).2.1 (by decide) (by decide) k_)
  show own_G p.tables e below _ _ (T12.setTop (mkF m 155 #[.val (.ref a0), .val (.ref b12), .val (.int (0 : Int32)), .unset] []))
  obtain ⟨T26, h26, X26, e26, E26, A26, D26, -, st26⟩ := newO X12 hx hZ hown (hw _ (List.mem_of_getElem? (i := 115) rfl)) (hw _ (List.mem_of_getElem? (i := 3) rfl)) (hw _ (List.mem_of_getElem? (i := 4) rfl)) e12 (g := (mkF m 155 #[.val (.ref a0), .val (.ref b12), .val (.int (0 : Int32)), .unset] [])) rfl (hb hby d19_155) (by decide) (by decide)
  obtain ⟨b26, gz26⟩ : ∃ z, z = h12.size := ⟨_, rfl⟩
  rw [← gz26] at A26 D26 st26
  have ne_a0_b26 : a0 ≠ b26 := Nat.ne_of_lt (Nat.lt_of_lt_of_le F13_E.lt (Nat.le_of_eq gz26.symm))
  have ne_lb_b26 : lb ≠ b26 := Nat.ne_of_lt (Nat.lt_of_lt_of_le F14_E.lt (Nat.le_of_eq gz26.symm))
  have ne_lc_b26 : lc ≠ b26 := Nat.ne_of_lt (Nat.lt_of_lt_of_le (own_Y_lt F17_P) (Nat.le_of_eq gz26.symm))
  have ne_t_b26 : t ≠ b26 := Nat.ne_of_lt (Nat.lt_of_lt_of_le (own_M_lt F21_P) (Nat.le_of_eq gz26.symm))
  have ne_b12_b26 : b12 ≠ b26 := Nat.ne_of_lt (Nat.lt_of_lt_of_le (own_Y_lt Yx25) (Nat.le_of_eq gz26.symm))
  have g_b26 : n0 ≤ b26 := Nat.le_trans Zs23 (Nat.le_of_eq gz26.symm)
  have sz_b26 : h0.size ≤ b26 := Nat.le_trans Kc24.1 (Nat.le_of_eq gz26.symm)
  have F27_E : Exa Z h26 a0 "com/example/termwright/termwright/Spool$Record" := F13_E.ext E26
  have F28_E : Exa Z h26 lb "java/lang/String" := F14_E.ext E26
  have F29_coder : Fld Z h26 lb "java/lang/String" "coder" "B" (.int (0 : Int32)) := F15_coder.ext E26
  have F30_value : Fld Z h26 lb "java/lang/String" "value" "[B" (.ref lc) := F16_value.ext E26
  have F31_P : own_Y .byte Z h26 lc 0 (fun _ => 0) := own_Y_ext F17_P E26
  have F32_bytes : Fld Z h26 a0 "com/example/termwright/termwright/Spool$Record" "bytes" "[B" (.ref t) := F18_bytes.ext E26
  have F33_length : Fld Z h26 a0 "com/example/termwright/termwright/Spool$Record" "length" "I" (.int (Int32.ofInt ((l1 : Nat) : Int))) := F19_length.ext E26
  have F34_position : Fld Z h26 a0 "com/example/termwright/termwright/Spool$Record" "position" "I" (.int (Int32.ofInt ((p1 + own_len n : Nat) : Int))) := F20_position.ext E26
  have F35_P : own_M Z h26 t g1 := own_M_ext F21_P E26
  have F36_P : own_Y .char Z h26 b12 n (fun _ => 0) := own_Y_ext Yx25 E26
  have hkc37 := Nat.le_trans hkc22 E26.1
  have Zs38 : n0 ≤ h26.size := Nat.le_trans Zs23 E26.1
  have Kc39 : Keep h0 h26 [a0] := Kc24.ext E26
  have F_coder_b26 : Fld Z h26 b26 "java/lang/String" "coder" "B" (.int (0 : Int32)) := D26 (Or.inr (hw _ (List.mem_of_getElem? (i := 33) rfl))) (ty := .byte) (by decide)
  have F_value_b26 : Fld Z h26 b26 "java/lang/String" "value" "[B" .null := D26 (Or.inr (hw _ (List.mem_of_getElem? (i := 35) rfl))) (ty := (.array .byte)) (by decide)
  refine own_st ?_ st26
  show own_G p.tables e below _ _ (T26.setTop (mkF m 158 #[.val (.ref a0), .val (.ref b12), .val (.int (0 : Int32)), .unset] [(.ref b26)]))
  refine own_st ?_ (fun t_ k_ => XS.dup X26.here hx rfl (hb hby d19_158) rfl rfl k_)
  show own_G p.tables e below _ _ (T26.setTop (mkF m 159 #[.val (.ref a0), .val (.ref b12), .val (.int (0 : Int32)), .unset] [(.ref b26), (.ref b26)]))
  refine own_st ?_ (fun t_ k_ => XS.aloadN X26.here hx rfl (hb hby d19_159) rfl rfl k_)
  show own_G p.tables e below _ _ (T26.setTop (mkF m 160 #[.val (.ref a0), .val (.ref b12), .val (.int (0 : Int32)), .unset] [(.ref b12), (.ref b26), (.ref b26)]))
  obtain ⟨_, _, ⟨T40, L40, k40, n40⟩, -, X40, hSq40, hgq40, ⟨Lc40, hQ40, l40, y40, z40⟩, st40⟩ := X26.specialBackS hx (y := (⟨"java/lang/String", "<init>", "([C)V"⟩ : MethodName)) rfl hown (mvT hZ (hw _ (List.mem_of_getElem? (i := 116) rfl))) (mvT hZ (hw _ (List.mem_of_getElem? (i := 11) rfl))) (mvT hZ (hw _ (List.mem_of_getElem? (i := 12) rfl))) (by decide) (own_backV (PV := fun vm_ => Lit (Z.setVm vm_) "java/lang/String" 7 lb) (Q := fun v vm h L => v = none ∧ Fr n0 L ∧ Keep h26 h [b26] ∧ own_PE Z b26 lb lc vm h) (W := 1) (rm2f l Z _ hw [] b26 b12 (.int (0 : Int32)) lb lc (fun _ => 0) h26 n0 Zs38 g_b26 A26 F_coder_b26 F_value_b26 F28_E F29_coder F30_value F31_P (own_Y_congr F36_P hz (fun _ _ => rfl)) ne_b12_b26 ne_lb_b26 ne_lc_b26) hZ (hw _ (List.mem_of_getElem? (i := 12) rfl)) (hw _ (List.mem_of_getElem? (i := 4) rfl)) (by decide) (by decide)) (g := (mkF m 160 #[.val (.ref a0), .val (.ref b12), .val (.int (0 : Int32)), .unset] [(.ref b12), (.ref b26), (.ref b26)])) rfl (by rw [hml]; rfl) (Steps.refl _) (a := b26) (argsL := [(.ref b12)]) (rest := [(.ref b26)]) (lenOf pd_18 rfl) rfl (by show 2 * 0 + _ ≤ _; exact Nat.le_of_eq rfl) (hb hby d19_160) (fun vq hq_ => ⟨rfl, e26, own_lit (show Lit (s.setVm s.vm) "java/lang/String" 7 lb from hpv) hq_, (by decide : 2 + 0 ≤ _), (by decide : 4 + 0 ≤ _)⟩)
  dsimp only [Pt.U, Pt.locs, Pt.cells, Pt.slots] at X40 l40 y40 z40 st40 hQ40
  subst l40 y40 z40
  dsimp only [Pt.U] at hSq40 hgq40
  obtain ⟨X40, hS40, hZ, hown⟩ := rebS hS0 (by rw [e26]; exact hkc37) X40 hSq40 hgq40 hZ hown
  have hk40 := Nat.le_refl T40.heap.size
  obtain ⟨rfl, N40q, hq40⟩ := hQ40
  have N40 := Fr.app N11 N40q
  obtain ⟨K40, hP40⟩ := hq40
  have F41_E : Exa Z T40.heap a0 "com/example/termwright/termwright/Spool$Record" := F27_E.keep K40
  have F42_E : Exa Z T40.heap lb "java/lang/String" := F28_E.keep K40
  have F43_coder : Fld Z T40.heap lb "java/lang/String" "coder" "B" (.int (0 : Int32)) := F29_coder.keep K40 (ninS ne_lb_b26 nin0)
  have F44_value : Fld Z T40.heap lb "java/lang/String" "value" "[B" (.ref lc) := F30_value.keep K40 (ninS ne_lb_b26 nin0)
  have F45_P : own_Y .byte Z T40.heap lc 0 (fun _ => 0) := own_Y_keep F31_P K40 (ninS ne_lc_b26 nin0)
  have F46_bytes : Fld Z T40.heap a0 "com/example/termwright/termwright/Spool$Record" "bytes" "[B" (.ref t) := F32_bytes.keep K40 (ninS ne_a0_b26 nin0)
  have F47_length : Fld Z T40.heap a0 "com/example/termwright/termwright/Spool$Record" "length" "I" (.int (Int32.ofInt ((l1 : Nat) : Int))) := F33_length.keep K40 (ninS ne_a0_b26 nin0)
  have F48_position : Fld Z T40.heap a0 "com/example/termwright/termwright/Spool$Record" "position" "I" (.int (Int32.ofInt ((p1 + own_len n : Nat) : Int))) := F34_position.keep K40 (ninS ne_a0_b26 nin0)
  have F49_P : own_M Z T40.heap t g1 := own_M_keep F35_P K40 (ninS ne_t_b26 nin0)
  have F50_P : own_Y .char Z T40.heap b12 n (fun _ => 0) := own_Y_keep F36_P K40 (ninS ne_b12_b26 nin0)
  have F51_E : Exa Z T40.heap b26 "java/lang/String" := A26.keep K40
  have hkc52 := Nat.le_trans hkc37 K40.1
  have Zs53 : n0 ≤ T40.heap.size := Nat.le_trans Zs38 K40.1
  have Kc54 : Keep h0 T40.heap [a0] := Kc39.trans K40 (allS (Or.inr sz_b26) all0)
  refine own_st ?_ (fun t_ k_ => st40.trans k_)
  show own_G p.tables e below _ _ (T40.setTop (mkF m 163 #[.val (.ref a0), .val (.ref b12), .val (.int (0 : Int32)), .unset] [(.ref b26)]))
  refine own_retAL X40 hx hlk hS40 hk40 hret rfl rfl rfl (hb hby d19_163) (by decide) (by decide) ⟨b26, rfl, N40, Kc54, sz_b26, F51_E, hP40, ?_⟩
  rw [hcs, Nat.add_zero]
  exact ⟨F46_bytes, F47_length, F48_position, F49_P⟩
theorem own_chr_isC (x : Int32) : own_isC (x.toUInt32.toUInt16.toUInt32.toInt32) := by
  unfold own_isC; rw [own_chr_toInt]; omega
theorem own_len5 (x : Int32) : ∃ nn : Nat, nn ≤ 4 ∧ ((x &&& (2147483647 : Int32)) - ((x &&& (2147483647 : Int32)) / (5 : Int32)) * (5 : Int32)) = nn.toInt32 := by
  have h := Jvm.Kit.i32_mask x 2147483647 (k := 31) (by decide) (by decide)
  have e5 : (5 : Int32).toInt = 5 := by decide
  have r : ((x &&& (2147483647 : Int32)) - ((x &&& (2147483647 : Int32)) / (5 : Int32)) * (5 : Int32)).toInt = (x.toInt % 2 ^ 31) % 5 := by
    rw [rem_toInt, e5, h, Int.tmod_eq_emod_of_nonneg (by omega)]
  refine ⟨((x.toInt % 2 ^ 31) % 5).toNat, by omega, Int32.toInt_inj.mp ?_⟩
  rw [r, len_toInt (by omega)]; omega
theorem own_arg (x : Int64) : ∃ n : Nat, n < 2 ^ 63 ∧ (x &&& (9223372036854775807 : Int64)).toInt = (n : Int) := by
  have h := Jvm.Kit.i64_mask x 9223372036854775807 (k := 63) (by decide) (by decide)
  exact ⟨(x &&& (9223372036854775807 : Int64)).toInt.toNat, by omega, by omega⟩
theorem pd_25 : parseMethodDescriptor "()Ljava/lang/String;" = some ⟨[], some (.object "java/lang/String")⟩ := by decide +kernel
theorem pd_23 : parseMethodDescriptor "()V" = some ⟨[], none⟩ := by decide +kernel
theorem pd_22 : parseMethodDescriptor "(ICCCC)[C" = some ⟨[.int, .char, .char, .char, .char], some (.array .char)⟩ := by decide +kernel
theorem pd_26 : parseMethodDescriptor "(Ljava/lang/Object;)Z" = some ⟨[(.object "java/lang/Object")], some .boolean⟩ := by decide +kernel
theorem pd_24 : parseMethodDescriptor "(Ljava/lang/String;)Lcom/example/termwright/termwright/Spool$Record;" = some ⟨[(.object "java/lang/String")], some (.object "com/example/termwright/termwright/Spool$Record")⟩ := by decide +kernel
theorem pn_0 : plainName "com/example/termwright/termwright/RecordTextPinLaw" = true := by first | (simp [plainName, overriddenIn]; done) | decide +kernel
theorem ef_0 (m : MethodId) (p0 : Int32) (p1 : Int32) (p2 : Int32) (q3 : Int64) : entryFrame m #[(.int p0), (.int p1), (.int p2), (.long q3)] maxLocals = mkF m 0 #[.val (.int p0), .val (.int p1), .val (.int p2), .val (.long q3), .second, .unset, .unset, .unset, .unset, .unset, .unset, .unset, .unset, .unset, .unset, .unset, .unset] [] := by first | (simp [entryFrame, mkF, argsToLocals, Value.category, maxLocals]; done) | rfl
set_option maxRecDepth 65536 in
set_option maxHeartbeats 40000000 in
theorem rm0 (l : Launch) (Z : State) (a0 : Array Value) (hw : ∀ d ∈ tables_1, d.before a0 Z = true) (ws : List Jvm.Cond) (p0 : Int32) (p1 : Int32) (p2 : Int32) (q3 : Int64) (z1 : Int32) (fm : Value) (h0 : Heap) (n0 : Nat) (Z0 : n0 ≤ h0.size) (SS : own_SS Z h0 n0 z1 fm) (hz1 : ¬ z1 = 0) (rf_fm : fm.isRef = true) (hZh : Z.heap = h0) (hheld : Jvm.Lit.constHeld Z "java/lang/String" 7) (hcw : ∀ a : Array Value, Jvm.Lit.compactW.before a Z = true) :
    MetFree l x (head1 (Jvm.Cond.code x code maxLocals ret :: ws) room_1) (fun a U => a = #[(.int p0), (.int p1), (.int p2), (.long q3)] ∧ Z.Warmed39 U.vm ∧ U.heap = h0 ∧ U.vm = Z.vm) (fun _ _ _ _ _ => True) (fun _ U o U' => ∃ v L, o = .returned v ∧ own_QL (.int 1) n0 v U'.heap L ∧ ReturnedEndW U o U' L room_1.cells room_1.slots) := by
  refine MetFree.of_bodySF (plainFor_of_name pn_0) hisR ?_
  intro p e s m args below meth c s₁ Bd hml0 hP hK
  obtain ⟨rfl, hZ, hh, hvm⟩ := hP
  have hx := Bd.exec
  have hby := Bd.bytes
  have hlk : meth.locks = false := BodyLoose.notSynchronized Bd
  have hret := Bd.returns
  have hml : c.maxLocals = 17 := hml0
  have hown : s.vm.findClass "com/example/termwright/termwright/RecordTextPinLaw" = some m.cls := findClass_of_methodNamed Bd.named
  have hnm := (name_of_methodNamed Bd.named Bd.method).1
  have X0 : Stand p l e room_1 (s.setVm s.vm) m #[(.int p0), (.int p1), (.int p2), (.long q3)] below meth c s₁ [] 0 0 := Stand.of_body Bd
  have e0 : s₁.heap = h0 := by rw [← hh, Bd.state]; rfl
  have N0 := Fr.nil n0
  show own_G p.tables e below (own_EW s room_1.cells room_1.slots) (own_QL (.int 1) n0) (s₁.setTop (entryFrame m #[(.int p0), (.int p1), (.int p2), (.long q3)] maxLocals))
  refine own_st ?_ (fun t_ k_ => castTop (ef_0 m p0 p1 p2 q3) k_)
  show own_G p.tables e below _ _ (s₁.setTop (mkF m 0 #[.val (.int p0), .val (.int p1), .val (.int p2), .val (.long q3), .second, .unset, .unset, .unset, .unset, .unset, .unset, .unset, .unset, .unset, .unset, .unset, .unset] []))
  have I0 : IB Z s.vm [] := by rw [hvm]; exact IB.start
  have hS0 : s.Since s.vm h0.size := (State.WarmedH.refl s).since _
  have hk0 : h0.size ≤ h0.size := Nat.le_refl _
  refine own_st ?_ (fun t_ k_ => XS.iloadN X0.here hx rfl (hb hby at_0) rfl k_)
  show own_G p.tables e below _ _ (s₁.setTop (mkF m 1 #[.val (.int p0), .val (.int p1), .val (.int p2), .val (.long q3), .second, .unset, .unset, .unset, .unset, .unset, .unset, .unset, .unset, .unset, .unset, .unset, .unset] [(.int p0)]))
  refine own_st ?_ (X0.ldcInt hx hown (mvT hZ (hw _ (List.mem_of_getElem? (i := 0) rfl))) (g := (mkF m 1 #[.val (.int p0), .val (.int p1), .val (.int p2), .val (.long q3), .second, .unset, .unset, .unset, .unset, .unset, .unset, .unset, .unset, .unset, .unset, .unset, .unset] [(.int p0)])) rfl (hb hby at_1))
  show own_G p.tables e below _ _ (s₁.setTop (mkF m 3 #[.val (.int p0), .val (.int p1), .val (.int p2), .val (.long q3), .second, .unset, .unset, .unset, .unset, .unset, .unset, .unset, .unset, .unset, .unset, .unset, .unset] [(.int (65535 : Int32)), (.int p0)]))
  refine own_st ?_ (fun t_ k_ => XS.iand X0.here hx rfl (hb hby at_3) rfl k_)
  show own_G p.tables e below _ _ (s₁.setTop (mkF m 4 #[.val (.int p0), .val (.int p1), .val (.int p2), .val (.long q3), .second, .unset, .unset, .unset, .unset, .unset, .unset, .unset, .unset, .unset, .unset, .unset, .unset] [(.int (p0 &&& (65535 : Int32)))]))
  refine own_st ?_ (fun t_ k_ => XS.i2c X0.here hx rfl (hb hby at_4) rfl k_)
  show own_G p.tables e below _ _ (s₁.setTop (mkF m 5 #[.val (.int p0), .val (.int p1), .val (.int p2), .val (.long q3), .second, .unset, .unset, .unset, .unset, .unset, .unset, .unset, .unset, .unset, .unset, .unset, .unset] [(.int ((p0 &&& (65535 : Int32)).toUInt32.toUInt16.toUInt32.toInt32))]))
  refine own_st ?_ (fun t_ k_ => XS.istore X0.here hx rfl (hb hby at_5) rfl (l' := #[.val (.int p0), .val (.int p1), .val (.int p2), .val (.long q3), .second, .val (.int ((p0 &&& (65535 : Int32)).toUInt32.toUInt16.toUInt32.toInt32)), .unset, .unset, .unset, .unset, .unset, .unset, .unset, .unset, .unset, .unset, .unset]) rfl k_)
  show own_G p.tables e below _ _ (s₁.setTop (mkF m 7 #[.val (.int p0), .val (.int p1), .val (.int p2), .val (.long q3), .second, .val (.int ((p0 &&& (65535 : Int32)).toUInt32.toUInt16.toUInt32.toInt32)), .unset, .unset, .unset, .unset, .unset, .unset, .unset, .unset, .unset, .unset, .unset] []))
  refine own_st ?_ (fun t_ k_ => XS.iloadN X0.here hx rfl (hb hby at_7) rfl k_)
  show own_G p.tables e below _ _ (s₁.setTop (mkF m 8 #[.val (.int p0), .val (.int p1), .val (.int p2), .val (.long q3), .second, .val (.int ((p0 &&& (65535 : Int32)).toUInt32.toUInt16.toUInt32.toInt32)), .unset, .unset, .unset, .unset, .unset, .unset, .unset, .unset, .unset, .unset, .unset] [(.int p0)]))
  refine own_st ?_ (fun t_ k_ => XS.bipush X0.here hx rfl (hb hby at_8) k_)
  show own_G p.tables e below _ _ (s₁.setTop (mkF m 10 #[.val (.int p0), .val (.int p1), .val (.int p2), .val (.long q3), .second, .val (.int ((p0 &&& (65535 : Int32)).toUInt32.toUInt16.toUInt32.toInt32)), .unset, .unset, .unset, .unset, .unset, .unset, .unset, .unset, .unset, .unset, .unset] [(.int (16 : Int32)), (.int p0)]))
  refine own_st ?_ (fun t_ k_ => XS.iushr X0.here hx rfl (hb hby at_10) rfl k_)
  show own_G p.tables e below _ _ (s₁.setTop (mkF m 11 #[.val (.int p0), .val (.int p1), .val (.int p2), .val (.long q3), .second, .val (.int ((p0 &&& (65535 : Int32)).toUInt32.toUInt16.toUInt32.toInt32)), .unset, .unset, .unset, .unset, .unset, .unset, .unset, .unset, .unset, .unset, .unset] [(.int ((p0.toUInt32 >>> ((16 : Int32) &&& 31).toUInt32).toInt32))]))
  refine own_st ?_ (X0.ldcInt hx hown (mvT hZ (hw _ (List.mem_of_getElem? (i := 0) rfl))) (g := (mkF m 11 #[.val (.int p0), .val (.int p1), .val (.int p2), .val (.long q3), .second, .val (.int ((p0 &&& (65535 : Int32)).toUInt32.toUInt16.toUInt32.toInt32)), .unset, .unset, .unset, .unset, .unset, .unset, .unset, .unset, .unset, .unset, .unset] [(.int ((p0.toUInt32 >>> ((16 : Int32) &&& 31).toUInt32).toInt32))])) rfl (hb hby at_11))
  show own_G p.tables e below _ _ (s₁.setTop (mkF m 13 #[.val (.int p0), .val (.int p1), .val (.int p2), .val (.long q3), .second, .val (.int ((p0 &&& (65535 : Int32)).toUInt32.toUInt16.toUInt32.toInt32)), .unset, .unset, .unset, .unset, .unset, .unset, .unset, .unset, .unset, .unset, .unset] [(.int (65535 : Int32)), (.int ((p0.toUInt32 >>> ((16 : Int32) &&& 31).toUInt32).toInt32))]))
  refine own_st ?_ (fun t_ k_ => XS.iand X0.here hx rfl (hb hby at_13) rfl k_)
  show own_G p.tables e below _ _ (s₁.setTop (mkF m 14 #[.val (.int p0), .val (.int p1), .val (.int p2), .val (.long q3), .second, .val (.int ((p0 &&& (65535 : Int32)).toUInt32.toUInt16.toUInt32.toInt32)), .unset, .unset, .unset, .unset, .unset, .unset, .unset, .unset, .unset, .unset, .unset] [(.int (((p0.toUInt32 >>> ((16 : Int32) &&& 31).toUInt32).toInt32) &&& (65535 : Int32)))]))
  refine own_st ?_ (fun t_ k_ => XS.i2c X0.here hx rfl (hb hby at_14) rfl k_)
  show own_G p.tables e below _ _ (s₁.setTop (mkF m 15 #[.val (.int p0), .val (.int p1), .val (.int p2), .val (.long q3), .second, .val (.int ((p0 &&& (65535 : Int32)).toUInt32.toUInt16.toUInt32.toInt32)), .unset, .unset, .unset, .unset, .unset, .unset, .unset, .unset, .unset, .unset, .unset] [(.int ((((p0.toUInt32 >>> ((16 : Int32) &&& 31).toUInt32).toInt32) &&& (65535 : Int32)).toUInt32.toUInt16.toUInt32.toInt32))]))
  refine own_st ?_ (fun t_ k_ => XS.istore X0.here hx rfl (hb hby at_15) rfl (l' := #[.val (.int p0), .val (.int p1), .val (.int p2), .val (.long q3), .second, .val (.int ((p0 &&& (65535 : Int32)).toUInt32.toUInt16.toUInt32.toInt32)), .val (.int ((((p0.toUInt32 >>> ((16 : Int32) &&& 31).toUInt32).toInt32) &&& (65535 : Int32)).toUInt32.toUInt16.toUInt32.toInt32)), .unset, .unset, .unset, .unset, .unset, .unset, .unset, .unset, .unset, .unset]) rfl k_)
  show own_G p.tables e below _ _ (s₁.setTop (mkF m 17 #[.val (.int p0), .val (.int p1), .val (.int p2), .val (.long q3), .second, .val (.int ((p0 &&& (65535 : Int32)).toUInt32.toUInt16.toUInt32.toInt32)), .val (.int ((((p0.toUInt32 >>> ((16 : Int32) &&& 31).toUInt32).toInt32) &&& (65535 : Int32)).toUInt32.toUInt16.toUInt32.toInt32)), .unset, .unset, .unset, .unset, .unset, .unset, .unset, .unset, .unset, .unset] []))
  refine own_st ?_ (fun t_ k_ => XS.iloadN X0.here hx rfl (hb hby at_17) rfl k_)
  show own_G p.tables e below _ _ (s₁.setTop (mkF m 18 #[.val (.int p0), .val (.int p1), .val (.int p2), .val (.long q3), .second, .val (.int ((p0 &&& (65535 : Int32)).toUInt32.toUInt16.toUInt32.toInt32)), .val (.int ((((p0.toUInt32 >>> ((16 : Int32) &&& 31).toUInt32).toInt32) &&& (65535 : Int32)).toUInt32.toUInt16.toUInt32.toInt32)), .unset, .unset, .unset, .unset, .unset, .unset, .unset, .unset, .unset, .unset] [(.int p1)]))
  refine own_st ?_ (X0.ldcInt hx hown (mvT hZ (hw _ (List.mem_of_getElem? (i := 0) rfl))) (g := (mkF m 18 #[.val (.int p0), .val (.int p1), .val (.int p2), .val (.long q3), .second, .val (.int ((p0 &&& (65535 : Int32)).toUInt32.toUInt16.toUInt32.toInt32)), .val (.int ((((p0.toUInt32 >>> ((16 : Int32) &&& 31).toUInt32).toInt32) &&& (65535 : Int32)).toUInt32.toUInt16.toUInt32.toInt32)), .unset, .unset, .unset, .unset, .unset, .unset, .unset, .unset, .unset, .unset] [(.int p1)])) rfl (hb hby at_18))
  show own_G p.tables e below _ _ (s₁.setTop (mkF m 20 #[.val (.int p0), .val (.int p1), .val (.int p2), .val (.long q3), .second, .val (.int ((p0 &&& (65535 : Int32)).toUInt32.toUInt16.toUInt32.toInt32)), .val (.int ((((p0.toUInt32 >>> ((16 : Int32) &&& 31).toUInt32).toInt32) &&& (65535 : Int32)).toUInt32.toUInt16.toUInt32.toInt32)), .unset, .unset, .unset, .unset, .unset, .unset, .unset, .unset, .unset, .unset] [(.int (65535 : Int32)), (.int p1)]))
  refine own_st ?_ (fun t_ k_ => XS.iand X0.here hx rfl (hb hby at_20) rfl k_)
  show own_G p.tables e below _ _ (s₁.setTop (mkF m 21 #[.val (.int p0), .val (.int p1), .val (.int p2), .val (.long q3), .second, .val (.int ((p0 &&& (65535 : Int32)).toUInt32.toUInt16.toUInt32.toInt32)), .val (.int ((((p0.toUInt32 >>> ((16 : Int32) &&& 31).toUInt32).toInt32) &&& (65535 : Int32)).toUInt32.toUInt16.toUInt32.toInt32)), .unset, .unset, .unset, .unset, .unset, .unset, .unset, .unset, .unset, .unset] [(.int (p1 &&& (65535 : Int32)))]))
  refine own_st ?_ (fun t_ k_ => XS.i2c X0.here hx rfl (hb hby at_21) rfl k_)
  show own_G p.tables e below _ _ (s₁.setTop (mkF m 22 #[.val (.int p0), .val (.int p1), .val (.int p2), .val (.long q3), .second, .val (.int ((p0 &&& (65535 : Int32)).toUInt32.toUInt16.toUInt32.toInt32)), .val (.int ((((p0.toUInt32 >>> ((16 : Int32) &&& 31).toUInt32).toInt32) &&& (65535 : Int32)).toUInt32.toUInt16.toUInt32.toInt32)), .unset, .unset, .unset, .unset, .unset, .unset, .unset, .unset, .unset, .unset] [(.int ((p1 &&& (65535 : Int32)).toUInt32.toUInt16.toUInt32.toInt32))]))
  refine own_st ?_ (fun t_ k_ => XS.istore X0.here hx rfl (hb hby at_22) rfl (l' := #[.val (.int p0), .val (.int p1), .val (.int p2), .val (.long q3), .second, .val (.int ((p0 &&& (65535 : Int32)).toUInt32.toUInt16.toUInt32.toInt32)), .val (.int ((((p0.toUInt32 >>> ((16 : Int32) &&& 31).toUInt32).toInt32) &&& (65535 : Int32)).toUInt32.toUInt16.toUInt32.toInt32)), .val (.int ((p1 &&& (65535 : Int32)).toUInt32.toUInt16.toUInt32.toInt32)), .unset, .unset, .unset, .unset, .unset, .unset, .unset, .unset, .unset]) rfl k_)
  show own_G p.tables e below _ _ (s₁.setTop (mkF m 24 #[.val (.int p0), .val (.int p1), .val (.int p2), .val (.long q3), .second, .val (.int ((p0 &&& (65535 : Int32)).toUInt32.toUInt16.toUInt32.toInt32)), .val (.int ((((p0.toUInt32 >>> ((16 : Int32) &&& 31).toUInt32).toInt32) &&& (65535 : Int32)).toUInt32.toUInt16.toUInt32.toInt32)), .val (.int ((p1 &&& (65535 : Int32)).toUInt32.toUInt16.toUInt32.toInt32)), .unset, .unset, .unset, .unset, .unset, .unset, .unset, .unset, .unset] []))
  refine own_st ?_ (fun t_ k_ => XS.iloadN X0.here hx rfl (hb hby at_24) rfl k_)
  show own_G p.tables e below _ _ (s₁.setTop (mkF m 25 #[.val (.int p0), .val (.int p1), .val (.int p2), .val (.long q3), .second, .val (.int ((p0 &&& (65535 : Int32)).toUInt32.toUInt16.toUInt32.toInt32)), .val (.int ((((p0.toUInt32 >>> ((16 : Int32) &&& 31).toUInt32).toInt32) &&& (65535 : Int32)).toUInt32.toUInt16.toUInt32.toInt32)), .val (.int ((p1 &&& (65535 : Int32)).toUInt32.toUInt16.toUInt32.toInt32)), .unset, .unset, .unset, .unset, .unset, .unset, .unset, .unset, .unset] [(.int p1)]))
  refine own_st ?_ (fun t_ k_ => XS.bipush X0.here hx rfl (hb hby at_25) k_)
  show own_G p.tables e below _ _ (s₁.setTop (mkF m 27 #[.val (.int p0), .val (.int p1), .val (.int p2), .val (.long q3), .second, .val (.int ((p0 &&& (65535 : Int32)).toUInt32.toUInt16.toUInt32.toInt32)), .val (.int ((((p0.toUInt32 >>> ((16 : Int32) &&& 31).toUInt32).toInt32) &&& (65535 : Int32)).toUInt32.toUInt16.toUInt32.toInt32)), .val (.int ((p1 &&& (65535 : Int32)).toUInt32.toUInt16.toUInt32.toInt32)), .unset, .unset, .unset, .unset, .unset, .unset, .unset, .unset, .unset] [(.int (16 : Int32)), (.int p1)]))
  refine own_st ?_ (fun t_ k_ => XS.iushr X0.here hx rfl (hb hby at_27) rfl k_)
  show own_G p.tables e below _ _ (s₁.setTop (mkF m 28 #[.val (.int p0), .val (.int p1), .val (.int p2), .val (.long q3), .second, .val (.int ((p0 &&& (65535 : Int32)).toUInt32.toUInt16.toUInt32.toInt32)), .val (.int ((((p0.toUInt32 >>> ((16 : Int32) &&& 31).toUInt32).toInt32) &&& (65535 : Int32)).toUInt32.toUInt16.toUInt32.toInt32)), .val (.int ((p1 &&& (65535 : Int32)).toUInt32.toUInt16.toUInt32.toInt32)), .unset, .unset, .unset, .unset, .unset, .unset, .unset, .unset, .unset] [(.int ((p1.toUInt32 >>> ((16 : Int32) &&& 31).toUInt32).toInt32))]))
  refine own_st ?_ (X0.ldcInt hx hown (mvT hZ (hw _ (List.mem_of_getElem? (i := 0) rfl))) (g := (mkF m 28 #[.val (.int p0), .val (.int p1), .val (.int p2), .val (.long q3), .second, .val (.int ((p0 &&& (65535 : Int32)).toUInt32.toUInt16.toUInt32.toInt32)), .val (.int ((((p0.toUInt32 >>> ((16 : Int32) &&& 31).toUInt32).toInt32) &&& (65535 : Int32)).toUInt32.toUInt16.toUInt32.toInt32)), .val (.int ((p1 &&& (65535 : Int32)).toUInt32.toUInt16.toUInt32.toInt32)), .unset, .unset, .unset, .unset, .unset, .unset, .unset, .unset, .unset] [(.int ((p1.toUInt32 >>> ((16 : Int32) &&& 31).toUInt32).toInt32))])) rfl (hb hby at_28))
  show own_G p.tables e below _ _ (s₁.setTop (mkF m 30 #[.val (.int p0), .val (.int p1), .val (.int p2), .val (.long q3), .second, .val (.int ((p0 &&& (65535 : Int32)).toUInt32.toUInt16.toUInt32.toInt32)), .val (.int ((((p0.toUInt32 >>> ((16 : Int32) &&& 31).toUInt32).toInt32) &&& (65535 : Int32)).toUInt32.toUInt16.toUInt32.toInt32)), .val (.int ((p1 &&& (65535 : Int32)).toUInt32.toUInt16.toUInt32.toInt32)), .unset, .unset, .unset, .unset, .unset, .unset, .unset, .unset, .unset] [(.int (65535 : Int32)), (.int ((p1.toUInt32 >>> ((16 : Int32) &&& 31).toUInt32).toInt32))]))
  refine own_st ?_ (fun t_ k_ => XS.iand X0.here hx rfl (hb hby at_30) rfl k_)
  show own_G p.tables e below _ _ (s₁.setTop (mkF m 31 #[.val (.int p0), .val (.int p1), .val (.int p2), .val (.long q3), .second, .val (.int ((p0 &&& (65535 : Int32)).toUInt32.toUInt16.toUInt32.toInt32)), .val (.int ((((p0.toUInt32 >>> ((16 : Int32) &&& 31).toUInt32).toInt32) &&& (65535 : Int32)).toUInt32.toUInt16.toUInt32.toInt32)), .val (.int ((p1 &&& (65535 : Int32)).toUInt32.toUInt16.toUInt32.toInt32)), .unset, .unset, .unset, .unset, .unset, .unset, .unset, .unset, .unset] [(.int (((p1.toUInt32 >>> ((16 : Int32) &&& 31).toUInt32).toInt32) &&& (65535 : Int32)))]))
  refine own_st ?_ (fun t_ k_ => XS.i2c X0.here hx rfl (hb hby at_31) rfl k_)
  show own_G p.tables e below _ _ (s₁.setTop (mkF m 32 #[.val (.int p0), .val (.int p1), .val (.int p2), .val (.long q3), .second, .val (.int ((p0 &&& (65535 : Int32)).toUInt32.toUInt16.toUInt32.toInt32)), .val (.int ((((p0.toUInt32 >>> ((16 : Int32) &&& 31).toUInt32).toInt32) &&& (65535 : Int32)).toUInt32.toUInt16.toUInt32.toInt32)), .val (.int ((p1 &&& (65535 : Int32)).toUInt32.toUInt16.toUInt32.toInt32)), .unset, .unset, .unset, .unset, .unset, .unset, .unset, .unset, .unset] [(.int ((((p1.toUInt32 >>> ((16 : Int32) &&& 31).toUInt32).toInt32) &&& (65535 : Int32)).toUInt32.toUInt16.toUInt32.toInt32))]))
  refine own_st ?_ (fun t_ k_ => XS.istore X0.here hx rfl (hb hby at_32) rfl (l' := #[.val (.int p0), .val (.int p1), .val (.int p2), .val (.long q3), .second, .val (.int ((p0 &&& (65535 : Int32)).toUInt32.toUInt16.toUInt32.toInt32)), .val (.int ((((p0.toUInt32 >>> ((16 : Int32) &&& 31).toUInt32).toInt32) &&& (65535 : Int32)).toUInt32.toUInt16.toUInt32.toInt32)), .val (.int ((p1 &&& (65535 : Int32)).toUInt32.toUInt16.toUInt32.toInt32)), .val (.int ((((p1.toUInt32 >>> ((16 : Int32) &&& 31).toUInt32).toInt32) &&& (65535 : Int32)).toUInt32.toUInt16.toUInt32.toInt32)), .unset, .unset, .unset, .unset, .unset, .unset, .unset, .unset]) rfl k_)
  show own_G p.tables e below _ _ (s₁.setTop (mkF m 34 #[.val (.int p0), .val (.int p1), .val (.int p2), .val (.long q3), .second, .val (.int ((p0 &&& (65535 : Int32)).toUInt32.toUInt16.toUInt32.toInt32)), .val (.int ((((p0.toUInt32 >>> ((16 : Int32) &&& 31).toUInt32).toInt32) &&& (65535 : Int32)).toUInt32.toUInt16.toUInt32.toInt32)), .val (.int ((p1 &&& (65535 : Int32)).toUInt32.toUInt16.toUInt32.toInt32)), .val (.int ((((p1.toUInt32 >>> ((16 : Int32) &&& 31).toUInt32).toInt32) &&& (65535 : Int32)).toUInt32.toUInt16.toUInt32.toInt32)), .unset, .unset, .unset, .unset, .unset, .unset, .unset, .unset] []))
  refine own_st ?_ (fun t_ k_ => XS.iloadN X0.here hx rfl (hb hby at_34) rfl k_)
  show own_G p.tables e below _ _ (s₁.setTop (mkF m 35 #[.val (.int p0), .val (.int p1), .val (.int p2), .val (.long q3), .second, .val (.int ((p0 &&& (65535 : Int32)).toUInt32.toUInt16.toUInt32.toInt32)), .val (.int ((((p0.toUInt32 >>> ((16 : Int32) &&& 31).toUInt32).toInt32) &&& (65535 : Int32)).toUInt32.toUInt16.toUInt32.toInt32)), .val (.int ((p1 &&& (65535 : Int32)).toUInt32.toUInt16.toUInt32.toInt32)), .val (.int ((((p1.toUInt32 >>> ((16 : Int32) &&& 31).toUInt32).toInt32) &&& (65535 : Int32)).toUInt32.toUInt16.toUInt32.toInt32)), .unset, .unset, .unset, .unset, .unset, .unset, .unset, .unset] [(.int p2)]))
  refine own_st ?_ (X0.ldcInt hx hown (mvT hZ (hw _ (List.mem_of_getElem? (i := 1) rfl))) (g := (mkF m 35 #[.val (.int p0), .val (.int p1), .val (.int p2), .val (.long q3), .second, .val (.int ((p0 &&& (65535 : Int32)).toUInt32.toUInt16.toUInt32.toInt32)), .val (.int ((((p0.toUInt32 >>> ((16 : Int32) &&& 31).toUInt32).toInt32) &&& (65535 : Int32)).toUInt32.toUInt16.toUInt32.toInt32)), .val (.int ((p1 &&& (65535 : Int32)).toUInt32.toUInt16.toUInt32.toInt32)), .val (.int ((((p1.toUInt32 >>> ((16 : Int32) &&& 31).toUInt32).toInt32) &&& (65535 : Int32)).toUInt32.toUInt16.toUInt32.toInt32)), .unset, .unset, .unset, .unset, .unset, .unset, .unset, .unset] [(.int p2)])) rfl (hb hby at_35))
  show own_G p.tables e below _ _ (s₁.setTop (mkF m 37 #[.val (.int p0), .val (.int p1), .val (.int p2), .val (.long q3), .second, .val (.int ((p0 &&& (65535 : Int32)).toUInt32.toUInt16.toUInt32.toInt32)), .val (.int ((((p0.toUInt32 >>> ((16 : Int32) &&& 31).toUInt32).toInt32) &&& (65535 : Int32)).toUInt32.toUInt16.toUInt32.toInt32)), .val (.int ((p1 &&& (65535 : Int32)).toUInt32.toUInt16.toUInt32.toInt32)), .val (.int ((((p1.toUInt32 >>> ((16 : Int32) &&& 31).toUInt32).toInt32) &&& (65535 : Int32)).toUInt32.toUInt16.toUInt32.toInt32)), .unset, .unset, .unset, .unset, .unset, .unset, .unset, .unset] [(.int (2147483647 : Int32)), (.int p2)]))
  refine own_st ?_ (fun t_ k_ => XS.iand X0.here hx rfl (hb hby at_37) rfl k_)
  show own_G p.tables e below _ _ (s₁.setTop (mkF m 38 #[.val (.int p0), .val (.int p1), .val (.int p2), .val (.long q3), .second, .val (.int ((p0 &&& (65535 : Int32)).toUInt32.toUInt16.toUInt32.toInt32)), .val (.int ((((p0.toUInt32 >>> ((16 : Int32) &&& 31).toUInt32).toInt32) &&& (65535 : Int32)).toUInt32.toUInt16.toUInt32.toInt32)), .val (.int ((p1 &&& (65535 : Int32)).toUInt32.toUInt16.toUInt32.toInt32)), .val (.int ((((p1.toUInt32 >>> ((16 : Int32) &&& 31).toUInt32).toInt32) &&& (65535 : Int32)).toUInt32.toUInt16.toUInt32.toInt32)), .unset, .unset, .unset, .unset, .unset, .unset, .unset, .unset] [(.int (p2 &&& (2147483647 : Int32)))]))
  refine own_st ?_ (fun t_ k_ => XS.iconst X0.here hx rfl (hb hby at_38) k_)
  show own_G p.tables e below _ _ (s₁.setTop (mkF m 39 #[.val (.int p0), .val (.int p1), .val (.int p2), .val (.long q3), .second, .val (.int ((p0 &&& (65535 : Int32)).toUInt32.toUInt16.toUInt32.toInt32)), .val (.int ((((p0.toUInt32 >>> ((16 : Int32) &&& 31).toUInt32).toInt32) &&& (65535 : Int32)).toUInt32.toUInt16.toUInt32.toInt32)), .val (.int ((p1 &&& (65535 : Int32)).toUInt32.toUInt16.toUInt32.toInt32)), .val (.int ((((p1.toUInt32 >>> ((16 : Int32) &&& 31).toUInt32).toInt32) &&& (65535 : Int32)).toUInt32.toUInt16.toUInt32.toInt32)), .unset, .unset, .unset, .unset, .unset, .unset, .unset, .unset] [(.int (5 : Int32)), (.int (p2 &&& (2147483647 : Int32)))]))
  refine own_st ?_ (fun t_ k_ => XS.irem X0.here hx rfl (hb hby at_39) rfl (by decide) k_)
  show own_G p.tables e below _ _ (s₁.setTop (mkF m 40 #[.val (.int p0), .val (.int p1), .val (.int p2), .val (.long q3), .second, .val (.int ((p0 &&& (65535 : Int32)).toUInt32.toUInt16.toUInt32.toInt32)), .val (.int ((((p0.toUInt32 >>> ((16 : Int32) &&& 31).toUInt32).toInt32) &&& (65535 : Int32)).toUInt32.toUInt16.toUInt32.toInt32)), .val (.int ((p1 &&& (65535 : Int32)).toUInt32.toUInt16.toUInt32.toInt32)), .val (.int ((((p1.toUInt32 >>> ((16 : Int32) &&& 31).toUInt32).toInt32) &&& (65535 : Int32)).toUInt32.toUInt16.toUInt32.toInt32)), .unset, .unset, .unset, .unset, .unset, .unset, .unset, .unset] [(.int ((p2 &&& (2147483647 : Int32)) - ((p2 &&& (2147483647 : Int32)) / (5 : Int32)) * (5 : Int32)))]))
  refine own_st ?_ (fun t_ k_ => XS.istore X0.here hx rfl (hb hby at_40) rfl (l' := #[.val (.int p0), .val (.int p1), .val (.int p2), .val (.long q3), .second, .val (.int ((p0 &&& (65535 : Int32)).toUInt32.toUInt16.toUInt32.toInt32)), .val (.int ((((p0.toUInt32 >>> ((16 : Int32) &&& 31).toUInt32).toInt32) &&& (65535 : Int32)).toUInt32.toUInt16.toUInt32.toInt32)), .val (.int ((p1 &&& (65535 : Int32)).toUInt32.toUInt16.toUInt32.toInt32)), .val (.int ((((p1.toUInt32 >>> ((16 : Int32) &&& 31).toUInt32).toInt32) &&& (65535 : Int32)).toUInt32.toUInt16.toUInt32.toInt32)), .val (.int ((p2 &&& (2147483647 : Int32)) - ((p2 &&& (2147483647 : Int32)) / (5 : Int32)) * (5 : Int32))), .unset, .unset, .unset, .unset, .unset, .unset, .unset]) rfl k_)
  show own_G p.tables e below _ _ (s₁.setTop (mkF m 42 #[.val (.int p0), .val (.int p1), .val (.int p2), .val (.long q3), .second, .val (.int ((p0 &&& (65535 : Int32)).toUInt32.toUInt16.toUInt32.toInt32)), .val (.int ((((p0.toUInt32 >>> ((16 : Int32) &&& 31).toUInt32).toInt32) &&& (65535 : Int32)).toUInt32.toUInt16.toUInt32.toInt32)), .val (.int ((p1 &&& (65535 : Int32)).toUInt32.toUInt16.toUInt32.toInt32)), .val (.int ((((p1.toUInt32 >>> ((16 : Int32) &&& 31).toUInt32).toInt32) &&& (65535 : Int32)).toUInt32.toUInt16.toUInt32.toInt32)), .val (.int ((p2 &&& (2147483647 : Int32)) - ((p2 &&& (2147483647 : Int32)) / (5 : Int32)) * (5 : Int32))), .unset, .unset, .unset, .unset, .unset, .unset, .unset] []))
  have hcA : own_isC ((p0 &&& (65535 : Int32)).toUInt32.toUInt16.toUInt32.toInt32) := own_chr_isC _
  generalize ((p0 &&& (65535 : Int32)).toUInt32.toUInt16.toUInt32.toInt32) = cA at hcA ⊢
  have hcB : own_isC ((((p0.toUInt32 >>> ((16 : Int32) &&& 31).toUInt32).toInt32) &&& (65535 : Int32)).toUInt32.toUInt16.toUInt32.toInt32) := own_chr_isC _
  generalize ((((p0.toUInt32 >>> ((16 : Int32) &&& 31).toUInt32).toInt32) &&& (65535 : Int32)).toUInt32.toUInt16.toUInt32.toInt32) = cB at hcB ⊢
  have hcC : own_isC ((p1 &&& (65535 : Int32)).toUInt32.toUInt16.toUInt32.toInt32) := own_chr_isC _
  generalize ((p1 &&& (65535 : Int32)).toUInt32.toUInt16.toUInt32.toInt32) = cC at hcC ⊢
  have hcD : own_isC ((((p1.toUInt32 >>> ((16 : Int32) &&& 31).toUInt32).toInt32) &&& (65535 : Int32)).toUInt32.toUInt16.toUInt32.toInt32) := own_chr_isC _
  generalize ((((p1.toUInt32 >>> ((16 : Int32) &&& 31).toUInt32).toInt32) &&& (65535 : Int32)).toUInt32.toUInt16.toUInt32.toInt32) = cD at hcD ⊢
  obtain ⟨nn, hn4, hnn⟩ := own_len5 p2
  rw [hnn]
  show own_G p.tables e below _ _ (s₁.setTop (mkF m 42 #[.val (.int p0), .val (.int p1), .val (.int p2), .val (.long q3), .second, .val (.int cA), .val (.int cB), .val (.int cC), .val (.int cD), .val (.int nn.toInt32), .unset, .unset, .unset, .unset, .unset, .unset, .unset] []))
  by_cases hz : nn = 0
  · obtain ⟨T1, h1, X1, e1, E1, A1, D1, -, st1⟩ := newO X0 hx hZ hown (hw _ (List.mem_of_getElem? (i := 2) rfl)) (hw _ (List.mem_of_getElem? (i := 3) rfl)) (hw _ (List.mem_of_getElem? (i := 4) rfl)) e0 (g := (mkF m 42 #[.val (.int p0), .val (.int p1), .val (.int p2), .val (.long q3), .second, .val (.int cA), .val (.int cB), .val (.int cC), .val (.int cD), .val (.int nn.toInt32), .unset, .unset, .unset, .unset, .unset, .unset, .unset] [])) rfl (hb hby at_42) (by decide) (by decide)
    obtain ⟨b1, gz1⟩ : ∃ z, z = h0.size := ⟨_, rfl⟩
    rw [← gz1] at A1 D1 st1
    have g_b1 : n0 ≤ b1 := Nat.le_trans Z0 (Nat.le_of_eq gz1.symm)
    have sz_b1 : h0.size ≤ b1 := Nat.le_trans (Keep.refl h0 []).1 (Nat.le_of_eq gz1.symm)
    have F2_Z : own_SS Z h1 n0 z1 fm := own_SS_ext SS E1
    have hkc3 := Nat.le_trans hk0 E1.1
    have Zs4 : n0 ≤ h1.size := Nat.le_trans Z0 E1.1
    have Kc5 : Keep h0 h1 [] := (Keep.refl h0 []).ext E1
    have F_coder_b1 : Fld Z h1 b1 "java/lang/String" "coder" "B" (.int (0 : Int32)) := D1 (Or.inr (hw _ (List.mem_of_getElem? (i := 33) rfl))) (ty := .byte) (by decide)
    have F_value_b1 : Fld Z h1 b1 "java/lang/String" "value" "[B" .null := D1 (Or.inr (hw _ (List.mem_of_getElem? (i := 35) rfl))) (ty := (.array .byte)) (by decide)
    refine own_st ?_ st1
    show own_G p.tables e below _ _ (T1.setTop (mkF m 45 #[.val (.int p0), .val (.int p1), .val (.int p2), .val (.long q3), .second, .val (.int cA), .val (.int cB), .val (.int cC), .val (.int cD), .val (.int nn.toInt32), .unset, .unset, .unset, .unset, .unset, .unset, .unset] [(.ref b1)]))
    have hcs0 : own_W ((List.range nn).map (own_pk cA cB cC cD)) = 0 := by rw [hz] <;> rfl
    obtain ⟨nB, hB63, hBq⟩ := own_arg q3
    have own_bound : 0 + own_len nn + own_W ((List.range nn).map (own_pk cA cB cC cD)) ≤ 21 := by have h1 := own_len9 (n := nn) (by omega); have h2 := own_W_le ((List.range nn).map (own_pk cA cB cC cD)); rw [List.length_map, List.length_range] at h2; omega
    have own_lenB := own_len9 hB63
    refine own_st ?_ (fun t_ k_ => XS.dup X1.here hx rfl (hb hby at_45) rfl rfl k_)
    show own_G p.tables e below _ _ (T1.setTop (mkF m 46 #[.val (.int p0), .val (.int p1), .val (.int p2), .val (.long q3), .second, .val (.int cA), .val (.int cB), .val (.int cC), .val (.int cD), .val (.int nn.toInt32), .unset, .unset, .unset, .unset, .unset, .unset, .unset] [(.ref b1), (.ref b1)]))
    refine own_st ?_ (fun t_ k_ => XS.iload X1.here hx rfl (hb hby at_46) rfl k_)
    show own_G p.tables e below _ _ (T1.setTop (mkF m 48 #[.val (.int p0), .val (.int p1), .val (.int p2), .val (.long q3), .second, .val (.int cA), .val (.int cB), .val (.int cC), .val (.int cD), .val (.int nn.toInt32), .unset, .unset, .unset, .unset, .unset, .unset, .unset] [(.int nn.toInt32), (.ref b1), (.ref b1)]))
    refine own_st ?_ (fun t_ k_ => XS.iload X1.here hx rfl (hb hby at_48) rfl k_)
    show own_G p.tables e below _ _ (T1.setTop (mkF m 50 #[.val (.int p0), .val (.int p1), .val (.int p2), .val (.long q3), .second, .val (.int cA), .val (.int cB), .val (.int cC), .val (.int cD), .val (.int nn.toInt32), .unset, .unset, .unset, .unset, .unset, .unset, .unset] [(.int cA), (.int nn.toInt32), (.ref b1), (.ref b1)]))
    refine own_st ?_ (fun t_ k_ => XS.iload X1.here hx rfl (hb hby at_50) rfl k_)
    show own_G p.tables e below _ _ (T1.setTop (mkF m 52 #[.val (.int p0), .val (.int p1), .val (.int p2), .val (.long q3), .second, .val (.int cA), .val (.int cB), .val (.int cC), .val (.int cD), .val (.int nn.toInt32), .unset, .unset, .unset, .unset, .unset, .unset, .unset] [(.int cB), (.int cA), (.int nn.toInt32), (.ref b1), (.ref b1)]))
    refine own_st ?_ (fun t_ k_ => XS.iload X1.here hx rfl (hb hby at_52) rfl k_)
    show own_G p.tables e below _ _ (T1.setTop (mkF m 54 #[.val (.int p0), .val (.int p1), .val (.int p2), .val (.long q3), .second, .val (.int cA), .val (.int cB), .val (.int cC), .val (.int cD), .val (.int nn.toInt32), .unset, .unset, .unset, .unset, .unset, .unset, .unset] [(.int cC), (.int cB), (.int cA), (.int nn.toInt32), (.ref b1), (.ref b1)]))
    refine own_st ?_ (fun t_ k_ => XS.iload X1.here hx rfl (hb hby at_54) rfl k_)
    show own_G p.tables e below _ _ (T1.setTop (mkF m 56 #[.val (.int p0), .val (.int p1), .val (.int p2), .val (.long q3), .second, .val (.int cA), .val (.int cB), .val (.int cC), .val (.int cD), .val (.int nn.toInt32), .unset, .unset, .unset, .unset, .unset, .unset, .unset] [(.int cD), (.int cC), (.int cB), (.int cA), (.int nn.toInt32), (.ref b1), (.ref b1)]))
    obtain ⟨_, _, ⟨T6, L6, k6, n6⟩, -, X6, ⟨Lc6, hQ6, l6, y6, z6⟩, st6⟩ := Jvm.LawKit.callS X1 hx (y := (⟨"com/example/termwright/termwright/RecordTextPinLaw", "pick", "(ICCCC)[C"⟩ : MethodName)) hown (mvT hZ (hw _ (List.mem_of_getElem? (i := 5) rfl))) (mvT hZ (hw _ (List.mem_of_getElem? (i := 6) rfl))) (mvT hZ (hw _ (List.mem_of_getElem? (i := 7) rfl))) (mvT hZ (hw _ (List.mem_of_getElem? (i := 8) rfl))) (by decide) (backOf (W := 2) (rm1 l Z _ hw [] nn.toInt32 cA cB cC cD nn h1 n0 Zs4 rfl hn4 hcA hcB hcC hcD) hZ (hw _ (List.mem_of_getElem? (i := 8) rfl)) (hw _ (List.mem_of_getElem? (i := 7) rfl)) (by decide) (by decide)) (g := (mkF m 56 #[.val (.int p0), .val (.int p1), .val (.int p2), .val (.long q3), .second, .val (.int cA), .val (.int cB), .val (.int cC), .val (.int cD), .val (.int nn.toInt32), .unset, .unset, .unset, .unset, .unset, .unset, .unset] [(.int cD), (.int cC), (.int cB), (.int cA), (.int nn.toInt32), (.ref b1), (.ref b1)])) rfl (by rw [hml]; rfl) (argsL := [(.int nn.toInt32), (.int cA), (.int cB), (.int cC), (.int cD)]) (rest := [(.ref b1), (.ref b1)]) (lenOf pd_22 rfl) rfl (by show 2 * 0 + _ ≤ _; exact Nat.le_of_eq rfl) (hb hby at_56) (fun _ _ => ⟨rfl, e1, (by decide : 1 + 1 ≤ _), (by decide : 4 + 4 ≤ _)⟩)
    dsimp only [Pt.U, Pt.locs, Pt.cells, Pt.slots] at X6 l6 y6 z6 st6 hQ6
    subst l6 y6 z6
    obtain ⟨t6, rfl, N6q, hq6⟩ := hQ6
    have N6 := Fr.app N0 N6q
    obtain ⟨K6, hs6, hp6⟩ := hq6
    have g_t6 : n0 ≤ t6 := Nat.le_trans Zs4 hs6
    have sz_t6 : h0.size ≤ t6 := Nat.le_trans Kc5.1 hs6
    have ne_b1_t6 : b1 ≠ t6 := Nat.ne_of_lt (Nat.lt_of_lt_of_le A1.lt hs6)
    have F7_Z : own_SS Z T6.heap n0 z1 fm := own_SS_keep F2_Z K6 own_al0
    have F8_E : Exa Z T6.heap b1 "java/lang/String" := A1.keep K6
    have F9_coder : Fld Z T6.heap b1 "java/lang/String" "coder" "B" (.int (0 : Int32)) := F_coder_b1.keep K6 nin0
    have F10_value : Fld Z T6.heap b1 "java/lang/String" "value" "[B" .null := F_value_b1.keep K6 nin0
    have hkc11 := Nat.le_trans hkc3 K6.1
    have Zs12 : n0 ≤ T6.heap.size := Nat.le_trans Zs4 K6.1
    have Kc13 : Keep h0 T6.heap [] := Kc5.trans K6 all0
    refine own_st ?_ st6
    show own_G p.tables e below _ _ (T6.setTop (mkF m 59 #[.val (.int p0), .val (.int p1), .val (.int p2), .val (.long q3), .second, .val (.int cA), .val (.int cB), .val (.int cC), .val (.int cD), .val (.int nn.toInt32), .unset, .unset, .unset, .unset, .unset, .unset, .unset] [(.ref t6), (.ref b1), (.ref b1)]))
    obtain ⟨_, _, ⟨T14, L14, k14, n14⟩, -, X14, hSq14, hgq14, ⟨Lc14, hQ14, l14, y14, z14⟩, st14⟩ := X6.specialBackS hx (y := (⟨"java/lang/String", "<init>", "([C)V"⟩ : MethodName)) rfl hown (mvT hZ (hw _ (List.mem_of_getElem? (i := 10) rfl))) (mvT hZ (hw _ (List.mem_of_getElem? (i := 11) rfl))) (mvT hZ (hw _ (List.mem_of_getElem? (i := 12) rfl))) (by decide) (own_backV (PV := fun vm_ => IB Z vm_ []) (Q := fun v vm h L => v = none ∧ Fr n0 L ∧ Keep T6.heap h [b1] ∧ ∃ b t : Addr, own_PE Z b1 b t vm h) (W := 1) (rm2e l Z _ hw [] b1 t6 (.int (0 : Int32)) (own_pk cA cB cC cD) T6.heap n0 Zs12 g_b1 F8_E F9_coder F10_value (own_Y_congr hp6 hz (fun _ _ => rfl)) (fun b_ cl_ q_ => Kc13.2.1 b_ cl_ (by rw [← hZh]; exact q_) (by simp)) hheld hcw (Ne.symm ne_b1_t6)) hZ (hw _ (List.mem_of_getElem? (i := 12) rfl)) (hw _ (List.mem_of_getElem? (i := 4) rfl)) (by decide) (by decide)) (g := (mkF m 59 #[.val (.int p0), .val (.int p1), .val (.int p2), .val (.long q3), .second, .val (.int cA), .val (.int cB), .val (.int cC), .val (.int cD), .val (.int nn.toInt32), .unset, .unset, .unset, .unset, .unset, .unset, .unset] [(.ref t6), (.ref b1), (.ref b1)])) rfl (by rw [hml]; rfl) (Steps.refl _) (a := b1) (argsL := [(.ref t6)]) (rest := [(.ref b1)]) (lenOf pd_18 rfl) rfl (by show 2 * 0 + _ ≤ _; exact Nat.le_of_eq rfl) (hb hby at_59) (fun vq hq_ => ⟨rfl, rfl, own_ib I0 hq_, (by decide : 2 + 2 ≤ _), (by decide : 8 + 4 ≤ _)⟩)
    dsimp only [Pt.U, Pt.locs, Pt.cells, Pt.slots] at X14 l14 y14 z14 st14 hQ14
    subst l14 y14 z14
    dsimp only [Pt.U] at hSq14 hgq14
    obtain ⟨X14, hS14, hZ, hown⟩ := rebS hS0 hkc11 X14 hSq14 hgq14 hZ hown
    have hk14 := Nat.le_refl T14.heap.size
    obtain ⟨rfl, N14q, hq14⟩ := hQ14
    have N14 := Fr.app N6 N14q
    obtain ⟨K14, lb14, lc14, nb14, nt14, Fc14, Fv14, Li14, Eb14, Fcb14, Fvb14, Yb14⟩ := hq14
    have F15_Z : own_SS Z T14.heap n0 z1 fm := own_SS_keep F7_Z K14 (own_alS g_b1 own_al0)
    have F16_E : Exa Z T14.heap b1 "java/lang/String" := F8_E.keep K14
    have F17_P : own_Y .char Z T14.heap t6 nn (own_pk cA cB cC cD) := own_Y_keep hp6 K14 (ninS (Ne.symm ne_b1_t6) nin0)
    have hkc18 := Nat.le_trans hkc11 K14.1
    have Zs19 : n0 ≤ T14.heap.size := Nat.le_trans Zs12 K14.1
    have Kc20 : Keep h0 T14.heap [] := Kc13.trans K14 (allS (Or.inr sz_b1) all0)
    refine own_st ?_ (fun t_ k_ => st14.trans k_)
    show own_G p.tables e below _ _ (T14.setTop (mkF m 62 #[.val (.int p0), .val (.int p1), .val (.int p2), .val (.long q3), .second, .val (.int cA), .val (.int cB), .val (.int cC), .val (.int cD), .val (.int nn.toInt32), .unset, .unset, .unset, .unset, .unset, .unset, .unset] [(.ref b1)]))
    refine own_st ?_ (fun t_ k_ => XS.astore X14.here hx rfl (hb hby at_62) rfl rfl (l' := #[.val (.int p0), .val (.int p1), .val (.int p2), .val (.long q3), .second, .val (.int cA), .val (.int cB), .val (.int cC), .val (.int cD), .val (.int nn.toInt32), .val (.ref b1), .unset, .unset, .unset, .unset, .unset, .unset]) rfl k_)
    show own_G p.tables e below _ _ (T14.setTop (mkF m 64 #[.val (.int p0), .val (.int p1), .val (.int p2), .val (.long q3), .second, .val (.int cA), .val (.int cB), .val (.int cC), .val (.int cD), .val (.int nn.toInt32), .val (.ref b1), .unset, .unset, .unset, .unset, .unset, .unset] []))
    refine own_st ?_ (fun t_ k_ => XS.lloadN X14.here hx rfl (hb hby at_64) rfl k_)
    show own_G p.tables e below _ _ (T14.setTop (mkF m 65 #[.val (.int p0), .val (.int p1), .val (.int p2), .val (.long q3), .second, .val (.int cA), .val (.int cB), .val (.int cC), .val (.int cD), .val (.int nn.toInt32), .val (.ref b1), .unset, .unset, .unset, .unset, .unset, .unset] [(.long q3)]))
    refine own_st ?_ (X14.ldc2Long hx hown (mvT hZ (hw _ (List.mem_of_getElem? (i := 36) rfl))) (g := (mkF m 65 #[.val (.int p0), .val (.int p1), .val (.int p2), .val (.long q3), .second, .val (.int cA), .val (.int cB), .val (.int cC), .val (.int cD), .val (.int nn.toInt32), .val (.ref b1), .unset, .unset, .unset, .unset, .unset, .unset] [(.long q3)])) rfl (hb hby at_65))
    show own_G p.tables e below _ _ (T14.setTop (mkF m 68 #[.val (.int p0), .val (.int p1), .val (.int p2), .val (.long q3), .second, .val (.int cA), .val (.int cB), .val (.int cC), .val (.int cD), .val (.int nn.toInt32), .val (.ref b1), .unset, .unset, .unset, .unset, .unset, .unset] [(.long (9223372036854775807 : Int64)), (.long q3)]))
    refine own_st ?_ (fun t_ k_ => XS.land X14.here hx rfl (hb hby at_68) rfl k_)
    show own_G p.tables e below _ _ (T14.setTop (mkF m 69 #[.val (.int p0), .val (.int p1), .val (.int p2), .val (.long q3), .second, .val (.int cA), .val (.int cB), .val (.int cC), .val (.int cD), .val (.int nn.toInt32), .val (.ref b1), .unset, .unset, .unset, .unset, .unset, .unset] [(.long (q3 &&& (9223372036854775807 : Int64)))]))
    refine own_st ?_ (fun t_ k_ => XS.lstore X14.here hx rfl (hb hby at_69) rfl (l' := #[.val (.int p0), .val (.int p1), .val (.int p2), .val (.long q3), .second, .val (.int cA), .val (.int cB), .val (.int cC), .val (.int cD), .val (.int nn.toInt32), .val (.ref b1), .val (.long (q3 &&& (9223372036854775807 : Int64))), .second, .unset, .unset, .unset, .unset]) rfl k_)
    show own_G p.tables e below _ _ (T14.setTop (mkF m 71 #[.val (.int p0), .val (.int p1), .val (.int p2), .val (.long q3), .second, .val (.int cA), .val (.int cB), .val (.int cC), .val (.int cD), .val (.int nn.toInt32), .val (.ref b1), .val (.long (q3 &&& (9223372036854775807 : Int64))), .second, .unset, .unset, .unset, .unset] []))
    obtain ⟨T21, h21, X21, e21, E21, A21, D21, -, st21⟩ := newO X14 hx hZ hown (hw _ (List.mem_of_getElem? (i := 37) rfl)) (hw _ (List.mem_of_getElem? (i := 38) rfl)) (hw _ (List.mem_of_getElem? (i := 39) rfl)) rfl (g := (mkF m 71 #[.val (.int p0), .val (.int p1), .val (.int p2), .val (.long q3), .second, .val (.int cA), .val (.int cB), .val (.int cC), .val (.int cD), .val (.int nn.toInt32), .val (.ref b1), .val (.long (q3 &&& (9223372036854775807 : Int64))), .second, .unset, .unset, .unset, .unset] [])) rfl (hb hby at_71) (by decide) (by decide)
    obtain ⟨b21, gz21⟩ : ∃ z, z = T14.heap.size := ⟨_, rfl⟩
    rw [← gz21] at A21 D21 st21
    have ne_b1_b21 : b1 ≠ b21 := Nat.ne_of_lt (Nat.lt_of_lt_of_le F16_E.lt (Nat.le_of_eq gz21.symm))
    have ne_lb14_b21 : lb14 ≠ b21 := Nat.ne_of_lt (Nat.lt_of_lt_of_le Eb14.lt (Nat.le_of_eq gz21.symm))
    have ne_lc14_b21 : lc14 ≠ b21 := Nat.ne_of_lt (Nat.lt_of_lt_of_le (own_Y_lt Yb14) (Nat.le_of_eq gz21.symm))
    have g_b21 : n0 ≤ b21 := Nat.le_trans Zs19 (Nat.le_of_eq gz21.symm)
    have F22_Z : own_SS Z h21 n0 z1 fm := own_SS_ext F15_Z E21
    have F23_E : Exa Z h21 b1 "java/lang/String" := F16_E.ext E21
    have F24_coder : Fld Z h21 b1 "java/lang/String" "coder" "B" (.int (0 : Int32)) := Fc14.ext E21
    have F25_value : Fld Z h21 b1 "java/lang/String" "value" "[B" (.ref lc14) := Fv14.ext E21
    have F26_E : Exa Z h21 lb14 "java/lang/String" := Eb14.ext E21
    have F27_coder : Fld Z h21 lb14 "java/lang/String" "coder" "B" (.int (0 : Int32)) := Fcb14.ext E21
    have F28_value : Fld Z h21 lb14 "java/lang/String" "value" "[B" (.ref lc14) := Fvb14.ext E21
    have F29_P : own_Y .byte Z h21 lc14 0 (fun _ => 0) := own_Y_ext Yb14 E21
    have hkc30 := Nat.le_trans hk14 E21.1
    have Zs31 : n0 ≤ h21.size := Nat.le_trans Zs19 E21.1
    have F_bytes_b21 : Fld Z h21 b21 "com/example/termwright/termwright/Spool$Record" "bytes" "[B" .null := D21 (Or.inl (hw _ (List.mem_of_getElem? (i := 45) rfl))) (ty := (.array .byte)) (by decide)
    have F_length_b21 : Fld Z h21 b21 "com/example/termwright/termwright/Spool$Record" "length" "I" (.int (0 : Int32)) := D21 (Or.inl (hw _ (List.mem_of_getElem? (i := 72) rfl))) (ty := .int) (by decide)
    have F_position_b21 : Fld Z h21 b21 "com/example/termwright/termwright/Spool$Record" "position" "I" (.int (0 : Int32)) := D21 (Or.inl (hw _ (List.mem_of_getElem? (i := 110) rfl))) (ty := .int) (by decide)
    refine own_st ?_ st21
    show own_G p.tables e below _ _ (T21.setTop (mkF m 74 #[.val (.int p0), .val (.int p1), .val (.int p2), .val (.long q3), .second, .val (.int cA), .val (.int cB), .val (.int cC), .val (.int cD), .val (.int nn.toInt32), .val (.ref b1), .val (.long (q3 &&& (9223372036854775807 : Int64))), .second, .unset, .unset, .unset, .unset] [(.ref b21)]))
    refine own_st ?_ (fun t_ k_ => XS.dup X21.here hx rfl (hb hby at_74) rfl rfl k_)
    show own_G p.tables e below _ _ (T21.setTop (mkF m 75 #[.val (.int p0), .val (.int p1), .val (.int p2), .val (.long q3), .second, .val (.int cA), .val (.int cB), .val (.int cC), .val (.int cD), .val (.int nn.toInt32), .val (.ref b1), .val (.long (q3 &&& (9223372036854775807 : Int64))), .second, .unset, .unset, .unset, .unset] [(.ref b21), (.ref b21)]))
    obtain ⟨_, _, ⟨T32, L32, k32, n32⟩, -, X32, ⟨Lc32, hQ32, l32, y32, z32⟩, st32⟩ := X21.specialBack hx (y := (⟨"com/example/termwright/termwright/Spool$Record", "<init>", "()V"⟩ : MethodName)) rfl hown (mvT hZ (hw _ (List.mem_of_getElem? (i := 40) rfl))) (mvT hZ (hw _ (List.mem_of_getElem? (i := 41) rfl))) (mvT hZ (hw _ (List.mem_of_getElem? (i := 42) rfl))) (by decide) (backOf (W := 1) (rm8 l Z _ hw [] b21 .null h21 n0 Zs31 g_b21 A21 F_bytes_b21 F_length_b21 F_position_b21) hZ (hw _ (List.mem_of_getElem? (i := 42) rfl)) (hw _ (List.mem_of_getElem? (i := 39) rfl)) (by decide) (by decide)) (g := (mkF m 75 #[.val (.int p0), .val (.int p1), .val (.int p2), .val (.long q3), .second, .val (.int cA), .val (.int cB), .val (.int cC), .val (.int cD), .val (.int nn.toInt32), .val (.ref b1), .val (.long (q3 &&& (9223372036854775807 : Int64))), .second, .unset, .unset, .unset, .unset] [(.ref b21), (.ref b21)])) rfl (by rw [hml]; rfl) (Steps.refl _) (a := b21) (argsL := []) (rest := [(.ref b21)]) (lenOf pd_23 rfl) rfl (by show 2 * 0 + _ ≤ _; exact Nat.le_of_eq rfl) (hb hby at_75) (fun _ _ => ⟨rfl, e21, (by decide : 5 + 1 ≤ _), (by decide : 15 + 256 ≤ _)⟩)
    dsimp only [Pt.U, Pt.locs, Pt.cells, Pt.slots] at X32 l32 y32 z32 st32 hQ32
    subst l32 y32 z32
    obtain ⟨rfl, N32q, hq32⟩ := hQ32
    have N32 := Fr.app N14 N32q
    obtain ⟨K32, t32, hs32, hne32, Fb32, Fl32, Fp32, M32⟩ := hq32
    have g_t32 : n0 ≤ t32 := Nat.le_trans Zs31 hs32
    have ne_b1_t32 : b1 ≠ t32 := Nat.ne_of_lt (Nat.lt_of_lt_of_le F23_E.lt hs32)
    have ne_lb14_t32 : lb14 ≠ t32 := Nat.ne_of_lt (Nat.lt_of_lt_of_le F26_E.lt hs32)
    have ne_lc14_t32 : lc14 ≠ t32 := Nat.ne_of_lt (Nat.lt_of_lt_of_le (own_Y_lt F29_P) hs32)
    have F33_Z : own_SS Z T32.heap n0 z1 fm := own_SS_keep F22_Z K32 (own_alS g_b21 own_al0)
    have F34_E : Exa Z T32.heap b1 "java/lang/String" := F23_E.keep K32
    have F35_coder : Fld Z T32.heap b1 "java/lang/String" "coder" "B" (.int (0 : Int32)) := F24_coder.keep K32 (ninS ne_b1_b21 nin0)
    have F36_value : Fld Z T32.heap b1 "java/lang/String" "value" "[B" (.ref lc14) := F25_value.keep K32 (ninS ne_b1_b21 nin0)
    have F37_E : Exa Z T32.heap lb14 "java/lang/String" := F26_E.keep K32
    have F38_coder : Fld Z T32.heap lb14 "java/lang/String" "coder" "B" (.int (0 : Int32)) := F27_coder.keep K32 (ninS ne_lb14_b21 nin0)
    have F39_value : Fld Z T32.heap lb14 "java/lang/String" "value" "[B" (.ref lc14) := F28_value.keep K32 (ninS ne_lb14_b21 nin0)
    have F40_P : own_Y .byte Z T32.heap lc14 0 (fun _ => 0) := own_Y_keep F29_P K32 (ninS ne_lc14_b21 nin0)
    have F41_E : Exa Z T32.heap b21 "com/example/termwright/termwright/Spool$Record" := A21.keep K32
    have hkc42 := Nat.le_trans hkc30 K32.1
    have Zs43 : n0 ≤ T32.heap.size := Nat.le_trans Zs31 K32.1
    refine own_st ?_ (fun t_ k_ => st32.trans k_)
    show own_G p.tables e below _ _ (T32.setTop (mkF m 78 #[.val (.int p0), .val (.int p1), .val (.int p2), .val (.long q3), .second, .val (.int cA), .val (.int cB), .val (.int cC), .val (.int cD), .val (.int nn.toInt32), .val (.ref b1), .val (.long (q3 &&& (9223372036854775807 : Int64))), .second, .unset, .unset, .unset, .unset] [(.ref b21)]))
    refine own_st ?_ (fun t_ k_ => XS.astore X32.here hx rfl (hb hby at_78) rfl rfl (l' := #[.val (.int p0), .val (.int p1), .val (.int p2), .val (.long q3), .second, .val (.int cA), .val (.int cB), .val (.int cC), .val (.int cD), .val (.int nn.toInt32), .val (.ref b1), .val (.long (q3 &&& (9223372036854775807 : Int64))), .second, .val (.ref b21), .unset, .unset, .unset]) rfl k_)
    show own_G p.tables e below _ _ (T32.setTop (mkF m 80 #[.val (.int p0), .val (.int p1), .val (.int p2), .val (.long q3), .second, .val (.int cA), .val (.int cB), .val (.int cC), .val (.int cD), .val (.int nn.toInt32), .val (.ref b1), .val (.long (q3 &&& (9223372036854775807 : Int64))), .second, .val (.ref b21), .unset, .unset, .unset] []))
    refine own_st ?_ (fun t_ k_ => XS.aload X32.here hx rfl (hb hby at_80) rfl rfl k_)
    show own_G p.tables e below _ _ (T32.setTop (mkF m 82 #[.val (.int p0), .val (.int p1), .val (.int p2), .val (.long q3), .second, .val (.int cA), .val (.int cB), .val (.int cC), .val (.int cD), .val (.int nn.toInt32), .val (.ref b1), .val (.long (q3 &&& (9223372036854775807 : Int64))), .second, .val (.ref b21), .unset, .unset, .unset] [(.ref b21)]))
    refine own_st ?_ (fun t_ k_ => XS.aload X32.here hx rfl (hb hby at_82) rfl rfl k_)
    show own_G p.tables e below _ _ (T32.setTop (mkF m 84 #[.val (.int p0), .val (.int p1), .val (.int p2), .val (.long q3), .second, .val (.int cA), .val (.int cB), .val (.int cC), .val (.int cD), .val (.int nn.toInt32), .val (.ref b1), .val (.long (q3 &&& (9223372036854775807 : Int64))), .second, .val (.ref b21), .unset, .unset, .unset] [(.ref b1), (.ref b21)]))
    obtain ⟨cq44, kq44, q44a, q44b, q44c⟩ := isOf hZ rfl F41_E
    obtain ⟨_, _, ⟨T44, L44, k44, n44⟩, -, X44, ⟨Lc44, hQ44, l44, y44, z44⟩, st44⟩ := X32.virtualBack hx (y := (⟨"com/example/termwright/termwright/Spool$Record", "putText", "(Ljava/lang/String;)Lcom/example/termwright/termwright/Spool$Record;"⟩ : MethodName)) (z := (⟨"com/example/termwright/termwright/Spool$Record", "putText", "(Ljava/lang/String;)Lcom/example/termwright/termwright/Spool$Record;"⟩ : MethodName)) hown (mvT hZ (hw _ (List.mem_of_getElem? (i := 46) rfl))) (mvT hZ (hw _ (List.mem_of_getElem? (i := 47) rfl))) (notFace_of_selects (args := #[]) (mvT hZ (hw _ (List.mem_of_getElem? (i := 49) rfl)))) (mvT hZ (hw _ (List.mem_of_getElem? (i := 49) rfl))) (mvT hZ (hw _ (List.mem_of_getElem? (i := 48) rfl))) (by decide) (backOf (W := 0) (rm9 l Z _ hw [] b21 b1 z1 fm (0 : Int32) lc14 nn 0 (fun _ => 0) (own_pk cA cB cC cD) t32 0 0 (fun _ => 0) ((List.range nn).map (own_pk cA cB cC cD)) T32.heap n0 Zs43 g_b21 g_t32 F33_Z F41_E Fb32 Fl32 Fp32 M32 F34_E F35_coder F36_value F40_P hne32 ne_b1_b21 ne_b1_t32 ne_lc14_b21 ne_lc14_t32 hz1 rf_fm (own_D00 hz) hn4 (by decide) (own_TT0 nn _)) hZ (hw _ (List.mem_of_getElem? (i := 50) rfl)) (hw _ (List.mem_of_getElem? (i := 39) rfl)) (by decide) (by decide)) q44a q44c (g := (mkF m 84 #[.val (.int p0), .val (.int p1), .val (.int p2), .val (.long q3), .second, .val (.int cA), .val (.int cB), .val (.int cC), .val (.int cD), .val (.int nn.toInt32), .val (.ref b1), .val (.long (q3 &&& (9223372036854775807 : Int64))), .second, .val (.ref b21), .unset, .unset, .unset] [(.ref b1), (.ref b21)])) rfl (by rw [hml]; rfl) (Steps.refl _) (argsL := [(.ref b1)]) (rest := []) (lenOf pd_24 rfl) rfl (by show 2 * 0 + _ ≤ _; exact Nat.le_of_eq rfl) (hb hby at_84) (fun _ _ => ⟨rfl, rfl, (by decide : 6 + 0 ≤ _), (by decide : 271 + 0 ≤ _)⟩)
    dsimp only [Pt.U, Pt.locs, Pt.cells, Pt.slots] at X44 l44 y44 z44 st44 hQ44
    subst l44 y44 z44
    obtain ⟨rfl, N44q, hq44⟩ := hQ44
    have N44 := Fr.app N32 N44q
    obtain ⟨K44, gp44, ⟨Fb44, Fl44, Fp44, M44⟩, hE44, hA44⟩ := hq44
    have F45_Z : own_SS Z T44.heap n0 z1 fm := own_SS_keep F33_Z K44 (own_alS g_b21 (own_alS g_t32 own_al0))
    have F46_E : Exa Z T44.heap b1 "java/lang/String" := F34_E.keep K44
    have F47_coder : Fld Z T44.heap b1 "java/lang/String" "coder" "B" (.int (0 : Int32)) := F35_coder.keep K44 (ninS ne_b1_b21 (ninS ne_b1_t32 nin0))
    have F48_value : Fld Z T44.heap b1 "java/lang/String" "value" "[B" (.ref lc14) := F36_value.keep K44 (ninS ne_b1_b21 (ninS ne_b1_t32 nin0))
    have F49_E : Exa Z T44.heap lb14 "java/lang/String" := F37_E.keep K44
    have F50_coder : Fld Z T44.heap lb14 "java/lang/String" "coder" "B" (.int (0 : Int32)) := F38_coder.keep K44 (ninS ne_lb14_b21 (ninS ne_lb14_t32 nin0))
    have F51_value : Fld Z T44.heap lb14 "java/lang/String" "value" "[B" (.ref lc14) := F39_value.keep K44 (ninS ne_lb14_b21 (ninS ne_lb14_t32 nin0))
    have F52_P : own_Y .byte Z T44.heap lc14 0 (fun _ => 0) := own_Y_keep F40_P K44 (ninS ne_lc14_b21 (ninS ne_lc14_t32 nin0))
    have F53_E : Exa Z T44.heap b21 "com/example/termwright/termwright/Spool$Record" := F41_E.keep K44
    have hkc54 := Nat.le_trans hkc42 K44.1
    have Zs55 : n0 ≤ T44.heap.size := Nat.le_trans Zs43 K44.1
    have hat44 : own_at gp44 0 nn := own_at_congr nn _ _ 0 (fun i _ q => hA44 i q) (own_at_put nn _ 0)
    refine own_st ?_ (fun t_ k_ => st44.trans k_)
    show own_G p.tables e below _ _ (T44.setTop (mkF m 87 #[.val (.int p0), .val (.int p1), .val (.int p2), .val (.long q3), .second, .val (.int cA), .val (.int cB), .val (.int cC), .val (.int cD), .val (.int nn.toInt32), .val (.ref b1), .val (.long (q3 &&& (9223372036854775807 : Int64))), .second, .val (.ref b21), .unset, .unset, .unset] [(.ref b21)]))
    refine own_st ?_ (fun t_ k_ => XS.pop X44.here hx rfl (hb hby at_87) rfl rfl k_)
    show own_G p.tables e below _ _ (T44.setTop (mkF m 88 #[.val (.int p0), .val (.int p1), .val (.int p2), .val (.long q3), .second, .val (.int cA), .val (.int cB), .val (.int cC), .val (.int cD), .val (.int nn.toInt32), .val (.ref b1), .val (.long (q3 &&& (9223372036854775807 : Int64))), .second, .val (.ref b21), .unset, .unset, .unset] []))
    refine own_st ?_ (fun t_ k_ => XS.aload X44.here hx rfl (hb hby at_88) rfl rfl k_)
    show own_G p.tables e below _ _ (T44.setTop (mkF m 90 #[.val (.int p0), .val (.int p1), .val (.int p2), .val (.long q3), .second, .val (.int cA), .val (.int cB), .val (.int cC), .val (.int cD), .val (.int nn.toInt32), .val (.ref b1), .val (.long (q3 &&& (9223372036854775807 : Int64))), .second, .val (.ref b21), .unset, .unset, .unset] [(.ref b21)]))
    refine own_st ?_ (fun t_ k_ => XS.lload X44.here hx rfl (hb hby at_90) rfl k_)
    show own_G p.tables e below _ _ (T44.setTop (mkF m 92 #[.val (.int p0), .val (.int p1), .val (.int p2), .val (.long q3), .second, .val (.int cA), .val (.int cB), .val (.int cC), .val (.int cD), .val (.int nn.toInt32), .val (.ref b1), .val (.long (q3 &&& (9223372036854775807 : Int64))), .second, .val (.ref b21), .unset, .unset, .unset] [(.long (q3 &&& (9223372036854775807 : Int64))), (.ref b21)]))
    obtain ⟨cq56, kq56, q56a, q56b, q56c⟩ := isOf hZ rfl F53_E
    obtain ⟨_, _, ⟨T56, L56, k56, n56⟩, -, X56, ⟨Lc56, hQ56, l56, y56, z56⟩, st56⟩ := X44.virtualBack hx (y := (⟨"com/example/termwright/termwright/Spool$Record", "putNumber", "(J)Lcom/example/termwright/termwright/Spool$Record;"⟩ : MethodName)) (z := (⟨"com/example/termwright/termwright/Spool$Record", "putNumber", "(J)Lcom/example/termwright/termwright/Spool$Record;"⟩ : MethodName)) hown (mvT hZ (hw _ (List.mem_of_getElem? (i := 97) rfl))) (mvT hZ (hw _ (List.mem_of_getElem? (i := 62) rfl))) (notFace_of_selects (args := #[]) (mvT hZ (hw _ (List.mem_of_getElem? (i := 64) rfl)))) (mvT hZ (hw _ (List.mem_of_getElem? (i := 64) rfl))) (mvT hZ (hw _ (List.mem_of_getElem? (i := 63) rfl))) (by decide) (backOf (W := 0) (rm12 l Z _ hw [] b21 (q3 &&& (9223372036854775807 : Int64)) t32 (0 + own_len nn + own_W ((List.range nn).map (own_pk cA cB cC cD))) 0 gp44 nB T44.heap n0 Zs55 g_b21 g_t32 F53_E Fb44 Fl44 Fp44 M44 hne32 hBq hB63 (by omega)) hZ (hw _ (List.mem_of_getElem? (i := 65) rfl)) (hw _ (List.mem_of_getElem? (i := 39) rfl)) (by decide) (by decide)) q56a q56c (g := (mkF m 92 #[.val (.int p0), .val (.int p1), .val (.int p2), .val (.long q3), .second, .val (.int cA), .val (.int cB), .val (.int cC), .val (.int cD), .val (.int nn.toInt32), .val (.ref b1), .val (.long (q3 &&& (9223372036854775807 : Int64))), .second, .val (.ref b21), .unset, .unset, .unset] [(.long (q3 &&& (9223372036854775807 : Int64))), (.ref b21)])) rfl (by rw [hml]; rfl) (Steps.refl _) (argsL := [(.long (q3 &&& (9223372036854775807 : Int64)))]) (rest := []) (lenOf pd_17 rfl) rfl (by show 2 * 0 + _ ≤ _; exact Nat.le_of_eq rfl) (hb hby at_92) (fun _ _ => ⟨rfl, rfl, (by decide : 6 + 0 ≤ _), (by decide : 271 + 0 ≤ _)⟩)
    dsimp only [Pt.U, Pt.locs, Pt.cells, Pt.slots] at X56 l56 y56 z56 st56 hQ56
    subst l56 y56 z56
    obtain ⟨rfl, N56q, hq56⟩ := hQ56
    have N56 := Fr.app N44 N56q
    obtain ⟨K56, Fb56, Fl56, Fp56, M56⟩ := hq56
    have F57_Z : own_SS Z T56.heap n0 z1 fm := own_SS_keep F45_Z K56 (own_alS g_b21 (own_alS g_t32 own_al0))
    have F58_E : Exa Z T56.heap b1 "java/lang/String" := F46_E.keep K56
    have F59_coder : Fld Z T56.heap b1 "java/lang/String" "coder" "B" (.int (0 : Int32)) := F47_coder.keep K56 (ninS ne_b1_b21 (ninS ne_b1_t32 nin0))
    have F60_value : Fld Z T56.heap b1 "java/lang/String" "value" "[B" (.ref lc14) := F48_value.keep K56 (ninS ne_b1_b21 (ninS ne_b1_t32 nin0))
    have F61_E : Exa Z T56.heap lb14 "java/lang/String" := F49_E.keep K56
    have F62_coder : Fld Z T56.heap lb14 "java/lang/String" "coder" "B" (.int (0 : Int32)) := F50_coder.keep K56 (ninS ne_lb14_b21 (ninS ne_lb14_t32 nin0))
    have F63_value : Fld Z T56.heap lb14 "java/lang/String" "value" "[B" (.ref lc14) := F51_value.keep K56 (ninS ne_lb14_b21 (ninS ne_lb14_t32 nin0))
    have F64_P : own_Y .byte Z T56.heap lc14 0 (fun _ => 0) := own_Y_keep F52_P K56 (ninS ne_lc14_b21 (ninS ne_lc14_t32 nin0))
    have F65_E : Exa Z T56.heap b21 "com/example/termwright/termwright/Spool$Record" := F53_E.keep K56
    have hkc66 := Nat.le_trans hkc54 K56.1
    have Zs67 : n0 ≤ T56.heap.size := Nat.le_trans Zs55 K56.1
    have hat56 : own_at (own_put gp44 (0 + own_len nn + own_W ((List.range nn).map (own_pk cA cB cC cD))) nB) 0 nn := own_at_congr nn _ _ 0 (fun i _ q => own_put_below nB _ _ i (by omega)) hat44
    have hE56 : own_E8 (own_put gp44 (0 + own_len nn + own_W ((List.range nn).map (own_pk cA cB cC cD))) nB) (0 + own_len nn) ((List.range nn).map (own_pk cA cB cC cD)) := own_E8_congr _ _ (fun i _ q => own_put_below nB _ _ i q) hE44
    refine own_st ?_ (fun t_ k_ => st56.trans k_)
    show own_G p.tables e below _ _ (T56.setTop (mkF m 95 #[.val (.int p0), .val (.int p1), .val (.int p2), .val (.long q3), .second, .val (.int cA), .val (.int cB), .val (.int cC), .val (.int cD), .val (.int nn.toInt32), .val (.ref b1), .val (.long (q3 &&& (9223372036854775807 : Int64))), .second, .val (.ref b21), .unset, .unset, .unset] [(.ref b21)]))
    refine own_st ?_ (fun t_ k_ => XS.pop X56.here hx rfl (hb hby at_95) rfl rfl k_)
    show own_G p.tables e below _ _ (T56.setTop (mkF m 96 #[.val (.int p0), .val (.int p1), .val (.int p2), .val (.long q3), .second, .val (.int cA), .val (.int cB), .val (.int cC), .val (.int cD), .val (.int nn.toInt32), .val (.ref b1), .val (.long (q3 &&& (9223372036854775807 : Int64))), .second, .val (.ref b21), .unset, .unset, .unset] []))
    refine own_st ?_ (fun t_ k_ => XS.aload X56.here hx rfl (hb hby at_96) rfl rfl k_)
    show own_G p.tables e below _ _ (T56.setTop (mkF m 98 #[.val (.int p0), .val (.int p1), .val (.int p2), .val (.long q3), .second, .val (.int cA), .val (.int cB), .val (.int cC), .val (.int cD), .val (.int nn.toInt32), .val (.ref b1), .val (.long (q3 &&& (9223372036854775807 : Int64))), .second, .val (.ref b21), .unset, .unset, .unset] [(.ref b21)]))
    obtain ⟨cq68, kq68, q68a, q68b, q68c⟩ := isOf hZ rfl F65_E
    obtain ⟨_, _, ⟨T68, L68, k68, n68⟩, -, X68, hSq68, hgq68, ⟨Lc68, hQ68, l68, y68, z68⟩, st68⟩ := X56.virtualBackS hx (y := (⟨"com/example/termwright/termwright/Spool$Record", "text", "()Ljava/lang/String;"⟩ : MethodName)) (z := (⟨"com/example/termwright/termwright/Spool$Record", "text", "()Ljava/lang/String;"⟩ : MethodName)) hown (mvT hZ (hw _ (List.mem_of_getElem? (i := 99) rfl))) (mvT hZ (hw _ (List.mem_of_getElem? (i := 100) rfl))) (notFace_of_selects (args := #[]) (mvT hZ (hw _ (List.mem_of_getElem? (i := 102) rfl)))) (mvT hZ (hw _ (List.mem_of_getElem? (i := 102) rfl))) (mvT hZ (hw _ (List.mem_of_getElem? (i := 101) rfl))) (by decide) (own_backV (PV := fun vm_ => Lit (Z.setVm vm_) "java/lang/String" 7 lb14) (Q := own_Qte Z b21 t32 (0 + own_len nn + own_W ((List.range nn).map (own_pk cA cB cC cD)) + own_len nB) (0 + own_len nn + own_W ((List.range nn).map (own_pk cA cB cC cD))) (own_put gp44 (0 + own_len nn + own_W ((List.range nn).map (own_pk cA cB cC cD))) nB) lb14 lc14 T56.heap n0) (W := 0) (rm19e l Z _ hw [] b21 t32 (0 + own_len nn + own_W ((List.range nn).map (own_pk cA cB cC cD)) + own_len nB) 0 (own_put gp44 (0 + own_len nn + own_W ((List.range nn).map (own_pk cA cB cC cD))) nB) nn ((List.range nn).map (own_pk cA cB cC cD)) lb14 lc14 T56.heap n0 Zs67 g_b21 g_t32 F65_E Fb56 Fl56 Fp56 M56 F61_E F62_coder F63_value F64_P hne32 hz hcs0 hat56 (by decide) ne_lb14_b21 ne_lc14_b21) hZ (hw _ (List.mem_of_getElem? (i := 103) rfl)) (hw _ (List.mem_of_getElem? (i := 39) rfl)) (by decide) (by decide)) q68a q68c (g := (mkF m 98 #[.val (.int p0), .val (.int p1), .val (.int p2), .val (.long q3), .second, .val (.int cA), .val (.int cB), .val (.int cC), .val (.int cD), .val (.int nn.toInt32), .val (.ref b1), .val (.long (q3 &&& (9223372036854775807 : Int64))), .second, .val (.ref b21), .unset, .unset, .unset] [(.ref b21)])) rfl (by rw [hml]; rfl) (Steps.refl _) (argsL := []) (rest := []) (lenOf pd_25 rfl) rfl (by show 2 * 0 + _ ≤ _; exact Nat.le_of_eq rfl) (hb hby at_98) (fun vq hq_ => ⟨rfl, rfl, own_lit (show Lit (s.setVm T14.vm) "java/lang/String" 7 lb14 from Li14) hq_, (by decide : 6 + 2 ≤ _), (by decide : 271 + 4 ≤ _)⟩)
    dsimp only [Pt.U, Pt.locs, Pt.cells, Pt.slots] at X68 l68 y68 z68 st68 hQ68
    subst l68 y68 z68
    dsimp only [Pt.U] at hSq68 hgq68
    obtain ⟨X68, hS68, hZ, hown⟩ := rebS hS14 hkc66 X68 hSq68 hgq68 hZ hown
    have hk68 := Nat.le_refl T68.heap.size
    obtain ⟨sa68, rfl, N68q, hq68⟩ := hQ68
    have N68 := Fr.app N56 N68q
    obtain ⟨K68, hs68, Es68, ⟨-, -, Fc68, Fv68, -⟩, Fb68, Fl68, Fp68, M68⟩ := hq68
    have ne_b1_sa68 : b1 ≠ sa68 := Nat.ne_of_lt (Nat.lt_of_lt_of_le F58_E.lt hs68)
    have ne_lb14_sa68 : lb14 ≠ sa68 := Nat.ne_of_lt (Nat.lt_of_lt_of_le F61_E.lt hs68)
    have ne_lc14_sa68 : lc14 ≠ sa68 := Nat.ne_of_lt (Nat.lt_of_lt_of_le (own_Y_lt F64_P) hs68)
    have ne_b21_sa68 : b21 ≠ sa68 := Nat.ne_of_lt (Nat.lt_of_lt_of_le F65_E.lt hs68)
    have ne_t32_sa68 : t32 ≠ sa68 := Nat.ne_of_lt (Nat.lt_of_lt_of_le (own_M_lt M56) hs68)
    have g_sa68 : n0 ≤ sa68 := Nat.le_trans Zs67 hs68
    have F69_Z : own_SS Z T68.heap n0 z1 fm := own_SS_keep F57_Z K68 (own_alS g_b21 own_al0)
    have F70_E : Exa Z T68.heap b1 "java/lang/String" := F58_E.keep K68
    have F71_coder : Fld Z T68.heap b1 "java/lang/String" "coder" "B" (.int (0 : Int32)) := F59_coder.keep K68 (ninS ne_b1_b21 nin0)
    have F72_value : Fld Z T68.heap b1 "java/lang/String" "value" "[B" (.ref lc14) := F60_value.keep K68 (ninS ne_b1_b21 nin0)
    have F73_E : Exa Z T68.heap lb14 "java/lang/String" := F61_E.keep K68
    have F74_coder : Fld Z T68.heap lb14 "java/lang/String" "coder" "B" (.int (0 : Int32)) := F62_coder.keep K68 (ninS ne_lb14_b21 nin0)
    have F75_value : Fld Z T68.heap lb14 "java/lang/String" "value" "[B" (.ref lc14) := F63_value.keep K68 (ninS ne_lb14_b21 nin0)
    have F76_P : own_Y .byte Z T68.heap lc14 0 (fun _ => 0) := own_Y_keep F64_P K68 (ninS ne_lc14_b21 nin0)
    have F77_E : Exa Z T68.heap b21 "com/example/termwright/termwright/Spool$Record" := F65_E.keep K68
    have F78_P : own_M Z T68.heap t32 (own_put gp44 (0 + own_len nn + own_W ((List.range nn).map (own_pk cA cB cC cD))) nB) := own_M_keep M56 K68 (ninS (Ne.symm hne32) nin0)
    have hkc79 := Nat.le_trans hkc66 K68.1
    have Zs80 : n0 ≤ T68.heap.size := Nat.le_trans Zs67 K68.1
    refine own_st ?_ (fun t_ k_ => st68.trans k_)
    show own_G p.tables e below _ _ (T68.setTop (mkF m 101 #[.val (.int p0), .val (.int p1), .val (.int p2), .val (.long q3), .second, .val (.int cA), .val (.int cB), .val (.int cC), .val (.int cD), .val (.int nn.toInt32), .val (.ref b1), .val (.long (q3 &&& (9223372036854775807 : Int64))), .second, .val (.ref b21), .unset, .unset, .unset] [(.ref sa68)]))
    refine own_st ?_ (fun t_ k_ => XS.astore X68.here hx rfl (hb hby at_101) rfl rfl (l' := #[.val (.int p0), .val (.int p1), .val (.int p2), .val (.long q3), .second, .val (.int cA), .val (.int cB), .val (.int cC), .val (.int cD), .val (.int nn.toInt32), .val (.ref b1), .val (.long (q3 &&& (9223372036854775807 : Int64))), .second, .val (.ref b21), .val (.ref sa68), .unset, .unset]) rfl k_)
    show own_G p.tables e below _ _ (T68.setTop (mkF m 103 #[.val (.int p0), .val (.int p1), .val (.int p2), .val (.long q3), .second, .val (.int cA), .val (.int cB), .val (.int cC), .val (.int cD), .val (.int nn.toInt32), .val (.ref b1), .val (.long (q3 &&& (9223372036854775807 : Int64))), .second, .val (.ref b21), .val (.ref sa68), .unset, .unset] []))
    refine own_st ?_ (fun t_ k_ => XS.aload X68.here hx rfl (hb hby at_103) rfl rfl k_)
    show own_G p.tables e below _ _ (T68.setTop (mkF m 105 #[.val (.int p0), .val (.int p1), .val (.int p2), .val (.long q3), .second, .val (.int cA), .val (.int cB), .val (.int cC), .val (.int cD), .val (.int nn.toInt32), .val (.ref b1), .val (.long (q3 &&& (9223372036854775807 : Int64))), .second, .val (.ref b21), .val (.ref sa68), .unset, .unset] [(.ref b21)]))
    obtain ⟨cq81, kq81, q81a, q81b, q81c⟩ := isOf hZ rfl F77_E
    obtain ⟨_, _, ⟨T81, L81, k81, n81⟩, -, X81, ⟨Lc81, hQ81, l81, y81, z81⟩, st81⟩ := X68.virtualBack hx (y := (⟨"com/example/termwright/termwright/Spool$Record", "number", "()J"⟩ : MethodName)) (z := (⟨"com/example/termwright/termwright/Spool$Record", "number", "()J"⟩ : MethodName)) hown (mvT hZ (hw _ (List.mem_of_getElem? (i := 117) rfl))) (mvT hZ (hw _ (List.mem_of_getElem? (i := 105) rfl))) (notFace_of_selects (args := #[]) (mvT hZ (hw _ (List.mem_of_getElem? (i := 107) rfl)))) (mvT hZ (hw _ (List.mem_of_getElem? (i := 107) rfl))) (mvT hZ (hw _ (List.mem_of_getElem? (i := 106) rfl))) (by decide) (backOf (W := 0) (rm20 l Z _ hw [] b21 t32 (0 + own_len nn + own_W ((List.range nn).map (own_pk cA cB cC cD)) + own_len nB) (0 + own_len nn + own_W ((List.range nn).map (own_pk cA cB cC cD))) (own_put gp44 (0 + own_len nn + own_W ((List.range nn).map (own_pk cA cB cC cD))) nB) nB (q3 &&& (9223372036854775807 : Int64)) T68.heap n0 Zs80 g_b21 g_t32 F77_E Fb68 Fl68 Fp68 M68 hne32 hBq hB63 (by omega) (own_at_put nB _ _)) hZ (hw _ (List.mem_of_getElem? (i := 108) rfl)) (hw _ (List.mem_of_getElem? (i := 39) rfl)) (by decide) (by decide)) q81a q81c (g := (mkF m 105 #[.val (.int p0), .val (.int p1), .val (.int p2), .val (.long q3), .second, .val (.int cA), .val (.int cB), .val (.int cC), .val (.int cD), .val (.int nn.toInt32), .val (.ref b1), .val (.long (q3 &&& (9223372036854775807 : Int64))), .second, .val (.ref b21), .val (.ref sa68), .unset, .unset] [(.ref b21)])) rfl (by rw [hml]; rfl) (Steps.refl _) (argsL := []) (rest := []) (lenOf pd_19 rfl) rfl (by show 2 * 0 + _ ≤ _; exact Nat.le_of_eq rfl) (hb hby at_105) (fun _ _ => ⟨rfl, rfl, (by decide : 8 + 0 ≤ _), (by decide : 275 + 0 ≤ _)⟩)
    dsimp only [Pt.U, Pt.locs, Pt.cells, Pt.slots] at X81 l81 y81 z81 st81 hQ81
    subst l81 y81 z81
    obtain ⟨rfl, N81q, hq81⟩ := hQ81
    have N81 := Fr.app N68 N81q
    obtain ⟨K81, Fb81, Fl81, Fp81, M81⟩ := hq81
    have F82_Z : own_SS Z T81.heap n0 z1 fm := own_SS_keep F69_Z K81 (own_alS g_b21 own_al0)
    have F83_E : Exa Z T81.heap b1 "java/lang/String" := F70_E.keep K81
    have F84_coder : Fld Z T81.heap b1 "java/lang/String" "coder" "B" (.int (0 : Int32)) := F71_coder.keep K81 (ninS ne_b1_b21 nin0)
    have F85_value : Fld Z T81.heap b1 "java/lang/String" "value" "[B" (.ref lc14) := F72_value.keep K81 (ninS ne_b1_b21 nin0)
    have F86_E : Exa Z T81.heap lb14 "java/lang/String" := F73_E.keep K81
    have F87_coder : Fld Z T81.heap lb14 "java/lang/String" "coder" "B" (.int (0 : Int32)) := F74_coder.keep K81 (ninS ne_lb14_b21 nin0)
    have F88_value : Fld Z T81.heap lb14 "java/lang/String" "value" "[B" (.ref lc14) := F75_value.keep K81 (ninS ne_lb14_b21 nin0)
    have F89_P : own_Y .byte Z T81.heap lc14 0 (fun _ => 0) := own_Y_keep F76_P K81 (ninS ne_lc14_b21 nin0)
    have F90_E : Exa Z T81.heap b21 "com/example/termwright/termwright/Spool$Record" := F77_E.keep K81
    have F91_P : own_M Z T81.heap t32 (own_put gp44 (0 + own_len nn + own_W ((List.range nn).map (own_pk cA cB cC cD))) nB) := own_M_keep M68 K81 (ninS (Ne.symm hne32) nin0)
    have F92_E : Exa Z T81.heap sa68 "java/lang/String" := Es68.keep K81
    have F93_coder : Fld Z T81.heap sa68 "java/lang/String" "coder" "B" (.int (0 : Int32)) := Fc68.keep K81 (ninS (Ne.symm ne_b21_sa68) nin0)
    have F94_value : Fld Z T81.heap sa68 "java/lang/String" "value" "[B" (.ref lc14) := Fv68.keep K81 (ninS (Ne.symm ne_b21_sa68) nin0)
    have hkc95 := Nat.le_trans hk68 K81.1
    have Zs96 : n0 ≤ T81.heap.size := Nat.le_trans Zs80 K81.1
    refine own_st ?_ (fun t_ k_ => st81.trans k_)
    show own_G p.tables e below _ _ (T81.setTop (mkF m 108 #[.val (.int p0), .val (.int p1), .val (.int p2), .val (.long q3), .second, .val (.int cA), .val (.int cB), .val (.int cC), .val (.int cD), .val (.int nn.toInt32), .val (.ref b1), .val (.long (q3 &&& (9223372036854775807 : Int64))), .second, .val (.ref b21), .val (.ref sa68), .unset, .unset] [(.long (q3 &&& (9223372036854775807 : Int64)))]))
    refine own_st ?_ (fun t_ k_ => XS.lstore X81.here hx rfl (hb hby at_108) rfl (l' := #[.val (.int p0), .val (.int p1), .val (.int p2), .val (.long q3), .second, .val (.int cA), .val (.int cB), .val (.int cC), .val (.int cD), .val (.int nn.toInt32), .val (.ref b1), .val (.long (q3 &&& (9223372036854775807 : Int64))), .second, .val (.ref b21), .val (.ref sa68), .val (.long (q3 &&& (9223372036854775807 : Int64))), .second]) rfl k_)
    show own_G p.tables e below _ _ (T81.setTop (mkF m 110 #[.val (.int p0), .val (.int p1), .val (.int p2), .val (.long q3), .second, .val (.int cA), .val (.int cB), .val (.int cC), .val (.int cD), .val (.int nn.toInt32), .val (.ref b1), .val (.long (q3 &&& (9223372036854775807 : Int64))), .second, .val (.ref b21), .val (.ref sa68), .val (.long (q3 &&& (9223372036854775807 : Int64))), .second] []))
    refine own_st ?_ (fun t_ k_ => XS.aload X81.here hx rfl (hb hby at_110) rfl rfl k_)
    show own_G p.tables e below _ _ (T81.setTop (mkF m 112 #[.val (.int p0), .val (.int p1), .val (.int p2), .val (.long q3), .second, .val (.int cA), .val (.int cB), .val (.int cC), .val (.int cD), .val (.int nn.toInt32), .val (.ref b1), .val (.long (q3 &&& (9223372036854775807 : Int64))), .second, .val (.ref b21), .val (.ref sa68), .val (.long (q3 &&& (9223372036854775807 : Int64))), .second] [(.ref sa68)]))
    refine own_st ?_ (fun t_ k_ => XS.aload X81.here hx rfl (hb hby at_112) rfl rfl k_)
    show own_G p.tables e below _ _ (T81.setTop (mkF m 114 #[.val (.int p0), .val (.int p1), .val (.int p2), .val (.long q3), .second, .val (.int cA), .val (.int cB), .val (.int cC), .val (.int cD), .val (.int nn.toInt32), .val (.ref b1), .val (.long (q3 &&& (9223372036854775807 : Int64))), .second, .val (.ref b21), .val (.ref sa68), .val (.long (q3 &&& (9223372036854775807 : Int64))), .second] [(.ref b1), (.ref sa68)]))
    obtain ⟨cq97, kq97, q97a, q97b, q97c⟩ := isOf hZ rfl F92_E
    obtain ⟨_, _, ⟨T97, L97, k97, n97⟩, -, X97, ⟨Lc97, hQ97, l97, y97, z97⟩, st97⟩ := X81.virtualBack hx (y := (⟨"java/lang/String", "equals", "(Ljava/lang/Object;)Z"⟩ : MethodName)) (z := (⟨"java/lang/String", "equals", "(Ljava/lang/Object;)Z"⟩ : MethodName)) hown (mvT hZ (hw _ (List.mem_of_getElem? (i := 118) rfl))) (mvT hZ (hw _ (List.mem_of_getElem? (i := 119) rfl))) (notFace_of_selects (args := #[]) (mvT hZ (hw _ (List.mem_of_getElem? (i := 121) rfl)))) (mvT hZ (hw _ (List.mem_of_getElem? (i := 121) rfl))) (mvT hZ (hw _ (List.mem_of_getElem? (i := 120) rfl))) (by decide) (backOf (W := 0) (rm22 l Z _ hw [] sa68 b1 z1 fm (0 : Int32) lc14 lc14 0 (fun _ => 0) T81.heap n0 Zs96 F82_Z F92_E F93_coder F94_value F89_P F83_E F84_coder F85_value F89_P hz1 (by decide)) hZ (hw _ (List.mem_of_getElem? (i := 122) rfl)) (hw _ (List.mem_of_getElem? (i := 4) rfl)) (by decide) (by decide)) q97a q97c (g := (mkF m 114 #[.val (.int p0), .val (.int p1), .val (.int p2), .val (.long q3), .second, .val (.int cA), .val (.int cB), .val (.int cC), .val (.int cD), .val (.int nn.toInt32), .val (.ref b1), .val (.long (q3 &&& (9223372036854775807 : Int64))), .second, .val (.ref b21), .val (.ref sa68), .val (.long (q3 &&& (9223372036854775807 : Int64))), .second] [(.ref b1), (.ref sa68)])) rfl (by rw [hml]; rfl) (Steps.refl _) (argsL := [(.ref b1)]) (rest := []) (lenOf pd_26 rfl) rfl (by show 2 * 0 + _ ≤ _; exact Nat.le_of_eq rfl) (hb hby at_114) (fun _ _ => ⟨rfl, rfl, (by decide : 8 + 0 ≤ _), (by decide : 275 + 0 ≤ _)⟩)
    dsimp only [Pt.U, Pt.locs, Pt.cells, Pt.slots] at X97 l97 y97 z97 st97 hQ97
    subst l97 y97 z97
    obtain ⟨rfl, N97q, e97⟩ := hQ97
    have N97 := Fr.app N81 N97q
    refine own_st ?_ (fun t_ k_ => st97.trans k_)
    show own_G p.tables e below _ _ (T97.setTop (mkF m 117 #[.val (.int p0), .val (.int p1), .val (.int p2), .val (.long q3), .second, .val (.int cA), .val (.int cB), .val (.int cC), .val (.int cD), .val (.int nn.toInt32), .val (.ref b1), .val (.long (q3 &&& (9223372036854775807 : Int64))), .second, .val (.ref b21), .val (.ref sa68), .val (.long (q3 &&& (9223372036854775807 : Int64))), .second] [(.int (1 : Int32))]))
    refine own_st ?_ (fun t_ k_ => XS.ifNo X97.here hx rfl (hb hby at_117) rfl ((if0 _ _).trans (feq (by decide : ¬ ((1 : Int32) = (0 : Int32)))).1) k_)
    show own_G p.tables e below _ _ (T97.setTop (mkF m 120 #[.val (.int p0), .val (.int p1), .val (.int p2), .val (.long q3), .second, .val (.int cA), .val (.int cB), .val (.int cC), .val (.int cD), .val (.int nn.toInt32), .val (.ref b1), .val (.long (q3 &&& (9223372036854775807 : Int64))), .second, .val (.ref b21), .val (.ref sa68), .val (.long (q3 &&& (9223372036854775807 : Int64))), .second] []))
    refine own_st ?_ (fun t_ k_ => XS.lload X97.here hx rfl (hb hby at_120) rfl k_)
    show own_G p.tables e below _ _ (T97.setTop (mkF m 122 #[.val (.int p0), .val (.int p1), .val (.int p2), .val (.long q3), .second, .val (.int cA), .val (.int cB), .val (.int cC), .val (.int cD), .val (.int nn.toInt32), .val (.ref b1), .val (.long (q3 &&& (9223372036854775807 : Int64))), .second, .val (.ref b21), .val (.ref sa68), .val (.long (q3 &&& (9223372036854775807 : Int64))), .second] [(.long (q3 &&& (9223372036854775807 : Int64)))]))
    refine own_st ?_ (fun t_ k_ => XS.lload X97.here hx rfl (hb hby at_122) rfl k_)
    show own_G p.tables e below _ _ (T97.setTop (mkF m 124 #[.val (.int p0), .val (.int p1), .val (.int p2), .val (.long q3), .second, .val (.int cA), .val (.int cB), .val (.int cC), .val (.int cD), .val (.int nn.toInt32), .val (.ref b1), .val (.long (q3 &&& (9223372036854775807 : Int64))), .second, .val (.ref b21), .val (.ref sa68), .val (.long (q3 &&& (9223372036854775807 : Int64))), .second] [(.long (q3 &&& (9223372036854775807 : Int64))), (.long (q3 &&& (9223372036854775807 : Int64)))]))
    refine own_st ?_ (fun t_ k_ => XS.lcmp X97.here hx rfl (hb hby at_124) rfl k_)
    show own_G p.tables e below _ _ (T97.setTop (mkF m 125 #[.val (.int p0), .val (.int p1), .val (.int p2), .val (.long q3), .second, .val (.int cA), .val (.int cB), .val (.int cC), .val (.int cD), .val (.int nn.toInt32), .val (.ref b1), .val (.long (q3 &&& (9223372036854775807 : Int64))), .second, .val (.ref b21), .val (.ref sa68), .val (.long (q3 &&& (9223372036854775807 : Int64))), .second] [(.int (lcmpW (q3 &&& (9223372036854775807 : Int64)) (q3 &&& (9223372036854775807 : Int64))))]))
    refine own_st ?_ (fun t_ k_ => XS.ifNo X97.here hx rfl (hb hby at_125) rfl ((if0 _ _).trans (teq ((lw_eq _ _).mpr rfl)).2) k_)
    show own_G p.tables e below _ _ (T97.setTop (mkF m 128 #[.val (.int p0), .val (.int p1), .val (.int p2), .val (.long q3), .second, .val (.int cA), .val (.int cB), .val (.int cC), .val (.int cD), .val (.int nn.toInt32), .val (.ref b1), .val (.long (q3 &&& (9223372036854775807 : Int64))), .second, .val (.ref b21), .val (.ref sa68), .val (.long (q3 &&& (9223372036854775807 : Int64))), .second] []))
    refine own_st ?_ (fun t_ k_ => XS.iconst X97.here hx rfl (hb hby at_128) k_)
    show own_G p.tables e below _ _ (T97.setTop (mkF m 129 #[.val (.int p0), .val (.int p1), .val (.int p2), .val (.long q3), .second, .val (.int cA), .val (.int cB), .val (.int cC), .val (.int cD), .val (.int nn.toInt32), .val (.ref b1), .val (.long (q3 &&& (9223372036854775807 : Int64))), .second, .val (.ref b21), .val (.ref sa68), .val (.long (q3 &&& (9223372036854775807 : Int64))), .second] [(.int (1 : Int32))]))
    refine own_st ?_ (fun t_ k_ => XS.goto X97.here hx rfl (pc0 := 129) (pc' := 133) rfl (hb hby at_129) (by decide) (by decide) k_)
    show own_G p.tables e below _ _ (T97.setTop (mkF m 133 #[.val (.int p0), .val (.int p1), .val (.int p2), .val (.long q3), .second, .val (.int cA), .val (.int cB), .val (.int cC), .val (.int cD), .val (.int nn.toInt32), .val (.ref b1), .val (.long (q3 &&& (9223372036854775807 : Int64))), .second, .val (.ref b21), .val (.ref sa68), .val (.long (q3 &&& (9223372036854775807 : Int64))), .second] [(.int (1 : Int32))]))
    exact own_retNW X97 hx hlk hS68 (by rw [e97]; exact hkc95) (t := .boolean) hret (by simp) (hb hby at_133) (by decide) (by decide) (z' := (1 : Int32)) rfl ⟨rfl, N97⟩
  · obtain ⟨T98, h98, X98, e98, E98, A98, D98, -, st98⟩ := newO X0 hx hZ hown (hw _ (List.mem_of_getElem? (i := 2) rfl)) (hw _ (List.mem_of_getElem? (i := 3) rfl)) (hw _ (List.mem_of_getElem? (i := 4) rfl)) e0 (g := (mkF m 42 #[.val (.int p0), .val (.int p1), .val (.int p2), .val (.long q3), .second, .val (.int cA), .val (.int cB), .val (.int cC), .val (.int cD), .val (.int nn.toInt32), .unset, .unset, .unset, .unset, .unset, .unset, .unset] [])) rfl (hb hby at_42) (by decide) (by decide)
    obtain ⟨b98, gz98⟩ : ∃ z, z = h0.size := ⟨_, rfl⟩
    rw [← gz98] at A98 D98 st98
    have g_b98 : n0 ≤ b98 := Nat.le_trans Z0 (Nat.le_of_eq gz98.symm)
    have sz_b98 : h0.size ≤ b98 := Nat.le_trans (Keep.refl h0 []).1 (Nat.le_of_eq gz98.symm)
    have F99_Z : own_SS Z h98 n0 z1 fm := own_SS_ext SS E98
    have hkc100 := Nat.le_trans hk0 E98.1
    have Zs101 : n0 ≤ h98.size := Nat.le_trans Z0 E98.1
    have Kc102 : Keep h0 h98 [] := (Keep.refl h0 []).ext E98
    have F_coder_b98 : Fld Z h98 b98 "java/lang/String" "coder" "B" (.int (0 : Int32)) := D98 (Or.inr (hw _ (List.mem_of_getElem? (i := 33) rfl))) (ty := .byte) (by decide)
    have F_value_b98 : Fld Z h98 b98 "java/lang/String" "value" "[B" .null := D98 (Or.inr (hw _ (List.mem_of_getElem? (i := 35) rfl))) (ty := (.array .byte)) (by decide)
    refine own_st ?_ st98
    show own_G p.tables e below _ _ (T98.setTop (mkF m 45 #[.val (.int p0), .val (.int p1), .val (.int p2), .val (.long q3), .second, .val (.int cA), .val (.int cB), .val (.int cC), .val (.int cD), .val (.int nn.toInt32), .unset, .unset, .unset, .unset, .unset, .unset, .unset] [(.ref b98)]))
    have hn0 : 0 < nn := Nat.pos_of_ne_zero hz
    obtain ⟨nB, hB63, hBq⟩ := own_arg q3
    have own_bound : 0 + own_len nn + own_W ((List.range nn).map (own_pk cA cB cC cD)) ≤ 21 := by have h1 := own_len9 (n := nn) (by omega); have h2 := own_W_le ((List.range nn).map (own_pk cA cB cC cD)); rw [List.length_map, List.length_range] at h2; omega
    have own_lenB := own_len9 hB63
    refine own_st ?_ (fun t_ k_ => XS.dup X98.here hx rfl (hb hby at_45) rfl rfl k_)
    show own_G p.tables e below _ _ (T98.setTop (mkF m 46 #[.val (.int p0), .val (.int p1), .val (.int p2), .val (.long q3), .second, .val (.int cA), .val (.int cB), .val (.int cC), .val (.int cD), .val (.int nn.toInt32), .unset, .unset, .unset, .unset, .unset, .unset, .unset] [(.ref b98), (.ref b98)]))
    refine own_st ?_ (fun t_ k_ => XS.iload X98.here hx rfl (hb hby at_46) rfl k_)
    show own_G p.tables e below _ _ (T98.setTop (mkF m 48 #[.val (.int p0), .val (.int p1), .val (.int p2), .val (.long q3), .second, .val (.int cA), .val (.int cB), .val (.int cC), .val (.int cD), .val (.int nn.toInt32), .unset, .unset, .unset, .unset, .unset, .unset, .unset] [(.int nn.toInt32), (.ref b98), (.ref b98)]))
    refine own_st ?_ (fun t_ k_ => XS.iload X98.here hx rfl (hb hby at_48) rfl k_)
    show own_G p.tables e below _ _ (T98.setTop (mkF m 50 #[.val (.int p0), .val (.int p1), .val (.int p2), .val (.long q3), .second, .val (.int cA), .val (.int cB), .val (.int cC), .val (.int cD), .val (.int nn.toInt32), .unset, .unset, .unset, .unset, .unset, .unset, .unset] [(.int cA), (.int nn.toInt32), (.ref b98), (.ref b98)]))
    refine own_st ?_ (fun t_ k_ => XS.iload X98.here hx rfl (hb hby at_50) rfl k_)
    show own_G p.tables e below _ _ (T98.setTop (mkF m 52 #[.val (.int p0), .val (.int p1), .val (.int p2), .val (.long q3), .second, .val (.int cA), .val (.int cB), .val (.int cC), .val (.int cD), .val (.int nn.toInt32), .unset, .unset, .unset, .unset, .unset, .unset, .unset] [(.int cB), (.int cA), (.int nn.toInt32), (.ref b98), (.ref b98)]))
    refine own_st ?_ (fun t_ k_ => XS.iload X98.here hx rfl (hb hby at_52) rfl k_)
    show own_G p.tables e below _ _ (T98.setTop (mkF m 54 #[.val (.int p0), .val (.int p1), .val (.int p2), .val (.long q3), .second, .val (.int cA), .val (.int cB), .val (.int cC), .val (.int cD), .val (.int nn.toInt32), .unset, .unset, .unset, .unset, .unset, .unset, .unset] [(.int cC), (.int cB), (.int cA), (.int nn.toInt32), (.ref b98), (.ref b98)]))
    refine own_st ?_ (fun t_ k_ => XS.iload X98.here hx rfl (hb hby at_54) rfl k_)
    show own_G p.tables e below _ _ (T98.setTop (mkF m 56 #[.val (.int p0), .val (.int p1), .val (.int p2), .val (.long q3), .second, .val (.int cA), .val (.int cB), .val (.int cC), .val (.int cD), .val (.int nn.toInt32), .unset, .unset, .unset, .unset, .unset, .unset, .unset] [(.int cD), (.int cC), (.int cB), (.int cA), (.int nn.toInt32), (.ref b98), (.ref b98)]))
    obtain ⟨_, _, ⟨T103, L103, k103, n103⟩, -, X103, ⟨Lc103, hQ103, l103, y103, z103⟩, st103⟩ := Jvm.LawKit.callS X98 hx (y := (⟨"com/example/termwright/termwright/RecordTextPinLaw", "pick", "(ICCCC)[C"⟩ : MethodName)) hown (mvT hZ (hw _ (List.mem_of_getElem? (i := 5) rfl))) (mvT hZ (hw _ (List.mem_of_getElem? (i := 6) rfl))) (mvT hZ (hw _ (List.mem_of_getElem? (i := 7) rfl))) (mvT hZ (hw _ (List.mem_of_getElem? (i := 8) rfl))) (by decide) (backOf (W := 2) (rm1 l Z _ hw [] nn.toInt32 cA cB cC cD nn h98 n0 Zs101 rfl hn4 hcA hcB hcC hcD) hZ (hw _ (List.mem_of_getElem? (i := 8) rfl)) (hw _ (List.mem_of_getElem? (i := 7) rfl)) (by decide) (by decide)) (g := (mkF m 56 #[.val (.int p0), .val (.int p1), .val (.int p2), .val (.long q3), .second, .val (.int cA), .val (.int cB), .val (.int cC), .val (.int cD), .val (.int nn.toInt32), .unset, .unset, .unset, .unset, .unset, .unset, .unset] [(.int cD), (.int cC), (.int cB), (.int cA), (.int nn.toInt32), (.ref b98), (.ref b98)])) rfl (by rw [hml]; rfl) (argsL := [(.int nn.toInt32), (.int cA), (.int cB), (.int cC), (.int cD)]) (rest := [(.ref b98), (.ref b98)]) (lenOf pd_22 rfl) rfl (by show 2 * 0 + _ ≤ _; exact Nat.le_of_eq rfl) (hb hby at_56) (fun _ _ => ⟨rfl, e98, (by decide : 1 + 1 ≤ _), (by decide : 4 + 4 ≤ _)⟩)
    dsimp only [Pt.U, Pt.locs, Pt.cells, Pt.slots] at X103 l103 y103 z103 st103 hQ103
    subst l103 y103 z103
    obtain ⟨t103, rfl, N103q, hq103⟩ := hQ103
    have N103 := Fr.app N0 N103q
    obtain ⟨K103, hs103, hp103⟩ := hq103
    have g_t103 : n0 ≤ t103 := Nat.le_trans Zs101 hs103
    have ne_b98_t103 : b98 ≠ t103 := Nat.ne_of_lt (Nat.lt_of_lt_of_le A98.lt hs103)
    have F104_Z : own_SS Z T103.heap n0 z1 fm := own_SS_keep F99_Z K103 own_al0
    have F105_E : Exa Z T103.heap b98 "java/lang/String" := A98.keep K103
    have F106_coder : Fld Z T103.heap b98 "java/lang/String" "coder" "B" (.int (0 : Int32)) := F_coder_b98.keep K103 nin0
    have F107_value : Fld Z T103.heap b98 "java/lang/String" "value" "[B" .null := F_value_b98.keep K103 nin0
    have hkc108 := Nat.le_trans hkc100 K103.1
    have Zs109 : n0 ≤ T103.heap.size := Nat.le_trans Zs101 K103.1
    refine own_st ?_ st103
    show own_G p.tables e below _ _ (T103.setTop (mkF m 59 #[.val (.int p0), .val (.int p1), .val (.int p2), .val (.long q3), .second, .val (.int cA), .val (.int cB), .val (.int cC), .val (.int cD), .val (.int nn.toInt32), .unset, .unset, .unset, .unset, .unset, .unset, .unset] [(.ref t103), (.ref b98), (.ref b98)]))
    obtain ⟨_, _, ⟨T110, L110, k110, n110⟩, -, X110, ⟨Lc110, hQ110, l110, y110, z110⟩, st110⟩ := X103.specialBack hx (y := (⟨"java/lang/String", "<init>", "([C)V"⟩ : MethodName)) rfl hown (mvT hZ (hw _ (List.mem_of_getElem? (i := 10) rfl))) (mvT hZ (hw _ (List.mem_of_getElem? (i := 11) rfl))) (mvT hZ (hw _ (List.mem_of_getElem? (i := 12) rfl))) (by decide) (backOf (W := 1) (rm2 l Z _ hw [] b98 t103 z1 fm nn (own_pk cA cB cC cD) (.int (0 : Int32)) .null T103.heap n0 Zs109 g_b98 F104_Z F105_E F106_coder F107_value hp103 hz1 hn0 hn4 (fun i _ => own_pk_isC hcA hcB hcC hcD i) (Ne.symm ne_b98_t103)) hZ (hw _ (List.mem_of_getElem? (i := 12) rfl)) (hw _ (List.mem_of_getElem? (i := 4) rfl)) (by decide) (by decide)) (g := (mkF m 59 #[.val (.int p0), .val (.int p1), .val (.int p2), .val (.long q3), .second, .val (.int cA), .val (.int cB), .val (.int cC), .val (.int cD), .val (.int nn.toInt32), .unset, .unset, .unset, .unset, .unset, .unset, .unset] [(.ref t103), (.ref b98), (.ref b98)])) rfl (by rw [hml]; rfl) (Steps.refl _) (a := b98) (argsL := [(.ref t103)]) (rest := [(.ref b98)]) (lenOf pd_18 rfl) rfl (by show 2 * 0 + _ ≤ _; exact Nat.le_of_eq rfl) (hb hby at_59) (fun _ _ => ⟨rfl, rfl, (by decide : 2 + 2 ≤ _), (by decide : 8 + 12 ≤ _)⟩)
    dsimp only [Pt.U, Pt.locs, Pt.cells, Pt.slots] at X110 l110 y110 z110 st110 hQ110
    subst l110 y110 z110
    obtain ⟨rfl, N110q, hq110⟩ := hQ110
    have N110 := Fr.app N103 N110q
    obtain ⟨K110, t110, cd110, NN110, gg110, hs110, hne110, Fc110, Fv110, Yb110, hD110, hBB110⟩ := hq110
    have g_t110 : n0 ≤ t110 := Nat.le_trans Zs109 hs110
    have ne_t103_t110 : t103 ≠ t110 := Nat.ne_of_lt (Nat.lt_of_lt_of_le (own_Y_lt hp103) hs110)
    have F111_Z : own_SS Z T110.heap n0 z1 fm := own_SS_keep F104_Z K110 (own_alS g_b98 own_al0)
    have F112_E : Exa Z T110.heap b98 "java/lang/String" := F105_E.keep K110
    have F113_P : own_Y .char Z T110.heap t103 nn (own_pk cA cB cC cD) := own_Y_keep hp103 K110 (ninS (Ne.symm ne_b98_t103) nin0)
    have hkc114 := Nat.le_trans hkc108 K110.1
    have Zs115 : n0 ≤ T110.heap.size := Nat.le_trans Zs109 K110.1
    refine own_st ?_ (fun t_ k_ => st110.trans k_)
    show own_G p.tables e below _ _ (T110.setTop (mkF m 62 #[.val (.int p0), .val (.int p1), .val (.int p2), .val (.long q3), .second, .val (.int cA), .val (.int cB), .val (.int cC), .val (.int cD), .val (.int nn.toInt32), .unset, .unset, .unset, .unset, .unset, .unset, .unset] [(.ref b98)]))
    refine own_st ?_ (fun t_ k_ => XS.astore X110.here hx rfl (hb hby at_62) rfl rfl (l' := #[.val (.int p0), .val (.int p1), .val (.int p2), .val (.long q3), .second, .val (.int cA), .val (.int cB), .val (.int cC), .val (.int cD), .val (.int nn.toInt32), .val (.ref b98), .unset, .unset, .unset, .unset, .unset, .unset]) rfl k_)
    show own_G p.tables e below _ _ (T110.setTop (mkF m 64 #[.val (.int p0), .val (.int p1), .val (.int p2), .val (.long q3), .second, .val (.int cA), .val (.int cB), .val (.int cC), .val (.int cD), .val (.int nn.toInt32), .val (.ref b98), .unset, .unset, .unset, .unset, .unset, .unset] []))
    refine own_st ?_ (fun t_ k_ => XS.lloadN X110.here hx rfl (hb hby at_64) rfl k_)
    show own_G p.tables e below _ _ (T110.setTop (mkF m 65 #[.val (.int p0), .val (.int p1), .val (.int p2), .val (.long q3), .second, .val (.int cA), .val (.int cB), .val (.int cC), .val (.int cD), .val (.int nn.toInt32), .val (.ref b98), .unset, .unset, .unset, .unset, .unset, .unset] [(.long q3)]))
    refine own_st ?_ (X110.ldc2Long hx hown (mvT hZ (hw _ (List.mem_of_getElem? (i := 36) rfl))) (g := (mkF m 65 #[.val (.int p0), .val (.int p1), .val (.int p2), .val (.long q3), .second, .val (.int cA), .val (.int cB), .val (.int cC), .val (.int cD), .val (.int nn.toInt32), .val (.ref b98), .unset, .unset, .unset, .unset, .unset, .unset] [(.long q3)])) rfl (hb hby at_65))
    show own_G p.tables e below _ _ (T110.setTop (mkF m 68 #[.val (.int p0), .val (.int p1), .val (.int p2), .val (.long q3), .second, .val (.int cA), .val (.int cB), .val (.int cC), .val (.int cD), .val (.int nn.toInt32), .val (.ref b98), .unset, .unset, .unset, .unset, .unset, .unset] [(.long (9223372036854775807 : Int64)), (.long q3)]))
    refine own_st ?_ (fun t_ k_ => XS.land X110.here hx rfl (hb hby at_68) rfl k_)
    show own_G p.tables e below _ _ (T110.setTop (mkF m 69 #[.val (.int p0), .val (.int p1), .val (.int p2), .val (.long q3), .second, .val (.int cA), .val (.int cB), .val (.int cC), .val (.int cD), .val (.int nn.toInt32), .val (.ref b98), .unset, .unset, .unset, .unset, .unset, .unset] [(.long (q3 &&& (9223372036854775807 : Int64)))]))
    refine own_st ?_ (fun t_ k_ => XS.lstore X110.here hx rfl (hb hby at_69) rfl (l' := #[.val (.int p0), .val (.int p1), .val (.int p2), .val (.long q3), .second, .val (.int cA), .val (.int cB), .val (.int cC), .val (.int cD), .val (.int nn.toInt32), .val (.ref b98), .val (.long (q3 &&& (9223372036854775807 : Int64))), .second, .unset, .unset, .unset, .unset]) rfl k_)
    show own_G p.tables e below _ _ (T110.setTop (mkF m 71 #[.val (.int p0), .val (.int p1), .val (.int p2), .val (.long q3), .second, .val (.int cA), .val (.int cB), .val (.int cC), .val (.int cD), .val (.int nn.toInt32), .val (.ref b98), .val (.long (q3 &&& (9223372036854775807 : Int64))), .second, .unset, .unset, .unset, .unset] []))
    obtain ⟨T116, h116, X116, e116, E116, A116, D116, -, st116⟩ := newO X110 hx hZ hown (hw _ (List.mem_of_getElem? (i := 37) rfl)) (hw _ (List.mem_of_getElem? (i := 38) rfl)) (hw _ (List.mem_of_getElem? (i := 39) rfl)) rfl (g := (mkF m 71 #[.val (.int p0), .val (.int p1), .val (.int p2), .val (.long q3), .second, .val (.int cA), .val (.int cB), .val (.int cC), .val (.int cD), .val (.int nn.toInt32), .val (.ref b98), .val (.long (q3 &&& (9223372036854775807 : Int64))), .second, .unset, .unset, .unset, .unset] [])) rfl (hb hby at_71) (by decide) (by decide)
    obtain ⟨b116, gz116⟩ : ∃ z, z = T110.heap.size := ⟨_, rfl⟩
    rw [← gz116] at A116 D116 st116
    have ne_b98_b116 : b98 ≠ b116 := Nat.ne_of_lt (Nat.lt_of_lt_of_le F112_E.lt (Nat.le_of_eq gz116.symm))
    have ne_t110_b116 : t110 ≠ b116 := Nat.ne_of_lt (Nat.lt_of_lt_of_le (own_Y_lt Yb110) (Nat.le_of_eq gz116.symm))
    have g_b116 : n0 ≤ b116 := Nat.le_trans Zs115 (Nat.le_of_eq gz116.symm)
    have F117_Z : own_SS Z h116 n0 z1 fm := own_SS_ext F111_Z E116
    have F118_E : Exa Z h116 b98 "java/lang/String" := F112_E.ext E116
    have F119_coder : Fld Z h116 b98 "java/lang/String" "coder" "B" (.int cd110) := Fc110.ext E116
    have F120_value : Fld Z h116 b98 "java/lang/String" "value" "[B" (.ref t110) := Fv110.ext E116
    have F121_P : own_Y .byte Z h116 t110 NN110 gg110 := own_Y_ext Yb110 E116
    have hkc122 := Nat.le_trans hkc114 E116.1
    have Zs123 : n0 ≤ h116.size := Nat.le_trans Zs115 E116.1
    have F_bytes_b116 : Fld Z h116 b116 "com/example/termwright/termwright/Spool$Record" "bytes" "[B" .null := D116 (Or.inl (hw _ (List.mem_of_getElem? (i := 45) rfl))) (ty := (.array .byte)) (by decide)
    have F_length_b116 : Fld Z h116 b116 "com/example/termwright/termwright/Spool$Record" "length" "I" (.int (0 : Int32)) := D116 (Or.inl (hw _ (List.mem_of_getElem? (i := 72) rfl))) (ty := .int) (by decide)
    have F_position_b116 : Fld Z h116 b116 "com/example/termwright/termwright/Spool$Record" "position" "I" (.int (0 : Int32)) := D116 (Or.inl (hw _ (List.mem_of_getElem? (i := 110) rfl))) (ty := .int) (by decide)
    refine own_st ?_ st116
    show own_G p.tables e below _ _ (T116.setTop (mkF m 74 #[.val (.int p0), .val (.int p1), .val (.int p2), .val (.long q3), .second, .val (.int cA), .val (.int cB), .val (.int cC), .val (.int cD), .val (.int nn.toInt32), .val (.ref b98), .val (.long (q3 &&& (9223372036854775807 : Int64))), .second, .unset, .unset, .unset, .unset] [(.ref b116)]))
    refine own_st ?_ (fun t_ k_ => XS.dup X116.here hx rfl (hb hby at_74) rfl rfl k_)
    show own_G p.tables e below _ _ (T116.setTop (mkF m 75 #[.val (.int p0), .val (.int p1), .val (.int p2), .val (.long q3), .second, .val (.int cA), .val (.int cB), .val (.int cC), .val (.int cD), .val (.int nn.toInt32), .val (.ref b98), .val (.long (q3 &&& (9223372036854775807 : Int64))), .second, .unset, .unset, .unset, .unset] [(.ref b116), (.ref b116)]))
    obtain ⟨_, _, ⟨T124, L124, k124, n124⟩, -, X124, ⟨Lc124, hQ124, l124, y124, z124⟩, st124⟩ := X116.specialBack hx (y := (⟨"com/example/termwright/termwright/Spool$Record", "<init>", "()V"⟩ : MethodName)) rfl hown (mvT hZ (hw _ (List.mem_of_getElem? (i := 40) rfl))) (mvT hZ (hw _ (List.mem_of_getElem? (i := 41) rfl))) (mvT hZ (hw _ (List.mem_of_getElem? (i := 42) rfl))) (by decide) (backOf (W := 1) (rm8 l Z _ hw [] b116 .null h116 n0 Zs123 g_b116 A116 F_bytes_b116 F_length_b116 F_position_b116) hZ (hw _ (List.mem_of_getElem? (i := 42) rfl)) (hw _ (List.mem_of_getElem? (i := 39) rfl)) (by decide) (by decide)) (g := (mkF m 75 #[.val (.int p0), .val (.int p1), .val (.int p2), .val (.long q3), .second, .val (.int cA), .val (.int cB), .val (.int cC), .val (.int cD), .val (.int nn.toInt32), .val (.ref b98), .val (.long (q3 &&& (9223372036854775807 : Int64))), .second, .unset, .unset, .unset, .unset] [(.ref b116), (.ref b116)])) rfl (by rw [hml]; rfl) (Steps.refl _) (a := b116) (argsL := []) (rest := [(.ref b116)]) (lenOf pd_23 rfl) rfl (by show 2 * 0 + _ ≤ _; exact Nat.le_of_eq rfl) (hb hby at_75) (fun _ _ => ⟨rfl, e116, (by decide : 5 + 1 ≤ _), (by decide : 23 + 256 ≤ _)⟩)
    dsimp only [Pt.U, Pt.locs, Pt.cells, Pt.slots] at X124 l124 y124 z124 st124 hQ124
    subst l124 y124 z124
    obtain ⟨rfl, N124q, hq124⟩ := hQ124
    have N124 := Fr.app N110 N124q
    obtain ⟨K124, t124, hs124, hne124, Fb124, Fl124, Fp124, M124⟩ := hq124
    have g_t124 : n0 ≤ t124 := Nat.le_trans Zs123 hs124
    have ne_b98_t124 : b98 ≠ t124 := Nat.ne_of_lt (Nat.lt_of_lt_of_le F118_E.lt hs124)
    have ne_t110_t124 : t110 ≠ t124 := Nat.ne_of_lt (Nat.lt_of_lt_of_le (own_Y_lt F121_P) hs124)
    have F125_Z : own_SS Z T124.heap n0 z1 fm := own_SS_keep F117_Z K124 (own_alS g_b116 own_al0)
    have F126_E : Exa Z T124.heap b98 "java/lang/String" := F118_E.keep K124
    have F127_coder : Fld Z T124.heap b98 "java/lang/String" "coder" "B" (.int cd110) := F119_coder.keep K124 (ninS ne_b98_b116 nin0)
    have F128_value : Fld Z T124.heap b98 "java/lang/String" "value" "[B" (.ref t110) := F120_value.keep K124 (ninS ne_b98_b116 nin0)
    have F129_P : own_Y .byte Z T124.heap t110 NN110 gg110 := own_Y_keep F121_P K124 (ninS ne_t110_b116 nin0)
    have F130_E : Exa Z T124.heap b116 "com/example/termwright/termwright/Spool$Record" := A116.keep K124
    have hkc131 := Nat.le_trans hkc122 K124.1
    have Zs132 : n0 ≤ T124.heap.size := Nat.le_trans Zs123 K124.1
    refine own_st ?_ (fun t_ k_ => st124.trans k_)
    show own_G p.tables e below _ _ (T124.setTop (mkF m 78 #[.val (.int p0), .val (.int p1), .val (.int p2), .val (.long q3), .second, .val (.int cA), .val (.int cB), .val (.int cC), .val (.int cD), .val (.int nn.toInt32), .val (.ref b98), .val (.long (q3 &&& (9223372036854775807 : Int64))), .second, .unset, .unset, .unset, .unset] [(.ref b116)]))
    refine own_st ?_ (fun t_ k_ => XS.astore X124.here hx rfl (hb hby at_78) rfl rfl (l' := #[.val (.int p0), .val (.int p1), .val (.int p2), .val (.long q3), .second, .val (.int cA), .val (.int cB), .val (.int cC), .val (.int cD), .val (.int nn.toInt32), .val (.ref b98), .val (.long (q3 &&& (9223372036854775807 : Int64))), .second, .val (.ref b116), .unset, .unset, .unset]) rfl k_)
    show own_G p.tables e below _ _ (T124.setTop (mkF m 80 #[.val (.int p0), .val (.int p1), .val (.int p2), .val (.long q3), .second, .val (.int cA), .val (.int cB), .val (.int cC), .val (.int cD), .val (.int nn.toInt32), .val (.ref b98), .val (.long (q3 &&& (9223372036854775807 : Int64))), .second, .val (.ref b116), .unset, .unset, .unset] []))
    refine own_st ?_ (fun t_ k_ => XS.aload X124.here hx rfl (hb hby at_80) rfl rfl k_)
    show own_G p.tables e below _ _ (T124.setTop (mkF m 82 #[.val (.int p0), .val (.int p1), .val (.int p2), .val (.long q3), .second, .val (.int cA), .val (.int cB), .val (.int cC), .val (.int cD), .val (.int nn.toInt32), .val (.ref b98), .val (.long (q3 &&& (9223372036854775807 : Int64))), .second, .val (.ref b116), .unset, .unset, .unset] [(.ref b116)]))
    refine own_st ?_ (fun t_ k_ => XS.aload X124.here hx rfl (hb hby at_82) rfl rfl k_)
    show own_G p.tables e below _ _ (T124.setTop (mkF m 84 #[.val (.int p0), .val (.int p1), .val (.int p2), .val (.long q3), .second, .val (.int cA), .val (.int cB), .val (.int cC), .val (.int cD), .val (.int nn.toInt32), .val (.ref b98), .val (.long (q3 &&& (9223372036854775807 : Int64))), .second, .val (.ref b116), .unset, .unset, .unset] [(.ref b98), (.ref b116)]))
    obtain ⟨cq133, kq133, q133a, q133b, q133c⟩ := isOf hZ rfl F130_E
    obtain ⟨_, _, ⟨T133, L133, k133, n133⟩, -, X133, ⟨Lc133, hQ133, l133, y133, z133⟩, st133⟩ := X124.virtualBack hx (y := (⟨"com/example/termwright/termwright/Spool$Record", "putText", "(Ljava/lang/String;)Lcom/example/termwright/termwright/Spool$Record;"⟩ : MethodName)) (z := (⟨"com/example/termwright/termwright/Spool$Record", "putText", "(Ljava/lang/String;)Lcom/example/termwright/termwright/Spool$Record;"⟩ : MethodName)) hown (mvT hZ (hw _ (List.mem_of_getElem? (i := 46) rfl))) (mvT hZ (hw _ (List.mem_of_getElem? (i := 47) rfl))) (notFace_of_selects (args := #[]) (mvT hZ (hw _ (List.mem_of_getElem? (i := 49) rfl)))) (mvT hZ (hw _ (List.mem_of_getElem? (i := 49) rfl))) (mvT hZ (hw _ (List.mem_of_getElem? (i := 48) rfl))) (by decide) (backOf (W := 0) (rm9 l Z _ hw [] b116 b98 z1 fm cd110 t110 nn NN110 gg110 (own_pk cA cB cC cD) t124 0 0 (fun _ => 0) ((List.range nn).map (own_pk cA cB cC cD)) T124.heap n0 Zs132 g_b116 g_t124 F125_Z F130_E Fb124 Fl124 Fp124 M124 F126_E F127_coder F128_value F129_P hne124 ne_b98_b116 ne_b98_t124 ne_t110_b116 ne_t110_t124 hz1 rf_fm hD110 hn4 (by decide) (own_TT0 nn _)) hZ (hw _ (List.mem_of_getElem? (i := 50) rfl)) (hw _ (List.mem_of_getElem? (i := 39) rfl)) (by decide) (by decide)) q133a q133c (g := (mkF m 84 #[.val (.int p0), .val (.int p1), .val (.int p2), .val (.long q3), .second, .val (.int cA), .val (.int cB), .val (.int cC), .val (.int cD), .val (.int nn.toInt32), .val (.ref b98), .val (.long (q3 &&& (9223372036854775807 : Int64))), .second, .val (.ref b116), .unset, .unset, .unset] [(.ref b98), (.ref b116)])) rfl (by rw [hml]; rfl) (Steps.refl _) (argsL := [(.ref b98)]) (rest := []) (lenOf pd_24 rfl) rfl (by show 2 * 0 + _ ≤ _; exact Nat.le_of_eq rfl) (hb hby at_84) (fun _ _ => ⟨rfl, rfl, (by decide : 6 + 0 ≤ _), (by decide : 279 + 0 ≤ _)⟩)
    dsimp only [Pt.U, Pt.locs, Pt.cells, Pt.slots] at X133 l133 y133 z133 st133 hQ133
    subst l133 y133 z133
    obtain ⟨rfl, N133q, hq133⟩ := hQ133
    have N133 := Fr.app N124 N133q
    obtain ⟨K133, gp133, ⟨Fb133, Fl133, Fp133, M133⟩, hE133, hA133⟩ := hq133
    have F134_Z : own_SS Z T133.heap n0 z1 fm := own_SS_keep F125_Z K133 (own_alS g_b116 (own_alS g_t124 own_al0))
    have F135_E : Exa Z T133.heap b98 "java/lang/String" := F126_E.keep K133
    have F136_coder : Fld Z T133.heap b98 "java/lang/String" "coder" "B" (.int cd110) := F127_coder.keep K133 (ninS ne_b98_b116 (ninS ne_b98_t124 nin0))
    have F137_value : Fld Z T133.heap b98 "java/lang/String" "value" "[B" (.ref t110) := F128_value.keep K133 (ninS ne_b98_b116 (ninS ne_b98_t124 nin0))
    have F138_P : own_Y .byte Z T133.heap t110 NN110 gg110 := own_Y_keep F129_P K133 (ninS ne_t110_b116 (ninS ne_t110_t124 nin0))
    have F139_E : Exa Z T133.heap b116 "com/example/termwright/termwright/Spool$Record" := F130_E.keep K133
    have hkc140 := Nat.le_trans hkc131 K133.1
    have Zs141 : n0 ≤ T133.heap.size := Nat.le_trans Zs132 K133.1
    have hat133 : own_at gp133 0 nn := own_at_congr nn _ _ 0 (fun i _ q => hA133 i q) (own_at_put nn _ 0)
    refine own_st ?_ (fun t_ k_ => st133.trans k_)
    show own_G p.tables e below _ _ (T133.setTop (mkF m 87 #[.val (.int p0), .val (.int p1), .val (.int p2), .val (.long q3), .second, .val (.int cA), .val (.int cB), .val (.int cC), .val (.int cD), .val (.int nn.toInt32), .val (.ref b98), .val (.long (q3 &&& (9223372036854775807 : Int64))), .second, .val (.ref b116), .unset, .unset, .unset] [(.ref b116)]))
    refine own_st ?_ (fun t_ k_ => XS.pop X133.here hx rfl (hb hby at_87) rfl rfl k_)
    show own_G p.tables e below _ _ (T133.setTop (mkF m 88 #[.val (.int p0), .val (.int p1), .val (.int p2), .val (.long q3), .second, .val (.int cA), .val (.int cB), .val (.int cC), .val (.int cD), .val (.int nn.toInt32), .val (.ref b98), .val (.long (q3 &&& (9223372036854775807 : Int64))), .second, .val (.ref b116), .unset, .unset, .unset] []))
    refine own_st ?_ (fun t_ k_ => XS.aload X133.here hx rfl (hb hby at_88) rfl rfl k_)
    show own_G p.tables e below _ _ (T133.setTop (mkF m 90 #[.val (.int p0), .val (.int p1), .val (.int p2), .val (.long q3), .second, .val (.int cA), .val (.int cB), .val (.int cC), .val (.int cD), .val (.int nn.toInt32), .val (.ref b98), .val (.long (q3 &&& (9223372036854775807 : Int64))), .second, .val (.ref b116), .unset, .unset, .unset] [(.ref b116)]))
    refine own_st ?_ (fun t_ k_ => XS.lload X133.here hx rfl (hb hby at_90) rfl k_)
    show own_G p.tables e below _ _ (T133.setTop (mkF m 92 #[.val (.int p0), .val (.int p1), .val (.int p2), .val (.long q3), .second, .val (.int cA), .val (.int cB), .val (.int cC), .val (.int cD), .val (.int nn.toInt32), .val (.ref b98), .val (.long (q3 &&& (9223372036854775807 : Int64))), .second, .val (.ref b116), .unset, .unset, .unset] [(.long (q3 &&& (9223372036854775807 : Int64))), (.ref b116)]))
    obtain ⟨cq142, kq142, q142a, q142b, q142c⟩ := isOf hZ rfl F139_E
    obtain ⟨_, _, ⟨T142, L142, k142, n142⟩, -, X142, ⟨Lc142, hQ142, l142, y142, z142⟩, st142⟩ := X133.virtualBack hx (y := (⟨"com/example/termwright/termwright/Spool$Record", "putNumber", "(J)Lcom/example/termwright/termwright/Spool$Record;"⟩ : MethodName)) (z := (⟨"com/example/termwright/termwright/Spool$Record", "putNumber", "(J)Lcom/example/termwright/termwright/Spool$Record;"⟩ : MethodName)) hown (mvT hZ (hw _ (List.mem_of_getElem? (i := 97) rfl))) (mvT hZ (hw _ (List.mem_of_getElem? (i := 62) rfl))) (notFace_of_selects (args := #[]) (mvT hZ (hw _ (List.mem_of_getElem? (i := 64) rfl)))) (mvT hZ (hw _ (List.mem_of_getElem? (i := 64) rfl))) (mvT hZ (hw _ (List.mem_of_getElem? (i := 63) rfl))) (by decide) (backOf (W := 0) (rm12 l Z _ hw [] b116 (q3 &&& (9223372036854775807 : Int64)) t124 (0 + own_len nn + own_W ((List.range nn).map (own_pk cA cB cC cD))) 0 gp133 nB T133.heap n0 Zs141 g_b116 g_t124 F139_E Fb133 Fl133 Fp133 M133 hne124 hBq hB63 (by omega)) hZ (hw _ (List.mem_of_getElem? (i := 65) rfl)) (hw _ (List.mem_of_getElem? (i := 39) rfl)) (by decide) (by decide)) q142a q142c (g := (mkF m 92 #[.val (.int p0), .val (.int p1), .val (.int p2), .val (.long q3), .second, .val (.int cA), .val (.int cB), .val (.int cC), .val (.int cD), .val (.int nn.toInt32), .val (.ref b98), .val (.long (q3 &&& (9223372036854775807 : Int64))), .second, .val (.ref b116), .unset, .unset, .unset] [(.long (q3 &&& (9223372036854775807 : Int64))), (.ref b116)])) rfl (by rw [hml]; rfl) (Steps.refl _) (argsL := [(.long (q3 &&& (9223372036854775807 : Int64)))]) (rest := []) (lenOf pd_17 rfl) rfl (by show 2 * 0 + _ ≤ _; exact Nat.le_of_eq rfl) (hb hby at_92) (fun _ _ => ⟨rfl, rfl, (by decide : 6 + 0 ≤ _), (by decide : 279 + 0 ≤ _)⟩)
    dsimp only [Pt.U, Pt.locs, Pt.cells, Pt.slots] at X142 l142 y142 z142 st142 hQ142
    subst l142 y142 z142
    obtain ⟨rfl, N142q, hq142⟩ := hQ142
    have N142 := Fr.app N133 N142q
    obtain ⟨K142, Fb142, Fl142, Fp142, M142⟩ := hq142
    have F143_Z : own_SS Z T142.heap n0 z1 fm := own_SS_keep F134_Z K142 (own_alS g_b116 (own_alS g_t124 own_al0))
    have F144_E : Exa Z T142.heap b98 "java/lang/String" := F135_E.keep K142
    have F145_coder : Fld Z T142.heap b98 "java/lang/String" "coder" "B" (.int cd110) := F136_coder.keep K142 (ninS ne_b98_b116 (ninS ne_b98_t124 nin0))
    have F146_value : Fld Z T142.heap b98 "java/lang/String" "value" "[B" (.ref t110) := F137_value.keep K142 (ninS ne_b98_b116 (ninS ne_b98_t124 nin0))
    have F147_P : own_Y .byte Z T142.heap t110 NN110 gg110 := own_Y_keep F138_P K142 (ninS ne_t110_b116 (ninS ne_t110_t124 nin0))
    have F148_E : Exa Z T142.heap b116 "com/example/termwright/termwright/Spool$Record" := F139_E.keep K142
    have hkc149 := Nat.le_trans hkc140 K142.1
    have Zs150 : n0 ≤ T142.heap.size := Nat.le_trans Zs141 K142.1
    have hat142 : own_at (own_put gp133 (0 + own_len nn + own_W ((List.range nn).map (own_pk cA cB cC cD))) nB) 0 nn := own_at_congr nn _ _ 0 (fun i _ q => own_put_below nB _ _ i (by omega)) hat133
    have hE142 : own_E8 (own_put gp133 (0 + own_len nn + own_W ((List.range nn).map (own_pk cA cB cC cD))) nB) (0 + own_len nn) ((List.range nn).map (own_pk cA cB cC cD)) := own_E8_congr _ _ (fun i _ q => own_put_below nB _ _ i q) hE133
    refine own_st ?_ (fun t_ k_ => st142.trans k_)
    show own_G p.tables e below _ _ (T142.setTop (mkF m 95 #[.val (.int p0), .val (.int p1), .val (.int p2), .val (.long q3), .second, .val (.int cA), .val (.int cB), .val (.int cC), .val (.int cD), .val (.int nn.toInt32), .val (.ref b98), .val (.long (q3 &&& (9223372036854775807 : Int64))), .second, .val (.ref b116), .unset, .unset, .unset] [(.ref b116)]))
    refine own_st ?_ (fun t_ k_ => XS.pop X142.here hx rfl (hb hby at_95) rfl rfl k_)
    show own_G p.tables e below _ _ (T142.setTop (mkF m 96 #[.val (.int p0), .val (.int p1), .val (.int p2), .val (.long q3), .second, .val (.int cA), .val (.int cB), .val (.int cC), .val (.int cD), .val (.int nn.toInt32), .val (.ref b98), .val (.long (q3 &&& (9223372036854775807 : Int64))), .second, .val (.ref b116), .unset, .unset, .unset] []))
    refine own_st ?_ (fun t_ k_ => XS.aload X142.here hx rfl (hb hby at_96) rfl rfl k_)
    show own_G p.tables e below _ _ (T142.setTop (mkF m 98 #[.val (.int p0), .val (.int p1), .val (.int p2), .val (.long q3), .second, .val (.int cA), .val (.int cB), .val (.int cC), .val (.int cD), .val (.int nn.toInt32), .val (.ref b98), .val (.long (q3 &&& (9223372036854775807 : Int64))), .second, .val (.ref b116), .unset, .unset, .unset] [(.ref b116)]))
    obtain ⟨cq151, kq151, q151a, q151b, q151c⟩ := isOf hZ rfl F148_E
    obtain ⟨_, _, ⟨T151, L151, k151, n151⟩, -, X151, ⟨Lc151, hQ151, l151, y151, z151⟩, st151⟩ := X142.virtualBack hx (y := (⟨"com/example/termwright/termwright/Spool$Record", "text", "()Ljava/lang/String;"⟩ : MethodName)) (z := (⟨"com/example/termwright/termwright/Spool$Record", "text", "()Ljava/lang/String;"⟩ : MethodName)) hown (mvT hZ (hw _ (List.mem_of_getElem? (i := 99) rfl))) (mvT hZ (hw _ (List.mem_of_getElem? (i := 100) rfl))) (notFace_of_selects (args := #[]) (mvT hZ (hw _ (List.mem_of_getElem? (i := 102) rfl)))) (mvT hZ (hw _ (List.mem_of_getElem? (i := 102) rfl))) (mvT hZ (hw _ (List.mem_of_getElem? (i := 101) rfl))) (by decide) (backOf (W := 0) (rm19 l Z _ hw [] b116 z1 fm t124 (0 + own_len nn + own_W ((List.range nn).map (own_pk cA cB cC cD)) + own_len nB) 0 (own_put gp133 (0 + own_len nn + own_W ((List.range nn).map (own_pk cA cB cC cD))) nB) nn (own_pk cA cB cC cD) ((List.range nn).map (own_pk cA cB cC cD)) T142.heap n0 Zs150 g_b116 g_t124 F143_Z F148_E Fb142 Fl142 Fp142 M142 hne124 hz1 hn0 hn4 (fun i _ => own_pk_isC hcA hcB hcC hcD i) hat142 hE142 (own_TT0 nn _) (by decide)) hZ (hw _ (List.mem_of_getElem? (i := 103) rfl)) (hw _ (List.mem_of_getElem? (i := 39) rfl)) (by decide) (by decide)) q151a q151c (g := (mkF m 98 #[.val (.int p0), .val (.int p1), .val (.int p2), .val (.long q3), .second, .val (.int cA), .val (.int cB), .val (.int cC), .val (.int cD), .val (.int nn.toInt32), .val (.ref b98), .val (.long (q3 &&& (9223372036854775807 : Int64))), .second, .val (.ref b116), .unset, .unset, .unset] [(.ref b116)])) rfl (by rw [hml]; rfl) (Steps.refl _) (argsL := []) (rest := []) (lenOf pd_25 rfl) rfl (by show 2 * 0 + _ ≤ _; exact Nat.le_of_eq rfl) (hb hby at_98) (fun _ _ => ⟨rfl, rfl, (by decide : 6 + 4 ≤ _), (by decide : 279 + 20 ≤ _)⟩)
    dsimp only [Pt.U, Pt.locs, Pt.cells, Pt.slots] at X151 l151 y151 z151 st151 hQ151
    subst l151 y151 z151
    obtain ⟨sa151, rfl, N151q, hq151⟩ := hQ151
    have N151 := Fr.app N142 N151q
    obtain ⟨K151, hs151, Es151, ⟨tv151, cd151, NN151, gg151, hsv151, hnv151, Fc151, Fv151, Yb151, hD151, hBB151⟩, Fb151, Fl151, Fp151, M151⟩ := hq151
    have ne_b98_sa151 : b98 ≠ sa151 := Nat.ne_of_lt (Nat.lt_of_lt_of_le F144_E.lt hs151)
    have ne_t110_sa151 : t110 ≠ sa151 := Nat.ne_of_lt (Nat.lt_of_lt_of_le (own_Y_lt F147_P) hs151)
    have ne_b116_sa151 : b116 ≠ sa151 := Nat.ne_of_lt (Nat.lt_of_lt_of_le F148_E.lt hs151)
    have ne_t124_sa151 : t124 ≠ sa151 := Nat.ne_of_lt (Nat.lt_of_lt_of_le (own_M_lt M142) hs151)
    have ne_b98_tv151 : b98 ≠ tv151 := Nat.ne_of_lt (Nat.lt_of_lt_of_le F144_E.lt hsv151)
    have ne_t110_tv151 : t110 ≠ tv151 := Nat.ne_of_lt (Nat.lt_of_lt_of_le (own_Y_lt F147_P) hsv151)
    have ne_b116_tv151 : b116 ≠ tv151 := Nat.ne_of_lt (Nat.lt_of_lt_of_le F148_E.lt hsv151)
    have ne_t124_tv151 : t124 ≠ tv151 := Nat.ne_of_lt (Nat.lt_of_lt_of_le (own_M_lt M142) hsv151)
    have g_sa151 : n0 ≤ sa151 := Nat.le_trans Zs150 hs151
    have F152_Z : own_SS Z T151.heap n0 z1 fm := own_SS_keep F143_Z K151 (own_alS g_b116 own_al0)
    have F153_E : Exa Z T151.heap b98 "java/lang/String" := F144_E.keep K151
    have F154_coder : Fld Z T151.heap b98 "java/lang/String" "coder" "B" (.int cd110) := F145_coder.keep K151 (ninS ne_b98_b116 nin0)
    have F155_value : Fld Z T151.heap b98 "java/lang/String" "value" "[B" (.ref t110) := F146_value.keep K151 (ninS ne_b98_b116 nin0)
    have F156_P : own_Y .byte Z T151.heap t110 NN110 gg110 := own_Y_keep F147_P K151 (ninS ne_t110_b116 nin0)
    have F157_E : Exa Z T151.heap b116 "com/example/termwright/termwright/Spool$Record" := F148_E.keep K151
    have F158_P : own_M Z T151.heap t124 (own_put gp133 (0 + own_len nn + own_W ((List.range nn).map (own_pk cA cB cC cD))) nB) := own_M_keep M142 K151 (ninS (Ne.symm hne124) nin0)
    have hkc159 := Nat.le_trans hkc149 K151.1
    have Zs160 : n0 ≤ T151.heap.size := Nat.le_trans Zs150 K151.1
    refine own_st ?_ (fun t_ k_ => st151.trans k_)
    show own_G p.tables e below _ _ (T151.setTop (mkF m 101 #[.val (.int p0), .val (.int p1), .val (.int p2), .val (.long q3), .second, .val (.int cA), .val (.int cB), .val (.int cC), .val (.int cD), .val (.int nn.toInt32), .val (.ref b98), .val (.long (q3 &&& (9223372036854775807 : Int64))), .second, .val (.ref b116), .unset, .unset, .unset] [(.ref sa151)]))
    refine own_st ?_ (fun t_ k_ => XS.astore X151.here hx rfl (hb hby at_101) rfl rfl (l' := #[.val (.int p0), .val (.int p1), .val (.int p2), .val (.long q3), .second, .val (.int cA), .val (.int cB), .val (.int cC), .val (.int cD), .val (.int nn.toInt32), .val (.ref b98), .val (.long (q3 &&& (9223372036854775807 : Int64))), .second, .val (.ref b116), .val (.ref sa151), .unset, .unset]) rfl k_)
    show own_G p.tables e below _ _ (T151.setTop (mkF m 103 #[.val (.int p0), .val (.int p1), .val (.int p2), .val (.long q3), .second, .val (.int cA), .val (.int cB), .val (.int cC), .val (.int cD), .val (.int nn.toInt32), .val (.ref b98), .val (.long (q3 &&& (9223372036854775807 : Int64))), .second, .val (.ref b116), .val (.ref sa151), .unset, .unset] []))
    refine own_st ?_ (fun t_ k_ => XS.aload X151.here hx rfl (hb hby at_103) rfl rfl k_)
    show own_G p.tables e below _ _ (T151.setTop (mkF m 105 #[.val (.int p0), .val (.int p1), .val (.int p2), .val (.long q3), .second, .val (.int cA), .val (.int cB), .val (.int cC), .val (.int cD), .val (.int nn.toInt32), .val (.ref b98), .val (.long (q3 &&& (9223372036854775807 : Int64))), .second, .val (.ref b116), .val (.ref sa151), .unset, .unset] [(.ref b116)]))
    obtain ⟨cq161, kq161, q161a, q161b, q161c⟩ := isOf hZ rfl F157_E
    obtain ⟨_, _, ⟨T161, L161, k161, n161⟩, -, X161, ⟨Lc161, hQ161, l161, y161, z161⟩, st161⟩ := X151.virtualBack hx (y := (⟨"com/example/termwright/termwright/Spool$Record", "number", "()J"⟩ : MethodName)) (z := (⟨"com/example/termwright/termwright/Spool$Record", "number", "()J"⟩ : MethodName)) hown (mvT hZ (hw _ (List.mem_of_getElem? (i := 117) rfl))) (mvT hZ (hw _ (List.mem_of_getElem? (i := 105) rfl))) (notFace_of_selects (args := #[]) (mvT hZ (hw _ (List.mem_of_getElem? (i := 107) rfl)))) (mvT hZ (hw _ (List.mem_of_getElem? (i := 107) rfl))) (mvT hZ (hw _ (List.mem_of_getElem? (i := 106) rfl))) (by decide) (backOf (W := 0) (rm20 l Z _ hw [] b116 t124 (0 + own_len nn + own_W ((List.range nn).map (own_pk cA cB cC cD)) + own_len nB) (0 + own_len nn + own_W ((List.range nn).map (own_pk cA cB cC cD))) (own_put gp133 (0 + own_len nn + own_W ((List.range nn).map (own_pk cA cB cC cD))) nB) nB (q3 &&& (9223372036854775807 : Int64)) T151.heap n0 Zs160 g_b116 g_t124 F157_E Fb151 Fl151 Fp151 M151 hne124 hBq hB63 (by omega) (own_at_put nB _ _)) hZ (hw _ (List.mem_of_getElem? (i := 108) rfl)) (hw _ (List.mem_of_getElem? (i := 39) rfl)) (by decide) (by decide)) q161a q161c (g := (mkF m 105 #[.val (.int p0), .val (.int p1), .val (.int p2), .val (.long q3), .second, .val (.int cA), .val (.int cB), .val (.int cC), .val (.int cD), .val (.int nn.toInt32), .val (.ref b98), .val (.long (q3 &&& (9223372036854775807 : Int64))), .second, .val (.ref b116), .val (.ref sa151), .unset, .unset] [(.ref b116)])) rfl (by rw [hml]; rfl) (Steps.refl _) (argsL := []) (rest := []) (lenOf pd_19 rfl) rfl (by show 2 * 0 + _ ≤ _; exact Nat.le_of_eq rfl) (hb hby at_105) (fun _ _ => ⟨rfl, rfl, (by decide : 10 + 0 ≤ _), (by decide : 299 + 0 ≤ _)⟩)
    dsimp only [Pt.U, Pt.locs, Pt.cells, Pt.slots] at X161 l161 y161 z161 st161 hQ161
    subst l161 y161 z161
    obtain ⟨rfl, N161q, hq161⟩ := hQ161
    have N161 := Fr.app N151 N161q
    obtain ⟨K161, Fb161, Fl161, Fp161, M161⟩ := hq161
    have F162_Z : own_SS Z T161.heap n0 z1 fm := own_SS_keep F152_Z K161 (own_alS g_b116 own_al0)
    have F163_E : Exa Z T161.heap b98 "java/lang/String" := F153_E.keep K161
    have F164_coder : Fld Z T161.heap b98 "java/lang/String" "coder" "B" (.int cd110) := F154_coder.keep K161 (ninS ne_b98_b116 nin0)
    have F165_value : Fld Z T161.heap b98 "java/lang/String" "value" "[B" (.ref t110) := F155_value.keep K161 (ninS ne_b98_b116 nin0)
    have F166_P : own_Y .byte Z T161.heap t110 NN110 gg110 := own_Y_keep F156_P K161 (ninS ne_t110_b116 nin0)
    have F167_E : Exa Z T161.heap b116 "com/example/termwright/termwright/Spool$Record" := F157_E.keep K161
    have F168_P : own_M Z T161.heap t124 (own_put gp133 (0 + own_len nn + own_W ((List.range nn).map (own_pk cA cB cC cD))) nB) := own_M_keep M151 K161 (ninS (Ne.symm hne124) nin0)
    have F169_E : Exa Z T161.heap sa151 "java/lang/String" := Es151.keep K161
    have F170_coder : Fld Z T161.heap sa151 "java/lang/String" "coder" "B" (.int cd151) := Fc151.keep K161 (ninS (Ne.symm ne_b116_sa151) nin0)
    have F171_value : Fld Z T161.heap sa151 "java/lang/String" "value" "[B" (.ref tv151) := Fv151.keep K161 (ninS (Ne.symm ne_b116_sa151) nin0)
    have F172_P : own_Y .byte Z T161.heap tv151 NN151 gg151 := own_Y_keep Yb151 K161 (ninS (Ne.symm ne_b116_tv151) nin0)
    have hkc173 := Nat.le_trans hkc159 K161.1
    have Zs174 : n0 ≤ T161.heap.size := Nat.le_trans Zs160 K161.1
    refine own_st ?_ (fun t_ k_ => st161.trans k_)
    show own_G p.tables e below _ _ (T161.setTop (mkF m 108 #[.val (.int p0), .val (.int p1), .val (.int p2), .val (.long q3), .second, .val (.int cA), .val (.int cB), .val (.int cC), .val (.int cD), .val (.int nn.toInt32), .val (.ref b98), .val (.long (q3 &&& (9223372036854775807 : Int64))), .second, .val (.ref b116), .val (.ref sa151), .unset, .unset] [(.long (q3 &&& (9223372036854775807 : Int64)))]))
    refine own_st ?_ (fun t_ k_ => XS.lstore X161.here hx rfl (hb hby at_108) rfl (l' := #[.val (.int p0), .val (.int p1), .val (.int p2), .val (.long q3), .second, .val (.int cA), .val (.int cB), .val (.int cC), .val (.int cD), .val (.int nn.toInt32), .val (.ref b98), .val (.long (q3 &&& (9223372036854775807 : Int64))), .second, .val (.ref b116), .val (.ref sa151), .val (.long (q3 &&& (9223372036854775807 : Int64))), .second]) rfl k_)
    show own_G p.tables e below _ _ (T161.setTop (mkF m 110 #[.val (.int p0), .val (.int p1), .val (.int p2), .val (.long q3), .second, .val (.int cA), .val (.int cB), .val (.int cC), .val (.int cD), .val (.int nn.toInt32), .val (.ref b98), .val (.long (q3 &&& (9223372036854775807 : Int64))), .second, .val (.ref b116), .val (.ref sa151), .val (.long (q3 &&& (9223372036854775807 : Int64))), .second] []))
    refine own_st ?_ (fun t_ k_ => XS.aload X161.here hx rfl (hb hby at_110) rfl rfl k_)
    show own_G p.tables e below _ _ (T161.setTop (mkF m 112 #[.val (.int p0), .val (.int p1), .val (.int p2), .val (.long q3), .second, .val (.int cA), .val (.int cB), .val (.int cC), .val (.int cD), .val (.int nn.toInt32), .val (.ref b98), .val (.long (q3 &&& (9223372036854775807 : Int64))), .second, .val (.ref b116), .val (.ref sa151), .val (.long (q3 &&& (9223372036854775807 : Int64))), .second] [(.ref sa151)]))
    refine own_st ?_ (fun t_ k_ => XS.aload X161.here hx rfl (hb hby at_112) rfl rfl k_)
    show own_G p.tables e below _ _ (T161.setTop (mkF m 114 #[.val (.int p0), .val (.int p1), .val (.int p2), .val (.long q3), .second, .val (.int cA), .val (.int cB), .val (.int cC), .val (.int cD), .val (.int nn.toInt32), .val (.ref b98), .val (.long (q3 &&& (9223372036854775807 : Int64))), .second, .val (.ref b116), .val (.ref sa151), .val (.long (q3 &&& (9223372036854775807 : Int64))), .second] [(.ref b98), (.ref sa151)]))
    obtain ⟨cq175, kq175, q175a, q175b, q175c⟩ := isOf hZ rfl F169_E
    obtain ⟨_, _, ⟨T175, L175, k175, n175⟩, -, X175, ⟨Lc175, hQ175, l175, y175, z175⟩, st175⟩ := X161.virtualBack hx (y := (⟨"java/lang/String", "equals", "(Ljava/lang/Object;)Z"⟩ : MethodName)) (z := (⟨"java/lang/String", "equals", "(Ljava/lang/Object;)Z"⟩ : MethodName)) hown (mvT hZ (hw _ (List.mem_of_getElem? (i := 118) rfl))) (mvT hZ (hw _ (List.mem_of_getElem? (i := 119) rfl))) (notFace_of_selects (args := #[]) (mvT hZ (hw _ (List.mem_of_getElem? (i := 121) rfl)))) (mvT hZ (hw _ (List.mem_of_getElem? (i := 121) rfl))) (mvT hZ (hw _ (List.mem_of_getElem? (i := 120) rfl))) (by decide) (backOf (W := 0) (rm22 l Z _ hw [] sa151 b98 z1 fm cd151 tv151 t110 NN151 gg151 T161.heap n0 Zs174 F162_Z F169_E F170_coder F171_value F172_P F163_E (by rw [(own_B_eq hBB151 hBB110).1]; exact F164_coder) F165_value (own_Y_congr F166_P (own_B_eq hBB151 hBB110).2.1.symm (fun i hi => ((own_B_eq hBB151 hBB110).2.2 i (by rw [(own_B_eq hBB151 hBB110).2.1]; exact hi)).symm)) hz1 (own_D_len hD151).2) hZ (hw _ (List.mem_of_getElem? (i := 122) rfl)) (hw _ (List.mem_of_getElem? (i := 4) rfl)) (by decide) (by decide)) q175a q175c (g := (mkF m 114 #[.val (.int p0), .val (.int p1), .val (.int p2), .val (.long q3), .second, .val (.int cA), .val (.int cB), .val (.int cC), .val (.int cD), .val (.int nn.toInt32), .val (.ref b98), .val (.long (q3 &&& (9223372036854775807 : Int64))), .second, .val (.ref b116), .val (.ref sa151), .val (.long (q3 &&& (9223372036854775807 : Int64))), .second] [(.ref b98), (.ref sa151)])) rfl (by rw [hml]; rfl) (Steps.refl _) (argsL := [(.ref b98)]) (rest := []) (lenOf pd_26 rfl) rfl (by show 2 * 0 + _ ≤ _; exact Nat.le_of_eq rfl) (hb hby at_114) (fun _ _ => ⟨rfl, rfl, (by decide : 10 + 0 ≤ _), (by decide : 299 + 0 ≤ _)⟩)
    dsimp only [Pt.U, Pt.locs, Pt.cells, Pt.slots] at X175 l175 y175 z175 st175 hQ175
    subst l175 y175 z175
    obtain ⟨rfl, N175q, e175⟩ := hQ175
    have N175 := Fr.app N161 N175q
    refine own_st ?_ (fun t_ k_ => st175.trans k_)
    show own_G p.tables e below _ _ (T175.setTop (mkF m 117 #[.val (.int p0), .val (.int p1), .val (.int p2), .val (.long q3), .second, .val (.int cA), .val (.int cB), .val (.int cC), .val (.int cD), .val (.int nn.toInt32), .val (.ref b98), .val (.long (q3 &&& (9223372036854775807 : Int64))), .second, .val (.ref b116), .val (.ref sa151), .val (.long (q3 &&& (9223372036854775807 : Int64))), .second] [(.int (1 : Int32))]))
    refine own_st ?_ (fun t_ k_ => XS.ifNo X175.here hx rfl (hb hby at_117) rfl ((if0 _ _).trans (feq (by decide : ¬ ((1 : Int32) = (0 : Int32)))).1) k_)
    show own_G p.tables e below _ _ (T175.setTop (mkF m 120 #[.val (.int p0), .val (.int p1), .val (.int p2), .val (.long q3), .second, .val (.int cA), .val (.int cB), .val (.int cC), .val (.int cD), .val (.int nn.toInt32), .val (.ref b98), .val (.long (q3 &&& (9223372036854775807 : Int64))), .second, .val (.ref b116), .val (.ref sa151), .val (.long (q3 &&& (9223372036854775807 : Int64))), .second] []))
    refine own_st ?_ (fun t_ k_ => XS.lload X175.here hx rfl (hb hby at_120) rfl k_)
    show own_G p.tables e below _ _ (T175.setTop (mkF m 122 #[.val (.int p0), .val (.int p1), .val (.int p2), .val (.long q3), .second, .val (.int cA), .val (.int cB), .val (.int cC), .val (.int cD), .val (.int nn.toInt32), .val (.ref b98), .val (.long (q3 &&& (9223372036854775807 : Int64))), .second, .val (.ref b116), .val (.ref sa151), .val (.long (q3 &&& (9223372036854775807 : Int64))), .second] [(.long (q3 &&& (9223372036854775807 : Int64)))]))
    refine own_st ?_ (fun t_ k_ => XS.lload X175.here hx rfl (hb hby at_122) rfl k_)
    show own_G p.tables e below _ _ (T175.setTop (mkF m 124 #[.val (.int p0), .val (.int p1), .val (.int p2), .val (.long q3), .second, .val (.int cA), .val (.int cB), .val (.int cC), .val (.int cD), .val (.int nn.toInt32), .val (.ref b98), .val (.long (q3 &&& (9223372036854775807 : Int64))), .second, .val (.ref b116), .val (.ref sa151), .val (.long (q3 &&& (9223372036854775807 : Int64))), .second] [(.long (q3 &&& (9223372036854775807 : Int64))), (.long (q3 &&& (9223372036854775807 : Int64)))]))
    refine own_st ?_ (fun t_ k_ => XS.lcmp X175.here hx rfl (hb hby at_124) rfl k_)
    show own_G p.tables e below _ _ (T175.setTop (mkF m 125 #[.val (.int p0), .val (.int p1), .val (.int p2), .val (.long q3), .second, .val (.int cA), .val (.int cB), .val (.int cC), .val (.int cD), .val (.int nn.toInt32), .val (.ref b98), .val (.long (q3 &&& (9223372036854775807 : Int64))), .second, .val (.ref b116), .val (.ref sa151), .val (.long (q3 &&& (9223372036854775807 : Int64))), .second] [(.int (lcmpW (q3 &&& (9223372036854775807 : Int64)) (q3 &&& (9223372036854775807 : Int64))))]))
    refine own_st ?_ (fun t_ k_ => XS.ifNo X175.here hx rfl (hb hby at_125) rfl ((if0 _ _).trans (teq ((lw_eq _ _).mpr rfl)).2) k_)
    show own_G p.tables e below _ _ (T175.setTop (mkF m 128 #[.val (.int p0), .val (.int p1), .val (.int p2), .val (.long q3), .second, .val (.int cA), .val (.int cB), .val (.int cC), .val (.int cD), .val (.int nn.toInt32), .val (.ref b98), .val (.long (q3 &&& (9223372036854775807 : Int64))), .second, .val (.ref b116), .val (.ref sa151), .val (.long (q3 &&& (9223372036854775807 : Int64))), .second] []))
    refine own_st ?_ (fun t_ k_ => XS.iconst X175.here hx rfl (hb hby at_128) k_)
    show own_G p.tables e below _ _ (T175.setTop (mkF m 129 #[.val (.int p0), .val (.int p1), .val (.int p2), .val (.long q3), .second, .val (.int cA), .val (.int cB), .val (.int cC), .val (.int cD), .val (.int nn.toInt32), .val (.ref b98), .val (.long (q3 &&& (9223372036854775807 : Int64))), .second, .val (.ref b116), .val (.ref sa151), .val (.long (q3 &&& (9223372036854775807 : Int64))), .second] [(.int (1 : Int32))]))
    refine own_st ?_ (fun t_ k_ => XS.goto X175.here hx rfl (pc0 := 129) (pc' := 133) rfl (hb hby at_129) (by decide) (by decide) k_)
    show own_G p.tables e below _ _ (T175.setTop (mkF m 133 #[.val (.int p0), .val (.int p1), .val (.int p2), .val (.long q3), .second, .val (.int cA), .val (.int cB), .val (.int cC), .val (.int cD), .val (.int nn.toInt32), .val (.ref b98), .val (.long (q3 &&& (9223372036854775807 : Int64))), .second, .val (.ref b116), .val (.ref sa151), .val (.long (q3 &&& (9223372036854775807 : Int64))), .second] [(.int (1 : Int32))]))
    exact own_retNW X175 hx hlk hS0 (by rw [e175]; exact hkc173) (t := .boolean) hret (by simp) (hb hby at_133) (by decide) (by decide) (z' := (1 : Int32)) rfl ⟨rfl, N175⟩
theorem own_nz {args : Array Value} {s : State} {z : Int32} (ez : (Term.static "java/lang/String" "COMPACT_STRINGS" "Z").eval args s none [] s = some (.int z)) (h : (Jvm.Cond.not (Jvm.Cond.eq (Term.static "java/lang/String" "COMPACT_STRINGS" "Z") (Term.int 0))).before args s = true) : ¬ z = 0 := by
  intro q; subst q
  have h2 := not_v (Cond.before_iff.mp h)
  simp only [Jvm.Cond.value, ez] at h2
  simp [Term.eval] at h2
theorem own_steq {args : Array Value} {s : State} {t : Term} {v : Int32} (h : (Jvm.Cond.eq t (.int v)).value args s none s [] = some true) : t.eval args s none [] s = some (.int v) := by
  obtain ⟨x, y, e1, e2, -, -⟩ := cmp_v (Or.inl h)
  have q := h
  have e4 : (Term.int v).eval args s none [] s = some (.int v) := rfl
  simp only [Jvm.Cond.value, e1, e4] at q
  rw [e1]
  cases x with
  | int w => simp at q; rw [q]
  | _ => simp at q
set_option maxRecDepth 65536 in
set_option maxHeartbeats 40000000 in
theorem comes_1 {Post : Tables → Env → Array Value → State → Outcome → State → Prop} (hpost : ∀ tb e args s v u, (limb_1_1.after args s (.returned v) u = true ∧ limb_1_2.after args s (.returned v) u = true ∧ True) → ReturnedEndW s (.returned v) u (Jvm.fieldLocs frame_1_writes args s ++ Jvm.arrayLocs frame_1_arrays args s ++ Jvm.staticLocs frame_1_statics s) 32 1728 → Post tb e args s (.returned v) u) :
    ArmFor flags0 classFile x code maxLocals ret World_1 tables_1 room_1 Calls_1 rest_1 Pre_1 Post := by
  intro l hfl _ _ p e ha hc hk s m args below hf hA hF happ hP
  obtain ⟨hcalls, hrest, hpre⟩ := hP
  obtain ⟨-, -, -, hnamed, -, -, -, hat⟩ := (Spec.applies_iff hf).mp happ
  obtain ⟨hg, hn⟩ := and_e (Cond.before_iff.mp (show (Jvm.Cond.and given_1 narrow_1).before args s = true from hpre))
  obtain ⟨hcount, hgs0⟩ := and_e hg
  obtain ⟨w0, w1, w2, w3, rfl⟩ : ∃ w0 w1 w2 w3 : Value, args = #[w0, w1, w2, w3] := by
    have hs : args.size = 4 := by simpa [Cond.value, given_1] using hcount
    obtain ⟨L⟩ := args
    match L, hs with
    | [w0, w1, w2, w3], _ => exact ⟨w0, w1, w2, w3, rfl⟩
  have hw := fun d (hd : d ∈ tables_1) => atoms_spec (ws := Jvm.Cond.code x code maxLocals ret :: tables_1) hat d (List.mem_cons_of_mem _ hd)
  obtain ⟨hv0, hgs1⟩ := and_e hgs0
  obtain ⟨i0, ei0⟩ := is_v hv0
  obtain rfl : w0 = (.int i0) := Option.some.inj ei0
  obtain ⟨hv1, hgs2⟩ := and_e hgs1
  obtain ⟨i1, ei1⟩ := is_v hv1
  obtain rfl : w1 = (.int i1) := Option.some.inj ei1
  obtain ⟨hv2, hgs3⟩ := and_e hgs2
  obtain ⟨i2, ei2⟩ := is_v hv2
  obtain rfl : w2 = (.int i2) := Option.some.inj ei2
  have hv3 := hgs3
  obtain ⟨i3, ei3⟩ := isL_v hv3
  obtain rfl : w3 = (.long i3) := Option.some.inj ei3
  obtain ⟨hsets, hown0⟩ := atoms_of _ (rest_1_c_eq ▸ (show rest_1_c.before _ s = true from hrest))
  obtain ⟨z1, ez1⟩ := is_v (Cond.before_iff.mp (hsets _ (List.mem_of_getElem? (i := 1) rfl)))
  have S1 := Sta.start ez1 (Or.inl (hsets _ (List.mem_of_getElem? (i := 0) rfl)))
  have hz1 : ¬ z1 = 0 := own_nz ez1 (hsets _ (List.mem_of_getElem? (i := 2) rfl))
  obtain ⟨fm, efm, rf1⟩ := isR_v (Cond.before_iff.mp (hsets _ (List.mem_of_getElem? (i := 8) rfl)))
  have S2 := Sta.start efm (Or.inl (hsets _ (List.mem_of_getElem? (i := 7) rfl)))
  have S3 := Sta.start (own_steq (Cond.before_iff.mp (hsets _ (List.mem_of_getElem? (i := 12) rfl)))) (Or.inl (hsets _ (List.mem_of_getElem? (i := 11) rfl)))
  have S4 := Sta.start (own_steq (Cond.before_iff.mp (hsets _ (List.mem_of_getElem? (i := 15) rfl)))) (Or.inl (hsets _ (List.mem_of_getElem? (i := 14) rfl)))
  have S5 := Sta.start (own_steq (Cond.before_iff.mp (hsets _ (List.mem_of_getElem? (i := 18) rfl)))) (Or.inl (hsets _ (List.mem_of_getElem? (i := 17) rfl)))
  have SS : own_SS s s.heap s.heap.size z1 fm := ⟨own_Su_of S1, own_Su_of S2, own_Su_of S3, own_Su_of S4, own_Su_of S5⟩
  have hcw0 : Jvm.Lit.compactW.before _ s = true := (hsets _ (List.mem_of_getElem? (i := 2) rfl))
  have hcw : ∀ a : Array Value, Jvm.Lit.compactW.before a s = true := fun a => by simpa [Jvm.Lit.compactW, Cond.before, Cond.holds, Cond.value, Term.eval] using hcw0
  obtain ⟨n, o, h1, h2, h3, _, L, rfl, ⟨rfl, N⟩, hq⟩ := rm0 l s _ hw tables_1 i0 i1 i2 i3 z1 fm s.heap s.heap.size (Nat.le_refl _) SS hz1 rf1 rfl (hcalls.1 _ (List.mem_of_getElem? (i := 0) rfl)) hcw p e ha hc hk s m _ below hf ((Spec.applies_iff_loose hf).mp happ).1 ⟨rfl, State.Warmed39.refl s, rfl, rfl⟩ trivial
  skip
  refine ⟨n, _, h1, h2, h3, hpost _ _ _ _ _ _ ⟨Cond.after_iff.mpr rfl, Cond.after_iff.mpr (eq_i res_at (Term.int_eval (1)) rfl), trivial⟩ ⟨⟨_, rfl⟩, hq.2.1, hq.2.2.1, (hq.2.2.2.sift fun y hy => Or.inr (N y hy)).mono (by decide) (by decide)⟩⟩
theorem main_1_1 : Claimed_1_1 := comes_1 fun _ _ _ _ _ _ h hF => ⟨h.1, hF⟩
theorem main_1_2 : Claimed_1_2 := comes_1 fun _ _ _ _ _ _ h hF => ⟨h.2.1, hF⟩
end Jvm.Pilot.@@N@@
namespace Jvm.Pilot.@@N@@
open Jvm Jvm.ClassFile Sem Op Lib Jvm.Free Jvm.Stand Jvm.Pilot.@@N@@.Jvm.D
/-! MADE BY PROGRAM (witnessworld.py) out of the Statement's table words and the real class files: 19 classes; the members and pool entries that the words name. The judged class is class 1, her method 2. -/
namespace start1
open Jvm.ClassFile
def u (s : String) : CpInfo := .utf8 (stringToUtf16 s)
/-- a pool by its gaps: so many unusable entries, then the entry; so many at the end -/
def gap : Nat → List CpInfo → List CpInfo
  | 0, r => r
  | n + 1, r => .unusable :: gap n r
def poolList (es : List (Nat × CpInfo)) (last : Nat) : List CpInfo := es.foldr (fun e r => gap e.1 (e.2 :: r)) (gap last [])
def pool (es : List (Nat × CpInfo)) (last : Nat) : Array CpInfo := ⟨poolList es last⟩
def fileOf (pool : Array CpInfo) (this : Nat) (attrs : Array Attribute := #[]) (ms : Array MethodInfo := #[]) (fl : Nat := 33) (sup : Nat := 0) (ifs : Array Nat := #[]) (fds : Array FieldInfo := #[]) : ClassFile where
  minorVersion := 0
  majorVersion := 65
  constantPool := pool
  accessFlags := fl
  thisClass := this
  superClass := sup
  interfaces := ifs
  fields := fds
  methods := ms
  attributes := attrs
def plain (name : String) (sup : Option ClassId) : Class where
  name := name
  kind := .ordinary
  loader := none
  accessFlags := 33
  super := sup
  interfaces := #[]
  cf := none
  fields := #[]
  methods := #[]
  instanceTypes := #[]
  staticTypes := #[]
  resolved := #[]
  callSites := []
  init := .initialized
  statics := none
  mirror := none

def pool0 : Array CpInfo := pool [(5, u "<init>"), (0, u "()V"), (1, .class_ 10), (1, u "java/lang/Object")] 113

def k0c0 : Code := { maxStack := 0, maxLocals := 1, code := object_method_1_code, exceptionTable := #[], attributes := #[] }
def k0m0 : Method := { name := "<init>", desc := "()V", sig := { parameters := [], returnType := none }, accessFlags := 1, code := some k0c0 }
/-- java/lang/Object -/
def k0 : Class := { plain "java/lang/Object" none with
  accessFlags := 33
  interfaces := #[]
  cf := some (fileOf pool0 8 #[] #[{ accessFlags := 1, nameIndex := 5, descriptorIndex := 6, attributes := #[] }] 33 0 #[] #[])
  fields := #[]
  methods := #[k0m0]
  instanceTypes := #[]
  staticTypes := #[]
  resolved := Array.replicate 124 none
  statics := none }

def pool1 : Array CpInfo := pool [(2, .class_ 4), (0, .nameAndType 5 6), (0, u "java/lang/Object"), (0, u "<init>"), (0, u "()V"), (0, .integer 65535), (0, .integer 2147483647), (0, .class_ 10), (0, u "java/lang/String"), (0, .methodref 12 13), (0, .class_ 14), (0, .nameAndType 15 16), (0, u "com/example/termwright/termwright/RecordTextPinLaw"), (0, u "pick"), (0, u "(ICCCC)[C"), (0, .methodref 9 18), (0, .nameAndType 5 19), (0, u "([C)V"), (2, .long 9223372036854775807), (1, .class_ 25), (0, u "com/example/termwright/termwright/Spool$Record"), (0, .methodref 24 3), (0, .methodref 24 28), (0, .nameAndType 29 30), (0, u "putText"), (0, u "(Ljava/lang/String;)Lcom/example/termwright/termwright/Spool$Record;"), (0, .methodref 24 32), (0, .nameAndType 33 34), (0, u "putNumber"), (0, u "(J)Lcom/example/termwright/termwright/Spool$Record;"), (0, .methodref 24 36), (0, .nameAndType 37 38), (0, u "text"), (0, u "()Ljava/lang/String;"), (0, .methodref 24 40), (0, .nameAndType 41 42), (0, u "number"), (0, u "()J"), (0, .methodref 9 44), (0, .nameAndType 45 46), (0, u "equals"), (0, u "(Ljava/lang/Object;)Z"), (3, u "law"), (0, u "(IIIJ)Z")] 6

def k1m0 : Method := { name := "<init>", desc := "()V", sig := { parameters := [], returnType := none }, accessFlags := 2, code := none }
def k1c1 : Code := { maxStack := 4, maxLocals := 5, code := method_2_code, exceptionTable := #[], attributes := #[] }
def k1m1 : Method := { name := "pick", desc := "(ICCCC)[C", sig := { parameters := [.int, .char, .char, .char, .char], returnType := some (.array .char) }, accessFlags := 10, code := some k1c1 }
def k1c2 : Code := { maxStack := 7, maxLocals := 17, code := code, exceptionTable := #[], attributes := #[] }
def k1m2 : Method := { name := "law", desc := "(IIIJ)Z", sig := { parameters := [.int, .int, .int, .long], returnType := some .boolean }, accessFlags := 9, code := some k1c2 }
/-- com/example/termwright/termwright/RecordTextPinLaw -/
def k1 : Class := { plain "com/example/termwright/termwright/RecordTextPinLaw" (some 0) with
  accessFlags := 49
  interfaces := #[]
  cf := some (fileOf pool1 12 #[] #[{ accessFlags := 2, nameIndex := 5, descriptorIndex := 6, attributes := #[] }, { accessFlags := 10, nameIndex := 15, descriptorIndex := 16, attributes := #[] }, { accessFlags := 9, nameIndex := 50, descriptorIndex := 51, attributes := #[] }] 49 2 #[] #[])
  fields := #[]
  methods := #[k1m0, k1m1, k1m2]
  instanceTypes := #[]
  staticTypes := #[]
  resolved := Array.replicate 58 none
  statics := none }

def pool2 : Array CpInfo := pool [(1, .class_ 2), (0, u "java/io/Serializable"), (0, .class_ 4), (0, u "java/lang/Object")] 2

/-- java/io/Serializable -/
def k2 : Class := { plain "java/io/Serializable" (some 0) with
  accessFlags := 1537
  interfaces := #[]
  cf := some (fileOf pool2 1 #[] #[] 1537 3 #[] #[])
  fields := #[]
  methods := #[]
  instanceTypes := #[]
  staticTypes := #[]
  resolved := Array.replicate 7 none
  statics := none }

def pool3 : Array CpInfo := pool [(1, .class_ 2), (0, u "java/lang/Comparable"), (0, .class_ 4), (0, u "java/lang/Object")] 7

/-- java/lang/Comparable -/
def k3 : Class := { plain "java/lang/Comparable" (some 0) with
  accessFlags := 1537
  interfaces := #[]
  cf := some (fileOf pool3 1 #[] #[] 1537 3 #[] #[])
  fields := #[]
  methods := #[]
  instanceTypes := #[]
  staticTypes := #[]
  resolved := Array.replicate 12 none
  statics := none }

def pool4 : Array CpInfo := pool [(2, .class_ 4), (1, u "java/lang/CharSequence"), (42, .class_ 48), (0, u "java/lang/CharSequence$1CodePointIterator"), (10, .class_ 60), (0, u "java/lang/CharSequence$1CharIterator"), (5, .class_ 67), (0, u "java/lang/Object")] 63

/-- java/lang/CharSequence -/
def k4 : Class := { plain "java/lang/CharSequence" (some 0) with
  accessFlags := 1537
  interfaces := #[]
  cf := some (fileOf pool4 2 #[.nestMembers #[47, 59]] #[] 1537 66 #[] #[])
  fields := #[]
  methods := #[]
  instanceTypes := #[]
  staticTypes := #[]
  resolved := Array.replicate 131 none
  statics := none }

def pool5 : Array CpInfo := pool [(1, .class_ 2), (0, u "java/lang/constant/Constable"), (0, .class_ 4), (0, u "java/lang/Object")] 6

/-- java/lang/constant/Constable -/
def k5 : Class := { plain "java/lang/constant/Constable" (some 0) with
  accessFlags := 1537
  interfaces := #[]
  cf := some (fileOf pool5 1 #[] #[] 1537 3 #[] #[])
  fields := #[]
  methods := #[]
  instanceTypes := #[]
  staticTypes := #[]
  resolved := Array.replicate 11 none
  statics := none }

def pool6 : Array CpInfo := pool [(1, .class_ 2), (0, u "java/lang/constant/ConstantDesc"), (0, .class_ 4), (0, u "java/lang/Object")] 32

/-- java/lang/constant/ConstantDesc -/
def k6 : Class := { plain "java/lang/constant/ConstantDesc" (some 0) with
  accessFlags := 1537
  interfaces := #[]
  cf := some (fileOf pool6 1 #[] #[] 1537 3 #[] #[])
  fields := #[]
  methods := #[]
  instanceTypes := #[]
  staticTypes := #[]
  resolved := Array.replicate 37 none
  statics := none }

def pool7 : Array CpInfo := pool [(1, .methodref 2 3), (0, .class_ 4), (0, .nameAndType 5 6), (0, u "java/lang/Object"), (0, u "<init>"), (0, u "()V"), (0, .string 8), (0, u ""), (0, .fieldref 10 11), (0, .class_ 12), (0, .nameAndType 13 14), (0, u "java/lang/String"), (0, u "value"), (0, u "[B"), (0, .fieldref 10 16), (0, .nameAndType 17 18), (0, u "coder"), (0, u "B"), (2, u "hash"), (0, u "I"), (2, u "hashIsZero"), (0, u "Z"), (0, .methodref 10 28), (0, .nameAndType 5 29), (0, u "([CIILjava/lang/Void;)V"), (8, .fieldref 10 39), (0, .nameAndType 40 26), (0, u "COMPACT_STRINGS"), (1, .class_ 44), (1, u "java/lang/StringUTF16"), (0, u "compress"), (1, .methodref 42 48), (0, .nameAndType 49 50), (0, u "coderFromArrayLen"), (0, u "([BI)B"), (56, .class_ 109), (1, u "java/lang/StringLatin1"), (32, u "()Z"), (34, .methodref 42 178), (0, .nameAndType 45 179), (0, u "([CII)[B"), (154, u "()I"), (0, .methodref 10 336), (0, .nameAndType 17 337), (0, u "()B"), (25, u "([BI)C"), (27, u "(II)V"), (35, u "(I)C"), (64, .methodref 10 493), (0, .nameAndType 494 142), (0, u "isLatin1"), (0, .methodref 107 496), (0, .nameAndType 497 363), (0, u "charAt"), (0, .methodref 42 496), (2, u "checkIndex"), (5, u "length"), (33, .methodref 107 542), (0, .nameAndType 543 544), (0, u "equals"), (0, u "([B[B)Z"), (28, u "(Ljava/lang/Object;)Z"), (1, .class_ 576), (0, u "java/lang/CharSequence"), (22, u "CASE_INSENSITIVE_ORDER"), (0, u "Ljava/util/Comparator;"), (409, u "([C)V"), (42, .fieldref 1054 1055), (0, .class_ 1056), (0, .nameAndType 1057 1058), (0, u "jdk/internal/util/Preconditions"), (0, u "SIOOBE_FORMATTER"), (0, u "Ljava/util/function/BiFunction;"), (0, .methodref 1054 1060), (0, .nameAndType 501 1061), (0, u "(IILjava/util/function/BiFunction;)I"), (39, u "serialPersistentFields"), (0, u "[Ljava/io/ObjectStreamField;"), (0, .class_ 1104), (0, u "java/lang/String$CaseInsensitiveComparator"), (1, .class_ 1107), (0, u "java/io/Serializable"), (0, .class_ 1109), (0, u "java/lang/Comparable"), (0, .class_ 1111), (0, u "java/lang/constant/Constable"), (0, .class_ 1113), (0, u "java/lang/constant/ConstantDesc"), (2, u "serialVersionUID"), (0, u "J"), (3, u "REPL"), (0, u "C"), (2, u "LATIN1"), (1, u "UTF16")] 323

def k7m0 : Method := { name := "<init>", desc := "()V", sig := { parameters := [], returnType := none }, accessFlags := 1, code := none }
def k7c1 : Code := { maxStack := 5, maxLocals := 2, code := jdk_42_method_3_code, exceptionTable := #[], attributes := #[] }
def k7m1 : Method := { name := "<init>", desc := "([C)V", sig := { parameters := [(.array .char)], returnType := none }, accessFlags := 1, code := some k7c1 }
def k7c2 : Code := { maxStack := 2, maxLocals := 1, code := jdk_42_method_54_code, exceptionTable := #[], attributes := #[] }
def k7m2 : Method := { name := "length", desc := "()I", sig := { parameters := [], returnType := some .int }, accessFlags := 1, code := some k7c2 }
def k7c3 : Code := { maxStack := 2, maxLocals := 2, code := jdk_42_method_56_code, exceptionTable := #[], attributes := #[] }
def k7m3 : Method := { name := "charAt", desc := "(I)C", sig := { parameters := [.int], returnType := some .char }, accessFlags := 1, code := some k7c3 }
def k7c4 : Code := { maxStack := 2, maxLocals := 3, code := jdk_42_method_66_code, exceptionTable := #[], attributes := #[] }
def k7m4 : Method := { name := "equals", desc := "(Ljava/lang/Object;)Z", sig := { parameters := [(.object "java/lang/Object")], returnType := some .boolean }, accessFlags := 1, code := some k7c4 }
def k7c5 : Code := { maxStack := 4, maxLocals := 6, code := jdk_42_method_149_code, exceptionTable := #[], attributes := #[] }
def k7m5 : Method := { name := "<init>", desc := "([CIILjava/lang/Void;)V", sig := { parameters := [(.array .char), .int, .int, (.object "java/lang/Void")], returnType := none }, accessFlags := 2, code := some k7c5 }
def k7c6 : Code := { maxStack := 1, maxLocals := 1, code := jdk_42_method_152_code, exceptionTable := #[], attributes := #[] }
def k7m6 : Method := { name := "coder", desc := "()B", sig := { parameters := [], returnType := some .byte }, accessFlags := 0, code := some k7c6 }
def k7c7 : Code := { maxStack := 1, maxLocals := 1, code := jdk_42_method_154_code, exceptionTable := #[], attributes := #[] }
def k7m7 : Method := { name := "isLatin1", desc := "()Z", sig := { parameters := [], returnType := some .boolean }, accessFlags := 0, code := some k7c7 }
def k7c8 : Code := { maxStack := 3, maxLocals := 2, code := jdk_42_method_155_code, exceptionTable := #[], attributes := #[] }
def k7m8 : Method := { name := "checkIndex", desc := "(II)V", sig := { parameters := [.int, .int], returnType := none }, accessFlags := 8, code := some k7c8 }
/-- java/lang/String -/
def k7 : Class := { plain "java/lang/String" (some 0) with
  accessFlags := 49
  interfaces := #[2, 3, 4, 5, 6]
  cf := some (fileOf pool7 10 #[.nestMembers #[1103]] #[{ accessFlags := 1, nameIndex := 5, descriptorIndex := 6, attributes := #[] }, { accessFlags := 1, nameIndex := 5, descriptorIndex := 1010, attributes := #[] }, { accessFlags := 1, nameIndex := 507, descriptorIndex := 334, attributes := #[] }, { accessFlags := 1, nameIndex := 497, descriptorIndex := 427, attributes := #[] }, { accessFlags := 1, nameIndex := 543, descriptorIndex := 573, attributes := #[] }, { accessFlags := 2, nameIndex := 5, descriptorIndex := 29, attributes := #[] }, { accessFlags := 0, nameIndex := 17, descriptorIndex := 337, attributes := #[] }, { accessFlags := 0, nameIndex := 494, descriptorIndex := 142, attributes := #[] }, { accessFlags := 8, nameIndex := 501, descriptorIndex := 391, attributes := #[] }] 49 2 #[1106, 1108, 575, 1110, 1112] #[{ accessFlags := 18, nameIndex := 13, descriptorIndex := 14, attributes := #[] }, { accessFlags := 18, nameIndex := 17, descriptorIndex := 18, attributes := #[] }, { accessFlags := 2, nameIndex := 21, descriptorIndex := 22, attributes := #[] }, { accessFlags := 2, nameIndex := 25, descriptorIndex := 26, attributes := #[] }, { accessFlags := 26, nameIndex := 1116, descriptorIndex := 1117, attributes := #[] }, { accessFlags := 24, nameIndex := 40, descriptorIndex := 26, attributes := #[] }, { accessFlags := 26, nameIndex := 1101, descriptorIndex := 1102, attributes := #[] }, { accessFlags := 26, nameIndex := 1121, descriptorIndex := 1122, attributes := #[] }, { accessFlags := 25, nameIndex := 599, descriptorIndex := 600, attributes := #[] }, { accessFlags := 24, nameIndex := 1125, descriptorIndex := 18, attributes := #[] }, { accessFlags := 24, nameIndex := 1127, descriptorIndex := 18, attributes := #[] }])
  fields := #[{ name := "value", type := (.array .byte), accessFlags := 18, slot := 0, constantValue := 0 }, { name := "coder", type := .byte, accessFlags := 18, slot := 1, constantValue := 0 }, { name := "hash", type := .int, accessFlags := 2, slot := 2, constantValue := 0 }, { name := "hashIsZero", type := .boolean, accessFlags := 2, slot := 3, constantValue := 0 }, { name := "serialVersionUID", type := .long, accessFlags := 26, slot := 0, constantValue := 0 }, { name := "COMPACT_STRINGS", type := .boolean, accessFlags := 24, slot := 1, constantValue := 0 }, { name := "serialPersistentFields", type := (.array (.object "java/io/ObjectStreamField")), accessFlags := 26, slot := 2, constantValue := 0 }, { name := "REPL", type := .char, accessFlags := 26, slot := 3, constantValue := 0 }, { name := "CASE_INSENSITIVE_ORDER", type := (.object "java/util/Comparator"), accessFlags := 25, slot := 4, constantValue := 0 }, { name := "LATIN1", type := .byte, accessFlags := 24, slot := 5, constantValue := 0 }, { name := "UTF16", type := .byte, accessFlags := 24, slot := 6, constantValue := 0 }]
  methods := #[k7m0, k7m1, k7m2, k7m3, k7m4, k7m5, k7m6, k7m7, k7m8]
  instanceTypes := #[(.array .byte), .byte, .int, .boolean]
  staticTypes := #[.long, .boolean, (.array (.object "java/io/ObjectStreamField")), .char, (.object "java/util/Comparator"), .byte, .byte]
  resolved := Array.replicate 1451 none
  statics := some 0 }

def pool8 : Array CpInfo := pool [(3, .class_ 4), (0, u "java/lang/String"), (1, .class_ 8), (1, u "java/lang/Object"), (0, u "<init>"), (0, u "()V"), (0, .methodref 12 13), (0, .class_ 14), (0, .nameAndType 15 16), (0, u "java/lang/StringUTF16"), (0, u "newBytesLength"), (0, u "(I)I"), (3, .integer 1073741823), (23, .fieldref 12 45), (0, .nameAndType 46 47), (0, u "$assertionsDisabled"), (0, u "Z"), (0, .methodref 12 49), (0, .nameAndType 50 51), (0, u "length"), (0, u "([B)I"), (7, .fieldref 12 60), (0, .nameAndType 61 62), (0, u "HI_BYTE_SHIFT"), (0, u "I"), (0, .fieldref 12 64), (0, .nameAndType 65 62), (0, u "LO_BYTE_SHIFT"), (1, .methodref 12 68), (0, .nameAndType 69 70), (0, u "checkIndex"), (0, u "(I[B)V"), (0, .methodref 12 72), (0, .nameAndType 73 74), (0, u "getChar"), (0, u "([BI)C"), (32, .methodref 12 108), (0, .nameAndType 109 110), (0, u "newBytesFor"), (0, u "(I)[B"), (0, .methodref 12 112), (0, .nameAndType 113 114), (0, u "putChar"), (0, u "([BII)V"), (0, .methodref 12 116), (0, .nameAndType 117 118), (0, u "compress"), (0, u "([CI[BII)I"), (0, .methodref 12 120), (0, .nameAndType 121 122), (0, u "toBytes"), (0, u "([CII)[B"), (138, u "coderFromArrayLen"), (0, u "([BI)B"), (106, .class_ 371), (1, u "java/lang/StringUTF16$LinesSpliterator"), (20, u "charAt"), (21, .methodref 3 415), (0, .nameAndType 69 416), (0, u "(II)V"), (13, u "MAX_LENGTH"), (196, .class_ 628), (0, u "java/lang/StringUTF16$CodePointsSpliterator"), (0, .class_ 630), (0, u "java/lang/StringUTF16$CharsSpliterator")] 4

def k8m0 : Method := { name := "<init>", desc := "()V", sig := { parameters := [], returnType := none }, accessFlags := 0, code := none }
def k8c1 : Code := { maxStack := 1, maxLocals := 1, code := jdk_52_method_2_code, exceptionTable := #[], attributes := #[] }
def k8m1 : Method := { name := "newBytesFor", desc := "(I)[B", sig := { parameters := [.int], returnType := some (.array .byte) }, accessFlags := 9, code := some k8c1 }
def k8c2 : Code := { maxStack := 4, maxLocals := 1, code := jdk_52_method_3_code, exceptionTable := #[], attributes := #[] }
def k8m2 : Method := { name := "newBytesLength", desc := "(I)I", sig := { parameters := [.int], returnType := some .int }, accessFlags := 9, code := some k8c2 }
def k8c3 : Code := { maxStack := 4, maxLocals := 3, code := jdk_52_method_4_code, exceptionTable := #[], attributes := #[] }
def k8m3 : Method := { name := "putChar", desc := "([BII)V", sig := { parameters := [(.array .byte), .int, .int], returnType := none }, accessFlags := 8, code := some k8c3 }
def k8c4 : Code := { maxStack := 3, maxLocals := 2, code := jdk_52_method_5_code, exceptionTable := #[], attributes := #[] }
def k8m4 : Method := { name := "getChar", desc := "([BI)C", sig := { parameters := [(.array .byte), .int], returnType := some .char }, accessFlags := 8, code := some k8c4 }
def k8c5 : Code := { maxStack := 2, maxLocals := 1, code := jdk_52_method_6_code, exceptionTable := #[], attributes := #[] }
def k8m5 : Method := { name := "length", desc := "([B)I", sig := { parameters := [(.array .byte)], returnType := some .int }, accessFlags := 9, code := some k8c5 }
def k8c6 : Code := { maxStack := 4, maxLocals := 5, code := jdk_52_method_14_code, exceptionTable := #[], attributes := #[] }
def k8m6 : Method := { name := "toBytes", desc := "([CII)[B", sig := { parameters := [(.array .char), .int, .int], returnType := some (.array .byte) }, accessFlags := 9, code := some k8c6 }
def k8c7 : Code := { maxStack := 2, maxLocals := 2, code := jdk_52_method_15_code, exceptionTable := #[], attributes := #[] }
def k8m7 : Method := { name := "coderFromArrayLen", desc := "([BI)B", sig := { parameters := [(.array .byte), .int], returnType := some .byte }, accessFlags := 8, code := some k8c7 }
def k8c8 : Code := { maxStack := 5, maxLocals := 6, code := jdk_52_method_16_code, exceptionTable := #[], attributes := #[] }
def k8m8 : Method := { name := "compress", desc := "([CII)[B", sig := { parameters := [(.array .char), .int, .int], returnType := some (.array .byte) }, accessFlags := 9, code := some k8c8 }
def k8c9 : Code := { maxStack := 3, maxLocals := 7, code := jdk_52_method_21_code, exceptionTable := #[], attributes := #[] }
def k8m9 : Method := { name := "compress", desc := "([CI[BII)I", sig := { parameters := [(.array .char), .int, (.array .byte), .int, .int], returnType := some .int }, accessFlags := 9, code := some k8c9 }
def k8c10 : Code := { maxStack := 2, maxLocals := 2, code := jdk_52_method_83_code, exceptionTable := #[], attributes := #[] }
def k8m10 : Method := { name := "charAt", desc := "([BI)C", sig := { parameters := [(.array .byte), .int], returnType := some .char }, accessFlags := 9, code := some k8c10 }
def k8c11 : Code := { maxStack := 2, maxLocals := 2, code := jdk_52_method_91_code, exceptionTable := #[], attributes := #[] }
def k8m11 : Method := { name := "checkIndex", desc := "(I[B)V", sig := { parameters := [.int, (.array .byte)], returnType := none }, accessFlags := 9, code := some k8c11 }
/-- java/lang/StringUTF16 -/
def k8 : Class := { plain "java/lang/StringUTF16" (some 0) with
  accessFlags := 48
  interfaces := #[]
  cf := some (fileOf pool8 12 #[.nestMembers #[627, 629, 369]] #[{ accessFlags := 0, nameIndex := 9, descriptorIndex := 10, attributes := #[] }, { accessFlags := 9, nameIndex := 109, descriptorIndex := 110, attributes := #[] }, { accessFlags := 9, nameIndex := 15, descriptorIndex := 16, attributes := #[] }, { accessFlags := 8, nameIndex := 113, descriptorIndex := 114, attributes := #[] }, { accessFlags := 8, nameIndex := 73, descriptorIndex := 74, attributes := #[] }, { accessFlags := 9, nameIndex := 50, descriptorIndex := 51, attributes := #[] }, { accessFlags := 9, nameIndex := 121, descriptorIndex := 122, attributes := #[] }, { accessFlags := 8, nameIndex := 261, descriptorIndex := 262, attributes := #[] }, { accessFlags := 9, nameIndex := 117, descriptorIndex := 122, attributes := #[] }, { accessFlags := 9, nameIndex := 117, descriptorIndex := 118, attributes := #[] }, { accessFlags := 9, nameIndex := 392, descriptorIndex := 74, attributes := #[] }, { accessFlags := 9, nameIndex := 69, descriptorIndex := 70, attributes := #[] }] 48 6 #[] #[{ accessFlags := 26, nameIndex := 61, descriptorIndex := 62, attributes := #[] }, { accessFlags := 26, nameIndex := 65, descriptorIndex := 62, attributes := #[] }, { accessFlags := 24, nameIndex := 430, descriptorIndex := 62, attributes := #[] }, { accessFlags := 4120, nameIndex := 46, descriptorIndex := 47, attributes := #[] }])
  fields := #[{ name := "HI_BYTE_SHIFT", type := .int, accessFlags := 26, slot := 0, constantValue := 0 }, { name := "LO_BYTE_SHIFT", type := .int, accessFlags := 26, slot := 1, constantValue := 0 }, { name := "MAX_LENGTH", type := .int, accessFlags := 24, slot := 2, constantValue := 0 }, { name := "$assertionsDisabled", type := .boolean, accessFlags := 4120, slot := 3, constantValue := 0 }]
  methods := #[k8m0, k8m1, k8m2, k8m3, k8m4, k8m5, k8m6, k8m7, k8m8, k8m9, k8m10, k8m11]
  instanceTypes := #[]
  staticTypes := #[.int, .int, .int, .boolean]
  resolved := Array.replicate 635 none
  statics := some 1 }

def pool9 : Array CpInfo := pool [(1, .methodref 2 3), (0, .class_ 4), (0, .nameAndType 5 6), (0, u "java/lang/Object"), (0, u "<init>"), (0, u "()V"), (0, .fieldref 8 9), (0, .class_ 10), (0, .nameAndType 11 12), (0, u "com/example/termwright/termwright/Spool$Record"), (0, u "bytes"), (0, u "[B"), (0, .fieldref 8 14), (0, .nameAndType 15 16), (0, u "length"), (0, u "I"), (0, .fieldref 8 18), (0, .nameAndType 19 16), (0, u "position"), (9, .long 10), (1, .methodref 8 32), (0, .nameAndType 33 34), (0, u "room"), (0, u "(J)V"), (0, .long 128), (1, .long 127), (1, .methodref 40 41), (0, .class_ 42), (0, .nameAndType 15 43), (0, u "java/lang/String"), (0, u "()I"), (0, .methodref 8 45), (0, .nameAndType 46 47), (0, u "putNumber"), (0, u "(J)Lcom/example/termwright/termwright/Spool$Record;"), (0, .long 3), (1, .methodref 40 51), (0, .nameAndType 52 53), (0, u "charAt"), (0, u "(I)C"), (0, .methodref 8 55), (0, .nameAndType 56 57), (0, u "number"), (0, u "()J"), (0, .methodref 59 60), (0, .class_ 61), (0, .nameAndType 62 63), (0, u "java/lang/Math"), (0, u "toIntExact"), (0, u "(J)I"), (0, .methodref 40 65), (0, .nameAndType 5 66), (0, u "([C)V"), (0, .long 2), (16, u "putText"), (0, u "(Ljava/lang/String;)Lcom/example/termwright/termwright/Spool$Record;"), (0, u "text"), (0, u "()Ljava/lang/String;"), (5, .class_ 94), (0, u "com/example/termwright/termwright/Spool")] 16

def k9c0 : Code := { maxStack := 2, maxLocals := 1, code := prog_34_method_1_code, exceptionTable := #[], attributes := #[] }
def k9m0 : Method := { name := "<init>", desc := "()V", sig := { parameters := [], returnType := none }, accessFlags := 0, code := some k9c0 }
def k9c1 : Code := { maxStack := 6, maxLocals := 5, code := prog_34_method_3_code, exceptionTable := #[], attributes := #[] }
def k9m1 : Method := { name := "putNumber", desc := "(J)Lcom/example/termwright/termwright/Spool$Record;", sig := { parameters := [.long], returnType := some (.object "com/example/termwright/termwright/Spool$Record") }, accessFlags := 0, code := some k9c1 }
def k9c2 : Code := { maxStack := 5, maxLocals := 5, code := prog_34_method_4_code, exceptionTable := #[], attributes := #[] }
def k9m2 : Method := { name := "putText", desc := "(Ljava/lang/String;)Lcom/example/termwright/termwright/Spool$Record;", sig := { parameters := [(.object "java/lang/String")], returnType := some (.object "com/example/termwright/termwright/Spool$Record") }, accessFlags := 0, code := some k9c2 }
def k9c3 : Code := { maxStack := 5, maxLocals := 5, code := prog_34_method_5_code, exceptionTable := #[], attributes := #[] }
def k9m3 : Method := { name := "number", desc := "()J", sig := { parameters := [], returnType := some .long }, accessFlags := 0, code := some k9c3 }
def k9c4 : Code := { maxStack := 8, maxLocals := 4, code := prog_34_method_6_code, exceptionTable := #[], attributes := #[] }
def k9m4 : Method := { name := "text", desc := "()Ljava/lang/String;", sig := { parameters := [], returnType := some (.object "java/lang/String") }, accessFlags := 0, code := some k9c4 }
def k9c5 : Code := { maxStack := 8, maxLocals := 5, code := prog_34_method_7_code, exceptionTable := #[], attributes := #[] }
def k9m5 : Method := { name := "room", desc := "(J)V", sig := { parameters := [.long], returnType := none }, accessFlags := 2, code := some k9c5 }
/-- com/example/termwright/termwright/Spool$Record -/
def k9 : Class := { plain "com/example/termwright/termwright/Spool$Record" (some 0) with
  accessFlags := 48
  interfaces := #[]
  cf := some (fileOf pool9 8 #[.nestHost 93] #[{ accessFlags := 0, nameIndex := 5, descriptorIndex := 6, attributes := #[] }, { accessFlags := 0, nameIndex := 46, descriptorIndex := 47, attributes := #[] }, { accessFlags := 0, nameIndex := 84, descriptorIndex := 85, attributes := #[] }, { accessFlags := 0, nameIndex := 56, descriptorIndex := 57, attributes := #[] }, { accessFlags := 0, nameIndex := 86, descriptorIndex := 87, attributes := #[] }, { accessFlags := 2, nameIndex := 33, descriptorIndex := 34, attributes := #[] }] 48 2 #[] #[{ accessFlags := 2, nameIndex := 11, descriptorIndex := 12, attributes := #[] }, { accessFlags := 2, nameIndex := 15, descriptorIndex := 16, attributes := #[] }, { accessFlags := 2, nameIndex := 19, descriptorIndex := 16, attributes := #[] }])
  fields := #[{ name := "bytes", type := (.array .byte), accessFlags := 2, slot := 0, constantValue := 0 }, { name := "length", type := .int, accessFlags := 2, slot := 1, constantValue := 0 }, { name := "position", type := .int, accessFlags := 2, slot := 2, constantValue := 0 }]
  methods := #[k9m0, k9m1, k9m2, k9m3, k9m4, k9m5]
  instanceTypes := #[(.array .byte), .int, .int]
  staticTypes := #[]
  resolved := Array.replicate 111 none
  statics := none }

def pool10 : Array CpInfo := pool [(1, .class_ 2), (0, u "java/lang/String"), (1, .class_ 6), (1, u "java/lang/Object"), (0, u "<init>"), (0, u "()V"), (0, .methodref 1 10), (0, .nameAndType 11 12), (0, u "checkIndex"), (0, u "(II)V"), (1, .class_ 16), (1, u "java/lang/StringLatin1"), (36, u "([BI)C"), (67, u "$assertionsDisabled"), (0, u "Z"), (98, .class_ 223), (1, u "java/lang/StringLatin1$LinesSpliterator"), (28, u "charAt"), (28, u "equals"), (0, u "([B[B)Z"), (107, .class_ 391), (0, u "java/lang/StringLatin1$CharsSpliterator")] 3

def k10m0 : Method := { name := "<init>", desc := "()V", sig := { parameters := [], returnType := none }, accessFlags := 0, code := none }
def k10c1 : Code := { maxStack := 2, maxLocals := 2, code := jdk_43_method_2_code, exceptionTable := #[], attributes := #[] }
def k10m1 : Method := { name := "charAt", desc := "([BI)C", sig := { parameters := [(.array .byte), .int], returnType := some .char }, accessFlags := 9, code := some k10c1 }
def k10c2 : Code := { maxStack := 3, maxLocals := 3, code := jdk_43_method_13_code, exceptionTable := #[], attributes := #[] }
def k10m2 : Method := { name := "equals", desc := "([B[B)Z", sig := { parameters := [(.array .byte), (.array .byte)], returnType := some .boolean }, accessFlags := 9, code := some k10c2 }
/-- java/lang/StringLatin1 -/
def k10 : Class := { plain "java/lang/StringLatin1" (some 0) with
  accessFlags := 48
  interfaces := #[]
  cf := some (fileOf pool10 14 #[.nestMembers #[390, 221]] #[{ accessFlags := 0, nameIndex := 7, descriptorIndex := 8, attributes := #[] }, { accessFlags := 9, nameIndex := 252, descriptorIndex := 53, attributes := #[] }, { accessFlags := 9, nameIndex := 281, descriptorIndex := 282, attributes := #[] }] 48 4 #[] #[{ accessFlags := 4120, nameIndex := 121, descriptorIndex := 122, attributes := #[] }])
  fields := #[{ name := "$assertionsDisabled", type := .boolean, accessFlags := 4120, slot := 0, constantValue := 0 }]
  methods := #[k10m0, k10m1, k10m2]
  instanceTypes := #[]
  staticTypes := #[.boolean]
  resolved := Array.replicate 395 none
  statics := none }

def pool11 : Array CpInfo := pool [(2, .class_ 4), (1, u "java/lang/Object"), (0, u "<init>"), (0, u "()V"), (17, .class_ 26), (1, u "jdk/internal/util/Preconditions"), (6, u "checkIndex"), (21, .class_ 56), (0, u "jdk/internal/util/Preconditions$4"), (57, .class_ 115), (0, u "jdk/internal/util/Preconditions$1"), (7, u "SIOOBE_FORMATTER"), (0, u "Ljava/util/function/BiFunction;"), (0, .class_ 126), (0, u "jdk/internal/util/Preconditions$2"), (3, u "AIOOBE_FORMATTER"), (0, .class_ 132), (0, u "jdk/internal/util/Preconditions$3"), (3, u "IOOBE_FORMATTER"), (41, u "(IILjava/util/function/BiFunction;)I")] 15

def k11m0 : Method := { name := "<init>", desc := "()V", sig := { parameters := [], returnType := none }, accessFlags := 1, code := none }
def k11c1 : Code := { maxStack := 3, maxLocals := 3, code := jdk_41_method_11_code, exceptionTable := #[], attributes := #[] }
def k11m1 : Method := { name := "checkIndex", desc := "(IILjava/util/function/BiFunction;)I", sig := { parameters := [.int, .int, (.object "java/util/function/BiFunction")], returnType := some .int }, accessFlags := 9, code := some k11c1 }
/-- jdk/internal/util/Preconditions -/
def k11 : Class := { plain "jdk/internal/util/Preconditions" (some 0) with
  accessFlags := 33
  interfaces := #[]
  cf := some (fileOf pool11 24 #[.nestMembers #[55, 131, 125, 114]] #[{ accessFlags := 1, nameIndex := 5, descriptorIndex := 6, attributes := #[] }, { accessFlags := 9, nameIndex := 33, descriptorIndex := 178, attributes := #[] }] 33 2 #[] #[{ accessFlags := 25, nameIndex := 123, descriptorIndex := 124, attributes := #[] }, { accessFlags := 25, nameIndex := 130, descriptorIndex := 124, attributes := #[] }, { accessFlags := 25, nameIndex := 136, descriptorIndex := 124, attributes := #[] }])
  fields := #[{ name := "SIOOBE_FORMATTER", type := (.object "java/util/function/BiFunction"), accessFlags := 25, slot := 0, constantValue := 0 }, { name := "AIOOBE_FORMATTER", type := (.object "java/util/function/BiFunction"), accessFlags := 25, slot := 1, constantValue := 0 }, { name := "IOOBE_FORMATTER", type := (.object "java/util/function/BiFunction"), accessFlags := 25, slot := 2, constantValue := 0 }]
  methods := #[k11m0, k11m1]
  instanceTypes := #[]
  staticTypes := #[(.object "java/util/function/BiFunction"), (.object "java/util/function/BiFunction"), (.object "java/util/function/BiFunction")]
  resolved := Array.replicate 194 none
  statics := some 2 }

def pool12 : Array CpInfo := pool [(1, .class_ 2), (0, u "java/lang/Math"), (1, .class_ 6), (1, u "java/lang/Object"), (0, u "<init>"), (0, u "()V"), (89, .class_ 100), (1, u "java/lang/Math$RandomNumberGeneratorHolder"), (71, u "negativeZeroFloatBits"), (0, u "J"), (2, u "negativeZeroDoubleBits"), (68, u "$assertionsDisabled"), (0, u "Z"), (91, u "twoToTheDoubleScaleDown"), (0, u "D"), (4, u "twoToTheDoubleScaleUp"), (9, u "E"), (3, u "PI"), (2, u "TAU"), (2, u "DEGREES_TO_RADIANS"), (0, u "RADIANS_TO_DEGREES"), (39, u "toIntExact"), (0, u "(J)I")] 53

def k12m0 : Method := { name := "<init>", desc := "()V", sig := { parameters := [], returnType := none }, accessFlags := 2, code := none }
def k12c1 : Code := { maxStack := 4, maxLocals := 2, code := jdk_29_method_43_code, exceptionTable := #[], attributes := #[] }
def k12m1 : Method := { name := "toIntExact", desc := "(J)I", sig := { parameters := [.long], returnType := some .int }, accessFlags := 9, code := some k12c1 }
/-- java/lang/Math -/
def k12 : Class := { plain "java/lang/Math" (some 0) with
  accessFlags := 49
  interfaces := #[]
  cf := some (fileOf pool12 1 #[.nestMembers #[98]] #[{ accessFlags := 2, nameIndex := 7, descriptorIndex := 8, attributes := #[] }, { accessFlags := 9, nameIndex := 405, descriptorIndex := 406, attributes := #[] }] 49 4 #[] #[{ accessFlags := 25, nameIndex := 354, descriptorIndex := 339, attributes := #[] }, { accessFlags := 25, nameIndex := 358, descriptorIndex := 339, attributes := #[] }, { accessFlags := 25, nameIndex := 361, descriptorIndex := 339, attributes := #[] }, { accessFlags := 26, nameIndex := 364, descriptorIndex := 339, attributes := #[] }, { accessFlags := 26, nameIndex := 365, descriptorIndex := 339, attributes := #[] }, { accessFlags := 26, nameIndex := 172, descriptorIndex := 173, attributes := #[] }, { accessFlags := 26, nameIndex := 176, descriptorIndex := 173, attributes := #[] }, { accessFlags := 8, nameIndex := 344, descriptorIndex := 339, attributes := #[] }, { accessFlags := 8, nameIndex := 338, descriptorIndex := 339, attributes := #[] }, { accessFlags := 4120, nameIndex := 245, descriptorIndex := 246, attributes := #[] }])
  fields := #[{ name := "E", type := .double, accessFlags := 25, slot := 0, constantValue := 0 }, { name := "PI", type := .double, accessFlags := 25, slot := 1, constantValue := 0 }, { name := "TAU", type := .double, accessFlags := 25, slot := 2, constantValue := 0 }, { name := "DEGREES_TO_RADIANS", type := .double, accessFlags := 26, slot := 3, constantValue := 0 }, { name := "RADIANS_TO_DEGREES", type := .double, accessFlags := 26, slot := 4, constantValue := 0 }, { name := "negativeZeroFloatBits", type := .long, accessFlags := 26, slot := 5, constantValue := 0 }, { name := "negativeZeroDoubleBits", type := .long, accessFlags := 26, slot := 6, constantValue := 0 }, { name := "twoToTheDoubleScaleUp", type := .double, accessFlags := 8, slot := 7, constantValue := 0 }, { name := "twoToTheDoubleScaleDown", type := .double, accessFlags := 8, slot := 8, constantValue := 0 }, { name := "$assertionsDisabled", type := .boolean, accessFlags := 4120, slot := 9, constantValue := 0 }]
  methods := #[k12m0, k12m1]
  instanceTypes := #[]
  staticTypes := #[.double, .double, .double, .double, .double, .long, .long, .double, .double, .boolean]
  resolved := Array.replicate 460 none
  statics := none }

def pool13 : Array CpInfo := pool [(9, u "<init>"), (6, .class_ 18), (1, u "java/lang/Object"), (0, u "()V"), (1, .class_ 23), (1, u "jdk/internal/util/ArraysSupport"), (0, u "LOG2_ARRAY_LONG_INDEX_SCALE"), (0, u "I"), (2, u "U"), (0, u "Ljdk/internal/misc/Unsafe;"), (8, u "BIG_ENDIAN"), (0, u "Z"), (8, u "LOG2_BYTE_BIT_SIZE"), (4, u "LOG2_ARRAY_INT_INDEX_SCALE"), (54, u "JLA"), (0, u "Ljdk/internal/access/JavaLangAccess;"), (11, u "LOG2_ARRAY_BOOLEAN_INDEX_SCALE"), (9, u "LOG2_ARRAY_BYTE_INDEX_SCALE"), (5, u "LOG2_ARRAY_CHAR_INDEX_SCALE"), (5, u "LOG2_ARRAY_SHORT_INDEX_SCALE"), (18, u "LOG2_ARRAY_FLOAT_INDEX_SCALE"), (24, u "LOG2_ARRAY_DOUBLE_INDEX_SCALE"), (89, u "T_BOOLEAN"), (2, u "T_CHAR"), (1, u "T_FLOAT"), (1, u "T_DOUBLE"), (1, u "T_BYTE"), (1, u "T_SHORT"), (1, u "T_INT"), (1, u "T_LONG"), (1, u "SOFT_MAX_ARRAY_LENGTH")] 83

def k13m0 : Method := { name := "<init>", desc := "()V", sig := { parameters := [], returnType := none }, accessFlags := 2, code := none }
/-- jdk/internal/util/ArraysSupport -/
def k13 : Class := { plain "jdk/internal/util/ArraysSupport" (some 0) with
  accessFlags := 33
  interfaces := #[]
  cf := some (fileOf pool13 21 #[] #[{ accessFlags := 2, nameIndex := 9, descriptorIndex := 19, attributes := #[] }] 33 16 #[] #[{ accessFlags := 24, nameIndex := 28, descriptorIndex := 29, attributes := #[] }, { accessFlags := 26, nameIndex := 38, descriptorIndex := 39, attributes := #[] }, { accessFlags := 25, nameIndex := 121, descriptorIndex := 25, attributes := #[] }, { accessFlags := 25, nameIndex := 131, descriptorIndex := 25, attributes := #[] }, { accessFlags := 25, nameIndex := 137, descriptorIndex := 25, attributes := #[] }, { accessFlags := 25, nameIndex := 143, descriptorIndex := 25, attributes := #[] }, { accessFlags := 25, nameIndex := 53, descriptorIndex := 25, attributes := #[] }, { accessFlags := 25, nameIndex := 24, descriptorIndex := 25, attributes := #[] }, { accessFlags := 25, nameIndex := 162, descriptorIndex := 25, attributes := #[] }, { accessFlags := 25, nameIndex := 187, descriptorIndex := 25, attributes := #[] }, { accessFlags := 26, nameIndex := 48, descriptorIndex := 25, attributes := #[] }, { accessFlags := 25, nameIndex := 277, descriptorIndex := 25, attributes := #[] }, { accessFlags := 25, nameIndex := 280, descriptorIndex := 25, attributes := #[] }, { accessFlags := 25, nameIndex := 282, descriptorIndex := 25, attributes := #[] }, { accessFlags := 25, nameIndex := 284, descriptorIndex := 25, attributes := #[] }, { accessFlags := 25, nameIndex := 286, descriptorIndex := 25, attributes := #[] }, { accessFlags := 25, nameIndex := 288, descriptorIndex := 25, attributes := #[] }, { accessFlags := 25, nameIndex := 290, descriptorIndex := 25, attributes := #[] }, { accessFlags := 25, nameIndex := 292, descriptorIndex := 25, attributes := #[] }, { accessFlags := 26, nameIndex := 108, descriptorIndex := 109, attributes := #[] }, { accessFlags := 25, nameIndex := 294, descriptorIndex := 25, attributes := #[] }])
  fields := #[{ name := "U", type := (.object "jdk/internal/misc/Unsafe"), accessFlags := 24, slot := 0, constantValue := 0 }, { name := "BIG_ENDIAN", type := .boolean, accessFlags := 26, slot := 1, constantValue := 0 }, { name := "LOG2_ARRAY_BOOLEAN_INDEX_SCALE", type := .int, accessFlags := 25, slot := 2, constantValue := 0 }, { name := "LOG2_ARRAY_BYTE_INDEX_SCALE", type := .int, accessFlags := 25, slot := 3, constantValue := 0 }, { name := "LOG2_ARRAY_CHAR_INDEX_SCALE", type := .int, accessFlags := 25, slot := 4, constantValue := 0 }, { name := "LOG2_ARRAY_SHORT_INDEX_SCALE", type := .int, accessFlags := 25, slot := 5, constantValue := 0 }, { name := "LOG2_ARRAY_INT_INDEX_SCALE", type := .int, accessFlags := 25, slot := 6, constantValue := 0 }, { name := "LOG2_ARRAY_LONG_INDEX_SCALE", type := .int, accessFlags := 25, slot := 7, constantValue := 0 }, { name := "LOG2_ARRAY_FLOAT_INDEX_SCALE", type := .int, accessFlags := 25, slot := 8, constantValue := 0 }, { name := "LOG2_ARRAY_DOUBLE_INDEX_SCALE", type := .int, accessFlags := 25, slot := 9, constantValue := 0 }, { name := "LOG2_BYTE_BIT_SIZE", type := .int, accessFlags := 26, slot := 10, constantValue := 0 }, { name := "T_BOOLEAN", type := .int, accessFlags := 25, slot := 11, constantValue := 0 }, { name := "T_CHAR", type := .int, accessFlags := 25, slot := 12, constantValue := 0 }, { name := "T_FLOAT", type := .int, accessFlags := 25, slot := 13, constantValue := 0 }, { name := "T_DOUBLE", type := .int, accessFlags := 25, slot := 14, constantValue := 0 }, { name := "T_BYTE", type := .int, accessFlags := 25, slot := 15, constantValue := 0 }, { name := "T_SHORT", type := .int, accessFlags := 25, slot := 16, constantValue := 0 }, { name := "T_INT", type := .int, accessFlags := 25, slot := 17, constantValue := 0 }, { name := "T_LONG", type := .int, accessFlags := 25, slot := 18, constantValue := 0 }, { name := "JLA", type := (.object "jdk/internal/access/JavaLangAccess"), accessFlags := 26, slot := 19, constantValue := 0 }, { name := "SOFT_MAX_ARRAY_LENGTH", type := .int, accessFlags := 25, slot := 20, constantValue := 0 }]
  methods := #[k13m0]
  instanceTypes := #[]
  staticTypes := #[(.object "jdk/internal/misc/Unsafe"), .boolean, .int, .int, .int, .int, .int, .int, .int, .int, .int, .int, .int, .int, .int, .int, .int, .int, .int, (.object "jdk/internal/access/JavaLangAccess"), .int]
  resolved := Array.replicate 378 none
  statics := none }

def pool14 : Array CpInfo := pool [(1, u "java/lang/Cloneable"), (0, .class_ 1), (0, u "java/lang/Object"), (0, .class_ 3)] 3

/-- java/lang/Cloneable -/
def k14 : Class := { plain "java/lang/Cloneable" (some 0) with
  accessFlags := 1537
  interfaces := #[]
  cf := some (fileOf pool14 2 #[] #[] 1537 4 #[] #[])
  fields := #[]
  methods := #[]
  instanceTypes := #[]
  staticTypes := #[]
  resolved := Array.replicate 8 none
  statics := none }

/-- the primitive byte -/
def k15 : Class := { plain "byte" none with kind := .primitive 'B', accessFlags := 0x411 }
/-- [B -/
def k16 : Class := { plain "[B" (some 0) with kind := .array 15 .byte, interfaces := #[14, 2], accessFlags := 1041 }

/-- the primitive char -/
def k17 : Class := { plain "char" none with kind := .primitive 'C', accessFlags := 0x411 }
/-- [C -/
def k18 : Class := { plain "[C" (some 0) with kind := .array 17 .char, interfaces := #[14, 2], accessFlags := 1041 }

def heap : Heap := #[{ cls := 7, slots := #[.long 0, .int 1, .null, .int 0, .null, .int 0, .int 0], vm := .statics 7 },
  { cls := 8, slots := #[.int 0, .int 8, .int 0, .int 1], vm := .statics 8 },
  { cls := 11, slots := #[.null, .null, .null], vm := .statics 11 }]
def classes : Array Class := #[k0, k1, k2, k3, k4, k5, k6, k7, k8, k9, k10, k11, k12, k13, k14, k15, k16, k17, k18]
def interned : List (Array UInt16 × Addr) := []
def slotsUsed : Nat := 14
def theMethod : MethodId := ⟨1, 2⟩
def args0 : Array Value := #[.int 65, .int 66, .int 3, .long 5]
def aboutOver (below : List Frame) : State where
  vm := { classes := classes, interned := interned.toArray }
  heap := heap
  slotsUsed := slotsUsed
  threads := #[{ frames := .invoking theMethod args0 :: below }]
def below0 : List Frame := [.native { method := ⟨0, 0⟩, args := #[] }]
def about1 : State := aboutOver below0
def p0 : Program := .bare "" "" ""
def e0 : Env := launch0.env 0 0 0
theorem w_frames : about1.frames = Frame.invoking theMethod args0 :: below0 := rfl
set_option maxRecDepth 65536 in
theorem w_args : argsFit about1.vm theMethod args0 = true := by decide +kernel
set_option maxRecDepth 65536 in
theorem w_heap : heapFits about1 = true := by decide +kernel
set_option maxRecDepth 65536 in
theorem w_runnable : about1.curStatus? = some .runnable := by decide +kernel
set_option maxRecDepth 65536 in
theorem w_alone : about1.alone = true := by decide +kernel
set_option maxRecDepth 65536 in
theorem w_named : about1.methodNamed? x = some theMethod := by decide +kernel
set_option maxRecDepth 65536 in
theorem w_hears : about1.hears theMethod below0 = true := by decide +kernel
set_option maxRecDepth 65536 in
theorem w_ripe : about1.ripe theMethod args0 below0 = true := by decide +kernel
theorem w_running : about1.status = .running := rfl
set_option maxRecDepth 65536 in
theorem w_room : about1.hasRoom e0.platform room_1 = true :=
  launch0.hasRoom_least _ room_1 (by decide +kernel) (by decide +kernel) (by decide +kernel) (by decide +kernel) (by decide +kernel) (by decide +kernel)
theorem allAtoms_all (ts : List Jvm.Cond) (a : Array Jvm.Value) (st : Jvm.State) : (allAtoms ts).before a st = ts.all (fun c => c.before a st) := by
  induction ts with
  | nil => rfl
  | cons c t ih =>
    show (Jvm.Cond.and c (allAtoms t)).before a st = _
    rw [Jvm.Cond.before_and, ih, List.all_cons]
def words1 : List Jvm.Cond := Jvm.Cond.code x code maxLocals ret :: tables_1
/-- a 'code' word, met by the world's own term for the bytes: nothing is compared byte by byte -/
theorem code_word {y : MethodName} {bytes : ByteArray} {mx : Nat} {rt : Option FieldType} {a : Array Value} {s : State} {m : MethodId} {meth : Method} {c : Code} (h1 : s.methodNamed? y = some m) (h2 : s.vm.method? m = some meth) (h3 : meth.code = some c) (h4 : c.code = bytes)
    (h5 : (c.maxLocals == mx && c.exceptionTable.isEmpty && decide (c.maxStack ≤ mostOperands) && decide (meth.sig.returnType = rt) && !meth.locks && decide (parseMethodDescriptor y.desc = some meth.sig)) = true) : (Jvm.Cond.code y bytes mx rt).before a s = true := by
  simp only [Bool.and_eq_true, beq_iff_eq, Bool.not_eq_true', decide_eq_true_eq] at h5
  obtain ⟨⟨⟨⟨⟨g1, g2⟩, g3⟩, g4⟩, g5⟩, g6⟩ := h5
  simp [Cond.before, Cond.holds, Cond.value, h1, h2, h3, h4, g1, g2, g3, g4, g5, g6]
def isCode : Jvm.Cond → Bool
  | .code _ _ _ _ => true
  | _ => false
theorem all_split {L : List Jvm.Cond} {P : Jvm.Cond → Bool} (h1 : L.all (fun c => isCode c || P c) = true) (h2 : ∀ c ∈ L.filter isCode, P c = true) : L.all P = true := by
  refine List.all_eq_true.mpr fun c hc => ?_
  have h := List.all_eq_true.mp h1 c hc
  rcases Bool.eq_false_or_eq_true (isCode c) with hi | hi
  · exact h2 c (List.mem_filter.mpr ⟨hc, hi⟩)
  · simpa [hi] using h
set_option maxRecDepth 65536 in
theorem w_c0 : (Jvm.Cond.code x code maxLocals ret).before args0 about1 = true := code_word (m := ⟨1, 2⟩) (meth := k1m2) (c := k1c2) (by decide +kernel) rfl rfl rfl (by decide +kernel)
set_option maxRecDepth 65536 in
theorem w_c1 : (Jvm.Cond.code ({ cls := "com/example/termwright/termwright/RecordTextPinLaw", name := "pick", desc := "(ICCCC)[C" } : Jvm.MethodName) method_2_code (5 : Nat) (Option.some (Jvm.ClassFile.FieldType.array Jvm.ClassFile.FieldType.char))).before args0 about1 = true := code_word (m := ⟨1, 1⟩) (meth := k1m1) (c := k1c1) (by decide +kernel) rfl rfl rfl (by decide +kernel)
set_option maxRecDepth 65536 in
theorem w_c2 : (Jvm.Cond.code ({ cls := "java/lang/String", name := "<init>", desc := "([C)V" } : Jvm.MethodName) jdk_42_method_3_code (2 : Nat) (Option.none : Option Jvm.ClassFile.FieldType)).before args0 about1 = true := code_word (m := ⟨7, 1⟩) (meth := k7m1) (c := k7c1) (by decide +kernel) rfl rfl rfl (by decide +kernel)
set_option maxRecDepth 65536 in
theorem w_c3 : (Jvm.Cond.code ({ cls := "java/lang/String", name := "<init>", desc := "([CIILjava/lang/Void;)V" } : Jvm.MethodName) jdk_42_method_149_code (6 : Nat) (Option.none : Option Jvm.ClassFile.FieldType)).before args0 about1 = true := code_word (m := ⟨7, 5⟩) (meth := k7m5) (c := k7c5) (by decide +kernel) rfl rfl rfl (by decide +kernel)
set_option maxRecDepth 65536 in
theorem w_c4 : (Jvm.Cond.code ({ cls := "java/lang/Object", name := "<init>", desc := "()V" } : Jvm.MethodName) object_method_1_code (1 : Nat) (Option.none : Option Jvm.ClassFile.FieldType)).before args0 about1 = true := code_word (m := ⟨0, 0⟩) (meth := k0m0) (c := k0c0) (by decide +kernel) rfl rfl rfl (by decide +kernel)
set_option maxRecDepth 65536 in
theorem w_c5 : (Jvm.Cond.code ({ cls := "java/lang/StringUTF16", name := "compress", desc := "([CII)[B" } : Jvm.MethodName) jdk_52_method_16_code (6 : Nat) (Option.some (Jvm.ClassFile.FieldType.array Jvm.ClassFile.FieldType.byte))).before args0 about1 = true := code_word (m := ⟨8, 8⟩) (meth := k8m8) (c := k8c8) (by decide +kernel) rfl rfl rfl (by decide +kernel)
set_option maxRecDepth 65536 in
theorem w_c6 : (Jvm.Cond.code ({ cls := "java/lang/StringUTF16", name := "compress", desc := "([CI[BII)I" } : Jvm.MethodName) jdk_52_method_21_code (7 : Nat) (Option.some Jvm.ClassFile.FieldType.int)).before args0 about1 = true := code_word (m := ⟨8, 9⟩) (meth := k8m9) (c := k8c9) (by decide +kernel) rfl rfl rfl (by decide +kernel)
set_option maxRecDepth 65536 in
theorem w_c7 : (Jvm.Cond.code ({ cls := "java/lang/StringUTF16", name := "coderFromArrayLen", desc := "([BI)B" } : Jvm.MethodName) jdk_52_method_15_code (2 : Nat) (Option.some Jvm.ClassFile.FieldType.byte)).before args0 about1 = true := code_word (m := ⟨8, 7⟩) (meth := k8m7) (c := k8c7) (by decide +kernel) rfl rfl rfl (by decide +kernel)
set_option maxRecDepth 65536 in
theorem w_c8 : (Jvm.Cond.code ({ cls := "com/example/termwright/termwright/Spool$Record", name := "<init>", desc := "()V" } : Jvm.MethodName) prog_34_method_1_code (1 : Nat) (Option.none : Option Jvm.ClassFile.FieldType)).before args0 about1 = true := code_word (m := ⟨9, 0⟩) (meth := k9m0) (c := k9c0) (by decide +kernel) rfl rfl rfl (by decide +kernel)
set_option maxRecDepth 65536 in
theorem w_c9 : (Jvm.Cond.code ({ cls := "com/example/termwright/termwright/Spool$Record", name := "putText", desc := "(Ljava/lang/String;)Lcom/example/termwright/termwright/Spool$Record;" } : Jvm.MethodName) prog_34_method_4_code (5 : Nat) (Option.some (Jvm.ClassFile.FieldType.object "com/example/termwright/termwright/Spool$Record"))).before args0 about1 = true := code_word (m := ⟨9, 2⟩) (meth := k9m2) (c := k9c2) (by decide +kernel) rfl rfl rfl (by decide +kernel)
set_option maxRecDepth 65536 in
theorem w_c10 : (Jvm.Cond.code ({ cls := "java/lang/String", name := "length", desc := "()I" } : Jvm.MethodName) jdk_42_method_54_code (1 : Nat) (Option.some Jvm.ClassFile.FieldType.int)).before args0 about1 = true := code_word (m := ⟨7, 2⟩) (meth := k7m2) (c := k7c2) (by decide +kernel) rfl rfl rfl (by decide +kernel)
set_option maxRecDepth 65536 in
theorem w_c11 : (Jvm.Cond.code ({ cls := "java/lang/String", name := "coder", desc := "()B" } : Jvm.MethodName) jdk_42_method_152_code (1 : Nat) (Option.some Jvm.ClassFile.FieldType.byte)).before args0 about1 = true := code_word (m := ⟨7, 6⟩) (meth := k7m6) (c := k7c6) (by decide +kernel) rfl rfl rfl (by decide +kernel)
set_option maxRecDepth 65536 in
theorem w_c12 : (Jvm.Cond.code ({ cls := "com/example/termwright/termwright/Spool$Record", name := "putNumber", desc := "(J)Lcom/example/termwright/termwright/Spool$Record;" } : Jvm.MethodName) prog_34_method_3_code (5 : Nat) (Option.some (Jvm.ClassFile.FieldType.object "com/example/termwright/termwright/Spool$Record"))).before args0 about1 = true := code_word (m := ⟨9, 1⟩) (meth := k9m1) (c := k9c1) (by decide +kernel) rfl rfl rfl (by decide +kernel)
set_option maxRecDepth 65536 in
theorem w_c13 : (Jvm.Cond.code ({ cls := "com/example/termwright/termwright/Spool$Record", name := "room", desc := "(J)V" } : Jvm.MethodName) prog_34_method_7_code (5 : Nat) (Option.none : Option Jvm.ClassFile.FieldType)).before args0 about1 = true := code_word (m := ⟨9, 5⟩) (meth := k9m5) (c := k9c5) (by decide +kernel) rfl rfl rfl (by decide +kernel)
set_option maxRecDepth 65536 in
theorem w_c14 : (Jvm.Cond.code ({ cls := "java/lang/String", name := "charAt", desc := "(I)C" } : Jvm.MethodName) jdk_42_method_56_code (2 : Nat) (Option.some Jvm.ClassFile.FieldType.char)).before args0 about1 = true := code_word (m := ⟨7, 3⟩) (meth := k7m3) (c := k7c3) (by decide +kernel) rfl rfl rfl (by decide +kernel)
set_option maxRecDepth 65536 in
theorem w_c15 : (Jvm.Cond.code ({ cls := "java/lang/String", name := "isLatin1", desc := "()Z" } : Jvm.MethodName) jdk_42_method_154_code (1 : Nat) (Option.some Jvm.ClassFile.FieldType.boolean)).before args0 about1 = true := code_word (m := ⟨7, 7⟩) (meth := k7m7) (c := k7c7) (by decide +kernel) rfl rfl rfl (by decide +kernel)
set_option maxRecDepth 65536 in
theorem w_c16 : (Jvm.Cond.code ({ cls := "java/lang/StringLatin1", name := "charAt", desc := "([BI)C" } : Jvm.MethodName) jdk_43_method_2_code (2 : Nat) (Option.some Jvm.ClassFile.FieldType.char)).before args0 about1 = true := code_word (m := ⟨10, 1⟩) (meth := k10m1) (c := k10c1) (by decide +kernel) rfl rfl rfl (by decide +kernel)
set_option maxRecDepth 65536 in
theorem w_c17 : (Jvm.Cond.code ({ cls := "java/lang/String", name := "checkIndex", desc := "(II)V" } : Jvm.MethodName) jdk_42_method_155_code (2 : Nat) (Option.none : Option Jvm.ClassFile.FieldType)).before args0 about1 = true := code_word (m := ⟨7, 8⟩) (meth := k7m8) (c := k7c8) (by decide +kernel) rfl rfl rfl (by decide +kernel)
set_option maxRecDepth 65536 in
theorem w_c18 : (Jvm.Cond.code ({ cls := "jdk/internal/util/Preconditions", name := "checkIndex", desc := "(IILjava/util/function/BiFunction;)I" } : Jvm.MethodName) jdk_41_method_11_code (3 : Nat) (Option.some Jvm.ClassFile.FieldType.int)).before args0 about1 = true := code_word (m := ⟨11, 1⟩) (meth := k11m1) (c := k11c1) (by decide +kernel) rfl rfl rfl (by decide +kernel)
set_option maxRecDepth 65536 in
theorem w_c19 : (Jvm.Cond.code ({ cls := "com/example/termwright/termwright/Spool$Record", name := "text", desc := "()Ljava/lang/String;" } : Jvm.MethodName) prog_34_method_6_code (4 : Nat) (Option.some (Jvm.ClassFile.FieldType.object "java/lang/String"))).before args0 about1 = true := code_word (m := ⟨9, 4⟩) (meth := k9m4) (c := k9c4) (by decide +kernel) rfl rfl rfl (by decide +kernel)
set_option maxRecDepth 65536 in
theorem w_c20 : (Jvm.Cond.code ({ cls := "com/example/termwright/termwright/Spool$Record", name := "number", desc := "()J" } : Jvm.MethodName) prog_34_method_5_code (5 : Nat) (Option.some Jvm.ClassFile.FieldType.long)).before args0 about1 = true := code_word (m := ⟨9, 3⟩) (meth := k9m3) (c := k9c3) (by decide +kernel) rfl rfl rfl (by decide +kernel)
set_option maxRecDepth 65536 in
theorem w_c21 : (Jvm.Cond.code ({ cls := "java/lang/Math", name := "toIntExact", desc := "(J)I" } : Jvm.MethodName) jdk_29_method_43_code (2 : Nat) (Option.some Jvm.ClassFile.FieldType.int)).before args0 about1 = true := code_word (m := ⟨12, 1⟩) (meth := k12m1) (c := k12c1) (by decide +kernel) rfl rfl rfl (by decide +kernel)
set_option maxRecDepth 65536 in
theorem w_c22 : (Jvm.Cond.code ({ cls := "java/lang/String", name := "equals", desc := "(Ljava/lang/Object;)Z" } : Jvm.MethodName) jdk_42_method_66_code (3 : Nat) (Option.some Jvm.ClassFile.FieldType.boolean)).before args0 about1 = true := code_word (m := ⟨7, 4⟩) (meth := k7m4) (c := k7c4) (by decide +kernel) rfl rfl rfl (by decide +kernel)
set_option maxRecDepth 65536 in
theorem w_c23 : (Jvm.Cond.code ({ cls := "java/lang/StringLatin1", name := "equals", desc := "([B[B)Z" } : Jvm.MethodName) jdk_43_method_13_code (3 : Nat) (Option.some Jvm.ClassFile.FieldType.boolean)).before args0 about1 = true := code_word (m := ⟨10, 2⟩) (meth := k10m2) (c := k10c2) (by decide +kernel) rfl rfl rfl (by decide +kernel)
set_option maxRecDepth 65536 in
theorem w_c24 : (Jvm.Cond.code ({ cls := "java/lang/StringUTF16", name := "toBytes", desc := "([CII)[B" } : Jvm.MethodName) jdk_52_method_14_code (5 : Nat) (Option.some (Jvm.ClassFile.FieldType.array Jvm.ClassFile.FieldType.byte))).before args0 about1 = true := code_word (m := ⟨8, 6⟩) (meth := k8m6) (c := k8c6) (by decide +kernel) rfl rfl rfl (by decide +kernel)
set_option maxRecDepth 65536 in
theorem w_c25 : (Jvm.Cond.code ({ cls := "java/lang/StringUTF16", name := "newBytesFor", desc := "(I)[B" } : Jvm.MethodName) jdk_52_method_2_code (1 : Nat) (Option.some (Jvm.ClassFile.FieldType.array Jvm.ClassFile.FieldType.byte))).before args0 about1 = true := code_word (m := ⟨8, 1⟩) (meth := k8m1) (c := k8c1) (by decide +kernel) rfl rfl rfl (by decide +kernel)
set_option maxRecDepth 65536 in
theorem w_c26 : (Jvm.Cond.code ({ cls := "java/lang/StringUTF16", name := "newBytesLength", desc := "(I)I" } : Jvm.MethodName) jdk_52_method_3_code (1 : Nat) (Option.some Jvm.ClassFile.FieldType.int)).before args0 about1 = true := code_word (m := ⟨8, 2⟩) (meth := k8m2) (c := k8c2) (by decide +kernel) rfl rfl rfl (by decide +kernel)
set_option maxRecDepth 65536 in
theorem w_c27 : (Jvm.Cond.code ({ cls := "java/lang/StringUTF16", name := "putChar", desc := "([BII)V" } : Jvm.MethodName) jdk_52_method_4_code (3 : Nat) (Option.none : Option Jvm.ClassFile.FieldType)).before args0 about1 = true := code_word (m := ⟨8, 3⟩) (meth := k8m3) (c := k8c3) (by decide +kernel) rfl rfl rfl (by decide +kernel)
set_option maxRecDepth 65536 in
theorem w_c28 : (Jvm.Cond.code ({ cls := "java/lang/StringUTF16", name := "getChar", desc := "([BI)C" } : Jvm.MethodName) jdk_52_method_5_code (2 : Nat) (Option.some Jvm.ClassFile.FieldType.char)).before args0 about1 = true := code_word (m := ⟨8, 4⟩) (meth := k8m4) (c := k8c4) (by decide +kernel) rfl rfl rfl (by decide +kernel)
set_option maxRecDepth 65536 in
theorem w_c29 : (Jvm.Cond.code ({ cls := "java/lang/StringUTF16", name := "charAt", desc := "([BI)C" } : Jvm.MethodName) jdk_52_method_83_code (2 : Nat) (Option.some Jvm.ClassFile.FieldType.char)).before args0 about1 = true := code_word (m := ⟨8, 10⟩) (meth := k8m10) (c := k8c10) (by decide +kernel) rfl rfl rfl (by decide +kernel)
set_option maxRecDepth 65536 in
theorem w_c30 : (Jvm.Cond.code ({ cls := "java/lang/StringUTF16", name := "checkIndex", desc := "(I[B)V" } : Jvm.MethodName) jdk_52_method_91_code (2 : Nat) (Option.none : Option Jvm.ClassFile.FieldType)).before args0 about1 = true := code_word (m := ⟨8, 11⟩) (meth := k8m11) (c := k8c11) (by decide +kernel) rfl rfl rfl (by decide +kernel)
set_option maxRecDepth 65536 in
theorem w_c31 : (Jvm.Cond.code ({ cls := "java/lang/StringUTF16", name := "length", desc := "([B)I" } : Jvm.MethodName) jdk_52_method_6_code (1 : Nat) (Option.some Jvm.ClassFile.FieldType.int)).before args0 about1 = true := code_word (m := ⟨8, 5⟩) (meth := k8m5) (c := k8c5) (by decide +kernel) rfl rfl rfl (by decide +kernel)
def codes1 : List Jvm.Cond := [Jvm.Cond.code x code maxLocals ret, Jvm.Cond.code ({ cls := "com/example/termwright/termwright/RecordTextPinLaw", name := "pick", desc := "(ICCCC)[C" } : Jvm.MethodName) method_2_code (5 : Nat) (Option.some (Jvm.ClassFile.FieldType.array Jvm.ClassFile.FieldType.char)), Jvm.Cond.code ({ cls := "java/lang/String", name := "<init>", desc := "([C)V" } : Jvm.MethodName) jdk_42_method_3_code (2 : Nat) (Option.none : Option Jvm.ClassFile.FieldType), Jvm.Cond.code ({ cls := "java/lang/String", name := "<init>", desc := "([CIILjava/lang/Void;)V" } : Jvm.MethodName) jdk_42_method_149_code (6 : Nat) (Option.none : Option Jvm.ClassFile.FieldType), Jvm.Cond.code ({ cls := "java/lang/Object", name := "<init>", desc := "()V" } : Jvm.MethodName) object_method_1_code (1 : Nat) (Option.none : Option Jvm.ClassFile.FieldType), Jvm.Cond.code ({ cls := "java/lang/StringUTF16", name := "compress", desc := "([CII)[B" } : Jvm.MethodName) jdk_52_method_16_code (6 : Nat) (Option.some (Jvm.ClassFile.FieldType.array Jvm.ClassFile.FieldType.byte)), Jvm.Cond.code ({ cls := "java/lang/StringUTF16", name := "compress", desc := "([CI[BII)I" } : Jvm.MethodName) jdk_52_method_21_code (7 : Nat) (Option.some Jvm.ClassFile.FieldType.int), Jvm.Cond.code ({ cls := "java/lang/StringUTF16", name := "coderFromArrayLen", desc := "([BI)B" } : Jvm.MethodName) jdk_52_method_15_code (2 : Nat) (Option.some Jvm.ClassFile.FieldType.byte), Jvm.Cond.code ({ cls := "com/example/termwright/termwright/Spool$Record", name := "<init>", desc := "()V" } : Jvm.MethodName) prog_34_method_1_code (1 : Nat) (Option.none : Option Jvm.ClassFile.FieldType), Jvm.Cond.code ({ cls := "com/example/termwright/termwright/Spool$Record", name := "putText", desc := "(Ljava/lang/String;)Lcom/example/termwright/termwright/Spool$Record;" } : Jvm.MethodName) prog_34_method_4_code (5 : Nat) (Option.some (Jvm.ClassFile.FieldType.object "com/example/termwright/termwright/Spool$Record")), Jvm.Cond.code ({ cls := "java/lang/String", name := "length", desc := "()I" } : Jvm.MethodName) jdk_42_method_54_code (1 : Nat) (Option.some Jvm.ClassFile.FieldType.int), Jvm.Cond.code ({ cls := "java/lang/String", name := "coder", desc := "()B" } : Jvm.MethodName) jdk_42_method_152_code (1 : Nat) (Option.some Jvm.ClassFile.FieldType.byte), Jvm.Cond.code ({ cls := "com/example/termwright/termwright/Spool$Record", name := "putNumber", desc := "(J)Lcom/example/termwright/termwright/Spool$Record;" } : Jvm.MethodName) prog_34_method_3_code (5 : Nat) (Option.some (Jvm.ClassFile.FieldType.object "com/example/termwright/termwright/Spool$Record")), Jvm.Cond.code ({ cls := "com/example/termwright/termwright/Spool$Record", name := "room", desc := "(J)V" } : Jvm.MethodName) prog_34_method_7_code (5 : Nat) (Option.none : Option Jvm.ClassFile.FieldType), Jvm.Cond.code ({ cls := "java/lang/String", name := "charAt", desc := "(I)C" } : Jvm.MethodName) jdk_42_method_56_code (2 : Nat) (Option.some Jvm.ClassFile.FieldType.char), Jvm.Cond.code ({ cls := "java/lang/String", name := "isLatin1", desc := "()Z" } : Jvm.MethodName) jdk_42_method_154_code (1 : Nat) (Option.some Jvm.ClassFile.FieldType.boolean), Jvm.Cond.code ({ cls := "java/lang/StringLatin1", name := "charAt", desc := "([BI)C" } : Jvm.MethodName) jdk_43_method_2_code (2 : Nat) (Option.some Jvm.ClassFile.FieldType.char), Jvm.Cond.code ({ cls := "java/lang/String", name := "checkIndex", desc := "(II)V" } : Jvm.MethodName) jdk_42_method_155_code (2 : Nat) (Option.none : Option Jvm.ClassFile.FieldType), Jvm.Cond.code ({ cls := "jdk/internal/util/Preconditions", name := "checkIndex", desc := "(IILjava/util/function/BiFunction;)I" } : Jvm.MethodName) jdk_41_method_11_code (3 : Nat) (Option.some Jvm.ClassFile.FieldType.int), Jvm.Cond.code ({ cls := "com/example/termwright/termwright/Spool$Record", name := "text", desc := "()Ljava/lang/String;" } : Jvm.MethodName) prog_34_method_6_code (4 : Nat) (Option.some (Jvm.ClassFile.FieldType.object "java/lang/String")), Jvm.Cond.code ({ cls := "com/example/termwright/termwright/Spool$Record", name := "number", desc := "()J" } : Jvm.MethodName) prog_34_method_5_code (5 : Nat) (Option.some Jvm.ClassFile.FieldType.long), Jvm.Cond.code ({ cls := "java/lang/Math", name := "toIntExact", desc := "(J)I" } : Jvm.MethodName) jdk_29_method_43_code (2 : Nat) (Option.some Jvm.ClassFile.FieldType.int), Jvm.Cond.code ({ cls := "java/lang/String", name := "equals", desc := "(Ljava/lang/Object;)Z" } : Jvm.MethodName) jdk_42_method_66_code (3 : Nat) (Option.some Jvm.ClassFile.FieldType.boolean), Jvm.Cond.code ({ cls := "java/lang/StringLatin1", name := "equals", desc := "([B[B)Z" } : Jvm.MethodName) jdk_43_method_13_code (3 : Nat) (Option.some Jvm.ClassFile.FieldType.boolean), Jvm.Cond.code ({ cls := "java/lang/StringUTF16", name := "toBytes", desc := "([CII)[B" } : Jvm.MethodName) jdk_52_method_14_code (5 : Nat) (Option.some (Jvm.ClassFile.FieldType.array Jvm.ClassFile.FieldType.byte)), Jvm.Cond.code ({ cls := "java/lang/StringUTF16", name := "newBytesFor", desc := "(I)[B" } : Jvm.MethodName) jdk_52_method_2_code (1 : Nat) (Option.some (Jvm.ClassFile.FieldType.array Jvm.ClassFile.FieldType.byte)), Jvm.Cond.code ({ cls := "java/lang/StringUTF16", name := "newBytesLength", desc := "(I)I" } : Jvm.MethodName) jdk_52_method_3_code (1 : Nat) (Option.some Jvm.ClassFile.FieldType.int), Jvm.Cond.code ({ cls := "java/lang/StringUTF16", name := "putChar", desc := "([BII)V" } : Jvm.MethodName) jdk_52_method_4_code (3 : Nat) (Option.none : Option Jvm.ClassFile.FieldType), Jvm.Cond.code ({ cls := "java/lang/StringUTF16", name := "getChar", desc := "([BI)C" } : Jvm.MethodName) jdk_52_method_5_code (2 : Nat) (Option.some Jvm.ClassFile.FieldType.char), Jvm.Cond.code ({ cls := "java/lang/StringUTF16", name := "charAt", desc := "([BI)C" } : Jvm.MethodName) jdk_52_method_83_code (2 : Nat) (Option.some Jvm.ClassFile.FieldType.char), Jvm.Cond.code ({ cls := "java/lang/StringUTF16", name := "checkIndex", desc := "(I[B)V" } : Jvm.MethodName) jdk_52_method_91_code (2 : Nat) (Option.none : Option Jvm.ClassFile.FieldType), Jvm.Cond.code ({ cls := "java/lang/StringUTF16", name := "length", desc := "([B)I" } : Jvm.MethodName) jdk_52_method_6_code (1 : Nat) (Option.some Jvm.ClassFile.FieldType.int)]
set_option maxRecDepth 65536 in
theorem codes_eq : words1.filter isCode = codes1 := rfl
theorem w_codes : ∀ c ∈ words1.filter isCode, c.before args0 about1 = true := by
  rw [codes_eq]
  intro c hc
  simp only [codes1, List.mem_cons, List.not_mem_nil, or_false] at hc
  rcases hc with rfl | rfl | rfl | rfl | rfl | rfl | rfl | rfl | rfl | rfl | rfl | rfl | rfl | rfl | rfl | rfl | rfl | rfl | rfl | rfl | rfl | rfl | rfl | rfl | rfl | rfl | rfl | rfl | rfl | rfl | rfl | rfl
  · exact w_c0
  · exact w_c1
  · exact w_c2
  · exact w_c3
  · exact w_c4
  · exact w_c5
  · exact w_c6
  · exact w_c7
  · exact w_c8
  · exact w_c9
  · exact w_c10
  · exact w_c11
  · exact w_c12
  · exact w_c13
  · exact w_c14
  · exact w_c15
  · exact w_c16
  · exact w_c17
  · exact w_c18
  · exact w_c19
  · exact w_c20
  · exact w_c21
  · exact w_c22
  · exact w_c23
  · exact w_c24
  · exact w_c25
  · exact w_c26
  · exact w_c27
  · exact w_c28
  · exact w_c29
  · exact w_c30
  · exact w_c31
set_option maxRecDepth 65536 in
theorem w_t1 : (words1.take 24).all (fun c => isCode c || c.before args0 about1) = true := by decide +kernel
set_option maxRecDepth 65536 in
theorem w_t2 : ((words1.drop 24).take 24).all (fun c => isCode c || c.before args0 about1) = true := by decide +kernel
set_option maxRecDepth 65536 in
theorem w_t3 : (((words1.drop 24).drop 24).take 24).all (fun c => isCode c || c.before args0 about1) = true := by decide +kernel
set_option maxRecDepth 65536 in
theorem w_t4 : ((((words1.drop 24).drop 24).drop 24).take 24).all (fun c => isCode c || c.before args0 about1) = true := by decide +kernel
set_option maxRecDepth 65536 in
theorem w_t5 : (((((words1.drop 24).drop 24).drop 24).drop 24).take 24).all (fun c => isCode c || c.before args0 about1) = true := by decide +kernel
set_option maxRecDepth 65536 in
theorem w_t6 : ((((((words1.drop 24).drop 24).drop 24).drop 24).drop 24).take 24).all (fun c => isCode c || c.before args0 about1) = true := by decide +kernel
set_option maxRecDepth 65536 in
theorem w_t7 : ((((((words1.drop 24).drop 24).drop 24).drop 24).drop 24).drop 24).all (fun c => isCode c || c.before args0 about1) = true := by decide +kernel
theorem w_tables : (allAtoms (Jvm.Cond.code x code maxLocals ret :: tables_1)).before args0 about1 = true := by
  rw [allAtoms_all]
  show words1.all (fun c => c.before args0 about1) = true
  refine all_split ?_ w_codes
  rw [← List.take_append_drop 24 words1, List.all_append, w_t1, ← List.take_append_drop 24 (words1.drop 24), List.all_append, w_t2, ← List.take_append_drop 24 ((words1.drop 24).drop 24), List.all_append, w_t3, ← List.take_append_drop 24 (((words1.drop 24).drop 24).drop 24), List.all_append, w_t4, ← List.take_append_drop 24 ((((words1.drop 24).drop 24).drop 24).drop 24), List.all_append, w_t5, ← List.take_append_drop 24 (((((words1.drop 24).drop 24).drop 24).drop 24).drop 24), List.all_append, w_t6, w_t7]
  rfl
set_option maxRecDepth 65536 in
theorem w_rest : rest_1_c.before args0 about1 = true := by decide +kernel
set_option maxRecDepth 65536 in
theorem w_case : (Jvm.Cond.and given_1 narrow_1).before args0 about1 = true := by decide +kernel
set_option maxRecDepth 65536 in
theorem w_consts : constsHeld consts_1 about1 := Jvm.Lit.constsHeldB_iff.mp (by decide +kernel)
theorem w_applies : (headSpec (Jvm.Cond.code x code maxLocals ret :: tables_1) room_1).applies x e0.platform about1 = true :=
  (Spec.applies_iff w_frames).mpr ⟨w_running, w_runnable, w_alone, w_named, w_hears, w_ripe, w_room, w_tables⟩
theorem atStart : AtStart classFile x code maxLocals ret World_1 tables_1 room_1 Calls_1 rest_1 Pre_1 launch0 p0 e0 about1 theMethod args0 below0 :=
  ⟨lists_1, trivial, launch0.admits_env _ _ _, launch0.least_env, fairChoices_fair.cas, fairChoices_fair.clock, w_frames, w_args, w_heap, w_applies, ⟨w_consts, trivial⟩, w_rest, w_case⟩
end start1
theorem witness_1 : WitnessClaimed_1 := ⟨start1.p0, start1.e0, start1.about1, start1.theMethod, start1.args0, start1.below0, start1.atStart⟩
end Jvm.Pilot.@@N@@
